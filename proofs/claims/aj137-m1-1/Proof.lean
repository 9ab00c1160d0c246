import JvmDerived
import JvmDerived.Pilot.@@N@@Statement
import JvmDerived.Pilot.@@N@@Code
set_option linter.unusedVariables false
set_option linter.unusedSimpArgs false
@@BLOCK:NumsL.lean.txt@@
namespace Jvm.RoadKit
open Sem ClassFile Op Lib Jvm.Stand Jvm.Free Jvm.LawKit
section New
variable {p : Program} {l : Launch} {e : Env} {R : Room} {s : State} {m : MethodId} {args : Array Value} {below : List Frame} {meth : Method} {c : Code} {T : State} {locs : List Loc} {cells slots : Nat}
theorem retI (X : Stand p l e R s m args below meth c T locs cells slots) (hx : p.tables.exec = Jvm.exec) {pc : Nat} {Ls : Array Slot} {z : Int32} {rest : List Value} (hret : meth.sig.returnType = some .int) (hd : decode c.code pc = .ok (.ireturn, 1)) {fs : List Frame}
    (hl : ∀ (f : JFrame) (acts : List Action), f.method = m → f.locked = none → f.entered = [] → (doReturn e (T.setTop f) acts (some (.int z))).1 = T.setFrames fs) : Steps p.tables e below (T.setTop (mkF m pc Ls (.int z :: rest))) (T.setFrames fs) := by
  have hm' : T.vm.method? m = some meth := X.method'
  have hn : narrow .int (.int z) = .int z := rfl
  show Steps p.tables e below (T.setTop { method := m, pc := pc, locals := Ls, stack := _ :: rest, locked := none }) _
  jvm_step X.here [X.here.top, hx, hd, hm', hret, hn]
  first | (intro acts; rw [hl _ acts rfl rfl rfl]) | rw [hl _ _ rfl rfl rfl]
  exact Steps.refl _
end New
end Jvm.RoadKit
namespace Jvm.Pilot.@@N@@
open Jvm Jvm.ClassFile Sem Op Lib Jvm.Free Jvm.Stand Jvm.LawKit Jvm.RoadKit Bundle Jvm.Pilot.@@N@@.Jvm.D
theorem own_ext {h h' h'' : Heap} (A : Ext h h') (B : Ext h' h'') : Ext h h'' := ⟨Nat.le_trans A.1 B.1, fun a c q => B.2 a c (A.2 a c q)⟩
theorem own_fld {args : Array Value} {s : State} {t : Term} {C n d : String} {w : Addr} {k : Int32} (h : (Jvm.Cond.eq (.field t C n d) (.int k)).value args s none s [] = some true) (ev : t.eval args s none [] s = some (.ref w)) : Fld s s.heap w C n d (.int k) := by
  apply Fld.start
  have e := fld_at (C := C) (n := n) (dd := d) ev
  obtain ⟨x, y, e1, e2, k1, k2⟩ := cmp_v (Or.inl h)
  cases (show y = .int k from (Option.some.inj (e2.symm.trans rfl)))
  obtain ⟨z, rfl⟩ := k2
  have q := gotT (Cond.eq_ints e1 e2) h
  rw [← e, e1, q]
theorem own_fldR {args : Array Value} {s : State} {t u : Term} {C n d : String} {w b : Addr} (h : (Jvm.Cond.eq (.field t C n d) u).value args s none s [] = some true) (ev : t.eval args s none [] s = some (.ref w)) (eu : u.eval args s none [] s = some (.ref b)) : Fld s s.heap w C n d (.ref b) := by
  apply Fld.start
  have e := fld_at (C := C) (n := n) (dd := d) ev
  obtain ⟨x, y, e1, e2, k1, k2⟩ := cmp_v (Or.inl h)
  cases e2.symm.trans eu
  have q := gotT (eq_R e1 eu k2.2 rfl) h
  rw [← e, e1, q]
theorem own_ne {Z : State} {h : Heap} {a b : Addr} {C n d : String} {i j : Int32} (F : Fld Z h a C n d (.int i)) (G : Fld Z h b C n d (.int j)) (hn : ¬ (i = j)) : ¬ (a = b) := fun e => by
  subst e
  obtain ⟨c1, f1, k1, i1, g1, p1, p2, -, -, -, -, p7⟩ := F
  obtain ⟨c2, f2, k2, i2, g2, q1, q2, -, -, -, -, q7⟩ := G
  cases p1.symm.trans q1
  cases p2.symm.trans q2
  exact hn (Value.int.inj (Option.some.inj (p7.symm.trans q7)))
theorem own_n0 {Z : State} {n0 : Nat} {h : Heap} (O : Old Z n0 h) : n0 ≤ h.size := O.1 ▸ O.2.1
theorem own_inj {x y : Int32} (h : x.toInt = y.toInt) : x = y := Int32.toInt_inj.mp h
theorem own_rem (x : Int32) : ((x &&& (2147483647 : Int32)) % (3 : Int32)) = (0 : Int32) ∨ ((x &&& (2147483647 : Int32)) % (3 : Int32)) = (1 : Int32) ∨ ((x &&& (2147483647 : Int32)) % (3 : Int32)) = (2 : Int32) := by
  have e := Jvm.Kit.i32_mask x (2147483647 : Int32) (k := 31) (by decide) (by decide)
  have e2 := Jvm.Kit.i32_rem_nonneg (x := x &&& (2147483647 : Int32)) (y := (3 : Int32)) (by omega)
  have e3 : (3 : Int32).toInt = 3 := by decide
  rw [e3] at e2
  have h : ((x &&& (2147483647 : Int32)) % (3 : Int32)).toInt = 0 ∨ ((x &&& (2147483647 : Int32)) % (3 : Int32)).toInt = 1 ∨ ((x &&& (2147483647 : Int32)) % (3 : Int32)).toInt = 2 := by omega
  rcases h with h | h | h
  · exact Or.inl (own_inj (h.trans (by decide)))
  · exact Or.inr (Or.inl (own_inj (h.trans (by decide))))
  · exact Or.inr (Or.inr (own_inj (h.trans (by decide))))
theorem own_mask (x : Int32) : (x &&& (1 : Int32)) = (0 : Int32) ∨ (x &&& (1 : Int32)) = (1 : Int32) := by
  have e := Jvm.Kit.i32_mask x (1 : Int32) (k := 1) (by decide) (by decide)
  have h : (x &&& (1 : Int32)).toInt = 0 ∨ (x &&& (1 : Int32)).toInt = 1 := by omega
  rcases h with h | h
  · exact Or.inl (own_inj (h.trans (by decide)))
  · exact Or.inr (own_inj (h.trans (by decide)))
theorem own_bit (x : Int32) : (x &&& (1 : Int32)) = (0 : Int32) ∨ (x &&& (1 : Int32)) = (1 : Int32) := own_mask x
def Ars (Z : State) (h : Heap) (a : Addr) (k : ClassId) (ty : FieldType) (n : Nat) (f : Nat → Value) : Prop := ∃ c : Cell, Arr Z h a c ty ∧ c.cls = k ∧ c.slots.size = n ∧ n < 2 ^ 31 ∧ ∀ i, i < n → c.slots[i]? = some (f i)
def own_upd {α : Type} (f : Nat → α) (j : Nat) (v : α) : Nat → α := fun i => if i = j then v else f i
theorem own_upd_hit {α : Type} (f : Nat → α) (j : Nat) (v : α) : own_upd f j v j = v := if_pos rfl
theorem own_upd_miss {α : Type} (f : Nat → α) {i j : Nat} (v : α) (h : i ≠ j) : own_upd f j v i = f i := if_neg h
theorem own_at {c : Cell} {n : Nat} {f : Nat → Value} {j : Int32} {v : Value} (H : ∀ i, i < n → c.slots[i]? = some (f i)) (q : ¬ (j < 0 ∨ n ≤ j.toNatClampNeg)) (u : f j.toNatClampNeg = v) : c.slots[j.toNatClampNeg]? = some v := u ▸ H _ (Nat.lt_of_not_le fun y => q (Or.inr y))
section ArsFacts
variable {Z : State} {h h' : Heap} {a b : Addr} {k : ClassId} {ty : FieldType} {n : Nat} {f : Nat → Value}
theorem Ars.lt (F : Ars Z h a k ty n f) : a < h.size := by obtain ⟨c, A, -⟩ := F; exact A.lt
theorem Ars.ext (F : Ars Z h a k ty n f) (E : Ext h h') : Ars Z h' a k ty n f := by obtain ⟨c, A, r⟩ := F; exact ⟨c, A.ext E, r⟩
theorem Ars.other (F : Ars Z h a k ty n f) {sl : Nat} {v : Value} (W : Wr h h' b sl v) (q : a ≠ b) : Ars Z h' a k ty n f := by obtain ⟨c, A, r⟩ := F; exact ⟨c, A.other W q, r⟩
theorem Ars.keep (F : Ars Z h a k ty n f) {ws : List Addr} (K : Keep h h' ws) (q : a ∉ ws) : Ars Z h' a k ty n f := by obtain ⟨c, A, r⟩ := F; exact ⟨c, ⟨K.2.1 a c A.1 q, A.2⟩, r⟩
theorem Ars.set {c : Cell} (A : Arr Z h a c ty) (q1 : c.cls = k) (S : c.slots.size = n) (hn : n < 2 ^ 31) (H : ∀ i, i < n → c.slots[i]? = some (f i)) {j : Nat} {v : Value} (W : Wr h h' a j v) : Ars Z h' a k ty n (own_upd f j v) := by
  refine ⟨_, A.same W, q1, by rw [sz_set]; exact S, hn, fun i hi => ?_⟩
  by_cases e : j = i
  · subst e
    rw [own_upd_hit, Cell.slots_setSlot_self v (by rw [S]; exact hi)]
  · rw [own_upd_miss f v (Ne.symm e), Cell.slots_setSlot_ne v e]; exact H i hi
theorem Ars.congr {g : Nat → Value} (F : Ars Z h a k ty n f) (q : ∀ i, i < n → f i = g i) : Ars Z h a k ty n g := by obtain ⟨c, A, r1, r2, r3, r4⟩ := F; exact ⟨c, A, r1, r2, r3, fun i hi => by rw [← q i hi]; exact r4 i hi⟩
theorem Ars.of_arv {z : Int32} {vs : List Value} {dv : Value} (F : Arv Z h a k ty z vs dv) : Ars Z h a k ty z.toNatClampNeg (fun i => vs.getD i dv) := by
  obtain ⟨c, A, r1, r2, r3, r4, r5⟩ := F
  exact ⟨c, A, r1, r2, (back32 r3).2, fun i hi => r4 i (by rw [r2]; exact hi)⟩
/-- all that lies below lo is as it was -/
def Pres (lo : Nat) (h h' : Heap) : Prop := h.size ≤ h'.size ∧ ∀ (x : Addr) (c : Cell), x < lo → h[x]? = some c → h'[x]? = some c
theorem Pres.refl (lo : Nat) (h : Heap) : Pres lo h h := ⟨Nat.le_refl _, fun _ _ _ q => q⟩
theorem Pres.trans {lo : Nat} {h1 h2 h3 : Heap} (A : Pres lo h1 h2) (B : Pres lo h2 h3) : Pres lo h1 h3 := ⟨Nat.le_trans A.1 B.1, fun x c q r => B.2 x c q (A.2 x c q r)⟩
theorem Pres.of_keep {lo : Nat} {ws : List Addr} (K : Keep h h' ws) (q : ∀ x ∈ ws, lo ≤ x) : Pres lo h h' := ⟨K.1, fun x c r s => K.2.1 x c s fun m => absurd r (Nat.not_lt.mpr (q x m))⟩
theorem Pres.of_ext {lo : Nat} (E : Ext h h') : Pres lo h h' := ⟨E.1, fun x c _ q => E.2 x c q⟩
theorem Pres.old {lo n0 : Nat} (P : Pres lo h h') (q : n0 ≤ lo) (O : Old Z n0 h) : Old Z n0 h' := ⟨O.1, Nat.le_trans O.2.1 P.1, fun x c r => P.2 x c (Nat.lt_of_lt_of_le (O.1 ▸ (Array.getElem?_eq_some_iff.mp r).1) q) (O.2.2 x c r)⟩
theorem Ars.pres {lo : Nat} (F : Ars Z h a k ty n f) (P : Pres lo h h') (q : a < lo) : Ars Z h' a k ty n f := by obtain ⟨c, A, r⟩ := F; exact ⟨c, ⟨P.2 a c q A.1, A.2⟩, r⟩
theorem own_exa_pres {lo : Nat} {C : String} (F : Exa Z h a C) (P : Pres lo h h') (q : a < lo) : Exa Z h' a C := by obtain ⟨c, k, h1, r⟩ := F; exact ⟨c, k, P.2 a c q h1, r⟩
end ArsFacts
def QV (r : Option Value) (h0 : Heap) (n0 : Nat) (v : Option Value) (h : Heap) (L : List Loc) : Prop := v = r ∧ Fr n0 L ∧ h = h0
theorem d2_0 : decode prog_59_method_1_code 0 = .ok (.aload_n 0, 1) := by decide +kernel
theorem d2_1 : decode prog_59_method_1_code 1 = .ok (.invokespecial 3, 3) := by decide +kernel
theorem d2_4 : decode prog_59_method_1_code 4 = .ok (.aload_n 1, 1) := by decide +kernel
theorem d2_5 : decode prog_59_method_1_code 5 = .ok (.arraylength, 1) := by decide +kernel
theorem d2_6 : decode prog_59_method_1_code 6 = .ok (.istore_n 2, 1) := by decide +kernel
theorem d2_7 : decode prog_59_method_1_code 7 = .ok (.aload_n 0, 1) := by decide +kernel
theorem d2_8 : decode prog_59_method_1_code 8 = .ok (.iload_n 2, 1) := by decide +kernel
theorem d2_9 : decode prog_59_method_1_code 9 = .ok (.anewarray 9, 3) := by decide +kernel
theorem d2_12 : decode prog_59_method_1_code 12 = .ok (.putfield 11, 3) := by decide +kernel
theorem d2_15 : decode prog_59_method_1_code 15 = .ok (.aload_n 0, 1) := by decide +kernel
theorem d2_16 : decode prog_59_method_1_code 16 = .ok (.iload_n 2, 1) := by decide +kernel
theorem d2_17 : decode prog_59_method_1_code 17 = .ok (.newarray .int, 2) := by decide +kernel
theorem d2_19 : decode prog_59_method_1_code 19 = .ok (.putfield 17, 3) := by decide +kernel
theorem d2_22 : decode prog_59_method_1_code 22 = .ok (.aload_n 0, 1) := by decide +kernel
theorem d2_23 : decode prog_59_method_1_code 23 = .ok (.iload_n 2, 1) := by decide +kernel
theorem d2_24 : decode prog_59_method_1_code 24 = .ok (.newarray .long, 2) := by decide +kernel
theorem d2_26 : decode prog_59_method_1_code 26 = .ok (.putfield 21, 3) := by decide +kernel
theorem d2_29 : decode prog_59_method_1_code 29 = .ok (.iconst 0, 1) := by decide +kernel
theorem d2_30 : decode prog_59_method_1_code 30 = .ok (.istore_n 3, 1) := by decide +kernel
theorem d2_31 : decode prog_59_method_1_code 31 = .ok (.iconst 0, 1) := by decide +kernel
theorem d2_32 : decode prog_59_method_1_code 32 = .ok (.istore 4, 2) := by decide +kernel
theorem d2_34 : decode prog_59_method_1_code 34 = .ok (.iload 4, 2) := by decide +kernel
theorem d2_36 : decode prog_59_method_1_code 36 = .ok (.iload_n 2, 1) := by decide +kernel
theorem d2_37 : decode prog_59_method_1_code 37 = .ok (.if_icmp .ge 77, 3) := by decide +kernel
theorem d2_40 : decode prog_59_method_1_code 40 = .ok (.aload_n 0, 1) := by decide +kernel
theorem d2_41 : decode prog_59_method_1_code 41 = .ok (.getfield 11, 3) := by decide +kernel
theorem d2_44 : decode prog_59_method_1_code 44 = .ok (.iload 4, 2) := by decide +kernel
theorem d2_46 : decode prog_59_method_1_code 46 = .ok (.aload_n 1, 1) := by decide +kernel
theorem d2_47 : decode prog_59_method_1_code 47 = .ok (.iload 4, 2) := by decide +kernel
theorem d2_49 : decode prog_59_method_1_code 49 = .ok (.iaload, 1) := by decide +kernel
theorem d2_50 : decode prog_59_method_1_code 50 = .ok (.anewarray 25, 3) := by decide +kernel
theorem d2_53 : decode prog_59_method_1_code 53 = .ok (.aastore, 1) := by decide +kernel
theorem d2_54 : decode prog_59_method_1_code 54 = .ok (.aload_n 0, 1) := by decide +kernel
theorem d2_55 : decode prog_59_method_1_code 55 = .ok (.getfield 17, 3) := by decide +kernel
theorem d2_58 : decode prog_59_method_1_code 58 = .ok (.iload 4, 2) := by decide +kernel
theorem d2_60 : decode prog_59_method_1_code 60 = .ok (.aload_n 0, 1) := by decide +kernel
theorem d2_61 : decode prog_59_method_1_code 61 = .ok (.getfield 11, 3) := by decide +kernel
theorem d2_64 : decode prog_59_method_1_code 64 = .ok (.iload 4, 2) := by decide +kernel
theorem d2_66 : decode prog_59_method_1_code 66 = .ok (.aaload, 1) := by decide +kernel
theorem d2_67 : decode prog_59_method_1_code 67 = .ok (.arraylength, 1) := by decide +kernel
theorem d2_68 : decode prog_59_method_1_code 68 = .ok (.iastore, 1) := by decide +kernel
theorem d2_69 : decode prog_59_method_1_code 69 = .ok (.iload_n 3, 1) := by decide +kernel
theorem d2_70 : decode prog_59_method_1_code 70 = .ok (.aload_n 0, 1) := by decide +kernel
theorem d2_71 : decode prog_59_method_1_code 71 = .ok (.getfield 17, 3) := by decide +kernel
theorem d2_74 : decode prog_59_method_1_code 74 = .ok (.iload 4, 2) := by decide +kernel
theorem d2_76 : decode prog_59_method_1_code 76 = .ok (.iaload, 1) := by decide +kernel
theorem d2_77 : decode prog_59_method_1_code 77 = .ok (.iadd, 1) := by decide +kernel
theorem d2_78 : decode prog_59_method_1_code 78 = .ok (.istore_n 3, 1) := by decide +kernel
theorem d2_79 : decode prog_59_method_1_code 79 = .ok (.aload_n 0, 1) := by decide +kernel
theorem d2_80 : decode prog_59_method_1_code 80 = .ok (.getfield 17, 3) := by decide +kernel
theorem d2_83 : decode prog_59_method_1_code 83 = .ok (.iload 4, 2) := by decide +kernel
theorem d2_85 : decode prog_59_method_1_code 85 = .ok (.iaload, 1) := by decide +kernel
theorem d2_86 : decode prog_59_method_1_code 86 = .ok (.bipush 64, 2) := by decide +kernel
theorem d2_88 : decode prog_59_method_1_code 88 = .ok (.if_icmp .gt 20, 3) := by decide +kernel
theorem d2_91 : decode prog_59_method_1_code 91 = .ok (.aload_n 0, 1) := by decide +kernel
theorem d2_92 : decode prog_59_method_1_code 92 = .ok (.getfield 21, 3) := by decide +kernel
theorem d2_95 : decode prog_59_method_1_code 95 = .ok (.iload 4, 2) := by decide +kernel
theorem d2_97 : decode prog_59_method_1_code 97 = .ok (.aload_n 0, 1) := by decide +kernel
theorem d2_98 : decode prog_59_method_1_code 98 = .ok (.getfield 17, 3) := by decide +kernel
theorem d2_101 : decode prog_59_method_1_code 101 = .ok (.iload 4, 2) := by decide +kernel
theorem d2_103 : decode prog_59_method_1_code 103 = .ok (.iaload, 1) := by decide +kernel
theorem d4_0 : decode prog_59_method_2_code 0 = .ok (.iload_n 0, 1) := by decide +kernel
theorem d4_1 : decode prog_59_method_2_code 1 = .ok (.bipush 64, 2) := by decide +kernel
theorem d4_3 : decode prog_59_method_2_code 3 = .ok (.if_icmp .ne 9, 3) := by decide +kernel
theorem d4_12 : decode prog_59_method_2_code 12 = .ok (.lconst 1, 1) := by decide +kernel
theorem d4_13 : decode prog_59_method_2_code 13 = .ok (.iload_n 0, 1) := by decide +kernel
theorem d4_14 : decode prog_59_method_2_code 14 = .ok (.lshl, 1) := by decide +kernel
theorem d4_15 : decode prog_59_method_2_code 15 = .ok (.lconst 1, 1) := by decide +kernel
theorem d4_16 : decode prog_59_method_2_code 16 = .ok (.lsub, 1) := by decide +kernel
theorem d4_17 : decode prog_59_method_2_code 17 = .ok (.lreturn, 1) := by decide +kernel
theorem ef71 (m : MethodId) (x0 : Int32) : entryFrame m #[(.int x0)] 1 = mkF m 0 #[.val (.int x0)] [] := by first | (simp [entryFrame, mkF, argsToLocals, Value.category]; done) | rfl
theorem pn72 : plainName "com/example/caprice/caprice/solver/Domains" = true := by first | (simp [plainName, overriddenIn]; done) | decide +kernel
def Q4_0 (Z : State) (h0 : Heap) (n0 : Nat) (v : Option Value) (h : Heap) (L : List Loc) : Prop := v = some (.long (7 : Int64)) ∧ Fr n0 L ∧ h = h0
set_option maxRecDepth 65536 in
set_option maxHeartbeats 40000000 in
theorem rm4_0 (l : Launch) (Z : State) (a0 : Array Value) (hw : ∀ d ∈ tables_1, d.before a0 Z = true) (ws : List Jvm.Cond) (h0 : Heap) (n0 : Nat) (Z0 : n0 ≤ h0.size) (O0 : Old Z n0 h0) :
    MetFree l (⟨"com/example/caprice/caprice/solver/Domains", "every", "(I)J"⟩ : MethodName) (head1 (Jvm.Cond.code (⟨"com/example/caprice/caprice/solver/Domains", "every", "(I)J"⟩ : MethodName) prog_59_method_2_code 1 (some .long) :: ws) ({ frames := 0, cells := 0, slots := 0, locals := 0 } : Room)) (fun a U => a = #[(.int (3 : Int32))] ∧ Z.Warmed39 U.vm ∧ U.heap = h0) (fun _ _ _ _ _ => True) (fun _ U o U' => ∃ v L, o = .returned v ∧ Q4_0 Z  h0 n0 v U'.heap L ∧ FrameEnd U o U' L ({ frames := 0, cells := 0, slots := 0, locals := 0 } : Room).cells ({ frames := 0, cells := 0, slots := 0, locals := 0 } : Room).slots) := by
  refine MetFree.of_bodySF (plainFor_of_name pn72) hisR ?_
  intro p e s m args below meth c s₁ Bd hml0 hP hK
  obtain ⟨rfl, hZ, hh⟩ := hP
  have hx := Bd.exec
  have hby := Bd.bytes
  have hml : c.maxLocals = 1 := hml0
  have hown : s.vm.findClass "com/example/caprice/caprice/solver/Domains" = some m.cls := findClass_of_methodNamed Bd.named
  have hnm := (name_of_methodNamed Bd.named Bd.method).1
  have X0 : Stand p l e ({ frames := 0, cells := 0, slots := 0, locals := 0 } : Room) s m #[(.int (3 : Int32))] below meth c s₁ [] 0 0 := Stand.of_body Bd
  have e0 : s₁.heap = h0 := by rw [← hh, Bd.state]; rfl
  have N0 := Fr.nil n0
  have pre0 : ∀ t, Steps p.tables e below (s₁.setTop (mkF m 0 #[.val (.int (3 : Int32))] [])) t → Steps p.tables e below (s₁.setTop (entryFrame m #[(.int (3 : Int32))] 1)) t := fun t k => castTop (ef71 m (3 : Int32)) k
  obtain ⟨fs, hr, hrun, hended, hW, hsame⟩ := X0.leave (v := some (.long (7 : Int64))) (fun h => by rw [Bd.returns] at h; cases h)
  refine ⟨_, _, pre0 _ ?_, hrun, hended, _, _, rfl, ?_, ⟨_, rfl⟩, hW, hsame.mono (by decide) (by decide)⟩
  · show Steps p.tables e below (s₁.setTop (mkF m 0 #[.val (.int (3 : Int32))] [])) _
    refine XS.iloadN X0.here hx rfl (hb hby d4_0) rfl ?_
    show Steps p.tables e below (s₁.setTop (mkF m 1 #[.val (.int (3 : Int32))] [(.int (3 : Int32))])) _
    refine XS.bipush X0.here hx rfl (hb hby d4_1) ?_
    show Steps p.tables e below (s₁.setTop (mkF m 3 #[.val (.int (3 : Int32))] [(.int (64 : Int32)), (.int (3 : Int32))])) _
    refine XS.icmpYes X0.here hx rfl (pc0 := 3) (pc' := 12) rfl (hb hby d4_3) rfl (feq (by decide : ¬ ((3 : Int32) = (64 : Int32)))).2 (by decide) (by decide) ?_
    show Steps p.tables e below (s₁.setTop (mkF m 12 #[.val (.int (3 : Int32))] [])) _
    refine XS.lconst X0.here hx rfl (hb hby d4_12) ?_
    show Steps p.tables e below (s₁.setTop (mkF m 13 #[.val (.int (3 : Int32))] [(.long (1 : Int64))])) _
    refine XS.iloadN X0.here hx rfl (hb hby d4_13) rfl ?_
    show Steps p.tables e below (s₁.setTop (mkF m 14 #[.val (.int (3 : Int32))] [(.int (3 : Int32)), (.long (1 : Int64))])) _
    refine XS.lshl X0.here hx rfl (hb hby d4_14) rfl ?_
    rw [show ((1 : Int64) <<< ((3 : Int32) &&& 0x3f).toInt64) = (8 : Int64) from by decide]
    show Steps p.tables e below (s₁.setTop (mkF m 15 #[.val (.int (3 : Int32))] [(.long (8 : Int64))])) _
    refine XS.lconst X0.here hx rfl (hb hby d4_15) ?_
    show Steps p.tables e below (s₁.setTop (mkF m 16 #[.val (.int (3 : Int32))] [(.long (1 : Int64)), (.long (8 : Int64))])) _
    refine XS.lsub X0.here hx rfl (hb hby d4_16) rfl ?_
    rw [show ((8 : Int64) - (1 : Int64)) = (7 : Int64) from by decide]
    show Steps p.tables e below (s₁.setTop (mkF m 17 #[.val (.int (3 : Int32))] [(.long (7 : Int64))])) _
    jvm_step X0.here [X0.here.top, hx, (hb hby d4_17), X0.method', Bd.returns, narrow]
    first | (intro acts; rw [hr _ acts rfl rfl rfl]) | rw [hr _ _ rfl rfl rfl]
    exact Steps.refl _
  · exact ⟨rfl, N0, e0⟩
theorem pd73 : parseMethodDescriptor "(I)J" = some ⟨[.int], some .long⟩ := by decide +kernel
theorem d2_104 : decode prog_59_method_1_code 104 = .ok (.invokestatic 26, 3) := by decide +kernel
theorem d2_107 : decode prog_59_method_1_code 107 = .ok (.lastore, 1) := by decide +kernel
theorem d2_108 : decode prog_59_method_1_code 108 = .ok (.iinc 4 1, 3) := by decide +kernel
theorem d2_111 : decode prog_59_method_1_code 111 = .ok (.goto (-77), 3) := by decide +kernel
theorem d2_114 : decode prog_59_method_1_code 114 = .ok (.aload_n 0, 1) := by decide +kernel
theorem d2_115 : decode prog_59_method_1_code 115 = .ok (.iconst 2, 1) := by decide +kernel
theorem d2_116 : decode prog_59_method_1_code 116 = .ok (.iload_n 3, 1) := by decide +kernel
theorem d2_117 : decode prog_59_method_1_code 117 = .ok (.imul, 1) := by decide +kernel
theorem d2_118 : decode prog_59_method_1_code 118 = .ok (.newarray .int, 2) := by decide +kernel
theorem d2_120 : decode prog_59_method_1_code 120 = .ok (.putfield 30, 3) := by decide +kernel
theorem d2_123 : decode prog_59_method_1_code 123 = .ok (.aload_n 0, 1) := by decide +kernel
theorem d2_124 : decode prog_59_method_1_code 124 = .ok (.iload_n 2, 1) := by decide +kernel
theorem d2_125 : decode prog_59_method_1_code 125 = .ok (.newarray .int, 2) := by decide +kernel
theorem d2_127 : decode prog_59_method_1_code 127 = .ok (.putfield 33, 3) := by decide +kernel
theorem d2_130 : decode prog_59_method_1_code 130 = .ok (.aload_n 0, 1) := by decide +kernel
theorem d2_131 : decode prog_59_method_1_code 131 = .ok (.iload_n 2, 1) := by decide +kernel
theorem d2_132 : decode prog_59_method_1_code 132 = .ok (.newarray .boolean, 2) := by decide +kernel
theorem d2_134 : decode prog_59_method_1_code 134 = .ok (.putfield 36, 3) := by decide +kernel
theorem d2_137 : decode prog_59_method_1_code 137 = .ok (.return_, 1) := by decide +kernel
theorem ef94 (m : MethodId) (x0 : Addr) (x1 : Addr) : entryFrame m #[(.ref x0), (.ref x1)] 5 = mkF m 0 #[.val (.ref x0), .val (.ref x1), .unset, .unset, .unset] [] := by first | (simp [entryFrame, mkF, argsToLocals, Value.category]; done) | rfl
def Q2_1 (Z : State) (ob0 : Addr) (ob1 : Addr) (k_ob1 : ClassId) (h0 : Heap) (n0 : Nat) (v : Option Value) (h : Heap) (L : List Loc) : Prop := ∃ b3 : Addr, ∃ b5 : Addr, ∃ b9 : Addr, ∃ b16 : Addr, ∃ b44 : Addr, ∃ b72 : Addr, ∃ b96 : Addr, ∃ b100 : Addr, ∃ b103 : Addr, ∃ kk_b3 : ClassId, ∃ kk_b5 : ClassId, ∃ kk_b9 : ClassId, ∃ kk_b96 : ClassId, ∃ kk_b100 : ClassId, ∃ kk_b103 : ClassId, ∃ kk_b16 : ClassId, ∃ kk_b44 : ClassId, ∃ kk_b72 : ClassId, v = none ∧ Fr n0 L ∧ Keep h0 h [ob0] ∧ Old Z n0 h ∧ h0.size ≤ b3 ∧ h0.size ≤ b5 ∧ h0.size ≤ b9 ∧ h0.size ≤ b16 ∧ h0.size ≤ b44 ∧ h0.size ≤ b72 ∧ h0.size ≤ b96 ∧ h0.size ≤ b100 ∧ h0.size ≤ b103 ∧ b3 < b5 ∧ b5 < b9 ∧ b9 < b16 ∧ b16 < b44 ∧ b44 < b72 ∧ b72 < b96 ∧ b96 < b100 ∧ b100 < b103 ∧ Exa Z h ob0 "com/example/caprice/caprice/solver/Domains" ∧ Fld Z h ob0 "com/example/caprice/caprice/solver/Domains" "reasons" "[[[I" (.ref b3) ∧ Fld Z h ob0 "com/example/caprice/caprice/solver/Domains" "left" "[I" (.ref b5) ∧ Fld Z h ob0 "com/example/caprice/caprice/solver/Domains" "leftMasks" "[J" (.ref b9) ∧ Fld Z h ob0 "com/example/caprice/caprice/solver/Domains" "trail" "[I" (.ref b96) ∧ Fld Z h ob0 "com/example/caprice/caprice/solver/Domains" "gathered" "[I" (.ref b100) ∧ Fld Z h ob0 "com/example/caprice/caprice/solver/Domains" "marked" "[Z" (.ref b103) ∧ Fld Z h ob0 "com/example/caprice/caprice/solver/Domains" "trailSize" "I" (.int (0 : Int32)) ∧ Arv Z h b3 kk_b3 (.array (.array .int)) (3 : Int32) [(.ref b16), (.ref b44), (.ref b72)] .null ∧ Exa Z h b3 "[[[I" ∧ OvrA Z kk_b3 (.array .int) "[[I" ∧ Arv Z h b5 kk_b5 .int (3 : Int32) [(.int (3 : Int32)), (.int (3 : Int32)), (.int (3 : Int32))] (.int (0 : Int32)) ∧ Exa Z h b5 "[I" ∧ Arv Z h b9 kk_b9 .long (3 : Int32) [(.long (7 : Int64)), (.long (7 : Int64)), (.long (7 : Int64))] (.long (0 : Int64)) ∧ Exa Z h b9 "[J" ∧ Arv Z h b96 kk_b96 .int (18 : Int32) [] (.int (0 : Int32)) ∧ Exa Z h b96 "[I" ∧ Arv Z h b100 kk_b100 .int (3 : Int32) [(.int (0 : Int32)), (.int (0 : Int32)), (.int (0 : Int32))] (.int (0 : Int32)) ∧ Exa Z h b100 "[I" ∧ Arv Z h b103 kk_b103 .boolean (3 : Int32) [(.int (0 : Int32)), (.int (0 : Int32)), (.int (0 : Int32))] (.int (0 : Int32)) ∧ Exa Z h b103 "[Z" ∧ Arv Z h b16 kk_b16 (.array .int) (3 : Int32) [.null, .null, .null] .null ∧ Exa Z h b16 "[[I" ∧ OvrA Z kk_b16 .int "[I" ∧ Arv Z h b44 kk_b44 (.array .int) (3 : Int32) [.null, .null, .null] .null ∧ Exa Z h b44 "[[I" ∧ OvrA Z kk_b44 .int "[I" ∧ Arv Z h b72 kk_b72 (.array .int) (3 : Int32) [.null, .null, .null] .null ∧ Exa Z h b72 "[[I" ∧ OvrA Z kk_b72 .int "[I" ∧ True
set_option maxRecDepth 65536 in
set_option maxHeartbeats 40000000 in
theorem rm2_1 (l : Launch) (Z : State) (a0 : Array Value) (hw : ∀ d ∈ tables_1, d.before a0 Z = true) (ws : List Jvm.Cond) (ob0 : Addr) (ob1 : Addr) (k_ob1 : ClassId) (h0 : Heap) (n0 : Nat) (Z0 : n0 ≤ h0.size) (O0 : Old Z n0 h0) (PE_ob0 : Exa Z h0 ob0 "com/example/caprice/caprice/solver/Domains") (PF_ob0_reasons : Fld Z h0 ob0 "com/example/caprice/caprice/solver/Domains" "reasons" "[[[I" .null) (PF_ob0_left : Fld Z h0 ob0 "com/example/caprice/caprice/solver/Domains" "left" "[I" .null) (PF_ob0_leftMasks : Fld Z h0 ob0 "com/example/caprice/caprice/solver/Domains" "leftMasks" "[J" .null) (PF_ob0_trail : Fld Z h0 ob0 "com/example/caprice/caprice/solver/Domains" "trail" "[I" .null) (PF_ob0_gathered : Fld Z h0 ob0 "com/example/caprice/caprice/solver/Domains" "gathered" "[I" .null) (PF_ob0_marked : Fld Z h0 ob0 "com/example/caprice/caprice/solver/Domains" "marked" "[Z" .null) (PF_ob0_trailSize : Fld Z h0 ob0 "com/example/caprice/caprice/solver/Domains" "trailSize" "I" (.int (0 : Int32))) (PV_ob1 : Arv Z h0 ob1 k_ob1 .int (3 : Int32) [(.int (3 : Int32)), (.int (3 : Int32)), (.int (3 : Int32))] (.int (0 : Int32))) (ne_ob0_ob1 : ob0 ≠ ob1) (g_ob0 : n0 ≤ ob0) :
    MetFree l (⟨"com/example/caprice/caprice/solver/Domains", "<init>", "([I)V"⟩ : MethodName) (head1 (Jvm.Cond.code (⟨"com/example/caprice/caprice/solver/Domains", "<init>", "([I)V"⟩ : MethodName) prog_59_method_1_code 5 none :: ws) ({ frames := 1, cells := 9, slots := 42, locals := 14 } : Room)) (fun a U => a = #[(.ref ob0), (.ref ob1)] ∧ Z.Warmed39 U.vm ∧ U.heap = h0) (fun _ _ _ _ _ => True) (fun _ U o U' => ∃ v L, o = .returned v ∧ Q2_1 Z  ob0 ob1 k_ob1 h0 n0 v U'.heap L ∧ FrameEnd U o U' L ({ frames := 1, cells := 9, slots := 42, locals := 14 } : Room).cells ({ frames := 1, cells := 9, slots := 42, locals := 14 } : Room).slots) := by
  refine MetFree.of_bodySF (plainFor_of_name pn72) hisR ?_
  intro p e s m args below meth c s₁ Bd hml0 hP hK
  obtain ⟨rfl, hZ, hh⟩ := hP
  have hx := Bd.exec
  have hby := Bd.bytes
  have hml : c.maxLocals = 5 := hml0
  have hown : s.vm.findClass "com/example/caprice/caprice/solver/Domains" = some m.cls := findClass_of_methodNamed Bd.named
  have hnm := (name_of_methodNamed Bd.named Bd.method).1
  have X0 : Stand p l e ({ frames := 1, cells := 9, slots := 42, locals := 14 } : Room) s m #[(.ref ob0), (.ref ob1)] below meth c s₁ [] 0 0 := Stand.of_body Bd
  have e0 : s₁.heap = h0 := by rw [← hh, Bd.state]; rfl
  have N0 := Fr.nil n0
  have pre0 : ∀ t, Steps p.tables e below (s₁.setTop (mkF m 0 #[.val (.ref ob0), .val (.ref ob1), .unset, .unset, .unset] [])) t → Steps p.tables e below (s₁.setTop (entryFrame m #[(.ref ob0), (.ref ob1)] 5)) t := fun t k => castTop (ef94 m ob0 ob1) k
  obtain ⟨T1, X1, e1, st1⟩ := initO X0 hx hZ hown (hw _ (List.mem_of_getElem? (i := 12) rfl)) (hw _ (List.mem_of_getElem? (i := 13) rfl)) (hw _ (List.mem_of_getElem? (i := 14) rfl)) e0 (g := (mkF m 1 #[.val (.ref ob0), .val (.ref ob1), .unset, .unset, .unset] [(.ref ob0)])) rfl (by rw [hml]; rfl) rfl (hb hby d2_1) (by decide) (W := 0) (by show 2 * 0 + _ ≤ _; exact Nat.le_of_eq rfl) (by decide)
  obtain ⟨ac2, aA2, aq2, aS2, aN2, aH2, aG2⟩ := id PV_ob1
  obtain ⟨T3, h3, k3, X3, e3, E3, A3, B3, OV3, st3⟩ := newRA X1 hx hZ hown (C := "[[I") (by decide) (hw _ (List.mem_of_getElem? (i := 15) rfl)) (hw _ (List.mem_of_getElem? (i := 16) rfl)) e1 (g := (mkF m 9 #[.val (.ref ob0), .val (.ref ob1), .val (.int (3 : Int32)), .unset, .unset] [(.int (3 : Int32)), (.ref ob0)])) rfl (hb hby d2_9) rfl (by decide) (cap := 3) (by decide) (by decide) (by decide) (by decide) (ad := "[[[I") (by decide)
  obtain ⟨b3, gg3⟩ : ∃ z, z = h0.size := ⟨_, rfl⟩
  rw [← gg3] at A3 B3 st3
  have bo_b3 : h0.size ≤ b3 := Nat.le_of_eq gg3.symm
  have g_b3 : n0 ≤ b3 := Nat.le_trans (own_n0 O0) bo_b3
  have sz_b3 : h0.size ≤ b3 := Nat.le_trans (Keep.refl h0 [ob0]).1 bo_b3
  have V_b3 : Arv Z h3 b3 k3 (.array (.array .int)) (3 : Int32) [.null, .null, .null] .null := (Arv.new A3 (by decide)).pad (pad_rep [] .null 3)
  have lb_b3 : b3 < h3.size := A3.lt
  have KK3 : Keep h0 h3 [ob0] := (Keep.refl h0 [ob0]).ext E3
  have O3 := O0.ext E3
  obtain ⟨T4, h4, X4, e4, W4, st4⟩ := putF X3 hx hZ hown (host := "") (Or.inl (hw _ (List.mem_of_getElem? (i := 17) rfl))) Via.refl e3 (PF_ob0_reasons.ext E3) (PE_ob0.ext E3) (Or.inr ⟨(hw _ (List.mem_of_getElem? (i := 18) rfl)), rfl, hnm⟩) (hw _ (List.mem_of_getElem? (i := 7) rfl)) (ty := (.array (.array (.array .int)))) (by decide) rfl rfl (g := (mkF m 12 #[.val (.ref ob0), .val (.ref ob1), .val (.int (3 : Int32)), .unset, .unset] [(.ref b3), (.ref ob0)])) rfl rfl (hb hby d2_12)
  have Fw4 := (PF_ob0_reasons.ext E3).same W4
  have N4 := Fr.snoc X4 N0 g_ob0
  have O4 := O3.wr W4 g_ob0
  have KK4 : Keep h0 h4 [ob0] := KK3.wr W4 (Or.inl (List.mem_of_getElem? (i := 0) rfl))
  obtain ⟨T5, h5, k5, X5, e5, E5, A5, B5, st5⟩ := newPE X4 hx hZ (hw _ (List.mem_of_getElem? (i := 5) rfl)) e4 (g := (mkF m 17 #[.val (.ref ob0), .val (.ref ob1), .val (.int (3 : Int32)), .unset, .unset] [(.int (3 : Int32)), (.ref ob0)])) rfl (hb hby d2_17) rfl (by decide) (cap := 3) (by decide) (by decide) (by decide) (by decide) (ad := "[I") (by decide)
  obtain ⟨b5, gg5⟩ : ∃ z, z = h4.size := ⟨_, rfl⟩
  rw [← gg5] at A5 B5 st5
  have bo_b5 : h4.size ≤ b5 := Nat.le_of_eq gg5.symm
  have g_b5 : n0 ≤ b5 := Nat.le_trans (own_n0 O4) bo_b5
  have sz_b5 : h0.size ≤ b5 := Nat.le_trans KK4.1 bo_b5
  have V_b5 : Arv Z h5 b5 k5 .int (3 : Int32) [(.int (0 : Int32)), (.int (0 : Int32)), (.int (0 : Int32))] (.int (0 : Int32)) := (Arv.new A5 (by decide)).pad (pad_rep [] (.int (0 : Int32)) 3)
  have lb_b5 : b5 < h5.size := A5.lt
  have KK5 : Keep h0 h5 [ob0] := KK4.ext E5
  have O5 := O4.ext E5
  have J6 := (((PF_ob0_left.ext E3).other W4 (Or.inr (slot_ne (Or.inr (hw _ (List.mem_of_getElem? (i := 20) rfl))) (Or.inr (hw _ (List.mem_of_getElem? (i := 18) rfl))) (by decide) (t := (.array .int)) (t' := (.array (.array (.array .int)))) (by decide) (by decide)))).ext E5)
  have J7 := (((PE_ob0.ext E3).wr W4).ext E5)
  obtain ⟨T8, h8, X8, e8, W8, st8⟩ := putF X5 hx hZ hown (host := "") (Or.inl (hw _ (List.mem_of_getElem? (i := 19) rfl))) Via.refl e5 J6 J7 (Or.inr ⟨(hw _ (List.mem_of_getElem? (i := 20) rfl)), rfl, hnm⟩) (hw _ (List.mem_of_getElem? (i := 7) rfl)) (ty := (.array .int)) (by decide) rfl rfl (g := (mkF m 19 #[.val (.ref ob0), .val (.ref ob1), .val (.int (3 : Int32)), .unset, .unset] [(.ref b5), (.ref ob0)])) rfl rfl (hb hby d2_19)
  have Fw8 := J6.same W8
  have N8 := Fr.snoc X8 N4 g_ob0
  have O8 := O5.wr W8 g_ob0
  have KK8 : Keep h0 h8 [ob0] := KK5.wr W8 (Or.inl (List.mem_of_getElem? (i := 0) rfl))
  obtain ⟨T9, h9, k9, X9, e9, E9, A9, B9, st9⟩ := newPE X8 hx hZ (hw _ (List.mem_of_getElem? (i := 21) rfl)) e8 (g := (mkF m 24 #[.val (.ref ob0), .val (.ref ob1), .val (.int (3 : Int32)), .unset, .unset] [(.int (3 : Int32)), (.ref ob0)])) rfl (hb hby d2_24) rfl (by decide) (cap := 3) (by decide) (by decide) (by decide) (by decide) (ad := "[J") (by decide)
  obtain ⟨b9, gg9⟩ : ∃ z, z = h8.size := ⟨_, rfl⟩
  rw [← gg9] at A9 B9 st9
  have bo_b9 : h8.size ≤ b9 := Nat.le_of_eq gg9.symm
  have g_b9 : n0 ≤ b9 := Nat.le_trans (own_n0 O8) bo_b9
  have sz_b9 : h0.size ≤ b9 := Nat.le_trans KK8.1 bo_b9
  have V_b9 : Arv Z h9 b9 k9 .long (3 : Int32) [(.long (0 : Int64)), (.long (0 : Int64)), (.long (0 : Int64))] (.long (0 : Int64)) := (Arv.new A9 (by decide)).pad (pad_rep [] (.long (0 : Int64)) 3)
  have lb_b9 : b9 < h9.size := A9.lt
  have KK9 : Keep h0 h9 [ob0] := KK8.ext E9
  have O9 := O8.ext E9
  have J10 := (((((PF_ob0_leftMasks.ext E3).other W4 (Or.inr (slot_ne (Or.inr (hw _ (List.mem_of_getElem? (i := 23) rfl))) (Or.inr (hw _ (List.mem_of_getElem? (i := 18) rfl))) (by decide) (t := (.array .long)) (t' := (.array (.array (.array .int)))) (by decide) (by decide)))).ext E5).other W8 (Or.inr (slot_ne (Or.inr (hw _ (List.mem_of_getElem? (i := 23) rfl))) (Or.inr (hw _ (List.mem_of_getElem? (i := 20) rfl))) (by decide) (t := (.array .long)) (t' := (.array .int)) (by decide) (by decide)))).ext E9)
  obtain ⟨T11, h11, X11, e11, W11, st11⟩ := putF X9 hx hZ hown (host := "") (Or.inl (hw _ (List.mem_of_getElem? (i := 22) rfl))) Via.refl e9 J10 ((J7.wr W8).ext E9) (Or.inr ⟨(hw _ (List.mem_of_getElem? (i := 23) rfl)), rfl, hnm⟩) (hw _ (List.mem_of_getElem? (i := 7) rfl)) (ty := (.array .long)) (by decide) rfl rfl (g := (mkF m 26 #[.val (.ref ob0), .val (.ref ob1), .val (.int (3 : Int32)), .unset, .unset] [(.ref b9), (.ref ob0)])) rfl rfl (hb hby d2_26)
  have Fw11 := J10.same W11
  have N11 := Fr.snoc X11 N8 g_ob0
  have O11 := O9.wr W11 g_ob0
  have KK11 : Keep h0 h11 [ob0] := KK9.wr W11 (Or.inl (List.mem_of_getElem? (i := 0) rfl))
  have J12 := ((((Fw4.ext E5).other W8 (Or.inr (slot_ne (Or.inr (hw _ (List.mem_of_getElem? (i := 18) rfl))) (Or.inr (hw _ (List.mem_of_getElem? (i := 20) rfl))) (by decide) (t := (.array (.array (.array .int)))) (t' := (.array .int)) (by decide) (by decide)))).ext E9).other W11 (Or.inr (slot_ne (Or.inr (hw _ (List.mem_of_getElem? (i := 18) rfl))) (Or.inr (hw _ (List.mem_of_getElem? (i := 23) rfl))) (by decide) (t := (.array (.array (.array .int)))) (t' := (.array .long)) (by decide) (by decide))))
  obtain ⟨T13, X13, e13, st13⟩ := getF X11 hx hZ hown (host := "") (Or.inl (hw _ (List.mem_of_getElem? (i := 17) rfl))) Via.refl e11 J12 (g := (mkF m 41 #[.val (.ref ob0), .val (.ref ob1), .val (.int (3 : Int32)), .val (.int (0 : Int32)), .val (.int (0 : Int32))] [(.ref ob0)])) rfl rfl (hb hby d2_41)
  have J15 := ((((((PV_ob1.ext E3).other W4 (Ne.symm ne_ob0_ob1)).ext E5).other W8 (Ne.symm ne_ob0_ob1)).ext E9).other W11 (Ne.symm ne_ob0_ob1))
  obtain ⟨ac14, aA14, aq14, aS14, aN14, aH14, aG14⟩ := id J15
  obtain ⟨T16, h16, k16, X16, e16, E16, A16, B16, OV16, st16⟩ := newRA X13 hx hZ hown (C := "[I") (by decide) (hw _ (List.mem_of_getElem? (i := 24) rfl)) (hw _ (List.mem_of_getElem? (i := 25) rfl)) e13 (g := (mkF m 50 #[.val (.ref ob0), .val (.ref ob1), .val (.int (3 : Int32)), .val (.int (0 : Int32)), .val (.int (0 : Int32))] [(.int (3 : Int32)), (.int (0 : Int32)), (.ref b3)])) rfl (hb hby d2_50) rfl (by decide) (cap := 3) (by decide) (by decide) (by decide) (by decide) (ad := "[[I") (by decide)
  obtain ⟨b16, gg16⟩ : ∃ z, z = h11.size := ⟨_, rfl⟩
  rw [← gg16] at A16 B16 st16
  have bo_b16 : h11.size ≤ b16 := Nat.le_of_eq gg16.symm
  have g_b16 : n0 ≤ b16 := Nat.le_trans (own_n0 O11) bo_b16
  have sz_b16 : h0.size ≤ b16 := Nat.le_trans KK11.1 bo_b16
  have V_b16 : Arv Z h16 b16 k16 (.array .int) (3 : Int32) [.null, .null, .null] .null := (Arv.new A16 (by decide)).pad (pad_rep [] .null 3)
  have lb_b16 : b16 < h16.size := A16.lt
  have KK16 : Keep h0 h16 [ob0] := KK11.ext E16
  have O16 := O11.ext E16
  have J18 := ((((((V_b3.other W4 (Ne.symm (Nat.ne_of_lt (Nat.lt_of_lt_of_le PE_ob0.lt bo_b3)))).ext E5).other W8 (Ne.symm (Nat.ne_of_lt (Nat.lt_of_lt_of_le PE_ob0.lt bo_b3)))).ext E9).other W11 (Ne.symm (Nat.ne_of_lt (Nat.lt_of_lt_of_le PE_ob0.lt bo_b3)))).ext E16)
  obtain ⟨ac17, aA17, aq17, aS17, aN17, aH17, aG17⟩ := id J18
  obtain ⟨T19, h19, X19, e19, W19, st19⟩ := stR X16 hx hZ e16 aA17 (j := (0 : Int32)) (inb_of aS17 ⟨by decide, by decide⟩) rfl (Sto.ofVA aA17 aq17 OV3 (Ins.self B16)) (g := (mkF m 53 #[.val (.ref ob0), .val (.ref ob1), .val (.int (3 : Int32)), .val (.int (0 : Int32)), .val (.int (0 : Int32))] [(.ref b16), (.int (0 : Int32)), (.ref b3)])) rfl rfl (hb hby d2_53)
  have V_b3_19 : Arv Z h19 b3 k3 (.array (.array .int)) (3 : Int32) [(.ref b16), .null, .null] .null := Arv.set aA17 aq17 aS17 aN17 aH17 aG17 rfl W19 0 rfl (Nat.le_of_ble_eq_true rfl)
  have N19 := Fr.snoc X19 N11 g_b3
  have O19 := O16.wr W19 g_b3
  have KK19 : Keep h0 h19 [ob0] := KK16.wr W19 (Or.inr sz_b3)
  have J20 := ((((Fw8.ext E9).other W11 (Or.inr (slot_ne (Or.inr (hw _ (List.mem_of_getElem? (i := 20) rfl))) (Or.inr (hw _ (List.mem_of_getElem? (i := 23) rfl))) (by decide) (t := (.array .int)) (t' := (.array .long)) (by decide) (by decide)))).ext E16).other W19 (Or.inl (Nat.ne_of_lt (Nat.lt_of_lt_of_le PE_ob0.lt bo_b3))))
  obtain ⟨T21, X21, e21, st21⟩ := getF X19 hx hZ hown (host := "") (Or.inl (hw _ (List.mem_of_getElem? (i := 19) rfl))) Via.refl e19 J20 (g := (mkF m 55 #[.val (.ref ob0), .val (.ref ob1), .val (.int (3 : Int32)), .val (.int (0 : Int32)), .val (.int (0 : Int32))] [(.ref ob0)])) rfl rfl (hb hby d2_55)
  obtain ⟨T22, X22, e22, st22⟩ := getF X21 hx hZ hown (host := "") (Or.inl (hw _ (List.mem_of_getElem? (i := 17) rfl))) Via.refl e21 ((J12.ext E16).other W19 (Or.inl (Nat.ne_of_lt (Nat.lt_of_lt_of_le PE_ob0.lt bo_b3)))) (g := (mkF m 61 #[.val (.ref ob0), .val (.ref ob1), .val (.int (3 : Int32)), .val (.int (0 : Int32)), .val (.int (0 : Int32))] [(.ref ob0), (.int (0 : Int32)), (.ref b5)])) rfl rfl (hb hby d2_61)
  obtain ⟨ac23, aA23, aq23, aS23, aN23, aH23, aG23⟩ := id V_b3_19
  obtain ⟨ac24, aA24, aq24, aS24, aN24, aH24, aG24⟩ := id (V_b16.other W19 (Ne.symm (Nat.ne_of_lt (Nat.lt_of_lt_of_le (Nat.lt_of_lt_of_le (Nat.lt_of_lt_of_le (Nat.lt_of_lt_of_le (Nat.lt_of_lt_of_le (Nat.lt_of_lt_of_le lb_b3 (Keep.of_wr W4).1) E5.1) (Keep.of_wr W8).1) E9.1) (Keep.of_wr W11).1) bo_b16))))
  have J26 := (((((V_b5.other W8 (Ne.symm (Nat.ne_of_lt (Nat.lt_of_lt_of_le (Nat.lt_of_lt_of_le (Nat.lt_of_lt_of_le PE_ob0.lt E3.1) (Keep.of_wr W4).1) bo_b5)))).ext E9).other W11 (Ne.symm (Nat.ne_of_lt (Nat.lt_of_lt_of_le (Nat.lt_of_lt_of_le (Nat.lt_of_lt_of_le PE_ob0.lt E3.1) (Keep.of_wr W4).1) bo_b5)))).ext E16).other W19 (Ne.symm (Nat.ne_of_lt (Nat.lt_of_lt_of_le (Nat.lt_of_lt_of_le lb_b3 (Keep.of_wr W4).1) bo_b5))))
  obtain ⟨ac25, aA25, aq25, aS25, aN25, aH25, aG25⟩ := id J26
  obtain ⟨T27, h27, X27, e27, W27, st27⟩ := stI X22 hx hZ e22 aA25 (j := (0 : Int32)) (inb_of aS25 ⟨by decide, by decide⟩) (g := (mkF m 68 #[.val (.ref ob0), .val (.ref ob1), .val (.int (3 : Int32)), .val (.int (0 : Int32)), .val (.int (0 : Int32))] [(.int (3 : Int32)), (.int (0 : Int32)), (.ref b5)])) rfl rfl (hb hby d2_68)
  have V_b5_27 : Arv Z h27 b5 k5 .int (3 : Int32) [(.int (3 : Int32)), (.int (0 : Int32)), (.int (0 : Int32))] (.int (0 : Int32)) := Arv.set aA25 aq25 aS25 aN25 aH25 aG25 rfl W27 0 rfl (Nat.le_of_ble_eq_true rfl)
  have N27 := Fr.snoc X27 N19 g_b5
  have O27 := O19.wr W27 g_b5
  have KK27 : Keep h0 h27 [ob0] := KK19.wr W27 (Or.inr sz_b5)
  obtain ⟨T28, X28, e28, st28⟩ := getF X27 hx hZ hown (host := "") (Or.inl (hw _ (List.mem_of_getElem? (i := 19) rfl))) Via.refl e27 (J20.other W27 (Or.inl (Nat.ne_of_lt (Nat.lt_of_lt_of_le (Nat.lt_of_lt_of_le (Nat.lt_of_lt_of_le PE_ob0.lt E3.1) (Keep.of_wr W4).1) bo_b5)))) (g := (mkF m 71 #[.val (.ref ob0), .val (.ref ob1), .val (.int (3 : Int32)), .val (.int (0 : Int32)), .val (.int (0 : Int32))] [(.ref ob0), (.int (0 : Int32))])) rfl rfl (hb hby d2_71)
  obtain ⟨ac29, aA29, aq29, aS29, aN29, aH29, aG29⟩ := id V_b5_27
  obtain ⟨T30, X30, e30, st30⟩ := getF X28 hx hZ hown (host := "") (Or.inl (hw _ (List.mem_of_getElem? (i := 19) rfl))) Via.refl e28 (J20.other W27 (Or.inl (Nat.ne_of_lt (Nat.lt_of_lt_of_le (Nat.lt_of_lt_of_le (Nat.lt_of_lt_of_le PE_ob0.lt E3.1) (Keep.of_wr W4).1) bo_b5)))) (g := (mkF m 80 #[.val (.ref ob0), .val (.ref ob1), .val (.int (3 : Int32)), .val (.int (3 : Int32)), .val (.int (0 : Int32))] [(.ref ob0)])) rfl rfl (hb hby d2_80)
  obtain ⟨ac31, aA31, aq31, aS31, aN31, aH31, aG31⟩ := id V_b5_27
  have J32 := (((Fw11.ext E16).other W19 (Or.inl (Nat.ne_of_lt (Nat.lt_of_lt_of_le PE_ob0.lt bo_b3)))).other W27 (Or.inl (Nat.ne_of_lt (Nat.lt_of_lt_of_le (Nat.lt_of_lt_of_le (Nat.lt_of_lt_of_le PE_ob0.lt E3.1) (Keep.of_wr W4).1) bo_b5))))
  obtain ⟨T33, X33, e33, st33⟩ := getF X30 hx hZ hown (host := "") (Or.inl (hw _ (List.mem_of_getElem? (i := 22) rfl))) Via.refl e30 J32 (g := (mkF m 92 #[.val (.ref ob0), .val (.ref ob1), .val (.int (3 : Int32)), .val (.int (3 : Int32)), .val (.int (0 : Int32))] [(.ref ob0)])) rfl rfl (hb hby d2_92)
  obtain ⟨T34, X34, e34, st34⟩ := getF X33 hx hZ hown (host := "") (Or.inl (hw _ (List.mem_of_getElem? (i := 19) rfl))) Via.refl e33 (J20.other W27 (Or.inl (Nat.ne_of_lt (Nat.lt_of_lt_of_le (Nat.lt_of_lt_of_le (Nat.lt_of_lt_of_le PE_ob0.lt E3.1) (Keep.of_wr W4).1) bo_b5)))) (g := (mkF m 98 #[.val (.ref ob0), .val (.ref ob1), .val (.int (3 : Int32)), .val (.int (3 : Int32)), .val (.int (0 : Int32))] [(.ref ob0), (.int (0 : Int32)), (.ref b9)])) rfl rfl (hb hby d2_98)
  obtain ⟨ac35, aA35, aq35, aS35, aN35, aH35, aG35⟩ := id V_b5_27
  obtain ⟨_, _, ⟨T36, L36, k36, n36⟩, -, X36, ⟨Lc36, hQ36, l36, y36, z36⟩, st36⟩ := Jvm.LawKit.callS X34 hx (y := (⟨"com/example/caprice/caprice/solver/Domains", "every", "(I)J"⟩ : MethodName)) hown (mvT hZ (hw _ (List.mem_of_getElem? (i := 27) rfl))) (mvT hZ (hw _ (List.mem_of_getElem? (i := 28) rfl))) (mvT hZ (hw _ (List.mem_of_getElem? (i := 8) rfl))) (mvT hZ (hw _ (List.mem_of_getElem? (i := 29) rfl))) (by decide) (backOf (W := 2) (rm4_0 l Z a0 hw []  h27 n0 (own_n0 O27) O27) hZ (hw _ (List.mem_of_getElem? (i := 29) rfl)) (hw _ (List.mem_of_getElem? (i := 8) rfl)) (by decide) (by decide)) (g := (mkF m 104 #[.val (.ref ob0), .val (.ref ob1), .val (.int (3 : Int32)), .val (.int (3 : Int32)), .val (.int (0 : Int32))] [(.int (3 : Int32)), (.int (0 : Int32)), (.ref b9)])) rfl (by rw [hml]; rfl) (argsL := [(.int (3 : Int32))]) (rest := [(.int (0 : Int32)), (.ref b9)]) (lenOf pd73 rfl) rfl (by show 2 * 0 + _ ≤ _; exact Nat.le_of_eq rfl) (hb hby d2_104) (fun _ _ => ⟨rfl, e34, (by decide : 4 + 0 ≤ _), (by decide : 12 + 0 ≤ _)⟩)
  dsimp only [Pt.U, Pt.locs, Pt.cells, Pt.slots] at X36 l36 y36 z36 st36 hQ36
  subst l36 y36 z36
  obtain ⟨rfl, N36q, e36⟩ := hQ36
  have N36 := Fr.app N27 N36q
  have J38 := ((((V_b9.other W11 (Ne.symm (Nat.ne_of_lt (Nat.lt_of_lt_of_le (Nat.lt_of_lt_of_le (Nat.lt_of_lt_of_le (Nat.lt_of_lt_of_le (Nat.lt_of_lt_of_le PE_ob0.lt E3.1) (Keep.of_wr W4).1) E5.1) (Keep.of_wr W8).1) bo_b9)))).ext E16).other W19 (Ne.symm (Nat.ne_of_lt (Nat.lt_of_lt_of_le (Nat.lt_of_lt_of_le (Nat.lt_of_lt_of_le (Nat.lt_of_lt_of_le lb_b3 (Keep.of_wr W4).1) E5.1) (Keep.of_wr W8).1) bo_b9)))).other W27 (Ne.symm (Nat.ne_of_lt (Nat.lt_of_lt_of_le (Nat.lt_of_lt_of_le lb_b5 (Keep.of_wr W8).1) bo_b9))))
  obtain ⟨ac37, aA37, aq37, aS37, aN37, aH37, aG37⟩ := id J38
  obtain ⟨T39, h39, X39, e39, W39, st39⟩ := stJ X36 hx hZ e36 aA37 (j := (0 : Int32)) (inb_of aS37 ⟨by decide, by decide⟩) (g := (mkF m 107 #[.val (.ref ob0), .val (.ref ob1), .val (.int (3 : Int32)), .val (.int (3 : Int32)), .val (.int (0 : Int32))] [(.long (7 : Int64)), (.int (0 : Int32)), (.ref b9)])) rfl rfl (hb hby d2_107)
  have V_b9_39 : Arv Z h39 b9 k9 .long (3 : Int32) [(.long (7 : Int64)), (.long (0 : Int64)), (.long (0 : Int64))] (.long (0 : Int64)) := Arv.set aA37 aq37 aS37 aN37 aH37 aG37 rfl W39 0 rfl (Nat.le_of_ble_eq_true rfl)
  have N39 := Fr.snoc X39 N36 g_b9
  have O39 := O27.wr W39 g_b9
  have KK39 : Keep h0 h39 [ob0] := KK27.wr W39 (Or.inr sz_b9)
  have J40 := ((((J12.ext E16).other W19 (Or.inl (Nat.ne_of_lt (Nat.lt_of_lt_of_le PE_ob0.lt bo_b3)))).other W27 (Or.inl (Nat.ne_of_lt (Nat.lt_of_lt_of_le (Nat.lt_of_lt_of_le (Nat.lt_of_lt_of_le PE_ob0.lt E3.1) (Keep.of_wr W4).1) bo_b5)))).other W39 (Or.inl (Nat.ne_of_lt (Nat.lt_of_lt_of_le (Nat.lt_of_lt_of_le (Nat.lt_of_lt_of_le (Nat.lt_of_lt_of_le (Nat.lt_of_lt_of_le PE_ob0.lt E3.1) (Keep.of_wr W4).1) E5.1) (Keep.of_wr W8).1) bo_b9))))
  obtain ⟨T41, X41, e41, st41⟩ := getF X39 hx hZ hown (host := "") (Or.inl (hw _ (List.mem_of_getElem? (i := 17) rfl))) Via.refl e39 J40 (g := (mkF m 41 #[.val (.ref ob0), .val (.ref ob1), .val (.int (3 : Int32)), .val (.int (3 : Int32)), .val (.int (1 : Int32))] [(.ref ob0)])) rfl rfl (hb hby d2_41)
  have J43 := ((((J15.ext E16).other W19 (Nat.ne_of_lt (Nat.lt_of_lt_of_le PV_ob1.lt bo_b3))).other W27 (Nat.ne_of_lt (Nat.lt_of_lt_of_le (Nat.lt_of_lt_of_le (Nat.lt_of_lt_of_le PV_ob1.lt E3.1) (Keep.of_wr W4).1) bo_b5))).other W39 (Nat.ne_of_lt (Nat.lt_of_lt_of_le (Nat.lt_of_lt_of_le (Nat.lt_of_lt_of_le (Nat.lt_of_lt_of_le (Nat.lt_of_lt_of_le PV_ob1.lt E3.1) (Keep.of_wr W4).1) E5.1) (Keep.of_wr W8).1) bo_b9)))
  obtain ⟨ac42, aA42, aq42, aS42, aN42, aH42, aG42⟩ := id J43
  obtain ⟨T44, h44, k44, X44, e44, E44, A44, B44, OV44, st44⟩ := newRA X41 hx hZ hown (C := "[I") (by decide) (hw _ (List.mem_of_getElem? (i := 24) rfl)) (hw _ (List.mem_of_getElem? (i := 25) rfl)) e41 (g := (mkF m 50 #[.val (.ref ob0), .val (.ref ob1), .val (.int (3 : Int32)), .val (.int (3 : Int32)), .val (.int (1 : Int32))] [(.int (3 : Int32)), (.int (1 : Int32)), (.ref b3)])) rfl (hb hby d2_50) rfl (by decide) (cap := 3) (by decide) (by decide) (by decide) (by decide) (ad := "[[I") (by decide)
  obtain ⟨b44, gg44⟩ : ∃ z, z = h39.size := ⟨_, rfl⟩
  rw [← gg44] at A44 B44 st44
  have bo_b44 : h39.size ≤ b44 := Nat.le_of_eq gg44.symm
  have g_b44 : n0 ≤ b44 := Nat.le_trans (own_n0 O39) bo_b44
  have sz_b44 : h0.size ≤ b44 := Nat.le_trans KK39.1 bo_b44
  have V_b44 : Arv Z h44 b44 k44 (.array .int) (3 : Int32) [.null, .null, .null] .null := (Arv.new A44 (by decide)).pad (pad_rep [] .null 3)
  have lb_b44 : b44 < h44.size := A44.lt
  have KK44 : Keep h0 h44 [ob0] := KK39.ext E44
  have O44 := O39.ext E44
  have J46 := (((V_b3_19.other W27 (Nat.ne_of_lt (Nat.lt_of_lt_of_le (Nat.lt_of_lt_of_le lb_b3 (Keep.of_wr W4).1) bo_b5))).other W39 (Nat.ne_of_lt (Nat.lt_of_lt_of_le (Nat.lt_of_lt_of_le (Nat.lt_of_lt_of_le (Nat.lt_of_lt_of_le lb_b3 (Keep.of_wr W4).1) E5.1) (Keep.of_wr W8).1) bo_b9))).ext E44)
  obtain ⟨ac45, aA45, aq45, aS45, aN45, aH45, aG45⟩ := id J46
  obtain ⟨T47, h47, X47, e47, W47, st47⟩ := stR X44 hx hZ e44 aA45 (j := (1 : Int32)) (inb_of aS45 ⟨by decide, by decide⟩) rfl (Sto.ofVA aA45 aq45 OV3 (Ins.self B44)) (g := (mkF m 53 #[.val (.ref ob0), .val (.ref ob1), .val (.int (3 : Int32)), .val (.int (3 : Int32)), .val (.int (1 : Int32))] [(.ref b44), (.int (1 : Int32)), (.ref b3)])) rfl rfl (hb hby d2_53)
  have V_b3_47 : Arv Z h47 b3 k3 (.array (.array .int)) (3 : Int32) [(.ref b16), (.ref b44), .null] .null := Arv.set aA45 aq45 aS45 aN45 aH45 aG45 rfl W47 1 rfl (Nat.le_of_ble_eq_true rfl)
  have N47 := Fr.snoc X47 N39 g_b3
  have O47 := O44.wr W47 g_b3
  have KK47 : Keep h0 h47 [ob0] := KK44.wr W47 (Or.inr sz_b3)
  have J48 := ((((J20.other W27 (Or.inl (Nat.ne_of_lt (Nat.lt_of_lt_of_le (Nat.lt_of_lt_of_le (Nat.lt_of_lt_of_le PE_ob0.lt E3.1) (Keep.of_wr W4).1) bo_b5)))).other W39 (Or.inl (Nat.ne_of_lt (Nat.lt_of_lt_of_le (Nat.lt_of_lt_of_le (Nat.lt_of_lt_of_le (Nat.lt_of_lt_of_le (Nat.lt_of_lt_of_le PE_ob0.lt E3.1) (Keep.of_wr W4).1) E5.1) (Keep.of_wr W8).1) bo_b9)))).ext E44).other W47 (Or.inl (Nat.ne_of_lt (Nat.lt_of_lt_of_le PE_ob0.lt bo_b3))))
  obtain ⟨T49, X49, e49, st49⟩ := getF X47 hx hZ hown (host := "") (Or.inl (hw _ (List.mem_of_getElem? (i := 19) rfl))) Via.refl e47 J48 (g := (mkF m 55 #[.val (.ref ob0), .val (.ref ob1), .val (.int (3 : Int32)), .val (.int (3 : Int32)), .val (.int (1 : Int32))] [(.ref ob0)])) rfl rfl (hb hby d2_55)
  obtain ⟨T50, X50, e50, st50⟩ := getF X49 hx hZ hown (host := "") (Or.inl (hw _ (List.mem_of_getElem? (i := 17) rfl))) Via.refl e49 ((J40.ext E44).other W47 (Or.inl (Nat.ne_of_lt (Nat.lt_of_lt_of_le PE_ob0.lt bo_b3)))) (g := (mkF m 61 #[.val (.ref ob0), .val (.ref ob1), .val (.int (3 : Int32)), .val (.int (3 : Int32)), .val (.int (1 : Int32))] [(.ref ob0), (.int (1 : Int32)), (.ref b5)])) rfl rfl (hb hby d2_61)
  obtain ⟨ac51, aA51, aq51, aS51, aN51, aH51, aG51⟩ := id V_b3_47
  obtain ⟨ac52, aA52, aq52, aS52, aN52, aH52, aG52⟩ := id (V_b44.other W47 (Ne.symm (Nat.ne_of_lt (Nat.lt_of_lt_of_le (Nat.lt_of_lt_of_le (Nat.lt_of_lt_of_le (Nat.lt_of_lt_of_le (Nat.lt_of_lt_of_le (Nat.lt_of_lt_of_le (Nat.lt_of_lt_of_le (Nat.lt_of_lt_of_le (Nat.lt_of_lt_of_le (Nat.lt_of_lt_of_le lb_b3 (Keep.of_wr W4).1) E5.1) (Keep.of_wr W8).1) E9.1) (Keep.of_wr W11).1) E16.1) (Keep.of_wr W19).1) (Keep.of_wr W27).1) (Keep.of_wr W39).1) bo_b44))))
  have J54 := (((V_b5_27.other W39 (Nat.ne_of_lt (Nat.lt_of_lt_of_le (Nat.lt_of_lt_of_le lb_b5 (Keep.of_wr W8).1) bo_b9))).ext E44).other W47 (Ne.symm (Nat.ne_of_lt (Nat.lt_of_lt_of_le (Nat.lt_of_lt_of_le lb_b3 (Keep.of_wr W4).1) bo_b5))))
  obtain ⟨ac53, aA53, aq53, aS53, aN53, aH53, aG53⟩ := id J54
  obtain ⟨T55, h55, X55, e55, W55, st55⟩ := stI X50 hx hZ e50 aA53 (j := (1 : Int32)) (inb_of aS53 ⟨by decide, by decide⟩) (g := (mkF m 68 #[.val (.ref ob0), .val (.ref ob1), .val (.int (3 : Int32)), .val (.int (3 : Int32)), .val (.int (1 : Int32))] [(.int (3 : Int32)), (.int (1 : Int32)), (.ref b5)])) rfl rfl (hb hby d2_68)
  have V_b5_55 : Arv Z h55 b5 k5 .int (3 : Int32) [(.int (3 : Int32)), (.int (3 : Int32)), (.int (0 : Int32))] (.int (0 : Int32)) := Arv.set aA53 aq53 aS53 aN53 aH53 aG53 rfl W55 1 rfl (Nat.le_of_ble_eq_true rfl)
  have N55 := Fr.snoc X55 N47 g_b5
  have O55 := O47.wr W55 g_b5
  have KK55 : Keep h0 h55 [ob0] := KK47.wr W55 (Or.inr sz_b5)
  obtain ⟨T56, X56, e56, st56⟩ := getF X55 hx hZ hown (host := "") (Or.inl (hw _ (List.mem_of_getElem? (i := 19) rfl))) Via.refl e55 (J48.other W55 (Or.inl (Nat.ne_of_lt (Nat.lt_of_lt_of_le (Nat.lt_of_lt_of_le (Nat.lt_of_lt_of_le PE_ob0.lt E3.1) (Keep.of_wr W4).1) bo_b5)))) (g := (mkF m 71 #[.val (.ref ob0), .val (.ref ob1), .val (.int (3 : Int32)), .val (.int (3 : Int32)), .val (.int (1 : Int32))] [(.ref ob0), (.int (3 : Int32))])) rfl rfl (hb hby d2_71)
  obtain ⟨ac57, aA57, aq57, aS57, aN57, aH57, aG57⟩ := id V_b5_55
  obtain ⟨T58, X58, e58, st58⟩ := getF X56 hx hZ hown (host := "") (Or.inl (hw _ (List.mem_of_getElem? (i := 19) rfl))) Via.refl e56 (J48.other W55 (Or.inl (Nat.ne_of_lt (Nat.lt_of_lt_of_le (Nat.lt_of_lt_of_le (Nat.lt_of_lt_of_le PE_ob0.lt E3.1) (Keep.of_wr W4).1) bo_b5)))) (g := (mkF m 80 #[.val (.ref ob0), .val (.ref ob1), .val (.int (3 : Int32)), .val (.int (6 : Int32)), .val (.int (1 : Int32))] [(.ref ob0)])) rfl rfl (hb hby d2_80)
  obtain ⟨ac59, aA59, aq59, aS59, aN59, aH59, aG59⟩ := id V_b5_55
  have J60 := ((((J32.other W39 (Or.inl (Nat.ne_of_lt (Nat.lt_of_lt_of_le (Nat.lt_of_lt_of_le (Nat.lt_of_lt_of_le (Nat.lt_of_lt_of_le (Nat.lt_of_lt_of_le PE_ob0.lt E3.1) (Keep.of_wr W4).1) E5.1) (Keep.of_wr W8).1) bo_b9)))).ext E44).other W47 (Or.inl (Nat.ne_of_lt (Nat.lt_of_lt_of_le PE_ob0.lt bo_b3)))).other W55 (Or.inl (Nat.ne_of_lt (Nat.lt_of_lt_of_le (Nat.lt_of_lt_of_le (Nat.lt_of_lt_of_le PE_ob0.lt E3.1) (Keep.of_wr W4).1) bo_b5))))
  obtain ⟨T61, X61, e61, st61⟩ := getF X58 hx hZ hown (host := "") (Or.inl (hw _ (List.mem_of_getElem? (i := 22) rfl))) Via.refl e58 J60 (g := (mkF m 92 #[.val (.ref ob0), .val (.ref ob1), .val (.int (3 : Int32)), .val (.int (6 : Int32)), .val (.int (1 : Int32))] [(.ref ob0)])) rfl rfl (hb hby d2_92)
  obtain ⟨T62, X62, e62, st62⟩ := getF X61 hx hZ hown (host := "") (Or.inl (hw _ (List.mem_of_getElem? (i := 19) rfl))) Via.refl e61 (J48.other W55 (Or.inl (Nat.ne_of_lt (Nat.lt_of_lt_of_le (Nat.lt_of_lt_of_le (Nat.lt_of_lt_of_le PE_ob0.lt E3.1) (Keep.of_wr W4).1) bo_b5)))) (g := (mkF m 98 #[.val (.ref ob0), .val (.ref ob1), .val (.int (3 : Int32)), .val (.int (6 : Int32)), .val (.int (1 : Int32))] [(.ref ob0), (.int (1 : Int32)), (.ref b9)])) rfl rfl (hb hby d2_98)
  obtain ⟨ac63, aA63, aq63, aS63, aN63, aH63, aG63⟩ := id V_b5_55
  obtain ⟨_, _, ⟨T64, L64, k64, n64⟩, -, X64, ⟨Lc64, hQ64, l64, y64, z64⟩, st64⟩ := Jvm.LawKit.callS X62 hx (y := (⟨"com/example/caprice/caprice/solver/Domains", "every", "(I)J"⟩ : MethodName)) hown (mvT hZ (hw _ (List.mem_of_getElem? (i := 27) rfl))) (mvT hZ (hw _ (List.mem_of_getElem? (i := 28) rfl))) (mvT hZ (hw _ (List.mem_of_getElem? (i := 8) rfl))) (mvT hZ (hw _ (List.mem_of_getElem? (i := 29) rfl))) (by decide) (backOf (W := 2) (rm4_0 l Z a0 hw []  h55 n0 (own_n0 O55) O55) hZ (hw _ (List.mem_of_getElem? (i := 29) rfl)) (hw _ (List.mem_of_getElem? (i := 8) rfl)) (by decide) (by decide)) (g := (mkF m 104 #[.val (.ref ob0), .val (.ref ob1), .val (.int (3 : Int32)), .val (.int (6 : Int32)), .val (.int (1 : Int32))] [(.int (3 : Int32)), (.int (1 : Int32)), (.ref b9)])) rfl (by rw [hml]; rfl) (argsL := [(.int (3 : Int32))]) (rest := [(.int (1 : Int32)), (.ref b9)]) (lenOf pd73 rfl) rfl (by show 2 * 0 + _ ≤ _; exact Nat.le_of_eq rfl) (hb hby d2_104) (fun _ _ => ⟨rfl, e62, (by decide : 5 + 0 ≤ _), (by decide : 15 + 0 ≤ _)⟩)
  dsimp only [Pt.U, Pt.locs, Pt.cells, Pt.slots] at X64 l64 y64 z64 st64 hQ64
  subst l64 y64 z64
  obtain ⟨rfl, N64q, e64⟩ := hQ64
  have N64 := Fr.app N55 N64q
  have J66 := (((V_b9_39.ext E44).other W47 (Ne.symm (Nat.ne_of_lt (Nat.lt_of_lt_of_le (Nat.lt_of_lt_of_le (Nat.lt_of_lt_of_le (Nat.lt_of_lt_of_le lb_b3 (Keep.of_wr W4).1) E5.1) (Keep.of_wr W8).1) bo_b9)))).other W55 (Ne.symm (Nat.ne_of_lt (Nat.lt_of_lt_of_le (Nat.lt_of_lt_of_le lb_b5 (Keep.of_wr W8).1) bo_b9))))
  obtain ⟨ac65, aA65, aq65, aS65, aN65, aH65, aG65⟩ := id J66
  obtain ⟨T67, h67, X67, e67, W67, st67⟩ := stJ X64 hx hZ e64 aA65 (j := (1 : Int32)) (inb_of aS65 ⟨by decide, by decide⟩) (g := (mkF m 107 #[.val (.ref ob0), .val (.ref ob1), .val (.int (3 : Int32)), .val (.int (6 : Int32)), .val (.int (1 : Int32))] [(.long (7 : Int64)), (.int (1 : Int32)), (.ref b9)])) rfl rfl (hb hby d2_107)
  have V_b9_67 : Arv Z h67 b9 k9 .long (3 : Int32) [(.long (7 : Int64)), (.long (7 : Int64)), (.long (0 : Int64))] (.long (0 : Int64)) := Arv.set aA65 aq65 aS65 aN65 aH65 aG65 rfl W67 1 rfl (Nat.le_of_ble_eq_true rfl)
  have N67 := Fr.snoc X67 N64 g_b9
  have O67 := O55.wr W67 g_b9
  have KK67 : Keep h0 h67 [ob0] := KK55.wr W67 (Or.inr sz_b9)
  have J68 := ((((J40.ext E44).other W47 (Or.inl (Nat.ne_of_lt (Nat.lt_of_lt_of_le PE_ob0.lt bo_b3)))).other W55 (Or.inl (Nat.ne_of_lt (Nat.lt_of_lt_of_le (Nat.lt_of_lt_of_le (Nat.lt_of_lt_of_le PE_ob0.lt E3.1) (Keep.of_wr W4).1) bo_b5)))).other W67 (Or.inl (Nat.ne_of_lt (Nat.lt_of_lt_of_le (Nat.lt_of_lt_of_le (Nat.lt_of_lt_of_le (Nat.lt_of_lt_of_le (Nat.lt_of_lt_of_le PE_ob0.lt E3.1) (Keep.of_wr W4).1) E5.1) (Keep.of_wr W8).1) bo_b9))))
  obtain ⟨T69, X69, e69, st69⟩ := getF X67 hx hZ hown (host := "") (Or.inl (hw _ (List.mem_of_getElem? (i := 17) rfl))) Via.refl e67 J68 (g := (mkF m 41 #[.val (.ref ob0), .val (.ref ob1), .val (.int (3 : Int32)), .val (.int (6 : Int32)), .val (.int (2 : Int32))] [(.ref ob0)])) rfl rfl (hb hby d2_41)
  have J71 := ((((J43.ext E44).other W47 (Nat.ne_of_lt (Nat.lt_of_lt_of_le PV_ob1.lt bo_b3))).other W55 (Nat.ne_of_lt (Nat.lt_of_lt_of_le (Nat.lt_of_lt_of_le (Nat.lt_of_lt_of_le PV_ob1.lt E3.1) (Keep.of_wr W4).1) bo_b5))).other W67 (Nat.ne_of_lt (Nat.lt_of_lt_of_le (Nat.lt_of_lt_of_le (Nat.lt_of_lt_of_le (Nat.lt_of_lt_of_le (Nat.lt_of_lt_of_le PV_ob1.lt E3.1) (Keep.of_wr W4).1) E5.1) (Keep.of_wr W8).1) bo_b9)))
  obtain ⟨ac70, aA70, aq70, aS70, aN70, aH70, aG70⟩ := id J71
  obtain ⟨T72, h72, k72, X72, e72, E72, A72, B72, OV72, st72⟩ := newRA X69 hx hZ hown (C := "[I") (by decide) (hw _ (List.mem_of_getElem? (i := 24) rfl)) (hw _ (List.mem_of_getElem? (i := 25) rfl)) e69 (g := (mkF m 50 #[.val (.ref ob0), .val (.ref ob1), .val (.int (3 : Int32)), .val (.int (6 : Int32)), .val (.int (2 : Int32))] [(.int (3 : Int32)), (.int (2 : Int32)), (.ref b3)])) rfl (hb hby d2_50) rfl (by decide) (cap := 3) (by decide) (by decide) (by decide) (by decide) (ad := "[[I") (by decide)
  obtain ⟨b72, gg72⟩ : ∃ z, z = h67.size := ⟨_, rfl⟩
  rw [← gg72] at A72 B72 st72
  have bo_b72 : h67.size ≤ b72 := Nat.le_of_eq gg72.symm
  have g_b72 : n0 ≤ b72 := Nat.le_trans (own_n0 O67) bo_b72
  have sz_b72 : h0.size ≤ b72 := Nat.le_trans KK67.1 bo_b72
  have V_b72 : Arv Z h72 b72 k72 (.array .int) (3 : Int32) [.null, .null, .null] .null := (Arv.new A72 (by decide)).pad (pad_rep [] .null 3)
  have lb_b72 : b72 < h72.size := A72.lt
  have KK72 : Keep h0 h72 [ob0] := KK67.ext E72
  have O72 := O67.ext E72
  have J74 := (((V_b3_47.other W55 (Nat.ne_of_lt (Nat.lt_of_lt_of_le (Nat.lt_of_lt_of_le lb_b3 (Keep.of_wr W4).1) bo_b5))).other W67 (Nat.ne_of_lt (Nat.lt_of_lt_of_le (Nat.lt_of_lt_of_le (Nat.lt_of_lt_of_le (Nat.lt_of_lt_of_le lb_b3 (Keep.of_wr W4).1) E5.1) (Keep.of_wr W8).1) bo_b9))).ext E72)
  obtain ⟨ac73, aA73, aq73, aS73, aN73, aH73, aG73⟩ := id J74
  obtain ⟨T75, h75, X75, e75, W75, st75⟩ := stR X72 hx hZ e72 aA73 (j := (2 : Int32)) (inb_of aS73 ⟨by decide, by decide⟩) rfl (Sto.ofVA aA73 aq73 OV3 (Ins.self B72)) (g := (mkF m 53 #[.val (.ref ob0), .val (.ref ob1), .val (.int (3 : Int32)), .val (.int (6 : Int32)), .val (.int (2 : Int32))] [(.ref b72), (.int (2 : Int32)), (.ref b3)])) rfl rfl (hb hby d2_53)
  have V_b3_75 : Arv Z h75 b3 k3 (.array (.array .int)) (3 : Int32) [(.ref b16), (.ref b44), (.ref b72)] .null := Arv.set aA73 aq73 aS73 aN73 aH73 aG73 rfl W75 2 rfl (Nat.le_of_ble_eq_true rfl)
  have N75 := Fr.snoc X75 N67 g_b3
  have O75 := O72.wr W75 g_b3
  have KK75 : Keep h0 h75 [ob0] := KK72.wr W75 (Or.inr sz_b3)
  have J76 := ((((J48.other W55 (Or.inl (Nat.ne_of_lt (Nat.lt_of_lt_of_le (Nat.lt_of_lt_of_le (Nat.lt_of_lt_of_le PE_ob0.lt E3.1) (Keep.of_wr W4).1) bo_b5)))).other W67 (Or.inl (Nat.ne_of_lt (Nat.lt_of_lt_of_le (Nat.lt_of_lt_of_le (Nat.lt_of_lt_of_le (Nat.lt_of_lt_of_le (Nat.lt_of_lt_of_le PE_ob0.lt E3.1) (Keep.of_wr W4).1) E5.1) (Keep.of_wr W8).1) bo_b9)))).ext E72).other W75 (Or.inl (Nat.ne_of_lt (Nat.lt_of_lt_of_le PE_ob0.lt bo_b3))))
  obtain ⟨T77, X77, e77, st77⟩ := getF X75 hx hZ hown (host := "") (Or.inl (hw _ (List.mem_of_getElem? (i := 19) rfl))) Via.refl e75 J76 (g := (mkF m 55 #[.val (.ref ob0), .val (.ref ob1), .val (.int (3 : Int32)), .val (.int (6 : Int32)), .val (.int (2 : Int32))] [(.ref ob0)])) rfl rfl (hb hby d2_55)
  obtain ⟨T78, X78, e78, st78⟩ := getF X77 hx hZ hown (host := "") (Or.inl (hw _ (List.mem_of_getElem? (i := 17) rfl))) Via.refl e77 ((J68.ext E72).other W75 (Or.inl (Nat.ne_of_lt (Nat.lt_of_lt_of_le PE_ob0.lt bo_b3)))) (g := (mkF m 61 #[.val (.ref ob0), .val (.ref ob1), .val (.int (3 : Int32)), .val (.int (6 : Int32)), .val (.int (2 : Int32))] [(.ref ob0), (.int (2 : Int32)), (.ref b5)])) rfl rfl (hb hby d2_61)
  obtain ⟨ac79, aA79, aq79, aS79, aN79, aH79, aG79⟩ := id V_b3_75
  obtain ⟨ac80, aA80, aq80, aS80, aN80, aH80, aG80⟩ := id (V_b72.other W75 (Ne.symm (Nat.ne_of_lt (Nat.lt_of_lt_of_le (Nat.lt_of_lt_of_le (Nat.lt_of_lt_of_le (Nat.lt_of_lt_of_le (Nat.lt_of_lt_of_le (Nat.lt_of_lt_of_le (Nat.lt_of_lt_of_le (Nat.lt_of_lt_of_le (Nat.lt_of_lt_of_le (Nat.lt_of_lt_of_le (Nat.lt_of_lt_of_le (Nat.lt_of_lt_of_le (Nat.lt_of_lt_of_le (Nat.lt_of_lt_of_le lb_b3 (Keep.of_wr W4).1) E5.1) (Keep.of_wr W8).1) E9.1) (Keep.of_wr W11).1) E16.1) (Keep.of_wr W19).1) (Keep.of_wr W27).1) (Keep.of_wr W39).1) E44.1) (Keep.of_wr W47).1) (Keep.of_wr W55).1) (Keep.of_wr W67).1) bo_b72))))
  have J82 := (((V_b5_55.other W67 (Nat.ne_of_lt (Nat.lt_of_lt_of_le (Nat.lt_of_lt_of_le lb_b5 (Keep.of_wr W8).1) bo_b9))).ext E72).other W75 (Ne.symm (Nat.ne_of_lt (Nat.lt_of_lt_of_le (Nat.lt_of_lt_of_le lb_b3 (Keep.of_wr W4).1) bo_b5))))
  obtain ⟨ac81, aA81, aq81, aS81, aN81, aH81, aG81⟩ := id J82
  obtain ⟨T83, h83, X83, e83, W83, st83⟩ := stI X78 hx hZ e78 aA81 (j := (2 : Int32)) (inb_of aS81 ⟨by decide, by decide⟩) (g := (mkF m 68 #[.val (.ref ob0), .val (.ref ob1), .val (.int (3 : Int32)), .val (.int (6 : Int32)), .val (.int (2 : Int32))] [(.int (3 : Int32)), (.int (2 : Int32)), (.ref b5)])) rfl rfl (hb hby d2_68)
  have V_b5_83 : Arv Z h83 b5 k5 .int (3 : Int32) [(.int (3 : Int32)), (.int (3 : Int32)), (.int (3 : Int32))] (.int (0 : Int32)) := Arv.set aA81 aq81 aS81 aN81 aH81 aG81 rfl W83 2 rfl (Nat.le_of_ble_eq_true rfl)
  have N83 := Fr.snoc X83 N75 g_b5
  have O83 := O75.wr W83 g_b5
  have KK83 : Keep h0 h83 [ob0] := KK75.wr W83 (Or.inr sz_b5)
  obtain ⟨T84, X84, e84, st84⟩ := getF X83 hx hZ hown (host := "") (Or.inl (hw _ (List.mem_of_getElem? (i := 19) rfl))) Via.refl e83 (J76.other W83 (Or.inl (Nat.ne_of_lt (Nat.lt_of_lt_of_le (Nat.lt_of_lt_of_le (Nat.lt_of_lt_of_le PE_ob0.lt E3.1) (Keep.of_wr W4).1) bo_b5)))) (g := (mkF m 71 #[.val (.ref ob0), .val (.ref ob1), .val (.int (3 : Int32)), .val (.int (6 : Int32)), .val (.int (2 : Int32))] [(.ref ob0), (.int (6 : Int32))])) rfl rfl (hb hby d2_71)
  obtain ⟨ac85, aA85, aq85, aS85, aN85, aH85, aG85⟩ := id V_b5_83
  obtain ⟨T86, X86, e86, st86⟩ := getF X84 hx hZ hown (host := "") (Or.inl (hw _ (List.mem_of_getElem? (i := 19) rfl))) Via.refl e84 (J76.other W83 (Or.inl (Nat.ne_of_lt (Nat.lt_of_lt_of_le (Nat.lt_of_lt_of_le (Nat.lt_of_lt_of_le PE_ob0.lt E3.1) (Keep.of_wr W4).1) bo_b5)))) (g := (mkF m 80 #[.val (.ref ob0), .val (.ref ob1), .val (.int (3 : Int32)), .val (.int (9 : Int32)), .val (.int (2 : Int32))] [(.ref ob0)])) rfl rfl (hb hby d2_80)
  obtain ⟨ac87, aA87, aq87, aS87, aN87, aH87, aG87⟩ := id V_b5_83
  have J88 := ((((J60.other W67 (Or.inl (Nat.ne_of_lt (Nat.lt_of_lt_of_le (Nat.lt_of_lt_of_le (Nat.lt_of_lt_of_le (Nat.lt_of_lt_of_le (Nat.lt_of_lt_of_le PE_ob0.lt E3.1) (Keep.of_wr W4).1) E5.1) (Keep.of_wr W8).1) bo_b9)))).ext E72).other W75 (Or.inl (Nat.ne_of_lt (Nat.lt_of_lt_of_le PE_ob0.lt bo_b3)))).other W83 (Or.inl (Nat.ne_of_lt (Nat.lt_of_lt_of_le (Nat.lt_of_lt_of_le (Nat.lt_of_lt_of_le PE_ob0.lt E3.1) (Keep.of_wr W4).1) bo_b5))))
  obtain ⟨T89, X89, e89, st89⟩ := getF X86 hx hZ hown (host := "") (Or.inl (hw _ (List.mem_of_getElem? (i := 22) rfl))) Via.refl e86 J88 (g := (mkF m 92 #[.val (.ref ob0), .val (.ref ob1), .val (.int (3 : Int32)), .val (.int (9 : Int32)), .val (.int (2 : Int32))] [(.ref ob0)])) rfl rfl (hb hby d2_92)
  obtain ⟨T90, X90, e90, st90⟩ := getF X89 hx hZ hown (host := "") (Or.inl (hw _ (List.mem_of_getElem? (i := 19) rfl))) Via.refl e89 (J76.other W83 (Or.inl (Nat.ne_of_lt (Nat.lt_of_lt_of_le (Nat.lt_of_lt_of_le (Nat.lt_of_lt_of_le PE_ob0.lt E3.1) (Keep.of_wr W4).1) bo_b5)))) (g := (mkF m 98 #[.val (.ref ob0), .val (.ref ob1), .val (.int (3 : Int32)), .val (.int (9 : Int32)), .val (.int (2 : Int32))] [(.ref ob0), (.int (2 : Int32)), (.ref b9)])) rfl rfl (hb hby d2_98)
  obtain ⟨ac91, aA91, aq91, aS91, aN91, aH91, aG91⟩ := id V_b5_83
  obtain ⟨_, _, ⟨T92, L92, k92, n92⟩, -, X92, ⟨Lc92, hQ92, l92, y92, z92⟩, st92⟩ := Jvm.LawKit.callS X90 hx (y := (⟨"com/example/caprice/caprice/solver/Domains", "every", "(I)J"⟩ : MethodName)) hown (mvT hZ (hw _ (List.mem_of_getElem? (i := 27) rfl))) (mvT hZ (hw _ (List.mem_of_getElem? (i := 28) rfl))) (mvT hZ (hw _ (List.mem_of_getElem? (i := 8) rfl))) (mvT hZ (hw _ (List.mem_of_getElem? (i := 29) rfl))) (by decide) (backOf (W := 2) (rm4_0 l Z a0 hw []  h83 n0 (own_n0 O83) O83) hZ (hw _ (List.mem_of_getElem? (i := 29) rfl)) (hw _ (List.mem_of_getElem? (i := 8) rfl)) (by decide) (by decide)) (g := (mkF m 104 #[.val (.ref ob0), .val (.ref ob1), .val (.int (3 : Int32)), .val (.int (9 : Int32)), .val (.int (2 : Int32))] [(.int (3 : Int32)), (.int (2 : Int32)), (.ref b9)])) rfl (by rw [hml]; rfl) (argsL := [(.int (3 : Int32))]) (rest := [(.int (2 : Int32)), (.ref b9)]) (lenOf pd73 rfl) rfl (by show 2 * 0 + _ ≤ _; exact Nat.le_of_eq rfl) (hb hby d2_104) (fun _ _ => ⟨rfl, e90, (by decide : 6 + 0 ≤ _), (by decide : 18 + 0 ≤ _)⟩)
  dsimp only [Pt.U, Pt.locs, Pt.cells, Pt.slots] at X92 l92 y92 z92 st92 hQ92
  subst l92 y92 z92
  obtain ⟨rfl, N92q, e92⟩ := hQ92
  have N92 := Fr.app N83 N92q
  have J94 := (((V_b9_67.ext E72).other W75 (Ne.symm (Nat.ne_of_lt (Nat.lt_of_lt_of_le (Nat.lt_of_lt_of_le (Nat.lt_of_lt_of_le (Nat.lt_of_lt_of_le lb_b3 (Keep.of_wr W4).1) E5.1) (Keep.of_wr W8).1) bo_b9)))).other W83 (Ne.symm (Nat.ne_of_lt (Nat.lt_of_lt_of_le (Nat.lt_of_lt_of_le lb_b5 (Keep.of_wr W8).1) bo_b9))))
  obtain ⟨ac93, aA93, aq93, aS93, aN93, aH93, aG93⟩ := id J94
  obtain ⟨T95, h95, X95, e95, W95, st95⟩ := stJ X92 hx hZ e92 aA93 (j := (2 : Int32)) (inb_of aS93 ⟨by decide, by decide⟩) (g := (mkF m 107 #[.val (.ref ob0), .val (.ref ob1), .val (.int (3 : Int32)), .val (.int (9 : Int32)), .val (.int (2 : Int32))] [(.long (7 : Int64)), (.int (2 : Int32)), (.ref b9)])) rfl rfl (hb hby d2_107)
  have V_b9_95 : Arv Z h95 b9 k9 .long (3 : Int32) [(.long (7 : Int64)), (.long (7 : Int64)), (.long (7 : Int64))] (.long (0 : Int64)) := Arv.set aA93 aq93 aS93 aN93 aH93 aG93 rfl W95 2 rfl (Nat.le_of_ble_eq_true rfl)
  have N95 := Fr.snoc X95 N92 g_b9
  have O95 := O83.wr W95 g_b9
  have KK95 : Keep h0 h95 [ob0] := KK83.wr W95 (Or.inr sz_b9)
  obtain ⟨T96, h96, k96, X96, e96, E96, A96, B96, st96⟩ := newPE X95 hx hZ (hw _ (List.mem_of_getElem? (i := 5) rfl)) e95 (g := (mkF m 118 #[.val (.ref ob0), .val (.ref ob1), .val (.int (3 : Int32)), .val (.int (9 : Int32)), .val (.int (3 : Int32))] [(.int (18 : Int32)), (.ref ob0)])) rfl (hb hby d2_118) rfl (by decide) (cap := 18) (by decide) (by decide) (by decide) (by decide) (ad := "[I") (by decide)
  obtain ⟨b96, gg96⟩ : ∃ z, z = h95.size := ⟨_, rfl⟩
  rw [← gg96] at A96 B96 st96
  have bo_b96 : h95.size ≤ b96 := Nat.le_of_eq gg96.symm
  have g_b96 : n0 ≤ b96 := Nat.le_trans (own_n0 O95) bo_b96
  have sz_b96 : h0.size ≤ b96 := Nat.le_trans KK95.1 bo_b96
  have V_b96 : Arv Z h96 b96 k96 .int (18 : Int32) [] (.int (0 : Int32)) := Arv.new A96 (by decide)
  have lb_b96 : b96 < h96.size := A96.lt
  have KK96 : Keep h0 h96 [ob0] := KK95.ext E96
  have O96 := O95.ext E96
  have J97 := (((((((((((((((((((PF_ob0_trail.ext E3).other W4 (Or.inr (slot_ne (Or.inr (hw _ (List.mem_of_getElem? (i := 31) rfl))) (Or.inr (hw _ (List.mem_of_getElem? (i := 18) rfl))) (by decide) (t := (.array .int)) (t' := (.array (.array (.array .int)))) (by decide) (by decide)))).ext E5).other W8 (Or.inr (slot_ne (Or.inr (hw _ (List.mem_of_getElem? (i := 31) rfl))) (Or.inr (hw _ (List.mem_of_getElem? (i := 20) rfl))) (by decide) (t := (.array .int)) (t' := (.array .int)) (by decide) (by decide)))).ext E9).other W11 (Or.inr (slot_ne (Or.inr (hw _ (List.mem_of_getElem? (i := 31) rfl))) (Or.inr (hw _ (List.mem_of_getElem? (i := 23) rfl))) (by decide) (t := (.array .int)) (t' := (.array .long)) (by decide) (by decide)))).ext E16).other W19 (Or.inl (Nat.ne_of_lt (Nat.lt_of_lt_of_le PE_ob0.lt bo_b3)))).other W27 (Or.inl (Nat.ne_of_lt (Nat.lt_of_lt_of_le (Nat.lt_of_lt_of_le (Nat.lt_of_lt_of_le PE_ob0.lt E3.1) (Keep.of_wr W4).1) bo_b5)))).other W39 (Or.inl (Nat.ne_of_lt (Nat.lt_of_lt_of_le (Nat.lt_of_lt_of_le (Nat.lt_of_lt_of_le (Nat.lt_of_lt_of_le (Nat.lt_of_lt_of_le PE_ob0.lt E3.1) (Keep.of_wr W4).1) E5.1) (Keep.of_wr W8).1) bo_b9)))).ext E44).other W47 (Or.inl (Nat.ne_of_lt (Nat.lt_of_lt_of_le PE_ob0.lt bo_b3)))).other W55 (Or.inl (Nat.ne_of_lt (Nat.lt_of_lt_of_le (Nat.lt_of_lt_of_le (Nat.lt_of_lt_of_le PE_ob0.lt E3.1) (Keep.of_wr W4).1) bo_b5)))).other W67 (Or.inl (Nat.ne_of_lt (Nat.lt_of_lt_of_le (Nat.lt_of_lt_of_le (Nat.lt_of_lt_of_le (Nat.lt_of_lt_of_le (Nat.lt_of_lt_of_le PE_ob0.lt E3.1) (Keep.of_wr W4).1) E5.1) (Keep.of_wr W8).1) bo_b9)))).ext E72).other W75 (Or.inl (Nat.ne_of_lt (Nat.lt_of_lt_of_le PE_ob0.lt bo_b3)))).other W83 (Or.inl (Nat.ne_of_lt (Nat.lt_of_lt_of_le (Nat.lt_of_lt_of_le (Nat.lt_of_lt_of_le PE_ob0.lt E3.1) (Keep.of_wr W4).1) bo_b5)))).other W95 (Or.inl (Nat.ne_of_lt (Nat.lt_of_lt_of_le (Nat.lt_of_lt_of_le (Nat.lt_of_lt_of_le (Nat.lt_of_lt_of_le (Nat.lt_of_lt_of_le PE_ob0.lt E3.1) (Keep.of_wr W4).1) E5.1) (Keep.of_wr W8).1) bo_b9)))).ext E96)
  have J98 := ((((((((((((((((J7.wr W8).ext E9).wr W11).ext E16).wr W19).wr W27).wr W39).ext E44).wr W47).wr W55).wr W67).ext E72).wr W75).wr W83).wr W95).ext E96)
  obtain ⟨T99, h99, X99, e99, W99, st99⟩ := putF X96 hx hZ hown (host := "") (Or.inl (hw _ (List.mem_of_getElem? (i := 30) rfl))) Via.refl e96 J97 J98 (Or.inr ⟨(hw _ (List.mem_of_getElem? (i := 31) rfl)), rfl, hnm⟩) (hw _ (List.mem_of_getElem? (i := 7) rfl)) (ty := (.array .int)) (by decide) rfl rfl (g := (mkF m 120 #[.val (.ref ob0), .val (.ref ob1), .val (.int (3 : Int32)), .val (.int (9 : Int32)), .val (.int (3 : Int32))] [(.ref b96), (.ref ob0)])) rfl rfl (hb hby d2_120)
  have Fw99 := J97.same W99
  have N99 := Fr.snoc X99 N95 g_ob0
  have O99 := O96.wr W99 g_ob0
  have KK99 : Keep h0 h99 [ob0] := KK96.wr W99 (Or.inl (List.mem_of_getElem? (i := 0) rfl))
  obtain ⟨T100, h100, k100, X100, e100, E100, A100, B100, st100⟩ := newPE X99 hx hZ (hw _ (List.mem_of_getElem? (i := 5) rfl)) e99 (g := (mkF m 125 #[.val (.ref ob0), .val (.ref ob1), .val (.int (3 : Int32)), .val (.int (9 : Int32)), .val (.int (3 : Int32))] [(.int (3 : Int32)), (.ref ob0)])) rfl (hb hby d2_125) rfl (by decide) (cap := 3) (by decide) (by decide) (by decide) (by decide) (ad := "[I") (by decide)
  obtain ⟨b100, gg100⟩ : ∃ z, z = h99.size := ⟨_, rfl⟩
  rw [← gg100] at A100 B100 st100
  have bo_b100 : h99.size ≤ b100 := Nat.le_of_eq gg100.symm
  have g_b100 : n0 ≤ b100 := Nat.le_trans (own_n0 O99) bo_b100
  have sz_b100 : h0.size ≤ b100 := Nat.le_trans KK99.1 bo_b100
  have V_b100 : Arv Z h100 b100 k100 .int (3 : Int32) [(.int (0 : Int32)), (.int (0 : Int32)), (.int (0 : Int32))] (.int (0 : Int32)) := (Arv.new A100 (by decide)).pad (pad_rep [] (.int (0 : Int32)) 3)
  have lb_b100 : b100 < h100.size := A100.lt
  have KK100 : Keep h0 h100 [ob0] := KK99.ext E100
  have O100 := O99.ext E100
  have J101 := (((((((((((((((((((((PF_ob0_gathered.ext E3).other W4 (Or.inr (slot_ne (Or.inr (hw _ (List.mem_of_getElem? (i := 33) rfl))) (Or.inr (hw _ (List.mem_of_getElem? (i := 18) rfl))) (by decide) (t := (.array .int)) (t' := (.array (.array (.array .int)))) (by decide) (by decide)))).ext E5).other W8 (Or.inr (slot_ne (Or.inr (hw _ (List.mem_of_getElem? (i := 33) rfl))) (Or.inr (hw _ (List.mem_of_getElem? (i := 20) rfl))) (by decide) (t := (.array .int)) (t' := (.array .int)) (by decide) (by decide)))).ext E9).other W11 (Or.inr (slot_ne (Or.inr (hw _ (List.mem_of_getElem? (i := 33) rfl))) (Or.inr (hw _ (List.mem_of_getElem? (i := 23) rfl))) (by decide) (t := (.array .int)) (t' := (.array .long)) (by decide) (by decide)))).ext E16).other W19 (Or.inl (Nat.ne_of_lt (Nat.lt_of_lt_of_le PE_ob0.lt bo_b3)))).other W27 (Or.inl (Nat.ne_of_lt (Nat.lt_of_lt_of_le (Nat.lt_of_lt_of_le (Nat.lt_of_lt_of_le PE_ob0.lt E3.1) (Keep.of_wr W4).1) bo_b5)))).other W39 (Or.inl (Nat.ne_of_lt (Nat.lt_of_lt_of_le (Nat.lt_of_lt_of_le (Nat.lt_of_lt_of_le (Nat.lt_of_lt_of_le (Nat.lt_of_lt_of_le PE_ob0.lt E3.1) (Keep.of_wr W4).1) E5.1) (Keep.of_wr W8).1) bo_b9)))).ext E44).other W47 (Or.inl (Nat.ne_of_lt (Nat.lt_of_lt_of_le PE_ob0.lt bo_b3)))).other W55 (Or.inl (Nat.ne_of_lt (Nat.lt_of_lt_of_le (Nat.lt_of_lt_of_le (Nat.lt_of_lt_of_le PE_ob0.lt E3.1) (Keep.of_wr W4).1) bo_b5)))).other W67 (Or.inl (Nat.ne_of_lt (Nat.lt_of_lt_of_le (Nat.lt_of_lt_of_le (Nat.lt_of_lt_of_le (Nat.lt_of_lt_of_le (Nat.lt_of_lt_of_le PE_ob0.lt E3.1) (Keep.of_wr W4).1) E5.1) (Keep.of_wr W8).1) bo_b9)))).ext E72).other W75 (Or.inl (Nat.ne_of_lt (Nat.lt_of_lt_of_le PE_ob0.lt bo_b3)))).other W83 (Or.inl (Nat.ne_of_lt (Nat.lt_of_lt_of_le (Nat.lt_of_lt_of_le (Nat.lt_of_lt_of_le PE_ob0.lt E3.1) (Keep.of_wr W4).1) bo_b5)))).other W95 (Or.inl (Nat.ne_of_lt (Nat.lt_of_lt_of_le (Nat.lt_of_lt_of_le (Nat.lt_of_lt_of_le (Nat.lt_of_lt_of_le (Nat.lt_of_lt_of_le PE_ob0.lt E3.1) (Keep.of_wr W4).1) E5.1) (Keep.of_wr W8).1) bo_b9)))).ext E96).other W99 (Or.inr (slot_ne (Or.inr (hw _ (List.mem_of_getElem? (i := 33) rfl))) (Or.inr (hw _ (List.mem_of_getElem? (i := 31) rfl))) (by decide) (t := (.array .int)) (t' := (.array .int)) (by decide) (by decide)))).ext E100)
  obtain ⟨T102, h102, X102, e102, W102, st102⟩ := putF X100 hx hZ hown (host := "") (Or.inl (hw _ (List.mem_of_getElem? (i := 32) rfl))) Via.refl e100 J101 ((J98.wr W99).ext E100) (Or.inr ⟨(hw _ (List.mem_of_getElem? (i := 33) rfl)), rfl, hnm⟩) (hw _ (List.mem_of_getElem? (i := 7) rfl)) (ty := (.array .int)) (by decide) rfl rfl (g := (mkF m 127 #[.val (.ref ob0), .val (.ref ob1), .val (.int (3 : Int32)), .val (.int (9 : Int32)), .val (.int (3 : Int32))] [(.ref b100), (.ref ob0)])) rfl rfl (hb hby d2_127)
  have Fw102 := J101.same W102
  have N102 := Fr.snoc X102 N99 g_ob0
  have O102 := O100.wr W102 g_ob0
  have KK102 : Keep h0 h102 [ob0] := KK100.wr W102 (Or.inl (List.mem_of_getElem? (i := 0) rfl))
  obtain ⟨T103, h103, k103, X103, e103, E103, A103, B103, st103⟩ := newPE X102 hx hZ (hw _ (List.mem_of_getElem? (i := 34) rfl)) e102 (g := (mkF m 132 #[.val (.ref ob0), .val (.ref ob1), .val (.int (3 : Int32)), .val (.int (9 : Int32)), .val (.int (3 : Int32))] [(.int (3 : Int32)), (.ref ob0)])) rfl (hb hby d2_132) rfl (by decide) (cap := 3) (by decide) (by decide) (by decide) (by decide) (ad := "[Z") (by decide)
  obtain ⟨b103, gg103⟩ : ∃ z, z = h102.size := ⟨_, rfl⟩
  rw [← gg103] at A103 B103 st103
  have bo_b103 : h102.size ≤ b103 := Nat.le_of_eq gg103.symm
  have g_b103 : n0 ≤ b103 := Nat.le_trans (own_n0 O102) bo_b103
  have sz_b103 : h0.size ≤ b103 := Nat.le_trans KK102.1 bo_b103
  have V_b103 : Arv Z h103 b103 k103 .boolean (3 : Int32) [(.int (0 : Int32)), (.int (0 : Int32)), (.int (0 : Int32))] (.int (0 : Int32)) := (Arv.new A103 (by decide)).pad (pad_rep [] (.int (0 : Int32)) 3)
  have lb_b103 : b103 < h103.size := A103.lt
  have KK103 : Keep h0 h103 [ob0] := KK102.ext E103
  have O103 := O102.ext E103
  have J104 := (((((((((((((((((((((((PF_ob0_marked.ext E3).other W4 (Or.inr (slot_ne (Or.inr (hw _ (List.mem_of_getElem? (i := 36) rfl))) (Or.inr (hw _ (List.mem_of_getElem? (i := 18) rfl))) (by decide) (t := (.array .boolean)) (t' := (.array (.array (.array .int)))) (by decide) (by decide)))).ext E5).other W8 (Or.inr (slot_ne (Or.inr (hw _ (List.mem_of_getElem? (i := 36) rfl))) (Or.inr (hw _ (List.mem_of_getElem? (i := 20) rfl))) (by decide) (t := (.array .boolean)) (t' := (.array .int)) (by decide) (by decide)))).ext E9).other W11 (Or.inr (slot_ne (Or.inr (hw _ (List.mem_of_getElem? (i := 36) rfl))) (Or.inr (hw _ (List.mem_of_getElem? (i := 23) rfl))) (by decide) (t := (.array .boolean)) (t' := (.array .long)) (by decide) (by decide)))).ext E16).other W19 (Or.inl (Nat.ne_of_lt (Nat.lt_of_lt_of_le PE_ob0.lt bo_b3)))).other W27 (Or.inl (Nat.ne_of_lt (Nat.lt_of_lt_of_le (Nat.lt_of_lt_of_le (Nat.lt_of_lt_of_le PE_ob0.lt E3.1) (Keep.of_wr W4).1) bo_b5)))).other W39 (Or.inl (Nat.ne_of_lt (Nat.lt_of_lt_of_le (Nat.lt_of_lt_of_le (Nat.lt_of_lt_of_le (Nat.lt_of_lt_of_le (Nat.lt_of_lt_of_le PE_ob0.lt E3.1) (Keep.of_wr W4).1) E5.1) (Keep.of_wr W8).1) bo_b9)))).ext E44).other W47 (Or.inl (Nat.ne_of_lt (Nat.lt_of_lt_of_le PE_ob0.lt bo_b3)))).other W55 (Or.inl (Nat.ne_of_lt (Nat.lt_of_lt_of_le (Nat.lt_of_lt_of_le (Nat.lt_of_lt_of_le PE_ob0.lt E3.1) (Keep.of_wr W4).1) bo_b5)))).other W67 (Or.inl (Nat.ne_of_lt (Nat.lt_of_lt_of_le (Nat.lt_of_lt_of_le (Nat.lt_of_lt_of_le (Nat.lt_of_lt_of_le (Nat.lt_of_lt_of_le PE_ob0.lt E3.1) (Keep.of_wr W4).1) E5.1) (Keep.of_wr W8).1) bo_b9)))).ext E72).other W75 (Or.inl (Nat.ne_of_lt (Nat.lt_of_lt_of_le PE_ob0.lt bo_b3)))).other W83 (Or.inl (Nat.ne_of_lt (Nat.lt_of_lt_of_le (Nat.lt_of_lt_of_le (Nat.lt_of_lt_of_le PE_ob0.lt E3.1) (Keep.of_wr W4).1) bo_b5)))).other W95 (Or.inl (Nat.ne_of_lt (Nat.lt_of_lt_of_le (Nat.lt_of_lt_of_le (Nat.lt_of_lt_of_le (Nat.lt_of_lt_of_le (Nat.lt_of_lt_of_le PE_ob0.lt E3.1) (Keep.of_wr W4).1) E5.1) (Keep.of_wr W8).1) bo_b9)))).ext E96).other W99 (Or.inr (slot_ne (Or.inr (hw _ (List.mem_of_getElem? (i := 36) rfl))) (Or.inr (hw _ (List.mem_of_getElem? (i := 31) rfl))) (by decide) (t := (.array .boolean)) (t' := (.array .int)) (by decide) (by decide)))).ext E100).other W102 (Or.inr (slot_ne (Or.inr (hw _ (List.mem_of_getElem? (i := 36) rfl))) (Or.inr (hw _ (List.mem_of_getElem? (i := 33) rfl))) (by decide) (t := (.array .boolean)) (t' := (.array .int)) (by decide) (by decide)))).ext E103)
  have J105 := ((((J98.wr W99).ext E100).wr W102).ext E103)
  obtain ⟨T106, h106, X106, e106, W106, st106⟩ := putF X103 hx hZ hown (host := "") (Or.inl (hw _ (List.mem_of_getElem? (i := 35) rfl))) Via.refl e103 J104 J105 (Or.inr ⟨(hw _ (List.mem_of_getElem? (i := 36) rfl)), rfl, hnm⟩) (hw _ (List.mem_of_getElem? (i := 7) rfl)) (ty := (.array .boolean)) (by decide) rfl rfl (g := (mkF m 134 #[.val (.ref ob0), .val (.ref ob1), .val (.int (3 : Int32)), .val (.int (9 : Int32)), .val (.int (3 : Int32))] [(.ref b103), (.ref ob0)])) rfl rfl (hb hby d2_134)
  have Fw106 := J104.same W106
  have N106 := Fr.snoc X106 N102 g_ob0
  have O106 := O103.wr W106 g_ob0
  have KK106 : Keep h0 h106 [ob0] := KK103.wr W106 (Or.inl (List.mem_of_getElem? (i := 0) rfl))
  have J107 := ((((((((((J68.ext E72).other W75 (Or.inl (Nat.ne_of_lt (Nat.lt_of_lt_of_le PE_ob0.lt bo_b3)))).other W83 (Or.inl (Nat.ne_of_lt (Nat.lt_of_lt_of_le (Nat.lt_of_lt_of_le (Nat.lt_of_lt_of_le PE_ob0.lt E3.1) (Keep.of_wr W4).1) bo_b5)))).other W95 (Or.inl (Nat.ne_of_lt (Nat.lt_of_lt_of_le (Nat.lt_of_lt_of_le (Nat.lt_of_lt_of_le (Nat.lt_of_lt_of_le (Nat.lt_of_lt_of_le PE_ob0.lt E3.1) (Keep.of_wr W4).1) E5.1) (Keep.of_wr W8).1) bo_b9)))).ext E96).other W99 (Or.inr (slot_ne (Or.inr (hw _ (List.mem_of_getElem? (i := 18) rfl))) (Or.inr (hw _ (List.mem_of_getElem? (i := 31) rfl))) (by decide) (t := (.array (.array (.array .int)))) (t' := (.array .int)) (by decide) (by decide)))).ext E100).other W102 (Or.inr (slot_ne (Or.inr (hw _ (List.mem_of_getElem? (i := 18) rfl))) (Or.inr (hw _ (List.mem_of_getElem? (i := 33) rfl))) (by decide) (t := (.array (.array (.array .int)))) (t' := (.array .int)) (by decide) (by decide)))).ext E103).other W106 (Or.inr (slot_ne (Or.inr (hw _ (List.mem_of_getElem? (i := 18) rfl))) (Or.inr (hw _ (List.mem_of_getElem? (i := 36) rfl))) (by decide) (t := (.array (.array (.array .int)))) (t' := (.array .boolean)) (by decide) (by decide))))
  have J108 := ((((((((J76.other W83 (Or.inl (Nat.ne_of_lt (Nat.lt_of_lt_of_le (Nat.lt_of_lt_of_le (Nat.lt_of_lt_of_le PE_ob0.lt E3.1) (Keep.of_wr W4).1) bo_b5)))).other W95 (Or.inl (Nat.ne_of_lt (Nat.lt_of_lt_of_le (Nat.lt_of_lt_of_le (Nat.lt_of_lt_of_le (Nat.lt_of_lt_of_le (Nat.lt_of_lt_of_le PE_ob0.lt E3.1) (Keep.of_wr W4).1) E5.1) (Keep.of_wr W8).1) bo_b9)))).ext E96).other W99 (Or.inr (slot_ne (Or.inr (hw _ (List.mem_of_getElem? (i := 20) rfl))) (Or.inr (hw _ (List.mem_of_getElem? (i := 31) rfl))) (by decide) (t := (.array .int)) (t' := (.array .int)) (by decide) (by decide)))).ext E100).other W102 (Or.inr (slot_ne (Or.inr (hw _ (List.mem_of_getElem? (i := 20) rfl))) (Or.inr (hw _ (List.mem_of_getElem? (i := 33) rfl))) (by decide) (t := (.array .int)) (t' := (.array .int)) (by decide) (by decide)))).ext E103).other W106 (Or.inr (slot_ne (Or.inr (hw _ (List.mem_of_getElem? (i := 20) rfl))) (Or.inr (hw _ (List.mem_of_getElem? (i := 36) rfl))) (by decide) (t := (.array .int)) (t' := (.array .boolean)) (by decide) (by decide))))
  have J109 := (((((((J88.other W95 (Or.inl (Nat.ne_of_lt (Nat.lt_of_lt_of_le (Nat.lt_of_lt_of_le (Nat.lt_of_lt_of_le (Nat.lt_of_lt_of_le (Nat.lt_of_lt_of_le PE_ob0.lt E3.1) (Keep.of_wr W4).1) E5.1) (Keep.of_wr W8).1) bo_b9)))).ext E96).other W99 (Or.inr (slot_ne (Or.inr (hw _ (List.mem_of_getElem? (i := 23) rfl))) (Or.inr (hw _ (List.mem_of_getElem? (i := 31) rfl))) (by decide) (t := (.array .long)) (t' := (.array .int)) (by decide) (by decide)))).ext E100).other W102 (Or.inr (slot_ne (Or.inr (hw _ (List.mem_of_getElem? (i := 23) rfl))) (Or.inr (hw _ (List.mem_of_getElem? (i := 33) rfl))) (by decide) (t := (.array .long)) (t' := (.array .int)) (by decide) (by decide)))).ext E103).other W106 (Or.inr (slot_ne (Or.inr (hw _ (List.mem_of_getElem? (i := 23) rfl))) (Or.inr (hw _ (List.mem_of_getElem? (i := 36) rfl))) (by decide) (t := (.array .long)) (t' := (.array .boolean)) (by decide) (by decide))))
  have J110 := ((((Fw99.ext E100).other W102 (Or.inr (slot_ne (Or.inr (hw _ (List.mem_of_getElem? (i := 31) rfl))) (Or.inr (hw _ (List.mem_of_getElem? (i := 33) rfl))) (by decide) (t := (.array .int)) (t' := (.array .int)) (by decide) (by decide)))).ext E103).other W106 (Or.inr (slot_ne (Or.inr (hw _ (List.mem_of_getElem? (i := 31) rfl))) (Or.inr (hw _ (List.mem_of_getElem? (i := 36) rfl))) (by decide) (t := (.array .int)) (t' := (.array .boolean)) (by decide) (by decide))))
  have J111 := ((((((((((((((((((((((((PF_ob0_trailSize.ext E3).other W4 (Or.inr (slot_ne (Or.inl (hw _ (List.mem_of_getElem? (i := 45) rfl))) (Or.inr (hw _ (List.mem_of_getElem? (i := 18) rfl))) (by decide) (t := .int) (t' := (.array (.array (.array .int)))) (by decide) (by decide)))).ext E5).other W8 (Or.inr (slot_ne (Or.inl (hw _ (List.mem_of_getElem? (i := 45) rfl))) (Or.inr (hw _ (List.mem_of_getElem? (i := 20) rfl))) (by decide) (t := .int) (t' := (.array .int)) (by decide) (by decide)))).ext E9).other W11 (Or.inr (slot_ne (Or.inl (hw _ (List.mem_of_getElem? (i := 45) rfl))) (Or.inr (hw _ (List.mem_of_getElem? (i := 23) rfl))) (by decide) (t := .int) (t' := (.array .long)) (by decide) (by decide)))).ext E16).other W19 (Or.inl (Nat.ne_of_lt (Nat.lt_of_lt_of_le PE_ob0.lt bo_b3)))).other W27 (Or.inl (Nat.ne_of_lt (Nat.lt_of_lt_of_le (Nat.lt_of_lt_of_le (Nat.lt_of_lt_of_le PE_ob0.lt E3.1) (Keep.of_wr W4).1) bo_b5)))).other W39 (Or.inl (Nat.ne_of_lt (Nat.lt_of_lt_of_le (Nat.lt_of_lt_of_le (Nat.lt_of_lt_of_le (Nat.lt_of_lt_of_le (Nat.lt_of_lt_of_le PE_ob0.lt E3.1) (Keep.of_wr W4).1) E5.1) (Keep.of_wr W8).1) bo_b9)))).ext E44).other W47 (Or.inl (Nat.ne_of_lt (Nat.lt_of_lt_of_le PE_ob0.lt bo_b3)))).other W55 (Or.inl (Nat.ne_of_lt (Nat.lt_of_lt_of_le (Nat.lt_of_lt_of_le (Nat.lt_of_lt_of_le PE_ob0.lt E3.1) (Keep.of_wr W4).1) bo_b5)))).other W67 (Or.inl (Nat.ne_of_lt (Nat.lt_of_lt_of_le (Nat.lt_of_lt_of_le (Nat.lt_of_lt_of_le (Nat.lt_of_lt_of_le (Nat.lt_of_lt_of_le PE_ob0.lt E3.1) (Keep.of_wr W4).1) E5.1) (Keep.of_wr W8).1) bo_b9)))).ext E72).other W75 (Or.inl (Nat.ne_of_lt (Nat.lt_of_lt_of_le PE_ob0.lt bo_b3)))).other W83 (Or.inl (Nat.ne_of_lt (Nat.lt_of_lt_of_le (Nat.lt_of_lt_of_le (Nat.lt_of_lt_of_le PE_ob0.lt E3.1) (Keep.of_wr W4).1) bo_b5)))).other W95 (Or.inl (Nat.ne_of_lt (Nat.lt_of_lt_of_le (Nat.lt_of_lt_of_le (Nat.lt_of_lt_of_le (Nat.lt_of_lt_of_le (Nat.lt_of_lt_of_le PE_ob0.lt E3.1) (Keep.of_wr W4).1) E5.1) (Keep.of_wr W8).1) bo_b9)))).ext E96).other W99 (Or.inr (slot_ne (Or.inl (hw _ (List.mem_of_getElem? (i := 45) rfl))) (Or.inr (hw _ (List.mem_of_getElem? (i := 31) rfl))) (by decide) (t := .int) (t' := (.array .int)) (by decide) (by decide)))).ext E100).other W102 (Or.inr (slot_ne (Or.inl (hw _ (List.mem_of_getElem? (i := 45) rfl))) (Or.inr (hw _ (List.mem_of_getElem? (i := 33) rfl))) (by decide) (t := .int) (t' := (.array .int)) (by decide) (by decide)))).ext E103).other W106 (Or.inr (slot_ne (Or.inl (hw _ (List.mem_of_getElem? (i := 45) rfl))) (Or.inr (hw _ (List.mem_of_getElem? (i := 36) rfl))) (by decide) (t := .int) (t' := (.array .boolean)) (by decide) (by decide))))
  have J112 := ((((((((V_b3_75.other W83 (Nat.ne_of_lt (Nat.lt_of_lt_of_le (Nat.lt_of_lt_of_le lb_b3 (Keep.of_wr W4).1) bo_b5))).other W95 (Nat.ne_of_lt (Nat.lt_of_lt_of_le (Nat.lt_of_lt_of_le (Nat.lt_of_lt_of_le (Nat.lt_of_lt_of_le lb_b3 (Keep.of_wr W4).1) E5.1) (Keep.of_wr W8).1) bo_b9))).ext E96).other W99 (Ne.symm (Nat.ne_of_lt (Nat.lt_of_lt_of_le PE_ob0.lt bo_b3)))).ext E100).other W102 (Ne.symm (Nat.ne_of_lt (Nat.lt_of_lt_of_le PE_ob0.lt bo_b3)))).ext E103).other W106 (Ne.symm (Nat.ne_of_lt (Nat.lt_of_lt_of_le PE_ob0.lt bo_b3))))
  have J113 := (((((((((((((((((((((((B3.wr W4).ext E5).wr W8).ext E9).wr W11).ext E16).wr W19).wr W27).wr W39).ext E44).wr W47).wr W55).wr W67).ext E72).wr W75).wr W83).wr W95).ext E96).wr W99).ext E100).wr W102).ext E103).wr W106)
  have J114 := (((((((V_b5_83.other W95 (Nat.ne_of_lt (Nat.lt_of_lt_of_le (Nat.lt_of_lt_of_le lb_b5 (Keep.of_wr W8).1) bo_b9))).ext E96).other W99 (Ne.symm (Nat.ne_of_lt (Nat.lt_of_lt_of_le (Nat.lt_of_lt_of_le (Nat.lt_of_lt_of_le PE_ob0.lt E3.1) (Keep.of_wr W4).1) bo_b5)))).ext E100).other W102 (Ne.symm (Nat.ne_of_lt (Nat.lt_of_lt_of_le (Nat.lt_of_lt_of_le (Nat.lt_of_lt_of_le PE_ob0.lt E3.1) (Keep.of_wr W4).1) bo_b5)))).ext E103).other W106 (Ne.symm (Nat.ne_of_lt (Nat.lt_of_lt_of_le (Nat.lt_of_lt_of_le (Nat.lt_of_lt_of_le PE_ob0.lt E3.1) (Keep.of_wr W4).1) bo_b5))))
  have J115 := (((((((((((((((((((((B5.wr W8).ext E9).wr W11).ext E16).wr W19).wr W27).wr W39).ext E44).wr W47).wr W55).wr W67).ext E72).wr W75).wr W83).wr W95).ext E96).wr W99).ext E100).wr W102).ext E103).wr W106)
  have J116 := ((((((V_b9_95.ext E96).other W99 (Ne.symm (Nat.ne_of_lt (Nat.lt_of_lt_of_le (Nat.lt_of_lt_of_le (Nat.lt_of_lt_of_le (Nat.lt_of_lt_of_le (Nat.lt_of_lt_of_le PE_ob0.lt E3.1) (Keep.of_wr W4).1) E5.1) (Keep.of_wr W8).1) bo_b9)))).ext E100).other W102 (Ne.symm (Nat.ne_of_lt (Nat.lt_of_lt_of_le (Nat.lt_of_lt_of_le (Nat.lt_of_lt_of_le (Nat.lt_of_lt_of_le (Nat.lt_of_lt_of_le PE_ob0.lt E3.1) (Keep.of_wr W4).1) E5.1) (Keep.of_wr W8).1) bo_b9)))).ext E103).other W106 (Ne.symm (Nat.ne_of_lt (Nat.lt_of_lt_of_le (Nat.lt_of_lt_of_le (Nat.lt_of_lt_of_le (Nat.lt_of_lt_of_le (Nat.lt_of_lt_of_le PE_ob0.lt E3.1) (Keep.of_wr W4).1) E5.1) (Keep.of_wr W8).1) bo_b9))))
  have J117 := (((((((((((((((((((B9.wr W11).ext E16).wr W19).wr W27).wr W39).ext E44).wr W47).wr W55).wr W67).ext E72).wr W75).wr W83).wr W95).ext E96).wr W99).ext E100).wr W102).ext E103).wr W106)
  have J118 := (((((V_b96.other W99 (Ne.symm (Nat.ne_of_lt (Nat.lt_of_lt_of_le (Nat.lt_of_lt_of_le (Nat.lt_of_lt_of_le (Nat.lt_of_lt_of_le (Nat.lt_of_lt_of_le (Nat.lt_of_lt_of_le (Nat.lt_of_lt_of_le (Nat.lt_of_lt_of_le (Nat.lt_of_lt_of_le (Nat.lt_of_lt_of_le (Nat.lt_of_lt_of_le (Nat.lt_of_lt_of_le (Nat.lt_of_lt_of_le (Nat.lt_of_lt_of_le (Nat.lt_of_lt_of_le (Nat.lt_of_lt_of_le (Nat.lt_of_lt_of_le (Nat.lt_of_lt_of_le (Nat.lt_of_lt_of_le PE_ob0.lt E3.1) (Keep.of_wr W4).1) E5.1) (Keep.of_wr W8).1) E9.1) (Keep.of_wr W11).1) E16.1) (Keep.of_wr W19).1) (Keep.of_wr W27).1) (Keep.of_wr W39).1) E44.1) (Keep.of_wr W47).1) (Keep.of_wr W55).1) (Keep.of_wr W67).1) E72.1) (Keep.of_wr W75).1) (Keep.of_wr W83).1) (Keep.of_wr W95).1) bo_b96)))).ext E100).other W102 (Ne.symm (Nat.ne_of_lt (Nat.lt_of_lt_of_le (Nat.lt_of_lt_of_le (Nat.lt_of_lt_of_le (Nat.lt_of_lt_of_le (Nat.lt_of_lt_of_le (Nat.lt_of_lt_of_le (Nat.lt_of_lt_of_le (Nat.lt_of_lt_of_le (Nat.lt_of_lt_of_le (Nat.lt_of_lt_of_le (Nat.lt_of_lt_of_le (Nat.lt_of_lt_of_le (Nat.lt_of_lt_of_le (Nat.lt_of_lt_of_le (Nat.lt_of_lt_of_le (Nat.lt_of_lt_of_le (Nat.lt_of_lt_of_le (Nat.lt_of_lt_of_le (Nat.lt_of_lt_of_le PE_ob0.lt E3.1) (Keep.of_wr W4).1) E5.1) (Keep.of_wr W8).1) E9.1) (Keep.of_wr W11).1) E16.1) (Keep.of_wr W19).1) (Keep.of_wr W27).1) (Keep.of_wr W39).1) E44.1) (Keep.of_wr W47).1) (Keep.of_wr W55).1) (Keep.of_wr W67).1) E72.1) (Keep.of_wr W75).1) (Keep.of_wr W83).1) (Keep.of_wr W95).1) bo_b96)))).ext E103).other W106 (Ne.symm (Nat.ne_of_lt (Nat.lt_of_lt_of_le (Nat.lt_of_lt_of_le (Nat.lt_of_lt_of_le (Nat.lt_of_lt_of_le (Nat.lt_of_lt_of_le (Nat.lt_of_lt_of_le (Nat.lt_of_lt_of_le (Nat.lt_of_lt_of_le (Nat.lt_of_lt_of_le (Nat.lt_of_lt_of_le (Nat.lt_of_lt_of_le (Nat.lt_of_lt_of_le (Nat.lt_of_lt_of_le (Nat.lt_of_lt_of_le (Nat.lt_of_lt_of_le (Nat.lt_of_lt_of_le (Nat.lt_of_lt_of_le (Nat.lt_of_lt_of_le (Nat.lt_of_lt_of_le PE_ob0.lt E3.1) (Keep.of_wr W4).1) E5.1) (Keep.of_wr W8).1) E9.1) (Keep.of_wr W11).1) E16.1) (Keep.of_wr W19).1) (Keep.of_wr W27).1) (Keep.of_wr W39).1) E44.1) (Keep.of_wr W47).1) (Keep.of_wr W55).1) (Keep.of_wr W67).1) E72.1) (Keep.of_wr W75).1) (Keep.of_wr W83).1) (Keep.of_wr W95).1) bo_b96))))
  have J119 := (((((B96.wr W99).ext E100).wr W102).ext E103).wr W106)
  have J120 := (((V_b100.other W102 (Ne.symm (Nat.ne_of_lt (Nat.lt_of_lt_of_le (Nat.lt_of_lt_of_le (Nat.lt_of_lt_of_le (Nat.lt_of_lt_of_le (Nat.lt_of_lt_of_le (Nat.lt_of_lt_of_le (Nat.lt_of_lt_of_le (Nat.lt_of_lt_of_le (Nat.lt_of_lt_of_le (Nat.lt_of_lt_of_le (Nat.lt_of_lt_of_le (Nat.lt_of_lt_of_le (Nat.lt_of_lt_of_le (Nat.lt_of_lt_of_le (Nat.lt_of_lt_of_le (Nat.lt_of_lt_of_le (Nat.lt_of_lt_of_le (Nat.lt_of_lt_of_le (Nat.lt_of_lt_of_le (Nat.lt_of_lt_of_le (Nat.lt_of_lt_of_le PE_ob0.lt E3.1) (Keep.of_wr W4).1) E5.1) (Keep.of_wr W8).1) E9.1) (Keep.of_wr W11).1) E16.1) (Keep.of_wr W19).1) (Keep.of_wr W27).1) (Keep.of_wr W39).1) E44.1) (Keep.of_wr W47).1) (Keep.of_wr W55).1) (Keep.of_wr W67).1) E72.1) (Keep.of_wr W75).1) (Keep.of_wr W83).1) (Keep.of_wr W95).1) E96.1) (Keep.of_wr W99).1) bo_b100)))).ext E103).other W106 (Ne.symm (Nat.ne_of_lt (Nat.lt_of_lt_of_le (Nat.lt_of_lt_of_le (Nat.lt_of_lt_of_le (Nat.lt_of_lt_of_le (Nat.lt_of_lt_of_le (Nat.lt_of_lt_of_le (Nat.lt_of_lt_of_le (Nat.lt_of_lt_of_le (Nat.lt_of_lt_of_le (Nat.lt_of_lt_of_le (Nat.lt_of_lt_of_le (Nat.lt_of_lt_of_le (Nat.lt_of_lt_of_le (Nat.lt_of_lt_of_le (Nat.lt_of_lt_of_le (Nat.lt_of_lt_of_le (Nat.lt_of_lt_of_le (Nat.lt_of_lt_of_le (Nat.lt_of_lt_of_le (Nat.lt_of_lt_of_le (Nat.lt_of_lt_of_le PE_ob0.lt E3.1) (Keep.of_wr W4).1) E5.1) (Keep.of_wr W8).1) E9.1) (Keep.of_wr W11).1) E16.1) (Keep.of_wr W19).1) (Keep.of_wr W27).1) (Keep.of_wr W39).1) E44.1) (Keep.of_wr W47).1) (Keep.of_wr W55).1) (Keep.of_wr W67).1) E72.1) (Keep.of_wr W75).1) (Keep.of_wr W83).1) (Keep.of_wr W95).1) E96.1) (Keep.of_wr W99).1) bo_b100))))
  have J121 := (((B100.wr W102).ext E103).wr W106)
  have J122 := (((((((((((((((((V_b16.other W19 (Ne.symm (Nat.ne_of_lt (Nat.lt_of_lt_of_le (Nat.lt_of_lt_of_le (Nat.lt_of_lt_of_le (Nat.lt_of_lt_of_le (Nat.lt_of_lt_of_le (Nat.lt_of_lt_of_le lb_b3 (Keep.of_wr W4).1) E5.1) (Keep.of_wr W8).1) E9.1) (Keep.of_wr W11).1) bo_b16)))).other W27 (Ne.symm (Nat.ne_of_lt (Nat.lt_of_lt_of_le (Nat.lt_of_lt_of_le (Nat.lt_of_lt_of_le (Nat.lt_of_lt_of_le lb_b5 (Keep.of_wr W8).1) E9.1) (Keep.of_wr W11).1) bo_b16)))).other W39 (Ne.symm (Nat.ne_of_lt (Nat.lt_of_lt_of_le (Nat.lt_of_lt_of_le lb_b9 (Keep.of_wr W11).1) bo_b16)))).ext E44).other W47 (Ne.symm (Nat.ne_of_lt (Nat.lt_of_lt_of_le (Nat.lt_of_lt_of_le (Nat.lt_of_lt_of_le (Nat.lt_of_lt_of_le (Nat.lt_of_lt_of_le (Nat.lt_of_lt_of_le lb_b3 (Keep.of_wr W4).1) E5.1) (Keep.of_wr W8).1) E9.1) (Keep.of_wr W11).1) bo_b16)))).other W55 (Ne.symm (Nat.ne_of_lt (Nat.lt_of_lt_of_le (Nat.lt_of_lt_of_le (Nat.lt_of_lt_of_le (Nat.lt_of_lt_of_le lb_b5 (Keep.of_wr W8).1) E9.1) (Keep.of_wr W11).1) bo_b16)))).other W67 (Ne.symm (Nat.ne_of_lt (Nat.lt_of_lt_of_le (Nat.lt_of_lt_of_le lb_b9 (Keep.of_wr W11).1) bo_b16)))).ext E72).other W75 (Ne.symm (Nat.ne_of_lt (Nat.lt_of_lt_of_le (Nat.lt_of_lt_of_le (Nat.lt_of_lt_of_le (Nat.lt_of_lt_of_le (Nat.lt_of_lt_of_le (Nat.lt_of_lt_of_le lb_b3 (Keep.of_wr W4).1) E5.1) (Keep.of_wr W8).1) E9.1) (Keep.of_wr W11).1) bo_b16)))).other W83 (Ne.symm (Nat.ne_of_lt (Nat.lt_of_lt_of_le (Nat.lt_of_lt_of_le (Nat.lt_of_lt_of_le (Nat.lt_of_lt_of_le lb_b5 (Keep.of_wr W8).1) E9.1) (Keep.of_wr W11).1) bo_b16)))).other W95 (Ne.symm (Nat.ne_of_lt (Nat.lt_of_lt_of_le (Nat.lt_of_lt_of_le lb_b9 (Keep.of_wr W11).1) bo_b16)))).ext E96).other W99 (Ne.symm (Nat.ne_of_lt (Nat.lt_of_lt_of_le (Nat.lt_of_lt_of_le (Nat.lt_of_lt_of_le (Nat.lt_of_lt_of_le (Nat.lt_of_lt_of_le (Nat.lt_of_lt_of_le (Nat.lt_of_lt_of_le PE_ob0.lt E3.1) (Keep.of_wr W4).1) E5.1) (Keep.of_wr W8).1) E9.1) (Keep.of_wr W11).1) bo_b16)))).ext E100).other W102 (Ne.symm (Nat.ne_of_lt (Nat.lt_of_lt_of_le (Nat.lt_of_lt_of_le (Nat.lt_of_lt_of_le (Nat.lt_of_lt_of_le (Nat.lt_of_lt_of_le (Nat.lt_of_lt_of_le (Nat.lt_of_lt_of_le PE_ob0.lt E3.1) (Keep.of_wr W4).1) E5.1) (Keep.of_wr W8).1) E9.1) (Keep.of_wr W11).1) bo_b16)))).ext E103).other W106 (Ne.symm (Nat.ne_of_lt (Nat.lt_of_lt_of_le (Nat.lt_of_lt_of_le (Nat.lt_of_lt_of_le (Nat.lt_of_lt_of_le (Nat.lt_of_lt_of_le (Nat.lt_of_lt_of_le (Nat.lt_of_lt_of_le PE_ob0.lt E3.1) (Keep.of_wr W4).1) E5.1) (Keep.of_wr W8).1) E9.1) (Keep.of_wr W11).1) bo_b16))))
  have J123 := (((((((((((((((((B16.wr W19).wr W27).wr W39).ext E44).wr W47).wr W55).wr W67).ext E72).wr W75).wr W83).wr W95).ext E96).wr W99).ext E100).wr W102).ext E103).wr W106)
  have J124 := (((((((((((((V_b44.other W47 (Ne.symm (Nat.ne_of_lt (Nat.lt_of_lt_of_le (Nat.lt_of_lt_of_le (Nat.lt_of_lt_of_le (Nat.lt_of_lt_of_le (Nat.lt_of_lt_of_le (Nat.lt_of_lt_of_le (Nat.lt_of_lt_of_le (Nat.lt_of_lt_of_le (Nat.lt_of_lt_of_le (Nat.lt_of_lt_of_le lb_b3 (Keep.of_wr W4).1) E5.1) (Keep.of_wr W8).1) E9.1) (Keep.of_wr W11).1) E16.1) (Keep.of_wr W19).1) (Keep.of_wr W27).1) (Keep.of_wr W39).1) bo_b44)))).other W55 (Ne.symm (Nat.ne_of_lt (Nat.lt_of_lt_of_le (Nat.lt_of_lt_of_le (Nat.lt_of_lt_of_le (Nat.lt_of_lt_of_le (Nat.lt_of_lt_of_le (Nat.lt_of_lt_of_le (Nat.lt_of_lt_of_le (Nat.lt_of_lt_of_le lb_b5 (Keep.of_wr W8).1) E9.1) (Keep.of_wr W11).1) E16.1) (Keep.of_wr W19).1) (Keep.of_wr W27).1) (Keep.of_wr W39).1) bo_b44)))).other W67 (Ne.symm (Nat.ne_of_lt (Nat.lt_of_lt_of_le (Nat.lt_of_lt_of_le (Nat.lt_of_lt_of_le (Nat.lt_of_lt_of_le (Nat.lt_of_lt_of_le (Nat.lt_of_lt_of_le lb_b9 (Keep.of_wr W11).1) E16.1) (Keep.of_wr W19).1) (Keep.of_wr W27).1) (Keep.of_wr W39).1) bo_b44)))).ext E72).other W75 (Ne.symm (Nat.ne_of_lt (Nat.lt_of_lt_of_le (Nat.lt_of_lt_of_le (Nat.lt_of_lt_of_le (Nat.lt_of_lt_of_le (Nat.lt_of_lt_of_le (Nat.lt_of_lt_of_le (Nat.lt_of_lt_of_le (Nat.lt_of_lt_of_le (Nat.lt_of_lt_of_le (Nat.lt_of_lt_of_le lb_b3 (Keep.of_wr W4).1) E5.1) (Keep.of_wr W8).1) E9.1) (Keep.of_wr W11).1) E16.1) (Keep.of_wr W19).1) (Keep.of_wr W27).1) (Keep.of_wr W39).1) bo_b44)))).other W83 (Ne.symm (Nat.ne_of_lt (Nat.lt_of_lt_of_le (Nat.lt_of_lt_of_le (Nat.lt_of_lt_of_le (Nat.lt_of_lt_of_le (Nat.lt_of_lt_of_le (Nat.lt_of_lt_of_le (Nat.lt_of_lt_of_le (Nat.lt_of_lt_of_le lb_b5 (Keep.of_wr W8).1) E9.1) (Keep.of_wr W11).1) E16.1) (Keep.of_wr W19).1) (Keep.of_wr W27).1) (Keep.of_wr W39).1) bo_b44)))).other W95 (Ne.symm (Nat.ne_of_lt (Nat.lt_of_lt_of_le (Nat.lt_of_lt_of_le (Nat.lt_of_lt_of_le (Nat.lt_of_lt_of_le (Nat.lt_of_lt_of_le (Nat.lt_of_lt_of_le lb_b9 (Keep.of_wr W11).1) E16.1) (Keep.of_wr W19).1) (Keep.of_wr W27).1) (Keep.of_wr W39).1) bo_b44)))).ext E96).other W99 (Ne.symm (Nat.ne_of_lt (Nat.lt_of_lt_of_le (Nat.lt_of_lt_of_le (Nat.lt_of_lt_of_le (Nat.lt_of_lt_of_le (Nat.lt_of_lt_of_le (Nat.lt_of_lt_of_le (Nat.lt_of_lt_of_le (Nat.lt_of_lt_of_le (Nat.lt_of_lt_of_le (Nat.lt_of_lt_of_le (Nat.lt_of_lt_of_le PE_ob0.lt E3.1) (Keep.of_wr W4).1) E5.1) (Keep.of_wr W8).1) E9.1) (Keep.of_wr W11).1) E16.1) (Keep.of_wr W19).1) (Keep.of_wr W27).1) (Keep.of_wr W39).1) bo_b44)))).ext E100).other W102 (Ne.symm (Nat.ne_of_lt (Nat.lt_of_lt_of_le (Nat.lt_of_lt_of_le (Nat.lt_of_lt_of_le (Nat.lt_of_lt_of_le (Nat.lt_of_lt_of_le (Nat.lt_of_lt_of_le (Nat.lt_of_lt_of_le (Nat.lt_of_lt_of_le (Nat.lt_of_lt_of_le (Nat.lt_of_lt_of_le (Nat.lt_of_lt_of_le PE_ob0.lt E3.1) (Keep.of_wr W4).1) E5.1) (Keep.of_wr W8).1) E9.1) (Keep.of_wr W11).1) E16.1) (Keep.of_wr W19).1) (Keep.of_wr W27).1) (Keep.of_wr W39).1) bo_b44)))).ext E103).other W106 (Ne.symm (Nat.ne_of_lt (Nat.lt_of_lt_of_le (Nat.lt_of_lt_of_le (Nat.lt_of_lt_of_le (Nat.lt_of_lt_of_le (Nat.lt_of_lt_of_le (Nat.lt_of_lt_of_le (Nat.lt_of_lt_of_le (Nat.lt_of_lt_of_le (Nat.lt_of_lt_of_le (Nat.lt_of_lt_of_le (Nat.lt_of_lt_of_le PE_ob0.lt E3.1) (Keep.of_wr W4).1) E5.1) (Keep.of_wr W8).1) E9.1) (Keep.of_wr W11).1) E16.1) (Keep.of_wr W19).1) (Keep.of_wr W27).1) (Keep.of_wr W39).1) bo_b44))))
  have J125 := (((((((((((((B44.wr W47).wr W55).wr W67).ext E72).wr W75).wr W83).wr W95).ext E96).wr W99).ext E100).wr W102).ext E103).wr W106)
  have J126 := (((((((((V_b72.other W75 (Ne.symm (Nat.ne_of_lt (Nat.lt_of_lt_of_le (Nat.lt_of_lt_of_le (Nat.lt_of_lt_of_le (Nat.lt_of_lt_of_le (Nat.lt_of_lt_of_le (Nat.lt_of_lt_of_le (Nat.lt_of_lt_of_le (Nat.lt_of_lt_of_le (Nat.lt_of_lt_of_le (Nat.lt_of_lt_of_le (Nat.lt_of_lt_of_le (Nat.lt_of_lt_of_le (Nat.lt_of_lt_of_le (Nat.lt_of_lt_of_le lb_b3 (Keep.of_wr W4).1) E5.1) (Keep.of_wr W8).1) E9.1) (Keep.of_wr W11).1) E16.1) (Keep.of_wr W19).1) (Keep.of_wr W27).1) (Keep.of_wr W39).1) E44.1) (Keep.of_wr W47).1) (Keep.of_wr W55).1) (Keep.of_wr W67).1) bo_b72)))).other W83 (Ne.symm (Nat.ne_of_lt (Nat.lt_of_lt_of_le (Nat.lt_of_lt_of_le (Nat.lt_of_lt_of_le (Nat.lt_of_lt_of_le (Nat.lt_of_lt_of_le (Nat.lt_of_lt_of_le (Nat.lt_of_lt_of_le (Nat.lt_of_lt_of_le (Nat.lt_of_lt_of_le (Nat.lt_of_lt_of_le (Nat.lt_of_lt_of_le (Nat.lt_of_lt_of_le lb_b5 (Keep.of_wr W8).1) E9.1) (Keep.of_wr W11).1) E16.1) (Keep.of_wr W19).1) (Keep.of_wr W27).1) (Keep.of_wr W39).1) E44.1) (Keep.of_wr W47).1) (Keep.of_wr W55).1) (Keep.of_wr W67).1) bo_b72)))).other W95 (Ne.symm (Nat.ne_of_lt (Nat.lt_of_lt_of_le (Nat.lt_of_lt_of_le (Nat.lt_of_lt_of_le (Nat.lt_of_lt_of_le (Nat.lt_of_lt_of_le (Nat.lt_of_lt_of_le (Nat.lt_of_lt_of_le (Nat.lt_of_lt_of_le (Nat.lt_of_lt_of_le (Nat.lt_of_lt_of_le lb_b9 (Keep.of_wr W11).1) E16.1) (Keep.of_wr W19).1) (Keep.of_wr W27).1) (Keep.of_wr W39).1) E44.1) (Keep.of_wr W47).1) (Keep.of_wr W55).1) (Keep.of_wr W67).1) bo_b72)))).ext E96).other W99 (Ne.symm (Nat.ne_of_lt (Nat.lt_of_lt_of_le (Nat.lt_of_lt_of_le (Nat.lt_of_lt_of_le (Nat.lt_of_lt_of_le (Nat.lt_of_lt_of_le (Nat.lt_of_lt_of_le (Nat.lt_of_lt_of_le (Nat.lt_of_lt_of_le (Nat.lt_of_lt_of_le (Nat.lt_of_lt_of_le (Nat.lt_of_lt_of_le (Nat.lt_of_lt_of_le (Nat.lt_of_lt_of_le (Nat.lt_of_lt_of_le (Nat.lt_of_lt_of_le PE_ob0.lt E3.1) (Keep.of_wr W4).1) E5.1) (Keep.of_wr W8).1) E9.1) (Keep.of_wr W11).1) E16.1) (Keep.of_wr W19).1) (Keep.of_wr W27).1) (Keep.of_wr W39).1) E44.1) (Keep.of_wr W47).1) (Keep.of_wr W55).1) (Keep.of_wr W67).1) bo_b72)))).ext E100).other W102 (Ne.symm (Nat.ne_of_lt (Nat.lt_of_lt_of_le (Nat.lt_of_lt_of_le (Nat.lt_of_lt_of_le (Nat.lt_of_lt_of_le (Nat.lt_of_lt_of_le (Nat.lt_of_lt_of_le (Nat.lt_of_lt_of_le (Nat.lt_of_lt_of_le (Nat.lt_of_lt_of_le (Nat.lt_of_lt_of_le (Nat.lt_of_lt_of_le (Nat.lt_of_lt_of_le (Nat.lt_of_lt_of_le (Nat.lt_of_lt_of_le (Nat.lt_of_lt_of_le PE_ob0.lt E3.1) (Keep.of_wr W4).1) E5.1) (Keep.of_wr W8).1) E9.1) (Keep.of_wr W11).1) E16.1) (Keep.of_wr W19).1) (Keep.of_wr W27).1) (Keep.of_wr W39).1) E44.1) (Keep.of_wr W47).1) (Keep.of_wr W55).1) (Keep.of_wr W67).1) bo_b72)))).ext E103).other W106 (Ne.symm (Nat.ne_of_lt (Nat.lt_of_lt_of_le (Nat.lt_of_lt_of_le (Nat.lt_of_lt_of_le (Nat.lt_of_lt_of_le (Nat.lt_of_lt_of_le (Nat.lt_of_lt_of_le (Nat.lt_of_lt_of_le (Nat.lt_of_lt_of_le (Nat.lt_of_lt_of_le (Nat.lt_of_lt_of_le (Nat.lt_of_lt_of_le (Nat.lt_of_lt_of_le (Nat.lt_of_lt_of_le (Nat.lt_of_lt_of_le (Nat.lt_of_lt_of_le PE_ob0.lt E3.1) (Keep.of_wr W4).1) E5.1) (Keep.of_wr W8).1) E9.1) (Keep.of_wr W11).1) E16.1) (Keep.of_wr W19).1) (Keep.of_wr W27).1) (Keep.of_wr W39).1) E44.1) (Keep.of_wr W47).1) (Keep.of_wr W55).1) (Keep.of_wr W67).1) bo_b72))))
  have J127 := (((((((((B72.wr W75).wr W83).wr W95).ext E96).wr W99).ext E100).wr W102).ext E103).wr W106)
  obtain ⟨fs, hr, hrun, hended, hW, hsame⟩ := X106.leave (v := none) (fun _ => rfl)
  refine ⟨_, _, pre0 _ ?_, hrun, hended, _, _, rfl, ?_, ⟨_, rfl⟩, hW, hsame.mono (by decide) (by decide)⟩
  · show Steps p.tables e below (s₁.setTop (mkF m 0 #[.val (.ref ob0), .val (.ref ob1), .unset, .unset, .unset] [])) _
    refine XS.aloadN X0.here hx rfl (hb hby d2_0) rfl rfl ?_
    show Steps p.tables e below (s₁.setTop (mkF m 1 #[.val (.ref ob0), .val (.ref ob1), .unset, .unset, .unset] [(.ref ob0)])) _
    refine st1 _ ?_
    show Steps p.tables e below (T1.setTop (mkF m 4 #[.val (.ref ob0), .val (.ref ob1), .unset, .unset, .unset] [])) _
    refine XS.aloadN X1.here hx rfl (hb hby d2_4) rfl rfl ?_
    show Steps p.tables e below (T1.setTop (mkF m 5 #[.val (.ref ob0), .val (.ref ob1), .unset, .unset, .unset] [(.ref ob1)])) _
    refine X1.arraylength hx (by rw [e1]; exact aA2.1) (State.isArrayOf_alike hZ.alike aA2.2.1) (g := (mkF m 5 #[.val (.ref ob0), .val (.ref ob1), .unset, .unset, .unset] [(.ref ob1)])) rfl rfl (hb hby d2_5) _ ?_
    rw [len_of aS2 aN2]
    show Steps p.tables e below (T1.setTop (mkF m 6 #[.val (.ref ob0), .val (.ref ob1), .unset, .unset, .unset] [(.int (3 : Int32))])) _
    refine XS.istoreN X1.here hx rfl (hb hby d2_6) rfl (l' := #[.val (.ref ob0), .val (.ref ob1), .val (.int (3 : Int32)), .unset, .unset]) rfl ?_
    show Steps p.tables e below (T1.setTop (mkF m 7 #[.val (.ref ob0), .val (.ref ob1), .val (.int (3 : Int32)), .unset, .unset] [])) _
    refine XS.aloadN X1.here hx rfl (hb hby d2_7) rfl rfl ?_
    show Steps p.tables e below (T1.setTop (mkF m 8 #[.val (.ref ob0), .val (.ref ob1), .val (.int (3 : Int32)), .unset, .unset] [(.ref ob0)])) _
    refine XS.iloadN X1.here hx rfl (hb hby d2_8) rfl ?_
    show Steps p.tables e below (T1.setTop (mkF m 9 #[.val (.ref ob0), .val (.ref ob1), .val (.int (3 : Int32)), .unset, .unset] [(.int (3 : Int32)), (.ref ob0)])) _
    refine st3 _ ?_
    show Steps p.tables e below (T3.setTop (mkF m 12 #[.val (.ref ob0), .val (.ref ob1), .val (.int (3 : Int32)), .unset, .unset] [(.ref b3), (.ref ob0)])) _
    refine st4 _ ?_
    show Steps p.tables e below (T4.setTop (mkF m 15 #[.val (.ref ob0), .val (.ref ob1), .val (.int (3 : Int32)), .unset, .unset] [])) _
    refine XS.aloadN X4.here hx rfl (hb hby d2_15) rfl rfl ?_
    show Steps p.tables e below (T4.setTop (mkF m 16 #[.val (.ref ob0), .val (.ref ob1), .val (.int (3 : Int32)), .unset, .unset] [(.ref ob0)])) _
    refine XS.iloadN X4.here hx rfl (hb hby d2_16) rfl ?_
    show Steps p.tables e below (T4.setTop (mkF m 17 #[.val (.ref ob0), .val (.ref ob1), .val (.int (3 : Int32)), .unset, .unset] [(.int (3 : Int32)), (.ref ob0)])) _
    refine st5 _ ?_
    show Steps p.tables e below (T5.setTop (mkF m 19 #[.val (.ref ob0), .val (.ref ob1), .val (.int (3 : Int32)), .unset, .unset] [(.ref b5), (.ref ob0)])) _
    refine st8 _ ?_
    show Steps p.tables e below (T8.setTop (mkF m 22 #[.val (.ref ob0), .val (.ref ob1), .val (.int (3 : Int32)), .unset, .unset] [])) _
    refine XS.aloadN X8.here hx rfl (hb hby d2_22) rfl rfl ?_
    show Steps p.tables e below (T8.setTop (mkF m 23 #[.val (.ref ob0), .val (.ref ob1), .val (.int (3 : Int32)), .unset, .unset] [(.ref ob0)])) _
    refine XS.iloadN X8.here hx rfl (hb hby d2_23) rfl ?_
    show Steps p.tables e below (T8.setTop (mkF m 24 #[.val (.ref ob0), .val (.ref ob1), .val (.int (3 : Int32)), .unset, .unset] [(.int (3 : Int32)), (.ref ob0)])) _
    refine st9 _ ?_
    show Steps p.tables e below (T9.setTop (mkF m 26 #[.val (.ref ob0), .val (.ref ob1), .val (.int (3 : Int32)), .unset, .unset] [(.ref b9), (.ref ob0)])) _
    refine st11 _ ?_
    show Steps p.tables e below (T11.setTop (mkF m 29 #[.val (.ref ob0), .val (.ref ob1), .val (.int (3 : Int32)), .unset, .unset] [])) _
    refine XS.iconst X11.here hx rfl (hb hby d2_29) ?_
    show Steps p.tables e below (T11.setTop (mkF m 30 #[.val (.ref ob0), .val (.ref ob1), .val (.int (3 : Int32)), .unset, .unset] [(.int (0 : Int32))])) _
    refine XS.istoreN X11.here hx rfl (hb hby d2_30) rfl (l' := #[.val (.ref ob0), .val (.ref ob1), .val (.int (3 : Int32)), .val (.int (0 : Int32)), .unset]) rfl ?_
    show Steps p.tables e below (T11.setTop (mkF m 31 #[.val (.ref ob0), .val (.ref ob1), .val (.int (3 : Int32)), .val (.int (0 : Int32)), .unset] [])) _
    refine XS.iconst X11.here hx rfl (hb hby d2_31) ?_
    show Steps p.tables e below (T11.setTop (mkF m 32 #[.val (.ref ob0), .val (.ref ob1), .val (.int (3 : Int32)), .val (.int (0 : Int32)), .unset] [(.int (0 : Int32))])) _
    refine XS.istore X11.here hx rfl (hb hby d2_32) rfl (l' := #[.val (.ref ob0), .val (.ref ob1), .val (.int (3 : Int32)), .val (.int (0 : Int32)), .val (.int (0 : Int32))]) rfl ?_
    show Steps p.tables e below (T11.setTop (mkF m 34 #[.val (.ref ob0), .val (.ref ob1), .val (.int (3 : Int32)), .val (.int (0 : Int32)), .val (.int (0 : Int32))] [])) _
    refine XS.iload X11.here hx rfl (hb hby d2_34) rfl ?_
    show Steps p.tables e below (T11.setTop (mkF m 36 #[.val (.ref ob0), .val (.ref ob1), .val (.int (3 : Int32)), .val (.int (0 : Int32)), .val (.int (0 : Int32))] [(.int (0 : Int32))])) _
    refine XS.iloadN X11.here hx rfl (hb hby d2_36) rfl ?_
    show Steps p.tables e below (T11.setTop (mkF m 37 #[.val (.ref ob0), .val (.ref ob1), .val (.int (3 : Int32)), .val (.int (0 : Int32)), .val (.int (0 : Int32))] [(.int (3 : Int32)), (.int (0 : Int32))])) _
    refine XS.icmpNo X11.here hx rfl (hb hby d2_37) rfl (tlt (by decide : (0 : Int32) < (3 : Int32))).2.1 ?_
    show Steps p.tables e below (T11.setTop (mkF m 40 #[.val (.ref ob0), .val (.ref ob1), .val (.int (3 : Int32)), .val (.int (0 : Int32)), .val (.int (0 : Int32))] [])) _
    refine XS.aloadN X11.here hx rfl (hb hby d2_40) rfl rfl ?_
    show Steps p.tables e below (T11.setTop (mkF m 41 #[.val (.ref ob0), .val (.ref ob1), .val (.int (3 : Int32)), .val (.int (0 : Int32)), .val (.int (0 : Int32))] [(.ref ob0)])) _
    refine st13 _ ?_
    show Steps p.tables e below (T13.setTop (mkF m 44 #[.val (.ref ob0), .val (.ref ob1), .val (.int (3 : Int32)), .val (.int (0 : Int32)), .val (.int (0 : Int32))] [(.ref b3)])) _
    refine XS.iload X13.here hx rfl (hb hby d2_44) rfl ?_
    show Steps p.tables e below (T13.setTop (mkF m 46 #[.val (.ref ob0), .val (.ref ob1), .val (.int (3 : Int32)), .val (.int (0 : Int32)), .val (.int (0 : Int32))] [(.int (0 : Int32)), (.ref b3)])) _
    refine XS.aloadN X13.here hx rfl (hb hby d2_46) rfl rfl ?_
    show Steps p.tables e below (T13.setTop (mkF m 47 #[.val (.ref ob0), .val (.ref ob1), .val (.int (3 : Int32)), .val (.int (0 : Int32)), .val (.int (0 : Int32))] [(.ref ob1), (.int (0 : Int32)), (.ref b3)])) _
    refine XS.iload X13.here hx rfl (hb hby d2_47) rfl ?_
    show Steps p.tables e below (T13.setTop (mkF m 49 #[.val (.ref ob0), .val (.ref ob1), .val (.int (3 : Int32)), .val (.int (0 : Int32)), .val (.int (0 : Int32))] [(.int (0 : Int32)), (.ref ob1), (.int (0 : Int32)), (.ref b3)])) _
    refine X13.iaload hx (j := (0 : Int32)) (v := (.int (3 : Int32))) (by rw [e13]; exact aA14.1) (State.isArrayOf_alike hZ.alike aA14.2.1) aA14.2.2 (inb_of aS14 ⟨by decide, by decide⟩) (aH14.at (inb_of aS14 ⟨by decide, by decide⟩) rfl) (g := (mkF m 49 #[.val (.ref ob0), .val (.ref ob1), .val (.int (3 : Int32)), .val (.int (0 : Int32)), .val (.int (0 : Int32))] [(.int (0 : Int32)), (.ref ob1), (.int (0 : Int32)), (.ref b3)])) rfl rfl (hb hby d2_49) _ ?_
    show Steps p.tables e below (T13.setTop (mkF m 50 #[.val (.ref ob0), .val (.ref ob1), .val (.int (3 : Int32)), .val (.int (0 : Int32)), .val (.int (0 : Int32))] [(.int (3 : Int32)), (.int (0 : Int32)), (.ref b3)])) _
    refine st16 _ ?_
    show Steps p.tables e below (T16.setTop (mkF m 53 #[.val (.ref ob0), .val (.ref ob1), .val (.int (3 : Int32)), .val (.int (0 : Int32)), .val (.int (0 : Int32))] [(.ref b16), (.int (0 : Int32)), (.ref b3)])) _
    refine st19 _ ?_
    show Steps p.tables e below (T19.setTop (mkF m 54 #[.val (.ref ob0), .val (.ref ob1), .val (.int (3 : Int32)), .val (.int (0 : Int32)), .val (.int (0 : Int32))] [])) _
    refine XS.aloadN X19.here hx rfl (hb hby d2_54) rfl rfl ?_
    show Steps p.tables e below (T19.setTop (mkF m 55 #[.val (.ref ob0), .val (.ref ob1), .val (.int (3 : Int32)), .val (.int (0 : Int32)), .val (.int (0 : Int32))] [(.ref ob0)])) _
    refine st21 _ ?_
    show Steps p.tables e below (T21.setTop (mkF m 58 #[.val (.ref ob0), .val (.ref ob1), .val (.int (3 : Int32)), .val (.int (0 : Int32)), .val (.int (0 : Int32))] [(.ref b5)])) _
    refine XS.iload X21.here hx rfl (hb hby d2_58) rfl ?_
    show Steps p.tables e below (T21.setTop (mkF m 60 #[.val (.ref ob0), .val (.ref ob1), .val (.int (3 : Int32)), .val (.int (0 : Int32)), .val (.int (0 : Int32))] [(.int (0 : Int32)), (.ref b5)])) _
    refine XS.aloadN X21.here hx rfl (hb hby d2_60) rfl rfl ?_
    show Steps p.tables e below (T21.setTop (mkF m 61 #[.val (.ref ob0), .val (.ref ob1), .val (.int (3 : Int32)), .val (.int (0 : Int32)), .val (.int (0 : Int32))] [(.ref ob0), (.int (0 : Int32)), (.ref b5)])) _
    refine st22 _ ?_
    show Steps p.tables e below (T22.setTop (mkF m 64 #[.val (.ref ob0), .val (.ref ob1), .val (.int (3 : Int32)), .val (.int (0 : Int32)), .val (.int (0 : Int32))] [(.ref b3), (.int (0 : Int32)), (.ref b5)])) _
    refine XS.iload X22.here hx rfl (hb hby d2_64) rfl ?_
    show Steps p.tables e below (T22.setTop (mkF m 66 #[.val (.ref ob0), .val (.ref ob1), .val (.int (3 : Int32)), .val (.int (0 : Int32)), .val (.int (0 : Int32))] [(.int (0 : Int32)), (.ref b3), (.int (0 : Int32)), (.ref b5)])) _
    refine X22.aaload hx (j := (0 : Int32)) (v := (.ref b16)) (by rw [e22]; exact aA23.1) (State.isArrayOf_alike hZ.alike aA23.2.1) rfl aA23.2.2 (inb_of aS23 ⟨by decide, by decide⟩) (aH23.at (inb_of aS23 ⟨by decide, by decide⟩) rfl) (g := (mkF m 66 #[.val (.ref ob0), .val (.ref ob1), .val (.int (3 : Int32)), .val (.int (0 : Int32)), .val (.int (0 : Int32))] [(.int (0 : Int32)), (.ref b3), (.int (0 : Int32)), (.ref b5)])) rfl rfl (hb hby d2_66) _ ?_
    show Steps p.tables e below (T22.setTop (mkF m 67 #[.val (.ref ob0), .val (.ref ob1), .val (.int (3 : Int32)), .val (.int (0 : Int32)), .val (.int (0 : Int32))] [(.ref b16), (.int (0 : Int32)), (.ref b5)])) _
    refine X22.arraylength hx (by rw [e22]; exact aA24.1) (State.isArrayOf_alike hZ.alike aA24.2.1) (g := (mkF m 67 #[.val (.ref ob0), .val (.ref ob1), .val (.int (3 : Int32)), .val (.int (0 : Int32)), .val (.int (0 : Int32))] [(.ref b16), (.int (0 : Int32)), (.ref b5)])) rfl rfl (hb hby d2_67) _ ?_
    rw [len_of aS24 aN24]
    show Steps p.tables e below (T22.setTop (mkF m 68 #[.val (.ref ob0), .val (.ref ob1), .val (.int (3 : Int32)), .val (.int (0 : Int32)), .val (.int (0 : Int32))] [(.int (3 : Int32)), (.int (0 : Int32)), (.ref b5)])) _
    refine st27 _ ?_
    show Steps p.tables e below (T27.setTop (mkF m 69 #[.val (.ref ob0), .val (.ref ob1), .val (.int (3 : Int32)), .val (.int (0 : Int32)), .val (.int (0 : Int32))] [])) _
    refine XS.iloadN X27.here hx rfl (hb hby d2_69) rfl ?_
    show Steps p.tables e below (T27.setTop (mkF m 70 #[.val (.ref ob0), .val (.ref ob1), .val (.int (3 : Int32)), .val (.int (0 : Int32)), .val (.int (0 : Int32))] [(.int (0 : Int32))])) _
    refine XS.aloadN X27.here hx rfl (hb hby d2_70) rfl rfl ?_
    show Steps p.tables e below (T27.setTop (mkF m 71 #[.val (.ref ob0), .val (.ref ob1), .val (.int (3 : Int32)), .val (.int (0 : Int32)), .val (.int (0 : Int32))] [(.ref ob0), (.int (0 : Int32))])) _
    refine st28 _ ?_
    show Steps p.tables e below (T28.setTop (mkF m 74 #[.val (.ref ob0), .val (.ref ob1), .val (.int (3 : Int32)), .val (.int (0 : Int32)), .val (.int (0 : Int32))] [(.ref b5), (.int (0 : Int32))])) _
    refine XS.iload X28.here hx rfl (hb hby d2_74) rfl ?_
    show Steps p.tables e below (T28.setTop (mkF m 76 #[.val (.ref ob0), .val (.ref ob1), .val (.int (3 : Int32)), .val (.int (0 : Int32)), .val (.int (0 : Int32))] [(.int (0 : Int32)), (.ref b5), (.int (0 : Int32))])) _
    refine X28.iaload hx (j := (0 : Int32)) (v := (.int (3 : Int32))) (by rw [e28]; exact aA29.1) (State.isArrayOf_alike hZ.alike aA29.2.1) aA29.2.2 (inb_of aS29 ⟨by decide, by decide⟩) (aH29.at (inb_of aS29 ⟨by decide, by decide⟩) rfl) (g := (mkF m 76 #[.val (.ref ob0), .val (.ref ob1), .val (.int (3 : Int32)), .val (.int (0 : Int32)), .val (.int (0 : Int32))] [(.int (0 : Int32)), (.ref b5), (.int (0 : Int32))])) rfl rfl (hb hby d2_76) _ ?_
    show Steps p.tables e below (T28.setTop (mkF m 77 #[.val (.ref ob0), .val (.ref ob1), .val (.int (3 : Int32)), .val (.int (0 : Int32)), .val (.int (0 : Int32))] [(.int (3 : Int32)), (.int (0 : Int32))])) _
    refine XS.iadd X28.here hx rfl (hb hby d2_77) rfl ?_
    rw [show ((0 : Int32) + (3 : Int32)) = (3 : Int32) from by decide]
    show Steps p.tables e below (T28.setTop (mkF m 78 #[.val (.ref ob0), .val (.ref ob1), .val (.int (3 : Int32)), .val (.int (0 : Int32)), .val (.int (0 : Int32))] [(.int (3 : Int32))])) _
    refine XS.istoreN X28.here hx rfl (hb hby d2_78) rfl (l' := #[.val (.ref ob0), .val (.ref ob1), .val (.int (3 : Int32)), .val (.int (3 : Int32)), .val (.int (0 : Int32))]) rfl ?_
    show Steps p.tables e below (T28.setTop (mkF m 79 #[.val (.ref ob0), .val (.ref ob1), .val (.int (3 : Int32)), .val (.int (3 : Int32)), .val (.int (0 : Int32))] [])) _
    refine XS.aloadN X28.here hx rfl (hb hby d2_79) rfl rfl ?_
    show Steps p.tables e below (T28.setTop (mkF m 80 #[.val (.ref ob0), .val (.ref ob1), .val (.int (3 : Int32)), .val (.int (3 : Int32)), .val (.int (0 : Int32))] [(.ref ob0)])) _
    refine st30 _ ?_
    show Steps p.tables e below (T30.setTop (mkF m 83 #[.val (.ref ob0), .val (.ref ob1), .val (.int (3 : Int32)), .val (.int (3 : Int32)), .val (.int (0 : Int32))] [(.ref b5)])) _
    refine XS.iload X30.here hx rfl (hb hby d2_83) rfl ?_
    show Steps p.tables e below (T30.setTop (mkF m 85 #[.val (.ref ob0), .val (.ref ob1), .val (.int (3 : Int32)), .val (.int (3 : Int32)), .val (.int (0 : Int32))] [(.int (0 : Int32)), (.ref b5)])) _
    refine X30.iaload hx (j := (0 : Int32)) (v := (.int (3 : Int32))) (by rw [e30]; exact aA31.1) (State.isArrayOf_alike hZ.alike aA31.2.1) aA31.2.2 (inb_of aS31 ⟨by decide, by decide⟩) (aH31.at (inb_of aS31 ⟨by decide, by decide⟩) rfl) (g := (mkF m 85 #[.val (.ref ob0), .val (.ref ob1), .val (.int (3 : Int32)), .val (.int (3 : Int32)), .val (.int (0 : Int32))] [(.int (0 : Int32)), (.ref b5)])) rfl rfl (hb hby d2_85) _ ?_
    show Steps p.tables e below (T30.setTop (mkF m 86 #[.val (.ref ob0), .val (.ref ob1), .val (.int (3 : Int32)), .val (.int (3 : Int32)), .val (.int (0 : Int32))] [(.int (3 : Int32))])) _
    refine XS.bipush X30.here hx rfl (hb hby d2_86) ?_
    show Steps p.tables e below (T30.setTop (mkF m 88 #[.val (.ref ob0), .val (.ref ob1), .val (.int (3 : Int32)), .val (.int (3 : Int32)), .val (.int (0 : Int32))] [(.int (64 : Int32)), (.int (3 : Int32))])) _
    refine XS.icmpNo X30.here hx rfl (hb hby d2_88) rfl (flt (by decide : ¬ ((64 : Int32) < (3 : Int32)))).2.2.1 ?_
    show Steps p.tables e below (T30.setTop (mkF m 91 #[.val (.ref ob0), .val (.ref ob1), .val (.int (3 : Int32)), .val (.int (3 : Int32)), .val (.int (0 : Int32))] [])) _
    refine XS.aloadN X30.here hx rfl (hb hby d2_91) rfl rfl ?_
    show Steps p.tables e below (T30.setTop (mkF m 92 #[.val (.ref ob0), .val (.ref ob1), .val (.int (3 : Int32)), .val (.int (3 : Int32)), .val (.int (0 : Int32))] [(.ref ob0)])) _
    refine st33 _ ?_
    show Steps p.tables e below (T33.setTop (mkF m 95 #[.val (.ref ob0), .val (.ref ob1), .val (.int (3 : Int32)), .val (.int (3 : Int32)), .val (.int (0 : Int32))] [(.ref b9)])) _
    refine XS.iload X33.here hx rfl (hb hby d2_95) rfl ?_
    show Steps p.tables e below (T33.setTop (mkF m 97 #[.val (.ref ob0), .val (.ref ob1), .val (.int (3 : Int32)), .val (.int (3 : Int32)), .val (.int (0 : Int32))] [(.int (0 : Int32)), (.ref b9)])) _
    refine XS.aloadN X33.here hx rfl (hb hby d2_97) rfl rfl ?_
    show Steps p.tables e below (T33.setTop (mkF m 98 #[.val (.ref ob0), .val (.ref ob1), .val (.int (3 : Int32)), .val (.int (3 : Int32)), .val (.int (0 : Int32))] [(.ref ob0), (.int (0 : Int32)), (.ref b9)])) _
    refine st34 _ ?_
    show Steps p.tables e below (T34.setTop (mkF m 101 #[.val (.ref ob0), .val (.ref ob1), .val (.int (3 : Int32)), .val (.int (3 : Int32)), .val (.int (0 : Int32))] [(.ref b5), (.int (0 : Int32)), (.ref b9)])) _
    refine XS.iload X34.here hx rfl (hb hby d2_101) rfl ?_
    show Steps p.tables e below (T34.setTop (mkF m 103 #[.val (.ref ob0), .val (.ref ob1), .val (.int (3 : Int32)), .val (.int (3 : Int32)), .val (.int (0 : Int32))] [(.int (0 : Int32)), (.ref b5), (.int (0 : Int32)), (.ref b9)])) _
    refine X34.iaload hx (j := (0 : Int32)) (v := (.int (3 : Int32))) (by rw [e34]; exact aA35.1) (State.isArrayOf_alike hZ.alike aA35.2.1) aA35.2.2 (inb_of aS35 ⟨by decide, by decide⟩) (aH35.at (inb_of aS35 ⟨by decide, by decide⟩) rfl) (g := (mkF m 103 #[.val (.ref ob0), .val (.ref ob1), .val (.int (3 : Int32)), .val (.int (3 : Int32)), .val (.int (0 : Int32))] [(.int (0 : Int32)), (.ref b5), (.int (0 : Int32)), (.ref b9)])) rfl rfl (hb hby d2_103) _ ?_
    show Steps p.tables e below (T34.setTop (mkF m 104 #[.val (.ref ob0), .val (.ref ob1), .val (.int (3 : Int32)), .val (.int (3 : Int32)), .val (.int (0 : Int32))] [(.int (3 : Int32)), (.int (0 : Int32)), (.ref b9)])) _
    refine st36 _ ?_
    show Steps p.tables e below (T36.setTop (mkF m 107 #[.val (.ref ob0), .val (.ref ob1), .val (.int (3 : Int32)), .val (.int (3 : Int32)), .val (.int (0 : Int32))] [(.long (7 : Int64)), (.int (0 : Int32)), (.ref b9)])) _
    refine st39 _ ?_
    show Steps p.tables e below (T39.setTop (mkF m 108 #[.val (.ref ob0), .val (.ref ob1), .val (.int (3 : Int32)), .val (.int (3 : Int32)), .val (.int (0 : Int32))] [])) _
    refine XS.iinc X39.here hx rfl (hb hby d2_108) rfl (l' := #[.val (.ref ob0), .val (.ref ob1), .val (.int (3 : Int32)), .val (.int (3 : Int32)), .val (.int ((0 : Int32) + (1 : Int32)))]) rfl ?_
    rw [show ((0 : Int32) + (1 : Int32)) = (1 : Int32) from by decide]
    show Steps p.tables e below (T39.setTop (mkF m 111 #[.val (.ref ob0), .val (.ref ob1), .val (.int (3 : Int32)), .val (.int (3 : Int32)), .val (.int (1 : Int32))] [])) _
    refine XS.goto X39.here hx rfl (pc0 := 111) (pc' := 34) rfl (hb hby d2_111) (by decide) (by decide) ?_
    show Steps p.tables e below (T39.setTop (mkF m 34 #[.val (.ref ob0), .val (.ref ob1), .val (.int (3 : Int32)), .val (.int (3 : Int32)), .val (.int (1 : Int32))] [])) _
    refine XS.iload X39.here hx rfl (hb hby d2_34) rfl ?_
    show Steps p.tables e below (T39.setTop (mkF m 36 #[.val (.ref ob0), .val (.ref ob1), .val (.int (3 : Int32)), .val (.int (3 : Int32)), .val (.int (1 : Int32))] [(.int (1 : Int32))])) _
    refine XS.iloadN X39.here hx rfl (hb hby d2_36) rfl ?_
    show Steps p.tables e below (T39.setTop (mkF m 37 #[.val (.ref ob0), .val (.ref ob1), .val (.int (3 : Int32)), .val (.int (3 : Int32)), .val (.int (1 : Int32))] [(.int (3 : Int32)), (.int (1 : Int32))])) _
    refine XS.icmpNo X39.here hx rfl (hb hby d2_37) rfl (tlt (by decide : (1 : Int32) < (3 : Int32))).2.1 ?_
    show Steps p.tables e below (T39.setTop (mkF m 40 #[.val (.ref ob0), .val (.ref ob1), .val (.int (3 : Int32)), .val (.int (3 : Int32)), .val (.int (1 : Int32))] [])) _
    refine XS.aloadN X39.here hx rfl (hb hby d2_40) rfl rfl ?_
    show Steps p.tables e below (T39.setTop (mkF m 41 #[.val (.ref ob0), .val (.ref ob1), .val (.int (3 : Int32)), .val (.int (3 : Int32)), .val (.int (1 : Int32))] [(.ref ob0)])) _
    refine st41 _ ?_
    show Steps p.tables e below (T41.setTop (mkF m 44 #[.val (.ref ob0), .val (.ref ob1), .val (.int (3 : Int32)), .val (.int (3 : Int32)), .val (.int (1 : Int32))] [(.ref b3)])) _
    refine XS.iload X41.here hx rfl (hb hby d2_44) rfl ?_
    show Steps p.tables e below (T41.setTop (mkF m 46 #[.val (.ref ob0), .val (.ref ob1), .val (.int (3 : Int32)), .val (.int (3 : Int32)), .val (.int (1 : Int32))] [(.int (1 : Int32)), (.ref b3)])) _
    refine XS.aloadN X41.here hx rfl (hb hby d2_46) rfl rfl ?_
    show Steps p.tables e below (T41.setTop (mkF m 47 #[.val (.ref ob0), .val (.ref ob1), .val (.int (3 : Int32)), .val (.int (3 : Int32)), .val (.int (1 : Int32))] [(.ref ob1), (.int (1 : Int32)), (.ref b3)])) _
    refine XS.iload X41.here hx rfl (hb hby d2_47) rfl ?_
    show Steps p.tables e below (T41.setTop (mkF m 49 #[.val (.ref ob0), .val (.ref ob1), .val (.int (3 : Int32)), .val (.int (3 : Int32)), .val (.int (1 : Int32))] [(.int (1 : Int32)), (.ref ob1), (.int (1 : Int32)), (.ref b3)])) _
    refine X41.iaload hx (j := (1 : Int32)) (v := (.int (3 : Int32))) (by rw [e41]; exact aA42.1) (State.isArrayOf_alike hZ.alike aA42.2.1) aA42.2.2 (inb_of aS42 ⟨by decide, by decide⟩) (aH42.at (inb_of aS42 ⟨by decide, by decide⟩) rfl) (g := (mkF m 49 #[.val (.ref ob0), .val (.ref ob1), .val (.int (3 : Int32)), .val (.int (3 : Int32)), .val (.int (1 : Int32))] [(.int (1 : Int32)), (.ref ob1), (.int (1 : Int32)), (.ref b3)])) rfl rfl (hb hby d2_49) _ ?_
    show Steps p.tables e below (T41.setTop (mkF m 50 #[.val (.ref ob0), .val (.ref ob1), .val (.int (3 : Int32)), .val (.int (3 : Int32)), .val (.int (1 : Int32))] [(.int (3 : Int32)), (.int (1 : Int32)), (.ref b3)])) _
    refine st44 _ ?_
    show Steps p.tables e below (T44.setTop (mkF m 53 #[.val (.ref ob0), .val (.ref ob1), .val (.int (3 : Int32)), .val (.int (3 : Int32)), .val (.int (1 : Int32))] [(.ref b44), (.int (1 : Int32)), (.ref b3)])) _
    refine st47 _ ?_
    show Steps p.tables e below (T47.setTop (mkF m 54 #[.val (.ref ob0), .val (.ref ob1), .val (.int (3 : Int32)), .val (.int (3 : Int32)), .val (.int (1 : Int32))] [])) _
    refine XS.aloadN X47.here hx rfl (hb hby d2_54) rfl rfl ?_
    show Steps p.tables e below (T47.setTop (mkF m 55 #[.val (.ref ob0), .val (.ref ob1), .val (.int (3 : Int32)), .val (.int (3 : Int32)), .val (.int (1 : Int32))] [(.ref ob0)])) _
    refine st49 _ ?_
    show Steps p.tables e below (T49.setTop (mkF m 58 #[.val (.ref ob0), .val (.ref ob1), .val (.int (3 : Int32)), .val (.int (3 : Int32)), .val (.int (1 : Int32))] [(.ref b5)])) _
    refine XS.iload X49.here hx rfl (hb hby d2_58) rfl ?_
    show Steps p.tables e below (T49.setTop (mkF m 60 #[.val (.ref ob0), .val (.ref ob1), .val (.int (3 : Int32)), .val (.int (3 : Int32)), .val (.int (1 : Int32))] [(.int (1 : Int32)), (.ref b5)])) _
    refine XS.aloadN X49.here hx rfl (hb hby d2_60) rfl rfl ?_
    show Steps p.tables e below (T49.setTop (mkF m 61 #[.val (.ref ob0), .val (.ref ob1), .val (.int (3 : Int32)), .val (.int (3 : Int32)), .val (.int (1 : Int32))] [(.ref ob0), (.int (1 : Int32)), (.ref b5)])) _
    refine st50 _ ?_
    show Steps p.tables e below (T50.setTop (mkF m 64 #[.val (.ref ob0), .val (.ref ob1), .val (.int (3 : Int32)), .val (.int (3 : Int32)), .val (.int (1 : Int32))] [(.ref b3), (.int (1 : Int32)), (.ref b5)])) _
    refine XS.iload X50.here hx rfl (hb hby d2_64) rfl ?_
    show Steps p.tables e below (T50.setTop (mkF m 66 #[.val (.ref ob0), .val (.ref ob1), .val (.int (3 : Int32)), .val (.int (3 : Int32)), .val (.int (1 : Int32))] [(.int (1 : Int32)), (.ref b3), (.int (1 : Int32)), (.ref b5)])) _
    refine X50.aaload hx (j := (1 : Int32)) (v := (.ref b44)) (by rw [e50]; exact aA51.1) (State.isArrayOf_alike hZ.alike aA51.2.1) rfl aA51.2.2 (inb_of aS51 ⟨by decide, by decide⟩) (aH51.at (inb_of aS51 ⟨by decide, by decide⟩) rfl) (g := (mkF m 66 #[.val (.ref ob0), .val (.ref ob1), .val (.int (3 : Int32)), .val (.int (3 : Int32)), .val (.int (1 : Int32))] [(.int (1 : Int32)), (.ref b3), (.int (1 : Int32)), (.ref b5)])) rfl rfl (hb hby d2_66) _ ?_
    show Steps p.tables e below (T50.setTop (mkF m 67 #[.val (.ref ob0), .val (.ref ob1), .val (.int (3 : Int32)), .val (.int (3 : Int32)), .val (.int (1 : Int32))] [(.ref b44), (.int (1 : Int32)), (.ref b5)])) _
    refine X50.arraylength hx (by rw [e50]; exact aA52.1) (State.isArrayOf_alike hZ.alike aA52.2.1) (g := (mkF m 67 #[.val (.ref ob0), .val (.ref ob1), .val (.int (3 : Int32)), .val (.int (3 : Int32)), .val (.int (1 : Int32))] [(.ref b44), (.int (1 : Int32)), (.ref b5)])) rfl rfl (hb hby d2_67) _ ?_
    rw [len_of aS52 aN52]
    show Steps p.tables e below (T50.setTop (mkF m 68 #[.val (.ref ob0), .val (.ref ob1), .val (.int (3 : Int32)), .val (.int (3 : Int32)), .val (.int (1 : Int32))] [(.int (3 : Int32)), (.int (1 : Int32)), (.ref b5)])) _
    refine st55 _ ?_
    show Steps p.tables e below (T55.setTop (mkF m 69 #[.val (.ref ob0), .val (.ref ob1), .val (.int (3 : Int32)), .val (.int (3 : Int32)), .val (.int (1 : Int32))] [])) _
    refine XS.iloadN X55.here hx rfl (hb hby d2_69) rfl ?_
    show Steps p.tables e below (T55.setTop (mkF m 70 #[.val (.ref ob0), .val (.ref ob1), .val (.int (3 : Int32)), .val (.int (3 : Int32)), .val (.int (1 : Int32))] [(.int (3 : Int32))])) _
    refine XS.aloadN X55.here hx rfl (hb hby d2_70) rfl rfl ?_
    show Steps p.tables e below (T55.setTop (mkF m 71 #[.val (.ref ob0), .val (.ref ob1), .val (.int (3 : Int32)), .val (.int (3 : Int32)), .val (.int (1 : Int32))] [(.ref ob0), (.int (3 : Int32))])) _
    refine st56 _ ?_
    show Steps p.tables e below (T56.setTop (mkF m 74 #[.val (.ref ob0), .val (.ref ob1), .val (.int (3 : Int32)), .val (.int (3 : Int32)), .val (.int (1 : Int32))] [(.ref b5), (.int (3 : Int32))])) _
    refine XS.iload X56.here hx rfl (hb hby d2_74) rfl ?_
    show Steps p.tables e below (T56.setTop (mkF m 76 #[.val (.ref ob0), .val (.ref ob1), .val (.int (3 : Int32)), .val (.int (3 : Int32)), .val (.int (1 : Int32))] [(.int (1 : Int32)), (.ref b5), (.int (3 : Int32))])) _
    refine X56.iaload hx (j := (1 : Int32)) (v := (.int (3 : Int32))) (by rw [e56]; exact aA57.1) (State.isArrayOf_alike hZ.alike aA57.2.1) aA57.2.2 (inb_of aS57 ⟨by decide, by decide⟩) (aH57.at (inb_of aS57 ⟨by decide, by decide⟩) rfl) (g := (mkF m 76 #[.val (.ref ob0), .val (.ref ob1), .val (.int (3 : Int32)), .val (.int (3 : Int32)), .val (.int (1 : Int32))] [(.int (1 : Int32)), (.ref b5), (.int (3 : Int32))])) rfl rfl (hb hby d2_76) _ ?_
    show Steps p.tables e below (T56.setTop (mkF m 77 #[.val (.ref ob0), .val (.ref ob1), .val (.int (3 : Int32)), .val (.int (3 : Int32)), .val (.int (1 : Int32))] [(.int (3 : Int32)), (.int (3 : Int32))])) _
    refine XS.iadd X56.here hx rfl (hb hby d2_77) rfl ?_
    rw [show ((3 : Int32) + (3 : Int32)) = (6 : Int32) from by decide]
    show Steps p.tables e below (T56.setTop (mkF m 78 #[.val (.ref ob0), .val (.ref ob1), .val (.int (3 : Int32)), .val (.int (3 : Int32)), .val (.int (1 : Int32))] [(.int (6 : Int32))])) _
    refine XS.istoreN X56.here hx rfl (hb hby d2_78) rfl (l' := #[.val (.ref ob0), .val (.ref ob1), .val (.int (3 : Int32)), .val (.int (6 : Int32)), .val (.int (1 : Int32))]) rfl ?_
    show Steps p.tables e below (T56.setTop (mkF m 79 #[.val (.ref ob0), .val (.ref ob1), .val (.int (3 : Int32)), .val (.int (6 : Int32)), .val (.int (1 : Int32))] [])) _
    refine XS.aloadN X56.here hx rfl (hb hby d2_79) rfl rfl ?_
    show Steps p.tables e below (T56.setTop (mkF m 80 #[.val (.ref ob0), .val (.ref ob1), .val (.int (3 : Int32)), .val (.int (6 : Int32)), .val (.int (1 : Int32))] [(.ref ob0)])) _
    refine st58 _ ?_
    show Steps p.tables e below (T58.setTop (mkF m 83 #[.val (.ref ob0), .val (.ref ob1), .val (.int (3 : Int32)), .val (.int (6 : Int32)), .val (.int (1 : Int32))] [(.ref b5)])) _
    refine XS.iload X58.here hx rfl (hb hby d2_83) rfl ?_
    show Steps p.tables e below (T58.setTop (mkF m 85 #[.val (.ref ob0), .val (.ref ob1), .val (.int (3 : Int32)), .val (.int (6 : Int32)), .val (.int (1 : Int32))] [(.int (1 : Int32)), (.ref b5)])) _
    refine X58.iaload hx (j := (1 : Int32)) (v := (.int (3 : Int32))) (by rw [e58]; exact aA59.1) (State.isArrayOf_alike hZ.alike aA59.2.1) aA59.2.2 (inb_of aS59 ⟨by decide, by decide⟩) (aH59.at (inb_of aS59 ⟨by decide, by decide⟩) rfl) (g := (mkF m 85 #[.val (.ref ob0), .val (.ref ob1), .val (.int (3 : Int32)), .val (.int (6 : Int32)), .val (.int (1 : Int32))] [(.int (1 : Int32)), (.ref b5)])) rfl rfl (hb hby d2_85) _ ?_
    show Steps p.tables e below (T58.setTop (mkF m 86 #[.val (.ref ob0), .val (.ref ob1), .val (.int (3 : Int32)), .val (.int (6 : Int32)), .val (.int (1 : Int32))] [(.int (3 : Int32))])) _
    refine XS.bipush X58.here hx rfl (hb hby d2_86) ?_
    show Steps p.tables e below (T58.setTop (mkF m 88 #[.val (.ref ob0), .val (.ref ob1), .val (.int (3 : Int32)), .val (.int (6 : Int32)), .val (.int (1 : Int32))] [(.int (64 : Int32)), (.int (3 : Int32))])) _
    refine XS.icmpNo X58.here hx rfl (hb hby d2_88) rfl (flt (by decide : ¬ ((64 : Int32) < (3 : Int32)))).2.2.1 ?_
    show Steps p.tables e below (T58.setTop (mkF m 91 #[.val (.ref ob0), .val (.ref ob1), .val (.int (3 : Int32)), .val (.int (6 : Int32)), .val (.int (1 : Int32))] [])) _
    refine XS.aloadN X58.here hx rfl (hb hby d2_91) rfl rfl ?_
    show Steps p.tables e below (T58.setTop (mkF m 92 #[.val (.ref ob0), .val (.ref ob1), .val (.int (3 : Int32)), .val (.int (6 : Int32)), .val (.int (1 : Int32))] [(.ref ob0)])) _
    refine st61 _ ?_
    show Steps p.tables e below (T61.setTop (mkF m 95 #[.val (.ref ob0), .val (.ref ob1), .val (.int (3 : Int32)), .val (.int (6 : Int32)), .val (.int (1 : Int32))] [(.ref b9)])) _
    refine XS.iload X61.here hx rfl (hb hby d2_95) rfl ?_
    show Steps p.tables e below (T61.setTop (mkF m 97 #[.val (.ref ob0), .val (.ref ob1), .val (.int (3 : Int32)), .val (.int (6 : Int32)), .val (.int (1 : Int32))] [(.int (1 : Int32)), (.ref b9)])) _
    refine XS.aloadN X61.here hx rfl (hb hby d2_97) rfl rfl ?_
    show Steps p.tables e below (T61.setTop (mkF m 98 #[.val (.ref ob0), .val (.ref ob1), .val (.int (3 : Int32)), .val (.int (6 : Int32)), .val (.int (1 : Int32))] [(.ref ob0), (.int (1 : Int32)), (.ref b9)])) _
    refine st62 _ ?_
    show Steps p.tables e below (T62.setTop (mkF m 101 #[.val (.ref ob0), .val (.ref ob1), .val (.int (3 : Int32)), .val (.int (6 : Int32)), .val (.int (1 : Int32))] [(.ref b5), (.int (1 : Int32)), (.ref b9)])) _
    refine XS.iload X62.here hx rfl (hb hby d2_101) rfl ?_
    show Steps p.tables e below (T62.setTop (mkF m 103 #[.val (.ref ob0), .val (.ref ob1), .val (.int (3 : Int32)), .val (.int (6 : Int32)), .val (.int (1 : Int32))] [(.int (1 : Int32)), (.ref b5), (.int (1 : Int32)), (.ref b9)])) _
    refine X62.iaload hx (j := (1 : Int32)) (v := (.int (3 : Int32))) (by rw [e62]; exact aA63.1) (State.isArrayOf_alike hZ.alike aA63.2.1) aA63.2.2 (inb_of aS63 ⟨by decide, by decide⟩) (aH63.at (inb_of aS63 ⟨by decide, by decide⟩) rfl) (g := (mkF m 103 #[.val (.ref ob0), .val (.ref ob1), .val (.int (3 : Int32)), .val (.int (6 : Int32)), .val (.int (1 : Int32))] [(.int (1 : Int32)), (.ref b5), (.int (1 : Int32)), (.ref b9)])) rfl rfl (hb hby d2_103) _ ?_
    show Steps p.tables e below (T62.setTop (mkF m 104 #[.val (.ref ob0), .val (.ref ob1), .val (.int (3 : Int32)), .val (.int (6 : Int32)), .val (.int (1 : Int32))] [(.int (3 : Int32)), (.int (1 : Int32)), (.ref b9)])) _
    refine st64 _ ?_
    show Steps p.tables e below (T64.setTop (mkF m 107 #[.val (.ref ob0), .val (.ref ob1), .val (.int (3 : Int32)), .val (.int (6 : Int32)), .val (.int (1 : Int32))] [(.long (7 : Int64)), (.int (1 : Int32)), (.ref b9)])) _
    refine st67 _ ?_
    show Steps p.tables e below (T67.setTop (mkF m 108 #[.val (.ref ob0), .val (.ref ob1), .val (.int (3 : Int32)), .val (.int (6 : Int32)), .val (.int (1 : Int32))] [])) _
    refine XS.iinc X67.here hx rfl (hb hby d2_108) rfl (l' := #[.val (.ref ob0), .val (.ref ob1), .val (.int (3 : Int32)), .val (.int (6 : Int32)), .val (.int ((1 : Int32) + (1 : Int32)))]) rfl ?_
    rw [show ((1 : Int32) + (1 : Int32)) = (2 : Int32) from by decide]
    show Steps p.tables e below (T67.setTop (mkF m 111 #[.val (.ref ob0), .val (.ref ob1), .val (.int (3 : Int32)), .val (.int (6 : Int32)), .val (.int (2 : Int32))] [])) _
    refine XS.goto X67.here hx rfl (pc0 := 111) (pc' := 34) rfl (hb hby d2_111) (by decide) (by decide) ?_
    show Steps p.tables e below (T67.setTop (mkF m 34 #[.val (.ref ob0), .val (.ref ob1), .val (.int (3 : Int32)), .val (.int (6 : Int32)), .val (.int (2 : Int32))] [])) _
    refine XS.iload X67.here hx rfl (hb hby d2_34) rfl ?_
    show Steps p.tables e below (T67.setTop (mkF m 36 #[.val (.ref ob0), .val (.ref ob1), .val (.int (3 : Int32)), .val (.int (6 : Int32)), .val (.int (2 : Int32))] [(.int (2 : Int32))])) _
    refine XS.iloadN X67.here hx rfl (hb hby d2_36) rfl ?_
    show Steps p.tables e below (T67.setTop (mkF m 37 #[.val (.ref ob0), .val (.ref ob1), .val (.int (3 : Int32)), .val (.int (6 : Int32)), .val (.int (2 : Int32))] [(.int (3 : Int32)), (.int (2 : Int32))])) _
    refine XS.icmpNo X67.here hx rfl (hb hby d2_37) rfl (tlt (by decide : (2 : Int32) < (3 : Int32))).2.1 ?_
    show Steps p.tables e below (T67.setTop (mkF m 40 #[.val (.ref ob0), .val (.ref ob1), .val (.int (3 : Int32)), .val (.int (6 : Int32)), .val (.int (2 : Int32))] [])) _
    refine XS.aloadN X67.here hx rfl (hb hby d2_40) rfl rfl ?_
    show Steps p.tables e below (T67.setTop (mkF m 41 #[.val (.ref ob0), .val (.ref ob1), .val (.int (3 : Int32)), .val (.int (6 : Int32)), .val (.int (2 : Int32))] [(.ref ob0)])) _
    refine st69 _ ?_
    show Steps p.tables e below (T69.setTop (mkF m 44 #[.val (.ref ob0), .val (.ref ob1), .val (.int (3 : Int32)), .val (.int (6 : Int32)), .val (.int (2 : Int32))] [(.ref b3)])) _
    refine XS.iload X69.here hx rfl (hb hby d2_44) rfl ?_
    show Steps p.tables e below (T69.setTop (mkF m 46 #[.val (.ref ob0), .val (.ref ob1), .val (.int (3 : Int32)), .val (.int (6 : Int32)), .val (.int (2 : Int32))] [(.int (2 : Int32)), (.ref b3)])) _
    refine XS.aloadN X69.here hx rfl (hb hby d2_46) rfl rfl ?_
    show Steps p.tables e below (T69.setTop (mkF m 47 #[.val (.ref ob0), .val (.ref ob1), .val (.int (3 : Int32)), .val (.int (6 : Int32)), .val (.int (2 : Int32))] [(.ref ob1), (.int (2 : Int32)), (.ref b3)])) _
    refine XS.iload X69.here hx rfl (hb hby d2_47) rfl ?_
    show Steps p.tables e below (T69.setTop (mkF m 49 #[.val (.ref ob0), .val (.ref ob1), .val (.int (3 : Int32)), .val (.int (6 : Int32)), .val (.int (2 : Int32))] [(.int (2 : Int32)), (.ref ob1), (.int (2 : Int32)), (.ref b3)])) _
    refine X69.iaload hx (j := (2 : Int32)) (v := (.int (3 : Int32))) (by rw [e69]; exact aA70.1) (State.isArrayOf_alike hZ.alike aA70.2.1) aA70.2.2 (inb_of aS70 ⟨by decide, by decide⟩) (aH70.at (inb_of aS70 ⟨by decide, by decide⟩) rfl) (g := (mkF m 49 #[.val (.ref ob0), .val (.ref ob1), .val (.int (3 : Int32)), .val (.int (6 : Int32)), .val (.int (2 : Int32))] [(.int (2 : Int32)), (.ref ob1), (.int (2 : Int32)), (.ref b3)])) rfl rfl (hb hby d2_49) _ ?_
    show Steps p.tables e below (T69.setTop (mkF m 50 #[.val (.ref ob0), .val (.ref ob1), .val (.int (3 : Int32)), .val (.int (6 : Int32)), .val (.int (2 : Int32))] [(.int (3 : Int32)), (.int (2 : Int32)), (.ref b3)])) _
    refine st72 _ ?_
    show Steps p.tables e below (T72.setTop (mkF m 53 #[.val (.ref ob0), .val (.ref ob1), .val (.int (3 : Int32)), .val (.int (6 : Int32)), .val (.int (2 : Int32))] [(.ref b72), (.int (2 : Int32)), (.ref b3)])) _
    refine st75 _ ?_
    show Steps p.tables e below (T75.setTop (mkF m 54 #[.val (.ref ob0), .val (.ref ob1), .val (.int (3 : Int32)), .val (.int (6 : Int32)), .val (.int (2 : Int32))] [])) _
    refine XS.aloadN X75.here hx rfl (hb hby d2_54) rfl rfl ?_
    show Steps p.tables e below (T75.setTop (mkF m 55 #[.val (.ref ob0), .val (.ref ob1), .val (.int (3 : Int32)), .val (.int (6 : Int32)), .val (.int (2 : Int32))] [(.ref ob0)])) _
    refine st77 _ ?_
    show Steps p.tables e below (T77.setTop (mkF m 58 #[.val (.ref ob0), .val (.ref ob1), .val (.int (3 : Int32)), .val (.int (6 : Int32)), .val (.int (2 : Int32))] [(.ref b5)])) _
    refine XS.iload X77.here hx rfl (hb hby d2_58) rfl ?_
    show Steps p.tables e below (T77.setTop (mkF m 60 #[.val (.ref ob0), .val (.ref ob1), .val (.int (3 : Int32)), .val (.int (6 : Int32)), .val (.int (2 : Int32))] [(.int (2 : Int32)), (.ref b5)])) _
    refine XS.aloadN X77.here hx rfl (hb hby d2_60) rfl rfl ?_
    show Steps p.tables e below (T77.setTop (mkF m 61 #[.val (.ref ob0), .val (.ref ob1), .val (.int (3 : Int32)), .val (.int (6 : Int32)), .val (.int (2 : Int32))] [(.ref ob0), (.int (2 : Int32)), (.ref b5)])) _
    refine st78 _ ?_
    show Steps p.tables e below (T78.setTop (mkF m 64 #[.val (.ref ob0), .val (.ref ob1), .val (.int (3 : Int32)), .val (.int (6 : Int32)), .val (.int (2 : Int32))] [(.ref b3), (.int (2 : Int32)), (.ref b5)])) _
    refine XS.iload X78.here hx rfl (hb hby d2_64) rfl ?_
    show Steps p.tables e below (T78.setTop (mkF m 66 #[.val (.ref ob0), .val (.ref ob1), .val (.int (3 : Int32)), .val (.int (6 : Int32)), .val (.int (2 : Int32))] [(.int (2 : Int32)), (.ref b3), (.int (2 : Int32)), (.ref b5)])) _
    refine X78.aaload hx (j := (2 : Int32)) (v := (.ref b72)) (by rw [e78]; exact aA79.1) (State.isArrayOf_alike hZ.alike aA79.2.1) rfl aA79.2.2 (inb_of aS79 ⟨by decide, by decide⟩) (aH79.at (inb_of aS79 ⟨by decide, by decide⟩) rfl) (g := (mkF m 66 #[.val (.ref ob0), .val (.ref ob1), .val (.int (3 : Int32)), .val (.int (6 : Int32)), .val (.int (2 : Int32))] [(.int (2 : Int32)), (.ref b3), (.int (2 : Int32)), (.ref b5)])) rfl rfl (hb hby d2_66) _ ?_
    show Steps p.tables e below (T78.setTop (mkF m 67 #[.val (.ref ob0), .val (.ref ob1), .val (.int (3 : Int32)), .val (.int (6 : Int32)), .val (.int (2 : Int32))] [(.ref b72), (.int (2 : Int32)), (.ref b5)])) _
    refine X78.arraylength hx (by rw [e78]; exact aA80.1) (State.isArrayOf_alike hZ.alike aA80.2.1) (g := (mkF m 67 #[.val (.ref ob0), .val (.ref ob1), .val (.int (3 : Int32)), .val (.int (6 : Int32)), .val (.int (2 : Int32))] [(.ref b72), (.int (2 : Int32)), (.ref b5)])) rfl rfl (hb hby d2_67) _ ?_
    rw [len_of aS80 aN80]
    show Steps p.tables e below (T78.setTop (mkF m 68 #[.val (.ref ob0), .val (.ref ob1), .val (.int (3 : Int32)), .val (.int (6 : Int32)), .val (.int (2 : Int32))] [(.int (3 : Int32)), (.int (2 : Int32)), (.ref b5)])) _
    refine st83 _ ?_
    show Steps p.tables e below (T83.setTop (mkF m 69 #[.val (.ref ob0), .val (.ref ob1), .val (.int (3 : Int32)), .val (.int (6 : Int32)), .val (.int (2 : Int32))] [])) _
    refine XS.iloadN X83.here hx rfl (hb hby d2_69) rfl ?_
    show Steps p.tables e below (T83.setTop (mkF m 70 #[.val (.ref ob0), .val (.ref ob1), .val (.int (3 : Int32)), .val (.int (6 : Int32)), .val (.int (2 : Int32))] [(.int (6 : Int32))])) _
    refine XS.aloadN X83.here hx rfl (hb hby d2_70) rfl rfl ?_
    show Steps p.tables e below (T83.setTop (mkF m 71 #[.val (.ref ob0), .val (.ref ob1), .val (.int (3 : Int32)), .val (.int (6 : Int32)), .val (.int (2 : Int32))] [(.ref ob0), (.int (6 : Int32))])) _
    refine st84 _ ?_
    show Steps p.tables e below (T84.setTop (mkF m 74 #[.val (.ref ob0), .val (.ref ob1), .val (.int (3 : Int32)), .val (.int (6 : Int32)), .val (.int (2 : Int32))] [(.ref b5), (.int (6 : Int32))])) _
    refine XS.iload X84.here hx rfl (hb hby d2_74) rfl ?_
    show Steps p.tables e below (T84.setTop (mkF m 76 #[.val (.ref ob0), .val (.ref ob1), .val (.int (3 : Int32)), .val (.int (6 : Int32)), .val (.int (2 : Int32))] [(.int (2 : Int32)), (.ref b5), (.int (6 : Int32))])) _
    refine X84.iaload hx (j := (2 : Int32)) (v := (.int (3 : Int32))) (by rw [e84]; exact aA85.1) (State.isArrayOf_alike hZ.alike aA85.2.1) aA85.2.2 (inb_of aS85 ⟨by decide, by decide⟩) (aH85.at (inb_of aS85 ⟨by decide, by decide⟩) rfl) (g := (mkF m 76 #[.val (.ref ob0), .val (.ref ob1), .val (.int (3 : Int32)), .val (.int (6 : Int32)), .val (.int (2 : Int32))] [(.int (2 : Int32)), (.ref b5), (.int (6 : Int32))])) rfl rfl (hb hby d2_76) _ ?_
    show Steps p.tables e below (T84.setTop (mkF m 77 #[.val (.ref ob0), .val (.ref ob1), .val (.int (3 : Int32)), .val (.int (6 : Int32)), .val (.int (2 : Int32))] [(.int (3 : Int32)), (.int (6 : Int32))])) _
    refine XS.iadd X84.here hx rfl (hb hby d2_77) rfl ?_
    rw [show ((6 : Int32) + (3 : Int32)) = (9 : Int32) from by decide]
    show Steps p.tables e below (T84.setTop (mkF m 78 #[.val (.ref ob0), .val (.ref ob1), .val (.int (3 : Int32)), .val (.int (6 : Int32)), .val (.int (2 : Int32))] [(.int (9 : Int32))])) _
    refine XS.istoreN X84.here hx rfl (hb hby d2_78) rfl (l' := #[.val (.ref ob0), .val (.ref ob1), .val (.int (3 : Int32)), .val (.int (9 : Int32)), .val (.int (2 : Int32))]) rfl ?_
    show Steps p.tables e below (T84.setTop (mkF m 79 #[.val (.ref ob0), .val (.ref ob1), .val (.int (3 : Int32)), .val (.int (9 : Int32)), .val (.int (2 : Int32))] [])) _
    refine XS.aloadN X84.here hx rfl (hb hby d2_79) rfl rfl ?_
    show Steps p.tables e below (T84.setTop (mkF m 80 #[.val (.ref ob0), .val (.ref ob1), .val (.int (3 : Int32)), .val (.int (9 : Int32)), .val (.int (2 : Int32))] [(.ref ob0)])) _
    refine st86 _ ?_
    show Steps p.tables e below (T86.setTop (mkF m 83 #[.val (.ref ob0), .val (.ref ob1), .val (.int (3 : Int32)), .val (.int (9 : Int32)), .val (.int (2 : Int32))] [(.ref b5)])) _
    refine XS.iload X86.here hx rfl (hb hby d2_83) rfl ?_
    show Steps p.tables e below (T86.setTop (mkF m 85 #[.val (.ref ob0), .val (.ref ob1), .val (.int (3 : Int32)), .val (.int (9 : Int32)), .val (.int (2 : Int32))] [(.int (2 : Int32)), (.ref b5)])) _
    refine X86.iaload hx (j := (2 : Int32)) (v := (.int (3 : Int32))) (by rw [e86]; exact aA87.1) (State.isArrayOf_alike hZ.alike aA87.2.1) aA87.2.2 (inb_of aS87 ⟨by decide, by decide⟩) (aH87.at (inb_of aS87 ⟨by decide, by decide⟩) rfl) (g := (mkF m 85 #[.val (.ref ob0), .val (.ref ob1), .val (.int (3 : Int32)), .val (.int (9 : Int32)), .val (.int (2 : Int32))] [(.int (2 : Int32)), (.ref b5)])) rfl rfl (hb hby d2_85) _ ?_
    show Steps p.tables e below (T86.setTop (mkF m 86 #[.val (.ref ob0), .val (.ref ob1), .val (.int (3 : Int32)), .val (.int (9 : Int32)), .val (.int (2 : Int32))] [(.int (3 : Int32))])) _
    refine XS.bipush X86.here hx rfl (hb hby d2_86) ?_
    show Steps p.tables e below (T86.setTop (mkF m 88 #[.val (.ref ob0), .val (.ref ob1), .val (.int (3 : Int32)), .val (.int (9 : Int32)), .val (.int (2 : Int32))] [(.int (64 : Int32)), (.int (3 : Int32))])) _
    refine XS.icmpNo X86.here hx rfl (hb hby d2_88) rfl (flt (by decide : ¬ ((64 : Int32) < (3 : Int32)))).2.2.1 ?_
    show Steps p.tables e below (T86.setTop (mkF m 91 #[.val (.ref ob0), .val (.ref ob1), .val (.int (3 : Int32)), .val (.int (9 : Int32)), .val (.int (2 : Int32))] [])) _
    refine XS.aloadN X86.here hx rfl (hb hby d2_91) rfl rfl ?_
    show Steps p.tables e below (T86.setTop (mkF m 92 #[.val (.ref ob0), .val (.ref ob1), .val (.int (3 : Int32)), .val (.int (9 : Int32)), .val (.int (2 : Int32))] [(.ref ob0)])) _
    refine st89 _ ?_
    show Steps p.tables e below (T89.setTop (mkF m 95 #[.val (.ref ob0), .val (.ref ob1), .val (.int (3 : Int32)), .val (.int (9 : Int32)), .val (.int (2 : Int32))] [(.ref b9)])) _
    refine XS.iload X89.here hx rfl (hb hby d2_95) rfl ?_
    show Steps p.tables e below (T89.setTop (mkF m 97 #[.val (.ref ob0), .val (.ref ob1), .val (.int (3 : Int32)), .val (.int (9 : Int32)), .val (.int (2 : Int32))] [(.int (2 : Int32)), (.ref b9)])) _
    refine XS.aloadN X89.here hx rfl (hb hby d2_97) rfl rfl ?_
    show Steps p.tables e below (T89.setTop (mkF m 98 #[.val (.ref ob0), .val (.ref ob1), .val (.int (3 : Int32)), .val (.int (9 : Int32)), .val (.int (2 : Int32))] [(.ref ob0), (.int (2 : Int32)), (.ref b9)])) _
    refine st90 _ ?_
    show Steps p.tables e below (T90.setTop (mkF m 101 #[.val (.ref ob0), .val (.ref ob1), .val (.int (3 : Int32)), .val (.int (9 : Int32)), .val (.int (2 : Int32))] [(.ref b5), (.int (2 : Int32)), (.ref b9)])) _
    refine XS.iload X90.here hx rfl (hb hby d2_101) rfl ?_
    show Steps p.tables e below (T90.setTop (mkF m 103 #[.val (.ref ob0), .val (.ref ob1), .val (.int (3 : Int32)), .val (.int (9 : Int32)), .val (.int (2 : Int32))] [(.int (2 : Int32)), (.ref b5), (.int (2 : Int32)), (.ref b9)])) _
    refine X90.iaload hx (j := (2 : Int32)) (v := (.int (3 : Int32))) (by rw [e90]; exact aA91.1) (State.isArrayOf_alike hZ.alike aA91.2.1) aA91.2.2 (inb_of aS91 ⟨by decide, by decide⟩) (aH91.at (inb_of aS91 ⟨by decide, by decide⟩) rfl) (g := (mkF m 103 #[.val (.ref ob0), .val (.ref ob1), .val (.int (3 : Int32)), .val (.int (9 : Int32)), .val (.int (2 : Int32))] [(.int (2 : Int32)), (.ref b5), (.int (2 : Int32)), (.ref b9)])) rfl rfl (hb hby d2_103) _ ?_
    show Steps p.tables e below (T90.setTop (mkF m 104 #[.val (.ref ob0), .val (.ref ob1), .val (.int (3 : Int32)), .val (.int (9 : Int32)), .val (.int (2 : Int32))] [(.int (3 : Int32)), (.int (2 : Int32)), (.ref b9)])) _
    refine st92 _ ?_
    show Steps p.tables e below (T92.setTop (mkF m 107 #[.val (.ref ob0), .val (.ref ob1), .val (.int (3 : Int32)), .val (.int (9 : Int32)), .val (.int (2 : Int32))] [(.long (7 : Int64)), (.int (2 : Int32)), (.ref b9)])) _
    refine st95 _ ?_
    show Steps p.tables e below (T95.setTop (mkF m 108 #[.val (.ref ob0), .val (.ref ob1), .val (.int (3 : Int32)), .val (.int (9 : Int32)), .val (.int (2 : Int32))] [])) _
    refine XS.iinc X95.here hx rfl (hb hby d2_108) rfl (l' := #[.val (.ref ob0), .val (.ref ob1), .val (.int (3 : Int32)), .val (.int (9 : Int32)), .val (.int ((2 : Int32) + (1 : Int32)))]) rfl ?_
    rw [show ((2 : Int32) + (1 : Int32)) = (3 : Int32) from by decide]
    show Steps p.tables e below (T95.setTop (mkF m 111 #[.val (.ref ob0), .val (.ref ob1), .val (.int (3 : Int32)), .val (.int (9 : Int32)), .val (.int (3 : Int32))] [])) _
    refine XS.goto X95.here hx rfl (pc0 := 111) (pc' := 34) rfl (hb hby d2_111) (by decide) (by decide) ?_
    show Steps p.tables e below (T95.setTop (mkF m 34 #[.val (.ref ob0), .val (.ref ob1), .val (.int (3 : Int32)), .val (.int (9 : Int32)), .val (.int (3 : Int32))] [])) _
    refine XS.iload X95.here hx rfl (hb hby d2_34) rfl ?_
    show Steps p.tables e below (T95.setTop (mkF m 36 #[.val (.ref ob0), .val (.ref ob1), .val (.int (3 : Int32)), .val (.int (9 : Int32)), .val (.int (3 : Int32))] [(.int (3 : Int32))])) _
    refine XS.iloadN X95.here hx rfl (hb hby d2_36) rfl ?_
    show Steps p.tables e below (T95.setTop (mkF m 37 #[.val (.ref ob0), .val (.ref ob1), .val (.int (3 : Int32)), .val (.int (9 : Int32)), .val (.int (3 : Int32))] [(.int (3 : Int32)), (.int (3 : Int32))])) _
    refine XS.icmpYes X95.here hx rfl (pc0 := 37) (pc' := 114) rfl (hb hby d2_37) rfl (flt (by decide : ¬ ((3 : Int32) < (3 : Int32)))).2.1 (by decide) (by decide) ?_
    show Steps p.tables e below (T95.setTop (mkF m 114 #[.val (.ref ob0), .val (.ref ob1), .val (.int (3 : Int32)), .val (.int (9 : Int32)), .val (.int (3 : Int32))] [])) _
    refine XS.aloadN X95.here hx rfl (hb hby d2_114) rfl rfl ?_
    show Steps p.tables e below (T95.setTop (mkF m 115 #[.val (.ref ob0), .val (.ref ob1), .val (.int (3 : Int32)), .val (.int (9 : Int32)), .val (.int (3 : Int32))] [(.ref ob0)])) _
    refine XS.iconst X95.here hx rfl (hb hby d2_115) ?_
    show Steps p.tables e below (T95.setTop (mkF m 116 #[.val (.ref ob0), .val (.ref ob1), .val (.int (3 : Int32)), .val (.int (9 : Int32)), .val (.int (3 : Int32))] [(.int (2 : Int32)), (.ref ob0)])) _
    refine XS.iloadN X95.here hx rfl (hb hby d2_116) rfl ?_
    show Steps p.tables e below (T95.setTop (mkF m 117 #[.val (.ref ob0), .val (.ref ob1), .val (.int (3 : Int32)), .val (.int (9 : Int32)), .val (.int (3 : Int32))] [(.int (9 : Int32)), (.int (2 : Int32)), (.ref ob0)])) _
    refine XS.imul X95.here hx rfl (hb hby d2_117) rfl ?_
    rw [show ((2 : Int32) * (9 : Int32)) = (18 : Int32) from by decide]
    show Steps p.tables e below (T95.setTop (mkF m 118 #[.val (.ref ob0), .val (.ref ob1), .val (.int (3 : Int32)), .val (.int (9 : Int32)), .val (.int (3 : Int32))] [(.int (18 : Int32)), (.ref ob0)])) _
    refine st96 _ ?_
    show Steps p.tables e below (T96.setTop (mkF m 120 #[.val (.ref ob0), .val (.ref ob1), .val (.int (3 : Int32)), .val (.int (9 : Int32)), .val (.int (3 : Int32))] [(.ref b96), (.ref ob0)])) _
    refine st99 _ ?_
    show Steps p.tables e below (T99.setTop (mkF m 123 #[.val (.ref ob0), .val (.ref ob1), .val (.int (3 : Int32)), .val (.int (9 : Int32)), .val (.int (3 : Int32))] [])) _
    refine XS.aloadN X99.here hx rfl (hb hby d2_123) rfl rfl ?_
    show Steps p.tables e below (T99.setTop (mkF m 124 #[.val (.ref ob0), .val (.ref ob1), .val (.int (3 : Int32)), .val (.int (9 : Int32)), .val (.int (3 : Int32))] [(.ref ob0)])) _
    refine XS.iloadN X99.here hx rfl (hb hby d2_124) rfl ?_
    show Steps p.tables e below (T99.setTop (mkF m 125 #[.val (.ref ob0), .val (.ref ob1), .val (.int (3 : Int32)), .val (.int (9 : Int32)), .val (.int (3 : Int32))] [(.int (3 : Int32)), (.ref ob0)])) _
    refine st100 _ ?_
    show Steps p.tables e below (T100.setTop (mkF m 127 #[.val (.ref ob0), .val (.ref ob1), .val (.int (3 : Int32)), .val (.int (9 : Int32)), .val (.int (3 : Int32))] [(.ref b100), (.ref ob0)])) _
    refine st102 _ ?_
    show Steps p.tables e below (T102.setTop (mkF m 130 #[.val (.ref ob0), .val (.ref ob1), .val (.int (3 : Int32)), .val (.int (9 : Int32)), .val (.int (3 : Int32))] [])) _
    refine XS.aloadN X102.here hx rfl (hb hby d2_130) rfl rfl ?_
    show Steps p.tables e below (T102.setTop (mkF m 131 #[.val (.ref ob0), .val (.ref ob1), .val (.int (3 : Int32)), .val (.int (9 : Int32)), .val (.int (3 : Int32))] [(.ref ob0)])) _
    refine XS.iloadN X102.here hx rfl (hb hby d2_131) rfl ?_
    show Steps p.tables e below (T102.setTop (mkF m 132 #[.val (.ref ob0), .val (.ref ob1), .val (.int (3 : Int32)), .val (.int (9 : Int32)), .val (.int (3 : Int32))] [(.int (3 : Int32)), (.ref ob0)])) _
    refine st103 _ ?_
    show Steps p.tables e below (T103.setTop (mkF m 134 #[.val (.ref ob0), .val (.ref ob1), .val (.int (3 : Int32)), .val (.int (9 : Int32)), .val (.int (3 : Int32))] [(.ref b103), (.ref ob0)])) _
    refine st106 _ ?_
    show Steps p.tables e below (T106.setTop (mkF m 137 #[.val (.ref ob0), .val (.ref ob1), .val (.int (3 : Int32)), .val (.int (9 : Int32)), .val (.int (3 : Int32))] [])) _
    exact X106.returnOut hx Bd.returns (hb hby d2_137) hr
  · have eH : (T106.setFrames fs).heap = h106 := e106; rw [eH]; exact ⟨b3, b5, b9, b16, b44, b72, b96, b100, b103, k3, k5, k9, k96, k100, k103, k16, k44, k72, rfl, N106, KK106, O106, sz_b3, sz_b5, sz_b9, sz_b16, sz_b44, sz_b72, sz_b96, sz_b100, sz_b103, (Nat.lt_of_lt_of_le (Nat.lt_of_lt_of_le lb_b3 (Keep.of_wr W4).1) bo_b5), (Nat.lt_of_lt_of_le (Nat.lt_of_lt_of_le lb_b5 (Keep.of_wr W8).1) bo_b9), (Nat.lt_of_lt_of_le (Nat.lt_of_lt_of_le lb_b9 (Keep.of_wr W11).1) bo_b16), (Nat.lt_of_lt_of_le (Nat.lt_of_lt_of_le (Nat.lt_of_lt_of_le (Nat.lt_of_lt_of_le lb_b16 (Keep.of_wr W19).1) (Keep.of_wr W27).1) (Keep.of_wr W39).1) bo_b44), (Nat.lt_of_lt_of_le (Nat.lt_of_lt_of_le (Nat.lt_of_lt_of_le (Nat.lt_of_lt_of_le lb_b44 (Keep.of_wr W47).1) (Keep.of_wr W55).1) (Keep.of_wr W67).1) bo_b72), (Nat.lt_of_lt_of_le (Nat.lt_of_lt_of_le (Nat.lt_of_lt_of_le (Nat.lt_of_lt_of_le lb_b72 (Keep.of_wr W75).1) (Keep.of_wr W83).1) (Keep.of_wr W95).1) bo_b96), (Nat.lt_of_lt_of_le (Nat.lt_of_lt_of_le lb_b96 (Keep.of_wr W99).1) bo_b100), (Nat.lt_of_lt_of_le (Nat.lt_of_lt_of_le lb_b100 (Keep.of_wr W102).1) bo_b103), (J105.wr W106), J107, J108, J109, J110, ((Fw102.ext E103).other W106 (Or.inr (slot_ne (Or.inr (hw _ (List.mem_of_getElem? (i := 33) rfl))) (Or.inr (hw _ (List.mem_of_getElem? (i := 36) rfl))) (by decide) (t := (.array .int)) (t' := (.array .boolean)) (by decide) (by decide)))), Fw106, J111, J112, J113, OV3, J114, J115, J116, J117, J118, J119, J120, J121, (V_b103.other W106 (Ne.symm (Nat.ne_of_lt (Nat.lt_of_lt_of_le (Nat.lt_of_lt_of_le (Nat.lt_of_lt_of_le (Nat.lt_of_lt_of_le (Nat.lt_of_lt_of_le (Nat.lt_of_lt_of_le (Nat.lt_of_lt_of_le (Nat.lt_of_lt_of_le (Nat.lt_of_lt_of_le (Nat.lt_of_lt_of_le (Nat.lt_of_lt_of_le (Nat.lt_of_lt_of_le (Nat.lt_of_lt_of_le (Nat.lt_of_lt_of_le (Nat.lt_of_lt_of_le (Nat.lt_of_lt_of_le (Nat.lt_of_lt_of_le (Nat.lt_of_lt_of_le (Nat.lt_of_lt_of_le (Nat.lt_of_lt_of_le (Nat.lt_of_lt_of_le (Nat.lt_of_lt_of_le (Nat.lt_of_lt_of_le PE_ob0.lt E3.1) (Keep.of_wr W4).1) E5.1) (Keep.of_wr W8).1) E9.1) (Keep.of_wr W11).1) E16.1) (Keep.of_wr W19).1) (Keep.of_wr W27).1) (Keep.of_wr W39).1) E44.1) (Keep.of_wr W47).1) (Keep.of_wr W55).1) (Keep.of_wr W67).1) E72.1) (Keep.of_wr W75).1) (Keep.of_wr W83).1) (Keep.of_wr W95).1) E96.1) (Keep.of_wr W99).1) E100.1) (Keep.of_wr W102).1) bo_b103)))), (B103.wr W106), J122, J123, OV16, J124, J125, OV44, J126, J127, OV72, trivial⟩
theorem d5_0 : decode prog_59_method_10_code 0 = .ok (.aload_n 0, 1) := by decide +kernel
theorem d5_1 : decode prog_59_method_10_code 1 = .ok (.getfield 11, 3) := by decide +kernel
theorem d5_4 : decode prog_59_method_10_code 4 = .ok (.iload_n 1, 1) := by decide +kernel
theorem d5_5 : decode prog_59_method_10_code 5 = .ok (.aaload, 1) := by decide +kernel
theorem d5_6 : decode prog_59_method_10_code 6 = .ok (.iload_n 2, 1) := by decide +kernel
theorem d5_7 : decode prog_59_method_10_code 7 = .ok (.aload_n 3, 1) := by decide +kernel
theorem d5_8 : decode prog_59_method_10_code 8 = .ok (.aastore, 1) := by decide +kernel
theorem d5_9 : decode prog_59_method_10_code 9 = .ok (.aload_n 0, 1) := by decide +kernel
theorem d5_10 : decode prog_59_method_10_code 10 = .ok (.getfield 17, 3) := by decide +kernel
theorem d5_13 : decode prog_59_method_10_code 13 = .ok (.iload_n 1, 1) := by decide +kernel
theorem d5_14 : decode prog_59_method_10_code 14 = .ok (.dup2, 1) := by decide +kernel
theorem d5_15 : decode prog_59_method_10_code 15 = .ok (.iaload, 1) := by decide +kernel
theorem d5_16 : decode prog_59_method_10_code 16 = .ok (.iconst 1, 1) := by decide +kernel
theorem d5_17 : decode prog_59_method_10_code 17 = .ok (.isub, 1) := by decide +kernel
theorem d5_18 : decode prog_59_method_10_code 18 = .ok (.iastore, 1) := by decide +kernel
theorem d5_19 : decode prog_59_method_10_code 19 = .ok (.aload_n 0, 1) := by decide +kernel
theorem d5_20 : decode prog_59_method_10_code 20 = .ok (.getfield 21, 3) := by decide +kernel
theorem d5_23 : decode prog_59_method_10_code 23 = .ok (.iload_n 1, 1) := by decide +kernel
theorem d5_24 : decode prog_59_method_10_code 24 = .ok (.dup2, 1) := by decide +kernel
theorem d5_25 : decode prog_59_method_10_code 25 = .ok (.laload, 1) := by decide +kernel
theorem d5_26 : decode prog_59_method_10_code 26 = .ok (.lconst 1, 1) := by decide +kernel
theorem d5_27 : decode prog_59_method_10_code 27 = .ok (.iload_n 2, 1) := by decide +kernel
theorem d5_28 : decode prog_59_method_10_code 28 = .ok (.lshl, 1) := by decide +kernel
theorem d5_29 : decode prog_59_method_10_code 29 = .ok (.ldc2_w 40, 3) := by decide +kernel
theorem d5_32 : decode prog_59_method_10_code 32 = .ok (.lxor, 1) := by decide +kernel
theorem d5_33 : decode prog_59_method_10_code 33 = .ok (.land, 1) := by decide +kernel
theorem d5_34 : decode prog_59_method_10_code 34 = .ok (.lastore, 1) := by decide +kernel
theorem d5_35 : decode prog_59_method_10_code 35 = .ok (.aload_n 0, 1) := by decide +kernel
theorem d5_36 : decode prog_59_method_10_code 36 = .ok (.getfield 30, 3) := by decide +kernel
theorem d5_39 : decode prog_59_method_10_code 39 = .ok (.aload_n 0, 1) := by decide +kernel
theorem d5_40 : decode prog_59_method_10_code 40 = .ok (.getfield 44, 3) := by decide +kernel
theorem d5_43 : decode prog_59_method_10_code 43 = .ok (.iload_n 1, 1) := by decide +kernel
theorem d5_44 : decode prog_59_method_10_code 44 = .ok (.iastore, 1) := by decide +kernel
theorem d5_45 : decode prog_59_method_10_code 45 = .ok (.aload_n 0, 1) := by decide +kernel
theorem d5_46 : decode prog_59_method_10_code 46 = .ok (.getfield 30, 3) := by decide +kernel
theorem d5_49 : decode prog_59_method_10_code 49 = .ok (.aload_n 0, 1) := by decide +kernel
theorem d5_50 : decode prog_59_method_10_code 50 = .ok (.getfield 44, 3) := by decide +kernel
theorem d5_53 : decode prog_59_method_10_code 53 = .ok (.iconst 1, 1) := by decide +kernel
theorem d5_54 : decode prog_59_method_10_code 54 = .ok (.iadd, 1) := by decide +kernel
theorem d5_55 : decode prog_59_method_10_code 55 = .ok (.iload_n 2, 1) := by decide +kernel
theorem d5_56 : decode prog_59_method_10_code 56 = .ok (.iastore, 1) := by decide +kernel
theorem d5_57 : decode prog_59_method_10_code 57 = .ok (.aload_n 0, 1) := by decide +kernel
theorem d5_58 : decode prog_59_method_10_code 58 = .ok (.dup, 1) := by decide +kernel
theorem d5_59 : decode prog_59_method_10_code 59 = .ok (.getfield 44, 3) := by decide +kernel
theorem d5_62 : decode prog_59_method_10_code 62 = .ok (.iconst 2, 1) := by decide +kernel
theorem d5_63 : decode prog_59_method_10_code 63 = .ok (.iadd, 1) := by decide +kernel
theorem d5_64 : decode prog_59_method_10_code 64 = .ok (.putfield 44, 3) := by decide +kernel
theorem d5_67 : decode prog_59_method_10_code 67 = .ok (.return_, 1) := by decide +kernel
theorem ef144 (m : MethodId) (x0 : Addr) (x1 : Int32) (x2 : Int32) (x3 : Addr) : entryFrame m #[(.ref x0), (.int x1), (.int x2), (.ref x3)] 4 = mkF m 0 #[.val (.ref x0), .val (.int x1), .val (.int x2), .val (.ref x3)] [] := by first | (simp [entryFrame, mkF, argsToLocals, Value.category]; done) | rfl
def Q5_2 (Z : State) (ob0 : Addr) (q0 : Int32) (q1 : Int32) (y : Addr) (R : Addr) (Lf : Addr) (Lm : Addr) (Tr : Addr) (ts : Int32) (k_R : ClassId) (N : Nat) (fR : Nat → Value) (x : Addr) (k_x : ClassId) (K : Nat) (fx : Nat → Value) (k_Lf : ClassId) (fL : Nat → Value) (k_Lm : ClassId) (fM : Nat → Value) (k_Tr : ClassId) (nT : Nat) (fT : Nat → Value) (w15 : Int32) (w25 : Int64) (h0 : Heap) (n0 : Nat) (v : Option Value) (h : Heap) (L : List Loc) : Prop := v = none ∧ Fr n0 L ∧ Keep h0 h [x, Lf, Lm, Tr, ob0] ∧ Old Z n0 h ∧ Ars Z h x k_x (.array .int) K (own_upd fx (q1).toNatClampNeg (.ref y)) ∧ Ars Z h Lf k_Lf .int N (own_upd fL (q0).toNatClampNeg (.int (w15 - (1 : Int32)))) ∧ Ars Z h Lm k_Lm .long N (own_upd fM (q0).toNatClampNeg (.long (w25 &&& (((1 : Int64) <<< (q1 &&& 0x3f).toInt64) ^^^ (-1 : Int64))))) ∧ Ars Z h Tr k_Tr .int nT (own_upd (own_upd fT (ts).toNatClampNeg (.int q0)) ((ts + (1 : Int32))).toNatClampNeg (.int q1)) ∧ Exa Z h ob0 "com/example/caprice/caprice/solver/Domains" ∧ Fld Z h ob0 "com/example/caprice/caprice/solver/Domains" "reasons" "[[[I" (.ref R) ∧ Fld Z h ob0 "com/example/caprice/caprice/solver/Domains" "left" "[I" (.ref Lf) ∧ Fld Z h ob0 "com/example/caprice/caprice/solver/Domains" "leftMasks" "[J" (.ref Lm) ∧ Fld Z h ob0 "com/example/caprice/caprice/solver/Domains" "trail" "[I" (.ref Tr) ∧ Fld Z h ob0 "com/example/caprice/caprice/solver/Domains" "trailSize" "I" (.int (ts + (2 : Int32))) ∧ True
set_option maxRecDepth 65536 in
set_option maxHeartbeats 40000000 in
theorem rm5_2 (l : Launch) (Z : State) (a0 : Array Value) (hw : ∀ d ∈ tables_1, d.before a0 Z = true) (ws : List Jvm.Cond) (ob0 : Addr) (q0 : Int32) (q1 : Int32) (y : Addr) (R : Addr) (Lf : Addr) (Lm : Addr) (Tr : Addr) (ts : Int32) (k_R : ClassId) (N : Nat) (fR : Nat → Value) (x : Addr) (k_x : ClassId) (K : Nat) (fx : Nat → Value) (k_Lf : ClassId) (fL : Nat → Value) (k_Lm : ClassId) (fM : Nat → Value) (k_Tr : ClassId) (nT : Nat) (fT : Nat → Value) (w15 : Int32) (w25 : Int64) (h0 : Heap) (n0 : Nat) (Z0 : n0 ≤ h0.size) (O0 : Old Z n0 h0) (OX : OvrA Z k_x .int "[I") (PE_ob0 : Exa Z h0 ob0 "com/example/caprice/caprice/solver/Domains") (PF_ob0_reasons : Fld Z h0 ob0 "com/example/caprice/caprice/solver/Domains" "reasons" "[[[I" (.ref R)) (PF_ob0_left : Fld Z h0 ob0 "com/example/caprice/caprice/solver/Domains" "left" "[I" (.ref Lf)) (PF_ob0_leftMasks : Fld Z h0 ob0 "com/example/caprice/caprice/solver/Domains" "leftMasks" "[J" (.ref Lm)) (PF_ob0_trail : Fld Z h0 ob0 "com/example/caprice/caprice/solver/Domains" "trail" "[I" (.ref Tr)) (PF_ob0_trailSize : Fld Z h0 ob0 "com/example/caprice/caprice/solver/Domains" "trailSize" "I" (.int ts)) (PA_R : Ars Z h0 R k_R (.array (.array .int)) N fR) (PA_x : Ars Z h0 x k_x (.array .int) K fx) (PA_Lf : Ars Z h0 Lf k_Lf .int N fL) (PA_Lm : Ars Z h0 Lm k_Lm .long N fM) (PA_Tr : Ars Z h0 Tr k_Tr .int nT fT) (PE_y : Exa Z h0 y "[I") (ne_ob0_x : ob0 ≠ x) (ne_Lf_x : Lf ≠ x) (ne_Lf_ob0 : Lf ≠ ob0) (ne_Lm_x : Lm ≠ x) (ne_Lf_Lm : Lf ≠ Lm) (ne_Lm_ob0 : Lm ≠ ob0) (ne_Tr_x : Tr ≠ x) (ne_Lf_Tr : Lf ≠ Tr) (ne_Lm_Tr : Lm ≠ Tr) (ne_Tr_ob0 : Tr ≠ ob0) (g_x : n0 ≤ x) (g_Lf : n0 ≤ Lf) (g_Lm : n0 ≤ Lm) (g_Tr : n0 ≤ Tr) (g_ob0 : n0 ≤ ob0) (hin5 : ¬ (q0 < 0 ∨ N ≤ (q0).toNatClampNeg)) (hat5 : fR (q0).toNatClampNeg = (.ref x)) (hin8 : ¬ (q1 < 0 ∨ K ≤ (q1).toNatClampNeg)) (hat15 : fL (q0).toNatClampNeg = (.int w15)) (hat25 : fM (q0).toNatClampNeg = (.long w25)) (hin44 : ¬ (ts < 0 ∨ nT ≤ (ts).toNatClampNeg)) (hin56 : ¬ ((ts + (1 : Int32)) < 0 ∨ nT ≤ ((ts + (1 : Int32))).toNatClampNeg)) :
    MetFree l (⟨"com/example/caprice/caprice/solver/Domains", "remove", "(II[I)V"⟩ : MethodName) (head1 (Jvm.Cond.code (⟨"com/example/caprice/caprice/solver/Domains", "remove", "(II[I)V"⟩ : MethodName) prog_59_method_10_code 4 none :: ws) ({ frames := 0, cells := 0, slots := 0, locals := 0 } : Room)) (fun a U => a = #[(.ref ob0), (.int q0), (.int q1), (.ref y)] ∧ Z.Warmed39 U.vm ∧ U.heap = h0) (fun _ _ _ _ _ => True) (fun _ U o U' => ∃ v L, o = .returned v ∧ Q5_2 Z  ob0 q0 q1 y R Lf Lm Tr ts k_R N fR x k_x K fx k_Lf fL k_Lm fM k_Tr nT fT w15 w25 h0 n0 v U'.heap L ∧ FrameEnd U o U' L ({ frames := 0, cells := 0, slots := 0, locals := 0 } : Room).cells ({ frames := 0, cells := 0, slots := 0, locals := 0 } : Room).slots) := by
  refine MetFree.of_bodySF (plainFor_of_name pn72) hisR ?_
  intro p e s m args below meth c s₁ Bd hml0 hP hK
  obtain ⟨rfl, hZ, hh⟩ := hP
  have hx := Bd.exec
  have hby := Bd.bytes
  have hml : c.maxLocals = 4 := hml0
  have hown : s.vm.findClass "com/example/caprice/caprice/solver/Domains" = some m.cls := findClass_of_methodNamed Bd.named
  have hnm := (name_of_methodNamed Bd.named Bd.method).1
  have X0 : Stand p l e ({ frames := 0, cells := 0, slots := 0, locals := 0 } : Room) s m #[(.ref ob0), (.int q0), (.int q1), (.ref y)] below meth c s₁ [] 0 0 := Stand.of_body Bd
  have e0 : s₁.heap = h0 := by rw [← hh, Bd.state]; rfl
  have N0 := Fr.nil n0
  have pre0 : ∀ t, Steps p.tables e below (s₁.setTop (mkF m 0 #[.val (.ref ob0), .val (.int q0), .val (.int q1), .val (.ref y)] [])) t → Steps p.tables e below (s₁.setTop (entryFrame m #[(.ref ob0), (.int q0), (.int q1), (.ref y)] 4)) t := fun t k => castTop (ef144 m ob0 q0 q1 y) k
  obtain ⟨T1, X1, e1, st1⟩ := getF X0 hx hZ hown (host := "") (Or.inl (hw _ (List.mem_of_getElem? (i := 17) rfl))) Via.refl e0 PF_ob0_reasons (g := (mkF m 1 #[.val (.ref ob0), .val (.int q0), .val (.int q1), .val (.ref y)] [(.ref ob0)])) rfl rfl (hb hby d5_1)
  obtain ⟨ac2, aA2, aq2, aS2, aN2, aH2⟩ := id PA_R
  obtain ⟨ac3, aA3, aq3, aS3, aN3, aH3⟩ := id PA_x
  obtain ⟨T4, h4, X4, e4, W4, st4⟩ := stR X1 hx hZ e1 aA3 (j := q1) (by rw [aS3]; exact hin8) rfl (Sto.ofVA aA3 aq3 OX (Ins.self PE_y)) (g := (mkF m 8 #[.val (.ref ob0), .val (.int q0), .val (.int q1), .val (.ref y)] [(.ref y), (.int q1), (.ref x)])) rfl rfl (hb hby d5_8)
  have A_4 : Ars Z h4 x k_x (.array .int) K (own_upd fx (q1).toNatClampNeg (.ref y)) := Ars.set aA3 aq3 aS3 aN3 aH3 W4
  have N4 := Fr.snoc X4 N0 g_x
  have O4 := O0.wr W4 g_x
  have KK4 : Keep h0 h4 [x, Lf, Lm, Tr, ob0] := (Keep.refl h0 [x, Lf, Lm, Tr, ob0]).wr W4 (Or.inl (List.mem_of_getElem? (i := 0) rfl))
  obtain ⟨T5, X5, e5, st5⟩ := getF X4 hx hZ hown (host := "") (Or.inl (hw _ (List.mem_of_getElem? (i := 19) rfl))) Via.refl e4 (PF_ob0_left.other W4 (Or.inl ne_ob0_x)) (g := (mkF m 10 #[.val (.ref ob0), .val (.int q0), .val (.int q1), .val (.ref y)] [(.ref ob0)])) rfl rfl (hb hby d5_10)
  obtain ⟨ac6, aA6, aq6, aS6, aN6, aH6⟩ := id (PA_Lf.other W4 ne_Lf_x)
  obtain ⟨ac7, aA7, aq7, aS7, aN7, aH7⟩ := id (PA_Lf.other W4 ne_Lf_x)
  obtain ⟨T8, h8, X8, e8, W8, st8⟩ := stI X5 hx hZ e5 aA7 (j := q0) (by rw [aS7]; exact hin5) (g := (mkF m 18 #[.val (.ref ob0), .val (.int q0), .val (.int q1), .val (.ref y)] [(.int (w15 - (1 : Int32))), (.int q0), (.ref Lf)])) rfl rfl (hb hby d5_18)
  have A_8 : Ars Z h8 Lf k_Lf .int N (own_upd fL (q0).toNatClampNeg (.int (w15 - (1 : Int32)))) := Ars.set aA7 aq7 aS7 aN7 aH7 W8
  have N8 := Fr.snoc X8 N4 g_Lf
  have O8 := O4.wr W8 g_Lf
  have KK8 : Keep h0 h8 [x, Lf, Lm, Tr, ob0] := KK4.wr W8 (Or.inl (List.mem_of_getElem? (i := 1) rfl))
  obtain ⟨T9, X9, e9, st9⟩ := getF X8 hx hZ hown (host := "") (Or.inl (hw _ (List.mem_of_getElem? (i := 22) rfl))) Via.refl e8 ((PF_ob0_leftMasks.other W4 (Or.inl ne_ob0_x)).other W8 (Or.inl (Ne.symm ne_Lf_ob0))) (g := (mkF m 20 #[.val (.ref ob0), .val (.int q0), .val (.int q1), .val (.ref y)] [(.ref ob0)])) rfl rfl (hb hby d5_20)
  obtain ⟨ac10, aA10, aq10, aS10, aN10, aH10⟩ := id ((PA_Lm.other W4 ne_Lm_x).other W8 (Ne.symm ne_Lf_Lm))
  obtain ⟨ac11, aA11, aq11, aS11, aN11, aH11⟩ := id ((PA_Lm.other W4 ne_Lm_x).other W8 (Ne.symm ne_Lf_Lm))
  obtain ⟨T12, h12, X12, e12, W12, st12⟩ := stJ X9 hx hZ e9 aA11 (j := q0) (by rw [aS11]; exact hin5) (g := (mkF m 34 #[.val (.ref ob0), .val (.int q0), .val (.int q1), .val (.ref y)] [(.long (w25 &&& (((1 : Int64) <<< (q1 &&& 0x3f).toInt64) ^^^ (-1 : Int64)))), (.int q0), (.ref Lm)])) rfl rfl (hb hby d5_34)
  have A_12 : Ars Z h12 Lm k_Lm .long N (own_upd fM (q0).toNatClampNeg (.long (w25 &&& (((1 : Int64) <<< (q1 &&& 0x3f).toInt64) ^^^ (-1 : Int64))))) := Ars.set aA11 aq11 aS11 aN11 aH11 W12
  have N12 := Fr.snoc X12 N8 g_Lm
  have O12 := O8.wr W12 g_Lm
  have KK12 : Keep h0 h12 [x, Lf, Lm, Tr, ob0] := KK8.wr W12 (Or.inl (List.mem_of_getElem? (i := 2) rfl))
  have J13 := (((PF_ob0_trail.other W4 (Or.inl ne_ob0_x)).other W8 (Or.inl (Ne.symm ne_Lf_ob0))).other W12 (Or.inl (Ne.symm ne_Lm_ob0)))
  obtain ⟨T14, X14, e14, st14⟩ := getF X12 hx hZ hown (host := "") (Or.inl (hw _ (List.mem_of_getElem? (i := 30) rfl))) Via.refl e12 J13 (g := (mkF m 36 #[.val (.ref ob0), .val (.int q0), .val (.int q1), .val (.ref y)] [(.ref ob0)])) rfl rfl (hb hby d5_36)
  have J15 := (((PF_ob0_trailSize.other W4 (Or.inl ne_ob0_x)).other W8 (Or.inl (Ne.symm ne_Lf_ob0))).other W12 (Or.inl (Ne.symm ne_Lm_ob0)))
  obtain ⟨T16, X16, e16, st16⟩ := getF X14 hx hZ hown (host := "") (Or.inl (hw _ (List.mem_of_getElem? (i := 44) rfl))) Via.refl e14 J15 (g := (mkF m 40 #[.val (.ref ob0), .val (.int q0), .val (.int q1), .val (.ref y)] [(.ref ob0), (.ref Tr)])) rfl rfl (hb hby d5_40)
  have J18 := (((PA_Tr.other W4 ne_Tr_x).other W8 (Ne.symm ne_Lf_Tr)).other W12 (Ne.symm ne_Lm_Tr))
  obtain ⟨ac17, aA17, aq17, aS17, aN17, aH17⟩ := id J18
  obtain ⟨T19, h19, X19, e19, W19, st19⟩ := stI X16 hx hZ e16 aA17 (j := ts) (by rw [aS17]; exact hin44) (g := (mkF m 44 #[.val (.ref ob0), .val (.int q0), .val (.int q1), .val (.ref y)] [(.int q0), (.int ts), (.ref Tr)])) rfl rfl (hb hby d5_44)
  have A_19 : Ars Z h19 Tr k_Tr .int nT (own_upd fT (ts).toNatClampNeg (.int q0)) := Ars.set aA17 aq17 aS17 aN17 aH17 W19
  have N19 := Fr.snoc X19 N12 g_Tr
  have O19 := O12.wr W19 g_Tr
  have KK19 : Keep h0 h19 [x, Lf, Lm, Tr, ob0] := KK12.wr W19 (Or.inl (List.mem_of_getElem? (i := 3) rfl))
  obtain ⟨T20, X20, e20, st20⟩ := getF X19 hx hZ hown (host := "") (Or.inl (hw _ (List.mem_of_getElem? (i := 30) rfl))) Via.refl e19 (J13.other W19 (Or.inl (Ne.symm ne_Tr_ob0))) (g := (mkF m 46 #[.val (.ref ob0), .val (.int q0), .val (.int q1), .val (.ref y)] [(.ref ob0)])) rfl rfl (hb hby d5_46)
  obtain ⟨T21, X21, e21, st21⟩ := getF X20 hx hZ hown (host := "") (Or.inl (hw _ (List.mem_of_getElem? (i := 44) rfl))) Via.refl e20 (J15.other W19 (Or.inl (Ne.symm ne_Tr_ob0))) (g := (mkF m 50 #[.val (.ref ob0), .val (.int q0), .val (.int q1), .val (.ref y)] [(.ref ob0), (.ref Tr)])) rfl rfl (hb hby d5_50)
  obtain ⟨ac22, aA22, aq22, aS22, aN22, aH22⟩ := id A_19
  obtain ⟨T23, h23, X23, e23, W23, st23⟩ := stI X21 hx hZ e21 aA22 (j := (ts + (1 : Int32))) (by rw [aS22]; exact hin56) (g := (mkF m 56 #[.val (.ref ob0), .val (.int q0), .val (.int q1), .val (.ref y)] [(.int q1), (.int (ts + (1 : Int32))), (.ref Tr)])) rfl rfl (hb hby d5_56)
  have A_23 : Ars Z h23 Tr k_Tr .int nT (own_upd (own_upd fT (ts).toNatClampNeg (.int q0)) ((ts + (1 : Int32))).toNatClampNeg (.int q1)) := Ars.set aA22 aq22 aS22 aN22 aH22 W23
  have N23 := Fr.snoc X23 N19 g_Tr
  have O23 := O19.wr W23 g_Tr
  have KK23 : Keep h0 h23 [x, Lf, Lm, Tr, ob0] := KK19.wr W23 (Or.inl (List.mem_of_getElem? (i := 3) rfl))
  obtain ⟨T24, X24, e24, st24⟩ := getF X23 hx hZ hown (host := "") (Or.inl (hw _ (List.mem_of_getElem? (i := 44) rfl))) Via.refl e23 ((J15.other W19 (Or.inl (Ne.symm ne_Tr_ob0))).other W23 (Or.inl (Ne.symm ne_Tr_ob0))) (g := (mkF m 59 #[.val (.ref ob0), .val (.int q0), .val (.int q1), .val (.ref y)] [(.ref ob0), (.ref ob0)])) rfl rfl (hb hby d5_59)
  have J25 := (((((PE_ob0.wr W4).wr W8).wr W12).wr W19).wr W23)
  obtain ⟨T26, h26, X26, e26, W26, st26⟩ := putF X24 hx hZ hown (host := "") (Or.inl (hw _ (List.mem_of_getElem? (i := 44) rfl))) Via.refl e24 ((J15.other W19 (Or.inl (Ne.symm ne_Tr_ob0))).other W23 (Or.inl (Ne.symm ne_Tr_ob0))) J25 (Or.inl (hw _ (List.mem_of_getElem? (i := 45) rfl))) (hw _ (List.mem_of_getElem? (i := 7) rfl)) (ty := .int) (by decide) rfl rfl (g := (mkF m 64 #[.val (.ref ob0), .val (.int q0), .val (.int q1), .val (.ref y)] [(.int (ts + (2 : Int32))), (.ref ob0)])) rfl rfl (hb hby d5_64)
  have Fw26 := ((J15.other W19 (Or.inl (Ne.symm ne_Tr_ob0))).other W23 (Or.inl (Ne.symm ne_Tr_ob0))).same W26
  have N26 := Fr.snoc X26 N23 g_ob0
  have O26 := O23.wr W26 g_ob0
  have KK26 : Keep h0 h26 [x, Lf, Lm, Tr, ob0] := KK23.wr W26 (Or.inl (List.mem_of_getElem? (i := 4) rfl))
  have J27 := (((((A_4.other W8 (Ne.symm ne_Lf_x)).other W12 (Ne.symm ne_Lm_x)).other W19 (Ne.symm ne_Tr_x)).other W23 (Ne.symm ne_Tr_x)).other W26 (Ne.symm ne_ob0_x))
  have J28 := ((((A_8.other W12 ne_Lf_Lm).other W19 ne_Lf_Tr).other W23 ne_Lf_Tr).other W26 ne_Lf_ob0)
  have J29 := (((A_12.other W19 ne_Lm_Tr).other W23 ne_Lm_Tr).other W26 ne_Lm_ob0)
  have J30 := ((((((PF_ob0_reasons.other W4 (Or.inl ne_ob0_x)).other W8 (Or.inl (Ne.symm ne_Lf_ob0))).other W12 (Or.inl (Ne.symm ne_Lm_ob0))).other W19 (Or.inl (Ne.symm ne_Tr_ob0))).other W23 (Or.inl (Ne.symm ne_Tr_ob0))).other W26 (Or.inr (slot_ne (Or.inr (hw _ (List.mem_of_getElem? (i := 18) rfl))) (Or.inl (hw _ (List.mem_of_getElem? (i := 45) rfl))) (by decide) (t := (.array (.array (.array .int)))) (t' := .int) (by decide) (by decide))))
  have J31 := ((((((PF_ob0_left.other W4 (Or.inl ne_ob0_x)).other W8 (Or.inl (Ne.symm ne_Lf_ob0))).other W12 (Or.inl (Ne.symm ne_Lm_ob0))).other W19 (Or.inl (Ne.symm ne_Tr_ob0))).other W23 (Or.inl (Ne.symm ne_Tr_ob0))).other W26 (Or.inr (slot_ne (Or.inr (hw _ (List.mem_of_getElem? (i := 20) rfl))) (Or.inl (hw _ (List.mem_of_getElem? (i := 45) rfl))) (by decide) (t := (.array .int)) (t' := .int) (by decide) (by decide))))
  have J32 := ((((((PF_ob0_leftMasks.other W4 (Or.inl ne_ob0_x)).other W8 (Or.inl (Ne.symm ne_Lf_ob0))).other W12 (Or.inl (Ne.symm ne_Lm_ob0))).other W19 (Or.inl (Ne.symm ne_Tr_ob0))).other W23 (Or.inl (Ne.symm ne_Tr_ob0))).other W26 (Or.inr (slot_ne (Or.inr (hw _ (List.mem_of_getElem? (i := 23) rfl))) (Or.inl (hw _ (List.mem_of_getElem? (i := 45) rfl))) (by decide) (t := (.array .long)) (t' := .int) (by decide) (by decide))))
  have J33 := (((J13.other W19 (Or.inl (Ne.symm ne_Tr_ob0))).other W23 (Or.inl (Ne.symm ne_Tr_ob0))).other W26 (Or.inr (slot_ne (Or.inr (hw _ (List.mem_of_getElem? (i := 31) rfl))) (Or.inl (hw _ (List.mem_of_getElem? (i := 45) rfl))) (by decide) (t := (.array .int)) (t' := .int) (by decide) (by decide))))
  obtain ⟨fs, hr, hrun, hended, hW, hsame⟩ := X26.leave (v := none) (fun _ => rfl)
  refine ⟨_, _, pre0 _ ?_, hrun, hended, _, _, rfl, ?_, ⟨_, rfl⟩, hW, hsame.mono (by decide) (by decide)⟩
  · show Steps p.tables e below (s₁.setTop (mkF m 0 #[.val (.ref ob0), .val (.int q0), .val (.int q1), .val (.ref y)] [])) _
    refine XS.aloadN X0.here hx rfl (hb hby d5_0) rfl rfl ?_
    show Steps p.tables e below (s₁.setTop (mkF m 1 #[.val (.ref ob0), .val (.int q0), .val (.int q1), .val (.ref y)] [(.ref ob0)])) _
    refine st1 _ ?_
    show Steps p.tables e below (T1.setTop (mkF m 4 #[.val (.ref ob0), .val (.int q0), .val (.int q1), .val (.ref y)] [(.ref R)])) _
    refine XS.iloadN X1.here hx rfl (hb hby d5_4) rfl ?_
    show Steps p.tables e below (T1.setTop (mkF m 5 #[.val (.ref ob0), .val (.int q0), .val (.int q1), .val (.ref y)] [(.int q0), (.ref R)])) _
    refine X1.aaload hx (j := q0) (v := (.ref x)) (by rw [e1]; exact aA2.1) (State.isArrayOf_alike hZ.alike aA2.2.1) rfl aA2.2.2 (by rw [aS2]; exact hin5) (own_at aH2 hin5 hat5) (g := (mkF m 5 #[.val (.ref ob0), .val (.int q0), .val (.int q1), .val (.ref y)] [(.int q0), (.ref R)])) rfl rfl (hb hby d5_5) _ ?_
    show Steps p.tables e below (T1.setTop (mkF m 6 #[.val (.ref ob0), .val (.int q0), .val (.int q1), .val (.ref y)] [(.ref x)])) _
    refine XS.iloadN X1.here hx rfl (hb hby d5_6) rfl ?_
    show Steps p.tables e below (T1.setTop (mkF m 7 #[.val (.ref ob0), .val (.int q0), .val (.int q1), .val (.ref y)] [(.int q1), (.ref x)])) _
    refine XS.aloadN X1.here hx rfl (hb hby d5_7) rfl rfl ?_
    show Steps p.tables e below (T1.setTop (mkF m 8 #[.val (.ref ob0), .val (.int q0), .val (.int q1), .val (.ref y)] [(.ref y), (.int q1), (.ref x)])) _
    refine st4 _ ?_
    show Steps p.tables e below (T4.setTop (mkF m 9 #[.val (.ref ob0), .val (.int q0), .val (.int q1), .val (.ref y)] [])) _
    refine XS.aloadN X4.here hx rfl (hb hby d5_9) rfl rfl ?_
    show Steps p.tables e below (T4.setTop (mkF m 10 #[.val (.ref ob0), .val (.int q0), .val (.int q1), .val (.ref y)] [(.ref ob0)])) _
    refine st5 _ ?_
    show Steps p.tables e below (T5.setTop (mkF m 13 #[.val (.ref ob0), .val (.int q0), .val (.int q1), .val (.ref y)] [(.ref Lf)])) _
    refine XS.iloadN X5.here hx rfl (hb hby d5_13) rfl ?_
    show Steps p.tables e below (T5.setTop (mkF m 14 #[.val (.ref ob0), .val (.int q0), .val (.int q1), .val (.ref y)] [(.int q0), (.ref Lf)])) _
    jvm_step X5.here [X5.here.top, hx, (hb hby d5_14), Value.category]
    show Steps p.tables e below (T5.setTop (mkF m 15 #[.val (.ref ob0), .val (.int q0), .val (.int q1), .val (.ref y)] [(.int q0), (.ref Lf), (.int q0), (.ref Lf)])) _
    refine X5.iaload hx (j := q0) (v := (.int w15)) (by rw [e5]; exact aA6.1) (State.isArrayOf_alike hZ.alike aA6.2.1) aA6.2.2 (by rw [aS6]; exact hin5) (own_at aH6 hin5 hat15) (g := (mkF m 15 #[.val (.ref ob0), .val (.int q0), .val (.int q1), .val (.ref y)] [(.int q0), (.ref Lf), (.int q0), (.ref Lf)])) rfl rfl (hb hby d5_15) _ ?_
    show Steps p.tables e below (T5.setTop (mkF m 16 #[.val (.ref ob0), .val (.int q0), .val (.int q1), .val (.ref y)] [(.int w15), (.int q0), (.ref Lf)])) _
    refine XS.iconst X5.here hx rfl (hb hby d5_16) ?_
    show Steps p.tables e below (T5.setTop (mkF m 17 #[.val (.ref ob0), .val (.int q0), .val (.int q1), .val (.ref y)] [(.int (1 : Int32)), (.int w15), (.int q0), (.ref Lf)])) _
    refine XS.isub X5.here hx rfl (hb hby d5_17) rfl ?_
    show Steps p.tables e below (T5.setTop (mkF m 18 #[.val (.ref ob0), .val (.int q0), .val (.int q1), .val (.ref y)] [(.int (w15 - (1 : Int32))), (.int q0), (.ref Lf)])) _
    refine st8 _ ?_
    show Steps p.tables e below (T8.setTop (mkF m 19 #[.val (.ref ob0), .val (.int q0), .val (.int q1), .val (.ref y)] [])) _
    refine XS.aloadN X8.here hx rfl (hb hby d5_19) rfl rfl ?_
    show Steps p.tables e below (T8.setTop (mkF m 20 #[.val (.ref ob0), .val (.int q0), .val (.int q1), .val (.ref y)] [(.ref ob0)])) _
    refine st9 _ ?_
    show Steps p.tables e below (T9.setTop (mkF m 23 #[.val (.ref ob0), .val (.int q0), .val (.int q1), .val (.ref y)] [(.ref Lm)])) _
    refine XS.iloadN X9.here hx rfl (hb hby d5_23) rfl ?_
    show Steps p.tables e below (T9.setTop (mkF m 24 #[.val (.ref ob0), .val (.int q0), .val (.int q1), .val (.ref y)] [(.int q0), (.ref Lm)])) _
    jvm_step X9.here [X9.here.top, hx, (hb hby d5_24), Value.category]
    show Steps p.tables e below (T9.setTop (mkF m 25 #[.val (.ref ob0), .val (.int q0), .val (.int q1), .val (.ref y)] [(.int q0), (.ref Lm), (.int q0), (.ref Lm)])) _
    refine X9.laload hx (j := q0) (v := (.long w25)) (by rw [e9]; exact aA10.1) (State.isArrayOf_alike hZ.alike aA10.2.1) aA10.2.2 (by rw [aS10]; exact hin5) (own_at aH10 hin5 hat25) (g := (mkF m 25 #[.val (.ref ob0), .val (.int q0), .val (.int q1), .val (.ref y)] [(.int q0), (.ref Lm), (.int q0), (.ref Lm)])) rfl rfl (hb hby d5_25) _ ?_
    show Steps p.tables e below (T9.setTop (mkF m 26 #[.val (.ref ob0), .val (.int q0), .val (.int q1), .val (.ref y)] [(.long w25), (.int q0), (.ref Lm)])) _
    refine XS.lconst X9.here hx rfl (hb hby d5_26) ?_
    show Steps p.tables e below (T9.setTop (mkF m 27 #[.val (.ref ob0), .val (.int q0), .val (.int q1), .val (.ref y)] [(.long (1 : Int64)), (.long w25), (.int q0), (.ref Lm)])) _
    refine XS.iloadN X9.here hx rfl (hb hby d5_27) rfl ?_
    show Steps p.tables e below (T9.setTop (mkF m 28 #[.val (.ref ob0), .val (.int q0), .val (.int q1), .val (.ref y)] [(.int q1), (.long (1 : Int64)), (.long w25), (.int q0), (.ref Lm)])) _
    refine XS.lshl X9.here hx rfl (hb hby d5_28) rfl ?_
    show Steps p.tables e below (T9.setTop (mkF m 29 #[.val (.ref ob0), .val (.int q0), .val (.int q1), .val (.ref y)] [(.long ((1 : Int64) <<< (q1 &&& 0x3f).toInt64)), (.long w25), (.int q0), (.ref Lm)])) _
    refine X9.ldc2Long hx hown (mvT hZ (hw _ (List.mem_of_getElem? (i := 43) rfl))) (g := (mkF m 29 #[.val (.ref ob0), .val (.int q0), .val (.int q1), .val (.ref y)] [(.long ((1 : Int64) <<< (q1 &&& 0x3f).toInt64)), (.long w25), (.int q0), (.ref Lm)])) rfl (hb hby d5_29) _ ?_
    show Steps p.tables e below (T9.setTop (mkF m 32 #[.val (.ref ob0), .val (.int q0), .val (.int q1), .val (.ref y)] [(.long (-1 : Int64)), (.long ((1 : Int64) <<< (q1 &&& 0x3f).toInt64)), (.long w25), (.int q0), (.ref Lm)])) _
    refine XS.lxor X9.here hx rfl (hb hby d5_32) rfl ?_
    show Steps p.tables e below (T9.setTop (mkF m 33 #[.val (.ref ob0), .val (.int q0), .val (.int q1), .val (.ref y)] [(.long (((1 : Int64) <<< (q1 &&& 0x3f).toInt64) ^^^ (-1 : Int64))), (.long w25), (.int q0), (.ref Lm)])) _
    refine XS.land X9.here hx rfl (hb hby d5_33) rfl ?_
    show Steps p.tables e below (T9.setTop (mkF m 34 #[.val (.ref ob0), .val (.int q0), .val (.int q1), .val (.ref y)] [(.long (w25 &&& (((1 : Int64) <<< (q1 &&& 0x3f).toInt64) ^^^ (-1 : Int64)))), (.int q0), (.ref Lm)])) _
    refine st12 _ ?_
    show Steps p.tables e below (T12.setTop (mkF m 35 #[.val (.ref ob0), .val (.int q0), .val (.int q1), .val (.ref y)] [])) _
    refine XS.aloadN X12.here hx rfl (hb hby d5_35) rfl rfl ?_
    show Steps p.tables e below (T12.setTop (mkF m 36 #[.val (.ref ob0), .val (.int q0), .val (.int q1), .val (.ref y)] [(.ref ob0)])) _
    refine st14 _ ?_
    show Steps p.tables e below (T14.setTop (mkF m 39 #[.val (.ref ob0), .val (.int q0), .val (.int q1), .val (.ref y)] [(.ref Tr)])) _
    refine XS.aloadN X14.here hx rfl (hb hby d5_39) rfl rfl ?_
    show Steps p.tables e below (T14.setTop (mkF m 40 #[.val (.ref ob0), .val (.int q0), .val (.int q1), .val (.ref y)] [(.ref ob0), (.ref Tr)])) _
    refine st16 _ ?_
    show Steps p.tables e below (T16.setTop (mkF m 43 #[.val (.ref ob0), .val (.int q0), .val (.int q1), .val (.ref y)] [(.int ts), (.ref Tr)])) _
    refine XS.iloadN X16.here hx rfl (hb hby d5_43) rfl ?_
    show Steps p.tables e below (T16.setTop (mkF m 44 #[.val (.ref ob0), .val (.int q0), .val (.int q1), .val (.ref y)] [(.int q0), (.int ts), (.ref Tr)])) _
    refine st19 _ ?_
    show Steps p.tables e below (T19.setTop (mkF m 45 #[.val (.ref ob0), .val (.int q0), .val (.int q1), .val (.ref y)] [])) _
    refine XS.aloadN X19.here hx rfl (hb hby d5_45) rfl rfl ?_
    show Steps p.tables e below (T19.setTop (mkF m 46 #[.val (.ref ob0), .val (.int q0), .val (.int q1), .val (.ref y)] [(.ref ob0)])) _
    refine st20 _ ?_
    show Steps p.tables e below (T20.setTop (mkF m 49 #[.val (.ref ob0), .val (.int q0), .val (.int q1), .val (.ref y)] [(.ref Tr)])) _
    refine XS.aloadN X20.here hx rfl (hb hby d5_49) rfl rfl ?_
    show Steps p.tables e below (T20.setTop (mkF m 50 #[.val (.ref ob0), .val (.int q0), .val (.int q1), .val (.ref y)] [(.ref ob0), (.ref Tr)])) _
    refine st21 _ ?_
    show Steps p.tables e below (T21.setTop (mkF m 53 #[.val (.ref ob0), .val (.int q0), .val (.int q1), .val (.ref y)] [(.int ts), (.ref Tr)])) _
    refine XS.iconst X21.here hx rfl (hb hby d5_53) ?_
    show Steps p.tables e below (T21.setTop (mkF m 54 #[.val (.ref ob0), .val (.int q0), .val (.int q1), .val (.ref y)] [(.int (1 : Int32)), (.int ts), (.ref Tr)])) _
    refine XS.iadd X21.here hx rfl (hb hby d5_54) rfl ?_
    show Steps p.tables e below (T21.setTop (mkF m 55 #[.val (.ref ob0), .val (.int q0), .val (.int q1), .val (.ref y)] [(.int (ts + (1 : Int32))), (.ref Tr)])) _
    refine XS.iloadN X21.here hx rfl (hb hby d5_55) rfl ?_
    show Steps p.tables e below (T21.setTop (mkF m 56 #[.val (.ref ob0), .val (.int q0), .val (.int q1), .val (.ref y)] [(.int q1), (.int (ts + (1 : Int32))), (.ref Tr)])) _
    refine st23 _ ?_
    show Steps p.tables e below (T23.setTop (mkF m 57 #[.val (.ref ob0), .val (.int q0), .val (.int q1), .val (.ref y)] [])) _
    refine XS.aloadN X23.here hx rfl (hb hby d5_57) rfl rfl ?_
    show Steps p.tables e below (T23.setTop (mkF m 58 #[.val (.ref ob0), .val (.int q0), .val (.int q1), .val (.ref y)] [(.ref ob0)])) _
    refine XS.dup X23.here hx rfl (hb hby d5_58) rfl rfl ?_
    show Steps p.tables e below (T23.setTop (mkF m 59 #[.val (.ref ob0), .val (.int q0), .val (.int q1), .val (.ref y)] [(.ref ob0), (.ref ob0)])) _
    refine st24 _ ?_
    show Steps p.tables e below (T24.setTop (mkF m 62 #[.val (.ref ob0), .val (.int q0), .val (.int q1), .val (.ref y)] [(.int ts), (.ref ob0)])) _
    refine XS.iconst X24.here hx rfl (hb hby d5_62) ?_
    show Steps p.tables e below (T24.setTop (mkF m 63 #[.val (.ref ob0), .val (.int q0), .val (.int q1), .val (.ref y)] [(.int (2 : Int32)), (.int ts), (.ref ob0)])) _
    refine XS.iadd X24.here hx rfl (hb hby d5_63) rfl ?_
    show Steps p.tables e below (T24.setTop (mkF m 64 #[.val (.ref ob0), .val (.int q0), .val (.int q1), .val (.ref y)] [(.int (ts + (2 : Int32))), (.ref ob0)])) _
    refine st26 _ ?_
    show Steps p.tables e below (T26.setTop (mkF m 67 #[.val (.ref ob0), .val (.int q0), .val (.int q1), .val (.ref y)] [])) _
    exact X26.returnOut hx Bd.returns (hb hby d5_67) hr
  · have eH : (T26.setFrames fs).heap = h26 := e26; rw [eH]; exact ⟨rfl, N26, KK26, O26, J27, J28, J29, (A_23.other W26 ne_Tr_ob0), (J25.wr W26), J30, J31, J32, J33, Fw26, trivial⟩
theorem d6_0 : decode prog_59_method_8_code 0 = .ok (.aload_n 0, 1) := by decide +kernel
theorem d6_1 : decode prog_59_method_8_code 1 = .ok (.getfield 44, 3) := by decide +kernel
theorem d6_4 : decode prog_59_method_8_code 4 = .ok (.ireturn, 1) := by decide +kernel
theorem ef149 (m : MethodId) (x0 : Addr) : entryFrame m #[(.ref x0)] 1 = mkF m 0 #[.val (.ref x0)] [] := by first | (simp [entryFrame, mkF, argsToLocals, Value.category]; done) | rfl
def Q6_3 (Z : State) (ob0 : Addr) (ts : Int32) (h0 : Heap) (n0 : Nat) (v : Option Value) (h : Heap) (L : List Loc) : Prop := v = some (.int ts) ∧ Fr n0 L ∧ h = h0
set_option maxRecDepth 65536 in
set_option maxHeartbeats 40000000 in
theorem rm6_3 (l : Launch) (Z : State) (a0 : Array Value) (hw : ∀ d ∈ tables_1, d.before a0 Z = true) (ws : List Jvm.Cond) (ob0 : Addr) (ts : Int32) (h0 : Heap) (n0 : Nat) (Z0 : n0 ≤ h0.size) (O0 : Old Z n0 h0) (PE_ob0 : Exa Z h0 ob0 "com/example/caprice/caprice/solver/Domains") (PF_ob0_trailSize : Fld Z h0 ob0 "com/example/caprice/caprice/solver/Domains" "trailSize" "I" (.int ts)) :
    MetFree l (⟨"com/example/caprice/caprice/solver/Domains", "mark", "()I"⟩ : MethodName) (head1 (Jvm.Cond.code (⟨"com/example/caprice/caprice/solver/Domains", "mark", "()I"⟩ : MethodName) prog_59_method_8_code 1 (some .int) :: ws) ({ frames := 0, cells := 0, slots := 0, locals := 0 } : Room)) (fun a U => a = #[(.ref ob0)] ∧ Z.Warmed39 U.vm ∧ U.heap = h0) (fun _ _ _ _ _ => True) (fun _ U o U' => ∃ v L, o = .returned v ∧ Q6_3 Z  ob0 ts h0 n0 v U'.heap L ∧ FrameEnd U o U' L ({ frames := 0, cells := 0, slots := 0, locals := 0 } : Room).cells ({ frames := 0, cells := 0, slots := 0, locals := 0 } : Room).slots) := by
  refine MetFree.of_bodySF (plainFor_of_name pn72) hisR ?_
  intro p e s m args below meth c s₁ Bd hml0 hP hK
  obtain ⟨rfl, hZ, hh⟩ := hP
  have hx := Bd.exec
  have hby := Bd.bytes
  have hml : c.maxLocals = 1 := hml0
  have hown : s.vm.findClass "com/example/caprice/caprice/solver/Domains" = some m.cls := findClass_of_methodNamed Bd.named
  have hnm := (name_of_methodNamed Bd.named Bd.method).1
  have X0 : Stand p l e ({ frames := 0, cells := 0, slots := 0, locals := 0 } : Room) s m #[(.ref ob0)] below meth c s₁ [] 0 0 := Stand.of_body Bd
  have e0 : s₁.heap = h0 := by rw [← hh, Bd.state]; rfl
  have N0 := Fr.nil n0
  have pre0 : ∀ t, Steps p.tables e below (s₁.setTop (mkF m 0 #[.val (.ref ob0)] [])) t → Steps p.tables e below (s₁.setTop (entryFrame m #[(.ref ob0)] 1)) t := fun t k => castTop (ef149 m ob0) k
  obtain ⟨T1, X1, e1, st1⟩ := getF X0 hx hZ hown (host := "") (Or.inl (hw _ (List.mem_of_getElem? (i := 44) rfl))) Via.refl e0 PF_ob0_trailSize (g := (mkF m 1 #[.val (.ref ob0)] [(.ref ob0)])) rfl rfl (hb hby d6_1)
  obtain ⟨fs, hr, hrun, hended, hW, hsame⟩ := X1.leave (v := some (.int ts)) (fun h => by rw [Bd.returns] at h; cases h)
  refine ⟨_, _, pre0 _ ?_, hrun, hended, _, _, rfl, ?_, ⟨_, rfl⟩, hW, hsame.mono (by decide) (by decide)⟩
  · show Steps p.tables e below (s₁.setTop (mkF m 0 #[.val (.ref ob0)] [])) _
    refine XS.aloadN X0.here hx rfl (hb hby d6_0) rfl rfl ?_
    show Steps p.tables e below (s₁.setTop (mkF m 1 #[.val (.ref ob0)] [(.ref ob0)])) _
    refine st1 _ ?_
    show Steps p.tables e below (T1.setTop (mkF m 4 #[.val (.ref ob0)] [(.int ts)])) _
    exact Jvm.RoadKit.retI X1 hx Bd.returns (hb hby d6_4) hr
  · exact ⟨rfl, N0, e1⟩
theorem d9_0 : decode prog_59_method_9_code 0 = .ok (.aload_n 0, 1) := by decide +kernel
theorem d9_1 : decode prog_59_method_9_code 1 = .ok (.getfield 44, 3) := by decide +kernel
theorem d9_4 : decode prog_59_method_9_code 4 = .ok (.iload_n 1, 1) := by decide +kernel
theorem d9_5 : decode prog_59_method_9_code 5 = .ok (.if_icmp .le 69, 3) := by decide +kernel
theorem d9_8 : decode prog_59_method_9_code 8 = .ok (.aload_n 0, 1) := by decide +kernel
theorem d9_9 : decode prog_59_method_9_code 9 = .ok (.dup, 1) := by decide +kernel
theorem d9_10 : decode prog_59_method_9_code 10 = .ok (.getfield 44, 3) := by decide +kernel
theorem d9_13 : decode prog_59_method_9_code 13 = .ok (.iconst 2, 1) := by decide +kernel
theorem d9_14 : decode prog_59_method_9_code 14 = .ok (.isub, 1) := by decide +kernel
theorem d9_15 : decode prog_59_method_9_code 15 = .ok (.putfield 44, 3) := by decide +kernel
theorem d9_18 : decode prog_59_method_9_code 18 = .ok (.aload_n 0, 1) := by decide +kernel
theorem d9_19 : decode prog_59_method_9_code 19 = .ok (.getfield 30, 3) := by decide +kernel
theorem d9_22 : decode prog_59_method_9_code 22 = .ok (.aload_n 0, 1) := by decide +kernel
theorem d9_23 : decode prog_59_method_9_code 23 = .ok (.getfield 44, 3) := by decide +kernel
theorem d9_26 : decode prog_59_method_9_code 26 = .ok (.iaload, 1) := by decide +kernel
theorem os9_27_165 {z0 : Value} {z1 : Value} {z2 : Slot} {z3 : Slot} {v : Int32} (h_z2 : One z2) : storeLocals #[.val z0, .val z1, z2, z3] 2 (.int v) = some #[.val z0, .val z1, .val (.int v), z3] := by
  rcases h_z2 with rfl | ⟨w_z2, rfl, hw_z2⟩
  · skip
    rfl
  · cases w_z2 <;> first | (simp [Value.category] at hw_z2; done) | skip
    all_goals
      rfl
theorem d9_27 : decode prog_59_method_9_code 27 = .ok (.istore_n 2, 1) := by decide +kernel
theorem d9_28 : decode prog_59_method_9_code 28 = .ok (.aload_n 0, 1) := by decide +kernel
theorem d9_29 : decode prog_59_method_9_code 29 = .ok (.getfield 30, 3) := by decide +kernel
theorem d9_32 : decode prog_59_method_9_code 32 = .ok (.aload_n 0, 1) := by decide +kernel
theorem d9_33 : decode prog_59_method_9_code 33 = .ok (.getfield 44, 3) := by decide +kernel
theorem d9_36 : decode prog_59_method_9_code 36 = .ok (.iconst 1, 1) := by decide +kernel
theorem d9_37 : decode prog_59_method_9_code 37 = .ok (.iadd, 1) := by decide +kernel
theorem d9_38 : decode prog_59_method_9_code 38 = .ok (.iaload, 1) := by decide +kernel
theorem os9_39_174 {z0 : Value} {z1 : Value} {z2 : Value} {z3 : Slot} {v : Int32} (h_z3 : One z3) : storeLocals #[.val z0, .val z1, .val z2, z3] 3 (.int v) = some #[.val z0, .val z1, .val z2, .val (.int v)] := by
  rcases h_z3 with rfl | ⟨w_z3, rfl, hw_z3⟩
  · skip
    rfl
  · cases w_z3 <;> first | (simp [Value.category] at hw_z3; done) | skip
    all_goals
      rfl
theorem d9_39 : decode prog_59_method_9_code 39 = .ok (.istore_n 3, 1) := by decide +kernel
theorem d9_40 : decode prog_59_method_9_code 40 = .ok (.aload_n 0, 1) := by decide +kernel
theorem d9_41 : decode prog_59_method_9_code 41 = .ok (.getfield 11, 3) := by decide +kernel
theorem d9_44 : decode prog_59_method_9_code 44 = .ok (.iload_n 2, 1) := by decide +kernel
theorem d9_45 : decode prog_59_method_9_code 45 = .ok (.aaload, 1) := by decide +kernel
theorem d9_46 : decode prog_59_method_9_code 46 = .ok (.iload_n 3, 1) := by decide +kernel
theorem d9_47 : decode prog_59_method_9_code 47 = .ok (.aconst_null, 1) := by decide +kernel
theorem d9_48 : decode prog_59_method_9_code 48 = .ok (.aastore, 1) := by decide +kernel
theorem d9_49 : decode prog_59_method_9_code 49 = .ok (.aload_n 0, 1) := by decide +kernel
theorem d9_50 : decode prog_59_method_9_code 50 = .ok (.getfield 17, 3) := by decide +kernel
theorem d9_53 : decode prog_59_method_9_code 53 = .ok (.iload_n 2, 1) := by decide +kernel
theorem d9_54 : decode prog_59_method_9_code 54 = .ok (.dup2, 1) := by decide +kernel
theorem d9_55 : decode prog_59_method_9_code 55 = .ok (.iaload, 1) := by decide +kernel
theorem d9_56 : decode prog_59_method_9_code 56 = .ok (.iconst 1, 1) := by decide +kernel
theorem d9_57 : decode prog_59_method_9_code 57 = .ok (.iadd, 1) := by decide +kernel
theorem d9_58 : decode prog_59_method_9_code 58 = .ok (.iastore, 1) := by decide +kernel
theorem d9_59 : decode prog_59_method_9_code 59 = .ok (.aload_n 0, 1) := by decide +kernel
theorem d9_60 : decode prog_59_method_9_code 60 = .ok (.getfield 21, 3) := by decide +kernel
theorem d9_63 : decode prog_59_method_9_code 63 = .ok (.iload_n 2, 1) := by decide +kernel
theorem d9_64 : decode prog_59_method_9_code 64 = .ok (.dup2, 1) := by decide +kernel
theorem d9_65 : decode prog_59_method_9_code 65 = .ok (.laload, 1) := by decide +kernel
theorem d9_66 : decode prog_59_method_9_code 66 = .ok (.lconst 1, 1) := by decide +kernel
theorem d9_67 : decode prog_59_method_9_code 67 = .ok (.iload_n 3, 1) := by decide +kernel
theorem d9_68 : decode prog_59_method_9_code 68 = .ok (.lshl, 1) := by decide +kernel
theorem d9_69 : decode prog_59_method_9_code 69 = .ok (.lor, 1) := by decide +kernel
theorem d9_70 : decode prog_59_method_9_code 70 = .ok (.lastore, 1) := by decide +kernel
theorem d9_71 : decode prog_59_method_9_code 71 = .ok (.goto (-71), 3) := by decide +kernel
set_option maxRecDepth 65536 in
set_option maxHeartbeats 40000000 in
theorem rstTurn {p : Program} {l : Launch} {e : Env} {s : State} {m : MethodId} {args : Array Value} {below : List Frame} {meth : Method} {c : Code} {T0 : State} {locs : List Loc} {Z : State} {a0 : Array Value} {h0 : Heap} {n0 : Nat} (ob0 : Addr) (q0 : Int32) (z2 : Slot) (z3 : Slot) (R : Addr) (Lf : Addr) (Lm : Addr) (Tr : Addr) (ts : Int32) (k_R : ClassId) (N : Nat) (fR : Nat → Value) (x : Addr) (k_x : ClassId) (K : Nat) (fx : Nat → Value) (k_Lf : ClassId) (fL : Nat → Value) (k_Lm : ClassId) (fM : Nat → Value) (k_Tr : ClassId) (nT : Nat) (fT : Nat → Value) (dI : Int32) (vI : Int32) (w55 : Int32) (w65 : Int64)
    (X0 : Stand p l e ({ frames := 0, cells := 0, slots := 0, locals := 0 } : Room) s m args below meth c T0 locs 0 0) (hx : p.tables.exec = Jvm.exec) (hZ : Z.Warmed39 s.vm) (hw : ∀ d ∈ tables_1, d.before a0 Z = true) (hby : c.code = prog_59_method_9_code) (hml : c.maxLocals = 4) (hown : s.vm.findClass "com/example/caprice/caprice/solver/Domains" = some m.cls) (e0 : T0.heap = h0) (N0 : Fr n0 locs) (O0 : Old Z n0 h0) (PE_ob0 : Exa Z h0 ob0 "com/example/caprice/caprice/solver/Domains") (PF_ob0_reasons : Fld Z h0 ob0 "com/example/caprice/caprice/solver/Domains" "reasons" "[[[I" (.ref R)) (PF_ob0_left : Fld Z h0 ob0 "com/example/caprice/caprice/solver/Domains" "left" "[I" (.ref Lf)) (PF_ob0_leftMasks : Fld Z h0 ob0 "com/example/caprice/caprice/solver/Domains" "leftMasks" "[J" (.ref Lm)) (PF_ob0_trail : Fld Z h0 ob0 "com/example/caprice/caprice/solver/Domains" "trail" "[I" (.ref Tr)) (PF_ob0_trailSize : Fld Z h0 ob0 "com/example/caprice/caprice/solver/Domains" "trailSize" "I" (.int ts)) (PA_R : Ars Z h0 R k_R (.array (.array .int)) N fR) (PA_x : Ars Z h0 x k_x (.array .int) K fx) (PA_Lf : Ars Z h0 Lf k_Lf .int N fL) (PA_Lm : Ars Z h0 Lm k_Lm .long N fM) (PA_Tr : Ars Z h0 Tr k_Tr .int nT fT) (ne_Tr_ob0 : Tr ≠ ob0) (ne_R_ob0 : R ≠ ob0) (ne_ob0_x : ob0 ≠ x) (ne_Lf_ob0 : Lf ≠ ob0) (ne_Lf_x : Lf ≠ x) (ne_Lm_ob0 : Lm ≠ ob0) (ne_Lm_x : Lm ≠ x) (ne_Lf_Lm : Lf ≠ Lm) (g_ob0 : n0 ≤ ob0) (g_x : n0 ≤ x) (g_Lf : n0 ≤ Lf) (g_Lm : n0 ≤ Lm) (hin26 : ¬ ((ts - (2 : Int32)) < 0 ∨ nT ≤ ((ts - (2 : Int32))).toNatClampNeg)) (hat26 : fT ((ts - (2 : Int32))).toNatClampNeg = (.int dI)) (hone_z2 : One z2) (hin38 : ¬ (((ts - (2 : Int32)) + (1 : Int32)) < 0 ∨ nT ≤ (((ts - (2 : Int32)) + (1 : Int32))).toNatClampNeg)) (hat38 : fT (((ts - (2 : Int32)) + (1 : Int32))).toNatClampNeg = (.int vI)) (hone_z3 : One z3) (hin45 : ¬ (dI < 0 ∨ N ≤ (dI).toNatClampNeg)) (hat45 : fR (dI).toNatClampNeg = (.ref x)) (hin48 : ¬ (vI < 0 ∨ K ≤ (vI).toNatClampNeg)) (hat55 : fL (dI).toNatClampNeg = (.int w55)) (hat65 : fM (dI).toNatClampNeg = (.long w65)) (hd0 : q0 < ts) :
    ∃ (T' : State) (locs' : List Loc), Stand p l e ({ frames := 0, cells := 0, slots := 0, locals := 0 } : Room) s m args below meth c T' locs' 0 0 ∧ Fr n0 locs' ∧ Keep h0 T'.heap [ob0, x, Lf, Lm] ∧ Old Z n0 T'.heap ∧ Exa Z T'.heap ob0 "com/example/caprice/caprice/solver/Domains" ∧ Fld Z T'.heap ob0 "com/example/caprice/caprice/solver/Domains" "reasons" "[[[I" (.ref R) ∧ Fld Z T'.heap ob0 "com/example/caprice/caprice/solver/Domains" "left" "[I" (.ref Lf) ∧ Fld Z T'.heap ob0 "com/example/caprice/caprice/solver/Domains" "leftMasks" "[J" (.ref Lm) ∧ Fld Z T'.heap ob0 "com/example/caprice/caprice/solver/Domains" "trail" "[I" (.ref Tr) ∧ Fld Z T'.heap ob0 "com/example/caprice/caprice/solver/Domains" "trailSize" "I" (.int (ts - (2 : Int32))) ∧ Ars Z T'.heap x k_x (.array .int) K (own_upd fx (vI).toNatClampNeg .null) ∧ Ars Z T'.heap Lf k_Lf .int N (own_upd fL (dI).toNatClampNeg (.int (w55 + (1 : Int32)))) ∧ Ars Z T'.heap Lm k_Lm .long N (own_upd fM (dI).toNatClampNeg (.long (w65 ||| ((1 : Int64) <<< (vI &&& 0x3f).toInt64)))) ∧ True ∧ ∀ t, Steps p.tables e below (T'.setTop (mkF m 0 #[.val (.ref ob0), .val (.int q0), .val (.int dI), .val (.int vI)] [])) t → Steps p.tables e below (T0.setTop (mkF m 0 #[.val (.ref ob0), .val (.int q0), z2, z3] [])) t := by
  obtain ⟨T1, X1, e1, st1⟩ := getF X0 hx hZ hown (host := "") (Or.inl (hw _ (List.mem_of_getElem? (i := 44) rfl))) Via.refl e0 PF_ob0_trailSize (g := (mkF m 1 #[.val (.ref ob0), .val (.int q0), z2, z3] [(.ref ob0)])) rfl rfl (hb hby d9_1)
  obtain ⟨T2, X2, e2, st2⟩ := getF X1 hx hZ hown (host := "") (Or.inl (hw _ (List.mem_of_getElem? (i := 44) rfl))) Via.refl e1 PF_ob0_trailSize (g := (mkF m 10 #[.val (.ref ob0), .val (.int q0), z2, z3] [(.ref ob0), (.ref ob0)])) rfl rfl (hb hby d9_10)
  obtain ⟨T3, h3, X3, e3, W3, st3⟩ := putF X2 hx hZ hown (host := "") (Or.inl (hw _ (List.mem_of_getElem? (i := 44) rfl))) Via.refl e2 PF_ob0_trailSize PE_ob0 (Or.inl (hw _ (List.mem_of_getElem? (i := 45) rfl))) (hw _ (List.mem_of_getElem? (i := 7) rfl)) (ty := .int) (by decide) rfl rfl (g := (mkF m 15 #[.val (.ref ob0), .val (.int q0), z2, z3] [(.int (ts - (2 : Int32))), (.ref ob0)])) rfl rfl (hb hby d9_15)
  have Fw3 := PF_ob0_trailSize.same W3
  have N3 := Fr.snoc X3 N0 g_ob0
  have O3 := O0.wr W3 g_ob0
  have KK3 : Keep h0 h3 [ob0, x, Lf, Lm] := (Keep.refl h0 [ob0, x, Lf, Lm]).wr W3 (Or.inl (List.mem_of_getElem? (i := 0) rfl))
  obtain ⟨T4, X4, e4, st4⟩ := getF X3 hx hZ hown (host := "") (Or.inl (hw _ (List.mem_of_getElem? (i := 30) rfl))) Via.refl e3 (PF_ob0_trail.other W3 (Or.inr (slot_ne (Or.inr (hw _ (List.mem_of_getElem? (i := 31) rfl))) (Or.inl (hw _ (List.mem_of_getElem? (i := 45) rfl))) (by decide) (t := (.array .int)) (t' := .int) (by decide) (by decide)))) (g := (mkF m 19 #[.val (.ref ob0), .val (.int q0), z2, z3] [(.ref ob0)])) rfl rfl (hb hby d9_19)
  obtain ⟨T5, X5, e5, st5⟩ := getF X4 hx hZ hown (host := "") (Or.inl (hw _ (List.mem_of_getElem? (i := 44) rfl))) Via.refl e4 Fw3 (g := (mkF m 23 #[.val (.ref ob0), .val (.int q0), z2, z3] [(.ref ob0), (.ref Tr)])) rfl rfl (hb hby d9_23)
  obtain ⟨ac6, aA6, aq6, aS6, aN6, aH6⟩ := id (PA_Tr.other W3 ne_Tr_ob0)
  obtain ⟨T7, X7, e7, st7⟩ := getF X5 hx hZ hown (host := "") (Or.inl (hw _ (List.mem_of_getElem? (i := 30) rfl))) Via.refl e5 (PF_ob0_trail.other W3 (Or.inr (slot_ne (Or.inr (hw _ (List.mem_of_getElem? (i := 31) rfl))) (Or.inl (hw _ (List.mem_of_getElem? (i := 45) rfl))) (by decide) (t := (.array .int)) (t' := .int) (by decide) (by decide)))) (g := (mkF m 29 #[.val (.ref ob0), .val (.int q0), .val (.int dI), z3] [(.ref ob0)])) rfl rfl (hb hby d9_29)
  obtain ⟨T8, X8, e8, st8⟩ := getF X7 hx hZ hown (host := "") (Or.inl (hw _ (List.mem_of_getElem? (i := 44) rfl))) Via.refl e7 Fw3 (g := (mkF m 33 #[.val (.ref ob0), .val (.int q0), .val (.int dI), z3] [(.ref ob0), (.ref Tr)])) rfl rfl (hb hby d9_33)
  obtain ⟨ac9, aA9, aq9, aS9, aN9, aH9⟩ := id (PA_Tr.other W3 ne_Tr_ob0)
  obtain ⟨T10, X10, e10, st10⟩ := getF X8 hx hZ hown (host := "") (Or.inl (hw _ (List.mem_of_getElem? (i := 17) rfl))) Via.refl e8 (PF_ob0_reasons.other W3 (Or.inr (slot_ne (Or.inr (hw _ (List.mem_of_getElem? (i := 18) rfl))) (Or.inl (hw _ (List.mem_of_getElem? (i := 45) rfl))) (by decide) (t := (.array (.array (.array .int)))) (t' := .int) (by decide) (by decide)))) (g := (mkF m 41 #[.val (.ref ob0), .val (.int q0), .val (.int dI), .val (.int vI)] [(.ref ob0)])) rfl rfl (hb hby d9_41)
  obtain ⟨ac11, aA11, aq11, aS11, aN11, aH11⟩ := id (PA_R.other W3 ne_R_ob0)
  obtain ⟨ac12, aA12, aq12, aS12, aN12, aH12⟩ := id (PA_x.other W3 (Ne.symm ne_ob0_x))
  obtain ⟨T13, h13, X13, e13, W13, st13⟩ := stR X10 hx hZ e10 aA12 (j := vI) (by rw [aS12]; exact hin48) rfl (Or.inl rfl) (g := (mkF m 48 #[.val (.ref ob0), .val (.int q0), .val (.int dI), .val (.int vI)] [.null, (.int vI), (.ref x)])) rfl rfl (hb hby d9_48)
  have A_13 : Ars Z h13 x k_x (.array .int) K (own_upd fx (vI).toNatClampNeg .null) := Ars.set aA12 aq12 aS12 aN12 aH12 W13
  have N13 := Fr.snoc X13 N3 g_x
  have O13 := O3.wr W13 g_x
  have KK13 : Keep h0 h13 [ob0, x, Lf, Lm] := KK3.wr W13 (Or.inl (List.mem_of_getElem? (i := 1) rfl))
  obtain ⟨T14, X14, e14, st14⟩ := getF X13 hx hZ hown (host := "") (Or.inl (hw _ (List.mem_of_getElem? (i := 19) rfl))) Via.refl e13 ((PF_ob0_left.other W3 (Or.inr (slot_ne (Or.inr (hw _ (List.mem_of_getElem? (i := 20) rfl))) (Or.inl (hw _ (List.mem_of_getElem? (i := 45) rfl))) (by decide) (t := (.array .int)) (t' := .int) (by decide) (by decide)))).other W13 (Or.inl ne_ob0_x)) (g := (mkF m 50 #[.val (.ref ob0), .val (.int q0), .val (.int dI), .val (.int vI)] [(.ref ob0)])) rfl rfl (hb hby d9_50)
  obtain ⟨ac15, aA15, aq15, aS15, aN15, aH15⟩ := id ((PA_Lf.other W3 ne_Lf_ob0).other W13 ne_Lf_x)
  obtain ⟨ac16, aA16, aq16, aS16, aN16, aH16⟩ := id ((PA_Lf.other W3 ne_Lf_ob0).other W13 ne_Lf_x)
  obtain ⟨T17, h17, X17, e17, W17, st17⟩ := stI X14 hx hZ e14 aA16 (j := dI) (by rw [aS16]; exact hin45) (g := (mkF m 58 #[.val (.ref ob0), .val (.int q0), .val (.int dI), .val (.int vI)] [(.int (w55 + (1 : Int32))), (.int dI), (.ref Lf)])) rfl rfl (hb hby d9_58)
  have A_17 : Ars Z h17 Lf k_Lf .int N (own_upd fL (dI).toNatClampNeg (.int (w55 + (1 : Int32)))) := Ars.set aA16 aq16 aS16 aN16 aH16 W17
  have N17 := Fr.snoc X17 N13 g_Lf
  have O17 := O13.wr W17 g_Lf
  have KK17 : Keep h0 h17 [ob0, x, Lf, Lm] := KK13.wr W17 (Or.inl (List.mem_of_getElem? (i := 2) rfl))
  have J18 := (((PF_ob0_leftMasks.other W3 (Or.inr (slot_ne (Or.inr (hw _ (List.mem_of_getElem? (i := 23) rfl))) (Or.inl (hw _ (List.mem_of_getElem? (i := 45) rfl))) (by decide) (t := (.array .long)) (t' := .int) (by decide) (by decide)))).other W13 (Or.inl ne_ob0_x)).other W17 (Or.inl (Ne.symm ne_Lf_ob0)))
  obtain ⟨T19, X19, e19, st19⟩ := getF X17 hx hZ hown (host := "") (Or.inl (hw _ (List.mem_of_getElem? (i := 22) rfl))) Via.refl e17 J18 (g := (mkF m 60 #[.val (.ref ob0), .val (.int q0), .val (.int dI), .val (.int vI)] [(.ref ob0)])) rfl rfl (hb hby d9_60)
  have J21 := (((PA_Lm.other W3 ne_Lm_ob0).other W13 ne_Lm_x).other W17 (Ne.symm ne_Lf_Lm))
  obtain ⟨ac20, aA20, aq20, aS20, aN20, aH20⟩ := id J21
  obtain ⟨ac22, aA22, aq22, aS22, aN22, aH22⟩ := id J21
  obtain ⟨T23, h23, X23, e23, W23, st23⟩ := stJ X19 hx hZ e19 aA22 (j := dI) (by rw [aS22]; exact hin45) (g := (mkF m 70 #[.val (.ref ob0), .val (.int q0), .val (.int dI), .val (.int vI)] [(.long (w65 ||| ((1 : Int64) <<< (vI &&& 0x3f).toInt64))), (.int dI), (.ref Lm)])) rfl rfl (hb hby d9_70)
  have A_23 : Ars Z h23 Lm k_Lm .long N (own_upd fM (dI).toNatClampNeg (.long (w65 ||| ((1 : Int64) <<< (vI &&& 0x3f).toInt64)))) := Ars.set aA22 aq22 aS22 aN22 aH22 W23
  have N23 := Fr.snoc X23 N17 g_Lm
  have O23 := O17.wr W23 g_Lm
  have KK23 : Keep h0 h23 [ob0, x, Lf, Lm] := KK17.wr W23 (Or.inl (List.mem_of_getElem? (i := 3) rfl))
  have J24 := ((((PE_ob0.wr W3).wr W13).wr W17).wr W23)
  have J25 := ((((PF_ob0_reasons.other W3 (Or.inr (slot_ne (Or.inr (hw _ (List.mem_of_getElem? (i := 18) rfl))) (Or.inl (hw _ (List.mem_of_getElem? (i := 45) rfl))) (by decide) (t := (.array (.array (.array .int)))) (t' := .int) (by decide) (by decide)))).other W13 (Or.inl ne_ob0_x)).other W17 (Or.inl (Ne.symm ne_Lf_ob0))).other W23 (Or.inl (Ne.symm ne_Lm_ob0)))
  have J26 := ((((PF_ob0_left.other W3 (Or.inr (slot_ne (Or.inr (hw _ (List.mem_of_getElem? (i := 20) rfl))) (Or.inl (hw _ (List.mem_of_getElem? (i := 45) rfl))) (by decide) (t := (.array .int)) (t' := .int) (by decide) (by decide)))).other W13 (Or.inl ne_ob0_x)).other W17 (Or.inl (Ne.symm ne_Lf_ob0))).other W23 (Or.inl (Ne.symm ne_Lm_ob0)))
  have J27 := ((((PF_ob0_trail.other W3 (Or.inr (slot_ne (Or.inr (hw _ (List.mem_of_getElem? (i := 31) rfl))) (Or.inl (hw _ (List.mem_of_getElem? (i := 45) rfl))) (by decide) (t := (.array .int)) (t' := .int) (by decide) (by decide)))).other W13 (Or.inl ne_ob0_x)).other W17 (Or.inl (Ne.symm ne_Lf_ob0))).other W23 (Or.inl (Ne.symm ne_Lm_ob0)))
  have J28 := (((Fw3.other W13 (Or.inl ne_ob0_x)).other W17 (Or.inl (Ne.symm ne_Lf_ob0))).other W23 (Or.inl (Ne.symm ne_Lm_ob0)))
  refine ⟨T23, _, X23, N23, (by rw [e23]; exact KK23), (by rw [e23]; exact O23), (by rw [e23]; exact J24), (by rw [e23]; exact J25), (by rw [e23]; exact J26), (by rw [e23]; exact (J18.other W23 (Or.inl (Ne.symm ne_Lm_ob0)))), (by rw [e23]; exact J27), (by rw [e23]; exact J28), (by rw [e23]; exact ((A_13.other W17 (Ne.symm ne_Lf_x)).other W23 (Ne.symm ne_Lm_x))), (by rw [e23]; exact (A_17.other W23 ne_Lf_Lm)), (by rw [e23]; exact A_23), trivial, fun t kt => ?_⟩
  show Steps p.tables e below (T0.setTop (mkF m 0 #[.val (.ref ob0), .val (.int q0), z2, z3] [])) _
  refine XS.aloadN X0.here hx rfl (hb hby d9_0) rfl rfl ?_
  show Steps p.tables e below (T0.setTop (mkF m 1 #[.val (.ref ob0), .val (.int q0), z2, z3] [(.ref ob0)])) _
  refine st1 _ ?_
  show Steps p.tables e below (T1.setTop (mkF m 4 #[.val (.ref ob0), .val (.int q0), z2, z3] [(.int ts)])) _
  refine XS.iloadN X1.here hx rfl (hb hby d9_4) rfl ?_
  show Steps p.tables e below (T1.setTop (mkF m 5 #[.val (.ref ob0), .val (.int q0), z2, z3] [(.int q0), (.int ts)])) _
  refine XS.icmpNo X1.here hx rfl (hb hby d9_5) rfl (tlt hd0).2.2.2 ?_
  show Steps p.tables e below (T1.setTop (mkF m 8 #[.val (.ref ob0), .val (.int q0), z2, z3] [])) _
  refine XS.aloadN X1.here hx rfl (hb hby d9_8) rfl rfl ?_
  show Steps p.tables e below (T1.setTop (mkF m 9 #[.val (.ref ob0), .val (.int q0), z2, z3] [(.ref ob0)])) _
  refine XS.dup X1.here hx rfl (hb hby d9_9) rfl rfl ?_
  show Steps p.tables e below (T1.setTop (mkF m 10 #[.val (.ref ob0), .val (.int q0), z2, z3] [(.ref ob0), (.ref ob0)])) _
  refine st2 _ ?_
  show Steps p.tables e below (T2.setTop (mkF m 13 #[.val (.ref ob0), .val (.int q0), z2, z3] [(.int ts), (.ref ob0)])) _
  refine XS.iconst X2.here hx rfl (hb hby d9_13) ?_
  show Steps p.tables e below (T2.setTop (mkF m 14 #[.val (.ref ob0), .val (.int q0), z2, z3] [(.int (2 : Int32)), (.int ts), (.ref ob0)])) _
  refine XS.isub X2.here hx rfl (hb hby d9_14) rfl ?_
  show Steps p.tables e below (T2.setTop (mkF m 15 #[.val (.ref ob0), .val (.int q0), z2, z3] [(.int (ts - (2 : Int32))), (.ref ob0)])) _
  refine st3 _ ?_
  show Steps p.tables e below (T3.setTop (mkF m 18 #[.val (.ref ob0), .val (.int q0), z2, z3] [])) _
  refine XS.aloadN X3.here hx rfl (hb hby d9_18) rfl rfl ?_
  show Steps p.tables e below (T3.setTop (mkF m 19 #[.val (.ref ob0), .val (.int q0), z2, z3] [(.ref ob0)])) _
  refine st4 _ ?_
  show Steps p.tables e below (T4.setTop (mkF m 22 #[.val (.ref ob0), .val (.int q0), z2, z3] [(.ref Tr)])) _
  refine XS.aloadN X4.here hx rfl (hb hby d9_22) rfl rfl ?_
  show Steps p.tables e below (T4.setTop (mkF m 23 #[.val (.ref ob0), .val (.int q0), z2, z3] [(.ref ob0), (.ref Tr)])) _
  refine st5 _ ?_
  show Steps p.tables e below (T5.setTop (mkF m 26 #[.val (.ref ob0), .val (.int q0), z2, z3] [(.int (ts - (2 : Int32))), (.ref Tr)])) _
  refine X5.iaload hx (j := (ts - (2 : Int32))) (v := (.int dI)) (by rw [e5]; exact aA6.1) (State.isArrayOf_alike hZ.alike aA6.2.1) aA6.2.2 (by rw [aS6]; exact hin26) (own_at aH6 hin26 hat26) (g := (mkF m 26 #[.val (.ref ob0), .val (.int q0), z2, z3] [(.int (ts - (2 : Int32))), (.ref Tr)])) rfl rfl (hb hby d9_26) _ ?_
  show Steps p.tables e below (T5.setTop (mkF m 27 #[.val (.ref ob0), .val (.int q0), z2, z3] [(.int dI)])) _
  refine XS.istoreN X5.here hx rfl (hb hby d9_27) rfl (l' := #[.val (.ref ob0), .val (.int q0), .val (.int dI), z3]) (os9_27_165 hone_z2) ?_
  show Steps p.tables e below (T5.setTop (mkF m 28 #[.val (.ref ob0), .val (.int q0), .val (.int dI), z3] [])) _
  refine XS.aloadN X5.here hx rfl (hb hby d9_28) rfl rfl ?_
  show Steps p.tables e below (T5.setTop (mkF m 29 #[.val (.ref ob0), .val (.int q0), .val (.int dI), z3] [(.ref ob0)])) _
  refine st7 _ ?_
  show Steps p.tables e below (T7.setTop (mkF m 32 #[.val (.ref ob0), .val (.int q0), .val (.int dI), z3] [(.ref Tr)])) _
  refine XS.aloadN X7.here hx rfl (hb hby d9_32) rfl rfl ?_
  show Steps p.tables e below (T7.setTop (mkF m 33 #[.val (.ref ob0), .val (.int q0), .val (.int dI), z3] [(.ref ob0), (.ref Tr)])) _
  refine st8 _ ?_
  show Steps p.tables e below (T8.setTop (mkF m 36 #[.val (.ref ob0), .val (.int q0), .val (.int dI), z3] [(.int (ts - (2 : Int32))), (.ref Tr)])) _
  refine XS.iconst X8.here hx rfl (hb hby d9_36) ?_
  show Steps p.tables e below (T8.setTop (mkF m 37 #[.val (.ref ob0), .val (.int q0), .val (.int dI), z3] [(.int (1 : Int32)), (.int (ts - (2 : Int32))), (.ref Tr)])) _
  refine XS.iadd X8.here hx rfl (hb hby d9_37) rfl ?_
  show Steps p.tables e below (T8.setTop (mkF m 38 #[.val (.ref ob0), .val (.int q0), .val (.int dI), z3] [(.int ((ts - (2 : Int32)) + (1 : Int32))), (.ref Tr)])) _
  refine X8.iaload hx (j := ((ts - (2 : Int32)) + (1 : Int32))) (v := (.int vI)) (by rw [e8]; exact aA9.1) (State.isArrayOf_alike hZ.alike aA9.2.1) aA9.2.2 (by rw [aS9]; exact hin38) (own_at aH9 hin38 hat38) (g := (mkF m 38 #[.val (.ref ob0), .val (.int q0), .val (.int dI), z3] [(.int ((ts - (2 : Int32)) + (1 : Int32))), (.ref Tr)])) rfl rfl (hb hby d9_38) _ ?_
  show Steps p.tables e below (T8.setTop (mkF m 39 #[.val (.ref ob0), .val (.int q0), .val (.int dI), z3] [(.int vI)])) _
  refine XS.istoreN X8.here hx rfl (hb hby d9_39) rfl (l' := #[.val (.ref ob0), .val (.int q0), .val (.int dI), .val (.int vI)]) (os9_39_174 hone_z3) ?_
  show Steps p.tables e below (T8.setTop (mkF m 40 #[.val (.ref ob0), .val (.int q0), .val (.int dI), .val (.int vI)] [])) _
  refine XS.aloadN X8.here hx rfl (hb hby d9_40) rfl rfl ?_
  show Steps p.tables e below (T8.setTop (mkF m 41 #[.val (.ref ob0), .val (.int q0), .val (.int dI), .val (.int vI)] [(.ref ob0)])) _
  refine st10 _ ?_
  show Steps p.tables e below (T10.setTop (mkF m 44 #[.val (.ref ob0), .val (.int q0), .val (.int dI), .val (.int vI)] [(.ref R)])) _
  refine XS.iloadN X10.here hx rfl (hb hby d9_44) rfl ?_
  show Steps p.tables e below (T10.setTop (mkF m 45 #[.val (.ref ob0), .val (.int q0), .val (.int dI), .val (.int vI)] [(.int dI), (.ref R)])) _
  refine X10.aaload hx (j := dI) (v := (.ref x)) (by rw [e10]; exact aA11.1) (State.isArrayOf_alike hZ.alike aA11.2.1) rfl aA11.2.2 (by rw [aS11]; exact hin45) (own_at aH11 hin45 hat45) (g := (mkF m 45 #[.val (.ref ob0), .val (.int q0), .val (.int dI), .val (.int vI)] [(.int dI), (.ref R)])) rfl rfl (hb hby d9_45) _ ?_
  show Steps p.tables e below (T10.setTop (mkF m 46 #[.val (.ref ob0), .val (.int q0), .val (.int dI), .val (.int vI)] [(.ref x)])) _
  refine XS.iloadN X10.here hx rfl (hb hby d9_46) rfl ?_
  show Steps p.tables e below (T10.setTop (mkF m 47 #[.val (.ref ob0), .val (.int q0), .val (.int dI), .val (.int vI)] [(.int vI), (.ref x)])) _
  refine XS.aconstNull X10.here hx rfl (hb hby d9_47) ?_
  show Steps p.tables e below (T10.setTop (mkF m 48 #[.val (.ref ob0), .val (.int q0), .val (.int dI), .val (.int vI)] [.null, (.int vI), (.ref x)])) _
  refine st13 _ ?_
  show Steps p.tables e below (T13.setTop (mkF m 49 #[.val (.ref ob0), .val (.int q0), .val (.int dI), .val (.int vI)] [])) _
  refine XS.aloadN X13.here hx rfl (hb hby d9_49) rfl rfl ?_
  show Steps p.tables e below (T13.setTop (mkF m 50 #[.val (.ref ob0), .val (.int q0), .val (.int dI), .val (.int vI)] [(.ref ob0)])) _
  refine st14 _ ?_
  show Steps p.tables e below (T14.setTop (mkF m 53 #[.val (.ref ob0), .val (.int q0), .val (.int dI), .val (.int vI)] [(.ref Lf)])) _
  refine XS.iloadN X14.here hx rfl (hb hby d9_53) rfl ?_
  show Steps p.tables e below (T14.setTop (mkF m 54 #[.val (.ref ob0), .val (.int q0), .val (.int dI), .val (.int vI)] [(.int dI), (.ref Lf)])) _
  jvm_step X14.here [X14.here.top, hx, (hb hby d9_54), Value.category]
  show Steps p.tables e below (T14.setTop (mkF m 55 #[.val (.ref ob0), .val (.int q0), .val (.int dI), .val (.int vI)] [(.int dI), (.ref Lf), (.int dI), (.ref Lf)])) _
  refine X14.iaload hx (j := dI) (v := (.int w55)) (by rw [e14]; exact aA15.1) (State.isArrayOf_alike hZ.alike aA15.2.1) aA15.2.2 (by rw [aS15]; exact hin45) (own_at aH15 hin45 hat55) (g := (mkF m 55 #[.val (.ref ob0), .val (.int q0), .val (.int dI), .val (.int vI)] [(.int dI), (.ref Lf), (.int dI), (.ref Lf)])) rfl rfl (hb hby d9_55) _ ?_
  show Steps p.tables e below (T14.setTop (mkF m 56 #[.val (.ref ob0), .val (.int q0), .val (.int dI), .val (.int vI)] [(.int w55), (.int dI), (.ref Lf)])) _
  refine XS.iconst X14.here hx rfl (hb hby d9_56) ?_
  show Steps p.tables e below (T14.setTop (mkF m 57 #[.val (.ref ob0), .val (.int q0), .val (.int dI), .val (.int vI)] [(.int (1 : Int32)), (.int w55), (.int dI), (.ref Lf)])) _
  refine XS.iadd X14.here hx rfl (hb hby d9_57) rfl ?_
  show Steps p.tables e below (T14.setTop (mkF m 58 #[.val (.ref ob0), .val (.int q0), .val (.int dI), .val (.int vI)] [(.int (w55 + (1 : Int32))), (.int dI), (.ref Lf)])) _
  refine st17 _ ?_
  show Steps p.tables e below (T17.setTop (mkF m 59 #[.val (.ref ob0), .val (.int q0), .val (.int dI), .val (.int vI)] [])) _
  refine XS.aloadN X17.here hx rfl (hb hby d9_59) rfl rfl ?_
  show Steps p.tables e below (T17.setTop (mkF m 60 #[.val (.ref ob0), .val (.int q0), .val (.int dI), .val (.int vI)] [(.ref ob0)])) _
  refine st19 _ ?_
  show Steps p.tables e below (T19.setTop (mkF m 63 #[.val (.ref ob0), .val (.int q0), .val (.int dI), .val (.int vI)] [(.ref Lm)])) _
  refine XS.iloadN X19.here hx rfl (hb hby d9_63) rfl ?_
  show Steps p.tables e below (T19.setTop (mkF m 64 #[.val (.ref ob0), .val (.int q0), .val (.int dI), .val (.int vI)] [(.int dI), (.ref Lm)])) _
  jvm_step X19.here [X19.here.top, hx, (hb hby d9_64), Value.category]
  show Steps p.tables e below (T19.setTop (mkF m 65 #[.val (.ref ob0), .val (.int q0), .val (.int dI), .val (.int vI)] [(.int dI), (.ref Lm), (.int dI), (.ref Lm)])) _
  refine X19.laload hx (j := dI) (v := (.long w65)) (by rw [e19]; exact aA20.1) (State.isArrayOf_alike hZ.alike aA20.2.1) aA20.2.2 (by rw [aS20]; exact hin45) (own_at aH20 hin45 hat65) (g := (mkF m 65 #[.val (.ref ob0), .val (.int q0), .val (.int dI), .val (.int vI)] [(.int dI), (.ref Lm), (.int dI), (.ref Lm)])) rfl rfl (hb hby d9_65) _ ?_
  show Steps p.tables e below (T19.setTop (mkF m 66 #[.val (.ref ob0), .val (.int q0), .val (.int dI), .val (.int vI)] [(.long w65), (.int dI), (.ref Lm)])) _
  refine XS.lconst X19.here hx rfl (hb hby d9_66) ?_
  show Steps p.tables e below (T19.setTop (mkF m 67 #[.val (.ref ob0), .val (.int q0), .val (.int dI), .val (.int vI)] [(.long (1 : Int64)), (.long w65), (.int dI), (.ref Lm)])) _
  refine XS.iloadN X19.here hx rfl (hb hby d9_67) rfl ?_
  show Steps p.tables e below (T19.setTop (mkF m 68 #[.val (.ref ob0), .val (.int q0), .val (.int dI), .val (.int vI)] [(.int vI), (.long (1 : Int64)), (.long w65), (.int dI), (.ref Lm)])) _
  refine XS.lshl X19.here hx rfl (hb hby d9_68) rfl ?_
  show Steps p.tables e below (T19.setTop (mkF m 69 #[.val (.ref ob0), .val (.int q0), .val (.int dI), .val (.int vI)] [(.long ((1 : Int64) <<< (vI &&& 0x3f).toInt64)), (.long w65), (.int dI), (.ref Lm)])) _
  refine XS.lor X19.here hx rfl (hb hby d9_69) rfl ?_
  show Steps p.tables e below (T19.setTop (mkF m 70 #[.val (.ref ob0), .val (.int q0), .val (.int dI), .val (.int vI)] [(.long (w65 ||| ((1 : Int64) <<< (vI &&& 0x3f).toInt64))), (.int dI), (.ref Lm)])) _
  refine st23 _ ?_
  show Steps p.tables e below (T23.setTop (mkF m 71 #[.val (.ref ob0), .val (.int q0), .val (.int dI), .val (.int vI)] [])) _
  refine XS.goto X23.here hx rfl (pc0 := 71) (pc' := 0) rfl (hb hby d9_71) (by decide) (by decide) ?_
  show Steps p.tables e below (T23.setTop (mkF m 0 #[.val (.ref ob0), .val (.int q0), .val (.int dI), .val (.int vI)] [])) _
  exact kt
theorem d9_74 : decode prog_59_method_9_code 74 = .ok (.return_, 1) := by decide +kernel
set_option maxRecDepth 65536 in
set_option maxHeartbeats 40000000 in
theorem rstExit {p : Program} {l : Launch} {e : Env} {s : State} {m : MethodId} {args : Array Value} {below : List Frame} {meth : Method} {c : Code} {T0 : State} {locs : List Loc} {Z : State} {a0 : Array Value} {h0 : Heap} {n0 : Nat} (ob0 : Addr) (q0 : Int32) (z2 : Slot) (z3 : Slot) (ts : Int32)
    (X0 : Stand p l e ({ frames := 0, cells := 0, slots := 0, locals := 0 } : Room) s m args below meth c T0 locs 0 0) (hx : p.tables.exec = Jvm.exec) (hZ : Z.Warmed39 s.vm) (hw : ∀ d ∈ tables_1, d.before a0 Z = true) (hby : c.code = prog_59_method_9_code) (hml : c.maxLocals = 4) (hown : s.vm.findClass "com/example/caprice/caprice/solver/Domains" = some m.cls) (e0 : T0.heap = h0) (N0 : Fr n0 locs) (O0 : Old Z n0 h0) (PE_ob0 : Exa Z h0 ob0 "com/example/caprice/caprice/solver/Domains") (PF_ob0_trailSize : Fld Z h0 ob0 "com/example/caprice/caprice/solver/Domains" "trailSize" "I" (.int ts)) (hd0 : ¬ (q0 < ts)) (hret : meth.sig.returnType = none) (hlk : meth.locks = false) {entry : State} (pre0 : ∀ t, Steps p.tables e below (T0.setTop (mkF m 0 #[.val (.ref ob0), .val (.int q0), z2, z3] [])) t → Steps p.tables e below entry t) :
    ∃ s₂ o, Steps p.tables e below entry s₂ ∧ s₂.status = .running ∧ Ended s₂ below o ∧ ∃ v L, o = .returned v ∧ QV none h0 n0 v s₂.heap L ∧ FrameEnd s o s₂ L ({ frames := 0, cells := 0, slots := 0, locals := 0 } : Room).cells ({ frames := 0, cells := 0, slots := 0, locals := 0 } : Room).slots := by
  obtain ⟨T1, X1, e1, st1⟩ := getF X0 hx hZ hown (host := "") (Or.inl (hw _ (List.mem_of_getElem? (i := 44) rfl))) Via.refl e0 PF_ob0_trailSize (g := (mkF m 1 #[.val (.ref ob0), .val (.int q0), z2, z3] [(.ref ob0)])) rfl rfl (hb hby d9_1)
  obtain ⟨fs, hr, hrun, hended, hW, hsame⟩ := X1.leave (v := none) (fun _ => rfl) hlk
  refine ⟨_, _, pre0 _ ?_, hrun, hended, _, _, rfl, ?_, ⟨_, rfl⟩, hW, hsame.mono (by decide) (by decide)⟩
  · show Steps p.tables e below (T0.setTop (mkF m 0 #[.val (.ref ob0), .val (.int q0), z2, z3] [])) _
    refine XS.aloadN X0.here hx rfl (hb hby d9_0) rfl rfl ?_
    show Steps p.tables e below (T0.setTop (mkF m 1 #[.val (.ref ob0), .val (.int q0), z2, z3] [(.ref ob0)])) _
    refine st1 _ ?_
    show Steps p.tables e below (T1.setTop (mkF m 4 #[.val (.ref ob0), .val (.int q0), z2, z3] [(.int ts)])) _
    refine XS.iloadN X1.here hx rfl (hb hby d9_4) rfl ?_
    show Steps p.tables e below (T1.setTop (mkF m 5 #[.val (.ref ob0), .val (.int q0), z2, z3] [(.int q0), (.int ts)])) _
    refine XS.icmpYes X1.here hx rfl (pc0 := 5) (pc' := 74) rfl (hb hby d9_5) rfl (flt hd0).2.2.2 (by decide) (by decide) ?_
    show Steps p.tables e below (T1.setTop (mkF m 74 #[.val (.ref ob0), .val (.int q0), z2, z3] [])) _
    exact X1.returnOut hx hret (hb hby d9_74) hr
  · exact ⟨rfl, N0, e1⟩
theorem d8_0 : decode prog_59_method_16_code 0 = .ok (.aload_n 0, 1) := by decide +kernel
theorem d8_1 : decode prog_59_method_16_code 1 = .ok (.getfield 11, 3) := by decide +kernel
theorem d8_4 : decode prog_59_method_16_code 4 = .ok (.iload_n 1, 1) := by decide +kernel
theorem d8_5 : decode prog_59_method_16_code 5 = .ok (.aaload, 1) := by decide +kernel
theorem d8_6 : decode prog_59_method_16_code 6 = .ok (.astore_n 3, 1) := by decide +kernel
theorem d8_7 : decode prog_59_method_16_code 7 = .ok (.aload_n 3, 1) := by decide +kernel
theorem d8_8 : decode prog_59_method_16_code 8 = .ok (.arraylength, 1) := by decide +kernel
theorem d8_9 : decode prog_59_method_16_code 9 = .ok (.istore 4, 2) := by decide +kernel
theorem d8_11 : decode prog_59_method_16_code 11 = .ok (.iconst 0, 1) := by decide +kernel
theorem d8_12 : decode prog_59_method_16_code 12 = .ok (.istore 5, 2) := by decide +kernel
set_option maxRecDepth 65536 in
set_option maxHeartbeats 40000000 in
theorem rroIn {p : Program} {l : Launch} {e : Env} {s : State} {m : MethodId} {args : Array Value} {below : List Frame} {meth : Method} {c : Code} {T0 : State} {locs : List Loc} {Z : State} {a0 : Array Value} {h0 : Heap} {n0 : Nat} (ob0 : Addr) (q0 : Int32) (q1 : Int32) (R : Addr) (k_R : ClassId) (N : Nat) (fR : Nat → Value) (x : Addr) (k_x : ClassId) (K : Nat) (fx : Nat → Value)
    (X0 : Stand p l e ({ frames := 0, cells := 0, slots := 0, locals := 0 } : Room) s m args below meth c T0 locs 0 0) (hx : p.tables.exec = Jvm.exec) (hZ : Z.Warmed39 s.vm) (hw : ∀ d ∈ tables_1, d.before a0 Z = true) (hby : c.code = prog_59_method_16_code) (hml : c.maxLocals = 11) (hown : s.vm.findClass "com/example/caprice/caprice/solver/Domains" = some m.cls) (e0 : T0.heap = h0) (N0 : Fr n0 locs) (O0 : Old Z n0 h0) (PE_ob0 : Exa Z h0 ob0 "com/example/caprice/caprice/solver/Domains") (PF_ob0_reasons : Fld Z h0 ob0 "com/example/caprice/caprice/solver/Domains" "reasons" "[[[I" (.ref R)) (PA_R : Ars Z h0 R k_R (.array (.array .int)) N fR) (PA_x : Ars Z h0 x k_x (.array .int) K fx) (hin5 : ¬ (q0 < 0 ∨ N ≤ (q0).toNatClampNeg)) (hat5 : fR (q0).toNatClampNeg = (.ref x)) :
    ∃ (T' : State) (locs' : List Loc), Stand p l e ({ frames := 0, cells := 0, slots := 0, locals := 0 } : Room) s m args below meth c T' locs' 0 0 ∧ Fr n0 locs' ∧ T'.heap = h0 ∧ ∀ t, Steps p.tables e below (T'.setTop (mkF m 14 #[.val (.ref ob0), .val (.int q0), .val (.int q1), .val (.ref x), .val (.int (K.toInt32)), .val (.int (0 : Int32)), .unset, .unset, .unset, .unset, .unset] [])) t → Steps p.tables e below (T0.setTop (mkF m 0 #[.val (.ref ob0), .val (.int q0), .val (.int q1), .unset, .unset, .unset, .unset, .unset, .unset, .unset, .unset] [])) t := by
  obtain ⟨T1, X1, e1, st1⟩ := getF X0 hx hZ hown (host := "") (Or.inl (hw _ (List.mem_of_getElem? (i := 17) rfl))) Via.refl e0 PF_ob0_reasons (g := (mkF m 1 #[.val (.ref ob0), .val (.int q0), .val (.int q1), .unset, .unset, .unset, .unset, .unset, .unset, .unset, .unset] [(.ref ob0)])) rfl rfl (hb hby d8_1)
  obtain ⟨ac2, aA2, aq2, aS2, aN2, aH2⟩ := id PA_R
  obtain ⟨ac3, aA3, aq3, aS3, aN3, aH3⟩ := id PA_x
  refine ⟨T1, _, X1, N0, e1, fun t kt => ?_⟩
  show Steps p.tables e below (T0.setTop (mkF m 0 #[.val (.ref ob0), .val (.int q0), .val (.int q1), .unset, .unset, .unset, .unset, .unset, .unset, .unset, .unset] [])) _
  refine XS.aloadN X0.here hx rfl (hb hby d8_0) rfl rfl ?_
  show Steps p.tables e below (T0.setTop (mkF m 1 #[.val (.ref ob0), .val (.int q0), .val (.int q1), .unset, .unset, .unset, .unset, .unset, .unset, .unset, .unset] [(.ref ob0)])) _
  refine st1 _ ?_
  show Steps p.tables e below (T1.setTop (mkF m 4 #[.val (.ref ob0), .val (.int q0), .val (.int q1), .unset, .unset, .unset, .unset, .unset, .unset, .unset, .unset] [(.ref R)])) _
  refine XS.iloadN X1.here hx rfl (hb hby d8_4) rfl ?_
  show Steps p.tables e below (T1.setTop (mkF m 5 #[.val (.ref ob0), .val (.int q0), .val (.int q1), .unset, .unset, .unset, .unset, .unset, .unset, .unset, .unset] [(.int q0), (.ref R)])) _
  refine X1.aaload hx (j := q0) (v := (.ref x)) (by rw [e1]; exact aA2.1) (State.isArrayOf_alike hZ.alike aA2.2.1) rfl aA2.2.2 (by rw [aS2]; exact hin5) (own_at aH2 hin5 hat5) (g := (mkF m 5 #[.val (.ref ob0), .val (.int q0), .val (.int q1), .unset, .unset, .unset, .unset, .unset, .unset, .unset, .unset] [(.int q0), (.ref R)])) rfl rfl (hb hby d8_5) _ ?_
  show Steps p.tables e below (T1.setTop (mkF m 6 #[.val (.ref ob0), .val (.int q0), .val (.int q1), .unset, .unset, .unset, .unset, .unset, .unset, .unset, .unset] [(.ref x)])) _
  refine XS.astoreN X1.here hx rfl (hb hby d8_6) rfl rfl (l' := #[.val (.ref ob0), .val (.int q0), .val (.int q1), .val (.ref x), .unset, .unset, .unset, .unset, .unset, .unset, .unset]) rfl ?_
  show Steps p.tables e below (T1.setTop (mkF m 7 #[.val (.ref ob0), .val (.int q0), .val (.int q1), .val (.ref x), .unset, .unset, .unset, .unset, .unset, .unset, .unset] [])) _
  refine XS.aloadN X1.here hx rfl (hb hby d8_7) rfl rfl ?_
  show Steps p.tables e below (T1.setTop (mkF m 8 #[.val (.ref ob0), .val (.int q0), .val (.int q1), .val (.ref x), .unset, .unset, .unset, .unset, .unset, .unset, .unset] [(.ref x)])) _
  refine X1.arraylength hx (by rw [e1]; exact aA3.1) (State.isArrayOf_alike hZ.alike aA3.2.1) (g := (mkF m 8 #[.val (.ref ob0), .val (.int q0), .val (.int q1), .val (.ref x), .unset, .unset, .unset, .unset, .unset, .unset, .unset] [(.ref x)])) rfl rfl (hb hby d8_8) _ ?_
  rw [aS3]
  show Steps p.tables e below (T1.setTop (mkF m 9 #[.val (.ref ob0), .val (.int q0), .val (.int q1), .val (.ref x), .unset, .unset, .unset, .unset, .unset, .unset, .unset] [(.int (K.toInt32))])) _
  refine XS.istore X1.here hx rfl (hb hby d8_9) rfl (l' := #[.val (.ref ob0), .val (.int q0), .val (.int q1), .val (.ref x), .val (.int (K.toInt32)), .unset, .unset, .unset, .unset, .unset, .unset]) rfl ?_
  show Steps p.tables e below (T1.setTop (mkF m 11 #[.val (.ref ob0), .val (.int q0), .val (.int q1), .val (.ref x), .val (.int (K.toInt32)), .unset, .unset, .unset, .unset, .unset, .unset] [])) _
  refine XS.iconst X1.here hx rfl (hb hby d8_11) ?_
  show Steps p.tables e below (T1.setTop (mkF m 12 #[.val (.ref ob0), .val (.int q0), .val (.int q1), .val (.ref x), .val (.int (K.toInt32)), .unset, .unset, .unset, .unset, .unset, .unset] [(.int (0 : Int32))])) _
  refine XS.istore X1.here hx rfl (hb hby d8_12) rfl (l' := #[.val (.ref ob0), .val (.int q0), .val (.int q1), .val (.ref x), .val (.int (K.toInt32)), .val (.int (0 : Int32)), .unset, .unset, .unset, .unset, .unset]) rfl ?_
  show Steps p.tables e below (T1.setTop (mkF m 14 #[.val (.ref ob0), .val (.int q0), .val (.int q1), .val (.ref x), .val (.int (K.toInt32)), .val (.int (0 : Int32)), .unset, .unset, .unset, .unset, .unset] [])) _
  exact kt
theorem d8_14 : decode prog_59_method_16_code 14 = .ok (.iload 5, 2) := by decide +kernel
theorem d8_16 : decode prog_59_method_16_code 16 = .ok (.iload 4, 2) := by decide +kernel
theorem d8_18 : decode prog_59_method_16_code 18 = .ok (.if_icmp .ge 60, 3) := by decide +kernel
theorem d8_78 : decode prog_59_method_16_code 78 = .ok (.iconst 0, 1) := by decide +kernel
theorem d8_79 : decode prog_59_method_16_code 79 = .ok (.ireturn, 1) := by decide +kernel
set_option maxRecDepth 65536 in
set_option maxHeartbeats 40000000 in
theorem rroOut {p : Program} {l : Launch} {e : Env} {s : State} {m : MethodId} {args : Array Value} {below : List Frame} {meth : Method} {c : Code} {T0 : State} {locs : List Loc} {Z : State} {a0 : Array Value} {h0 : Heap} {n0 : Nat} (ob0 : Addr) (q0 : Int32) (q1 : Int32) (x : Addr) (kl : Int32) (i : Int32) (z6 : Slot) (z7 : Slot) (z8 : Slot) (z9 : Slot) (z10 : Slot)
    (X0 : Stand p l e ({ frames := 0, cells := 0, slots := 0, locals := 0 } : Room) s m args below meth c T0 locs 0 0) (hx : p.tables.exec = Jvm.exec) (hZ : Z.Warmed39 s.vm) (hw : ∀ d ∈ tables_1, d.before a0 Z = true) (hby : c.code = prog_59_method_16_code) (hml : c.maxLocals = 11) (hown : s.vm.findClass "com/example/caprice/caprice/solver/Domains" = some m.cls) (e0 : T0.heap = h0) (N0 : Fr n0 locs) (O0 : Old Z n0 h0) (hd0 : ¬ (i < kl)) (hret : meth.sig.returnType = some .boolean) (hlk : meth.locks = false) {entry : State} (pre0 : ∀ t, Steps p.tables e below (T0.setTop (mkF m 14 #[.val (.ref ob0), .val (.int q0), .val (.int q1), .val (.ref x), .val (.int kl), .val (.int i), z6, z7, z8, z9, z10] [])) t → Steps p.tables e below entry t) :
    ∃ s₂ o, Steps p.tables e below entry s₂ ∧ s₂.status = .running ∧ Ended s₂ below o ∧ ∃ v L, o = .returned v ∧ QV (some (.int (0 : Int32))) h0 n0 v s₂.heap L ∧ FrameEnd s o s₂ L ({ frames := 0, cells := 0, slots := 0, locals := 0 } : Room).cells ({ frames := 0, cells := 0, slots := 0, locals := 0 } : Room).slots := by
  obtain ⟨fs, hr, hrun, hended, hW, hsame⟩ := X0.leave (v := some (.int (0 : Int32))) (fun h => by rw [hret] at h; cases h) hlk
  refine ⟨_, _, pre0 _ ?_, hrun, hended, _, _, rfl, ?_, ⟨_, rfl⟩, hW, hsame.mono (by decide) (by decide)⟩
  · show Steps p.tables e below (T0.setTop (mkF m 14 #[.val (.ref ob0), .val (.int q0), .val (.int q1), .val (.ref x), .val (.int kl), .val (.int i), z6, z7, z8, z9, z10] [])) _
    refine XS.iload X0.here hx rfl (hb hby d8_14) rfl ?_
    show Steps p.tables e below (T0.setTop (mkF m 16 #[.val (.ref ob0), .val (.int q0), .val (.int q1), .val (.ref x), .val (.int kl), .val (.int i), z6, z7, z8, z9, z10] [(.int i)])) _
    refine XS.iload X0.here hx rfl (hb hby d8_16) rfl ?_
    show Steps p.tables e below (T0.setTop (mkF m 18 #[.val (.ref ob0), .val (.int q0), .val (.int q1), .val (.ref x), .val (.int kl), .val (.int i), z6, z7, z8, z9, z10] [(.int kl), (.int i)])) _
    refine XS.icmpYes X0.here hx rfl (pc0 := 18) (pc' := 78) rfl (hb hby d8_18) rfl (flt hd0).2.1 (by decide) (by decide) ?_
    show Steps p.tables e below (T0.setTop (mkF m 78 #[.val (.ref ob0), .val (.int q0), .val (.int q1), .val (.ref x), .val (.int kl), .val (.int i), z6, z7, z8, z9, z10] [])) _
    refine XS.iconst X0.here hx rfl (hb hby d8_78) ?_
    show Steps p.tables e below (T0.setTop (mkF m 79 #[.val (.ref ob0), .val (.int q0), .val (.int q1), .val (.ref x), .val (.int kl), .val (.int i), z6, z7, z8, z9, z10] [(.int (0 : Int32))])) _
    exact retN X0 hx (t := .boolean) hret (by simp) (hb hby d8_79) hr
  · exact ⟨rfl, N0, e0⟩
theorem d8_21 : decode prog_59_method_16_code 21 = .ok (.aload_n 3, 1) := by decide +kernel
theorem d8_22 : decode prog_59_method_16_code 22 = .ok (.iload 5, 2) := by decide +kernel
theorem d8_24 : decode prog_59_method_16_code 24 = .ok (.aaload, 1) := by decide +kernel
theorem os8_25_225 {z0 : Value} {z1 : Value} {z2 : Value} {z3 : Value} {z4 : Value} {z5 : Value} {z6 : Slot} {z7 : Slot} {z8 : Slot} {z9 : Slot} {z10 : Slot} (h_z6 : One z6) : storeLocals #[.val z0, .val z1, .val z2, .val z3, .val z4, .val z5, z6, z7, z8, z9, z10] 6 .null = some #[.val z0, .val z1, .val z2, .val z3, .val z4, .val z5, .val .null, z7, z8, z9, z10] := by
  rcases h_z6 with rfl | ⟨w_z6, rfl, hw_z6⟩
  · skip
    rfl
  · cases w_z6 <;> first | (simp [Value.category] at hw_z6; done) | skip
    all_goals
      rfl
theorem d8_25 : decode prog_59_method_16_code 25 = .ok (.astore 6, 2) := by decide +kernel
theorem d8_27 : decode prog_59_method_16_code 27 = .ok (.aload 6, 2) := by decide +kernel
theorem d8_29 : decode prog_59_method_16_code 29 = .ok (.ifnull 43, 3) := by decide +kernel
theorem d8_72 : decode prog_59_method_16_code 72 = .ok (.iinc 5 1, 3) := by decide +kernel
theorem d8_75 : decode prog_59_method_16_code 75 = .ok (.goto (-61), 3) := by decide +kernel
set_option maxRecDepth 65536 in
set_option maxHeartbeats 40000000 in
theorem rroNul {p : Program} {l : Launch} {e : Env} {s : State} {m : MethodId} {args : Array Value} {below : List Frame} {meth : Method} {c : Code} {T0 : State} {locs : List Loc} {Z : State} {a0 : Array Value} {h0 : Heap} {n0 : Nat} (ob0 : Addr) (q0 : Int32) (q1 : Int32) (x : Addr) (kl : Int32) (i : Int32) (z6 : Slot) (z7 : Slot) (z8 : Slot) (z9 : Slot) (z10 : Slot) (k_x : ClassId) (K : Nat) (fx : Nat → Value)
    (X0 : Stand p l e ({ frames := 0, cells := 0, slots := 0, locals := 0 } : Room) s m args below meth c T0 locs 0 0) (hx : p.tables.exec = Jvm.exec) (hZ : Z.Warmed39 s.vm) (hw : ∀ d ∈ tables_1, d.before a0 Z = true) (hby : c.code = prog_59_method_16_code) (hml : c.maxLocals = 11) (hown : s.vm.findClass "com/example/caprice/caprice/solver/Domains" = some m.cls) (e0 : T0.heap = h0) (N0 : Fr n0 locs) (O0 : Old Z n0 h0) (PA_x : Ars Z h0 x k_x (.array .int) K fx) (hin24 : ¬ (i < 0 ∨ K ≤ (i).toNatClampNeg)) (hat24 : fx (i).toNatClampNeg = .null) (hone_z6 : One z6) (hd0 : i < kl) :
    ∃ (T' : State) (locs' : List Loc), Stand p l e ({ frames := 0, cells := 0, slots := 0, locals := 0 } : Room) s m args below meth c T' locs' 0 0 ∧ Fr n0 locs' ∧ T'.heap = h0 ∧ ∀ t, Steps p.tables e below (T'.setTop (mkF m 14 #[.val (.ref ob0), .val (.int q0), .val (.int q1), .val (.ref x), .val (.int kl), .val (.int (i + (1 : Int32))), .val .null, z7, z8, z9, z10] [])) t → Steps p.tables e below (T0.setTop (mkF m 14 #[.val (.ref ob0), .val (.int q0), .val (.int q1), .val (.ref x), .val (.int kl), .val (.int i), z6, z7, z8, z9, z10] [])) t := by
  obtain ⟨ac1, aA1, aq1, aS1, aN1, aH1⟩ := id PA_x
  refine ⟨T0, _, X0, N0, e0, fun t kt => ?_⟩
  show Steps p.tables e below (T0.setTop (mkF m 14 #[.val (.ref ob0), .val (.int q0), .val (.int q1), .val (.ref x), .val (.int kl), .val (.int i), z6, z7, z8, z9, z10] [])) _
  refine XS.iload X0.here hx rfl (hb hby d8_14) rfl ?_
  show Steps p.tables e below (T0.setTop (mkF m 16 #[.val (.ref ob0), .val (.int q0), .val (.int q1), .val (.ref x), .val (.int kl), .val (.int i), z6, z7, z8, z9, z10] [(.int i)])) _
  refine XS.iload X0.here hx rfl (hb hby d8_16) rfl ?_
  show Steps p.tables e below (T0.setTop (mkF m 18 #[.val (.ref ob0), .val (.int q0), .val (.int q1), .val (.ref x), .val (.int kl), .val (.int i), z6, z7, z8, z9, z10] [(.int kl), (.int i)])) _
  refine XS.icmpNo X0.here hx rfl (hb hby d8_18) rfl (tlt hd0).2.1 ?_
  show Steps p.tables e below (T0.setTop (mkF m 21 #[.val (.ref ob0), .val (.int q0), .val (.int q1), .val (.ref x), .val (.int kl), .val (.int i), z6, z7, z8, z9, z10] [])) _
  refine XS.aloadN X0.here hx rfl (hb hby d8_21) rfl rfl ?_
  show Steps p.tables e below (T0.setTop (mkF m 22 #[.val (.ref ob0), .val (.int q0), .val (.int q1), .val (.ref x), .val (.int kl), .val (.int i), z6, z7, z8, z9, z10] [(.ref x)])) _
  refine XS.iload X0.here hx rfl (hb hby d8_22) rfl ?_
  show Steps p.tables e below (T0.setTop (mkF m 24 #[.val (.ref ob0), .val (.int q0), .val (.int q1), .val (.ref x), .val (.int kl), .val (.int i), z6, z7, z8, z9, z10] [(.int i), (.ref x)])) _
  refine X0.aaload hx (j := i) (v := .null) (by rw [e0]; exact aA1.1) (State.isArrayOf_alike hZ.alike aA1.2.1) rfl aA1.2.2 (by rw [aS1]; exact hin24) (own_at aH1 hin24 hat24) (g := (mkF m 24 #[.val (.ref ob0), .val (.int q0), .val (.int q1), .val (.ref x), .val (.int kl), .val (.int i), z6, z7, z8, z9, z10] [(.int i), (.ref x)])) rfl rfl (hb hby d8_24) _ ?_
  show Steps p.tables e below (T0.setTop (mkF m 25 #[.val (.ref ob0), .val (.int q0), .val (.int q1), .val (.ref x), .val (.int kl), .val (.int i), z6, z7, z8, z9, z10] [.null])) _
  refine XS.astore X0.here hx rfl (hb hby d8_25) rfl rfl (l' := #[.val (.ref ob0), .val (.int q0), .val (.int q1), .val (.ref x), .val (.int kl), .val (.int i), .val .null, z7, z8, z9, z10]) (os8_25_225 hone_z6) ?_
  show Steps p.tables e below (T0.setTop (mkF m 27 #[.val (.ref ob0), .val (.int q0), .val (.int q1), .val (.ref x), .val (.int kl), .val (.int i), .val .null, z7, z8, z9, z10] [])) _
  refine XS.aload X0.here hx rfl (hb hby d8_27) rfl rfl ?_
  show Steps p.tables e below (T0.setTop (mkF m 29 #[.val (.ref ob0), .val (.int q0), .val (.int q1), .val (.ref x), .val (.int kl), .val (.int i), .val .null, z7, z8, z9, z10] [.null])) _
  refine XS.ifnullYes X0.here hx rfl (pc0 := 29) (pc' := 72) rfl (hb hby d8_29) rfl (by decide) (by decide) ?_
  show Steps p.tables e below (T0.setTop (mkF m 72 #[.val (.ref ob0), .val (.int q0), .val (.int q1), .val (.ref x), .val (.int kl), .val (.int i), .val .null, z7, z8, z9, z10] [])) _
  refine XS.iinc X0.here hx rfl (hb hby d8_72) rfl (l' := #[.val (.ref ob0), .val (.int q0), .val (.int q1), .val (.ref x), .val (.int kl), .val (.int (i + (1 : Int32))), .val .null, z7, z8, z9, z10]) rfl ?_
  show Steps p.tables e below (T0.setTop (mkF m 75 #[.val (.ref ob0), .val (.int q0), .val (.int q1), .val (.ref x), .val (.int kl), .val (.int (i + (1 : Int32))), .val .null, z7, z8, z9, z10] [])) _
  refine XS.goto X0.here hx rfl (pc0 := 75) (pc' := 14) rfl (hb hby d8_75) (by decide) (by decide) ?_
  show Steps p.tables e below (T0.setTop (mkF m 14 #[.val (.ref ob0), .val (.int q0), .val (.int q1), .val (.ref x), .val (.int kl), .val (.int (i + (1 : Int32))), .val .null, z7, z8, z9, z10] [])) _
  exact kt
theorem os8_25_232 {z0 : Value} {z1 : Value} {z2 : Value} {z3 : Value} {z4 : Value} {z5 : Value} {z6 : Slot} {z7 : Slot} {z8 : Slot} {z9 : Slot} {z10 : Slot} {v : Addr} (h_z6 : One z6) : storeLocals #[.val z0, .val z1, .val z2, .val z3, .val z4, .val z5, z6, z7, z8, z9, z10] 6 (.ref v) = some #[.val z0, .val z1, .val z2, .val z3, .val z4, .val z5, .val (.ref v), z7, z8, z9, z10] := by
  rcases h_z6 with rfl | ⟨w_z6, rfl, hw_z6⟩
  · skip
    rfl
  · cases w_z6 <;> first | (simp [Value.category] at hw_z6; done) | skip
    all_goals
      rfl
theorem d8_32 : decode prog_59_method_16_code 32 = .ok (.aload 6, 2) := by decide +kernel
theorem os8_34_234 {z0 : Value} {z1 : Value} {z2 : Value} {z3 : Value} {z4 : Value} {z5 : Value} {z6 : Value} {z7 : Slot} {z8 : Slot} {z9 : Slot} {z10 : Slot} {v : Addr} (h_z7 : One z7) : storeLocals #[.val z0, .val z1, .val z2, .val z3, .val z4, .val z5, .val z6, z7, z8, z9, z10] 7 (.ref v) = some #[.val z0, .val z1, .val z2, .val z3, .val z4, .val z5, .val z6, .val (.ref v), z8, z9, z10] := by
  rcases h_z7 with rfl | ⟨w_z7, rfl, hw_z7⟩
  · skip
    rfl
  · cases w_z7 <;> first | (simp [Value.category] at hw_z7; done) | skip
    all_goals
      rfl
theorem d8_34 : decode prog_59_method_16_code 34 = .ok (.astore 7, 2) := by decide +kernel
theorem d8_36 : decode prog_59_method_16_code 36 = .ok (.aload 7, 2) := by decide +kernel
theorem d8_38 : decode prog_59_method_16_code 38 = .ok (.arraylength, 1) := by decide +kernel
theorem os8_39_238 {z0 : Value} {z1 : Value} {z2 : Value} {z3 : Value} {z4 : Value} {z5 : Value} {z6 : Value} {z7 : Value} {z8 : Slot} {z9 : Slot} {z10 : Slot} {v : Int32} (h_z8 : One z8) : storeLocals #[.val z0, .val z1, .val z2, .val z3, .val z4, .val z5, .val z6, .val z7, z8, z9, z10] 8 (.int v) = some #[.val z0, .val z1, .val z2, .val z3, .val z4, .val z5, .val z6, .val z7, .val (.int v), z9, z10] := by
  rcases h_z8 with rfl | ⟨w_z8, rfl, hw_z8⟩
  · skip
    rfl
  · cases w_z8 <;> first | (simp [Value.category] at hw_z8; done) | skip
    all_goals
      rfl
theorem d8_39 : decode prog_59_method_16_code 39 = .ok (.istore 8, 2) := by decide +kernel
theorem d8_41 : decode prog_59_method_16_code 41 = .ok (.iconst 0, 1) := by decide +kernel
theorem os8_42_241 {z0 : Value} {z1 : Value} {z2 : Value} {z3 : Value} {z4 : Value} {z5 : Value} {z6 : Value} {z7 : Value} {z8 : Value} {z9 : Slot} {z10 : Slot} {v : Int32} (h_z9 : One z9) : storeLocals #[.val z0, .val z1, .val z2, .val z3, .val z4, .val z5, .val z6, .val z7, .val z8, z9, z10] 9 (.int v) = some #[.val z0, .val z1, .val z2, .val z3, .val z4, .val z5, .val z6, .val z7, .val z8, .val (.int v), z10] := by
  rcases h_z9 with rfl | ⟨w_z9, rfl, hw_z9⟩
  · skip
    rfl
  · cases w_z9 <;> first | (simp [Value.category] at hw_z9; done) | skip
    all_goals
      rfl
theorem d8_42 : decode prog_59_method_16_code 42 = .ok (.istore 9, 2) := by decide +kernel
set_option maxRecDepth 65536 in
set_option maxHeartbeats 40000000 in
theorem rroRef {p : Program} {l : Launch} {e : Env} {s : State} {m : MethodId} {args : Array Value} {below : List Frame} {meth : Method} {c : Code} {T0 : State} {locs : List Loc} {Z : State} {a0 : Array Value} {h0 : Heap} {n0 : Nat} (ob0 : Addr) (q0 : Int32) (q1 : Int32) (x : Addr) (kl : Int32) (i : Int32) (z6 : Slot) (z7 : Slot) (z8 : Slot) (z9 : Slot) (z10 : Slot) (k_x : ClassId) (K : Nat) (fx : Nat → Value) (r : Addr) (k_r : ClassId) (nr : Nat) (fr : Nat → Value)
    (X0 : Stand p l e ({ frames := 0, cells := 0, slots := 0, locals := 0 } : Room) s m args below meth c T0 locs 0 0) (hx : p.tables.exec = Jvm.exec) (hZ : Z.Warmed39 s.vm) (hw : ∀ d ∈ tables_1, d.before a0 Z = true) (hby : c.code = prog_59_method_16_code) (hml : c.maxLocals = 11) (hown : s.vm.findClass "com/example/caprice/caprice/solver/Domains" = some m.cls) (e0 : T0.heap = h0) (N0 : Fr n0 locs) (O0 : Old Z n0 h0) (PA_x : Ars Z h0 x k_x (.array .int) K fx) (PA_r : Ars Z h0 r k_r .int nr fr) (hin24 : ¬ (i < 0 ∨ K ≤ (i).toNatClampNeg)) (hat24 : fx (i).toNatClampNeg = (.ref r)) (hone_z6 : One z6) (hone_z7 : One z7) (hone_z8 : One z8) (hone_z9 : One z9) (hd0 : i < kl) :
    ∃ (T' : State) (locs' : List Loc), Stand p l e ({ frames := 0, cells := 0, slots := 0, locals := 0 } : Room) s m args below meth c T' locs' 0 0 ∧ Fr n0 locs' ∧ T'.heap = h0 ∧ ∀ t, Steps p.tables e below (T'.setTop (mkF m 44 #[.val (.ref ob0), .val (.int q0), .val (.int q1), .val (.ref x), .val (.int kl), .val (.int i), .val (.ref r), .val (.ref r), .val (.int (nr.toInt32)), .val (.int (0 : Int32)), z10] [])) t → Steps p.tables e below (T0.setTop (mkF m 14 #[.val (.ref ob0), .val (.int q0), .val (.int q1), .val (.ref x), .val (.int kl), .val (.int i), z6, z7, z8, z9, z10] [])) t := by
  obtain ⟨ac1, aA1, aq1, aS1, aN1, aH1⟩ := id PA_x
  obtain ⟨ac2, aA2, aq2, aS2, aN2, aH2⟩ := id PA_r
  refine ⟨T0, _, X0, N0, e0, fun t kt => ?_⟩
  show Steps p.tables e below (T0.setTop (mkF m 14 #[.val (.ref ob0), .val (.int q0), .val (.int q1), .val (.ref x), .val (.int kl), .val (.int i), z6, z7, z8, z9, z10] [])) _
  refine XS.iload X0.here hx rfl (hb hby d8_14) rfl ?_
  show Steps p.tables e below (T0.setTop (mkF m 16 #[.val (.ref ob0), .val (.int q0), .val (.int q1), .val (.ref x), .val (.int kl), .val (.int i), z6, z7, z8, z9, z10] [(.int i)])) _
  refine XS.iload X0.here hx rfl (hb hby d8_16) rfl ?_
  show Steps p.tables e below (T0.setTop (mkF m 18 #[.val (.ref ob0), .val (.int q0), .val (.int q1), .val (.ref x), .val (.int kl), .val (.int i), z6, z7, z8, z9, z10] [(.int kl), (.int i)])) _
  refine XS.icmpNo X0.here hx rfl (hb hby d8_18) rfl (tlt hd0).2.1 ?_
  show Steps p.tables e below (T0.setTop (mkF m 21 #[.val (.ref ob0), .val (.int q0), .val (.int q1), .val (.ref x), .val (.int kl), .val (.int i), z6, z7, z8, z9, z10] [])) _
  refine XS.aloadN X0.here hx rfl (hb hby d8_21) rfl rfl ?_
  show Steps p.tables e below (T0.setTop (mkF m 22 #[.val (.ref ob0), .val (.int q0), .val (.int q1), .val (.ref x), .val (.int kl), .val (.int i), z6, z7, z8, z9, z10] [(.ref x)])) _
  refine XS.iload X0.here hx rfl (hb hby d8_22) rfl ?_
  show Steps p.tables e below (T0.setTop (mkF m 24 #[.val (.ref ob0), .val (.int q0), .val (.int q1), .val (.ref x), .val (.int kl), .val (.int i), z6, z7, z8, z9, z10] [(.int i), (.ref x)])) _
  refine X0.aaload hx (j := i) (v := (.ref r)) (by rw [e0]; exact aA1.1) (State.isArrayOf_alike hZ.alike aA1.2.1) rfl aA1.2.2 (by rw [aS1]; exact hin24) (own_at aH1 hin24 hat24) (g := (mkF m 24 #[.val (.ref ob0), .val (.int q0), .val (.int q1), .val (.ref x), .val (.int kl), .val (.int i), z6, z7, z8, z9, z10] [(.int i), (.ref x)])) rfl rfl (hb hby d8_24) _ ?_
  show Steps p.tables e below (T0.setTop (mkF m 25 #[.val (.ref ob0), .val (.int q0), .val (.int q1), .val (.ref x), .val (.int kl), .val (.int i), z6, z7, z8, z9, z10] [(.ref r)])) _
  refine XS.astore X0.here hx rfl (hb hby d8_25) rfl rfl (l' := #[.val (.ref ob0), .val (.int q0), .val (.int q1), .val (.ref x), .val (.int kl), .val (.int i), .val (.ref r), z7, z8, z9, z10]) (os8_25_232 hone_z6) ?_
  show Steps p.tables e below (T0.setTop (mkF m 27 #[.val (.ref ob0), .val (.int q0), .val (.int q1), .val (.ref x), .val (.int kl), .val (.int i), .val (.ref r), z7, z8, z9, z10] [])) _
  refine XS.aload X0.here hx rfl (hb hby d8_27) rfl rfl ?_
  show Steps p.tables e below (T0.setTop (mkF m 29 #[.val (.ref ob0), .val (.int q0), .val (.int q1), .val (.ref x), .val (.int kl), .val (.int i), .val (.ref r), z7, z8, z9, z10] [(.ref r)])) _
  refine XS.ifnullNo X0.here hx rfl (hb hby d8_29) rfl ?_
  show Steps p.tables e below (T0.setTop (mkF m 32 #[.val (.ref ob0), .val (.int q0), .val (.int q1), .val (.ref x), .val (.int kl), .val (.int i), .val (.ref r), z7, z8, z9, z10] [])) _
  refine XS.aload X0.here hx rfl (hb hby d8_32) rfl rfl ?_
  show Steps p.tables e below (T0.setTop (mkF m 34 #[.val (.ref ob0), .val (.int q0), .val (.int q1), .val (.ref x), .val (.int kl), .val (.int i), .val (.ref r), z7, z8, z9, z10] [(.ref r)])) _
  refine XS.astore X0.here hx rfl (hb hby d8_34) rfl rfl (l' := #[.val (.ref ob0), .val (.int q0), .val (.int q1), .val (.ref x), .val (.int kl), .val (.int i), .val (.ref r), .val (.ref r), z8, z9, z10]) (os8_34_234 hone_z7) ?_
  show Steps p.tables e below (T0.setTop (mkF m 36 #[.val (.ref ob0), .val (.int q0), .val (.int q1), .val (.ref x), .val (.int kl), .val (.int i), .val (.ref r), .val (.ref r), z8, z9, z10] [])) _
  refine XS.aload X0.here hx rfl (hb hby d8_36) rfl rfl ?_
  show Steps p.tables e below (T0.setTop (mkF m 38 #[.val (.ref ob0), .val (.int q0), .val (.int q1), .val (.ref x), .val (.int kl), .val (.int i), .val (.ref r), .val (.ref r), z8, z9, z10] [(.ref r)])) _
  refine X0.arraylength hx (by rw [e0]; exact aA2.1) (State.isArrayOf_alike hZ.alike aA2.2.1) (g := (mkF m 38 #[.val (.ref ob0), .val (.int q0), .val (.int q1), .val (.ref x), .val (.int kl), .val (.int i), .val (.ref r), .val (.ref r), z8, z9, z10] [(.ref r)])) rfl rfl (hb hby d8_38) _ ?_
  rw [aS2]
  show Steps p.tables e below (T0.setTop (mkF m 39 #[.val (.ref ob0), .val (.int q0), .val (.int q1), .val (.ref x), .val (.int kl), .val (.int i), .val (.ref r), .val (.ref r), z8, z9, z10] [(.int (nr.toInt32))])) _
  refine XS.istore X0.here hx rfl (hb hby d8_39) rfl (l' := #[.val (.ref ob0), .val (.int q0), .val (.int q1), .val (.ref x), .val (.int kl), .val (.int i), .val (.ref r), .val (.ref r), .val (.int (nr.toInt32)), z9, z10]) (os8_39_238 hone_z8) ?_
  show Steps p.tables e below (T0.setTop (mkF m 41 #[.val (.ref ob0), .val (.int q0), .val (.int q1), .val (.ref x), .val (.int kl), .val (.int i), .val (.ref r), .val (.ref r), .val (.int (nr.toInt32)), z9, z10] [])) _
  refine XS.iconst X0.here hx rfl (hb hby d8_41) ?_
  show Steps p.tables e below (T0.setTop (mkF m 42 #[.val (.ref ob0), .val (.int q0), .val (.int q1), .val (.ref x), .val (.int kl), .val (.int i), .val (.ref r), .val (.ref r), .val (.int (nr.toInt32)), z9, z10] [(.int (0 : Int32))])) _
  refine XS.istore X0.here hx rfl (hb hby d8_42) rfl (l' := #[.val (.ref ob0), .val (.int q0), .val (.int q1), .val (.ref x), .val (.int kl), .val (.int i), .val (.ref r), .val (.ref r), .val (.int (nr.toInt32)), .val (.int (0 : Int32)), z10]) (os8_42_241 hone_z9) ?_
  show Steps p.tables e below (T0.setTop (mkF m 44 #[.val (.ref ob0), .val (.int q0), .val (.int q1), .val (.ref x), .val (.int kl), .val (.int i), .val (.ref r), .val (.ref r), .val (.int (nr.toInt32)), .val (.int (0 : Int32)), z10] [])) _
  exact kt
theorem d8_44 : decode prog_59_method_16_code 44 = .ok (.iload 9, 2) := by decide +kernel
theorem d8_46 : decode prog_59_method_16_code 46 = .ok (.iload 8, 2) := by decide +kernel
theorem d8_48 : decode prog_59_method_16_code 48 = .ok (.if_icmp .ge 24, 3) := by decide +kernel
theorem d8_51 : decode prog_59_method_16_code 51 = .ok (.aload 7, 2) := by decide +kernel
theorem d8_53 : decode prog_59_method_16_code 53 = .ok (.iload 9, 2) := by decide +kernel
theorem d8_55 : decode prog_59_method_16_code 55 = .ok (.iaload, 1) := by decide +kernel
theorem os8_56_250 {z0 : Value} {z1 : Value} {z2 : Value} {z3 : Value} {z4 : Value} {z5 : Value} {z6 : Value} {z7 : Value} {z8 : Value} {z9 : Value} {z10 : Slot} {v : Int32} (h_z10 : One z10) : storeLocals #[.val z0, .val z1, .val z2, .val z3, .val z4, .val z5, .val z6, .val z7, .val z8, .val z9, z10] 10 (.int v) = some #[.val z0, .val z1, .val z2, .val z3, .val z4, .val z5, .val z6, .val z7, .val z8, .val z9, .val (.int v)] := by
  rcases h_z10 with rfl | ⟨w_z10, rfl, hw_z10⟩
  · skip
    rfl
  · cases w_z10 <;> first | (simp [Value.category] at hw_z10; done) | skip
    all_goals
      rfl
theorem d8_56 : decode prog_59_method_16_code 56 = .ok (.istore 10, 2) := by decide +kernel
theorem d8_58 : decode prog_59_method_16_code 58 = .ok (.iload 10, 2) := by decide +kernel
theorem d8_60 : decode prog_59_method_16_code 60 = .ok (.iload_n 2, 1) := by decide +kernel
theorem d8_61 : decode prog_59_method_16_code 61 = .ok (.if_icmp .ne 5, 3) := by decide +kernel
theorem d8_66 : decode prog_59_method_16_code 66 = .ok (.iinc 9 1, 3) := by decide +kernel
theorem d8_69 : decode prog_59_method_16_code 69 = .ok (.goto (-25), 3) := by decide +kernel
set_option maxRecDepth 65536 in
set_option maxHeartbeats 40000000 in
theorem rroMiss {p : Program} {l : Launch} {e : Env} {s : State} {m : MethodId} {args : Array Value} {below : List Frame} {meth : Method} {c : Code} {T0 : State} {locs : List Loc} {Z : State} {a0 : Array Value} {h0 : Heap} {n0 : Nat} (ob0 : Addr) (q0 : Int32) (q1 : Int32) (x : Addr) (kl : Int32) (i : Int32) (r : Addr) (nl : Int32) (j : Int32) (z10 : Slot) (k_r : ClassId) (nr : Nat) (fr : Nat → Value) (w : Int32)
    (X0 : Stand p l e ({ frames := 0, cells := 0, slots := 0, locals := 0 } : Room) s m args below meth c T0 locs 0 0) (hx : p.tables.exec = Jvm.exec) (hZ : Z.Warmed39 s.vm) (hw : ∀ d ∈ tables_1, d.before a0 Z = true) (hby : c.code = prog_59_method_16_code) (hml : c.maxLocals = 11) (hown : s.vm.findClass "com/example/caprice/caprice/solver/Domains" = some m.cls) (e0 : T0.heap = h0) (N0 : Fr n0 locs) (O0 : Old Z n0 h0) (PA_r : Ars Z h0 r k_r .int nr fr) (hin55 : ¬ (j < 0 ∨ nr ≤ (j).toNatClampNeg)) (hat55 : fr (j).toNatClampNeg = (.int w)) (hone_z10 : One z10) (hd0 : j < nl) (hd1 : ¬ (w = q1)) :
    ∃ (T' : State) (locs' : List Loc), Stand p l e ({ frames := 0, cells := 0, slots := 0, locals := 0 } : Room) s m args below meth c T' locs' 0 0 ∧ Fr n0 locs' ∧ T'.heap = h0 ∧ ∀ t, Steps p.tables e below (T'.setTop (mkF m 44 #[.val (.ref ob0), .val (.int q0), .val (.int q1), .val (.ref x), .val (.int kl), .val (.int i), .val (.ref r), .val (.ref r), .val (.int nl), .val (.int (j + (1 : Int32))), .val (.int w)] [])) t → Steps p.tables e below (T0.setTop (mkF m 44 #[.val (.ref ob0), .val (.int q0), .val (.int q1), .val (.ref x), .val (.int kl), .val (.int i), .val (.ref r), .val (.ref r), .val (.int nl), .val (.int j), z10] [])) t := by
  obtain ⟨ac1, aA1, aq1, aS1, aN1, aH1⟩ := id PA_r
  refine ⟨T0, _, X0, N0, e0, fun t kt => ?_⟩
  show Steps p.tables e below (T0.setTop (mkF m 44 #[.val (.ref ob0), .val (.int q0), .val (.int q1), .val (.ref x), .val (.int kl), .val (.int i), .val (.ref r), .val (.ref r), .val (.int nl), .val (.int j), z10] [])) _
  refine XS.iload X0.here hx rfl (hb hby d8_44) rfl ?_
  show Steps p.tables e below (T0.setTop (mkF m 46 #[.val (.ref ob0), .val (.int q0), .val (.int q1), .val (.ref x), .val (.int kl), .val (.int i), .val (.ref r), .val (.ref r), .val (.int nl), .val (.int j), z10] [(.int j)])) _
  refine XS.iload X0.here hx rfl (hb hby d8_46) rfl ?_
  show Steps p.tables e below (T0.setTop (mkF m 48 #[.val (.ref ob0), .val (.int q0), .val (.int q1), .val (.ref x), .val (.int kl), .val (.int i), .val (.ref r), .val (.ref r), .val (.int nl), .val (.int j), z10] [(.int nl), (.int j)])) _
  refine XS.icmpNo X0.here hx rfl (hb hby d8_48) rfl (tlt hd0).2.1 ?_
  show Steps p.tables e below (T0.setTop (mkF m 51 #[.val (.ref ob0), .val (.int q0), .val (.int q1), .val (.ref x), .val (.int kl), .val (.int i), .val (.ref r), .val (.ref r), .val (.int nl), .val (.int j), z10] [])) _
  refine XS.aload X0.here hx rfl (hb hby d8_51) rfl rfl ?_
  show Steps p.tables e below (T0.setTop (mkF m 53 #[.val (.ref ob0), .val (.int q0), .val (.int q1), .val (.ref x), .val (.int kl), .val (.int i), .val (.ref r), .val (.ref r), .val (.int nl), .val (.int j), z10] [(.ref r)])) _
  refine XS.iload X0.here hx rfl (hb hby d8_53) rfl ?_
  show Steps p.tables e below (T0.setTop (mkF m 55 #[.val (.ref ob0), .val (.int q0), .val (.int q1), .val (.ref x), .val (.int kl), .val (.int i), .val (.ref r), .val (.ref r), .val (.int nl), .val (.int j), z10] [(.int j), (.ref r)])) _
  refine X0.iaload hx (j := j) (v := (.int w)) (by rw [e0]; exact aA1.1) (State.isArrayOf_alike hZ.alike aA1.2.1) aA1.2.2 (by rw [aS1]; exact hin55) (own_at aH1 hin55 hat55) (g := (mkF m 55 #[.val (.ref ob0), .val (.int q0), .val (.int q1), .val (.ref x), .val (.int kl), .val (.int i), .val (.ref r), .val (.ref r), .val (.int nl), .val (.int j), z10] [(.int j), (.ref r)])) rfl rfl (hb hby d8_55) _ ?_
  show Steps p.tables e below (T0.setTop (mkF m 56 #[.val (.ref ob0), .val (.int q0), .val (.int q1), .val (.ref x), .val (.int kl), .val (.int i), .val (.ref r), .val (.ref r), .val (.int nl), .val (.int j), z10] [(.int w)])) _
  refine XS.istore X0.here hx rfl (hb hby d8_56) rfl (l' := #[.val (.ref ob0), .val (.int q0), .val (.int q1), .val (.ref x), .val (.int kl), .val (.int i), .val (.ref r), .val (.ref r), .val (.int nl), .val (.int j), .val (.int w)]) (os8_56_250 hone_z10) ?_
  show Steps p.tables e below (T0.setTop (mkF m 58 #[.val (.ref ob0), .val (.int q0), .val (.int q1), .val (.ref x), .val (.int kl), .val (.int i), .val (.ref r), .val (.ref r), .val (.int nl), .val (.int j), .val (.int w)] [])) _
  refine XS.iload X0.here hx rfl (hb hby d8_58) rfl ?_
  show Steps p.tables e below (T0.setTop (mkF m 60 #[.val (.ref ob0), .val (.int q0), .val (.int q1), .val (.ref x), .val (.int kl), .val (.int i), .val (.ref r), .val (.ref r), .val (.int nl), .val (.int j), .val (.int w)] [(.int w)])) _
  refine XS.iloadN X0.here hx rfl (hb hby d8_60) rfl ?_
  show Steps p.tables e below (T0.setTop (mkF m 61 #[.val (.ref ob0), .val (.int q0), .val (.int q1), .val (.ref x), .val (.int kl), .val (.int i), .val (.ref r), .val (.ref r), .val (.int nl), .val (.int j), .val (.int w)] [(.int q1), (.int w)])) _
  refine XS.icmpYes X0.here hx rfl (pc0 := 61) (pc' := 66) rfl (hb hby d8_61) rfl (feq hd1).2 (by decide) (by decide) ?_
  show Steps p.tables e below (T0.setTop (mkF m 66 #[.val (.ref ob0), .val (.int q0), .val (.int q1), .val (.ref x), .val (.int kl), .val (.int i), .val (.ref r), .val (.ref r), .val (.int nl), .val (.int j), .val (.int w)] [])) _
  refine XS.iinc X0.here hx rfl (hb hby d8_66) rfl (l' := #[.val (.ref ob0), .val (.int q0), .val (.int q1), .val (.ref x), .val (.int kl), .val (.int i), .val (.ref r), .val (.ref r), .val (.int nl), .val (.int (j + (1 : Int32))), .val (.int w)]) rfl ?_
  show Steps p.tables e below (T0.setTop (mkF m 69 #[.val (.ref ob0), .val (.int q0), .val (.int q1), .val (.ref x), .val (.int kl), .val (.int i), .val (.ref r), .val (.ref r), .val (.int nl), .val (.int (j + (1 : Int32))), .val (.int w)] [])) _
  refine XS.goto X0.here hx rfl (pc0 := 69) (pc' := 44) rfl (hb hby d8_69) (by decide) (by decide) ?_
  show Steps p.tables e below (T0.setTop (mkF m 44 #[.val (.ref ob0), .val (.int q0), .val (.int q1), .val (.ref x), .val (.int kl), .val (.int i), .val (.ref r), .val (.ref r), .val (.int nl), .val (.int (j + (1 : Int32))), .val (.int w)] [])) _
  exact kt
set_option maxRecDepth 65536 in
set_option maxHeartbeats 40000000 in
theorem rroDone {p : Program} {l : Launch} {e : Env} {s : State} {m : MethodId} {args : Array Value} {below : List Frame} {meth : Method} {c : Code} {T0 : State} {locs : List Loc} {Z : State} {a0 : Array Value} {h0 : Heap} {n0 : Nat} (ob0 : Addr) (q0 : Int32) (q1 : Int32) (x : Addr) (kl : Int32) (i : Int32) (r : Addr) (nl : Int32) (j : Int32) (z10 : Slot)
    (X0 : Stand p l e ({ frames := 0, cells := 0, slots := 0, locals := 0 } : Room) s m args below meth c T0 locs 0 0) (hx : p.tables.exec = Jvm.exec) (hZ : Z.Warmed39 s.vm) (hw : ∀ d ∈ tables_1, d.before a0 Z = true) (hby : c.code = prog_59_method_16_code) (hml : c.maxLocals = 11) (hown : s.vm.findClass "com/example/caprice/caprice/solver/Domains" = some m.cls) (e0 : T0.heap = h0) (N0 : Fr n0 locs) (O0 : Old Z n0 h0) (hd0 : ¬ (j < nl)) :
    ∃ (T' : State) (locs' : List Loc), Stand p l e ({ frames := 0, cells := 0, slots := 0, locals := 0 } : Room) s m args below meth c T' locs' 0 0 ∧ Fr n0 locs' ∧ T'.heap = h0 ∧ ∀ t, Steps p.tables e below (T'.setTop (mkF m 14 #[.val (.ref ob0), .val (.int q0), .val (.int q1), .val (.ref x), .val (.int kl), .val (.int (i + (1 : Int32))), .val (.ref r), .val (.ref r), .val (.int nl), .val (.int j), z10] [])) t → Steps p.tables e below (T0.setTop (mkF m 44 #[.val (.ref ob0), .val (.int q0), .val (.int q1), .val (.ref x), .val (.int kl), .val (.int i), .val (.ref r), .val (.ref r), .val (.int nl), .val (.int j), z10] [])) t := by
  refine ⟨T0, _, X0, N0, e0, fun t kt => ?_⟩
  show Steps p.tables e below (T0.setTop (mkF m 44 #[.val (.ref ob0), .val (.int q0), .val (.int q1), .val (.ref x), .val (.int kl), .val (.int i), .val (.ref r), .val (.ref r), .val (.int nl), .val (.int j), z10] [])) _
  refine XS.iload X0.here hx rfl (hb hby d8_44) rfl ?_
  show Steps p.tables e below (T0.setTop (mkF m 46 #[.val (.ref ob0), .val (.int q0), .val (.int q1), .val (.ref x), .val (.int kl), .val (.int i), .val (.ref r), .val (.ref r), .val (.int nl), .val (.int j), z10] [(.int j)])) _
  refine XS.iload X0.here hx rfl (hb hby d8_46) rfl ?_
  show Steps p.tables e below (T0.setTop (mkF m 48 #[.val (.ref ob0), .val (.int q0), .val (.int q1), .val (.ref x), .val (.int kl), .val (.int i), .val (.ref r), .val (.ref r), .val (.int nl), .val (.int j), z10] [(.int nl), (.int j)])) _
  refine XS.icmpYes X0.here hx rfl (pc0 := 48) (pc' := 72) rfl (hb hby d8_48) rfl (flt hd0).2.1 (by decide) (by decide) ?_
  show Steps p.tables e below (T0.setTop (mkF m 72 #[.val (.ref ob0), .val (.int q0), .val (.int q1), .val (.ref x), .val (.int kl), .val (.int i), .val (.ref r), .val (.ref r), .val (.int nl), .val (.int j), z10] [])) _
  refine XS.iinc X0.here hx rfl (hb hby d8_72) rfl (l' := #[.val (.ref ob0), .val (.int q0), .val (.int q1), .val (.ref x), .val (.int kl), .val (.int (i + (1 : Int32))), .val (.ref r), .val (.ref r), .val (.int nl), .val (.int j), z10]) rfl ?_
  show Steps p.tables e below (T0.setTop (mkF m 75 #[.val (.ref ob0), .val (.int q0), .val (.int q1), .val (.ref x), .val (.int kl), .val (.int (i + (1 : Int32))), .val (.ref r), .val (.ref r), .val (.int nl), .val (.int j), z10] [])) _
  refine XS.goto X0.here hx rfl (pc0 := 75) (pc' := 14) rfl (hb hby d8_75) (by decide) (by decide) ?_
  show Steps p.tables e below (T0.setTop (mkF m 14 #[.val (.ref ob0), .val (.int q0), .val (.int q1), .val (.ref x), .val (.int kl), .val (.int (i + (1 : Int32))), .val (.ref r), .val (.ref r), .val (.int nl), .val (.int j), z10] [])) _
  exact kt
theorem os8_56_259 {z0 : Value} {z1 : Value} {z2 : Value} {z3 : Value} {z4 : Value} {z5 : Value} {z6 : Value} {z7 : Value} {z8 : Value} {z9 : Value} {z10 : Slot} {v : Int32} (h_z10 : One z10) : storeLocals #[.val z0, .val z1, .val z2, .val z3, .val z4, .val z5, .val z6, .val z7, .val z8, .val z9, z10] 10 (.int v) = some #[.val z0, .val z1, .val z2, .val z3, .val z4, .val z5, .val z6, .val z7, .val z8, .val z9, .val (.int v)] := by
  rcases h_z10 with rfl | ⟨w_z10, rfl, hw_z10⟩
  · skip
    rfl
  · cases w_z10 <;> first | (simp [Value.category] at hw_z10; done) | skip
    all_goals
      rfl
theorem d8_64 : decode prog_59_method_16_code 64 = .ok (.iconst 1, 1) := by decide +kernel
theorem d8_65 : decode prog_59_method_16_code 65 = .ok (.ireturn, 1) := by decide +kernel
set_option maxRecDepth 65536 in
set_option maxHeartbeats 40000000 in
theorem rroHit {p : Program} {l : Launch} {e : Env} {s : State} {m : MethodId} {args : Array Value} {below : List Frame} {meth : Method} {c : Code} {T0 : State} {locs : List Loc} {Z : State} {a0 : Array Value} {h0 : Heap} {n0 : Nat} (ob0 : Addr) (q0 : Int32) (q1 : Int32) (x : Addr) (kl : Int32) (i : Int32) (r : Addr) (nl : Int32) (j : Int32) (z10 : Slot) (k_r : ClassId) (nr : Nat) (fr : Nat → Value) (w : Int32)
    (X0 : Stand p l e ({ frames := 0, cells := 0, slots := 0, locals := 0 } : Room) s m args below meth c T0 locs 0 0) (hx : p.tables.exec = Jvm.exec) (hZ : Z.Warmed39 s.vm) (hw : ∀ d ∈ tables_1, d.before a0 Z = true) (hby : c.code = prog_59_method_16_code) (hml : c.maxLocals = 11) (hown : s.vm.findClass "com/example/caprice/caprice/solver/Domains" = some m.cls) (e0 : T0.heap = h0) (N0 : Fr n0 locs) (O0 : Old Z n0 h0) (PA_r : Ars Z h0 r k_r .int nr fr) (hin55 : ¬ (j < 0 ∨ nr ≤ (j).toNatClampNeg)) (hat55 : fr (j).toNatClampNeg = (.int w)) (hone_z10 : One z10) (hd0 : j < nl) (hd1 : w = q1) (hret : meth.sig.returnType = some .boolean) (hlk : meth.locks = false) {entry : State} (pre0 : ∀ t, Steps p.tables e below (T0.setTop (mkF m 44 #[.val (.ref ob0), .val (.int q0), .val (.int q1), .val (.ref x), .val (.int kl), .val (.int i), .val (.ref r), .val (.ref r), .val (.int nl), .val (.int j), z10] [])) t → Steps p.tables e below entry t) :
    ∃ s₂ o, Steps p.tables e below entry s₂ ∧ s₂.status = .running ∧ Ended s₂ below o ∧ ∃ v L, o = .returned v ∧ QV (some (.int (1 : Int32))) h0 n0 v s₂.heap L ∧ FrameEnd s o s₂ L ({ frames := 0, cells := 0, slots := 0, locals := 0 } : Room).cells ({ frames := 0, cells := 0, slots := 0, locals := 0 } : Room).slots := by
  obtain ⟨ac1, aA1, aq1, aS1, aN1, aH1⟩ := id PA_r
  obtain ⟨fs, hr, hrun, hended, hW, hsame⟩ := X0.leave (v := some (.int (1 : Int32))) (fun h => by rw [hret] at h; cases h) hlk
  refine ⟨_, _, pre0 _ ?_, hrun, hended, _, _, rfl, ?_, ⟨_, rfl⟩, hW, hsame.mono (by decide) (by decide)⟩
  · show Steps p.tables e below (T0.setTop (mkF m 44 #[.val (.ref ob0), .val (.int q0), .val (.int q1), .val (.ref x), .val (.int kl), .val (.int i), .val (.ref r), .val (.ref r), .val (.int nl), .val (.int j), z10] [])) _
    refine XS.iload X0.here hx rfl (hb hby d8_44) rfl ?_
    show Steps p.tables e below (T0.setTop (mkF m 46 #[.val (.ref ob0), .val (.int q0), .val (.int q1), .val (.ref x), .val (.int kl), .val (.int i), .val (.ref r), .val (.ref r), .val (.int nl), .val (.int j), z10] [(.int j)])) _
    refine XS.iload X0.here hx rfl (hb hby d8_46) rfl ?_
    show Steps p.tables e below (T0.setTop (mkF m 48 #[.val (.ref ob0), .val (.int q0), .val (.int q1), .val (.ref x), .val (.int kl), .val (.int i), .val (.ref r), .val (.ref r), .val (.int nl), .val (.int j), z10] [(.int nl), (.int j)])) _
    refine XS.icmpNo X0.here hx rfl (hb hby d8_48) rfl (tlt hd0).2.1 ?_
    show Steps p.tables e below (T0.setTop (mkF m 51 #[.val (.ref ob0), .val (.int q0), .val (.int q1), .val (.ref x), .val (.int kl), .val (.int i), .val (.ref r), .val (.ref r), .val (.int nl), .val (.int j), z10] [])) _
    refine XS.aload X0.here hx rfl (hb hby d8_51) rfl rfl ?_
    show Steps p.tables e below (T0.setTop (mkF m 53 #[.val (.ref ob0), .val (.int q0), .val (.int q1), .val (.ref x), .val (.int kl), .val (.int i), .val (.ref r), .val (.ref r), .val (.int nl), .val (.int j), z10] [(.ref r)])) _
    refine XS.iload X0.here hx rfl (hb hby d8_53) rfl ?_
    show Steps p.tables e below (T0.setTop (mkF m 55 #[.val (.ref ob0), .val (.int q0), .val (.int q1), .val (.ref x), .val (.int kl), .val (.int i), .val (.ref r), .val (.ref r), .val (.int nl), .val (.int j), z10] [(.int j), (.ref r)])) _
    refine X0.iaload hx (j := j) (v := (.int w)) (by rw [e0]; exact aA1.1) (State.isArrayOf_alike hZ.alike aA1.2.1) aA1.2.2 (by rw [aS1]; exact hin55) (own_at aH1 hin55 hat55) (g := (mkF m 55 #[.val (.ref ob0), .val (.int q0), .val (.int q1), .val (.ref x), .val (.int kl), .val (.int i), .val (.ref r), .val (.ref r), .val (.int nl), .val (.int j), z10] [(.int j), (.ref r)])) rfl rfl (hb hby d8_55) _ ?_
    show Steps p.tables e below (T0.setTop (mkF m 56 #[.val (.ref ob0), .val (.int q0), .val (.int q1), .val (.ref x), .val (.int kl), .val (.int i), .val (.ref r), .val (.ref r), .val (.int nl), .val (.int j), z10] [(.int w)])) _
    refine XS.istore X0.here hx rfl (hb hby d8_56) rfl (l' := #[.val (.ref ob0), .val (.int q0), .val (.int q1), .val (.ref x), .val (.int kl), .val (.int i), .val (.ref r), .val (.ref r), .val (.int nl), .val (.int j), .val (.int w)]) (os8_56_259 hone_z10) ?_
    show Steps p.tables e below (T0.setTop (mkF m 58 #[.val (.ref ob0), .val (.int q0), .val (.int q1), .val (.ref x), .val (.int kl), .val (.int i), .val (.ref r), .val (.ref r), .val (.int nl), .val (.int j), .val (.int w)] [])) _
    refine XS.iload X0.here hx rfl (hb hby d8_58) rfl ?_
    show Steps p.tables e below (T0.setTop (mkF m 60 #[.val (.ref ob0), .val (.int q0), .val (.int q1), .val (.ref x), .val (.int kl), .val (.int i), .val (.ref r), .val (.ref r), .val (.int nl), .val (.int j), .val (.int w)] [(.int w)])) _
    refine XS.iloadN X0.here hx rfl (hb hby d8_60) rfl ?_
    show Steps p.tables e below (T0.setTop (mkF m 61 #[.val (.ref ob0), .val (.int q0), .val (.int q1), .val (.ref x), .val (.int kl), .val (.int i), .val (.ref r), .val (.ref r), .val (.int nl), .val (.int j), .val (.int w)] [(.int q1), (.int w)])) _
    refine XS.icmpNo X0.here hx rfl (hb hby d8_61) rfl (teq hd1).2 ?_
    show Steps p.tables e below (T0.setTop (mkF m 64 #[.val (.ref ob0), .val (.int q0), .val (.int q1), .val (.ref x), .val (.int kl), .val (.int i), .val (.ref r), .val (.ref r), .val (.int nl), .val (.int j), .val (.int w)] [])) _
    refine XS.iconst X0.here hx rfl (hb hby d8_64) ?_
    show Steps p.tables e below (T0.setTop (mkF m 65 #[.val (.ref ob0), .val (.int q0), .val (.int q1), .val (.ref x), .val (.int kl), .val (.int i), .val (.ref r), .val (.ref r), .val (.int nl), .val (.int j), .val (.int w)] [(.int (1 : Int32))])) _
    exact retN X0 hx (t := .boolean) hret (by simp) (hb hby d8_65) hr
  · exact ⟨rfl, N0, e0⟩
theorem d1_0 : decode method_3_code 0 = .ok (.iload_n 0, 1) := by decide +kernel
theorem d1_1 : decode method_3_code 1 = .ok (.sipush 255, 3) := by decide +kernel
theorem d1_4 : decode method_3_code 4 = .ok (.iand, 1) := by decide +kernel
theorem d1_5 : decode method_3_code 5 = .ok (.iconst 3, 1) := by decide +kernel
theorem d1_6 : decode method_3_code 6 = .ok (.irem, 1) := by decide +kernel
theorem d1_7 : decode method_3_code 7 = .ok (.istore_n 1, 1) := by decide +kernel
theorem d1_8 : decode method_3_code 8 = .ok (.iload_n 0, 1) := by decide +kernel
theorem d1_9 : decode method_3_code 9 = .ok (.bipush 8, 2) := by decide +kernel
theorem d1_11 : decode method_3_code 11 = .ok (.iushr, 1) := by decide +kernel
theorem d1_12 : decode method_3_code 12 = .ok (.sipush 255, 3) := by decide +kernel
theorem d1_15 : decode method_3_code 15 = .ok (.iand, 1) := by decide +kernel
theorem d1_16 : decode method_3_code 16 = .ok (.iconst 3, 1) := by decide +kernel
theorem d1_17 : decode method_3_code 17 = .ok (.irem, 1) := by decide +kernel
theorem d1_18 : decode method_3_code 18 = .ok (.istore_n 2, 1) := by decide +kernel
theorem d1_19 : decode method_3_code 19 = .ok (.iload_n 0, 1) := by decide +kernel
theorem d1_20 : decode method_3_code 20 = .ok (.bipush 16, 2) := by decide +kernel
theorem d1_22 : decode method_3_code 22 = .ok (.iushr, 1) := by decide +kernel
theorem d1_23 : decode method_3_code 23 = .ok (.sipush 255, 3) := by decide +kernel
theorem d1_26 : decode method_3_code 26 = .ok (.iand, 1) := by decide +kernel
theorem d1_27 : decode method_3_code 27 = .ok (.iconst 3, 1) := by decide +kernel
theorem d1_28 : decode method_3_code 28 = .ok (.irem, 1) := by decide +kernel
theorem d1_29 : decode method_3_code 29 = .ok (.istore_n 3, 1) := by decide +kernel
theorem d1_30 : decode method_3_code 30 = .ok (.iload_n 1, 1) := by decide +kernel
theorem d1_31 : decode method_3_code 31 = .ok (.ifCond .ne 7, 3) := by decide +kernel
theorem d1_34 : decode method_3_code 34 = .ok (.iconst 0, 1) := by decide +kernel
theorem d1_35 : decode method_3_code 35 = .ok (.newarray .int, 2) := by decide +kernel
theorem d1_37 : decode method_3_code 37 = .ok (.areturn, 1) := by decide +kernel
theorem ef291 (m : MethodId) (x0 : Int32) : entryFrame m #[(.int x0)] 4 = mkF m 0 #[.val (.int x0), .unset, .unset, .unset] [] := by first | (simp [entryFrame, mkF, argsToLocals, Value.category]; done) | rfl
theorem pn292 : plainName "com/example/caprice/caprice/solver/DomainsRemovalsRestOnPinLaw" = true := by first | (simp [plainName, overriddenIn]; done) | decide +kernel
def Q1_13 (Z : State) (q0 : Int32) (h0 : Heap) (n0 : Nat) (v : Option Value) (h : Heap) (L : List Loc) : Prop := ∃ b1 : Addr, ∃ kk_b1 : ClassId, v = some (.ref b1) ∧ Fr n0 L ∧ Keep h0 h [] ∧ Old Z n0 h ∧ h0.size ≤ b1 ∧ Arv Z h b1 kk_b1 .int (0 : Int32) [] (.int (0 : Int32)) ∧ Exa Z h b1 "[I" ∧ True
set_option maxRecDepth 65536 in
set_option maxHeartbeats 40000000 in
theorem rm1_13 (l : Launch) (Z : State) (a0 : Array Value) (hw : ∀ d ∈ tables_1, d.before a0 Z = true) (ws : List Jvm.Cond) (q0 : Int32) (h0 : Heap) (n0 : Nat) (Z0 : n0 ≤ h0.size) (O0 : Old Z n0 h0) (hd0 : ((q0 &&& (255 : Int32)) % (3 : Int32)) = (0 : Int32)) :
    MetFree l (⟨"com/example/caprice/caprice/solver/DomainsRemovalsRestOnPinLaw", "reasonsOf", "(I)[I"⟩ : MethodName) (head1 (Jvm.Cond.code (⟨"com/example/caprice/caprice/solver/DomainsRemovalsRestOnPinLaw", "reasonsOf", "(I)[I"⟩ : MethodName) method_3_code 4 (some (.array .int)) :: ws) ({ frames := 0, cells := 1, slots := 2, locals := 0 } : Room)) (fun a U => a = #[(.int q0)] ∧ Z.Warmed39 U.vm ∧ U.heap = h0) (fun _ _ _ _ _ => True) (fun _ U o U' => ∃ v L, o = .returned v ∧ Q1_13 Z  q0 h0 n0 v U'.heap L ∧ FrameEnd U o U' L ({ frames := 0, cells := 1, slots := 2, locals := 0 } : Room).cells ({ frames := 0, cells := 1, slots := 2, locals := 0 } : Room).slots) := by
  refine MetFree.of_bodySF (plainFor_of_name pn292) hisR ?_
  intro p e s m args below meth c s₁ Bd hml0 hP hK
  obtain ⟨rfl, hZ, hh⟩ := hP
  have hx := Bd.exec
  have hby := Bd.bytes
  have hml : c.maxLocals = 4 := hml0
  have hown : s.vm.findClass "com/example/caprice/caprice/solver/DomainsRemovalsRestOnPinLaw" = some m.cls := findClass_of_methodNamed Bd.named
  have hnm := (name_of_methodNamed Bd.named Bd.method).1
  have X0 : Stand p l e ({ frames := 0, cells := 1, slots := 2, locals := 0 } : Room) s m #[(.int q0)] below meth c s₁ [] 0 0 := Stand.of_body Bd
  have e0 : s₁.heap = h0 := by rw [← hh, Bd.state]; rfl
  have N0 := Fr.nil n0
  have pre0 : ∀ t, Steps p.tables e below (s₁.setTop (mkF m 0 #[.val (.int q0), .unset, .unset, .unset] [])) t → Steps p.tables e below (s₁.setTop (entryFrame m #[(.int q0)] 4)) t := fun t k => castTop (ef291 m q0) k
  obtain ⟨T1, h1, k1, X1, e1, E1, A1, B1, st1⟩ := newPE X0 hx hZ (hw _ (List.mem_of_getElem? (i := 5) rfl)) e0 (g := (mkF m 35 #[.val (.int q0), .val (.int ((q0 &&& (255 : Int32)) % (3 : Int32))), .val (.int ((((q0.toUInt32 >>> ((8 : Int32) &&& 31).toUInt32).toInt32) &&& (255 : Int32)) % (3 : Int32))), .val (.int ((((q0.toUInt32 >>> ((16 : Int32) &&& 31).toUInt32).toInt32) &&& (255 : Int32)) % (3 : Int32)))] [(.int (0 : Int32))])) rfl (hb hby d1_35) rfl (by decide) (cap := 0) (by decide) (by decide) (by decide) (by decide) (ad := "[I") (by decide)
  obtain ⟨b1, gg1⟩ : ∃ z, z = h0.size := ⟨_, rfl⟩
  rw [← gg1] at A1 B1 st1
  have bo_b1 : h0.size ≤ b1 := Nat.le_of_eq gg1.symm
  have g_b1 : n0 ≤ b1 := Nat.le_trans (own_n0 O0) bo_b1
  have sz_b1 : h0.size ≤ b1 := Nat.le_trans (Keep.refl h0 []).1 bo_b1
  have V_b1 : Arv Z h1 b1 k1 .int (0 : Int32) [] (.int (0 : Int32)) := (Arv.new A1 (by decide)).pad (pad_rep [] (.int (0 : Int32)) 0)
  have lb_b1 : b1 < h1.size := A1.lt
  have KK1 : Keep h0 h1 [] := (Keep.refl h0 []).ext E1
  have O1 := O0.ext E1
  obtain ⟨fs, hr, hrun, hended, hW, hsame⟩ := X1.leave (v := some (.ref b1)) (fun h => by rw [Bd.returns] at h; cases h)
  refine ⟨_, _, pre0 _ ?_, hrun, hended, _, _, rfl, ?_, ⟨_, rfl⟩, hW, hsame.mono (by decide) (by decide)⟩
  · show Steps p.tables e below (s₁.setTop (mkF m 0 #[.val (.int q0), .unset, .unset, .unset] [])) _
    refine XS.iloadN X0.here hx rfl (hb hby d1_0) rfl ?_
    show Steps p.tables e below (s₁.setTop (mkF m 1 #[.val (.int q0), .unset, .unset, .unset] [(.int q0)])) _
    refine XS.sipush X0.here hx rfl (hb hby d1_1) ?_
    show Steps p.tables e below (s₁.setTop (mkF m 4 #[.val (.int q0), .unset, .unset, .unset] [(.int (255 : Int32)), (.int q0)])) _
    refine XS.iand X0.here hx rfl (hb hby d1_4) rfl ?_
    show Steps p.tables e below (s₁.setTop (mkF m 5 #[.val (.int q0), .unset, .unset, .unset] [(.int (q0 &&& (255 : Int32)))])) _
    refine XS.iconst X0.here hx rfl (hb hby d1_5) ?_
    show Steps p.tables e below (s₁.setTop (mkF m 6 #[.val (.int q0), .unset, .unset, .unset] [(.int (3 : Int32)), (.int (q0 &&& (255 : Int32)))])) _
    refine iremM X0 hx rfl (hb hby d1_6) rfl (by decide) ?_
    show Steps p.tables e below (s₁.setTop (mkF m 7 #[.val (.int q0), .unset, .unset, .unset] [(.int ((q0 &&& (255 : Int32)) % (3 : Int32)))])) _
    refine XS.istoreN X0.here hx rfl (hb hby d1_7) rfl (l' := #[.val (.int q0), .val (.int ((q0 &&& (255 : Int32)) % (3 : Int32))), .unset, .unset]) rfl ?_
    show Steps p.tables e below (s₁.setTop (mkF m 8 #[.val (.int q0), .val (.int ((q0 &&& (255 : Int32)) % (3 : Int32))), .unset, .unset] [])) _
    refine XS.iloadN X0.here hx rfl (hb hby d1_8) rfl ?_
    show Steps p.tables e below (s₁.setTop (mkF m 9 #[.val (.int q0), .val (.int ((q0 &&& (255 : Int32)) % (3 : Int32))), .unset, .unset] [(.int q0)])) _
    refine XS.bipush X0.here hx rfl (hb hby d1_9) ?_
    show Steps p.tables e below (s₁.setTop (mkF m 11 #[.val (.int q0), .val (.int ((q0 &&& (255 : Int32)) % (3 : Int32))), .unset, .unset] [(.int (8 : Int32)), (.int q0)])) _
    refine XS.iushr X0.here hx rfl (hb hby d1_11) rfl ?_
    show Steps p.tables e below (s₁.setTop (mkF m 12 #[.val (.int q0), .val (.int ((q0 &&& (255 : Int32)) % (3 : Int32))), .unset, .unset] [(.int ((q0.toUInt32 >>> ((8 : Int32) &&& 31).toUInt32).toInt32))])) _
    refine XS.sipush X0.here hx rfl (hb hby d1_12) ?_
    show Steps p.tables e below (s₁.setTop (mkF m 15 #[.val (.int q0), .val (.int ((q0 &&& (255 : Int32)) % (3 : Int32))), .unset, .unset] [(.int (255 : Int32)), (.int ((q0.toUInt32 >>> ((8 : Int32) &&& 31).toUInt32).toInt32))])) _
    refine XS.iand X0.here hx rfl (hb hby d1_15) rfl ?_
    show Steps p.tables e below (s₁.setTop (mkF m 16 #[.val (.int q0), .val (.int ((q0 &&& (255 : Int32)) % (3 : Int32))), .unset, .unset] [(.int (((q0.toUInt32 >>> ((8 : Int32) &&& 31).toUInt32).toInt32) &&& (255 : Int32)))])) _
    refine XS.iconst X0.here hx rfl (hb hby d1_16) ?_
    show Steps p.tables e below (s₁.setTop (mkF m 17 #[.val (.int q0), .val (.int ((q0 &&& (255 : Int32)) % (3 : Int32))), .unset, .unset] [(.int (3 : Int32)), (.int (((q0.toUInt32 >>> ((8 : Int32) &&& 31).toUInt32).toInt32) &&& (255 : Int32)))])) _
    refine iremM X0 hx rfl (hb hby d1_17) rfl (by decide) ?_
    show Steps p.tables e below (s₁.setTop (mkF m 18 #[.val (.int q0), .val (.int ((q0 &&& (255 : Int32)) % (3 : Int32))), .unset, .unset] [(.int ((((q0.toUInt32 >>> ((8 : Int32) &&& 31).toUInt32).toInt32) &&& (255 : Int32)) % (3 : Int32)))])) _
    refine XS.istoreN X0.here hx rfl (hb hby d1_18) rfl (l' := #[.val (.int q0), .val (.int ((q0 &&& (255 : Int32)) % (3 : Int32))), .val (.int ((((q0.toUInt32 >>> ((8 : Int32) &&& 31).toUInt32).toInt32) &&& (255 : Int32)) % (3 : Int32))), .unset]) rfl ?_
    show Steps p.tables e below (s₁.setTop (mkF m 19 #[.val (.int q0), .val (.int ((q0 &&& (255 : Int32)) % (3 : Int32))), .val (.int ((((q0.toUInt32 >>> ((8 : Int32) &&& 31).toUInt32).toInt32) &&& (255 : Int32)) % (3 : Int32))), .unset] [])) _
    refine XS.iloadN X0.here hx rfl (hb hby d1_19) rfl ?_
    show Steps p.tables e below (s₁.setTop (mkF m 20 #[.val (.int q0), .val (.int ((q0 &&& (255 : Int32)) % (3 : Int32))), .val (.int ((((q0.toUInt32 >>> ((8 : Int32) &&& 31).toUInt32).toInt32) &&& (255 : Int32)) % (3 : Int32))), .unset] [(.int q0)])) _
    refine XS.bipush X0.here hx rfl (hb hby d1_20) ?_
    show Steps p.tables e below (s₁.setTop (mkF m 22 #[.val (.int q0), .val (.int ((q0 &&& (255 : Int32)) % (3 : Int32))), .val (.int ((((q0.toUInt32 >>> ((8 : Int32) &&& 31).toUInt32).toInt32) &&& (255 : Int32)) % (3 : Int32))), .unset] [(.int (16 : Int32)), (.int q0)])) _
    refine XS.iushr X0.here hx rfl (hb hby d1_22) rfl ?_
    show Steps p.tables e below (s₁.setTop (mkF m 23 #[.val (.int q0), .val (.int ((q0 &&& (255 : Int32)) % (3 : Int32))), .val (.int ((((q0.toUInt32 >>> ((8 : Int32) &&& 31).toUInt32).toInt32) &&& (255 : Int32)) % (3 : Int32))), .unset] [(.int ((q0.toUInt32 >>> ((16 : Int32) &&& 31).toUInt32).toInt32))])) _
    refine XS.sipush X0.here hx rfl (hb hby d1_23) ?_
    show Steps p.tables e below (s₁.setTop (mkF m 26 #[.val (.int q0), .val (.int ((q0 &&& (255 : Int32)) % (3 : Int32))), .val (.int ((((q0.toUInt32 >>> ((8 : Int32) &&& 31).toUInt32).toInt32) &&& (255 : Int32)) % (3 : Int32))), .unset] [(.int (255 : Int32)), (.int ((q0.toUInt32 >>> ((16 : Int32) &&& 31).toUInt32).toInt32))])) _
    refine XS.iand X0.here hx rfl (hb hby d1_26) rfl ?_
    show Steps p.tables e below (s₁.setTop (mkF m 27 #[.val (.int q0), .val (.int ((q0 &&& (255 : Int32)) % (3 : Int32))), .val (.int ((((q0.toUInt32 >>> ((8 : Int32) &&& 31).toUInt32).toInt32) &&& (255 : Int32)) % (3 : Int32))), .unset] [(.int (((q0.toUInt32 >>> ((16 : Int32) &&& 31).toUInt32).toInt32) &&& (255 : Int32)))])) _
    refine XS.iconst X0.here hx rfl (hb hby d1_27) ?_
    show Steps p.tables e below (s₁.setTop (mkF m 28 #[.val (.int q0), .val (.int ((q0 &&& (255 : Int32)) % (3 : Int32))), .val (.int ((((q0.toUInt32 >>> ((8 : Int32) &&& 31).toUInt32).toInt32) &&& (255 : Int32)) % (3 : Int32))), .unset] [(.int (3 : Int32)), (.int (((q0.toUInt32 >>> ((16 : Int32) &&& 31).toUInt32).toInt32) &&& (255 : Int32)))])) _
    refine iremM X0 hx rfl (hb hby d1_28) rfl (by decide) ?_
    show Steps p.tables e below (s₁.setTop (mkF m 29 #[.val (.int q0), .val (.int ((q0 &&& (255 : Int32)) % (3 : Int32))), .val (.int ((((q0.toUInt32 >>> ((8 : Int32) &&& 31).toUInt32).toInt32) &&& (255 : Int32)) % (3 : Int32))), .unset] [(.int ((((q0.toUInt32 >>> ((16 : Int32) &&& 31).toUInt32).toInt32) &&& (255 : Int32)) % (3 : Int32)))])) _
    refine XS.istoreN X0.here hx rfl (hb hby d1_29) rfl (l' := #[.val (.int q0), .val (.int ((q0 &&& (255 : Int32)) % (3 : Int32))), .val (.int ((((q0.toUInt32 >>> ((8 : Int32) &&& 31).toUInt32).toInt32) &&& (255 : Int32)) % (3 : Int32))), .val (.int ((((q0.toUInt32 >>> ((16 : Int32) &&& 31).toUInt32).toInt32) &&& (255 : Int32)) % (3 : Int32)))]) rfl ?_
    show Steps p.tables e below (s₁.setTop (mkF m 30 #[.val (.int q0), .val (.int ((q0 &&& (255 : Int32)) % (3 : Int32))), .val (.int ((((q0.toUInt32 >>> ((8 : Int32) &&& 31).toUInt32).toInt32) &&& (255 : Int32)) % (3 : Int32))), .val (.int ((((q0.toUInt32 >>> ((16 : Int32) &&& 31).toUInt32).toInt32) &&& (255 : Int32)) % (3 : Int32)))] [])) _
    refine XS.iloadN X0.here hx rfl (hb hby d1_30) rfl ?_
    show Steps p.tables e below (s₁.setTop (mkF m 31 #[.val (.int q0), .val (.int ((q0 &&& (255 : Int32)) % (3 : Int32))), .val (.int ((((q0.toUInt32 >>> ((8 : Int32) &&& 31).toUInt32).toInt32) &&& (255 : Int32)) % (3 : Int32))), .val (.int ((((q0.toUInt32 >>> ((16 : Int32) &&& 31).toUInt32).toInt32) &&& (255 : Int32)) % (3 : Int32)))] [(.int ((q0 &&& (255 : Int32)) % (3 : Int32)))])) _
    refine XS.ifNo X0.here hx rfl (hb hby d1_31) rfl ((if0 _ _).trans (teq hd0).2) ?_
    show Steps p.tables e below (s₁.setTop (mkF m 34 #[.val (.int q0), .val (.int ((q0 &&& (255 : Int32)) % (3 : Int32))), .val (.int ((((q0.toUInt32 >>> ((8 : Int32) &&& 31).toUInt32).toInt32) &&& (255 : Int32)) % (3 : Int32))), .val (.int ((((q0.toUInt32 >>> ((16 : Int32) &&& 31).toUInt32).toInt32) &&& (255 : Int32)) % (3 : Int32)))] [])) _
    refine XS.iconst X0.here hx rfl (hb hby d1_34) ?_
    show Steps p.tables e below (s₁.setTop (mkF m 35 #[.val (.int q0), .val (.int ((q0 &&& (255 : Int32)) % (3 : Int32))), .val (.int ((((q0.toUInt32 >>> ((8 : Int32) &&& 31).toUInt32).toInt32) &&& (255 : Int32)) % (3 : Int32))), .val (.int ((((q0.toUInt32 >>> ((16 : Int32) &&& 31).toUInt32).toInt32) &&& (255 : Int32)) % (3 : Int32)))] [(.int (0 : Int32))])) _
    refine st1 _ ?_
    show Steps p.tables e below (T1.setTop (mkF m 37 #[.val (.int q0), .val (.int ((q0 &&& (255 : Int32)) % (3 : Int32))), .val (.int ((((q0.toUInt32 >>> ((8 : Int32) &&& 31).toUInt32).toInt32) &&& (255 : Int32)) % (3 : Int32))), .val (.int ((((q0.toUInt32 >>> ((16 : Int32) &&& 31).toUInt32).toInt32) &&& (255 : Int32)) % (3 : Int32)))] [(.ref b1)])) _
    jvm_step X1.here [X1.here.top, hx, (hb hby d1_37), X1.method', Bd.returns, Value.isRef, FieldType.isReference]
    first | (intro acts; rw [hr _ acts rfl rfl rfl]) | rw [hr _ _ rfl rfl rfl]
    exact Steps.refl _
  · have eH : (T1.setFrames fs).heap = h1 := e1; rw [eH]; exact ⟨b1, k1, rfl, N0, KK1, O1, sz_b1, V_b1, B1, trivial⟩
theorem d1_38 : decode method_3_code 38 = .ok (.iload_n 1, 1) := by decide +kernel
theorem d1_39 : decode method_3_code 39 = .ok (.iconst 1, 1) := by decide +kernel
theorem d1_40 : decode method_3_code 40 = .ok (.if_icmp .ne 11, 3) := by decide +kernel
theorem d1_43 : decode method_3_code 43 = .ok (.iconst 1, 1) := by decide +kernel
theorem d1_44 : decode method_3_code 44 = .ok (.newarray .int, 2) := by decide +kernel
theorem d1_46 : decode method_3_code 46 = .ok (.dup, 1) := by decide +kernel
theorem d1_47 : decode method_3_code 47 = .ok (.iconst 0, 1) := by decide +kernel
theorem d1_48 : decode method_3_code 48 = .ok (.iload_n 2, 1) := by decide +kernel
theorem d1_49 : decode method_3_code 49 = .ok (.iastore, 1) := by decide +kernel
theorem d1_50 : decode method_3_code 50 = .ok (.areturn, 1) := by decide +kernel
def Q1_14 (Z : State) (q0 : Int32) (h0 : Heap) (n0 : Nat) (v : Option Value) (h : Heap) (L : List Loc) : Prop := ∃ b1 : Addr, ∃ kk_b1 : ClassId, v = some (.ref b1) ∧ Fr n0 L ∧ Keep h0 h [] ∧ Old Z n0 h ∧ h0.size ≤ b1 ∧ Arv Z h b1 kk_b1 .int (1 : Int32) [(.int ((((q0.toUInt32 >>> ((8 : Int32) &&& 31).toUInt32).toInt32) &&& (255 : Int32)) % (3 : Int32)))] (.int (0 : Int32)) ∧ Exa Z h b1 "[I" ∧ True
set_option maxRecDepth 65536 in
set_option maxHeartbeats 40000000 in
theorem rm1_14 (l : Launch) (Z : State) (a0 : Array Value) (hw : ∀ d ∈ tables_1, d.before a0 Z = true) (ws : List Jvm.Cond) (q0 : Int32) (h0 : Heap) (n0 : Nat) (Z0 : n0 ≤ h0.size) (O0 : Old Z n0 h0) (hd0 : ¬ (((q0 &&& (255 : Int32)) % (3 : Int32)) = (0 : Int32))) (hd1 : ((q0 &&& (255 : Int32)) % (3 : Int32)) = (1 : Int32)) :
    MetFree l (⟨"com/example/caprice/caprice/solver/DomainsRemovalsRestOnPinLaw", "reasonsOf", "(I)[I"⟩ : MethodName) (head1 (Jvm.Cond.code (⟨"com/example/caprice/caprice/solver/DomainsRemovalsRestOnPinLaw", "reasonsOf", "(I)[I"⟩ : MethodName) method_3_code 4 (some (.array .int)) :: ws) ({ frames := 0, cells := 1, slots := 2, locals := 0 } : Room)) (fun a U => a = #[(.int q0)] ∧ Z.Warmed39 U.vm ∧ U.heap = h0) (fun _ _ _ _ _ => True) (fun _ U o U' => ∃ v L, o = .returned v ∧ Q1_14 Z  q0 h0 n0 v U'.heap L ∧ FrameEnd U o U' L ({ frames := 0, cells := 1, slots := 2, locals := 0 } : Room).cells ({ frames := 0, cells := 1, slots := 2, locals := 0 } : Room).slots) := by
  refine MetFree.of_bodySF (plainFor_of_name pn292) hisR ?_
  intro p e s m args below meth c s₁ Bd hml0 hP hK
  obtain ⟨rfl, hZ, hh⟩ := hP
  have hx := Bd.exec
  have hby := Bd.bytes
  have hml : c.maxLocals = 4 := hml0
  have hown : s.vm.findClass "com/example/caprice/caprice/solver/DomainsRemovalsRestOnPinLaw" = some m.cls := findClass_of_methodNamed Bd.named
  have hnm := (name_of_methodNamed Bd.named Bd.method).1
  have X0 : Stand p l e ({ frames := 0, cells := 1, slots := 2, locals := 0 } : Room) s m #[(.int q0)] below meth c s₁ [] 0 0 := Stand.of_body Bd
  have e0 : s₁.heap = h0 := by rw [← hh, Bd.state]; rfl
  have N0 := Fr.nil n0
  have pre0 : ∀ t, Steps p.tables e below (s₁.setTop (mkF m 0 #[.val (.int q0), .unset, .unset, .unset] [])) t → Steps p.tables e below (s₁.setTop (entryFrame m #[(.int q0)] 4)) t := fun t k => castTop (ef291 m q0) k
  obtain ⟨T1, h1, k1, X1, e1, E1, A1, B1, st1⟩ := newPE X0 hx hZ (hw _ (List.mem_of_getElem? (i := 5) rfl)) e0 (g := (mkF m 44 #[.val (.int q0), .val (.int ((q0 &&& (255 : Int32)) % (3 : Int32))), .val (.int ((((q0.toUInt32 >>> ((8 : Int32) &&& 31).toUInt32).toInt32) &&& (255 : Int32)) % (3 : Int32))), .val (.int ((((q0.toUInt32 >>> ((16 : Int32) &&& 31).toUInt32).toInt32) &&& (255 : Int32)) % (3 : Int32)))] [(.int (1 : Int32))])) rfl (hb hby d1_44) rfl (by decide) (cap := 1) (by decide) (by decide) (by decide) (by decide) (ad := "[I") (by decide)
  obtain ⟨b1, gg1⟩ : ∃ z, z = h0.size := ⟨_, rfl⟩
  rw [← gg1] at A1 B1 st1
  have bo_b1 : h0.size ≤ b1 := Nat.le_of_eq gg1.symm
  have g_b1 : n0 ≤ b1 := Nat.le_trans (own_n0 O0) bo_b1
  have sz_b1 : h0.size ≤ b1 := Nat.le_trans (Keep.refl h0 []).1 bo_b1
  have V_b1 : Arv Z h1 b1 k1 .int (1 : Int32) [(.int (0 : Int32))] (.int (0 : Int32)) := (Arv.new A1 (by decide)).pad (pad_rep [] (.int (0 : Int32)) 1)
  have lb_b1 : b1 < h1.size := A1.lt
  have KK1 : Keep h0 h1 [] := (Keep.refl h0 []).ext E1
  have O1 := O0.ext E1
  obtain ⟨ac2, aA2, aq2, aS2, aN2, aH2, aG2⟩ := id V_b1
  obtain ⟨T3, h3, X3, e3, W3, st3⟩ := stI X1 hx hZ e1 aA2 (j := (0 : Int32)) (inb_of aS2 ⟨by decide, by decide⟩) (g := (mkF m 49 #[.val (.int q0), .val (.int ((q0 &&& (255 : Int32)) % (3 : Int32))), .val (.int ((((q0.toUInt32 >>> ((8 : Int32) &&& 31).toUInt32).toInt32) &&& (255 : Int32)) % (3 : Int32))), .val (.int ((((q0.toUInt32 >>> ((16 : Int32) &&& 31).toUInt32).toInt32) &&& (255 : Int32)) % (3 : Int32)))] [(.int ((((q0.toUInt32 >>> ((8 : Int32) &&& 31).toUInt32).toInt32) &&& (255 : Int32)) % (3 : Int32))), (.int (0 : Int32)), (.ref b1), (.ref b1)])) rfl rfl (hb hby d1_49)
  have V_b1_3 : Arv Z h3 b1 k1 .int (1 : Int32) [(.int ((((q0.toUInt32 >>> ((8 : Int32) &&& 31).toUInt32).toInt32) &&& (255 : Int32)) % (3 : Int32)))] (.int (0 : Int32)) := Arv.set aA2 aq2 aS2 aN2 aH2 aG2 rfl W3 0 rfl (Nat.le_of_ble_eq_true rfl)
  have N3 := Fr.snoc X3 N0 g_b1
  have O3 := O1.wr W3 g_b1
  have KK3 : Keep h0 h3 [] := KK1.wr W3 (Or.inr sz_b1)
  obtain ⟨fs, hr, hrun, hended, hW, hsame⟩ := X3.leave (v := some (.ref b1)) (fun h => by rw [Bd.returns] at h; cases h)
  refine ⟨_, _, pre0 _ ?_, hrun, hended, _, _, rfl, ?_, ⟨_, rfl⟩, hW, hsame.mono (by decide) (by decide)⟩
  · show Steps p.tables e below (s₁.setTop (mkF m 0 #[.val (.int q0), .unset, .unset, .unset] [])) _
    refine XS.iloadN X0.here hx rfl (hb hby d1_0) rfl ?_
    show Steps p.tables e below (s₁.setTop (mkF m 1 #[.val (.int q0), .unset, .unset, .unset] [(.int q0)])) _
    refine XS.sipush X0.here hx rfl (hb hby d1_1) ?_
    show Steps p.tables e below (s₁.setTop (mkF m 4 #[.val (.int q0), .unset, .unset, .unset] [(.int (255 : Int32)), (.int q0)])) _
    refine XS.iand X0.here hx rfl (hb hby d1_4) rfl ?_
    show Steps p.tables e below (s₁.setTop (mkF m 5 #[.val (.int q0), .unset, .unset, .unset] [(.int (q0 &&& (255 : Int32)))])) _
    refine XS.iconst X0.here hx rfl (hb hby d1_5) ?_
    show Steps p.tables e below (s₁.setTop (mkF m 6 #[.val (.int q0), .unset, .unset, .unset] [(.int (3 : Int32)), (.int (q0 &&& (255 : Int32)))])) _
    refine iremM X0 hx rfl (hb hby d1_6) rfl (by decide) ?_
    show Steps p.tables e below (s₁.setTop (mkF m 7 #[.val (.int q0), .unset, .unset, .unset] [(.int ((q0 &&& (255 : Int32)) % (3 : Int32)))])) _
    refine XS.istoreN X0.here hx rfl (hb hby d1_7) rfl (l' := #[.val (.int q0), .val (.int ((q0 &&& (255 : Int32)) % (3 : Int32))), .unset, .unset]) rfl ?_
    show Steps p.tables e below (s₁.setTop (mkF m 8 #[.val (.int q0), .val (.int ((q0 &&& (255 : Int32)) % (3 : Int32))), .unset, .unset] [])) _
    refine XS.iloadN X0.here hx rfl (hb hby d1_8) rfl ?_
    show Steps p.tables e below (s₁.setTop (mkF m 9 #[.val (.int q0), .val (.int ((q0 &&& (255 : Int32)) % (3 : Int32))), .unset, .unset] [(.int q0)])) _
    refine XS.bipush X0.here hx rfl (hb hby d1_9) ?_
    show Steps p.tables e below (s₁.setTop (mkF m 11 #[.val (.int q0), .val (.int ((q0 &&& (255 : Int32)) % (3 : Int32))), .unset, .unset] [(.int (8 : Int32)), (.int q0)])) _
    refine XS.iushr X0.here hx rfl (hb hby d1_11) rfl ?_
    show Steps p.tables e below (s₁.setTop (mkF m 12 #[.val (.int q0), .val (.int ((q0 &&& (255 : Int32)) % (3 : Int32))), .unset, .unset] [(.int ((q0.toUInt32 >>> ((8 : Int32) &&& 31).toUInt32).toInt32))])) _
    refine XS.sipush X0.here hx rfl (hb hby d1_12) ?_
    show Steps p.tables e below (s₁.setTop (mkF m 15 #[.val (.int q0), .val (.int ((q0 &&& (255 : Int32)) % (3 : Int32))), .unset, .unset] [(.int (255 : Int32)), (.int ((q0.toUInt32 >>> ((8 : Int32) &&& 31).toUInt32).toInt32))])) _
    refine XS.iand X0.here hx rfl (hb hby d1_15) rfl ?_
    show Steps p.tables e below (s₁.setTop (mkF m 16 #[.val (.int q0), .val (.int ((q0 &&& (255 : Int32)) % (3 : Int32))), .unset, .unset] [(.int (((q0.toUInt32 >>> ((8 : Int32) &&& 31).toUInt32).toInt32) &&& (255 : Int32)))])) _
    refine XS.iconst X0.here hx rfl (hb hby d1_16) ?_
    show Steps p.tables e below (s₁.setTop (mkF m 17 #[.val (.int q0), .val (.int ((q0 &&& (255 : Int32)) % (3 : Int32))), .unset, .unset] [(.int (3 : Int32)), (.int (((q0.toUInt32 >>> ((8 : Int32) &&& 31).toUInt32).toInt32) &&& (255 : Int32)))])) _
    refine iremM X0 hx rfl (hb hby d1_17) rfl (by decide) ?_
    show Steps p.tables e below (s₁.setTop (mkF m 18 #[.val (.int q0), .val (.int ((q0 &&& (255 : Int32)) % (3 : Int32))), .unset, .unset] [(.int ((((q0.toUInt32 >>> ((8 : Int32) &&& 31).toUInt32).toInt32) &&& (255 : Int32)) % (3 : Int32)))])) _
    refine XS.istoreN X0.here hx rfl (hb hby d1_18) rfl (l' := #[.val (.int q0), .val (.int ((q0 &&& (255 : Int32)) % (3 : Int32))), .val (.int ((((q0.toUInt32 >>> ((8 : Int32) &&& 31).toUInt32).toInt32) &&& (255 : Int32)) % (3 : Int32))), .unset]) rfl ?_
    show Steps p.tables e below (s₁.setTop (mkF m 19 #[.val (.int q0), .val (.int ((q0 &&& (255 : Int32)) % (3 : Int32))), .val (.int ((((q0.toUInt32 >>> ((8 : Int32) &&& 31).toUInt32).toInt32) &&& (255 : Int32)) % (3 : Int32))), .unset] [])) _
    refine XS.iloadN X0.here hx rfl (hb hby d1_19) rfl ?_
    show Steps p.tables e below (s₁.setTop (mkF m 20 #[.val (.int q0), .val (.int ((q0 &&& (255 : Int32)) % (3 : Int32))), .val (.int ((((q0.toUInt32 >>> ((8 : Int32) &&& 31).toUInt32).toInt32) &&& (255 : Int32)) % (3 : Int32))), .unset] [(.int q0)])) _
    refine XS.bipush X0.here hx rfl (hb hby d1_20) ?_
    show Steps p.tables e below (s₁.setTop (mkF m 22 #[.val (.int q0), .val (.int ((q0 &&& (255 : Int32)) % (3 : Int32))), .val (.int ((((q0.toUInt32 >>> ((8 : Int32) &&& 31).toUInt32).toInt32) &&& (255 : Int32)) % (3 : Int32))), .unset] [(.int (16 : Int32)), (.int q0)])) _
    refine XS.iushr X0.here hx rfl (hb hby d1_22) rfl ?_
    show Steps p.tables e below (s₁.setTop (mkF m 23 #[.val (.int q0), .val (.int ((q0 &&& (255 : Int32)) % (3 : Int32))), .val (.int ((((q0.toUInt32 >>> ((8 : Int32) &&& 31).toUInt32).toInt32) &&& (255 : Int32)) % (3 : Int32))), .unset] [(.int ((q0.toUInt32 >>> ((16 : Int32) &&& 31).toUInt32).toInt32))])) _
    refine XS.sipush X0.here hx rfl (hb hby d1_23) ?_
    show Steps p.tables e below (s₁.setTop (mkF m 26 #[.val (.int q0), .val (.int ((q0 &&& (255 : Int32)) % (3 : Int32))), .val (.int ((((q0.toUInt32 >>> ((8 : Int32) &&& 31).toUInt32).toInt32) &&& (255 : Int32)) % (3 : Int32))), .unset] [(.int (255 : Int32)), (.int ((q0.toUInt32 >>> ((16 : Int32) &&& 31).toUInt32).toInt32))])) _
    refine XS.iand X0.here hx rfl (hb hby d1_26) rfl ?_
    show Steps p.tables e below (s₁.setTop (mkF m 27 #[.val (.int q0), .val (.int ((q0 &&& (255 : Int32)) % (3 : Int32))), .val (.int ((((q0.toUInt32 >>> ((8 : Int32) &&& 31).toUInt32).toInt32) &&& (255 : Int32)) % (3 : Int32))), .unset] [(.int (((q0.toUInt32 >>> ((16 : Int32) &&& 31).toUInt32).toInt32) &&& (255 : Int32)))])) _
    refine XS.iconst X0.here hx rfl (hb hby d1_27) ?_
    show Steps p.tables e below (s₁.setTop (mkF m 28 #[.val (.int q0), .val (.int ((q0 &&& (255 : Int32)) % (3 : Int32))), .val (.int ((((q0.toUInt32 >>> ((8 : Int32) &&& 31).toUInt32).toInt32) &&& (255 : Int32)) % (3 : Int32))), .unset] [(.int (3 : Int32)), (.int (((q0.toUInt32 >>> ((16 : Int32) &&& 31).toUInt32).toInt32) &&& (255 : Int32)))])) _
    refine iremM X0 hx rfl (hb hby d1_28) rfl (by decide) ?_
    show Steps p.tables e below (s₁.setTop (mkF m 29 #[.val (.int q0), .val (.int ((q0 &&& (255 : Int32)) % (3 : Int32))), .val (.int ((((q0.toUInt32 >>> ((8 : Int32) &&& 31).toUInt32).toInt32) &&& (255 : Int32)) % (3 : Int32))), .unset] [(.int ((((q0.toUInt32 >>> ((16 : Int32) &&& 31).toUInt32).toInt32) &&& (255 : Int32)) % (3 : Int32)))])) _
    refine XS.istoreN X0.here hx rfl (hb hby d1_29) rfl (l' := #[.val (.int q0), .val (.int ((q0 &&& (255 : Int32)) % (3 : Int32))), .val (.int ((((q0.toUInt32 >>> ((8 : Int32) &&& 31).toUInt32).toInt32) &&& (255 : Int32)) % (3 : Int32))), .val (.int ((((q0.toUInt32 >>> ((16 : Int32) &&& 31).toUInt32).toInt32) &&& (255 : Int32)) % (3 : Int32)))]) rfl ?_
    show Steps p.tables e below (s₁.setTop (mkF m 30 #[.val (.int q0), .val (.int ((q0 &&& (255 : Int32)) % (3 : Int32))), .val (.int ((((q0.toUInt32 >>> ((8 : Int32) &&& 31).toUInt32).toInt32) &&& (255 : Int32)) % (3 : Int32))), .val (.int ((((q0.toUInt32 >>> ((16 : Int32) &&& 31).toUInt32).toInt32) &&& (255 : Int32)) % (3 : Int32)))] [])) _
    refine XS.iloadN X0.here hx rfl (hb hby d1_30) rfl ?_
    show Steps p.tables e below (s₁.setTop (mkF m 31 #[.val (.int q0), .val (.int ((q0 &&& (255 : Int32)) % (3 : Int32))), .val (.int ((((q0.toUInt32 >>> ((8 : Int32) &&& 31).toUInt32).toInt32) &&& (255 : Int32)) % (3 : Int32))), .val (.int ((((q0.toUInt32 >>> ((16 : Int32) &&& 31).toUInt32).toInt32) &&& (255 : Int32)) % (3 : Int32)))] [(.int ((q0 &&& (255 : Int32)) % (3 : Int32)))])) _
    refine XS.ifYes X0.here hx rfl (pc0 := 31) (pc' := 38) rfl (hb hby d1_31) rfl ((if0 _ _).trans (feq hd0).2) (by decide) (by decide) ?_
    show Steps p.tables e below (s₁.setTop (mkF m 38 #[.val (.int q0), .val (.int ((q0 &&& (255 : Int32)) % (3 : Int32))), .val (.int ((((q0.toUInt32 >>> ((8 : Int32) &&& 31).toUInt32).toInt32) &&& (255 : Int32)) % (3 : Int32))), .val (.int ((((q0.toUInt32 >>> ((16 : Int32) &&& 31).toUInt32).toInt32) &&& (255 : Int32)) % (3 : Int32)))] [])) _
    refine XS.iloadN X0.here hx rfl (hb hby d1_38) rfl ?_
    show Steps p.tables e below (s₁.setTop (mkF m 39 #[.val (.int q0), .val (.int ((q0 &&& (255 : Int32)) % (3 : Int32))), .val (.int ((((q0.toUInt32 >>> ((8 : Int32) &&& 31).toUInt32).toInt32) &&& (255 : Int32)) % (3 : Int32))), .val (.int ((((q0.toUInt32 >>> ((16 : Int32) &&& 31).toUInt32).toInt32) &&& (255 : Int32)) % (3 : Int32)))] [(.int ((q0 &&& (255 : Int32)) % (3 : Int32)))])) _
    refine XS.iconst X0.here hx rfl (hb hby d1_39) ?_
    show Steps p.tables e below (s₁.setTop (mkF m 40 #[.val (.int q0), .val (.int ((q0 &&& (255 : Int32)) % (3 : Int32))), .val (.int ((((q0.toUInt32 >>> ((8 : Int32) &&& 31).toUInt32).toInt32) &&& (255 : Int32)) % (3 : Int32))), .val (.int ((((q0.toUInt32 >>> ((16 : Int32) &&& 31).toUInt32).toInt32) &&& (255 : Int32)) % (3 : Int32)))] [(.int (1 : Int32)), (.int ((q0 &&& (255 : Int32)) % (3 : Int32)))])) _
    refine XS.icmpNo X0.here hx rfl (hb hby d1_40) rfl (teq hd1).2 ?_
    show Steps p.tables e below (s₁.setTop (mkF m 43 #[.val (.int q0), .val (.int ((q0 &&& (255 : Int32)) % (3 : Int32))), .val (.int ((((q0.toUInt32 >>> ((8 : Int32) &&& 31).toUInt32).toInt32) &&& (255 : Int32)) % (3 : Int32))), .val (.int ((((q0.toUInt32 >>> ((16 : Int32) &&& 31).toUInt32).toInt32) &&& (255 : Int32)) % (3 : Int32)))] [])) _
    refine XS.iconst X0.here hx rfl (hb hby d1_43) ?_
    show Steps p.tables e below (s₁.setTop (mkF m 44 #[.val (.int q0), .val (.int ((q0 &&& (255 : Int32)) % (3 : Int32))), .val (.int ((((q0.toUInt32 >>> ((8 : Int32) &&& 31).toUInt32).toInt32) &&& (255 : Int32)) % (3 : Int32))), .val (.int ((((q0.toUInt32 >>> ((16 : Int32) &&& 31).toUInt32).toInt32) &&& (255 : Int32)) % (3 : Int32)))] [(.int (1 : Int32))])) _
    refine st1 _ ?_
    show Steps p.tables e below (T1.setTop (mkF m 46 #[.val (.int q0), .val (.int ((q0 &&& (255 : Int32)) % (3 : Int32))), .val (.int ((((q0.toUInt32 >>> ((8 : Int32) &&& 31).toUInt32).toInt32) &&& (255 : Int32)) % (3 : Int32))), .val (.int ((((q0.toUInt32 >>> ((16 : Int32) &&& 31).toUInt32).toInt32) &&& (255 : Int32)) % (3 : Int32)))] [(.ref b1)])) _
    refine XS.dup X1.here hx rfl (hb hby d1_46) rfl rfl ?_
    show Steps p.tables e below (T1.setTop (mkF m 47 #[.val (.int q0), .val (.int ((q0 &&& (255 : Int32)) % (3 : Int32))), .val (.int ((((q0.toUInt32 >>> ((8 : Int32) &&& 31).toUInt32).toInt32) &&& (255 : Int32)) % (3 : Int32))), .val (.int ((((q0.toUInt32 >>> ((16 : Int32) &&& 31).toUInt32).toInt32) &&& (255 : Int32)) % (3 : Int32)))] [(.ref b1), (.ref b1)])) _
    refine XS.iconst X1.here hx rfl (hb hby d1_47) ?_
    show Steps p.tables e below (T1.setTop (mkF m 48 #[.val (.int q0), .val (.int ((q0 &&& (255 : Int32)) % (3 : Int32))), .val (.int ((((q0.toUInt32 >>> ((8 : Int32) &&& 31).toUInt32).toInt32) &&& (255 : Int32)) % (3 : Int32))), .val (.int ((((q0.toUInt32 >>> ((16 : Int32) &&& 31).toUInt32).toInt32) &&& (255 : Int32)) % (3 : Int32)))] [(.int (0 : Int32)), (.ref b1), (.ref b1)])) _
    refine XS.iloadN X1.here hx rfl (hb hby d1_48) rfl ?_
    show Steps p.tables e below (T1.setTop (mkF m 49 #[.val (.int q0), .val (.int ((q0 &&& (255 : Int32)) % (3 : Int32))), .val (.int ((((q0.toUInt32 >>> ((8 : Int32) &&& 31).toUInt32).toInt32) &&& (255 : Int32)) % (3 : Int32))), .val (.int ((((q0.toUInt32 >>> ((16 : Int32) &&& 31).toUInt32).toInt32) &&& (255 : Int32)) % (3 : Int32)))] [(.int ((((q0.toUInt32 >>> ((8 : Int32) &&& 31).toUInt32).toInt32) &&& (255 : Int32)) % (3 : Int32))), (.int (0 : Int32)), (.ref b1), (.ref b1)])) _
    refine st3 _ ?_
    show Steps p.tables e below (T3.setTop (mkF m 50 #[.val (.int q0), .val (.int ((q0 &&& (255 : Int32)) % (3 : Int32))), .val (.int ((((q0.toUInt32 >>> ((8 : Int32) &&& 31).toUInt32).toInt32) &&& (255 : Int32)) % (3 : Int32))), .val (.int ((((q0.toUInt32 >>> ((16 : Int32) &&& 31).toUInt32).toInt32) &&& (255 : Int32)) % (3 : Int32)))] [(.ref b1)])) _
    jvm_step X3.here [X3.here.top, hx, (hb hby d1_50), X3.method', Bd.returns, Value.isRef, FieldType.isReference]
    first | (intro acts; rw [hr _ acts rfl rfl rfl]) | rw [hr _ _ rfl rfl rfl]
    exact Steps.refl _
  · have eH : (T3.setFrames fs).heap = h3 := e3; rw [eH]; exact ⟨b1, k1, rfl, N3, KK3, O3, sz_b1, V_b1_3, (B1.wr W3), trivial⟩
theorem d1_51 : decode method_3_code 51 = .ok (.iconst 2, 1) := by decide +kernel
theorem d1_52 : decode method_3_code 52 = .ok (.newarray .int, 2) := by decide +kernel
theorem d1_54 : decode method_3_code 54 = .ok (.dup, 1) := by decide +kernel
theorem d1_55 : decode method_3_code 55 = .ok (.iconst 0, 1) := by decide +kernel
theorem d1_56 : decode method_3_code 56 = .ok (.iload_n 2, 1) := by decide +kernel
theorem d1_57 : decode method_3_code 57 = .ok (.iastore, 1) := by decide +kernel
theorem d1_58 : decode method_3_code 58 = .ok (.dup, 1) := by decide +kernel
theorem d1_59 : decode method_3_code 59 = .ok (.iconst 1, 1) := by decide +kernel
theorem d1_60 : decode method_3_code 60 = .ok (.iload_n 3, 1) := by decide +kernel
theorem d1_61 : decode method_3_code 61 = .ok (.iastore, 1) := by decide +kernel
theorem d1_62 : decode method_3_code 62 = .ok (.areturn, 1) := by decide +kernel
def Q1_15 (Z : State) (q0 : Int32) (h0 : Heap) (n0 : Nat) (v : Option Value) (h : Heap) (L : List Loc) : Prop := ∃ b1 : Addr, ∃ kk_b1 : ClassId, v = some (.ref b1) ∧ Fr n0 L ∧ Keep h0 h [] ∧ Old Z n0 h ∧ h0.size ≤ b1 ∧ Arv Z h b1 kk_b1 .int (2 : Int32) [(.int ((((q0.toUInt32 >>> ((8 : Int32) &&& 31).toUInt32).toInt32) &&& (255 : Int32)) % (3 : Int32))), (.int ((((q0.toUInt32 >>> ((16 : Int32) &&& 31).toUInt32).toInt32) &&& (255 : Int32)) % (3 : Int32)))] (.int (0 : Int32)) ∧ Exa Z h b1 "[I" ∧ True
set_option maxRecDepth 65536 in
set_option maxHeartbeats 40000000 in
theorem rm1_15 (l : Launch) (Z : State) (a0 : Array Value) (hw : ∀ d ∈ tables_1, d.before a0 Z = true) (ws : List Jvm.Cond) (q0 : Int32) (h0 : Heap) (n0 : Nat) (Z0 : n0 ≤ h0.size) (O0 : Old Z n0 h0) (hd0 : ¬ (((q0 &&& (255 : Int32)) % (3 : Int32)) = (0 : Int32))) (hd1 : ¬ (((q0 &&& (255 : Int32)) % (3 : Int32)) = (1 : Int32))) :
    MetFree l (⟨"com/example/caprice/caprice/solver/DomainsRemovalsRestOnPinLaw", "reasonsOf", "(I)[I"⟩ : MethodName) (head1 (Jvm.Cond.code (⟨"com/example/caprice/caprice/solver/DomainsRemovalsRestOnPinLaw", "reasonsOf", "(I)[I"⟩ : MethodName) method_3_code 4 (some (.array .int)) :: ws) ({ frames := 0, cells := 1, slots := 2, locals := 0 } : Room)) (fun a U => a = #[(.int q0)] ∧ Z.Warmed39 U.vm ∧ U.heap = h0) (fun _ _ _ _ _ => True) (fun _ U o U' => ∃ v L, o = .returned v ∧ Q1_15 Z  q0 h0 n0 v U'.heap L ∧ FrameEnd U o U' L ({ frames := 0, cells := 1, slots := 2, locals := 0 } : Room).cells ({ frames := 0, cells := 1, slots := 2, locals := 0 } : Room).slots) := by
  refine MetFree.of_bodySF (plainFor_of_name pn292) hisR ?_
  intro p e s m args below meth c s₁ Bd hml0 hP hK
  obtain ⟨rfl, hZ, hh⟩ := hP
  have hx := Bd.exec
  have hby := Bd.bytes
  have hml : c.maxLocals = 4 := hml0
  have hown : s.vm.findClass "com/example/caprice/caprice/solver/DomainsRemovalsRestOnPinLaw" = some m.cls := findClass_of_methodNamed Bd.named
  have hnm := (name_of_methodNamed Bd.named Bd.method).1
  have X0 : Stand p l e ({ frames := 0, cells := 1, slots := 2, locals := 0 } : Room) s m #[(.int q0)] below meth c s₁ [] 0 0 := Stand.of_body Bd
  have e0 : s₁.heap = h0 := by rw [← hh, Bd.state]; rfl
  have N0 := Fr.nil n0
  have pre0 : ∀ t, Steps p.tables e below (s₁.setTop (mkF m 0 #[.val (.int q0), .unset, .unset, .unset] [])) t → Steps p.tables e below (s₁.setTop (entryFrame m #[(.int q0)] 4)) t := fun t k => castTop (ef291 m q0) k
  obtain ⟨T1, h1, k1, X1, e1, E1, A1, B1, st1⟩ := newPE X0 hx hZ (hw _ (List.mem_of_getElem? (i := 5) rfl)) e0 (g := (mkF m 52 #[.val (.int q0), .val (.int ((q0 &&& (255 : Int32)) % (3 : Int32))), .val (.int ((((q0.toUInt32 >>> ((8 : Int32) &&& 31).toUInt32).toInt32) &&& (255 : Int32)) % (3 : Int32))), .val (.int ((((q0.toUInt32 >>> ((16 : Int32) &&& 31).toUInt32).toInt32) &&& (255 : Int32)) % (3 : Int32)))] [(.int (2 : Int32))])) rfl (hb hby d1_52) rfl (by decide) (cap := 2) (by decide) (by decide) (by decide) (by decide) (ad := "[I") (by decide)
  obtain ⟨b1, gg1⟩ : ∃ z, z = h0.size := ⟨_, rfl⟩
  rw [← gg1] at A1 B1 st1
  have bo_b1 : h0.size ≤ b1 := Nat.le_of_eq gg1.symm
  have g_b1 : n0 ≤ b1 := Nat.le_trans (own_n0 O0) bo_b1
  have sz_b1 : h0.size ≤ b1 := Nat.le_trans (Keep.refl h0 []).1 bo_b1
  have V_b1 : Arv Z h1 b1 k1 .int (2 : Int32) [(.int (0 : Int32)), (.int (0 : Int32))] (.int (0 : Int32)) := (Arv.new A1 (by decide)).pad (pad_rep [] (.int (0 : Int32)) 2)
  have lb_b1 : b1 < h1.size := A1.lt
  have KK1 : Keep h0 h1 [] := (Keep.refl h0 []).ext E1
  have O1 := O0.ext E1
  obtain ⟨ac2, aA2, aq2, aS2, aN2, aH2, aG2⟩ := id V_b1
  obtain ⟨T3, h3, X3, e3, W3, st3⟩ := stI X1 hx hZ e1 aA2 (j := (0 : Int32)) (inb_of aS2 ⟨by decide, by decide⟩) (g := (mkF m 57 #[.val (.int q0), .val (.int ((q0 &&& (255 : Int32)) % (3 : Int32))), .val (.int ((((q0.toUInt32 >>> ((8 : Int32) &&& 31).toUInt32).toInt32) &&& (255 : Int32)) % (3 : Int32))), .val (.int ((((q0.toUInt32 >>> ((16 : Int32) &&& 31).toUInt32).toInt32) &&& (255 : Int32)) % (3 : Int32)))] [(.int ((((q0.toUInt32 >>> ((8 : Int32) &&& 31).toUInt32).toInt32) &&& (255 : Int32)) % (3 : Int32))), (.int (0 : Int32)), (.ref b1), (.ref b1)])) rfl rfl (hb hby d1_57)
  have V_b1_3 : Arv Z h3 b1 k1 .int (2 : Int32) [(.int ((((q0.toUInt32 >>> ((8 : Int32) &&& 31).toUInt32).toInt32) &&& (255 : Int32)) % (3 : Int32))), (.int (0 : Int32))] (.int (0 : Int32)) := Arv.set aA2 aq2 aS2 aN2 aH2 aG2 rfl W3 0 rfl (Nat.le_of_ble_eq_true rfl)
  have N3 := Fr.snoc X3 N0 g_b1
  have O3 := O1.wr W3 g_b1
  have KK3 : Keep h0 h3 [] := KK1.wr W3 (Or.inr sz_b1)
  obtain ⟨ac4, aA4, aq4, aS4, aN4, aH4, aG4⟩ := id V_b1_3
  obtain ⟨T5, h5, X5, e5, W5, st5⟩ := stI X3 hx hZ e3 aA4 (j := (1 : Int32)) (inb_of aS4 ⟨by decide, by decide⟩) (g := (mkF m 61 #[.val (.int q0), .val (.int ((q0 &&& (255 : Int32)) % (3 : Int32))), .val (.int ((((q0.toUInt32 >>> ((8 : Int32) &&& 31).toUInt32).toInt32) &&& (255 : Int32)) % (3 : Int32))), .val (.int ((((q0.toUInt32 >>> ((16 : Int32) &&& 31).toUInt32).toInt32) &&& (255 : Int32)) % (3 : Int32)))] [(.int ((((q0.toUInt32 >>> ((16 : Int32) &&& 31).toUInt32).toInt32) &&& (255 : Int32)) % (3 : Int32))), (.int (1 : Int32)), (.ref b1), (.ref b1)])) rfl rfl (hb hby d1_61)
  have V_b1_5 : Arv Z h5 b1 k1 .int (2 : Int32) [(.int ((((q0.toUInt32 >>> ((8 : Int32) &&& 31).toUInt32).toInt32) &&& (255 : Int32)) % (3 : Int32))), (.int ((((q0.toUInt32 >>> ((16 : Int32) &&& 31).toUInt32).toInt32) &&& (255 : Int32)) % (3 : Int32)))] (.int (0 : Int32)) := Arv.set aA4 aq4 aS4 aN4 aH4 aG4 rfl W5 1 rfl (Nat.le_of_ble_eq_true rfl)
  have N5 := Fr.snoc X5 N3 g_b1
  have O5 := O3.wr W5 g_b1
  have KK5 : Keep h0 h5 [] := KK3.wr W5 (Or.inr sz_b1)
  obtain ⟨fs, hr, hrun, hended, hW, hsame⟩ := X5.leave (v := some (.ref b1)) (fun h => by rw [Bd.returns] at h; cases h)
  refine ⟨_, _, pre0 _ ?_, hrun, hended, _, _, rfl, ?_, ⟨_, rfl⟩, hW, hsame.mono (by decide) (by decide)⟩
  · show Steps p.tables e below (s₁.setTop (mkF m 0 #[.val (.int q0), .unset, .unset, .unset] [])) _
    refine XS.iloadN X0.here hx rfl (hb hby d1_0) rfl ?_
    show Steps p.tables e below (s₁.setTop (mkF m 1 #[.val (.int q0), .unset, .unset, .unset] [(.int q0)])) _
    refine XS.sipush X0.here hx rfl (hb hby d1_1) ?_
    show Steps p.tables e below (s₁.setTop (mkF m 4 #[.val (.int q0), .unset, .unset, .unset] [(.int (255 : Int32)), (.int q0)])) _
    refine XS.iand X0.here hx rfl (hb hby d1_4) rfl ?_
    show Steps p.tables e below (s₁.setTop (mkF m 5 #[.val (.int q0), .unset, .unset, .unset] [(.int (q0 &&& (255 : Int32)))])) _
    refine XS.iconst X0.here hx rfl (hb hby d1_5) ?_
    show Steps p.tables e below (s₁.setTop (mkF m 6 #[.val (.int q0), .unset, .unset, .unset] [(.int (3 : Int32)), (.int (q0 &&& (255 : Int32)))])) _
    refine iremM X0 hx rfl (hb hby d1_6) rfl (by decide) ?_
    show Steps p.tables e below (s₁.setTop (mkF m 7 #[.val (.int q0), .unset, .unset, .unset] [(.int ((q0 &&& (255 : Int32)) % (3 : Int32)))])) _
    refine XS.istoreN X0.here hx rfl (hb hby d1_7) rfl (l' := #[.val (.int q0), .val (.int ((q0 &&& (255 : Int32)) % (3 : Int32))), .unset, .unset]) rfl ?_
    show Steps p.tables e below (s₁.setTop (mkF m 8 #[.val (.int q0), .val (.int ((q0 &&& (255 : Int32)) % (3 : Int32))), .unset, .unset] [])) _
    refine XS.iloadN X0.here hx rfl (hb hby d1_8) rfl ?_
    show Steps p.tables e below (s₁.setTop (mkF m 9 #[.val (.int q0), .val (.int ((q0 &&& (255 : Int32)) % (3 : Int32))), .unset, .unset] [(.int q0)])) _
    refine XS.bipush X0.here hx rfl (hb hby d1_9) ?_
    show Steps p.tables e below (s₁.setTop (mkF m 11 #[.val (.int q0), .val (.int ((q0 &&& (255 : Int32)) % (3 : Int32))), .unset, .unset] [(.int (8 : Int32)), (.int q0)])) _
    refine XS.iushr X0.here hx rfl (hb hby d1_11) rfl ?_
    show Steps p.tables e below (s₁.setTop (mkF m 12 #[.val (.int q0), .val (.int ((q0 &&& (255 : Int32)) % (3 : Int32))), .unset, .unset] [(.int ((q0.toUInt32 >>> ((8 : Int32) &&& 31).toUInt32).toInt32))])) _
    refine XS.sipush X0.here hx rfl (hb hby d1_12) ?_
    show Steps p.tables e below (s₁.setTop (mkF m 15 #[.val (.int q0), .val (.int ((q0 &&& (255 : Int32)) % (3 : Int32))), .unset, .unset] [(.int (255 : Int32)), (.int ((q0.toUInt32 >>> ((8 : Int32) &&& 31).toUInt32).toInt32))])) _
    refine XS.iand X0.here hx rfl (hb hby d1_15) rfl ?_
    show Steps p.tables e below (s₁.setTop (mkF m 16 #[.val (.int q0), .val (.int ((q0 &&& (255 : Int32)) % (3 : Int32))), .unset, .unset] [(.int (((q0.toUInt32 >>> ((8 : Int32) &&& 31).toUInt32).toInt32) &&& (255 : Int32)))])) _
    refine XS.iconst X0.here hx rfl (hb hby d1_16) ?_
    show Steps p.tables e below (s₁.setTop (mkF m 17 #[.val (.int q0), .val (.int ((q0 &&& (255 : Int32)) % (3 : Int32))), .unset, .unset] [(.int (3 : Int32)), (.int (((q0.toUInt32 >>> ((8 : Int32) &&& 31).toUInt32).toInt32) &&& (255 : Int32)))])) _
    refine iremM X0 hx rfl (hb hby d1_17) rfl (by decide) ?_
    show Steps p.tables e below (s₁.setTop (mkF m 18 #[.val (.int q0), .val (.int ((q0 &&& (255 : Int32)) % (3 : Int32))), .unset, .unset] [(.int ((((q0.toUInt32 >>> ((8 : Int32) &&& 31).toUInt32).toInt32) &&& (255 : Int32)) % (3 : Int32)))])) _
    refine XS.istoreN X0.here hx rfl (hb hby d1_18) rfl (l' := #[.val (.int q0), .val (.int ((q0 &&& (255 : Int32)) % (3 : Int32))), .val (.int ((((q0.toUInt32 >>> ((8 : Int32) &&& 31).toUInt32).toInt32) &&& (255 : Int32)) % (3 : Int32))), .unset]) rfl ?_
    show Steps p.tables e below (s₁.setTop (mkF m 19 #[.val (.int q0), .val (.int ((q0 &&& (255 : Int32)) % (3 : Int32))), .val (.int ((((q0.toUInt32 >>> ((8 : Int32) &&& 31).toUInt32).toInt32) &&& (255 : Int32)) % (3 : Int32))), .unset] [])) _
    refine XS.iloadN X0.here hx rfl (hb hby d1_19) rfl ?_
    show Steps p.tables e below (s₁.setTop (mkF m 20 #[.val (.int q0), .val (.int ((q0 &&& (255 : Int32)) % (3 : Int32))), .val (.int ((((q0.toUInt32 >>> ((8 : Int32) &&& 31).toUInt32).toInt32) &&& (255 : Int32)) % (3 : Int32))), .unset] [(.int q0)])) _
    refine XS.bipush X0.here hx rfl (hb hby d1_20) ?_
    show Steps p.tables e below (s₁.setTop (mkF m 22 #[.val (.int q0), .val (.int ((q0 &&& (255 : Int32)) % (3 : Int32))), .val (.int ((((q0.toUInt32 >>> ((8 : Int32) &&& 31).toUInt32).toInt32) &&& (255 : Int32)) % (3 : Int32))), .unset] [(.int (16 : Int32)), (.int q0)])) _
    refine XS.iushr X0.here hx rfl (hb hby d1_22) rfl ?_
    show Steps p.tables e below (s₁.setTop (mkF m 23 #[.val (.int q0), .val (.int ((q0 &&& (255 : Int32)) % (3 : Int32))), .val (.int ((((q0.toUInt32 >>> ((8 : Int32) &&& 31).toUInt32).toInt32) &&& (255 : Int32)) % (3 : Int32))), .unset] [(.int ((q0.toUInt32 >>> ((16 : Int32) &&& 31).toUInt32).toInt32))])) _
    refine XS.sipush X0.here hx rfl (hb hby d1_23) ?_
    show Steps p.tables e below (s₁.setTop (mkF m 26 #[.val (.int q0), .val (.int ((q0 &&& (255 : Int32)) % (3 : Int32))), .val (.int ((((q0.toUInt32 >>> ((8 : Int32) &&& 31).toUInt32).toInt32) &&& (255 : Int32)) % (3 : Int32))), .unset] [(.int (255 : Int32)), (.int ((q0.toUInt32 >>> ((16 : Int32) &&& 31).toUInt32).toInt32))])) _
    refine XS.iand X0.here hx rfl (hb hby d1_26) rfl ?_
    show Steps p.tables e below (s₁.setTop (mkF m 27 #[.val (.int q0), .val (.int ((q0 &&& (255 : Int32)) % (3 : Int32))), .val (.int ((((q0.toUInt32 >>> ((8 : Int32) &&& 31).toUInt32).toInt32) &&& (255 : Int32)) % (3 : Int32))), .unset] [(.int (((q0.toUInt32 >>> ((16 : Int32) &&& 31).toUInt32).toInt32) &&& (255 : Int32)))])) _
    refine XS.iconst X0.here hx rfl (hb hby d1_27) ?_
    show Steps p.tables e below (s₁.setTop (mkF m 28 #[.val (.int q0), .val (.int ((q0 &&& (255 : Int32)) % (3 : Int32))), .val (.int ((((q0.toUInt32 >>> ((8 : Int32) &&& 31).toUInt32).toInt32) &&& (255 : Int32)) % (3 : Int32))), .unset] [(.int (3 : Int32)), (.int (((q0.toUInt32 >>> ((16 : Int32) &&& 31).toUInt32).toInt32) &&& (255 : Int32)))])) _
    refine iremM X0 hx rfl (hb hby d1_28) rfl (by decide) ?_
    show Steps p.tables e below (s₁.setTop (mkF m 29 #[.val (.int q0), .val (.int ((q0 &&& (255 : Int32)) % (3 : Int32))), .val (.int ((((q0.toUInt32 >>> ((8 : Int32) &&& 31).toUInt32).toInt32) &&& (255 : Int32)) % (3 : Int32))), .unset] [(.int ((((q0.toUInt32 >>> ((16 : Int32) &&& 31).toUInt32).toInt32) &&& (255 : Int32)) % (3 : Int32)))])) _
    refine XS.istoreN X0.here hx rfl (hb hby d1_29) rfl (l' := #[.val (.int q0), .val (.int ((q0 &&& (255 : Int32)) % (3 : Int32))), .val (.int ((((q0.toUInt32 >>> ((8 : Int32) &&& 31).toUInt32).toInt32) &&& (255 : Int32)) % (3 : Int32))), .val (.int ((((q0.toUInt32 >>> ((16 : Int32) &&& 31).toUInt32).toInt32) &&& (255 : Int32)) % (3 : Int32)))]) rfl ?_
    show Steps p.tables e below (s₁.setTop (mkF m 30 #[.val (.int q0), .val (.int ((q0 &&& (255 : Int32)) % (3 : Int32))), .val (.int ((((q0.toUInt32 >>> ((8 : Int32) &&& 31).toUInt32).toInt32) &&& (255 : Int32)) % (3 : Int32))), .val (.int ((((q0.toUInt32 >>> ((16 : Int32) &&& 31).toUInt32).toInt32) &&& (255 : Int32)) % (3 : Int32)))] [])) _
    refine XS.iloadN X0.here hx rfl (hb hby d1_30) rfl ?_
    show Steps p.tables e below (s₁.setTop (mkF m 31 #[.val (.int q0), .val (.int ((q0 &&& (255 : Int32)) % (3 : Int32))), .val (.int ((((q0.toUInt32 >>> ((8 : Int32) &&& 31).toUInt32).toInt32) &&& (255 : Int32)) % (3 : Int32))), .val (.int ((((q0.toUInt32 >>> ((16 : Int32) &&& 31).toUInt32).toInt32) &&& (255 : Int32)) % (3 : Int32)))] [(.int ((q0 &&& (255 : Int32)) % (3 : Int32)))])) _
    refine XS.ifYes X0.here hx rfl (pc0 := 31) (pc' := 38) rfl (hb hby d1_31) rfl ((if0 _ _).trans (feq hd0).2) (by decide) (by decide) ?_
    show Steps p.tables e below (s₁.setTop (mkF m 38 #[.val (.int q0), .val (.int ((q0 &&& (255 : Int32)) % (3 : Int32))), .val (.int ((((q0.toUInt32 >>> ((8 : Int32) &&& 31).toUInt32).toInt32) &&& (255 : Int32)) % (3 : Int32))), .val (.int ((((q0.toUInt32 >>> ((16 : Int32) &&& 31).toUInt32).toInt32) &&& (255 : Int32)) % (3 : Int32)))] [])) _
    refine XS.iloadN X0.here hx rfl (hb hby d1_38) rfl ?_
    show Steps p.tables e below (s₁.setTop (mkF m 39 #[.val (.int q0), .val (.int ((q0 &&& (255 : Int32)) % (3 : Int32))), .val (.int ((((q0.toUInt32 >>> ((8 : Int32) &&& 31).toUInt32).toInt32) &&& (255 : Int32)) % (3 : Int32))), .val (.int ((((q0.toUInt32 >>> ((16 : Int32) &&& 31).toUInt32).toInt32) &&& (255 : Int32)) % (3 : Int32)))] [(.int ((q0 &&& (255 : Int32)) % (3 : Int32)))])) _
    refine XS.iconst X0.here hx rfl (hb hby d1_39) ?_
    show Steps p.tables e below (s₁.setTop (mkF m 40 #[.val (.int q0), .val (.int ((q0 &&& (255 : Int32)) % (3 : Int32))), .val (.int ((((q0.toUInt32 >>> ((8 : Int32) &&& 31).toUInt32).toInt32) &&& (255 : Int32)) % (3 : Int32))), .val (.int ((((q0.toUInt32 >>> ((16 : Int32) &&& 31).toUInt32).toInt32) &&& (255 : Int32)) % (3 : Int32)))] [(.int (1 : Int32)), (.int ((q0 &&& (255 : Int32)) % (3 : Int32)))])) _
    refine XS.icmpYes X0.here hx rfl (pc0 := 40) (pc' := 51) rfl (hb hby d1_40) rfl (feq hd1).2 (by decide) (by decide) ?_
    show Steps p.tables e below (s₁.setTop (mkF m 51 #[.val (.int q0), .val (.int ((q0 &&& (255 : Int32)) % (3 : Int32))), .val (.int ((((q0.toUInt32 >>> ((8 : Int32) &&& 31).toUInt32).toInt32) &&& (255 : Int32)) % (3 : Int32))), .val (.int ((((q0.toUInt32 >>> ((16 : Int32) &&& 31).toUInt32).toInt32) &&& (255 : Int32)) % (3 : Int32)))] [])) _
    refine XS.iconst X0.here hx rfl (hb hby d1_51) ?_
    show Steps p.tables e below (s₁.setTop (mkF m 52 #[.val (.int q0), .val (.int ((q0 &&& (255 : Int32)) % (3 : Int32))), .val (.int ((((q0.toUInt32 >>> ((8 : Int32) &&& 31).toUInt32).toInt32) &&& (255 : Int32)) % (3 : Int32))), .val (.int ((((q0.toUInt32 >>> ((16 : Int32) &&& 31).toUInt32).toInt32) &&& (255 : Int32)) % (3 : Int32)))] [(.int (2 : Int32))])) _
    refine st1 _ ?_
    show Steps p.tables e below (T1.setTop (mkF m 54 #[.val (.int q0), .val (.int ((q0 &&& (255 : Int32)) % (3 : Int32))), .val (.int ((((q0.toUInt32 >>> ((8 : Int32) &&& 31).toUInt32).toInt32) &&& (255 : Int32)) % (3 : Int32))), .val (.int ((((q0.toUInt32 >>> ((16 : Int32) &&& 31).toUInt32).toInt32) &&& (255 : Int32)) % (3 : Int32)))] [(.ref b1)])) _
    refine XS.dup X1.here hx rfl (hb hby d1_54) rfl rfl ?_
    show Steps p.tables e below (T1.setTop (mkF m 55 #[.val (.int q0), .val (.int ((q0 &&& (255 : Int32)) % (3 : Int32))), .val (.int ((((q0.toUInt32 >>> ((8 : Int32) &&& 31).toUInt32).toInt32) &&& (255 : Int32)) % (3 : Int32))), .val (.int ((((q0.toUInt32 >>> ((16 : Int32) &&& 31).toUInt32).toInt32) &&& (255 : Int32)) % (3 : Int32)))] [(.ref b1), (.ref b1)])) _
    refine XS.iconst X1.here hx rfl (hb hby d1_55) ?_
    show Steps p.tables e below (T1.setTop (mkF m 56 #[.val (.int q0), .val (.int ((q0 &&& (255 : Int32)) % (3 : Int32))), .val (.int ((((q0.toUInt32 >>> ((8 : Int32) &&& 31).toUInt32).toInt32) &&& (255 : Int32)) % (3 : Int32))), .val (.int ((((q0.toUInt32 >>> ((16 : Int32) &&& 31).toUInt32).toInt32) &&& (255 : Int32)) % (3 : Int32)))] [(.int (0 : Int32)), (.ref b1), (.ref b1)])) _
    refine XS.iloadN X1.here hx rfl (hb hby d1_56) rfl ?_
    show Steps p.tables e below (T1.setTop (mkF m 57 #[.val (.int q0), .val (.int ((q0 &&& (255 : Int32)) % (3 : Int32))), .val (.int ((((q0.toUInt32 >>> ((8 : Int32) &&& 31).toUInt32).toInt32) &&& (255 : Int32)) % (3 : Int32))), .val (.int ((((q0.toUInt32 >>> ((16 : Int32) &&& 31).toUInt32).toInt32) &&& (255 : Int32)) % (3 : Int32)))] [(.int ((((q0.toUInt32 >>> ((8 : Int32) &&& 31).toUInt32).toInt32) &&& (255 : Int32)) % (3 : Int32))), (.int (0 : Int32)), (.ref b1), (.ref b1)])) _
    refine st3 _ ?_
    show Steps p.tables e below (T3.setTop (mkF m 58 #[.val (.int q0), .val (.int ((q0 &&& (255 : Int32)) % (3 : Int32))), .val (.int ((((q0.toUInt32 >>> ((8 : Int32) &&& 31).toUInt32).toInt32) &&& (255 : Int32)) % (3 : Int32))), .val (.int ((((q0.toUInt32 >>> ((16 : Int32) &&& 31).toUInt32).toInt32) &&& (255 : Int32)) % (3 : Int32)))] [(.ref b1)])) _
    refine XS.dup X3.here hx rfl (hb hby d1_58) rfl rfl ?_
    show Steps p.tables e below (T3.setTop (mkF m 59 #[.val (.int q0), .val (.int ((q0 &&& (255 : Int32)) % (3 : Int32))), .val (.int ((((q0.toUInt32 >>> ((8 : Int32) &&& 31).toUInt32).toInt32) &&& (255 : Int32)) % (3 : Int32))), .val (.int ((((q0.toUInt32 >>> ((16 : Int32) &&& 31).toUInt32).toInt32) &&& (255 : Int32)) % (3 : Int32)))] [(.ref b1), (.ref b1)])) _
    refine XS.iconst X3.here hx rfl (hb hby d1_59) ?_
    show Steps p.tables e below (T3.setTop (mkF m 60 #[.val (.int q0), .val (.int ((q0 &&& (255 : Int32)) % (3 : Int32))), .val (.int ((((q0.toUInt32 >>> ((8 : Int32) &&& 31).toUInt32).toInt32) &&& (255 : Int32)) % (3 : Int32))), .val (.int ((((q0.toUInt32 >>> ((16 : Int32) &&& 31).toUInt32).toInt32) &&& (255 : Int32)) % (3 : Int32)))] [(.int (1 : Int32)), (.ref b1), (.ref b1)])) _
    refine XS.iloadN X3.here hx rfl (hb hby d1_60) rfl ?_
    show Steps p.tables e below (T3.setTop (mkF m 61 #[.val (.int q0), .val (.int ((q0 &&& (255 : Int32)) % (3 : Int32))), .val (.int ((((q0.toUInt32 >>> ((8 : Int32) &&& 31).toUInt32).toInt32) &&& (255 : Int32)) % (3 : Int32))), .val (.int ((((q0.toUInt32 >>> ((16 : Int32) &&& 31).toUInt32).toInt32) &&& (255 : Int32)) % (3 : Int32)))] [(.int ((((q0.toUInt32 >>> ((16 : Int32) &&& 31).toUInt32).toInt32) &&& (255 : Int32)) % (3 : Int32))), (.int (1 : Int32)), (.ref b1), (.ref b1)])) _
    refine st5 _ ?_
    show Steps p.tables e below (T5.setTop (mkF m 62 #[.val (.int q0), .val (.int ((q0 &&& (255 : Int32)) % (3 : Int32))), .val (.int ((((q0.toUInt32 >>> ((8 : Int32) &&& 31).toUInt32).toInt32) &&& (255 : Int32)) % (3 : Int32))), .val (.int ((((q0.toUInt32 >>> ((16 : Int32) &&& 31).toUInt32).toInt32) &&& (255 : Int32)) % (3 : Int32)))] [(.ref b1)])) _
    jvm_step X5.here [X5.here.top, hx, (hb hby d1_62), X5.method', Bd.returns, Value.isRef, FieldType.isReference]
    first | (intro acts; rw [hr _ acts rfl rfl rfl]) | rw [hr _ _ rfl rfl rfl]
    exact Steps.refl _
  · have eH : (T5.setFrames fs).heap = h5 := e5; rw [eH]; exact ⟨b1, k1, rfl, N5, KK5, O5, sz_b1, V_b1_5, ((B1.wr W3).wr W5), trivial⟩
theorem d7_0 : decode method_4_code 0 = .ok (.aload_n 0, 1) := by decide +kernel
theorem d7_1 : decode method_4_code 1 = .ok (.arraylength, 1) := by decide +kernel
theorem d7_2 : decode method_4_code 2 = .ok (.iconst 1, 1) := by decide +kernel
theorem d7_3 : decode method_4_code 3 = .ok (.if_icmp .lt 10, 3) := by decide +kernel
theorem d7_13 : decode method_4_code 13 = .ok (.aload_n 0, 1) := by decide +kernel
theorem d7_14 : decode method_4_code 14 = .ok (.arraylength, 1) := by decide +kernel
theorem d7_15 : decode method_4_code 15 = .ok (.iconst 2, 1) := by decide +kernel
theorem d7_16 : decode method_4_code 16 = .ok (.if_icmp .lt 14, 3) := by decide +kernel
theorem d7_30 : decode method_4_code 30 = .ok (.iconst 0, 1) := by decide +kernel
theorem d7_31 : decode method_4_code 31 = .ok (.ireturn, 1) := by decide +kernel
theorem ef327 (m : MethodId) (x0 : Addr) (x1 : Int32) : entryFrame m #[(.ref x0), (.int x1)] 2 = mkF m 0 #[.val (.ref x0), .val (.int x1)] [] := by first | (simp [entryFrame, mkF, argsToLocals, Value.category]; done) | rfl
def Q7_16 (Z : State) (ob0 : Addr) (q0 : Int32) (k_ob0 : ClassId) (h0 : Heap) (n0 : Nat) (v : Option Value) (h : Heap) (L : List Loc) : Prop := v = some (.int (0 : Int32)) ∧ Fr n0 L ∧ h = h0
set_option maxRecDepth 65536 in
set_option maxHeartbeats 40000000 in
theorem rm7_16 (l : Launch) (Z : State) (a0 : Array Value) (hw : ∀ d ∈ tables_1, d.before a0 Z = true) (ws : List Jvm.Cond) (ob0 : Addr) (q0 : Int32) (k_ob0 : ClassId) (h0 : Heap) (n0 : Nat) (Z0 : n0 ≤ h0.size) (O0 : Old Z n0 h0) (PV_ob0 : Arv Z h0 ob0 k_ob0 .int (0 : Int32) [] (.int (0 : Int32))) :
    MetFree l (⟨"com/example/caprice/caprice/solver/DomainsRemovalsRestOnPinLaw", "holds", "([II)Z"⟩ : MethodName) (head1 (Jvm.Cond.code (⟨"com/example/caprice/caprice/solver/DomainsRemovalsRestOnPinLaw", "holds", "([II)Z"⟩ : MethodName) method_4_code 2 (some .boolean) :: ws) ({ frames := 0, cells := 0, slots := 0, locals := 0 } : Room)) (fun a U => a = #[(.ref ob0), (.int q0)] ∧ Z.Warmed39 U.vm ∧ U.heap = h0) (fun _ _ _ _ _ => True) (fun _ U o U' => ∃ v L, o = .returned v ∧ Q7_16 Z  ob0 q0 k_ob0 h0 n0 v U'.heap L ∧ FrameEnd U o U' L ({ frames := 0, cells := 0, slots := 0, locals := 0 } : Room).cells ({ frames := 0, cells := 0, slots := 0, locals := 0 } : Room).slots) := by
  refine MetFree.of_bodySF (plainFor_of_name pn292) hisR ?_
  intro p e s m args below meth c s₁ Bd hml0 hP hK
  obtain ⟨rfl, hZ, hh⟩ := hP
  have hx := Bd.exec
  have hby := Bd.bytes
  have hml : c.maxLocals = 2 := hml0
  have hown : s.vm.findClass "com/example/caprice/caprice/solver/DomainsRemovalsRestOnPinLaw" = some m.cls := findClass_of_methodNamed Bd.named
  have hnm := (name_of_methodNamed Bd.named Bd.method).1
  have X0 : Stand p l e ({ frames := 0, cells := 0, slots := 0, locals := 0 } : Room) s m #[(.ref ob0), (.int q0)] below meth c s₁ [] 0 0 := Stand.of_body Bd
  have e0 : s₁.heap = h0 := by rw [← hh, Bd.state]; rfl
  have N0 := Fr.nil n0
  have pre0 : ∀ t, Steps p.tables e below (s₁.setTop (mkF m 0 #[.val (.ref ob0), .val (.int q0)] [])) t → Steps p.tables e below (s₁.setTop (entryFrame m #[(.ref ob0), (.int q0)] 2)) t := fun t k => castTop (ef327 m ob0 q0) k
  obtain ⟨ac1, aA1, aq1, aS1, aN1, aH1, aG1⟩ := id PV_ob0
  obtain ⟨ac2, aA2, aq2, aS2, aN2, aH2, aG2⟩ := id PV_ob0
  obtain ⟨fs, hr, hrun, hended, hW, hsame⟩ := X0.leave (v := some (.int (0 : Int32))) (fun h => by rw [Bd.returns] at h; cases h)
  refine ⟨_, _, pre0 _ ?_, hrun, hended, _, _, rfl, ?_, ⟨_, rfl⟩, hW, hsame.mono (by decide) (by decide)⟩
  · show Steps p.tables e below (s₁.setTop (mkF m 0 #[.val (.ref ob0), .val (.int q0)] [])) _
    refine XS.aloadN X0.here hx rfl (hb hby d7_0) rfl rfl ?_
    show Steps p.tables e below (s₁.setTop (mkF m 1 #[.val (.ref ob0), .val (.int q0)] [(.ref ob0)])) _
    refine X0.arraylength hx (by rw [e0]; exact aA1.1) (State.isArrayOf_alike hZ.alike aA1.2.1) (g := (mkF m 1 #[.val (.ref ob0), .val (.int q0)] [(.ref ob0)])) rfl rfl (hb hby d7_1) _ ?_
    rw [len_of aS1 aN1]
    show Steps p.tables e below (s₁.setTop (mkF m 2 #[.val (.ref ob0), .val (.int q0)] [(.int (0 : Int32))])) _
    refine XS.iconst X0.here hx rfl (hb hby d7_2) ?_
    show Steps p.tables e below (s₁.setTop (mkF m 3 #[.val (.ref ob0), .val (.int q0)] [(.int (1 : Int32)), (.int (0 : Int32))])) _
    refine XS.icmpYes X0.here hx rfl (pc0 := 3) (pc' := 13) rfl (hb hby d7_3) rfl (tlt (by decide : (0 : Int32) < (1 : Int32))).1 (by decide) (by decide) ?_
    show Steps p.tables e below (s₁.setTop (mkF m 13 #[.val (.ref ob0), .val (.int q0)] [])) _
    refine XS.aloadN X0.here hx rfl (hb hby d7_13) rfl rfl ?_
    show Steps p.tables e below (s₁.setTop (mkF m 14 #[.val (.ref ob0), .val (.int q0)] [(.ref ob0)])) _
    refine X0.arraylength hx (by rw [e0]; exact aA2.1) (State.isArrayOf_alike hZ.alike aA2.2.1) (g := (mkF m 14 #[.val (.ref ob0), .val (.int q0)] [(.ref ob0)])) rfl rfl (hb hby d7_14) _ ?_
    rw [len_of aS2 aN2]
    show Steps p.tables e below (s₁.setTop (mkF m 15 #[.val (.ref ob0), .val (.int q0)] [(.int (0 : Int32))])) _
    refine XS.iconst X0.here hx rfl (hb hby d7_15) ?_
    show Steps p.tables e below (s₁.setTop (mkF m 16 #[.val (.ref ob0), .val (.int q0)] [(.int (2 : Int32)), (.int (0 : Int32))])) _
    refine XS.icmpYes X0.here hx rfl (pc0 := 16) (pc' := 30) rfl (hb hby d7_16) rfl (tlt (by decide : (0 : Int32) < (2 : Int32))).1 (by decide) (by decide) ?_
    show Steps p.tables e below (s₁.setTop (mkF m 30 #[.val (.ref ob0), .val (.int q0)] [])) _
    refine XS.iconst X0.here hx rfl (hb hby d7_30) ?_
    show Steps p.tables e below (s₁.setTop (mkF m 31 #[.val (.ref ob0), .val (.int q0)] [(.int (0 : Int32))])) _
    exact retN X0 hx (t := .boolean) Bd.returns (by simp) (hb hby d7_31) hr
  · exact ⟨rfl, N0, e0⟩
theorem d7_6 : decode method_4_code 6 = .ok (.aload_n 0, 1) := by decide +kernel
theorem d7_7 : decode method_4_code 7 = .ok (.iconst 0, 1) := by decide +kernel
theorem d7_8 : decode method_4_code 8 = .ok (.iaload, 1) := by decide +kernel
theorem d7_9 : decode method_4_code 9 = .ok (.iload_n 1, 1) := by decide +kernel
theorem d7_10 : decode method_4_code 10 = .ok (.if_icmp .eq 16, 3) := by decide +kernel
theorem d7_26 : decode method_4_code 26 = .ok (.iconst 1, 1) := by decide +kernel
theorem d7_27 : decode method_4_code 27 = .ok (.goto 4, 3) := by decide +kernel
def Q7_17 (Z : State) (ob0 : Addr) (q0 : Int32) (k_ob0 : ClassId) (q1 : Int32) (h0 : Heap) (n0 : Nat) (v : Option Value) (h : Heap) (L : List Loc) : Prop := v = some (.int (1 : Int32)) ∧ Fr n0 L ∧ h = h0
set_option maxRecDepth 65536 in
set_option maxHeartbeats 40000000 in
theorem rm7_17 (l : Launch) (Z : State) (a0 : Array Value) (hw : ∀ d ∈ tables_1, d.before a0 Z = true) (ws : List Jvm.Cond) (ob0 : Addr) (q0 : Int32) (k_ob0 : ClassId) (q1 : Int32) (h0 : Heap) (n0 : Nat) (Z0 : n0 ≤ h0.size) (O0 : Old Z n0 h0) (PV_ob0 : Arv Z h0 ob0 k_ob0 .int (1 : Int32) [(.int q1)] (.int (0 : Int32))) (hd0 : q1 = q0) :
    MetFree l (⟨"com/example/caprice/caprice/solver/DomainsRemovalsRestOnPinLaw", "holds", "([II)Z"⟩ : MethodName) (head1 (Jvm.Cond.code (⟨"com/example/caprice/caprice/solver/DomainsRemovalsRestOnPinLaw", "holds", "([II)Z"⟩ : MethodName) method_4_code 2 (some .boolean) :: ws) ({ frames := 0, cells := 0, slots := 0, locals := 0 } : Room)) (fun a U => a = #[(.ref ob0), (.int q0)] ∧ Z.Warmed39 U.vm ∧ U.heap = h0) (fun _ _ _ _ _ => True) (fun _ U o U' => ∃ v L, o = .returned v ∧ Q7_17 Z  ob0 q0 k_ob0 q1 h0 n0 v U'.heap L ∧ FrameEnd U o U' L ({ frames := 0, cells := 0, slots := 0, locals := 0 } : Room).cells ({ frames := 0, cells := 0, slots := 0, locals := 0 } : Room).slots) := by
  refine MetFree.of_bodySF (plainFor_of_name pn292) hisR ?_
  intro p e s m args below meth c s₁ Bd hml0 hP hK
  obtain ⟨rfl, hZ, hh⟩ := hP
  have hx := Bd.exec
  have hby := Bd.bytes
  have hml : c.maxLocals = 2 := hml0
  have hown : s.vm.findClass "com/example/caprice/caprice/solver/DomainsRemovalsRestOnPinLaw" = some m.cls := findClass_of_methodNamed Bd.named
  have hnm := (name_of_methodNamed Bd.named Bd.method).1
  have X0 : Stand p l e ({ frames := 0, cells := 0, slots := 0, locals := 0 } : Room) s m #[(.ref ob0), (.int q0)] below meth c s₁ [] 0 0 := Stand.of_body Bd
  have e0 : s₁.heap = h0 := by rw [← hh, Bd.state]; rfl
  have N0 := Fr.nil n0
  have pre0 : ∀ t, Steps p.tables e below (s₁.setTop (mkF m 0 #[.val (.ref ob0), .val (.int q0)] [])) t → Steps p.tables e below (s₁.setTop (entryFrame m #[(.ref ob0), (.int q0)] 2)) t := fun t k => castTop (ef327 m ob0 q0) k
  obtain ⟨ac1, aA1, aq1, aS1, aN1, aH1, aG1⟩ := id PV_ob0
  obtain ⟨ac2, aA2, aq2, aS2, aN2, aH2, aG2⟩ := id PV_ob0
  obtain ⟨fs, hr, hrun, hended, hW, hsame⟩ := X0.leave (v := some (.int (1 : Int32))) (fun h => by rw [Bd.returns] at h; cases h)
  refine ⟨_, _, pre0 _ ?_, hrun, hended, _, _, rfl, ?_, ⟨_, rfl⟩, hW, hsame.mono (by decide) (by decide)⟩
  · show Steps p.tables e below (s₁.setTop (mkF m 0 #[.val (.ref ob0), .val (.int q0)] [])) _
    refine XS.aloadN X0.here hx rfl (hb hby d7_0) rfl rfl ?_
    show Steps p.tables e below (s₁.setTop (mkF m 1 #[.val (.ref ob0), .val (.int q0)] [(.ref ob0)])) _
    refine X0.arraylength hx (by rw [e0]; exact aA1.1) (State.isArrayOf_alike hZ.alike aA1.2.1) (g := (mkF m 1 #[.val (.ref ob0), .val (.int q0)] [(.ref ob0)])) rfl rfl (hb hby d7_1) _ ?_
    rw [len_of aS1 aN1]
    show Steps p.tables e below (s₁.setTop (mkF m 2 #[.val (.ref ob0), .val (.int q0)] [(.int (1 : Int32))])) _
    refine XS.iconst X0.here hx rfl (hb hby d7_2) ?_
    show Steps p.tables e below (s₁.setTop (mkF m 3 #[.val (.ref ob0), .val (.int q0)] [(.int (1 : Int32)), (.int (1 : Int32))])) _
    refine XS.icmpNo X0.here hx rfl (hb hby d7_3) rfl (flt (by decide : ¬ ((1 : Int32) < (1 : Int32)))).1 ?_
    show Steps p.tables e below (s₁.setTop (mkF m 6 #[.val (.ref ob0), .val (.int q0)] [])) _
    refine XS.aloadN X0.here hx rfl (hb hby d7_6) rfl rfl ?_
    show Steps p.tables e below (s₁.setTop (mkF m 7 #[.val (.ref ob0), .val (.int q0)] [(.ref ob0)])) _
    refine XS.iconst X0.here hx rfl (hb hby d7_7) ?_
    show Steps p.tables e below (s₁.setTop (mkF m 8 #[.val (.ref ob0), .val (.int q0)] [(.int (0 : Int32)), (.ref ob0)])) _
    refine X0.iaload hx (j := (0 : Int32)) (v := (.int q1)) (by rw [e0]; exact aA2.1) (State.isArrayOf_alike hZ.alike aA2.2.1) aA2.2.2 (inb_of aS2 ⟨by decide, by decide⟩) (aH2.at (inb_of aS2 ⟨by decide, by decide⟩) rfl) (g := (mkF m 8 #[.val (.ref ob0), .val (.int q0)] [(.int (0 : Int32)), (.ref ob0)])) rfl rfl (hb hby d7_8) _ ?_
    show Steps p.tables e below (s₁.setTop (mkF m 9 #[.val (.ref ob0), .val (.int q0)] [(.int q1)])) _
    refine XS.iloadN X0.here hx rfl (hb hby d7_9) rfl ?_
    show Steps p.tables e below (s₁.setTop (mkF m 10 #[.val (.ref ob0), .val (.int q0)] [(.int q0), (.int q1)])) _
    refine XS.icmpYes X0.here hx rfl (pc0 := 10) (pc' := 26) rfl (hb hby d7_10) rfl (teq hd0).1 (by decide) (by decide) ?_
    show Steps p.tables e below (s₁.setTop (mkF m 26 #[.val (.ref ob0), .val (.int q0)] [])) _
    refine XS.iconst X0.here hx rfl (hb hby d7_26) ?_
    show Steps p.tables e below (s₁.setTop (mkF m 27 #[.val (.ref ob0), .val (.int q0)] [(.int (1 : Int32))])) _
    refine XS.goto X0.here hx rfl (pc0 := 27) (pc' := 31) rfl (hb hby d7_27) (by decide) (by decide) ?_
    show Steps p.tables e below (s₁.setTop (mkF m 31 #[.val (.ref ob0), .val (.int q0)] [(.int (1 : Int32))])) _
    exact retN X0 hx (t := .boolean) Bd.returns (by simp) (hb hby d7_31) hr
  · exact ⟨rfl, N0, e0⟩
def Q7_18 (Z : State) (ob0 : Addr) (q0 : Int32) (k_ob0 : ClassId) (q1 : Int32) (h0 : Heap) (n0 : Nat) (v : Option Value) (h : Heap) (L : List Loc) : Prop := v = some (.int (0 : Int32)) ∧ Fr n0 L ∧ h = h0
set_option maxRecDepth 65536 in
set_option maxHeartbeats 40000000 in
theorem rm7_18 (l : Launch) (Z : State) (a0 : Array Value) (hw : ∀ d ∈ tables_1, d.before a0 Z = true) (ws : List Jvm.Cond) (ob0 : Addr) (q0 : Int32) (k_ob0 : ClassId) (q1 : Int32) (h0 : Heap) (n0 : Nat) (Z0 : n0 ≤ h0.size) (O0 : Old Z n0 h0) (PV_ob0 : Arv Z h0 ob0 k_ob0 .int (1 : Int32) [(.int q1)] (.int (0 : Int32))) (hd0 : ¬ (q1 = q0)) :
    MetFree l (⟨"com/example/caprice/caprice/solver/DomainsRemovalsRestOnPinLaw", "holds", "([II)Z"⟩ : MethodName) (head1 (Jvm.Cond.code (⟨"com/example/caprice/caprice/solver/DomainsRemovalsRestOnPinLaw", "holds", "([II)Z"⟩ : MethodName) method_4_code 2 (some .boolean) :: ws) ({ frames := 0, cells := 0, slots := 0, locals := 0 } : Room)) (fun a U => a = #[(.ref ob0), (.int q0)] ∧ Z.Warmed39 U.vm ∧ U.heap = h0) (fun _ _ _ _ _ => True) (fun _ U o U' => ∃ v L, o = .returned v ∧ Q7_18 Z  ob0 q0 k_ob0 q1 h0 n0 v U'.heap L ∧ FrameEnd U o U' L ({ frames := 0, cells := 0, slots := 0, locals := 0 } : Room).cells ({ frames := 0, cells := 0, slots := 0, locals := 0 } : Room).slots) := by
  refine MetFree.of_bodySF (plainFor_of_name pn292) hisR ?_
  intro p e s m args below meth c s₁ Bd hml0 hP hK
  obtain ⟨rfl, hZ, hh⟩ := hP
  have hx := Bd.exec
  have hby := Bd.bytes
  have hml : c.maxLocals = 2 := hml0
  have hown : s.vm.findClass "com/example/caprice/caprice/solver/DomainsRemovalsRestOnPinLaw" = some m.cls := findClass_of_methodNamed Bd.named
  have hnm := (name_of_methodNamed Bd.named Bd.method).1
  have X0 : Stand p l e ({ frames := 0, cells := 0, slots := 0, locals := 0 } : Room) s m #[(.ref ob0), (.int q0)] below meth c s₁ [] 0 0 := Stand.of_body Bd
  have e0 : s₁.heap = h0 := by rw [← hh, Bd.state]; rfl
  have N0 := Fr.nil n0
  have pre0 : ∀ t, Steps p.tables e below (s₁.setTop (mkF m 0 #[.val (.ref ob0), .val (.int q0)] [])) t → Steps p.tables e below (s₁.setTop (entryFrame m #[(.ref ob0), (.int q0)] 2)) t := fun t k => castTop (ef327 m ob0 q0) k
  obtain ⟨ac1, aA1, aq1, aS1, aN1, aH1, aG1⟩ := id PV_ob0
  obtain ⟨ac2, aA2, aq2, aS2, aN2, aH2, aG2⟩ := id PV_ob0
  obtain ⟨ac3, aA3, aq3, aS3, aN3, aH3, aG3⟩ := id PV_ob0
  obtain ⟨fs, hr, hrun, hended, hW, hsame⟩ := X0.leave (v := some (.int (0 : Int32))) (fun h => by rw [Bd.returns] at h; cases h)
  refine ⟨_, _, pre0 _ ?_, hrun, hended, _, _, rfl, ?_, ⟨_, rfl⟩, hW, hsame.mono (by decide) (by decide)⟩
  · show Steps p.tables e below (s₁.setTop (mkF m 0 #[.val (.ref ob0), .val (.int q0)] [])) _
    refine XS.aloadN X0.here hx rfl (hb hby d7_0) rfl rfl ?_
    show Steps p.tables e below (s₁.setTop (mkF m 1 #[.val (.ref ob0), .val (.int q0)] [(.ref ob0)])) _
    refine X0.arraylength hx (by rw [e0]; exact aA1.1) (State.isArrayOf_alike hZ.alike aA1.2.1) (g := (mkF m 1 #[.val (.ref ob0), .val (.int q0)] [(.ref ob0)])) rfl rfl (hb hby d7_1) _ ?_
    rw [len_of aS1 aN1]
    show Steps p.tables e below (s₁.setTop (mkF m 2 #[.val (.ref ob0), .val (.int q0)] [(.int (1 : Int32))])) _
    refine XS.iconst X0.here hx rfl (hb hby d7_2) ?_
    show Steps p.tables e below (s₁.setTop (mkF m 3 #[.val (.ref ob0), .val (.int q0)] [(.int (1 : Int32)), (.int (1 : Int32))])) _
    refine XS.icmpNo X0.here hx rfl (hb hby d7_3) rfl (flt (by decide : ¬ ((1 : Int32) < (1 : Int32)))).1 ?_
    show Steps p.tables e below (s₁.setTop (mkF m 6 #[.val (.ref ob0), .val (.int q0)] [])) _
    refine XS.aloadN X0.here hx rfl (hb hby d7_6) rfl rfl ?_
    show Steps p.tables e below (s₁.setTop (mkF m 7 #[.val (.ref ob0), .val (.int q0)] [(.ref ob0)])) _
    refine XS.iconst X0.here hx rfl (hb hby d7_7) ?_
    show Steps p.tables e below (s₁.setTop (mkF m 8 #[.val (.ref ob0), .val (.int q0)] [(.int (0 : Int32)), (.ref ob0)])) _
    refine X0.iaload hx (j := (0 : Int32)) (v := (.int q1)) (by rw [e0]; exact aA2.1) (State.isArrayOf_alike hZ.alike aA2.2.1) aA2.2.2 (inb_of aS2 ⟨by decide, by decide⟩) (aH2.at (inb_of aS2 ⟨by decide, by decide⟩) rfl) (g := (mkF m 8 #[.val (.ref ob0), .val (.int q0)] [(.int (0 : Int32)), (.ref ob0)])) rfl rfl (hb hby d7_8) _ ?_
    show Steps p.tables e below (s₁.setTop (mkF m 9 #[.val (.ref ob0), .val (.int q0)] [(.int q1)])) _
    refine XS.iloadN X0.here hx rfl (hb hby d7_9) rfl ?_
    show Steps p.tables e below (s₁.setTop (mkF m 10 #[.val (.ref ob0), .val (.int q0)] [(.int q0), (.int q1)])) _
    refine XS.icmpNo X0.here hx rfl (hb hby d7_10) rfl (feq hd0).1 ?_
    show Steps p.tables e below (s₁.setTop (mkF m 13 #[.val (.ref ob0), .val (.int q0)] [])) _
    refine XS.aloadN X0.here hx rfl (hb hby d7_13) rfl rfl ?_
    show Steps p.tables e below (s₁.setTop (mkF m 14 #[.val (.ref ob0), .val (.int q0)] [(.ref ob0)])) _
    refine X0.arraylength hx (by rw [e0]; exact aA3.1) (State.isArrayOf_alike hZ.alike aA3.2.1) (g := (mkF m 14 #[.val (.ref ob0), .val (.int q0)] [(.ref ob0)])) rfl rfl (hb hby d7_14) _ ?_
    rw [len_of aS3 aN3]
    show Steps p.tables e below (s₁.setTop (mkF m 15 #[.val (.ref ob0), .val (.int q0)] [(.int (1 : Int32))])) _
    refine XS.iconst X0.here hx rfl (hb hby d7_15) ?_
    show Steps p.tables e below (s₁.setTop (mkF m 16 #[.val (.ref ob0), .val (.int q0)] [(.int (2 : Int32)), (.int (1 : Int32))])) _
    refine XS.icmpYes X0.here hx rfl (pc0 := 16) (pc' := 30) rfl (hb hby d7_16) rfl (tlt (by decide : (1 : Int32) < (2 : Int32))).1 (by decide) (by decide) ?_
    show Steps p.tables e below (s₁.setTop (mkF m 30 #[.val (.ref ob0), .val (.int q0)] [])) _
    refine XS.iconst X0.here hx rfl (hb hby d7_30) ?_
    show Steps p.tables e below (s₁.setTop (mkF m 31 #[.val (.ref ob0), .val (.int q0)] [(.int (0 : Int32))])) _
    exact retN X0 hx (t := .boolean) Bd.returns (by simp) (hb hby d7_31) hr
  · exact ⟨rfl, N0, e0⟩
def Q7_19 (Z : State) (ob0 : Addr) (q0 : Int32) (k_ob0 : ClassId) (q1 : Int32) (q2 : Int32) (h0 : Heap) (n0 : Nat) (v : Option Value) (h : Heap) (L : List Loc) : Prop := v = some (.int (1 : Int32)) ∧ Fr n0 L ∧ h = h0
set_option maxRecDepth 65536 in
set_option maxHeartbeats 40000000 in
theorem rm7_19 (l : Launch) (Z : State) (a0 : Array Value) (hw : ∀ d ∈ tables_1, d.before a0 Z = true) (ws : List Jvm.Cond) (ob0 : Addr) (q0 : Int32) (k_ob0 : ClassId) (q1 : Int32) (q2 : Int32) (h0 : Heap) (n0 : Nat) (Z0 : n0 ≤ h0.size) (O0 : Old Z n0 h0) (PV_ob0 : Arv Z h0 ob0 k_ob0 .int (2 : Int32) [(.int q1), (.int q2)] (.int (0 : Int32))) (hd0 : q1 = q0) :
    MetFree l (⟨"com/example/caprice/caprice/solver/DomainsRemovalsRestOnPinLaw", "holds", "([II)Z"⟩ : MethodName) (head1 (Jvm.Cond.code (⟨"com/example/caprice/caprice/solver/DomainsRemovalsRestOnPinLaw", "holds", "([II)Z"⟩ : MethodName) method_4_code 2 (some .boolean) :: ws) ({ frames := 0, cells := 0, slots := 0, locals := 0 } : Room)) (fun a U => a = #[(.ref ob0), (.int q0)] ∧ Z.Warmed39 U.vm ∧ U.heap = h0) (fun _ _ _ _ _ => True) (fun _ U o U' => ∃ v L, o = .returned v ∧ Q7_19 Z  ob0 q0 k_ob0 q1 q2 h0 n0 v U'.heap L ∧ FrameEnd U o U' L ({ frames := 0, cells := 0, slots := 0, locals := 0 } : Room).cells ({ frames := 0, cells := 0, slots := 0, locals := 0 } : Room).slots) := by
  refine MetFree.of_bodySF (plainFor_of_name pn292) hisR ?_
  intro p e s m args below meth c s₁ Bd hml0 hP hK
  obtain ⟨rfl, hZ, hh⟩ := hP
  have hx := Bd.exec
  have hby := Bd.bytes
  have hml : c.maxLocals = 2 := hml0
  have hown : s.vm.findClass "com/example/caprice/caprice/solver/DomainsRemovalsRestOnPinLaw" = some m.cls := findClass_of_methodNamed Bd.named
  have hnm := (name_of_methodNamed Bd.named Bd.method).1
  have X0 : Stand p l e ({ frames := 0, cells := 0, slots := 0, locals := 0 } : Room) s m #[(.ref ob0), (.int q0)] below meth c s₁ [] 0 0 := Stand.of_body Bd
  have e0 : s₁.heap = h0 := by rw [← hh, Bd.state]; rfl
  have N0 := Fr.nil n0
  have pre0 : ∀ t, Steps p.tables e below (s₁.setTop (mkF m 0 #[.val (.ref ob0), .val (.int q0)] [])) t → Steps p.tables e below (s₁.setTop (entryFrame m #[(.ref ob0), (.int q0)] 2)) t := fun t k => castTop (ef327 m ob0 q0) k
  obtain ⟨ac1, aA1, aq1, aS1, aN1, aH1, aG1⟩ := id PV_ob0
  obtain ⟨ac2, aA2, aq2, aS2, aN2, aH2, aG2⟩ := id PV_ob0
  obtain ⟨fs, hr, hrun, hended, hW, hsame⟩ := X0.leave (v := some (.int (1 : Int32))) (fun h => by rw [Bd.returns] at h; cases h)
  refine ⟨_, _, pre0 _ ?_, hrun, hended, _, _, rfl, ?_, ⟨_, rfl⟩, hW, hsame.mono (by decide) (by decide)⟩
  · show Steps p.tables e below (s₁.setTop (mkF m 0 #[.val (.ref ob0), .val (.int q0)] [])) _
    refine XS.aloadN X0.here hx rfl (hb hby d7_0) rfl rfl ?_
    show Steps p.tables e below (s₁.setTop (mkF m 1 #[.val (.ref ob0), .val (.int q0)] [(.ref ob0)])) _
    refine X0.arraylength hx (by rw [e0]; exact aA1.1) (State.isArrayOf_alike hZ.alike aA1.2.1) (g := (mkF m 1 #[.val (.ref ob0), .val (.int q0)] [(.ref ob0)])) rfl rfl (hb hby d7_1) _ ?_
    rw [len_of aS1 aN1]
    show Steps p.tables e below (s₁.setTop (mkF m 2 #[.val (.ref ob0), .val (.int q0)] [(.int (2 : Int32))])) _
    refine XS.iconst X0.here hx rfl (hb hby d7_2) ?_
    show Steps p.tables e below (s₁.setTop (mkF m 3 #[.val (.ref ob0), .val (.int q0)] [(.int (1 : Int32)), (.int (2 : Int32))])) _
    refine XS.icmpNo X0.here hx rfl (hb hby d7_3) rfl (flt (by decide : ¬ ((2 : Int32) < (1 : Int32)))).1 ?_
    show Steps p.tables e below (s₁.setTop (mkF m 6 #[.val (.ref ob0), .val (.int q0)] [])) _
    refine XS.aloadN X0.here hx rfl (hb hby d7_6) rfl rfl ?_
    show Steps p.tables e below (s₁.setTop (mkF m 7 #[.val (.ref ob0), .val (.int q0)] [(.ref ob0)])) _
    refine XS.iconst X0.here hx rfl (hb hby d7_7) ?_
    show Steps p.tables e below (s₁.setTop (mkF m 8 #[.val (.ref ob0), .val (.int q0)] [(.int (0 : Int32)), (.ref ob0)])) _
    refine X0.iaload hx (j := (0 : Int32)) (v := (.int q1)) (by rw [e0]; exact aA2.1) (State.isArrayOf_alike hZ.alike aA2.2.1) aA2.2.2 (inb_of aS2 ⟨by decide, by decide⟩) (aH2.at (inb_of aS2 ⟨by decide, by decide⟩) rfl) (g := (mkF m 8 #[.val (.ref ob0), .val (.int q0)] [(.int (0 : Int32)), (.ref ob0)])) rfl rfl (hb hby d7_8) _ ?_
    show Steps p.tables e below (s₁.setTop (mkF m 9 #[.val (.ref ob0), .val (.int q0)] [(.int q1)])) _
    refine XS.iloadN X0.here hx rfl (hb hby d7_9) rfl ?_
    show Steps p.tables e below (s₁.setTop (mkF m 10 #[.val (.ref ob0), .val (.int q0)] [(.int q0), (.int q1)])) _
    refine XS.icmpYes X0.here hx rfl (pc0 := 10) (pc' := 26) rfl (hb hby d7_10) rfl (teq hd0).1 (by decide) (by decide) ?_
    show Steps p.tables e below (s₁.setTop (mkF m 26 #[.val (.ref ob0), .val (.int q0)] [])) _
    refine XS.iconst X0.here hx rfl (hb hby d7_26) ?_
    show Steps p.tables e below (s₁.setTop (mkF m 27 #[.val (.ref ob0), .val (.int q0)] [(.int (1 : Int32))])) _
    refine XS.goto X0.here hx rfl (pc0 := 27) (pc' := 31) rfl (hb hby d7_27) (by decide) (by decide) ?_
    show Steps p.tables e below (s₁.setTop (mkF m 31 #[.val (.ref ob0), .val (.int q0)] [(.int (1 : Int32))])) _
    exact retN X0 hx (t := .boolean) Bd.returns (by simp) (hb hby d7_31) hr
  · exact ⟨rfl, N0, e0⟩
theorem d7_19 : decode method_4_code 19 = .ok (.aload_n 0, 1) := by decide +kernel
theorem d7_20 : decode method_4_code 20 = .ok (.iconst 1, 1) := by decide +kernel
theorem d7_21 : decode method_4_code 21 = .ok (.iaload, 1) := by decide +kernel
theorem d7_22 : decode method_4_code 22 = .ok (.iload_n 1, 1) := by decide +kernel
theorem d7_23 : decode method_4_code 23 = .ok (.if_icmp .ne 7, 3) := by decide +kernel
def Q7_20 (Z : State) (ob0 : Addr) (q0 : Int32) (k_ob0 : ClassId) (q1 : Int32) (q2 : Int32) (h0 : Heap) (n0 : Nat) (v : Option Value) (h : Heap) (L : List Loc) : Prop := v = some (.int (1 : Int32)) ∧ Fr n0 L ∧ h = h0
set_option maxRecDepth 65536 in
set_option maxHeartbeats 40000000 in
theorem rm7_20 (l : Launch) (Z : State) (a0 : Array Value) (hw : ∀ d ∈ tables_1, d.before a0 Z = true) (ws : List Jvm.Cond) (ob0 : Addr) (q0 : Int32) (k_ob0 : ClassId) (q1 : Int32) (q2 : Int32) (h0 : Heap) (n0 : Nat) (Z0 : n0 ≤ h0.size) (O0 : Old Z n0 h0) (PV_ob0 : Arv Z h0 ob0 k_ob0 .int (2 : Int32) [(.int q1), (.int q2)] (.int (0 : Int32))) (hd0 : ¬ (q1 = q0)) (hd1 : q2 = q0) :
    MetFree l (⟨"com/example/caprice/caprice/solver/DomainsRemovalsRestOnPinLaw", "holds", "([II)Z"⟩ : MethodName) (head1 (Jvm.Cond.code (⟨"com/example/caprice/caprice/solver/DomainsRemovalsRestOnPinLaw", "holds", "([II)Z"⟩ : MethodName) method_4_code 2 (some .boolean) :: ws) ({ frames := 0, cells := 0, slots := 0, locals := 0 } : Room)) (fun a U => a = #[(.ref ob0), (.int q0)] ∧ Z.Warmed39 U.vm ∧ U.heap = h0) (fun _ _ _ _ _ => True) (fun _ U o U' => ∃ v L, o = .returned v ∧ Q7_20 Z  ob0 q0 k_ob0 q1 q2 h0 n0 v U'.heap L ∧ FrameEnd U o U' L ({ frames := 0, cells := 0, slots := 0, locals := 0 } : Room).cells ({ frames := 0, cells := 0, slots := 0, locals := 0 } : Room).slots) := by
  refine MetFree.of_bodySF (plainFor_of_name pn292) hisR ?_
  intro p e s m args below meth c s₁ Bd hml0 hP hK
  obtain ⟨rfl, hZ, hh⟩ := hP
  have hx := Bd.exec
  have hby := Bd.bytes
  have hml : c.maxLocals = 2 := hml0
  have hown : s.vm.findClass "com/example/caprice/caprice/solver/DomainsRemovalsRestOnPinLaw" = some m.cls := findClass_of_methodNamed Bd.named
  have hnm := (name_of_methodNamed Bd.named Bd.method).1
  have X0 : Stand p l e ({ frames := 0, cells := 0, slots := 0, locals := 0 } : Room) s m #[(.ref ob0), (.int q0)] below meth c s₁ [] 0 0 := Stand.of_body Bd
  have e0 : s₁.heap = h0 := by rw [← hh, Bd.state]; rfl
  have N0 := Fr.nil n0
  have pre0 : ∀ t, Steps p.tables e below (s₁.setTop (mkF m 0 #[.val (.ref ob0), .val (.int q0)] [])) t → Steps p.tables e below (s₁.setTop (entryFrame m #[(.ref ob0), (.int q0)] 2)) t := fun t k => castTop (ef327 m ob0 q0) k
  obtain ⟨ac1, aA1, aq1, aS1, aN1, aH1, aG1⟩ := id PV_ob0
  obtain ⟨ac2, aA2, aq2, aS2, aN2, aH2, aG2⟩ := id PV_ob0
  obtain ⟨ac3, aA3, aq3, aS3, aN3, aH3, aG3⟩ := id PV_ob0
  obtain ⟨ac4, aA4, aq4, aS4, aN4, aH4, aG4⟩ := id PV_ob0
  obtain ⟨fs, hr, hrun, hended, hW, hsame⟩ := X0.leave (v := some (.int (1 : Int32))) (fun h => by rw [Bd.returns] at h; cases h)
  refine ⟨_, _, pre0 _ ?_, hrun, hended, _, _, rfl, ?_, ⟨_, rfl⟩, hW, hsame.mono (by decide) (by decide)⟩
  · show Steps p.tables e below (s₁.setTop (mkF m 0 #[.val (.ref ob0), .val (.int q0)] [])) _
    refine XS.aloadN X0.here hx rfl (hb hby d7_0) rfl rfl ?_
    show Steps p.tables e below (s₁.setTop (mkF m 1 #[.val (.ref ob0), .val (.int q0)] [(.ref ob0)])) _
    refine X0.arraylength hx (by rw [e0]; exact aA1.1) (State.isArrayOf_alike hZ.alike aA1.2.1) (g := (mkF m 1 #[.val (.ref ob0), .val (.int q0)] [(.ref ob0)])) rfl rfl (hb hby d7_1) _ ?_
    rw [len_of aS1 aN1]
    show Steps p.tables e below (s₁.setTop (mkF m 2 #[.val (.ref ob0), .val (.int q0)] [(.int (2 : Int32))])) _
    refine XS.iconst X0.here hx rfl (hb hby d7_2) ?_
    show Steps p.tables e below (s₁.setTop (mkF m 3 #[.val (.ref ob0), .val (.int q0)] [(.int (1 : Int32)), (.int (2 : Int32))])) _
    refine XS.icmpNo X0.here hx rfl (hb hby d7_3) rfl (flt (by decide : ¬ ((2 : Int32) < (1 : Int32)))).1 ?_
    show Steps p.tables e below (s₁.setTop (mkF m 6 #[.val (.ref ob0), .val (.int q0)] [])) _
    refine XS.aloadN X0.here hx rfl (hb hby d7_6) rfl rfl ?_
    show Steps p.tables e below (s₁.setTop (mkF m 7 #[.val (.ref ob0), .val (.int q0)] [(.ref ob0)])) _
    refine XS.iconst X0.here hx rfl (hb hby d7_7) ?_
    show Steps p.tables e below (s₁.setTop (mkF m 8 #[.val (.ref ob0), .val (.int q0)] [(.int (0 : Int32)), (.ref ob0)])) _
    refine X0.iaload hx (j := (0 : Int32)) (v := (.int q1)) (by rw [e0]; exact aA2.1) (State.isArrayOf_alike hZ.alike aA2.2.1) aA2.2.2 (inb_of aS2 ⟨by decide, by decide⟩) (aH2.at (inb_of aS2 ⟨by decide, by decide⟩) rfl) (g := (mkF m 8 #[.val (.ref ob0), .val (.int q0)] [(.int (0 : Int32)), (.ref ob0)])) rfl rfl (hb hby d7_8) _ ?_
    show Steps p.tables e below (s₁.setTop (mkF m 9 #[.val (.ref ob0), .val (.int q0)] [(.int q1)])) _
    refine XS.iloadN X0.here hx rfl (hb hby d7_9) rfl ?_
    show Steps p.tables e below (s₁.setTop (mkF m 10 #[.val (.ref ob0), .val (.int q0)] [(.int q0), (.int q1)])) _
    refine XS.icmpNo X0.here hx rfl (hb hby d7_10) rfl (feq hd0).1 ?_
    show Steps p.tables e below (s₁.setTop (mkF m 13 #[.val (.ref ob0), .val (.int q0)] [])) _
    refine XS.aloadN X0.here hx rfl (hb hby d7_13) rfl rfl ?_
    show Steps p.tables e below (s₁.setTop (mkF m 14 #[.val (.ref ob0), .val (.int q0)] [(.ref ob0)])) _
    refine X0.arraylength hx (by rw [e0]; exact aA3.1) (State.isArrayOf_alike hZ.alike aA3.2.1) (g := (mkF m 14 #[.val (.ref ob0), .val (.int q0)] [(.ref ob0)])) rfl rfl (hb hby d7_14) _ ?_
    rw [len_of aS3 aN3]
    show Steps p.tables e below (s₁.setTop (mkF m 15 #[.val (.ref ob0), .val (.int q0)] [(.int (2 : Int32))])) _
    refine XS.iconst X0.here hx rfl (hb hby d7_15) ?_
    show Steps p.tables e below (s₁.setTop (mkF m 16 #[.val (.ref ob0), .val (.int q0)] [(.int (2 : Int32)), (.int (2 : Int32))])) _
    refine XS.icmpNo X0.here hx rfl (hb hby d7_16) rfl (flt (by decide : ¬ ((2 : Int32) < (2 : Int32)))).1 ?_
    show Steps p.tables e below (s₁.setTop (mkF m 19 #[.val (.ref ob0), .val (.int q0)] [])) _
    refine XS.aloadN X0.here hx rfl (hb hby d7_19) rfl rfl ?_
    show Steps p.tables e below (s₁.setTop (mkF m 20 #[.val (.ref ob0), .val (.int q0)] [(.ref ob0)])) _
    refine XS.iconst X0.here hx rfl (hb hby d7_20) ?_
    show Steps p.tables e below (s₁.setTop (mkF m 21 #[.val (.ref ob0), .val (.int q0)] [(.int (1 : Int32)), (.ref ob0)])) _
    refine X0.iaload hx (j := (1 : Int32)) (v := (.int q2)) (by rw [e0]; exact aA4.1) (State.isArrayOf_alike hZ.alike aA4.2.1) aA4.2.2 (inb_of aS4 ⟨by decide, by decide⟩) (aH4.at (inb_of aS4 ⟨by decide, by decide⟩) rfl) (g := (mkF m 21 #[.val (.ref ob0), .val (.int q0)] [(.int (1 : Int32)), (.ref ob0)])) rfl rfl (hb hby d7_21) _ ?_
    show Steps p.tables e below (s₁.setTop (mkF m 22 #[.val (.ref ob0), .val (.int q0)] [(.int q2)])) _
    refine XS.iloadN X0.here hx rfl (hb hby d7_22) rfl ?_
    show Steps p.tables e below (s₁.setTop (mkF m 23 #[.val (.ref ob0), .val (.int q0)] [(.int q0), (.int q2)])) _
    refine XS.icmpNo X0.here hx rfl (hb hby d7_23) rfl (teq hd1).2 ?_
    show Steps p.tables e below (s₁.setTop (mkF m 26 #[.val (.ref ob0), .val (.int q0)] [])) _
    refine XS.iconst X0.here hx rfl (hb hby d7_26) ?_
    show Steps p.tables e below (s₁.setTop (mkF m 27 #[.val (.ref ob0), .val (.int q0)] [(.int (1 : Int32))])) _
    refine XS.goto X0.here hx rfl (pc0 := 27) (pc' := 31) rfl (hb hby d7_27) (by decide) (by decide) ?_
    show Steps p.tables e below (s₁.setTop (mkF m 31 #[.val (.ref ob0), .val (.int q0)] [(.int (1 : Int32))])) _
    exact retN X0 hx (t := .boolean) Bd.returns (by simp) (hb hby d7_31) hr
  · exact ⟨rfl, N0, e0⟩
def Q7_21 (Z : State) (ob0 : Addr) (q0 : Int32) (k_ob0 : ClassId) (q1 : Int32) (q2 : Int32) (h0 : Heap) (n0 : Nat) (v : Option Value) (h : Heap) (L : List Loc) : Prop := v = some (.int (0 : Int32)) ∧ Fr n0 L ∧ h = h0
set_option maxRecDepth 65536 in
set_option maxHeartbeats 40000000 in
theorem rm7_21 (l : Launch) (Z : State) (a0 : Array Value) (hw : ∀ d ∈ tables_1, d.before a0 Z = true) (ws : List Jvm.Cond) (ob0 : Addr) (q0 : Int32) (k_ob0 : ClassId) (q1 : Int32) (q2 : Int32) (h0 : Heap) (n0 : Nat) (Z0 : n0 ≤ h0.size) (O0 : Old Z n0 h0) (PV_ob0 : Arv Z h0 ob0 k_ob0 .int (2 : Int32) [(.int q1), (.int q2)] (.int (0 : Int32))) (hd0 : ¬ (q1 = q0)) (hd1 : ¬ (q2 = q0)) :
    MetFree l (⟨"com/example/caprice/caprice/solver/DomainsRemovalsRestOnPinLaw", "holds", "([II)Z"⟩ : MethodName) (head1 (Jvm.Cond.code (⟨"com/example/caprice/caprice/solver/DomainsRemovalsRestOnPinLaw", "holds", "([II)Z"⟩ : MethodName) method_4_code 2 (some .boolean) :: ws) ({ frames := 0, cells := 0, slots := 0, locals := 0 } : Room)) (fun a U => a = #[(.ref ob0), (.int q0)] ∧ Z.Warmed39 U.vm ∧ U.heap = h0) (fun _ _ _ _ _ => True) (fun _ U o U' => ∃ v L, o = .returned v ∧ Q7_21 Z  ob0 q0 k_ob0 q1 q2 h0 n0 v U'.heap L ∧ FrameEnd U o U' L ({ frames := 0, cells := 0, slots := 0, locals := 0 } : Room).cells ({ frames := 0, cells := 0, slots := 0, locals := 0 } : Room).slots) := by
  refine MetFree.of_bodySF (plainFor_of_name pn292) hisR ?_
  intro p e s m args below meth c s₁ Bd hml0 hP hK
  obtain ⟨rfl, hZ, hh⟩ := hP
  have hx := Bd.exec
  have hby := Bd.bytes
  have hml : c.maxLocals = 2 := hml0
  have hown : s.vm.findClass "com/example/caprice/caprice/solver/DomainsRemovalsRestOnPinLaw" = some m.cls := findClass_of_methodNamed Bd.named
  have hnm := (name_of_methodNamed Bd.named Bd.method).1
  have X0 : Stand p l e ({ frames := 0, cells := 0, slots := 0, locals := 0 } : Room) s m #[(.ref ob0), (.int q0)] below meth c s₁ [] 0 0 := Stand.of_body Bd
  have e0 : s₁.heap = h0 := by rw [← hh, Bd.state]; rfl
  have N0 := Fr.nil n0
  have pre0 : ∀ t, Steps p.tables e below (s₁.setTop (mkF m 0 #[.val (.ref ob0), .val (.int q0)] [])) t → Steps p.tables e below (s₁.setTop (entryFrame m #[(.ref ob0), (.int q0)] 2)) t := fun t k => castTop (ef327 m ob0 q0) k
  obtain ⟨ac1, aA1, aq1, aS1, aN1, aH1, aG1⟩ := id PV_ob0
  obtain ⟨ac2, aA2, aq2, aS2, aN2, aH2, aG2⟩ := id PV_ob0
  obtain ⟨ac3, aA3, aq3, aS3, aN3, aH3, aG3⟩ := id PV_ob0
  obtain ⟨ac4, aA4, aq4, aS4, aN4, aH4, aG4⟩ := id PV_ob0
  obtain ⟨fs, hr, hrun, hended, hW, hsame⟩ := X0.leave (v := some (.int (0 : Int32))) (fun h => by rw [Bd.returns] at h; cases h)
  refine ⟨_, _, pre0 _ ?_, hrun, hended, _, _, rfl, ?_, ⟨_, rfl⟩, hW, hsame.mono (by decide) (by decide)⟩
  · show Steps p.tables e below (s₁.setTop (mkF m 0 #[.val (.ref ob0), .val (.int q0)] [])) _
    refine XS.aloadN X0.here hx rfl (hb hby d7_0) rfl rfl ?_
    show Steps p.tables e below (s₁.setTop (mkF m 1 #[.val (.ref ob0), .val (.int q0)] [(.ref ob0)])) _
    refine X0.arraylength hx (by rw [e0]; exact aA1.1) (State.isArrayOf_alike hZ.alike aA1.2.1) (g := (mkF m 1 #[.val (.ref ob0), .val (.int q0)] [(.ref ob0)])) rfl rfl (hb hby d7_1) _ ?_
    rw [len_of aS1 aN1]
    show Steps p.tables e below (s₁.setTop (mkF m 2 #[.val (.ref ob0), .val (.int q0)] [(.int (2 : Int32))])) _
    refine XS.iconst X0.here hx rfl (hb hby d7_2) ?_
    show Steps p.tables e below (s₁.setTop (mkF m 3 #[.val (.ref ob0), .val (.int q0)] [(.int (1 : Int32)), (.int (2 : Int32))])) _
    refine XS.icmpNo X0.here hx rfl (hb hby d7_3) rfl (flt (by decide : ¬ ((2 : Int32) < (1 : Int32)))).1 ?_
    show Steps p.tables e below (s₁.setTop (mkF m 6 #[.val (.ref ob0), .val (.int q0)] [])) _
    refine XS.aloadN X0.here hx rfl (hb hby d7_6) rfl rfl ?_
    show Steps p.tables e below (s₁.setTop (mkF m 7 #[.val (.ref ob0), .val (.int q0)] [(.ref ob0)])) _
    refine XS.iconst X0.here hx rfl (hb hby d7_7) ?_
    show Steps p.tables e below (s₁.setTop (mkF m 8 #[.val (.ref ob0), .val (.int q0)] [(.int (0 : Int32)), (.ref ob0)])) _
    refine X0.iaload hx (j := (0 : Int32)) (v := (.int q1)) (by rw [e0]; exact aA2.1) (State.isArrayOf_alike hZ.alike aA2.2.1) aA2.2.2 (inb_of aS2 ⟨by decide, by decide⟩) (aH2.at (inb_of aS2 ⟨by decide, by decide⟩) rfl) (g := (mkF m 8 #[.val (.ref ob0), .val (.int q0)] [(.int (0 : Int32)), (.ref ob0)])) rfl rfl (hb hby d7_8) _ ?_
    show Steps p.tables e below (s₁.setTop (mkF m 9 #[.val (.ref ob0), .val (.int q0)] [(.int q1)])) _
    refine XS.iloadN X0.here hx rfl (hb hby d7_9) rfl ?_
    show Steps p.tables e below (s₁.setTop (mkF m 10 #[.val (.ref ob0), .val (.int q0)] [(.int q0), (.int q1)])) _
    refine XS.icmpNo X0.here hx rfl (hb hby d7_10) rfl (feq hd0).1 ?_
    show Steps p.tables e below (s₁.setTop (mkF m 13 #[.val (.ref ob0), .val (.int q0)] [])) _
    refine XS.aloadN X0.here hx rfl (hb hby d7_13) rfl rfl ?_
    show Steps p.tables e below (s₁.setTop (mkF m 14 #[.val (.ref ob0), .val (.int q0)] [(.ref ob0)])) _
    refine X0.arraylength hx (by rw [e0]; exact aA3.1) (State.isArrayOf_alike hZ.alike aA3.2.1) (g := (mkF m 14 #[.val (.ref ob0), .val (.int q0)] [(.ref ob0)])) rfl rfl (hb hby d7_14) _ ?_
    rw [len_of aS3 aN3]
    show Steps p.tables e below (s₁.setTop (mkF m 15 #[.val (.ref ob0), .val (.int q0)] [(.int (2 : Int32))])) _
    refine XS.iconst X0.here hx rfl (hb hby d7_15) ?_
    show Steps p.tables e below (s₁.setTop (mkF m 16 #[.val (.ref ob0), .val (.int q0)] [(.int (2 : Int32)), (.int (2 : Int32))])) _
    refine XS.icmpNo X0.here hx rfl (hb hby d7_16) rfl (flt (by decide : ¬ ((2 : Int32) < (2 : Int32)))).1 ?_
    show Steps p.tables e below (s₁.setTop (mkF m 19 #[.val (.ref ob0), .val (.int q0)] [])) _
    refine XS.aloadN X0.here hx rfl (hb hby d7_19) rfl rfl ?_
    show Steps p.tables e below (s₁.setTop (mkF m 20 #[.val (.ref ob0), .val (.int q0)] [(.ref ob0)])) _
    refine XS.iconst X0.here hx rfl (hb hby d7_20) ?_
    show Steps p.tables e below (s₁.setTop (mkF m 21 #[.val (.ref ob0), .val (.int q0)] [(.int (1 : Int32)), (.ref ob0)])) _
    refine X0.iaload hx (j := (1 : Int32)) (v := (.int q2)) (by rw [e0]; exact aA4.1) (State.isArrayOf_alike hZ.alike aA4.2.1) aA4.2.2 (inb_of aS4 ⟨by decide, by decide⟩) (aH4.at (inb_of aS4 ⟨by decide, by decide⟩) rfl) (g := (mkF m 21 #[.val (.ref ob0), .val (.int q0)] [(.int (1 : Int32)), (.ref ob0)])) rfl rfl (hb hby d7_21) _ ?_
    show Steps p.tables e below (s₁.setTop (mkF m 22 #[.val (.ref ob0), .val (.int q0)] [(.int q2)])) _
    refine XS.iloadN X0.here hx rfl (hb hby d7_22) rfl ?_
    show Steps p.tables e below (s₁.setTop (mkF m 23 #[.val (.ref ob0), .val (.int q0)] [(.int q0), (.int q2)])) _
    refine XS.icmpYes X0.here hx rfl (pc0 := 23) (pc' := 30) rfl (hb hby d7_23) rfl (feq hd1).2 (by decide) (by decide) ?_
    show Steps p.tables e below (s₁.setTop (mkF m 30 #[.val (.ref ob0), .val (.int q0)] [])) _
    refine XS.iconst X0.here hx rfl (hb hby d7_30) ?_
    show Steps p.tables e below (s₁.setTop (mkF m 31 #[.val (.ref ob0), .val (.int q0)] [(.int (0 : Int32))])) _
    exact retN X0 hx (t := .boolean) Bd.returns (by simp) (hb hby d7_31) hr
  · exact ⟨rfl, N0, e0⟩
set_option maxRecDepth 65536 in
set_option maxHeartbeats 40000000 in
theorem lA {p : Program} {l : Launch} {e : Env} {s : State} {m : MethodId} {args : Array Value} {below : List Frame} {meth : Method} {c : Code} {T0 : State} {locs : List Loc} {Z : State} {a0 : Array Value} {h0 : Heap} {n0 : Nat} (p1 : Int32) (p2 : Int32) (p3 : Int32) (p4 : Int32)
    (X0 : Stand p l e room_1 s m args below meth c T0 locs 0 0) (hx : p.tables.exec = Jvm.exec) (hZ : Z.Warmed39 s.vm) (hw : ∀ d ∈ tables_1, d.before a0 Z = true) (hby : c.code = code) (hml : c.maxLocals = 21) (hown : s.vm.findClass "com/example/caprice/caprice/solver/DomainsRemovalsRestOnPinLaw" = some m.cls) (e0 : T0.heap = h0) (N0 : Fr n0 locs) (O0 : Old Z n0 h0) :
    ∃ (T' : State) (locs' : List Loc), Stand p l e room_1 s m args below meth c T' locs' 0 0 ∧ Fr n0 locs' ∧ T'.heap = h0 ∧ ∀ t, Steps p.tables e below (T'.setTop (mkF m 19 #[.val (.int p1), .val (.int p2), .val (.int p3), .val (.int p4), .val (.int ((p1 &&& (2147483647 : Int32)) % (3 : Int32))), .val (.int ((((p1.toUInt32 >>> ((4 : Int32) &&& 31).toUInt32).toInt32) &&& (255 : Int32)) % (3 : Int32))), .unset, .unset, .unset, .unset, .unset, .unset, .unset, .unset, .unset, .unset, .unset, .unset, .unset, .unset, .unset] [])) t → Steps p.tables e below (T0.setTop (mkF m 0 #[.val (.int p1), .val (.int p2), .val (.int p3), .val (.int p4), .unset, .unset, .unset, .unset, .unset, .unset, .unset, .unset, .unset, .unset, .unset, .unset, .unset, .unset, .unset, .unset, .unset] [])) t := by
  refine ⟨T0, _, X0, N0, e0, fun t kt => ?_⟩
  show Steps p.tables e below (T0.setTop (mkF m 0 #[.val (.int p1), .val (.int p2), .val (.int p3), .val (.int p4), .unset, .unset, .unset, .unset, .unset, .unset, .unset, .unset, .unset, .unset, .unset, .unset, .unset, .unset, .unset, .unset, .unset] [])) _
  refine XS.iloadN X0.here hx rfl (hb hby at_0) rfl ?_
  show Steps p.tables e below (T0.setTop (mkF m 1 #[.val (.int p1), .val (.int p2), .val (.int p3), .val (.int p4), .unset, .unset, .unset, .unset, .unset, .unset, .unset, .unset, .unset, .unset, .unset, .unset, .unset, .unset, .unset, .unset, .unset] [(.int p1)])) _
  refine X0.ldcInt hx hown (mvT hZ (hw _ (List.mem_of_getElem? (i := 0) rfl))) (g := (mkF m 1 #[.val (.int p1), .val (.int p2), .val (.int p3), .val (.int p4), .unset, .unset, .unset, .unset, .unset, .unset, .unset, .unset, .unset, .unset, .unset, .unset, .unset, .unset, .unset, .unset, .unset] [(.int p1)])) rfl (hb hby at_1) _ ?_
  show Steps p.tables e below (T0.setTop (mkF m 3 #[.val (.int p1), .val (.int p2), .val (.int p3), .val (.int p4), .unset, .unset, .unset, .unset, .unset, .unset, .unset, .unset, .unset, .unset, .unset, .unset, .unset, .unset, .unset, .unset, .unset] [(.int (2147483647 : Int32)), (.int p1)])) _
  refine XS.iand X0.here hx rfl (hb hby at_3) rfl ?_
  show Steps p.tables e below (T0.setTop (mkF m 4 #[.val (.int p1), .val (.int p2), .val (.int p3), .val (.int p4), .unset, .unset, .unset, .unset, .unset, .unset, .unset, .unset, .unset, .unset, .unset, .unset, .unset, .unset, .unset, .unset, .unset] [(.int (p1 &&& (2147483647 : Int32)))])) _
  refine XS.iconst X0.here hx rfl (hb hby at_4) ?_
  show Steps p.tables e below (T0.setTop (mkF m 5 #[.val (.int p1), .val (.int p2), .val (.int p3), .val (.int p4), .unset, .unset, .unset, .unset, .unset, .unset, .unset, .unset, .unset, .unset, .unset, .unset, .unset, .unset, .unset, .unset, .unset] [(.int (3 : Int32)), (.int (p1 &&& (2147483647 : Int32)))])) _
  refine iremM X0 hx rfl (hb hby at_5) rfl (by decide) ?_
  show Steps p.tables e below (T0.setTop (mkF m 6 #[.val (.int p1), .val (.int p2), .val (.int p3), .val (.int p4), .unset, .unset, .unset, .unset, .unset, .unset, .unset, .unset, .unset, .unset, .unset, .unset, .unset, .unset, .unset, .unset, .unset] [(.int ((p1 &&& (2147483647 : Int32)) % (3 : Int32)))])) _
  refine XS.istore X0.here hx rfl (hb hby at_6) rfl (l' := #[.val (.int p1), .val (.int p2), .val (.int p3), .val (.int p4), .val (.int ((p1 &&& (2147483647 : Int32)) % (3 : Int32))), .unset, .unset, .unset, .unset, .unset, .unset, .unset, .unset, .unset, .unset, .unset, .unset, .unset, .unset, .unset, .unset]) rfl ?_
  show Steps p.tables e below (T0.setTop (mkF m 8 #[.val (.int p1), .val (.int p2), .val (.int p3), .val (.int p4), .val (.int ((p1 &&& (2147483647 : Int32)) % (3 : Int32))), .unset, .unset, .unset, .unset, .unset, .unset, .unset, .unset, .unset, .unset, .unset, .unset, .unset, .unset, .unset, .unset] [])) _
  refine XS.iloadN X0.here hx rfl (hb hby at_8) rfl ?_
  show Steps p.tables e below (T0.setTop (mkF m 9 #[.val (.int p1), .val (.int p2), .val (.int p3), .val (.int p4), .val (.int ((p1 &&& (2147483647 : Int32)) % (3 : Int32))), .unset, .unset, .unset, .unset, .unset, .unset, .unset, .unset, .unset, .unset, .unset, .unset, .unset, .unset, .unset, .unset] [(.int p1)])) _
  refine XS.iconst X0.here hx rfl (hb hby at_9) ?_
  show Steps p.tables e below (T0.setTop (mkF m 10 #[.val (.int p1), .val (.int p2), .val (.int p3), .val (.int p4), .val (.int ((p1 &&& (2147483647 : Int32)) % (3 : Int32))), .unset, .unset, .unset, .unset, .unset, .unset, .unset, .unset, .unset, .unset, .unset, .unset, .unset, .unset, .unset, .unset] [(.int (4 : Int32)), (.int p1)])) _
  refine XS.iushr X0.here hx rfl (hb hby at_10) rfl ?_
  show Steps p.tables e below (T0.setTop (mkF m 11 #[.val (.int p1), .val (.int p2), .val (.int p3), .val (.int p4), .val (.int ((p1 &&& (2147483647 : Int32)) % (3 : Int32))), .unset, .unset, .unset, .unset, .unset, .unset, .unset, .unset, .unset, .unset, .unset, .unset, .unset, .unset, .unset, .unset] [(.int ((p1.toUInt32 >>> ((4 : Int32) &&& 31).toUInt32).toInt32))])) _
  refine XS.sipush X0.here hx rfl (hb hby at_11) ?_
  show Steps p.tables e below (T0.setTop (mkF m 14 #[.val (.int p1), .val (.int p2), .val (.int p3), .val (.int p4), .val (.int ((p1 &&& (2147483647 : Int32)) % (3 : Int32))), .unset, .unset, .unset, .unset, .unset, .unset, .unset, .unset, .unset, .unset, .unset, .unset, .unset, .unset, .unset, .unset] [(.int (255 : Int32)), (.int ((p1.toUInt32 >>> ((4 : Int32) &&& 31).toUInt32).toInt32))])) _
  refine XS.iand X0.here hx rfl (hb hby at_14) rfl ?_
  show Steps p.tables e below (T0.setTop (mkF m 15 #[.val (.int p1), .val (.int p2), .val (.int p3), .val (.int p4), .val (.int ((p1 &&& (2147483647 : Int32)) % (3 : Int32))), .unset, .unset, .unset, .unset, .unset, .unset, .unset, .unset, .unset, .unset, .unset, .unset, .unset, .unset, .unset, .unset] [(.int (((p1.toUInt32 >>> ((4 : Int32) &&& 31).toUInt32).toInt32) &&& (255 : Int32)))])) _
  refine XS.iconst X0.here hx rfl (hb hby at_15) ?_
  show Steps p.tables e below (T0.setTop (mkF m 16 #[.val (.int p1), .val (.int p2), .val (.int p3), .val (.int p4), .val (.int ((p1 &&& (2147483647 : Int32)) % (3 : Int32))), .unset, .unset, .unset, .unset, .unset, .unset, .unset, .unset, .unset, .unset, .unset, .unset, .unset, .unset, .unset, .unset] [(.int (3 : Int32)), (.int (((p1.toUInt32 >>> ((4 : Int32) &&& 31).toUInt32).toInt32) &&& (255 : Int32)))])) _
  refine iremM X0 hx rfl (hb hby at_16) rfl (by decide) ?_
  show Steps p.tables e below (T0.setTop (mkF m 17 #[.val (.int p1), .val (.int p2), .val (.int p3), .val (.int p4), .val (.int ((p1 &&& (2147483647 : Int32)) % (3 : Int32))), .unset, .unset, .unset, .unset, .unset, .unset, .unset, .unset, .unset, .unset, .unset, .unset, .unset, .unset, .unset, .unset] [(.int ((((p1.toUInt32 >>> ((4 : Int32) &&& 31).toUInt32).toInt32) &&& (255 : Int32)) % (3 : Int32)))])) _
  refine XS.istore X0.here hx rfl (hb hby at_17) rfl (l' := #[.val (.int p1), .val (.int p2), .val (.int p3), .val (.int p4), .val (.int ((p1 &&& (2147483647 : Int32)) % (3 : Int32))), .val (.int ((((p1.toUInt32 >>> ((4 : Int32) &&& 31).toUInt32).toInt32) &&& (255 : Int32)) % (3 : Int32))), .unset, .unset, .unset, .unset, .unset, .unset, .unset, .unset, .unset, .unset, .unset, .unset, .unset, .unset, .unset]) rfl ?_
  show Steps p.tables e below (T0.setTop (mkF m 19 #[.val (.int p1), .val (.int p2), .val (.int p3), .val (.int p4), .val (.int ((p1 &&& (2147483647 : Int32)) % (3 : Int32))), .val (.int ((((p1.toUInt32 >>> ((4 : Int32) &&& 31).toUInt32).toInt32) &&& (255 : Int32)) % (3 : Int32))), .unset, .unset, .unset, .unset, .unset, .unset, .unset, .unset, .unset, .unset, .unset, .unset, .unset, .unset, .unset] [])) _
  exact kt
set_option maxRecDepth 65536 in
set_option maxHeartbeats 40000000 in
theorem lB00 {p : Program} {l : Launch} {e : Env} {s : State} {m : MethodId} {args : Array Value} {below : List Frame} {meth : Method} {c : Code} {T0 : State} {locs : List Loc} {Z : State} {a0 : Array Value} {h0 : Heap} {n0 : Nat} (p1 : Int32) (p2 : Int32) (p3 : Int32) (p4 : Int32) (q : Int32) (on : Int32)
    (X0 : Stand p l e room_1 s m args below meth c T0 locs 0 0) (hx : p.tables.exec = Jvm.exec) (hZ : Z.Warmed39 s.vm) (hw : ∀ d ∈ tables_1, d.before a0 Z = true) (hby : c.code = code) (hml : c.maxLocals = 21) (hown : s.vm.findClass "com/example/caprice/caprice/solver/DomainsRemovalsRestOnPinLaw" = some m.cls) (e0 : T0.heap = h0) (N0 : Fr n0 locs) (O0 : Old Z n0 h0) (hd0 : (p2 &&& (1 : Int32)) = (0 : Int32)) :
    ∃ (T' : State) (locs' : List Loc), Stand p l e room_1 s m args below meth c T' locs' 0 0 ∧ Fr n0 locs' ∧ T'.heap = h0 ∧ ∀ t, Steps p.tables e below (T'.setTop (mkF m 32 #[.val (.int p1), .val (.int p2), .val (.int p3), .val (.int p4), .val (.int q), .val (.int on), .val (.int (0 : Int32)), .unset, .unset, .unset, .unset, .unset, .unset, .unset, .unset, .unset, .unset, .unset, .unset, .unset, .unset] [])) t → Steps p.tables e below (T0.setTop (mkF m 19 #[.val (.int p1), .val (.int p2), .val (.int p3), .val (.int p4), .val (.int q), .val (.int on), .unset, .unset, .unset, .unset, .unset, .unset, .unset, .unset, .unset, .unset, .unset, .unset, .unset, .unset, .unset] [])) t := by
  refine ⟨T0, _, X0, N0, e0, fun t kt => ?_⟩
  show Steps p.tables e below (T0.setTop (mkF m 19 #[.val (.int p1), .val (.int p2), .val (.int p3), .val (.int p4), .val (.int q), .val (.int on), .unset, .unset, .unset, .unset, .unset, .unset, .unset, .unset, .unset, .unset, .unset, .unset, .unset, .unset, .unset] [])) _
  refine XS.iloadN X0.here hx rfl (hb hby at_19) rfl ?_
  show Steps p.tables e below (T0.setTop (mkF m 20 #[.val (.int p1), .val (.int p2), .val (.int p3), .val (.int p4), .val (.int q), .val (.int on), .unset, .unset, .unset, .unset, .unset, .unset, .unset, .unset, .unset, .unset, .unset, .unset, .unset, .unset, .unset] [(.int p2)])) _
  refine XS.iconst X0.here hx rfl (hb hby at_20) ?_
  show Steps p.tables e below (T0.setTop (mkF m 21 #[.val (.int p1), .val (.int p2), .val (.int p3), .val (.int p4), .val (.int q), .val (.int on), .unset, .unset, .unset, .unset, .unset, .unset, .unset, .unset, .unset, .unset, .unset, .unset, .unset, .unset, .unset] [(.int (1 : Int32)), (.int p2)])) _
  refine XS.iand X0.here hx rfl (hb hby at_21) rfl ?_
  show Steps p.tables e below (T0.setTop (mkF m 22 #[.val (.int p1), .val (.int p2), .val (.int p3), .val (.int p4), .val (.int q), .val (.int on), .unset, .unset, .unset, .unset, .unset, .unset, .unset, .unset, .unset, .unset, .unset, .unset, .unset, .unset, .unset] [(.int (p2 &&& (1 : Int32)))])) _
  refine XS.ifYes X0.here hx rfl (pc0 := 22) (pc' := 29) rfl (hb hby at_22) rfl ((if0 _ _).trans (teq hd0).1) (by decide) (by decide) ?_
  show Steps p.tables e below (T0.setTop (mkF m 29 #[.val (.int p1), .val (.int p2), .val (.int p3), .val (.int p4), .val (.int q), .val (.int on), .unset, .unset, .unset, .unset, .unset, .unset, .unset, .unset, .unset, .unset, .unset, .unset, .unset, .unset, .unset] [])) _
  refine XS.iconst X0.here hx rfl (hb hby at_29) ?_
  show Steps p.tables e below (T0.setTop (mkF m 30 #[.val (.int p1), .val (.int p2), .val (.int p3), .val (.int p4), .val (.int q), .val (.int on), .unset, .unset, .unset, .unset, .unset, .unset, .unset, .unset, .unset, .unset, .unset, .unset, .unset, .unset, .unset] [(.int (0 : Int32))])) _
  refine XS.istore X0.here hx rfl (hb hby at_30) rfl (l' := #[.val (.int p1), .val (.int p2), .val (.int p3), .val (.int p4), .val (.int q), .val (.int on), .val (.int (0 : Int32)), .unset, .unset, .unset, .unset, .unset, .unset, .unset, .unset, .unset, .unset, .unset, .unset, .unset, .unset]) rfl ?_
  show Steps p.tables e below (T0.setTop (mkF m 32 #[.val (.int p1), .val (.int p2), .val (.int p3), .val (.int p4), .val (.int q), .val (.int on), .val (.int (0 : Int32)), .unset, .unset, .unset, .unset, .unset, .unset, .unset, .unset, .unset, .unset, .unset, .unset, .unset, .unset] [])) _
  exact kt
set_option maxRecDepth 65536 in
set_option maxHeartbeats 40000000 in
theorem lB01 {p : Program} {l : Launch} {e : Env} {s : State} {m : MethodId} {args : Array Value} {below : List Frame} {meth : Method} {c : Code} {T0 : State} {locs : List Loc} {Z : State} {a0 : Array Value} {h0 : Heap} {n0 : Nat} (p1 : Int32) (p2 : Int32) (p3 : Int32) (p4 : Int32) (q : Int32) (on : Int32)
    (X0 : Stand p l e room_1 s m args below meth c T0 locs 0 0) (hx : p.tables.exec = Jvm.exec) (hZ : Z.Warmed39 s.vm) (hw : ∀ d ∈ tables_1, d.before a0 Z = true) (hby : c.code = code) (hml : c.maxLocals = 21) (hown : s.vm.findClass "com/example/caprice/caprice/solver/DomainsRemovalsRestOnPinLaw" = some m.cls) (e0 : T0.heap = h0) (N0 : Fr n0 locs) (O0 : Old Z n0 h0) (hd0 : ¬ ((p2 &&& (1 : Int32)) = (0 : Int32))) :
    ∃ (T' : State) (locs' : List Loc), Stand p l e room_1 s m args below meth c T' locs' 0 0 ∧ Fr n0 locs' ∧ T'.heap = h0 ∧ ∀ t, Steps p.tables e below (T'.setTop (mkF m 32 #[.val (.int p1), .val (.int p2), .val (.int p3), .val (.int p4), .val (.int q), .val (.int on), .val (.int (1 : Int32)), .unset, .unset, .unset, .unset, .unset, .unset, .unset, .unset, .unset, .unset, .unset, .unset, .unset, .unset] [])) t → Steps p.tables e below (T0.setTop (mkF m 19 #[.val (.int p1), .val (.int p2), .val (.int p3), .val (.int p4), .val (.int q), .val (.int on), .unset, .unset, .unset, .unset, .unset, .unset, .unset, .unset, .unset, .unset, .unset, .unset, .unset, .unset, .unset] [])) t := by
  refine ⟨T0, _, X0, N0, e0, fun t kt => ?_⟩
  show Steps p.tables e below (T0.setTop (mkF m 19 #[.val (.int p1), .val (.int p2), .val (.int p3), .val (.int p4), .val (.int q), .val (.int on), .unset, .unset, .unset, .unset, .unset, .unset, .unset, .unset, .unset, .unset, .unset, .unset, .unset, .unset, .unset] [])) _
  refine XS.iloadN X0.here hx rfl (hb hby at_19) rfl ?_
  show Steps p.tables e below (T0.setTop (mkF m 20 #[.val (.int p1), .val (.int p2), .val (.int p3), .val (.int p4), .val (.int q), .val (.int on), .unset, .unset, .unset, .unset, .unset, .unset, .unset, .unset, .unset, .unset, .unset, .unset, .unset, .unset, .unset] [(.int p2)])) _
  refine XS.iconst X0.here hx rfl (hb hby at_20) ?_
  show Steps p.tables e below (T0.setTop (mkF m 21 #[.val (.int p1), .val (.int p2), .val (.int p3), .val (.int p4), .val (.int q), .val (.int on), .unset, .unset, .unset, .unset, .unset, .unset, .unset, .unset, .unset, .unset, .unset, .unset, .unset, .unset, .unset] [(.int (1 : Int32)), (.int p2)])) _
  refine XS.iand X0.here hx rfl (hb hby at_21) rfl ?_
  show Steps p.tables e below (T0.setTop (mkF m 22 #[.val (.int p1), .val (.int p2), .val (.int p3), .val (.int p4), .val (.int q), .val (.int on), .unset, .unset, .unset, .unset, .unset, .unset, .unset, .unset, .unset, .unset, .unset, .unset, .unset, .unset, .unset] [(.int (p2 &&& (1 : Int32)))])) _
  refine XS.ifNo X0.here hx rfl (hb hby at_22) rfl ((if0 _ _).trans (feq hd0).1) ?_
  show Steps p.tables e below (T0.setTop (mkF m 25 #[.val (.int p1), .val (.int p2), .val (.int p3), .val (.int p4), .val (.int q), .val (.int on), .unset, .unset, .unset, .unset, .unset, .unset, .unset, .unset, .unset, .unset, .unset, .unset, .unset, .unset, .unset] [])) _
  refine XS.iconst X0.here hx rfl (hb hby at_25) ?_
  show Steps p.tables e below (T0.setTop (mkF m 26 #[.val (.int p1), .val (.int p2), .val (.int p3), .val (.int p4), .val (.int q), .val (.int on), .unset, .unset, .unset, .unset, .unset, .unset, .unset, .unset, .unset, .unset, .unset, .unset, .unset, .unset, .unset] [(.int (1 : Int32))])) _
  refine XS.goto X0.here hx rfl (pc0 := 26) (pc' := 30) rfl (hb hby at_26) (by decide) (by decide) ?_
  show Steps p.tables e below (T0.setTop (mkF m 30 #[.val (.int p1), .val (.int p2), .val (.int p3), .val (.int p4), .val (.int q), .val (.int on), .unset, .unset, .unset, .unset, .unset, .unset, .unset, .unset, .unset, .unset, .unset, .unset, .unset, .unset, .unset] [(.int (1 : Int32))])) _
  refine XS.istore X0.here hx rfl (hb hby at_30) rfl (l' := #[.val (.int p1), .val (.int p2), .val (.int p3), .val (.int p4), .val (.int q), .val (.int on), .val (.int (1 : Int32)), .unset, .unset, .unset, .unset, .unset, .unset, .unset, .unset, .unset, .unset, .unset, .unset, .unset, .unset]) rfl ?_
  show Steps p.tables e below (T0.setTop (mkF m 32 #[.val (.int p1), .val (.int p2), .val (.int p3), .val (.int p4), .val (.int q), .val (.int on), .val (.int (1 : Int32)), .unset, .unset, .unset, .unset, .unset, .unset, .unset, .unset, .unset, .unset, .unset, .unset, .unset, .unset] [])) _
  exact kt
set_option maxRecDepth 65536 in
set_option maxHeartbeats 40000000 in
theorem lB10 {p : Program} {l : Launch} {e : Env} {s : State} {m : MethodId} {args : Array Value} {below : List Frame} {meth : Method} {c : Code} {T0 : State} {locs : List Loc} {Z : State} {a0 : Array Value} {h0 : Heap} {n0 : Nat} (p1 : Int32) (p2 : Int32) (p3 : Int32) (p4 : Int32) (q : Int32) (on : Int32) (f1 : Int32)
    (X0 : Stand p l e room_1 s m args below meth c T0 locs 0 0) (hx : p.tables.exec = Jvm.exec) (hZ : Z.Warmed39 s.vm) (hw : ∀ d ∈ tables_1, d.before a0 Z = true) (hby : c.code = code) (hml : c.maxLocals = 21) (hown : s.vm.findClass "com/example/caprice/caprice/solver/DomainsRemovalsRestOnPinLaw" = some m.cls) (e0 : T0.heap = h0) (N0 : Fr n0 locs) (O0 : Old Z n0 h0) (hd0 : (p2 &&& (2 : Int32)) = (0 : Int32)) :
    ∃ (T' : State) (locs' : List Loc), Stand p l e room_1 s m args below meth c T' locs' 0 0 ∧ Fr n0 locs' ∧ T'.heap = h0 ∧ ∀ t, Steps p.tables e below (T'.setTop (mkF m 45 #[.val (.int p1), .val (.int p2), .val (.int p3), .val (.int p4), .val (.int q), .val (.int on), .val (.int f1), .val (.int (0 : Int32)), .unset, .unset, .unset, .unset, .unset, .unset, .unset, .unset, .unset, .unset, .unset, .unset, .unset] [])) t → Steps p.tables e below (T0.setTop (mkF m 32 #[.val (.int p1), .val (.int p2), .val (.int p3), .val (.int p4), .val (.int q), .val (.int on), .val (.int f1), .unset, .unset, .unset, .unset, .unset, .unset, .unset, .unset, .unset, .unset, .unset, .unset, .unset, .unset] [])) t := by
  refine ⟨T0, _, X0, N0, e0, fun t kt => ?_⟩
  show Steps p.tables e below (T0.setTop (mkF m 32 #[.val (.int p1), .val (.int p2), .val (.int p3), .val (.int p4), .val (.int q), .val (.int on), .val (.int f1), .unset, .unset, .unset, .unset, .unset, .unset, .unset, .unset, .unset, .unset, .unset, .unset, .unset, .unset] [])) _
  refine XS.iloadN X0.here hx rfl (hb hby at_32) rfl ?_
  show Steps p.tables e below (T0.setTop (mkF m 33 #[.val (.int p1), .val (.int p2), .val (.int p3), .val (.int p4), .val (.int q), .val (.int on), .val (.int f1), .unset, .unset, .unset, .unset, .unset, .unset, .unset, .unset, .unset, .unset, .unset, .unset, .unset, .unset] [(.int p2)])) _
  refine XS.iconst X0.here hx rfl (hb hby at_33) ?_
  show Steps p.tables e below (T0.setTop (mkF m 34 #[.val (.int p1), .val (.int p2), .val (.int p3), .val (.int p4), .val (.int q), .val (.int on), .val (.int f1), .unset, .unset, .unset, .unset, .unset, .unset, .unset, .unset, .unset, .unset, .unset, .unset, .unset, .unset] [(.int (2 : Int32)), (.int p2)])) _
  refine XS.iand X0.here hx rfl (hb hby at_34) rfl ?_
  show Steps p.tables e below (T0.setTop (mkF m 35 #[.val (.int p1), .val (.int p2), .val (.int p3), .val (.int p4), .val (.int q), .val (.int on), .val (.int f1), .unset, .unset, .unset, .unset, .unset, .unset, .unset, .unset, .unset, .unset, .unset, .unset, .unset, .unset] [(.int (p2 &&& (2 : Int32)))])) _
  refine XS.ifYes X0.here hx rfl (pc0 := 35) (pc' := 42) rfl (hb hby at_35) rfl ((if0 _ _).trans (teq hd0).1) (by decide) (by decide) ?_
  show Steps p.tables e below (T0.setTop (mkF m 42 #[.val (.int p1), .val (.int p2), .val (.int p3), .val (.int p4), .val (.int q), .val (.int on), .val (.int f1), .unset, .unset, .unset, .unset, .unset, .unset, .unset, .unset, .unset, .unset, .unset, .unset, .unset, .unset] [])) _
  refine XS.iconst X0.here hx rfl (hb hby at_42) ?_
  show Steps p.tables e below (T0.setTop (mkF m 43 #[.val (.int p1), .val (.int p2), .val (.int p3), .val (.int p4), .val (.int q), .val (.int on), .val (.int f1), .unset, .unset, .unset, .unset, .unset, .unset, .unset, .unset, .unset, .unset, .unset, .unset, .unset, .unset] [(.int (0 : Int32))])) _
  refine XS.istore X0.here hx rfl (hb hby at_43) rfl (l' := #[.val (.int p1), .val (.int p2), .val (.int p3), .val (.int p4), .val (.int q), .val (.int on), .val (.int f1), .val (.int (0 : Int32)), .unset, .unset, .unset, .unset, .unset, .unset, .unset, .unset, .unset, .unset, .unset, .unset, .unset]) rfl ?_
  show Steps p.tables e below (T0.setTop (mkF m 45 #[.val (.int p1), .val (.int p2), .val (.int p3), .val (.int p4), .val (.int q), .val (.int on), .val (.int f1), .val (.int (0 : Int32)), .unset, .unset, .unset, .unset, .unset, .unset, .unset, .unset, .unset, .unset, .unset, .unset, .unset] [])) _
  exact kt
set_option maxRecDepth 65536 in
set_option maxHeartbeats 40000000 in
theorem lB11 {p : Program} {l : Launch} {e : Env} {s : State} {m : MethodId} {args : Array Value} {below : List Frame} {meth : Method} {c : Code} {T0 : State} {locs : List Loc} {Z : State} {a0 : Array Value} {h0 : Heap} {n0 : Nat} (p1 : Int32) (p2 : Int32) (p3 : Int32) (p4 : Int32) (q : Int32) (on : Int32) (f1 : Int32)
    (X0 : Stand p l e room_1 s m args below meth c T0 locs 0 0) (hx : p.tables.exec = Jvm.exec) (hZ : Z.Warmed39 s.vm) (hw : ∀ d ∈ tables_1, d.before a0 Z = true) (hby : c.code = code) (hml : c.maxLocals = 21) (hown : s.vm.findClass "com/example/caprice/caprice/solver/DomainsRemovalsRestOnPinLaw" = some m.cls) (e0 : T0.heap = h0) (N0 : Fr n0 locs) (O0 : Old Z n0 h0) (hd0 : ¬ ((p2 &&& (2 : Int32)) = (0 : Int32))) :
    ∃ (T' : State) (locs' : List Loc), Stand p l e room_1 s m args below meth c T' locs' 0 0 ∧ Fr n0 locs' ∧ T'.heap = h0 ∧ ∀ t, Steps p.tables e below (T'.setTop (mkF m 45 #[.val (.int p1), .val (.int p2), .val (.int p3), .val (.int p4), .val (.int q), .val (.int on), .val (.int f1), .val (.int (1 : Int32)), .unset, .unset, .unset, .unset, .unset, .unset, .unset, .unset, .unset, .unset, .unset, .unset, .unset] [])) t → Steps p.tables e below (T0.setTop (mkF m 32 #[.val (.int p1), .val (.int p2), .val (.int p3), .val (.int p4), .val (.int q), .val (.int on), .val (.int f1), .unset, .unset, .unset, .unset, .unset, .unset, .unset, .unset, .unset, .unset, .unset, .unset, .unset, .unset] [])) t := by
  refine ⟨T0, _, X0, N0, e0, fun t kt => ?_⟩
  show Steps p.tables e below (T0.setTop (mkF m 32 #[.val (.int p1), .val (.int p2), .val (.int p3), .val (.int p4), .val (.int q), .val (.int on), .val (.int f1), .unset, .unset, .unset, .unset, .unset, .unset, .unset, .unset, .unset, .unset, .unset, .unset, .unset, .unset] [])) _
  refine XS.iloadN X0.here hx rfl (hb hby at_32) rfl ?_
  show Steps p.tables e below (T0.setTop (mkF m 33 #[.val (.int p1), .val (.int p2), .val (.int p3), .val (.int p4), .val (.int q), .val (.int on), .val (.int f1), .unset, .unset, .unset, .unset, .unset, .unset, .unset, .unset, .unset, .unset, .unset, .unset, .unset, .unset] [(.int p2)])) _
  refine XS.iconst X0.here hx rfl (hb hby at_33) ?_
  show Steps p.tables e below (T0.setTop (mkF m 34 #[.val (.int p1), .val (.int p2), .val (.int p3), .val (.int p4), .val (.int q), .val (.int on), .val (.int f1), .unset, .unset, .unset, .unset, .unset, .unset, .unset, .unset, .unset, .unset, .unset, .unset, .unset, .unset] [(.int (2 : Int32)), (.int p2)])) _
  refine XS.iand X0.here hx rfl (hb hby at_34) rfl ?_
  show Steps p.tables e below (T0.setTop (mkF m 35 #[.val (.int p1), .val (.int p2), .val (.int p3), .val (.int p4), .val (.int q), .val (.int on), .val (.int f1), .unset, .unset, .unset, .unset, .unset, .unset, .unset, .unset, .unset, .unset, .unset, .unset, .unset, .unset] [(.int (p2 &&& (2 : Int32)))])) _
  refine XS.ifNo X0.here hx rfl (hb hby at_35) rfl ((if0 _ _).trans (feq hd0).1) ?_
  show Steps p.tables e below (T0.setTop (mkF m 38 #[.val (.int p1), .val (.int p2), .val (.int p3), .val (.int p4), .val (.int q), .val (.int on), .val (.int f1), .unset, .unset, .unset, .unset, .unset, .unset, .unset, .unset, .unset, .unset, .unset, .unset, .unset, .unset] [])) _
  refine XS.iconst X0.here hx rfl (hb hby at_38) ?_
  show Steps p.tables e below (T0.setTop (mkF m 39 #[.val (.int p1), .val (.int p2), .val (.int p3), .val (.int p4), .val (.int q), .val (.int on), .val (.int f1), .unset, .unset, .unset, .unset, .unset, .unset, .unset, .unset, .unset, .unset, .unset, .unset, .unset, .unset] [(.int (1 : Int32))])) _
  refine XS.goto X0.here hx rfl (pc0 := 39) (pc' := 43) rfl (hb hby at_39) (by decide) (by decide) ?_
  show Steps p.tables e below (T0.setTop (mkF m 43 #[.val (.int p1), .val (.int p2), .val (.int p3), .val (.int p4), .val (.int q), .val (.int on), .val (.int f1), .unset, .unset, .unset, .unset, .unset, .unset, .unset, .unset, .unset, .unset, .unset, .unset, .unset, .unset] [(.int (1 : Int32))])) _
  refine XS.istore X0.here hx rfl (hb hby at_43) rfl (l' := #[.val (.int p1), .val (.int p2), .val (.int p3), .val (.int p4), .val (.int q), .val (.int on), .val (.int f1), .val (.int (1 : Int32)), .unset, .unset, .unset, .unset, .unset, .unset, .unset, .unset, .unset, .unset, .unset, .unset, .unset]) rfl ?_
  show Steps p.tables e below (T0.setTop (mkF m 45 #[.val (.int p1), .val (.int p2), .val (.int p3), .val (.int p4), .val (.int q), .val (.int on), .val (.int f1), .val (.int (1 : Int32)), .unset, .unset, .unset, .unset, .unset, .unset, .unset, .unset, .unset, .unset, .unset, .unset, .unset] [])) _
  exact kt
set_option maxRecDepth 65536 in
set_option maxHeartbeats 40000000 in
theorem lB20 {p : Program} {l : Launch} {e : Env} {s : State} {m : MethodId} {args : Array Value} {below : List Frame} {meth : Method} {c : Code} {T0 : State} {locs : List Loc} {Z : State} {a0 : Array Value} {h0 : Heap} {n0 : Nat} (p1 : Int32) (p2 : Int32) (p3 : Int32) (p4 : Int32) (q : Int32) (on : Int32) (f1 : Int32) (f2 : Int32)
    (X0 : Stand p l e room_1 s m args below meth c T0 locs 0 0) (hx : p.tables.exec = Jvm.exec) (hZ : Z.Warmed39 s.vm) (hw : ∀ d ∈ tables_1, d.before a0 Z = true) (hby : c.code = code) (hml : c.maxLocals = 21) (hown : s.vm.findClass "com/example/caprice/caprice/solver/DomainsRemovalsRestOnPinLaw" = some m.cls) (e0 : T0.heap = h0) (N0 : Fr n0 locs) (O0 : Old Z n0 h0) (hd0 : (p2 &&& (4 : Int32)) = (0 : Int32)) :
    ∃ (T' : State) (locs' : List Loc), Stand p l e room_1 s m args below meth c T' locs' 0 0 ∧ Fr n0 locs' ∧ T'.heap = h0 ∧ ∀ t, Steps p.tables e below (T'.setTop (mkF m 58 #[.val (.int p1), .val (.int p2), .val (.int p3), .val (.int p4), .val (.int q), .val (.int on), .val (.int f1), .val (.int f2), .val (.int (0 : Int32)), .unset, .unset, .unset, .unset, .unset, .unset, .unset, .unset, .unset, .unset, .unset, .unset] [])) t → Steps p.tables e below (T0.setTop (mkF m 45 #[.val (.int p1), .val (.int p2), .val (.int p3), .val (.int p4), .val (.int q), .val (.int on), .val (.int f1), .val (.int f2), .unset, .unset, .unset, .unset, .unset, .unset, .unset, .unset, .unset, .unset, .unset, .unset, .unset] [])) t := by
  refine ⟨T0, _, X0, N0, e0, fun t kt => ?_⟩
  show Steps p.tables e below (T0.setTop (mkF m 45 #[.val (.int p1), .val (.int p2), .val (.int p3), .val (.int p4), .val (.int q), .val (.int on), .val (.int f1), .val (.int f2), .unset, .unset, .unset, .unset, .unset, .unset, .unset, .unset, .unset, .unset, .unset, .unset, .unset] [])) _
  refine XS.iloadN X0.here hx rfl (hb hby at_45) rfl ?_
  show Steps p.tables e below (T0.setTop (mkF m 46 #[.val (.int p1), .val (.int p2), .val (.int p3), .val (.int p4), .val (.int q), .val (.int on), .val (.int f1), .val (.int f2), .unset, .unset, .unset, .unset, .unset, .unset, .unset, .unset, .unset, .unset, .unset, .unset, .unset] [(.int p2)])) _
  refine XS.iconst X0.here hx rfl (hb hby at_46) ?_
  show Steps p.tables e below (T0.setTop (mkF m 47 #[.val (.int p1), .val (.int p2), .val (.int p3), .val (.int p4), .val (.int q), .val (.int on), .val (.int f1), .val (.int f2), .unset, .unset, .unset, .unset, .unset, .unset, .unset, .unset, .unset, .unset, .unset, .unset, .unset] [(.int (4 : Int32)), (.int p2)])) _
  refine XS.iand X0.here hx rfl (hb hby at_47) rfl ?_
  show Steps p.tables e below (T0.setTop (mkF m 48 #[.val (.int p1), .val (.int p2), .val (.int p3), .val (.int p4), .val (.int q), .val (.int on), .val (.int f1), .val (.int f2), .unset, .unset, .unset, .unset, .unset, .unset, .unset, .unset, .unset, .unset, .unset, .unset, .unset] [(.int (p2 &&& (4 : Int32)))])) _
  refine XS.ifYes X0.here hx rfl (pc0 := 48) (pc' := 55) rfl (hb hby at_48) rfl ((if0 _ _).trans (teq hd0).1) (by decide) (by decide) ?_
  show Steps p.tables e below (T0.setTop (mkF m 55 #[.val (.int p1), .val (.int p2), .val (.int p3), .val (.int p4), .val (.int q), .val (.int on), .val (.int f1), .val (.int f2), .unset, .unset, .unset, .unset, .unset, .unset, .unset, .unset, .unset, .unset, .unset, .unset, .unset] [])) _
  refine XS.iconst X0.here hx rfl (hb hby at_55) ?_
  show Steps p.tables e below (T0.setTop (mkF m 56 #[.val (.int p1), .val (.int p2), .val (.int p3), .val (.int p4), .val (.int q), .val (.int on), .val (.int f1), .val (.int f2), .unset, .unset, .unset, .unset, .unset, .unset, .unset, .unset, .unset, .unset, .unset, .unset, .unset] [(.int (0 : Int32))])) _
  refine XS.istore X0.here hx rfl (hb hby at_56) rfl (l' := #[.val (.int p1), .val (.int p2), .val (.int p3), .val (.int p4), .val (.int q), .val (.int on), .val (.int f1), .val (.int f2), .val (.int (0 : Int32)), .unset, .unset, .unset, .unset, .unset, .unset, .unset, .unset, .unset, .unset, .unset, .unset]) rfl ?_
  show Steps p.tables e below (T0.setTop (mkF m 58 #[.val (.int p1), .val (.int p2), .val (.int p3), .val (.int p4), .val (.int q), .val (.int on), .val (.int f1), .val (.int f2), .val (.int (0 : Int32)), .unset, .unset, .unset, .unset, .unset, .unset, .unset, .unset, .unset, .unset, .unset, .unset] [])) _
  exact kt
set_option maxRecDepth 65536 in
set_option maxHeartbeats 40000000 in
theorem lB21 {p : Program} {l : Launch} {e : Env} {s : State} {m : MethodId} {args : Array Value} {below : List Frame} {meth : Method} {c : Code} {T0 : State} {locs : List Loc} {Z : State} {a0 : Array Value} {h0 : Heap} {n0 : Nat} (p1 : Int32) (p2 : Int32) (p3 : Int32) (p4 : Int32) (q : Int32) (on : Int32) (f1 : Int32) (f2 : Int32)
    (X0 : Stand p l e room_1 s m args below meth c T0 locs 0 0) (hx : p.tables.exec = Jvm.exec) (hZ : Z.Warmed39 s.vm) (hw : ∀ d ∈ tables_1, d.before a0 Z = true) (hby : c.code = code) (hml : c.maxLocals = 21) (hown : s.vm.findClass "com/example/caprice/caprice/solver/DomainsRemovalsRestOnPinLaw" = some m.cls) (e0 : T0.heap = h0) (N0 : Fr n0 locs) (O0 : Old Z n0 h0) (hd0 : ¬ ((p2 &&& (4 : Int32)) = (0 : Int32))) :
    ∃ (T' : State) (locs' : List Loc), Stand p l e room_1 s m args below meth c T' locs' 0 0 ∧ Fr n0 locs' ∧ T'.heap = h0 ∧ ∀ t, Steps p.tables e below (T'.setTop (mkF m 58 #[.val (.int p1), .val (.int p2), .val (.int p3), .val (.int p4), .val (.int q), .val (.int on), .val (.int f1), .val (.int f2), .val (.int (1 : Int32)), .unset, .unset, .unset, .unset, .unset, .unset, .unset, .unset, .unset, .unset, .unset, .unset] [])) t → Steps p.tables e below (T0.setTop (mkF m 45 #[.val (.int p1), .val (.int p2), .val (.int p3), .val (.int p4), .val (.int q), .val (.int on), .val (.int f1), .val (.int f2), .unset, .unset, .unset, .unset, .unset, .unset, .unset, .unset, .unset, .unset, .unset, .unset, .unset] [])) t := by
  refine ⟨T0, _, X0, N0, e0, fun t kt => ?_⟩
  show Steps p.tables e below (T0.setTop (mkF m 45 #[.val (.int p1), .val (.int p2), .val (.int p3), .val (.int p4), .val (.int q), .val (.int on), .val (.int f1), .val (.int f2), .unset, .unset, .unset, .unset, .unset, .unset, .unset, .unset, .unset, .unset, .unset, .unset, .unset] [])) _
  refine XS.iloadN X0.here hx rfl (hb hby at_45) rfl ?_
  show Steps p.tables e below (T0.setTop (mkF m 46 #[.val (.int p1), .val (.int p2), .val (.int p3), .val (.int p4), .val (.int q), .val (.int on), .val (.int f1), .val (.int f2), .unset, .unset, .unset, .unset, .unset, .unset, .unset, .unset, .unset, .unset, .unset, .unset, .unset] [(.int p2)])) _
  refine XS.iconst X0.here hx rfl (hb hby at_46) ?_
  show Steps p.tables e below (T0.setTop (mkF m 47 #[.val (.int p1), .val (.int p2), .val (.int p3), .val (.int p4), .val (.int q), .val (.int on), .val (.int f1), .val (.int f2), .unset, .unset, .unset, .unset, .unset, .unset, .unset, .unset, .unset, .unset, .unset, .unset, .unset] [(.int (4 : Int32)), (.int p2)])) _
  refine XS.iand X0.here hx rfl (hb hby at_47) rfl ?_
  show Steps p.tables e below (T0.setTop (mkF m 48 #[.val (.int p1), .val (.int p2), .val (.int p3), .val (.int p4), .val (.int q), .val (.int on), .val (.int f1), .val (.int f2), .unset, .unset, .unset, .unset, .unset, .unset, .unset, .unset, .unset, .unset, .unset, .unset, .unset] [(.int (p2 &&& (4 : Int32)))])) _
  refine XS.ifNo X0.here hx rfl (hb hby at_48) rfl ((if0 _ _).trans (feq hd0).1) ?_
  show Steps p.tables e below (T0.setTop (mkF m 51 #[.val (.int p1), .val (.int p2), .val (.int p3), .val (.int p4), .val (.int q), .val (.int on), .val (.int f1), .val (.int f2), .unset, .unset, .unset, .unset, .unset, .unset, .unset, .unset, .unset, .unset, .unset, .unset, .unset] [])) _
  refine XS.iconst X0.here hx rfl (hb hby at_51) ?_
  show Steps p.tables e below (T0.setTop (mkF m 52 #[.val (.int p1), .val (.int p2), .val (.int p3), .val (.int p4), .val (.int q), .val (.int on), .val (.int f1), .val (.int f2), .unset, .unset, .unset, .unset, .unset, .unset, .unset, .unset, .unset, .unset, .unset, .unset, .unset] [(.int (1 : Int32))])) _
  refine XS.goto X0.here hx rfl (pc0 := 52) (pc' := 56) rfl (hb hby at_52) (by decide) (by decide) ?_
  show Steps p.tables e below (T0.setTop (mkF m 56 #[.val (.int p1), .val (.int p2), .val (.int p3), .val (.int p4), .val (.int q), .val (.int on), .val (.int f1), .val (.int f2), .unset, .unset, .unset, .unset, .unset, .unset, .unset, .unset, .unset, .unset, .unset, .unset, .unset] [(.int (1 : Int32))])) _
  refine XS.istore X0.here hx rfl (hb hby at_56) rfl (l' := #[.val (.int p1), .val (.int p2), .val (.int p3), .val (.int p4), .val (.int q), .val (.int on), .val (.int f1), .val (.int f2), .val (.int (1 : Int32)), .unset, .unset, .unset, .unset, .unset, .unset, .unset, .unset, .unset, .unset, .unset, .unset]) rfl ?_
  show Steps p.tables e below (T0.setTop (mkF m 58 #[.val (.int p1), .val (.int p2), .val (.int p3), .val (.int p4), .val (.int q), .val (.int on), .val (.int f1), .val (.int f2), .val (.int (1 : Int32)), .unset, .unset, .unset, .unset, .unset, .unset, .unset, .unset, .unset, .unset, .unset, .unset] [])) _
  exact kt
set_option maxRecDepth 65536 in
set_option maxHeartbeats 40000000 in
theorem lB30 {p : Program} {l : Launch} {e : Env} {s : State} {m : MethodId} {args : Array Value} {below : List Frame} {meth : Method} {c : Code} {T0 : State} {locs : List Loc} {Z : State} {a0 : Array Value} {h0 : Heap} {n0 : Nat} (p1 : Int32) (p2 : Int32) (p3 : Int32) (p4 : Int32) (q : Int32) (on : Int32) (f1 : Int32) (f2 : Int32) (f3 : Int32)
    (X0 : Stand p l e room_1 s m args below meth c T0 locs 0 0) (hx : p.tables.exec = Jvm.exec) (hZ : Z.Warmed39 s.vm) (hw : ∀ d ∈ tables_1, d.before a0 Z = true) (hby : c.code = code) (hml : c.maxLocals = 21) (hown : s.vm.findClass "com/example/caprice/caprice/solver/DomainsRemovalsRestOnPinLaw" = some m.cls) (e0 : T0.heap = h0) (N0 : Fr n0 locs) (O0 : Old Z n0 h0) (hd0 : (p2 &&& (8 : Int32)) = (0 : Int32)) :
    ∃ (T' : State) (locs' : List Loc), Stand p l e room_1 s m args below meth c T' locs' 0 0 ∧ Fr n0 locs' ∧ T'.heap = h0 ∧ ∀ t, Steps p.tables e below (T'.setTop (mkF m 72 #[.val (.int p1), .val (.int p2), .val (.int p3), .val (.int p4), .val (.int q), .val (.int on), .val (.int f1), .val (.int f2), .val (.int f3), .val (.int (0 : Int32)), .unset, .unset, .unset, .unset, .unset, .unset, .unset, .unset, .unset, .unset, .unset] [])) t → Steps p.tables e below (T0.setTop (mkF m 58 #[.val (.int p1), .val (.int p2), .val (.int p3), .val (.int p4), .val (.int q), .val (.int on), .val (.int f1), .val (.int f2), .val (.int f3), .unset, .unset, .unset, .unset, .unset, .unset, .unset, .unset, .unset, .unset, .unset, .unset] [])) t := by
  refine ⟨T0, _, X0, N0, e0, fun t kt => ?_⟩
  show Steps p.tables e below (T0.setTop (mkF m 58 #[.val (.int p1), .val (.int p2), .val (.int p3), .val (.int p4), .val (.int q), .val (.int on), .val (.int f1), .val (.int f2), .val (.int f3), .unset, .unset, .unset, .unset, .unset, .unset, .unset, .unset, .unset, .unset, .unset, .unset] [])) _
  refine XS.iloadN X0.here hx rfl (hb hby at_58) rfl ?_
  show Steps p.tables e below (T0.setTop (mkF m 59 #[.val (.int p1), .val (.int p2), .val (.int p3), .val (.int p4), .val (.int q), .val (.int on), .val (.int f1), .val (.int f2), .val (.int f3), .unset, .unset, .unset, .unset, .unset, .unset, .unset, .unset, .unset, .unset, .unset, .unset] [(.int p2)])) _
  refine XS.bipush X0.here hx rfl (hb hby at_59) ?_
  show Steps p.tables e below (T0.setTop (mkF m 61 #[.val (.int p1), .val (.int p2), .val (.int p3), .val (.int p4), .val (.int q), .val (.int on), .val (.int f1), .val (.int f2), .val (.int f3), .unset, .unset, .unset, .unset, .unset, .unset, .unset, .unset, .unset, .unset, .unset, .unset] [(.int (8 : Int32)), (.int p2)])) _
  refine XS.iand X0.here hx rfl (hb hby at_61) rfl ?_
  show Steps p.tables e below (T0.setTop (mkF m 62 #[.val (.int p1), .val (.int p2), .val (.int p3), .val (.int p4), .val (.int q), .val (.int on), .val (.int f1), .val (.int f2), .val (.int f3), .unset, .unset, .unset, .unset, .unset, .unset, .unset, .unset, .unset, .unset, .unset, .unset] [(.int (p2 &&& (8 : Int32)))])) _
  refine XS.ifYes X0.here hx rfl (pc0 := 62) (pc' := 69) rfl (hb hby at_62) rfl ((if0 _ _).trans (teq hd0).1) (by decide) (by decide) ?_
  show Steps p.tables e below (T0.setTop (mkF m 69 #[.val (.int p1), .val (.int p2), .val (.int p3), .val (.int p4), .val (.int q), .val (.int on), .val (.int f1), .val (.int f2), .val (.int f3), .unset, .unset, .unset, .unset, .unset, .unset, .unset, .unset, .unset, .unset, .unset, .unset] [])) _
  refine XS.iconst X0.here hx rfl (hb hby at_69) ?_
  show Steps p.tables e below (T0.setTop (mkF m 70 #[.val (.int p1), .val (.int p2), .val (.int p3), .val (.int p4), .val (.int q), .val (.int on), .val (.int f1), .val (.int f2), .val (.int f3), .unset, .unset, .unset, .unset, .unset, .unset, .unset, .unset, .unset, .unset, .unset, .unset] [(.int (0 : Int32))])) _
  refine XS.istore X0.here hx rfl (hb hby at_70) rfl (l' := #[.val (.int p1), .val (.int p2), .val (.int p3), .val (.int p4), .val (.int q), .val (.int on), .val (.int f1), .val (.int f2), .val (.int f3), .val (.int (0 : Int32)), .unset, .unset, .unset, .unset, .unset, .unset, .unset, .unset, .unset, .unset, .unset]) rfl ?_
  show Steps p.tables e below (T0.setTop (mkF m 72 #[.val (.int p1), .val (.int p2), .val (.int p3), .val (.int p4), .val (.int q), .val (.int on), .val (.int f1), .val (.int f2), .val (.int f3), .val (.int (0 : Int32)), .unset, .unset, .unset, .unset, .unset, .unset, .unset, .unset, .unset, .unset, .unset] [])) _
  exact kt
set_option maxRecDepth 65536 in
set_option maxHeartbeats 40000000 in
theorem lB31 {p : Program} {l : Launch} {e : Env} {s : State} {m : MethodId} {args : Array Value} {below : List Frame} {meth : Method} {c : Code} {T0 : State} {locs : List Loc} {Z : State} {a0 : Array Value} {h0 : Heap} {n0 : Nat} (p1 : Int32) (p2 : Int32) (p3 : Int32) (p4 : Int32) (q : Int32) (on : Int32) (f1 : Int32) (f2 : Int32) (f3 : Int32)
    (X0 : Stand p l e room_1 s m args below meth c T0 locs 0 0) (hx : p.tables.exec = Jvm.exec) (hZ : Z.Warmed39 s.vm) (hw : ∀ d ∈ tables_1, d.before a0 Z = true) (hby : c.code = code) (hml : c.maxLocals = 21) (hown : s.vm.findClass "com/example/caprice/caprice/solver/DomainsRemovalsRestOnPinLaw" = some m.cls) (e0 : T0.heap = h0) (N0 : Fr n0 locs) (O0 : Old Z n0 h0) (hd0 : ¬ ((p2 &&& (8 : Int32)) = (0 : Int32))) :
    ∃ (T' : State) (locs' : List Loc), Stand p l e room_1 s m args below meth c T' locs' 0 0 ∧ Fr n0 locs' ∧ T'.heap = h0 ∧ ∀ t, Steps p.tables e below (T'.setTop (mkF m 72 #[.val (.int p1), .val (.int p2), .val (.int p3), .val (.int p4), .val (.int q), .val (.int on), .val (.int f1), .val (.int f2), .val (.int f3), .val (.int (1 : Int32)), .unset, .unset, .unset, .unset, .unset, .unset, .unset, .unset, .unset, .unset, .unset] [])) t → Steps p.tables e below (T0.setTop (mkF m 58 #[.val (.int p1), .val (.int p2), .val (.int p3), .val (.int p4), .val (.int q), .val (.int on), .val (.int f1), .val (.int f2), .val (.int f3), .unset, .unset, .unset, .unset, .unset, .unset, .unset, .unset, .unset, .unset, .unset, .unset] [])) t := by
  refine ⟨T0, _, X0, N0, e0, fun t kt => ?_⟩
  show Steps p.tables e below (T0.setTop (mkF m 58 #[.val (.int p1), .val (.int p2), .val (.int p3), .val (.int p4), .val (.int q), .val (.int on), .val (.int f1), .val (.int f2), .val (.int f3), .unset, .unset, .unset, .unset, .unset, .unset, .unset, .unset, .unset, .unset, .unset, .unset] [])) _
  refine XS.iloadN X0.here hx rfl (hb hby at_58) rfl ?_
  show Steps p.tables e below (T0.setTop (mkF m 59 #[.val (.int p1), .val (.int p2), .val (.int p3), .val (.int p4), .val (.int q), .val (.int on), .val (.int f1), .val (.int f2), .val (.int f3), .unset, .unset, .unset, .unset, .unset, .unset, .unset, .unset, .unset, .unset, .unset, .unset] [(.int p2)])) _
  refine XS.bipush X0.here hx rfl (hb hby at_59) ?_
  show Steps p.tables e below (T0.setTop (mkF m 61 #[.val (.int p1), .val (.int p2), .val (.int p3), .val (.int p4), .val (.int q), .val (.int on), .val (.int f1), .val (.int f2), .val (.int f3), .unset, .unset, .unset, .unset, .unset, .unset, .unset, .unset, .unset, .unset, .unset, .unset] [(.int (8 : Int32)), (.int p2)])) _
  refine XS.iand X0.here hx rfl (hb hby at_61) rfl ?_
  show Steps p.tables e below (T0.setTop (mkF m 62 #[.val (.int p1), .val (.int p2), .val (.int p3), .val (.int p4), .val (.int q), .val (.int on), .val (.int f1), .val (.int f2), .val (.int f3), .unset, .unset, .unset, .unset, .unset, .unset, .unset, .unset, .unset, .unset, .unset, .unset] [(.int (p2 &&& (8 : Int32)))])) _
  refine XS.ifNo X0.here hx rfl (hb hby at_62) rfl ((if0 _ _).trans (feq hd0).1) ?_
  show Steps p.tables e below (T0.setTop (mkF m 65 #[.val (.int p1), .val (.int p2), .val (.int p3), .val (.int p4), .val (.int q), .val (.int on), .val (.int f1), .val (.int f2), .val (.int f3), .unset, .unset, .unset, .unset, .unset, .unset, .unset, .unset, .unset, .unset, .unset, .unset] [])) _
  refine XS.iconst X0.here hx rfl (hb hby at_65) ?_
  show Steps p.tables e below (T0.setTop (mkF m 66 #[.val (.int p1), .val (.int p2), .val (.int p3), .val (.int p4), .val (.int q), .val (.int on), .val (.int f1), .val (.int f2), .val (.int f3), .unset, .unset, .unset, .unset, .unset, .unset, .unset, .unset, .unset, .unset, .unset, .unset] [(.int (1 : Int32))])) _
  refine XS.goto X0.here hx rfl (pc0 := 66) (pc' := 70) rfl (hb hby at_66) (by decide) (by decide) ?_
  show Steps p.tables e below (T0.setTop (mkF m 70 #[.val (.int p1), .val (.int p2), .val (.int p3), .val (.int p4), .val (.int q), .val (.int on), .val (.int f1), .val (.int f2), .val (.int f3), .unset, .unset, .unset, .unset, .unset, .unset, .unset, .unset, .unset, .unset, .unset, .unset] [(.int (1 : Int32))])) _
  refine XS.istore X0.here hx rfl (hb hby at_70) rfl (l' := #[.val (.int p1), .val (.int p2), .val (.int p3), .val (.int p4), .val (.int q), .val (.int on), .val (.int f1), .val (.int f2), .val (.int f3), .val (.int (1 : Int32)), .unset, .unset, .unset, .unset, .unset, .unset, .unset, .unset, .unset, .unset, .unset]) rfl ?_
  show Steps p.tables e below (T0.setTop (mkF m 72 #[.val (.int p1), .val (.int p2), .val (.int p3), .val (.int p4), .val (.int q), .val (.int on), .val (.int f1), .val (.int f2), .val (.int f3), .val (.int (1 : Int32)), .unset, .unset, .unset, .unset, .unset, .unset, .unset, .unset, .unset, .unset, .unset] [])) _
  exact kt
set_option maxRecDepth 65536 in
set_option maxHeartbeats 40000000 in
theorem lC {p : Program} {l : Launch} {e : Env} {s : State} {m : MethodId} {args : Array Value} {below : List Frame} {meth : Method} {c : Code} {T0 : State} {locs : List Loc} {Z : State} {a0 : Array Value} {h0 : Heap} {n0 : Nat} (p1 : Int32) (p2 : Int32) (p3 : Int32) (p4 : Int32) (q : Int32) (on : Int32) (f1 : Int32) (f2 : Int32) (f3 : Int32) (f4 : Int32)
    (X0 : Stand p l e room_1 s m args below meth c T0 locs 0 0) (hx : p.tables.exec = Jvm.exec) (hZ : Z.Warmed39 s.vm) (hw : ∀ d ∈ tables_1, d.before a0 Z = true) (hby : c.code = code) (hml : c.maxLocals = 21) (hown : s.vm.findClass "com/example/caprice/caprice/solver/DomainsRemovalsRestOnPinLaw" = some m.cls) (e0 : T0.heap = h0) (N0 : Fr n0 locs) (O0 : Old Z n0 h0) :
    ∃ (T' : State) (locs' : List Loc), Stand p l e room_1 s m args below meth c T' locs' 0 0 ∧ Fr n0 locs' ∧ T'.heap = h0 ∧ ∀ t, Steps p.tables e below (T'.setTop (mkF m 99 #[.val (.int p1), .val (.int p2), .val (.int p3), .val (.int p4), .val (.int q), .val (.int on), .val (.int f1), .val (.int f2), .val (.int f3), .val (.int f4), .val (.int ((((p2.toUInt32 >>> ((4 : Int32) &&& 31).toUInt32).toInt32) &&& (255 : Int32)) % (3 : Int32))), .val (.int (((((((p2.toUInt32 >>> ((4 : Int32) &&& 31).toUInt32).toInt32) &&& (255 : Int32)) % (3 : Int32)) + (1 : Int32)) + (((p2.toUInt32 >>> ((12 : Int32) &&& 31).toUInt32).toInt32) &&& (1 : Int32))) % (3 : Int32))), .unset, .unset, .unset, .unset, .unset, .unset, .unset, .unset, .unset] [(.int p3)])) t → Steps p.tables e below (T0.setTop (mkF m 72 #[.val (.int p1), .val (.int p2), .val (.int p3), .val (.int p4), .val (.int q), .val (.int on), .val (.int f1), .val (.int f2), .val (.int f3), .val (.int f4), .unset, .unset, .unset, .unset, .unset, .unset, .unset, .unset, .unset, .unset, .unset] [])) t := by
  refine ⟨T0, _, X0, N0, e0, fun t kt => ?_⟩
  show Steps p.tables e below (T0.setTop (mkF m 72 #[.val (.int p1), .val (.int p2), .val (.int p3), .val (.int p4), .val (.int q), .val (.int on), .val (.int f1), .val (.int f2), .val (.int f3), .val (.int f4), .unset, .unset, .unset, .unset, .unset, .unset, .unset, .unset, .unset, .unset, .unset] [])) _
  refine XS.iloadN X0.here hx rfl (hb hby at_72) rfl ?_
  show Steps p.tables e below (T0.setTop (mkF m 73 #[.val (.int p1), .val (.int p2), .val (.int p3), .val (.int p4), .val (.int q), .val (.int on), .val (.int f1), .val (.int f2), .val (.int f3), .val (.int f4), .unset, .unset, .unset, .unset, .unset, .unset, .unset, .unset, .unset, .unset, .unset] [(.int p2)])) _
  refine XS.iconst X0.here hx rfl (hb hby at_73) ?_
  show Steps p.tables e below (T0.setTop (mkF m 74 #[.val (.int p1), .val (.int p2), .val (.int p3), .val (.int p4), .val (.int q), .val (.int on), .val (.int f1), .val (.int f2), .val (.int f3), .val (.int f4), .unset, .unset, .unset, .unset, .unset, .unset, .unset, .unset, .unset, .unset, .unset] [(.int (4 : Int32)), (.int p2)])) _
  refine XS.iushr X0.here hx rfl (hb hby at_74) rfl ?_
  show Steps p.tables e below (T0.setTop (mkF m 75 #[.val (.int p1), .val (.int p2), .val (.int p3), .val (.int p4), .val (.int q), .val (.int on), .val (.int f1), .val (.int f2), .val (.int f3), .val (.int f4), .unset, .unset, .unset, .unset, .unset, .unset, .unset, .unset, .unset, .unset, .unset] [(.int ((p2.toUInt32 >>> ((4 : Int32) &&& 31).toUInt32).toInt32))])) _
  refine XS.sipush X0.here hx rfl (hb hby at_75) ?_
  show Steps p.tables e below (T0.setTop (mkF m 78 #[.val (.int p1), .val (.int p2), .val (.int p3), .val (.int p4), .val (.int q), .val (.int on), .val (.int f1), .val (.int f2), .val (.int f3), .val (.int f4), .unset, .unset, .unset, .unset, .unset, .unset, .unset, .unset, .unset, .unset, .unset] [(.int (255 : Int32)), (.int ((p2.toUInt32 >>> ((4 : Int32) &&& 31).toUInt32).toInt32))])) _
  refine XS.iand X0.here hx rfl (hb hby at_78) rfl ?_
  show Steps p.tables e below (T0.setTop (mkF m 79 #[.val (.int p1), .val (.int p2), .val (.int p3), .val (.int p4), .val (.int q), .val (.int on), .val (.int f1), .val (.int f2), .val (.int f3), .val (.int f4), .unset, .unset, .unset, .unset, .unset, .unset, .unset, .unset, .unset, .unset, .unset] [(.int (((p2.toUInt32 >>> ((4 : Int32) &&& 31).toUInt32).toInt32) &&& (255 : Int32)))])) _
  refine XS.iconst X0.here hx rfl (hb hby at_79) ?_
  show Steps p.tables e below (T0.setTop (mkF m 80 #[.val (.int p1), .val (.int p2), .val (.int p3), .val (.int p4), .val (.int q), .val (.int on), .val (.int f1), .val (.int f2), .val (.int f3), .val (.int f4), .unset, .unset, .unset, .unset, .unset, .unset, .unset, .unset, .unset, .unset, .unset] [(.int (3 : Int32)), (.int (((p2.toUInt32 >>> ((4 : Int32) &&& 31).toUInt32).toInt32) &&& (255 : Int32)))])) _
  refine iremM X0 hx rfl (hb hby at_80) rfl (by decide) ?_
  show Steps p.tables e below (T0.setTop (mkF m 81 #[.val (.int p1), .val (.int p2), .val (.int p3), .val (.int p4), .val (.int q), .val (.int on), .val (.int f1), .val (.int f2), .val (.int f3), .val (.int f4), .unset, .unset, .unset, .unset, .unset, .unset, .unset, .unset, .unset, .unset, .unset] [(.int ((((p2.toUInt32 >>> ((4 : Int32) &&& 31).toUInt32).toInt32) &&& (255 : Int32)) % (3 : Int32)))])) _
  refine XS.istore X0.here hx rfl (hb hby at_81) rfl (l' := #[.val (.int p1), .val (.int p2), .val (.int p3), .val (.int p4), .val (.int q), .val (.int on), .val (.int f1), .val (.int f2), .val (.int f3), .val (.int f4), .val (.int ((((p2.toUInt32 >>> ((4 : Int32) &&& 31).toUInt32).toInt32) &&& (255 : Int32)) % (3 : Int32))), .unset, .unset, .unset, .unset, .unset, .unset, .unset, .unset, .unset, .unset]) rfl ?_
  show Steps p.tables e below (T0.setTop (mkF m 83 #[.val (.int p1), .val (.int p2), .val (.int p3), .val (.int p4), .val (.int q), .val (.int on), .val (.int f1), .val (.int f2), .val (.int f3), .val (.int f4), .val (.int ((((p2.toUInt32 >>> ((4 : Int32) &&& 31).toUInt32).toInt32) &&& (255 : Int32)) % (3 : Int32))), .unset, .unset, .unset, .unset, .unset, .unset, .unset, .unset, .unset, .unset] [])) _
  refine XS.iload X0.here hx rfl (hb hby at_83) rfl ?_
  show Steps p.tables e below (T0.setTop (mkF m 85 #[.val (.int p1), .val (.int p2), .val (.int p3), .val (.int p4), .val (.int q), .val (.int on), .val (.int f1), .val (.int f2), .val (.int f3), .val (.int f4), .val (.int ((((p2.toUInt32 >>> ((4 : Int32) &&& 31).toUInt32).toInt32) &&& (255 : Int32)) % (3 : Int32))), .unset, .unset, .unset, .unset, .unset, .unset, .unset, .unset, .unset, .unset] [(.int ((((p2.toUInt32 >>> ((4 : Int32) &&& 31).toUInt32).toInt32) &&& (255 : Int32)) % (3 : Int32)))])) _
  refine XS.iconst X0.here hx rfl (hb hby at_85) ?_
  show Steps p.tables e below (T0.setTop (mkF m 86 #[.val (.int p1), .val (.int p2), .val (.int p3), .val (.int p4), .val (.int q), .val (.int on), .val (.int f1), .val (.int f2), .val (.int f3), .val (.int f4), .val (.int ((((p2.toUInt32 >>> ((4 : Int32) &&& 31).toUInt32).toInt32) &&& (255 : Int32)) % (3 : Int32))), .unset, .unset, .unset, .unset, .unset, .unset, .unset, .unset, .unset, .unset] [(.int (1 : Int32)), (.int ((((p2.toUInt32 >>> ((4 : Int32) &&& 31).toUInt32).toInt32) &&& (255 : Int32)) % (3 : Int32)))])) _
  refine XS.iadd X0.here hx rfl (hb hby at_86) rfl ?_
  show Steps p.tables e below (T0.setTop (mkF m 87 #[.val (.int p1), .val (.int p2), .val (.int p3), .val (.int p4), .val (.int q), .val (.int on), .val (.int f1), .val (.int f2), .val (.int f3), .val (.int f4), .val (.int ((((p2.toUInt32 >>> ((4 : Int32) &&& 31).toUInt32).toInt32) &&& (255 : Int32)) % (3 : Int32))), .unset, .unset, .unset, .unset, .unset, .unset, .unset, .unset, .unset, .unset] [(.int (((((p2.toUInt32 >>> ((4 : Int32) &&& 31).toUInt32).toInt32) &&& (255 : Int32)) % (3 : Int32)) + (1 : Int32)))])) _
  refine XS.iloadN X0.here hx rfl (hb hby at_87) rfl ?_
  show Steps p.tables e below (T0.setTop (mkF m 88 #[.val (.int p1), .val (.int p2), .val (.int p3), .val (.int p4), .val (.int q), .val (.int on), .val (.int f1), .val (.int f2), .val (.int f3), .val (.int f4), .val (.int ((((p2.toUInt32 >>> ((4 : Int32) &&& 31).toUInt32).toInt32) &&& (255 : Int32)) % (3 : Int32))), .unset, .unset, .unset, .unset, .unset, .unset, .unset, .unset, .unset, .unset] [(.int p2), (.int (((((p2.toUInt32 >>> ((4 : Int32) &&& 31).toUInt32).toInt32) &&& (255 : Int32)) % (3 : Int32)) + (1 : Int32)))])) _
  refine XS.bipush X0.here hx rfl (hb hby at_88) ?_
  show Steps p.tables e below (T0.setTop (mkF m 90 #[.val (.int p1), .val (.int p2), .val (.int p3), .val (.int p4), .val (.int q), .val (.int on), .val (.int f1), .val (.int f2), .val (.int f3), .val (.int f4), .val (.int ((((p2.toUInt32 >>> ((4 : Int32) &&& 31).toUInt32).toInt32) &&& (255 : Int32)) % (3 : Int32))), .unset, .unset, .unset, .unset, .unset, .unset, .unset, .unset, .unset, .unset] [(.int (12 : Int32)), (.int p2), (.int (((((p2.toUInt32 >>> ((4 : Int32) &&& 31).toUInt32).toInt32) &&& (255 : Int32)) % (3 : Int32)) + (1 : Int32)))])) _
  refine XS.iushr X0.here hx rfl (hb hby at_90) rfl ?_
  show Steps p.tables e below (T0.setTop (mkF m 91 #[.val (.int p1), .val (.int p2), .val (.int p3), .val (.int p4), .val (.int q), .val (.int on), .val (.int f1), .val (.int f2), .val (.int f3), .val (.int f4), .val (.int ((((p2.toUInt32 >>> ((4 : Int32) &&& 31).toUInt32).toInt32) &&& (255 : Int32)) % (3 : Int32))), .unset, .unset, .unset, .unset, .unset, .unset, .unset, .unset, .unset, .unset] [(.int ((p2.toUInt32 >>> ((12 : Int32) &&& 31).toUInt32).toInt32)), (.int (((((p2.toUInt32 >>> ((4 : Int32) &&& 31).toUInt32).toInt32) &&& (255 : Int32)) % (3 : Int32)) + (1 : Int32)))])) _
  refine XS.iconst X0.here hx rfl (hb hby at_91) ?_
  show Steps p.tables e below (T0.setTop (mkF m 92 #[.val (.int p1), .val (.int p2), .val (.int p3), .val (.int p4), .val (.int q), .val (.int on), .val (.int f1), .val (.int f2), .val (.int f3), .val (.int f4), .val (.int ((((p2.toUInt32 >>> ((4 : Int32) &&& 31).toUInt32).toInt32) &&& (255 : Int32)) % (3 : Int32))), .unset, .unset, .unset, .unset, .unset, .unset, .unset, .unset, .unset, .unset] [(.int (1 : Int32)), (.int ((p2.toUInt32 >>> ((12 : Int32) &&& 31).toUInt32).toInt32)), (.int (((((p2.toUInt32 >>> ((4 : Int32) &&& 31).toUInt32).toInt32) &&& (255 : Int32)) % (3 : Int32)) + (1 : Int32)))])) _
  refine XS.iand X0.here hx rfl (hb hby at_92) rfl ?_
  show Steps p.tables e below (T0.setTop (mkF m 93 #[.val (.int p1), .val (.int p2), .val (.int p3), .val (.int p4), .val (.int q), .val (.int on), .val (.int f1), .val (.int f2), .val (.int f3), .val (.int f4), .val (.int ((((p2.toUInt32 >>> ((4 : Int32) &&& 31).toUInt32).toInt32) &&& (255 : Int32)) % (3 : Int32))), .unset, .unset, .unset, .unset, .unset, .unset, .unset, .unset, .unset, .unset] [(.int (((p2.toUInt32 >>> ((12 : Int32) &&& 31).toUInt32).toInt32) &&& (1 : Int32))), (.int (((((p2.toUInt32 >>> ((4 : Int32) &&& 31).toUInt32).toInt32) &&& (255 : Int32)) % (3 : Int32)) + (1 : Int32)))])) _
  refine XS.iadd X0.here hx rfl (hb hby at_93) rfl ?_
  show Steps p.tables e below (T0.setTop (mkF m 94 #[.val (.int p1), .val (.int p2), .val (.int p3), .val (.int p4), .val (.int q), .val (.int on), .val (.int f1), .val (.int f2), .val (.int f3), .val (.int f4), .val (.int ((((p2.toUInt32 >>> ((4 : Int32) &&& 31).toUInt32).toInt32) &&& (255 : Int32)) % (3 : Int32))), .unset, .unset, .unset, .unset, .unset, .unset, .unset, .unset, .unset, .unset] [(.int ((((((p2.toUInt32 >>> ((4 : Int32) &&& 31).toUInt32).toInt32) &&& (255 : Int32)) % (3 : Int32)) + (1 : Int32)) + (((p2.toUInt32 >>> ((12 : Int32) &&& 31).toUInt32).toInt32) &&& (1 : Int32))))])) _
  refine XS.iconst X0.here hx rfl (hb hby at_94) ?_
  show Steps p.tables e below (T0.setTop (mkF m 95 #[.val (.int p1), .val (.int p2), .val (.int p3), .val (.int p4), .val (.int q), .val (.int on), .val (.int f1), .val (.int f2), .val (.int f3), .val (.int f4), .val (.int ((((p2.toUInt32 >>> ((4 : Int32) &&& 31).toUInt32).toInt32) &&& (255 : Int32)) % (3 : Int32))), .unset, .unset, .unset, .unset, .unset, .unset, .unset, .unset, .unset, .unset] [(.int (3 : Int32)), (.int ((((((p2.toUInt32 >>> ((4 : Int32) &&& 31).toUInt32).toInt32) &&& (255 : Int32)) % (3 : Int32)) + (1 : Int32)) + (((p2.toUInt32 >>> ((12 : Int32) &&& 31).toUInt32).toInt32) &&& (1 : Int32))))])) _
  refine iremM X0 hx rfl (hb hby at_95) rfl (by decide) ?_
  show Steps p.tables e below (T0.setTop (mkF m 96 #[.val (.int p1), .val (.int p2), .val (.int p3), .val (.int p4), .val (.int q), .val (.int on), .val (.int f1), .val (.int f2), .val (.int f3), .val (.int f4), .val (.int ((((p2.toUInt32 >>> ((4 : Int32) &&& 31).toUInt32).toInt32) &&& (255 : Int32)) % (3 : Int32))), .unset, .unset, .unset, .unset, .unset, .unset, .unset, .unset, .unset, .unset] [(.int (((((((p2.toUInt32 >>> ((4 : Int32) &&& 31).toUInt32).toInt32) &&& (255 : Int32)) % (3 : Int32)) + (1 : Int32)) + (((p2.toUInt32 >>> ((12 : Int32) &&& 31).toUInt32).toInt32) &&& (1 : Int32))) % (3 : Int32)))])) _
  refine XS.istore X0.here hx rfl (hb hby at_96) rfl (l' := #[.val (.int p1), .val (.int p2), .val (.int p3), .val (.int p4), .val (.int q), .val (.int on), .val (.int f1), .val (.int f2), .val (.int f3), .val (.int f4), .val (.int ((((p2.toUInt32 >>> ((4 : Int32) &&& 31).toUInt32).toInt32) &&& (255 : Int32)) % (3 : Int32))), .val (.int (((((((p2.toUInt32 >>> ((4 : Int32) &&& 31).toUInt32).toInt32) &&& (255 : Int32)) % (3 : Int32)) + (1 : Int32)) + (((p2.toUInt32 >>> ((12 : Int32) &&& 31).toUInt32).toInt32) &&& (1 : Int32))) % (3 : Int32))), .unset, .unset, .unset, .unset, .unset, .unset, .unset, .unset, .unset]) rfl ?_
  show Steps p.tables e below (T0.setTop (mkF m 98 #[.val (.int p1), .val (.int p2), .val (.int p3), .val (.int p4), .val (.int q), .val (.int on), .val (.int f1), .val (.int f2), .val (.int f3), .val (.int f4), .val (.int ((((p2.toUInt32 >>> ((4 : Int32) &&& 31).toUInt32).toInt32) &&& (255 : Int32)) % (3 : Int32))), .val (.int (((((((p2.toUInt32 >>> ((4 : Int32) &&& 31).toUInt32).toInt32) &&& (255 : Int32)) % (3 : Int32)) + (1 : Int32)) + (((p2.toUInt32 >>> ((12 : Int32) &&& 31).toUInt32).toInt32) &&& (1 : Int32))) % (3 : Int32))), .unset, .unset, .unset, .unset, .unset, .unset, .unset, .unset, .unset] [])) _
  refine XS.iloadN X0.here hx rfl (hb hby at_98) rfl ?_
  show Steps p.tables e below (T0.setTop (mkF m 99 #[.val (.int p1), .val (.int p2), .val (.int p3), .val (.int p4), .val (.int q), .val (.int on), .val (.int f1), .val (.int f2), .val (.int f3), .val (.int f4), .val (.int ((((p2.toUInt32 >>> ((4 : Int32) &&& 31).toUInt32).toInt32) &&& (255 : Int32)) % (3 : Int32))), .val (.int (((((((p2.toUInt32 >>> ((4 : Int32) &&& 31).toUInt32).toInt32) &&& (255 : Int32)) % (3 : Int32)) + (1 : Int32)) + (((p2.toUInt32 >>> ((12 : Int32) &&& 31).toUInt32).toInt32) &&& (1 : Int32))) % (3 : Int32))), .unset, .unset, .unset, .unset, .unset, .unset, .unset, .unset, .unset] [(.int p3)])) _
  exact kt
theorem pd355 : parseMethodDescriptor "(I)[I" = some ⟨[.int], some (.array .int)⟩ := by decide +kernel
set_option maxRecDepth 65536 in
set_option maxHeartbeats 4000000 in
theorem cR1 {p : Program} {l : Launch} {e : Env} {s : State} {m : MethodId} {args : Array Value} {below : List Frame} {meth : Method} {c : Code} {T0 : State} {locs : List Loc} {cells slots : Nat} {Z : State} {a0 : Array Value} {h0 : Heap} {Ls : Array Slot} (x0 : Int32)
    (X0 : Stand p l e room_1 s m args below meth c T0 locs cells slots) (hx : p.tables.exec = Jvm.exec) (hZ : Z.Warmed39 s.vm) (hw : ∀ d ∈ tables_1, d.before a0 Z = true) (hby : c.code = code) (hml : c.maxLocals = 21) (hown : s.vm.findClass "com/example/caprice/caprice/solver/DomainsRemovalsRestOnPinLaw" = some m.cls) (e0 : T0.heap = h0) (hsz : Ls.size = 21) {rm : Room} {Q : Option Value → Heap → List Loc → Prop}
    (M : MetFree l (⟨"com/example/caprice/caprice/solver/DomainsRemovalsRestOnPinLaw", "reasonsOf", "(I)[I"⟩ : MethodName) (head1 [Jvm.Cond.code (⟨"com/example/caprice/caprice/solver/DomainsRemovalsRestOnPinLaw", "reasonsOf", "(I)[I"⟩ : MethodName) method_3_code 4 (some (.array .int))] rm) (fun a U => a = #[(.int x0)] ∧ Z.Warmed39 U.vm ∧ U.heap = h0) (fun _ _ _ _ _ => True) (fun _ U o U' => ∃ v L, o = .returned v ∧ Q v U'.heap L ∧ FrameEnd U o U' L rm.cells rm.slots)) (hfr : rm.frames + 1 ≤ room_1.frames) (hlo : 0 + (4 + 11) + rm.locals ≤ room_1.locals) (hce : cells + rm.cells ≤ room_1.cells) (hsl : slots + rm.slots ≤ room_1.slots) :
    ∃ (T' : State) (v : Option Value) (L : List Loc), Stand p l e room_1 s m args below meth c T' (locs ++ L) (cells + rm.cells) (slots + rm.slots) ∧ Q v T'.heap L ∧ ∀ t, Steps p.tables e below (T'.setTop (mkF m 102 Ls (v.toList ++ []))) t → Steps p.tables e below (T0.setTop (mkF m 99 Ls [(.int x0)])) t := by
  obtain ⟨v, _, ⟨T1, L1, k1, n1⟩, -, X1, ⟨Lc, hQ, l1, y1, z1⟩, st⟩ := Jvm.LawKit.callS X0 hx (y := (⟨"com/example/caprice/caprice/solver/DomainsRemovalsRestOnPinLaw", "reasonsOf", "(I)[I"⟩ : MethodName)) hown (mvT hZ (hw _ (List.mem_of_getElem? (i := 1) rfl))) (mvT hZ (hw _ (List.mem_of_getElem? (i := 2) rfl))) (mvT hZ (hw _ (List.mem_of_getElem? (i := 3) rfl))) (mvT hZ (hw _ (List.mem_of_getElem? (i := 4) rfl))) (by decide) (backOf (W := 0) M hZ (hw _ (List.mem_of_getElem? (i := 4) rfl)) (hw _ (List.mem_of_getElem? (i := 3) rfl)) hfr hlo) (g := (mkF m 99 Ls [(.int x0)])) rfl (by rw [hml]; exact hsz) (argsL := [(.int x0)]) (rest := []) (lenOf pd355 rfl) rfl (by show 2 * 0 + _ ≤ _; exact Nat.le_of_eq rfl) (hb hby at_99) (fun _ _ => ⟨rfl, e0, hce, hsl⟩)
  dsimp only [Pt.U, Pt.locs, Pt.cells, Pt.slots] at X1 l1 y1 z1 st hQ
  subst l1 y1 z1
  exact ⟨T1, v, Lc, X1, hQ, fun t kt => st t kt⟩
set_option maxRecDepth 65536 in
set_option maxHeartbeats 40000000 in
theorem lD {p : Program} {l : Launch} {e : Env} {s : State} {m : MethodId} {args : Array Value} {below : List Frame} {meth : Method} {c : Code} {T0 : State} {locs : List Loc} {Z : State} {a0 : Array Value} {h0 : Heap} {n0 : Nat} (p1 : Int32) (p2 : Int32) (p3 : Int32) (p4 : Int32) (q : Int32) (on : Int32) (f1 : Int32) (f2 : Int32) (f3 : Int32) (f4 : Int32) (v1 : Int32) (v2 : Int32) (r1 : Addr)
    (X0 : Stand p l e room_1 s m args below meth c T0 locs 1 2) (hx : p.tables.exec = Jvm.exec) (hZ : Z.Warmed39 s.vm) (hw : ∀ d ∈ tables_1, d.before a0 Z = true) (hby : c.code = code) (hml : c.maxLocals = 21) (hown : s.vm.findClass "com/example/caprice/caprice/solver/DomainsRemovalsRestOnPinLaw" = some m.cls) (e0 : T0.heap = h0) (N0 : Fr n0 locs) (O0 : Old Z n0 h0) :
    ∃ (T' : State) (locs' : List Loc), Stand p l e room_1 s m args below meth c T' locs' 1 2 ∧ Fr n0 locs' ∧ T'.heap = h0 ∧ ∀ t, Steps p.tables e below (T'.setTop (mkF m 105 #[.val (.int p1), .val (.int p2), .val (.int p3), .val (.int p4), .val (.int q), .val (.int on), .val (.int f1), .val (.int f2), .val (.int f3), .val (.int f4), .val (.int v1), .val (.int v2), .val (.ref r1), .unset, .unset, .unset, .unset, .unset, .unset, .unset, .unset] [(.int p4)])) t → Steps p.tables e below (T0.setTop (mkF m 102 #[.val (.int p1), .val (.int p2), .val (.int p3), .val (.int p4), .val (.int q), .val (.int on), .val (.int f1), .val (.int f2), .val (.int f3), .val (.int f4), .val (.int v1), .val (.int v2), .unset, .unset, .unset, .unset, .unset, .unset, .unset, .unset, .unset] [(.ref r1)])) t := by
  refine ⟨T0, _, X0, N0, e0, fun t kt => ?_⟩
  show Steps p.tables e below (T0.setTop (mkF m 102 #[.val (.int p1), .val (.int p2), .val (.int p3), .val (.int p4), .val (.int q), .val (.int on), .val (.int f1), .val (.int f2), .val (.int f3), .val (.int f4), .val (.int v1), .val (.int v2), .unset, .unset, .unset, .unset, .unset, .unset, .unset, .unset, .unset] [(.ref r1)])) _
  refine XS.astore X0.here hx rfl (hb hby at_102) rfl rfl (l' := #[.val (.int p1), .val (.int p2), .val (.int p3), .val (.int p4), .val (.int q), .val (.int on), .val (.int f1), .val (.int f2), .val (.int f3), .val (.int f4), .val (.int v1), .val (.int v2), .val (.ref r1), .unset, .unset, .unset, .unset, .unset, .unset, .unset, .unset]) rfl ?_
  show Steps p.tables e below (T0.setTop (mkF m 104 #[.val (.int p1), .val (.int p2), .val (.int p3), .val (.int p4), .val (.int q), .val (.int on), .val (.int f1), .val (.int f2), .val (.int f3), .val (.int f4), .val (.int v1), .val (.int v2), .val (.ref r1), .unset, .unset, .unset, .unset, .unset, .unset, .unset, .unset] [])) _
  refine XS.iloadN X0.here hx rfl (hb hby at_104) rfl ?_
  show Steps p.tables e below (T0.setTop (mkF m 105 #[.val (.int p1), .val (.int p2), .val (.int p3), .val (.int p4), .val (.int q), .val (.int on), .val (.int f1), .val (.int f2), .val (.int f3), .val (.int f4), .val (.int v1), .val (.int v2), .val (.ref r1), .unset, .unset, .unset, .unset, .unset, .unset, .unset, .unset] [(.int p4)])) _
  exact kt
set_option maxRecDepth 65536 in
set_option maxHeartbeats 4000000 in
theorem cR2 {p : Program} {l : Launch} {e : Env} {s : State} {m : MethodId} {args : Array Value} {below : List Frame} {meth : Method} {c : Code} {T0 : State} {locs : List Loc} {cells slots : Nat} {Z : State} {a0 : Array Value} {h0 : Heap} {Ls : Array Slot} (x0 : Int32)
    (X0 : Stand p l e room_1 s m args below meth c T0 locs cells slots) (hx : p.tables.exec = Jvm.exec) (hZ : Z.Warmed39 s.vm) (hw : ∀ d ∈ tables_1, d.before a0 Z = true) (hby : c.code = code) (hml : c.maxLocals = 21) (hown : s.vm.findClass "com/example/caprice/caprice/solver/DomainsRemovalsRestOnPinLaw" = some m.cls) (e0 : T0.heap = h0) (hsz : Ls.size = 21) {rm : Room} {Q : Option Value → Heap → List Loc → Prop}
    (M : MetFree l (⟨"com/example/caprice/caprice/solver/DomainsRemovalsRestOnPinLaw", "reasonsOf", "(I)[I"⟩ : MethodName) (head1 [Jvm.Cond.code (⟨"com/example/caprice/caprice/solver/DomainsRemovalsRestOnPinLaw", "reasonsOf", "(I)[I"⟩ : MethodName) method_3_code 4 (some (.array .int))] rm) (fun a U => a = #[(.int x0)] ∧ Z.Warmed39 U.vm ∧ U.heap = h0) (fun _ _ _ _ _ => True) (fun _ U o U' => ∃ v L, o = .returned v ∧ Q v U'.heap L ∧ FrameEnd U o U' L rm.cells rm.slots)) (hfr : rm.frames + 1 ≤ room_1.frames) (hlo : 0 + (4 + 11) + rm.locals ≤ room_1.locals) (hce : cells + rm.cells ≤ room_1.cells) (hsl : slots + rm.slots ≤ room_1.slots) :
    ∃ (T' : State) (v : Option Value) (L : List Loc), Stand p l e room_1 s m args below meth c T' (locs ++ L) (cells + rm.cells) (slots + rm.slots) ∧ Q v T'.heap L ∧ ∀ t, Steps p.tables e below (T'.setTop (mkF m 108 Ls (v.toList ++ []))) t → Steps p.tables e below (T0.setTop (mkF m 105 Ls [(.int x0)])) t := by
  obtain ⟨v, _, ⟨T1, L1, k1, n1⟩, -, X1, ⟨Lc, hQ, l1, y1, z1⟩, st⟩ := Jvm.LawKit.callS X0 hx (y := (⟨"com/example/caprice/caprice/solver/DomainsRemovalsRestOnPinLaw", "reasonsOf", "(I)[I"⟩ : MethodName)) hown (mvT hZ (hw _ (List.mem_of_getElem? (i := 1) rfl))) (mvT hZ (hw _ (List.mem_of_getElem? (i := 2) rfl))) (mvT hZ (hw _ (List.mem_of_getElem? (i := 3) rfl))) (mvT hZ (hw _ (List.mem_of_getElem? (i := 4) rfl))) (by decide) (backOf (W := 0) M hZ (hw _ (List.mem_of_getElem? (i := 4) rfl)) (hw _ (List.mem_of_getElem? (i := 3) rfl)) hfr hlo) (g := (mkF m 105 Ls [(.int x0)])) rfl (by rw [hml]; exact hsz) (argsL := [(.int x0)]) (rest := []) (lenOf pd355 rfl) rfl (by show 2 * 0 + _ ≤ _; exact Nat.le_of_eq rfl) (hb hby at_105) (fun _ _ => ⟨rfl, e0, hce, hsl⟩)
  dsimp only [Pt.U, Pt.locs, Pt.cells, Pt.slots] at X1 l1 y1 z1 st hQ
  subst l1 y1 z1
  exact ⟨T1, v, Lc, X1, hQ, fun t kt => st t kt⟩
set_option maxRecDepth 65536 in
set_option maxHeartbeats 40000000 in
theorem lE {p : Program} {l : Launch} {e : Env} {s : State} {m : MethodId} {args : Array Value} {below : List Frame} {meth : Method} {c : Code} {T0 : State} {locs : List Loc} {Z : State} {a0 : Array Value} {h0 : Heap} {n0 : Nat} (p1 : Int32) (p2 : Int32) (p3 : Int32) (p4 : Int32) (q : Int32) (on : Int32) (f1 : Int32) (f2 : Int32) (f3 : Int32) (f4 : Int32) (v1 : Int32) (v2 : Int32) (r1 : Addr) (r2 : Addr)
    (X0 : Stand p l e room_1 s m args below meth c T0 locs 2 4) (hx : p.tables.exec = Jvm.exec) (hZ : Z.Warmed39 s.vm) (hw : ∀ d ∈ tables_1, d.before a0 Z = true) (hby : c.code = code) (hml : c.maxLocals = 21) (hown : s.vm.findClass "com/example/caprice/caprice/solver/DomainsRemovalsRestOnPinLaw" = some m.cls) (e0 : T0.heap = h0) (N0 : Fr n0 locs) (O0 : Old Z n0 h0) :
    ∃ (T' : State) (locs' : List Loc) (b1 : Addr) (b4 : Addr) (b11 : Addr) (kk_b1 : ClassId) (kk_b4 : ClassId), Stand p l e room_1 s m args below meth c T' locs' 5 16 ∧ Fr n0 locs' ∧ Keep h0 T'.heap [] ∧ Old Z n0 T'.heap ∧ h0.size ≤ b1 ∧ h0.size ≤ b4 ∧ h0.size ≤ b11 ∧ b1 < b4 ∧ b4 < b11 ∧ Arv Z T'.heap b1 kk_b1 .int (1 : Int32) [(.int on)] (.int (0 : Int32)) ∧ Exa Z T'.heap b1 "[I" ∧ Arv Z T'.heap b4 kk_b4 .int (3 : Int32) [(.int (3 : Int32)), (.int (3 : Int32)), (.int (3 : Int32))] (.int (0 : Int32)) ∧ Exa Z T'.heap b4 "[I" ∧ Exa Z T'.heap b11 "com/example/caprice/caprice/solver/Domains" ∧ Fld Z T'.heap b11 "com/example/caprice/caprice/solver/Domains" "reasons" "[[[I" .null ∧ Fld Z T'.heap b11 "com/example/caprice/caprice/solver/Domains" "left" "[I" .null ∧ Fld Z T'.heap b11 "com/example/caprice/caprice/solver/Domains" "leftMasks" "[J" .null ∧ Fld Z T'.heap b11 "com/example/caprice/caprice/solver/Domains" "trail" "[I" .null ∧ Fld Z T'.heap b11 "com/example/caprice/caprice/solver/Domains" "gathered" "[I" .null ∧ Fld Z T'.heap b11 "com/example/caprice/caprice/solver/Domains" "marked" "[Z" .null ∧ Fld Z T'.heap b11 "com/example/caprice/caprice/solver/Domains" "trailSize" "I" (.int (0 : Int32)) ∧ True ∧ ∀ t, Steps p.tables e below (T'.setTop (mkF m 163 #[.val (.int p1), .val (.int p2), .val (.int p3), .val (.int p4), .val (.int q), .val (.int on), .val (.int f1), .val (.int f2), .val (.int f3), .val (.int f4), .val (.int v1), .val (.int v2), .val (.ref r1), .val (.ref r2), .val (.int ((q + (1 : Int32)) % (3 : Int32))), .val (.int ((((p4.toUInt32 >>> ((24 : Int32) &&& 31).toUInt32).toInt32) &&& (255 : Int32)) % (3 : Int32))), .val (.ref b1), .val (.ref b4), .unset, .unset, .unset] [(.ref b4), (.ref b11), (.ref b11)])) t → Steps p.tables e below (T0.setTop (mkF m 108 #[.val (.int p1), .val (.int p2), .val (.int p3), .val (.int p4), .val (.int q), .val (.int on), .val (.int f1), .val (.int f2), .val (.int f3), .val (.int f4), .val (.int v1), .val (.int v2), .val (.ref r1), .unset, .unset, .unset, .unset, .unset, .unset, .unset, .unset] [(.ref r2)])) t := by
  obtain ⟨T1, h1, k1, X1, e1, E1, A1, B1, st1⟩ := newPE X0 hx hZ (hw _ (List.mem_of_getElem? (i := 5) rfl)) e0 (g := (mkF m 131 #[.val (.int p1), .val (.int p2), .val (.int p3), .val (.int p4), .val (.int q), .val (.int on), .val (.int f1), .val (.int f2), .val (.int f3), .val (.int f4), .val (.int v1), .val (.int v2), .val (.ref r1), .val (.ref r2), .val (.int ((q + (1 : Int32)) % (3 : Int32))), .val (.int ((((p4.toUInt32 >>> ((24 : Int32) &&& 31).toUInt32).toInt32) &&& (255 : Int32)) % (3 : Int32))), .unset, .unset, .unset, .unset, .unset] [(.int (1 : Int32))])) rfl (hb hby at_131) rfl (by decide) (cap := 1) (by decide) (by decide) (by decide) (by decide) (ad := "[I") (by decide)
  obtain ⟨b1, gg1⟩ : ∃ z, z = h0.size := ⟨_, rfl⟩
  rw [← gg1] at A1 B1 st1
  have bo_b1 : h0.size ≤ b1 := Nat.le_of_eq gg1.symm
  have g_b1 : n0 ≤ b1 := Nat.le_trans (own_n0 O0) bo_b1
  have sz_b1 : h0.size ≤ b1 := Nat.le_trans (Keep.refl h0 []).1 bo_b1
  have V_b1 : Arv Z h1 b1 k1 .int (1 : Int32) [(.int (0 : Int32))] (.int (0 : Int32)) := (Arv.new A1 (by decide)).pad (pad_rep [] (.int (0 : Int32)) 1)
  have lb_b1 : b1 < h1.size := A1.lt
  have KK1 : Keep h0 h1 [] := (Keep.refl h0 []).ext E1
  have O1 := O0.ext E1
  obtain ⟨ac2, aA2, aq2, aS2, aN2, aH2, aG2⟩ := id V_b1
  obtain ⟨T3, h3, X3, e3, W3, st3⟩ := stI X1 hx hZ e1 aA2 (j := (0 : Int32)) (inb_of aS2 ⟨by decide, by decide⟩) (g := (mkF m 137 #[.val (.int p1), .val (.int p2), .val (.int p3), .val (.int p4), .val (.int q), .val (.int on), .val (.int f1), .val (.int f2), .val (.int f3), .val (.int f4), .val (.int v1), .val (.int v2), .val (.ref r1), .val (.ref r2), .val (.int ((q + (1 : Int32)) % (3 : Int32))), .val (.int ((((p4.toUInt32 >>> ((24 : Int32) &&& 31).toUInt32).toInt32) &&& (255 : Int32)) % (3 : Int32))), .unset, .unset, .unset, .unset, .unset] [(.int on), (.int (0 : Int32)), (.ref b1), (.ref b1)])) rfl rfl (hb hby at_137)
  have V_b1_3 : Arv Z h3 b1 k1 .int (1 : Int32) [(.int on)] (.int (0 : Int32)) := Arv.set aA2 aq2 aS2 aN2 aH2 aG2 rfl W3 0 rfl (Nat.le_of_ble_eq_true rfl)
  have N3 := Fr.snoc X3 N0 g_b1
  have O3 := O1.wr W3 g_b1
  have KK3 : Keep h0 h3 [] := KK1.wr W3 (Or.inr sz_b1)
  obtain ⟨T4, h4, k4, X4, e4, E4, A4, B4, st4⟩ := newPE X3 hx hZ (hw _ (List.mem_of_getElem? (i := 5) rfl)) e3 (g := (mkF m 141 #[.val (.int p1), .val (.int p2), .val (.int p3), .val (.int p4), .val (.int q), .val (.int on), .val (.int f1), .val (.int f2), .val (.int f3), .val (.int f4), .val (.int v1), .val (.int v2), .val (.ref r1), .val (.ref r2), .val (.int ((q + (1 : Int32)) % (3 : Int32))), .val (.int ((((p4.toUInt32 >>> ((24 : Int32) &&& 31).toUInt32).toInt32) &&& (255 : Int32)) % (3 : Int32))), .val (.ref b1), .unset, .unset, .unset, .unset] [(.int (3 : Int32))])) rfl (hb hby at_141) rfl (by decide) (cap := 3) (by decide) (by decide) (by decide) (by decide) (ad := "[I") (by decide)
  obtain ⟨b4, gg4⟩ : ∃ z, z = h3.size := ⟨_, rfl⟩
  rw [← gg4] at A4 B4 st4
  have bo_b4 : h3.size ≤ b4 := Nat.le_of_eq gg4.symm
  have g_b4 : n0 ≤ b4 := Nat.le_trans (own_n0 O3) bo_b4
  have sz_b4 : h0.size ≤ b4 := Nat.le_trans KK3.1 bo_b4
  have V_b4 : Arv Z h4 b4 k4 .int (3 : Int32) [(.int (0 : Int32)), (.int (0 : Int32)), (.int (0 : Int32))] (.int (0 : Int32)) := (Arv.new A4 (by decide)).pad (pad_rep [] (.int (0 : Int32)) 3)
  have lb_b4 : b4 < h4.size := A4.lt
  have KK4 : Keep h0 h4 [] := KK3.ext E4
  have O4 := O3.ext E4
  obtain ⟨ac5, aA5, aq5, aS5, aN5, aH5, aG5⟩ := id V_b4
  obtain ⟨T6, h6, X6, e6, W6, st6⟩ := stI X4 hx hZ e4 aA5 (j := (0 : Int32)) (inb_of aS5 ⟨by decide, by decide⟩) (g := (mkF m 146 #[.val (.int p1), .val (.int p2), .val (.int p3), .val (.int p4), .val (.int q), .val (.int on), .val (.int f1), .val (.int f2), .val (.int f3), .val (.int f4), .val (.int v1), .val (.int v2), .val (.ref r1), .val (.ref r2), .val (.int ((q + (1 : Int32)) % (3 : Int32))), .val (.int ((((p4.toUInt32 >>> ((24 : Int32) &&& 31).toUInt32).toInt32) &&& (255 : Int32)) % (3 : Int32))), .val (.ref b1), .unset, .unset, .unset, .unset] [(.int (3 : Int32)), (.int (0 : Int32)), (.ref b4), (.ref b4)])) rfl rfl (hb hby at_146)
  have V_b4_6 : Arv Z h6 b4 k4 .int (3 : Int32) [(.int (3 : Int32)), (.int (0 : Int32)), (.int (0 : Int32))] (.int (0 : Int32)) := Arv.set aA5 aq5 aS5 aN5 aH5 aG5 rfl W6 0 rfl (Nat.le_of_ble_eq_true rfl)
  have N6 := Fr.snoc X6 N3 g_b4
  have O6 := O4.wr W6 g_b4
  have KK6 : Keep h0 h6 [] := KK4.wr W6 (Or.inr sz_b4)
  obtain ⟨ac7, aA7, aq7, aS7, aN7, aH7, aG7⟩ := id V_b4_6
  obtain ⟨T8, h8, X8, e8, W8, st8⟩ := stI X6 hx hZ e6 aA7 (j := (1 : Int32)) (inb_of aS7 ⟨by decide, by decide⟩) (g := (mkF m 150 #[.val (.int p1), .val (.int p2), .val (.int p3), .val (.int p4), .val (.int q), .val (.int on), .val (.int f1), .val (.int f2), .val (.int f3), .val (.int f4), .val (.int v1), .val (.int v2), .val (.ref r1), .val (.ref r2), .val (.int ((q + (1 : Int32)) % (3 : Int32))), .val (.int ((((p4.toUInt32 >>> ((24 : Int32) &&& 31).toUInt32).toInt32) &&& (255 : Int32)) % (3 : Int32))), .val (.ref b1), .unset, .unset, .unset, .unset] [(.int (3 : Int32)), (.int (1 : Int32)), (.ref b4), (.ref b4)])) rfl rfl (hb hby at_150)
  have V_b4_8 : Arv Z h8 b4 k4 .int (3 : Int32) [(.int (3 : Int32)), (.int (3 : Int32)), (.int (0 : Int32))] (.int (0 : Int32)) := Arv.set aA7 aq7 aS7 aN7 aH7 aG7 rfl W8 1 rfl (Nat.le_of_ble_eq_true rfl)
  have N8 := Fr.snoc X8 N6 g_b4
  have O8 := O6.wr W8 g_b4
  have KK8 : Keep h0 h8 [] := KK6.wr W8 (Or.inr sz_b4)
  obtain ⟨ac9, aA9, aq9, aS9, aN9, aH9, aG9⟩ := id V_b4_8
  obtain ⟨T10, h10, X10, e10, W10, st10⟩ := stI X8 hx hZ e8 aA9 (j := (2 : Int32)) (inb_of aS9 ⟨by decide, by decide⟩) (g := (mkF m 154 #[.val (.int p1), .val (.int p2), .val (.int p3), .val (.int p4), .val (.int q), .val (.int on), .val (.int f1), .val (.int f2), .val (.int f3), .val (.int f4), .val (.int v1), .val (.int v2), .val (.ref r1), .val (.ref r2), .val (.int ((q + (1 : Int32)) % (3 : Int32))), .val (.int ((((p4.toUInt32 >>> ((24 : Int32) &&& 31).toUInt32).toInt32) &&& (255 : Int32)) % (3 : Int32))), .val (.ref b1), .unset, .unset, .unset, .unset] [(.int (3 : Int32)), (.int (2 : Int32)), (.ref b4), (.ref b4)])) rfl rfl (hb hby at_154)
  have V_b4_10 : Arv Z h10 b4 k4 .int (3 : Int32) [(.int (3 : Int32)), (.int (3 : Int32)), (.int (3 : Int32))] (.int (0 : Int32)) := Arv.set aA9 aq9 aS9 aN9 aH9 aG9 rfl W10 2 rfl (Nat.le_of_ble_eq_true rfl)
  have N10 := Fr.snoc X10 N8 g_b4
  have O10 := O8.wr W10 g_b4
  have KK10 : Keep h0 h10 [] := KK8.wr W10 (Or.inr sz_b4)
  obtain ⟨T11, h11, X11, e11, E11, A11, D11, -, st11⟩ := newO X10 hx hZ hown (hw _ (List.mem_of_getElem? (i := 6) rfl)) (hw _ (List.mem_of_getElem? (i := 7) rfl)) (hw _ (List.mem_of_getElem? (i := 8) rfl)) e10 (g := (mkF m 157 #[.val (.int p1), .val (.int p2), .val (.int p3), .val (.int p4), .val (.int q), .val (.int on), .val (.int f1), .val (.int f2), .val (.int f3), .val (.int f4), .val (.int v1), .val (.int v2), .val (.ref r1), .val (.ref r2), .val (.int ((q + (1 : Int32)) % (3 : Int32))), .val (.int ((((p4.toUInt32 >>> ((24 : Int32) &&& 31).toUInt32).toInt32) &&& (255 : Int32)) % (3 : Int32))), .val (.ref b1), .val (.ref b4), .unset, .unset, .unset] [])) rfl (hb hby at_157) (by decide) (by decide)
  obtain ⟨b11, gg11⟩ : ∃ z, z = h10.size := ⟨_, rfl⟩
  rw [← gg11] at A11 D11 st11
  have bo_b11 : h10.size ≤ b11 := Nat.le_of_eq gg11.symm
  have g_b11 : n0 ≤ b11 := Nat.le_trans (own_n0 O10) bo_b11
  have sz_b11 : h0.size ≤ b11 := Nat.le_trans KK10.1 bo_b11
  have KK11 : Keep h0 h11 [] := KK10.ext E11
  have O11 := O10.ext E11
  have lb_b11 : b11 < h11.size := A11.lt
  have F_reasons_b11 : Fld Z h11 b11 "com/example/caprice/caprice/solver/Domains" "reasons" "[[[I" .null := D11 (Or.inr (hw _ (List.mem_of_getElem? (i := 18) rfl))) (ty := (.array (.array (.array .int)))) (by decide)
  have F_left_b11 : Fld Z h11 b11 "com/example/caprice/caprice/solver/Domains" "left" "[I" .null := D11 (Or.inr (hw _ (List.mem_of_getElem? (i := 20) rfl))) (ty := (.array .int)) (by decide)
  have F_leftMasks_b11 : Fld Z h11 b11 "com/example/caprice/caprice/solver/Domains" "leftMasks" "[J" .null := D11 (Or.inr (hw _ (List.mem_of_getElem? (i := 23) rfl))) (ty := (.array .long)) (by decide)
  have F_trail_b11 : Fld Z h11 b11 "com/example/caprice/caprice/solver/Domains" "trail" "[I" .null := D11 (Or.inr (hw _ (List.mem_of_getElem? (i := 31) rfl))) (ty := (.array .int)) (by decide)
  have F_gathered_b11 : Fld Z h11 b11 "com/example/caprice/caprice/solver/Domains" "gathered" "[I" .null := D11 (Or.inr (hw _ (List.mem_of_getElem? (i := 33) rfl))) (ty := (.array .int)) (by decide)
  have F_marked_b11 : Fld Z h11 b11 "com/example/caprice/caprice/solver/Domains" "marked" "[Z" .null := D11 (Or.inr (hw _ (List.mem_of_getElem? (i := 36) rfl))) (ty := (.array .boolean)) (by decide)
  have F_trailSize_b11 : Fld Z h11 b11 "com/example/caprice/caprice/solver/Domains" "trailSize" "I" (.int (0 : Int32)) := D11 (Or.inl (hw _ (List.mem_of_getElem? (i := 45) rfl))) (ty := .int) (by decide)
  have J12 := (((((V_b1_3.ext E4).other W6 (Nat.ne_of_lt (Nat.lt_of_lt_of_le (Nat.lt_of_lt_of_le lb_b1 (Keep.of_wr W3).1) bo_b4))).other W8 (Nat.ne_of_lt (Nat.lt_of_lt_of_le (Nat.lt_of_lt_of_le lb_b1 (Keep.of_wr W3).1) bo_b4))).other W10 (Nat.ne_of_lt (Nat.lt_of_lt_of_le (Nat.lt_of_lt_of_le lb_b1 (Keep.of_wr W3).1) bo_b4))).ext E11)
  have J13 := ((((((B1.wr W3).ext E4).wr W6).wr W8).wr W10).ext E11)
  have J14 := ((((B4.wr W6).wr W8).wr W10).ext E11)
  refine ⟨T11, _, b1, b4, b11, k1, k4, X11, N10, (by rw [e11]; exact KK11), (by rw [e11]; exact O11), sz_b1, sz_b4, sz_b11, (Nat.lt_of_lt_of_le (Nat.lt_of_lt_of_le lb_b1 (Keep.of_wr W3).1) bo_b4), (Nat.lt_of_lt_of_le (Nat.lt_of_lt_of_le (Nat.lt_of_lt_of_le (Nat.lt_of_lt_of_le lb_b4 (Keep.of_wr W6).1) (Keep.of_wr W8).1) (Keep.of_wr W10).1) bo_b11), (by rw [e11]; exact J12), (by rw [e11]; exact J13), (by rw [e11]; exact (V_b4_10.ext E11)), (by rw [e11]; exact J14), (by rw [e11]; exact A11), (by rw [e11]; exact F_reasons_b11), (by rw [e11]; exact F_left_b11), (by rw [e11]; exact F_leftMasks_b11), (by rw [e11]; exact F_trail_b11), (by rw [e11]; exact F_gathered_b11), (by rw [e11]; exact F_marked_b11), (by rw [e11]; exact F_trailSize_b11), trivial, fun t kt => ?_⟩
  show Steps p.tables e below (T0.setTop (mkF m 108 #[.val (.int p1), .val (.int p2), .val (.int p3), .val (.int p4), .val (.int q), .val (.int on), .val (.int f1), .val (.int f2), .val (.int f3), .val (.int f4), .val (.int v1), .val (.int v2), .val (.ref r1), .unset, .unset, .unset, .unset, .unset, .unset, .unset, .unset] [(.ref r2)])) _
  refine XS.astore X0.here hx rfl (hb hby at_108) rfl rfl (l' := #[.val (.int p1), .val (.int p2), .val (.int p3), .val (.int p4), .val (.int q), .val (.int on), .val (.int f1), .val (.int f2), .val (.int f3), .val (.int f4), .val (.int v1), .val (.int v2), .val (.ref r1), .val (.ref r2), .unset, .unset, .unset, .unset, .unset, .unset, .unset]) rfl ?_
  show Steps p.tables e below (T0.setTop (mkF m 110 #[.val (.int p1), .val (.int p2), .val (.int p3), .val (.int p4), .val (.int q), .val (.int on), .val (.int f1), .val (.int f2), .val (.int f3), .val (.int f4), .val (.int v1), .val (.int v2), .val (.ref r1), .val (.ref r2), .unset, .unset, .unset, .unset, .unset, .unset, .unset] [])) _
  refine XS.iload X0.here hx rfl (hb hby at_110) rfl ?_
  show Steps p.tables e below (T0.setTop (mkF m 112 #[.val (.int p1), .val (.int p2), .val (.int p3), .val (.int p4), .val (.int q), .val (.int on), .val (.int f1), .val (.int f2), .val (.int f3), .val (.int f4), .val (.int v1), .val (.int v2), .val (.ref r1), .val (.ref r2), .unset, .unset, .unset, .unset, .unset, .unset, .unset] [(.int q)])) _
  refine XS.iconst X0.here hx rfl (hb hby at_112) ?_
  show Steps p.tables e below (T0.setTop (mkF m 113 #[.val (.int p1), .val (.int p2), .val (.int p3), .val (.int p4), .val (.int q), .val (.int on), .val (.int f1), .val (.int f2), .val (.int f3), .val (.int f4), .val (.int v1), .val (.int v2), .val (.ref r1), .val (.ref r2), .unset, .unset, .unset, .unset, .unset, .unset, .unset] [(.int (1 : Int32)), (.int q)])) _
  refine XS.iadd X0.here hx rfl (hb hby at_113) rfl ?_
  show Steps p.tables e below (T0.setTop (mkF m 114 #[.val (.int p1), .val (.int p2), .val (.int p3), .val (.int p4), .val (.int q), .val (.int on), .val (.int f1), .val (.int f2), .val (.int f3), .val (.int f4), .val (.int v1), .val (.int v2), .val (.ref r1), .val (.ref r2), .unset, .unset, .unset, .unset, .unset, .unset, .unset] [(.int (q + (1 : Int32)))])) _
  refine XS.iconst X0.here hx rfl (hb hby at_114) ?_
  show Steps p.tables e below (T0.setTop (mkF m 115 #[.val (.int p1), .val (.int p2), .val (.int p3), .val (.int p4), .val (.int q), .val (.int on), .val (.int f1), .val (.int f2), .val (.int f3), .val (.int f4), .val (.int v1), .val (.int v2), .val (.ref r1), .val (.ref r2), .unset, .unset, .unset, .unset, .unset, .unset, .unset] [(.int (3 : Int32)), (.int (q + (1 : Int32)))])) _
  refine iremM X0 hx rfl (hb hby at_115) rfl (by decide) ?_
  show Steps p.tables e below (T0.setTop (mkF m 116 #[.val (.int p1), .val (.int p2), .val (.int p3), .val (.int p4), .val (.int q), .val (.int on), .val (.int f1), .val (.int f2), .val (.int f3), .val (.int f4), .val (.int v1), .val (.int v2), .val (.ref r1), .val (.ref r2), .unset, .unset, .unset, .unset, .unset, .unset, .unset] [(.int ((q + (1 : Int32)) % (3 : Int32)))])) _
  refine XS.istore X0.here hx rfl (hb hby at_116) rfl (l' := #[.val (.int p1), .val (.int p2), .val (.int p3), .val (.int p4), .val (.int q), .val (.int on), .val (.int f1), .val (.int f2), .val (.int f3), .val (.int f4), .val (.int v1), .val (.int v2), .val (.ref r1), .val (.ref r2), .val (.int ((q + (1 : Int32)) % (3 : Int32))), .unset, .unset, .unset, .unset, .unset, .unset]) rfl ?_
  show Steps p.tables e below (T0.setTop (mkF m 118 #[.val (.int p1), .val (.int p2), .val (.int p3), .val (.int p4), .val (.int q), .val (.int on), .val (.int f1), .val (.int f2), .val (.int f3), .val (.int f4), .val (.int v1), .val (.int v2), .val (.ref r1), .val (.ref r2), .val (.int ((q + (1 : Int32)) % (3 : Int32))), .unset, .unset, .unset, .unset, .unset, .unset] [])) _
  refine XS.iloadN X0.here hx rfl (hb hby at_118) rfl ?_
  show Steps p.tables e below (T0.setTop (mkF m 119 #[.val (.int p1), .val (.int p2), .val (.int p3), .val (.int p4), .val (.int q), .val (.int on), .val (.int f1), .val (.int f2), .val (.int f3), .val (.int f4), .val (.int v1), .val (.int v2), .val (.ref r1), .val (.ref r2), .val (.int ((q + (1 : Int32)) % (3 : Int32))), .unset, .unset, .unset, .unset, .unset, .unset] [(.int p4)])) _
  refine XS.bipush X0.here hx rfl (hb hby at_119) ?_
  show Steps p.tables e below (T0.setTop (mkF m 121 #[.val (.int p1), .val (.int p2), .val (.int p3), .val (.int p4), .val (.int q), .val (.int on), .val (.int f1), .val (.int f2), .val (.int f3), .val (.int f4), .val (.int v1), .val (.int v2), .val (.ref r1), .val (.ref r2), .val (.int ((q + (1 : Int32)) % (3 : Int32))), .unset, .unset, .unset, .unset, .unset, .unset] [(.int (24 : Int32)), (.int p4)])) _
  refine XS.iushr X0.here hx rfl (hb hby at_121) rfl ?_
  show Steps p.tables e below (T0.setTop (mkF m 122 #[.val (.int p1), .val (.int p2), .val (.int p3), .val (.int p4), .val (.int q), .val (.int on), .val (.int f1), .val (.int f2), .val (.int f3), .val (.int f4), .val (.int v1), .val (.int v2), .val (.ref r1), .val (.ref r2), .val (.int ((q + (1 : Int32)) % (3 : Int32))), .unset, .unset, .unset, .unset, .unset, .unset] [(.int ((p4.toUInt32 >>> ((24 : Int32) &&& 31).toUInt32).toInt32))])) _
  refine XS.sipush X0.here hx rfl (hb hby at_122) ?_
  show Steps p.tables e below (T0.setTop (mkF m 125 #[.val (.int p1), .val (.int p2), .val (.int p3), .val (.int p4), .val (.int q), .val (.int on), .val (.int f1), .val (.int f2), .val (.int f3), .val (.int f4), .val (.int v1), .val (.int v2), .val (.ref r1), .val (.ref r2), .val (.int ((q + (1 : Int32)) % (3 : Int32))), .unset, .unset, .unset, .unset, .unset, .unset] [(.int (255 : Int32)), (.int ((p4.toUInt32 >>> ((24 : Int32) &&& 31).toUInt32).toInt32))])) _
  refine XS.iand X0.here hx rfl (hb hby at_125) rfl ?_
  show Steps p.tables e below (T0.setTop (mkF m 126 #[.val (.int p1), .val (.int p2), .val (.int p3), .val (.int p4), .val (.int q), .val (.int on), .val (.int f1), .val (.int f2), .val (.int f3), .val (.int f4), .val (.int v1), .val (.int v2), .val (.ref r1), .val (.ref r2), .val (.int ((q + (1 : Int32)) % (3 : Int32))), .unset, .unset, .unset, .unset, .unset, .unset] [(.int (((p4.toUInt32 >>> ((24 : Int32) &&& 31).toUInt32).toInt32) &&& (255 : Int32)))])) _
  refine XS.iconst X0.here hx rfl (hb hby at_126) ?_
  show Steps p.tables e below (T0.setTop (mkF m 127 #[.val (.int p1), .val (.int p2), .val (.int p3), .val (.int p4), .val (.int q), .val (.int on), .val (.int f1), .val (.int f2), .val (.int f3), .val (.int f4), .val (.int v1), .val (.int v2), .val (.ref r1), .val (.ref r2), .val (.int ((q + (1 : Int32)) % (3 : Int32))), .unset, .unset, .unset, .unset, .unset, .unset] [(.int (3 : Int32)), (.int (((p4.toUInt32 >>> ((24 : Int32) &&& 31).toUInt32).toInt32) &&& (255 : Int32)))])) _
  refine iremM X0 hx rfl (hb hby at_127) rfl (by decide) ?_
  show Steps p.tables e below (T0.setTop (mkF m 128 #[.val (.int p1), .val (.int p2), .val (.int p3), .val (.int p4), .val (.int q), .val (.int on), .val (.int f1), .val (.int f2), .val (.int f3), .val (.int f4), .val (.int v1), .val (.int v2), .val (.ref r1), .val (.ref r2), .val (.int ((q + (1 : Int32)) % (3 : Int32))), .unset, .unset, .unset, .unset, .unset, .unset] [(.int ((((p4.toUInt32 >>> ((24 : Int32) &&& 31).toUInt32).toInt32) &&& (255 : Int32)) % (3 : Int32)))])) _
  refine XS.istore X0.here hx rfl (hb hby at_128) rfl (l' := #[.val (.int p1), .val (.int p2), .val (.int p3), .val (.int p4), .val (.int q), .val (.int on), .val (.int f1), .val (.int f2), .val (.int f3), .val (.int f4), .val (.int v1), .val (.int v2), .val (.ref r1), .val (.ref r2), .val (.int ((q + (1 : Int32)) % (3 : Int32))), .val (.int ((((p4.toUInt32 >>> ((24 : Int32) &&& 31).toUInt32).toInt32) &&& (255 : Int32)) % (3 : Int32))), .unset, .unset, .unset, .unset, .unset]) rfl ?_
  show Steps p.tables e below (T0.setTop (mkF m 130 #[.val (.int p1), .val (.int p2), .val (.int p3), .val (.int p4), .val (.int q), .val (.int on), .val (.int f1), .val (.int f2), .val (.int f3), .val (.int f4), .val (.int v1), .val (.int v2), .val (.ref r1), .val (.ref r2), .val (.int ((q + (1 : Int32)) % (3 : Int32))), .val (.int ((((p4.toUInt32 >>> ((24 : Int32) &&& 31).toUInt32).toInt32) &&& (255 : Int32)) % (3 : Int32))), .unset, .unset, .unset, .unset, .unset] [])) _
  refine XS.iconst X0.here hx rfl (hb hby at_130) ?_
  show Steps p.tables e below (T0.setTop (mkF m 131 #[.val (.int p1), .val (.int p2), .val (.int p3), .val (.int p4), .val (.int q), .val (.int on), .val (.int f1), .val (.int f2), .val (.int f3), .val (.int f4), .val (.int v1), .val (.int v2), .val (.ref r1), .val (.ref r2), .val (.int ((q + (1 : Int32)) % (3 : Int32))), .val (.int ((((p4.toUInt32 >>> ((24 : Int32) &&& 31).toUInt32).toInt32) &&& (255 : Int32)) % (3 : Int32))), .unset, .unset, .unset, .unset, .unset] [(.int (1 : Int32))])) _
  refine st1 _ ?_
  show Steps p.tables e below (T1.setTop (mkF m 133 #[.val (.int p1), .val (.int p2), .val (.int p3), .val (.int p4), .val (.int q), .val (.int on), .val (.int f1), .val (.int f2), .val (.int f3), .val (.int f4), .val (.int v1), .val (.int v2), .val (.ref r1), .val (.ref r2), .val (.int ((q + (1 : Int32)) % (3 : Int32))), .val (.int ((((p4.toUInt32 >>> ((24 : Int32) &&& 31).toUInt32).toInt32) &&& (255 : Int32)) % (3 : Int32))), .unset, .unset, .unset, .unset, .unset] [(.ref b1)])) _
  refine XS.dup X1.here hx rfl (hb hby at_133) rfl rfl ?_
  show Steps p.tables e below (T1.setTop (mkF m 134 #[.val (.int p1), .val (.int p2), .val (.int p3), .val (.int p4), .val (.int q), .val (.int on), .val (.int f1), .val (.int f2), .val (.int f3), .val (.int f4), .val (.int v1), .val (.int v2), .val (.ref r1), .val (.ref r2), .val (.int ((q + (1 : Int32)) % (3 : Int32))), .val (.int ((((p4.toUInt32 >>> ((24 : Int32) &&& 31).toUInt32).toInt32) &&& (255 : Int32)) % (3 : Int32))), .unset, .unset, .unset, .unset, .unset] [(.ref b1), (.ref b1)])) _
  refine XS.iconst X1.here hx rfl (hb hby at_134) ?_
  show Steps p.tables e below (T1.setTop (mkF m 135 #[.val (.int p1), .val (.int p2), .val (.int p3), .val (.int p4), .val (.int q), .val (.int on), .val (.int f1), .val (.int f2), .val (.int f3), .val (.int f4), .val (.int v1), .val (.int v2), .val (.ref r1), .val (.ref r2), .val (.int ((q + (1 : Int32)) % (3 : Int32))), .val (.int ((((p4.toUInt32 >>> ((24 : Int32) &&& 31).toUInt32).toInt32) &&& (255 : Int32)) % (3 : Int32))), .unset, .unset, .unset, .unset, .unset] [(.int (0 : Int32)), (.ref b1), (.ref b1)])) _
  refine XS.iload X1.here hx rfl (hb hby at_135) rfl ?_
  show Steps p.tables e below (T1.setTop (mkF m 137 #[.val (.int p1), .val (.int p2), .val (.int p3), .val (.int p4), .val (.int q), .val (.int on), .val (.int f1), .val (.int f2), .val (.int f3), .val (.int f4), .val (.int v1), .val (.int v2), .val (.ref r1), .val (.ref r2), .val (.int ((q + (1 : Int32)) % (3 : Int32))), .val (.int ((((p4.toUInt32 >>> ((24 : Int32) &&& 31).toUInt32).toInt32) &&& (255 : Int32)) % (3 : Int32))), .unset, .unset, .unset, .unset, .unset] [(.int on), (.int (0 : Int32)), (.ref b1), (.ref b1)])) _
  refine st3 _ ?_
  show Steps p.tables e below (T3.setTop (mkF m 138 #[.val (.int p1), .val (.int p2), .val (.int p3), .val (.int p4), .val (.int q), .val (.int on), .val (.int f1), .val (.int f2), .val (.int f3), .val (.int f4), .val (.int v1), .val (.int v2), .val (.ref r1), .val (.ref r2), .val (.int ((q + (1 : Int32)) % (3 : Int32))), .val (.int ((((p4.toUInt32 >>> ((24 : Int32) &&& 31).toUInt32).toInt32) &&& (255 : Int32)) % (3 : Int32))), .unset, .unset, .unset, .unset, .unset] [(.ref b1)])) _
  refine XS.astore X3.here hx rfl (hb hby at_138) rfl rfl (l' := #[.val (.int p1), .val (.int p2), .val (.int p3), .val (.int p4), .val (.int q), .val (.int on), .val (.int f1), .val (.int f2), .val (.int f3), .val (.int f4), .val (.int v1), .val (.int v2), .val (.ref r1), .val (.ref r2), .val (.int ((q + (1 : Int32)) % (3 : Int32))), .val (.int ((((p4.toUInt32 >>> ((24 : Int32) &&& 31).toUInt32).toInt32) &&& (255 : Int32)) % (3 : Int32))), .val (.ref b1), .unset, .unset, .unset, .unset]) rfl ?_
  show Steps p.tables e below (T3.setTop (mkF m 140 #[.val (.int p1), .val (.int p2), .val (.int p3), .val (.int p4), .val (.int q), .val (.int on), .val (.int f1), .val (.int f2), .val (.int f3), .val (.int f4), .val (.int v1), .val (.int v2), .val (.ref r1), .val (.ref r2), .val (.int ((q + (1 : Int32)) % (3 : Int32))), .val (.int ((((p4.toUInt32 >>> ((24 : Int32) &&& 31).toUInt32).toInt32) &&& (255 : Int32)) % (3 : Int32))), .val (.ref b1), .unset, .unset, .unset, .unset] [])) _
  refine XS.iconst X3.here hx rfl (hb hby at_140) ?_
  show Steps p.tables e below (T3.setTop (mkF m 141 #[.val (.int p1), .val (.int p2), .val (.int p3), .val (.int p4), .val (.int q), .val (.int on), .val (.int f1), .val (.int f2), .val (.int f3), .val (.int f4), .val (.int v1), .val (.int v2), .val (.ref r1), .val (.ref r2), .val (.int ((q + (1 : Int32)) % (3 : Int32))), .val (.int ((((p4.toUInt32 >>> ((24 : Int32) &&& 31).toUInt32).toInt32) &&& (255 : Int32)) % (3 : Int32))), .val (.ref b1), .unset, .unset, .unset, .unset] [(.int (3 : Int32))])) _
  refine st4 _ ?_
  show Steps p.tables e below (T4.setTop (mkF m 143 #[.val (.int p1), .val (.int p2), .val (.int p3), .val (.int p4), .val (.int q), .val (.int on), .val (.int f1), .val (.int f2), .val (.int f3), .val (.int f4), .val (.int v1), .val (.int v2), .val (.ref r1), .val (.ref r2), .val (.int ((q + (1 : Int32)) % (3 : Int32))), .val (.int ((((p4.toUInt32 >>> ((24 : Int32) &&& 31).toUInt32).toInt32) &&& (255 : Int32)) % (3 : Int32))), .val (.ref b1), .unset, .unset, .unset, .unset] [(.ref b4)])) _
  refine XS.dup X4.here hx rfl (hb hby at_143) rfl rfl ?_
  show Steps p.tables e below (T4.setTop (mkF m 144 #[.val (.int p1), .val (.int p2), .val (.int p3), .val (.int p4), .val (.int q), .val (.int on), .val (.int f1), .val (.int f2), .val (.int f3), .val (.int f4), .val (.int v1), .val (.int v2), .val (.ref r1), .val (.ref r2), .val (.int ((q + (1 : Int32)) % (3 : Int32))), .val (.int ((((p4.toUInt32 >>> ((24 : Int32) &&& 31).toUInt32).toInt32) &&& (255 : Int32)) % (3 : Int32))), .val (.ref b1), .unset, .unset, .unset, .unset] [(.ref b4), (.ref b4)])) _
  refine XS.iconst X4.here hx rfl (hb hby at_144) ?_
  show Steps p.tables e below (T4.setTop (mkF m 145 #[.val (.int p1), .val (.int p2), .val (.int p3), .val (.int p4), .val (.int q), .val (.int on), .val (.int f1), .val (.int f2), .val (.int f3), .val (.int f4), .val (.int v1), .val (.int v2), .val (.ref r1), .val (.ref r2), .val (.int ((q + (1 : Int32)) % (3 : Int32))), .val (.int ((((p4.toUInt32 >>> ((24 : Int32) &&& 31).toUInt32).toInt32) &&& (255 : Int32)) % (3 : Int32))), .val (.ref b1), .unset, .unset, .unset, .unset] [(.int (0 : Int32)), (.ref b4), (.ref b4)])) _
  refine XS.iconst X4.here hx rfl (hb hby at_145) ?_
  show Steps p.tables e below (T4.setTop (mkF m 146 #[.val (.int p1), .val (.int p2), .val (.int p3), .val (.int p4), .val (.int q), .val (.int on), .val (.int f1), .val (.int f2), .val (.int f3), .val (.int f4), .val (.int v1), .val (.int v2), .val (.ref r1), .val (.ref r2), .val (.int ((q + (1 : Int32)) % (3 : Int32))), .val (.int ((((p4.toUInt32 >>> ((24 : Int32) &&& 31).toUInt32).toInt32) &&& (255 : Int32)) % (3 : Int32))), .val (.ref b1), .unset, .unset, .unset, .unset] [(.int (3 : Int32)), (.int (0 : Int32)), (.ref b4), (.ref b4)])) _
  refine st6 _ ?_
  show Steps p.tables e below (T6.setTop (mkF m 147 #[.val (.int p1), .val (.int p2), .val (.int p3), .val (.int p4), .val (.int q), .val (.int on), .val (.int f1), .val (.int f2), .val (.int f3), .val (.int f4), .val (.int v1), .val (.int v2), .val (.ref r1), .val (.ref r2), .val (.int ((q + (1 : Int32)) % (3 : Int32))), .val (.int ((((p4.toUInt32 >>> ((24 : Int32) &&& 31).toUInt32).toInt32) &&& (255 : Int32)) % (3 : Int32))), .val (.ref b1), .unset, .unset, .unset, .unset] [(.ref b4)])) _
  refine XS.dup X6.here hx rfl (hb hby at_147) rfl rfl ?_
  show Steps p.tables e below (T6.setTop (mkF m 148 #[.val (.int p1), .val (.int p2), .val (.int p3), .val (.int p4), .val (.int q), .val (.int on), .val (.int f1), .val (.int f2), .val (.int f3), .val (.int f4), .val (.int v1), .val (.int v2), .val (.ref r1), .val (.ref r2), .val (.int ((q + (1 : Int32)) % (3 : Int32))), .val (.int ((((p4.toUInt32 >>> ((24 : Int32) &&& 31).toUInt32).toInt32) &&& (255 : Int32)) % (3 : Int32))), .val (.ref b1), .unset, .unset, .unset, .unset] [(.ref b4), (.ref b4)])) _
  refine XS.iconst X6.here hx rfl (hb hby at_148) ?_
  show Steps p.tables e below (T6.setTop (mkF m 149 #[.val (.int p1), .val (.int p2), .val (.int p3), .val (.int p4), .val (.int q), .val (.int on), .val (.int f1), .val (.int f2), .val (.int f3), .val (.int f4), .val (.int v1), .val (.int v2), .val (.ref r1), .val (.ref r2), .val (.int ((q + (1 : Int32)) % (3 : Int32))), .val (.int ((((p4.toUInt32 >>> ((24 : Int32) &&& 31).toUInt32).toInt32) &&& (255 : Int32)) % (3 : Int32))), .val (.ref b1), .unset, .unset, .unset, .unset] [(.int (1 : Int32)), (.ref b4), (.ref b4)])) _
  refine XS.iconst X6.here hx rfl (hb hby at_149) ?_
  show Steps p.tables e below (T6.setTop (mkF m 150 #[.val (.int p1), .val (.int p2), .val (.int p3), .val (.int p4), .val (.int q), .val (.int on), .val (.int f1), .val (.int f2), .val (.int f3), .val (.int f4), .val (.int v1), .val (.int v2), .val (.ref r1), .val (.ref r2), .val (.int ((q + (1 : Int32)) % (3 : Int32))), .val (.int ((((p4.toUInt32 >>> ((24 : Int32) &&& 31).toUInt32).toInt32) &&& (255 : Int32)) % (3 : Int32))), .val (.ref b1), .unset, .unset, .unset, .unset] [(.int (3 : Int32)), (.int (1 : Int32)), (.ref b4), (.ref b4)])) _
  refine st8 _ ?_
  show Steps p.tables e below (T8.setTop (mkF m 151 #[.val (.int p1), .val (.int p2), .val (.int p3), .val (.int p4), .val (.int q), .val (.int on), .val (.int f1), .val (.int f2), .val (.int f3), .val (.int f4), .val (.int v1), .val (.int v2), .val (.ref r1), .val (.ref r2), .val (.int ((q + (1 : Int32)) % (3 : Int32))), .val (.int ((((p4.toUInt32 >>> ((24 : Int32) &&& 31).toUInt32).toInt32) &&& (255 : Int32)) % (3 : Int32))), .val (.ref b1), .unset, .unset, .unset, .unset] [(.ref b4)])) _
  refine XS.dup X8.here hx rfl (hb hby at_151) rfl rfl ?_
  show Steps p.tables e below (T8.setTop (mkF m 152 #[.val (.int p1), .val (.int p2), .val (.int p3), .val (.int p4), .val (.int q), .val (.int on), .val (.int f1), .val (.int f2), .val (.int f3), .val (.int f4), .val (.int v1), .val (.int v2), .val (.ref r1), .val (.ref r2), .val (.int ((q + (1 : Int32)) % (3 : Int32))), .val (.int ((((p4.toUInt32 >>> ((24 : Int32) &&& 31).toUInt32).toInt32) &&& (255 : Int32)) % (3 : Int32))), .val (.ref b1), .unset, .unset, .unset, .unset] [(.ref b4), (.ref b4)])) _
  refine XS.iconst X8.here hx rfl (hb hby at_152) ?_
  show Steps p.tables e below (T8.setTop (mkF m 153 #[.val (.int p1), .val (.int p2), .val (.int p3), .val (.int p4), .val (.int q), .val (.int on), .val (.int f1), .val (.int f2), .val (.int f3), .val (.int f4), .val (.int v1), .val (.int v2), .val (.ref r1), .val (.ref r2), .val (.int ((q + (1 : Int32)) % (3 : Int32))), .val (.int ((((p4.toUInt32 >>> ((24 : Int32) &&& 31).toUInt32).toInt32) &&& (255 : Int32)) % (3 : Int32))), .val (.ref b1), .unset, .unset, .unset, .unset] [(.int (2 : Int32)), (.ref b4), (.ref b4)])) _
  refine XS.iconst X8.here hx rfl (hb hby at_153) ?_
  show Steps p.tables e below (T8.setTop (mkF m 154 #[.val (.int p1), .val (.int p2), .val (.int p3), .val (.int p4), .val (.int q), .val (.int on), .val (.int f1), .val (.int f2), .val (.int f3), .val (.int f4), .val (.int v1), .val (.int v2), .val (.ref r1), .val (.ref r2), .val (.int ((q + (1 : Int32)) % (3 : Int32))), .val (.int ((((p4.toUInt32 >>> ((24 : Int32) &&& 31).toUInt32).toInt32) &&& (255 : Int32)) % (3 : Int32))), .val (.ref b1), .unset, .unset, .unset, .unset] [(.int (3 : Int32)), (.int (2 : Int32)), (.ref b4), (.ref b4)])) _
  refine st10 _ ?_
  show Steps p.tables e below (T10.setTop (mkF m 155 #[.val (.int p1), .val (.int p2), .val (.int p3), .val (.int p4), .val (.int q), .val (.int on), .val (.int f1), .val (.int f2), .val (.int f3), .val (.int f4), .val (.int v1), .val (.int v2), .val (.ref r1), .val (.ref r2), .val (.int ((q + (1 : Int32)) % (3 : Int32))), .val (.int ((((p4.toUInt32 >>> ((24 : Int32) &&& 31).toUInt32).toInt32) &&& (255 : Int32)) % (3 : Int32))), .val (.ref b1), .unset, .unset, .unset, .unset] [(.ref b4)])) _
  refine XS.astore X10.here hx rfl (hb hby at_155) rfl rfl (l' := #[.val (.int p1), .val (.int p2), .val (.int p3), .val (.int p4), .val (.int q), .val (.int on), .val (.int f1), .val (.int f2), .val (.int f3), .val (.int f4), .val (.int v1), .val (.int v2), .val (.ref r1), .val (.ref r2), .val (.int ((q + (1 : Int32)) % (3 : Int32))), .val (.int ((((p4.toUInt32 >>> ((24 : Int32) &&& 31).toUInt32).toInt32) &&& (255 : Int32)) % (3 : Int32))), .val (.ref b1), .val (.ref b4), .unset, .unset, .unset]) rfl ?_
  show Steps p.tables e below (T10.setTop (mkF m 157 #[.val (.int p1), .val (.int p2), .val (.int p3), .val (.int p4), .val (.int q), .val (.int on), .val (.int f1), .val (.int f2), .val (.int f3), .val (.int f4), .val (.int v1), .val (.int v2), .val (.ref r1), .val (.ref r2), .val (.int ((q + (1 : Int32)) % (3 : Int32))), .val (.int ((((p4.toUInt32 >>> ((24 : Int32) &&& 31).toUInt32).toInt32) &&& (255 : Int32)) % (3 : Int32))), .val (.ref b1), .val (.ref b4), .unset, .unset, .unset] [])) _
  refine st11 _ ?_
  show Steps p.tables e below (T11.setTop (mkF m 160 #[.val (.int p1), .val (.int p2), .val (.int p3), .val (.int p4), .val (.int q), .val (.int on), .val (.int f1), .val (.int f2), .val (.int f3), .val (.int f4), .val (.int v1), .val (.int v2), .val (.ref r1), .val (.ref r2), .val (.int ((q + (1 : Int32)) % (3 : Int32))), .val (.int ((((p4.toUInt32 >>> ((24 : Int32) &&& 31).toUInt32).toInt32) &&& (255 : Int32)) % (3 : Int32))), .val (.ref b1), .val (.ref b4), .unset, .unset, .unset] [(.ref b11)])) _
  refine XS.dup X11.here hx rfl (hb hby at_160) rfl rfl ?_
  show Steps p.tables e below (T11.setTop (mkF m 161 #[.val (.int p1), .val (.int p2), .val (.int p3), .val (.int p4), .val (.int q), .val (.int on), .val (.int f1), .val (.int f2), .val (.int f3), .val (.int f4), .val (.int v1), .val (.int v2), .val (.ref r1), .val (.ref r2), .val (.int ((q + (1 : Int32)) % (3 : Int32))), .val (.int ((((p4.toUInt32 >>> ((24 : Int32) &&& 31).toUInt32).toInt32) &&& (255 : Int32)) % (3 : Int32))), .val (.ref b1), .val (.ref b4), .unset, .unset, .unset] [(.ref b11), (.ref b11)])) _
  refine XS.aload X11.here hx rfl (hb hby at_161) rfl rfl ?_
  show Steps p.tables e below (T11.setTop (mkF m 163 #[.val (.int p1), .val (.int p2), .val (.int p3), .val (.int p4), .val (.int q), .val (.int on), .val (.int f1), .val (.int f2), .val (.int f3), .val (.int f4), .val (.int v1), .val (.int v2), .val (.ref r1), .val (.ref r2), .val (.int ((q + (1 : Int32)) % (3 : Int32))), .val (.int ((((p4.toUInt32 >>> ((24 : Int32) &&& 31).toUInt32).toInt32) &&& (255 : Int32)) % (3 : Int32))), .val (.ref b1), .val (.ref b4), .unset, .unset, .unset] [(.ref b4), (.ref b11), (.ref b11)])) _
  exact kt
theorem pd358 : parseMethodDescriptor "([I)V" = some ⟨[(.array .int)], none⟩ := by decide +kernel
set_option maxRecDepth 65536 in
set_option maxHeartbeats 4000000 in
theorem cI {p : Program} {l : Launch} {e : Env} {s : State} {m : MethodId} {args : Array Value} {below : List Frame} {meth : Method} {c : Code} {T0 : State} {locs : List Loc} {cells slots : Nat} {Z : State} {a0 : Array Value} {h0 : Heap} {Ls : Array Slot} (ob : Addr) (x0 : Addr) (y : Addr)
    (X0 : Stand p l e room_1 s m args below meth c T0 locs cells slots) (hx : p.tables.exec = Jvm.exec) (hZ : Z.Warmed39 s.vm) (hw : ∀ d ∈ tables_1, d.before a0 Z = true) (hby : c.code = code) (hml : c.maxLocals = 21) (hown : s.vm.findClass "com/example/caprice/caprice/solver/DomainsRemovalsRestOnPinLaw" = some m.cls) (e0 : T0.heap = h0) (hsz : Ls.size = 21) {rm : Room} {Q : Option Value → Heap → List Loc → Prop}
    (M : MetFree l (⟨"com/example/caprice/caprice/solver/Domains", "<init>", "([I)V"⟩ : MethodName) (head1 [Jvm.Cond.code (⟨"com/example/caprice/caprice/solver/Domains", "<init>", "([I)V"⟩ : MethodName) prog_59_method_1_code 5 none] rm) (fun a U => a = #[(.ref ob), (.ref x0)] ∧ Z.Warmed39 U.vm ∧ U.heap = h0) (fun _ _ _ _ _ => True) (fun _ U o U' => ∃ v L, o = .returned v ∧ Q v U'.heap L ∧ FrameEnd U o U' L rm.cells rm.slots)) (hfr : rm.frames + 1 ≤ room_1.frames) (hlo : 1 + (5 + 11) + rm.locals ≤ room_1.locals) (hce : cells + rm.cells ≤ room_1.cells) (hsl : slots + rm.slots ≤ room_1.slots) :
    ∃ (T' : State) (v : Option Value) (L : List Loc), Stand p l e room_1 s m args below meth c T' (locs ++ L) (cells + rm.cells) (slots + rm.slots) ∧ Q v T'.heap L ∧ ∀ t, Steps p.tables e below (T'.setTop (mkF m 166 Ls (v.toList ++ [(.ref y)]))) t → Steps p.tables e below (T0.setTop (mkF m 163 Ls [(.ref x0), (.ref ob), (.ref y)])) t := by
  obtain ⟨v, _, ⟨T1, L1, k1, n1⟩, -, X1, ⟨Lc, hQ, l1, y1, z1⟩, st⟩ := X0.specialBack hx (y := (⟨"com/example/caprice/caprice/solver/Domains", "<init>", "([I)V"⟩ : MethodName)) rfl hown (mvT hZ (hw _ (List.mem_of_getElem? (i := 9) rfl))) (mvT hZ (hw _ (List.mem_of_getElem? (i := 10) rfl))) (mvT hZ (hw _ (List.mem_of_getElem? (i := 11) rfl))) (by decide) (backOf (W := 1) M hZ (hw _ (List.mem_of_getElem? (i := 11) rfl)) (hw _ (List.mem_of_getElem? (i := 8) rfl)) hfr hlo) (g := (mkF m 163 Ls [(.ref x0), (.ref ob), (.ref y)])) rfl (by rw [hml]; exact hsz) (Steps.refl _) (a := ob) (argsL := [(.ref x0)]) (rest := [(.ref y)]) (lenOf pd358 rfl) rfl (by show 2 * 0 + _ ≤ _; exact Nat.le_of_eq rfl) (hb hby at_163) (fun _ _ => ⟨rfl, e0, hce, hsl⟩)
  dsimp only [Pt.U, Pt.locs, Pt.cells, Pt.slots] at X1 l1 y1 z1 st hQ
  subst l1 y1 z1
  exact ⟨T1, v, Lc, X1, hQ, fun t kt => st.trans kt⟩
set_option maxRecDepth 65536 in
set_option maxHeartbeats 40000000 in
theorem lF {p : Program} {l : Launch} {e : Env} {s : State} {m : MethodId} {args : Array Value} {below : List Frame} {meth : Method} {c : Code} {T0 : State} {locs : List Loc} {Z : State} {a0 : Array Value} {h0 : Heap} {n0 : Nat} (p1 : Int32) (p2 : Int32) (p3 : Int32) (p4 : Int32) (q : Int32) (on : Int32) (f1 : Int32) (f2 : Int32) (f3 : Int32) (f4 : Int32) (v1 : Int32) (v2 : Int32) (r1 : Addr) (r2 : Addr) (ot : Int32) (v3 : Int32) (r3 : Addr) (sz : Addr) (dom : Addr)
    (X0 : Stand p l e room_1 s m args below meth c T0 locs 14 58) (hx : p.tables.exec = Jvm.exec) (hZ : Z.Warmed39 s.vm) (hw : ∀ d ∈ tables_1, d.before a0 Z = true) (hby : c.code = code) (hml : c.maxLocals = 21) (hown : s.vm.findClass "com/example/caprice/caprice/solver/DomainsRemovalsRestOnPinLaw" = some m.cls) (e0 : T0.heap = h0) (N0 : Fr n0 locs) (O0 : Old Z n0 h0) :
    ∃ (T' : State) (locs' : List Loc), Stand p l e room_1 s m args below meth c T' locs' 14 58 ∧ Fr n0 locs' ∧ T'.heap = h0 ∧ ∀ t, Steps p.tables e below (T'.setTop (mkF m 168 #[.val (.int p1), .val (.int p2), .val (.int p3), .val (.int p4), .val (.int q), .val (.int on), .val (.int f1), .val (.int f2), .val (.int f3), .val (.int f4), .val (.int v1), .val (.int v2), .val (.ref r1), .val (.ref r2), .val (.int ot), .val (.int v3), .val (.ref r3), .val (.ref sz), .val (.ref dom), .unset, .unset] [])) t → Steps p.tables e below (T0.setTop (mkF m 166 #[.val (.int p1), .val (.int p2), .val (.int p3), .val (.int p4), .val (.int q), .val (.int on), .val (.int f1), .val (.int f2), .val (.int f3), .val (.int f4), .val (.int v1), .val (.int v2), .val (.ref r1), .val (.ref r2), .val (.int ot), .val (.int v3), .val (.ref r3), .val (.ref sz), .unset, .unset, .unset] [(.ref dom)])) t := by
  refine ⟨T0, _, X0, N0, e0, fun t kt => ?_⟩
  show Steps p.tables e below (T0.setTop (mkF m 166 #[.val (.int p1), .val (.int p2), .val (.int p3), .val (.int p4), .val (.int q), .val (.int on), .val (.int f1), .val (.int f2), .val (.int f3), .val (.int f4), .val (.int v1), .val (.int v2), .val (.ref r1), .val (.ref r2), .val (.int ot), .val (.int v3), .val (.ref r3), .val (.ref sz), .unset, .unset, .unset] [(.ref dom)])) _
  refine XS.astore X0.here hx rfl (hb hby at_166) rfl rfl (l' := #[.val (.int p1), .val (.int p2), .val (.int p3), .val (.int p4), .val (.int q), .val (.int on), .val (.int f1), .val (.int f2), .val (.int f3), .val (.int f4), .val (.int v1), .val (.int v2), .val (.ref r1), .val (.ref r2), .val (.int ot), .val (.int v3), .val (.ref r3), .val (.ref sz), .val (.ref dom), .unset, .unset]) rfl ?_
  show Steps p.tables e below (T0.setTop (mkF m 168 #[.val (.int p1), .val (.int p2), .val (.int p3), .val (.int p4), .val (.int q), .val (.int on), .val (.int f1), .val (.int f2), .val (.int f3), .val (.int f4), .val (.int v1), .val (.int v2), .val (.ref r1), .val (.ref r2), .val (.int ot), .val (.int v3), .val (.ref r3), .val (.ref sz), .val (.ref dom), .unset, .unset] [])) _
  exact kt
set_option maxRecDepth 65536 in
set_option maxHeartbeats 40000000 in
theorem l10 {p : Program} {l : Launch} {e : Env} {s : State} {m : MethodId} {args : Array Value} {below : List Frame} {meth : Method} {c : Code} {T0 : State} {locs : List Loc} {Z : State} {a0 : Array Value} {h0 : Heap} {n0 : Nat} (p1 : Int32) (p2 : Int32) (p3 : Int32) (p4 : Int32) (q : Int32) (on : Int32) (f1 : Int32) (f2 : Int32) (f3 : Int32) (f4 : Int32) (v1 : Int32) (v2 : Int32) (r1 : Addr) (r2 : Addr) (ot : Int32) (v3 : Int32) (r3 : Addr) (sz : Addr) (dom : Addr)
    (X0 : Stand p l e room_1 s m args below meth c T0 locs 14 58) (hx : p.tables.exec = Jvm.exec) (hZ : Z.Warmed39 s.vm) (hw : ∀ d ∈ tables_1, d.before a0 Z = true) (hby : c.code = code) (hml : c.maxLocals = 21) (hown : s.vm.findClass "com/example/caprice/caprice/solver/DomainsRemovalsRestOnPinLaw" = some m.cls) (e0 : T0.heap = h0) (N0 : Fr n0 locs) (O0 : Old Z n0 h0) (hd0 : f1 = (0 : Int32)) :
    ∃ (T' : State) (locs' : List Loc), Stand p l e room_1 s m args below meth c T' locs' 14 58 ∧ Fr n0 locs' ∧ T'.heap = h0 ∧ ∀ t, Steps p.tables e below (T'.setTop (mkF m 184 #[.val (.int p1), .val (.int p2), .val (.int p3), .val (.int p4), .val (.int q), .val (.int on), .val (.int f1), .val (.int f2), .val (.int f3), .val (.int f4), .val (.int v1), .val (.int v2), .val (.ref r1), .val (.ref r2), .val (.int ot), .val (.int v3), .val (.ref r3), .val (.ref sz), .val (.ref dom), .unset, .unset] [])) t → Steps p.tables e below (T0.setTop (mkF m 168 #[.val (.int p1), .val (.int p2), .val (.int p3), .val (.int p4), .val (.int q), .val (.int on), .val (.int f1), .val (.int f2), .val (.int f3), .val (.int f4), .val (.int v1), .val (.int v2), .val (.ref r1), .val (.ref r2), .val (.int ot), .val (.int v3), .val (.ref r3), .val (.ref sz), .val (.ref dom), .unset, .unset] [])) t := by
  refine ⟨T0, _, X0, N0, e0, fun t kt => ?_⟩
  show Steps p.tables e below (T0.setTop (mkF m 168 #[.val (.int p1), .val (.int p2), .val (.int p3), .val (.int p4), .val (.int q), .val (.int on), .val (.int f1), .val (.int f2), .val (.int f3), .val (.int f4), .val (.int v1), .val (.int v2), .val (.ref r1), .val (.ref r2), .val (.int ot), .val (.int v3), .val (.ref r3), .val (.ref sz), .val (.ref dom), .unset, .unset] [])) _
  refine XS.iload X0.here hx rfl (hb hby at_168) rfl ?_
  show Steps p.tables e below (T0.setTop (mkF m 170 #[.val (.int p1), .val (.int p2), .val (.int p3), .val (.int p4), .val (.int q), .val (.int on), .val (.int f1), .val (.int f2), .val (.int f3), .val (.int f4), .val (.int v1), .val (.int v2), .val (.ref r1), .val (.ref r2), .val (.int ot), .val (.int v3), .val (.ref r3), .val (.ref sz), .val (.ref dom), .unset, .unset] [(.int f1)])) _
  refine XS.ifYes X0.here hx rfl (pc0 := 170) (pc' := 184) rfl (hb hby at_170) rfl ((if0 _ _).trans (teq hd0).1) (by decide) (by decide) ?_
  show Steps p.tables e below (T0.setTop (mkF m 184 #[.val (.int p1), .val (.int p2), .val (.int p3), .val (.int p4), .val (.int q), .val (.int on), .val (.int f1), .val (.int f2), .val (.int f3), .val (.int f4), .val (.int v1), .val (.int v2), .val (.ref r1), .val (.ref r2), .val (.int ot), .val (.int v3), .val (.ref r3), .val (.ref sz), .val (.ref dom), .unset, .unset] [])) _
  exact kt
set_option maxRecDepth 65536 in
set_option maxHeartbeats 40000000 in
theorem l11 {p : Program} {l : Launch} {e : Env} {s : State} {m : MethodId} {args : Array Value} {below : List Frame} {meth : Method} {c : Code} {T0 : State} {locs : List Loc} {Z : State} {a0 : Array Value} {h0 : Heap} {n0 : Nat} (p1 : Int32) (p2 : Int32) (p3 : Int32) (p4 : Int32) (q : Int32) (on : Int32) (f1 : Int32) (f2 : Int32) (f3 : Int32) (f4 : Int32) (v1 : Int32) (v2 : Int32) (r1 : Addr) (r2 : Addr) (ot : Int32) (v3 : Int32) (r3 : Addr) (sz : Addr) (dom : Addr)
    (X0 : Stand p l e room_1 s m args below meth c T0 locs 14 58) (hx : p.tables.exec = Jvm.exec) (hZ : Z.Warmed39 s.vm) (hw : ∀ d ∈ tables_1, d.before a0 Z = true) (hby : c.code = code) (hml : c.maxLocals = 21) (hown : s.vm.findClass "com/example/caprice/caprice/solver/DomainsRemovalsRestOnPinLaw" = some m.cls) (e0 : T0.heap = h0) (N0 : Fr n0 locs) (O0 : Old Z n0 h0) (hd0 : ¬ (f1 = (0 : Int32))) :
    ∃ (T' : State) (locs' : List Loc), Stand p l e room_1 s m args below meth c T' locs' 14 58 ∧ Fr n0 locs' ∧ T'.heap = h0 ∧ ∀ t, Steps p.tables e below (T'.setTop (mkF m 181 #[.val (.int p1), .val (.int p2), .val (.int p3), .val (.int p4), .val (.int q), .val (.int on), .val (.int f1), .val (.int f2), .val (.int f3), .val (.int f4), .val (.int v1), .val (.int v2), .val (.ref r1), .val (.ref r2), .val (.int ot), .val (.int v3), .val (.ref r3), .val (.ref sz), .val (.ref dom), .unset, .unset] [(.ref r1), (.int v1), (.int q), (.ref dom)])) t → Steps p.tables e below (T0.setTop (mkF m 168 #[.val (.int p1), .val (.int p2), .val (.int p3), .val (.int p4), .val (.int q), .val (.int on), .val (.int f1), .val (.int f2), .val (.int f3), .val (.int f4), .val (.int v1), .val (.int v2), .val (.ref r1), .val (.ref r2), .val (.int ot), .val (.int v3), .val (.ref r3), .val (.ref sz), .val (.ref dom), .unset, .unset] [])) t := by
  refine ⟨T0, _, X0, N0, e0, fun t kt => ?_⟩
  show Steps p.tables e below (T0.setTop (mkF m 168 #[.val (.int p1), .val (.int p2), .val (.int p3), .val (.int p4), .val (.int q), .val (.int on), .val (.int f1), .val (.int f2), .val (.int f3), .val (.int f4), .val (.int v1), .val (.int v2), .val (.ref r1), .val (.ref r2), .val (.int ot), .val (.int v3), .val (.ref r3), .val (.ref sz), .val (.ref dom), .unset, .unset] [])) _
  refine XS.iload X0.here hx rfl (hb hby at_168) rfl ?_
  show Steps p.tables e below (T0.setTop (mkF m 170 #[.val (.int p1), .val (.int p2), .val (.int p3), .val (.int p4), .val (.int q), .val (.int on), .val (.int f1), .val (.int f2), .val (.int f3), .val (.int f4), .val (.int v1), .val (.int v2), .val (.ref r1), .val (.ref r2), .val (.int ot), .val (.int v3), .val (.ref r3), .val (.ref sz), .val (.ref dom), .unset, .unset] [(.int f1)])) _
  refine XS.ifNo X0.here hx rfl (hb hby at_170) rfl ((if0 _ _).trans (feq hd0).1) ?_
  show Steps p.tables e below (T0.setTop (mkF m 173 #[.val (.int p1), .val (.int p2), .val (.int p3), .val (.int p4), .val (.int q), .val (.int on), .val (.int f1), .val (.int f2), .val (.int f3), .val (.int f4), .val (.int v1), .val (.int v2), .val (.ref r1), .val (.ref r2), .val (.int ot), .val (.int v3), .val (.ref r3), .val (.ref sz), .val (.ref dom), .unset, .unset] [])) _
  refine XS.aload X0.here hx rfl (hb hby at_173) rfl rfl ?_
  show Steps p.tables e below (T0.setTop (mkF m 175 #[.val (.int p1), .val (.int p2), .val (.int p3), .val (.int p4), .val (.int q), .val (.int on), .val (.int f1), .val (.int f2), .val (.int f3), .val (.int f4), .val (.int v1), .val (.int v2), .val (.ref r1), .val (.ref r2), .val (.int ot), .val (.int v3), .val (.ref r3), .val (.ref sz), .val (.ref dom), .unset, .unset] [(.ref dom)])) _
  refine XS.iload X0.here hx rfl (hb hby at_175) rfl ?_
  show Steps p.tables e below (T0.setTop (mkF m 177 #[.val (.int p1), .val (.int p2), .val (.int p3), .val (.int p4), .val (.int q), .val (.int on), .val (.int f1), .val (.int f2), .val (.int f3), .val (.int f4), .val (.int v1), .val (.int v2), .val (.ref r1), .val (.ref r2), .val (.int ot), .val (.int v3), .val (.ref r3), .val (.ref sz), .val (.ref dom), .unset, .unset] [(.int q), (.ref dom)])) _
  refine XS.iload X0.here hx rfl (hb hby at_177) rfl ?_
  show Steps p.tables e below (T0.setTop (mkF m 179 #[.val (.int p1), .val (.int p2), .val (.int p3), .val (.int p4), .val (.int q), .val (.int on), .val (.int f1), .val (.int f2), .val (.int f3), .val (.int f4), .val (.int v1), .val (.int v2), .val (.ref r1), .val (.ref r2), .val (.int ot), .val (.int v3), .val (.ref r3), .val (.ref sz), .val (.ref dom), .unset, .unset] [(.int v1), (.int q), (.ref dom)])) _
  refine XS.aload X0.here hx rfl (hb hby at_179) rfl rfl ?_
  show Steps p.tables e below (T0.setTop (mkF m 181 #[.val (.int p1), .val (.int p2), .val (.int p3), .val (.int p4), .val (.int q), .val (.int on), .val (.int f1), .val (.int f2), .val (.int f3), .val (.int f4), .val (.int v1), .val (.int v2), .val (.ref r1), .val (.ref r2), .val (.int ot), .val (.int v3), .val (.ref r3), .val (.ref sz), .val (.ref dom), .unset, .unset] [(.ref r1), (.int v1), (.int q), (.ref dom)])) _
  exact kt
theorem pd362 : parseMethodDescriptor "(II[I)V" = some ⟨[.int, .int, (.array .int)], none⟩ := by decide +kernel
set_option maxRecDepth 65536 in
set_option maxHeartbeats 4000000 in
theorem cM1 {p : Program} {l : Launch} {e : Env} {s : State} {m : MethodId} {args : Array Value} {below : List Frame} {meth : Method} {c : Code} {T0 : State} {locs : List Loc} {cells slots : Nat} {Z : State} {a0 : Array Value} {h0 : Heap} {Ls : Array Slot} (ob : Addr) (x0 : Int32) (x1 : Int32) (x2 : Addr)
    (X0 : Stand p l e room_1 s m args below meth c T0 locs cells slots) (hx : p.tables.exec = Jvm.exec) (hZ : Z.Warmed39 s.vm) (hw : ∀ d ∈ tables_1, d.before a0 Z = true) (hby : c.code = code) (hml : c.maxLocals = 21) (hown : s.vm.findClass "com/example/caprice/caprice/solver/DomainsRemovalsRestOnPinLaw" = some m.cls) (e0 : T0.heap = h0) (hsz : Ls.size = 21) (ER : Exa Z h0 ob "com/example/caprice/caprice/solver/Domains") {rm : Room} {Q : Option Value → Heap → List Loc → Prop}
    (M : MetFree l (⟨"com/example/caprice/caprice/solver/Domains", "remove", "(II[I)V"⟩ : MethodName) (head1 [Jvm.Cond.code (⟨"com/example/caprice/caprice/solver/Domains", "remove", "(II[I)V"⟩ : MethodName) prog_59_method_10_code 4 none] rm) (fun a U => a = #[(.ref ob), (.int x0), (.int x1), (.ref x2)] ∧ Z.Warmed39 U.vm ∧ U.heap = h0) (fun _ _ _ _ _ => True) (fun _ U o U' => ∃ v L, o = .returned v ∧ Q v U'.heap L ∧ FrameEnd U o U' L rm.cells rm.slots)) (hfr : rm.frames + 1 ≤ room_1.frames) (hlo : 0 + (4 + 11) + rm.locals ≤ room_1.locals) (hce : cells + rm.cells ≤ room_1.cells) (hsl : slots + rm.slots ≤ room_1.slots) :
    ∃ (T' : State) (v : Option Value) (L : List Loc), Stand p l e room_1 s m args below meth c T' (locs ++ L) (cells + rm.cells) (slots + rm.slots) ∧ Q v T'.heap L ∧ ∀ t, Steps p.tables e below (T'.setTop (mkF m 184 Ls (v.toList ++ []))) t → Steps p.tables e below (T0.setTop (mkF m 181 Ls [(.ref x2), (.int x1), (.int x0), (.ref ob)])) t := by
  obtain ⟨cq, kq, qa, qb, qc⟩ := isOf hZ e0 ER
  obtain ⟨v, _, ⟨T1, L1, k1, n1⟩, -, X1, ⟨Lc, hQ, l1, y1, z1⟩, st⟩ := X0.virtualBack hx (y := (⟨"com/example/caprice/caprice/solver/Domains", "remove", "(II[I)V"⟩ : MethodName)) (z := (⟨"com/example/caprice/caprice/solver/Domains", "remove", "(II[I)V"⟩ : MethodName)) hown (mvT hZ (hw _ (List.mem_of_getElem? (i := 37) rfl))) (mvT hZ (hw _ (List.mem_of_getElem? (i := 38) rfl))) (notFace_of_selects (args := #[]) (mvT hZ (hw _ (List.mem_of_getElem? (i := 40) rfl)))) (mvT hZ (hw _ (List.mem_of_getElem? (i := 40) rfl))) (mvT hZ (hw _ (List.mem_of_getElem? (i := 39) rfl))) (by decide) (backOf (W := 0) M hZ (hw _ (List.mem_of_getElem? (i := 41) rfl)) (hw _ (List.mem_of_getElem? (i := 8) rfl)) hfr hlo) qa qc (g := (mkF m 181 Ls [(.ref x2), (.int x1), (.int x0), (.ref ob)])) rfl (by rw [hml]; exact hsz) (Steps.refl _) (argsL := [(.int x0), (.int x1), (.ref x2)]) (rest := []) (lenOf pd362 rfl) rfl (by show 2 * 0 + _ ≤ _; exact Nat.le_of_eq rfl) (hb hby at_181) (fun _ _ => ⟨rfl, e0, hce, hsl⟩)
  dsimp only [Pt.U, Pt.locs, Pt.cells, Pt.slots] at X1 l1 y1 z1 st hQ
  subst l1 y1 z1
  exact ⟨T1, v, Lc, X1, hQ, fun t kt => st.trans kt⟩
set_option maxRecDepth 65536 in
set_option maxHeartbeats 40000000 in
theorem lG {p : Program} {l : Launch} {e : Env} {s : State} {m : MethodId} {args : Array Value} {below : List Frame} {meth : Method} {c : Code} {T0 : State} {locs : List Loc} {Z : State} {a0 : Array Value} {h0 : Heap} {n0 : Nat} (p1 : Int32) (p2 : Int32) (p3 : Int32) (p4 : Int32) (q : Int32) (on : Int32) (f1 : Int32) (f2 : Int32) (f3 : Int32) (f4 : Int32) (v1 : Int32) (v2 : Int32) (r1 : Addr) (r2 : Addr) (ot : Int32) (v3 : Int32) (r3 : Addr) (sz : Addr) (dom : Addr)
    (X0 : Stand p l e room_1 s m args below meth c T0 locs 14 58) (hx : p.tables.exec = Jvm.exec) (hZ : Z.Warmed39 s.vm) (hw : ∀ d ∈ tables_1, d.before a0 Z = true) (hby : c.code = code) (hml : c.maxLocals = 21) (hown : s.vm.findClass "com/example/caprice/caprice/solver/DomainsRemovalsRestOnPinLaw" = some m.cls) (e0 : T0.heap = h0) (N0 : Fr n0 locs) (O0 : Old Z n0 h0) :
    ∃ (T' : State) (locs' : List Loc), Stand p l e room_1 s m args below meth c T' locs' 14 58 ∧ Fr n0 locs' ∧ T'.heap = h0 ∧ ∀ t, Steps p.tables e below (T'.setTop (mkF m 186 #[.val (.int p1), .val (.int p2), .val (.int p3), .val (.int p4), .val (.int q), .val (.int on), .val (.int f1), .val (.int f2), .val (.int f3), .val (.int f4), .val (.int v1), .val (.int v2), .val (.ref r1), .val (.ref r2), .val (.int ot), .val (.int v3), .val (.ref r3), .val (.ref sz), .val (.ref dom), .unset, .unset] [(.ref dom)])) t → Steps p.tables e below (T0.setTop (mkF m 184 #[.val (.int p1), .val (.int p2), .val (.int p3), .val (.int p4), .val (.int q), .val (.int on), .val (.int f1), .val (.int f2), .val (.int f3), .val (.int f4), .val (.int v1), .val (.int v2), .val (.ref r1), .val (.ref r2), .val (.int ot), .val (.int v3), .val (.ref r3), .val (.ref sz), .val (.ref dom), .unset, .unset] [])) t := by
  refine ⟨T0, _, X0, N0, e0, fun t kt => ?_⟩
  show Steps p.tables e below (T0.setTop (mkF m 184 #[.val (.int p1), .val (.int p2), .val (.int p3), .val (.int p4), .val (.int q), .val (.int on), .val (.int f1), .val (.int f2), .val (.int f3), .val (.int f4), .val (.int v1), .val (.int v2), .val (.ref r1), .val (.ref r2), .val (.int ot), .val (.int v3), .val (.ref r3), .val (.ref sz), .val (.ref dom), .unset, .unset] [])) _
  refine XS.aload X0.here hx rfl (hb hby at_184) rfl rfl ?_
  show Steps p.tables e below (T0.setTop (mkF m 186 #[.val (.int p1), .val (.int p2), .val (.int p3), .val (.int p4), .val (.int q), .val (.int on), .val (.int f1), .val (.int f2), .val (.int f3), .val (.int f4), .val (.int v1), .val (.int v2), .val (.ref r1), .val (.ref r2), .val (.int ot), .val (.int v3), .val (.ref r3), .val (.ref sz), .val (.ref dom), .unset, .unset] [(.ref dom)])) _
  exact kt
theorem pd364 : parseMethodDescriptor "()I" = some ⟨[], some .int⟩ := by decide +kernel
set_option maxRecDepth 65536 in
set_option maxHeartbeats 4000000 in
theorem cK {p : Program} {l : Launch} {e : Env} {s : State} {m : MethodId} {args : Array Value} {below : List Frame} {meth : Method} {c : Code} {T0 : State} {locs : List Loc} {cells slots : Nat} {Z : State} {a0 : Array Value} {h0 : Heap} {Ls : Array Slot} (ob : Addr)
    (X0 : Stand p l e room_1 s m args below meth c T0 locs cells slots) (hx : p.tables.exec = Jvm.exec) (hZ : Z.Warmed39 s.vm) (hw : ∀ d ∈ tables_1, d.before a0 Z = true) (hby : c.code = code) (hml : c.maxLocals = 21) (hown : s.vm.findClass "com/example/caprice/caprice/solver/DomainsRemovalsRestOnPinLaw" = some m.cls) (e0 : T0.heap = h0) (hsz : Ls.size = 21) (ER : Exa Z h0 ob "com/example/caprice/caprice/solver/Domains") {rm : Room} {Q : Option Value → Heap → List Loc → Prop}
    (M : MetFree l (⟨"com/example/caprice/caprice/solver/Domains", "mark", "()I"⟩ : MethodName) (head1 [Jvm.Cond.code (⟨"com/example/caprice/caprice/solver/Domains", "mark", "()I"⟩ : MethodName) prog_59_method_8_code 1 (some .int)] rm) (fun a U => a = #[(.ref ob)] ∧ Z.Warmed39 U.vm ∧ U.heap = h0) (fun _ _ _ _ _ => True) (fun _ U o U' => ∃ v L, o = .returned v ∧ Q v U'.heap L ∧ FrameEnd U o U' L rm.cells rm.slots)) (hfr : rm.frames + 1 ≤ room_1.frames) (hlo : 0 + (1 + 11) + rm.locals ≤ room_1.locals) (hce : cells + rm.cells ≤ room_1.cells) (hsl : slots + rm.slots ≤ room_1.slots) :
    ∃ (T' : State) (v : Option Value) (L : List Loc), Stand p l e room_1 s m args below meth c T' (locs ++ L) (cells + rm.cells) (slots + rm.slots) ∧ Q v T'.heap L ∧ ∀ t, Steps p.tables e below (T'.setTop (mkF m 189 Ls (v.toList ++ []))) t → Steps p.tables e below (T0.setTop (mkF m 186 Ls [(.ref ob)])) t := by
  obtain ⟨cq, kq, qa, qb, qc⟩ := isOf hZ e0 ER
  obtain ⟨v, _, ⟨T1, L1, k1, n1⟩, -, X1, ⟨Lc, hQ, l1, y1, z1⟩, st⟩ := X0.virtualBack hx (y := (⟨"com/example/caprice/caprice/solver/Domains", "mark", "()I"⟩ : MethodName)) (z := (⟨"com/example/caprice/caprice/solver/Domains", "mark", "()I"⟩ : MethodName)) hown (mvT hZ (hw _ (List.mem_of_getElem? (i := 46) rfl))) (mvT hZ (hw _ (List.mem_of_getElem? (i := 47) rfl))) (notFace_of_selects (args := #[]) (mvT hZ (hw _ (List.mem_of_getElem? (i := 49) rfl)))) (mvT hZ (hw _ (List.mem_of_getElem? (i := 49) rfl))) (mvT hZ (hw _ (List.mem_of_getElem? (i := 48) rfl))) (by decide) (backOf (W := 0) M hZ (hw _ (List.mem_of_getElem? (i := 50) rfl)) (hw _ (List.mem_of_getElem? (i := 8) rfl)) hfr hlo) qa qc (g := (mkF m 186 Ls [(.ref ob)])) rfl (by rw [hml]; exact hsz) (Steps.refl _) (argsL := []) (rest := []) (lenOf pd364 rfl) rfl (by show 2 * 0 + _ ≤ _; exact Nat.le_of_eq rfl) (hb hby at_186) (fun _ _ => ⟨rfl, e0, hce, hsl⟩)
  dsimp only [Pt.U, Pt.locs, Pt.cells, Pt.slots] at X1 l1 y1 z1 st hQ
  subst l1 y1 z1
  exact ⟨T1, v, Lc, X1, hQ, fun t kt => st.trans kt⟩
set_option maxRecDepth 65536 in
set_option maxHeartbeats 40000000 in
theorem lH {p : Program} {l : Launch} {e : Env} {s : State} {m : MethodId} {args : Array Value} {below : List Frame} {meth : Method} {c : Code} {T0 : State} {locs : List Loc} {Z : State} {a0 : Array Value} {h0 : Heap} {n0 : Nat} (p1 : Int32) (p2 : Int32) (p3 : Int32) (p4 : Int32) (q : Int32) (on : Int32) (f1 : Int32) (f2 : Int32) (f3 : Int32) (f4 : Int32) (v1 : Int32) (v2 : Int32) (r1 : Addr) (r2 : Addr) (ot : Int32) (v3 : Int32) (r3 : Addr) (sz : Addr) (dom : Addr) (mk : Int32)
    (X0 : Stand p l e room_1 s m args below meth c T0 locs 14 58) (hx : p.tables.exec = Jvm.exec) (hZ : Z.Warmed39 s.vm) (hw : ∀ d ∈ tables_1, d.before a0 Z = true) (hby : c.code = code) (hml : c.maxLocals = 21) (hown : s.vm.findClass "com/example/caprice/caprice/solver/DomainsRemovalsRestOnPinLaw" = some m.cls) (e0 : T0.heap = h0) (N0 : Fr n0 locs) (O0 : Old Z n0 h0) :
    ∃ (T' : State) (locs' : List Loc), Stand p l e room_1 s m args below meth c T' locs' 14 58 ∧ Fr n0 locs' ∧ T'.heap = h0 ∧ ∀ t, Steps p.tables e below (T'.setTop (mkF m 191 #[.val (.int p1), .val (.int p2), .val (.int p3), .val (.int p4), .val (.int q), .val (.int on), .val (.int f1), .val (.int f2), .val (.int f3), .val (.int f4), .val (.int v1), .val (.int v2), .val (.ref r1), .val (.ref r2), .val (.int ot), .val (.int v3), .val (.ref r3), .val (.ref sz), .val (.ref dom), .val (.int mk), .unset] [])) t → Steps p.tables e below (T0.setTop (mkF m 189 #[.val (.int p1), .val (.int p2), .val (.int p3), .val (.int p4), .val (.int q), .val (.int on), .val (.int f1), .val (.int f2), .val (.int f3), .val (.int f4), .val (.int v1), .val (.int v2), .val (.ref r1), .val (.ref r2), .val (.int ot), .val (.int v3), .val (.ref r3), .val (.ref sz), .val (.ref dom), .unset, .unset] [(.int mk)])) t := by
  refine ⟨T0, _, X0, N0, e0, fun t kt => ?_⟩
  show Steps p.tables e below (T0.setTop (mkF m 189 #[.val (.int p1), .val (.int p2), .val (.int p3), .val (.int p4), .val (.int q), .val (.int on), .val (.int f1), .val (.int f2), .val (.int f3), .val (.int f4), .val (.int v1), .val (.int v2), .val (.ref r1), .val (.ref r2), .val (.int ot), .val (.int v3), .val (.ref r3), .val (.ref sz), .val (.ref dom), .unset, .unset] [(.int mk)])) _
  refine XS.istore X0.here hx rfl (hb hby at_189) rfl (l' := #[.val (.int p1), .val (.int p2), .val (.int p3), .val (.int p4), .val (.int q), .val (.int on), .val (.int f1), .val (.int f2), .val (.int f3), .val (.int f4), .val (.int v1), .val (.int v2), .val (.ref r1), .val (.ref r2), .val (.int ot), .val (.int v3), .val (.ref r3), .val (.ref sz), .val (.ref dom), .val (.int mk), .unset]) rfl ?_
  show Steps p.tables e below (T0.setTop (mkF m 191 #[.val (.int p1), .val (.int p2), .val (.int p3), .val (.int p4), .val (.int q), .val (.int on), .val (.int f1), .val (.int f2), .val (.int f3), .val (.int f4), .val (.int v1), .val (.int v2), .val (.ref r1), .val (.ref r2), .val (.int ot), .val (.int v3), .val (.ref r3), .val (.ref sz), .val (.ref dom), .val (.int mk), .unset] [])) _
  exact kt
set_option maxRecDepth 65536 in
set_option maxHeartbeats 40000000 in
theorem l20 {p : Program} {l : Launch} {e : Env} {s : State} {m : MethodId} {args : Array Value} {below : List Frame} {meth : Method} {c : Code} {T0 : State} {locs : List Loc} {Z : State} {a0 : Array Value} {h0 : Heap} {n0 : Nat} (p1 : Int32) (p2 : Int32) (p3 : Int32) (p4 : Int32) (q : Int32) (on : Int32) (f1 : Int32) (f2 : Int32) (f3 : Int32) (f4 : Int32) (v1 : Int32) (v2 : Int32) (r1 : Addr) (r2 : Addr) (ot : Int32) (v3 : Int32) (r3 : Addr) (sz : Addr) (dom : Addr) (mk : Int32)
    (X0 : Stand p l e room_1 s m args below meth c T0 locs 14 58) (hx : p.tables.exec = Jvm.exec) (hZ : Z.Warmed39 s.vm) (hw : ∀ d ∈ tables_1, d.before a0 Z = true) (hby : c.code = code) (hml : c.maxLocals = 21) (hown : s.vm.findClass "com/example/caprice/caprice/solver/DomainsRemovalsRestOnPinLaw" = some m.cls) (e0 : T0.heap = h0) (N0 : Fr n0 locs) (O0 : Old Z n0 h0) (hd0 : f2 = (0 : Int32)) :
    ∃ (T' : State) (locs' : List Loc), Stand p l e room_1 s m args below meth c T' locs' 14 58 ∧ Fr n0 locs' ∧ T'.heap = h0 ∧ ∀ t, Steps p.tables e below (T'.setTop (mkF m 207 #[.val (.int p1), .val (.int p2), .val (.int p3), .val (.int p4), .val (.int q), .val (.int on), .val (.int f1), .val (.int f2), .val (.int f3), .val (.int f4), .val (.int v1), .val (.int v2), .val (.ref r1), .val (.ref r2), .val (.int ot), .val (.int v3), .val (.ref r3), .val (.ref sz), .val (.ref dom), .val (.int mk), .unset] [])) t → Steps p.tables e below (T0.setTop (mkF m 191 #[.val (.int p1), .val (.int p2), .val (.int p3), .val (.int p4), .val (.int q), .val (.int on), .val (.int f1), .val (.int f2), .val (.int f3), .val (.int f4), .val (.int v1), .val (.int v2), .val (.ref r1), .val (.ref r2), .val (.int ot), .val (.int v3), .val (.ref r3), .val (.ref sz), .val (.ref dom), .val (.int mk), .unset] [])) t := by
  refine ⟨T0, _, X0, N0, e0, fun t kt => ?_⟩
  show Steps p.tables e below (T0.setTop (mkF m 191 #[.val (.int p1), .val (.int p2), .val (.int p3), .val (.int p4), .val (.int q), .val (.int on), .val (.int f1), .val (.int f2), .val (.int f3), .val (.int f4), .val (.int v1), .val (.int v2), .val (.ref r1), .val (.ref r2), .val (.int ot), .val (.int v3), .val (.ref r3), .val (.ref sz), .val (.ref dom), .val (.int mk), .unset] [])) _
  refine XS.iload X0.here hx rfl (hb hby at_191) rfl ?_
  show Steps p.tables e below (T0.setTop (mkF m 193 #[.val (.int p1), .val (.int p2), .val (.int p3), .val (.int p4), .val (.int q), .val (.int on), .val (.int f1), .val (.int f2), .val (.int f3), .val (.int f4), .val (.int v1), .val (.int v2), .val (.ref r1), .val (.ref r2), .val (.int ot), .val (.int v3), .val (.ref r3), .val (.ref sz), .val (.ref dom), .val (.int mk), .unset] [(.int f2)])) _
  refine XS.ifYes X0.here hx rfl (pc0 := 193) (pc' := 207) rfl (hb hby at_193) rfl ((if0 _ _).trans (teq hd0).1) (by decide) (by decide) ?_
  show Steps p.tables e below (T0.setTop (mkF m 207 #[.val (.int p1), .val (.int p2), .val (.int p3), .val (.int p4), .val (.int q), .val (.int on), .val (.int f1), .val (.int f2), .val (.int f3), .val (.int f4), .val (.int v1), .val (.int v2), .val (.ref r1), .val (.ref r2), .val (.int ot), .val (.int v3), .val (.ref r3), .val (.ref sz), .val (.ref dom), .val (.int mk), .unset] [])) _
  exact kt
set_option maxRecDepth 65536 in
set_option maxHeartbeats 40000000 in
theorem l21 {p : Program} {l : Launch} {e : Env} {s : State} {m : MethodId} {args : Array Value} {below : List Frame} {meth : Method} {c : Code} {T0 : State} {locs : List Loc} {Z : State} {a0 : Array Value} {h0 : Heap} {n0 : Nat} (p1 : Int32) (p2 : Int32) (p3 : Int32) (p4 : Int32) (q : Int32) (on : Int32) (f1 : Int32) (f2 : Int32) (f3 : Int32) (f4 : Int32) (v1 : Int32) (v2 : Int32) (r1 : Addr) (r2 : Addr) (ot : Int32) (v3 : Int32) (r3 : Addr) (sz : Addr) (dom : Addr) (mk : Int32)
    (X0 : Stand p l e room_1 s m args below meth c T0 locs 14 58) (hx : p.tables.exec = Jvm.exec) (hZ : Z.Warmed39 s.vm) (hw : ∀ d ∈ tables_1, d.before a0 Z = true) (hby : c.code = code) (hml : c.maxLocals = 21) (hown : s.vm.findClass "com/example/caprice/caprice/solver/DomainsRemovalsRestOnPinLaw" = some m.cls) (e0 : T0.heap = h0) (N0 : Fr n0 locs) (O0 : Old Z n0 h0) (hd0 : ¬ (f2 = (0 : Int32))) :
    ∃ (T' : State) (locs' : List Loc), Stand p l e room_1 s m args below meth c T' locs' 14 58 ∧ Fr n0 locs' ∧ T'.heap = h0 ∧ ∀ t, Steps p.tables e below (T'.setTop (mkF m 204 #[.val (.int p1), .val (.int p2), .val (.int p3), .val (.int p4), .val (.int q), .val (.int on), .val (.int f1), .val (.int f2), .val (.int f3), .val (.int f4), .val (.int v1), .val (.int v2), .val (.ref r1), .val (.ref r2), .val (.int ot), .val (.int v3), .val (.ref r3), .val (.ref sz), .val (.ref dom), .val (.int mk), .unset] [(.ref r2), (.int v2), (.int q), (.ref dom)])) t → Steps p.tables e below (T0.setTop (mkF m 191 #[.val (.int p1), .val (.int p2), .val (.int p3), .val (.int p4), .val (.int q), .val (.int on), .val (.int f1), .val (.int f2), .val (.int f3), .val (.int f4), .val (.int v1), .val (.int v2), .val (.ref r1), .val (.ref r2), .val (.int ot), .val (.int v3), .val (.ref r3), .val (.ref sz), .val (.ref dom), .val (.int mk), .unset] [])) t := by
  refine ⟨T0, _, X0, N0, e0, fun t kt => ?_⟩
  show Steps p.tables e below (T0.setTop (mkF m 191 #[.val (.int p1), .val (.int p2), .val (.int p3), .val (.int p4), .val (.int q), .val (.int on), .val (.int f1), .val (.int f2), .val (.int f3), .val (.int f4), .val (.int v1), .val (.int v2), .val (.ref r1), .val (.ref r2), .val (.int ot), .val (.int v3), .val (.ref r3), .val (.ref sz), .val (.ref dom), .val (.int mk), .unset] [])) _
  refine XS.iload X0.here hx rfl (hb hby at_191) rfl ?_
  show Steps p.tables e below (T0.setTop (mkF m 193 #[.val (.int p1), .val (.int p2), .val (.int p3), .val (.int p4), .val (.int q), .val (.int on), .val (.int f1), .val (.int f2), .val (.int f3), .val (.int f4), .val (.int v1), .val (.int v2), .val (.ref r1), .val (.ref r2), .val (.int ot), .val (.int v3), .val (.ref r3), .val (.ref sz), .val (.ref dom), .val (.int mk), .unset] [(.int f2)])) _
  refine XS.ifNo X0.here hx rfl (hb hby at_193) rfl ((if0 _ _).trans (feq hd0).1) ?_
  show Steps p.tables e below (T0.setTop (mkF m 196 #[.val (.int p1), .val (.int p2), .val (.int p3), .val (.int p4), .val (.int q), .val (.int on), .val (.int f1), .val (.int f2), .val (.int f3), .val (.int f4), .val (.int v1), .val (.int v2), .val (.ref r1), .val (.ref r2), .val (.int ot), .val (.int v3), .val (.ref r3), .val (.ref sz), .val (.ref dom), .val (.int mk), .unset] [])) _
  refine XS.aload X0.here hx rfl (hb hby at_196) rfl rfl ?_
  show Steps p.tables e below (T0.setTop (mkF m 198 #[.val (.int p1), .val (.int p2), .val (.int p3), .val (.int p4), .val (.int q), .val (.int on), .val (.int f1), .val (.int f2), .val (.int f3), .val (.int f4), .val (.int v1), .val (.int v2), .val (.ref r1), .val (.ref r2), .val (.int ot), .val (.int v3), .val (.ref r3), .val (.ref sz), .val (.ref dom), .val (.int mk), .unset] [(.ref dom)])) _
  refine XS.iload X0.here hx rfl (hb hby at_198) rfl ?_
  show Steps p.tables e below (T0.setTop (mkF m 200 #[.val (.int p1), .val (.int p2), .val (.int p3), .val (.int p4), .val (.int q), .val (.int on), .val (.int f1), .val (.int f2), .val (.int f3), .val (.int f4), .val (.int v1), .val (.int v2), .val (.ref r1), .val (.ref r2), .val (.int ot), .val (.int v3), .val (.ref r3), .val (.ref sz), .val (.ref dom), .val (.int mk), .unset] [(.int q), (.ref dom)])) _
  refine XS.iload X0.here hx rfl (hb hby at_200) rfl ?_
  show Steps p.tables e below (T0.setTop (mkF m 202 #[.val (.int p1), .val (.int p2), .val (.int p3), .val (.int p4), .val (.int q), .val (.int on), .val (.int f1), .val (.int f2), .val (.int f3), .val (.int f4), .val (.int v1), .val (.int v2), .val (.ref r1), .val (.ref r2), .val (.int ot), .val (.int v3), .val (.ref r3), .val (.ref sz), .val (.ref dom), .val (.int mk), .unset] [(.int v2), (.int q), (.ref dom)])) _
  refine XS.aload X0.here hx rfl (hb hby at_202) rfl rfl ?_
  show Steps p.tables e below (T0.setTop (mkF m 204 #[.val (.int p1), .val (.int p2), .val (.int p3), .val (.int p4), .val (.int q), .val (.int on), .val (.int f1), .val (.int f2), .val (.int f3), .val (.int f4), .val (.int v1), .val (.int v2), .val (.ref r1), .val (.ref r2), .val (.int ot), .val (.int v3), .val (.ref r3), .val (.ref sz), .val (.ref dom), .val (.int mk), .unset] [(.ref r2), (.int v2), (.int q), (.ref dom)])) _
  exact kt
set_option maxRecDepth 65536 in
set_option maxHeartbeats 4000000 in
theorem cM2 {p : Program} {l : Launch} {e : Env} {s : State} {m : MethodId} {args : Array Value} {below : List Frame} {meth : Method} {c : Code} {T0 : State} {locs : List Loc} {cells slots : Nat} {Z : State} {a0 : Array Value} {h0 : Heap} {Ls : Array Slot} (ob : Addr) (x0 : Int32) (x1 : Int32) (x2 : Addr)
    (X0 : Stand p l e room_1 s m args below meth c T0 locs cells slots) (hx : p.tables.exec = Jvm.exec) (hZ : Z.Warmed39 s.vm) (hw : ∀ d ∈ tables_1, d.before a0 Z = true) (hby : c.code = code) (hml : c.maxLocals = 21) (hown : s.vm.findClass "com/example/caprice/caprice/solver/DomainsRemovalsRestOnPinLaw" = some m.cls) (e0 : T0.heap = h0) (hsz : Ls.size = 21) (ER : Exa Z h0 ob "com/example/caprice/caprice/solver/Domains") {rm : Room} {Q : Option Value → Heap → List Loc → Prop}
    (M : MetFree l (⟨"com/example/caprice/caprice/solver/Domains", "remove", "(II[I)V"⟩ : MethodName) (head1 [Jvm.Cond.code (⟨"com/example/caprice/caprice/solver/Domains", "remove", "(II[I)V"⟩ : MethodName) prog_59_method_10_code 4 none] rm) (fun a U => a = #[(.ref ob), (.int x0), (.int x1), (.ref x2)] ∧ Z.Warmed39 U.vm ∧ U.heap = h0) (fun _ _ _ _ _ => True) (fun _ U o U' => ∃ v L, o = .returned v ∧ Q v U'.heap L ∧ FrameEnd U o U' L rm.cells rm.slots)) (hfr : rm.frames + 1 ≤ room_1.frames) (hlo : 0 + (4 + 11) + rm.locals ≤ room_1.locals) (hce : cells + rm.cells ≤ room_1.cells) (hsl : slots + rm.slots ≤ room_1.slots) :
    ∃ (T' : State) (v : Option Value) (L : List Loc), Stand p l e room_1 s m args below meth c T' (locs ++ L) (cells + rm.cells) (slots + rm.slots) ∧ Q v T'.heap L ∧ ∀ t, Steps p.tables e below (T'.setTop (mkF m 207 Ls (v.toList ++ []))) t → Steps p.tables e below (T0.setTop (mkF m 204 Ls [(.ref x2), (.int x1), (.int x0), (.ref ob)])) t := by
  obtain ⟨cq, kq, qa, qb, qc⟩ := isOf hZ e0 ER
  obtain ⟨v, _, ⟨T1, L1, k1, n1⟩, -, X1, ⟨Lc, hQ, l1, y1, z1⟩, st⟩ := X0.virtualBack hx (y := (⟨"com/example/caprice/caprice/solver/Domains", "remove", "(II[I)V"⟩ : MethodName)) (z := (⟨"com/example/caprice/caprice/solver/Domains", "remove", "(II[I)V"⟩ : MethodName)) hown (mvT hZ (hw _ (List.mem_of_getElem? (i := 37) rfl))) (mvT hZ (hw _ (List.mem_of_getElem? (i := 38) rfl))) (notFace_of_selects (args := #[]) (mvT hZ (hw _ (List.mem_of_getElem? (i := 40) rfl)))) (mvT hZ (hw _ (List.mem_of_getElem? (i := 40) rfl))) (mvT hZ (hw _ (List.mem_of_getElem? (i := 39) rfl))) (by decide) (backOf (W := 0) M hZ (hw _ (List.mem_of_getElem? (i := 41) rfl)) (hw _ (List.mem_of_getElem? (i := 8) rfl)) hfr hlo) qa qc (g := (mkF m 204 Ls [(.ref x2), (.int x1), (.int x0), (.ref ob)])) rfl (by rw [hml]; exact hsz) (Steps.refl _) (argsL := [(.int x0), (.int x1), (.ref x2)]) (rest := []) (lenOf pd362 rfl) rfl (by show 2 * 0 + _ ≤ _; exact Nat.le_of_eq rfl) (hb hby at_204) (fun _ _ => ⟨rfl, e0, hce, hsl⟩)
  dsimp only [Pt.U, Pt.locs, Pt.cells, Pt.slots] at X1 l1 y1 z1 st hQ
  subst l1 y1 z1
  exact ⟨T1, v, Lc, X1, hQ, fun t kt => st.trans kt⟩
set_option maxRecDepth 65536 in
set_option maxHeartbeats 40000000 in
theorem l30 {p : Program} {l : Launch} {e : Env} {s : State} {m : MethodId} {args : Array Value} {below : List Frame} {meth : Method} {c : Code} {T0 : State} {locs : List Loc} {Z : State} {a0 : Array Value} {h0 : Heap} {n0 : Nat} (p1 : Int32) (p2 : Int32) (p3 : Int32) (p4 : Int32) (q : Int32) (on : Int32) (f1 : Int32) (f2 : Int32) (f3 : Int32) (f4 : Int32) (v1 : Int32) (v2 : Int32) (r1 : Addr) (r2 : Addr) (ot : Int32) (v3 : Int32) (r3 : Addr) (sz : Addr) (dom : Addr) (mk : Int32)
    (X0 : Stand p l e room_1 s m args below meth c T0 locs 14 58) (hx : p.tables.exec = Jvm.exec) (hZ : Z.Warmed39 s.vm) (hw : ∀ d ∈ tables_1, d.before a0 Z = true) (hby : c.code = code) (hml : c.maxLocals = 21) (hown : s.vm.findClass "com/example/caprice/caprice/solver/DomainsRemovalsRestOnPinLaw" = some m.cls) (e0 : T0.heap = h0) (N0 : Fr n0 locs) (O0 : Old Z n0 h0) (hd0 : f3 = (0 : Int32)) :
    ∃ (T' : State) (locs' : List Loc), Stand p l e room_1 s m args below meth c T' locs' 14 58 ∧ Fr n0 locs' ∧ T'.heap = h0 ∧ ∀ t, Steps p.tables e below (T'.setTop (mkF m 223 #[.val (.int p1), .val (.int p2), .val (.int p3), .val (.int p4), .val (.int q), .val (.int on), .val (.int f1), .val (.int f2), .val (.int f3), .val (.int f4), .val (.int v1), .val (.int v2), .val (.ref r1), .val (.ref r2), .val (.int ot), .val (.int v3), .val (.ref r3), .val (.ref sz), .val (.ref dom), .val (.int mk), .unset] [])) t → Steps p.tables e below (T0.setTop (mkF m 207 #[.val (.int p1), .val (.int p2), .val (.int p3), .val (.int p4), .val (.int q), .val (.int on), .val (.int f1), .val (.int f2), .val (.int f3), .val (.int f4), .val (.int v1), .val (.int v2), .val (.ref r1), .val (.ref r2), .val (.int ot), .val (.int v3), .val (.ref r3), .val (.ref sz), .val (.ref dom), .val (.int mk), .unset] [])) t := by
  refine ⟨T0, _, X0, N0, e0, fun t kt => ?_⟩
  show Steps p.tables e below (T0.setTop (mkF m 207 #[.val (.int p1), .val (.int p2), .val (.int p3), .val (.int p4), .val (.int q), .val (.int on), .val (.int f1), .val (.int f2), .val (.int f3), .val (.int f4), .val (.int v1), .val (.int v2), .val (.ref r1), .val (.ref r2), .val (.int ot), .val (.int v3), .val (.ref r3), .val (.ref sz), .val (.ref dom), .val (.int mk), .unset] [])) _
  refine XS.iload X0.here hx rfl (hb hby at_207) rfl ?_
  show Steps p.tables e below (T0.setTop (mkF m 209 #[.val (.int p1), .val (.int p2), .val (.int p3), .val (.int p4), .val (.int q), .val (.int on), .val (.int f1), .val (.int f2), .val (.int f3), .val (.int f4), .val (.int v1), .val (.int v2), .val (.ref r1), .val (.ref r2), .val (.int ot), .val (.int v3), .val (.ref r3), .val (.ref sz), .val (.ref dom), .val (.int mk), .unset] [(.int f3)])) _
  refine XS.ifYes X0.here hx rfl (pc0 := 209) (pc' := 223) rfl (hb hby at_209) rfl ((if0 _ _).trans (teq hd0).1) (by decide) (by decide) ?_
  show Steps p.tables e below (T0.setTop (mkF m 223 #[.val (.int p1), .val (.int p2), .val (.int p3), .val (.int p4), .val (.int q), .val (.int on), .val (.int f1), .val (.int f2), .val (.int f3), .val (.int f4), .val (.int v1), .val (.int v2), .val (.ref r1), .val (.ref r2), .val (.int ot), .val (.int v3), .val (.ref r3), .val (.ref sz), .val (.ref dom), .val (.int mk), .unset] [])) _
  exact kt
set_option maxRecDepth 65536 in
set_option maxHeartbeats 40000000 in
theorem l31 {p : Program} {l : Launch} {e : Env} {s : State} {m : MethodId} {args : Array Value} {below : List Frame} {meth : Method} {c : Code} {T0 : State} {locs : List Loc} {Z : State} {a0 : Array Value} {h0 : Heap} {n0 : Nat} (p1 : Int32) (p2 : Int32) (p3 : Int32) (p4 : Int32) (q : Int32) (on : Int32) (f1 : Int32) (f2 : Int32) (f3 : Int32) (f4 : Int32) (v1 : Int32) (v2 : Int32) (r1 : Addr) (r2 : Addr) (ot : Int32) (v3 : Int32) (r3 : Addr) (sz : Addr) (dom : Addr) (mk : Int32)
    (X0 : Stand p l e room_1 s m args below meth c T0 locs 14 58) (hx : p.tables.exec = Jvm.exec) (hZ : Z.Warmed39 s.vm) (hw : ∀ d ∈ tables_1, d.before a0 Z = true) (hby : c.code = code) (hml : c.maxLocals = 21) (hown : s.vm.findClass "com/example/caprice/caprice/solver/DomainsRemovalsRestOnPinLaw" = some m.cls) (e0 : T0.heap = h0) (N0 : Fr n0 locs) (O0 : Old Z n0 h0) (hd0 : ¬ (f3 = (0 : Int32))) :
    ∃ (T' : State) (locs' : List Loc), Stand p l e room_1 s m args below meth c T' locs' 14 58 ∧ Fr n0 locs' ∧ T'.heap = h0 ∧ ∀ t, Steps p.tables e below (T'.setTop (mkF m 220 #[.val (.int p1), .val (.int p2), .val (.int p3), .val (.int p4), .val (.int q), .val (.int on), .val (.int f1), .val (.int f2), .val (.int f3), .val (.int f4), .val (.int v1), .val (.int v2), .val (.ref r1), .val (.ref r2), .val (.int ot), .val (.int v3), .val (.ref r3), .val (.ref sz), .val (.ref dom), .val (.int mk), .unset] [(.ref r3), (.int v3), (.int ot), (.ref dom)])) t → Steps p.tables e below (T0.setTop (mkF m 207 #[.val (.int p1), .val (.int p2), .val (.int p3), .val (.int p4), .val (.int q), .val (.int on), .val (.int f1), .val (.int f2), .val (.int f3), .val (.int f4), .val (.int v1), .val (.int v2), .val (.ref r1), .val (.ref r2), .val (.int ot), .val (.int v3), .val (.ref r3), .val (.ref sz), .val (.ref dom), .val (.int mk), .unset] [])) t := by
  refine ⟨T0, _, X0, N0, e0, fun t kt => ?_⟩
  show Steps p.tables e below (T0.setTop (mkF m 207 #[.val (.int p1), .val (.int p2), .val (.int p3), .val (.int p4), .val (.int q), .val (.int on), .val (.int f1), .val (.int f2), .val (.int f3), .val (.int f4), .val (.int v1), .val (.int v2), .val (.ref r1), .val (.ref r2), .val (.int ot), .val (.int v3), .val (.ref r3), .val (.ref sz), .val (.ref dom), .val (.int mk), .unset] [])) _
  refine XS.iload X0.here hx rfl (hb hby at_207) rfl ?_
  show Steps p.tables e below (T0.setTop (mkF m 209 #[.val (.int p1), .val (.int p2), .val (.int p3), .val (.int p4), .val (.int q), .val (.int on), .val (.int f1), .val (.int f2), .val (.int f3), .val (.int f4), .val (.int v1), .val (.int v2), .val (.ref r1), .val (.ref r2), .val (.int ot), .val (.int v3), .val (.ref r3), .val (.ref sz), .val (.ref dom), .val (.int mk), .unset] [(.int f3)])) _
  refine XS.ifNo X0.here hx rfl (hb hby at_209) rfl ((if0 _ _).trans (feq hd0).1) ?_
  show Steps p.tables e below (T0.setTop (mkF m 212 #[.val (.int p1), .val (.int p2), .val (.int p3), .val (.int p4), .val (.int q), .val (.int on), .val (.int f1), .val (.int f2), .val (.int f3), .val (.int f4), .val (.int v1), .val (.int v2), .val (.ref r1), .val (.ref r2), .val (.int ot), .val (.int v3), .val (.ref r3), .val (.ref sz), .val (.ref dom), .val (.int mk), .unset] [])) _
  refine XS.aload X0.here hx rfl (hb hby at_212) rfl rfl ?_
  show Steps p.tables e below (T0.setTop (mkF m 214 #[.val (.int p1), .val (.int p2), .val (.int p3), .val (.int p4), .val (.int q), .val (.int on), .val (.int f1), .val (.int f2), .val (.int f3), .val (.int f4), .val (.int v1), .val (.int v2), .val (.ref r1), .val (.ref r2), .val (.int ot), .val (.int v3), .val (.ref r3), .val (.ref sz), .val (.ref dom), .val (.int mk), .unset] [(.ref dom)])) _
  refine XS.iload X0.here hx rfl (hb hby at_214) rfl ?_
  show Steps p.tables e below (T0.setTop (mkF m 216 #[.val (.int p1), .val (.int p2), .val (.int p3), .val (.int p4), .val (.int q), .val (.int on), .val (.int f1), .val (.int f2), .val (.int f3), .val (.int f4), .val (.int v1), .val (.int v2), .val (.ref r1), .val (.ref r2), .val (.int ot), .val (.int v3), .val (.ref r3), .val (.ref sz), .val (.ref dom), .val (.int mk), .unset] [(.int ot), (.ref dom)])) _
  refine XS.iload X0.here hx rfl (hb hby at_216) rfl ?_
  show Steps p.tables e below (T0.setTop (mkF m 218 #[.val (.int p1), .val (.int p2), .val (.int p3), .val (.int p4), .val (.int q), .val (.int on), .val (.int f1), .val (.int f2), .val (.int f3), .val (.int f4), .val (.int v1), .val (.int v2), .val (.ref r1), .val (.ref r2), .val (.int ot), .val (.int v3), .val (.ref r3), .val (.ref sz), .val (.ref dom), .val (.int mk), .unset] [(.int v3), (.int ot), (.ref dom)])) _
  refine XS.aload X0.here hx rfl (hb hby at_218) rfl rfl ?_
  show Steps p.tables e below (T0.setTop (mkF m 220 #[.val (.int p1), .val (.int p2), .val (.int p3), .val (.int p4), .val (.int q), .val (.int on), .val (.int f1), .val (.int f2), .val (.int f3), .val (.int f4), .val (.int v1), .val (.int v2), .val (.ref r1), .val (.ref r2), .val (.int ot), .val (.int v3), .val (.ref r3), .val (.ref sz), .val (.ref dom), .val (.int mk), .unset] [(.ref r3), (.int v3), (.int ot), (.ref dom)])) _
  exact kt
set_option maxRecDepth 65536 in
set_option maxHeartbeats 4000000 in
theorem cM3 {p : Program} {l : Launch} {e : Env} {s : State} {m : MethodId} {args : Array Value} {below : List Frame} {meth : Method} {c : Code} {T0 : State} {locs : List Loc} {cells slots : Nat} {Z : State} {a0 : Array Value} {h0 : Heap} {Ls : Array Slot} (ob : Addr) (x0 : Int32) (x1 : Int32) (x2 : Addr)
    (X0 : Stand p l e room_1 s m args below meth c T0 locs cells slots) (hx : p.tables.exec = Jvm.exec) (hZ : Z.Warmed39 s.vm) (hw : ∀ d ∈ tables_1, d.before a0 Z = true) (hby : c.code = code) (hml : c.maxLocals = 21) (hown : s.vm.findClass "com/example/caprice/caprice/solver/DomainsRemovalsRestOnPinLaw" = some m.cls) (e0 : T0.heap = h0) (hsz : Ls.size = 21) (ER : Exa Z h0 ob "com/example/caprice/caprice/solver/Domains") {rm : Room} {Q : Option Value → Heap → List Loc → Prop}
    (M : MetFree l (⟨"com/example/caprice/caprice/solver/Domains", "remove", "(II[I)V"⟩ : MethodName) (head1 [Jvm.Cond.code (⟨"com/example/caprice/caprice/solver/Domains", "remove", "(II[I)V"⟩ : MethodName) prog_59_method_10_code 4 none] rm) (fun a U => a = #[(.ref ob), (.int x0), (.int x1), (.ref x2)] ∧ Z.Warmed39 U.vm ∧ U.heap = h0) (fun _ _ _ _ _ => True) (fun _ U o U' => ∃ v L, o = .returned v ∧ Q v U'.heap L ∧ FrameEnd U o U' L rm.cells rm.slots)) (hfr : rm.frames + 1 ≤ room_1.frames) (hlo : 0 + (4 + 11) + rm.locals ≤ room_1.locals) (hce : cells + rm.cells ≤ room_1.cells) (hsl : slots + rm.slots ≤ room_1.slots) :
    ∃ (T' : State) (v : Option Value) (L : List Loc), Stand p l e room_1 s m args below meth c T' (locs ++ L) (cells + rm.cells) (slots + rm.slots) ∧ Q v T'.heap L ∧ ∀ t, Steps p.tables e below (T'.setTop (mkF m 223 Ls (v.toList ++ []))) t → Steps p.tables e below (T0.setTop (mkF m 220 Ls [(.ref x2), (.int x1), (.int x0), (.ref ob)])) t := by
  obtain ⟨cq, kq, qa, qb, qc⟩ := isOf hZ e0 ER
  obtain ⟨v, _, ⟨T1, L1, k1, n1⟩, -, X1, ⟨Lc, hQ, l1, y1, z1⟩, st⟩ := X0.virtualBack hx (y := (⟨"com/example/caprice/caprice/solver/Domains", "remove", "(II[I)V"⟩ : MethodName)) (z := (⟨"com/example/caprice/caprice/solver/Domains", "remove", "(II[I)V"⟩ : MethodName)) hown (mvT hZ (hw _ (List.mem_of_getElem? (i := 37) rfl))) (mvT hZ (hw _ (List.mem_of_getElem? (i := 38) rfl))) (notFace_of_selects (args := #[]) (mvT hZ (hw _ (List.mem_of_getElem? (i := 40) rfl)))) (mvT hZ (hw _ (List.mem_of_getElem? (i := 40) rfl))) (mvT hZ (hw _ (List.mem_of_getElem? (i := 39) rfl))) (by decide) (backOf (W := 0) M hZ (hw _ (List.mem_of_getElem? (i := 41) rfl)) (hw _ (List.mem_of_getElem? (i := 8) rfl)) hfr hlo) qa qc (g := (mkF m 220 Ls [(.ref x2), (.int x1), (.int x0), (.ref ob)])) rfl (by rw [hml]; exact hsz) (Steps.refl _) (argsL := [(.int x0), (.int x1), (.ref x2)]) (rest := []) (lenOf pd362 rfl) rfl (by show 2 * 0 + _ ≤ _; exact Nat.le_of_eq rfl) (hb hby at_220) (fun _ _ => ⟨rfl, e0, hce, hsl⟩)
  dsimp only [Pt.U, Pt.locs, Pt.cells, Pt.slots] at X1 l1 y1 z1 st hQ
  subst l1 y1 z1
  exact ⟨T1, v, Lc, X1, hQ, fun t kt => st.trans kt⟩
set_option maxRecDepth 65536 in
set_option maxHeartbeats 40000000 in
theorem l40 {p : Program} {l : Launch} {e : Env} {s : State} {m : MethodId} {args : Array Value} {below : List Frame} {meth : Method} {c : Code} {T0 : State} {locs : List Loc} {Z : State} {a0 : Array Value} {h0 : Heap} {n0 : Nat} (p1 : Int32) (p2 : Int32) (p3 : Int32) (p4 : Int32) (q : Int32) (on : Int32) (f1 : Int32) (f2 : Int32) (f3 : Int32) (f4 : Int32) (v1 : Int32) (v2 : Int32) (r1 : Addr) (r2 : Addr) (ot : Int32) (v3 : Int32) (r3 : Addr) (sz : Addr) (dom : Addr) (mk : Int32)
    (X0 : Stand p l e room_1 s m args below meth c T0 locs 14 58) (hx : p.tables.exec = Jvm.exec) (hZ : Z.Warmed39 s.vm) (hw : ∀ d ∈ tables_1, d.before a0 Z = true) (hby : c.code = code) (hml : c.maxLocals = 21) (hown : s.vm.findClass "com/example/caprice/caprice/solver/DomainsRemovalsRestOnPinLaw" = some m.cls) (e0 : T0.heap = h0) (N0 : Fr n0 locs) (O0 : Old Z n0 h0) (hd0 : f4 = (0 : Int32)) :
    ∃ (T' : State) (locs' : List Loc), Stand p l e room_1 s m args below meth c T' locs' 14 58 ∧ Fr n0 locs' ∧ T'.heap = h0 ∧ ∀ t, Steps p.tables e below (T'.setTop (mkF m 235 #[.val (.int p1), .val (.int p2), .val (.int p3), .val (.int p4), .val (.int q), .val (.int on), .val (.int f1), .val (.int f2), .val (.int f3), .val (.int f4), .val (.int v1), .val (.int v2), .val (.ref r1), .val (.ref r2), .val (.int ot), .val (.int v3), .val (.ref r3), .val (.ref sz), .val (.ref dom), .val (.int mk), .unset] [])) t → Steps p.tables e below (T0.setTop (mkF m 223 #[.val (.int p1), .val (.int p2), .val (.int p3), .val (.int p4), .val (.int q), .val (.int on), .val (.int f1), .val (.int f2), .val (.int f3), .val (.int f4), .val (.int v1), .val (.int v2), .val (.ref r1), .val (.ref r2), .val (.int ot), .val (.int v3), .val (.ref r3), .val (.ref sz), .val (.ref dom), .val (.int mk), .unset] [])) t := by
  refine ⟨T0, _, X0, N0, e0, fun t kt => ?_⟩
  show Steps p.tables e below (T0.setTop (mkF m 223 #[.val (.int p1), .val (.int p2), .val (.int p3), .val (.int p4), .val (.int q), .val (.int on), .val (.int f1), .val (.int f2), .val (.int f3), .val (.int f4), .val (.int v1), .val (.int v2), .val (.ref r1), .val (.ref r2), .val (.int ot), .val (.int v3), .val (.ref r3), .val (.ref sz), .val (.ref dom), .val (.int mk), .unset] [])) _
  refine XS.iload X0.here hx rfl (hb hby at_223) rfl ?_
  show Steps p.tables e below (T0.setTop (mkF m 225 #[.val (.int p1), .val (.int p2), .val (.int p3), .val (.int p4), .val (.int q), .val (.int on), .val (.int f1), .val (.int f2), .val (.int f3), .val (.int f4), .val (.int v1), .val (.int v2), .val (.ref r1), .val (.ref r2), .val (.int ot), .val (.int v3), .val (.ref r3), .val (.ref sz), .val (.ref dom), .val (.int mk), .unset] [(.int f4)])) _
  refine XS.ifYes X0.here hx rfl (pc0 := 225) (pc' := 235) rfl (hb hby at_225) rfl ((if0 _ _).trans (teq hd0).1) (by decide) (by decide) ?_
  show Steps p.tables e below (T0.setTop (mkF m 235 #[.val (.int p1), .val (.int p2), .val (.int p3), .val (.int p4), .val (.int q), .val (.int on), .val (.int f1), .val (.int f2), .val (.int f3), .val (.int f4), .val (.int v1), .val (.int v2), .val (.ref r1), .val (.ref r2), .val (.int ot), .val (.int v3), .val (.ref r3), .val (.ref sz), .val (.ref dom), .val (.int mk), .unset] [])) _
  exact kt
set_option maxRecDepth 65536 in
set_option maxHeartbeats 40000000 in
theorem l41 {p : Program} {l : Launch} {e : Env} {s : State} {m : MethodId} {args : Array Value} {below : List Frame} {meth : Method} {c : Code} {T0 : State} {locs : List Loc} {Z : State} {a0 : Array Value} {h0 : Heap} {n0 : Nat} (p1 : Int32) (p2 : Int32) (p3 : Int32) (p4 : Int32) (q : Int32) (on : Int32) (f1 : Int32) (f2 : Int32) (f3 : Int32) (f4 : Int32) (v1 : Int32) (v2 : Int32) (r1 : Addr) (r2 : Addr) (ot : Int32) (v3 : Int32) (r3 : Addr) (sz : Addr) (dom : Addr) (mk : Int32)
    (X0 : Stand p l e room_1 s m args below meth c T0 locs 14 58) (hx : p.tables.exec = Jvm.exec) (hZ : Z.Warmed39 s.vm) (hw : ∀ d ∈ tables_1, d.before a0 Z = true) (hby : c.code = code) (hml : c.maxLocals = 21) (hown : s.vm.findClass "com/example/caprice/caprice/solver/DomainsRemovalsRestOnPinLaw" = some m.cls) (e0 : T0.heap = h0) (N0 : Fr n0 locs) (O0 : Old Z n0 h0) (hd0 : ¬ (f4 = (0 : Int32))) :
    ∃ (T' : State) (locs' : List Loc), Stand p l e room_1 s m args below meth c T' locs' 14 58 ∧ Fr n0 locs' ∧ T'.heap = h0 ∧ ∀ t, Steps p.tables e below (T'.setTop (mkF m 232 #[.val (.int p1), .val (.int p2), .val (.int p3), .val (.int p4), .val (.int q), .val (.int on), .val (.int f1), .val (.int f2), .val (.int f3), .val (.int f4), .val (.int v1), .val (.int v2), .val (.ref r1), .val (.ref r2), .val (.int ot), .val (.int v3), .val (.ref r3), .val (.ref sz), .val (.ref dom), .val (.int mk), .unset] [(.int mk), (.ref dom)])) t → Steps p.tables e below (T0.setTop (mkF m 223 #[.val (.int p1), .val (.int p2), .val (.int p3), .val (.int p4), .val (.int q), .val (.int on), .val (.int f1), .val (.int f2), .val (.int f3), .val (.int f4), .val (.int v1), .val (.int v2), .val (.ref r1), .val (.ref r2), .val (.int ot), .val (.int v3), .val (.ref r3), .val (.ref sz), .val (.ref dom), .val (.int mk), .unset] [])) t := by
  refine ⟨T0, _, X0, N0, e0, fun t kt => ?_⟩
  show Steps p.tables e below (T0.setTop (mkF m 223 #[.val (.int p1), .val (.int p2), .val (.int p3), .val (.int p4), .val (.int q), .val (.int on), .val (.int f1), .val (.int f2), .val (.int f3), .val (.int f4), .val (.int v1), .val (.int v2), .val (.ref r1), .val (.ref r2), .val (.int ot), .val (.int v3), .val (.ref r3), .val (.ref sz), .val (.ref dom), .val (.int mk), .unset] [])) _
  refine XS.iload X0.here hx rfl (hb hby at_223) rfl ?_
  show Steps p.tables e below (T0.setTop (mkF m 225 #[.val (.int p1), .val (.int p2), .val (.int p3), .val (.int p4), .val (.int q), .val (.int on), .val (.int f1), .val (.int f2), .val (.int f3), .val (.int f4), .val (.int v1), .val (.int v2), .val (.ref r1), .val (.ref r2), .val (.int ot), .val (.int v3), .val (.ref r3), .val (.ref sz), .val (.ref dom), .val (.int mk), .unset] [(.int f4)])) _
  refine XS.ifNo X0.here hx rfl (hb hby at_225) rfl ((if0 _ _).trans (feq hd0).1) ?_
  show Steps p.tables e below (T0.setTop (mkF m 228 #[.val (.int p1), .val (.int p2), .val (.int p3), .val (.int p4), .val (.int q), .val (.int on), .val (.int f1), .val (.int f2), .val (.int f3), .val (.int f4), .val (.int v1), .val (.int v2), .val (.ref r1), .val (.ref r2), .val (.int ot), .val (.int v3), .val (.ref r3), .val (.ref sz), .val (.ref dom), .val (.int mk), .unset] [])) _
  refine XS.aload X0.here hx rfl (hb hby at_228) rfl rfl ?_
  show Steps p.tables e below (T0.setTop (mkF m 230 #[.val (.int p1), .val (.int p2), .val (.int p3), .val (.int p4), .val (.int q), .val (.int on), .val (.int f1), .val (.int f2), .val (.int f3), .val (.int f4), .val (.int v1), .val (.int v2), .val (.ref r1), .val (.ref r2), .val (.int ot), .val (.int v3), .val (.ref r3), .val (.ref sz), .val (.ref dom), .val (.int mk), .unset] [(.ref dom)])) _
  refine XS.iload X0.here hx rfl (hb hby at_230) rfl ?_
  show Steps p.tables e below (T0.setTop (mkF m 232 #[.val (.int p1), .val (.int p2), .val (.int p3), .val (.int p4), .val (.int q), .val (.int on), .val (.int f1), .val (.int f2), .val (.int f3), .val (.int f4), .val (.int v1), .val (.int v2), .val (.ref r1), .val (.ref r2), .val (.int ot), .val (.int v3), .val (.ref r3), .val (.ref sz), .val (.ref dom), .val (.int mk), .unset] [(.int mk), (.ref dom)])) _
  exact kt
theorem pd372 : parseMethodDescriptor "(I)V" = some ⟨[.int], none⟩ := by decide +kernel
set_option maxRecDepth 65536 in
set_option maxHeartbeats 4000000 in
theorem cS {p : Program} {l : Launch} {e : Env} {s : State} {m : MethodId} {args : Array Value} {below : List Frame} {meth : Method} {c : Code} {T0 : State} {locs : List Loc} {cells slots : Nat} {Z : State} {a0 : Array Value} {h0 : Heap} {Ls : Array Slot} (ob : Addr) (x0 : Int32)
    (X0 : Stand p l e room_1 s m args below meth c T0 locs cells slots) (hx : p.tables.exec = Jvm.exec) (hZ : Z.Warmed39 s.vm) (hw : ∀ d ∈ tables_1, d.before a0 Z = true) (hby : c.code = code) (hml : c.maxLocals = 21) (hown : s.vm.findClass "com/example/caprice/caprice/solver/DomainsRemovalsRestOnPinLaw" = some m.cls) (e0 : T0.heap = h0) (hsz : Ls.size = 21) (ER : Exa Z h0 ob "com/example/caprice/caprice/solver/Domains") {rm : Room} {Q : Option Value → Heap → List Loc → Prop}
    (M : MetFree l (⟨"com/example/caprice/caprice/solver/Domains", "restore", "(I)V"⟩ : MethodName) (head1 [Jvm.Cond.code (⟨"com/example/caprice/caprice/solver/Domains", "restore", "(I)V"⟩ : MethodName) prog_59_method_9_code 4 none] rm) (fun a U => a = #[(.ref ob), (.int x0)] ∧ Z.Warmed39 U.vm ∧ U.heap = h0) (fun _ _ _ _ _ => True) (fun _ U o U' => ∃ v L, o = .returned v ∧ Q v U'.heap L ∧ FrameEnd U o U' L rm.cells rm.slots)) (hfr : rm.frames + 1 ≤ room_1.frames) (hlo : 0 + (4 + 11) + rm.locals ≤ room_1.locals) (hce : cells + rm.cells ≤ room_1.cells) (hsl : slots + rm.slots ≤ room_1.slots) :
    ∃ (T' : State) (v : Option Value) (L : List Loc), Stand p l e room_1 s m args below meth c T' (locs ++ L) (cells + rm.cells) (slots + rm.slots) ∧ Q v T'.heap L ∧ ∀ t, Steps p.tables e below (T'.setTop (mkF m 235 Ls (v.toList ++ []))) t → Steps p.tables e below (T0.setTop (mkF m 232 Ls [(.int x0), (.ref ob)])) t := by
  obtain ⟨cq, kq, qa, qb, qc⟩ := isOf hZ e0 ER
  obtain ⟨v, _, ⟨T1, L1, k1, n1⟩, -, X1, ⟨Lc, hQ, l1, y1, z1⟩, st⟩ := X0.virtualBack hx (y := (⟨"com/example/caprice/caprice/solver/Domains", "restore", "(I)V"⟩ : MethodName)) (z := (⟨"com/example/caprice/caprice/solver/Domains", "restore", "(I)V"⟩ : MethodName)) hown (mvT hZ (hw _ (List.mem_of_getElem? (i := 59) rfl))) (mvT hZ (hw _ (List.mem_of_getElem? (i := 60) rfl))) (notFace_of_selects (args := #[]) (mvT hZ (hw _ (List.mem_of_getElem? (i := 62) rfl)))) (mvT hZ (hw _ (List.mem_of_getElem? (i := 62) rfl))) (mvT hZ (hw _ (List.mem_of_getElem? (i := 61) rfl))) (by decide) (backOf (W := 0) M hZ (hw _ (List.mem_of_getElem? (i := 63) rfl)) (hw _ (List.mem_of_getElem? (i := 8) rfl)) hfr hlo) qa qc (g := (mkF m 232 Ls [(.int x0), (.ref ob)])) rfl (by rw [hml]; exact hsz) (Steps.refl _) (argsL := [(.int x0)]) (rest := []) (lenOf pd372 rfl) rfl (by show 2 * 0 + _ ≤ _; exact Nat.le_of_eq rfl) (hb hby at_232) (fun _ _ => ⟨rfl, e0, hce, hsl⟩)
  dsimp only [Pt.U, Pt.locs, Pt.cells, Pt.slots] at X1 l1 y1 z1 st hQ
  subst l1 y1 z1
  exact ⟨T1, v, Lc, X1, hQ, fun t kt => st.trans kt⟩
set_option maxRecDepth 65536 in
set_option maxHeartbeats 40000000 in
theorem lha0 {p : Program} {l : Launch} {e : Env} {s : State} {m : MethodId} {args : Array Value} {below : List Frame} {meth : Method} {c : Code} {T0 : State} {locs : List Loc} {Z : State} {a0 : Array Value} {h0 : Heap} {n0 : Nat} (p1 : Int32) (p2 : Int32) (p3 : Int32) (p4 : Int32) (q : Int32) (on : Int32) (f1 : Int32) (f2 : Int32) (f3 : Int32) (f4 : Int32) (v1 : Int32) (v2 : Int32) (r1 : Addr) (r2 : Addr) (ot : Int32) (v3 : Int32) (r3 : Addr) (sz : Addr) (dom : Addr) (mk : Int32)
    (X0 : Stand p l e room_1 s m args below meth c T0 locs 14 58) (hx : p.tables.exec = Jvm.exec) (hZ : Z.Warmed39 s.vm) (hw : ∀ d ∈ tables_1, d.before a0 Z = true) (hby : c.code = code) (hml : c.maxLocals = 21) (hown : s.vm.findClass "com/example/caprice/caprice/solver/DomainsRemovalsRestOnPinLaw" = some m.cls) (e0 : T0.heap = h0) (N0 : Fr n0 locs) (O0 : Old Z n0 h0) (hd0 : f1 = (0 : Int32)) :
    ∃ (T' : State) (locs' : List Loc), Stand p l e room_1 s m args below meth c T' locs' 14 58 ∧ Fr n0 locs' ∧ T'.heap = h0 ∧ ∀ t, Steps p.tables e below (T'.setTop (mkF m 250 #[.val (.int p1), .val (.int p2), .val (.int p3), .val (.int p4), .val (.int q), .val (.int on), .val (.int f1), .val (.int f2), .val (.int f3), .val (.int f4), .val (.int v1), .val (.int v2), .val (.ref r1), .val (.ref r2), .val (.int ot), .val (.int v3), .val (.ref r3), .val (.ref sz), .val (.ref dom), .val (.int mk), .unset] [])) t → Steps p.tables e below (T0.setTop (mkF m 235 #[.val (.int p1), .val (.int p2), .val (.int p3), .val (.int p4), .val (.int q), .val (.int on), .val (.int f1), .val (.int f2), .val (.int f3), .val (.int f4), .val (.int v1), .val (.int v2), .val (.ref r1), .val (.ref r2), .val (.int ot), .val (.int v3), .val (.ref r3), .val (.ref sz), .val (.ref dom), .val (.int mk), .unset] [])) t := by
  refine ⟨T0, _, X0, N0, e0, fun t kt => ?_⟩
  show Steps p.tables e below (T0.setTop (mkF m 235 #[.val (.int p1), .val (.int p2), .val (.int p3), .val (.int p4), .val (.int q), .val (.int on), .val (.int f1), .val (.int f2), .val (.int f3), .val (.int f4), .val (.int v1), .val (.int v2), .val (.ref r1), .val (.ref r2), .val (.int ot), .val (.int v3), .val (.ref r3), .val (.ref sz), .val (.ref dom), .val (.int mk), .unset] [])) _
  refine XS.iload X0.here hx rfl (hb hby at_235) rfl ?_
  show Steps p.tables e below (T0.setTop (mkF m 237 #[.val (.int p1), .val (.int p2), .val (.int p3), .val (.int p4), .val (.int q), .val (.int on), .val (.int f1), .val (.int f2), .val (.int f3), .val (.int f4), .val (.int v1), .val (.int v2), .val (.ref r1), .val (.ref r2), .val (.int ot), .val (.int v3), .val (.ref r3), .val (.ref sz), .val (.ref dom), .val (.int mk), .unset] [(.int f1)])) _
  refine XS.ifYes X0.here hx rfl (pc0 := 237) (pc' := 250) rfl (hb hby at_237) rfl ((if0 _ _).trans (teq hd0).1) (by decide) (by decide) ?_
  show Steps p.tables e below (T0.setTop (mkF m 250 #[.val (.int p1), .val (.int p2), .val (.int p3), .val (.int p4), .val (.int q), .val (.int on), .val (.int f1), .val (.int f2), .val (.int f3), .val (.int f4), .val (.int v1), .val (.int v2), .val (.ref r1), .val (.ref r2), .val (.int ot), .val (.int v3), .val (.ref r3), .val (.ref sz), .val (.ref dom), .val (.int mk), .unset] [])) _
  exact kt
set_option maxRecDepth 65536 in
set_option maxHeartbeats 40000000 in
theorem lha1 {p : Program} {l : Launch} {e : Env} {s : State} {m : MethodId} {args : Array Value} {below : List Frame} {meth : Method} {c : Code} {T0 : State} {locs : List Loc} {Z : State} {a0 : Array Value} {h0 : Heap} {n0 : Nat} (p1 : Int32) (p2 : Int32) (p3 : Int32) (p4 : Int32) (q : Int32) (on : Int32) (f1 : Int32) (f2 : Int32) (f3 : Int32) (f4 : Int32) (v1 : Int32) (v2 : Int32) (r1 : Addr) (r2 : Addr) (ot : Int32) (v3 : Int32) (r3 : Addr) (sz : Addr) (dom : Addr) (mk : Int32)
    (X0 : Stand p l e room_1 s m args below meth c T0 locs 14 58) (hx : p.tables.exec = Jvm.exec) (hZ : Z.Warmed39 s.vm) (hw : ∀ d ∈ tables_1, d.before a0 Z = true) (hby : c.code = code) (hml : c.maxLocals = 21) (hown : s.vm.findClass "com/example/caprice/caprice/solver/DomainsRemovalsRestOnPinLaw" = some m.cls) (e0 : T0.heap = h0) (N0 : Fr n0 locs) (O0 : Old Z n0 h0) (hd0 : ¬ (f1 = (0 : Int32))) :
    ∃ (T' : State) (locs' : List Loc), Stand p l e room_1 s m args below meth c T' locs' 14 58 ∧ Fr n0 locs' ∧ T'.heap = h0 ∧ ∀ t, Steps p.tables e below (T'.setTop (mkF m 244 #[.val (.int p1), .val (.int p2), .val (.int p3), .val (.int p4), .val (.int q), .val (.int on), .val (.int f1), .val (.int f2), .val (.int f3), .val (.int f4), .val (.int v1), .val (.int v2), .val (.ref r1), .val (.ref r2), .val (.int ot), .val (.int v3), .val (.ref r3), .val (.ref sz), .val (.ref dom), .val (.int mk), .unset] [(.int on), (.ref r1)])) t → Steps p.tables e below (T0.setTop (mkF m 235 #[.val (.int p1), .val (.int p2), .val (.int p3), .val (.int p4), .val (.int q), .val (.int on), .val (.int f1), .val (.int f2), .val (.int f3), .val (.int f4), .val (.int v1), .val (.int v2), .val (.ref r1), .val (.ref r2), .val (.int ot), .val (.int v3), .val (.ref r3), .val (.ref sz), .val (.ref dom), .val (.int mk), .unset] [])) t := by
  refine ⟨T0, _, X0, N0, e0, fun t kt => ?_⟩
  show Steps p.tables e below (T0.setTop (mkF m 235 #[.val (.int p1), .val (.int p2), .val (.int p3), .val (.int p4), .val (.int q), .val (.int on), .val (.int f1), .val (.int f2), .val (.int f3), .val (.int f4), .val (.int v1), .val (.int v2), .val (.ref r1), .val (.ref r2), .val (.int ot), .val (.int v3), .val (.ref r3), .val (.ref sz), .val (.ref dom), .val (.int mk), .unset] [])) _
  refine XS.iload X0.here hx rfl (hb hby at_235) rfl ?_
  show Steps p.tables e below (T0.setTop (mkF m 237 #[.val (.int p1), .val (.int p2), .val (.int p3), .val (.int p4), .val (.int q), .val (.int on), .val (.int f1), .val (.int f2), .val (.int f3), .val (.int f4), .val (.int v1), .val (.int v2), .val (.ref r1), .val (.ref r2), .val (.int ot), .val (.int v3), .val (.ref r3), .val (.ref sz), .val (.ref dom), .val (.int mk), .unset] [(.int f1)])) _
  refine XS.ifNo X0.here hx rfl (hb hby at_237) rfl ((if0 _ _).trans (feq hd0).1) ?_
  show Steps p.tables e below (T0.setTop (mkF m 240 #[.val (.int p1), .val (.int p2), .val (.int p3), .val (.int p4), .val (.int q), .val (.int on), .val (.int f1), .val (.int f2), .val (.int f3), .val (.int f4), .val (.int v1), .val (.int v2), .val (.ref r1), .val (.ref r2), .val (.int ot), .val (.int v3), .val (.ref r3), .val (.ref sz), .val (.ref dom), .val (.int mk), .unset] [])) _
  refine XS.aload X0.here hx rfl (hb hby at_240) rfl rfl ?_
  show Steps p.tables e below (T0.setTop (mkF m 242 #[.val (.int p1), .val (.int p2), .val (.int p3), .val (.int p4), .val (.int q), .val (.int on), .val (.int f1), .val (.int f2), .val (.int f3), .val (.int f4), .val (.int v1), .val (.int v2), .val (.ref r1), .val (.ref r2), .val (.int ot), .val (.int v3), .val (.ref r3), .val (.ref sz), .val (.ref dom), .val (.int mk), .unset] [(.ref r1)])) _
  refine XS.iload X0.here hx rfl (hb hby at_242) rfl ?_
  show Steps p.tables e below (T0.setTop (mkF m 244 #[.val (.int p1), .val (.int p2), .val (.int p3), .val (.int p4), .val (.int q), .val (.int on), .val (.int f1), .val (.int f2), .val (.int f3), .val (.int f4), .val (.int v1), .val (.int v2), .val (.ref r1), .val (.ref r2), .val (.int ot), .val (.int v3), .val (.ref r3), .val (.ref sz), .val (.ref dom), .val (.int mk), .unset] [(.int on), (.ref r1)])) _
  exact kt
theorem pd375 : parseMethodDescriptor "([II)Z" = some ⟨[(.array .int), .int], some .boolean⟩ := by decide +kernel
set_option maxRecDepth 65536 in
set_option maxHeartbeats 4000000 in
theorem cH1 {p : Program} {l : Launch} {e : Env} {s : State} {m : MethodId} {args : Array Value} {below : List Frame} {meth : Method} {c : Code} {T0 : State} {locs : List Loc} {cells slots : Nat} {Z : State} {a0 : Array Value} {h0 : Heap} {Ls : Array Slot} (x0 : Addr) (x1 : Int32)
    (X0 : Stand p l e room_1 s m args below meth c T0 locs cells slots) (hx : p.tables.exec = Jvm.exec) (hZ : Z.Warmed39 s.vm) (hw : ∀ d ∈ tables_1, d.before a0 Z = true) (hby : c.code = code) (hml : c.maxLocals = 21) (hown : s.vm.findClass "com/example/caprice/caprice/solver/DomainsRemovalsRestOnPinLaw" = some m.cls) (e0 : T0.heap = h0) (hsz : Ls.size = 21) {rm : Room} {Q : Option Value → Heap → List Loc → Prop}
    (M : MetFree l (⟨"com/example/caprice/caprice/solver/DomainsRemovalsRestOnPinLaw", "holds", "([II)Z"⟩ : MethodName) (head1 [Jvm.Cond.code (⟨"com/example/caprice/caprice/solver/DomainsRemovalsRestOnPinLaw", "holds", "([II)Z"⟩ : MethodName) method_4_code 2 (some .boolean)] rm) (fun a U => a = #[(.ref x0), (.int x1)] ∧ Z.Warmed39 U.vm ∧ U.heap = h0) (fun _ _ _ _ _ => True) (fun _ U o U' => ∃ v L, o = .returned v ∧ Q v U'.heap L ∧ FrameEnd U o U' L rm.cells rm.slots)) (hfr : rm.frames + 1 ≤ room_1.frames) (hlo : 0 + (2 + 11) + rm.locals ≤ room_1.locals) (hce : cells + rm.cells ≤ room_1.cells) (hsl : slots + rm.slots ≤ room_1.slots) :
    ∃ (T' : State) (v : Option Value) (L : List Loc), Stand p l e room_1 s m args below meth c T' (locs ++ L) (cells + rm.cells) (slots + rm.slots) ∧ Q v T'.heap L ∧ ∀ t, Steps p.tables e below (T'.setTop (mkF m 247 Ls (v.toList ++ []))) t → Steps p.tables e below (T0.setTop (mkF m 244 Ls [(.int x1), (.ref x0)])) t := by
  obtain ⟨v, _, ⟨T1, L1, k1, n1⟩, -, X1, ⟨Lc, hQ, l1, y1, z1⟩, st⟩ := Jvm.LawKit.callS X0 hx (y := (⟨"com/example/caprice/caprice/solver/DomainsRemovalsRestOnPinLaw", "holds", "([II)Z"⟩ : MethodName)) hown (mvT hZ (hw _ (List.mem_of_getElem? (i := 51) rfl))) (mvT hZ (hw _ (List.mem_of_getElem? (i := 52) rfl))) (mvT hZ (hw _ (List.mem_of_getElem? (i := 3) rfl))) (mvT hZ (hw _ (List.mem_of_getElem? (i := 53) rfl))) (by decide) (backOf (W := 0) M hZ (hw _ (List.mem_of_getElem? (i := 53) rfl)) (hw _ (List.mem_of_getElem? (i := 3) rfl)) hfr hlo) (g := (mkF m 244 Ls [(.int x1), (.ref x0)])) rfl (by rw [hml]; exact hsz) (argsL := [(.ref x0), (.int x1)]) (rest := []) (lenOf pd375 rfl) rfl (by show 2 * 0 + _ ≤ _; exact Nat.le_of_eq rfl) (hb hby at_244) (fun _ _ => ⟨rfl, e0, hce, hsl⟩)
  dsimp only [Pt.U, Pt.locs, Pt.cells, Pt.slots] at X1 l1 y1 z1 st hQ
  subst l1 y1 z1
  exact ⟨T1, v, Lc, X1, hQ, fun t kt => st t kt⟩
set_option maxRecDepth 65536 in
set_option maxHeartbeats 40000000 in
theorem lhb0 {p : Program} {l : Launch} {e : Env} {s : State} {m : MethodId} {args : Array Value} {below : List Frame} {meth : Method} {c : Code} {T0 : State} {locs : List Loc} {Z : State} {a0 : Array Value} {h0 : Heap} {n0 : Nat} (p1 : Int32) (p2 : Int32) (p3 : Int32) (p4 : Int32) (q : Int32) (on : Int32) (f1 : Int32) (f2 : Int32) (f3 : Int32) (f4 : Int32) (v1 : Int32) (v2 : Int32) (r1 : Addr) (r2 : Addr) (ot : Int32) (v3 : Int32) (r3 : Addr) (sz : Addr) (dom : Addr) (mk : Int32) (hv : Int32)
    (X0 : Stand p l e room_1 s m args below meth c T0 locs 14 58) (hx : p.tables.exec = Jvm.exec) (hZ : Z.Warmed39 s.vm) (hw : ∀ d ∈ tables_1, d.before a0 Z = true) (hby : c.code = code) (hml : c.maxLocals = 21) (hown : s.vm.findClass "com/example/caprice/caprice/solver/DomainsRemovalsRestOnPinLaw" = some m.cls) (e0 : T0.heap = h0) (N0 : Fr n0 locs) (O0 : Old Z n0 h0) (hd0 : hv = (0 : Int32)) :
    ∃ (T' : State) (locs' : List Loc), Stand p l e room_1 s m args below meth c T' locs' 14 58 ∧ Fr n0 locs' ∧ T'.heap = h0 ∧ ∀ t, Steps p.tables e below (T'.setTop (mkF m 250 #[.val (.int p1), .val (.int p2), .val (.int p3), .val (.int p4), .val (.int q), .val (.int on), .val (.int f1), .val (.int f2), .val (.int f3), .val (.int f4), .val (.int v1), .val (.int v2), .val (.ref r1), .val (.ref r2), .val (.int ot), .val (.int v3), .val (.ref r3), .val (.ref sz), .val (.ref dom), .val (.int mk), .unset] [])) t → Steps p.tables e below (T0.setTop (mkF m 247 #[.val (.int p1), .val (.int p2), .val (.int p3), .val (.int p4), .val (.int q), .val (.int on), .val (.int f1), .val (.int f2), .val (.int f3), .val (.int f4), .val (.int v1), .val (.int v2), .val (.ref r1), .val (.ref r2), .val (.int ot), .val (.int v3), .val (.ref r3), .val (.ref sz), .val (.ref dom), .val (.int mk), .unset] [(.int hv)])) t := by
  refine ⟨T0, _, X0, N0, e0, fun t kt => ?_⟩
  show Steps p.tables e below (T0.setTop (mkF m 247 #[.val (.int p1), .val (.int p2), .val (.int p3), .val (.int p4), .val (.int q), .val (.int on), .val (.int f1), .val (.int f2), .val (.int f3), .val (.int f4), .val (.int v1), .val (.int v2), .val (.ref r1), .val (.ref r2), .val (.int ot), .val (.int v3), .val (.ref r3), .val (.ref sz), .val (.ref dom), .val (.int mk), .unset] [(.int hv)])) _
  refine XS.ifNo X0.here hx rfl (hb hby at_247) rfl ((if0 _ _).trans (teq hd0).2) ?_
  show Steps p.tables e below (T0.setTop (mkF m 250 #[.val (.int p1), .val (.int p2), .val (.int p3), .val (.int p4), .val (.int q), .val (.int on), .val (.int f1), .val (.int f2), .val (.int f3), .val (.int f4), .val (.int v1), .val (.int v2), .val (.ref r1), .val (.ref r2), .val (.int ot), .val (.int v3), .val (.ref r3), .val (.ref sz), .val (.ref dom), .val (.int mk), .unset] [])) _
  exact kt
set_option maxRecDepth 65536 in
set_option maxHeartbeats 40000000 in
theorem lhb1 {p : Program} {l : Launch} {e : Env} {s : State} {m : MethodId} {args : Array Value} {below : List Frame} {meth : Method} {c : Code} {T0 : State} {locs : List Loc} {Z : State} {a0 : Array Value} {h0 : Heap} {n0 : Nat} (p1 : Int32) (p2 : Int32) (p3 : Int32) (p4 : Int32) (q : Int32) (on : Int32) (f1 : Int32) (f2 : Int32) (f3 : Int32) (f4 : Int32) (v1 : Int32) (v2 : Int32) (r1 : Addr) (r2 : Addr) (ot : Int32) (v3 : Int32) (r3 : Addr) (sz : Addr) (dom : Addr) (mk : Int32) (hv : Int32)
    (X0 : Stand p l e room_1 s m args below meth c T0 locs 14 58) (hx : p.tables.exec = Jvm.exec) (hZ : Z.Warmed39 s.vm) (hw : ∀ d ∈ tables_1, d.before a0 Z = true) (hby : c.code = code) (hml : c.maxLocals = 21) (hown : s.vm.findClass "com/example/caprice/caprice/solver/DomainsRemovalsRestOnPinLaw" = some m.cls) (e0 : T0.heap = h0) (N0 : Fr n0 locs) (O0 : Old Z n0 h0) (hd0 : ¬ (hv = (0 : Int32))) :
    ∃ (T' : State) (locs' : List Loc), Stand p l e room_1 s m args below meth c T' locs' 14 58 ∧ Fr n0 locs' ∧ T'.heap = h0 ∧ ∀ t, Steps p.tables e below (T'.setTop (mkF m 277 #[.val (.int p1), .val (.int p2), .val (.int p3), .val (.int p4), .val (.int q), .val (.int on), .val (.int f1), .val (.int f2), .val (.int f3), .val (.int f4), .val (.int v1), .val (.int v2), .val (.ref r1), .val (.ref r2), .val (.int ot), .val (.int v3), .val (.ref r3), .val (.ref sz), .val (.ref dom), .val (.int mk), .val (.int (1 : Int32))] [])) t → Steps p.tables e below (T0.setTop (mkF m 247 #[.val (.int p1), .val (.int p2), .val (.int p3), .val (.int p4), .val (.int q), .val (.int on), .val (.int f1), .val (.int f2), .val (.int f3), .val (.int f4), .val (.int v1), .val (.int v2), .val (.ref r1), .val (.ref r2), .val (.int ot), .val (.int v3), .val (.ref r3), .val (.ref sz), .val (.ref dom), .val (.int mk), .unset] [(.int hv)])) t := by
  refine ⟨T0, _, X0, N0, e0, fun t kt => ?_⟩
  show Steps p.tables e below (T0.setTop (mkF m 247 #[.val (.int p1), .val (.int p2), .val (.int p3), .val (.int p4), .val (.int q), .val (.int on), .val (.int f1), .val (.int f2), .val (.int f3), .val (.int f4), .val (.int v1), .val (.int v2), .val (.ref r1), .val (.ref r2), .val (.int ot), .val (.int v3), .val (.ref r3), .val (.ref sz), .val (.ref dom), .val (.int mk), .unset] [(.int hv)])) _
  refine XS.ifYes X0.here hx rfl (pc0 := 247) (pc' := 270) rfl (hb hby at_247) rfl ((if0 _ _).trans (feq hd0).2) (by decide) (by decide) ?_
  show Steps p.tables e below (T0.setTop (mkF m 270 #[.val (.int p1), .val (.int p2), .val (.int p3), .val (.int p4), .val (.int q), .val (.int on), .val (.int f1), .val (.int f2), .val (.int f3), .val (.int f4), .val (.int v1), .val (.int v2), .val (.ref r1), .val (.ref r2), .val (.int ot), .val (.int v3), .val (.ref r3), .val (.ref sz), .val (.ref dom), .val (.int mk), .unset] [])) _
  refine XS.iconst X0.here hx rfl (hb hby at_270) ?_
  show Steps p.tables e below (T0.setTop (mkF m 271 #[.val (.int p1), .val (.int p2), .val (.int p3), .val (.int p4), .val (.int q), .val (.int on), .val (.int f1), .val (.int f2), .val (.int f3), .val (.int f4), .val (.int v1), .val (.int v2), .val (.ref r1), .val (.ref r2), .val (.int ot), .val (.int v3), .val (.ref r3), .val (.ref sz), .val (.ref dom), .val (.int mk), .unset] [(.int (1 : Int32))])) _
  refine XS.goto X0.here hx rfl (pc0 := 271) (pc' := 275) rfl (hb hby at_271) (by decide) (by decide) ?_
  show Steps p.tables e below (T0.setTop (mkF m 275 #[.val (.int p1), .val (.int p2), .val (.int p3), .val (.int p4), .val (.int q), .val (.int on), .val (.int f1), .val (.int f2), .val (.int f3), .val (.int f4), .val (.int v1), .val (.int v2), .val (.ref r1), .val (.ref r2), .val (.int ot), .val (.int v3), .val (.ref r3), .val (.ref sz), .val (.ref dom), .val (.int mk), .unset] [(.int (1 : Int32))])) _
  refine XS.istore X0.here hx rfl (hb hby at_275) rfl (l' := #[.val (.int p1), .val (.int p2), .val (.int p3), .val (.int p4), .val (.int q), .val (.int on), .val (.int f1), .val (.int f2), .val (.int f3), .val (.int f4), .val (.int v1), .val (.int v2), .val (.ref r1), .val (.ref r2), .val (.int ot), .val (.int v3), .val (.ref r3), .val (.ref sz), .val (.ref dom), .val (.int mk), .val (.int (1 : Int32))]) rfl ?_
  show Steps p.tables e below (T0.setTop (mkF m 277 #[.val (.int p1), .val (.int p2), .val (.int p3), .val (.int p4), .val (.int q), .val (.int on), .val (.int f1), .val (.int f2), .val (.int f3), .val (.int f4), .val (.int v1), .val (.int v2), .val (.ref r1), .val (.ref r2), .val (.int ot), .val (.int v3), .val (.ref r3), .val (.ref sz), .val (.ref dom), .val (.int mk), .val (.int (1 : Int32))] [])) _
  exact kt
set_option maxRecDepth 65536 in
set_option maxHeartbeats 40000000 in
theorem lhc0 {p : Program} {l : Launch} {e : Env} {s : State} {m : MethodId} {args : Array Value} {below : List Frame} {meth : Method} {c : Code} {T0 : State} {locs : List Loc} {Z : State} {a0 : Array Value} {h0 : Heap} {n0 : Nat} (p1 : Int32) (p2 : Int32) (p3 : Int32) (p4 : Int32) (q : Int32) (on : Int32) (f1 : Int32) (f2 : Int32) (f3 : Int32) (f4 : Int32) (v1 : Int32) (v2 : Int32) (r1 : Addr) (r2 : Addr) (ot : Int32) (v3 : Int32) (r3 : Addr) (sz : Addr) (dom : Addr) (mk : Int32)
    (X0 : Stand p l e room_1 s m args below meth c T0 locs 14 58) (hx : p.tables.exec = Jvm.exec) (hZ : Z.Warmed39 s.vm) (hw : ∀ d ∈ tables_1, d.before a0 Z = true) (hby : c.code = code) (hml : c.maxLocals = 21) (hown : s.vm.findClass "com/example/caprice/caprice/solver/DomainsRemovalsRestOnPinLaw" = some m.cls) (e0 : T0.heap = h0) (N0 : Fr n0 locs) (O0 : Old Z n0 h0) (hd0 : f2 = (0 : Int32)) :
    ∃ (T' : State) (locs' : List Loc), Stand p l e room_1 s m args below meth c T' locs' 14 58 ∧ Fr n0 locs' ∧ T'.heap = h0 ∧ ∀ t, Steps p.tables e below (T'.setTop (mkF m 277 #[.val (.int p1), .val (.int p2), .val (.int p3), .val (.int p4), .val (.int q), .val (.int on), .val (.int f1), .val (.int f2), .val (.int f3), .val (.int f4), .val (.int v1), .val (.int v2), .val (.ref r1), .val (.ref r2), .val (.int ot), .val (.int v3), .val (.ref r3), .val (.ref sz), .val (.ref dom), .val (.int mk), .val (.int (0 : Int32))] [])) t → Steps p.tables e below (T0.setTop (mkF m 250 #[.val (.int p1), .val (.int p2), .val (.int p3), .val (.int p4), .val (.int q), .val (.int on), .val (.int f1), .val (.int f2), .val (.int f3), .val (.int f4), .val (.int v1), .val (.int v2), .val (.ref r1), .val (.ref r2), .val (.int ot), .val (.int v3), .val (.ref r3), .val (.ref sz), .val (.ref dom), .val (.int mk), .unset] [])) t := by
  refine ⟨T0, _, X0, N0, e0, fun t kt => ?_⟩
  show Steps p.tables e below (T0.setTop (mkF m 250 #[.val (.int p1), .val (.int p2), .val (.int p3), .val (.int p4), .val (.int q), .val (.int on), .val (.int f1), .val (.int f2), .val (.int f3), .val (.int f4), .val (.int v1), .val (.int v2), .val (.ref r1), .val (.ref r2), .val (.int ot), .val (.int v3), .val (.ref r3), .val (.ref sz), .val (.ref dom), .val (.int mk), .unset] [])) _
  refine XS.iload X0.here hx rfl (hb hby at_250) rfl ?_
  show Steps p.tables e below (T0.setTop (mkF m 252 #[.val (.int p1), .val (.int p2), .val (.int p3), .val (.int p4), .val (.int q), .val (.int on), .val (.int f1), .val (.int f2), .val (.int f3), .val (.int f4), .val (.int v1), .val (.int v2), .val (.ref r1), .val (.ref r2), .val (.int ot), .val (.int v3), .val (.ref r3), .val (.ref sz), .val (.ref dom), .val (.int mk), .unset] [(.int f2)])) _
  refine XS.ifYes X0.here hx rfl (pc0 := 252) (pc' := 274) rfl (hb hby at_252) rfl ((if0 _ _).trans (teq hd0).1) (by decide) (by decide) ?_
  show Steps p.tables e below (T0.setTop (mkF m 274 #[.val (.int p1), .val (.int p2), .val (.int p3), .val (.int p4), .val (.int q), .val (.int on), .val (.int f1), .val (.int f2), .val (.int f3), .val (.int f4), .val (.int v1), .val (.int v2), .val (.ref r1), .val (.ref r2), .val (.int ot), .val (.int v3), .val (.ref r3), .val (.ref sz), .val (.ref dom), .val (.int mk), .unset] [])) _
  refine XS.iconst X0.here hx rfl (hb hby at_274) ?_
  show Steps p.tables e below (T0.setTop (mkF m 275 #[.val (.int p1), .val (.int p2), .val (.int p3), .val (.int p4), .val (.int q), .val (.int on), .val (.int f1), .val (.int f2), .val (.int f3), .val (.int f4), .val (.int v1), .val (.int v2), .val (.ref r1), .val (.ref r2), .val (.int ot), .val (.int v3), .val (.ref r3), .val (.ref sz), .val (.ref dom), .val (.int mk), .unset] [(.int (0 : Int32))])) _
  refine XS.istore X0.here hx rfl (hb hby at_275) rfl (l' := #[.val (.int p1), .val (.int p2), .val (.int p3), .val (.int p4), .val (.int q), .val (.int on), .val (.int f1), .val (.int f2), .val (.int f3), .val (.int f4), .val (.int v1), .val (.int v2), .val (.ref r1), .val (.ref r2), .val (.int ot), .val (.int v3), .val (.ref r3), .val (.ref sz), .val (.ref dom), .val (.int mk), .val (.int (0 : Int32))]) rfl ?_
  show Steps p.tables e below (T0.setTop (mkF m 277 #[.val (.int p1), .val (.int p2), .val (.int p3), .val (.int p4), .val (.int q), .val (.int on), .val (.int f1), .val (.int f2), .val (.int f3), .val (.int f4), .val (.int v1), .val (.int v2), .val (.ref r1), .val (.ref r2), .val (.int ot), .val (.int v3), .val (.ref r3), .val (.ref sz), .val (.ref dom), .val (.int mk), .val (.int (0 : Int32))] [])) _
  exact kt
set_option maxRecDepth 65536 in
set_option maxHeartbeats 40000000 in
theorem lhc1 {p : Program} {l : Launch} {e : Env} {s : State} {m : MethodId} {args : Array Value} {below : List Frame} {meth : Method} {c : Code} {T0 : State} {locs : List Loc} {Z : State} {a0 : Array Value} {h0 : Heap} {n0 : Nat} (p1 : Int32) (p2 : Int32) (p3 : Int32) (p4 : Int32) (q : Int32) (on : Int32) (f1 : Int32) (f2 : Int32) (f3 : Int32) (f4 : Int32) (v1 : Int32) (v2 : Int32) (r1 : Addr) (r2 : Addr) (ot : Int32) (v3 : Int32) (r3 : Addr) (sz : Addr) (dom : Addr) (mk : Int32)
    (X0 : Stand p l e room_1 s m args below meth c T0 locs 14 58) (hx : p.tables.exec = Jvm.exec) (hZ : Z.Warmed39 s.vm) (hw : ∀ d ∈ tables_1, d.before a0 Z = true) (hby : c.code = code) (hml : c.maxLocals = 21) (hown : s.vm.findClass "com/example/caprice/caprice/solver/DomainsRemovalsRestOnPinLaw" = some m.cls) (e0 : T0.heap = h0) (N0 : Fr n0 locs) (O0 : Old Z n0 h0) (hd0 : ¬ (f2 = (0 : Int32))) (hd1 : ¬ (f4 = (0 : Int32))) :
    ∃ (T' : State) (locs' : List Loc), Stand p l e room_1 s m args below meth c T' locs' 14 58 ∧ Fr n0 locs' ∧ T'.heap = h0 ∧ ∀ t, Steps p.tables e below (T'.setTop (mkF m 277 #[.val (.int p1), .val (.int p2), .val (.int p3), .val (.int p4), .val (.int q), .val (.int on), .val (.int f1), .val (.int f2), .val (.int f3), .val (.int f4), .val (.int v1), .val (.int v2), .val (.ref r1), .val (.ref r2), .val (.int ot), .val (.int v3), .val (.ref r3), .val (.ref sz), .val (.ref dom), .val (.int mk), .val (.int (0 : Int32))] [])) t → Steps p.tables e below (T0.setTop (mkF m 250 #[.val (.int p1), .val (.int p2), .val (.int p3), .val (.int p4), .val (.int q), .val (.int on), .val (.int f1), .val (.int f2), .val (.int f3), .val (.int f4), .val (.int v1), .val (.int v2), .val (.ref r1), .val (.ref r2), .val (.int ot), .val (.int v3), .val (.ref r3), .val (.ref sz), .val (.ref dom), .val (.int mk), .unset] [])) t := by
  refine ⟨T0, _, X0, N0, e0, fun t kt => ?_⟩
  show Steps p.tables e below (T0.setTop (mkF m 250 #[.val (.int p1), .val (.int p2), .val (.int p3), .val (.int p4), .val (.int q), .val (.int on), .val (.int f1), .val (.int f2), .val (.int f3), .val (.int f4), .val (.int v1), .val (.int v2), .val (.ref r1), .val (.ref r2), .val (.int ot), .val (.int v3), .val (.ref r3), .val (.ref sz), .val (.ref dom), .val (.int mk), .unset] [])) _
  refine XS.iload X0.here hx rfl (hb hby at_250) rfl ?_
  show Steps p.tables e below (T0.setTop (mkF m 252 #[.val (.int p1), .val (.int p2), .val (.int p3), .val (.int p4), .val (.int q), .val (.int on), .val (.int f1), .val (.int f2), .val (.int f3), .val (.int f4), .val (.int v1), .val (.int v2), .val (.ref r1), .val (.ref r2), .val (.int ot), .val (.int v3), .val (.ref r3), .val (.ref sz), .val (.ref dom), .val (.int mk), .unset] [(.int f2)])) _
  refine XS.ifNo X0.here hx rfl (hb hby at_252) rfl ((if0 _ _).trans (feq hd0).1) ?_
  show Steps p.tables e below (T0.setTop (mkF m 255 #[.val (.int p1), .val (.int p2), .val (.int p3), .val (.int p4), .val (.int q), .val (.int on), .val (.int f1), .val (.int f2), .val (.int f3), .val (.int f4), .val (.int v1), .val (.int v2), .val (.ref r1), .val (.ref r2), .val (.int ot), .val (.int v3), .val (.ref r3), .val (.ref sz), .val (.ref dom), .val (.int mk), .unset] [])) _
  refine XS.iload X0.here hx rfl (hb hby at_255) rfl ?_
  show Steps p.tables e below (T0.setTop (mkF m 257 #[.val (.int p1), .val (.int p2), .val (.int p3), .val (.int p4), .val (.int q), .val (.int on), .val (.int f1), .val (.int f2), .val (.int f3), .val (.int f4), .val (.int v1), .val (.int v2), .val (.ref r1), .val (.ref r2), .val (.int ot), .val (.int v3), .val (.ref r3), .val (.ref sz), .val (.ref dom), .val (.int mk), .unset] [(.int f4)])) _
  refine XS.ifYes X0.here hx rfl (pc0 := 257) (pc' := 274) rfl (hb hby at_257) rfl ((if0 _ _).trans (feq hd1).2) (by decide) (by decide) ?_
  show Steps p.tables e below (T0.setTop (mkF m 274 #[.val (.int p1), .val (.int p2), .val (.int p3), .val (.int p4), .val (.int q), .val (.int on), .val (.int f1), .val (.int f2), .val (.int f3), .val (.int f4), .val (.int v1), .val (.int v2), .val (.ref r1), .val (.ref r2), .val (.int ot), .val (.int v3), .val (.ref r3), .val (.ref sz), .val (.ref dom), .val (.int mk), .unset] [])) _
  refine XS.iconst X0.here hx rfl (hb hby at_274) ?_
  show Steps p.tables e below (T0.setTop (mkF m 275 #[.val (.int p1), .val (.int p2), .val (.int p3), .val (.int p4), .val (.int q), .val (.int on), .val (.int f1), .val (.int f2), .val (.int f3), .val (.int f4), .val (.int v1), .val (.int v2), .val (.ref r1), .val (.ref r2), .val (.int ot), .val (.int v3), .val (.ref r3), .val (.ref sz), .val (.ref dom), .val (.int mk), .unset] [(.int (0 : Int32))])) _
  refine XS.istore X0.here hx rfl (hb hby at_275) rfl (l' := #[.val (.int p1), .val (.int p2), .val (.int p3), .val (.int p4), .val (.int q), .val (.int on), .val (.int f1), .val (.int f2), .val (.int f3), .val (.int f4), .val (.int v1), .val (.int v2), .val (.ref r1), .val (.ref r2), .val (.int ot), .val (.int v3), .val (.ref r3), .val (.ref sz), .val (.ref dom), .val (.int mk), .val (.int (0 : Int32))]) rfl ?_
  show Steps p.tables e below (T0.setTop (mkF m 277 #[.val (.int p1), .val (.int p2), .val (.int p3), .val (.int p4), .val (.int q), .val (.int on), .val (.int f1), .val (.int f2), .val (.int f3), .val (.int f4), .val (.int v1), .val (.int v2), .val (.ref r1), .val (.ref r2), .val (.int ot), .val (.int v3), .val (.ref r3), .val (.ref sz), .val (.ref dom), .val (.int mk), .val (.int (0 : Int32))] [])) _
  exact kt
set_option maxRecDepth 65536 in
set_option maxHeartbeats 40000000 in
theorem lhc2 {p : Program} {l : Launch} {e : Env} {s : State} {m : MethodId} {args : Array Value} {below : List Frame} {meth : Method} {c : Code} {T0 : State} {locs : List Loc} {Z : State} {a0 : Array Value} {h0 : Heap} {n0 : Nat} (p1 : Int32) (p2 : Int32) (p3 : Int32) (p4 : Int32) (q : Int32) (on : Int32) (f1 : Int32) (f2 : Int32) (f3 : Int32) (f4 : Int32) (v1 : Int32) (v2 : Int32) (r1 : Addr) (r2 : Addr) (ot : Int32) (v3 : Int32) (r3 : Addr) (sz : Addr) (dom : Addr) (mk : Int32)
    (X0 : Stand p l e room_1 s m args below meth c T0 locs 14 58) (hx : p.tables.exec = Jvm.exec) (hZ : Z.Warmed39 s.vm) (hw : ∀ d ∈ tables_1, d.before a0 Z = true) (hby : c.code = code) (hml : c.maxLocals = 21) (hown : s.vm.findClass "com/example/caprice/caprice/solver/DomainsRemovalsRestOnPinLaw" = some m.cls) (e0 : T0.heap = h0) (N0 : Fr n0 locs) (O0 : Old Z n0 h0) (hd0 : ¬ (f2 = (0 : Int32))) (hd1 : f4 = (0 : Int32)) :
    ∃ (T' : State) (locs' : List Loc), Stand p l e room_1 s m args below meth c T' locs' 14 58 ∧ Fr n0 locs' ∧ T'.heap = h0 ∧ ∀ t, Steps p.tables e below (T'.setTop (mkF m 264 #[.val (.int p1), .val (.int p2), .val (.int p3), .val (.int p4), .val (.int q), .val (.int on), .val (.int f1), .val (.int f2), .val (.int f3), .val (.int f4), .val (.int v1), .val (.int v2), .val (.ref r1), .val (.ref r2), .val (.int ot), .val (.int v3), .val (.ref r3), .val (.ref sz), .val (.ref dom), .val (.int mk), .unset] [(.int on), (.ref r2)])) t → Steps p.tables e below (T0.setTop (mkF m 250 #[.val (.int p1), .val (.int p2), .val (.int p3), .val (.int p4), .val (.int q), .val (.int on), .val (.int f1), .val (.int f2), .val (.int f3), .val (.int f4), .val (.int v1), .val (.int v2), .val (.ref r1), .val (.ref r2), .val (.int ot), .val (.int v3), .val (.ref r3), .val (.ref sz), .val (.ref dom), .val (.int mk), .unset] [])) t := by
  refine ⟨T0, _, X0, N0, e0, fun t kt => ?_⟩
  show Steps p.tables e below (T0.setTop (mkF m 250 #[.val (.int p1), .val (.int p2), .val (.int p3), .val (.int p4), .val (.int q), .val (.int on), .val (.int f1), .val (.int f2), .val (.int f3), .val (.int f4), .val (.int v1), .val (.int v2), .val (.ref r1), .val (.ref r2), .val (.int ot), .val (.int v3), .val (.ref r3), .val (.ref sz), .val (.ref dom), .val (.int mk), .unset] [])) _
  refine XS.iload X0.here hx rfl (hb hby at_250) rfl ?_
  show Steps p.tables e below (T0.setTop (mkF m 252 #[.val (.int p1), .val (.int p2), .val (.int p3), .val (.int p4), .val (.int q), .val (.int on), .val (.int f1), .val (.int f2), .val (.int f3), .val (.int f4), .val (.int v1), .val (.int v2), .val (.ref r1), .val (.ref r2), .val (.int ot), .val (.int v3), .val (.ref r3), .val (.ref sz), .val (.ref dom), .val (.int mk), .unset] [(.int f2)])) _
  refine XS.ifNo X0.here hx rfl (hb hby at_252) rfl ((if0 _ _).trans (feq hd0).1) ?_
  show Steps p.tables e below (T0.setTop (mkF m 255 #[.val (.int p1), .val (.int p2), .val (.int p3), .val (.int p4), .val (.int q), .val (.int on), .val (.int f1), .val (.int f2), .val (.int f3), .val (.int f4), .val (.int v1), .val (.int v2), .val (.ref r1), .val (.ref r2), .val (.int ot), .val (.int v3), .val (.ref r3), .val (.ref sz), .val (.ref dom), .val (.int mk), .unset] [])) _
  refine XS.iload X0.here hx rfl (hb hby at_255) rfl ?_
  show Steps p.tables e below (T0.setTop (mkF m 257 #[.val (.int p1), .val (.int p2), .val (.int p3), .val (.int p4), .val (.int q), .val (.int on), .val (.int f1), .val (.int f2), .val (.int f3), .val (.int f4), .val (.int v1), .val (.int v2), .val (.ref r1), .val (.ref r2), .val (.int ot), .val (.int v3), .val (.ref r3), .val (.ref sz), .val (.ref dom), .val (.int mk), .unset] [(.int f4)])) _
  refine XS.ifNo X0.here hx rfl (hb hby at_257) rfl ((if0 _ _).trans (teq hd1).2) ?_
  show Steps p.tables e below (T0.setTop (mkF m 260 #[.val (.int p1), .val (.int p2), .val (.int p3), .val (.int p4), .val (.int q), .val (.int on), .val (.int f1), .val (.int f2), .val (.int f3), .val (.int f4), .val (.int v1), .val (.int v2), .val (.ref r1), .val (.ref r2), .val (.int ot), .val (.int v3), .val (.ref r3), .val (.ref sz), .val (.ref dom), .val (.int mk), .unset] [])) _
  refine XS.aload X0.here hx rfl (hb hby at_260) rfl rfl ?_
  show Steps p.tables e below (T0.setTop (mkF m 262 #[.val (.int p1), .val (.int p2), .val (.int p3), .val (.int p4), .val (.int q), .val (.int on), .val (.int f1), .val (.int f2), .val (.int f3), .val (.int f4), .val (.int v1), .val (.int v2), .val (.ref r1), .val (.ref r2), .val (.int ot), .val (.int v3), .val (.ref r3), .val (.ref sz), .val (.ref dom), .val (.int mk), .unset] [(.ref r2)])) _
  refine XS.iload X0.here hx rfl (hb hby at_262) rfl ?_
  show Steps p.tables e below (T0.setTop (mkF m 264 #[.val (.int p1), .val (.int p2), .val (.int p3), .val (.int p4), .val (.int q), .val (.int on), .val (.int f1), .val (.int f2), .val (.int f3), .val (.int f4), .val (.int v1), .val (.int v2), .val (.ref r1), .val (.ref r2), .val (.int ot), .val (.int v3), .val (.ref r3), .val (.ref sz), .val (.ref dom), .val (.int mk), .unset] [(.int on), (.ref r2)])) _
  exact kt
set_option maxRecDepth 65536 in
set_option maxHeartbeats 4000000 in
theorem cH2 {p : Program} {l : Launch} {e : Env} {s : State} {m : MethodId} {args : Array Value} {below : List Frame} {meth : Method} {c : Code} {T0 : State} {locs : List Loc} {cells slots : Nat} {Z : State} {a0 : Array Value} {h0 : Heap} {Ls : Array Slot} (x0 : Addr) (x1 : Int32)
    (X0 : Stand p l e room_1 s m args below meth c T0 locs cells slots) (hx : p.tables.exec = Jvm.exec) (hZ : Z.Warmed39 s.vm) (hw : ∀ d ∈ tables_1, d.before a0 Z = true) (hby : c.code = code) (hml : c.maxLocals = 21) (hown : s.vm.findClass "com/example/caprice/caprice/solver/DomainsRemovalsRestOnPinLaw" = some m.cls) (e0 : T0.heap = h0) (hsz : Ls.size = 21) {rm : Room} {Q : Option Value → Heap → List Loc → Prop}
    (M : MetFree l (⟨"com/example/caprice/caprice/solver/DomainsRemovalsRestOnPinLaw", "holds", "([II)Z"⟩ : MethodName) (head1 [Jvm.Cond.code (⟨"com/example/caprice/caprice/solver/DomainsRemovalsRestOnPinLaw", "holds", "([II)Z"⟩ : MethodName) method_4_code 2 (some .boolean)] rm) (fun a U => a = #[(.ref x0), (.int x1)] ∧ Z.Warmed39 U.vm ∧ U.heap = h0) (fun _ _ _ _ _ => True) (fun _ U o U' => ∃ v L, o = .returned v ∧ Q v U'.heap L ∧ FrameEnd U o U' L rm.cells rm.slots)) (hfr : rm.frames + 1 ≤ room_1.frames) (hlo : 0 + (2 + 11) + rm.locals ≤ room_1.locals) (hce : cells + rm.cells ≤ room_1.cells) (hsl : slots + rm.slots ≤ room_1.slots) :
    ∃ (T' : State) (v : Option Value) (L : List Loc), Stand p l e room_1 s m args below meth c T' (locs ++ L) (cells + rm.cells) (slots + rm.slots) ∧ Q v T'.heap L ∧ ∀ t, Steps p.tables e below (T'.setTop (mkF m 267 Ls (v.toList ++ []))) t → Steps p.tables e below (T0.setTop (mkF m 264 Ls [(.int x1), (.ref x0)])) t := by
  obtain ⟨v, _, ⟨T1, L1, k1, n1⟩, -, X1, ⟨Lc, hQ, l1, y1, z1⟩, st⟩ := Jvm.LawKit.callS X0 hx (y := (⟨"com/example/caprice/caprice/solver/DomainsRemovalsRestOnPinLaw", "holds", "([II)Z"⟩ : MethodName)) hown (mvT hZ (hw _ (List.mem_of_getElem? (i := 51) rfl))) (mvT hZ (hw _ (List.mem_of_getElem? (i := 52) rfl))) (mvT hZ (hw _ (List.mem_of_getElem? (i := 3) rfl))) (mvT hZ (hw _ (List.mem_of_getElem? (i := 53) rfl))) (by decide) (backOf (W := 0) M hZ (hw _ (List.mem_of_getElem? (i := 53) rfl)) (hw _ (List.mem_of_getElem? (i := 3) rfl)) hfr hlo) (g := (mkF m 264 Ls [(.int x1), (.ref x0)])) rfl (by rw [hml]; exact hsz) (argsL := [(.ref x0), (.int x1)]) (rest := []) (lenOf pd375 rfl) rfl (by show 2 * 0 + _ ≤ _; exact Nat.le_of_eq rfl) (hb hby at_264) (fun _ _ => ⟨rfl, e0, hce, hsl⟩)
  dsimp only [Pt.U, Pt.locs, Pt.cells, Pt.slots] at X1 l1 y1 z1 st hQ
  subst l1 y1 z1
  exact ⟨T1, v, Lc, X1, hQ, fun t kt => st t kt⟩
set_option maxRecDepth 65536 in
set_option maxHeartbeats 40000000 in
theorem lhd0 {p : Program} {l : Launch} {e : Env} {s : State} {m : MethodId} {args : Array Value} {below : List Frame} {meth : Method} {c : Code} {T0 : State} {locs : List Loc} {Z : State} {a0 : Array Value} {h0 : Heap} {n0 : Nat} (p1 : Int32) (p2 : Int32) (p3 : Int32) (p4 : Int32) (q : Int32) (on : Int32) (f1 : Int32) (f2 : Int32) (f3 : Int32) (f4 : Int32) (v1 : Int32) (v2 : Int32) (r1 : Addr) (r2 : Addr) (ot : Int32) (v3 : Int32) (r3 : Addr) (sz : Addr) (dom : Addr) (mk : Int32) (hv : Int32)
    (X0 : Stand p l e room_1 s m args below meth c T0 locs 14 58) (hx : p.tables.exec = Jvm.exec) (hZ : Z.Warmed39 s.vm) (hw : ∀ d ∈ tables_1, d.before a0 Z = true) (hby : c.code = code) (hml : c.maxLocals = 21) (hown : s.vm.findClass "com/example/caprice/caprice/solver/DomainsRemovalsRestOnPinLaw" = some m.cls) (e0 : T0.heap = h0) (N0 : Fr n0 locs) (O0 : Old Z n0 h0) (hd0 : hv = (0 : Int32)) :
    ∃ (T' : State) (locs' : List Loc), Stand p l e room_1 s m args below meth c T' locs' 14 58 ∧ Fr n0 locs' ∧ T'.heap = h0 ∧ ∀ t, Steps p.tables e below (T'.setTop (mkF m 277 #[.val (.int p1), .val (.int p2), .val (.int p3), .val (.int p4), .val (.int q), .val (.int on), .val (.int f1), .val (.int f2), .val (.int f3), .val (.int f4), .val (.int v1), .val (.int v2), .val (.ref r1), .val (.ref r2), .val (.int ot), .val (.int v3), .val (.ref r3), .val (.ref sz), .val (.ref dom), .val (.int mk), .val (.int (0 : Int32))] [])) t → Steps p.tables e below (T0.setTop (mkF m 267 #[.val (.int p1), .val (.int p2), .val (.int p3), .val (.int p4), .val (.int q), .val (.int on), .val (.int f1), .val (.int f2), .val (.int f3), .val (.int f4), .val (.int v1), .val (.int v2), .val (.ref r1), .val (.ref r2), .val (.int ot), .val (.int v3), .val (.ref r3), .val (.ref sz), .val (.ref dom), .val (.int mk), .unset] [(.int hv)])) t := by
  refine ⟨T0, _, X0, N0, e0, fun t kt => ?_⟩
  show Steps p.tables e below (T0.setTop (mkF m 267 #[.val (.int p1), .val (.int p2), .val (.int p3), .val (.int p4), .val (.int q), .val (.int on), .val (.int f1), .val (.int f2), .val (.int f3), .val (.int f4), .val (.int v1), .val (.int v2), .val (.ref r1), .val (.ref r2), .val (.int ot), .val (.int v3), .val (.ref r3), .val (.ref sz), .val (.ref dom), .val (.int mk), .unset] [(.int hv)])) _
  refine XS.ifYes X0.here hx rfl (pc0 := 267) (pc' := 274) rfl (hb hby at_267) rfl ((if0 _ _).trans (teq hd0).1) (by decide) (by decide) ?_
  show Steps p.tables e below (T0.setTop (mkF m 274 #[.val (.int p1), .val (.int p2), .val (.int p3), .val (.int p4), .val (.int q), .val (.int on), .val (.int f1), .val (.int f2), .val (.int f3), .val (.int f4), .val (.int v1), .val (.int v2), .val (.ref r1), .val (.ref r2), .val (.int ot), .val (.int v3), .val (.ref r3), .val (.ref sz), .val (.ref dom), .val (.int mk), .unset] [])) _
  refine XS.iconst X0.here hx rfl (hb hby at_274) ?_
  show Steps p.tables e below (T0.setTop (mkF m 275 #[.val (.int p1), .val (.int p2), .val (.int p3), .val (.int p4), .val (.int q), .val (.int on), .val (.int f1), .val (.int f2), .val (.int f3), .val (.int f4), .val (.int v1), .val (.int v2), .val (.ref r1), .val (.ref r2), .val (.int ot), .val (.int v3), .val (.ref r3), .val (.ref sz), .val (.ref dom), .val (.int mk), .unset] [(.int (0 : Int32))])) _
  refine XS.istore X0.here hx rfl (hb hby at_275) rfl (l' := #[.val (.int p1), .val (.int p2), .val (.int p3), .val (.int p4), .val (.int q), .val (.int on), .val (.int f1), .val (.int f2), .val (.int f3), .val (.int f4), .val (.int v1), .val (.int v2), .val (.ref r1), .val (.ref r2), .val (.int ot), .val (.int v3), .val (.ref r3), .val (.ref sz), .val (.ref dom), .val (.int mk), .val (.int (0 : Int32))]) rfl ?_
  show Steps p.tables e below (T0.setTop (mkF m 277 #[.val (.int p1), .val (.int p2), .val (.int p3), .val (.int p4), .val (.int q), .val (.int on), .val (.int f1), .val (.int f2), .val (.int f3), .val (.int f4), .val (.int v1), .val (.int v2), .val (.ref r1), .val (.ref r2), .val (.int ot), .val (.int v3), .val (.ref r3), .val (.ref sz), .val (.ref dom), .val (.int mk), .val (.int (0 : Int32))] [])) _
  exact kt
set_option maxRecDepth 65536 in
set_option maxHeartbeats 40000000 in
theorem lhd1 {p : Program} {l : Launch} {e : Env} {s : State} {m : MethodId} {args : Array Value} {below : List Frame} {meth : Method} {c : Code} {T0 : State} {locs : List Loc} {Z : State} {a0 : Array Value} {h0 : Heap} {n0 : Nat} (p1 : Int32) (p2 : Int32) (p3 : Int32) (p4 : Int32) (q : Int32) (on : Int32) (f1 : Int32) (f2 : Int32) (f3 : Int32) (f4 : Int32) (v1 : Int32) (v2 : Int32) (r1 : Addr) (r2 : Addr) (ot : Int32) (v3 : Int32) (r3 : Addr) (sz : Addr) (dom : Addr) (mk : Int32) (hv : Int32)
    (X0 : Stand p l e room_1 s m args below meth c T0 locs 14 58) (hx : p.tables.exec = Jvm.exec) (hZ : Z.Warmed39 s.vm) (hw : ∀ d ∈ tables_1, d.before a0 Z = true) (hby : c.code = code) (hml : c.maxLocals = 21) (hown : s.vm.findClass "com/example/caprice/caprice/solver/DomainsRemovalsRestOnPinLaw" = some m.cls) (e0 : T0.heap = h0) (N0 : Fr n0 locs) (O0 : Old Z n0 h0) (hd0 : ¬ (hv = (0 : Int32))) :
    ∃ (T' : State) (locs' : List Loc), Stand p l e room_1 s m args below meth c T' locs' 14 58 ∧ Fr n0 locs' ∧ T'.heap = h0 ∧ ∀ t, Steps p.tables e below (T'.setTop (mkF m 277 #[.val (.int p1), .val (.int p2), .val (.int p3), .val (.int p4), .val (.int q), .val (.int on), .val (.int f1), .val (.int f2), .val (.int f3), .val (.int f4), .val (.int v1), .val (.int v2), .val (.ref r1), .val (.ref r2), .val (.int ot), .val (.int v3), .val (.ref r3), .val (.ref sz), .val (.ref dom), .val (.int mk), .val (.int (1 : Int32))] [])) t → Steps p.tables e below (T0.setTop (mkF m 267 #[.val (.int p1), .val (.int p2), .val (.int p3), .val (.int p4), .val (.int q), .val (.int on), .val (.int f1), .val (.int f2), .val (.int f3), .val (.int f4), .val (.int v1), .val (.int v2), .val (.ref r1), .val (.ref r2), .val (.int ot), .val (.int v3), .val (.ref r3), .val (.ref sz), .val (.ref dom), .val (.int mk), .unset] [(.int hv)])) t := by
  refine ⟨T0, _, X0, N0, e0, fun t kt => ?_⟩
  show Steps p.tables e below (T0.setTop (mkF m 267 #[.val (.int p1), .val (.int p2), .val (.int p3), .val (.int p4), .val (.int q), .val (.int on), .val (.int f1), .val (.int f2), .val (.int f3), .val (.int f4), .val (.int v1), .val (.int v2), .val (.ref r1), .val (.ref r2), .val (.int ot), .val (.int v3), .val (.ref r3), .val (.ref sz), .val (.ref dom), .val (.int mk), .unset] [(.int hv)])) _
  refine XS.ifNo X0.here hx rfl (hb hby at_267) rfl ((if0 _ _).trans (feq hd0).1) ?_
  show Steps p.tables e below (T0.setTop (mkF m 270 #[.val (.int p1), .val (.int p2), .val (.int p3), .val (.int p4), .val (.int q), .val (.int on), .val (.int f1), .val (.int f2), .val (.int f3), .val (.int f4), .val (.int v1), .val (.int v2), .val (.ref r1), .val (.ref r2), .val (.int ot), .val (.int v3), .val (.ref r3), .val (.ref sz), .val (.ref dom), .val (.int mk), .unset] [])) _
  refine XS.iconst X0.here hx rfl (hb hby at_270) ?_
  show Steps p.tables e below (T0.setTop (mkF m 271 #[.val (.int p1), .val (.int p2), .val (.int p3), .val (.int p4), .val (.int q), .val (.int on), .val (.int f1), .val (.int f2), .val (.int f3), .val (.int f4), .val (.int v1), .val (.int v2), .val (.ref r1), .val (.ref r2), .val (.int ot), .val (.int v3), .val (.ref r3), .val (.ref sz), .val (.ref dom), .val (.int mk), .unset] [(.int (1 : Int32))])) _
  refine XS.goto X0.here hx rfl (pc0 := 271) (pc' := 275) rfl (hb hby at_271) (by decide) (by decide) ?_
  show Steps p.tables e below (T0.setTop (mkF m 275 #[.val (.int p1), .val (.int p2), .val (.int p3), .val (.int p4), .val (.int q), .val (.int on), .val (.int f1), .val (.int f2), .val (.int f3), .val (.int f4), .val (.int v1), .val (.int v2), .val (.ref r1), .val (.ref r2), .val (.int ot), .val (.int v3), .val (.ref r3), .val (.ref sz), .val (.ref dom), .val (.int mk), .unset] [(.int (1 : Int32))])) _
  refine XS.istore X0.here hx rfl (hb hby at_275) rfl (l' := #[.val (.int p1), .val (.int p2), .val (.int p3), .val (.int p4), .val (.int q), .val (.int on), .val (.int f1), .val (.int f2), .val (.int f3), .val (.int f4), .val (.int v1), .val (.int v2), .val (.ref r1), .val (.ref r2), .val (.int ot), .val (.int v3), .val (.ref r3), .val (.ref sz), .val (.ref dom), .val (.int mk), .val (.int (1 : Int32))]) rfl ?_
  show Steps p.tables e below (T0.setTop (mkF m 277 #[.val (.int p1), .val (.int p2), .val (.int p3), .val (.int p4), .val (.int q), .val (.int on), .val (.int f1), .val (.int f2), .val (.int f3), .val (.int f4), .val (.int v1), .val (.int v2), .val (.ref r1), .val (.ref r2), .val (.int ot), .val (.int v3), .val (.ref r3), .val (.ref sz), .val (.ref dom), .val (.int mk), .val (.int (1 : Int32))] [])) _
  exact kt
set_option maxRecDepth 65536 in
set_option maxHeartbeats 40000000 in
theorem lI {p : Program} {l : Launch} {e : Env} {s : State} {m : MethodId} {args : Array Value} {below : List Frame} {meth : Method} {c : Code} {T0 : State} {locs : List Loc} {Z : State} {a0 : Array Value} {h0 : Heap} {n0 : Nat} (p1 : Int32) (p2 : Int32) (p3 : Int32) (p4 : Int32) (q : Int32) (on : Int32) (f1 : Int32) (f2 : Int32) (f3 : Int32) (f4 : Int32) (v1 : Int32) (v2 : Int32) (r1 : Addr) (r2 : Addr) (ot : Int32) (v3 : Int32) (r3 : Addr) (sz : Addr) (dom : Addr) (mk : Int32) (ex : Int32)
    (X0 : Stand p l e room_1 s m args below meth c T0 locs 14 58) (hx : p.tables.exec = Jvm.exec) (hZ : Z.Warmed39 s.vm) (hw : ∀ d ∈ tables_1, d.before a0 Z = true) (hby : c.code = code) (hml : c.maxLocals = 21) (hown : s.vm.findClass "com/example/caprice/caprice/solver/DomainsRemovalsRestOnPinLaw" = some m.cls) (e0 : T0.heap = h0) (N0 : Fr n0 locs) (O0 : Old Z n0 h0) :
    ∃ (T' : State) (locs' : List Loc), Stand p l e room_1 s m args below meth c T' locs' 14 58 ∧ Fr n0 locs' ∧ T'.heap = h0 ∧ ∀ t, Steps p.tables e below (T'.setTop (mkF m 283 #[.val (.int p1), .val (.int p2), .val (.int p3), .val (.int p4), .val (.int q), .val (.int on), .val (.int f1), .val (.int f2), .val (.int f3), .val (.int f4), .val (.int v1), .val (.int v2), .val (.ref r1), .val (.ref r2), .val (.int ot), .val (.int v3), .val (.ref r3), .val (.ref sz), .val (.ref dom), .val (.int mk), .val (.int ex)] [(.int on), (.int q), (.ref dom)])) t → Steps p.tables e below (T0.setTop (mkF m 277 #[.val (.int p1), .val (.int p2), .val (.int p3), .val (.int p4), .val (.int q), .val (.int on), .val (.int f1), .val (.int f2), .val (.int f3), .val (.int f4), .val (.int v1), .val (.int v2), .val (.ref r1), .val (.ref r2), .val (.int ot), .val (.int v3), .val (.ref r3), .val (.ref sz), .val (.ref dom), .val (.int mk), .val (.int ex)] [])) t := by
  refine ⟨T0, _, X0, N0, e0, fun t kt => ?_⟩
  show Steps p.tables e below (T0.setTop (mkF m 277 #[.val (.int p1), .val (.int p2), .val (.int p3), .val (.int p4), .val (.int q), .val (.int on), .val (.int f1), .val (.int f2), .val (.int f3), .val (.int f4), .val (.int v1), .val (.int v2), .val (.ref r1), .val (.ref r2), .val (.int ot), .val (.int v3), .val (.ref r3), .val (.ref sz), .val (.ref dom), .val (.int mk), .val (.int ex)] [])) _
  refine XS.aload X0.here hx rfl (hb hby at_277) rfl rfl ?_
  show Steps p.tables e below (T0.setTop (mkF m 279 #[.val (.int p1), .val (.int p2), .val (.int p3), .val (.int p4), .val (.int q), .val (.int on), .val (.int f1), .val (.int f2), .val (.int f3), .val (.int f4), .val (.int v1), .val (.int v2), .val (.ref r1), .val (.ref r2), .val (.int ot), .val (.int v3), .val (.ref r3), .val (.ref sz), .val (.ref dom), .val (.int mk), .val (.int ex)] [(.ref dom)])) _
  refine XS.iload X0.here hx rfl (hb hby at_279) rfl ?_
  show Steps p.tables e below (T0.setTop (mkF m 281 #[.val (.int p1), .val (.int p2), .val (.int p3), .val (.int p4), .val (.int q), .val (.int on), .val (.int f1), .val (.int f2), .val (.int f3), .val (.int f4), .val (.int v1), .val (.int v2), .val (.ref r1), .val (.ref r2), .val (.int ot), .val (.int v3), .val (.ref r3), .val (.ref sz), .val (.ref dom), .val (.int mk), .val (.int ex)] [(.int q), (.ref dom)])) _
  refine XS.iload X0.here hx rfl (hb hby at_281) rfl ?_
  show Steps p.tables e below (T0.setTop (mkF m 283 #[.val (.int p1), .val (.int p2), .val (.int p3), .val (.int p4), .val (.int q), .val (.int on), .val (.int f1), .val (.int f2), .val (.int f3), .val (.int f4), .val (.int v1), .val (.int v2), .val (.ref r1), .val (.ref r2), .val (.int ot), .val (.int v3), .val (.ref r3), .val (.ref sz), .val (.ref dom), .val (.int mk), .val (.int ex)] [(.int on), (.int q), (.ref dom)])) _
  exact kt
theorem pd384 : parseMethodDescriptor "(II)Z" = some ⟨[.int, .int], some .boolean⟩ := by decide +kernel
set_option maxRecDepth 65536 in
set_option maxHeartbeats 4000000 in
theorem cX {p : Program} {l : Launch} {e : Env} {s : State} {m : MethodId} {args : Array Value} {below : List Frame} {meth : Method} {c : Code} {T0 : State} {locs : List Loc} {cells slots : Nat} {Z : State} {a0 : Array Value} {h0 : Heap} {Ls : Array Slot} (ob : Addr) (x0 : Int32) (x1 : Int32)
    (X0 : Stand p l e room_1 s m args below meth c T0 locs cells slots) (hx : p.tables.exec = Jvm.exec) (hZ : Z.Warmed39 s.vm) (hw : ∀ d ∈ tables_1, d.before a0 Z = true) (hby : c.code = code) (hml : c.maxLocals = 21) (hown : s.vm.findClass "com/example/caprice/caprice/solver/DomainsRemovalsRestOnPinLaw" = some m.cls) (e0 : T0.heap = h0) (hsz : Ls.size = 21) (ER : Exa Z h0 ob "com/example/caprice/caprice/solver/Domains") {rm : Room} {Q : Option Value → Heap → List Loc → Prop}
    (M : MetFree l (⟨"com/example/caprice/caprice/solver/Domains", "removalsRestOn", "(II)Z"⟩ : MethodName) (head1 [Jvm.Cond.code (⟨"com/example/caprice/caprice/solver/Domains", "removalsRestOn", "(II)Z"⟩ : MethodName) prog_59_method_16_code 11 (some .boolean)] rm) (fun a U => a = #[(.ref ob), (.int x0), (.int x1)] ∧ Z.Warmed39 U.vm ∧ U.heap = h0) (fun _ _ _ _ _ => True) (fun _ U o U' => ∃ v L, o = .returned v ∧ Q v U'.heap L ∧ FrameEnd U o U' L rm.cells rm.slots)) (hfr : rm.frames + 1 ≤ room_1.frames) (hlo : 0 + (11 + 11) + rm.locals ≤ room_1.locals) (hce : cells + rm.cells ≤ room_1.cells) (hsl : slots + rm.slots ≤ room_1.slots) :
    ∃ (T' : State) (v : Option Value) (L : List Loc), Stand p l e room_1 s m args below meth c T' (locs ++ L) (cells + rm.cells) (slots + rm.slots) ∧ Q v T'.heap L ∧ ∀ t, Steps p.tables e below (T'.setTop (mkF m 286 Ls (v.toList ++ []))) t → Steps p.tables e below (T0.setTop (mkF m 283 Ls [(.int x1), (.int x0), (.ref ob)])) t := by
  obtain ⟨cq, kq, qa, qb, qc⟩ := isOf hZ e0 ER
  obtain ⟨v, _, ⟨T1, L1, k1, n1⟩, -, X1, ⟨Lc, hQ, l1, y1, z1⟩, st⟩ := X0.virtualBack hx (y := (⟨"com/example/caprice/caprice/solver/Domains", "removalsRestOn", "(II)Z"⟩ : MethodName)) (z := (⟨"com/example/caprice/caprice/solver/Domains", "removalsRestOn", "(II)Z"⟩ : MethodName)) hown (mvT hZ (hw _ (List.mem_of_getElem? (i := 54) rfl))) (mvT hZ (hw _ (List.mem_of_getElem? (i := 55) rfl))) (notFace_of_selects (args := #[]) (mvT hZ (hw _ (List.mem_of_getElem? (i := 57) rfl)))) (mvT hZ (hw _ (List.mem_of_getElem? (i := 57) rfl))) (mvT hZ (hw _ (List.mem_of_getElem? (i := 56) rfl))) (by decide) (backOf (W := 0) M hZ (hw _ (List.mem_of_getElem? (i := 58) rfl)) (hw _ (List.mem_of_getElem? (i := 8) rfl)) hfr hlo) qa qc (g := (mkF m 283 Ls [(.int x1), (.int x0), (.ref ob)])) rfl (by rw [hml]; exact hsz) (Steps.refl _) (argsL := [(.int x0), (.int x1)]) (rest := []) (lenOf pd384 rfl) rfl (by show 2 * 0 + _ ≤ _; exact Nat.le_of_eq rfl) (hb hby at_283) (fun _ _ => ⟨rfl, e0, hce, hsl⟩)
  dsimp only [Pt.U, Pt.locs, Pt.cells, Pt.slots] at X1 l1 y1 z1 st hQ
  subst l1 y1 z1
  exact ⟨T1, v, Lc, X1, hQ, fun t kt => st.trans kt⟩
def Q0 (h0 : Heap) (n0 : Nat) (v : Option Value) (h : Heap) (L : List Loc) : Prop := v = some (.int (1 : Int32)) ∧ Fr n0 L
set_option maxRecDepth 65536 in
set_option maxHeartbeats 40000000 in
theorem lZ {p : Program} {l : Launch} {e : Env} {s : State} {m : MethodId} {args : Array Value} {below : List Frame} {meth : Method} {c : Code} {T0 : State} {locs : List Loc} {Z : State} {a0 : Array Value} {h0 : Heap} {n0 : Nat} (p1 : Int32) (p2 : Int32) (p3 : Int32) (p4 : Int32) (q : Int32) (on : Int32) (f1 : Int32) (f2 : Int32) (f3 : Int32) (f4 : Int32) (v1 : Int32) (v2 : Int32) (r1 : Addr) (r2 : Addr) (ot : Int32) (v3 : Int32) (r3 : Addr) (sz : Addr) (dom : Addr) (mk : Int32) (ex : Int32) (res : Int32)
    (X0 : Stand p l e room_1 s m args below meth c T0 locs 14 58) (hx : p.tables.exec = Jvm.exec) (hZ : Z.Warmed39 s.vm) (hw : ∀ d ∈ tables_1, d.before a0 Z = true) (hby : c.code = code) (hml : c.maxLocals = 21) (hown : s.vm.findClass "com/example/caprice/caprice/solver/DomainsRemovalsRestOnPinLaw" = some m.cls) (e0 : T0.heap = h0) (N0 : Fr n0 locs) (O0 : Old Z n0 h0) (hd0 : res = ex) (hret : meth.sig.returnType = some .boolean) (hlk : meth.locks = false) {entry : State} (pre0 : ∀ t, Steps p.tables e below (T0.setTop (mkF m 286 #[.val (.int p1), .val (.int p2), .val (.int p3), .val (.int p4), .val (.int q), .val (.int on), .val (.int f1), .val (.int f2), .val (.int f3), .val (.int f4), .val (.int v1), .val (.int v2), .val (.ref r1), .val (.ref r2), .val (.int ot), .val (.int v3), .val (.ref r3), .val (.ref sz), .val (.ref dom), .val (.int mk), .val (.int ex)] [(.int res)])) t → Steps p.tables e below entry t) :
    ∃ s₂ o, Steps p.tables e below entry s₂ ∧ s₂.status = .running ∧ Ended s₂ below o ∧ ∃ v L, o = .returned v ∧ Q0 h0 n0 v s₂.heap L ∧ FrameEnd s o s₂ L room_1.cells room_1.slots := by
  obtain ⟨fs, hr, hrun, hended, hW, hsame⟩ := X0.leave (v := some (.int (1 : Int32))) (fun h => by rw [hret] at h; cases h) hlk
  refine ⟨_, _, pre0 _ ?_, hrun, hended, _, _, rfl, ?_, ⟨_, rfl⟩, hW, hsame.mono (by decide) (by decide)⟩
  · show Steps p.tables e below (T0.setTop (mkF m 286 #[.val (.int p1), .val (.int p2), .val (.int p3), .val (.int p4), .val (.int q), .val (.int on), .val (.int f1), .val (.int f2), .val (.int f3), .val (.int f4), .val (.int v1), .val (.int v2), .val (.ref r1), .val (.ref r2), .val (.int ot), .val (.int v3), .val (.ref r3), .val (.ref sz), .val (.ref dom), .val (.int mk), .val (.int ex)] [(.int res)])) _
    refine XS.iload X0.here hx rfl (hb hby at_286) rfl ?_
    show Steps p.tables e below (T0.setTop (mkF m 288 #[.val (.int p1), .val (.int p2), .val (.int p3), .val (.int p4), .val (.int q), .val (.int on), .val (.int f1), .val (.int f2), .val (.int f3), .val (.int f4), .val (.int v1), .val (.int v2), .val (.ref r1), .val (.ref r2), .val (.int ot), .val (.int v3), .val (.ref r3), .val (.ref sz), .val (.ref dom), .val (.int mk), .val (.int ex)] [(.int ex), (.int res)])) _
    refine XS.icmpNo X0.here hx rfl (hb hby at_288) rfl (teq hd0).2 ?_
    show Steps p.tables e below (T0.setTop (mkF m 291 #[.val (.int p1), .val (.int p2), .val (.int p3), .val (.int p4), .val (.int q), .val (.int on), .val (.int f1), .val (.int f2), .val (.int f3), .val (.int f4), .val (.int v1), .val (.int v2), .val (.ref r1), .val (.ref r2), .val (.int ot), .val (.int v3), .val (.ref r3), .val (.ref sz), .val (.ref dom), .val (.int mk), .val (.int ex)] [])) _
    refine XS.iconst X0.here hx rfl (hb hby at_291) ?_
    show Steps p.tables e below (T0.setTop (mkF m 292 #[.val (.int p1), .val (.int p2), .val (.int p3), .val (.int p4), .val (.int q), .val (.int on), .val (.int f1), .val (.int f2), .val (.int f3), .val (.int f4), .val (.int v1), .val (.int v2), .val (.ref r1), .val (.ref r2), .val (.int ot), .val (.int v3), .val (.ref r3), .val (.ref sz), .val (.ref dom), .val (.int mk), .val (.int ex)] [(.int (1 : Int32))])) _
    refine XS.goto X0.here hx rfl (pc0 := 292) (pc' := 296) rfl (hb hby at_292) (by decide) (by decide) ?_
    show Steps p.tables e below (T0.setTop (mkF m 296 #[.val (.int p1), .val (.int p2), .val (.int p3), .val (.int p4), .val (.int q), .val (.int on), .val (.int f1), .val (.int f2), .val (.int f3), .val (.int f4), .val (.int v1), .val (.int v2), .val (.ref r1), .val (.ref r2), .val (.int ot), .val (.int v3), .val (.ref r3), .val (.ref sz), .val (.ref dom), .val (.int mk), .val (.int ex)] [(.int (1 : Int32))])) _
    exact retN X0 hx (t := .boolean) hret (by simp) (hb hby at_296) hr
  · exact ⟨rfl, N0⟩
def Dm (Z : State) (h : Heap) (d : Nat) (lo N K : Nat) (M : Nat → Nat → Value) (lf : Nat → Int32) (lm : Nat → Int64) (tr : Nat → Int32) (ts : Nat) : Prop :=
  ∃ (R Lf Lm Tr : Nat) (X : Nat → Nat) (kR : ClassId) (kX : Nat → ClassId) (kL kJ kT : ClassId),
    (lo ≤ d ∧ d < R ∧ R < Lf ∧ Lf < Lm ∧ Lm < Tr ∧ (∀ i, i < N → Lm < X i ∧ X i < Tr) ∧ (∀ i j, i < j → j < N → X i < X j)) ∧ (∀ i, i < N → OvrA Z (kX i) .int "[I") ∧
    Exa Z h d "com/example/caprice/caprice/solver/Domains" ∧ Fld Z h d "com/example/caprice/caprice/solver/Domains" "reasons" "[[[I" (.ref R) ∧ Fld Z h d "com/example/caprice/caprice/solver/Domains" "left" "[I" (.ref Lf) ∧ Fld Z h d "com/example/caprice/caprice/solver/Domains" "leftMasks" "[J" (.ref Lm) ∧ Fld Z h d "com/example/caprice/caprice/solver/Domains" "trail" "[I" (.ref Tr) ∧ Fld Z h d "com/example/caprice/caprice/solver/Domains" "trailSize" "I" (.int (Int32.ofNat ts)) ∧
    Ars Z h R kR (.array (.array .int)) N (fun i => .ref (X i)) ∧ (∀ i, i < N → Ars Z h (X i) (kX i) (.array .int) K (M i)) ∧ Ars Z h Lf kL .int N (fun i => .int (lf i)) ∧ Ars Z h Lm kJ .long N (fun i => .long (lm i)) ∧ Ars Z h Tr kT .int (2 * (N * K)) (fun i => .int (tr i))
theorem own_nlt {a b : Nat} (h : a < b ∨ b < a) : a ≠ b := h.elim Nat.ne_of_lt Nat.ne_of_gt
def rM (M : Nat → Nat → Value) (d v : Nat) (b : Value) : Nat → Nat → Value := own_upd M d (own_upd (M d) v b)
theorem own_updI (f : Nat → Int32) (j : Nat) (v : Int32) (i : Nat) : own_upd (fun i => Value.int (f i)) j (.int v) i = .int (own_upd f j v i) := by unfold own_upd; split <;> rfl
theorem own_updJ (f : Nat → Int64) (j : Nat) (v : Int64) (i : Nat) : own_upd (fun i => Value.long (f i)) j (.long v) i = .long (own_upd f j v i) := by unfold own_upd; split <;> rfl
theorem own_ordX {N : Nat} {X : Nat → Nat} (h : ∀ i j, i < j → j < N → X i < X j) {i j : Nat} (hi : i < N) (hj : j < N) (q : i ≠ j) : X i ≠ X j := by
  rcases Nat.lt_or_gt_of_ne q with r | r
  · exact Nat.ne_of_lt (h i j r hj)
  · exact Nat.ne_of_gt (h j i r hi)
def QDm (r : Option Value) (Z : State) (d : Nat) (lo N K : Nat) (M : Nat → Nat → Value) (lf : Nat → Int32) (lm : Nat → Int64) (tr : Nat → Int32) (ts : Nat) (h0 : Heap) (n0 : Nat) (v : Option Value) (h : Heap) (L : List Loc) : Prop := v = r ∧ Fr n0 L ∧ Pres lo h0 h ∧ Old Z n0 h ∧ Dm Z h d lo N K M lf lm tr ts
set_option maxRecDepth 65536 in
set_option maxHeartbeats 4000000 in
theorem rmRemove (l : Launch) (Z : State) (a0 : Array Value) (hw : ∀ d ∈ tables_1, d.before a0 Z = true) (d : Nat) (dI vI : Int32) (y : Addr) (lo N K : Nat) (M : Nat → Nat → Value) (lf : Nat → Int32) (lm : Nat → Int64) (tr : Nat → Int32) (ts : Nat) (h0 : Heap) (n0 : Nat) (O0 : Old Z n0 h0) (hlo : n0 ≤ lo) (D : Dm Z h0 d lo N K M lf lm tr ts)
    (hd : ¬ (dI < 0 ∨ N ≤ dI.toNatClampNeg)) (hv : ¬ (vI < 0 ∨ K ≤ vI.toNatClampNeg)) (ht : ts + 1 < 2 * (N * K)) (Ey : Exa Z h0 y "[I") :
    MetFree l (⟨"com/example/caprice/caprice/solver/Domains", "remove", "(II[I)V"⟩ : MethodName) (head1 [Jvm.Cond.code (⟨"com/example/caprice/caprice/solver/Domains", "remove", "(II[I)V"⟩ : MethodName) prog_59_method_10_code 4 none] ({ frames := 0, cells := 0, slots := 0, locals := 0 } : Room)) (fun a U => a = #[(.ref d), (.int dI), (.int vI), (.ref y)] ∧ Z.Warmed39 U.vm ∧ U.heap = h0) (fun _ _ _ _ _ => True) (fun _ U o U' => ∃ v L, o = .returned v ∧ QDm none Z d lo N K (rM M dI.toNatClampNeg vI.toNatClampNeg (.ref y)) (own_upd lf dI.toNatClampNeg (lf dI.toNatClampNeg - 1)) (own_upd lm dI.toNatClampNeg (lm dI.toNatClampNeg &&& (((1 : Int64) <<< (vI &&& 0x3f).toInt64) ^^^ (-1 : Int64)))) (own_upd (own_upd tr ts dI) (ts + 1) vI) (ts + 2) h0 n0 v U'.heap L ∧ FrameEnd U o U' L ({ frames := 0, cells := 0, slots := 0, locals := 0 } : Room).cells ({ frames := 0, cells := 0, slots := 0, locals := 0 } : Room).slots) := by
  obtain ⟨R, Lf, Lm, Tr, X, kR, kX, kL, kJ, kT, ⟨o1, o2, o3, o4, o5, o6, o7⟩, OX, E, F1, F2, F3, F4, F5, AR, AX, AL, AJ, AT⟩ := D
  have hdN : dI.toNatClampNeg < N := Nat.lt_of_not_le fun q => hd (Or.inr q)
  obtain ⟨x1, x2⟩ := o6 _ hdN
  have h31 : 2 * (N * K) < 2 ^ 31 := by obtain ⟨_, _, _, _, q, _⟩ := AT; exact q
  have c0 : (Int32.ofNat ts).toNatClampNeg = ts := clamp_of rfl (by omega)
  have c1 : (Int32.ofNat ts + 1).toNatClampNeg = ts + 1 := clamp_of (inc_ofNat ts).symm (by omega)
  refine (rm5_2 l Z a0 hw [] d dI vI y R Lf Lm Tr (Int32.ofNat ts) kR N (fun i => .ref (X i)) (X dI.toNatClampNeg) (kX dI.toNatClampNeg) K (M dI.toNatClampNeg) kL (fun i => .int (lf i)) kJ (fun i => .long (lm i)) kT (2 * (N * K)) (fun i => .int (tr i)) (lf dI.toNatClampNeg) (lm dI.toNatClampNeg) h0 n0 (own_n0 O0) O0 (OX _ hdN) E F1 F2 F3 F4 F5 AR (AX _ hdN) AL AJ AT Ey (own_nlt (by omega)) (own_nlt (by omega)) (own_nlt (by omega)) (own_nlt (by omega)) (own_nlt (by omega)) (own_nlt (by omega)) (own_nlt (by omega)) (own_nlt (by omega)) (own_nlt (by omega)) (own_nlt (by omega)) (by omega) (by omega) (by omega) (by omega) (by omega) hd rfl hv rfl rfl (within rfl (by omega) h31) (within (inc_ofNat ts).symm (by omega) h31)).imp ?_
  rintro a U o U' ⟨v, L, rfl, ⟨rfl, N1, K1, O1, A1, A2, A3, A4, E', F1', F2', F3', F4', F5', -⟩, hF⟩
  rw [c0, c1] at A4
  have n1 : R ∉ [X dI.toNatClampNeg, Lf, Lm, Tr, d] := ninS (own_nlt (by omega)) (ninS (own_nlt (by omega)) (ninS (own_nlt (by omega)) (ninS (own_nlt (by omega)) (ninS (own_nlt (by omega)) nin0))))
  refine ⟨_, L, rfl, ⟨rfl, N1, Pres.of_keep K1 (allS (show lo ≤ X dI.toNatClampNeg by omega) (allS (show lo ≤ Lf by omega) (allS (show lo ≤ Lm by omega) (allS (show lo ≤ Tr by omega) (allS o1 all0))))), O1, R, Lf, Lm, Tr, X, kR, kX, kL, kJ, kT, ⟨o1, o2, o3, o4, o5, o6, o7⟩, OX, E', F1', F2', F3', F4', ?_, AR.keep K1 n1, fun i hi => ?_, A2.congr fun i _ => own_updI _ _ _ _, A3.congr fun i _ => own_updJ _ _ _ _, A4.congr fun i _ => ?_⟩, hF⟩
  · rw [inc2_ofNat]; exact F5'
  · by_cases q : i = dI.toNatClampNeg
    · subst q; unfold rM; rw [own_upd_hit]; exact A1
    · unfold rM; rw [own_upd_miss _ _ q]
      obtain ⟨y1, y2⟩ := o6 _ hi
      have q2 := own_ordX o7 hi hdN q
      exact (AX i hi).keep K1 (ninS q2 (ninS (own_nlt (by omega)) (ninS (own_nlt (by omega)) (ninS (own_nlt (by omega)) (ninS (own_nlt (by omega)) nin0)))))
  · rw [show own_upd (fun i => Value.int (tr i)) ts (.int dI) = fun i => Value.int (own_upd tr ts dI i) from funext fun i => own_updI _ _ _ _]
    exact own_updI _ _ _ _
def clrM (tr : Nat → Int32) (m : Nat) : Nat → (Nat → Nat → Value) → Nat → Nat → Value
  | 0, M => M
  | k + 1, M => clrM tr m k (rM M (tr (m + 2 * k)).toNatClampNeg (tr (m + 2 * k + 1)).toNatClampNeg .null)
def clrF (tr : Nat → Int32) (m : Nat) : Nat → (Nat → Int32) → Nat → Int32
  | 0, f => f
  | k + 1, f => clrF tr m k (own_upd f (tr (m + 2 * k)).toNatClampNeg (f (tr (m + 2 * k)).toNatClampNeg + 1))
def clrJ (tr : Nat → Int32) (m : Nat) : Nat → (Nat → Int64) → Nat → Int64
  | 0, f => f
  | k + 1, f => clrJ tr m k (own_upd f (tr (m + 2 * k)).toNatClampNeg (f (tr (m + 2 * k)).toNatClampNeg ||| ((1 : Int64) <<< (tr (m + 2 * k + 1) &&& 0x3f).toInt64)))
theorem own_dec2 (c : Nat) : Int32.ofNat (c + 2) - 2 = Int32.ofNat c := by rw [inc2_ofNat]; exact Int32.add_sub_cancel _ _
theorem own_ltN {a b : Nat} (h : a < b) (hb : b < 2 ^ 31) : Int32.ofNat a < Int32.ofNat b := by
  rw [Int32.lt_iff_toInt_lt, toInt_of rfl (by omega), toInt_of rfl hb]; omega
set_option maxRecDepth 65536 in
set_option maxHeartbeats 4000000 in
theorem rstLoop {p : Program} {l : Launch} {e : Env} {s : State} {m : MethodId} {args : Array Value} {below : List Frame} {meth : Method} {c : Code} {Z : State} {a0 : Array Value} {n0 : Nat} (hx : p.tables.exec = Jvm.exec) (hZ : Z.Warmed39 s.vm) (hw : ∀ d ∈ tables_1, d.before a0 Z = true) (hby : c.code = prog_59_method_9_code) (hml : c.maxLocals = 4) (hown : s.vm.findClass "com/example/caprice/caprice/solver/Domains" = some m.cls) (hret : meth.sig.returnType = none) (hlk : meth.locks = false)
    (d lo N K mN : Nat) (tr : Nat → Int32) (hlo : n0 ≤ lo) (hS : Heap) {entry : State} : ∀ (k : Nat) (M : Nat → Nat → Value) (lf : Nat → Int32) (lm : Nat → Int64) (T0 : State) (locs : List Loc) (h0 : Heap) (z2 z3 : Slot),
    Stand p l e ({ frames := 0, cells := 0, slots := 0, locals := 0 } : Room) s m args below meth c T0 locs 0 0 → T0.heap = h0 → Fr n0 locs → Old Z n0 h0 → Pres lo hS h0 → Dm Z h0 d lo N K M lf lm tr (mN + 2 * k) →
    (∀ i, i < k → ¬ (tr (mN + 2 * i) < 0 ∨ N ≤ (tr (mN + 2 * i)).toNatClampNeg) ∧ ¬ (tr (mN + 2 * i + 1) < 0 ∨ K ≤ (tr (mN + 2 * i + 1)).toNatClampNeg)) → mN + 2 * k ≤ 2 * (N * K) → One z2 → One z3 →
    (∀ t, Steps p.tables e below (T0.setTop (mkF m 0 #[.val (.ref d), .val (.int (Int32.ofNat mN)), z2, z3] [])) t → Steps p.tables e below entry t) →
    ∃ s₂ o, Steps p.tables e below entry s₂ ∧ s₂.status = .running ∧ Ended s₂ below o ∧ ∃ v L, o = .returned v ∧ QDm none Z d lo N K (clrM tr mN k M) (clrF tr mN k lf) (clrJ tr mN k lm) tr mN hS n0 v s₂.heap L ∧ FrameEnd s o s₂ L ({ frames := 0, cells := 0, slots := 0, locals := 0 } : Room).cells ({ frames := 0, cells := 0, slots := 0, locals := 0 } : Room).slots := by
  intro k
  induction k with
  | zero =>
    intro M lf lm T0 locs h0 z2 z3 X0 e0 N0 O0 P0 D _ _ h2 h3 pre
    obtain ⟨R, Lf, Lm, Tr, X, kR, kX, kL, kJ, kT, ord, OX, E, F1, F2, F3, F4, F5, r⟩ := id D
    obtain ⟨s₂, o, c1, c2, c3, v, L, c4, ⟨c5, c6, c7⟩, c8⟩ := rstExit d (Int32.ofNat mN) z2 z3 _ X0 hx hZ hw hby hml hown e0 N0 O0 E F5 (by rw [Int32.lt_iff_toInt_lt]; exact Int.lt_irrefl _) hret hlk pre
    refine ⟨s₂, o, c1, c2, c3, v, L, c4, ⟨c5, c6, ?_, ?_, ?_⟩, c8⟩
    · rw [c7]; exact P0
    · rw [c7]; exact O0
    · rw [c7]; exact D
  | succ k ih =>
    intro M lf lm T0 locs h0 z2 z3 X0 e0 N0 O0 P0 D hb hle h2 h3 pre
    obtain ⟨R, Lf, Lm, Tr, X, kR, kX, kL, kJ, kT, ⟨o1, o2, o3, o4, o5, o6, o7⟩, OX, E, F1, F2, F3, F4, F5, AR, AX, AL, AJ, AT⟩ := D
    obtain ⟨hd, hv⟩ := hb k (Nat.lt_succ_self k)
    generalize hdI : tr (mN + 2 * k) = dI at hd
    generalize hvI : tr (mN + 2 * k + 1) = vI at hv
    have hdN : dI.toNatClampNeg < N := Nat.lt_of_not_le fun q => hd (Or.inr q)
    obtain ⟨x1, x2⟩ := o6 _ hdN
    have h31 : 2 * (N * K) < 2 ^ 31 := by obtain ⟨_, _, _, _, q, _⟩ := AT; exact q
    have d2 : Int32.ofNat (mN + 2 * (k + 1)) - 2 = Int32.ofNat (mN + 2 * k) := own_dec2 (mN + 2 * k)
    have c0 : (Int32.ofNat (mN + 2 * k)).toNatClampNeg = mN + 2 * k := clamp_of rfl (by omega)
    have c1 : (Int32.ofNat (mN + 2 * k) + 1).toNatClampNeg = mN + 2 * k + 1 := clamp_of (inc_ofNat _).symm (by omega)
    obtain ⟨T1, L1, X1, N1, K1, O1, E', F1', F2', F3', F4', F5', A1, A2, A3, -, c9⟩ := rstTurn d (Int32.ofNat mN) z2 z3 R Lf Lm Tr (Int32.ofNat (mN + 2 * (k + 1))) kR N (fun i => .ref (X i)) (X dI.toNatClampNeg) (kX dI.toNatClampNeg) K (M dI.toNatClampNeg) kL (fun i => .int (lf i)) kJ (fun i => .long (lm i)) kT (2 * (N * K)) (fun i => .int (tr i)) dI vI (lf dI.toNatClampNeg) (lm dI.toNatClampNeg) X0 hx hZ hw hby hml hown e0 N0 O0 E F1 F2 F3 F4 F5 AR (AX _ hdN) AL AJ AT (own_nlt (by omega)) (own_nlt (by omega)) (own_nlt (by omega)) (own_nlt (by omega)) (own_nlt (by omega)) (own_nlt (by omega)) (own_nlt (by omega)) (own_nlt (by omega)) (by omega) (by omega) (by omega) (by omega)
      (by rw [d2]; exact within rfl (by omega) h31) (by rw [d2, c0, hdI]) h2 (by rw [d2]; exact within (inc_ofNat _).symm (by omega) h31) (by rw [d2, c1, hvI]) h3 hd rfl hv rfl rfl (own_ltN (by omega) (by omega))
    rw [d2] at F5'
    have n1 : R ∉ [d, X dI.toNatClampNeg, Lf, Lm] := ninS (own_nlt (by omega)) (ninS (own_nlt (by omega)) (ninS (own_nlt (by omega)) (ninS (own_nlt (by omega)) nin0)))
    have n2 : Tr ∉ [d, X dI.toNatClampNeg, Lf, Lm] := ninS (own_nlt (by omega)) (ninS (own_nlt (by omega)) (ninS (own_nlt (by omega)) (ninS (own_nlt (by omega)) nin0)))
    have D1 : Dm Z T1.heap d lo N K (rM M dI.toNatClampNeg vI.toNatClampNeg .null) (own_upd lf dI.toNatClampNeg (lf dI.toNatClampNeg + 1)) (own_upd lm dI.toNatClampNeg (lm dI.toNatClampNeg ||| ((1 : Int64) <<< (vI &&& 0x3f).toInt64))) tr (mN + 2 * k) := by
      refine ⟨R, Lf, Lm, Tr, X, kR, kX, kL, kJ, kT, ⟨o1, o2, o3, o4, o5, o6, o7⟩, OX, E', F1', F2', F3', F4', F5', AR.keep K1 n1, fun i hi => ?_, A2.congr fun i _ => own_updI _ _ _ _, A3.congr fun i _ => own_updJ _ _ _ _, AT.keep K1 n2⟩
      by_cases q : i = dI.toNatClampNeg
      · subst q; unfold rM; rw [own_upd_hit]; exact A1
      · unfold rM; rw [own_upd_miss _ _ q]
        obtain ⟨y1, y2⟩ := o6 _ hi
        have q2 := own_ordX o7 hi hdN q
        exact (AX i hi).keep K1 (ninS (own_nlt (by omega)) (ninS q2 (ninS (own_nlt (by omega)) (ninS (own_nlt (by omega)) nin0))))
    have P1 : Pres lo h0 T1.heap := Pres.of_keep K1 (allS o1 (allS (show lo ≤ X dI.toNatClampNeg by omega) (allS (show lo ≤ Lf by omega) (allS (show lo ≤ Lm by omega) all0))))
    have q := ih _ _ _ T1 L1 _ (.val (.int dI)) (.val (.int vI)) X1 rfl N1 O1 (P0.trans P1) D1 (fun i hi => hb i (by omega)) (by omega) (One.val rfl) (One.val rfl) (fun t kt => pre t (c9 t kt))
    subst hdI hvI
    exact q
set_option maxRecDepth 65536 in
set_option maxHeartbeats 4000000 in
theorem rmRestore (l : Launch) (Z : State) (a0 : Array Value) (hw : ∀ d ∈ tables_1, d.before a0 Z = true) (d mN k lo N K : Nat) (M : Nat → Nat → Value) (lf : Nat → Int32) (lm : Nat → Int64) (tr : Nat → Int32) (h0 : Heap) (n0 : Nat) (O0 : Old Z n0 h0) (hlo : n0 ≤ lo) (D : Dm Z h0 d lo N K M lf lm tr (mN + 2 * k))
    (hb : ∀ i, i < k → ¬ (tr (mN + 2 * i) < 0 ∨ N ≤ (tr (mN + 2 * i)).toNatClampNeg) ∧ ¬ (tr (mN + 2 * i + 1) < 0 ∨ K ≤ (tr (mN + 2 * i + 1)).toNatClampNeg)) (hle : mN + 2 * k ≤ 2 * (N * K)) :
    MetFree l (⟨"com/example/caprice/caprice/solver/Domains", "restore", "(I)V"⟩ : MethodName) (head1 [Jvm.Cond.code (⟨"com/example/caprice/caprice/solver/Domains", "restore", "(I)V"⟩ : MethodName) prog_59_method_9_code 4 none] ({ frames := 0, cells := 0, slots := 0, locals := 0 } : Room)) (fun a U => a = #[(.ref d), (.int (Int32.ofNat mN))] ∧ Z.Warmed39 U.vm ∧ U.heap = h0) (fun _ _ _ _ _ => True) (fun _ U o U' => ∃ v L, o = .returned v ∧ QDm none Z d lo N K (clrM tr mN k M) (clrF tr mN k lf) (clrJ tr mN k lm) tr mN h0 n0 v U'.heap L ∧ FrameEnd U o U' L ({ frames := 0, cells := 0, slots := 0, locals := 0 } : Room).cells ({ frames := 0, cells := 0, slots := 0, locals := 0 } : Room).slots) := by
  refine MetFree.of_bodySF (plainFor_of_name pn72) hisR ?_
  intro p e s m args below meth c s₁ Bd hml0 hP hK
  obtain ⟨rfl, hZ, hh⟩ := hP
  have hml : c.maxLocals = 4 := hml0
  have X0 : Stand p l e ({ frames := 0, cells := 0, slots := 0, locals := 0 } : Room) s m #[(.ref d), (.int (Int32.ofNat mN))] below meth c s₁ [] 0 0 := Stand.of_body Bd
  have e0 : s₁.heap = h0 := by rw [← hh, Bd.state]; rfl
  have ef : entryFrame m #[(.ref d), (.int (Int32.ofNat mN))] 4 = mkF m 0 #[.val (.ref d), .val (.int (Int32.ofNat mN)), .unset, .unset] [] := by first | (simp [entryFrame, mkF, argsToLocals, Value.category]; done) | rfl
  exact rstLoop Bd.exec hZ hw Bd.bytes hml (findClass_of_methodNamed Bd.named) Bd.returns (BodyLoose.notSynchronized Bd) d lo N K mN tr hlo h0 k M lf lm s₁ [] h0 .unset .unset X0 e0 (Fr.nil n0) O0 (Pres.refl _ _) D hb hle One.u One.u (fun t k => castTop ef k)
/-- an int array and its numbers -/
def Lst (Z : State) (h : Heap) (r : Nat) (xs : List Int32) : Prop := ∃ k : ClassId, Ars Z h r k .int xs.length (fun i => .int (xs.getD i 0))
theorem Lst.pres {Z : State} {h h' : Heap} {r lo : Nat} {xs : List Int32} (F : Lst Z h r xs) (P : Pres lo h h') (q : r < lo) : Lst Z h' r xs := by obtain ⟨k, A⟩ := F; exact ⟨k, A.pres P q⟩
theorem Lst.of_arv {Z : State} {h : Heap} {r : Nat} {k : ClassId} {z : Int32} {xs : List Int32} (F : Arv Z h r k .int z (xs.map Value.int) (.int 0)) (hz : z.toNatClampNeg = xs.length) : Lst Z h r xs := ⟨k, by
  have A := Ars.of_arv F
  rw [hz] at A
  exact A.congr fun i hi => by simp [List.getD_eq_getElem?_getD, List.getElem?_eq_getElem hi]⟩
abbrev R0 : Room := { frames := 0, cells := 0, slots := 0, locals := 0 }
def Gl (p : Program) (e : Env) (below : List Frame) (s entry : State) (h0 : Heap) (n0 : Nat) (res : Int32) : Prop := ∃ s₂ o, Steps p.tables e below entry s₂ ∧ s₂.status = .running ∧ Ended s₂ below o ∧ ∃ v L, o = .returned v ∧ QV (some (.int res)) h0 n0 v s₂.heap L ∧ FrameEnd s o s₂ L R0.cells R0.slots
section Rro
variable {p : Program} {l : Launch} {e : Env} {s : State} {m : MethodId} {args : Array Value} {below : List Frame} {meth : Method} {c : Code} {Z : State} {a0 : Array Value} {n0 : Nat} {h0 : Heap} {entry : State}
set_option maxRecDepth 65536 in
set_option maxHeartbeats 4000000 in
theorem rroInner (hx : p.tables.exec = Jvm.exec) (hZ : Z.Warmed39 s.vm) (hw : ∀ d ∈ tables_1, d.before a0 Z = true) (hby : c.code = prog_59_method_16_code) (hml : c.maxLocals = 11) (hown : s.vm.findClass "com/example/caprice/caprice/solver/Domains" = some m.cls) (hret : meth.sig.returnType = some .boolean) (hlk : meth.locks = false) (O0 : Old Z n0 h0)
    (d x r : Nat) (q0 on kl i : Int32) (xs : List Int32) (F : Lst Z h0 r xs) : ∀ (k j : Nat) (T0 : State) (locs : List Loc) (z10 : Slot), j + k = xs.length → Stand p l e R0 s m args below meth c T0 locs 0 0 → T0.heap = h0 → Fr n0 locs → One z10 →
    (∀ t, Steps p.tables e below (T0.setTop (mkF m 44 #[.val (.ref d), .val (.int q0), .val (.int on), .val (.ref x), .val (.int kl), .val (.int i), .val (.ref r), .val (.ref r), .val (.int xs.length.toInt32), .val (.int (Int32.ofNat j)), z10] [])) t → Steps p.tables e below entry t) →
    (on ∈ xs.drop j ∧ Gl p e below s entry h0 n0 1) ∨ (on ∉ xs.drop j ∧ ∃ (T' : State) (locs' : List Loc) (z9 z10' : Slot), Stand p l e R0 s m args below meth c T' locs' 0 0 ∧ T'.heap = h0 ∧ Fr n0 locs' ∧ One z9 ∧ One z10' ∧
      ∀ t, Steps p.tables e below (T'.setTop (mkF m 14 #[.val (.ref d), .val (.int q0), .val (.int on), .val (.ref x), .val (.int kl), .val (.int (i + 1)), .val (.ref r), .val (.ref r), .val (.int xs.length.toInt32), z9, z10'] [])) t → Steps p.tables e below entry t) := by
  obtain ⟨kr, A⟩ := F
  have h31 : xs.length < 2 ^ 31 := by obtain ⟨_, _, _, _, q, _⟩ := A; exact q
  intro k
  induction k with
  | zero =>
    intro j T0 locs z10 hj X0 e0 N0 h10 pre
    have hj' : j = xs.length := by omega
    obtain ⟨T1, L1, X1, N1, e1, c1⟩ := rroDone d q0 on x kl i r xs.length.toInt32 (Int32.ofNat j) z10 X0 hx hZ hw hby hml hown e0 N0 O0 (by rw [hj', Int32.lt_iff_toInt_lt]; exact Int.lt_irrefl _)
    exact Or.inr ⟨by rw [hj', List.drop_length]; exact List.not_mem_nil, T1, L1, _, z10, X1, e1, N1, One.val rfl, h10, fun t kt => pre t (c1 t kt)⟩
  | succ k ih =>
    intro j T0 locs z10 hj X0 e0 N0 h10 pre
    have hlt : j < xs.length := by omega
    have cj : (Int32.ofNat j).toNatClampNeg = j := clamp_of rfl (by omega)
    have hdr : xs.drop j = xs.getD j 0 :: xs.drop (j + 1) := by rw [List.drop_eq_getElem_cons hlt, List.getD_eq_getElem?_getD, List.getElem?_eq_getElem hlt]; rfl
    by_cases q : xs.getD j 0 = on
    · exact Or.inl ⟨by rw [hdr, q]; exact List.mem_cons_self .., rroHit d q0 on x kl i r xs.length.toInt32 (Int32.ofNat j) z10 kr xs.length _ (xs.getD j 0) X0 hx hZ hw hby hml hown e0 N0 O0 A (within rfl hlt h31) (by rw [cj]) h10 (own_ltN hlt h31) q hret hlk pre⟩
    · obtain ⟨T1, L1, X1, N1, e1, c1⟩ := rroMiss d q0 on x kl i r xs.length.toInt32 (Int32.ofNat j) z10 kr xs.length _ (xs.getD j 0) X0 hx hZ hw hby hml hown e0 N0 O0 A (within rfl hlt h31) (by rw [cj]) h10 (own_ltN hlt h31) q
      rcases ih (j + 1) T1 L1 (.val (.int (xs.getD j 0))) (by omega) X1 e1 N1 (One.val rfl) (fun t kt => pre t (c1 t (by rw [← inc_ofNat]; exact kt))) with ⟨y1, y2⟩ | ⟨y1, y2⟩
      · exact Or.inl ⟨by rw [hdr]; exact List.mem_cons_of_mem _ y1, y2⟩
      · exact Or.inr ⟨by rw [hdr]; intro z; rcases List.mem_cons.mp z with z | z; exact q z.symm; exact y1 z, y2⟩
def hitAt (ct : Nat → List Int32) (on : Int32) (v : Value) : Prop := ∃ r : Nat, v = .ref r ∧ on ∈ ct r
def hitFrom (g : Nat → Value) (ct : Nat → List Int32) (on : Int32) (i K : Nat) : Prop := ∃ v, i ≤ v ∧ v < K ∧ hitAt ct on (g v)
theorem hitFrom_step {g : Nat → Value} {ct : Nat → List Int32} {on : Int32} {i K : Nat} (hi : i < K) (q : ¬ hitAt ct on (g i)) : hitFrom g ct on i K ↔ hitFrom g ct on (i + 1) K := by
  constructor
  · rintro ⟨v, h1, h2, h3⟩
    refine ⟨v, ?_, h2, h3⟩
    rcases Nat.lt_or_eq_of_le h1 with r | r
    · exact r
    · subst r; exact absurd h3 q
  · rintro ⟨v, h1, h2, h3⟩; exact ⟨v, by omega, h2, h3⟩
set_option maxRecDepth 65536 in
set_option maxHeartbeats 4000000 in
theorem rroOuter (hx : p.tables.exec = Jvm.exec) (hZ : Z.Warmed39 s.vm) (hw : ∀ d ∈ tables_1, d.before a0 Z = true) (hby : c.code = prog_59_method_16_code) (hml : c.maxLocals = 11) (hown : s.vm.findClass "com/example/caprice/caprice/solver/Domains" = some m.cls) (hret : meth.sig.returnType = some .boolean) (hlk : meth.locks = false) (O0 : Old Z n0 h0)
    (d x : Nat) (q0 on : Int32) (K : Nat) (kx : ClassId) (g : Nat → Value) (ct : Nat → List Int32) (A : Ars Z h0 x kx (.array .int) K g) (G : ∀ v, v < K → g v = .null ∨ ∃ r : Nat, g v = .ref r ∧ Lst Z h0 r (ct r)) : ∀ (k i : Nat) (T0 : State) (locs : List Loc) (z6 z7 z8 z9 z10 : Slot), i + k = K → Stand p l e R0 s m args below meth c T0 locs 0 0 → T0.heap = h0 → Fr n0 locs → One z6 → One z7 → One z8 → One z9 → One z10 →
    (∀ t, Steps p.tables e below (T0.setTop (mkF m 14 #[.val (.ref d), .val (.int q0), .val (.int on), .val (.ref x), .val (.int K.toInt32), .val (.int (Int32.ofNat i)), z6, z7, z8, z9, z10] [])) t → Steps p.tables e below entry t) →
    (hitFrom g ct on i K ∧ Gl p e below s entry h0 n0 1) ∨ (¬ hitFrom g ct on i K ∧ Gl p e below s entry h0 n0 0) := by
  have h31 : K < 2 ^ 31 := by obtain ⟨_, _, _, _, q, _⟩ := A; exact q
  intro k
  induction k with
  | zero =>
    intro i T0 locs z6 z7 z8 z9 z10 hi X0 e0 N0 h6 h7 h8 h9 h10 pre
    have hi' : i = K := by omega
    refine Or.inr ⟨fun ⟨v, h1, h2, _⟩ => by omega, ?_⟩
    exact rroOut d q0 on x K.toInt32 (Int32.ofNat i) z6 z7 z8 z9 z10 X0 hx hZ hw hby hml hown e0 N0 O0 (by rw [hi', Int32.lt_iff_toInt_lt]; exact Int.lt_irrefl _) hret hlk pre
  | succ k ih =>
    intro i T0 locs z6 z7 z8 z9 z10 hi X0 e0 N0 h6 h7 h8 h9 h10 pre
    have hlt : i < K := by omega
    have ci : (Int32.ofNat i).toNatClampNeg = i := clamp_of rfl (by omega)
    rcases G i hlt with gn | ⟨r, gr, FL⟩
    · obtain ⟨T1, L1, X1, N1, e1, c1⟩ := rroNul d q0 on x K.toInt32 (Int32.ofNat i) z6 z7 z8 z9 z10 kx K g X0 hx hZ hw hby hml hown e0 N0 O0 A (within rfl hlt h31) (by rw [ci]; exact gn) h6 (own_ltN hlt h31)
      have st := hitFrom_step (g := g) (ct := ct) (on := on) hlt (fun ⟨r, z, _⟩ => by rw [gn] at z; cases z)
      rw [st]
      exact ih (i + 1) T1 L1 (.val .null) z7 z8 z9 z10 (by omega) X1 e1 N1 (One.val rfl) h7 h8 h9 h10 (fun t kt => pre t (c1 t (by rw [← inc_ofNat]; exact kt)))
    · obtain ⟨kr, Ar⟩ := id FL
      obtain ⟨T1, L1, X1, N1, e1, c1⟩ := rroRef d q0 on x K.toInt32 (Int32.ofNat i) z6 z7 z8 z9 z10 kx K g r kr (ct r).length _ X0 hx hZ hw hby hml hown e0 N0 O0 A Ar (within rfl hlt h31) (by rw [ci]; exact gr) h6 h7 h8 h9 (own_ltN hlt h31)
      rcases rroInner hx hZ hw hby hml hown hret hlk O0 d x r q0 on K.toInt32 (Int32.ofNat i) (ct r) FL (ct r).length 0 T1 L1 z10 (by omega) X1 e1 N1 h10 (fun t kt => pre t (c1 t kt)) with ⟨y1, y2⟩ | ⟨y1, T2, L2, z9', z10', X2, e2, N2, g9, g10, c2⟩
      · exact Or.inl ⟨⟨i, Nat.le_refl _, hlt, r, gr, by simpa using y1⟩, y2⟩
      · have st := hitFrom_step (g := g) (ct := ct) (on := on) hlt (fun ⟨r', z, w⟩ => by rw [gr] at z; cases z; exact y1 (by simpa using w))
        rw [st]
        exact ih (i + 1) T2 L2 (.val (.ref r)) (.val (.ref r)) _ z9' z10' (by omega) X2 e2 N2 (One.val rfl) (One.val rfl) (One.val rfl) g9 g10 (fun t kt => c2 t (by rw [← inc_ofNat]; exact kt))
end Rro
set_option maxRecDepth 65536 in
set_option maxHeartbeats 4000000 in
theorem rmRests (l : Launch) (Z : State) (a0 : Array Value) (hw : ∀ d ∈ tables_1, d.before a0 Z = true) (d lo N K : Nat) (M : Nat → Nat → Value) (lf : Nat → Int32) (lm : Nat → Int64) (tr : Nat → Int32) (ts : Nat) (q on : Int32) (ct : Nat → List Int32) (res : Int32) (h0 : Heap) (n0 : Nat) (O0 : Old Z n0 h0) (D : Dm Z h0 d lo N K M lf lm tr ts)
    (hq : ¬ (q < 0 ∨ N ≤ q.toNatClampNeg)) (G : ∀ v, v < K → M q.toNatClampNeg v = .null ∨ ∃ r : Nat, M q.toNatClampNeg v = .ref r ∧ Lst Z h0 r (ct r)) (hr : (hitFrom (M q.toNatClampNeg) ct on 0 K → res = 1) ∧ (¬ hitFrom (M q.toNatClampNeg) ct on 0 K → res = 0)) :
    MetFree l (⟨"com/example/caprice/caprice/solver/Domains", "removalsRestOn", "(II)Z"⟩ : MethodName) (head1 [Jvm.Cond.code (⟨"com/example/caprice/caprice/solver/Domains", "removalsRestOn", "(II)Z"⟩ : MethodName) prog_59_method_16_code 11 (some .boolean)] R0) (fun a U => a = #[(.ref d), (.int q), (.int on)] ∧ Z.Warmed39 U.vm ∧ U.heap = h0) (fun _ _ _ _ _ => True) (fun _ U o U' => ∃ v L, o = .returned v ∧ QV (some (.int res)) h0 n0 v U'.heap L ∧ FrameEnd U o U' L R0.cells R0.slots) := by
  refine MetFree.of_bodySF (plainFor_of_name pn72) hisR ?_
  intro p e s m args below meth c s₁ Bd hml0 hP hK
  obtain ⟨rfl, hZ, hh⟩ := hP
  have hml : c.maxLocals = 11 := hml0
  have X0 : Stand p l e R0 s m #[(.ref d), (.int q), (.int on)] below meth c s₁ [] 0 0 := Stand.of_body Bd
  have e0 : s₁.heap = h0 := by rw [← hh, Bd.state]; rfl
  have ef : entryFrame m #[(.ref d), (.int q), (.int on)] 11 = mkF m 0 #[.val (.ref d), .val (.int q), .val (.int on), .unset, .unset, .unset, .unset, .unset, .unset, .unset, .unset] [] := by first | (simp [entryFrame, mkF, argsToLocals, Value.category]; done) | rfl
  obtain ⟨R, Lf, Lm, Tr, X, kR, kX, kL, kJ, kT, ord, OX, E, F1, F2, F3, F4, F5, AR, AX, AL, AJ, AT⟩ := D
  have hqN : q.toNatClampNeg < N := Nat.lt_of_not_le fun z => hq (Or.inr z)
  have hown := findClass_of_methodNamed Bd.named
  have hlk := BodyLoose.notSynchronized Bd
  obtain ⟨T1, L1, X1, N1, e1, c1⟩ := rroIn d q on R kR N _ (X q.toNatClampNeg) (kX q.toNatClampNeg) K _ X0 Bd.exec hZ hw Bd.bytes hml hown e0 (Fr.nil n0) O0 E F1 AR (AX _ hqN) hq rfl
  rcases rroOuter Bd.exec hZ hw Bd.bytes hml hown Bd.returns hlk O0 d (X q.toNatClampNeg) q on K _ (M q.toNatClampNeg) ct (AX _ hqN) G K 0 T1 L1 .unset .unset .unset .unset .unset (by omega) X1 e1 N1 One.u One.u One.u One.u One.u (fun t k => castTop ef (c1 t k)) with ⟨y1, y2⟩ | ⟨y1, y2⟩
  · rw [hr.1 y1]; exact y2
  · rw [hr.2 y1]; exact y2
theorem own_arv_pres {Z : State} {h h' : Heap} {a lo : Nat} {k : ClassId} {ty : FieldType} {z : Int32} {vs : List Value} {dv : Value} (F : Arv Z h a k ty z vs dv) (P : Pres lo h h') (q : a < lo) : Arv Z h' a k ty z vs dv := by obtain ⟨c, A, r⟩ := F; exact ⟨c, ⟨P.2 a c q A.1, A.2⟩, r⟩
def Shp (Z : State) (h : Heap) (r : Nat) (xs : List Int32) : Prop := ∃ k : ClassId, (xs = [] ∧ Arv Z h r k .int (0 : Int32) [] (.int (0 : Int32))) ∨ (∃ x, xs = [x] ∧ Arv Z h r k .int (1 : Int32) [.int x] (.int (0 : Int32))) ∨ (∃ x y, xs = [x, y] ∧ Arv Z h r k .int (2 : Int32) [.int x, .int y] (.int (0 : Int32)))
theorem Shp.pres {Z : State} {h h' : Heap} {r lo : Nat} {xs : List Int32} (F : Shp Z h r xs) (P : Pres lo h h') (q : r < lo) : Shp Z h' r xs := by
  obtain ⟨k, ⟨e, A⟩ | ⟨x, e, A⟩ | ⟨x, y, e, A⟩⟩ := F
  · exact ⟨k, Or.inl ⟨e, own_arv_pres A P q⟩⟩
  · exact ⟨k, Or.inr (Or.inl ⟨x, e, own_arv_pres A P q⟩)⟩
  · exact ⟨k, Or.inr (Or.inr ⟨x, y, e, own_arv_pres A P q⟩)⟩
theorem Shp.lst {Z : State} {h : Heap} {r : Nat} {xs : List Int32} (F : Shp Z h r xs) : Lst Z h r xs := by
  obtain ⟨k, ⟨rfl, A⟩ | ⟨x, rfl, A⟩ | ⟨x, y, rfl, A⟩⟩ := F
  · exact Lst.of_arv (xs := []) A (by decide)
  · exact Lst.of_arv (xs := [x]) A (show (1 : Int32).toNatClampNeg = 1 by decide)
  · exact Lst.of_arv (xs := [x, y]) A (show (2 : Int32).toNatClampNeg = 2 by decide)
theorem Shp.lt {Z : State} {h : Heap} {r : Nat} {xs : List Int32} (F : Shp Z h r xs) : r < h.size := by obtain ⟨k, A⟩ := F.lst; exact A.lt
def QRea (Z : State) (h0 : Heap) (n0 : Nat) (v : Option Value) (h : Heap) (L : List Loc) : Prop := ∃ (b : Nat) (xs : List Int32), v = some (.ref b) ∧ Fr n0 L ∧ Keep h0 h [] ∧ Old Z n0 h ∧ h0.size ≤ b ∧ Exa Z h b "[I" ∧ Shp Z h b xs
abbrev RR : Room := { frames := 0, cells := 1, slots := 2, locals := 0 }
theorem rmReasons (l : Launch) (Z : State) (a0 : Array Value) (hw : ∀ d ∈ tables_1, d.before a0 Z = true) (q0 : Int32) (h0 : Heap) (n0 : Nat) (O0 : Old Z n0 h0) :
    MetFree l (⟨"com/example/caprice/caprice/solver/DomainsRemovalsRestOnPinLaw", "reasonsOf", "(I)[I"⟩ : MethodName) (head1 [Jvm.Cond.code (⟨"com/example/caprice/caprice/solver/DomainsRemovalsRestOnPinLaw", "reasonsOf", "(I)[I"⟩ : MethodName) method_3_code 4 (some (.array .int))] RR) (fun a U => a = #[(.int q0)] ∧ Z.Warmed39 U.vm ∧ U.heap = h0) (fun _ _ _ _ _ => True) (fun _ U o U' => ∃ v L, o = .returned v ∧ QRea Z h0 n0 v U'.heap L ∧ FrameEnd U o U' L RR.cells RR.slots) := by
  by_cases h1 : ((q0 &&& (255 : Int32)) % (3 : Int32)) = (0 : Int32)
  · refine (rm1_13 l Z a0 hw [] q0 h0 n0 (own_n0 O0) O0 h1).imp ?_
    rintro a U o U' ⟨v, L, rfl, ⟨b, kb, rfl, N1, K1, O1, z, V, E, -⟩, hF⟩
    exact ⟨_, L, rfl, ⟨b, [], rfl, N1, K1, O1, z, E, kb, Or.inl ⟨rfl, V⟩⟩, hF⟩
  · by_cases h2 : ((q0 &&& (255 : Int32)) % (3 : Int32)) = (1 : Int32)
    · refine (rm1_14 l Z a0 hw [] q0 h0 n0 (own_n0 O0) O0 h1 h2).imp ?_
      rintro a U o U' ⟨v, L, rfl, ⟨b, kb, rfl, N1, K1, O1, z, V, E, -⟩, hF⟩
      exact ⟨_, L, rfl, ⟨b, [_], rfl, N1, K1, O1, z, E, kb, Or.inr (Or.inl ⟨_, rfl, V⟩)⟩, hF⟩
    · refine (rm1_15 l Z a0 hw [] q0 h0 n0 (own_n0 O0) O0 h1 h2).imp ?_
      rintro a U o U' ⟨v, L, rfl, ⟨b, kb, rfl, N1, K1, O1, z, V, E, -⟩, hF⟩
      exact ⟨_, L, rfl, ⟨b, [_, _], rfl, N1, K1, O1, z, E, kb, Or.inr (Or.inr ⟨_, _, rfl, V⟩)⟩, hF⟩
theorem rmHolds (l : Launch) (Z : State) (a0 : Array Value) (hw : ∀ d ∈ tables_1, d.before a0 Z = true) (r : Nat) (on : Int32) (xs : List Int32) (res : Int32) (h0 : Heap) (n0 : Nat) (O0 : Old Z n0 h0) (S : Shp Z h0 r xs) (hr : (on ∈ xs → res = 1) ∧ (on ∉ xs → res = 0)) :
    MetFree l (⟨"com/example/caprice/caprice/solver/DomainsRemovalsRestOnPinLaw", "holds", "([II)Z"⟩ : MethodName) (head1 [Jvm.Cond.code (⟨"com/example/caprice/caprice/solver/DomainsRemovalsRestOnPinLaw", "holds", "([II)Z"⟩ : MethodName) method_4_code 2 (some .boolean)] R0) (fun a U => a = #[(.ref r), (.int on)] ∧ Z.Warmed39 U.vm ∧ U.heap = h0) (fun _ _ _ _ _ => True) (fun _ U o U' => ∃ v L, o = .returned v ∧ QV (some (.int res)) h0 n0 v U'.heap L ∧ FrameEnd U o U' L R0.cells R0.slots) := by
  obtain ⟨k, ⟨rfl, A⟩ | ⟨x, rfl, A⟩ | ⟨x, y, rfl, A⟩⟩ := S
  · rw [hr.2 (by simp)]; exact rm7_16 l Z a0 hw [] r on k h0 n0 (own_n0 O0) O0 A
  · by_cases q : x = on
    · rw [hr.1 (by simp [q])]; exact rm7_17 l Z a0 hw [] r on k x h0 n0 (own_n0 O0) O0 A q
    · rw [hr.2 (by simp only [List.mem_singleton]; exact fun z => q z.symm)]; exact rm7_18 l Z a0 hw [] r on k x h0 n0 (own_n0 O0) O0 A q
  · by_cases q : x = on
    · rw [hr.1 (by simp [q])]; exact rm7_19 l Z a0 hw [] r on k x y h0 n0 (own_n0 O0) O0 A q
    · by_cases q2 : y = on
      · rw [hr.1 (by simp [q2])]; exact rm7_20 l Z a0 hw [] r on k x y h0 n0 (own_n0 O0) O0 A q q2
      · rw [hr.2 (by simp only [List.mem_cons, List.not_mem_nil, or_false, not_or]; exact ⟨fun z => q z.symm, fun z => q2 z.symm⟩)]; exact rm7_21 l Z a0 hw [] r on k x y h0 n0 (own_n0 O0) O0 A q q2
theorem rmMark (l : Launch) (Z : State) (a0 : Array Value) (hw : ∀ d ∈ tables_1, d.before a0 Z = true) (d lo N K : Nat) (M : Nat → Nat → Value) (lf : Nat → Int32) (lm : Nat → Int64) (tr : Nat → Int32) (ts : Nat) (h0 : Heap) (n0 : Nat) (O0 : Old Z n0 h0) (D : Dm Z h0 d lo N K M lf lm tr ts) :
    MetFree l (⟨"com/example/caprice/caprice/solver/Domains", "mark", "()I"⟩ : MethodName) (head1 [Jvm.Cond.code (⟨"com/example/caprice/caprice/solver/Domains", "mark", "()I"⟩ : MethodName) prog_59_method_8_code 1 (some .int)] R0) (fun a U => a = #[(.ref d)] ∧ Z.Warmed39 U.vm ∧ U.heap = h0) (fun _ _ _ _ _ => True) (fun _ U o U' => ∃ v L, o = .returned v ∧ QV (some (.int (Int32.ofNat ts))) h0 n0 v U'.heap L ∧ FrameEnd U o U' L R0.cells R0.slots) := by
  obtain ⟨R, Lf, Lm, Tr, X, kR, kX, kL, kJ, kT, ord, OX, E, F1, F2, F3, F4, F5, r⟩ := D
  exact rm6_3 l Z a0 hw [] d (Int32.ofNat ts) h0 n0 (own_n0 O0) O0 E F5
abbrev RC : Room := { frames := 1, cells := 9, slots := 42, locals := 14 }
theorem own_three {P : Nat → Prop} (h0 : P 0) (h1 : P 1) (h2 : P 2) : ∀ i, i < 3 → P i := fun i hi => by
  match i, hi with
  | 0, _ => exact h0
  | 1, _ => exact h1
  | 2, _ => exact h2
def pick3 {α : Type} (a b c : α) : Nat → α := fun i => if i = 0 then a else if i = 1 then b else c
set_option maxRecDepth 65536 in
theorem rmCon (l : Launch) (Z : State) (a0 : Array Value) (hw : ∀ d ∈ tables_1, d.before a0 Z = true) (d sz : Nat) (ks : ClassId) (h0 : Heap) (n0 : Nat) (O0 : Old Z n0 h0) (E : Exa Z h0 d "com/example/caprice/caprice/solver/Domains") (F1 : Fld Z h0 d "com/example/caprice/caprice/solver/Domains" "reasons" "[[[I" .null) (F2 : Fld Z h0 d "com/example/caprice/caprice/solver/Domains" "left" "[I" .null) (F3 : Fld Z h0 d "com/example/caprice/caprice/solver/Domains" "leftMasks" "[J" .null) (F4 : Fld Z h0 d "com/example/caprice/caprice/solver/Domains" "trail" "[I" .null) (F5 : Fld Z h0 d "com/example/caprice/caprice/solver/Domains" "gathered" "[I" .null) (F6 : Fld Z h0 d "com/example/caprice/caprice/solver/Domains" "marked" "[Z" .null) (F7 : Fld Z h0 d "com/example/caprice/caprice/solver/Domains" "trailSize" "I" (.int (0 : Int32))) (V : Arv Z h0 sz ks .int (3 : Int32) [(.int (3 : Int32)), (.int (3 : Int32)), (.int (3 : Int32))] (.int (0 : Int32))) (hne : d ≠ sz) (hg : n0 ≤ d) :
    MetFree l (⟨"com/example/caprice/caprice/solver/Domains", "<init>", "([I)V"⟩ : MethodName) (head1 [Jvm.Cond.code (⟨"com/example/caprice/caprice/solver/Domains", "<init>", "([I)V"⟩ : MethodName) prog_59_method_1_code 5 none] RC) (fun a U => a = #[(.ref d), (.ref sz)] ∧ Z.Warmed39 U.vm ∧ U.heap = h0) (fun _ _ _ _ _ => True) (fun _ U o U' => ∃ v L, o = .returned v ∧ QDm none Z d d 3 3 (fun _ _ => .null) (fun _ => 3) (fun _ => 7) (fun _ => 0) 0 h0 n0 v U'.heap L ∧ FrameEnd U o U' L RC.cells RC.slots) := by
  have dlt : d < h0.size := E.lt
  refine (rm2_1 l Z a0 hw [] d sz ks h0 n0 (own_n0 O0) O0 E F1 F2 F3 F4 F5 F6 F7 V hne hg).imp ?_
  rintro a U o U' ⟨v, L, rfl, ⟨R, Lf, Lm, X0, X1, X2, Tr, Ga, Mk, kR, kL, kJ, kT, kG, kM, k0, k1, k2, rfl, N1, K1, O1, z1, z2, z3, z4, z5, z6, z7, z8, z9, o1, o2, o3, o4, o5, o6, o7, o8, E', F1', F2', F3', F4', F5', F6', F7', VR, ER, OR, VL, EL, VJ, EJ, VT, ET, VG, EG, VM, EM, V0, E0, O0', V1, E1, O1', V2, E2, O2', -⟩, hF⟩
  have a1 : d < R := Nat.lt_of_lt_of_le dlt z1
  have b1 : R < Lf := o1
  have b2 : Lf < Lm := o2
  have b3 : Lm < X0 := o3
  have b4 : X0 < X1 := o4
  have b5 : X1 < X2 := o5
  have b6 : X2 < Tr := o6
  refine ⟨_, L, rfl, ⟨rfl, N1, Pres.of_keep K1 (allS (Nat.le_refl d) all0), O1, R, Lf, Lm, Tr, pick3 X0 X1 X2, kR, pick3 k0 k1 k2, kL, kJ, kT, ⟨Nat.le_refl d, a1, b1, b2, Nat.lt_trans b3 (Nat.lt_trans b4 (Nat.lt_trans b5 b6)), own_three ⟨b3, Nat.lt_trans b4 (Nat.lt_trans b5 b6)⟩ ⟨Nat.lt_trans b3 b4, Nat.lt_trans b5 b6⟩ ⟨Nat.lt_trans b3 (Nat.lt_trans b4 b5), b6⟩, ?_⟩, own_three O0' O1' O2', E', F1', F2', F3', F4', F7', (Ars.of_arv VR).congr (own_three rfl rfl rfl), own_three ((Ars.of_arv V0).congr (own_three rfl rfl rfl)) ((Ars.of_arv V1).congr (own_three rfl rfl rfl)) ((Ars.of_arv V2).congr (own_three rfl rfl rfl)), (Ars.of_arv VL).congr (own_three rfl rfl rfl), (Ars.of_arv VJ).congr (own_three rfl rfl rfl), (Ars.of_arv VT).congr (fun i _ => rfl)⟩, hF⟩
  intro i j hij hj
  have q : (i = 0 ∧ j = 1) ∨ (i = 0 ∧ j = 2) ∨ (i = 1 ∧ j = 2) := by omega
  rcases q with ⟨rfl, rfl⟩ | ⟨rfl, rfl⟩ | ⟨rfl, rfl⟩
  · exact b4
  · exact Nat.lt_trans b4 b5
  · exact b5
section LawM
variable {p : Program} {l : Launch} {e : Env} {s : State} {m : MethodId} {args : Array Value} {below : List Frame} {meth : Method} {c : Code} {Z : State} {a0 : Array Value} {n0 : Nat} {entry : State}
def Rg (x : Int32) : Prop := ¬ (x < 0 ∨ 3 ≤ x.toNatClampNeg)
theorem Rg.lt {x : Int32} (h : Rg x) : x.toNatClampNeg < 3 := Nat.lt_of_not_le fun q => h (Or.inr q)
def RowIs (g : Nat → Value) (A B : Prop) (v1 v2 r1 r2 : Nat) : Prop := ∀ v, (v = v1 → A → g v = .ref r1) ∧ (v = v2 → B → g v = .ref r2) ∧ (¬ (v = v1 ∧ A) → ¬ (v = v2 ∧ B) → g v = .null)
theorem Dm.exa {h : Heap} {d lo N K : Nat} {M : Nat → Nat → Value} {lf : Nat → Int32} {lm : Nat → Int64} {tr : Nat → Int32} {ts : Nat} (D : Dm Z h d lo N K M lf lm tr ts) : Exa Z h d "com/example/caprice/caprice/solver/Domains" := by obtain ⟨R, Lf, Lm, Tr, X, kR, kX, kL, kJ, kT, ord, OX, E, r⟩ := D; exact E
def GoalQ (p : Program) (e : Env) (below : List Frame) (s entry : State) (n0 : Nat) : Prop := ∃ s₂ o, Steps p.tables e below entry s₂ ∧ s₂.status = .running ∧ Ended s₂ below o ∧ ∃ v L, o = .returned v ∧ (v = some (.int (1 : Int32)) ∧ Fr n0 L) ∧ FrameEnd s o s₂ L room_1.cells room_1.slots
theorem own_hit {g : Nat → Value} {A B : Prop} {v1 v2 r1 r2 : Nat} {xs1 xs2 : List Int32} {on : Int32} (R : RowIs g A B v1 v2 r1 r2) (h1 : v1 < 3) (h2 : v2 < 3) (hr : r1 ≠ r2) : hitFrom g (fun r => if r = r1 then xs1 else if r = r2 then xs2 else []) on 0 3 ↔ ((A ∧ on ∈ xs1) ∨ (B ∧ on ∈ xs2)) := by
  constructor
  · rintro ⟨v, -, hv, r, hg, hm⟩
    obtain ⟨a1, a2, a3⟩ := R v
    by_cases q1 : v = v1 ∧ A
    · have z := a1 q1.1 q1.2
      rw [hg] at z; cases z
      simp only [if_pos] at hm; exact Or.inl ⟨q1.2, hm⟩
    · by_cases q2 : v = v2 ∧ B
      · have z := a2 q2.1 q2.2
        rw [hg] at z; cases z
        simp only [if_neg (Ne.symm hr), if_pos] at hm; exact Or.inr ⟨q2.2, hm⟩
      · have z := a3 q1 q2
        rw [hg] at z; cases z
  · rintro (⟨a, hm⟩ | ⟨b, hm⟩)
    · exact ⟨v1, Nat.zero_le _, h1, r1, (R v1).1 rfl a, by simp only [if_pos]; exact hm⟩
    · exact ⟨v2, Nat.zero_le _, h2, r2, (R v2).2.1 rfl b, by simp only [if_neg (Ne.symm hr), if_pos]; exact hm⟩
theorem own_good {h0 : Heap} {g : Nat → Value} {A B : Prop} {v1 v2 r1 r2 : Nat} {xs1 xs2 : List Int32} (R : RowIs g A B v1 v2 r1 r2) (hr : r1 ≠ r2) (S1 : Lst Z h0 r1 xs1) (S2 : Lst Z h0 r2 xs2) : ∀ v, v < 3 → g v = .null ∨ ∃ r : Nat, g v = .ref r ∧ Lst Z h0 r ((fun r => if r = r1 then xs1 else if r = r2 then xs2 else []) r) := by
  intro v _
  obtain ⟨a1, a2, a3⟩ := R v
  by_cases q1 : v = v1 ∧ A
  · exact Or.inr ⟨r1, a1 q1.1 q1.2, by simp only [if_pos]; exact S1⟩
  · by_cases q2 : v = v2 ∧ B
    · exact Or.inr ⟨r2, a2 q2.1 q2.2, by simp only [if_neg (Ne.symm hr), if_pos]; exact S2⟩
    · exact Or.inl (a3 q1 q2)
set_option maxRecDepth 65536 in
set_option maxHeartbeats 4000000 in
theorem lawEnd (hx : p.tables.exec = Jvm.exec) (hZ : Z.Warmed39 s.vm) (hw : ∀ d ∈ tables_1, d.before a0 Z = true) (hby : c.code = code) (hml : c.maxLocals = 21) (hown : s.vm.findClass "com/example/caprice/caprice/solver/DomainsRemovalsRestOnPinLaw" = some m.cls) (hret : meth.sig.returnType = some .boolean) (hlk : meth.locks = false) (p1 : Int32) (p2 : Int32) (p3 : Int32) (p4 : Int32) (q : Int32) (on : Int32) (f1 : Int32) (f2 : Int32) (f3 : Int32) (f4 : Int32) (v1 : Int32) (v2 : Int32) (r1 : Nat) (r2 : Nat) (ot : Int32) (v3 : Int32) (r3 : Nat) (sz : Nat) (dom : Nat) (mk : Int32) (xs1 xs2 : List Int32) (T0 : State) (locs : List Loc) (h0 : Heap) (M : Nat → Nat → Value) (lf : Nat → Int32) (lm : Nat → Int64) (tr : Nat → Int32) (ts : Nat) (X0 : Stand p l e room_1 s m args below meth c T0 locs 14 58) (e0 : T0.heap = h0) (N0 : Fr n0 locs) (O0 : Old Z n0 h0) (D : Dm Z h0 dom dom 3 3 M lf lm tr ts) (S1 : Shp Z h0 r1 xs1) (S2 : Shp Z h0 r2 xs2) (hq : Rg q) (hv1 : Rg v1) (hv2 : Rg v2) (hr : r1 ≠ r2) (hf1 : f1 = 0 ∨ f1 = 1) (hf2 : f2 = 0 ∨ f2 = 1) (hf4 : f4 = 0 ∨ f4 = 1) (RI : RowIs (M q.toNatClampNeg) (f1 ≠ 0) (f2 ≠ 0 ∧ f4 = 0) v1.toNatClampNeg v2.toNatClampNeg r1 r2)
    (pre : ∀ t, Steps p.tables e below (T0.setTop (mkF m 235 #[.val (.int p1), .val (.int p2), .val (.int p3), .val (.int p4), .val (.int q), .val (.int on), .val (.int f1), .val (.int f2), .val (.int f3), .val (.int f4), .val (.int v1), .val (.int v2), .val (.ref r1), .val (.ref r2), .val (.int ot), .val (.int v3), .val (.ref r3), .val (.ref sz), .val (.ref dom), .val (.int mk), .unset] [])) t → Steps p.tables e below entry t) : GoalQ p e below s entry n0 := by
  have hit := own_hit (xs1 := xs1) (xs2 := xs2) (on := on) RI hv1.lt hv2.lt hr
  have G := own_good RI hr S1.lst S2.lst
  have fin : ∀ (ex : Int32) (T1 : State) (locs1 : List Loc), Stand p l e room_1 s m args below meth c T1 locs1 14 58 → T1.heap = h0 → Fr n0 locs1 → ((((f1 ≠ 0 ∧ on ∈ xs1) ∨ ((f2 ≠ 0 ∧ f4 = 0) ∧ on ∈ xs2)) → ex = 1) ∧ (¬ ((f1 ≠ 0 ∧ on ∈ xs1) ∨ ((f2 ≠ 0 ∧ f4 = 0) ∧ on ∈ xs2)) → ex = 0)) → (∀ t, Steps p.tables e below (T1.setTop (mkF m 277 #[.val (.int p1), .val (.int p2), .val (.int p3), .val (.int p4), .val (.int q), .val (.int on), .val (.int f1), .val (.int f2), .val (.int f3), .val (.int f4), .val (.int v1), .val (.int v2), .val (.ref r1), .val (.ref r2), .val (.int ot), .val (.int v3), .val (.ref r3), .val (.ref sz), .val (.ref dom), .val (.int mk), .val (.int ex)] [])) t → Steps p.tables e below entry t) → GoalQ p e below s entry n0 := by
    intro ex T1 locs1 X1 e1 N1 hex pre1
    obtain ⟨T2, L2, X2, N2, e2, c2⟩ := lI p1 p2 p3 p4 q on f1 f2 f3 f4 v1 v2 r1 r2 ot v3 r3 sz dom mk ex X1 hx hZ hw hby hml hown e1 N1 O0
    obtain ⟨T3, _, L3, X3, ⟨rfl, N3, e3⟩, c3⟩ := cX (Ls := #[.val (.int p1), .val (.int p2), .val (.int p3), .val (.int p4), .val (.int q), .val (.int on), .val (.int f1), .val (.int f2), .val (.int f3), .val (.int f4), .val (.int v1), .val (.int v2), .val (.ref r1), .val (.ref r2), .val (.int ot), .val (.int v3), .val (.ref r3), .val (.ref sz), .val (.ref dom), .val (.int mk), .val (.int ex)]) dom q on X2 hx hZ hw hby hml hown e2 rfl D.exa (rmRests l Z a0 hw dom dom 3 3 M lf lm tr ts q on _ ex h0 n0 O0 D hq G ⟨fun z => hex.1 (hit.mp z), fun z => hex.2 (fun y => z (hit.mpr y))⟩) (by decide) (by decide) (by decide) (by decide)
    exact lZ p1 p2 p3 p4 q on f1 f2 f3 f4 v1 v2 r1 r2 ot v3 r3 sz dom mk ex ex X3 hx hZ hw hby hml hown e3 (Fr.app N2 N3) O0 rfl hret hlk (fun t k => pre1 t (c2 t (c3 t k)))
  have half : ∀ (T1 : State) (locs1 : List Loc), Stand p l e room_1 s m args below meth c T1 locs1 14 58 → T1.heap = h0 → Fr n0 locs1 → ¬ (f1 ≠ 0 ∧ on ∈ xs1) → (∀ t, Steps p.tables e below (T1.setTop (mkF m 250 #[.val (.int p1), .val (.int p2), .val (.int p3), .val (.int p4), .val (.int q), .val (.int on), .val (.int f1), .val (.int f2), .val (.int f3), .val (.int f4), .val (.int v1), .val (.int v2), .val (.ref r1), .val (.ref r2), .val (.int ot), .val (.int v3), .val (.ref r3), .val (.ref sz), .val (.ref dom), .val (.int mk), .unset] [])) t → Steps p.tables e below entry t) → GoalQ p e below s entry n0 := by
    intro T1 locs1 X1 e1 N1 hn pre1
    rcases hf2 with rfl | rfl
    · obtain ⟨T2, L2, X2, N2, e2, c2⟩ := lhc0 p1 p2 p3 p4 q on f1 0 f3 f4 v1 v2 r1 r2 ot v3 r3 sz dom mk X1 hx hZ hw hby hml hown e1 N1 O0 rfl
      exact fin 0 T2 L2 X2 e2 N2 ⟨fun z => z.elim (fun y => absurd y hn) (fun y => absurd rfl y.1.1), fun _ => rfl⟩ (fun t k => pre1 t (c2 t k))
    · rcases hf4 with rfl | rfl
      · obtain ⟨T2, L2, X2, N2, e2, c2⟩ := lhc2 p1 p2 p3 p4 q on f1 1 f3 0 v1 v2 r1 r2 ot v3 r3 sz dom mk X1 hx hZ hw hby hml hown e1 N1 O0 (by decide) rfl
        by_cases hB : on ∈ xs2
        · obtain ⟨T3, _, L3, X3, ⟨rfl, N3, e3⟩, c3⟩ := cH2 (Ls := #[.val (.int p1), .val (.int p2), .val (.int p3), .val (.int p4), .val (.int q), .val (.int on), .val (.int f1), .val (.int 1), .val (.int f3), .val (.int 0), .val (.int v1), .val (.int v2), .val (.ref r1), .val (.ref r2), .val (.int ot), .val (.int v3), .val (.ref r3), .val (.ref sz), .val (.ref dom), .val (.int mk), .unset]) r2 on X2 hx hZ hw hby hml hown e2 rfl (rmHolds l Z a0 hw r2 on xs2 1 h0 n0 O0 S2 ⟨fun _ => rfl, fun z => absurd hB z⟩) (by decide) (by decide) (by decide) (by decide)
          obtain ⟨T4, L4, X4, N4, e4, c4⟩ := lhd1 p1 p2 p3 p4 q on f1 1 f3 0 v1 v2 r1 r2 ot v3 r3 sz dom mk 1 X3 hx hZ hw hby hml hown e3 (Fr.app N2 N3) O0 (by decide)
          exact fin 1 T4 L4 X4 e4 N4 ⟨fun _ => rfl, fun z => absurd (Or.inr ⟨⟨by decide, rfl⟩, hB⟩) z⟩ (fun t k => pre1 t (c2 t (c3 t (c4 t k))))
        · obtain ⟨T3, _, L3, X3, ⟨rfl, N3, e3⟩, c3⟩ := cH2 (Ls := #[.val (.int p1), .val (.int p2), .val (.int p3), .val (.int p4), .val (.int q), .val (.int on), .val (.int f1), .val (.int 1), .val (.int f3), .val (.int 0), .val (.int v1), .val (.int v2), .val (.ref r1), .val (.ref r2), .val (.int ot), .val (.int v3), .val (.ref r3), .val (.ref sz), .val (.ref dom), .val (.int mk), .unset]) r2 on X2 hx hZ hw hby hml hown e2 rfl (rmHolds l Z a0 hw r2 on xs2 0 h0 n0 O0 S2 ⟨fun z => absurd z hB, fun _ => rfl⟩) (by decide) (by decide) (by decide) (by decide)
          obtain ⟨T4, L4, X4, N4, e4, c4⟩ := lhd0 p1 p2 p3 p4 q on f1 1 f3 0 v1 v2 r1 r2 ot v3 r3 sz dom mk 0 X3 hx hZ hw hby hml hown e3 (Fr.app N2 N3) O0 rfl
          exact fin 0 T4 L4 X4 e4 N4 ⟨fun z => z.elim (fun y => absurd y hn) (fun y => absurd y.2 hB), fun _ => rfl⟩ (fun t k => pre1 t (c2 t (c3 t (c4 t k))))
      · obtain ⟨T2, L2, X2, N2, e2, c2⟩ := lhc1 p1 p2 p3 p4 q on f1 1 f3 1 v1 v2 r1 r2 ot v3 r3 sz dom mk X1 hx hZ hw hby hml hown e1 N1 O0 (by decide) (by decide)
        exact fin 0 T2 L2 X2 e2 N2 ⟨fun z => z.elim (fun y => absurd y hn) (fun y => absurd y.1.2 (by decide)), fun _ => rfl⟩ (fun t k => pre1 t (c2 t k))
  rcases hf1 with rfl | rfl
  · obtain ⟨T2, L2, X2, N2, e2, c2⟩ := lha0 p1 p2 p3 p4 q on 0 f2 f3 f4 v1 v2 r1 r2 ot v3 r3 sz dom mk X0 hx hZ hw hby hml hown e0 N0 O0 rfl
    exact half T2 L2 X2 e2 N2 (fun z => z.1 rfl) (fun t k => pre t (c2 t k))
  · obtain ⟨T2, L2, X2, N2, e2, c2⟩ := lha1 p1 p2 p3 p4 q on 1 f2 f3 f4 v1 v2 r1 r2 ot v3 r3 sz dom mk X0 hx hZ hw hby hml hown e0 N0 O0 (by decide)
    by_cases hA : on ∈ xs1
    · obtain ⟨T3, _, L3, X3, ⟨rfl, N3, e3⟩, c3⟩ := cH1 (Ls := #[.val (.int p1), .val (.int p2), .val (.int p3), .val (.int p4), .val (.int q), .val (.int on), .val (.int 1), .val (.int f2), .val (.int f3), .val (.int f4), .val (.int v1), .val (.int v2), .val (.ref r1), .val (.ref r2), .val (.int ot), .val (.int v3), .val (.ref r3), .val (.ref sz), .val (.ref dom), .val (.int mk), .unset]) r1 on X2 hx hZ hw hby hml hown e2 rfl (rmHolds l Z a0 hw r1 on xs1 1 h0 n0 O0 S1 ⟨fun _ => rfl, fun z => absurd hA z⟩) (by decide) (by decide) (by decide) (by decide)
      obtain ⟨T4, L4, X4, N4, e4, c4⟩ := lhb1 p1 p2 p3 p4 q on 1 f2 f3 f4 v1 v2 r1 r2 ot v3 r3 sz dom mk 1 X3 hx hZ hw hby hml hown e3 (Fr.app N2 N3) O0 (by decide)
      exact fin 1 T4 L4 X4 e4 N4 ⟨fun _ => rfl, fun z => absurd (Or.inl ⟨by decide, hA⟩) z⟩ (fun t k => pre t (c2 t (c3 t (c4 t k))))
    · obtain ⟨T3, _, L3, X3, ⟨rfl, N3, e3⟩, c3⟩ := cH1 (Ls := #[.val (.int p1), .val (.int p2), .val (.int p3), .val (.int p4), .val (.int q), .val (.int on), .val (.int 1), .val (.int f2), .val (.int f3), .val (.int f4), .val (.int v1), .val (.int v2), .val (.ref r1), .val (.ref r2), .val (.int ot), .val (.int v3), .val (.ref r3), .val (.ref sz), .val (.ref dom), .val (.int mk), .unset]) r1 on X2 hx hZ hw hby hml hown e2 rfl (rmHolds l Z a0 hw r1 on xs1 0 h0 n0 O0 S1 ⟨fun z => absurd z hA, fun _ => rfl⟩) (by decide) (by decide) (by decide) (by decide)
      obtain ⟨T4, L4, X4, N4, e4, c4⟩ := lhb0 p1 p2 p3 p4 q on 1 f2 f3 f4 v1 v2 r1 r2 ot v3 r3 sz dom mk 0 X3 hx hZ hw hby hml hown e3 (Fr.app N2 N3) O0 rfl
      exact half T4 L4 X4 e4 N4 (fun z => hA z.2) (fun t k => pre t (c2 t (c3 t (c4 t k))))
set_option maxRecDepth 65536 in
set_option maxHeartbeats 4000000 in
theorem cond1 (hx : p.tables.exec = Jvm.exec) (hZ : Z.Warmed39 s.vm) (hw : ∀ d ∈ tables_1, d.before a0 Z = true) (hby : c.code = code) (hml : c.maxLocals = 21) (hown : s.vm.findClass "com/example/caprice/caprice/solver/DomainsRemovalsRestOnPinLaw" = some m.cls) (p1 : Int32) (p2 : Int32) (p3 : Int32) (p4 : Int32) (q : Int32) (on : Int32) (f1 : Int32) (f2 : Int32) (f3 : Int32) (f4 : Int32) (v1 : Int32) (v2 : Int32) (r1 : Nat) (r2 : Nat) (ot : Int32) (v3 : Int32) (r3 : Nat) (sz : Nat) (dom : Nat) (T0 : State) (locs : List Loc) (h0 : Heap) (M : Nat → Nat → Value) (lf : Nat → Int32) (lm : Nat → Int64) (tr : Nat → Int32) (ts : Nat) (hdn : n0 ≤ dom) (X0 : Stand p l e room_1 s m args below meth c T0 locs 14 58) (e0 : T0.heap = h0) (N0 : Fr n0 locs) (O0 : Old Z n0 h0) (D : Dm Z h0 dom dom 3 3 M lf lm tr ts) (E : Exa Z h0 r1 "[I") (hd : Rg q) (hv : Rg v1) (ht : ts + 1 < 18) (hf : f1 = 0 ∨ f1 = 1) :
    ∃ (T' : State) (locs' : List Loc) (M' : Nat → Nat → Value) (lf' : Nat → Int32) (lm' : Nat → Int64) (tr' : Nat → Int32) (ts' : Nat), Stand p l e room_1 s m args below meth c T' locs' 14 58 ∧ Fr n0 locs' ∧ Old Z n0 T'.heap ∧ Pres dom h0 T'.heap ∧ Dm Z T'.heap dom dom 3 3 M' lf' lm' tr' ts' ∧ ((f1 = 0 ∧ M' = M ∧ tr' = tr ∧ ts' = ts) ∨ (f1 = 1 ∧ M' = rM M q.toNatClampNeg v1.toNatClampNeg (.ref r1) ∧ tr' = own_upd (own_upd tr ts q) (ts + 1) v1 ∧ ts' = ts + 2)) ∧ ∀ t, Steps p.tables e below (T'.setTop (mkF m 184 #[.val (.int p1), .val (.int p2), .val (.int p3), .val (.int p4), .val (.int q), .val (.int on), .val (.int f1), .val (.int f2), .val (.int f3), .val (.int f4), .val (.int v1), .val (.int v2), .val (.ref r1), .val (.ref r2), .val (.int ot), .val (.int v3), .val (.ref r3), .val (.ref sz), .val (.ref dom), .unset, .unset] [])) t → Steps p.tables e below (T0.setTop (mkF m 168 #[.val (.int p1), .val (.int p2), .val (.int p3), .val (.int p4), .val (.int q), .val (.int on), .val (.int f1), .val (.int f2), .val (.int f3), .val (.int f4), .val (.int v1), .val (.int v2), .val (.ref r1), .val (.ref r2), .val (.int ot), .val (.int v3), .val (.ref r3), .val (.ref sz), .val (.ref dom), .unset, .unset] [])) t := by
  rcases hf with rfl | rfl
  · obtain ⟨T2, L2, X2, N2, e2, c2⟩ := l10 p1 p2 p3 p4 q on 0 f2 f3 f4 v1 v2 r1 r2 ot v3 r3 sz dom X0 hx hZ hw hby hml hown e0 N0 O0 rfl
    exact ⟨T2, L2, M, lf, lm, tr, ts, X2, N2, by rw [e2]; exact O0, by rw [e2]; exact Pres.refl _ _, by rw [e2]; exact D, Or.inl ⟨rfl, rfl, rfl, rfl⟩, c2⟩
  · obtain ⟨T2, L2, X2, N2, e2, c2⟩ := l11 p1 p2 p3 p4 q on 1 f2 f3 f4 v1 v2 r1 r2 ot v3 r3 sz dom X0 hx hZ hw hby hml hown e0 N0 O0 (by decide)
    obtain ⟨T3, _, L3, X3, ⟨rfl, N3, P3, O3, D3⟩, c3⟩ := cM1 (Ls := #[.val (.int p1), .val (.int p2), .val (.int p3), .val (.int p4), .val (.int q), .val (.int on), .val (.int 1), .val (.int f2), .val (.int f3), .val (.int f4), .val (.int v1), .val (.int v2), .val (.ref r1), .val (.ref r2), .val (.int ot), .val (.int v3), .val (.ref r3), .val (.ref sz), .val (.ref dom), .unset, .unset]) dom q v1 r1 X2 hx hZ hw hby hml hown e2 rfl D.exa (rmRemove l Z a0 hw dom q v1 r1 dom 3 3 M lf lm tr ts h0 n0 O0 hdn D hd hv ht E) (by decide) (by decide) (by decide) (by decide)
    exact ⟨T3, _, _, _, _, _, _, X3, Fr.app N2 N3, O3, P3, D3, Or.inr ⟨rfl, rfl, rfl, rfl⟩, fun t kt => c2 t (c3 t kt)⟩
set_option maxRecDepth 65536 in
set_option maxHeartbeats 4000000 in
theorem cond2 (hx : p.tables.exec = Jvm.exec) (hZ : Z.Warmed39 s.vm) (hw : ∀ d ∈ tables_1, d.before a0 Z = true) (hby : c.code = code) (hml : c.maxLocals = 21) (hown : s.vm.findClass "com/example/caprice/caprice/solver/DomainsRemovalsRestOnPinLaw" = some m.cls) (p1 : Int32) (p2 : Int32) (p3 : Int32) (p4 : Int32) (q : Int32) (on : Int32) (f1 : Int32) (f2 : Int32) (f3 : Int32) (f4 : Int32) (v1 : Int32) (v2 : Int32) (r1 : Nat) (r2 : Nat) (ot : Int32) (v3 : Int32) (r3 : Nat) (sz : Nat) (dom : Nat) (mk : Int32) (T0 : State) (locs : List Loc) (h0 : Heap) (M : Nat → Nat → Value) (lf : Nat → Int32) (lm : Nat → Int64) (tr : Nat → Int32) (ts : Nat) (hdn : n0 ≤ dom) (X0 : Stand p l e room_1 s m args below meth c T0 locs 14 58) (e0 : T0.heap = h0) (N0 : Fr n0 locs) (O0 : Old Z n0 h0) (D : Dm Z h0 dom dom 3 3 M lf lm tr ts) (E : Exa Z h0 r2 "[I") (hd : Rg q) (hv : Rg v2) (ht : ts + 1 < 18) (hf : f2 = 0 ∨ f2 = 1) :
    ∃ (T' : State) (locs' : List Loc) (M' : Nat → Nat → Value) (lf' : Nat → Int32) (lm' : Nat → Int64) (tr' : Nat → Int32) (ts' : Nat), Stand p l e room_1 s m args below meth c T' locs' 14 58 ∧ Fr n0 locs' ∧ Old Z n0 T'.heap ∧ Pres dom h0 T'.heap ∧ Dm Z T'.heap dom dom 3 3 M' lf' lm' tr' ts' ∧ ((f2 = 0 ∧ M' = M ∧ tr' = tr ∧ ts' = ts) ∨ (f2 = 1 ∧ M' = rM M q.toNatClampNeg v2.toNatClampNeg (.ref r2) ∧ tr' = own_upd (own_upd tr ts q) (ts + 1) v2 ∧ ts' = ts + 2)) ∧ ∀ t, Steps p.tables e below (T'.setTop (mkF m 207 #[.val (.int p1), .val (.int p2), .val (.int p3), .val (.int p4), .val (.int q), .val (.int on), .val (.int f1), .val (.int f2), .val (.int f3), .val (.int f4), .val (.int v1), .val (.int v2), .val (.ref r1), .val (.ref r2), .val (.int ot), .val (.int v3), .val (.ref r3), .val (.ref sz), .val (.ref dom), .val (.int mk), .unset] [])) t → Steps p.tables e below (T0.setTop (mkF m 191 #[.val (.int p1), .val (.int p2), .val (.int p3), .val (.int p4), .val (.int q), .val (.int on), .val (.int f1), .val (.int f2), .val (.int f3), .val (.int f4), .val (.int v1), .val (.int v2), .val (.ref r1), .val (.ref r2), .val (.int ot), .val (.int v3), .val (.ref r3), .val (.ref sz), .val (.ref dom), .val (.int mk), .unset] [])) t := by
  rcases hf with rfl | rfl
  · obtain ⟨T2, L2, X2, N2, e2, c2⟩ := l20 p1 p2 p3 p4 q on f1 0 f3 f4 v1 v2 r1 r2 ot v3 r3 sz dom mk X0 hx hZ hw hby hml hown e0 N0 O0 rfl
    exact ⟨T2, L2, M, lf, lm, tr, ts, X2, N2, by rw [e2]; exact O0, by rw [e2]; exact Pres.refl _ _, by rw [e2]; exact D, Or.inl ⟨rfl, rfl, rfl, rfl⟩, c2⟩
  · obtain ⟨T2, L2, X2, N2, e2, c2⟩ := l21 p1 p2 p3 p4 q on f1 1 f3 f4 v1 v2 r1 r2 ot v3 r3 sz dom mk X0 hx hZ hw hby hml hown e0 N0 O0 (by decide)
    obtain ⟨T3, _, L3, X3, ⟨rfl, N3, P3, O3, D3⟩, c3⟩ := cM2 (Ls := #[.val (.int p1), .val (.int p2), .val (.int p3), .val (.int p4), .val (.int q), .val (.int on), .val (.int f1), .val (.int 1), .val (.int f3), .val (.int f4), .val (.int v1), .val (.int v2), .val (.ref r1), .val (.ref r2), .val (.int ot), .val (.int v3), .val (.ref r3), .val (.ref sz), .val (.ref dom), .val (.int mk), .unset]) dom q v2 r2 X2 hx hZ hw hby hml hown e2 rfl D.exa (rmRemove l Z a0 hw dom q v2 r2 dom 3 3 M lf lm tr ts h0 n0 O0 hdn D hd hv ht E) (by decide) (by decide) (by decide) (by decide)
    exact ⟨T3, _, _, _, _, _, _, X3, Fr.app N2 N3, O3, P3, D3, Or.inr ⟨rfl, rfl, rfl, rfl⟩, fun t kt => c2 t (c3 t kt)⟩
set_option maxRecDepth 65536 in
set_option maxHeartbeats 4000000 in
theorem cond3 (hx : p.tables.exec = Jvm.exec) (hZ : Z.Warmed39 s.vm) (hw : ∀ d ∈ tables_1, d.before a0 Z = true) (hby : c.code = code) (hml : c.maxLocals = 21) (hown : s.vm.findClass "com/example/caprice/caprice/solver/DomainsRemovalsRestOnPinLaw" = some m.cls) (p1 : Int32) (p2 : Int32) (p3 : Int32) (p4 : Int32) (q : Int32) (on : Int32) (f1 : Int32) (f2 : Int32) (f3 : Int32) (f4 : Int32) (v1 : Int32) (v2 : Int32) (r1 : Nat) (r2 : Nat) (ot : Int32) (v3 : Int32) (r3 : Nat) (sz : Nat) (dom : Nat) (mk : Int32) (T0 : State) (locs : List Loc) (h0 : Heap) (M : Nat → Nat → Value) (lf : Nat → Int32) (lm : Nat → Int64) (tr : Nat → Int32) (ts : Nat) (hdn : n0 ≤ dom) (X0 : Stand p l e room_1 s m args below meth c T0 locs 14 58) (e0 : T0.heap = h0) (N0 : Fr n0 locs) (O0 : Old Z n0 h0) (D : Dm Z h0 dom dom 3 3 M lf lm tr ts) (E : Exa Z h0 r3 "[I") (hd : Rg ot) (hv : Rg v3) (ht : ts + 1 < 18) (hf : f3 = 0 ∨ f3 = 1) :
    ∃ (T' : State) (locs' : List Loc) (M' : Nat → Nat → Value) (lf' : Nat → Int32) (lm' : Nat → Int64) (tr' : Nat → Int32) (ts' : Nat), Stand p l e room_1 s m args below meth c T' locs' 14 58 ∧ Fr n0 locs' ∧ Old Z n0 T'.heap ∧ Pres dom h0 T'.heap ∧ Dm Z T'.heap dom dom 3 3 M' lf' lm' tr' ts' ∧ ((f3 = 0 ∧ M' = M ∧ tr' = tr ∧ ts' = ts) ∨ (f3 = 1 ∧ M' = rM M ot.toNatClampNeg v3.toNatClampNeg (.ref r3) ∧ tr' = own_upd (own_upd tr ts ot) (ts + 1) v3 ∧ ts' = ts + 2)) ∧ ∀ t, Steps p.tables e below (T'.setTop (mkF m 223 #[.val (.int p1), .val (.int p2), .val (.int p3), .val (.int p4), .val (.int q), .val (.int on), .val (.int f1), .val (.int f2), .val (.int f3), .val (.int f4), .val (.int v1), .val (.int v2), .val (.ref r1), .val (.ref r2), .val (.int ot), .val (.int v3), .val (.ref r3), .val (.ref sz), .val (.ref dom), .val (.int mk), .unset] [])) t → Steps p.tables e below (T0.setTop (mkF m 207 #[.val (.int p1), .val (.int p2), .val (.int p3), .val (.int p4), .val (.int q), .val (.int on), .val (.int f1), .val (.int f2), .val (.int f3), .val (.int f4), .val (.int v1), .val (.int v2), .val (.ref r1), .val (.ref r2), .val (.int ot), .val (.int v3), .val (.ref r3), .val (.ref sz), .val (.ref dom), .val (.int mk), .unset] [])) t := by
  rcases hf with rfl | rfl
  · obtain ⟨T2, L2, X2, N2, e2, c2⟩ := l30 p1 p2 p3 p4 q on f1 f2 0 f4 v1 v2 r1 r2 ot v3 r3 sz dom mk X0 hx hZ hw hby hml hown e0 N0 O0 rfl
    exact ⟨T2, L2, M, lf, lm, tr, ts, X2, N2, by rw [e2]; exact O0, by rw [e2]; exact Pres.refl _ _, by rw [e2]; exact D, Or.inl ⟨rfl, rfl, rfl, rfl⟩, c2⟩
  · obtain ⟨T2, L2, X2, N2, e2, c2⟩ := l31 p1 p2 p3 p4 q on f1 f2 1 f4 v1 v2 r1 r2 ot v3 r3 sz dom mk X0 hx hZ hw hby hml hown e0 N0 O0 (by decide)
    obtain ⟨T3, _, L3, X3, ⟨rfl, N3, P3, O3, D3⟩, c3⟩ := cM3 (Ls := #[.val (.int p1), .val (.int p2), .val (.int p3), .val (.int p4), .val (.int q), .val (.int on), .val (.int f1), .val (.int f2), .val (.int 1), .val (.int f4), .val (.int v1), .val (.int v2), .val (.ref r1), .val (.ref r2), .val (.int ot), .val (.int v3), .val (.ref r3), .val (.ref sz), .val (.ref dom), .val (.int mk), .unset]) dom ot v3 r3 X2 hx hZ hw hby hml hown e2 rfl D.exa (rmRemove l Z a0 hw dom ot v3 r3 dom 3 3 M lf lm tr ts h0 n0 O0 hdn D hd hv ht E) (by decide) (by decide) (by decide) (by decide)
    exact ⟨T3, _, _, _, _, _, _, X3, Fr.app N2 N3, O3, P3, D3, Or.inr ⟨rfl, rfl, rfl, rfl⟩, fun t kt => c2 t (c3 t kt)⟩
set_option maxRecDepth 65536 in
set_option maxHeartbeats 4000000 in
theorem cond4 (hx : p.tables.exec = Jvm.exec) (hZ : Z.Warmed39 s.vm) (hw : ∀ d ∈ tables_1, d.before a0 Z = true) (hby : c.code = code) (hml : c.maxLocals = 21) (hown : s.vm.findClass "com/example/caprice/caprice/solver/DomainsRemovalsRestOnPinLaw" = some m.cls) (p1 : Int32) (p2 : Int32) (p3 : Int32) (p4 : Int32) (q : Int32) (on : Int32) (f1 : Int32) (f2 : Int32) (f3 : Int32) (f4 : Int32) (v1 : Int32) (v2 : Int32) (r1 : Nat) (r2 : Nat) (ot : Int32) (v3 : Int32) (r3 : Nat) (sz : Nat) (dom : Nat) (mk : Int32) (T0 : State) (locs : List Loc) (h0 : Heap) (M : Nat → Nat → Value) (lf : Nat → Int32) (lm : Nat → Int64) (tr : Nat → Int32) (mN k : Nat) (hdn : n0 ≤ dom) (X0 : Stand p l e room_1 s m args below meth c T0 locs 14 58) (e0 : T0.heap = h0) (N0 : Fr n0 locs) (O0 : Old Z n0 h0) (D : Dm Z h0 dom dom 3 3 M lf lm tr (mN + 2 * k)) (hmk : mk = Int32.ofNat mN) (hb : ∀ i, i < k → Rg (tr (mN + 2 * i)) ∧ Rg (tr (mN + 2 * i + 1))) (hle : mN + 2 * k ≤ 18) (hf : f4 = 0 ∨ f4 = 1) :
    ∃ (T' : State) (locs' : List Loc) (M' : Nat → Nat → Value) (lf' : Nat → Int32) (lm' : Nat → Int64) (tr' : Nat → Int32) (ts' : Nat), Stand p l e room_1 s m args below meth c T' locs' 14 58 ∧ Fr n0 locs' ∧ Old Z n0 T'.heap ∧ Pres dom h0 T'.heap ∧ Dm Z T'.heap dom dom 3 3 M' lf' lm' tr' ts' ∧ ((f4 = 0 ∧ M' = M) ∨ (f4 = 1 ∧ M' = clrM tr mN k M)) ∧ ∀ t, Steps p.tables e below (T'.setTop (mkF m 235 #[.val (.int p1), .val (.int p2), .val (.int p3), .val (.int p4), .val (.int q), .val (.int on), .val (.int f1), .val (.int f2), .val (.int f3), .val (.int f4), .val (.int v1), .val (.int v2), .val (.ref r1), .val (.ref r2), .val (.int ot), .val (.int v3), .val (.ref r3), .val (.ref sz), .val (.ref dom), .val (.int mk), .unset] [])) t → Steps p.tables e below (T0.setTop (mkF m 223 #[.val (.int p1), .val (.int p2), .val (.int p3), .val (.int p4), .val (.int q), .val (.int on), .val (.int f1), .val (.int f2), .val (.int f3), .val (.int f4), .val (.int v1), .val (.int v2), .val (.ref r1), .val (.ref r2), .val (.int ot), .val (.int v3), .val (.ref r3), .val (.ref sz), .val (.ref dom), .val (.int mk), .unset] [])) t := by
  subst hmk
  rcases hf with rfl | rfl
  · obtain ⟨T2, L2, X2, N2, e2, c2⟩ := l40 p1 p2 p3 p4 q on f1 f2 f3 0 v1 v2 r1 r2 ot v3 r3 sz dom (Int32.ofNat mN) X0 hx hZ hw hby hml hown e0 N0 O0 rfl
    exact ⟨T2, L2, M, lf, lm, tr, _, X2, N2, by rw [e2]; exact O0, by rw [e2]; exact Pres.refl _ _, by rw [e2]; exact D, Or.inl ⟨rfl, rfl⟩, c2⟩
  · obtain ⟨T2, L2, X2, N2, e2, c2⟩ := l41 p1 p2 p3 p4 q on f1 f2 f3 1 v1 v2 r1 r2 ot v3 r3 sz dom (Int32.ofNat mN) X0 hx hZ hw hby hml hown e0 N0 O0 (by decide)
    obtain ⟨T3, _, L3, X3, ⟨rfl, N3, P3, O3, D3⟩, c3⟩ := cS (Ls := #[.val (.int p1), .val (.int p2), .val (.int p3), .val (.int p4), .val (.int q), .val (.int on), .val (.int f1), .val (.int f2), .val (.int f3), .val (.int 1), .val (.int v1), .val (.int v2), .val (.ref r1), .val (.ref r2), .val (.int ot), .val (.int v3), .val (.ref r3), .val (.ref sz), .val (.ref dom), .val (.int (Int32.ofNat mN)), .unset]) dom (Int32.ofNat mN) X2 hx hZ hw hby hml hown e2 rfl D.exa (rmRestore l Z a0 hw dom mN k dom 3 3 M lf lm tr h0 n0 O0 hdn D hb hle) (by decide) (by decide) (by decide) (by decide)
    exact ⟨T3, _, _, _, _, _, _, X3, Fr.app N2 N3, O3, P3, D3, Or.inr ⟨rfl, rfl⟩, fun t kt => c2 t (c3 t kt)⟩
set_option maxRecDepth 65536 in
set_option maxHeartbeats 4000000 in
theorem lawMid (hx : p.tables.exec = Jvm.exec) (hZ : Z.Warmed39 s.vm) (hw : ∀ d ∈ tables_1, d.before a0 Z = true) (hby : c.code = code) (hml : c.maxLocals = 21) (hown : s.vm.findClass "com/example/caprice/caprice/solver/DomainsRemovalsRestOnPinLaw" = some m.cls) (hret : meth.sig.returnType = some .boolean) (hlk : meth.locks = false) (p1 : Int32) (p2 : Int32) (p3 : Int32) (p4 : Int32) (q : Int32) (on : Int32) (f1 : Int32) (f2 : Int32) (f3 : Int32) (f4 : Int32) (v1 : Int32) (v2 : Int32) (r1 : Nat) (r2 : Nat) (ot : Int32) (v3 : Int32) (r3 : Nat) (sz : Nat) (dom : Nat) (xs1 xs2 : List Int32) (T0 : State) (locs : List Loc) (h0 : Heap) (lf : Nat → Int32) (lm : Nat → Int64) (tr : Nat → Int32) (hdn : n0 ≤ dom) (X0 : Stand p l e room_1 s m args below meth c T0 locs 14 58) (e0 : T0.heap = h0) (N0 : Fr n0 locs) (O0 : Old Z n0 h0) (D : Dm Z h0 dom dom 3 3 (fun _ _ => .null) lf lm tr 0) (S1 : Shp Z h0 r1 xs1) (S2 : Shp Z h0 r2 xs2) (E1 : Exa Z h0 r1 "[I") (E2 : Exa Z h0 r2 "[I") (E3 : Exa Z h0 r3 "[I") (a1 : r1 < dom) (a2 : r2 < dom) (a3 : r3 < dom) (hr : r1 ≠ r2) (hq : Rg q) (hv1 : Rg v1) (hv2 : Rg v2) (ho : Rg ot) (hv3 : Rg v3) (hqo : q.toNatClampNeg ≠ ot.toNatClampNeg) (h12 : v1.toNatClampNeg ≠ v2.toNatClampNeg) (hf1 : f1 = 0 ∨ f1 = 1) (hf2 : f2 = 0 ∨ f2 = 1) (hf3 : f3 = 0 ∨ f3 = 1) (hf4 : f4 = 0 ∨ f4 = 1)
    (pre : ∀ t, Steps p.tables e below (T0.setTop (mkF m 168 #[.val (.int p1), .val (.int p2), .val (.int p3), .val (.int p4), .val (.int q), .val (.int on), .val (.int f1), .val (.int f2), .val (.int f3), .val (.int f4), .val (.int v1), .val (.int v2), .val (.ref r1), .val (.ref r2), .val (.int ot), .val (.int v3), .val (.ref r3), .val (.ref sz), .val (.ref dom), .unset, .unset] [])) t → Steps p.tables e below entry t) : GoalQ p e below s entry n0 := by
  obtain ⟨TA, LA, MA, lfA, lmA, trA, tsA, XA, NA, OA, PA, DA, altA, cA⟩ := cond1 hx hZ hw hby hml hown p1 p2 p3 p4 q on f1 f2 f3 f4 v1 v2 r1 r2 ot v3 r3 sz dom T0 locs h0 _ lf lm tr 0 hdn X0 e0 N0 O0 D E1 hq hv1 (by omega) hf1
  have htA : tsA = 0 ∨ tsA = 2 := altA.elim (fun z => Or.inl z.2.2.2) (fun z => Or.inr z.2.2.2)
  obtain ⟨TB, LB, XB, NB, eB, cB⟩ := lG p1 p2 p3 p4 q on f1 f2 f3 f4 v1 v2 r1 r2 ot v3 r3 sz dom XA hx hZ hw hby hml hown rfl NA OA
  obtain ⟨TC, _, LC, XC, ⟨rfl, NC, eC⟩, cC⟩ := cK (Ls := #[.val (.int p1), .val (.int p2), .val (.int p3), .val (.int p4), .val (.int q), .val (.int on), .val (.int f1), .val (.int f2), .val (.int f3), .val (.int f4), .val (.int v1), .val (.int v2), .val (.ref r1), .val (.ref r2), .val (.int ot), .val (.int v3), .val (.ref r3), .val (.ref sz), .val (.ref dom), .unset, .unset]) dom XB hx hZ hw hby hml hown eB rfl DA.exa (rmMark l Z a0 hw dom dom 3 3 MA lfA lmA trA tsA TA.heap n0 OA DA) (by decide) (by decide) (by decide) (by decide)
  obtain ⟨TD, LD, XD, ND, eD, cD⟩ := lH p1 p2 p3 p4 q on f1 f2 f3 f4 v1 v2 r1 r2 ot v3 r3 sz dom (Int32.ofNat tsA) XC hx hZ hw hby hml hown eC (Fr.app NB NC) OA
  obtain ⟨TE, LE, ME, lfE, lmE, trE, tsE, XE, NE, OE, PE, DE, altE, cE⟩ := cond2 hx hZ hw hby hml hown p1 p2 p3 p4 q on f1 f2 f3 f4 v1 v2 r1 r2 ot v3 r3 sz dom (Int32.ofNat tsA) TD LD TA.heap MA lfA lmA trA tsA hdn XD eD ND OA DA (own_exa_pres E2 PA a2) hq hv2 (by omega) hf2
  have htE : tsE = tsA ∨ tsE = tsA + 2 := altE.elim (fun z => Or.inl z.2.2.2) (fun z => Or.inr z.2.2.2)
  obtain ⟨TF, LF, MF, lfF, lmF, trF, tsF, XF, NF, OF, PF, DF, altF, cF⟩ := cond3 hx hZ hw hby hml hown p1 p2 p3 p4 q on f1 f2 f3 f4 v1 v2 r1 r2 ot v3 r3 sz dom (Int32.ofNat tsA) TE LE TE.heap ME lfE lmE trE tsE hdn XE rfl NE OE DE (own_exa_pres (own_exa_pres E3 PA a3) PE a3) ho hv3 (by omega) hf3
  have P3 : Pres dom h0 TF.heap := (PA.trans PE).trans PF
  have fin : ∀ (k : Nat), tsF = tsA + 2 * k → (∀ i, i < k → Rg (trF (tsA + 2 * i)) ∧ Rg (trF (tsA + 2 * i + 1))) → tsA + 2 * k ≤ 18 →
      (f4 = 0 → RowIs (MF q.toNatClampNeg) (f1 ≠ 0) (f2 ≠ 0 ∧ f4 = 0) v1.toNatClampNeg v2.toNatClampNeg r1 r2) → (f4 = 1 → RowIs (clrM trF tsA k MF q.toNatClampNeg) (f1 ≠ 0) (f2 ≠ 0 ∧ f4 = 0) v1.toNatClampNeg v2.toNatClampNeg r1 r2) → GoalQ p e below s entry n0 := by
    intro k hk hb hle R0' R1'
    subst hk
    obtain ⟨TG, LG, MG, lfG, lmG, trG, tsG, XG, NG, OG, PG, DG, altG, cG⟩ := cond4 hx hZ hw hby hml hown p1 p2 p3 p4 q on f1 f2 f3 f4 v1 v2 r1 r2 ot v3 r3 sz dom (Int32.ofNat tsA) TF LF TF.heap MF lfF lmF trF tsA k hdn XF rfl NF OF DF rfl hb hle hf4
    have P4 : Pres dom h0 TG.heap := P3.trans PG
    refine lawEnd hx hZ hw hby hml hown hret hlk p1 p2 p3 p4 q on f1 f2 f3 f4 v1 v2 r1 r2 ot v3 r3 sz dom (Int32.ofNat tsA) xs1 xs2 TG LG TG.heap MG lfG lmG trG tsG XG rfl NG OG DG (S1.pres P4 a1) (S2.pres P4 a2) hq hv1 hv2 hr hf1 hf2 hf4 ?_ (fun t kt => pre t (cA t (cB t (cC t (cD t (cE t (cF t (cG t kt))))))))
    rcases altG with ⟨z, rfl⟩ | ⟨z, rfl⟩
    · exact R0' z
    · exact R1' z
  rcases altE with ⟨y1, rfl, rfl, rfl⟩ | ⟨y1, rfl, rfl, rfl⟩ <;> rcases altF with ⟨y2, rfl, rfl, rfl⟩ | ⟨y2, rfl, rfl, rfl⟩
  · refine fin 0 rfl (fun i hi => absurd hi (Nat.not_lt_zero i)) (by omega) (fun z => ?_) (fun z => ?_)
    all_goals rcases altA with ⟨y3, rfl, rfl, rfl⟩ | ⟨y3, rfl, rfl, rfl⟩ <;> subst y1 y2 y3 z <;> intro v <;> by_cases y4 : v = v1.toNatClampNeg
    all_goals first | (subst y4; simp [clrM, rM, own_upd, hqo, Ne.symm hqo, h12, Ne.symm h12]; done) | (by_cases y5 : v = v2.toNatClampNeg <;> first | (subst y5; simp [clrM, rM, own_upd, hqo, Ne.symm hqo, h12, Ne.symm h12]; done) | (simp [clrM, rM, own_upd, hqo, Ne.symm hqo, y4, y5]; done))
  · refine fin 1 (by omega) (fun i hi => ?_) (by omega) (fun z => ?_) (fun z => ?_)
    · obtain rfl : i = 0 := by omega
      (simp only [own_upd]; refine ⟨?_, ?_⟩ <;> (repeat (first | rw [if_pos (by omega)] | rw [if_neg (by omega)])) <;> assumption)
    all_goals rcases altA with ⟨y3, rfl, rfl, rfl⟩ | ⟨y3, rfl, rfl, rfl⟩ <;> subst y1 y2 y3 z <;> intro v <;> by_cases y4 : v = v1.toNatClampNeg
    all_goals first | (subst y4; simp [clrM, rM, own_upd, hqo, Ne.symm hqo, h12, Ne.symm h12]; done) | (by_cases y5 : v = v2.toNatClampNeg <;> first | (subst y5; simp [clrM, rM, own_upd, hqo, Ne.symm hqo, h12, Ne.symm h12]; done) | (simp [clrM, rM, own_upd, hqo, Ne.symm hqo, y4, y5]; done))
  · refine fin 1 (by omega) (fun i hi => ?_) (by omega) (fun z => ?_) (fun z => ?_)
    · obtain rfl : i = 0 := by omega
      (simp only [own_upd]; refine ⟨?_, ?_⟩ <;> (repeat (first | rw [if_pos (by omega)] | rw [if_neg (by omega)])) <;> assumption)
    all_goals rcases altA with ⟨y3, rfl, rfl, rfl⟩ | ⟨y3, rfl, rfl, rfl⟩ <;> subst y1 y2 y3 z <;> intro v <;> by_cases y4 : v = v1.toNatClampNeg
    all_goals first | (subst y4; simp [clrM, rM, own_upd, hqo, Ne.symm hqo, h12, Ne.symm h12]; done) | (by_cases y5 : v = v2.toNatClampNeg <;> first | (subst y5; simp [clrM, rM, own_upd, hqo, Ne.symm hqo, h12, Ne.symm h12]; done) | (simp [clrM, rM, own_upd, hqo, Ne.symm hqo, y4, y5]; done))
  · refine fin 2 (by omega) (fun i hi => ?_) (by omega) (fun z => ?_) (fun z => ?_)
    · have q5 : i = 0 ∨ i = 1 := by omega
      rcases q5 with rfl | rfl
      · (simp only [own_upd]; refine ⟨?_, ?_⟩ <;> (repeat (first | rw [if_pos (by omega)] | rw [if_neg (by omega)])) <;> assumption)
      · (simp only [own_upd]; refine ⟨?_, ?_⟩ <;> (repeat (first | rw [if_pos (by omega)] | rw [if_neg (by omega)])) <;> assumption)
    all_goals rcases altA with ⟨y3, rfl, rfl, rfl⟩ | ⟨y3, rfl, rfl, rfl⟩ <;> subst y1 y2 y3 z <;> intro v <;> by_cases y4 : v = v1.toNatClampNeg
    all_goals first | (subst y4; simp [clrM, rM, own_upd, hqo, Ne.symm hqo, h12, Ne.symm h12]; done) | (by_cases y5 : v = v2.toNatClampNeg <;> first | (subst y5; simp [clrM, rM, own_upd, hqo, Ne.symm hqo, h12, Ne.symm h12]; done) | (simp [clrM, rM, own_upd, hqo, Ne.symm hqo, y4, y5]; done))
end LawM
theorem own_m255 (x : Int32) : ((x &&& (255 : Int32)) % (3 : Int32)) = (0 : Int32) ∨ ((x &&& (255 : Int32)) % (3 : Int32)) = (1 : Int32) ∨ ((x &&& (255 : Int32)) % (3 : Int32)) = (2 : Int32) := by
  have e := Jvm.Kit.i32_mask x (255 : Int32) (k := 8) (by decide) (by decide)
  have e2 := Jvm.Kit.i32_rem_nonneg (x := x &&& (255 : Int32)) (y := (3 : Int32)) (by omega)
  have e3 : (3 : Int32).toInt = 3 := by decide
  rw [e3] at e2
  have h : ((x &&& (255 : Int32)) % (3 : Int32)).toInt = 0 ∨ ((x &&& (255 : Int32)) % (3 : Int32)).toInt = 1 ∨ ((x &&& (255 : Int32)) % (3 : Int32)).toInt = 2 := by omega
  rcases h with h | h | h
  · exact Or.inl (own_inj (h.trans (by decide)))
  · exact Or.inr (Or.inl (own_inj (h.trans (by decide))))
  · exact Or.inr (Or.inr (own_inj (h.trans (by decide))))
theorem own_rg {x : Int32} (h : x = 0 ∨ x = 1 ∨ x = 2) : Rg x := by rcases h with rfl | rfl | rfl <;> (unfold Rg; decide)
theorem own_v2 {v : Int32} (h : v = 0 ∨ v = 1 ∨ v = 2) (x : Int32) : Rg (((v + (1 : Int32)) + (x &&& (1 : Int32))) % (3 : Int32)) ∧ v.toNatClampNeg ≠ (((v + (1 : Int32)) + (x &&& (1 : Int32))) % (3 : Int32)).toNatClampNeg := by
  rcases own_bit x with y | y <;> rw [y] <;> rcases h with rfl | rfl | rfl <;> (unfold Rg; decide)
theorem own_ot {v : Int32} (h : v = 0 ∨ v = 1 ∨ v = 2) : Rg ((v + (1 : Int32)) % (3 : Int32)) ∧ v.toNatClampNeg ≠ ((v + (1 : Int32)) % (3 : Int32)).toNatClampNeg := by
  rcases h with rfl | rfl | rfl <;> (unfold Rg; decide)
set_option maxRecDepth 65536 in
set_option maxHeartbeats 4000000 in
theorem rm0_all (l : Launch) (Z : State) (a0 : Array Value) (hw : ∀ d ∈ tables_1, d.before a0 Z = true) (ws : List Jvm.Cond) (p1 p2 p3 p4 : Int32) (h0 : Heap) (n0 : Nat) (Z0 : n0 ≤ h0.size) (O0 : Old Z n0 h0) :
    MetFree l x (head1 (Jvm.Cond.code x code maxLocals ret :: ws) room_1) (fun a U => a = #[(.int p1), (.int p2), (.int p3), (.int p4)] ∧ Z.Warmed39 U.vm ∧ U.heap = h0) (fun _ _ _ _ _ => True) (fun _ U o U' => ∃ v L, o = .returned v ∧ Q0 h0 n0 v U'.heap L ∧ FrameEnd U o U' L room_1.cells room_1.slots) := by
  refine MetFree.of_bodySF (plainFor_of_name pn292) hisR ?_
  intro p e s m args below meth c s₁ Bd hml0 hP hK
  obtain ⟨rfl, hZ, hh⟩ := hP
  have hx := Bd.exec
  have hby := Bd.bytes
  have hml : c.maxLocals = 21 := hml0
  have hown : s.vm.findClass "com/example/caprice/caprice/solver/DomainsRemovalsRestOnPinLaw" = some m.cls := findClass_of_methodNamed Bd.named
  have X0 : Stand p l e room_1 s m #[(.int p1), (.int p2), (.int p3), (.int p4)] below meth c s₁ [] 0 0 := Stand.of_body Bd
  have e0 : s₁.heap = h0 := by rw [← hh, Bd.state]; rfl
  have hlk : meth.locks = false := BodyLoose.notSynchronized Bd
  have ef : entryFrame m #[(.int p1), (.int p2), (.int p3), (.int p4)] maxLocals = (mkF m 0 #[.val (.int p1), .val (.int p2), .val (.int p3), .val (.int p4), .unset, .unset, .unset, .unset, .unset, .unset, .unset, .unset, .unset, .unset, .unset, .unset, .unset, .unset, .unset, .unset, .unset] []) := by first | (simp [entryFrame, mkF, argsToLocals, Value.category, maxLocals]; done) | rfl
  obtain ⟨TA, LA, XA, NA, eA, cA⟩ := lA p1 p2 p3 p4 X0 hx hZ hw hby hml hown e0 (Fr.nil n0) O0
  obtain ⟨q, hqe⟩ : ∃ z : Int32, z = ((p1 &&& (2147483647 : Int32)) % (3 : Int32)) := ⟨_, rfl⟩
  obtain ⟨on, hone⟩ : ∃ z : Int32, z = ((((p1.toUInt32 >>> ((4 : Int32) &&& 31).toUInt32).toInt32) &&& (255 : Int32)) % (3 : Int32)) := ⟨_, rfl⟩
  have q3 : q = 0 ∨ q = 1 ∨ q = 2 := by rw [hqe]; exact own_rem p1
  rw [← hqe, ← hone] at cA
  clear hqe hone
  obtain ⟨TB0, LB0, f1, hf1, XB0, NB0, eB0, cB0⟩ : ∃ (T' : State) (L' : List Loc) (f1 : Int32), (f1 = 0 ∨ f1 = 1) ∧ Stand p l e room_1 s m #[(.int p1), (.int p2), (.int p3), (.int p4)] below meth c T' L' 0 0 ∧ Fr n0 L' ∧ T'.heap = h0 ∧ ∀ t, Steps p.tables e below (T'.setTop (mkF m 32 #[.val (.int p1), .val (.int p2), .val (.int p3), .val (.int p4), .val (.int q), .val (.int on), .val (.int f1), .unset, .unset, .unset, .unset, .unset, .unset, .unset, .unset, .unset, .unset, .unset, .unset, .unset, .unset] [])) t → Steps p.tables e below (TA.setTop (mkF m 19 #[.val (.int p1), .val (.int p2), .val (.int p3), .val (.int p4), .val (.int q), .val (.int on), .unset, .unset, .unset, .unset, .unset, .unset, .unset, .unset, .unset, .unset, .unset, .unset, .unset, .unset, .unset] [])) t := by
    by_cases hb : (p2 &&& (1 : Int32)) = (0 : Int32)
    · obtain ⟨T', L', X', N', e', c'⟩ := lB00 p1 p2 p3 p4 q on XA hx hZ hw hby hml hown eA NA O0 hb
      exact ⟨T', L', 0, Or.inl rfl, X', N', e', c'⟩
    · obtain ⟨T', L', X', N', e', c'⟩ := lB01 p1 p2 p3 p4 q on XA hx hZ hw hby hml hown eA NA O0 hb
      exact ⟨T', L', 1, Or.inr rfl, X', N', e', c'⟩
  obtain ⟨TB1, LB1, f2, hf2, XB1, NB1, eB1, cB1⟩ : ∃ (T' : State) (L' : List Loc) (f2 : Int32), (f2 = 0 ∨ f2 = 1) ∧ Stand p l e room_1 s m #[(.int p1), (.int p2), (.int p3), (.int p4)] below meth c T' L' 0 0 ∧ Fr n0 L' ∧ T'.heap = h0 ∧ ∀ t, Steps p.tables e below (T'.setTop (mkF m 45 #[.val (.int p1), .val (.int p2), .val (.int p3), .val (.int p4), .val (.int q), .val (.int on), .val (.int f1), .val (.int f2), .unset, .unset, .unset, .unset, .unset, .unset, .unset, .unset, .unset, .unset, .unset, .unset, .unset] [])) t → Steps p.tables e below (TB0.setTop (mkF m 32 #[.val (.int p1), .val (.int p2), .val (.int p3), .val (.int p4), .val (.int q), .val (.int on), .val (.int f1), .unset, .unset, .unset, .unset, .unset, .unset, .unset, .unset, .unset, .unset, .unset, .unset, .unset, .unset] [])) t := by
    by_cases hb : (p2 &&& (2 : Int32)) = (0 : Int32)
    · obtain ⟨T', L', X', N', e', c'⟩ := lB10 p1 p2 p3 p4 q on f1 XB0 hx hZ hw hby hml hown eB0 NB0 O0 hb
      exact ⟨T', L', 0, Or.inl rfl, X', N', e', c'⟩
    · obtain ⟨T', L', X', N', e', c'⟩ := lB11 p1 p2 p3 p4 q on f1 XB0 hx hZ hw hby hml hown eB0 NB0 O0 hb
      exact ⟨T', L', 1, Or.inr rfl, X', N', e', c'⟩
  obtain ⟨TB2, LB2, f3, hf3, XB2, NB2, eB2, cB2⟩ : ∃ (T' : State) (L' : List Loc) (f3 : Int32), (f3 = 0 ∨ f3 = 1) ∧ Stand p l e room_1 s m #[(.int p1), (.int p2), (.int p3), (.int p4)] below meth c T' L' 0 0 ∧ Fr n0 L' ∧ T'.heap = h0 ∧ ∀ t, Steps p.tables e below (T'.setTop (mkF m 58 #[.val (.int p1), .val (.int p2), .val (.int p3), .val (.int p4), .val (.int q), .val (.int on), .val (.int f1), .val (.int f2), .val (.int f3), .unset, .unset, .unset, .unset, .unset, .unset, .unset, .unset, .unset, .unset, .unset, .unset] [])) t → Steps p.tables e below (TB1.setTop (mkF m 45 #[.val (.int p1), .val (.int p2), .val (.int p3), .val (.int p4), .val (.int q), .val (.int on), .val (.int f1), .val (.int f2), .unset, .unset, .unset, .unset, .unset, .unset, .unset, .unset, .unset, .unset, .unset, .unset, .unset] [])) t := by
    by_cases hb : (p2 &&& (4 : Int32)) = (0 : Int32)
    · obtain ⟨T', L', X', N', e', c'⟩ := lB20 p1 p2 p3 p4 q on f1 f2 XB1 hx hZ hw hby hml hown eB1 NB1 O0 hb
      exact ⟨T', L', 0, Or.inl rfl, X', N', e', c'⟩
    · obtain ⟨T', L', X', N', e', c'⟩ := lB21 p1 p2 p3 p4 q on f1 f2 XB1 hx hZ hw hby hml hown eB1 NB1 O0 hb
      exact ⟨T', L', 1, Or.inr rfl, X', N', e', c'⟩
  obtain ⟨TB3, LB3, f4, hf4, XB3, NB3, eB3, cB3⟩ : ∃ (T' : State) (L' : List Loc) (f4 : Int32), (f4 = 0 ∨ f4 = 1) ∧ Stand p l e room_1 s m #[(.int p1), (.int p2), (.int p3), (.int p4)] below meth c T' L' 0 0 ∧ Fr n0 L' ∧ T'.heap = h0 ∧ ∀ t, Steps p.tables e below (T'.setTop (mkF m 72 #[.val (.int p1), .val (.int p2), .val (.int p3), .val (.int p4), .val (.int q), .val (.int on), .val (.int f1), .val (.int f2), .val (.int f3), .val (.int f4), .unset, .unset, .unset, .unset, .unset, .unset, .unset, .unset, .unset, .unset, .unset] [])) t → Steps p.tables e below (TB2.setTop (mkF m 58 #[.val (.int p1), .val (.int p2), .val (.int p3), .val (.int p4), .val (.int q), .val (.int on), .val (.int f1), .val (.int f2), .val (.int f3), .unset, .unset, .unset, .unset, .unset, .unset, .unset, .unset, .unset, .unset, .unset, .unset] [])) t := by
    by_cases hb : (p2 &&& (8 : Int32)) = (0 : Int32)
    · obtain ⟨T', L', X', N', e', c'⟩ := lB30 p1 p2 p3 p4 q on f1 f2 f3 XB2 hx hZ hw hby hml hown eB2 NB2 O0 hb
      exact ⟨T', L', 0, Or.inl rfl, X', N', e', c'⟩
    · obtain ⟨T', L', X', N', e', c'⟩ := lB31 p1 p2 p3 p4 q on f1 f2 f3 XB2 hx hZ hw hby hml hown eB2 NB2 O0 hb
      exact ⟨T', L', 1, Or.inr rfl, X', N', e', c'⟩
  obtain ⟨TC, LC, XC, NC, eC, cC⟩ := lC p1 p2 p3 p4 q on f1 f2 f3 f4 XB3 hx hZ hw hby hml hown eB3 NB3 O0
  obtain ⟨v1, hv1e⟩ : ∃ z : Int32, z = ((((p2.toUInt32 >>> ((4 : Int32) &&& 31).toUInt32).toInt32) &&& (255 : Int32)) % (3 : Int32)) := ⟨_, rfl⟩
  have v13 : v1 = 0 ∨ v1 = 1 ∨ v1 = 2 := by rw [hv1e]; exact own_m255 _
  rw [← hv1e] at cC
  obtain ⟨v2, hv2e⟩ : ∃ z : Int32, z = (((v1 + (1 : Int32)) + (((p2.toUInt32 >>> ((12 : Int32) &&& 31).toUInt32).toInt32) &&& (1 : Int32))) % (3 : Int32)) := ⟨_, rfl⟩
  have hv2 : Rg v2 ∧ v1.toNatClampNeg ≠ v2.toNatClampNeg := by rw [hv2e]; exact own_v2 v13 _
  rw [← hv2e] at cC
  clear hv1e hv2e
  obtain ⟨T1, _, L1, X1, ⟨r1, xs1, rfl, N1, K1, O1, z1, E1a, S1a⟩, c1⟩ := cR1 (Ls := #[.val (.int p1), .val (.int p2), .val (.int p3), .val (.int p4), .val (.int q), .val (.int on), .val (.int f1), .val (.int f2), .val (.int f3), .val (.int f4), .val (.int v1), .val (.int v2), .unset, .unset, .unset, .unset, .unset, .unset, .unset, .unset, .unset]) p3 XC hx hZ hw hby hml hown eC rfl (rmReasons l Z a0 hw p3 h0 n0 O0) (by decide) (by decide) (by decide) (by decide)
  obtain ⟨TD, LD, XD, ND, eD, cD⟩ := lD p1 p2 p3 p4 q on f1 f2 f3 f4 v1 v2 r1 X1 hx hZ hw hby hml hown rfl (Fr.app NC N1) O1
  obtain ⟨T2, _, L2, X2, ⟨r2, xs2, rfl, N2, K2, O2, z2, E2a, S2a⟩, c2⟩ := cR2 (Ls := #[.val (.int p1), .val (.int p2), .val (.int p3), .val (.int p4), .val (.int q), .val (.int on), .val (.int f1), .val (.int f2), .val (.int f3), .val (.int f4), .val (.int v1), .val (.int v2), .val (.ref r1), .unset, .unset, .unset, .unset, .unset, .unset, .unset, .unset]) p4 XD hx hZ hw hby hml hown eD rfl (rmReasons l Z a0 hw p4 T1.heap n0 O1) (by decide) (by decide) (by decide) (by decide)
  have l1 : r1 < T1.heap.size := S1a.lt
  have P2 : Pres T1.heap.size T1.heap T2.heap := Pres.of_keep K2 all0
  have S1b := S1a.pres P2 l1
  have E1b := own_exa_pres E1a P2 l1
  have r12 : r1 < r2 := Nat.lt_of_lt_of_le l1 z2
  have l2 : r2 < T2.heap.size := S2a.lt
  obtain ⟨TE, LE, r3, sz, dom, k3, ks, XE, NE, KE, OE, y1, y2, y3, w1, w2, V3, E3a, Vs, Es, Ed, G1, G2, G3, G4, G5, G6, G7, -, cE⟩ := lE p1 p2 p3 p4 q on f1 f2 f3 f4 v1 v2 r1 r2 X2 hx hZ hw hby hml hown rfl (Fr.app ND N2) O2
  have w1' : r3 < sz := w1
  have w2' : sz < dom := w2
  have y1' : T2.heap.size ≤ r3 := y1
  have PE : Pres T2.heap.size T2.heap TE.heap := Pres.of_keep KE all0
  have S1c := S1b.pres PE (Nat.lt_trans r12 l2)
  have E1c := own_exa_pres E1b PE (Nat.lt_trans r12 l2)
  have S2c := S2a.pres PE l2
  have E2c := own_exa_pres E2a PE l2
  have hdn : n0 ≤ dom := Nat.le_trans (own_n0 O2) y3
  obtain ⟨ot, hote⟩ : ∃ z : Int32, z = ((q + (1 : Int32)) % (3 : Int32)) := ⟨_, rfl⟩
  have hot : Rg ot ∧ q.toNatClampNeg ≠ ot.toNatClampNeg := by rw [hote]; exact own_ot q3
  obtain ⟨v3, hv3e⟩ : ∃ z : Int32, z = ((((p4.toUInt32 >>> ((24 : Int32) &&& 31).toUInt32).toInt32) &&& (255 : Int32)) % (3 : Int32)) := ⟨_, rfl⟩
  have hv3 : Rg v3 := by rw [hv3e]; exact own_rg (own_m255 _)
  rw [← hote, ← hv3e] at cE
  clear hote hv3e
  obtain ⟨T3, _, L3, X3, ⟨rfl, N3, P3, O3, D0⟩, c3⟩ := cI (Ls := #[.val (.int p1), .val (.int p2), .val (.int p3), .val (.int p4), .val (.int q), .val (.int on), .val (.int f1), .val (.int f2), .val (.int f3), .val (.int f4), .val (.int v1), .val (.int v2), .val (.ref r1), .val (.ref r2), .val (.int ot), .val (.int v3), .val (.ref r3), .val (.ref sz), .unset, .unset, .unset]) dom sz dom XE hx hZ hw hby hml hown rfl rfl (rmCon l Z a0 hw dom sz ks TE.heap n0 OE Ed G1 G2 G3 G4 G5 G6 G7 Vs (Nat.ne_of_gt w2') hdn) (by decide) (by decide) (by decide) (by decide)
  obtain ⟨TF, LF, XF, NF, eF, cF⟩ := lF p1 p2 p3 p4 q on f1 f2 f3 f4 v1 v2 r1 r2 ot v3 r3 sz dom X3 hx hZ hw hby hml hown rfl (Fr.app NE N3) O3
  have a3 : r3 < dom := Nat.lt_trans w1' w2'
  have a2 : r2 < dom := Nat.lt_trans (Nat.lt_of_lt_of_le l2 y1') a3
  have a1 : r1 < dom := Nat.lt_trans r12 a2
  exact lawMid hx hZ hw hby hml hown Bd.returns hlk p1 p2 p3 p4 q on f1 f2 f3 f4 v1 v2 r1 r2 ot v3 r3 sz dom xs1 xs2 TF LF T3.heap _ _ _ hdn XF eF NF O3 D0 (S1c.pres P3 a1) (S2c.pres P3 a2) (own_exa_pres E1c P3 a1) (own_exa_pres E2c P3 a2) (own_exa_pres E3a P3 a3) a1 a2 a3 (Nat.ne_of_lt r12) (own_rg q3) (own_rg v13) hv2.1 hot.1 hv3 hot.2 hv2.2 hf1 hf2 hf3 hf4 (fun t kt => castTop ef (cA t (cB0 t (cB1 t (cB2 t (cB3 t (cC t (c1 t (cD t (c2 t (cE t (c3 t (cF t kt)))))))))))))
set_option maxRecDepth 65536 in
set_option maxHeartbeats 40000000 in
theorem comes_1 {Post : Tables → Env → Array Value → State → Outcome → State → Prop} (hpost : ∀ tb e args s v u, (limb_1_1.after args s (.returned v) u = true ∧ limb_1_2.after args s (.returned v) u = true ∧ True) → FrameEnd s (.returned v) u (Jvm.fieldLocs frame_1_writes args s ++ Jvm.arrayLocs frame_1_arrays args s ++ Jvm.staticLocs frame_1_statics s) 40 192 → Post tb e args s (.returned v) u) :
    ArmFor flags0 classFile x code maxLocals ret World_1 tables_1 room_1 Calls_1 rest_1 Pre_1 Post := by
  intro l hfl _ _ p e ha hc hk s m args below hf hA hF happ hP
  obtain ⟨hcalls, hrest, hpre⟩ := hP
  obtain ⟨-, -, -, hnamed, -, -, -, hat⟩ := (Spec.applies_iff hf).mp happ
  obtain ⟨hg, hn⟩ := and_e (Cond.before_iff.mp (show (Jvm.Cond.and given_1 narrow_1).before args s = true from hpre))
  obtain ⟨hg1a, hg1b⟩ := and_e hg
  obtain ⟨hg2a, hg2b⟩ := and_e hg1b
  obtain ⟨hg3a, hg3b⟩ := and_e hg2b
  obtain ⟨hg4a, hg4b⟩ := and_e hg3b
  obtain ⟨w0, w1, w2, w3, rfl⟩ : ∃ w0 w1 w2 w3 : Value, args = #[w0, w1, w2, w3] := by
    have hs : args.size = 4 := by simpa [Cond.value, given_1] using hg1a
    obtain ⟨L⟩ := args
    match L, hs with
    | [w0, w1, w2, w3], _ => exact ⟨w0, w1, w2, w3, rfl⟩
  have hw := fun d (hd : d ∈ tables_1) => atoms_spec (ws := Jvm.Cond.code x code maxLocals ret :: tables_1) hat d (List.mem_cons_of_mem _ hd)
  have hfit : Fit s := fun {y c} hc i hi => by
    obtain ⟨ha, rfl⟩ := Array.getElem?_eq_some_iff.mp hc
    have q := List.all_eq_true.mp ((Array.all_eq_true_iff_forall_mem.mp hF) _ (Array.getElem_mem ha)) i (List.mem_range.mpr hi)
    simpa [Array.getElem?_eq_getElem hi] using q
  obtain ⟨i0, ei0⟩ := is_v hg2a
  obtain rfl : w0 = (.int i0) := Option.some.inj ei0
  obtain ⟨i1, ei1⟩ := is_v hg3a
  obtain rfl : w1 = (.int i1) := Option.some.inj ei1
  obtain ⟨i2, ei2⟩ := is_v hg4a
  obtain rfl : w2 = (.int i2) := Option.some.inj ei2
  obtain ⟨i3, ei3⟩ := is_v hg4b
  obtain rfl : w3 = (.int i3) := Option.some.inj ei3
  obtain ⟨n, o, h1, h2, h3, _, L, rfl, ⟨rfl, N⟩, hq⟩ := rm0_all l s _ hw tables_1  i0 i1 i2 i3 s.heap s.heap.size (Nat.le_refl _) (Old.start s) p e ha hc hk s m _ below hf ((Spec.applies_iff_loose hf).mp happ).1 ⟨rfl, State.Warmed39.refl s, rfl⟩ trivial
  exact ⟨n, _, h1, h2, h3, hpost _ _ _ _ _ _ ⟨Cond.after_iff.mpr rfl, Cond.after_iff.mpr (eq_i res_at (Term.int_eval (1)) rfl), trivial⟩ ⟨hq.1, hq.2.1, (hq.2.2.sift fun y hy => Or.inr (N y hy)).mono (by decide) (by decide)⟩⟩
theorem main_1_1 : Claimed_1_1 := comes_1 fun _ _ _ _ _ _ h hF => ⟨h.1, hF⟩
theorem main_1_2 : Claimed_1_2 := comes_1 fun _ _ _ _ _ _ h hF => ⟨h.2.1, hF⟩
end Jvm.Pilot.@@N@@
namespace Jvm.Pilot.@@N@@
open Jvm Jvm.ClassFile Sem Op Lib Jvm.Free Jvm.Stand Jvm.Pilot.@@N@@.Jvm.D
/-! MADE BY PROGRAM (witnessworld.py) out of the Statement's table words and the real class files: 14 classes; the members and pool entries that the words name. The judged class is class 1, her method 1. -/
namespace start1
open Jvm.ClassFile
def u (s : String) : CpInfo := .utf8 (stringToUtf16 s)
/-- a pool by its gaps: so many unusable entries, then the entry; so many at the end -/
def gap : Nat → List CpInfo → List CpInfo
  | 0, r => r
  | n + 1, r => .unusable :: gap n r
def poolList (es : List (Nat × CpInfo)) (last : Nat) : List CpInfo := es.foldr (fun e r => gap e.1 (e.2 :: r)) (gap last [])
def pool (es : List (Nat × CpInfo)) (last : Nat) : Array CpInfo := ⟨poolList es last⟩
def fileOf (pool : Array CpInfo) (this : Nat) (attrs : Array Attribute := #[]) (ms : Array MethodInfo := #[]) (fl : Nat := 33) (sup : Nat := 0) (ifs : Array Nat := #[]) (fds : Array FieldInfo := #[]) : ClassFile where
  minorVersion := 0
  majorVersion := 65
  constantPool := pool
  accessFlags := fl
  thisClass := this
  superClass := sup
  interfaces := ifs
  fields := fds
  methods := ms
  attributes := attrs
def plain (name : String) (sup : Option ClassId) : Class where
  name := name
  kind := .ordinary
  loader := none
  accessFlags := 33
  super := sup
  interfaces := #[]
  cf := none
  fields := #[]
  methods := #[]
  instanceTypes := #[]
  staticTypes := #[]
  resolved := #[]
  callSites := []
  init := .initialized
  statics := none
  mirror := none

def pool0 : Array CpInfo := pool [(5, u "<init>"), (0, u "()V"), (1, .class_ 10), (1, u "java/lang/Object")] 113

def k0c0 : Code := { maxStack := 0, maxLocals := 1, code := object_method_1_code, exceptionTable := #[], attributes := #[] }
def k0m0 : Method := { name := "<init>", desc := "()V", sig := { parameters := [], returnType := none }, accessFlags := 1, code := some k0c0 }
/-- java/lang/Object -/
def k0 : Class := { plain "java/lang/Object" none with
  accessFlags := 33
  interfaces := #[]
  cf := some (fileOf pool0 8 #[] #[{ accessFlags := 1, nameIndex := 5, descriptorIndex := 6, attributes := #[] }] 33 0 #[] #[])
  fields := #[]
  methods := #[k0m0]
  instanceTypes := #[]
  staticTypes := #[]
  resolved := Array.replicate 124 none
  statics := none }

def pool1 : Array CpInfo := pool [(2, .class_ 4), (1, u "java/lang/Object"), (0, u "<init>"), (0, u "()V"), (0, .integer 2147483647), (0, .methodref 9 10), (0, .class_ 11), (0, .nameAndType 12 13), (0, u "com/example/caprice/caprice/solver/DomainsRemovalsRestOnPinLaw"), (0, u "reasonsOf"), (0, u "(I)[I"), (0, .class_ 15), (0, u "com/example/caprice/caprice/solver/Domains"), (0, .methodref 14 17), (0, .nameAndType 5 18), (0, u "([I)V"), (0, .methodref 14 20), (0, .nameAndType 21 22), (0, u "remove"), (0, u "(II[I)V"), (0, .methodref 14 24), (0, .nameAndType 25 26), (0, u "mark"), (0, u "()I"), (0, .methodref 14 28), (0, .nameAndType 29 30), (0, u "restore"), (0, u "(I)V"), (0, .methodref 9 32), (0, .nameAndType 33 34), (0, u "holds"), (0, u "([II)Z"), (0, .methodref 14 36), (0, .nameAndType 37 38), (0, u "removalsRestOn"), (0, u "(II)Z"), (2, u "law"), (0, u "(IIII)Z")] 5

def k1m0 : Method := { name := "<init>", desc := "()V", sig := { parameters := [], returnType := none }, accessFlags := 1, code := none }
def k1c1 : Code := { maxStack := 4, maxLocals := 21, code := code, exceptionTable := #[], attributes := #[] }
def k1m1 : Method := { name := "law", desc := "(IIII)Z", sig := { parameters := [.int, .int, .int, .int], returnType := some .boolean }, accessFlags := 9, code := some k1c1 }
def k1c2 : Code := { maxStack := 4, maxLocals := 4, code := method_3_code, exceptionTable := #[], attributes := #[] }
def k1m2 : Method := { name := "reasonsOf", desc := "(I)[I", sig := { parameters := [.int], returnType := some (.array .int) }, accessFlags := 10, code := some k1c2 }
def k1c3 : Code := { maxStack := 2, maxLocals := 2, code := method_4_code, exceptionTable := #[], attributes := #[] }
def k1m3 : Method := { name := "holds", desc := "([II)Z", sig := { parameters := [(.array .int), .int], returnType := some .boolean }, accessFlags := 10, code := some k1c3 }
/-- com/example/caprice/caprice/solver/DomainsRemovalsRestOnPinLaw -/
def k1 : Class := { plain "com/example/caprice/caprice/solver/DomainsRemovalsRestOnPinLaw" (some 0) with
  accessFlags := 49
  interfaces := #[]
  cf := some (fileOf pool1 9 #[] #[{ accessFlags := 1, nameIndex := 5, descriptorIndex := 6, attributes := #[] }, { accessFlags := 9, nameIndex := 41, descriptorIndex := 42, attributes := #[] }, { accessFlags := 10, nameIndex := 12, descriptorIndex := 13, attributes := #[] }, { accessFlags := 10, nameIndex := 33, descriptorIndex := 34, attributes := #[] }] 49 2 #[] #[])
  fields := #[]
  methods := #[k1m0, k1m1, k1m2, k1m3]
  instanceTypes := #[]
  staticTypes := #[]
  resolved := Array.replicate 48 none
  statics := none }

def pool2 : Array CpInfo := pool [(1, .class_ 2), (0, u "com/example/caprice/caprice/solver/ValuesLeft"), (0, .class_ 4), (0, u "java/lang/Object")] 6

/-- com/example/caprice/caprice/solver/ValuesLeft -/
def k2 : Class := { plain "com/example/caprice/caprice/solver/ValuesLeft" (some 0) with
  accessFlags := 1536
  interfaces := #[]
  cf := some (fileOf pool2 1 #[] #[] 1536 3 #[] #[])
  fields := #[]
  methods := #[]
  instanceTypes := #[]
  staticTypes := #[]
  resolved := Array.replicate 11 none
  statics := none }

def pool3 : Array CpInfo := pool [(3, .methodref 4 5), (0, .class_ 6), (0, .nameAndType 7 8), (0, u "java/lang/Object"), (0, u "<init>"), (0, u "()V"), (0, .class_ 10), (0, u "[[I"), (0, .fieldref 12 13), (0, .class_ 14), (0, .nameAndType 15 16), (0, u "com/example/caprice/caprice/solver/Domains"), (0, u "reasons"), (0, u "[[[I"), (0, .fieldref 12 18), (0, .nameAndType 19 20), (0, u "left"), (0, u "[I"), (0, .fieldref 12 22), (0, .nameAndType 23 24), (0, u "leftMasks"), (0, u "[J"), (0, .class_ 20), (0, .methodref 12 27), (0, .nameAndType 28 29), (0, u "every"), (0, u "(I)J"), (0, .fieldref 12 31), (0, .nameAndType 32 20), (0, u "trail"), (0, .fieldref 12 34), (0, .nameAndType 35 20), (0, u "gathered"), (0, .fieldref 12 37), (0, .nameAndType 38 39), (0, u "marked"), (0, u "[Z"), (0, .long 18446744073709551615), (3, .fieldref 12 45), (0, .nameAndType 46 47), (0, u "trailSize"), (0, u "I"), (4, u "(I)V"), (18, u "gatheredCount"), (2, u "FOR_GOOD"), (8, u "(II)Z"), (4, .class_ 89), (0, u "com/example/caprice/caprice/solver/ValuesLeft"), (0, u "MASKED"), (2, u "([I)V"), (10, u "mark"), (0, u "()I"), (0, u "restore"), (0, u "remove"), (0, u "(II[I)V"), (6, u "removalsRestOn")] 23

def k3c0 : Code := { maxStack := 4, maxLocals := 5, code := prog_59_method_1_code, exceptionTable := #[], attributes := #[] }
def k3m0 : Method := { name := "<init>", desc := "([I)V", sig := { parameters := [(.array .int)], returnType := none }, accessFlags := 0, code := some k3c0 }
def k3c1 : Code := { maxStack := 4, maxLocals := 1, code := prog_59_method_2_code, exceptionTable := #[], attributes := #[] }
def k3m1 : Method := { name := "every", desc := "(I)J", sig := { parameters := [.int], returnType := some .long }, accessFlags := 8, code := some k3c1 }
def k3c2 : Code := { maxStack := 1, maxLocals := 1, code := prog_59_method_8_code, exceptionTable := #[], attributes := #[] }
def k3m2 : Method := { name := "mark", desc := "()I", sig := { parameters := [], returnType := some .int }, accessFlags := 0, code := some k3c2 }
def k3c3 : Code := { maxStack := 7, maxLocals := 4, code := prog_59_method_9_code, exceptionTable := #[], attributes := #[] }
def k3m3 : Method := { name := "restore", desc := "(I)V", sig := { parameters := [.int], returnType := none }, accessFlags := 0, code := some k3c3 }
def k3c4 : Code := { maxStack := 8, maxLocals := 4, code := prog_59_method_10_code, exceptionTable := #[], attributes := #[] }
def k3m4 : Method := { name := "remove", desc := "(II[I)V", sig := { parameters := [.int, .int, (.array .int)], returnType := none }, accessFlags := 0, code := some k3c4 }
def k3c5 : Code := { maxStack := 2, maxLocals := 11, code := prog_59_method_16_code, exceptionTable := #[], attributes := #[] }
def k3m5 : Method := { name := "removalsRestOn", desc := "(II)Z", sig := { parameters := [.int, .int], returnType := some .boolean }, accessFlags := 0, code := some k3c5 }
/-- com/example/caprice/caprice/solver/Domains -/
def k3 : Class := { plain "com/example/caprice/caprice/solver/Domains" (some 0) with
  accessFlags := 48
  interfaces := #[2]
  cf := some (fileOf pool3 12 #[] #[{ accessFlags := 0, nameIndex := 7, descriptorIndex := 93, attributes := #[] }, { accessFlags := 8, nameIndex := 28, descriptorIndex := 29, attributes := #[] }, { accessFlags := 0, nameIndex := 104, descriptorIndex := 105, attributes := #[] }, { accessFlags := 0, nameIndex := 106, descriptorIndex := 52, attributes := #[] }, { accessFlags := 0, nameIndex := 107, descriptorIndex := 108, attributes := #[] }, { accessFlags := 0, nameIndex := 115, descriptorIndex := 83, attributes := #[] }] 48 4 #[88] #[{ accessFlags := 24, nameIndex := 74, descriptorIndex := 20, attributes := #[] }, { accessFlags := 24, nameIndex := 90, descriptorIndex := 47, attributes := #[] }, { accessFlags := 18, nameIndex := 15, descriptorIndex := 16, attributes := #[] }, { accessFlags := 18, nameIndex := 19, descriptorIndex := 20, attributes := #[] }, { accessFlags := 18, nameIndex := 23, descriptorIndex := 24, attributes := #[] }, { accessFlags := 18, nameIndex := 32, descriptorIndex := 20, attributes := #[] }, { accessFlags := 2, nameIndex := 46, descriptorIndex := 47, attributes := #[] }, { accessFlags := 18, nameIndex := 35, descriptorIndex := 20, attributes := #[] }, { accessFlags := 2, nameIndex := 71, descriptorIndex := 47, attributes := #[] }, { accessFlags := 18, nameIndex := 38, descriptorIndex := 39, attributes := #[] }])
  fields := #[{ name := "FOR_GOOD", type := (.array .int), accessFlags := 24, slot := 0, constantValue := 0 }, { name := "MASKED", type := .int, accessFlags := 24, slot := 1, constantValue := 0 }, { name := "reasons", type := (.array (.array (.array .int))), accessFlags := 18, slot := 0, constantValue := 0 }, { name := "left", type := (.array .int), accessFlags := 18, slot := 1, constantValue := 0 }, { name := "leftMasks", type := (.array .long), accessFlags := 18, slot := 2, constantValue := 0 }, { name := "trail", type := (.array .int), accessFlags := 18, slot := 3, constantValue := 0 }, { name := "trailSize", type := .int, accessFlags := 2, slot := 4, constantValue := 0 }, { name := "gathered", type := (.array .int), accessFlags := 18, slot := 5, constantValue := 0 }, { name := "gatheredCount", type := .int, accessFlags := 2, slot := 6, constantValue := 0 }, { name := "marked", type := (.array .boolean), accessFlags := 18, slot := 7, constantValue := 0 }]
  methods := #[k3m0, k3m1, k3m2, k3m3, k3m4, k3m5]
  instanceTypes := #[(.array (.array (.array .int))), (.array .int), (.array .long), (.array .int), .int, (.array .int), .int, (.array .boolean)]
  staticTypes := #[(.array .int), .int]
  resolved := Array.replicate 139 none
  statics := none }

def pool4 : Array CpInfo := pool [(1, u "java/lang/Cloneable"), (0, .class_ 1), (0, u "java/lang/Object"), (0, .class_ 3)] 3

/-- java/lang/Cloneable -/
def k4 : Class := { plain "java/lang/Cloneable" (some 0) with
  accessFlags := 1537
  interfaces := #[]
  cf := some (fileOf pool4 2 #[] #[] 1537 4 #[] #[])
  fields := #[]
  methods := #[]
  instanceTypes := #[]
  staticTypes := #[]
  resolved := Array.replicate 8 none
  statics := none }

def pool5 : Array CpInfo := pool [(1, u "java/io/Serializable"), (0, .class_ 1), (0, u "java/lang/Object"), (0, .class_ 3)] 3

/-- java/io/Serializable -/
def k5 : Class := { plain "java/io/Serializable" (some 0) with
  accessFlags := 1537
  interfaces := #[]
  cf := some (fileOf pool5 2 #[] #[] 1537 4 #[] #[])
  fields := #[]
  methods := #[]
  instanceTypes := #[]
  staticTypes := #[]
  resolved := Array.replicate 8 none
  statics := none }

/-- the primitive boolean -/
def k6 : Class := { plain "boolean" none with kind := .primitive 'Z', accessFlags := 0x411 }
/-- [Z -/
def k7 : Class := { plain "[Z" (some 0) with kind := .array 6 .boolean, interfaces := #[4, 5], accessFlags := 1041 }

/-- the primitive byte -/
def k8 : Class := { plain "byte" none with kind := .primitive 'B', accessFlags := 0x411 }
/-- [B -/
def k9 : Class := { plain "[B" (some 0) with kind := .array 8 .byte, interfaces := #[4, 5], accessFlags := 1041 }

/-- the primitive int -/
def k10 : Class := { plain "int" none with kind := .primitive 'I', accessFlags := 0x411 }
/-- [I -/
def k11 : Class := { plain "[I" (some 0) with kind := .array 10 .int, interfaces := #[4, 5], accessFlags := 1041 }

/-- the primitive long -/
def k12 : Class := { plain "long" none with kind := .primitive 'J', accessFlags := 0x411 }
/-- [J -/
def k13 : Class := { plain "[J" (some 0) with kind := .array 12 .long, interfaces := #[4, 5], accessFlags := 1041 }

/-- [[I -/
def k14 : Class := { plain "[[I" (some 0) with kind := .array 11 (.array .int), interfaces := #[4, 5], accessFlags := 1041 }
/-- [[[I -/
def k15 : Class := { plain "[[[I" (some 0) with kind := .array 14 (.array (.array .int)), interfaces := #[4, 5], accessFlags := 1041 }
def heap : Heap := #[]
def classes : Array Class := #[k0, k1, k2, k3, k4, k5, k6, k7, k8, k9, k10, k11, k12, k13, k14, k15]
def interned : List (Array UInt16 × Addr) := []
def slotsUsed : Nat := 0
def theMethod : MethodId := ⟨1, 1⟩
def args0 : Array Value := #[.int 5, .int 3, .int 258, .int 515]
def aboutOver (below : List Frame) : State where
  vm := { classes := classes, interned := interned.toArray }
  heap := heap
  slotsUsed := slotsUsed
  threads := #[{ frames := .invoking theMethod args0 :: below }]
def below0 : List Frame := [.native { method := ⟨0, 0⟩, args := #[] }]
def about1 : State := aboutOver below0
def p0 : Program := .bare "" "" ""
def e0 : Env := launch0.env 0 0 0
theorem w_frames : about1.frames = Frame.invoking theMethod args0 :: below0 := rfl
set_option maxRecDepth 65536 in
theorem w_args : argsFit about1.vm theMethod args0 = true := by decide +kernel
set_option maxRecDepth 65536 in
theorem w_heap : heapFits about1 = true := by decide +kernel
set_option maxRecDepth 65536 in
theorem w_runnable : about1.curStatus? = some .runnable := by decide +kernel
set_option maxRecDepth 65536 in
theorem w_alone : about1.alone = true := by decide +kernel
set_option maxRecDepth 65536 in
theorem w_named : about1.methodNamed? x = some theMethod := by decide +kernel
set_option maxRecDepth 65536 in
theorem w_hears : about1.hears theMethod below0 = true := by decide +kernel
set_option maxRecDepth 65536 in
theorem w_ripe : about1.ripe theMethod args0 below0 = true := by decide +kernel
theorem w_running : about1.status = .running := rfl
set_option maxRecDepth 65536 in
theorem w_room : about1.hasRoom e0.platform room_1 = true :=
  launch0.hasRoom_least _ room_1 (by decide +kernel) (by decide +kernel) (by decide +kernel) (by decide +kernel) (by decide +kernel) (by decide +kernel)
theorem allAtoms_all (ts : List Jvm.Cond) (a : Array Jvm.Value) (st : Jvm.State) : (allAtoms ts).before a st = ts.all (fun c => c.before a st) := by
  induction ts with
  | nil => rfl
  | cons c t ih =>
    show (Jvm.Cond.and c (allAtoms t)).before a st = _
    rw [Jvm.Cond.before_and, ih, List.all_cons]
def words1 : List Jvm.Cond := Jvm.Cond.code x code maxLocals ret :: tables_1
/-- a 'code' word, met by the world's own term for the bytes: nothing is compared byte by byte -/
theorem code_word {y : MethodName} {bytes : ByteArray} {mx : Nat} {rt : Option FieldType} {a : Array Value} {s : State} {m : MethodId} {meth : Method} {c : Code} (h1 : s.methodNamed? y = some m) (h2 : s.vm.method? m = some meth) (h3 : meth.code = some c) (h4 : c.code = bytes)
    (h5 : (c.maxLocals == mx && c.exceptionTable.isEmpty && decide (c.maxStack ≤ mostOperands) && decide (meth.sig.returnType = rt) && !meth.locks && decide (parseMethodDescriptor y.desc = some meth.sig)) = true) : (Jvm.Cond.code y bytes mx rt).before a s = true := by
  simp only [Bool.and_eq_true, beq_iff_eq, Bool.not_eq_true', decide_eq_true_eq] at h5
  obtain ⟨⟨⟨⟨⟨g1, g2⟩, g3⟩, g4⟩, g5⟩, g6⟩ := h5
  simp [Cond.before, Cond.holds, Cond.value, h1, h2, h3, h4, g1, g2, g3, g4, g5, g6]
def isCode : Jvm.Cond → Bool
  | .code _ _ _ _ => true
  | _ => false
theorem all_split {L : List Jvm.Cond} {P : Jvm.Cond → Bool} (h1 : L.all (fun c => isCode c || P c) = true) (h2 : ∀ c ∈ L.filter isCode, P c = true) : L.all P = true := by
  refine List.all_eq_true.mpr fun c hc => ?_
  have h := List.all_eq_true.mp h1 c hc
  rcases Bool.eq_false_or_eq_true (isCode c) with hi | hi
  · exact h2 c (List.mem_filter.mpr ⟨hc, hi⟩)
  · simpa [hi] using h
set_option maxRecDepth 65536 in
theorem w_c0 : (Jvm.Cond.code x code maxLocals ret).before args0 about1 = true := code_word (m := ⟨1, 1⟩) (meth := k1m1) (c := k1c1) (by decide +kernel) rfl rfl rfl (by decide +kernel)
set_option maxRecDepth 65536 in
theorem w_c1 : (Jvm.Cond.code ({ cls := "com/example/caprice/caprice/solver/DomainsRemovalsRestOnPinLaw", name := "reasonsOf", desc := "(I)[I" } : Jvm.MethodName) method_3_code (4 : Nat) (Option.some (Jvm.ClassFile.FieldType.array Jvm.ClassFile.FieldType.int))).before args0 about1 = true := code_word (m := ⟨1, 2⟩) (meth := k1m2) (c := k1c2) (by decide +kernel) rfl rfl rfl (by decide +kernel)
set_option maxRecDepth 65536 in
theorem w_c2 : (Jvm.Cond.code ({ cls := "com/example/caprice/caprice/solver/Domains", name := "<init>", desc := "([I)V" } : Jvm.MethodName) prog_59_method_1_code (5 : Nat) (Option.none : Option Jvm.ClassFile.FieldType)).before args0 about1 = true := code_word (m := ⟨3, 0⟩) (meth := k3m0) (c := k3c0) (by decide +kernel) rfl rfl rfl (by decide +kernel)
set_option maxRecDepth 65536 in
theorem w_c3 : (Jvm.Cond.code ({ cls := "java/lang/Object", name := "<init>", desc := "()V" } : Jvm.MethodName) object_method_1_code (1 : Nat) (Option.none : Option Jvm.ClassFile.FieldType)).before args0 about1 = true := code_word (m := ⟨0, 0⟩) (meth := k0m0) (c := k0c0) (by decide +kernel) rfl rfl rfl (by decide +kernel)
set_option maxRecDepth 65536 in
theorem w_c4 : (Jvm.Cond.code ({ cls := "com/example/caprice/caprice/solver/Domains", name := "every", desc := "(I)J" } : Jvm.MethodName) prog_59_method_2_code (1 : Nat) (Option.some Jvm.ClassFile.FieldType.long)).before args0 about1 = true := code_word (m := ⟨3, 1⟩) (meth := k3m1) (c := k3c1) (by decide +kernel) rfl rfl rfl (by decide +kernel)
set_option maxRecDepth 65536 in
theorem w_c5 : (Jvm.Cond.code ({ cls := "com/example/caprice/caprice/solver/Domains", name := "remove", desc := "(II[I)V" } : Jvm.MethodName) prog_59_method_10_code (4 : Nat) (Option.none : Option Jvm.ClassFile.FieldType)).before args0 about1 = true := code_word (m := ⟨3, 4⟩) (meth := k3m4) (c := k3c4) (by decide +kernel) rfl rfl rfl (by decide +kernel)
set_option maxRecDepth 65536 in
theorem w_c6 : (Jvm.Cond.code ({ cls := "com/example/caprice/caprice/solver/Domains", name := "mark", desc := "()I" } : Jvm.MethodName) prog_59_method_8_code (1 : Nat) (Option.some Jvm.ClassFile.FieldType.int)).before args0 about1 = true := code_word (m := ⟨3, 2⟩) (meth := k3m2) (c := k3c2) (by decide +kernel) rfl rfl rfl (by decide +kernel)
set_option maxRecDepth 65536 in
theorem w_c7 : (Jvm.Cond.code ({ cls := "com/example/caprice/caprice/solver/DomainsRemovalsRestOnPinLaw", name := "holds", desc := "([II)Z" } : Jvm.MethodName) method_4_code (2 : Nat) (Option.some Jvm.ClassFile.FieldType.boolean)).before args0 about1 = true := code_word (m := ⟨1, 3⟩) (meth := k1m3) (c := k1c3) (by decide +kernel) rfl rfl rfl (by decide +kernel)
set_option maxRecDepth 65536 in
theorem w_c8 : (Jvm.Cond.code ({ cls := "com/example/caprice/caprice/solver/Domains", name := "removalsRestOn", desc := "(II)Z" } : Jvm.MethodName) prog_59_method_16_code (11 : Nat) (Option.some Jvm.ClassFile.FieldType.boolean)).before args0 about1 = true := code_word (m := ⟨3, 5⟩) (meth := k3m5) (c := k3c5) (by decide +kernel) rfl rfl rfl (by decide +kernel)
set_option maxRecDepth 65536 in
theorem w_c9 : (Jvm.Cond.code ({ cls := "com/example/caprice/caprice/solver/Domains", name := "restore", desc := "(I)V" } : Jvm.MethodName) prog_59_method_9_code (4 : Nat) (Option.none : Option Jvm.ClassFile.FieldType)).before args0 about1 = true := code_word (m := ⟨3, 3⟩) (meth := k3m3) (c := k3c3) (by decide +kernel) rfl rfl rfl (by decide +kernel)
def codes1 : List Jvm.Cond := [Jvm.Cond.code x code maxLocals ret, Jvm.Cond.code ({ cls := "com/example/caprice/caprice/solver/DomainsRemovalsRestOnPinLaw", name := "reasonsOf", desc := "(I)[I" } : Jvm.MethodName) method_3_code (4 : Nat) (Option.some (Jvm.ClassFile.FieldType.array Jvm.ClassFile.FieldType.int)), Jvm.Cond.code ({ cls := "com/example/caprice/caprice/solver/Domains", name := "<init>", desc := "([I)V" } : Jvm.MethodName) prog_59_method_1_code (5 : Nat) (Option.none : Option Jvm.ClassFile.FieldType), Jvm.Cond.code ({ cls := "java/lang/Object", name := "<init>", desc := "()V" } : Jvm.MethodName) object_method_1_code (1 : Nat) (Option.none : Option Jvm.ClassFile.FieldType), Jvm.Cond.code ({ cls := "com/example/caprice/caprice/solver/Domains", name := "every", desc := "(I)J" } : Jvm.MethodName) prog_59_method_2_code (1 : Nat) (Option.some Jvm.ClassFile.FieldType.long), Jvm.Cond.code ({ cls := "com/example/caprice/caprice/solver/Domains", name := "remove", desc := "(II[I)V" } : Jvm.MethodName) prog_59_method_10_code (4 : Nat) (Option.none : Option Jvm.ClassFile.FieldType), Jvm.Cond.code ({ cls := "com/example/caprice/caprice/solver/Domains", name := "mark", desc := "()I" } : Jvm.MethodName) prog_59_method_8_code (1 : Nat) (Option.some Jvm.ClassFile.FieldType.int), Jvm.Cond.code ({ cls := "com/example/caprice/caprice/solver/DomainsRemovalsRestOnPinLaw", name := "holds", desc := "([II)Z" } : Jvm.MethodName) method_4_code (2 : Nat) (Option.some Jvm.ClassFile.FieldType.boolean), Jvm.Cond.code ({ cls := "com/example/caprice/caprice/solver/Domains", name := "removalsRestOn", desc := "(II)Z" } : Jvm.MethodName) prog_59_method_16_code (11 : Nat) (Option.some Jvm.ClassFile.FieldType.boolean), Jvm.Cond.code ({ cls := "com/example/caprice/caprice/solver/Domains", name := "restore", desc := "(I)V" } : Jvm.MethodName) prog_59_method_9_code (4 : Nat) (Option.none : Option Jvm.ClassFile.FieldType)]
set_option maxRecDepth 65536 in
theorem codes_eq : words1.filter isCode = codes1 := rfl
theorem w_codes : ∀ c ∈ words1.filter isCode, c.before args0 about1 = true := by
  rw [codes_eq]
  intro c hc
  simp only [codes1, List.mem_cons, List.not_mem_nil, or_false] at hc
  rcases hc with rfl | rfl | rfl | rfl | rfl | rfl | rfl | rfl | rfl | rfl
  · exact w_c0
  · exact w_c1
  · exact w_c2
  · exact w_c3
  · exact w_c4
  · exact w_c5
  · exact w_c6
  · exact w_c7
  · exact w_c8
  · exact w_c9
set_option maxRecDepth 65536 in
theorem w_t1 : (words1.take 24).all (fun c => isCode c || c.before args0 about1) = true := by decide +kernel
set_option maxRecDepth 65536 in
theorem w_t2 : ((words1.drop 24).take 24).all (fun c => isCode c || c.before args0 about1) = true := by decide +kernel
set_option maxRecDepth 65536 in
theorem w_t3 : ((words1.drop 24).drop 24).all (fun c => isCode c || c.before args0 about1) = true := by decide +kernel
theorem w_tables : (allAtoms (Jvm.Cond.code x code maxLocals ret :: tables_1)).before args0 about1 = true := by
  rw [allAtoms_all]
  show words1.all (fun c => c.before args0 about1) = true
  refine all_split ?_ w_codes
  rw [← List.take_append_drop 24 words1, List.all_append, w_t1, ← List.take_append_drop 24 (words1.drop 24), List.all_append, w_t2, w_t3]
  rfl
set_option maxRecDepth 65536 in
theorem w_case : (Jvm.Cond.and given_1 narrow_1).before args0 about1 = true := by decide +kernel
theorem w_applies : (headSpec (Jvm.Cond.code x code maxLocals ret :: tables_1) room_1).applies x e0.platform about1 = true :=
  (Spec.applies_iff w_frames).mpr ⟨w_running, w_runnable, w_alone, w_named, w_hears, w_ripe, w_room, w_tables⟩
theorem atStart : AtStart classFile x code maxLocals ret World_1 tables_1 room_1 Calls_1 rest_1 Pre_1 launch0 p0 e0 about1 theMethod args0 below0 :=
  ⟨lists_1, trivial, launch0.admits_env _ _ _, launch0.least_env, fairChoices_fair.cas, fairChoices_fair.clock, w_frames, w_args, w_heap, w_applies, trivial, trivial, w_case⟩
end start1
theorem witness_1 : WitnessClaimed_1 := ⟨start1.p0, start1.e0, start1.about1, start1.theMethod, start1.args0, start1.below0, start1.atStart⟩
end Jvm.Pilot.@@N@@
