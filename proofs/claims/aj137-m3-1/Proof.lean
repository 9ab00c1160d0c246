import JvmDerived
import JvmDerived.Pilot.@@N@@Statement
import JvmDerived.Pilot.@@N@@Code
set_option linter.unusedVariables false
set_option linter.unusedSimpArgs false
@@BLOCK:NumsL.lean.txt@@
namespace Jvm.RoadKit
open Sem ClassFile Op Lib Jvm.Stand Jvm.Free Jvm.LawKit
section New
variable {p : Program} {l : Launch} {e : Env} {R : Room} {s : State} {m : MethodId} {args : Array Value} {below : List Frame} {meth : Method} {c : Code} {T : State} {locs : List Loc} {cells slots : Nat}
theorem retI (X : Stand p l e R s m args below meth c T locs cells slots) (hx : p.tables.exec = Jvm.exec) {pc : Nat} {Ls : Array Slot} {z : Int32} {rest : List Value} (hret : meth.sig.returnType = some .int) (hd : decode c.code pc = .ok (.ireturn, 1)) {fs : List Frame}
    (hl : ∀ (f : JFrame) (acts : List Action), f.method = m → f.locked = none → f.entered = [] → (doReturn e (T.setTop f) acts (some (.int z))).1 = T.setFrames fs) : Steps p.tables e below (T.setTop (mkF m pc Ls (.int z :: rest))) (T.setFrames fs) := by
  have hm' : T.vm.method? m = some meth := X.method'
  have hn : narrow .int (.int z) = .int z := rfl
  show Steps p.tables e below (T.setTop { method := m, pc := pc, locals := Ls, stack := _ :: rest, locked := none }) _
  jvm_step X.here [X.here.top, hx, hd, hm', hret, hn]
  first | (intro acts; rw [hl _ acts rfl rfl rfl]) | rw [hl _ _ rfl rfl rfl]
  exact Steps.refl _
end New
end Jvm.RoadKit
namespace Jvm.Pilot.@@N@@
open Jvm Jvm.ClassFile Sem Op Lib Jvm.Free Jvm.Stand Jvm.LawKit Jvm.RoadKit Bundle Jvm.Pilot.@@N@@.Jvm.D
theorem own_ext {h h' h'' : Heap} (A : Ext h h') (B : Ext h' h'') : Ext h h'' := ⟨Nat.le_trans A.1 B.1, fun a c q => B.2 a c (A.2 a c q)⟩
theorem own_fld {args : Array Value} {s : State} {t : Term} {C n d : String} {w : Addr} {k : Int32} (h : (Jvm.Cond.eq (.field t C n d) (.int k)).value args s none s [] = some true) (ev : t.eval args s none [] s = some (.ref w)) : Fld s s.heap w C n d (.int k) := by
  apply Fld.start
  have e := fld_at (C := C) (n := n) (dd := d) ev
  obtain ⟨x, y, e1, e2, k1, k2⟩ := cmp_v (Or.inl h)
  cases (show y = .int k from (Option.some.inj (e2.symm.trans rfl)))
  obtain ⟨z, rfl⟩ := k2
  have q := gotT (Cond.eq_ints e1 e2) h
  rw [← e, e1, q]
theorem own_fldR {args : Array Value} {s : State} {t u : Term} {C n d : String} {w b : Addr} (h : (Jvm.Cond.eq (.field t C n d) u).value args s none s [] = some true) (ev : t.eval args s none [] s = some (.ref w)) (eu : u.eval args s none [] s = some (.ref b)) : Fld s s.heap w C n d (.ref b) := by
  apply Fld.start
  have e := fld_at (C := C) (n := n) (dd := d) ev
  obtain ⟨x, y, e1, e2, k1, k2⟩ := cmp_v (Or.inl h)
  cases e2.symm.trans eu
  have q := gotT (eq_R e1 eu k2.2 rfl) h
  rw [← e, e1, q]
theorem own_ne {Z : State} {h : Heap} {a b : Addr} {C n d : String} {i j : Int32} (F : Fld Z h a C n d (.int i)) (G : Fld Z h b C n d (.int j)) (hn : ¬ (i = j)) : ¬ (a = b) := fun e => by
  subst e
  obtain ⟨c1, f1, k1, i1, g1, p1, p2, -, -, -, -, p7⟩ := F
  obtain ⟨c2, f2, k2, i2, g2, q1, q2, -, -, -, -, q7⟩ := G
  cases p1.symm.trans q1
  cases p2.symm.trans q2
  exact hn (Value.int.inj (Option.some.inj (p7.symm.trans q7)))
theorem own_n0 {Z : State} {n0 : Nat} {h : Heap} (O : Old Z n0 h) : n0 ≤ h.size := O.1 ▸ O.2.1
theorem own_inj {x y : Int32} (h : x.toInt = y.toInt) : x = y := Int32.toInt_inj.mp h
def Ars (Z : State) (h : Heap) (a : Addr) (k : ClassId) (ty : FieldType) (n : Nat) (f : Nat → Value) : Prop := ∃ c : Cell, Arr Z h a c ty ∧ c.cls = k ∧ c.slots.size = n ∧ n < 2 ^ 31 ∧ ∀ i, i < n → c.slots[i]? = some (f i)
def own_upd {α : Type} (f : Nat → α) (j : Nat) (v : α) : Nat → α := fun i => if i = j then v else f i
theorem own_upd_hit {α : Type} (f : Nat → α) (j : Nat) (v : α) : own_upd f j v j = v := if_pos rfl
theorem own_upd_miss {α : Type} (f : Nat → α) {i j : Nat} (v : α) (h : i ≠ j) : own_upd f j v i = f i := if_neg h
theorem own_at {c : Cell} {n : Nat} {f : Nat → Value} {j : Int32} {v : Value} (H : ∀ i, i < n → c.slots[i]? = some (f i)) (q : ¬ (j < 0 ∨ n ≤ j.toNatClampNeg)) (u : f j.toNatClampNeg = v) : c.slots[j.toNatClampNeg]? = some v := u ▸ H _ (Nat.lt_of_not_le fun y => q (Or.inr y))
section ArsFacts
variable {Z : State} {h h' : Heap} {a b : Addr} {k : ClassId} {ty : FieldType} {n : Nat} {f : Nat → Value}
theorem Ars.lt (F : Ars Z h a k ty n f) : a < h.size := by obtain ⟨c, A, -⟩ := F; exact A.lt
theorem Ars.ext (F : Ars Z h a k ty n f) (E : Ext h h') : Ars Z h' a k ty n f := by obtain ⟨c, A, r⟩ := F; exact ⟨c, A.ext E, r⟩
theorem Ars.other (F : Ars Z h a k ty n f) {sl : Nat} {v : Value} (W : Wr h h' b sl v) (q : a ≠ b) : Ars Z h' a k ty n f := by obtain ⟨c, A, r⟩ := F; exact ⟨c, A.other W q, r⟩
theorem Ars.keep (F : Ars Z h a k ty n f) {ws : List Addr} (K : Keep h h' ws) (q : a ∉ ws) : Ars Z h' a k ty n f := by obtain ⟨c, A, r⟩ := F; exact ⟨c, ⟨K.2.1 a c A.1 q, A.2⟩, r⟩
theorem Ars.set {c : Cell} (A : Arr Z h a c ty) (q1 : c.cls = k) (S : c.slots.size = n) (hn : n < 2 ^ 31) (H : ∀ i, i < n → c.slots[i]? = some (f i)) {j : Nat} {v : Value} (W : Wr h h' a j v) : Ars Z h' a k ty n (own_upd f j v) := by
  refine ⟨_, A.same W, q1, by rw [sz_set]; exact S, hn, fun i hi => ?_⟩
  by_cases e : j = i
  · subst e
    rw [own_upd_hit, Cell.slots_setSlot_self v (by rw [S]; exact hi)]
  · rw [own_upd_miss f v (Ne.symm e), Cell.slots_setSlot_ne v e]; exact H i hi
theorem Ars.congr {g : Nat → Value} (F : Ars Z h a k ty n f) (q : ∀ i, i < n → f i = g i) : Ars Z h a k ty n g := by obtain ⟨c, A, r1, r2, r3, r4⟩ := F; exact ⟨c, A, r1, r2, r3, fun i hi => by rw [← q i hi]; exact r4 i hi⟩
theorem Ars.of_arv {z : Int32} {vs : List Value} {dv : Value} (F : Arv Z h a k ty z vs dv) : Ars Z h a k ty z.toNatClampNeg (fun i => vs.getD i dv) := by
  obtain ⟨c, A, r1, r2, r3, r4, r5⟩ := F
  exact ⟨c, A, r1, r2, (back32 r3).2, fun i hi => r4 i (by rw [r2]; exact hi)⟩
/-- all that lies below lo is as it was -/
def Pres (lo : Nat) (h h' : Heap) : Prop := h.size ≤ h'.size ∧ ∀ (x : Addr) (c : Cell), x < lo → h[x]? = some c → h'[x]? = some c
theorem Pres.refl (lo : Nat) (h : Heap) : Pres lo h h := ⟨Nat.le_refl _, fun _ _ _ q => q⟩
theorem Pres.trans {lo : Nat} {h1 h2 h3 : Heap} (A : Pres lo h1 h2) (B : Pres lo h2 h3) : Pres lo h1 h3 := ⟨Nat.le_trans A.1 B.1, fun x c q r => B.2 x c q (A.2 x c q r)⟩
theorem Pres.of_keep {lo : Nat} {ws : List Addr} (K : Keep h h' ws) (q : ∀ x ∈ ws, lo ≤ x) : Pres lo h h' := ⟨K.1, fun x c r s => K.2.1 x c s fun m => absurd r (Nat.not_lt.mpr (q x m))⟩
theorem Pres.of_ext {lo : Nat} (E : Ext h h') : Pres lo h h' := ⟨E.1, fun x c _ q => E.2 x c q⟩
theorem Pres.old {lo n0 : Nat} (P : Pres lo h h') (q : n0 ≤ lo) (O : Old Z n0 h) : Old Z n0 h' := ⟨O.1, Nat.le_trans O.2.1 P.1, fun x c r => P.2 x c (Nat.lt_of_lt_of_le (O.1 ▸ (Array.getElem?_eq_some_iff.mp r).1) q) (O.2.2 x c r)⟩
theorem Ars.pres {lo : Nat} (F : Ars Z h a k ty n f) (P : Pres lo h h') (q : a < lo) : Ars Z h' a k ty n f := by obtain ⟨c, A, r⟩ := F; exact ⟨c, ⟨P.2 a c q A.1, A.2⟩, r⟩
theorem own_exa_pres {lo : Nat} {C : String} (F : Exa Z h a C) (P : Pres lo h h') (q : a < lo) : Exa Z h' a C := by obtain ⟨c, k, h1, r⟩ := F; exact ⟨c, k, P.2 a c q h1, r⟩
end ArsFacts
def QV (r : Option Value) (h0 : Heap) (n0 : Nat) (v : Option Value) (h : Heap) (L : List Loc) : Prop := v = r ∧ Fr n0 L ∧ h = h0
theorem d2_0 : decode prog_59_method_1_code 0 = .ok (.aload_n 0, 1) := by decide +kernel
theorem d2_1 : decode prog_59_method_1_code 1 = .ok (.invokespecial 3, 3) := by decide +kernel
theorem d2_4 : decode prog_59_method_1_code 4 = .ok (.aload_n 1, 1) := by decide +kernel
theorem d2_5 : decode prog_59_method_1_code 5 = .ok (.arraylength, 1) := by decide +kernel
theorem d2_6 : decode prog_59_method_1_code 6 = .ok (.istore_n 2, 1) := by decide +kernel
theorem d2_7 : decode prog_59_method_1_code 7 = .ok (.aload_n 0, 1) := by decide +kernel
theorem d2_8 : decode prog_59_method_1_code 8 = .ok (.iload_n 2, 1) := by decide +kernel
theorem d2_9 : decode prog_59_method_1_code 9 = .ok (.anewarray 9, 3) := by decide +kernel
theorem d2_12 : decode prog_59_method_1_code 12 = .ok (.putfield 11, 3) := by decide +kernel
theorem d2_15 : decode prog_59_method_1_code 15 = .ok (.aload_n 0, 1) := by decide +kernel
theorem d2_16 : decode prog_59_method_1_code 16 = .ok (.iload_n 2, 1) := by decide +kernel
theorem d2_17 : decode prog_59_method_1_code 17 = .ok (.newarray .int, 2) := by decide +kernel
theorem d2_19 : decode prog_59_method_1_code 19 = .ok (.putfield 17, 3) := by decide +kernel
theorem d2_22 : decode prog_59_method_1_code 22 = .ok (.aload_n 0, 1) := by decide +kernel
theorem d2_23 : decode prog_59_method_1_code 23 = .ok (.iload_n 2, 1) := by decide +kernel
theorem d2_24 : decode prog_59_method_1_code 24 = .ok (.newarray .long, 2) := by decide +kernel
theorem d2_26 : decode prog_59_method_1_code 26 = .ok (.putfield 21, 3) := by decide +kernel
theorem d2_29 : decode prog_59_method_1_code 29 = .ok (.iconst 0, 1) := by decide +kernel
theorem d2_30 : decode prog_59_method_1_code 30 = .ok (.istore_n 3, 1) := by decide +kernel
theorem d2_31 : decode prog_59_method_1_code 31 = .ok (.iconst 0, 1) := by decide +kernel
theorem d2_32 : decode prog_59_method_1_code 32 = .ok (.istore 4, 2) := by decide +kernel
theorem d2_34 : decode prog_59_method_1_code 34 = .ok (.iload 4, 2) := by decide +kernel
theorem d2_36 : decode prog_59_method_1_code 36 = .ok (.iload_n 2, 1) := by decide +kernel
theorem d2_37 : decode prog_59_method_1_code 37 = .ok (.if_icmp .ge 77, 3) := by decide +kernel
theorem d2_40 : decode prog_59_method_1_code 40 = .ok (.aload_n 0, 1) := by decide +kernel
theorem d2_41 : decode prog_59_method_1_code 41 = .ok (.getfield 11, 3) := by decide +kernel
theorem d2_44 : decode prog_59_method_1_code 44 = .ok (.iload 4, 2) := by decide +kernel
theorem d2_46 : decode prog_59_method_1_code 46 = .ok (.aload_n 1, 1) := by decide +kernel
theorem d2_47 : decode prog_59_method_1_code 47 = .ok (.iload 4, 2) := by decide +kernel
theorem d2_49 : decode prog_59_method_1_code 49 = .ok (.iaload, 1) := by decide +kernel
theorem d2_50 : decode prog_59_method_1_code 50 = .ok (.anewarray 25, 3) := by decide +kernel
theorem d2_53 : decode prog_59_method_1_code 53 = .ok (.aastore, 1) := by decide +kernel
theorem d2_54 : decode prog_59_method_1_code 54 = .ok (.aload_n 0, 1) := by decide +kernel
theorem d2_55 : decode prog_59_method_1_code 55 = .ok (.getfield 17, 3) := by decide +kernel
theorem d2_58 : decode prog_59_method_1_code 58 = .ok (.iload 4, 2) := by decide +kernel
theorem d2_60 : decode prog_59_method_1_code 60 = .ok (.aload_n 0, 1) := by decide +kernel
theorem d2_61 : decode prog_59_method_1_code 61 = .ok (.getfield 11, 3) := by decide +kernel
theorem d2_64 : decode prog_59_method_1_code 64 = .ok (.iload 4, 2) := by decide +kernel
theorem d2_66 : decode prog_59_method_1_code 66 = .ok (.aaload, 1) := by decide +kernel
theorem d2_67 : decode prog_59_method_1_code 67 = .ok (.arraylength, 1) := by decide +kernel
theorem d2_68 : decode prog_59_method_1_code 68 = .ok (.iastore, 1) := by decide +kernel
theorem d2_69 : decode prog_59_method_1_code 69 = .ok (.iload_n 3, 1) := by decide +kernel
theorem d2_70 : decode prog_59_method_1_code 70 = .ok (.aload_n 0, 1) := by decide +kernel
theorem d2_71 : decode prog_59_method_1_code 71 = .ok (.getfield 17, 3) := by decide +kernel
theorem d2_74 : decode prog_59_method_1_code 74 = .ok (.iload 4, 2) := by decide +kernel
theorem d2_76 : decode prog_59_method_1_code 76 = .ok (.iaload, 1) := by decide +kernel
theorem d2_77 : decode prog_59_method_1_code 77 = .ok (.iadd, 1) := by decide +kernel
theorem d2_78 : decode prog_59_method_1_code 78 = .ok (.istore_n 3, 1) := by decide +kernel
theorem d2_79 : decode prog_59_method_1_code 79 = .ok (.aload_n 0, 1) := by decide +kernel
theorem d2_80 : decode prog_59_method_1_code 80 = .ok (.getfield 17, 3) := by decide +kernel
theorem d2_83 : decode prog_59_method_1_code 83 = .ok (.iload 4, 2) := by decide +kernel
theorem d2_85 : decode prog_59_method_1_code 85 = .ok (.iaload, 1) := by decide +kernel
theorem d2_86 : decode prog_59_method_1_code 86 = .ok (.bipush 64, 2) := by decide +kernel
theorem d2_88 : decode prog_59_method_1_code 88 = .ok (.if_icmp .gt 20, 3) := by decide +kernel
theorem d2_91 : decode prog_59_method_1_code 91 = .ok (.aload_n 0, 1) := by decide +kernel
theorem d2_92 : decode prog_59_method_1_code 92 = .ok (.getfield 21, 3) := by decide +kernel
theorem d2_95 : decode prog_59_method_1_code 95 = .ok (.iload 4, 2) := by decide +kernel
theorem d2_97 : decode prog_59_method_1_code 97 = .ok (.aload_n 0, 1) := by decide +kernel
theorem d2_98 : decode prog_59_method_1_code 98 = .ok (.getfield 17, 3) := by decide +kernel
theorem d2_101 : decode prog_59_method_1_code 101 = .ok (.iload 4, 2) := by decide +kernel
theorem d2_103 : decode prog_59_method_1_code 103 = .ok (.iaload, 1) := by decide +kernel
theorem d4_0 : decode prog_59_method_2_code 0 = .ok (.iload_n 0, 1) := by decide +kernel
theorem d4_1 : decode prog_59_method_2_code 1 = .ok (.bipush 64, 2) := by decide +kernel
theorem d4_3 : decode prog_59_method_2_code 3 = .ok (.if_icmp .ne 9, 3) := by decide +kernel
theorem d4_6 : decode prog_59_method_2_code 6 = .ok (.ldc2_w 40, 3) := by decide +kernel
theorem d4_9 : decode prog_59_method_2_code 9 = .ok (.goto 8, 3) := by decide +kernel
theorem d4_17 : decode prog_59_method_2_code 17 = .ok (.lreturn, 1) := by decide +kernel
theorem ef68 (m : MethodId) (x0 : Int32) : entryFrame m #[(.int x0)] 1 = mkF m 0 #[.val (.int x0)] [] := by first | (simp [entryFrame, mkF, argsToLocals, Value.category]; done) | rfl
theorem pn69 : plainName "com/example/caprice/caprice/solver/Domains" = true := by first | (simp [plainName, overriddenIn]; done) | decide +kernel
def Q4_0 (Z : State) (h0 : Heap) (n0 : Nat) (v : Option Value) (h : Heap) (L : List Loc) : Prop := v = some (.long (-1 : Int64)) ∧ Fr n0 L ∧ h = h0
set_option maxRecDepth 65536 in
set_option maxHeartbeats 40000000 in
theorem rm4_0 (l : Launch) (Z : State) (a0 : Array Value) (hw : ∀ d ∈ tables_1, d.before a0 Z = true) (ws : List Jvm.Cond) (h0 : Heap) (n0 : Nat) (Z0 : n0 ≤ h0.size) (O0 : Old Z n0 h0) :
    MetFree l (⟨"com/example/caprice/caprice/solver/Domains", "every", "(I)J"⟩ : MethodName) (head1 (Jvm.Cond.code (⟨"com/example/caprice/caprice/solver/Domains", "every", "(I)J"⟩ : MethodName) prog_59_method_2_code 1 (some .long) :: ws) ({ frames := 0, cells := 0, slots := 0, locals := 0 } : Room)) (fun a U => a = #[(.int (64 : Int32))] ∧ Z.Warmed39 U.vm ∧ U.heap = h0) (fun _ _ _ _ _ => True) (fun _ U o U' => ∃ v L, o = .returned v ∧ Q4_0 Z  h0 n0 v U'.heap L ∧ FrameEnd U o U' L ({ frames := 0, cells := 0, slots := 0, locals := 0 } : Room).cells ({ frames := 0, cells := 0, slots := 0, locals := 0 } : Room).slots) := by
  refine MetFree.of_bodySF (plainFor_of_name pn69) hisR ?_
  intro p e s m args below meth c s₁ Bd hml0 hP hK
  obtain ⟨rfl, hZ, hh⟩ := hP
  have hx := Bd.exec
  have hby := Bd.bytes
  have hml : c.maxLocals = 1 := hml0
  have hown : s.vm.findClass "com/example/caprice/caprice/solver/Domains" = some m.cls := findClass_of_methodNamed Bd.named
  have hnm := (name_of_methodNamed Bd.named Bd.method).1
  have X0 : Stand p l e ({ frames := 0, cells := 0, slots := 0, locals := 0 } : Room) s m #[(.int (64 : Int32))] below meth c s₁ [] 0 0 := Stand.of_body Bd
  have e0 : s₁.heap = h0 := by rw [← hh, Bd.state]; rfl
  have N0 := Fr.nil n0
  have pre0 : ∀ t, Steps p.tables e below (s₁.setTop (mkF m 0 #[.val (.int (64 : Int32))] [])) t → Steps p.tables e below (s₁.setTop (entryFrame m #[(.int (64 : Int32))] 1)) t := fun t k => castTop (ef68 m (64 : Int32)) k
  obtain ⟨fs, hr, hrun, hended, hW, hsame⟩ := X0.leave (v := some (.long (-1 : Int64))) (fun h => by rw [Bd.returns] at h; cases h)
  refine ⟨_, _, pre0 _ ?_, hrun, hended, _, _, rfl, ?_, ⟨_, rfl⟩, hW, hsame.mono (by decide) (by decide)⟩
  · show Steps p.tables e below (s₁.setTop (mkF m 0 #[.val (.int (64 : Int32))] [])) _
    refine XS.iloadN X0.here hx rfl (hb hby d4_0) rfl ?_
    show Steps p.tables e below (s₁.setTop (mkF m 1 #[.val (.int (64 : Int32))] [(.int (64 : Int32))])) _
    refine XS.bipush X0.here hx rfl (hb hby d4_1) ?_
    show Steps p.tables e below (s₁.setTop (mkF m 3 #[.val (.int (64 : Int32))] [(.int (64 : Int32)), (.int (64 : Int32))])) _
    refine XS.icmpNo X0.here hx rfl (hb hby d4_3) rfl (teq (by decide : (64 : Int32) = (64 : Int32))).2 ?_
    show Steps p.tables e below (s₁.setTop (mkF m 6 #[.val (.int (64 : Int32))] [])) _
    refine X0.ldc2Long hx hown (mvT hZ (hw _ (List.mem_of_getElem? (i := 30) rfl))) (g := (mkF m 6 #[.val (.int (64 : Int32))] [])) rfl (hb hby d4_6) _ ?_
    show Steps p.tables e below (s₁.setTop (mkF m 9 #[.val (.int (64 : Int32))] [(.long (-1 : Int64))])) _
    refine XS.goto X0.here hx rfl (pc0 := 9) (pc' := 17) rfl (hb hby d4_9) (by decide) (by decide) ?_
    show Steps p.tables e below (s₁.setTop (mkF m 17 #[.val (.int (64 : Int32))] [(.long (-1 : Int64))])) _
    exact Jvm.Stand.lreturnOut X0 hx Bd.returns (hb hby d4_17) hr
  · exact ⟨rfl, N0, e0⟩
theorem pd70 : parseMethodDescriptor "(I)J" = some ⟨[.int], some .long⟩ := by decide +kernel
theorem d2_104 : decode prog_59_method_1_code 104 = .ok (.invokestatic 26, 3) := by decide +kernel
theorem d2_107 : decode prog_59_method_1_code 107 = .ok (.lastore, 1) := by decide +kernel
theorem d2_108 : decode prog_59_method_1_code 108 = .ok (.iinc 4 1, 3) := by decide +kernel
theorem d2_111 : decode prog_59_method_1_code 111 = .ok (.goto (-77), 3) := by decide +kernel
theorem d2_114 : decode prog_59_method_1_code 114 = .ok (.aload_n 0, 1) := by decide +kernel
theorem d2_115 : decode prog_59_method_1_code 115 = .ok (.iconst 2, 1) := by decide +kernel
theorem d2_116 : decode prog_59_method_1_code 116 = .ok (.iload_n 3, 1) := by decide +kernel
theorem d2_117 : decode prog_59_method_1_code 117 = .ok (.imul, 1) := by decide +kernel
theorem d2_118 : decode prog_59_method_1_code 118 = .ok (.newarray .int, 2) := by decide +kernel
theorem d2_120 : decode prog_59_method_1_code 120 = .ok (.putfield 30, 3) := by decide +kernel
theorem d2_123 : decode prog_59_method_1_code 123 = .ok (.aload_n 0, 1) := by decide +kernel
theorem d2_124 : decode prog_59_method_1_code 124 = .ok (.iload_n 2, 1) := by decide +kernel
theorem d2_125 : decode prog_59_method_1_code 125 = .ok (.newarray .int, 2) := by decide +kernel
theorem d2_127 : decode prog_59_method_1_code 127 = .ok (.putfield 33, 3) := by decide +kernel
theorem d2_130 : decode prog_59_method_1_code 130 = .ok (.aload_n 0, 1) := by decide +kernel
theorem d2_131 : decode prog_59_method_1_code 131 = .ok (.iload_n 2, 1) := by decide +kernel
theorem d2_132 : decode prog_59_method_1_code 132 = .ok (.newarray .boolean, 2) := by decide +kernel
theorem d2_134 : decode prog_59_method_1_code 134 = .ok (.putfield 36, 3) := by decide +kernel
theorem d2_137 : decode prog_59_method_1_code 137 = .ok (.return_, 1) := by decide +kernel
theorem ef91 (m : MethodId) (x0 : Addr) (x1 : Addr) : entryFrame m #[(.ref x0), (.ref x1)] 5 = mkF m 0 #[.val (.ref x0), .val (.ref x1), .unset, .unset, .unset] [] := by first | (simp [entryFrame, mkF, argsToLocals, Value.category]; done) | rfl
def Q2_1 (Z : State) (ob0 : Addr) (ob1 : Addr) (k_ob1 : ClassId) (h0 : Heap) (n0 : Nat) (v : Option Value) (h : Heap) (L : List Loc) : Prop := ∃ b3 : Addr, ∃ b5 : Addr, ∃ b9 : Addr, ∃ b16 : Addr, ∃ b44 : Addr, ∃ b68 : Addr, ∃ b72 : Addr, ∃ b75 : Addr, ∃ kk_b3 : ClassId, ∃ kk_b5 : ClassId, ∃ kk_b9 : ClassId, ∃ kk_b68 : ClassId, ∃ kk_b72 : ClassId, ∃ kk_b75 : ClassId, ∃ kk_b16 : ClassId, ∃ kk_b44 : ClassId, v = none ∧ Fr n0 L ∧ Keep h0 h [ob0] ∧ Old Z n0 h ∧ h0.size ≤ b3 ∧ h0.size ≤ b5 ∧ h0.size ≤ b9 ∧ h0.size ≤ b16 ∧ h0.size ≤ b44 ∧ h0.size ≤ b68 ∧ h0.size ≤ b72 ∧ h0.size ≤ b75 ∧ b3 < b5 ∧ b5 < b9 ∧ b9 < b16 ∧ b16 < b44 ∧ b44 < b68 ∧ b68 < b72 ∧ b72 < b75 ∧ Exa Z h ob0 "com/example/caprice/caprice/solver/Domains" ∧ Fld Z h ob0 "com/example/caprice/caprice/solver/Domains" "reasons" "[[[I" (.ref b3) ∧ Fld Z h ob0 "com/example/caprice/caprice/solver/Domains" "left" "[I" (.ref b5) ∧ Fld Z h ob0 "com/example/caprice/caprice/solver/Domains" "leftMasks" "[J" (.ref b9) ∧ Fld Z h ob0 "com/example/caprice/caprice/solver/Domains" "trail" "[I" (.ref b68) ∧ Fld Z h ob0 "com/example/caprice/caprice/solver/Domains" "gathered" "[I" (.ref b72) ∧ Fld Z h ob0 "com/example/caprice/caprice/solver/Domains" "marked" "[Z" (.ref b75) ∧ Fld Z h ob0 "com/example/caprice/caprice/solver/Domains" "trailSize" "I" (.int (0 : Int32)) ∧ Arv Z h b3 kk_b3 (.array (.array .int)) (2 : Int32) [(.ref b16), (.ref b44)] .null ∧ Exa Z h b3 "[[[I" ∧ OvrA Z kk_b3 (.array .int) "[[I" ∧ Arv Z h b5 kk_b5 .int (2 : Int32) [(.int (64 : Int32)), (.int (64 : Int32))] (.int (0 : Int32)) ∧ Exa Z h b5 "[I" ∧ Arv Z h b9 kk_b9 .long (2 : Int32) [(.long (-1 : Int64)), (.long (-1 : Int64))] (.long (0 : Int64)) ∧ Exa Z h b9 "[J" ∧ Arv Z h b68 kk_b68 .int (256 : Int32) [] (.int (0 : Int32)) ∧ Exa Z h b68 "[I" ∧ Arv Z h b72 kk_b72 .int (2 : Int32) [(.int (0 : Int32)), (.int (0 : Int32))] (.int (0 : Int32)) ∧ Exa Z h b72 "[I" ∧ Arv Z h b75 kk_b75 .boolean (2 : Int32) [(.int (0 : Int32)), (.int (0 : Int32))] (.int (0 : Int32)) ∧ Exa Z h b75 "[Z" ∧ Arv Z h b16 kk_b16 (.array .int) (64 : Int32) [] .null ∧ Exa Z h b16 "[[I" ∧ OvrA Z kk_b16 .int "[I" ∧ Arv Z h b44 kk_b44 (.array .int) (64 : Int32) [] .null ∧ Exa Z h b44 "[[I" ∧ OvrA Z kk_b44 .int "[I" ∧ True
set_option maxRecDepth 65536 in
set_option maxHeartbeats 40000000 in
theorem rm2_1 (l : Launch) (Z : State) (a0 : Array Value) (hw : ∀ d ∈ tables_1, d.before a0 Z = true) (ws : List Jvm.Cond) (ob0 : Addr) (ob1 : Addr) (k_ob1 : ClassId) (h0 : Heap) (n0 : Nat) (Z0 : n0 ≤ h0.size) (O0 : Old Z n0 h0) (PE_ob0 : Exa Z h0 ob0 "com/example/caprice/caprice/solver/Domains") (PF_ob0_reasons : Fld Z h0 ob0 "com/example/caprice/caprice/solver/Domains" "reasons" "[[[I" .null) (PF_ob0_left : Fld Z h0 ob0 "com/example/caprice/caprice/solver/Domains" "left" "[I" .null) (PF_ob0_leftMasks : Fld Z h0 ob0 "com/example/caprice/caprice/solver/Domains" "leftMasks" "[J" .null) (PF_ob0_trail : Fld Z h0 ob0 "com/example/caprice/caprice/solver/Domains" "trail" "[I" .null) (PF_ob0_gathered : Fld Z h0 ob0 "com/example/caprice/caprice/solver/Domains" "gathered" "[I" .null) (PF_ob0_marked : Fld Z h0 ob0 "com/example/caprice/caprice/solver/Domains" "marked" "[Z" .null) (PF_ob0_trailSize : Fld Z h0 ob0 "com/example/caprice/caprice/solver/Domains" "trailSize" "I" (.int (0 : Int32))) (PV_ob1 : Arv Z h0 ob1 k_ob1 .int (2 : Int32) [(.int (64 : Int32)), (.int (64 : Int32))] (.int (0 : Int32))) (ne_ob0_ob1 : ob0 ≠ ob1) (g_ob0 : n0 ≤ ob0) :
    MetFree l (⟨"com/example/caprice/caprice/solver/Domains", "<init>", "([I)V"⟩ : MethodName) (head1 (Jvm.Cond.code (⟨"com/example/caprice/caprice/solver/Domains", "<init>", "([I)V"⟩ : MethodName) prog_59_method_1_code 5 none :: ws) ({ frames := 1, cells := 8, slots := 394, locals := 14 } : Room)) (fun a U => a = #[(.ref ob0), (.ref ob1)] ∧ Z.Warmed39 U.vm ∧ U.heap = h0) (fun _ _ _ _ _ => True) (fun _ U o U' => ∃ v L, o = .returned v ∧ Q2_1 Z  ob0 ob1 k_ob1 h0 n0 v U'.heap L ∧ FrameEnd U o U' L ({ frames := 1, cells := 8, slots := 394, locals := 14 } : Room).cells ({ frames := 1, cells := 8, slots := 394, locals := 14 } : Room).slots) := by
  refine MetFree.of_bodySF (plainFor_of_name pn69) hisR ?_
  intro p e s m args below meth c s₁ Bd hml0 hP hK
  obtain ⟨rfl, hZ, hh⟩ := hP
  have hx := Bd.exec
  have hby := Bd.bytes
  have hml : c.maxLocals = 5 := hml0
  have hown : s.vm.findClass "com/example/caprice/caprice/solver/Domains" = some m.cls := findClass_of_methodNamed Bd.named
  have hnm := (name_of_methodNamed Bd.named Bd.method).1
  have X0 : Stand p l e ({ frames := 1, cells := 8, slots := 394, locals := 14 } : Room) s m #[(.ref ob0), (.ref ob1)] below meth c s₁ [] 0 0 := Stand.of_body Bd
  have e0 : s₁.heap = h0 := by rw [← hh, Bd.state]; rfl
  have N0 := Fr.nil n0
  have pre0 : ∀ t, Steps p.tables e below (s₁.setTop (mkF m 0 #[.val (.ref ob0), .val (.ref ob1), .unset, .unset, .unset] [])) t → Steps p.tables e below (s₁.setTop (entryFrame m #[(.ref ob0), (.ref ob1)] 5)) t := fun t k => castTop (ef91 m ob0 ob1) k
  obtain ⟨T1, X1, e1, st1⟩ := initO X0 hx hZ hown (hw _ (List.mem_of_getElem? (i := 12) rfl)) (hw _ (List.mem_of_getElem? (i := 13) rfl)) (hw _ (List.mem_of_getElem? (i := 14) rfl)) e0 (g := (mkF m 1 #[.val (.ref ob0), .val (.ref ob1), .unset, .unset, .unset] [(.ref ob0)])) rfl (by rw [hml]; rfl) rfl (hb hby d2_1) (by decide) (W := 0) (by show 2 * 0 + _ ≤ _; exact Nat.le_of_eq rfl) (by decide)
  obtain ⟨ac2, aA2, aq2, aS2, aN2, aH2, aG2⟩ := id PV_ob1
  obtain ⟨T3, h3, k3, X3, e3, E3, A3, B3, OV3, st3⟩ := newRA X1 hx hZ hown (C := "[[I") (by decide) (hw _ (List.mem_of_getElem? (i := 15) rfl)) (hw _ (List.mem_of_getElem? (i := 16) rfl)) e1 (g := (mkF m 9 #[.val (.ref ob0), .val (.ref ob1), .val (.int (2 : Int32)), .unset, .unset] [(.int (2 : Int32)), (.ref ob0)])) rfl (hb hby d2_9) rfl (by decide) (cap := 2) (by decide) (by decide) (by decide) (by decide) (ad := "[[[I") (by decide)
  obtain ⟨b3, gg3⟩ : ∃ z, z = h0.size := ⟨_, rfl⟩
  rw [← gg3] at A3 B3 st3
  have bo_b3 : h0.size ≤ b3 := Nat.le_of_eq gg3.symm
  have g_b3 : n0 ≤ b3 := Nat.le_trans (own_n0 O0) bo_b3
  have sz_b3 : h0.size ≤ b3 := Nat.le_trans (Keep.refl h0 [ob0]).1 bo_b3
  have V_b3 : Arv Z h3 b3 k3 (.array (.array .int)) (2 : Int32) [.null, .null] .null := (Arv.new A3 (by decide)).pad (pad_rep [] .null 2)
  have lb_b3 : b3 < h3.size := A3.lt
  have KK3 : Keep h0 h3 [ob0] := (Keep.refl h0 [ob0]).ext E3
  have O3 := O0.ext E3
  obtain ⟨T4, h4, X4, e4, W4, st4⟩ := putF X3 hx hZ hown (host := "") (Or.inl (hw _ (List.mem_of_getElem? (i := 17) rfl))) Via.refl e3 (PF_ob0_reasons.ext E3) (PE_ob0.ext E3) (Or.inr ⟨(hw _ (List.mem_of_getElem? (i := 18) rfl)), rfl, hnm⟩) (hw _ (List.mem_of_getElem? (i := 6) rfl)) (ty := (.array (.array (.array .int)))) (by decide) rfl rfl (g := (mkF m 12 #[.val (.ref ob0), .val (.ref ob1), .val (.int (2 : Int32)), .unset, .unset] [(.ref b3), (.ref ob0)])) rfl rfl (hb hby d2_12)
  have Fw4 := (PF_ob0_reasons.ext E3).same W4
  have N4 := Fr.snoc X4 N0 g_ob0
  have O4 := O3.wr W4 g_ob0
  have KK4 : Keep h0 h4 [ob0] := KK3.wr W4 (Or.inl (List.mem_of_getElem? (i := 0) rfl))
  obtain ⟨T5, h5, k5, X5, e5, E5, A5, B5, st5⟩ := newPE X4 hx hZ (hw _ (List.mem_of_getElem? (i := 8) rfl)) e4 (g := (mkF m 17 #[.val (.ref ob0), .val (.ref ob1), .val (.int (2 : Int32)), .unset, .unset] [(.int (2 : Int32)), (.ref ob0)])) rfl (hb hby d2_17) rfl (by decide) (cap := 2) (by decide) (by decide) (by decide) (by decide) (ad := "[I") (by decide)
  obtain ⟨b5, gg5⟩ : ∃ z, z = h4.size := ⟨_, rfl⟩
  rw [← gg5] at A5 B5 st5
  have bo_b5 : h4.size ≤ b5 := Nat.le_of_eq gg5.symm
  have g_b5 : n0 ≤ b5 := Nat.le_trans (own_n0 O4) bo_b5
  have sz_b5 : h0.size ≤ b5 := Nat.le_trans KK4.1 bo_b5
  have V_b5 : Arv Z h5 b5 k5 .int (2 : Int32) [(.int (0 : Int32)), (.int (0 : Int32))] (.int (0 : Int32)) := (Arv.new A5 (by decide)).pad (pad_rep [] (.int (0 : Int32)) 2)
  have lb_b5 : b5 < h5.size := A5.lt
  have KK5 : Keep h0 h5 [ob0] := KK4.ext E5
  have O5 := O4.ext E5
  have J6 := (((PF_ob0_left.ext E3).other W4 (Or.inr (slot_ne (Or.inr (hw _ (List.mem_of_getElem? (i := 20) rfl))) (Or.inr (hw _ (List.mem_of_getElem? (i := 18) rfl))) (by decide) (t := (.array .int)) (t' := (.array (.array (.array .int)))) (by decide) (by decide)))).ext E5)
  have J7 := (((PE_ob0.ext E3).wr W4).ext E5)
  obtain ⟨T8, h8, X8, e8, W8, st8⟩ := putF X5 hx hZ hown (host := "") (Or.inl (hw _ (List.mem_of_getElem? (i := 19) rfl))) Via.refl e5 J6 J7 (Or.inr ⟨(hw _ (List.mem_of_getElem? (i := 20) rfl)), rfl, hnm⟩) (hw _ (List.mem_of_getElem? (i := 6) rfl)) (ty := (.array .int)) (by decide) rfl rfl (g := (mkF m 19 #[.val (.ref ob0), .val (.ref ob1), .val (.int (2 : Int32)), .unset, .unset] [(.ref b5), (.ref ob0)])) rfl rfl (hb hby d2_19)
  have Fw8 := J6.same W8
  have N8 := Fr.snoc X8 N4 g_ob0
  have O8 := O5.wr W8 g_ob0
  have KK8 : Keep h0 h8 [ob0] := KK5.wr W8 (Or.inl (List.mem_of_getElem? (i := 0) rfl))
  obtain ⟨T9, h9, k9, X9, e9, E9, A9, B9, st9⟩ := newPE X8 hx hZ (hw _ (List.mem_of_getElem? (i := 21) rfl)) e8 (g := (mkF m 24 #[.val (.ref ob0), .val (.ref ob1), .val (.int (2 : Int32)), .unset, .unset] [(.int (2 : Int32)), (.ref ob0)])) rfl (hb hby d2_24) rfl (by decide) (cap := 2) (by decide) (by decide) (by decide) (by decide) (ad := "[J") (by decide)
  obtain ⟨b9, gg9⟩ : ∃ z, z = h8.size := ⟨_, rfl⟩
  rw [← gg9] at A9 B9 st9
  have bo_b9 : h8.size ≤ b9 := Nat.le_of_eq gg9.symm
  have g_b9 : n0 ≤ b9 := Nat.le_trans (own_n0 O8) bo_b9
  have sz_b9 : h0.size ≤ b9 := Nat.le_trans KK8.1 bo_b9
  have V_b9 : Arv Z h9 b9 k9 .long (2 : Int32) [(.long (0 : Int64)), (.long (0 : Int64))] (.long (0 : Int64)) := (Arv.new A9 (by decide)).pad (pad_rep [] (.long (0 : Int64)) 2)
  have lb_b9 : b9 < h9.size := A9.lt
  have KK9 : Keep h0 h9 [ob0] := KK8.ext E9
  have O9 := O8.ext E9
  have J10 := (((((PF_ob0_leftMasks.ext E3).other W4 (Or.inr (slot_ne (Or.inr (hw _ (List.mem_of_getElem? (i := 23) rfl))) (Or.inr (hw _ (List.mem_of_getElem? (i := 18) rfl))) (by decide) (t := (.array .long)) (t' := (.array (.array (.array .int)))) (by decide) (by decide)))).ext E5).other W8 (Or.inr (slot_ne (Or.inr (hw _ (List.mem_of_getElem? (i := 23) rfl))) (Or.inr (hw _ (List.mem_of_getElem? (i := 20) rfl))) (by decide) (t := (.array .long)) (t' := (.array .int)) (by decide) (by decide)))).ext E9)
  obtain ⟨T11, h11, X11, e11, W11, st11⟩ := putF X9 hx hZ hown (host := "") (Or.inl (hw _ (List.mem_of_getElem? (i := 22) rfl))) Via.refl e9 J10 ((J7.wr W8).ext E9) (Or.inr ⟨(hw _ (List.mem_of_getElem? (i := 23) rfl)), rfl, hnm⟩) (hw _ (List.mem_of_getElem? (i := 6) rfl)) (ty := (.array .long)) (by decide) rfl rfl (g := (mkF m 26 #[.val (.ref ob0), .val (.ref ob1), .val (.int (2 : Int32)), .unset, .unset] [(.ref b9), (.ref ob0)])) rfl rfl (hb hby d2_26)
  have Fw11 := J10.same W11
  have N11 := Fr.snoc X11 N8 g_ob0
  have O11 := O9.wr W11 g_ob0
  have KK11 : Keep h0 h11 [ob0] := KK9.wr W11 (Or.inl (List.mem_of_getElem? (i := 0) rfl))
  have J12 := ((((Fw4.ext E5).other W8 (Or.inr (slot_ne (Or.inr (hw _ (List.mem_of_getElem? (i := 18) rfl))) (Or.inr (hw _ (List.mem_of_getElem? (i := 20) rfl))) (by decide) (t := (.array (.array (.array .int)))) (t' := (.array .int)) (by decide) (by decide)))).ext E9).other W11 (Or.inr (slot_ne (Or.inr (hw _ (List.mem_of_getElem? (i := 18) rfl))) (Or.inr (hw _ (List.mem_of_getElem? (i := 23) rfl))) (by decide) (t := (.array (.array (.array .int)))) (t' := (.array .long)) (by decide) (by decide))))
  obtain ⟨T13, X13, e13, st13⟩ := getF X11 hx hZ hown (host := "") (Or.inl (hw _ (List.mem_of_getElem? (i := 17) rfl))) Via.refl e11 J12 (g := (mkF m 41 #[.val (.ref ob0), .val (.ref ob1), .val (.int (2 : Int32)), .val (.int (0 : Int32)), .val (.int (0 : Int32))] [(.ref ob0)])) rfl rfl (hb hby d2_41)
  have J15 := ((((((PV_ob1.ext E3).other W4 (Ne.symm ne_ob0_ob1)).ext E5).other W8 (Ne.symm ne_ob0_ob1)).ext E9).other W11 (Ne.symm ne_ob0_ob1))
  obtain ⟨ac14, aA14, aq14, aS14, aN14, aH14, aG14⟩ := id J15
  obtain ⟨T16, h16, k16, X16, e16, E16, A16, B16, OV16, st16⟩ := newRA X13 hx hZ hown (C := "[I") (by decide) (hw _ (List.mem_of_getElem? (i := 24) rfl)) (hw _ (List.mem_of_getElem? (i := 25) rfl)) e13 (g := (mkF m 50 #[.val (.ref ob0), .val (.ref ob1), .val (.int (2 : Int32)), .val (.int (0 : Int32)), .val (.int (0 : Int32))] [(.int (64 : Int32)), (.int (0 : Int32)), (.ref b3)])) rfl (hb hby d2_50) rfl (by decide) (cap := 64) (by decide) (by decide) (by decide) (by decide) (ad := "[[I") (by decide)
  obtain ⟨b16, gg16⟩ : ∃ z, z = h11.size := ⟨_, rfl⟩
  rw [← gg16] at A16 B16 st16
  have bo_b16 : h11.size ≤ b16 := Nat.le_of_eq gg16.symm
  have g_b16 : n0 ≤ b16 := Nat.le_trans (own_n0 O11) bo_b16
  have sz_b16 : h0.size ≤ b16 := Nat.le_trans KK11.1 bo_b16
  have V_b16 : Arv Z h16 b16 k16 (.array .int) (64 : Int32) [] .null := Arv.new A16 (by decide)
  have lb_b16 : b16 < h16.size := A16.lt
  have KK16 : Keep h0 h16 [ob0] := KK11.ext E16
  have O16 := O11.ext E16
  have J18 := ((((((V_b3.other W4 (Ne.symm (Nat.ne_of_lt (Nat.lt_of_lt_of_le PE_ob0.lt bo_b3)))).ext E5).other W8 (Ne.symm (Nat.ne_of_lt (Nat.lt_of_lt_of_le PE_ob0.lt bo_b3)))).ext E9).other W11 (Ne.symm (Nat.ne_of_lt (Nat.lt_of_lt_of_le PE_ob0.lt bo_b3)))).ext E16)
  obtain ⟨ac17, aA17, aq17, aS17, aN17, aH17, aG17⟩ := id J18
  obtain ⟨T19, h19, X19, e19, W19, st19⟩ := stR X16 hx hZ e16 aA17 (j := (0 : Int32)) (inb_of aS17 ⟨by decide, by decide⟩) rfl (Sto.ofVA aA17 aq17 OV3 (Ins.self B16)) (g := (mkF m 53 #[.val (.ref ob0), .val (.ref ob1), .val (.int (2 : Int32)), .val (.int (0 : Int32)), .val (.int (0 : Int32))] [(.ref b16), (.int (0 : Int32)), (.ref b3)])) rfl rfl (hb hby d2_53)
  have V_b3_19 : Arv Z h19 b3 k3 (.array (.array .int)) (2 : Int32) [(.ref b16), .null] .null := Arv.set aA17 aq17 aS17 aN17 aH17 aG17 rfl W19 0 rfl (Nat.le_of_ble_eq_true rfl)
  have N19 := Fr.snoc X19 N11 g_b3
  have O19 := O16.wr W19 g_b3
  have KK19 : Keep h0 h19 [ob0] := KK16.wr W19 (Or.inr sz_b3)
  have J20 := ((((Fw8.ext E9).other W11 (Or.inr (slot_ne (Or.inr (hw _ (List.mem_of_getElem? (i := 20) rfl))) (Or.inr (hw _ (List.mem_of_getElem? (i := 23) rfl))) (by decide) (t := (.array .int)) (t' := (.array .long)) (by decide) (by decide)))).ext E16).other W19 (Or.inl (Nat.ne_of_lt (Nat.lt_of_lt_of_le PE_ob0.lt bo_b3))))
  obtain ⟨T21, X21, e21, st21⟩ := getF X19 hx hZ hown (host := "") (Or.inl (hw _ (List.mem_of_getElem? (i := 19) rfl))) Via.refl e19 J20 (g := (mkF m 55 #[.val (.ref ob0), .val (.ref ob1), .val (.int (2 : Int32)), .val (.int (0 : Int32)), .val (.int (0 : Int32))] [(.ref ob0)])) rfl rfl (hb hby d2_55)
  obtain ⟨T22, X22, e22, st22⟩ := getF X21 hx hZ hown (host := "") (Or.inl (hw _ (List.mem_of_getElem? (i := 17) rfl))) Via.refl e21 ((J12.ext E16).other W19 (Or.inl (Nat.ne_of_lt (Nat.lt_of_lt_of_le PE_ob0.lt bo_b3)))) (g := (mkF m 61 #[.val (.ref ob0), .val (.ref ob1), .val (.int (2 : Int32)), .val (.int (0 : Int32)), .val (.int (0 : Int32))] [(.ref ob0), (.int (0 : Int32)), (.ref b5)])) rfl rfl (hb hby d2_61)
  obtain ⟨ac23, aA23, aq23, aS23, aN23, aH23, aG23⟩ := id V_b3_19
  obtain ⟨ac24, aA24, aq24, aS24, aN24, aH24, aG24⟩ := id (V_b16.other W19 (Ne.symm (Nat.ne_of_lt (Nat.lt_of_lt_of_le (Nat.lt_of_lt_of_le (Nat.lt_of_lt_of_le (Nat.lt_of_lt_of_le (Nat.lt_of_lt_of_le (Nat.lt_of_lt_of_le lb_b3 (Keep.of_wr W4).1) E5.1) (Keep.of_wr W8).1) E9.1) (Keep.of_wr W11).1) bo_b16))))
  have J26 := (((((V_b5.other W8 (Ne.symm (Nat.ne_of_lt (Nat.lt_of_lt_of_le (Nat.lt_of_lt_of_le (Nat.lt_of_lt_of_le PE_ob0.lt E3.1) (Keep.of_wr W4).1) bo_b5)))).ext E9).other W11 (Ne.symm (Nat.ne_of_lt (Nat.lt_of_lt_of_le (Nat.lt_of_lt_of_le (Nat.lt_of_lt_of_le PE_ob0.lt E3.1) (Keep.of_wr W4).1) bo_b5)))).ext E16).other W19 (Ne.symm (Nat.ne_of_lt (Nat.lt_of_lt_of_le (Nat.lt_of_lt_of_le lb_b3 (Keep.of_wr W4).1) bo_b5))))
  obtain ⟨ac25, aA25, aq25, aS25, aN25, aH25, aG25⟩ := id J26
  obtain ⟨T27, h27, X27, e27, W27, st27⟩ := stI X22 hx hZ e22 aA25 (j := (0 : Int32)) (inb_of aS25 ⟨by decide, by decide⟩) (g := (mkF m 68 #[.val (.ref ob0), .val (.ref ob1), .val (.int (2 : Int32)), .val (.int (0 : Int32)), .val (.int (0 : Int32))] [(.int (64 : Int32)), (.int (0 : Int32)), (.ref b5)])) rfl rfl (hb hby d2_68)
  have V_b5_27 : Arv Z h27 b5 k5 .int (2 : Int32) [(.int (64 : Int32)), (.int (0 : Int32))] (.int (0 : Int32)) := Arv.set aA25 aq25 aS25 aN25 aH25 aG25 rfl W27 0 rfl (Nat.le_of_ble_eq_true rfl)
  have N27 := Fr.snoc X27 N19 g_b5
  have O27 := O19.wr W27 g_b5
  have KK27 : Keep h0 h27 [ob0] := KK19.wr W27 (Or.inr sz_b5)
  obtain ⟨T28, X28, e28, st28⟩ := getF X27 hx hZ hown (host := "") (Or.inl (hw _ (List.mem_of_getElem? (i := 19) rfl))) Via.refl e27 (J20.other W27 (Or.inl (Nat.ne_of_lt (Nat.lt_of_lt_of_le (Nat.lt_of_lt_of_le (Nat.lt_of_lt_of_le PE_ob0.lt E3.1) (Keep.of_wr W4).1) bo_b5)))) (g := (mkF m 71 #[.val (.ref ob0), .val (.ref ob1), .val (.int (2 : Int32)), .val (.int (0 : Int32)), .val (.int (0 : Int32))] [(.ref ob0), (.int (0 : Int32))])) rfl rfl (hb hby d2_71)
  obtain ⟨ac29, aA29, aq29, aS29, aN29, aH29, aG29⟩ := id V_b5_27
  obtain ⟨T30, X30, e30, st30⟩ := getF X28 hx hZ hown (host := "") (Or.inl (hw _ (List.mem_of_getElem? (i := 19) rfl))) Via.refl e28 (J20.other W27 (Or.inl (Nat.ne_of_lt (Nat.lt_of_lt_of_le (Nat.lt_of_lt_of_le (Nat.lt_of_lt_of_le PE_ob0.lt E3.1) (Keep.of_wr W4).1) bo_b5)))) (g := (mkF m 80 #[.val (.ref ob0), .val (.ref ob1), .val (.int (2 : Int32)), .val (.int (64 : Int32)), .val (.int (0 : Int32))] [(.ref ob0)])) rfl rfl (hb hby d2_80)
  obtain ⟨ac31, aA31, aq31, aS31, aN31, aH31, aG31⟩ := id V_b5_27
  have J32 := (((Fw11.ext E16).other W19 (Or.inl (Nat.ne_of_lt (Nat.lt_of_lt_of_le PE_ob0.lt bo_b3)))).other W27 (Or.inl (Nat.ne_of_lt (Nat.lt_of_lt_of_le (Nat.lt_of_lt_of_le (Nat.lt_of_lt_of_le PE_ob0.lt E3.1) (Keep.of_wr W4).1) bo_b5))))
  obtain ⟨T33, X33, e33, st33⟩ := getF X30 hx hZ hown (host := "") (Or.inl (hw _ (List.mem_of_getElem? (i := 22) rfl))) Via.refl e30 J32 (g := (mkF m 92 #[.val (.ref ob0), .val (.ref ob1), .val (.int (2 : Int32)), .val (.int (64 : Int32)), .val (.int (0 : Int32))] [(.ref ob0)])) rfl rfl (hb hby d2_92)
  obtain ⟨T34, X34, e34, st34⟩ := getF X33 hx hZ hown (host := "") (Or.inl (hw _ (List.mem_of_getElem? (i := 19) rfl))) Via.refl e33 (J20.other W27 (Or.inl (Nat.ne_of_lt (Nat.lt_of_lt_of_le (Nat.lt_of_lt_of_le (Nat.lt_of_lt_of_le PE_ob0.lt E3.1) (Keep.of_wr W4).1) bo_b5)))) (g := (mkF m 98 #[.val (.ref ob0), .val (.ref ob1), .val (.int (2 : Int32)), .val (.int (64 : Int32)), .val (.int (0 : Int32))] [(.ref ob0), (.int (0 : Int32)), (.ref b9)])) rfl rfl (hb hby d2_98)
  obtain ⟨ac35, aA35, aq35, aS35, aN35, aH35, aG35⟩ := id V_b5_27
  obtain ⟨_, _, ⟨T36, L36, k36, n36⟩, -, X36, ⟨Lc36, hQ36, l36, y36, z36⟩, st36⟩ := Jvm.LawKit.callS X34 hx (y := (⟨"com/example/caprice/caprice/solver/Domains", "every", "(I)J"⟩ : MethodName)) hown (mvT hZ (hw _ (List.mem_of_getElem? (i := 27) rfl))) (mvT hZ (hw _ (List.mem_of_getElem? (i := 28) rfl))) (mvT hZ (hw _ (List.mem_of_getElem? (i := 7) rfl))) (mvT hZ (hw _ (List.mem_of_getElem? (i := 29) rfl))) (by decide) (backOf (W := 2) (rm4_0 l Z a0 hw []  h27 n0 (own_n0 O27) O27) hZ (hw _ (List.mem_of_getElem? (i := 29) rfl)) (hw _ (List.mem_of_getElem? (i := 7) rfl)) (by decide) (by decide)) (g := (mkF m 104 #[.val (.ref ob0), .val (.ref ob1), .val (.int (2 : Int32)), .val (.int (64 : Int32)), .val (.int (0 : Int32))] [(.int (64 : Int32)), (.int (0 : Int32)), (.ref b9)])) rfl (by rw [hml]; rfl) (argsL := [(.int (64 : Int32))]) (rest := [(.int (0 : Int32)), (.ref b9)]) (lenOf pd70 rfl) rfl (by show 2 * 0 + _ ≤ _; exact Nat.le_of_eq rfl) (hb hby d2_104) (fun _ _ => ⟨rfl, e34, (by decide : 4 + 0 ≤ _), (by decide : 70 + 0 ≤ _)⟩)
  dsimp only [Pt.U, Pt.locs, Pt.cells, Pt.slots] at X36 l36 y36 z36 st36 hQ36
  subst l36 y36 z36
  obtain ⟨rfl, N36q, e36⟩ := hQ36
  have N36 := Fr.app N27 N36q
  have J38 := ((((V_b9.other W11 (Ne.symm (Nat.ne_of_lt (Nat.lt_of_lt_of_le (Nat.lt_of_lt_of_le (Nat.lt_of_lt_of_le (Nat.lt_of_lt_of_le (Nat.lt_of_lt_of_le PE_ob0.lt E3.1) (Keep.of_wr W4).1) E5.1) (Keep.of_wr W8).1) bo_b9)))).ext E16).other W19 (Ne.symm (Nat.ne_of_lt (Nat.lt_of_lt_of_le (Nat.lt_of_lt_of_le (Nat.lt_of_lt_of_le (Nat.lt_of_lt_of_le lb_b3 (Keep.of_wr W4).1) E5.1) (Keep.of_wr W8).1) bo_b9)))).other W27 (Ne.symm (Nat.ne_of_lt (Nat.lt_of_lt_of_le (Nat.lt_of_lt_of_le lb_b5 (Keep.of_wr W8).1) bo_b9))))
  obtain ⟨ac37, aA37, aq37, aS37, aN37, aH37, aG37⟩ := id J38
  obtain ⟨T39, h39, X39, e39, W39, st39⟩ := stJ X36 hx hZ e36 aA37 (j := (0 : Int32)) (inb_of aS37 ⟨by decide, by decide⟩) (g := (mkF m 107 #[.val (.ref ob0), .val (.ref ob1), .val (.int (2 : Int32)), .val (.int (64 : Int32)), .val (.int (0 : Int32))] [(.long (-1 : Int64)), (.int (0 : Int32)), (.ref b9)])) rfl rfl (hb hby d2_107)
  have V_b9_39 : Arv Z h39 b9 k9 .long (2 : Int32) [(.long (-1 : Int64)), (.long (0 : Int64))] (.long (0 : Int64)) := Arv.set aA37 aq37 aS37 aN37 aH37 aG37 rfl W39 0 rfl (Nat.le_of_ble_eq_true rfl)
  have N39 := Fr.snoc X39 N36 g_b9
  have O39 := O27.wr W39 g_b9
  have KK39 : Keep h0 h39 [ob0] := KK27.wr W39 (Or.inr sz_b9)
  have J40 := ((((J12.ext E16).other W19 (Or.inl (Nat.ne_of_lt (Nat.lt_of_lt_of_le PE_ob0.lt bo_b3)))).other W27 (Or.inl (Nat.ne_of_lt (Nat.lt_of_lt_of_le (Nat.lt_of_lt_of_le (Nat.lt_of_lt_of_le PE_ob0.lt E3.1) (Keep.of_wr W4).1) bo_b5)))).other W39 (Or.inl (Nat.ne_of_lt (Nat.lt_of_lt_of_le (Nat.lt_of_lt_of_le (Nat.lt_of_lt_of_le (Nat.lt_of_lt_of_le (Nat.lt_of_lt_of_le PE_ob0.lt E3.1) (Keep.of_wr W4).1) E5.1) (Keep.of_wr W8).1) bo_b9))))
  obtain ⟨T41, X41, e41, st41⟩ := getF X39 hx hZ hown (host := "") (Or.inl (hw _ (List.mem_of_getElem? (i := 17) rfl))) Via.refl e39 J40 (g := (mkF m 41 #[.val (.ref ob0), .val (.ref ob1), .val (.int (2 : Int32)), .val (.int (64 : Int32)), .val (.int (1 : Int32))] [(.ref ob0)])) rfl rfl (hb hby d2_41)
  have J43 := ((((J15.ext E16).other W19 (Nat.ne_of_lt (Nat.lt_of_lt_of_le PV_ob1.lt bo_b3))).other W27 (Nat.ne_of_lt (Nat.lt_of_lt_of_le (Nat.lt_of_lt_of_le (Nat.lt_of_lt_of_le PV_ob1.lt E3.1) (Keep.of_wr W4).1) bo_b5))).other W39 (Nat.ne_of_lt (Nat.lt_of_lt_of_le (Nat.lt_of_lt_of_le (Nat.lt_of_lt_of_le (Nat.lt_of_lt_of_le (Nat.lt_of_lt_of_le PV_ob1.lt E3.1) (Keep.of_wr W4).1) E5.1) (Keep.of_wr W8).1) bo_b9)))
  obtain ⟨ac42, aA42, aq42, aS42, aN42, aH42, aG42⟩ := id J43
  obtain ⟨T44, h44, k44, X44, e44, E44, A44, B44, OV44, st44⟩ := newRA X41 hx hZ hown (C := "[I") (by decide) (hw _ (List.mem_of_getElem? (i := 24) rfl)) (hw _ (List.mem_of_getElem? (i := 25) rfl)) e41 (g := (mkF m 50 #[.val (.ref ob0), .val (.ref ob1), .val (.int (2 : Int32)), .val (.int (64 : Int32)), .val (.int (1 : Int32))] [(.int (64 : Int32)), (.int (1 : Int32)), (.ref b3)])) rfl (hb hby d2_50) rfl (by decide) (cap := 64) (by decide) (by decide) (by decide) (by decide) (ad := "[[I") (by decide)
  obtain ⟨b44, gg44⟩ : ∃ z, z = h39.size := ⟨_, rfl⟩
  rw [← gg44] at A44 B44 st44
  have bo_b44 : h39.size ≤ b44 := Nat.le_of_eq gg44.symm
  have g_b44 : n0 ≤ b44 := Nat.le_trans (own_n0 O39) bo_b44
  have sz_b44 : h0.size ≤ b44 := Nat.le_trans KK39.1 bo_b44
  have V_b44 : Arv Z h44 b44 k44 (.array .int) (64 : Int32) [] .null := Arv.new A44 (by decide)
  have lb_b44 : b44 < h44.size := A44.lt
  have KK44 : Keep h0 h44 [ob0] := KK39.ext E44
  have O44 := O39.ext E44
  have J46 := (((V_b3_19.other W27 (Nat.ne_of_lt (Nat.lt_of_lt_of_le (Nat.lt_of_lt_of_le lb_b3 (Keep.of_wr W4).1) bo_b5))).other W39 (Nat.ne_of_lt (Nat.lt_of_lt_of_le (Nat.lt_of_lt_of_le (Nat.lt_of_lt_of_le (Nat.lt_of_lt_of_le lb_b3 (Keep.of_wr W4).1) E5.1) (Keep.of_wr W8).1) bo_b9))).ext E44)
  obtain ⟨ac45, aA45, aq45, aS45, aN45, aH45, aG45⟩ := id J46
  obtain ⟨T47, h47, X47, e47, W47, st47⟩ := stR X44 hx hZ e44 aA45 (j := (1 : Int32)) (inb_of aS45 ⟨by decide, by decide⟩) rfl (Sto.ofVA aA45 aq45 OV3 (Ins.self B44)) (g := (mkF m 53 #[.val (.ref ob0), .val (.ref ob1), .val (.int (2 : Int32)), .val (.int (64 : Int32)), .val (.int (1 : Int32))] [(.ref b44), (.int (1 : Int32)), (.ref b3)])) rfl rfl (hb hby d2_53)
  have V_b3_47 : Arv Z h47 b3 k3 (.array (.array .int)) (2 : Int32) [(.ref b16), (.ref b44)] .null := Arv.set aA45 aq45 aS45 aN45 aH45 aG45 rfl W47 1 rfl (Nat.le_of_ble_eq_true rfl)
  have N47 := Fr.snoc X47 N39 g_b3
  have O47 := O44.wr W47 g_b3
  have KK47 : Keep h0 h47 [ob0] := KK44.wr W47 (Or.inr sz_b3)
  have J48 := ((((J20.other W27 (Or.inl (Nat.ne_of_lt (Nat.lt_of_lt_of_le (Nat.lt_of_lt_of_le (Nat.lt_of_lt_of_le PE_ob0.lt E3.1) (Keep.of_wr W4).1) bo_b5)))).other W39 (Or.inl (Nat.ne_of_lt (Nat.lt_of_lt_of_le (Nat.lt_of_lt_of_le (Nat.lt_of_lt_of_le (Nat.lt_of_lt_of_le (Nat.lt_of_lt_of_le PE_ob0.lt E3.1) (Keep.of_wr W4).1) E5.1) (Keep.of_wr W8).1) bo_b9)))).ext E44).other W47 (Or.inl (Nat.ne_of_lt (Nat.lt_of_lt_of_le PE_ob0.lt bo_b3))))
  obtain ⟨T49, X49, e49, st49⟩ := getF X47 hx hZ hown (host := "") (Or.inl (hw _ (List.mem_of_getElem? (i := 19) rfl))) Via.refl e47 J48 (g := (mkF m 55 #[.val (.ref ob0), .val (.ref ob1), .val (.int (2 : Int32)), .val (.int (64 : Int32)), .val (.int (1 : Int32))] [(.ref ob0)])) rfl rfl (hb hby d2_55)
  obtain ⟨T50, X50, e50, st50⟩ := getF X49 hx hZ hown (host := "") (Or.inl (hw _ (List.mem_of_getElem? (i := 17) rfl))) Via.refl e49 ((J40.ext E44).other W47 (Or.inl (Nat.ne_of_lt (Nat.lt_of_lt_of_le PE_ob0.lt bo_b3)))) (g := (mkF m 61 #[.val (.ref ob0), .val (.ref ob1), .val (.int (2 : Int32)), .val (.int (64 : Int32)), .val (.int (1 : Int32))] [(.ref ob0), (.int (1 : Int32)), (.ref b5)])) rfl rfl (hb hby d2_61)
  obtain ⟨ac51, aA51, aq51, aS51, aN51, aH51, aG51⟩ := id V_b3_47
  obtain ⟨ac52, aA52, aq52, aS52, aN52, aH52, aG52⟩ := id (V_b44.other W47 (Ne.symm (Nat.ne_of_lt (Nat.lt_of_lt_of_le (Nat.lt_of_lt_of_le (Nat.lt_of_lt_of_le (Nat.lt_of_lt_of_le (Nat.lt_of_lt_of_le (Nat.lt_of_lt_of_le (Nat.lt_of_lt_of_le (Nat.lt_of_lt_of_le (Nat.lt_of_lt_of_le (Nat.lt_of_lt_of_le lb_b3 (Keep.of_wr W4).1) E5.1) (Keep.of_wr W8).1) E9.1) (Keep.of_wr W11).1) E16.1) (Keep.of_wr W19).1) (Keep.of_wr W27).1) (Keep.of_wr W39).1) bo_b44))))
  have J54 := (((V_b5_27.other W39 (Nat.ne_of_lt (Nat.lt_of_lt_of_le (Nat.lt_of_lt_of_le lb_b5 (Keep.of_wr W8).1) bo_b9))).ext E44).other W47 (Ne.symm (Nat.ne_of_lt (Nat.lt_of_lt_of_le (Nat.lt_of_lt_of_le lb_b3 (Keep.of_wr W4).1) bo_b5))))
  obtain ⟨ac53, aA53, aq53, aS53, aN53, aH53, aG53⟩ := id J54
  obtain ⟨T55, h55, X55, e55, W55, st55⟩ := stI X50 hx hZ e50 aA53 (j := (1 : Int32)) (inb_of aS53 ⟨by decide, by decide⟩) (g := (mkF m 68 #[.val (.ref ob0), .val (.ref ob1), .val (.int (2 : Int32)), .val (.int (64 : Int32)), .val (.int (1 : Int32))] [(.int (64 : Int32)), (.int (1 : Int32)), (.ref b5)])) rfl rfl (hb hby d2_68)
  have V_b5_55 : Arv Z h55 b5 k5 .int (2 : Int32) [(.int (64 : Int32)), (.int (64 : Int32))] (.int (0 : Int32)) := Arv.set aA53 aq53 aS53 aN53 aH53 aG53 rfl W55 1 rfl (Nat.le_of_ble_eq_true rfl)
  have N55 := Fr.snoc X55 N47 g_b5
  have O55 := O47.wr W55 g_b5
  have KK55 : Keep h0 h55 [ob0] := KK47.wr W55 (Or.inr sz_b5)
  obtain ⟨T56, X56, e56, st56⟩ := getF X55 hx hZ hown (host := "") (Or.inl (hw _ (List.mem_of_getElem? (i := 19) rfl))) Via.refl e55 (J48.other W55 (Or.inl (Nat.ne_of_lt (Nat.lt_of_lt_of_le (Nat.lt_of_lt_of_le (Nat.lt_of_lt_of_le PE_ob0.lt E3.1) (Keep.of_wr W4).1) bo_b5)))) (g := (mkF m 71 #[.val (.ref ob0), .val (.ref ob1), .val (.int (2 : Int32)), .val (.int (64 : Int32)), .val (.int (1 : Int32))] [(.ref ob0), (.int (64 : Int32))])) rfl rfl (hb hby d2_71)
  obtain ⟨ac57, aA57, aq57, aS57, aN57, aH57, aG57⟩ := id V_b5_55
  obtain ⟨T58, X58, e58, st58⟩ := getF X56 hx hZ hown (host := "") (Or.inl (hw _ (List.mem_of_getElem? (i := 19) rfl))) Via.refl e56 (J48.other W55 (Or.inl (Nat.ne_of_lt (Nat.lt_of_lt_of_le (Nat.lt_of_lt_of_le (Nat.lt_of_lt_of_le PE_ob0.lt E3.1) (Keep.of_wr W4).1) bo_b5)))) (g := (mkF m 80 #[.val (.ref ob0), .val (.ref ob1), .val (.int (2 : Int32)), .val (.int (128 : Int32)), .val (.int (1 : Int32))] [(.ref ob0)])) rfl rfl (hb hby d2_80)
  obtain ⟨ac59, aA59, aq59, aS59, aN59, aH59, aG59⟩ := id V_b5_55
  have J60 := ((((J32.other W39 (Or.inl (Nat.ne_of_lt (Nat.lt_of_lt_of_le (Nat.lt_of_lt_of_le (Nat.lt_of_lt_of_le (Nat.lt_of_lt_of_le (Nat.lt_of_lt_of_le PE_ob0.lt E3.1) (Keep.of_wr W4).1) E5.1) (Keep.of_wr W8).1) bo_b9)))).ext E44).other W47 (Or.inl (Nat.ne_of_lt (Nat.lt_of_lt_of_le PE_ob0.lt bo_b3)))).other W55 (Or.inl (Nat.ne_of_lt (Nat.lt_of_lt_of_le (Nat.lt_of_lt_of_le (Nat.lt_of_lt_of_le PE_ob0.lt E3.1) (Keep.of_wr W4).1) bo_b5))))
  obtain ⟨T61, X61, e61, st61⟩ := getF X58 hx hZ hown (host := "") (Or.inl (hw _ (List.mem_of_getElem? (i := 22) rfl))) Via.refl e58 J60 (g := (mkF m 92 #[.val (.ref ob0), .val (.ref ob1), .val (.int (2 : Int32)), .val (.int (128 : Int32)), .val (.int (1 : Int32))] [(.ref ob0)])) rfl rfl (hb hby d2_92)
  obtain ⟨T62, X62, e62, st62⟩ := getF X61 hx hZ hown (host := "") (Or.inl (hw _ (List.mem_of_getElem? (i := 19) rfl))) Via.refl e61 (J48.other W55 (Or.inl (Nat.ne_of_lt (Nat.lt_of_lt_of_le (Nat.lt_of_lt_of_le (Nat.lt_of_lt_of_le PE_ob0.lt E3.1) (Keep.of_wr W4).1) bo_b5)))) (g := (mkF m 98 #[.val (.ref ob0), .val (.ref ob1), .val (.int (2 : Int32)), .val (.int (128 : Int32)), .val (.int (1 : Int32))] [(.ref ob0), (.int (1 : Int32)), (.ref b9)])) rfl rfl (hb hby d2_98)
  obtain ⟨ac63, aA63, aq63, aS63, aN63, aH63, aG63⟩ := id V_b5_55
  obtain ⟨_, _, ⟨T64, L64, k64, n64⟩, -, X64, ⟨Lc64, hQ64, l64, y64, z64⟩, st64⟩ := Jvm.LawKit.callS X62 hx (y := (⟨"com/example/caprice/caprice/solver/Domains", "every", "(I)J"⟩ : MethodName)) hown (mvT hZ (hw _ (List.mem_of_getElem? (i := 27) rfl))) (mvT hZ (hw _ (List.mem_of_getElem? (i := 28) rfl))) (mvT hZ (hw _ (List.mem_of_getElem? (i := 7) rfl))) (mvT hZ (hw _ (List.mem_of_getElem? (i := 29) rfl))) (by decide) (backOf (W := 2) (rm4_0 l Z a0 hw []  h55 n0 (own_n0 O55) O55) hZ (hw _ (List.mem_of_getElem? (i := 29) rfl)) (hw _ (List.mem_of_getElem? (i := 7) rfl)) (by decide) (by decide)) (g := (mkF m 104 #[.val (.ref ob0), .val (.ref ob1), .val (.int (2 : Int32)), .val (.int (128 : Int32)), .val (.int (1 : Int32))] [(.int (64 : Int32)), (.int (1 : Int32)), (.ref b9)])) rfl (by rw [hml]; rfl) (argsL := [(.int (64 : Int32))]) (rest := [(.int (1 : Int32)), (.ref b9)]) (lenOf pd70 rfl) rfl (by show 2 * 0 + _ ≤ _; exact Nat.le_of_eq rfl) (hb hby d2_104) (fun _ _ => ⟨rfl, e62, (by decide : 5 + 0 ≤ _), (by decide : 134 + 0 ≤ _)⟩)
  dsimp only [Pt.U, Pt.locs, Pt.cells, Pt.slots] at X64 l64 y64 z64 st64 hQ64
  subst l64 y64 z64
  obtain ⟨rfl, N64q, e64⟩ := hQ64
  have N64 := Fr.app N55 N64q
  have J66 := (((V_b9_39.ext E44).other W47 (Ne.symm (Nat.ne_of_lt (Nat.lt_of_lt_of_le (Nat.lt_of_lt_of_le (Nat.lt_of_lt_of_le (Nat.lt_of_lt_of_le lb_b3 (Keep.of_wr W4).1) E5.1) (Keep.of_wr W8).1) bo_b9)))).other W55 (Ne.symm (Nat.ne_of_lt (Nat.lt_of_lt_of_le (Nat.lt_of_lt_of_le lb_b5 (Keep.of_wr W8).1) bo_b9))))
  obtain ⟨ac65, aA65, aq65, aS65, aN65, aH65, aG65⟩ := id J66
  obtain ⟨T67, h67, X67, e67, W67, st67⟩ := stJ X64 hx hZ e64 aA65 (j := (1 : Int32)) (inb_of aS65 ⟨by decide, by decide⟩) (g := (mkF m 107 #[.val (.ref ob0), .val (.ref ob1), .val (.int (2 : Int32)), .val (.int (128 : Int32)), .val (.int (1 : Int32))] [(.long (-1 : Int64)), (.int (1 : Int32)), (.ref b9)])) rfl rfl (hb hby d2_107)
  have V_b9_67 : Arv Z h67 b9 k9 .long (2 : Int32) [(.long (-1 : Int64)), (.long (-1 : Int64))] (.long (0 : Int64)) := Arv.set aA65 aq65 aS65 aN65 aH65 aG65 rfl W67 1 rfl (Nat.le_of_ble_eq_true rfl)
  have N67 := Fr.snoc X67 N64 g_b9
  have O67 := O55.wr W67 g_b9
  have KK67 : Keep h0 h67 [ob0] := KK55.wr W67 (Or.inr sz_b9)
  obtain ⟨T68, h68, k68, X68, e68, E68, A68, B68, st68⟩ := newPE X67 hx hZ (hw _ (List.mem_of_getElem? (i := 8) rfl)) e67 (g := (mkF m 118 #[.val (.ref ob0), .val (.ref ob1), .val (.int (2 : Int32)), .val (.int (128 : Int32)), .val (.int (2 : Int32))] [(.int (256 : Int32)), (.ref ob0)])) rfl (hb hby d2_118) rfl (by decide) (cap := 256) (by decide) (by decide) (by decide) (by decide) (ad := "[I") (by decide)
  obtain ⟨b68, gg68⟩ : ∃ z, z = h67.size := ⟨_, rfl⟩
  rw [← gg68] at A68 B68 st68
  have bo_b68 : h67.size ≤ b68 := Nat.le_of_eq gg68.symm
  have g_b68 : n0 ≤ b68 := Nat.le_trans (own_n0 O67) bo_b68
  have sz_b68 : h0.size ≤ b68 := Nat.le_trans KK67.1 bo_b68
  have V_b68 : Arv Z h68 b68 k68 .int (256 : Int32) [] (.int (0 : Int32)) := Arv.new A68 (by decide)
  have lb_b68 : b68 < h68.size := A68.lt
  have KK68 : Keep h0 h68 [ob0] := KK67.ext E68
  have O68 := O67.ext E68
  have J69 := (((((((((((((((PF_ob0_trail.ext E3).other W4 (Or.inr (slot_ne (Or.inr (hw _ (List.mem_of_getElem? (i := 32) rfl))) (Or.inr (hw _ (List.mem_of_getElem? (i := 18) rfl))) (by decide) (t := (.array .int)) (t' := (.array (.array (.array .int)))) (by decide) (by decide)))).ext E5).other W8 (Or.inr (slot_ne (Or.inr (hw _ (List.mem_of_getElem? (i := 32) rfl))) (Or.inr (hw _ (List.mem_of_getElem? (i := 20) rfl))) (by decide) (t := (.array .int)) (t' := (.array .int)) (by decide) (by decide)))).ext E9).other W11 (Or.inr (slot_ne (Or.inr (hw _ (List.mem_of_getElem? (i := 32) rfl))) (Or.inr (hw _ (List.mem_of_getElem? (i := 23) rfl))) (by decide) (t := (.array .int)) (t' := (.array .long)) (by decide) (by decide)))).ext E16).other W19 (Or.inl (Nat.ne_of_lt (Nat.lt_of_lt_of_le PE_ob0.lt bo_b3)))).other W27 (Or.inl (Nat.ne_of_lt (Nat.lt_of_lt_of_le (Nat.lt_of_lt_of_le (Nat.lt_of_lt_of_le PE_ob0.lt E3.1) (Keep.of_wr W4).1) bo_b5)))).other W39 (Or.inl (Nat.ne_of_lt (Nat.lt_of_lt_of_le (Nat.lt_of_lt_of_le (Nat.lt_of_lt_of_le (Nat.lt_of_lt_of_le (Nat.lt_of_lt_of_le PE_ob0.lt E3.1) (Keep.of_wr W4).1) E5.1) (Keep.of_wr W8).1) bo_b9)))).ext E44).other W47 (Or.inl (Nat.ne_of_lt (Nat.lt_of_lt_of_le PE_ob0.lt bo_b3)))).other W55 (Or.inl (Nat.ne_of_lt (Nat.lt_of_lt_of_le (Nat.lt_of_lt_of_le (Nat.lt_of_lt_of_le PE_ob0.lt E3.1) (Keep.of_wr W4).1) bo_b5)))).other W67 (Or.inl (Nat.ne_of_lt (Nat.lt_of_lt_of_le (Nat.lt_of_lt_of_le (Nat.lt_of_lt_of_le (Nat.lt_of_lt_of_le (Nat.lt_of_lt_of_le PE_ob0.lt E3.1) (Keep.of_wr W4).1) E5.1) (Keep.of_wr W8).1) bo_b9)))).ext E68)
  have J70 := ((((((((((((J7.wr W8).ext E9).wr W11).ext E16).wr W19).wr W27).wr W39).ext E44).wr W47).wr W55).wr W67).ext E68)
  obtain ⟨T71, h71, X71, e71, W71, st71⟩ := putF X68 hx hZ hown (host := "") (Or.inl (hw _ (List.mem_of_getElem? (i := 31) rfl))) Via.refl e68 J69 J70 (Or.inr ⟨(hw _ (List.mem_of_getElem? (i := 32) rfl)), rfl, hnm⟩) (hw _ (List.mem_of_getElem? (i := 6) rfl)) (ty := (.array .int)) (by decide) rfl rfl (g := (mkF m 120 #[.val (.ref ob0), .val (.ref ob1), .val (.int (2 : Int32)), .val (.int (128 : Int32)), .val (.int (2 : Int32))] [(.ref b68), (.ref ob0)])) rfl rfl (hb hby d2_120)
  have Fw71 := J69.same W71
  have N71 := Fr.snoc X71 N67 g_ob0
  have O71 := O68.wr W71 g_ob0
  have KK71 : Keep h0 h71 [ob0] := KK68.wr W71 (Or.inl (List.mem_of_getElem? (i := 0) rfl))
  obtain ⟨T72, h72, k72, X72, e72, E72, A72, B72, st72⟩ := newPE X71 hx hZ (hw _ (List.mem_of_getElem? (i := 8) rfl)) e71 (g := (mkF m 125 #[.val (.ref ob0), .val (.ref ob1), .val (.int (2 : Int32)), .val (.int (128 : Int32)), .val (.int (2 : Int32))] [(.int (2 : Int32)), (.ref ob0)])) rfl (hb hby d2_125) rfl (by decide) (cap := 2) (by decide) (by decide) (by decide) (by decide) (ad := "[I") (by decide)
  obtain ⟨b72, gg72⟩ : ∃ z, z = h71.size := ⟨_, rfl⟩
  rw [← gg72] at A72 B72 st72
  have bo_b72 : h71.size ≤ b72 := Nat.le_of_eq gg72.symm
  have g_b72 : n0 ≤ b72 := Nat.le_trans (own_n0 O71) bo_b72
  have sz_b72 : h0.size ≤ b72 := Nat.le_trans KK71.1 bo_b72
  have V_b72 : Arv Z h72 b72 k72 .int (2 : Int32) [(.int (0 : Int32)), (.int (0 : Int32))] (.int (0 : Int32)) := (Arv.new A72 (by decide)).pad (pad_rep [] (.int (0 : Int32)) 2)
  have lb_b72 : b72 < h72.size := A72.lt
  have KK72 : Keep h0 h72 [ob0] := KK71.ext E72
  have O72 := O71.ext E72
  have J73 := (((((((((((((((((PF_ob0_gathered.ext E3).other W4 (Or.inr (slot_ne (Or.inr (hw _ (List.mem_of_getElem? (i := 34) rfl))) (Or.inr (hw _ (List.mem_of_getElem? (i := 18) rfl))) (by decide) (t := (.array .int)) (t' := (.array (.array (.array .int)))) (by decide) (by decide)))).ext E5).other W8 (Or.inr (slot_ne (Or.inr (hw _ (List.mem_of_getElem? (i := 34) rfl))) (Or.inr (hw _ (List.mem_of_getElem? (i := 20) rfl))) (by decide) (t := (.array .int)) (t' := (.array .int)) (by decide) (by decide)))).ext E9).other W11 (Or.inr (slot_ne (Or.inr (hw _ (List.mem_of_getElem? (i := 34) rfl))) (Or.inr (hw _ (List.mem_of_getElem? (i := 23) rfl))) (by decide) (t := (.array .int)) (t' := (.array .long)) (by decide) (by decide)))).ext E16).other W19 (Or.inl (Nat.ne_of_lt (Nat.lt_of_lt_of_le PE_ob0.lt bo_b3)))).other W27 (Or.inl (Nat.ne_of_lt (Nat.lt_of_lt_of_le (Nat.lt_of_lt_of_le (Nat.lt_of_lt_of_le PE_ob0.lt E3.1) (Keep.of_wr W4).1) bo_b5)))).other W39 (Or.inl (Nat.ne_of_lt (Nat.lt_of_lt_of_le (Nat.lt_of_lt_of_le (Nat.lt_of_lt_of_le (Nat.lt_of_lt_of_le (Nat.lt_of_lt_of_le PE_ob0.lt E3.1) (Keep.of_wr W4).1) E5.1) (Keep.of_wr W8).1) bo_b9)))).ext E44).other W47 (Or.inl (Nat.ne_of_lt (Nat.lt_of_lt_of_le PE_ob0.lt bo_b3)))).other W55 (Or.inl (Nat.ne_of_lt (Nat.lt_of_lt_of_le (Nat.lt_of_lt_of_le (Nat.lt_of_lt_of_le PE_ob0.lt E3.1) (Keep.of_wr W4).1) bo_b5)))).other W67 (Or.inl (Nat.ne_of_lt (Nat.lt_of_lt_of_le (Nat.lt_of_lt_of_le (Nat.lt_of_lt_of_le (Nat.lt_of_lt_of_le (Nat.lt_of_lt_of_le PE_ob0.lt E3.1) (Keep.of_wr W4).1) E5.1) (Keep.of_wr W8).1) bo_b9)))).ext E68).other W71 (Or.inr (slot_ne (Or.inr (hw _ (List.mem_of_getElem? (i := 34) rfl))) (Or.inr (hw _ (List.mem_of_getElem? (i := 32) rfl))) (by decide) (t := (.array .int)) (t' := (.array .int)) (by decide) (by decide)))).ext E72)
  obtain ⟨T74, h74, X74, e74, W74, st74⟩ := putF X72 hx hZ hown (host := "") (Or.inl (hw _ (List.mem_of_getElem? (i := 33) rfl))) Via.refl e72 J73 ((J70.wr W71).ext E72) (Or.inr ⟨(hw _ (List.mem_of_getElem? (i := 34) rfl)), rfl, hnm⟩) (hw _ (List.mem_of_getElem? (i := 6) rfl)) (ty := (.array .int)) (by decide) rfl rfl (g := (mkF m 127 #[.val (.ref ob0), .val (.ref ob1), .val (.int (2 : Int32)), .val (.int (128 : Int32)), .val (.int (2 : Int32))] [(.ref b72), (.ref ob0)])) rfl rfl (hb hby d2_127)
  have Fw74 := J73.same W74
  have N74 := Fr.snoc X74 N71 g_ob0
  have O74 := O72.wr W74 g_ob0
  have KK74 : Keep h0 h74 [ob0] := KK72.wr W74 (Or.inl (List.mem_of_getElem? (i := 0) rfl))
  obtain ⟨T75, h75, k75, X75, e75, E75, A75, B75, st75⟩ := newPE X74 hx hZ (hw _ (List.mem_of_getElem? (i := 35) rfl)) e74 (g := (mkF m 132 #[.val (.ref ob0), .val (.ref ob1), .val (.int (2 : Int32)), .val (.int (128 : Int32)), .val (.int (2 : Int32))] [(.int (2 : Int32)), (.ref ob0)])) rfl (hb hby d2_132) rfl (by decide) (cap := 2) (by decide) (by decide) (by decide) (by decide) (ad := "[Z") (by decide)
  obtain ⟨b75, gg75⟩ : ∃ z, z = h74.size := ⟨_, rfl⟩
  rw [← gg75] at A75 B75 st75
  have bo_b75 : h74.size ≤ b75 := Nat.le_of_eq gg75.symm
  have g_b75 : n0 ≤ b75 := Nat.le_trans (own_n0 O74) bo_b75
  have sz_b75 : h0.size ≤ b75 := Nat.le_trans KK74.1 bo_b75
  have V_b75 : Arv Z h75 b75 k75 .boolean (2 : Int32) [(.int (0 : Int32)), (.int (0 : Int32))] (.int (0 : Int32)) := (Arv.new A75 (by decide)).pad (pad_rep [] (.int (0 : Int32)) 2)
  have lb_b75 : b75 < h75.size := A75.lt
  have KK75 : Keep h0 h75 [ob0] := KK74.ext E75
  have O75 := O74.ext E75
  have J76 := (((((((((((((((((((PF_ob0_marked.ext E3).other W4 (Or.inr (slot_ne (Or.inr (hw _ (List.mem_of_getElem? (i := 37) rfl))) (Or.inr (hw _ (List.mem_of_getElem? (i := 18) rfl))) (by decide) (t := (.array .boolean)) (t' := (.array (.array (.array .int)))) (by decide) (by decide)))).ext E5).other W8 (Or.inr (slot_ne (Or.inr (hw _ (List.mem_of_getElem? (i := 37) rfl))) (Or.inr (hw _ (List.mem_of_getElem? (i := 20) rfl))) (by decide) (t := (.array .boolean)) (t' := (.array .int)) (by decide) (by decide)))).ext E9).other W11 (Or.inr (slot_ne (Or.inr (hw _ (List.mem_of_getElem? (i := 37) rfl))) (Or.inr (hw _ (List.mem_of_getElem? (i := 23) rfl))) (by decide) (t := (.array .boolean)) (t' := (.array .long)) (by decide) (by decide)))).ext E16).other W19 (Or.inl (Nat.ne_of_lt (Nat.lt_of_lt_of_le PE_ob0.lt bo_b3)))).other W27 (Or.inl (Nat.ne_of_lt (Nat.lt_of_lt_of_le (Nat.lt_of_lt_of_le (Nat.lt_of_lt_of_le PE_ob0.lt E3.1) (Keep.of_wr W4).1) bo_b5)))).other W39 (Or.inl (Nat.ne_of_lt (Nat.lt_of_lt_of_le (Nat.lt_of_lt_of_le (Nat.lt_of_lt_of_le (Nat.lt_of_lt_of_le (Nat.lt_of_lt_of_le PE_ob0.lt E3.1) (Keep.of_wr W4).1) E5.1) (Keep.of_wr W8).1) bo_b9)))).ext E44).other W47 (Or.inl (Nat.ne_of_lt (Nat.lt_of_lt_of_le PE_ob0.lt bo_b3)))).other W55 (Or.inl (Nat.ne_of_lt (Nat.lt_of_lt_of_le (Nat.lt_of_lt_of_le (Nat.lt_of_lt_of_le PE_ob0.lt E3.1) (Keep.of_wr W4).1) bo_b5)))).other W67 (Or.inl (Nat.ne_of_lt (Nat.lt_of_lt_of_le (Nat.lt_of_lt_of_le (Nat.lt_of_lt_of_le (Nat.lt_of_lt_of_le (Nat.lt_of_lt_of_le PE_ob0.lt E3.1) (Keep.of_wr W4).1) E5.1) (Keep.of_wr W8).1) bo_b9)))).ext E68).other W71 (Or.inr (slot_ne (Or.inr (hw _ (List.mem_of_getElem? (i := 37) rfl))) (Or.inr (hw _ (List.mem_of_getElem? (i := 32) rfl))) (by decide) (t := (.array .boolean)) (t' := (.array .int)) (by decide) (by decide)))).ext E72).other W74 (Or.inr (slot_ne (Or.inr (hw _ (List.mem_of_getElem? (i := 37) rfl))) (Or.inr (hw _ (List.mem_of_getElem? (i := 34) rfl))) (by decide) (t := (.array .boolean)) (t' := (.array .int)) (by decide) (by decide)))).ext E75)
  have J77 := ((((J70.wr W71).ext E72).wr W74).ext E75)
  obtain ⟨T78, h78, X78, e78, W78, st78⟩ := putF X75 hx hZ hown (host := "") (Or.inl (hw _ (List.mem_of_getElem? (i := 36) rfl))) Via.refl e75 J76 J77 (Or.inr ⟨(hw _ (List.mem_of_getElem? (i := 37) rfl)), rfl, hnm⟩) (hw _ (List.mem_of_getElem? (i := 6) rfl)) (ty := (.array .boolean)) (by decide) rfl rfl (g := (mkF m 134 #[.val (.ref ob0), .val (.ref ob1), .val (.int (2 : Int32)), .val (.int (128 : Int32)), .val (.int (2 : Int32))] [(.ref b75), (.ref ob0)])) rfl rfl (hb hby d2_134)
  have Fw78 := J76.same W78
  have N78 := Fr.snoc X78 N74 g_ob0
  have O78 := O75.wr W78 g_ob0
  have KK78 : Keep h0 h78 [ob0] := KK75.wr W78 (Or.inl (List.mem_of_getElem? (i := 0) rfl))
  have J79 := ((((((((((J40.ext E44).other W47 (Or.inl (Nat.ne_of_lt (Nat.lt_of_lt_of_le PE_ob0.lt bo_b3)))).other W55 (Or.inl (Nat.ne_of_lt (Nat.lt_of_lt_of_le (Nat.lt_of_lt_of_le (Nat.lt_of_lt_of_le PE_ob0.lt E3.1) (Keep.of_wr W4).1) bo_b5)))).other W67 (Or.inl (Nat.ne_of_lt (Nat.lt_of_lt_of_le (Nat.lt_of_lt_of_le (Nat.lt_of_lt_of_le (Nat.lt_of_lt_of_le (Nat.lt_of_lt_of_le PE_ob0.lt E3.1) (Keep.of_wr W4).1) E5.1) (Keep.of_wr W8).1) bo_b9)))).ext E68).other W71 (Or.inr (slot_ne (Or.inr (hw _ (List.mem_of_getElem? (i := 18) rfl))) (Or.inr (hw _ (List.mem_of_getElem? (i := 32) rfl))) (by decide) (t := (.array (.array (.array .int)))) (t' := (.array .int)) (by decide) (by decide)))).ext E72).other W74 (Or.inr (slot_ne (Or.inr (hw _ (List.mem_of_getElem? (i := 18) rfl))) (Or.inr (hw _ (List.mem_of_getElem? (i := 34) rfl))) (by decide) (t := (.array (.array (.array .int)))) (t' := (.array .int)) (by decide) (by decide)))).ext E75).other W78 (Or.inr (slot_ne (Or.inr (hw _ (List.mem_of_getElem? (i := 18) rfl))) (Or.inr (hw _ (List.mem_of_getElem? (i := 37) rfl))) (by decide) (t := (.array (.array (.array .int)))) (t' := (.array .boolean)) (by decide) (by decide))))
  have J80 := ((((((((J48.other W55 (Or.inl (Nat.ne_of_lt (Nat.lt_of_lt_of_le (Nat.lt_of_lt_of_le (Nat.lt_of_lt_of_le PE_ob0.lt E3.1) (Keep.of_wr W4).1) bo_b5)))).other W67 (Or.inl (Nat.ne_of_lt (Nat.lt_of_lt_of_le (Nat.lt_of_lt_of_le (Nat.lt_of_lt_of_le (Nat.lt_of_lt_of_le (Nat.lt_of_lt_of_le PE_ob0.lt E3.1) (Keep.of_wr W4).1) E5.1) (Keep.of_wr W8).1) bo_b9)))).ext E68).other W71 (Or.inr (slot_ne (Or.inr (hw _ (List.mem_of_getElem? (i := 20) rfl))) (Or.inr (hw _ (List.mem_of_getElem? (i := 32) rfl))) (by decide) (t := (.array .int)) (t' := (.array .int)) (by decide) (by decide)))).ext E72).other W74 (Or.inr (slot_ne (Or.inr (hw _ (List.mem_of_getElem? (i := 20) rfl))) (Or.inr (hw _ (List.mem_of_getElem? (i := 34) rfl))) (by decide) (t := (.array .int)) (t' := (.array .int)) (by decide) (by decide)))).ext E75).other W78 (Or.inr (slot_ne (Or.inr (hw _ (List.mem_of_getElem? (i := 20) rfl))) (Or.inr (hw _ (List.mem_of_getElem? (i := 37) rfl))) (by decide) (t := (.array .int)) (t' := (.array .boolean)) (by decide) (by decide))))
  have J81 := (((((((J60.other W67 (Or.inl (Nat.ne_of_lt (Nat.lt_of_lt_of_le (Nat.lt_of_lt_of_le (Nat.lt_of_lt_of_le (Nat.lt_of_lt_of_le (Nat.lt_of_lt_of_le PE_ob0.lt E3.1) (Keep.of_wr W4).1) E5.1) (Keep.of_wr W8).1) bo_b9)))).ext E68).other W71 (Or.inr (slot_ne (Or.inr (hw _ (List.mem_of_getElem? (i := 23) rfl))) (Or.inr (hw _ (List.mem_of_getElem? (i := 32) rfl))) (by decide) (t := (.array .long)) (t' := (.array .int)) (by decide) (by decide)))).ext E72).other W74 (Or.inr (slot_ne (Or.inr (hw _ (List.mem_of_getElem? (i := 23) rfl))) (Or.inr (hw _ (List.mem_of_getElem? (i := 34) rfl))) (by decide) (t := (.array .long)) (t' := (.array .int)) (by decide) (by decide)))).ext E75).other W78 (Or.inr (slot_ne (Or.inr (hw _ (List.mem_of_getElem? (i := 23) rfl))) (Or.inr (hw _ (List.mem_of_getElem? (i := 37) rfl))) (by decide) (t := (.array .long)) (t' := (.array .boolean)) (by decide) (by decide))))
  have J82 := ((((Fw71.ext E72).other W74 (Or.inr (slot_ne (Or.inr (hw _ (List.mem_of_getElem? (i := 32) rfl))) (Or.inr (hw _ (List.mem_of_getElem? (i := 34) rfl))) (by decide) (t := (.array .int)) (t' := (.array .int)) (by decide) (by decide)))).ext E75).other W78 (Or.inr (slot_ne (Or.inr (hw _ (List.mem_of_getElem? (i := 32) rfl))) (Or.inr (hw _ (List.mem_of_getElem? (i := 37) rfl))) (by decide) (t := (.array .int)) (t' := (.array .boolean)) (by decide) (by decide))))
  have J83 := ((((((((((((((((((((PF_ob0_trailSize.ext E3).other W4 (Or.inr (slot_ne (Or.inl (hw _ (List.mem_of_getElem? (i := 44) rfl))) (Or.inr (hw _ (List.mem_of_getElem? (i := 18) rfl))) (by decide) (t := .int) (t' := (.array (.array (.array .int)))) (by decide) (by decide)))).ext E5).other W8 (Or.inr (slot_ne (Or.inl (hw _ (List.mem_of_getElem? (i := 44) rfl))) (Or.inr (hw _ (List.mem_of_getElem? (i := 20) rfl))) (by decide) (t := .int) (t' := (.array .int)) (by decide) (by decide)))).ext E9).other W11 (Or.inr (slot_ne (Or.inl (hw _ (List.mem_of_getElem? (i := 44) rfl))) (Or.inr (hw _ (List.mem_of_getElem? (i := 23) rfl))) (by decide) (t := .int) (t' := (.array .long)) (by decide) (by decide)))).ext E16).other W19 (Or.inl (Nat.ne_of_lt (Nat.lt_of_lt_of_le PE_ob0.lt bo_b3)))).other W27 (Or.inl (Nat.ne_of_lt (Nat.lt_of_lt_of_le (Nat.lt_of_lt_of_le (Nat.lt_of_lt_of_le PE_ob0.lt E3.1) (Keep.of_wr W4).1) bo_b5)))).other W39 (Or.inl (Nat.ne_of_lt (Nat.lt_of_lt_of_le (Nat.lt_of_lt_of_le (Nat.lt_of_lt_of_le (Nat.lt_of_lt_of_le (Nat.lt_of_lt_of_le PE_ob0.lt E3.1) (Keep.of_wr W4).1) E5.1) (Keep.of_wr W8).1) bo_b9)))).ext E44).other W47 (Or.inl (Nat.ne_of_lt (Nat.lt_of_lt_of_le PE_ob0.lt bo_b3)))).other W55 (Or.inl (Nat.ne_of_lt (Nat.lt_of_lt_of_le (Nat.lt_of_lt_of_le (Nat.lt_of_lt_of_le PE_ob0.lt E3.1) (Keep.of_wr W4).1) bo_b5)))).other W67 (Or.inl (Nat.ne_of_lt (Nat.lt_of_lt_of_le (Nat.lt_of_lt_of_le (Nat.lt_of_lt_of_le (Nat.lt_of_lt_of_le (Nat.lt_of_lt_of_le PE_ob0.lt E3.1) (Keep.of_wr W4).1) E5.1) (Keep.of_wr W8).1) bo_b9)))).ext E68).other W71 (Or.inr (slot_ne (Or.inl (hw _ (List.mem_of_getElem? (i := 44) rfl))) (Or.inr (hw _ (List.mem_of_getElem? (i := 32) rfl))) (by decide) (t := .int) (t' := (.array .int)) (by decide) (by decide)))).ext E72).other W74 (Or.inr (slot_ne (Or.inl (hw _ (List.mem_of_getElem? (i := 44) rfl))) (Or.inr (hw _ (List.mem_of_getElem? (i := 34) rfl))) (by decide) (t := .int) (t' := (.array .int)) (by decide) (by decide)))).ext E75).other W78 (Or.inr (slot_ne (Or.inl (hw _ (List.mem_of_getElem? (i := 44) rfl))) (Or.inr (hw _ (List.mem_of_getElem? (i := 37) rfl))) (by decide) (t := .int) (t' := (.array .boolean)) (by decide) (by decide))))
  have J84 := ((((((((V_b3_47.other W55 (Nat.ne_of_lt (Nat.lt_of_lt_of_le (Nat.lt_of_lt_of_le lb_b3 (Keep.of_wr W4).1) bo_b5))).other W67 (Nat.ne_of_lt (Nat.lt_of_lt_of_le (Nat.lt_of_lt_of_le (Nat.lt_of_lt_of_le (Nat.lt_of_lt_of_le lb_b3 (Keep.of_wr W4).1) E5.1) (Keep.of_wr W8).1) bo_b9))).ext E68).other W71 (Ne.symm (Nat.ne_of_lt (Nat.lt_of_lt_of_le PE_ob0.lt bo_b3)))).ext E72).other W74 (Ne.symm (Nat.ne_of_lt (Nat.lt_of_lt_of_le PE_ob0.lt bo_b3)))).ext E75).other W78 (Ne.symm (Nat.ne_of_lt (Nat.lt_of_lt_of_le PE_ob0.lt bo_b3))))
  have J85 := (((((((((((((((((((B3.wr W4).ext E5).wr W8).ext E9).wr W11).ext E16).wr W19).wr W27).wr W39).ext E44).wr W47).wr W55).wr W67).ext E68).wr W71).ext E72).wr W74).ext E75).wr W78)
  have J86 := (((((((V_b5_55.other W67 (Nat.ne_of_lt (Nat.lt_of_lt_of_le (Nat.lt_of_lt_of_le lb_b5 (Keep.of_wr W8).1) bo_b9))).ext E68).other W71 (Ne.symm (Nat.ne_of_lt (Nat.lt_of_lt_of_le (Nat.lt_of_lt_of_le (Nat.lt_of_lt_of_le PE_ob0.lt E3.1) (Keep.of_wr W4).1) bo_b5)))).ext E72).other W74 (Ne.symm (Nat.ne_of_lt (Nat.lt_of_lt_of_le (Nat.lt_of_lt_of_le (Nat.lt_of_lt_of_le PE_ob0.lt E3.1) (Keep.of_wr W4).1) bo_b5)))).ext E75).other W78 (Ne.symm (Nat.ne_of_lt (Nat.lt_of_lt_of_le (Nat.lt_of_lt_of_le (Nat.lt_of_lt_of_le PE_ob0.lt E3.1) (Keep.of_wr W4).1) bo_b5))))
  have J87 := (((((((((((((((((B5.wr W8).ext E9).wr W11).ext E16).wr W19).wr W27).wr W39).ext E44).wr W47).wr W55).wr W67).ext E68).wr W71).ext E72).wr W74).ext E75).wr W78)
  have J88 := ((((((V_b9_67.ext E68).other W71 (Ne.symm (Nat.ne_of_lt (Nat.lt_of_lt_of_le (Nat.lt_of_lt_of_le (Nat.lt_of_lt_of_le (Nat.lt_of_lt_of_le (Nat.lt_of_lt_of_le PE_ob0.lt E3.1) (Keep.of_wr W4).1) E5.1) (Keep.of_wr W8).1) bo_b9)))).ext E72).other W74 (Ne.symm (Nat.ne_of_lt (Nat.lt_of_lt_of_le (Nat.lt_of_lt_of_le (Nat.lt_of_lt_of_le (Nat.lt_of_lt_of_le (Nat.lt_of_lt_of_le PE_ob0.lt E3.1) (Keep.of_wr W4).1) E5.1) (Keep.of_wr W8).1) bo_b9)))).ext E75).other W78 (Ne.symm (Nat.ne_of_lt (Nat.lt_of_lt_of_le (Nat.lt_of_lt_of_le (Nat.lt_of_lt_of_le (Nat.lt_of_lt_of_le (Nat.lt_of_lt_of_le PE_ob0.lt E3.1) (Keep.of_wr W4).1) E5.1) (Keep.of_wr W8).1) bo_b9))))
  have J89 := (((((((((((((((B9.wr W11).ext E16).wr W19).wr W27).wr W39).ext E44).wr W47).wr W55).wr W67).ext E68).wr W71).ext E72).wr W74).ext E75).wr W78)
  have J90 := (((((V_b68.other W71 (Ne.symm (Nat.ne_of_lt (Nat.lt_of_lt_of_le (Nat.lt_of_lt_of_le (Nat.lt_of_lt_of_le (Nat.lt_of_lt_of_le (Nat.lt_of_lt_of_le (Nat.lt_of_lt_of_le (Nat.lt_of_lt_of_le (Nat.lt_of_lt_of_le (Nat.lt_of_lt_of_le (Nat.lt_of_lt_of_le (Nat.lt_of_lt_of_le (Nat.lt_of_lt_of_le (Nat.lt_of_lt_of_le (Nat.lt_of_lt_of_le (Nat.lt_of_lt_of_le PE_ob0.lt E3.1) (Keep.of_wr W4).1) E5.1) (Keep.of_wr W8).1) E9.1) (Keep.of_wr W11).1) E16.1) (Keep.of_wr W19).1) (Keep.of_wr W27).1) (Keep.of_wr W39).1) E44.1) (Keep.of_wr W47).1) (Keep.of_wr W55).1) (Keep.of_wr W67).1) bo_b68)))).ext E72).other W74 (Ne.symm (Nat.ne_of_lt (Nat.lt_of_lt_of_le (Nat.lt_of_lt_of_le (Nat.lt_of_lt_of_le (Nat.lt_of_lt_of_le (Nat.lt_of_lt_of_le (Nat.lt_of_lt_of_le (Nat.lt_of_lt_of_le (Nat.lt_of_lt_of_le (Nat.lt_of_lt_of_le (Nat.lt_of_lt_of_le (Nat.lt_of_lt_of_le (Nat.lt_of_lt_of_le (Nat.lt_of_lt_of_le (Nat.lt_of_lt_of_le (Nat.lt_of_lt_of_le PE_ob0.lt E3.1) (Keep.of_wr W4).1) E5.1) (Keep.of_wr W8).1) E9.1) (Keep.of_wr W11).1) E16.1) (Keep.of_wr W19).1) (Keep.of_wr W27).1) (Keep.of_wr W39).1) E44.1) (Keep.of_wr W47).1) (Keep.of_wr W55).1) (Keep.of_wr W67).1) bo_b68)))).ext E75).other W78 (Ne.symm (Nat.ne_of_lt (Nat.lt_of_lt_of_le (Nat.lt_of_lt_of_le (Nat.lt_of_lt_of_le (Nat.lt_of_lt_of_le (Nat.lt_of_lt_of_le (Nat.lt_of_lt_of_le (Nat.lt_of_lt_of_le (Nat.lt_of_lt_of_le (Nat.lt_of_lt_of_le (Nat.lt_of_lt_of_le (Nat.lt_of_lt_of_le (Nat.lt_of_lt_of_le (Nat.lt_of_lt_of_le (Nat.lt_of_lt_of_le (Nat.lt_of_lt_of_le PE_ob0.lt E3.1) (Keep.of_wr W4).1) E5.1) (Keep.of_wr W8).1) E9.1) (Keep.of_wr W11).1) E16.1) (Keep.of_wr W19).1) (Keep.of_wr W27).1) (Keep.of_wr W39).1) E44.1) (Keep.of_wr W47).1) (Keep.of_wr W55).1) (Keep.of_wr W67).1) bo_b68))))
  have J91 := (((((B68.wr W71).ext E72).wr W74).ext E75).wr W78)
  have J92 := (((V_b72.other W74 (Ne.symm (Nat.ne_of_lt (Nat.lt_of_lt_of_le (Nat.lt_of_lt_of_le (Nat.lt_of_lt_of_le (Nat.lt_of_lt_of_le (Nat.lt_of_lt_of_le (Nat.lt_of_lt_of_le (Nat.lt_of_lt_of_le (Nat.lt_of_lt_of_le (Nat.lt_of_lt_of_le (Nat.lt_of_lt_of_le (Nat.lt_of_lt_of_le (Nat.lt_of_lt_of_le (Nat.lt_of_lt_of_le (Nat.lt_of_lt_of_le (Nat.lt_of_lt_of_le (Nat.lt_of_lt_of_le (Nat.lt_of_lt_of_le PE_ob0.lt E3.1) (Keep.of_wr W4).1) E5.1) (Keep.of_wr W8).1) E9.1) (Keep.of_wr W11).1) E16.1) (Keep.of_wr W19).1) (Keep.of_wr W27).1) (Keep.of_wr W39).1) E44.1) (Keep.of_wr W47).1) (Keep.of_wr W55).1) (Keep.of_wr W67).1) E68.1) (Keep.of_wr W71).1) bo_b72)))).ext E75).other W78 (Ne.symm (Nat.ne_of_lt (Nat.lt_of_lt_of_le (Nat.lt_of_lt_of_le (Nat.lt_of_lt_of_le (Nat.lt_of_lt_of_le (Nat.lt_of_lt_of_le (Nat.lt_of_lt_of_le (Nat.lt_of_lt_of_le (Nat.lt_of_lt_of_le (Nat.lt_of_lt_of_le (Nat.lt_of_lt_of_le (Nat.lt_of_lt_of_le (Nat.lt_of_lt_of_le (Nat.lt_of_lt_of_le (Nat.lt_of_lt_of_le (Nat.lt_of_lt_of_le (Nat.lt_of_lt_of_le (Nat.lt_of_lt_of_le PE_ob0.lt E3.1) (Keep.of_wr W4).1) E5.1) (Keep.of_wr W8).1) E9.1) (Keep.of_wr W11).1) E16.1) (Keep.of_wr W19).1) (Keep.of_wr W27).1) (Keep.of_wr W39).1) E44.1) (Keep.of_wr W47).1) (Keep.of_wr W55).1) (Keep.of_wr W67).1) E68.1) (Keep.of_wr W71).1) bo_b72))))
  have J93 := (((B72.wr W74).ext E75).wr W78)
  have J94 := (((((((((((((V_b16.other W19 (Ne.symm (Nat.ne_of_lt (Nat.lt_of_lt_of_le (Nat.lt_of_lt_of_le (Nat.lt_of_lt_of_le (Nat.lt_of_lt_of_le (Nat.lt_of_lt_of_le (Nat.lt_of_lt_of_le lb_b3 (Keep.of_wr W4).1) E5.1) (Keep.of_wr W8).1) E9.1) (Keep.of_wr W11).1) bo_b16)))).other W27 (Ne.symm (Nat.ne_of_lt (Nat.lt_of_lt_of_le (Nat.lt_of_lt_of_le (Nat.lt_of_lt_of_le (Nat.lt_of_lt_of_le lb_b5 (Keep.of_wr W8).1) E9.1) (Keep.of_wr W11).1) bo_b16)))).other W39 (Ne.symm (Nat.ne_of_lt (Nat.lt_of_lt_of_le (Nat.lt_of_lt_of_le lb_b9 (Keep.of_wr W11).1) bo_b16)))).ext E44).other W47 (Ne.symm (Nat.ne_of_lt (Nat.lt_of_lt_of_le (Nat.lt_of_lt_of_le (Nat.lt_of_lt_of_le (Nat.lt_of_lt_of_le (Nat.lt_of_lt_of_le (Nat.lt_of_lt_of_le lb_b3 (Keep.of_wr W4).1) E5.1) (Keep.of_wr W8).1) E9.1) (Keep.of_wr W11).1) bo_b16)))).other W55 (Ne.symm (Nat.ne_of_lt (Nat.lt_of_lt_of_le (Nat.lt_of_lt_of_le (Nat.lt_of_lt_of_le (Nat.lt_of_lt_of_le lb_b5 (Keep.of_wr W8).1) E9.1) (Keep.of_wr W11).1) bo_b16)))).other W67 (Ne.symm (Nat.ne_of_lt (Nat.lt_of_lt_of_le (Nat.lt_of_lt_of_le lb_b9 (Keep.of_wr W11).1) bo_b16)))).ext E68).other W71 (Ne.symm (Nat.ne_of_lt (Nat.lt_of_lt_of_le (Nat.lt_of_lt_of_le (Nat.lt_of_lt_of_le (Nat.lt_of_lt_of_le (Nat.lt_of_lt_of_le (Nat.lt_of_lt_of_le (Nat.lt_of_lt_of_le PE_ob0.lt E3.1) (Keep.of_wr W4).1) E5.1) (Keep.of_wr W8).1) E9.1) (Keep.of_wr W11).1) bo_b16)))).ext E72).other W74 (Ne.symm (Nat.ne_of_lt (Nat.lt_of_lt_of_le (Nat.lt_of_lt_of_le (Nat.lt_of_lt_of_le (Nat.lt_of_lt_of_le (Nat.lt_of_lt_of_le (Nat.lt_of_lt_of_le (Nat.lt_of_lt_of_le PE_ob0.lt E3.1) (Keep.of_wr W4).1) E5.1) (Keep.of_wr W8).1) E9.1) (Keep.of_wr W11).1) bo_b16)))).ext E75).other W78 (Ne.symm (Nat.ne_of_lt (Nat.lt_of_lt_of_le (Nat.lt_of_lt_of_le (Nat.lt_of_lt_of_le (Nat.lt_of_lt_of_le (Nat.lt_of_lt_of_le (Nat.lt_of_lt_of_le (Nat.lt_of_lt_of_le PE_ob0.lt E3.1) (Keep.of_wr W4).1) E5.1) (Keep.of_wr W8).1) E9.1) (Keep.of_wr W11).1) bo_b16))))
  have J95 := (((((((((((((B16.wr W19).wr W27).wr W39).ext E44).wr W47).wr W55).wr W67).ext E68).wr W71).ext E72).wr W74).ext E75).wr W78)
  have J96 := (((((((((V_b44.other W47 (Ne.symm (Nat.ne_of_lt (Nat.lt_of_lt_of_le (Nat.lt_of_lt_of_le (Nat.lt_of_lt_of_le (Nat.lt_of_lt_of_le (Nat.lt_of_lt_of_le (Nat.lt_of_lt_of_le (Nat.lt_of_lt_of_le (Nat.lt_of_lt_of_le (Nat.lt_of_lt_of_le (Nat.lt_of_lt_of_le lb_b3 (Keep.of_wr W4).1) E5.1) (Keep.of_wr W8).1) E9.1) (Keep.of_wr W11).1) E16.1) (Keep.of_wr W19).1) (Keep.of_wr W27).1) (Keep.of_wr W39).1) bo_b44)))).other W55 (Ne.symm (Nat.ne_of_lt (Nat.lt_of_lt_of_le (Nat.lt_of_lt_of_le (Nat.lt_of_lt_of_le (Nat.lt_of_lt_of_le (Nat.lt_of_lt_of_le (Nat.lt_of_lt_of_le (Nat.lt_of_lt_of_le (Nat.lt_of_lt_of_le lb_b5 (Keep.of_wr W8).1) E9.1) (Keep.of_wr W11).1) E16.1) (Keep.of_wr W19).1) (Keep.of_wr W27).1) (Keep.of_wr W39).1) bo_b44)))).other W67 (Ne.symm (Nat.ne_of_lt (Nat.lt_of_lt_of_le (Nat.lt_of_lt_of_le (Nat.lt_of_lt_of_le (Nat.lt_of_lt_of_le (Nat.lt_of_lt_of_le (Nat.lt_of_lt_of_le lb_b9 (Keep.of_wr W11).1) E16.1) (Keep.of_wr W19).1) (Keep.of_wr W27).1) (Keep.of_wr W39).1) bo_b44)))).ext E68).other W71 (Ne.symm (Nat.ne_of_lt (Nat.lt_of_lt_of_le (Nat.lt_of_lt_of_le (Nat.lt_of_lt_of_le (Nat.lt_of_lt_of_le (Nat.lt_of_lt_of_le (Nat.lt_of_lt_of_le (Nat.lt_of_lt_of_le (Nat.lt_of_lt_of_le (Nat.lt_of_lt_of_le (Nat.lt_of_lt_of_le (Nat.lt_of_lt_of_le PE_ob0.lt E3.1) (Keep.of_wr W4).1) E5.1) (Keep.of_wr W8).1) E9.1) (Keep.of_wr W11).1) E16.1) (Keep.of_wr W19).1) (Keep.of_wr W27).1) (Keep.of_wr W39).1) bo_b44)))).ext E72).other W74 (Ne.symm (Nat.ne_of_lt (Nat.lt_of_lt_of_le (Nat.lt_of_lt_of_le (Nat.lt_of_lt_of_le (Nat.lt_of_lt_of_le (Nat.lt_of_lt_of_le (Nat.lt_of_lt_of_le (Nat.lt_of_lt_of_le (Nat.lt_of_lt_of_le (Nat.lt_of_lt_of_le (Nat.lt_of_lt_of_le (Nat.lt_of_lt_of_le PE_ob0.lt E3.1) (Keep.of_wr W4).1) E5.1) (Keep.of_wr W8).1) E9.1) (Keep.of_wr W11).1) E16.1) (Keep.of_wr W19).1) (Keep.of_wr W27).1) (Keep.of_wr W39).1) bo_b44)))).ext E75).other W78 (Ne.symm (Nat.ne_of_lt (Nat.lt_of_lt_of_le (Nat.lt_of_lt_of_le (Nat.lt_of_lt_of_le (Nat.lt_of_lt_of_le (Nat.lt_of_lt_of_le (Nat.lt_of_lt_of_le (Nat.lt_of_lt_of_le (Nat.lt_of_lt_of_le (Nat.lt_of_lt_of_le (Nat.lt_of_lt_of_le (Nat.lt_of_lt_of_le PE_ob0.lt E3.1) (Keep.of_wr W4).1) E5.1) (Keep.of_wr W8).1) E9.1) (Keep.of_wr W11).1) E16.1) (Keep.of_wr W19).1) (Keep.of_wr W27).1) (Keep.of_wr W39).1) bo_b44))))
  have J97 := (((((((((B44.wr W47).wr W55).wr W67).ext E68).wr W71).ext E72).wr W74).ext E75).wr W78)
  obtain ⟨fs, hr, hrun, hended, hW, hsame⟩ := X78.leave (v := none) (fun _ => rfl)
  refine ⟨_, _, pre0 _ ?_, hrun, hended, _, _, rfl, ?_, ⟨_, rfl⟩, hW, hsame.mono (by decide) (by decide)⟩
  · show Steps p.tables e below (s₁.setTop (mkF m 0 #[.val (.ref ob0), .val (.ref ob1), .unset, .unset, .unset] [])) _
    refine XS.aloadN X0.here hx rfl (hb hby d2_0) rfl rfl ?_
    show Steps p.tables e below (s₁.setTop (mkF m 1 #[.val (.ref ob0), .val (.ref ob1), .unset, .unset, .unset] [(.ref ob0)])) _
    refine st1 _ ?_
    show Steps p.tables e below (T1.setTop (mkF m 4 #[.val (.ref ob0), .val (.ref ob1), .unset, .unset, .unset] [])) _
    refine XS.aloadN X1.here hx rfl (hb hby d2_4) rfl rfl ?_
    show Steps p.tables e below (T1.setTop (mkF m 5 #[.val (.ref ob0), .val (.ref ob1), .unset, .unset, .unset] [(.ref ob1)])) _
    refine X1.arraylength hx (by rw [e1]; exact aA2.1) (State.isArrayOf_alike hZ.alike aA2.2.1) (g := (mkF m 5 #[.val (.ref ob0), .val (.ref ob1), .unset, .unset, .unset] [(.ref ob1)])) rfl rfl (hb hby d2_5) _ ?_
    rw [len_of aS2 aN2]
    show Steps p.tables e below (T1.setTop (mkF m 6 #[.val (.ref ob0), .val (.ref ob1), .unset, .unset, .unset] [(.int (2 : Int32))])) _
    refine XS.istoreN X1.here hx rfl (hb hby d2_6) rfl (l' := #[.val (.ref ob0), .val (.ref ob1), .val (.int (2 : Int32)), .unset, .unset]) rfl ?_
    show Steps p.tables e below (T1.setTop (mkF m 7 #[.val (.ref ob0), .val (.ref ob1), .val (.int (2 : Int32)), .unset, .unset] [])) _
    refine XS.aloadN X1.here hx rfl (hb hby d2_7) rfl rfl ?_
    show Steps p.tables e below (T1.setTop (mkF m 8 #[.val (.ref ob0), .val (.ref ob1), .val (.int (2 : Int32)), .unset, .unset] [(.ref ob0)])) _
    refine XS.iloadN X1.here hx rfl (hb hby d2_8) rfl ?_
    show Steps p.tables e below (T1.setTop (mkF m 9 #[.val (.ref ob0), .val (.ref ob1), .val (.int (2 : Int32)), .unset, .unset] [(.int (2 : Int32)), (.ref ob0)])) _
    refine st3 _ ?_
    show Steps p.tables e below (T3.setTop (mkF m 12 #[.val (.ref ob0), .val (.ref ob1), .val (.int (2 : Int32)), .unset, .unset] [(.ref b3), (.ref ob0)])) _
    refine st4 _ ?_
    show Steps p.tables e below (T4.setTop (mkF m 15 #[.val (.ref ob0), .val (.ref ob1), .val (.int (2 : Int32)), .unset, .unset] [])) _
    refine XS.aloadN X4.here hx rfl (hb hby d2_15) rfl rfl ?_
    show Steps p.tables e below (T4.setTop (mkF m 16 #[.val (.ref ob0), .val (.ref ob1), .val (.int (2 : Int32)), .unset, .unset] [(.ref ob0)])) _
    refine XS.iloadN X4.here hx rfl (hb hby d2_16) rfl ?_
    show Steps p.tables e below (T4.setTop (mkF m 17 #[.val (.ref ob0), .val (.ref ob1), .val (.int (2 : Int32)), .unset, .unset] [(.int (2 : Int32)), (.ref ob0)])) _
    refine st5 _ ?_
    show Steps p.tables e below (T5.setTop (mkF m 19 #[.val (.ref ob0), .val (.ref ob1), .val (.int (2 : Int32)), .unset, .unset] [(.ref b5), (.ref ob0)])) _
    refine st8 _ ?_
    show Steps p.tables e below (T8.setTop (mkF m 22 #[.val (.ref ob0), .val (.ref ob1), .val (.int (2 : Int32)), .unset, .unset] [])) _
    refine XS.aloadN X8.here hx rfl (hb hby d2_22) rfl rfl ?_
    show Steps p.tables e below (T8.setTop (mkF m 23 #[.val (.ref ob0), .val (.ref ob1), .val (.int (2 : Int32)), .unset, .unset] [(.ref ob0)])) _
    refine XS.iloadN X8.here hx rfl (hb hby d2_23) rfl ?_
    show Steps p.tables e below (T8.setTop (mkF m 24 #[.val (.ref ob0), .val (.ref ob1), .val (.int (2 : Int32)), .unset, .unset] [(.int (2 : Int32)), (.ref ob0)])) _
    refine st9 _ ?_
    show Steps p.tables e below (T9.setTop (mkF m 26 #[.val (.ref ob0), .val (.ref ob1), .val (.int (2 : Int32)), .unset, .unset] [(.ref b9), (.ref ob0)])) _
    refine st11 _ ?_
    show Steps p.tables e below (T11.setTop (mkF m 29 #[.val (.ref ob0), .val (.ref ob1), .val (.int (2 : Int32)), .unset, .unset] [])) _
    refine XS.iconst X11.here hx rfl (hb hby d2_29) ?_
    show Steps p.tables e below (T11.setTop (mkF m 30 #[.val (.ref ob0), .val (.ref ob1), .val (.int (2 : Int32)), .unset, .unset] [(.int (0 : Int32))])) _
    refine XS.istoreN X11.here hx rfl (hb hby d2_30) rfl (l' := #[.val (.ref ob0), .val (.ref ob1), .val (.int (2 : Int32)), .val (.int (0 : Int32)), .unset]) rfl ?_
    show Steps p.tables e below (T11.setTop (mkF m 31 #[.val (.ref ob0), .val (.ref ob1), .val (.int (2 : Int32)), .val (.int (0 : Int32)), .unset] [])) _
    refine XS.iconst X11.here hx rfl (hb hby d2_31) ?_
    show Steps p.tables e below (T11.setTop (mkF m 32 #[.val (.ref ob0), .val (.ref ob1), .val (.int (2 : Int32)), .val (.int (0 : Int32)), .unset] [(.int (0 : Int32))])) _
    refine XS.istore X11.here hx rfl (hb hby d2_32) rfl (l' := #[.val (.ref ob0), .val (.ref ob1), .val (.int (2 : Int32)), .val (.int (0 : Int32)), .val (.int (0 : Int32))]) rfl ?_
    show Steps p.tables e below (T11.setTop (mkF m 34 #[.val (.ref ob0), .val (.ref ob1), .val (.int (2 : Int32)), .val (.int (0 : Int32)), .val (.int (0 : Int32))] [])) _
    refine XS.iload X11.here hx rfl (hb hby d2_34) rfl ?_
    show Steps p.tables e below (T11.setTop (mkF m 36 #[.val (.ref ob0), .val (.ref ob1), .val (.int (2 : Int32)), .val (.int (0 : Int32)), .val (.int (0 : Int32))] [(.int (0 : Int32))])) _
    refine XS.iloadN X11.here hx rfl (hb hby d2_36) rfl ?_
    show Steps p.tables e below (T11.setTop (mkF m 37 #[.val (.ref ob0), .val (.ref ob1), .val (.int (2 : Int32)), .val (.int (0 : Int32)), .val (.int (0 : Int32))] [(.int (2 : Int32)), (.int (0 : Int32))])) _
    refine XS.icmpNo X11.here hx rfl (hb hby d2_37) rfl (tlt (by decide : (0 : Int32) < (2 : Int32))).2.1 ?_
    show Steps p.tables e below (T11.setTop (mkF m 40 #[.val (.ref ob0), .val (.ref ob1), .val (.int (2 : Int32)), .val (.int (0 : Int32)), .val (.int (0 : Int32))] [])) _
    refine XS.aloadN X11.here hx rfl (hb hby d2_40) rfl rfl ?_
    show Steps p.tables e below (T11.setTop (mkF m 41 #[.val (.ref ob0), .val (.ref ob1), .val (.int (2 : Int32)), .val (.int (0 : Int32)), .val (.int (0 : Int32))] [(.ref ob0)])) _
    refine st13 _ ?_
    show Steps p.tables e below (T13.setTop (mkF m 44 #[.val (.ref ob0), .val (.ref ob1), .val (.int (2 : Int32)), .val (.int (0 : Int32)), .val (.int (0 : Int32))] [(.ref b3)])) _
    refine XS.iload X13.here hx rfl (hb hby d2_44) rfl ?_
    show Steps p.tables e below (T13.setTop (mkF m 46 #[.val (.ref ob0), .val (.ref ob1), .val (.int (2 : Int32)), .val (.int (0 : Int32)), .val (.int (0 : Int32))] [(.int (0 : Int32)), (.ref b3)])) _
    refine XS.aloadN X13.here hx rfl (hb hby d2_46) rfl rfl ?_
    show Steps p.tables e below (T13.setTop (mkF m 47 #[.val (.ref ob0), .val (.ref ob1), .val (.int (2 : Int32)), .val (.int (0 : Int32)), .val (.int (0 : Int32))] [(.ref ob1), (.int (0 : Int32)), (.ref b3)])) _
    refine XS.iload X13.here hx rfl (hb hby d2_47) rfl ?_
    show Steps p.tables e below (T13.setTop (mkF m 49 #[.val (.ref ob0), .val (.ref ob1), .val (.int (2 : Int32)), .val (.int (0 : Int32)), .val (.int (0 : Int32))] [(.int (0 : Int32)), (.ref ob1), (.int (0 : Int32)), (.ref b3)])) _
    refine X13.iaload hx (j := (0 : Int32)) (v := (.int (64 : Int32))) (by rw [e13]; exact aA14.1) (State.isArrayOf_alike hZ.alike aA14.2.1) aA14.2.2 (inb_of aS14 ⟨by decide, by decide⟩) (aH14.at (inb_of aS14 ⟨by decide, by decide⟩) rfl) (g := (mkF m 49 #[.val (.ref ob0), .val (.ref ob1), .val (.int (2 : Int32)), .val (.int (0 : Int32)), .val (.int (0 : Int32))] [(.int (0 : Int32)), (.ref ob1), (.int (0 : Int32)), (.ref b3)])) rfl rfl (hb hby d2_49) _ ?_
    show Steps p.tables e below (T13.setTop (mkF m 50 #[.val (.ref ob0), .val (.ref ob1), .val (.int (2 : Int32)), .val (.int (0 : Int32)), .val (.int (0 : Int32))] [(.int (64 : Int32)), (.int (0 : Int32)), (.ref b3)])) _
    refine st16 _ ?_
    show Steps p.tables e below (T16.setTop (mkF m 53 #[.val (.ref ob0), .val (.ref ob1), .val (.int (2 : Int32)), .val (.int (0 : Int32)), .val (.int (0 : Int32))] [(.ref b16), (.int (0 : Int32)), (.ref b3)])) _
    refine st19 _ ?_
    show Steps p.tables e below (T19.setTop (mkF m 54 #[.val (.ref ob0), .val (.ref ob1), .val (.int (2 : Int32)), .val (.int (0 : Int32)), .val (.int (0 : Int32))] [])) _
    refine XS.aloadN X19.here hx rfl (hb hby d2_54) rfl rfl ?_
    show Steps p.tables e below (T19.setTop (mkF m 55 #[.val (.ref ob0), .val (.ref ob1), .val (.int (2 : Int32)), .val (.int (0 : Int32)), .val (.int (0 : Int32))] [(.ref ob0)])) _
    refine st21 _ ?_
    show Steps p.tables e below (T21.setTop (mkF m 58 #[.val (.ref ob0), .val (.ref ob1), .val (.int (2 : Int32)), .val (.int (0 : Int32)), .val (.int (0 : Int32))] [(.ref b5)])) _
    refine XS.iload X21.here hx rfl (hb hby d2_58) rfl ?_
    show Steps p.tables e below (T21.setTop (mkF m 60 #[.val (.ref ob0), .val (.ref ob1), .val (.int (2 : Int32)), .val (.int (0 : Int32)), .val (.int (0 : Int32))] [(.int (0 : Int32)), (.ref b5)])) _
    refine XS.aloadN X21.here hx rfl (hb hby d2_60) rfl rfl ?_
    show Steps p.tables e below (T21.setTop (mkF m 61 #[.val (.ref ob0), .val (.ref ob1), .val (.int (2 : Int32)), .val (.int (0 : Int32)), .val (.int (0 : Int32))] [(.ref ob0), (.int (0 : Int32)), (.ref b5)])) _
    refine st22 _ ?_
    show Steps p.tables e below (T22.setTop (mkF m 64 #[.val (.ref ob0), .val (.ref ob1), .val (.int (2 : Int32)), .val (.int (0 : Int32)), .val (.int (0 : Int32))] [(.ref b3), (.int (0 : Int32)), (.ref b5)])) _
    refine XS.iload X22.here hx rfl (hb hby d2_64) rfl ?_
    show Steps p.tables e below (T22.setTop (mkF m 66 #[.val (.ref ob0), .val (.ref ob1), .val (.int (2 : Int32)), .val (.int (0 : Int32)), .val (.int (0 : Int32))] [(.int (0 : Int32)), (.ref b3), (.int (0 : Int32)), (.ref b5)])) _
    refine X22.aaload hx (j := (0 : Int32)) (v := (.ref b16)) (by rw [e22]; exact aA23.1) (State.isArrayOf_alike hZ.alike aA23.2.1) rfl aA23.2.2 (inb_of aS23 ⟨by decide, by decide⟩) (aH23.at (inb_of aS23 ⟨by decide, by decide⟩) rfl) (g := (mkF m 66 #[.val (.ref ob0), .val (.ref ob1), .val (.int (2 : Int32)), .val (.int (0 : Int32)), .val (.int (0 : Int32))] [(.int (0 : Int32)), (.ref b3), (.int (0 : Int32)), (.ref b5)])) rfl rfl (hb hby d2_66) _ ?_
    show Steps p.tables e below (T22.setTop (mkF m 67 #[.val (.ref ob0), .val (.ref ob1), .val (.int (2 : Int32)), .val (.int (0 : Int32)), .val (.int (0 : Int32))] [(.ref b16), (.int (0 : Int32)), (.ref b5)])) _
    refine X22.arraylength hx (by rw [e22]; exact aA24.1) (State.isArrayOf_alike hZ.alike aA24.2.1) (g := (mkF m 67 #[.val (.ref ob0), .val (.ref ob1), .val (.int (2 : Int32)), .val (.int (0 : Int32)), .val (.int (0 : Int32))] [(.ref b16), (.int (0 : Int32)), (.ref b5)])) rfl rfl (hb hby d2_67) _ ?_
    rw [len_of aS24 aN24]
    show Steps p.tables e below (T22.setTop (mkF m 68 #[.val (.ref ob0), .val (.ref ob1), .val (.int (2 : Int32)), .val (.int (0 : Int32)), .val (.int (0 : Int32))] [(.int (64 : Int32)), (.int (0 : Int32)), (.ref b5)])) _
    refine st27 _ ?_
    show Steps p.tables e below (T27.setTop (mkF m 69 #[.val (.ref ob0), .val (.ref ob1), .val (.int (2 : Int32)), .val (.int (0 : Int32)), .val (.int (0 : Int32))] [])) _
    refine XS.iloadN X27.here hx rfl (hb hby d2_69) rfl ?_
    show Steps p.tables e below (T27.setTop (mkF m 70 #[.val (.ref ob0), .val (.ref ob1), .val (.int (2 : Int32)), .val (.int (0 : Int32)), .val (.int (0 : Int32))] [(.int (0 : Int32))])) _
    refine XS.aloadN X27.here hx rfl (hb hby d2_70) rfl rfl ?_
    show Steps p.tables e below (T27.setTop (mkF m 71 #[.val (.ref ob0), .val (.ref ob1), .val (.int (2 : Int32)), .val (.int (0 : Int32)), .val (.int (0 : Int32))] [(.ref ob0), (.int (0 : Int32))])) _
    refine st28 _ ?_
    show Steps p.tables e below (T28.setTop (mkF m 74 #[.val (.ref ob0), .val (.ref ob1), .val (.int (2 : Int32)), .val (.int (0 : Int32)), .val (.int (0 : Int32))] [(.ref b5), (.int (0 : Int32))])) _
    refine XS.iload X28.here hx rfl (hb hby d2_74) rfl ?_
    show Steps p.tables e below (T28.setTop (mkF m 76 #[.val (.ref ob0), .val (.ref ob1), .val (.int (2 : Int32)), .val (.int (0 : Int32)), .val (.int (0 : Int32))] [(.int (0 : Int32)), (.ref b5), (.int (0 : Int32))])) _
    refine X28.iaload hx (j := (0 : Int32)) (v := (.int (64 : Int32))) (by rw [e28]; exact aA29.1) (State.isArrayOf_alike hZ.alike aA29.2.1) aA29.2.2 (inb_of aS29 ⟨by decide, by decide⟩) (aH29.at (inb_of aS29 ⟨by decide, by decide⟩) rfl) (g := (mkF m 76 #[.val (.ref ob0), .val (.ref ob1), .val (.int (2 : Int32)), .val (.int (0 : Int32)), .val (.int (0 : Int32))] [(.int (0 : Int32)), (.ref b5), (.int (0 : Int32))])) rfl rfl (hb hby d2_76) _ ?_
    show Steps p.tables e below (T28.setTop (mkF m 77 #[.val (.ref ob0), .val (.ref ob1), .val (.int (2 : Int32)), .val (.int (0 : Int32)), .val (.int (0 : Int32))] [(.int (64 : Int32)), (.int (0 : Int32))])) _
    refine XS.iadd X28.here hx rfl (hb hby d2_77) rfl ?_
    rw [show ((0 : Int32) + (64 : Int32)) = (64 : Int32) from by decide]
    show Steps p.tables e below (T28.setTop (mkF m 78 #[.val (.ref ob0), .val (.ref ob1), .val (.int (2 : Int32)), .val (.int (0 : Int32)), .val (.int (0 : Int32))] [(.int (64 : Int32))])) _
    refine XS.istoreN X28.here hx rfl (hb hby d2_78) rfl (l' := #[.val (.ref ob0), .val (.ref ob1), .val (.int (2 : Int32)), .val (.int (64 : Int32)), .val (.int (0 : Int32))]) rfl ?_
    show Steps p.tables e below (T28.setTop (mkF m 79 #[.val (.ref ob0), .val (.ref ob1), .val (.int (2 : Int32)), .val (.int (64 : Int32)), .val (.int (0 : Int32))] [])) _
    refine XS.aloadN X28.here hx rfl (hb hby d2_79) rfl rfl ?_
    show Steps p.tables e below (T28.setTop (mkF m 80 #[.val (.ref ob0), .val (.ref ob1), .val (.int (2 : Int32)), .val (.int (64 : Int32)), .val (.int (0 : Int32))] [(.ref ob0)])) _
    refine st30 _ ?_
    show Steps p.tables e below (T30.setTop (mkF m 83 #[.val (.ref ob0), .val (.ref ob1), .val (.int (2 : Int32)), .val (.int (64 : Int32)), .val (.int (0 : Int32))] [(.ref b5)])) _
    refine XS.iload X30.here hx rfl (hb hby d2_83) rfl ?_
    show Steps p.tables e below (T30.setTop (mkF m 85 #[.val (.ref ob0), .val (.ref ob1), .val (.int (2 : Int32)), .val (.int (64 : Int32)), .val (.int (0 : Int32))] [(.int (0 : Int32)), (.ref b5)])) _
    refine X30.iaload hx (j := (0 : Int32)) (v := (.int (64 : Int32))) (by rw [e30]; exact aA31.1) (State.isArrayOf_alike hZ.alike aA31.2.1) aA31.2.2 (inb_of aS31 ⟨by decide, by decide⟩) (aH31.at (inb_of aS31 ⟨by decide, by decide⟩) rfl) (g := (mkF m 85 #[.val (.ref ob0), .val (.ref ob1), .val (.int (2 : Int32)), .val (.int (64 : Int32)), .val (.int (0 : Int32))] [(.int (0 : Int32)), (.ref b5)])) rfl rfl (hb hby d2_85) _ ?_
    show Steps p.tables e below (T30.setTop (mkF m 86 #[.val (.ref ob0), .val (.ref ob1), .val (.int (2 : Int32)), .val (.int (64 : Int32)), .val (.int (0 : Int32))] [(.int (64 : Int32))])) _
    refine XS.bipush X30.here hx rfl (hb hby d2_86) ?_
    show Steps p.tables e below (T30.setTop (mkF m 88 #[.val (.ref ob0), .val (.ref ob1), .val (.int (2 : Int32)), .val (.int (64 : Int32)), .val (.int (0 : Int32))] [(.int (64 : Int32)), (.int (64 : Int32))])) _
    refine XS.icmpNo X30.here hx rfl (hb hby d2_88) rfl (flt (by decide : ¬ ((64 : Int32) < (64 : Int32)))).2.2.1 ?_
    show Steps p.tables e below (T30.setTop (mkF m 91 #[.val (.ref ob0), .val (.ref ob1), .val (.int (2 : Int32)), .val (.int (64 : Int32)), .val (.int (0 : Int32))] [])) _
    refine XS.aloadN X30.here hx rfl (hb hby d2_91) rfl rfl ?_
    show Steps p.tables e below (T30.setTop (mkF m 92 #[.val (.ref ob0), .val (.ref ob1), .val (.int (2 : Int32)), .val (.int (64 : Int32)), .val (.int (0 : Int32))] [(.ref ob0)])) _
    refine st33 _ ?_
    show Steps p.tables e below (T33.setTop (mkF m 95 #[.val (.ref ob0), .val (.ref ob1), .val (.int (2 : Int32)), .val (.int (64 : Int32)), .val (.int (0 : Int32))] [(.ref b9)])) _
    refine XS.iload X33.here hx rfl (hb hby d2_95) rfl ?_
    show Steps p.tables e below (T33.setTop (mkF m 97 #[.val (.ref ob0), .val (.ref ob1), .val (.int (2 : Int32)), .val (.int (64 : Int32)), .val (.int (0 : Int32))] [(.int (0 : Int32)), (.ref b9)])) _
    refine XS.aloadN X33.here hx rfl (hb hby d2_97) rfl rfl ?_
    show Steps p.tables e below (T33.setTop (mkF m 98 #[.val (.ref ob0), .val (.ref ob1), .val (.int (2 : Int32)), .val (.int (64 : Int32)), .val (.int (0 : Int32))] [(.ref ob0), (.int (0 : Int32)), (.ref b9)])) _
    refine st34 _ ?_
    show Steps p.tables e below (T34.setTop (mkF m 101 #[.val (.ref ob0), .val (.ref ob1), .val (.int (2 : Int32)), .val (.int (64 : Int32)), .val (.int (0 : Int32))] [(.ref b5), (.int (0 : Int32)), (.ref b9)])) _
    refine XS.iload X34.here hx rfl (hb hby d2_101) rfl ?_
    show Steps p.tables e below (T34.setTop (mkF m 103 #[.val (.ref ob0), .val (.ref ob1), .val (.int (2 : Int32)), .val (.int (64 : Int32)), .val (.int (0 : Int32))] [(.int (0 : Int32)), (.ref b5), (.int (0 : Int32)), (.ref b9)])) _
    refine X34.iaload hx (j := (0 : Int32)) (v := (.int (64 : Int32))) (by rw [e34]; exact aA35.1) (State.isArrayOf_alike hZ.alike aA35.2.1) aA35.2.2 (inb_of aS35 ⟨by decide, by decide⟩) (aH35.at (inb_of aS35 ⟨by decide, by decide⟩) rfl) (g := (mkF m 103 #[.val (.ref ob0), .val (.ref ob1), .val (.int (2 : Int32)), .val (.int (64 : Int32)), .val (.int (0 : Int32))] [(.int (0 : Int32)), (.ref b5), (.int (0 : Int32)), (.ref b9)])) rfl rfl (hb hby d2_103) _ ?_
    show Steps p.tables e below (T34.setTop (mkF m 104 #[.val (.ref ob0), .val (.ref ob1), .val (.int (2 : Int32)), .val (.int (64 : Int32)), .val (.int (0 : Int32))] [(.int (64 : Int32)), (.int (0 : Int32)), (.ref b9)])) _
    refine st36 _ ?_
    show Steps p.tables e below (T36.setTop (mkF m 107 #[.val (.ref ob0), .val (.ref ob1), .val (.int (2 : Int32)), .val (.int (64 : Int32)), .val (.int (0 : Int32))] [(.long (-1 : Int64)), (.int (0 : Int32)), (.ref b9)])) _
    refine st39 _ ?_
    show Steps p.tables e below (T39.setTop (mkF m 108 #[.val (.ref ob0), .val (.ref ob1), .val (.int (2 : Int32)), .val (.int (64 : Int32)), .val (.int (0 : Int32))] [])) _
    refine XS.iinc X39.here hx rfl (hb hby d2_108) rfl (l' := #[.val (.ref ob0), .val (.ref ob1), .val (.int (2 : Int32)), .val (.int (64 : Int32)), .val (.int ((0 : Int32) + (1 : Int32)))]) rfl ?_
    rw [show ((0 : Int32) + (1 : Int32)) = (1 : Int32) from by decide]
    show Steps p.tables e below (T39.setTop (mkF m 111 #[.val (.ref ob0), .val (.ref ob1), .val (.int (2 : Int32)), .val (.int (64 : Int32)), .val (.int (1 : Int32))] [])) _
    refine XS.goto X39.here hx rfl (pc0 := 111) (pc' := 34) rfl (hb hby d2_111) (by decide) (by decide) ?_
    show Steps p.tables e below (T39.setTop (mkF m 34 #[.val (.ref ob0), .val (.ref ob1), .val (.int (2 : Int32)), .val (.int (64 : Int32)), .val (.int (1 : Int32))] [])) _
    refine XS.iload X39.here hx rfl (hb hby d2_34) rfl ?_
    show Steps p.tables e below (T39.setTop (mkF m 36 #[.val (.ref ob0), .val (.ref ob1), .val (.int (2 : Int32)), .val (.int (64 : Int32)), .val (.int (1 : Int32))] [(.int (1 : Int32))])) _
    refine XS.iloadN X39.here hx rfl (hb hby d2_36) rfl ?_
    show Steps p.tables e below (T39.setTop (mkF m 37 #[.val (.ref ob0), .val (.ref ob1), .val (.int (2 : Int32)), .val (.int (64 : Int32)), .val (.int (1 : Int32))] [(.int (2 : Int32)), (.int (1 : Int32))])) _
    refine XS.icmpNo X39.here hx rfl (hb hby d2_37) rfl (tlt (by decide : (1 : Int32) < (2 : Int32))).2.1 ?_
    show Steps p.tables e below (T39.setTop (mkF m 40 #[.val (.ref ob0), .val (.ref ob1), .val (.int (2 : Int32)), .val (.int (64 : Int32)), .val (.int (1 : Int32))] [])) _
    refine XS.aloadN X39.here hx rfl (hb hby d2_40) rfl rfl ?_
    show Steps p.tables e below (T39.setTop (mkF m 41 #[.val (.ref ob0), .val (.ref ob1), .val (.int (2 : Int32)), .val (.int (64 : Int32)), .val (.int (1 : Int32))] [(.ref ob0)])) _
    refine st41 _ ?_
    show Steps p.tables e below (T41.setTop (mkF m 44 #[.val (.ref ob0), .val (.ref ob1), .val (.int (2 : Int32)), .val (.int (64 : Int32)), .val (.int (1 : Int32))] [(.ref b3)])) _
    refine XS.iload X41.here hx rfl (hb hby d2_44) rfl ?_
    show Steps p.tables e below (T41.setTop (mkF m 46 #[.val (.ref ob0), .val (.ref ob1), .val (.int (2 : Int32)), .val (.int (64 : Int32)), .val (.int (1 : Int32))] [(.int (1 : Int32)), (.ref b3)])) _
    refine XS.aloadN X41.here hx rfl (hb hby d2_46) rfl rfl ?_
    show Steps p.tables e below (T41.setTop (mkF m 47 #[.val (.ref ob0), .val (.ref ob1), .val (.int (2 : Int32)), .val (.int (64 : Int32)), .val (.int (1 : Int32))] [(.ref ob1), (.int (1 : Int32)), (.ref b3)])) _
    refine XS.iload X41.here hx rfl (hb hby d2_47) rfl ?_
    show Steps p.tables e below (T41.setTop (mkF m 49 #[.val (.ref ob0), .val (.ref ob1), .val (.int (2 : Int32)), .val (.int (64 : Int32)), .val (.int (1 : Int32))] [(.int (1 : Int32)), (.ref ob1), (.int (1 : Int32)), (.ref b3)])) _
    refine X41.iaload hx (j := (1 : Int32)) (v := (.int (64 : Int32))) (by rw [e41]; exact aA42.1) (State.isArrayOf_alike hZ.alike aA42.2.1) aA42.2.2 (inb_of aS42 ⟨by decide, by decide⟩) (aH42.at (inb_of aS42 ⟨by decide, by decide⟩) rfl) (g := (mkF m 49 #[.val (.ref ob0), .val (.ref ob1), .val (.int (2 : Int32)), .val (.int (64 : Int32)), .val (.int (1 : Int32))] [(.int (1 : Int32)), (.ref ob1), (.int (1 : Int32)), (.ref b3)])) rfl rfl (hb hby d2_49) _ ?_
    show Steps p.tables e below (T41.setTop (mkF m 50 #[.val (.ref ob0), .val (.ref ob1), .val (.int (2 : Int32)), .val (.int (64 : Int32)), .val (.int (1 : Int32))] [(.int (64 : Int32)), (.int (1 : Int32)), (.ref b3)])) _
    refine st44 _ ?_
    show Steps p.tables e below (T44.setTop (mkF m 53 #[.val (.ref ob0), .val (.ref ob1), .val (.int (2 : Int32)), .val (.int (64 : Int32)), .val (.int (1 : Int32))] [(.ref b44), (.int (1 : Int32)), (.ref b3)])) _
    refine st47 _ ?_
    show Steps p.tables e below (T47.setTop (mkF m 54 #[.val (.ref ob0), .val (.ref ob1), .val (.int (2 : Int32)), .val (.int (64 : Int32)), .val (.int (1 : Int32))] [])) _
    refine XS.aloadN X47.here hx rfl (hb hby d2_54) rfl rfl ?_
    show Steps p.tables e below (T47.setTop (mkF m 55 #[.val (.ref ob0), .val (.ref ob1), .val (.int (2 : Int32)), .val (.int (64 : Int32)), .val (.int (1 : Int32))] [(.ref ob0)])) _
    refine st49 _ ?_
    show Steps p.tables e below (T49.setTop (mkF m 58 #[.val (.ref ob0), .val (.ref ob1), .val (.int (2 : Int32)), .val (.int (64 : Int32)), .val (.int (1 : Int32))] [(.ref b5)])) _
    refine XS.iload X49.here hx rfl (hb hby d2_58) rfl ?_
    show Steps p.tables e below (T49.setTop (mkF m 60 #[.val (.ref ob0), .val (.ref ob1), .val (.int (2 : Int32)), .val (.int (64 : Int32)), .val (.int (1 : Int32))] [(.int (1 : Int32)), (.ref b5)])) _
    refine XS.aloadN X49.here hx rfl (hb hby d2_60) rfl rfl ?_
    show Steps p.tables e below (T49.setTop (mkF m 61 #[.val (.ref ob0), .val (.ref ob1), .val (.int (2 : Int32)), .val (.int (64 : Int32)), .val (.int (1 : Int32))] [(.ref ob0), (.int (1 : Int32)), (.ref b5)])) _
    refine st50 _ ?_
    show Steps p.tables e below (T50.setTop (mkF m 64 #[.val (.ref ob0), .val (.ref ob1), .val (.int (2 : Int32)), .val (.int (64 : Int32)), .val (.int (1 : Int32))] [(.ref b3), (.int (1 : Int32)), (.ref b5)])) _
    refine XS.iload X50.here hx rfl (hb hby d2_64) rfl ?_
    show Steps p.tables e below (T50.setTop (mkF m 66 #[.val (.ref ob0), .val (.ref ob1), .val (.int (2 : Int32)), .val (.int (64 : Int32)), .val (.int (1 : Int32))] [(.int (1 : Int32)), (.ref b3), (.int (1 : Int32)), (.ref b5)])) _
    refine X50.aaload hx (j := (1 : Int32)) (v := (.ref b44)) (by rw [e50]; exact aA51.1) (State.isArrayOf_alike hZ.alike aA51.2.1) rfl aA51.2.2 (inb_of aS51 ⟨by decide, by decide⟩) (aH51.at (inb_of aS51 ⟨by decide, by decide⟩) rfl) (g := (mkF m 66 #[.val (.ref ob0), .val (.ref ob1), .val (.int (2 : Int32)), .val (.int (64 : Int32)), .val (.int (1 : Int32))] [(.int (1 : Int32)), (.ref b3), (.int (1 : Int32)), (.ref b5)])) rfl rfl (hb hby d2_66) _ ?_
    show Steps p.tables e below (T50.setTop (mkF m 67 #[.val (.ref ob0), .val (.ref ob1), .val (.int (2 : Int32)), .val (.int (64 : Int32)), .val (.int (1 : Int32))] [(.ref b44), (.int (1 : Int32)), (.ref b5)])) _
    refine X50.arraylength hx (by rw [e50]; exact aA52.1) (State.isArrayOf_alike hZ.alike aA52.2.1) (g := (mkF m 67 #[.val (.ref ob0), .val (.ref ob1), .val (.int (2 : Int32)), .val (.int (64 : Int32)), .val (.int (1 : Int32))] [(.ref b44), (.int (1 : Int32)), (.ref b5)])) rfl rfl (hb hby d2_67) _ ?_
    rw [len_of aS52 aN52]
    show Steps p.tables e below (T50.setTop (mkF m 68 #[.val (.ref ob0), .val (.ref ob1), .val (.int (2 : Int32)), .val (.int (64 : Int32)), .val (.int (1 : Int32))] [(.int (64 : Int32)), (.int (1 : Int32)), (.ref b5)])) _
    refine st55 _ ?_
    show Steps p.tables e below (T55.setTop (mkF m 69 #[.val (.ref ob0), .val (.ref ob1), .val (.int (2 : Int32)), .val (.int (64 : Int32)), .val (.int (1 : Int32))] [])) _
    refine XS.iloadN X55.here hx rfl (hb hby d2_69) rfl ?_
    show Steps p.tables e below (T55.setTop (mkF m 70 #[.val (.ref ob0), .val (.ref ob1), .val (.int (2 : Int32)), .val (.int (64 : Int32)), .val (.int (1 : Int32))] [(.int (64 : Int32))])) _
    refine XS.aloadN X55.here hx rfl (hb hby d2_70) rfl rfl ?_
    show Steps p.tables e below (T55.setTop (mkF m 71 #[.val (.ref ob0), .val (.ref ob1), .val (.int (2 : Int32)), .val (.int (64 : Int32)), .val (.int (1 : Int32))] [(.ref ob0), (.int (64 : Int32))])) _
    refine st56 _ ?_
    show Steps p.tables e below (T56.setTop (mkF m 74 #[.val (.ref ob0), .val (.ref ob1), .val (.int (2 : Int32)), .val (.int (64 : Int32)), .val (.int (1 : Int32))] [(.ref b5), (.int (64 : Int32))])) _
    refine XS.iload X56.here hx rfl (hb hby d2_74) rfl ?_
    show Steps p.tables e below (T56.setTop (mkF m 76 #[.val (.ref ob0), .val (.ref ob1), .val (.int (2 : Int32)), .val (.int (64 : Int32)), .val (.int (1 : Int32))] [(.int (1 : Int32)), (.ref b5), (.int (64 : Int32))])) _
    refine X56.iaload hx (j := (1 : Int32)) (v := (.int (64 : Int32))) (by rw [e56]; exact aA57.1) (State.isArrayOf_alike hZ.alike aA57.2.1) aA57.2.2 (inb_of aS57 ⟨by decide, by decide⟩) (aH57.at (inb_of aS57 ⟨by decide, by decide⟩) rfl) (g := (mkF m 76 #[.val (.ref ob0), .val (.ref ob1), .val (.int (2 : Int32)), .val (.int (64 : Int32)), .val (.int (1 : Int32))] [(.int (1 : Int32)), (.ref b5), (.int (64 : Int32))])) rfl rfl (hb hby d2_76) _ ?_
    show Steps p.tables e below (T56.setTop (mkF m 77 #[.val (.ref ob0), .val (.ref ob1), .val (.int (2 : Int32)), .val (.int (64 : Int32)), .val (.int (1 : Int32))] [(.int (64 : Int32)), (.int (64 : Int32))])) _
    refine XS.iadd X56.here hx rfl (hb hby d2_77) rfl ?_
    rw [show ((64 : Int32) + (64 : Int32)) = (128 : Int32) from by decide]
    show Steps p.tables e below (T56.setTop (mkF m 78 #[.val (.ref ob0), .val (.ref ob1), .val (.int (2 : Int32)), .val (.int (64 : Int32)), .val (.int (1 : Int32))] [(.int (128 : Int32))])) _
    refine XS.istoreN X56.here hx rfl (hb hby d2_78) rfl (l' := #[.val (.ref ob0), .val (.ref ob1), .val (.int (2 : Int32)), .val (.int (128 : Int32)), .val (.int (1 : Int32))]) rfl ?_
    show Steps p.tables e below (T56.setTop (mkF m 79 #[.val (.ref ob0), .val (.ref ob1), .val (.int (2 : Int32)), .val (.int (128 : Int32)), .val (.int (1 : Int32))] [])) _
    refine XS.aloadN X56.here hx rfl (hb hby d2_79) rfl rfl ?_
    show Steps p.tables e below (T56.setTop (mkF m 80 #[.val (.ref ob0), .val (.ref ob1), .val (.int (2 : Int32)), .val (.int (128 : Int32)), .val (.int (1 : Int32))] [(.ref ob0)])) _
    refine st58 _ ?_
    show Steps p.tables e below (T58.setTop (mkF m 83 #[.val (.ref ob0), .val (.ref ob1), .val (.int (2 : Int32)), .val (.int (128 : Int32)), .val (.int (1 : Int32))] [(.ref b5)])) _
    refine XS.iload X58.here hx rfl (hb hby d2_83) rfl ?_
    show Steps p.tables e below (T58.setTop (mkF m 85 #[.val (.ref ob0), .val (.ref ob1), .val (.int (2 : Int32)), .val (.int (128 : Int32)), .val (.int (1 : Int32))] [(.int (1 : Int32)), (.ref b5)])) _
    refine X58.iaload hx (j := (1 : Int32)) (v := (.int (64 : Int32))) (by rw [e58]; exact aA59.1) (State.isArrayOf_alike hZ.alike aA59.2.1) aA59.2.2 (inb_of aS59 ⟨by decide, by decide⟩) (aH59.at (inb_of aS59 ⟨by decide, by decide⟩) rfl) (g := (mkF m 85 #[.val (.ref ob0), .val (.ref ob1), .val (.int (2 : Int32)), .val (.int (128 : Int32)), .val (.int (1 : Int32))] [(.int (1 : Int32)), (.ref b5)])) rfl rfl (hb hby d2_85) _ ?_
    show Steps p.tables e below (T58.setTop (mkF m 86 #[.val (.ref ob0), .val (.ref ob1), .val (.int (2 : Int32)), .val (.int (128 : Int32)), .val (.int (1 : Int32))] [(.int (64 : Int32))])) _
    refine XS.bipush X58.here hx rfl (hb hby d2_86) ?_
    show Steps p.tables e below (T58.setTop (mkF m 88 #[.val (.ref ob0), .val (.ref ob1), .val (.int (2 : Int32)), .val (.int (128 : Int32)), .val (.int (1 : Int32))] [(.int (64 : Int32)), (.int (64 : Int32))])) _
    refine XS.icmpNo X58.here hx rfl (hb hby d2_88) rfl (flt (by decide : ¬ ((64 : Int32) < (64 : Int32)))).2.2.1 ?_
    show Steps p.tables e below (T58.setTop (mkF m 91 #[.val (.ref ob0), .val (.ref ob1), .val (.int (2 : Int32)), .val (.int (128 : Int32)), .val (.int (1 : Int32))] [])) _
    refine XS.aloadN X58.here hx rfl (hb hby d2_91) rfl rfl ?_
    show Steps p.tables e below (T58.setTop (mkF m 92 #[.val (.ref ob0), .val (.ref ob1), .val (.int (2 : Int32)), .val (.int (128 : Int32)), .val (.int (1 : Int32))] [(.ref ob0)])) _
    refine st61 _ ?_
    show Steps p.tables e below (T61.setTop (mkF m 95 #[.val (.ref ob0), .val (.ref ob1), .val (.int (2 : Int32)), .val (.int (128 : Int32)), .val (.int (1 : Int32))] [(.ref b9)])) _
    refine XS.iload X61.here hx rfl (hb hby d2_95) rfl ?_
    show Steps p.tables e below (T61.setTop (mkF m 97 #[.val (.ref ob0), .val (.ref ob1), .val (.int (2 : Int32)), .val (.int (128 : Int32)), .val (.int (1 : Int32))] [(.int (1 : Int32)), (.ref b9)])) _
    refine XS.aloadN X61.here hx rfl (hb hby d2_97) rfl rfl ?_
    show Steps p.tables e below (T61.setTop (mkF m 98 #[.val (.ref ob0), .val (.ref ob1), .val (.int (2 : Int32)), .val (.int (128 : Int32)), .val (.int (1 : Int32))] [(.ref ob0), (.int (1 : Int32)), (.ref b9)])) _
    refine st62 _ ?_
    show Steps p.tables e below (T62.setTop (mkF m 101 #[.val (.ref ob0), .val (.ref ob1), .val (.int (2 : Int32)), .val (.int (128 : Int32)), .val (.int (1 : Int32))] [(.ref b5), (.int (1 : Int32)), (.ref b9)])) _
    refine XS.iload X62.here hx rfl (hb hby d2_101) rfl ?_
    show Steps p.tables e below (T62.setTop (mkF m 103 #[.val (.ref ob0), .val (.ref ob1), .val (.int (2 : Int32)), .val (.int (128 : Int32)), .val (.int (1 : Int32))] [(.int (1 : Int32)), (.ref b5), (.int (1 : Int32)), (.ref b9)])) _
    refine X62.iaload hx (j := (1 : Int32)) (v := (.int (64 : Int32))) (by rw [e62]; exact aA63.1) (State.isArrayOf_alike hZ.alike aA63.2.1) aA63.2.2 (inb_of aS63 ⟨by decide, by decide⟩) (aH63.at (inb_of aS63 ⟨by decide, by decide⟩) rfl) (g := (mkF m 103 #[.val (.ref ob0), .val (.ref ob1), .val (.int (2 : Int32)), .val (.int (128 : Int32)), .val (.int (1 : Int32))] [(.int (1 : Int32)), (.ref b5), (.int (1 : Int32)), (.ref b9)])) rfl rfl (hb hby d2_103) _ ?_
    show Steps p.tables e below (T62.setTop (mkF m 104 #[.val (.ref ob0), .val (.ref ob1), .val (.int (2 : Int32)), .val (.int (128 : Int32)), .val (.int (1 : Int32))] [(.int (64 : Int32)), (.int (1 : Int32)), (.ref b9)])) _
    refine st64 _ ?_
    show Steps p.tables e below (T64.setTop (mkF m 107 #[.val (.ref ob0), .val (.ref ob1), .val (.int (2 : Int32)), .val (.int (128 : Int32)), .val (.int (1 : Int32))] [(.long (-1 : Int64)), (.int (1 : Int32)), (.ref b9)])) _
    refine st67 _ ?_
    show Steps p.tables e below (T67.setTop (mkF m 108 #[.val (.ref ob0), .val (.ref ob1), .val (.int (2 : Int32)), .val (.int (128 : Int32)), .val (.int (1 : Int32))] [])) _
    refine XS.iinc X67.here hx rfl (hb hby d2_108) rfl (l' := #[.val (.ref ob0), .val (.ref ob1), .val (.int (2 : Int32)), .val (.int (128 : Int32)), .val (.int ((1 : Int32) + (1 : Int32)))]) rfl ?_
    rw [show ((1 : Int32) + (1 : Int32)) = (2 : Int32) from by decide]
    show Steps p.tables e below (T67.setTop (mkF m 111 #[.val (.ref ob0), .val (.ref ob1), .val (.int (2 : Int32)), .val (.int (128 : Int32)), .val (.int (2 : Int32))] [])) _
    refine XS.goto X67.here hx rfl (pc0 := 111) (pc' := 34) rfl (hb hby d2_111) (by decide) (by decide) ?_
    show Steps p.tables e below (T67.setTop (mkF m 34 #[.val (.ref ob0), .val (.ref ob1), .val (.int (2 : Int32)), .val (.int (128 : Int32)), .val (.int (2 : Int32))] [])) _
    refine XS.iload X67.here hx rfl (hb hby d2_34) rfl ?_
    show Steps p.tables e below (T67.setTop (mkF m 36 #[.val (.ref ob0), .val (.ref ob1), .val (.int (2 : Int32)), .val (.int (128 : Int32)), .val (.int (2 : Int32))] [(.int (2 : Int32))])) _
    refine XS.iloadN X67.here hx rfl (hb hby d2_36) rfl ?_
    show Steps p.tables e below (T67.setTop (mkF m 37 #[.val (.ref ob0), .val (.ref ob1), .val (.int (2 : Int32)), .val (.int (128 : Int32)), .val (.int (2 : Int32))] [(.int (2 : Int32)), (.int (2 : Int32))])) _
    refine XS.icmpYes X67.here hx rfl (pc0 := 37) (pc' := 114) rfl (hb hby d2_37) rfl (flt (by decide : ¬ ((2 : Int32) < (2 : Int32)))).2.1 (by decide) (by decide) ?_
    show Steps p.tables e below (T67.setTop (mkF m 114 #[.val (.ref ob0), .val (.ref ob1), .val (.int (2 : Int32)), .val (.int (128 : Int32)), .val (.int (2 : Int32))] [])) _
    refine XS.aloadN X67.here hx rfl (hb hby d2_114) rfl rfl ?_
    show Steps p.tables e below (T67.setTop (mkF m 115 #[.val (.ref ob0), .val (.ref ob1), .val (.int (2 : Int32)), .val (.int (128 : Int32)), .val (.int (2 : Int32))] [(.ref ob0)])) _
    refine XS.iconst X67.here hx rfl (hb hby d2_115) ?_
    show Steps p.tables e below (T67.setTop (mkF m 116 #[.val (.ref ob0), .val (.ref ob1), .val (.int (2 : Int32)), .val (.int (128 : Int32)), .val (.int (2 : Int32))] [(.int (2 : Int32)), (.ref ob0)])) _
    refine XS.iloadN X67.here hx rfl (hb hby d2_116) rfl ?_
    show Steps p.tables e below (T67.setTop (mkF m 117 #[.val (.ref ob0), .val (.ref ob1), .val (.int (2 : Int32)), .val (.int (128 : Int32)), .val (.int (2 : Int32))] [(.int (128 : Int32)), (.int (2 : Int32)), (.ref ob0)])) _
    refine XS.imul X67.here hx rfl (hb hby d2_117) rfl ?_
    rw [show ((2 : Int32) * (128 : Int32)) = (256 : Int32) from by decide]
    show Steps p.tables e below (T67.setTop (mkF m 118 #[.val (.ref ob0), .val (.ref ob1), .val (.int (2 : Int32)), .val (.int (128 : Int32)), .val (.int (2 : Int32))] [(.int (256 : Int32)), (.ref ob0)])) _
    refine st68 _ ?_
    show Steps p.tables e below (T68.setTop (mkF m 120 #[.val (.ref ob0), .val (.ref ob1), .val (.int (2 : Int32)), .val (.int (128 : Int32)), .val (.int (2 : Int32))] [(.ref b68), (.ref ob0)])) _
    refine st71 _ ?_
    show Steps p.tables e below (T71.setTop (mkF m 123 #[.val (.ref ob0), .val (.ref ob1), .val (.int (2 : Int32)), .val (.int (128 : Int32)), .val (.int (2 : Int32))] [])) _
    refine XS.aloadN X71.here hx rfl (hb hby d2_123) rfl rfl ?_
    show Steps p.tables e below (T71.setTop (mkF m 124 #[.val (.ref ob0), .val (.ref ob1), .val (.int (2 : Int32)), .val (.int (128 : Int32)), .val (.int (2 : Int32))] [(.ref ob0)])) _
    refine XS.iloadN X71.here hx rfl (hb hby d2_124) rfl ?_
    show Steps p.tables e below (T71.setTop (mkF m 125 #[.val (.ref ob0), .val (.ref ob1), .val (.int (2 : Int32)), .val (.int (128 : Int32)), .val (.int (2 : Int32))] [(.int (2 : Int32)), (.ref ob0)])) _
    refine st72 _ ?_
    show Steps p.tables e below (T72.setTop (mkF m 127 #[.val (.ref ob0), .val (.ref ob1), .val (.int (2 : Int32)), .val (.int (128 : Int32)), .val (.int (2 : Int32))] [(.ref b72), (.ref ob0)])) _
    refine st74 _ ?_
    show Steps p.tables e below (T74.setTop (mkF m 130 #[.val (.ref ob0), .val (.ref ob1), .val (.int (2 : Int32)), .val (.int (128 : Int32)), .val (.int (2 : Int32))] [])) _
    refine XS.aloadN X74.here hx rfl (hb hby d2_130) rfl rfl ?_
    show Steps p.tables e below (T74.setTop (mkF m 131 #[.val (.ref ob0), .val (.ref ob1), .val (.int (2 : Int32)), .val (.int (128 : Int32)), .val (.int (2 : Int32))] [(.ref ob0)])) _
    refine XS.iloadN X74.here hx rfl (hb hby d2_131) rfl ?_
    show Steps p.tables e below (T74.setTop (mkF m 132 #[.val (.ref ob0), .val (.ref ob1), .val (.int (2 : Int32)), .val (.int (128 : Int32)), .val (.int (2 : Int32))] [(.int (2 : Int32)), (.ref ob0)])) _
    refine st75 _ ?_
    show Steps p.tables e below (T75.setTop (mkF m 134 #[.val (.ref ob0), .val (.ref ob1), .val (.int (2 : Int32)), .val (.int (128 : Int32)), .val (.int (2 : Int32))] [(.ref b75), (.ref ob0)])) _
    refine st78 _ ?_
    show Steps p.tables e below (T78.setTop (mkF m 137 #[.val (.ref ob0), .val (.ref ob1), .val (.int (2 : Int32)), .val (.int (128 : Int32)), .val (.int (2 : Int32))] [])) _
    exact X78.returnOut hx Bd.returns (hb hby d2_137) hr
  · have eH : (T78.setFrames fs).heap = h78 := e78; rw [eH]; exact ⟨b3, b5, b9, b16, b44, b68, b72, b75, k3, k5, k9, k68, k72, k75, k16, k44, rfl, N78, KK78, O78, sz_b3, sz_b5, sz_b9, sz_b16, sz_b44, sz_b68, sz_b72, sz_b75, (Nat.lt_of_lt_of_le (Nat.lt_of_lt_of_le lb_b3 (Keep.of_wr W4).1) bo_b5), (Nat.lt_of_lt_of_le (Nat.lt_of_lt_of_le lb_b5 (Keep.of_wr W8).1) bo_b9), (Nat.lt_of_lt_of_le (Nat.lt_of_lt_of_le lb_b9 (Keep.of_wr W11).1) bo_b16), (Nat.lt_of_lt_of_le (Nat.lt_of_lt_of_le (Nat.lt_of_lt_of_le (Nat.lt_of_lt_of_le lb_b16 (Keep.of_wr W19).1) (Keep.of_wr W27).1) (Keep.of_wr W39).1) bo_b44), (Nat.lt_of_lt_of_le (Nat.lt_of_lt_of_le (Nat.lt_of_lt_of_le (Nat.lt_of_lt_of_le lb_b44 (Keep.of_wr W47).1) (Keep.of_wr W55).1) (Keep.of_wr W67).1) bo_b68), (Nat.lt_of_lt_of_le (Nat.lt_of_lt_of_le lb_b68 (Keep.of_wr W71).1) bo_b72), (Nat.lt_of_lt_of_le (Nat.lt_of_lt_of_le lb_b72 (Keep.of_wr W74).1) bo_b75), (J77.wr W78), J79, J80, J81, J82, ((Fw74.ext E75).other W78 (Or.inr (slot_ne (Or.inr (hw _ (List.mem_of_getElem? (i := 34) rfl))) (Or.inr (hw _ (List.mem_of_getElem? (i := 37) rfl))) (by decide) (t := (.array .int)) (t' := (.array .boolean)) (by decide) (by decide)))), Fw78, J83, J84, J85, OV3, J86, J87, J88, J89, J90, J91, J92, J93, (V_b75.other W78 (Ne.symm (Nat.ne_of_lt (Nat.lt_of_lt_of_le (Nat.lt_of_lt_of_le (Nat.lt_of_lt_of_le (Nat.lt_of_lt_of_le (Nat.lt_of_lt_of_le (Nat.lt_of_lt_of_le (Nat.lt_of_lt_of_le (Nat.lt_of_lt_of_le (Nat.lt_of_lt_of_le (Nat.lt_of_lt_of_le (Nat.lt_of_lt_of_le (Nat.lt_of_lt_of_le (Nat.lt_of_lt_of_le (Nat.lt_of_lt_of_le (Nat.lt_of_lt_of_le (Nat.lt_of_lt_of_le (Nat.lt_of_lt_of_le (Nat.lt_of_lt_of_le (Nat.lt_of_lt_of_le PE_ob0.lt E3.1) (Keep.of_wr W4).1) E5.1) (Keep.of_wr W8).1) E9.1) (Keep.of_wr W11).1) E16.1) (Keep.of_wr W19).1) (Keep.of_wr W27).1) (Keep.of_wr W39).1) E44.1) (Keep.of_wr W47).1) (Keep.of_wr W55).1) (Keep.of_wr W67).1) E68.1) (Keep.of_wr W71).1) E72.1) (Keep.of_wr W74).1) bo_b75)))), (B75.wr W78), J94, J95, OV16, J96, J97, OV44, trivial⟩
theorem d6_0 : decode prog_59_method_10_code 0 = .ok (.aload_n 0, 1) := by decide +kernel
theorem d6_1 : decode prog_59_method_10_code 1 = .ok (.getfield 11, 3) := by decide +kernel
theorem d6_4 : decode prog_59_method_10_code 4 = .ok (.iload_n 1, 1) := by decide +kernel
theorem d6_5 : decode prog_59_method_10_code 5 = .ok (.aaload, 1) := by decide +kernel
theorem d6_6 : decode prog_59_method_10_code 6 = .ok (.iload_n 2, 1) := by decide +kernel
theorem d6_7 : decode prog_59_method_10_code 7 = .ok (.aload_n 3, 1) := by decide +kernel
theorem d6_8 : decode prog_59_method_10_code 8 = .ok (.aastore, 1) := by decide +kernel
theorem d6_9 : decode prog_59_method_10_code 9 = .ok (.aload_n 0, 1) := by decide +kernel
theorem d6_10 : decode prog_59_method_10_code 10 = .ok (.getfield 17, 3) := by decide +kernel
theorem d6_13 : decode prog_59_method_10_code 13 = .ok (.iload_n 1, 1) := by decide +kernel
theorem d6_14 : decode prog_59_method_10_code 14 = .ok (.dup2, 1) := by decide +kernel
theorem d6_15 : decode prog_59_method_10_code 15 = .ok (.iaload, 1) := by decide +kernel
theorem d6_16 : decode prog_59_method_10_code 16 = .ok (.iconst 1, 1) := by decide +kernel
theorem d6_17 : decode prog_59_method_10_code 17 = .ok (.isub, 1) := by decide +kernel
theorem d6_18 : decode prog_59_method_10_code 18 = .ok (.iastore, 1) := by decide +kernel
theorem d6_19 : decode prog_59_method_10_code 19 = .ok (.aload_n 0, 1) := by decide +kernel
theorem d6_20 : decode prog_59_method_10_code 20 = .ok (.getfield 21, 3) := by decide +kernel
theorem d6_23 : decode prog_59_method_10_code 23 = .ok (.iload_n 1, 1) := by decide +kernel
theorem d6_24 : decode prog_59_method_10_code 24 = .ok (.dup2, 1) := by decide +kernel
theorem d6_25 : decode prog_59_method_10_code 25 = .ok (.laload, 1) := by decide +kernel
theorem d6_26 : decode prog_59_method_10_code 26 = .ok (.lconst 1, 1) := by decide +kernel
theorem d6_27 : decode prog_59_method_10_code 27 = .ok (.iload_n 2, 1) := by decide +kernel
theorem d6_28 : decode prog_59_method_10_code 28 = .ok (.lshl, 1) := by decide +kernel
theorem d6_29 : decode prog_59_method_10_code 29 = .ok (.ldc2_w 40, 3) := by decide +kernel
theorem d6_32 : decode prog_59_method_10_code 32 = .ok (.lxor, 1) := by decide +kernel
theorem d6_33 : decode prog_59_method_10_code 33 = .ok (.land, 1) := by decide +kernel
theorem d6_34 : decode prog_59_method_10_code 34 = .ok (.lastore, 1) := by decide +kernel
theorem d6_35 : decode prog_59_method_10_code 35 = .ok (.aload_n 0, 1) := by decide +kernel
theorem d6_36 : decode prog_59_method_10_code 36 = .ok (.getfield 30, 3) := by decide +kernel
theorem d6_39 : decode prog_59_method_10_code 39 = .ok (.aload_n 0, 1) := by decide +kernel
theorem d6_40 : decode prog_59_method_10_code 40 = .ok (.getfield 44, 3) := by decide +kernel
theorem d6_43 : decode prog_59_method_10_code 43 = .ok (.iload_n 1, 1) := by decide +kernel
theorem d6_44 : decode prog_59_method_10_code 44 = .ok (.iastore, 1) := by decide +kernel
theorem d6_45 : decode prog_59_method_10_code 45 = .ok (.aload_n 0, 1) := by decide +kernel
theorem d6_46 : decode prog_59_method_10_code 46 = .ok (.getfield 30, 3) := by decide +kernel
theorem d6_49 : decode prog_59_method_10_code 49 = .ok (.aload_n 0, 1) := by decide +kernel
theorem d6_50 : decode prog_59_method_10_code 50 = .ok (.getfield 44, 3) := by decide +kernel
theorem d6_53 : decode prog_59_method_10_code 53 = .ok (.iconst 1, 1) := by decide +kernel
theorem d6_54 : decode prog_59_method_10_code 54 = .ok (.iadd, 1) := by decide +kernel
theorem d6_55 : decode prog_59_method_10_code 55 = .ok (.iload_n 2, 1) := by decide +kernel
theorem d6_56 : decode prog_59_method_10_code 56 = .ok (.iastore, 1) := by decide +kernel
theorem d6_57 : decode prog_59_method_10_code 57 = .ok (.aload_n 0, 1) := by decide +kernel
theorem d6_58 : decode prog_59_method_10_code 58 = .ok (.dup, 1) := by decide +kernel
theorem d6_59 : decode prog_59_method_10_code 59 = .ok (.getfield 44, 3) := by decide +kernel
theorem d6_62 : decode prog_59_method_10_code 62 = .ok (.iconst 2, 1) := by decide +kernel
theorem d6_63 : decode prog_59_method_10_code 63 = .ok (.iadd, 1) := by decide +kernel
theorem d6_64 : decode prog_59_method_10_code 64 = .ok (.putfield 44, 3) := by decide +kernel
theorem d6_67 : decode prog_59_method_10_code 67 = .ok (.return_, 1) := by decide +kernel
theorem ef141 (m : MethodId) (x0 : Addr) (x1 : Int32) (x2 : Int32) (x3 : Addr) : entryFrame m #[(.ref x0), (.int x1), (.int x2), (.ref x3)] 4 = mkF m 0 #[.val (.ref x0), .val (.int x1), .val (.int x2), .val (.ref x3)] [] := by first | (simp [entryFrame, mkF, argsToLocals, Value.category]; done) | rfl
def Q6_2 (Z : State) (ob0 : Addr) (q0 : Int32) (q1 : Int32) (y : Addr) (R : Addr) (Lf : Addr) (Lm : Addr) (Tr : Addr) (ts : Int32) (k_R : ClassId) (N : Nat) (fR : Nat → Value) (x : Addr) (k_x : ClassId) (K : Nat) (fx : Nat → Value) (k_Lf : ClassId) (fL : Nat → Value) (k_Lm : ClassId) (fM : Nat → Value) (k_Tr : ClassId) (nT : Nat) (fT : Nat → Value) (w15 : Int32) (w25 : Int64) (h0 : Heap) (n0 : Nat) (v : Option Value) (h : Heap) (L : List Loc) : Prop := v = none ∧ Fr n0 L ∧ Keep h0 h [x, Lf, Lm, Tr, ob0] ∧ Old Z n0 h ∧ Ars Z h x k_x (.array .int) K (own_upd fx (q1).toNatClampNeg (.ref y)) ∧ Ars Z h Lf k_Lf .int N (own_upd fL (q0).toNatClampNeg (.int (w15 - (1 : Int32)))) ∧ Ars Z h Lm k_Lm .long N (own_upd fM (q0).toNatClampNeg (.long (w25 &&& (((1 : Int64) <<< (q1 &&& 0x3f).toInt64) ^^^ (-1 : Int64))))) ∧ Ars Z h Tr k_Tr .int nT (own_upd (own_upd fT (ts).toNatClampNeg (.int q0)) ((ts + (1 : Int32))).toNatClampNeg (.int q1)) ∧ Exa Z h ob0 "com/example/caprice/caprice/solver/Domains" ∧ Fld Z h ob0 "com/example/caprice/caprice/solver/Domains" "reasons" "[[[I" (.ref R) ∧ Fld Z h ob0 "com/example/caprice/caprice/solver/Domains" "left" "[I" (.ref Lf) ∧ Fld Z h ob0 "com/example/caprice/caprice/solver/Domains" "leftMasks" "[J" (.ref Lm) ∧ Fld Z h ob0 "com/example/caprice/caprice/solver/Domains" "trail" "[I" (.ref Tr) ∧ Fld Z h ob0 "com/example/caprice/caprice/solver/Domains" "trailSize" "I" (.int (ts + (2 : Int32))) ∧ True
set_option maxRecDepth 65536 in
set_option maxHeartbeats 40000000 in
theorem rm6_2 (l : Launch) (Z : State) (a0 : Array Value) (hw : ∀ d ∈ tables_1, d.before a0 Z = true) (ws : List Jvm.Cond) (ob0 : Addr) (q0 : Int32) (q1 : Int32) (y : Addr) (R : Addr) (Lf : Addr) (Lm : Addr) (Tr : Addr) (ts : Int32) (k_R : ClassId) (N : Nat) (fR : Nat → Value) (x : Addr) (k_x : ClassId) (K : Nat) (fx : Nat → Value) (k_Lf : ClassId) (fL : Nat → Value) (k_Lm : ClassId) (fM : Nat → Value) (k_Tr : ClassId) (nT : Nat) (fT : Nat → Value) (w15 : Int32) (w25 : Int64) (h0 : Heap) (n0 : Nat) (Z0 : n0 ≤ h0.size) (O0 : Old Z n0 h0) (OX : OvrA Z k_x .int "[I") (PE_ob0 : Exa Z h0 ob0 "com/example/caprice/caprice/solver/Domains") (PF_ob0_reasons : Fld Z h0 ob0 "com/example/caprice/caprice/solver/Domains" "reasons" "[[[I" (.ref R)) (PF_ob0_left : Fld Z h0 ob0 "com/example/caprice/caprice/solver/Domains" "left" "[I" (.ref Lf)) (PF_ob0_leftMasks : Fld Z h0 ob0 "com/example/caprice/caprice/solver/Domains" "leftMasks" "[J" (.ref Lm)) (PF_ob0_trail : Fld Z h0 ob0 "com/example/caprice/caprice/solver/Domains" "trail" "[I" (.ref Tr)) (PF_ob0_trailSize : Fld Z h0 ob0 "com/example/caprice/caprice/solver/Domains" "trailSize" "I" (.int ts)) (PA_R : Ars Z h0 R k_R (.array (.array .int)) N fR) (PA_x : Ars Z h0 x k_x (.array .int) K fx) (PA_Lf : Ars Z h0 Lf k_Lf .int N fL) (PA_Lm : Ars Z h0 Lm k_Lm .long N fM) (PA_Tr : Ars Z h0 Tr k_Tr .int nT fT) (PE_y : Exa Z h0 y "[I") (ne_ob0_x : ob0 ≠ x) (ne_Lf_x : Lf ≠ x) (ne_Lf_ob0 : Lf ≠ ob0) (ne_Lm_x : Lm ≠ x) (ne_Lf_Lm : Lf ≠ Lm) (ne_Lm_ob0 : Lm ≠ ob0) (ne_Tr_x : Tr ≠ x) (ne_Lf_Tr : Lf ≠ Tr) (ne_Lm_Tr : Lm ≠ Tr) (ne_Tr_ob0 : Tr ≠ ob0) (g_x : n0 ≤ x) (g_Lf : n0 ≤ Lf) (g_Lm : n0 ≤ Lm) (g_Tr : n0 ≤ Tr) (g_ob0 : n0 ≤ ob0) (hin5 : ¬ (q0 < 0 ∨ N ≤ (q0).toNatClampNeg)) (hat5 : fR (q0).toNatClampNeg = (.ref x)) (hin8 : ¬ (q1 < 0 ∨ K ≤ (q1).toNatClampNeg)) (hat15 : fL (q0).toNatClampNeg = (.int w15)) (hat25 : fM (q0).toNatClampNeg = (.long w25)) (hin44 : ¬ (ts < 0 ∨ nT ≤ (ts).toNatClampNeg)) (hin56 : ¬ ((ts + (1 : Int32)) < 0 ∨ nT ≤ ((ts + (1 : Int32))).toNatClampNeg)) :
    MetFree l (⟨"com/example/caprice/caprice/solver/Domains", "remove", "(II[I)V"⟩ : MethodName) (head1 (Jvm.Cond.code (⟨"com/example/caprice/caprice/solver/Domains", "remove", "(II[I)V"⟩ : MethodName) prog_59_method_10_code 4 none :: ws) ({ frames := 0, cells := 0, slots := 0, locals := 0 } : Room)) (fun a U => a = #[(.ref ob0), (.int q0), (.int q1), (.ref y)] ∧ Z.Warmed39 U.vm ∧ U.heap = h0) (fun _ _ _ _ _ => True) (fun _ U o U' => ∃ v L, o = .returned v ∧ Q6_2 Z  ob0 q0 q1 y R Lf Lm Tr ts k_R N fR x k_x K fx k_Lf fL k_Lm fM k_Tr nT fT w15 w25 h0 n0 v U'.heap L ∧ FrameEnd U o U' L ({ frames := 0, cells := 0, slots := 0, locals := 0 } : Room).cells ({ frames := 0, cells := 0, slots := 0, locals := 0 } : Room).slots) := by
  refine MetFree.of_bodySF (plainFor_of_name pn69) hisR ?_
  intro p e s m args below meth c s₁ Bd hml0 hP hK
  obtain ⟨rfl, hZ, hh⟩ := hP
  have hx := Bd.exec
  have hby := Bd.bytes
  have hml : c.maxLocals = 4 := hml0
  have hown : s.vm.findClass "com/example/caprice/caprice/solver/Domains" = some m.cls := findClass_of_methodNamed Bd.named
  have hnm := (name_of_methodNamed Bd.named Bd.method).1
  have X0 : Stand p l e ({ frames := 0, cells := 0, slots := 0, locals := 0 } : Room) s m #[(.ref ob0), (.int q0), (.int q1), (.ref y)] below meth c s₁ [] 0 0 := Stand.of_body Bd
  have e0 : s₁.heap = h0 := by rw [← hh, Bd.state]; rfl
  have N0 := Fr.nil n0
  have pre0 : ∀ t, Steps p.tables e below (s₁.setTop (mkF m 0 #[.val (.ref ob0), .val (.int q0), .val (.int q1), .val (.ref y)] [])) t → Steps p.tables e below (s₁.setTop (entryFrame m #[(.ref ob0), (.int q0), (.int q1), (.ref y)] 4)) t := fun t k => castTop (ef141 m ob0 q0 q1 y) k
  obtain ⟨T1, X1, e1, st1⟩ := getF X0 hx hZ hown (host := "") (Or.inl (hw _ (List.mem_of_getElem? (i := 17) rfl))) Via.refl e0 PF_ob0_reasons (g := (mkF m 1 #[.val (.ref ob0), .val (.int q0), .val (.int q1), .val (.ref y)] [(.ref ob0)])) rfl rfl (hb hby d6_1)
  obtain ⟨ac2, aA2, aq2, aS2, aN2, aH2⟩ := id PA_R
  obtain ⟨ac3, aA3, aq3, aS3, aN3, aH3⟩ := id PA_x
  obtain ⟨T4, h4, X4, e4, W4, st4⟩ := stR X1 hx hZ e1 aA3 (j := q1) (by rw [aS3]; exact hin8) rfl (Sto.ofVA aA3 aq3 OX (Ins.self PE_y)) (g := (mkF m 8 #[.val (.ref ob0), .val (.int q0), .val (.int q1), .val (.ref y)] [(.ref y), (.int q1), (.ref x)])) rfl rfl (hb hby d6_8)
  have A_4 : Ars Z h4 x k_x (.array .int) K (own_upd fx (q1).toNatClampNeg (.ref y)) := Ars.set aA3 aq3 aS3 aN3 aH3 W4
  have N4 := Fr.snoc X4 N0 g_x
  have O4 := O0.wr W4 g_x
  have KK4 : Keep h0 h4 [x, Lf, Lm, Tr, ob0] := (Keep.refl h0 [x, Lf, Lm, Tr, ob0]).wr W4 (Or.inl (List.mem_of_getElem? (i := 0) rfl))
  obtain ⟨T5, X5, e5, st5⟩ := getF X4 hx hZ hown (host := "") (Or.inl (hw _ (List.mem_of_getElem? (i := 19) rfl))) Via.refl e4 (PF_ob0_left.other W4 (Or.inl ne_ob0_x)) (g := (mkF m 10 #[.val (.ref ob0), .val (.int q0), .val (.int q1), .val (.ref y)] [(.ref ob0)])) rfl rfl (hb hby d6_10)
  obtain ⟨ac6, aA6, aq6, aS6, aN6, aH6⟩ := id (PA_Lf.other W4 ne_Lf_x)
  obtain ⟨ac7, aA7, aq7, aS7, aN7, aH7⟩ := id (PA_Lf.other W4 ne_Lf_x)
  obtain ⟨T8, h8, X8, e8, W8, st8⟩ := stI X5 hx hZ e5 aA7 (j := q0) (by rw [aS7]; exact hin5) (g := (mkF m 18 #[.val (.ref ob0), .val (.int q0), .val (.int q1), .val (.ref y)] [(.int (w15 - (1 : Int32))), (.int q0), (.ref Lf)])) rfl rfl (hb hby d6_18)
  have A_8 : Ars Z h8 Lf k_Lf .int N (own_upd fL (q0).toNatClampNeg (.int (w15 - (1 : Int32)))) := Ars.set aA7 aq7 aS7 aN7 aH7 W8
  have N8 := Fr.snoc X8 N4 g_Lf
  have O8 := O4.wr W8 g_Lf
  have KK8 : Keep h0 h8 [x, Lf, Lm, Tr, ob0] := KK4.wr W8 (Or.inl (List.mem_of_getElem? (i := 1) rfl))
  obtain ⟨T9, X9, e9, st9⟩ := getF X8 hx hZ hown (host := "") (Or.inl (hw _ (List.mem_of_getElem? (i := 22) rfl))) Via.refl e8 ((PF_ob0_leftMasks.other W4 (Or.inl ne_ob0_x)).other W8 (Or.inl (Ne.symm ne_Lf_ob0))) (g := (mkF m 20 #[.val (.ref ob0), .val (.int q0), .val (.int q1), .val (.ref y)] [(.ref ob0)])) rfl rfl (hb hby d6_20)
  obtain ⟨ac10, aA10, aq10, aS10, aN10, aH10⟩ := id ((PA_Lm.other W4 ne_Lm_x).other W8 (Ne.symm ne_Lf_Lm))
  obtain ⟨ac11, aA11, aq11, aS11, aN11, aH11⟩ := id ((PA_Lm.other W4 ne_Lm_x).other W8 (Ne.symm ne_Lf_Lm))
  obtain ⟨T12, h12, X12, e12, W12, st12⟩ := stJ X9 hx hZ e9 aA11 (j := q0) (by rw [aS11]; exact hin5) (g := (mkF m 34 #[.val (.ref ob0), .val (.int q0), .val (.int q1), .val (.ref y)] [(.long (w25 &&& (((1 : Int64) <<< (q1 &&& 0x3f).toInt64) ^^^ (-1 : Int64)))), (.int q0), (.ref Lm)])) rfl rfl (hb hby d6_34)
  have A_12 : Ars Z h12 Lm k_Lm .long N (own_upd fM (q0).toNatClampNeg (.long (w25 &&& (((1 : Int64) <<< (q1 &&& 0x3f).toInt64) ^^^ (-1 : Int64))))) := Ars.set aA11 aq11 aS11 aN11 aH11 W12
  have N12 := Fr.snoc X12 N8 g_Lm
  have O12 := O8.wr W12 g_Lm
  have KK12 : Keep h0 h12 [x, Lf, Lm, Tr, ob0] := KK8.wr W12 (Or.inl (List.mem_of_getElem? (i := 2) rfl))
  have J13 := (((PF_ob0_trail.other W4 (Or.inl ne_ob0_x)).other W8 (Or.inl (Ne.symm ne_Lf_ob0))).other W12 (Or.inl (Ne.symm ne_Lm_ob0)))
  obtain ⟨T14, X14, e14, st14⟩ := getF X12 hx hZ hown (host := "") (Or.inl (hw _ (List.mem_of_getElem? (i := 31) rfl))) Via.refl e12 J13 (g := (mkF m 36 #[.val (.ref ob0), .val (.int q0), .val (.int q1), .val (.ref y)] [(.ref ob0)])) rfl rfl (hb hby d6_36)
  have J15 := (((PF_ob0_trailSize.other W4 (Or.inl ne_ob0_x)).other W8 (Or.inl (Ne.symm ne_Lf_ob0))).other W12 (Or.inl (Ne.symm ne_Lm_ob0)))
  obtain ⟨T16, X16, e16, st16⟩ := getF X14 hx hZ hown (host := "") (Or.inl (hw _ (List.mem_of_getElem? (i := 43) rfl))) Via.refl e14 J15 (g := (mkF m 40 #[.val (.ref ob0), .val (.int q0), .val (.int q1), .val (.ref y)] [(.ref ob0), (.ref Tr)])) rfl rfl (hb hby d6_40)
  have J18 := (((PA_Tr.other W4 ne_Tr_x).other W8 (Ne.symm ne_Lf_Tr)).other W12 (Ne.symm ne_Lm_Tr))
  obtain ⟨ac17, aA17, aq17, aS17, aN17, aH17⟩ := id J18
  obtain ⟨T19, h19, X19, e19, W19, st19⟩ := stI X16 hx hZ e16 aA17 (j := ts) (by rw [aS17]; exact hin44) (g := (mkF m 44 #[.val (.ref ob0), .val (.int q0), .val (.int q1), .val (.ref y)] [(.int q0), (.int ts), (.ref Tr)])) rfl rfl (hb hby d6_44)
  have A_19 : Ars Z h19 Tr k_Tr .int nT (own_upd fT (ts).toNatClampNeg (.int q0)) := Ars.set aA17 aq17 aS17 aN17 aH17 W19
  have N19 := Fr.snoc X19 N12 g_Tr
  have O19 := O12.wr W19 g_Tr
  have KK19 : Keep h0 h19 [x, Lf, Lm, Tr, ob0] := KK12.wr W19 (Or.inl (List.mem_of_getElem? (i := 3) rfl))
  obtain ⟨T20, X20, e20, st20⟩ := getF X19 hx hZ hown (host := "") (Or.inl (hw _ (List.mem_of_getElem? (i := 31) rfl))) Via.refl e19 (J13.other W19 (Or.inl (Ne.symm ne_Tr_ob0))) (g := (mkF m 46 #[.val (.ref ob0), .val (.int q0), .val (.int q1), .val (.ref y)] [(.ref ob0)])) rfl rfl (hb hby d6_46)
  obtain ⟨T21, X21, e21, st21⟩ := getF X20 hx hZ hown (host := "") (Or.inl (hw _ (List.mem_of_getElem? (i := 43) rfl))) Via.refl e20 (J15.other W19 (Or.inl (Ne.symm ne_Tr_ob0))) (g := (mkF m 50 #[.val (.ref ob0), .val (.int q0), .val (.int q1), .val (.ref y)] [(.ref ob0), (.ref Tr)])) rfl rfl (hb hby d6_50)
  obtain ⟨ac22, aA22, aq22, aS22, aN22, aH22⟩ := id A_19
  obtain ⟨T23, h23, X23, e23, W23, st23⟩ := stI X21 hx hZ e21 aA22 (j := (ts + (1 : Int32))) (by rw [aS22]; exact hin56) (g := (mkF m 56 #[.val (.ref ob0), .val (.int q0), .val (.int q1), .val (.ref y)] [(.int q1), (.int (ts + (1 : Int32))), (.ref Tr)])) rfl rfl (hb hby d6_56)
  have A_23 : Ars Z h23 Tr k_Tr .int nT (own_upd (own_upd fT (ts).toNatClampNeg (.int q0)) ((ts + (1 : Int32))).toNatClampNeg (.int q1)) := Ars.set aA22 aq22 aS22 aN22 aH22 W23
  have N23 := Fr.snoc X23 N19 g_Tr
  have O23 := O19.wr W23 g_Tr
  have KK23 : Keep h0 h23 [x, Lf, Lm, Tr, ob0] := KK19.wr W23 (Or.inl (List.mem_of_getElem? (i := 3) rfl))
  obtain ⟨T24, X24, e24, st24⟩ := getF X23 hx hZ hown (host := "") (Or.inl (hw _ (List.mem_of_getElem? (i := 43) rfl))) Via.refl e23 ((J15.other W19 (Or.inl (Ne.symm ne_Tr_ob0))).other W23 (Or.inl (Ne.symm ne_Tr_ob0))) (g := (mkF m 59 #[.val (.ref ob0), .val (.int q0), .val (.int q1), .val (.ref y)] [(.ref ob0), (.ref ob0)])) rfl rfl (hb hby d6_59)
  have J25 := (((((PE_ob0.wr W4).wr W8).wr W12).wr W19).wr W23)
  obtain ⟨T26, h26, X26, e26, W26, st26⟩ := putF X24 hx hZ hown (host := "") (Or.inl (hw _ (List.mem_of_getElem? (i := 43) rfl))) Via.refl e24 ((J15.other W19 (Or.inl (Ne.symm ne_Tr_ob0))).other W23 (Or.inl (Ne.symm ne_Tr_ob0))) J25 (Or.inl (hw _ (List.mem_of_getElem? (i := 44) rfl))) (hw _ (List.mem_of_getElem? (i := 6) rfl)) (ty := .int) (by decide) rfl rfl (g := (mkF m 64 #[.val (.ref ob0), .val (.int q0), .val (.int q1), .val (.ref y)] [(.int (ts + (2 : Int32))), (.ref ob0)])) rfl rfl (hb hby d6_64)
  have Fw26 := ((J15.other W19 (Or.inl (Ne.symm ne_Tr_ob0))).other W23 (Or.inl (Ne.symm ne_Tr_ob0))).same W26
  have N26 := Fr.snoc X26 N23 g_ob0
  have O26 := O23.wr W26 g_ob0
  have KK26 : Keep h0 h26 [x, Lf, Lm, Tr, ob0] := KK23.wr W26 (Or.inl (List.mem_of_getElem? (i := 4) rfl))
  have J27 := (((((A_4.other W8 (Ne.symm ne_Lf_x)).other W12 (Ne.symm ne_Lm_x)).other W19 (Ne.symm ne_Tr_x)).other W23 (Ne.symm ne_Tr_x)).other W26 (Ne.symm ne_ob0_x))
  have J28 := ((((A_8.other W12 ne_Lf_Lm).other W19 ne_Lf_Tr).other W23 ne_Lf_Tr).other W26 ne_Lf_ob0)
  have J29 := (((A_12.other W19 ne_Lm_Tr).other W23 ne_Lm_Tr).other W26 ne_Lm_ob0)
  have J30 := ((((((PF_ob0_reasons.other W4 (Or.inl ne_ob0_x)).other W8 (Or.inl (Ne.symm ne_Lf_ob0))).other W12 (Or.inl (Ne.symm ne_Lm_ob0))).other W19 (Or.inl (Ne.symm ne_Tr_ob0))).other W23 (Or.inl (Ne.symm ne_Tr_ob0))).other W26 (Or.inr (slot_ne (Or.inr (hw _ (List.mem_of_getElem? (i := 18) rfl))) (Or.inl (hw _ (List.mem_of_getElem? (i := 44) rfl))) (by decide) (t := (.array (.array (.array .int)))) (t' := .int) (by decide) (by decide))))
  have J31 := ((((((PF_ob0_left.other W4 (Or.inl ne_ob0_x)).other W8 (Or.inl (Ne.symm ne_Lf_ob0))).other W12 (Or.inl (Ne.symm ne_Lm_ob0))).other W19 (Or.inl (Ne.symm ne_Tr_ob0))).other W23 (Or.inl (Ne.symm ne_Tr_ob0))).other W26 (Or.inr (slot_ne (Or.inr (hw _ (List.mem_of_getElem? (i := 20) rfl))) (Or.inl (hw _ (List.mem_of_getElem? (i := 44) rfl))) (by decide) (t := (.array .int)) (t' := .int) (by decide) (by decide))))
  have J32 := ((((((PF_ob0_leftMasks.other W4 (Or.inl ne_ob0_x)).other W8 (Or.inl (Ne.symm ne_Lf_ob0))).other W12 (Or.inl (Ne.symm ne_Lm_ob0))).other W19 (Or.inl (Ne.symm ne_Tr_ob0))).other W23 (Or.inl (Ne.symm ne_Tr_ob0))).other W26 (Or.inr (slot_ne (Or.inr (hw _ (List.mem_of_getElem? (i := 23) rfl))) (Or.inl (hw _ (List.mem_of_getElem? (i := 44) rfl))) (by decide) (t := (.array .long)) (t' := .int) (by decide) (by decide))))
  have J33 := (((J13.other W19 (Or.inl (Ne.symm ne_Tr_ob0))).other W23 (Or.inl (Ne.symm ne_Tr_ob0))).other W26 (Or.inr (slot_ne (Or.inr (hw _ (List.mem_of_getElem? (i := 32) rfl))) (Or.inl (hw _ (List.mem_of_getElem? (i := 44) rfl))) (by decide) (t := (.array .int)) (t' := .int) (by decide) (by decide))))
  obtain ⟨fs, hr, hrun, hended, hW, hsame⟩ := X26.leave (v := none) (fun _ => rfl)
  refine ⟨_, _, pre0 _ ?_, hrun, hended, _, _, rfl, ?_, ⟨_, rfl⟩, hW, hsame.mono (by decide) (by decide)⟩
  · show Steps p.tables e below (s₁.setTop (mkF m 0 #[.val (.ref ob0), .val (.int q0), .val (.int q1), .val (.ref y)] [])) _
    refine XS.aloadN X0.here hx rfl (hb hby d6_0) rfl rfl ?_
    show Steps p.tables e below (s₁.setTop (mkF m 1 #[.val (.ref ob0), .val (.int q0), .val (.int q1), .val (.ref y)] [(.ref ob0)])) _
    refine st1 _ ?_
    show Steps p.tables e below (T1.setTop (mkF m 4 #[.val (.ref ob0), .val (.int q0), .val (.int q1), .val (.ref y)] [(.ref R)])) _
    refine XS.iloadN X1.here hx rfl (hb hby d6_4) rfl ?_
    show Steps p.tables e below (T1.setTop (mkF m 5 #[.val (.ref ob0), .val (.int q0), .val (.int q1), .val (.ref y)] [(.int q0), (.ref R)])) _
    refine X1.aaload hx (j := q0) (v := (.ref x)) (by rw [e1]; exact aA2.1) (State.isArrayOf_alike hZ.alike aA2.2.1) rfl aA2.2.2 (by rw [aS2]; exact hin5) (own_at aH2 hin5 hat5) (g := (mkF m 5 #[.val (.ref ob0), .val (.int q0), .val (.int q1), .val (.ref y)] [(.int q0), (.ref R)])) rfl rfl (hb hby d6_5) _ ?_
    show Steps p.tables e below (T1.setTop (mkF m 6 #[.val (.ref ob0), .val (.int q0), .val (.int q1), .val (.ref y)] [(.ref x)])) _
    refine XS.iloadN X1.here hx rfl (hb hby d6_6) rfl ?_
    show Steps p.tables e below (T1.setTop (mkF m 7 #[.val (.ref ob0), .val (.int q0), .val (.int q1), .val (.ref y)] [(.int q1), (.ref x)])) _
    refine XS.aloadN X1.here hx rfl (hb hby d6_7) rfl rfl ?_
    show Steps p.tables e below (T1.setTop (mkF m 8 #[.val (.ref ob0), .val (.int q0), .val (.int q1), .val (.ref y)] [(.ref y), (.int q1), (.ref x)])) _
    refine st4 _ ?_
    show Steps p.tables e below (T4.setTop (mkF m 9 #[.val (.ref ob0), .val (.int q0), .val (.int q1), .val (.ref y)] [])) _
    refine XS.aloadN X4.here hx rfl (hb hby d6_9) rfl rfl ?_
    show Steps p.tables e below (T4.setTop (mkF m 10 #[.val (.ref ob0), .val (.int q0), .val (.int q1), .val (.ref y)] [(.ref ob0)])) _
    refine st5 _ ?_
    show Steps p.tables e below (T5.setTop (mkF m 13 #[.val (.ref ob0), .val (.int q0), .val (.int q1), .val (.ref y)] [(.ref Lf)])) _
    refine XS.iloadN X5.here hx rfl (hb hby d6_13) rfl ?_
    show Steps p.tables e below (T5.setTop (mkF m 14 #[.val (.ref ob0), .val (.int q0), .val (.int q1), .val (.ref y)] [(.int q0), (.ref Lf)])) _
    jvm_step X5.here [X5.here.top, hx, (hb hby d6_14), Value.category]
    show Steps p.tables e below (T5.setTop (mkF m 15 #[.val (.ref ob0), .val (.int q0), .val (.int q1), .val (.ref y)] [(.int q0), (.ref Lf), (.int q0), (.ref Lf)])) _
    refine X5.iaload hx (j := q0) (v := (.int w15)) (by rw [e5]; exact aA6.1) (State.isArrayOf_alike hZ.alike aA6.2.1) aA6.2.2 (by rw [aS6]; exact hin5) (own_at aH6 hin5 hat15) (g := (mkF m 15 #[.val (.ref ob0), .val (.int q0), .val (.int q1), .val (.ref y)] [(.int q0), (.ref Lf), (.int q0), (.ref Lf)])) rfl rfl (hb hby d6_15) _ ?_
    show Steps p.tables e below (T5.setTop (mkF m 16 #[.val (.ref ob0), .val (.int q0), .val (.int q1), .val (.ref y)] [(.int w15), (.int q0), (.ref Lf)])) _
    refine XS.iconst X5.here hx rfl (hb hby d6_16) ?_
    show Steps p.tables e below (T5.setTop (mkF m 17 #[.val (.ref ob0), .val (.int q0), .val (.int q1), .val (.ref y)] [(.int (1 : Int32)), (.int w15), (.int q0), (.ref Lf)])) _
    refine XS.isub X5.here hx rfl (hb hby d6_17) rfl ?_
    show Steps p.tables e below (T5.setTop (mkF m 18 #[.val (.ref ob0), .val (.int q0), .val (.int q1), .val (.ref y)] [(.int (w15 - (1 : Int32))), (.int q0), (.ref Lf)])) _
    refine st8 _ ?_
    show Steps p.tables e below (T8.setTop (mkF m 19 #[.val (.ref ob0), .val (.int q0), .val (.int q1), .val (.ref y)] [])) _
    refine XS.aloadN X8.here hx rfl (hb hby d6_19) rfl rfl ?_
    show Steps p.tables e below (T8.setTop (mkF m 20 #[.val (.ref ob0), .val (.int q0), .val (.int q1), .val (.ref y)] [(.ref ob0)])) _
    refine st9 _ ?_
    show Steps p.tables e below (T9.setTop (mkF m 23 #[.val (.ref ob0), .val (.int q0), .val (.int q1), .val (.ref y)] [(.ref Lm)])) _
    refine XS.iloadN X9.here hx rfl (hb hby d6_23) rfl ?_
    show Steps p.tables e below (T9.setTop (mkF m 24 #[.val (.ref ob0), .val (.int q0), .val (.int q1), .val (.ref y)] [(.int q0), (.ref Lm)])) _
    jvm_step X9.here [X9.here.top, hx, (hb hby d6_24), Value.category]
    show Steps p.tables e below (T9.setTop (mkF m 25 #[.val (.ref ob0), .val (.int q0), .val (.int q1), .val (.ref y)] [(.int q0), (.ref Lm), (.int q0), (.ref Lm)])) _
    refine X9.laload hx (j := q0) (v := (.long w25)) (by rw [e9]; exact aA10.1) (State.isArrayOf_alike hZ.alike aA10.2.1) aA10.2.2 (by rw [aS10]; exact hin5) (own_at aH10 hin5 hat25) (g := (mkF m 25 #[.val (.ref ob0), .val (.int q0), .val (.int q1), .val (.ref y)] [(.int q0), (.ref Lm), (.int q0), (.ref Lm)])) rfl rfl (hb hby d6_25) _ ?_
    show Steps p.tables e below (T9.setTop (mkF m 26 #[.val (.ref ob0), .val (.int q0), .val (.int q1), .val (.ref y)] [(.long w25), (.int q0), (.ref Lm)])) _
    refine XS.lconst X9.here hx rfl (hb hby d6_26) ?_
    show Steps p.tables e below (T9.setTop (mkF m 27 #[.val (.ref ob0), .val (.int q0), .val (.int q1), .val (.ref y)] [(.long (1 : Int64)), (.long w25), (.int q0), (.ref Lm)])) _
    refine XS.iloadN X9.here hx rfl (hb hby d6_27) rfl ?_
    show Steps p.tables e below (T9.setTop (mkF m 28 #[.val (.ref ob0), .val (.int q0), .val (.int q1), .val (.ref y)] [(.int q1), (.long (1 : Int64)), (.long w25), (.int q0), (.ref Lm)])) _
    refine XS.lshl X9.here hx rfl (hb hby d6_28) rfl ?_
    show Steps p.tables e below (T9.setTop (mkF m 29 #[.val (.ref ob0), .val (.int q0), .val (.int q1), .val (.ref y)] [(.long ((1 : Int64) <<< (q1 &&& 0x3f).toInt64)), (.long w25), (.int q0), (.ref Lm)])) _
    refine X9.ldc2Long hx hown (mvT hZ (hw _ (List.mem_of_getElem? (i := 30) rfl))) (g := (mkF m 29 #[.val (.ref ob0), .val (.int q0), .val (.int q1), .val (.ref y)] [(.long ((1 : Int64) <<< (q1 &&& 0x3f).toInt64)), (.long w25), (.int q0), (.ref Lm)])) rfl (hb hby d6_29) _ ?_
    show Steps p.tables e below (T9.setTop (mkF m 32 #[.val (.ref ob0), .val (.int q0), .val (.int q1), .val (.ref y)] [(.long (-1 : Int64)), (.long ((1 : Int64) <<< (q1 &&& 0x3f).toInt64)), (.long w25), (.int q0), (.ref Lm)])) _
    refine XS.lxor X9.here hx rfl (hb hby d6_32) rfl ?_
    show Steps p.tables e below (T9.setTop (mkF m 33 #[.val (.ref ob0), .val (.int q0), .val (.int q1), .val (.ref y)] [(.long (((1 : Int64) <<< (q1 &&& 0x3f).toInt64) ^^^ (-1 : Int64))), (.long w25), (.int q0), (.ref Lm)])) _
    refine XS.land X9.here hx rfl (hb hby d6_33) rfl ?_
    show Steps p.tables e below (T9.setTop (mkF m 34 #[.val (.ref ob0), .val (.int q0), .val (.int q1), .val (.ref y)] [(.long (w25 &&& (((1 : Int64) <<< (q1 &&& 0x3f).toInt64) ^^^ (-1 : Int64)))), (.int q0), (.ref Lm)])) _
    refine st12 _ ?_
    show Steps p.tables e below (T12.setTop (mkF m 35 #[.val (.ref ob0), .val (.int q0), .val (.int q1), .val (.ref y)] [])) _
    refine XS.aloadN X12.here hx rfl (hb hby d6_35) rfl rfl ?_
    show Steps p.tables e below (T12.setTop (mkF m 36 #[.val (.ref ob0), .val (.int q0), .val (.int q1), .val (.ref y)] [(.ref ob0)])) _
    refine st14 _ ?_
    show Steps p.tables e below (T14.setTop (mkF m 39 #[.val (.ref ob0), .val (.int q0), .val (.int q1), .val (.ref y)] [(.ref Tr)])) _
    refine XS.aloadN X14.here hx rfl (hb hby d6_39) rfl rfl ?_
    show Steps p.tables e below (T14.setTop (mkF m 40 #[.val (.ref ob0), .val (.int q0), .val (.int q1), .val (.ref y)] [(.ref ob0), (.ref Tr)])) _
    refine st16 _ ?_
    show Steps p.tables e below (T16.setTop (mkF m 43 #[.val (.ref ob0), .val (.int q0), .val (.int q1), .val (.ref y)] [(.int ts), (.ref Tr)])) _
    refine XS.iloadN X16.here hx rfl (hb hby d6_43) rfl ?_
    show Steps p.tables e below (T16.setTop (mkF m 44 #[.val (.ref ob0), .val (.int q0), .val (.int q1), .val (.ref y)] [(.int q0), (.int ts), (.ref Tr)])) _
    refine st19 _ ?_
    show Steps p.tables e below (T19.setTop (mkF m 45 #[.val (.ref ob0), .val (.int q0), .val (.int q1), .val (.ref y)] [])) _
    refine XS.aloadN X19.here hx rfl (hb hby d6_45) rfl rfl ?_
    show Steps p.tables e below (T19.setTop (mkF m 46 #[.val (.ref ob0), .val (.int q0), .val (.int q1), .val (.ref y)] [(.ref ob0)])) _
    refine st20 _ ?_
    show Steps p.tables e below (T20.setTop (mkF m 49 #[.val (.ref ob0), .val (.int q0), .val (.int q1), .val (.ref y)] [(.ref Tr)])) _
    refine XS.aloadN X20.here hx rfl (hb hby d6_49) rfl rfl ?_
    show Steps p.tables e below (T20.setTop (mkF m 50 #[.val (.ref ob0), .val (.int q0), .val (.int q1), .val (.ref y)] [(.ref ob0), (.ref Tr)])) _
    refine st21 _ ?_
    show Steps p.tables e below (T21.setTop (mkF m 53 #[.val (.ref ob0), .val (.int q0), .val (.int q1), .val (.ref y)] [(.int ts), (.ref Tr)])) _
    refine XS.iconst X21.here hx rfl (hb hby d6_53) ?_
    show Steps p.tables e below (T21.setTop (mkF m 54 #[.val (.ref ob0), .val (.int q0), .val (.int q1), .val (.ref y)] [(.int (1 : Int32)), (.int ts), (.ref Tr)])) _
    refine XS.iadd X21.here hx rfl (hb hby d6_54) rfl ?_
    show Steps p.tables e below (T21.setTop (mkF m 55 #[.val (.ref ob0), .val (.int q0), .val (.int q1), .val (.ref y)] [(.int (ts + (1 : Int32))), (.ref Tr)])) _
    refine XS.iloadN X21.here hx rfl (hb hby d6_55) rfl ?_
    show Steps p.tables e below (T21.setTop (mkF m 56 #[.val (.ref ob0), .val (.int q0), .val (.int q1), .val (.ref y)] [(.int q1), (.int (ts + (1 : Int32))), (.ref Tr)])) _
    refine st23 _ ?_
    show Steps p.tables e below (T23.setTop (mkF m 57 #[.val (.ref ob0), .val (.int q0), .val (.int q1), .val (.ref y)] [])) _
    refine XS.aloadN X23.here hx rfl (hb hby d6_57) rfl rfl ?_
    show Steps p.tables e below (T23.setTop (mkF m 58 #[.val (.ref ob0), .val (.int q0), .val (.int q1), .val (.ref y)] [(.ref ob0)])) _
    refine XS.dup X23.here hx rfl (hb hby d6_58) rfl rfl ?_
    show Steps p.tables e below (T23.setTop (mkF m 59 #[.val (.ref ob0), .val (.int q0), .val (.int q1), .val (.ref y)] [(.ref ob0), (.ref ob0)])) _
    refine st24 _ ?_
    show Steps p.tables e below (T24.setTop (mkF m 62 #[.val (.ref ob0), .val (.int q0), .val (.int q1), .val (.ref y)] [(.int ts), (.ref ob0)])) _
    refine XS.iconst X24.here hx rfl (hb hby d6_62) ?_
    show Steps p.tables e below (T24.setTop (mkF m 63 #[.val (.ref ob0), .val (.int q0), .val (.int q1), .val (.ref y)] [(.int (2 : Int32)), (.int ts), (.ref ob0)])) _
    refine XS.iadd X24.here hx rfl (hb hby d6_63) rfl ?_
    show Steps p.tables e below (T24.setTop (mkF m 64 #[.val (.ref ob0), .val (.int q0), .val (.int q1), .val (.ref y)] [(.int (ts + (2 : Int32))), (.ref ob0)])) _
    refine st26 _ ?_
    show Steps p.tables e below (T26.setTop (mkF m 67 #[.val (.ref ob0), .val (.int q0), .val (.int q1), .val (.ref y)] [])) _
    exact X26.returnOut hx Bd.returns (hb hby d6_67) hr
  · have eH : (T26.setFrames fs).heap = h26 := e26; rw [eH]; exact ⟨rfl, N26, KK26, O26, J27, J28, J29, (A_23.other W26 ne_Tr_ob0), (J25.wr W26), J30, J31, J32, J33, Fw26, trivial⟩
theorem d5_0 : decode prog_59_method_8_code 0 = .ok (.aload_n 0, 1) := by decide +kernel
theorem d5_1 : decode prog_59_method_8_code 1 = .ok (.getfield 44, 3) := by decide +kernel
theorem d5_4 : decode prog_59_method_8_code 4 = .ok (.ireturn, 1) := by decide +kernel
theorem ef146 (m : MethodId) (x0 : Addr) : entryFrame m #[(.ref x0)] 1 = mkF m 0 #[.val (.ref x0)] [] := by first | (simp [entryFrame, mkF, argsToLocals, Value.category]; done) | rfl
def Q5_3 (Z : State) (ob0 : Addr) (ts : Int32) (h0 : Heap) (n0 : Nat) (v : Option Value) (h : Heap) (L : List Loc) : Prop := v = some (.int ts) ∧ Fr n0 L ∧ h = h0
set_option maxRecDepth 65536 in
set_option maxHeartbeats 40000000 in
theorem rm5_3 (l : Launch) (Z : State) (a0 : Array Value) (hw : ∀ d ∈ tables_1, d.before a0 Z = true) (ws : List Jvm.Cond) (ob0 : Addr) (ts : Int32) (h0 : Heap) (n0 : Nat) (Z0 : n0 ≤ h0.size) (O0 : Old Z n0 h0) (PE_ob0 : Exa Z h0 ob0 "com/example/caprice/caprice/solver/Domains") (PF_ob0_trailSize : Fld Z h0 ob0 "com/example/caprice/caprice/solver/Domains" "trailSize" "I" (.int ts)) :
    MetFree l (⟨"com/example/caprice/caprice/solver/Domains", "mark", "()I"⟩ : MethodName) (head1 (Jvm.Cond.code (⟨"com/example/caprice/caprice/solver/Domains", "mark", "()I"⟩ : MethodName) prog_59_method_8_code 1 (some .int) :: ws) ({ frames := 0, cells := 0, slots := 0, locals := 0 } : Room)) (fun a U => a = #[(.ref ob0)] ∧ Z.Warmed39 U.vm ∧ U.heap = h0) (fun _ _ _ _ _ => True) (fun _ U o U' => ∃ v L, o = .returned v ∧ Q5_3 Z  ob0 ts h0 n0 v U'.heap L ∧ FrameEnd U o U' L ({ frames := 0, cells := 0, slots := 0, locals := 0 } : Room).cells ({ frames := 0, cells := 0, slots := 0, locals := 0 } : Room).slots) := by
  refine MetFree.of_bodySF (plainFor_of_name pn69) hisR ?_
  intro p e s m args below meth c s₁ Bd hml0 hP hK
  obtain ⟨rfl, hZ, hh⟩ := hP
  have hx := Bd.exec
  have hby := Bd.bytes
  have hml : c.maxLocals = 1 := hml0
  have hown : s.vm.findClass "com/example/caprice/caprice/solver/Domains" = some m.cls := findClass_of_methodNamed Bd.named
  have hnm := (name_of_methodNamed Bd.named Bd.method).1
  have X0 : Stand p l e ({ frames := 0, cells := 0, slots := 0, locals := 0 } : Room) s m #[(.ref ob0)] below meth c s₁ [] 0 0 := Stand.of_body Bd
  have e0 : s₁.heap = h0 := by rw [← hh, Bd.state]; rfl
  have N0 := Fr.nil n0
  have pre0 : ∀ t, Steps p.tables e below (s₁.setTop (mkF m 0 #[.val (.ref ob0)] [])) t → Steps p.tables e below (s₁.setTop (entryFrame m #[(.ref ob0)] 1)) t := fun t k => castTop (ef146 m ob0) k
  obtain ⟨T1, X1, e1, st1⟩ := getF X0 hx hZ hown (host := "") (Or.inl (hw _ (List.mem_of_getElem? (i := 43) rfl))) Via.refl e0 PF_ob0_trailSize (g := (mkF m 1 #[.val (.ref ob0)] [(.ref ob0)])) rfl rfl (hb hby d5_1)
  obtain ⟨fs, hr, hrun, hended, hW, hsame⟩ := X1.leave (v := some (.int ts)) (fun h => by rw [Bd.returns] at h; cases h)
  refine ⟨_, _, pre0 _ ?_, hrun, hended, _, _, rfl, ?_, ⟨_, rfl⟩, hW, hsame.mono (by decide) (by decide)⟩
  · show Steps p.tables e below (s₁.setTop (mkF m 0 #[.val (.ref ob0)] [])) _
    refine XS.aloadN X0.here hx rfl (hb hby d5_0) rfl rfl ?_
    show Steps p.tables e below (s₁.setTop (mkF m 1 #[.val (.ref ob0)] [(.ref ob0)])) _
    refine st1 _ ?_
    show Steps p.tables e below (T1.setTop (mkF m 4 #[.val (.ref ob0)] [(.int ts)])) _
    exact Jvm.RoadKit.retI X1 hx Bd.returns (hb hby d5_4) hr
  · exact ⟨rfl, N0, e1⟩
theorem d7_0 : decode prog_59_method_9_code 0 = .ok (.aload_n 0, 1) := by decide +kernel
theorem d7_1 : decode prog_59_method_9_code 1 = .ok (.getfield 44, 3) := by decide +kernel
theorem d7_4 : decode prog_59_method_9_code 4 = .ok (.iload_n 1, 1) := by decide +kernel
theorem d7_5 : decode prog_59_method_9_code 5 = .ok (.if_icmp .le 69, 3) := by decide +kernel
theorem d7_8 : decode prog_59_method_9_code 8 = .ok (.aload_n 0, 1) := by decide +kernel
theorem d7_9 : decode prog_59_method_9_code 9 = .ok (.dup, 1) := by decide +kernel
theorem d7_10 : decode prog_59_method_9_code 10 = .ok (.getfield 44, 3) := by decide +kernel
theorem d7_13 : decode prog_59_method_9_code 13 = .ok (.iconst 2, 1) := by decide +kernel
theorem d7_14 : decode prog_59_method_9_code 14 = .ok (.isub, 1) := by decide +kernel
theorem d7_15 : decode prog_59_method_9_code 15 = .ok (.putfield 44, 3) := by decide +kernel
theorem d7_18 : decode prog_59_method_9_code 18 = .ok (.aload_n 0, 1) := by decide +kernel
theorem d7_19 : decode prog_59_method_9_code 19 = .ok (.getfield 30, 3) := by decide +kernel
theorem d7_22 : decode prog_59_method_9_code 22 = .ok (.aload_n 0, 1) := by decide +kernel
theorem d7_23 : decode prog_59_method_9_code 23 = .ok (.getfield 44, 3) := by decide +kernel
theorem d7_26 : decode prog_59_method_9_code 26 = .ok (.iaload, 1) := by decide +kernel
theorem os7_27_162 {z0 : Value} {z1 : Value} {z2 : Slot} {z3 : Slot} {v : Int32} (h_z2 : One z2) : storeLocals #[.val z0, .val z1, z2, z3] 2 (.int v) = some #[.val z0, .val z1, .val (.int v), z3] := by
  rcases h_z2 with rfl | ⟨w_z2, rfl, hw_z2⟩
  · skip
    rfl
  · cases w_z2 <;> first | (simp [Value.category] at hw_z2; done) | skip
    all_goals
      rfl
theorem d7_27 : decode prog_59_method_9_code 27 = .ok (.istore_n 2, 1) := by decide +kernel
theorem d7_28 : decode prog_59_method_9_code 28 = .ok (.aload_n 0, 1) := by decide +kernel
theorem d7_29 : decode prog_59_method_9_code 29 = .ok (.getfield 30, 3) := by decide +kernel
theorem d7_32 : decode prog_59_method_9_code 32 = .ok (.aload_n 0, 1) := by decide +kernel
theorem d7_33 : decode prog_59_method_9_code 33 = .ok (.getfield 44, 3) := by decide +kernel
theorem d7_36 : decode prog_59_method_9_code 36 = .ok (.iconst 1, 1) := by decide +kernel
theorem d7_37 : decode prog_59_method_9_code 37 = .ok (.iadd, 1) := by decide +kernel
theorem d7_38 : decode prog_59_method_9_code 38 = .ok (.iaload, 1) := by decide +kernel
theorem os7_39_171 {z0 : Value} {z1 : Value} {z2 : Value} {z3 : Slot} {v : Int32} (h_z3 : One z3) : storeLocals #[.val z0, .val z1, .val z2, z3] 3 (.int v) = some #[.val z0, .val z1, .val z2, .val (.int v)] := by
  rcases h_z3 with rfl | ⟨w_z3, rfl, hw_z3⟩
  · skip
    rfl
  · cases w_z3 <;> first | (simp [Value.category] at hw_z3; done) | skip
    all_goals
      rfl
theorem d7_39 : decode prog_59_method_9_code 39 = .ok (.istore_n 3, 1) := by decide +kernel
theorem d7_40 : decode prog_59_method_9_code 40 = .ok (.aload_n 0, 1) := by decide +kernel
theorem d7_41 : decode prog_59_method_9_code 41 = .ok (.getfield 11, 3) := by decide +kernel
theorem d7_44 : decode prog_59_method_9_code 44 = .ok (.iload_n 2, 1) := by decide +kernel
theorem d7_45 : decode prog_59_method_9_code 45 = .ok (.aaload, 1) := by decide +kernel
theorem d7_46 : decode prog_59_method_9_code 46 = .ok (.iload_n 3, 1) := by decide +kernel
theorem d7_47 : decode prog_59_method_9_code 47 = .ok (.aconst_null, 1) := by decide +kernel
theorem d7_48 : decode prog_59_method_9_code 48 = .ok (.aastore, 1) := by decide +kernel
theorem d7_49 : decode prog_59_method_9_code 49 = .ok (.aload_n 0, 1) := by decide +kernel
theorem d7_50 : decode prog_59_method_9_code 50 = .ok (.getfield 17, 3) := by decide +kernel
theorem d7_53 : decode prog_59_method_9_code 53 = .ok (.iload_n 2, 1) := by decide +kernel
theorem d7_54 : decode prog_59_method_9_code 54 = .ok (.dup2, 1) := by decide +kernel
theorem d7_55 : decode prog_59_method_9_code 55 = .ok (.iaload, 1) := by decide +kernel
theorem d7_56 : decode prog_59_method_9_code 56 = .ok (.iconst 1, 1) := by decide +kernel
theorem d7_57 : decode prog_59_method_9_code 57 = .ok (.iadd, 1) := by decide +kernel
theorem d7_58 : decode prog_59_method_9_code 58 = .ok (.iastore, 1) := by decide +kernel
theorem d7_59 : decode prog_59_method_9_code 59 = .ok (.aload_n 0, 1) := by decide +kernel
theorem d7_60 : decode prog_59_method_9_code 60 = .ok (.getfield 21, 3) := by decide +kernel
theorem d7_63 : decode prog_59_method_9_code 63 = .ok (.iload_n 2, 1) := by decide +kernel
theorem d7_64 : decode prog_59_method_9_code 64 = .ok (.dup2, 1) := by decide +kernel
theorem d7_65 : decode prog_59_method_9_code 65 = .ok (.laload, 1) := by decide +kernel
theorem d7_66 : decode prog_59_method_9_code 66 = .ok (.lconst 1, 1) := by decide +kernel
theorem d7_67 : decode prog_59_method_9_code 67 = .ok (.iload_n 3, 1) := by decide +kernel
theorem d7_68 : decode prog_59_method_9_code 68 = .ok (.lshl, 1) := by decide +kernel
theorem d7_69 : decode prog_59_method_9_code 69 = .ok (.lor, 1) := by decide +kernel
theorem d7_70 : decode prog_59_method_9_code 70 = .ok (.lastore, 1) := by decide +kernel
theorem d7_71 : decode prog_59_method_9_code 71 = .ok (.goto (-71), 3) := by decide +kernel
set_option maxRecDepth 65536 in
set_option maxHeartbeats 40000000 in
theorem rstTurn {p : Program} {l : Launch} {e : Env} {s : State} {m : MethodId} {args : Array Value} {below : List Frame} {meth : Method} {c : Code} {T0 : State} {locs : List Loc} {Z : State} {a0 : Array Value} {h0 : Heap} {n0 : Nat} (ob0 : Addr) (q0 : Int32) (z2 : Slot) (z3 : Slot) (R : Addr) (Lf : Addr) (Lm : Addr) (Tr : Addr) (ts : Int32) (k_R : ClassId) (N : Nat) (fR : Nat → Value) (x : Addr) (k_x : ClassId) (K : Nat) (fx : Nat → Value) (k_Lf : ClassId) (fL : Nat → Value) (k_Lm : ClassId) (fM : Nat → Value) (k_Tr : ClassId) (nT : Nat) (fT : Nat → Value) (dI : Int32) (vI : Int32) (w55 : Int32) (w65 : Int64)
    (X0 : Stand p l e ({ frames := 0, cells := 0, slots := 0, locals := 0 } : Room) s m args below meth c T0 locs 0 0) (hx : p.tables.exec = Jvm.exec) (hZ : Z.Warmed39 s.vm) (hw : ∀ d ∈ tables_1, d.before a0 Z = true) (hby : c.code = prog_59_method_9_code) (hml : c.maxLocals = 4) (hown : s.vm.findClass "com/example/caprice/caprice/solver/Domains" = some m.cls) (e0 : T0.heap = h0) (N0 : Fr n0 locs) (O0 : Old Z n0 h0) (PE_ob0 : Exa Z h0 ob0 "com/example/caprice/caprice/solver/Domains") (PF_ob0_reasons : Fld Z h0 ob0 "com/example/caprice/caprice/solver/Domains" "reasons" "[[[I" (.ref R)) (PF_ob0_left : Fld Z h0 ob0 "com/example/caprice/caprice/solver/Domains" "left" "[I" (.ref Lf)) (PF_ob0_leftMasks : Fld Z h0 ob0 "com/example/caprice/caprice/solver/Domains" "leftMasks" "[J" (.ref Lm)) (PF_ob0_trail : Fld Z h0 ob0 "com/example/caprice/caprice/solver/Domains" "trail" "[I" (.ref Tr)) (PF_ob0_trailSize : Fld Z h0 ob0 "com/example/caprice/caprice/solver/Domains" "trailSize" "I" (.int ts)) (PA_R : Ars Z h0 R k_R (.array (.array .int)) N fR) (PA_x : Ars Z h0 x k_x (.array .int) K fx) (PA_Lf : Ars Z h0 Lf k_Lf .int N fL) (PA_Lm : Ars Z h0 Lm k_Lm .long N fM) (PA_Tr : Ars Z h0 Tr k_Tr .int nT fT) (ne_Tr_ob0 : Tr ≠ ob0) (ne_R_ob0 : R ≠ ob0) (ne_ob0_x : ob0 ≠ x) (ne_Lf_ob0 : Lf ≠ ob0) (ne_Lf_x : Lf ≠ x) (ne_Lm_ob0 : Lm ≠ ob0) (ne_Lm_x : Lm ≠ x) (ne_Lf_Lm : Lf ≠ Lm) (g_ob0 : n0 ≤ ob0) (g_x : n0 ≤ x) (g_Lf : n0 ≤ Lf) (g_Lm : n0 ≤ Lm) (hin26 : ¬ ((ts - (2 : Int32)) < 0 ∨ nT ≤ ((ts - (2 : Int32))).toNatClampNeg)) (hat26 : fT ((ts - (2 : Int32))).toNatClampNeg = (.int dI)) (hone_z2 : One z2) (hin38 : ¬ (((ts - (2 : Int32)) + (1 : Int32)) < 0 ∨ nT ≤ (((ts - (2 : Int32)) + (1 : Int32))).toNatClampNeg)) (hat38 : fT (((ts - (2 : Int32)) + (1 : Int32))).toNatClampNeg = (.int vI)) (hone_z3 : One z3) (hin45 : ¬ (dI < 0 ∨ N ≤ (dI).toNatClampNeg)) (hat45 : fR (dI).toNatClampNeg = (.ref x)) (hin48 : ¬ (vI < 0 ∨ K ≤ (vI).toNatClampNeg)) (hat55 : fL (dI).toNatClampNeg = (.int w55)) (hat65 : fM (dI).toNatClampNeg = (.long w65)) (hd0 : q0 < ts) :
    ∃ (T' : State) (locs' : List Loc), Stand p l e ({ frames := 0, cells := 0, slots := 0, locals := 0 } : Room) s m args below meth c T' locs' 0 0 ∧ Fr n0 locs' ∧ Keep h0 T'.heap [ob0, x, Lf, Lm] ∧ Old Z n0 T'.heap ∧ Exa Z T'.heap ob0 "com/example/caprice/caprice/solver/Domains" ∧ Fld Z T'.heap ob0 "com/example/caprice/caprice/solver/Domains" "reasons" "[[[I" (.ref R) ∧ Fld Z T'.heap ob0 "com/example/caprice/caprice/solver/Domains" "left" "[I" (.ref Lf) ∧ Fld Z T'.heap ob0 "com/example/caprice/caprice/solver/Domains" "leftMasks" "[J" (.ref Lm) ∧ Fld Z T'.heap ob0 "com/example/caprice/caprice/solver/Domains" "trail" "[I" (.ref Tr) ∧ Fld Z T'.heap ob0 "com/example/caprice/caprice/solver/Domains" "trailSize" "I" (.int (ts - (2 : Int32))) ∧ Ars Z T'.heap x k_x (.array .int) K (own_upd fx (vI).toNatClampNeg .null) ∧ Ars Z T'.heap Lf k_Lf .int N (own_upd fL (dI).toNatClampNeg (.int (w55 + (1 : Int32)))) ∧ Ars Z T'.heap Lm k_Lm .long N (own_upd fM (dI).toNatClampNeg (.long (w65 ||| ((1 : Int64) <<< (vI &&& 0x3f).toInt64)))) ∧ True ∧ ∀ t, Steps p.tables e below (T'.setTop (mkF m 0 #[.val (.ref ob0), .val (.int q0), .val (.int dI), .val (.int vI)] [])) t → Steps p.tables e below (T0.setTop (mkF m 0 #[.val (.ref ob0), .val (.int q0), z2, z3] [])) t := by
  obtain ⟨T1, X1, e1, st1⟩ := getF X0 hx hZ hown (host := "") (Or.inl (hw _ (List.mem_of_getElem? (i := 43) rfl))) Via.refl e0 PF_ob0_trailSize (g := (mkF m 1 #[.val (.ref ob0), .val (.int q0), z2, z3] [(.ref ob0)])) rfl rfl (hb hby d7_1)
  obtain ⟨T2, X2, e2, st2⟩ := getF X1 hx hZ hown (host := "") (Or.inl (hw _ (List.mem_of_getElem? (i := 43) rfl))) Via.refl e1 PF_ob0_trailSize (g := (mkF m 10 #[.val (.ref ob0), .val (.int q0), z2, z3] [(.ref ob0), (.ref ob0)])) rfl rfl (hb hby d7_10)
  obtain ⟨T3, h3, X3, e3, W3, st3⟩ := putF X2 hx hZ hown (host := "") (Or.inl (hw _ (List.mem_of_getElem? (i := 43) rfl))) Via.refl e2 PF_ob0_trailSize PE_ob0 (Or.inl (hw _ (List.mem_of_getElem? (i := 44) rfl))) (hw _ (List.mem_of_getElem? (i := 6) rfl)) (ty := .int) (by decide) rfl rfl (g := (mkF m 15 #[.val (.ref ob0), .val (.int q0), z2, z3] [(.int (ts - (2 : Int32))), (.ref ob0)])) rfl rfl (hb hby d7_15)
  have Fw3 := PF_ob0_trailSize.same W3
  have N3 := Fr.snoc X3 N0 g_ob0
  have O3 := O0.wr W3 g_ob0
  have KK3 : Keep h0 h3 [ob0, x, Lf, Lm] := (Keep.refl h0 [ob0, x, Lf, Lm]).wr W3 (Or.inl (List.mem_of_getElem? (i := 0) rfl))
  obtain ⟨T4, X4, e4, st4⟩ := getF X3 hx hZ hown (host := "") (Or.inl (hw _ (List.mem_of_getElem? (i := 31) rfl))) Via.refl e3 (PF_ob0_trail.other W3 (Or.inr (slot_ne (Or.inr (hw _ (List.mem_of_getElem? (i := 32) rfl))) (Or.inl (hw _ (List.mem_of_getElem? (i := 44) rfl))) (by decide) (t := (.array .int)) (t' := .int) (by decide) (by decide)))) (g := (mkF m 19 #[.val (.ref ob0), .val (.int q0), z2, z3] [(.ref ob0)])) rfl rfl (hb hby d7_19)
  obtain ⟨T5, X5, e5, st5⟩ := getF X4 hx hZ hown (host := "") (Or.inl (hw _ (List.mem_of_getElem? (i := 43) rfl))) Via.refl e4 Fw3 (g := (mkF m 23 #[.val (.ref ob0), .val (.int q0), z2, z3] [(.ref ob0), (.ref Tr)])) rfl rfl (hb hby d7_23)
  obtain ⟨ac6, aA6, aq6, aS6, aN6, aH6⟩ := id (PA_Tr.other W3 ne_Tr_ob0)
  obtain ⟨T7, X7, e7, st7⟩ := getF X5 hx hZ hown (host := "") (Or.inl (hw _ (List.mem_of_getElem? (i := 31) rfl))) Via.refl e5 (PF_ob0_trail.other W3 (Or.inr (slot_ne (Or.inr (hw _ (List.mem_of_getElem? (i := 32) rfl))) (Or.inl (hw _ (List.mem_of_getElem? (i := 44) rfl))) (by decide) (t := (.array .int)) (t' := .int) (by decide) (by decide)))) (g := (mkF m 29 #[.val (.ref ob0), .val (.int q0), .val (.int dI), z3] [(.ref ob0)])) rfl rfl (hb hby d7_29)
  obtain ⟨T8, X8, e8, st8⟩ := getF X7 hx hZ hown (host := "") (Or.inl (hw _ (List.mem_of_getElem? (i := 43) rfl))) Via.refl e7 Fw3 (g := (mkF m 33 #[.val (.ref ob0), .val (.int q0), .val (.int dI), z3] [(.ref ob0), (.ref Tr)])) rfl rfl (hb hby d7_33)
  obtain ⟨ac9, aA9, aq9, aS9, aN9, aH9⟩ := id (PA_Tr.other W3 ne_Tr_ob0)
  obtain ⟨T10, X10, e10, st10⟩ := getF X8 hx hZ hown (host := "") (Or.inl (hw _ (List.mem_of_getElem? (i := 17) rfl))) Via.refl e8 (PF_ob0_reasons.other W3 (Or.inr (slot_ne (Or.inr (hw _ (List.mem_of_getElem? (i := 18) rfl))) (Or.inl (hw _ (List.mem_of_getElem? (i := 44) rfl))) (by decide) (t := (.array (.array (.array .int)))) (t' := .int) (by decide) (by decide)))) (g := (mkF m 41 #[.val (.ref ob0), .val (.int q0), .val (.int dI), .val (.int vI)] [(.ref ob0)])) rfl rfl (hb hby d7_41)
  obtain ⟨ac11, aA11, aq11, aS11, aN11, aH11⟩ := id (PA_R.other W3 ne_R_ob0)
  obtain ⟨ac12, aA12, aq12, aS12, aN12, aH12⟩ := id (PA_x.other W3 (Ne.symm ne_ob0_x))
  obtain ⟨T13, h13, X13, e13, W13, st13⟩ := stR X10 hx hZ e10 aA12 (j := vI) (by rw [aS12]; exact hin48) rfl (Or.inl rfl) (g := (mkF m 48 #[.val (.ref ob0), .val (.int q0), .val (.int dI), .val (.int vI)] [.null, (.int vI), (.ref x)])) rfl rfl (hb hby d7_48)
  have A_13 : Ars Z h13 x k_x (.array .int) K (own_upd fx (vI).toNatClampNeg .null) := Ars.set aA12 aq12 aS12 aN12 aH12 W13
  have N13 := Fr.snoc X13 N3 g_x
  have O13 := O3.wr W13 g_x
  have KK13 : Keep h0 h13 [ob0, x, Lf, Lm] := KK3.wr W13 (Or.inl (List.mem_of_getElem? (i := 1) rfl))
  obtain ⟨T14, X14, e14, st14⟩ := getF X13 hx hZ hown (host := "") (Or.inl (hw _ (List.mem_of_getElem? (i := 19) rfl))) Via.refl e13 ((PF_ob0_left.other W3 (Or.inr (slot_ne (Or.inr (hw _ (List.mem_of_getElem? (i := 20) rfl))) (Or.inl (hw _ (List.mem_of_getElem? (i := 44) rfl))) (by decide) (t := (.array .int)) (t' := .int) (by decide) (by decide)))).other W13 (Or.inl ne_ob0_x)) (g := (mkF m 50 #[.val (.ref ob0), .val (.int q0), .val (.int dI), .val (.int vI)] [(.ref ob0)])) rfl rfl (hb hby d7_50)
  obtain ⟨ac15, aA15, aq15, aS15, aN15, aH15⟩ := id ((PA_Lf.other W3 ne_Lf_ob0).other W13 ne_Lf_x)
  obtain ⟨ac16, aA16, aq16, aS16, aN16, aH16⟩ := id ((PA_Lf.other W3 ne_Lf_ob0).other W13 ne_Lf_x)
  obtain ⟨T17, h17, X17, e17, W17, st17⟩ := stI X14 hx hZ e14 aA16 (j := dI) (by rw [aS16]; exact hin45) (g := (mkF m 58 #[.val (.ref ob0), .val (.int q0), .val (.int dI), .val (.int vI)] [(.int (w55 + (1 : Int32))), (.int dI), (.ref Lf)])) rfl rfl (hb hby d7_58)
  have A_17 : Ars Z h17 Lf k_Lf .int N (own_upd fL (dI).toNatClampNeg (.int (w55 + (1 : Int32)))) := Ars.set aA16 aq16 aS16 aN16 aH16 W17
  have N17 := Fr.snoc X17 N13 g_Lf
  have O17 := O13.wr W17 g_Lf
  have KK17 : Keep h0 h17 [ob0, x, Lf, Lm] := KK13.wr W17 (Or.inl (List.mem_of_getElem? (i := 2) rfl))
  have J18 := (((PF_ob0_leftMasks.other W3 (Or.inr (slot_ne (Or.inr (hw _ (List.mem_of_getElem? (i := 23) rfl))) (Or.inl (hw _ (List.mem_of_getElem? (i := 44) rfl))) (by decide) (t := (.array .long)) (t' := .int) (by decide) (by decide)))).other W13 (Or.inl ne_ob0_x)).other W17 (Or.inl (Ne.symm ne_Lf_ob0)))
  obtain ⟨T19, X19, e19, st19⟩ := getF X17 hx hZ hown (host := "") (Or.inl (hw _ (List.mem_of_getElem? (i := 22) rfl))) Via.refl e17 J18 (g := (mkF m 60 #[.val (.ref ob0), .val (.int q0), .val (.int dI), .val (.int vI)] [(.ref ob0)])) rfl rfl (hb hby d7_60)
  have J21 := (((PA_Lm.other W3 ne_Lm_ob0).other W13 ne_Lm_x).other W17 (Ne.symm ne_Lf_Lm))
  obtain ⟨ac20, aA20, aq20, aS20, aN20, aH20⟩ := id J21
  obtain ⟨ac22, aA22, aq22, aS22, aN22, aH22⟩ := id J21
  obtain ⟨T23, h23, X23, e23, W23, st23⟩ := stJ X19 hx hZ e19 aA22 (j := dI) (by rw [aS22]; exact hin45) (g := (mkF m 70 #[.val (.ref ob0), .val (.int q0), .val (.int dI), .val (.int vI)] [(.long (w65 ||| ((1 : Int64) <<< (vI &&& 0x3f).toInt64))), (.int dI), (.ref Lm)])) rfl rfl (hb hby d7_70)
  have A_23 : Ars Z h23 Lm k_Lm .long N (own_upd fM (dI).toNatClampNeg (.long (w65 ||| ((1 : Int64) <<< (vI &&& 0x3f).toInt64)))) := Ars.set aA22 aq22 aS22 aN22 aH22 W23
  have N23 := Fr.snoc X23 N17 g_Lm
  have O23 := O17.wr W23 g_Lm
  have KK23 : Keep h0 h23 [ob0, x, Lf, Lm] := KK17.wr W23 (Or.inl (List.mem_of_getElem? (i := 3) rfl))
  have J24 := ((((PE_ob0.wr W3).wr W13).wr W17).wr W23)
  have J25 := ((((PF_ob0_reasons.other W3 (Or.inr (slot_ne (Or.inr (hw _ (List.mem_of_getElem? (i := 18) rfl))) (Or.inl (hw _ (List.mem_of_getElem? (i := 44) rfl))) (by decide) (t := (.array (.array (.array .int)))) (t' := .int) (by decide) (by decide)))).other W13 (Or.inl ne_ob0_x)).other W17 (Or.inl (Ne.symm ne_Lf_ob0))).other W23 (Or.inl (Ne.symm ne_Lm_ob0)))
  have J26 := ((((PF_ob0_left.other W3 (Or.inr (slot_ne (Or.inr (hw _ (List.mem_of_getElem? (i := 20) rfl))) (Or.inl (hw _ (List.mem_of_getElem? (i := 44) rfl))) (by decide) (t := (.array .int)) (t' := .int) (by decide) (by decide)))).other W13 (Or.inl ne_ob0_x)).other W17 (Or.inl (Ne.symm ne_Lf_ob0))).other W23 (Or.inl (Ne.symm ne_Lm_ob0)))
  have J27 := ((((PF_ob0_trail.other W3 (Or.inr (slot_ne (Or.inr (hw _ (List.mem_of_getElem? (i := 32) rfl))) (Or.inl (hw _ (List.mem_of_getElem? (i := 44) rfl))) (by decide) (t := (.array .int)) (t' := .int) (by decide) (by decide)))).other W13 (Or.inl ne_ob0_x)).other W17 (Or.inl (Ne.symm ne_Lf_ob0))).other W23 (Or.inl (Ne.symm ne_Lm_ob0)))
  have J28 := (((Fw3.other W13 (Or.inl ne_ob0_x)).other W17 (Or.inl (Ne.symm ne_Lf_ob0))).other W23 (Or.inl (Ne.symm ne_Lm_ob0)))
  refine ⟨T23, _, X23, N23, (by rw [e23]; exact KK23), (by rw [e23]; exact O23), (by rw [e23]; exact J24), (by rw [e23]; exact J25), (by rw [e23]; exact J26), (by rw [e23]; exact (J18.other W23 (Or.inl (Ne.symm ne_Lm_ob0)))), (by rw [e23]; exact J27), (by rw [e23]; exact J28), (by rw [e23]; exact ((A_13.other W17 (Ne.symm ne_Lf_x)).other W23 (Ne.symm ne_Lm_x))), (by rw [e23]; exact (A_17.other W23 ne_Lf_Lm)), (by rw [e23]; exact A_23), trivial, fun t kt => ?_⟩
  show Steps p.tables e below (T0.setTop (mkF m 0 #[.val (.ref ob0), .val (.int q0), z2, z3] [])) _
  refine XS.aloadN X0.here hx rfl (hb hby d7_0) rfl rfl ?_
  show Steps p.tables e below (T0.setTop (mkF m 1 #[.val (.ref ob0), .val (.int q0), z2, z3] [(.ref ob0)])) _
  refine st1 _ ?_
  show Steps p.tables e below (T1.setTop (mkF m 4 #[.val (.ref ob0), .val (.int q0), z2, z3] [(.int ts)])) _
  refine XS.iloadN X1.here hx rfl (hb hby d7_4) rfl ?_
  show Steps p.tables e below (T1.setTop (mkF m 5 #[.val (.ref ob0), .val (.int q0), z2, z3] [(.int q0), (.int ts)])) _
  refine XS.icmpNo X1.here hx rfl (hb hby d7_5) rfl (tlt hd0).2.2.2 ?_
  show Steps p.tables e below (T1.setTop (mkF m 8 #[.val (.ref ob0), .val (.int q0), z2, z3] [])) _
  refine XS.aloadN X1.here hx rfl (hb hby d7_8) rfl rfl ?_
  show Steps p.tables e below (T1.setTop (mkF m 9 #[.val (.ref ob0), .val (.int q0), z2, z3] [(.ref ob0)])) _
  refine XS.dup X1.here hx rfl (hb hby d7_9) rfl rfl ?_
  show Steps p.tables e below (T1.setTop (mkF m 10 #[.val (.ref ob0), .val (.int q0), z2, z3] [(.ref ob0), (.ref ob0)])) _
  refine st2 _ ?_
  show Steps p.tables e below (T2.setTop (mkF m 13 #[.val (.ref ob0), .val (.int q0), z2, z3] [(.int ts), (.ref ob0)])) _
  refine XS.iconst X2.here hx rfl (hb hby d7_13) ?_
  show Steps p.tables e below (T2.setTop (mkF m 14 #[.val (.ref ob0), .val (.int q0), z2, z3] [(.int (2 : Int32)), (.int ts), (.ref ob0)])) _
  refine XS.isub X2.here hx rfl (hb hby d7_14) rfl ?_
  show Steps p.tables e below (T2.setTop (mkF m 15 #[.val (.ref ob0), .val (.int q0), z2, z3] [(.int (ts - (2 : Int32))), (.ref ob0)])) _
  refine st3 _ ?_
  show Steps p.tables e below (T3.setTop (mkF m 18 #[.val (.ref ob0), .val (.int q0), z2, z3] [])) _
  refine XS.aloadN X3.here hx rfl (hb hby d7_18) rfl rfl ?_
  show Steps p.tables e below (T3.setTop (mkF m 19 #[.val (.ref ob0), .val (.int q0), z2, z3] [(.ref ob0)])) _
  refine st4 _ ?_
  show Steps p.tables e below (T4.setTop (mkF m 22 #[.val (.ref ob0), .val (.int q0), z2, z3] [(.ref Tr)])) _
  refine XS.aloadN X4.here hx rfl (hb hby d7_22) rfl rfl ?_
  show Steps p.tables e below (T4.setTop (mkF m 23 #[.val (.ref ob0), .val (.int q0), z2, z3] [(.ref ob0), (.ref Tr)])) _
  refine st5 _ ?_
  show Steps p.tables e below (T5.setTop (mkF m 26 #[.val (.ref ob0), .val (.int q0), z2, z3] [(.int (ts - (2 : Int32))), (.ref Tr)])) _
  refine X5.iaload hx (j := (ts - (2 : Int32))) (v := (.int dI)) (by rw [e5]; exact aA6.1) (State.isArrayOf_alike hZ.alike aA6.2.1) aA6.2.2 (by rw [aS6]; exact hin26) (own_at aH6 hin26 hat26) (g := (mkF m 26 #[.val (.ref ob0), .val (.int q0), z2, z3] [(.int (ts - (2 : Int32))), (.ref Tr)])) rfl rfl (hb hby d7_26) _ ?_
  show Steps p.tables e below (T5.setTop (mkF m 27 #[.val (.ref ob0), .val (.int q0), z2, z3] [(.int dI)])) _
  refine XS.istoreN X5.here hx rfl (hb hby d7_27) rfl (l' := #[.val (.ref ob0), .val (.int q0), .val (.int dI), z3]) (os7_27_162 hone_z2) ?_
  show Steps p.tables e below (T5.setTop (mkF m 28 #[.val (.ref ob0), .val (.int q0), .val (.int dI), z3] [])) _
  refine XS.aloadN X5.here hx rfl (hb hby d7_28) rfl rfl ?_
  show Steps p.tables e below (T5.setTop (mkF m 29 #[.val (.ref ob0), .val (.int q0), .val (.int dI), z3] [(.ref ob0)])) _
  refine st7 _ ?_
  show Steps p.tables e below (T7.setTop (mkF m 32 #[.val (.ref ob0), .val (.int q0), .val (.int dI), z3] [(.ref Tr)])) _
  refine XS.aloadN X7.here hx rfl (hb hby d7_32) rfl rfl ?_
  show Steps p.tables e below (T7.setTop (mkF m 33 #[.val (.ref ob0), .val (.int q0), .val (.int dI), z3] [(.ref ob0), (.ref Tr)])) _
  refine st8 _ ?_
  show Steps p.tables e below (T8.setTop (mkF m 36 #[.val (.ref ob0), .val (.int q0), .val (.int dI), z3] [(.int (ts - (2 : Int32))), (.ref Tr)])) _
  refine XS.iconst X8.here hx rfl (hb hby d7_36) ?_
  show Steps p.tables e below (T8.setTop (mkF m 37 #[.val (.ref ob0), .val (.int q0), .val (.int dI), z3] [(.int (1 : Int32)), (.int (ts - (2 : Int32))), (.ref Tr)])) _
  refine XS.iadd X8.here hx rfl (hb hby d7_37) rfl ?_
  show Steps p.tables e below (T8.setTop (mkF m 38 #[.val (.ref ob0), .val (.int q0), .val (.int dI), z3] [(.int ((ts - (2 : Int32)) + (1 : Int32))), (.ref Tr)])) _
  refine X8.iaload hx (j := ((ts - (2 : Int32)) + (1 : Int32))) (v := (.int vI)) (by rw [e8]; exact aA9.1) (State.isArrayOf_alike hZ.alike aA9.2.1) aA9.2.2 (by rw [aS9]; exact hin38) (own_at aH9 hin38 hat38) (g := (mkF m 38 #[.val (.ref ob0), .val (.int q0), .val (.int dI), z3] [(.int ((ts - (2 : Int32)) + (1 : Int32))), (.ref Tr)])) rfl rfl (hb hby d7_38) _ ?_
  show Steps p.tables e below (T8.setTop (mkF m 39 #[.val (.ref ob0), .val (.int q0), .val (.int dI), z3] [(.int vI)])) _
  refine XS.istoreN X8.here hx rfl (hb hby d7_39) rfl (l' := #[.val (.ref ob0), .val (.int q0), .val (.int dI), .val (.int vI)]) (os7_39_171 hone_z3) ?_
  show Steps p.tables e below (T8.setTop (mkF m 40 #[.val (.ref ob0), .val (.int q0), .val (.int dI), .val (.int vI)] [])) _
  refine XS.aloadN X8.here hx rfl (hb hby d7_40) rfl rfl ?_
  show Steps p.tables e below (T8.setTop (mkF m 41 #[.val (.ref ob0), .val (.int q0), .val (.int dI), .val (.int vI)] [(.ref ob0)])) _
  refine st10 _ ?_
  show Steps p.tables e below (T10.setTop (mkF m 44 #[.val (.ref ob0), .val (.int q0), .val (.int dI), .val (.int vI)] [(.ref R)])) _
  refine XS.iloadN X10.here hx rfl (hb hby d7_44) rfl ?_
  show Steps p.tables e below (T10.setTop (mkF m 45 #[.val (.ref ob0), .val (.int q0), .val (.int dI), .val (.int vI)] [(.int dI), (.ref R)])) _
  refine X10.aaload hx (j := dI) (v := (.ref x)) (by rw [e10]; exact aA11.1) (State.isArrayOf_alike hZ.alike aA11.2.1) rfl aA11.2.2 (by rw [aS11]; exact hin45) (own_at aH11 hin45 hat45) (g := (mkF m 45 #[.val (.ref ob0), .val (.int q0), .val (.int dI), .val (.int vI)] [(.int dI), (.ref R)])) rfl rfl (hb hby d7_45) _ ?_
  show Steps p.tables e below (T10.setTop (mkF m 46 #[.val (.ref ob0), .val (.int q0), .val (.int dI), .val (.int vI)] [(.ref x)])) _
  refine XS.iloadN X10.here hx rfl (hb hby d7_46) rfl ?_
  show Steps p.tables e below (T10.setTop (mkF m 47 #[.val (.ref ob0), .val (.int q0), .val (.int dI), .val (.int vI)] [(.int vI), (.ref x)])) _
  refine XS.aconstNull X10.here hx rfl (hb hby d7_47) ?_
  show Steps p.tables e below (T10.setTop (mkF m 48 #[.val (.ref ob0), .val (.int q0), .val (.int dI), .val (.int vI)] [.null, (.int vI), (.ref x)])) _
  refine st13 _ ?_
  show Steps p.tables e below (T13.setTop (mkF m 49 #[.val (.ref ob0), .val (.int q0), .val (.int dI), .val (.int vI)] [])) _
  refine XS.aloadN X13.here hx rfl (hb hby d7_49) rfl rfl ?_
  show Steps p.tables e below (T13.setTop (mkF m 50 #[.val (.ref ob0), .val (.int q0), .val (.int dI), .val (.int vI)] [(.ref ob0)])) _
  refine st14 _ ?_
  show Steps p.tables e below (T14.setTop (mkF m 53 #[.val (.ref ob0), .val (.int q0), .val (.int dI), .val (.int vI)] [(.ref Lf)])) _
  refine XS.iloadN X14.here hx rfl (hb hby d7_53) rfl ?_
  show Steps p.tables e below (T14.setTop (mkF m 54 #[.val (.ref ob0), .val (.int q0), .val (.int dI), .val (.int vI)] [(.int dI), (.ref Lf)])) _
  jvm_step X14.here [X14.here.top, hx, (hb hby d7_54), Value.category]
  show Steps p.tables e below (T14.setTop (mkF m 55 #[.val (.ref ob0), .val (.int q0), .val (.int dI), .val (.int vI)] [(.int dI), (.ref Lf), (.int dI), (.ref Lf)])) _
  refine X14.iaload hx (j := dI) (v := (.int w55)) (by rw [e14]; exact aA15.1) (State.isArrayOf_alike hZ.alike aA15.2.1) aA15.2.2 (by rw [aS15]; exact hin45) (own_at aH15 hin45 hat55) (g := (mkF m 55 #[.val (.ref ob0), .val (.int q0), .val (.int dI), .val (.int vI)] [(.int dI), (.ref Lf), (.int dI), (.ref Lf)])) rfl rfl (hb hby d7_55) _ ?_
  show Steps p.tables e below (T14.setTop (mkF m 56 #[.val (.ref ob0), .val (.int q0), .val (.int dI), .val (.int vI)] [(.int w55), (.int dI), (.ref Lf)])) _
  refine XS.iconst X14.here hx rfl (hb hby d7_56) ?_
  show Steps p.tables e below (T14.setTop (mkF m 57 #[.val (.ref ob0), .val (.int q0), .val (.int dI), .val (.int vI)] [(.int (1 : Int32)), (.int w55), (.int dI), (.ref Lf)])) _
  refine XS.iadd X14.here hx rfl (hb hby d7_57) rfl ?_
  show Steps p.tables e below (T14.setTop (mkF m 58 #[.val (.ref ob0), .val (.int q0), .val (.int dI), .val (.int vI)] [(.int (w55 + (1 : Int32))), (.int dI), (.ref Lf)])) _
  refine st17 _ ?_
  show Steps p.tables e below (T17.setTop (mkF m 59 #[.val (.ref ob0), .val (.int q0), .val (.int dI), .val (.int vI)] [])) _
  refine XS.aloadN X17.here hx rfl (hb hby d7_59) rfl rfl ?_
  show Steps p.tables e below (T17.setTop (mkF m 60 #[.val (.ref ob0), .val (.int q0), .val (.int dI), .val (.int vI)] [(.ref ob0)])) _
  refine st19 _ ?_
  show Steps p.tables e below (T19.setTop (mkF m 63 #[.val (.ref ob0), .val (.int q0), .val (.int dI), .val (.int vI)] [(.ref Lm)])) _
  refine XS.iloadN X19.here hx rfl (hb hby d7_63) rfl ?_
  show Steps p.tables e below (T19.setTop (mkF m 64 #[.val (.ref ob0), .val (.int q0), .val (.int dI), .val (.int vI)] [(.int dI), (.ref Lm)])) _
  jvm_step X19.here [X19.here.top, hx, (hb hby d7_64), Value.category]
  show Steps p.tables e below (T19.setTop (mkF m 65 #[.val (.ref ob0), .val (.int q0), .val (.int dI), .val (.int vI)] [(.int dI), (.ref Lm), (.int dI), (.ref Lm)])) _
  refine X19.laload hx (j := dI) (v := (.long w65)) (by rw [e19]; exact aA20.1) (State.isArrayOf_alike hZ.alike aA20.2.1) aA20.2.2 (by rw [aS20]; exact hin45) (own_at aH20 hin45 hat65) (g := (mkF m 65 #[.val (.ref ob0), .val (.int q0), .val (.int dI), .val (.int vI)] [(.int dI), (.ref Lm), (.int dI), (.ref Lm)])) rfl rfl (hb hby d7_65) _ ?_
  show Steps p.tables e below (T19.setTop (mkF m 66 #[.val (.ref ob0), .val (.int q0), .val (.int dI), .val (.int vI)] [(.long w65), (.int dI), (.ref Lm)])) _
  refine XS.lconst X19.here hx rfl (hb hby d7_66) ?_
  show Steps p.tables e below (T19.setTop (mkF m 67 #[.val (.ref ob0), .val (.int q0), .val (.int dI), .val (.int vI)] [(.long (1 : Int64)), (.long w65), (.int dI), (.ref Lm)])) _
  refine XS.iloadN X19.here hx rfl (hb hby d7_67) rfl ?_
  show Steps p.tables e below (T19.setTop (mkF m 68 #[.val (.ref ob0), .val (.int q0), .val (.int dI), .val (.int vI)] [(.int vI), (.long (1 : Int64)), (.long w65), (.int dI), (.ref Lm)])) _
  refine XS.lshl X19.here hx rfl (hb hby d7_68) rfl ?_
  show Steps p.tables e below (T19.setTop (mkF m 69 #[.val (.ref ob0), .val (.int q0), .val (.int dI), .val (.int vI)] [(.long ((1 : Int64) <<< (vI &&& 0x3f).toInt64)), (.long w65), (.int dI), (.ref Lm)])) _
  refine XS.lor X19.here hx rfl (hb hby d7_69) rfl ?_
  show Steps p.tables e below (T19.setTop (mkF m 70 #[.val (.ref ob0), .val (.int q0), .val (.int dI), .val (.int vI)] [(.long (w65 ||| ((1 : Int64) <<< (vI &&& 0x3f).toInt64))), (.int dI), (.ref Lm)])) _
  refine st23 _ ?_
  show Steps p.tables e below (T23.setTop (mkF m 71 #[.val (.ref ob0), .val (.int q0), .val (.int dI), .val (.int vI)] [])) _
  refine XS.goto X23.here hx rfl (pc0 := 71) (pc' := 0) rfl (hb hby d7_71) (by decide) (by decide) ?_
  show Steps p.tables e below (T23.setTop (mkF m 0 #[.val (.ref ob0), .val (.int q0), .val (.int dI), .val (.int vI)] [])) _
  exact kt
theorem d7_74 : decode prog_59_method_9_code 74 = .ok (.return_, 1) := by decide +kernel
set_option maxRecDepth 65536 in
set_option maxHeartbeats 40000000 in
theorem rstExit {p : Program} {l : Launch} {e : Env} {s : State} {m : MethodId} {args : Array Value} {below : List Frame} {meth : Method} {c : Code} {T0 : State} {locs : List Loc} {Z : State} {a0 : Array Value} {h0 : Heap} {n0 : Nat} (ob0 : Addr) (q0 : Int32) (z2 : Slot) (z3 : Slot) (ts : Int32)
    (X0 : Stand p l e ({ frames := 0, cells := 0, slots := 0, locals := 0 } : Room) s m args below meth c T0 locs 0 0) (hx : p.tables.exec = Jvm.exec) (hZ : Z.Warmed39 s.vm) (hw : ∀ d ∈ tables_1, d.before a0 Z = true) (hby : c.code = prog_59_method_9_code) (hml : c.maxLocals = 4) (hown : s.vm.findClass "com/example/caprice/caprice/solver/Domains" = some m.cls) (e0 : T0.heap = h0) (N0 : Fr n0 locs) (O0 : Old Z n0 h0) (PE_ob0 : Exa Z h0 ob0 "com/example/caprice/caprice/solver/Domains") (PF_ob0_trailSize : Fld Z h0 ob0 "com/example/caprice/caprice/solver/Domains" "trailSize" "I" (.int ts)) (hd0 : ¬ (q0 < ts)) (hret : meth.sig.returnType = none) (hlk : meth.locks = false) {entry : State} (pre0 : ∀ t, Steps p.tables e below (T0.setTop (mkF m 0 #[.val (.ref ob0), .val (.int q0), z2, z3] [])) t → Steps p.tables e below entry t) :
    ∃ s₂ o, Steps p.tables e below entry s₂ ∧ s₂.status = .running ∧ Ended s₂ below o ∧ ∃ v L, o = .returned v ∧ QV none h0 n0 v s₂.heap L ∧ FrameEnd s o s₂ L ({ frames := 0, cells := 0, slots := 0, locals := 0 } : Room).cells ({ frames := 0, cells := 0, slots := 0, locals := 0 } : Room).slots := by
  obtain ⟨T1, X1, e1, st1⟩ := getF X0 hx hZ hown (host := "") (Or.inl (hw _ (List.mem_of_getElem? (i := 43) rfl))) Via.refl e0 PF_ob0_trailSize (g := (mkF m 1 #[.val (.ref ob0), .val (.int q0), z2, z3] [(.ref ob0)])) rfl rfl (hb hby d7_1)
  obtain ⟨fs, hr, hrun, hended, hW, hsame⟩ := X1.leave (v := none) (fun _ => rfl) hlk
  refine ⟨_, _, pre0 _ ?_, hrun, hended, _, _, rfl, ?_, ⟨_, rfl⟩, hW, hsame.mono (by decide) (by decide)⟩
  · show Steps p.tables e below (T0.setTop (mkF m 0 #[.val (.ref ob0), .val (.int q0), z2, z3] [])) _
    refine XS.aloadN X0.here hx rfl (hb hby d7_0) rfl rfl ?_
    show Steps p.tables e below (T0.setTop (mkF m 1 #[.val (.ref ob0), .val (.int q0), z2, z3] [(.ref ob0)])) _
    refine st1 _ ?_
    show Steps p.tables e below (T1.setTop (mkF m 4 #[.val (.ref ob0), .val (.int q0), z2, z3] [(.int ts)])) _
    refine XS.iloadN X1.here hx rfl (hb hby d7_4) rfl ?_
    show Steps p.tables e below (T1.setTop (mkF m 5 #[.val (.ref ob0), .val (.int q0), z2, z3] [(.int q0), (.int ts)])) _
    refine XS.icmpYes X1.here hx rfl (pc0 := 5) (pc' := 74) rfl (hb hby d7_5) rfl (flt hd0).2.2.2 (by decide) (by decide) ?_
    show Steps p.tables e below (T1.setTop (mkF m 74 #[.val (.ref ob0), .val (.int q0), z2, z3] [])) _
    exact X1.returnOut hx hret (hb hby d7_74) hr
  · exact ⟨rfl, N0, e1⟩
theorem d10_0 : decode prog_59_method_6_code 0 = .ok (.aload_n 0, 1) := by decide +kernel
theorem d10_1 : decode prog_59_method_6_code 1 = .ok (.getfield 17, 3) := by decide +kernel
theorem d10_4 : decode prog_59_method_6_code 4 = .ok (.iload_n 1, 1) := by decide +kernel
theorem d10_5 : decode prog_59_method_6_code 5 = .ok (.iaload, 1) := by decide +kernel
theorem d10_6 : decode prog_59_method_6_code 6 = .ok (.ireturn, 1) := by decide +kernel
theorem ef208 (m : MethodId) (x0 : Addr) (x1 : Int32) : entryFrame m #[(.ref x0), (.int x1)] 2 = mkF m 0 #[.val (.ref x0), .val (.int x1)] [] := by first | (simp [entryFrame, mkF, argsToLocals, Value.category]; done) | rfl
def Q10_6 (Z : State) (ob0 : Addr) (q0 : Int32) (Lf : Addr) (k_Lf : ClassId) (N : Nat) (fL : Nat → Value) (w5 : Int32) (h0 : Heap) (n0 : Nat) (v : Option Value) (h : Heap) (L : List Loc) : Prop := v = some (.int w5) ∧ Fr n0 L ∧ h = h0
set_option maxRecDepth 65536 in
set_option maxHeartbeats 40000000 in
theorem rm10_6 (l : Launch) (Z : State) (a0 : Array Value) (hw : ∀ d ∈ tables_1, d.before a0 Z = true) (ws : List Jvm.Cond) (ob0 : Addr) (q0 : Int32) (Lf : Addr) (k_Lf : ClassId) (N : Nat) (fL : Nat → Value) (w5 : Int32) (h0 : Heap) (n0 : Nat) (Z0 : n0 ≤ h0.size) (O0 : Old Z n0 h0) (PE_ob0 : Exa Z h0 ob0 "com/example/caprice/caprice/solver/Domains") (PF_ob0_left : Fld Z h0 ob0 "com/example/caprice/caprice/solver/Domains" "left" "[I" (.ref Lf)) (PA_Lf : Ars Z h0 Lf k_Lf .int N fL) (hin5 : ¬ (q0 < 0 ∨ N ≤ (q0).toNatClampNeg)) (hat5 : fL (q0).toNatClampNeg = (.int w5)) :
    MetFree l (⟨"com/example/caprice/caprice/solver/Domains", "left", "(I)I"⟩ : MethodName) (head1 (Jvm.Cond.code (⟨"com/example/caprice/caprice/solver/Domains", "left", "(I)I"⟩ : MethodName) prog_59_method_6_code 2 (some .int) :: ws) ({ frames := 0, cells := 0, slots := 0, locals := 0 } : Room)) (fun a U => a = #[(.ref ob0), (.int q0)] ∧ Z.Warmed39 U.vm ∧ U.heap = h0) (fun _ _ _ _ _ => True) (fun _ U o U' => ∃ v L, o = .returned v ∧ Q10_6 Z  ob0 q0 Lf k_Lf N fL w5 h0 n0 v U'.heap L ∧ FrameEnd U o U' L ({ frames := 0, cells := 0, slots := 0, locals := 0 } : Room).cells ({ frames := 0, cells := 0, slots := 0, locals := 0 } : Room).slots) := by
  refine MetFree.of_bodySF (plainFor_of_name pn69) hisR ?_
  intro p e s m args below meth c s₁ Bd hml0 hP hK
  obtain ⟨rfl, hZ, hh⟩ := hP
  have hx := Bd.exec
  have hby := Bd.bytes
  have hml : c.maxLocals = 2 := hml0
  have hown : s.vm.findClass "com/example/caprice/caprice/solver/Domains" = some m.cls := findClass_of_methodNamed Bd.named
  have hnm := (name_of_methodNamed Bd.named Bd.method).1
  have X0 : Stand p l e ({ frames := 0, cells := 0, slots := 0, locals := 0 } : Room) s m #[(.ref ob0), (.int q0)] below meth c s₁ [] 0 0 := Stand.of_body Bd
  have e0 : s₁.heap = h0 := by rw [← hh, Bd.state]; rfl
  have N0 := Fr.nil n0
  have pre0 : ∀ t, Steps p.tables e below (s₁.setTop (mkF m 0 #[.val (.ref ob0), .val (.int q0)] [])) t → Steps p.tables e below (s₁.setTop (entryFrame m #[(.ref ob0), (.int q0)] 2)) t := fun t k => castTop (ef208 m ob0 q0) k
  obtain ⟨T1, X1, e1, st1⟩ := getF X0 hx hZ hown (host := "") (Or.inl (hw _ (List.mem_of_getElem? (i := 19) rfl))) Via.refl e0 PF_ob0_left (g := (mkF m 1 #[.val (.ref ob0), .val (.int q0)] [(.ref ob0)])) rfl rfl (hb hby d10_1)
  obtain ⟨ac2, aA2, aq2, aS2, aN2, aH2⟩ := id PA_Lf
  obtain ⟨fs, hr, hrun, hended, hW, hsame⟩ := X1.leave (v := some (.int w5)) (fun h => by rw [Bd.returns] at h; cases h)
  refine ⟨_, _, pre0 _ ?_, hrun, hended, _, _, rfl, ?_, ⟨_, rfl⟩, hW, hsame.mono (by decide) (by decide)⟩
  · show Steps p.tables e below (s₁.setTop (mkF m 0 #[.val (.ref ob0), .val (.int q0)] [])) _
    refine XS.aloadN X0.here hx rfl (hb hby d10_0) rfl rfl ?_
    show Steps p.tables e below (s₁.setTop (mkF m 1 #[.val (.ref ob0), .val (.int q0)] [(.ref ob0)])) _
    refine st1 _ ?_
    show Steps p.tables e below (T1.setTop (mkF m 4 #[.val (.ref ob0), .val (.int q0)] [(.ref Lf)])) _
    refine XS.iloadN X1.here hx rfl (hb hby d10_4) rfl ?_
    show Steps p.tables e below (T1.setTop (mkF m 5 #[.val (.ref ob0), .val (.int q0)] [(.int q0), (.ref Lf)])) _
    refine X1.iaload hx (j := q0) (v := (.int w5)) (by rw [e1]; exact aA2.1) (State.isArrayOf_alike hZ.alike aA2.2.1) aA2.2.2 (by rw [aS2]; exact hin5) (own_at aH2 hin5 hat5) (g := (mkF m 5 #[.val (.ref ob0), .val (.int q0)] [(.int q0), (.ref Lf)])) rfl rfl (hb hby d10_5) _ ?_
    show Steps p.tables e below (T1.setTop (mkF m 6 #[.val (.ref ob0), .val (.int q0)] [(.int w5)])) _
    exact Jvm.RoadKit.retI X1 hx Bd.returns (hb hby d10_6) hr
  · exact ⟨rfl, N0, e1⟩
theorem d11_0 : decode prog_59_method_5_code 0 = .ok (.aload_n 0, 1) := by decide +kernel
theorem d11_1 : decode prog_59_method_5_code 1 = .ok (.getfield 21, 3) := by decide +kernel
theorem d11_4 : decode prog_59_method_5_code 4 = .ok (.iload_n 1, 1) := by decide +kernel
theorem d11_5 : decode prog_59_method_5_code 5 = .ok (.laload, 1) := by decide +kernel
theorem d11_6 : decode prog_59_method_5_code 6 = .ok (.lreturn, 1) := by decide +kernel
theorem ef215 (m : MethodId) (x0 : Addr) (x1 : Int32) : entryFrame m #[(.ref x0), (.int x1)] 2 = mkF m 0 #[.val (.ref x0), .val (.int x1)] [] := by first | (simp [entryFrame, mkF, argsToLocals, Value.category]; done) | rfl
def Q11_7 (Z : State) (ob0 : Addr) (q0 : Int32) (Lm : Addr) (k_Lm : ClassId) (N : Nat) (fM : Nat → Value) (w5 : Int64) (h0 : Heap) (n0 : Nat) (v : Option Value) (h : Heap) (L : List Loc) : Prop := v = some (.long w5) ∧ Fr n0 L ∧ h = h0
set_option maxRecDepth 65536 in
set_option maxHeartbeats 40000000 in
theorem rm11_7 (l : Launch) (Z : State) (a0 : Array Value) (hw : ∀ d ∈ tables_1, d.before a0 Z = true) (ws : List Jvm.Cond) (ob0 : Addr) (q0 : Int32) (Lm : Addr) (k_Lm : ClassId) (N : Nat) (fM : Nat → Value) (w5 : Int64) (h0 : Heap) (n0 : Nat) (Z0 : n0 ≤ h0.size) (O0 : Old Z n0 h0) (PE_ob0 : Exa Z h0 ob0 "com/example/caprice/caprice/solver/Domains") (PF_ob0_leftMasks : Fld Z h0 ob0 "com/example/caprice/caprice/solver/Domains" "leftMasks" "[J" (.ref Lm)) (PA_Lm : Ars Z h0 Lm k_Lm .long N fM) (hin5 : ¬ (q0 < 0 ∨ N ≤ (q0).toNatClampNeg)) (hat5 : fM (q0).toNatClampNeg = (.long w5)) :
    MetFree l (⟨"com/example/caprice/caprice/solver/Domains", "leftMask", "(I)J"⟩ : MethodName) (head1 (Jvm.Cond.code (⟨"com/example/caprice/caprice/solver/Domains", "leftMask", "(I)J"⟩ : MethodName) prog_59_method_5_code 2 (some .long) :: ws) ({ frames := 0, cells := 0, slots := 0, locals := 0 } : Room)) (fun a U => a = #[(.ref ob0), (.int q0)] ∧ Z.Warmed39 U.vm ∧ U.heap = h0) (fun _ _ _ _ _ => True) (fun _ U o U' => ∃ v L, o = .returned v ∧ Q11_7 Z  ob0 q0 Lm k_Lm N fM w5 h0 n0 v U'.heap L ∧ FrameEnd U o U' L ({ frames := 0, cells := 0, slots := 0, locals := 0 } : Room).cells ({ frames := 0, cells := 0, slots := 0, locals := 0 } : Room).slots) := by
  refine MetFree.of_bodySF (plainFor_of_name pn69) hisR ?_
  intro p e s m args below meth c s₁ Bd hml0 hP hK
  obtain ⟨rfl, hZ, hh⟩ := hP
  have hx := Bd.exec
  have hby := Bd.bytes
  have hml : c.maxLocals = 2 := hml0
  have hown : s.vm.findClass "com/example/caprice/caprice/solver/Domains" = some m.cls := findClass_of_methodNamed Bd.named
  have hnm := (name_of_methodNamed Bd.named Bd.method).1
  have X0 : Stand p l e ({ frames := 0, cells := 0, slots := 0, locals := 0 } : Room) s m #[(.ref ob0), (.int q0)] below meth c s₁ [] 0 0 := Stand.of_body Bd
  have e0 : s₁.heap = h0 := by rw [← hh, Bd.state]; rfl
  have N0 := Fr.nil n0
  have pre0 : ∀ t, Steps p.tables e below (s₁.setTop (mkF m 0 #[.val (.ref ob0), .val (.int q0)] [])) t → Steps p.tables e below (s₁.setTop (entryFrame m #[(.ref ob0), (.int q0)] 2)) t := fun t k => castTop (ef215 m ob0 q0) k
  obtain ⟨T1, X1, e1, st1⟩ := getF X0 hx hZ hown (host := "") (Or.inl (hw _ (List.mem_of_getElem? (i := 22) rfl))) Via.refl e0 PF_ob0_leftMasks (g := (mkF m 1 #[.val (.ref ob0), .val (.int q0)] [(.ref ob0)])) rfl rfl (hb hby d11_1)
  obtain ⟨ac2, aA2, aq2, aS2, aN2, aH2⟩ := id PA_Lm
  obtain ⟨fs, hr, hrun, hended, hW, hsame⟩ := X1.leave (v := some (.long w5)) (fun h => by rw [Bd.returns] at h; cases h)
  refine ⟨_, _, pre0 _ ?_, hrun, hended, _, _, rfl, ?_, ⟨_, rfl⟩, hW, hsame.mono (by decide) (by decide)⟩
  · show Steps p.tables e below (s₁.setTop (mkF m 0 #[.val (.ref ob0), .val (.int q0)] [])) _
    refine XS.aloadN X0.here hx rfl (hb hby d11_0) rfl rfl ?_
    show Steps p.tables e below (s₁.setTop (mkF m 1 #[.val (.ref ob0), .val (.int q0)] [(.ref ob0)])) _
    refine st1 _ ?_
    show Steps p.tables e below (T1.setTop (mkF m 4 #[.val (.ref ob0), .val (.int q0)] [(.ref Lm)])) _
    refine XS.iloadN X1.here hx rfl (hb hby d11_4) rfl ?_
    show Steps p.tables e below (T1.setTop (mkF m 5 #[.val (.ref ob0), .val (.int q0)] [(.int q0), (.ref Lm)])) _
    refine X1.laload hx (j := q0) (v := (.long w5)) (by rw [e1]; exact aA2.1) (State.isArrayOf_alike hZ.alike aA2.2.1) aA2.2.2 (by rw [aS2]; exact hin5) (own_at aH2 hin5 hat5) (g := (mkF m 5 #[.val (.ref ob0), .val (.int q0)] [(.int q0), (.ref Lm)])) rfl rfl (hb hby d11_5) _ ?_
    show Steps p.tables e below (T1.setTop (mkF m 6 #[.val (.ref ob0), .val (.int q0)] [(.long w5)])) _
    exact Jvm.Stand.lreturnOut X1 hx Bd.returns (hb hby d11_6) hr
  · exact ⟨rfl, N0, e1⟩
theorem d12_0 : decode prog_59_method_3_code 0 = .ok (.aload_n 0, 1) := by decide +kernel
theorem d12_1 : decode prog_59_method_3_code 1 = .ok (.getfield 11, 3) := by decide +kernel
theorem d12_4 : decode prog_59_method_3_code 4 = .ok (.iload_n 1, 1) := by decide +kernel
theorem d12_5 : decode prog_59_method_3_code 5 = .ok (.aaload, 1) := by decide +kernel
theorem d12_6 : decode prog_59_method_3_code 6 = .ok (.iload_n 2, 1) := by decide +kernel
theorem d12_7 : decode prog_59_method_3_code 7 = .ok (.aaload, 1) := by decide +kernel
theorem d12_8 : decode prog_59_method_3_code 8 = .ok (.ifnonnull 7, 3) := by decide +kernel
theorem d12_11 : decode prog_59_method_3_code 11 = .ok (.iconst 1, 1) := by decide +kernel
theorem d12_12 : decode prog_59_method_3_code 12 = .ok (.goto 4, 3) := by decide +kernel
theorem d12_16 : decode prog_59_method_3_code 16 = .ok (.ireturn, 1) := by decide +kernel
theorem ef227 (m : MethodId) (x0 : Addr) (x1 : Int32) (x2 : Int32) : entryFrame m #[(.ref x0), (.int x1), (.int x2)] 3 = mkF m 0 #[.val (.ref x0), .val (.int x1), .val (.int x2)] [] := by first | (simp [entryFrame, mkF, argsToLocals, Value.category]; done) | rfl
def Q12_8 (Z : State) (ob0 : Addr) (q0 : Int32) (q1 : Int32) (R : Addr) (k_R : ClassId) (N : Nat) (fR : Nat → Value) (x : Addr) (k_x : ClassId) (K : Nat) (fx : Nat → Value) (h0 : Heap) (n0 : Nat) (v : Option Value) (h : Heap) (L : List Loc) : Prop := v = some (.int (1 : Int32)) ∧ Fr n0 L ∧ h = h0
set_option maxRecDepth 65536 in
set_option maxHeartbeats 40000000 in
theorem rm12_8 (l : Launch) (Z : State) (a0 : Array Value) (hw : ∀ d ∈ tables_1, d.before a0 Z = true) (ws : List Jvm.Cond) (ob0 : Addr) (q0 : Int32) (q1 : Int32) (R : Addr) (k_R : ClassId) (N : Nat) (fR : Nat → Value) (x : Addr) (k_x : ClassId) (K : Nat) (fx : Nat → Value) (h0 : Heap) (n0 : Nat) (Z0 : n0 ≤ h0.size) (O0 : Old Z n0 h0) (PE_ob0 : Exa Z h0 ob0 "com/example/caprice/caprice/solver/Domains") (PF_ob0_reasons : Fld Z h0 ob0 "com/example/caprice/caprice/solver/Domains" "reasons" "[[[I" (.ref R)) (PA_R : Ars Z h0 R k_R (.array (.array .int)) N fR) (PA_x : Ars Z h0 x k_x (.array .int) K fx) (hin5 : ¬ (q0 < 0 ∨ N ≤ (q0).toNatClampNeg)) (hat5 : fR (q0).toNatClampNeg = (.ref x)) (hin7 : ¬ (q1 < 0 ∨ K ≤ (q1).toNatClampNeg)) (hat7 : fx (q1).toNatClampNeg = .null) :
    MetFree l (⟨"com/example/caprice/caprice/solver/Domains", "has", "(II)Z"⟩ : MethodName) (head1 (Jvm.Cond.code (⟨"com/example/caprice/caprice/solver/Domains", "has", "(II)Z"⟩ : MethodName) prog_59_method_3_code 3 (some .boolean) :: ws) ({ frames := 0, cells := 0, slots := 0, locals := 0 } : Room)) (fun a U => a = #[(.ref ob0), (.int q0), (.int q1)] ∧ Z.Warmed39 U.vm ∧ U.heap = h0) (fun _ _ _ _ _ => True) (fun _ U o U' => ∃ v L, o = .returned v ∧ Q12_8 Z  ob0 q0 q1 R k_R N fR x k_x K fx h0 n0 v U'.heap L ∧ FrameEnd U o U' L ({ frames := 0, cells := 0, slots := 0, locals := 0 } : Room).cells ({ frames := 0, cells := 0, slots := 0, locals := 0 } : Room).slots) := by
  refine MetFree.of_bodySF (plainFor_of_name pn69) hisR ?_
  intro p e s m args below meth c s₁ Bd hml0 hP hK
  obtain ⟨rfl, hZ, hh⟩ := hP
  have hx := Bd.exec
  have hby := Bd.bytes
  have hml : c.maxLocals = 3 := hml0
  have hown : s.vm.findClass "com/example/caprice/caprice/solver/Domains" = some m.cls := findClass_of_methodNamed Bd.named
  have hnm := (name_of_methodNamed Bd.named Bd.method).1
  have X0 : Stand p l e ({ frames := 0, cells := 0, slots := 0, locals := 0 } : Room) s m #[(.ref ob0), (.int q0), (.int q1)] below meth c s₁ [] 0 0 := Stand.of_body Bd
  have e0 : s₁.heap = h0 := by rw [← hh, Bd.state]; rfl
  have N0 := Fr.nil n0
  have pre0 : ∀ t, Steps p.tables e below (s₁.setTop (mkF m 0 #[.val (.ref ob0), .val (.int q0), .val (.int q1)] [])) t → Steps p.tables e below (s₁.setTop (entryFrame m #[(.ref ob0), (.int q0), (.int q1)] 3)) t := fun t k => castTop (ef227 m ob0 q0 q1) k
  obtain ⟨T1, X1, e1, st1⟩ := getF X0 hx hZ hown (host := "") (Or.inl (hw _ (List.mem_of_getElem? (i := 17) rfl))) Via.refl e0 PF_ob0_reasons (g := (mkF m 1 #[.val (.ref ob0), .val (.int q0), .val (.int q1)] [(.ref ob0)])) rfl rfl (hb hby d12_1)
  obtain ⟨ac2, aA2, aq2, aS2, aN2, aH2⟩ := id PA_R
  obtain ⟨ac3, aA3, aq3, aS3, aN3, aH3⟩ := id PA_x
  obtain ⟨fs, hr, hrun, hended, hW, hsame⟩ := X1.leave (v := some (.int (1 : Int32))) (fun h => by rw [Bd.returns] at h; cases h)
  refine ⟨_, _, pre0 _ ?_, hrun, hended, _, _, rfl, ?_, ⟨_, rfl⟩, hW, hsame.mono (by decide) (by decide)⟩
  · show Steps p.tables e below (s₁.setTop (mkF m 0 #[.val (.ref ob0), .val (.int q0), .val (.int q1)] [])) _
    refine XS.aloadN X0.here hx rfl (hb hby d12_0) rfl rfl ?_
    show Steps p.tables e below (s₁.setTop (mkF m 1 #[.val (.ref ob0), .val (.int q0), .val (.int q1)] [(.ref ob0)])) _
    refine st1 _ ?_
    show Steps p.tables e below (T1.setTop (mkF m 4 #[.val (.ref ob0), .val (.int q0), .val (.int q1)] [(.ref R)])) _
    refine XS.iloadN X1.here hx rfl (hb hby d12_4) rfl ?_
    show Steps p.tables e below (T1.setTop (mkF m 5 #[.val (.ref ob0), .val (.int q0), .val (.int q1)] [(.int q0), (.ref R)])) _
    refine X1.aaload hx (j := q0) (v := (.ref x)) (by rw [e1]; exact aA2.1) (State.isArrayOf_alike hZ.alike aA2.2.1) rfl aA2.2.2 (by rw [aS2]; exact hin5) (own_at aH2 hin5 hat5) (g := (mkF m 5 #[.val (.ref ob0), .val (.int q0), .val (.int q1)] [(.int q0), (.ref R)])) rfl rfl (hb hby d12_5) _ ?_
    show Steps p.tables e below (T1.setTop (mkF m 6 #[.val (.ref ob0), .val (.int q0), .val (.int q1)] [(.ref x)])) _
    refine XS.iloadN X1.here hx rfl (hb hby d12_6) rfl ?_
    show Steps p.tables e below (T1.setTop (mkF m 7 #[.val (.ref ob0), .val (.int q0), .val (.int q1)] [(.int q1), (.ref x)])) _
    refine X1.aaload hx (j := q1) (v := .null) (by rw [e1]; exact aA3.1) (State.isArrayOf_alike hZ.alike aA3.2.1) rfl aA3.2.2 (by rw [aS3]; exact hin7) (own_at aH3 hin7 hat7) (g := (mkF m 7 #[.val (.ref ob0), .val (.int q0), .val (.int q1)] [(.int q1), (.ref x)])) rfl rfl (hb hby d12_7) _ ?_
    show Steps p.tables e below (T1.setTop (mkF m 8 #[.val (.ref ob0), .val (.int q0), .val (.int q1)] [.null])) _
    refine XS.ifnonnullNo X1.here hx rfl (hb hby d12_8) rfl ?_
    show Steps p.tables e below (T1.setTop (mkF m 11 #[.val (.ref ob0), .val (.int q0), .val (.int q1)] [])) _
    refine XS.iconst X1.here hx rfl (hb hby d12_11) ?_
    show Steps p.tables e below (T1.setTop (mkF m 12 #[.val (.ref ob0), .val (.int q0), .val (.int q1)] [(.int (1 : Int32))])) _
    refine XS.goto X1.here hx rfl (pc0 := 12) (pc' := 16) rfl (hb hby d12_12) (by decide) (by decide) ?_
    show Steps p.tables e below (T1.setTop (mkF m 16 #[.val (.ref ob0), .val (.int q0), .val (.int q1)] [(.int (1 : Int32))])) _
    exact retN X1 hx (t := .boolean) Bd.returns (by simp) (hb hby d12_16) hr
  · exact ⟨rfl, N0, e1⟩
theorem d12_15 : decode prog_59_method_3_code 15 = .ok (.iconst 0, 1) := by decide +kernel
def Q12_9 (Z : State) (ob0 : Addr) (q0 : Int32) (q1 : Int32) (R : Addr) (k_R : ClassId) (N : Nat) (fR : Nat → Value) (x : Addr) (k_x : ClassId) (K : Nat) (fx : Nat → Value) (y : Addr) (h0 : Heap) (n0 : Nat) (v : Option Value) (h : Heap) (L : List Loc) : Prop := v = some (.int (0 : Int32)) ∧ Fr n0 L ∧ h = h0
set_option maxRecDepth 65536 in
set_option maxHeartbeats 40000000 in
theorem rm12_9 (l : Launch) (Z : State) (a0 : Array Value) (hw : ∀ d ∈ tables_1, d.before a0 Z = true) (ws : List Jvm.Cond) (ob0 : Addr) (q0 : Int32) (q1 : Int32) (R : Addr) (k_R : ClassId) (N : Nat) (fR : Nat → Value) (x : Addr) (k_x : ClassId) (K : Nat) (fx : Nat → Value) (y : Addr) (h0 : Heap) (n0 : Nat) (Z0 : n0 ≤ h0.size) (O0 : Old Z n0 h0) (PE_ob0 : Exa Z h0 ob0 "com/example/caprice/caprice/solver/Domains") (PF_ob0_reasons : Fld Z h0 ob0 "com/example/caprice/caprice/solver/Domains" "reasons" "[[[I" (.ref R)) (PA_R : Ars Z h0 R k_R (.array (.array .int)) N fR) (PA_x : Ars Z h0 x k_x (.array .int) K fx) (hin5 : ¬ (q0 < 0 ∨ N ≤ (q0).toNatClampNeg)) (hat5 : fR (q0).toNatClampNeg = (.ref x)) (hin7 : ¬ (q1 < 0 ∨ K ≤ (q1).toNatClampNeg)) (hat7 : fx (q1).toNatClampNeg = (.ref y)) :
    MetFree l (⟨"com/example/caprice/caprice/solver/Domains", "has", "(II)Z"⟩ : MethodName) (head1 (Jvm.Cond.code (⟨"com/example/caprice/caprice/solver/Domains", "has", "(II)Z"⟩ : MethodName) prog_59_method_3_code 3 (some .boolean) :: ws) ({ frames := 0, cells := 0, slots := 0, locals := 0 } : Room)) (fun a U => a = #[(.ref ob0), (.int q0), (.int q1)] ∧ Z.Warmed39 U.vm ∧ U.heap = h0) (fun _ _ _ _ _ => True) (fun _ U o U' => ∃ v L, o = .returned v ∧ Q12_9 Z  ob0 q0 q1 R k_R N fR x k_x K fx y h0 n0 v U'.heap L ∧ FrameEnd U o U' L ({ frames := 0, cells := 0, slots := 0, locals := 0 } : Room).cells ({ frames := 0, cells := 0, slots := 0, locals := 0 } : Room).slots) := by
  refine MetFree.of_bodySF (plainFor_of_name pn69) hisR ?_
  intro p e s m args below meth c s₁ Bd hml0 hP hK
  obtain ⟨rfl, hZ, hh⟩ := hP
  have hx := Bd.exec
  have hby := Bd.bytes
  have hml : c.maxLocals = 3 := hml0
  have hown : s.vm.findClass "com/example/caprice/caprice/solver/Domains" = some m.cls := findClass_of_methodNamed Bd.named
  have hnm := (name_of_methodNamed Bd.named Bd.method).1
  have X0 : Stand p l e ({ frames := 0, cells := 0, slots := 0, locals := 0 } : Room) s m #[(.ref ob0), (.int q0), (.int q1)] below meth c s₁ [] 0 0 := Stand.of_body Bd
  have e0 : s₁.heap = h0 := by rw [← hh, Bd.state]; rfl
  have N0 := Fr.nil n0
  have pre0 : ∀ t, Steps p.tables e below (s₁.setTop (mkF m 0 #[.val (.ref ob0), .val (.int q0), .val (.int q1)] [])) t → Steps p.tables e below (s₁.setTop (entryFrame m #[(.ref ob0), (.int q0), (.int q1)] 3)) t := fun t k => castTop (ef227 m ob0 q0 q1) k
  obtain ⟨T1, X1, e1, st1⟩ := getF X0 hx hZ hown (host := "") (Or.inl (hw _ (List.mem_of_getElem? (i := 17) rfl))) Via.refl e0 PF_ob0_reasons (g := (mkF m 1 #[.val (.ref ob0), .val (.int q0), .val (.int q1)] [(.ref ob0)])) rfl rfl (hb hby d12_1)
  obtain ⟨ac2, aA2, aq2, aS2, aN2, aH2⟩ := id PA_R
  obtain ⟨ac3, aA3, aq3, aS3, aN3, aH3⟩ := id PA_x
  obtain ⟨fs, hr, hrun, hended, hW, hsame⟩ := X1.leave (v := some (.int (0 : Int32))) (fun h => by rw [Bd.returns] at h; cases h)
  refine ⟨_, _, pre0 _ ?_, hrun, hended, _, _, rfl, ?_, ⟨_, rfl⟩, hW, hsame.mono (by decide) (by decide)⟩
  · show Steps p.tables e below (s₁.setTop (mkF m 0 #[.val (.ref ob0), .val (.int q0), .val (.int q1)] [])) _
    refine XS.aloadN X0.here hx rfl (hb hby d12_0) rfl rfl ?_
    show Steps p.tables e below (s₁.setTop (mkF m 1 #[.val (.ref ob0), .val (.int q0), .val (.int q1)] [(.ref ob0)])) _
    refine st1 _ ?_
    show Steps p.tables e below (T1.setTop (mkF m 4 #[.val (.ref ob0), .val (.int q0), .val (.int q1)] [(.ref R)])) _
    refine XS.iloadN X1.here hx rfl (hb hby d12_4) rfl ?_
    show Steps p.tables e below (T1.setTop (mkF m 5 #[.val (.ref ob0), .val (.int q0), .val (.int q1)] [(.int q0), (.ref R)])) _
    refine X1.aaload hx (j := q0) (v := (.ref x)) (by rw [e1]; exact aA2.1) (State.isArrayOf_alike hZ.alike aA2.2.1) rfl aA2.2.2 (by rw [aS2]; exact hin5) (own_at aH2 hin5 hat5) (g := (mkF m 5 #[.val (.ref ob0), .val (.int q0), .val (.int q1)] [(.int q0), (.ref R)])) rfl rfl (hb hby d12_5) _ ?_
    show Steps p.tables e below (T1.setTop (mkF m 6 #[.val (.ref ob0), .val (.int q0), .val (.int q1)] [(.ref x)])) _
    refine XS.iloadN X1.here hx rfl (hb hby d12_6) rfl ?_
    show Steps p.tables e below (T1.setTop (mkF m 7 #[.val (.ref ob0), .val (.int q0), .val (.int q1)] [(.int q1), (.ref x)])) _
    refine X1.aaload hx (j := q1) (v := (.ref y)) (by rw [e1]; exact aA3.1) (State.isArrayOf_alike hZ.alike aA3.2.1) rfl aA3.2.2 (by rw [aS3]; exact hin7) (own_at aH3 hin7 hat7) (g := (mkF m 7 #[.val (.ref ob0), .val (.int q0), .val (.int q1)] [(.int q1), (.ref x)])) rfl rfl (hb hby d12_7) _ ?_
    show Steps p.tables e below (T1.setTop (mkF m 8 #[.val (.ref ob0), .val (.int q0), .val (.int q1)] [(.ref y)])) _
    refine XS.ifnonnullYes X1.here hx rfl (pc0 := 8) (pc' := 15) rfl (hb hby d12_8) rfl (by decide) (by decide) ?_
    show Steps p.tables e below (T1.setTop (mkF m 15 #[.val (.ref ob0), .val (.int q0), .val (.int q1)] [])) _
    refine XS.iconst X1.here hx rfl (hb hby d12_15) ?_
    show Steps p.tables e below (T1.setTop (mkF m 16 #[.val (.ref ob0), .val (.int q0), .val (.int q1)] [(.int (0 : Int32))])) _
    exact retN X1 hx (t := .boolean) Bd.returns (by simp) (hb hby d12_16) hr
  · exact ⟨rfl, N0, e1⟩
theorem d8_0 : decode method_2_code 0 = .ok (.iload_n 2, 1) := by decide +kernel
theorem d8_1 : decode method_2_code 1 = .ok (.ifCond .eq 18, 3) := by decide +kernel
theorem d8_19 : decode method_2_code 19 = .ok (.lconst 0, 1) := by decide +kernel
theorem d8_20 : decode method_2_code 20 = .ok (.lreturn, 1) := by decide +kernel
theorem ef235 (m : MethodId) (x0 : Int32) (x1 : Int32) (x2 : Int32) : entryFrame m #[(.int x0), (.int x1), (.int x2)] 3 = mkF m 0 #[.val (.int x0), .val (.int x1), .val (.int x2)] [] := by first | (simp [entryFrame, mkF, argsToLocals, Value.category]; done) | rfl
theorem pn236 : plainName "com/example/caprice/caprice/solver/DomainsRestorePinLaw" = true := by first | (simp [plainName, overriddenIn]; done) | decide +kernel
def Q8_10 (Z : State) (q0 : Int32) (q1 : Int32) (q2 : Int32) (h0 : Heap) (n0 : Nat) (v : Option Value) (h : Heap) (L : List Loc) : Prop := v = some (.long (0 : Int64)) ∧ Fr n0 L ∧ h = h0
set_option maxRecDepth 65536 in
set_option maxHeartbeats 40000000 in
theorem rm8_10 (l : Launch) (Z : State) (a0 : Array Value) (hw : ∀ d ∈ tables_1, d.before a0 Z = true) (ws : List Jvm.Cond) (q0 : Int32) (q1 : Int32) (q2 : Int32) (h0 : Heap) (n0 : Nat) (Z0 : n0 ≤ h0.size) (O0 : Old Z n0 h0) (hd0 : q2 = (0 : Int32)) :
    MetFree l (⟨"com/example/caprice/caprice/solver/DomainsRestorePinLaw", "bit", "(IIZ)J"⟩ : MethodName) (head1 (Jvm.Cond.code (⟨"com/example/caprice/caprice/solver/DomainsRestorePinLaw", "bit", "(IIZ)J"⟩ : MethodName) method_2_code 3 (some .long) :: ws) ({ frames := 0, cells := 0, slots := 0, locals := 0 } : Room)) (fun a U => a = #[(.int q0), (.int q1), (.int q2)] ∧ Z.Warmed39 U.vm ∧ U.heap = h0) (fun _ _ _ _ _ => True) (fun _ U o U' => ∃ v L, o = .returned v ∧ Q8_10 Z  q0 q1 q2 h0 n0 v U'.heap L ∧ FrameEnd U o U' L ({ frames := 0, cells := 0, slots := 0, locals := 0 } : Room).cells ({ frames := 0, cells := 0, slots := 0, locals := 0 } : Room).slots) := by
  refine MetFree.of_bodySF (plainFor_of_name pn236) hisR ?_
  intro p e s m args below meth c s₁ Bd hml0 hP hK
  obtain ⟨rfl, hZ, hh⟩ := hP
  have hx := Bd.exec
  have hby := Bd.bytes
  have hml : c.maxLocals = 3 := hml0
  have hown : s.vm.findClass "com/example/caprice/caprice/solver/DomainsRestorePinLaw" = some m.cls := findClass_of_methodNamed Bd.named
  have hnm := (name_of_methodNamed Bd.named Bd.method).1
  have X0 : Stand p l e ({ frames := 0, cells := 0, slots := 0, locals := 0 } : Room) s m #[(.int q0), (.int q1), (.int q2)] below meth c s₁ [] 0 0 := Stand.of_body Bd
  have e0 : s₁.heap = h0 := by rw [← hh, Bd.state]; rfl
  have N0 := Fr.nil n0
  have pre0 : ∀ t, Steps p.tables e below (s₁.setTop (mkF m 0 #[.val (.int q0), .val (.int q1), .val (.int q2)] [])) t → Steps p.tables e below (s₁.setTop (entryFrame m #[(.int q0), (.int q1), (.int q2)] 3)) t := fun t k => castTop (ef235 m q0 q1 q2) k
  obtain ⟨fs, hr, hrun, hended, hW, hsame⟩ := X0.leave (v := some (.long (0 : Int64))) (fun h => by rw [Bd.returns] at h; cases h)
  refine ⟨_, _, pre0 _ ?_, hrun, hended, _, _, rfl, ?_, ⟨_, rfl⟩, hW, hsame.mono (by decide) (by decide)⟩
  · show Steps p.tables e below (s₁.setTop (mkF m 0 #[.val (.int q0), .val (.int q1), .val (.int q2)] [])) _
    refine XS.iloadN X0.here hx rfl (hb hby d8_0) rfl ?_
    show Steps p.tables e below (s₁.setTop (mkF m 1 #[.val (.int q0), .val (.int q1), .val (.int q2)] [(.int q2)])) _
    refine XS.ifYes X0.here hx rfl (pc0 := 1) (pc' := 19) rfl (hb hby d8_1) rfl ((if0 _ _).trans (teq hd0).1) (by decide) (by decide) ?_
    show Steps p.tables e below (s₁.setTop (mkF m 19 #[.val (.int q0), .val (.int q1), .val (.int q2)] [])) _
    refine XS.lconst X0.here hx rfl (hb hby d8_19) ?_
    show Steps p.tables e below (s₁.setTop (mkF m 20 #[.val (.int q0), .val (.int q1), .val (.int q2)] [(.long (0 : Int64))])) _
    exact Jvm.Stand.lreturnOut X0 hx Bd.returns (hb hby d8_20) hr
  · exact ⟨rfl, N0, e0⟩
theorem d8_4 : decode method_2_code 4 = .ok (.iload_n 0, 1) := by decide +kernel
theorem d8_5 : decode method_2_code 5 = .ok (.bipush 6, 2) := by decide +kernel
theorem d8_7 : decode method_2_code 7 = .ok (.iushr, 1) := by decide +kernel
theorem d8_8 : decode method_2_code 8 = .ok (.iload_n 1, 1) := by decide +kernel
theorem d8_9 : decode method_2_code 9 = .ok (.if_icmp .ne 10, 3) := by decide +kernel
theorem d8_12 : decode method_2_code 12 = .ok (.lconst 1, 1) := by decide +kernel
theorem d8_13 : decode method_2_code 13 = .ok (.iload_n 0, 1) := by decide +kernel
theorem d8_14 : decode method_2_code 14 = .ok (.bipush 63, 2) := by decide +kernel
theorem d8_16 : decode method_2_code 16 = .ok (.iand, 1) := by decide +kernel
theorem d8_17 : decode method_2_code 17 = .ok (.lshl, 1) := by decide +kernel
theorem d8_18 : decode method_2_code 18 = .ok (.lreturn, 1) := by decide +kernel
def Q8_11 (Z : State) (q0 : Int32) (q1 : Int32) (q2 : Int32) (h0 : Heap) (n0 : Nat) (v : Option Value) (h : Heap) (L : List Loc) : Prop := v = some (.long ((1 : Int64) <<< ((q0 &&& (63 : Int32)) &&& 0x3f).toInt64)) ∧ Fr n0 L ∧ h = h0
set_option maxRecDepth 65536 in
set_option maxHeartbeats 40000000 in
theorem rm8_11 (l : Launch) (Z : State) (a0 : Array Value) (hw : ∀ d ∈ tables_1, d.before a0 Z = true) (ws : List Jvm.Cond) (q0 : Int32) (q1 : Int32) (q2 : Int32) (h0 : Heap) (n0 : Nat) (Z0 : n0 ≤ h0.size) (O0 : Old Z n0 h0) (hd0 : ¬ (q2 = (0 : Int32))) (hd1 : ((q0.toUInt32 >>> ((6 : Int32) &&& 31).toUInt32).toInt32) = q1) :
    MetFree l (⟨"com/example/caprice/caprice/solver/DomainsRestorePinLaw", "bit", "(IIZ)J"⟩ : MethodName) (head1 (Jvm.Cond.code (⟨"com/example/caprice/caprice/solver/DomainsRestorePinLaw", "bit", "(IIZ)J"⟩ : MethodName) method_2_code 3 (some .long) :: ws) ({ frames := 0, cells := 0, slots := 0, locals := 0 } : Room)) (fun a U => a = #[(.int q0), (.int q1), (.int q2)] ∧ Z.Warmed39 U.vm ∧ U.heap = h0) (fun _ _ _ _ _ => True) (fun _ U o U' => ∃ v L, o = .returned v ∧ Q8_11 Z  q0 q1 q2 h0 n0 v U'.heap L ∧ FrameEnd U o U' L ({ frames := 0, cells := 0, slots := 0, locals := 0 } : Room).cells ({ frames := 0, cells := 0, slots := 0, locals := 0 } : Room).slots) := by
  refine MetFree.of_bodySF (plainFor_of_name pn236) hisR ?_
  intro p e s m args below meth c s₁ Bd hml0 hP hK
  obtain ⟨rfl, hZ, hh⟩ := hP
  have hx := Bd.exec
  have hby := Bd.bytes
  have hml : c.maxLocals = 3 := hml0
  have hown : s.vm.findClass "com/example/caprice/caprice/solver/DomainsRestorePinLaw" = some m.cls := findClass_of_methodNamed Bd.named
  have hnm := (name_of_methodNamed Bd.named Bd.method).1
  have X0 : Stand p l e ({ frames := 0, cells := 0, slots := 0, locals := 0 } : Room) s m #[(.int q0), (.int q1), (.int q2)] below meth c s₁ [] 0 0 := Stand.of_body Bd
  have e0 : s₁.heap = h0 := by rw [← hh, Bd.state]; rfl
  have N0 := Fr.nil n0
  have pre0 : ∀ t, Steps p.tables e below (s₁.setTop (mkF m 0 #[.val (.int q0), .val (.int q1), .val (.int q2)] [])) t → Steps p.tables e below (s₁.setTop (entryFrame m #[(.int q0), (.int q1), (.int q2)] 3)) t := fun t k => castTop (ef235 m q0 q1 q2) k
  obtain ⟨fs, hr, hrun, hended, hW, hsame⟩ := X0.leave (v := some (.long ((1 : Int64) <<< ((q0 &&& (63 : Int32)) &&& 0x3f).toInt64))) (fun h => by rw [Bd.returns] at h; cases h)
  refine ⟨_, _, pre0 _ ?_, hrun, hended, _, _, rfl, ?_, ⟨_, rfl⟩, hW, hsame.mono (by decide) (by decide)⟩
  · show Steps p.tables e below (s₁.setTop (mkF m 0 #[.val (.int q0), .val (.int q1), .val (.int q2)] [])) _
    refine XS.iloadN X0.here hx rfl (hb hby d8_0) rfl ?_
    show Steps p.tables e below (s₁.setTop (mkF m 1 #[.val (.int q0), .val (.int q1), .val (.int q2)] [(.int q2)])) _
    refine XS.ifNo X0.here hx rfl (hb hby d8_1) rfl ((if0 _ _).trans (feq hd0).1) ?_
    show Steps p.tables e below (s₁.setTop (mkF m 4 #[.val (.int q0), .val (.int q1), .val (.int q2)] [])) _
    refine XS.iloadN X0.here hx rfl (hb hby d8_4) rfl ?_
    show Steps p.tables e below (s₁.setTop (mkF m 5 #[.val (.int q0), .val (.int q1), .val (.int q2)] [(.int q0)])) _
    refine XS.bipush X0.here hx rfl (hb hby d8_5) ?_
    show Steps p.tables e below (s₁.setTop (mkF m 7 #[.val (.int q0), .val (.int q1), .val (.int q2)] [(.int (6 : Int32)), (.int q0)])) _
    refine XS.iushr X0.here hx rfl (hb hby d8_7) rfl ?_
    show Steps p.tables e below (s₁.setTop (mkF m 8 #[.val (.int q0), .val (.int q1), .val (.int q2)] [(.int ((q0.toUInt32 >>> ((6 : Int32) &&& 31).toUInt32).toInt32))])) _
    refine XS.iloadN X0.here hx rfl (hb hby d8_8) rfl ?_
    show Steps p.tables e below (s₁.setTop (mkF m 9 #[.val (.int q0), .val (.int q1), .val (.int q2)] [(.int q1), (.int ((q0.toUInt32 >>> ((6 : Int32) &&& 31).toUInt32).toInt32))])) _
    refine XS.icmpNo X0.here hx rfl (hb hby d8_9) rfl (teq hd1).2 ?_
    show Steps p.tables e below (s₁.setTop (mkF m 12 #[.val (.int q0), .val (.int q1), .val (.int q2)] [])) _
    refine XS.lconst X0.here hx rfl (hb hby d8_12) ?_
    show Steps p.tables e below (s₁.setTop (mkF m 13 #[.val (.int q0), .val (.int q1), .val (.int q2)] [(.long (1 : Int64))])) _
    refine XS.iloadN X0.here hx rfl (hb hby d8_13) rfl ?_
    show Steps p.tables e below (s₁.setTop (mkF m 14 #[.val (.int q0), .val (.int q1), .val (.int q2)] [(.int q0), (.long (1 : Int64))])) _
    refine XS.bipush X0.here hx rfl (hb hby d8_14) ?_
    show Steps p.tables e below (s₁.setTop (mkF m 16 #[.val (.int q0), .val (.int q1), .val (.int q2)] [(.int (63 : Int32)), (.int q0), (.long (1 : Int64))])) _
    refine XS.iand X0.here hx rfl (hb hby d8_16) rfl ?_
    show Steps p.tables e below (s₁.setTop (mkF m 17 #[.val (.int q0), .val (.int q1), .val (.int q2)] [(.int (q0 &&& (63 : Int32))), (.long (1 : Int64))])) _
    refine XS.lshl X0.here hx rfl (hb hby d8_17) rfl ?_
    show Steps p.tables e below (s₁.setTop (mkF m 18 #[.val (.int q0), .val (.int q1), .val (.int q2)] [(.long ((1 : Int64) <<< ((q0 &&& (63 : Int32)) &&& 0x3f).toInt64))])) _
    exact Jvm.Stand.lreturnOut X0 hx Bd.returns (hb hby d8_18) hr
  · exact ⟨rfl, N0, e0⟩
def Q8_12 (Z : State) (q0 : Int32) (q1 : Int32) (q2 : Int32) (h0 : Heap) (n0 : Nat) (v : Option Value) (h : Heap) (L : List Loc) : Prop := v = some (.long (0 : Int64)) ∧ Fr n0 L ∧ h = h0
set_option maxRecDepth 65536 in
set_option maxHeartbeats 40000000 in
theorem rm8_12 (l : Launch) (Z : State) (a0 : Array Value) (hw : ∀ d ∈ tables_1, d.before a0 Z = true) (ws : List Jvm.Cond) (q0 : Int32) (q1 : Int32) (q2 : Int32) (h0 : Heap) (n0 : Nat) (Z0 : n0 ≤ h0.size) (O0 : Old Z n0 h0) (hd0 : ¬ (q2 = (0 : Int32))) (hd1 : ¬ (((q0.toUInt32 >>> ((6 : Int32) &&& 31).toUInt32).toInt32) = q1)) :
    MetFree l (⟨"com/example/caprice/caprice/solver/DomainsRestorePinLaw", "bit", "(IIZ)J"⟩ : MethodName) (head1 (Jvm.Cond.code (⟨"com/example/caprice/caprice/solver/DomainsRestorePinLaw", "bit", "(IIZ)J"⟩ : MethodName) method_2_code 3 (some .long) :: ws) ({ frames := 0, cells := 0, slots := 0, locals := 0 } : Room)) (fun a U => a = #[(.int q0), (.int q1), (.int q2)] ∧ Z.Warmed39 U.vm ∧ U.heap = h0) (fun _ _ _ _ _ => True) (fun _ U o U' => ∃ v L, o = .returned v ∧ Q8_12 Z  q0 q1 q2 h0 n0 v U'.heap L ∧ FrameEnd U o U' L ({ frames := 0, cells := 0, slots := 0, locals := 0 } : Room).cells ({ frames := 0, cells := 0, slots := 0, locals := 0 } : Room).slots) := by
  refine MetFree.of_bodySF (plainFor_of_name pn236) hisR ?_
  intro p e s m args below meth c s₁ Bd hml0 hP hK
  obtain ⟨rfl, hZ, hh⟩ := hP
  have hx := Bd.exec
  have hby := Bd.bytes
  have hml : c.maxLocals = 3 := hml0
  have hown : s.vm.findClass "com/example/caprice/caprice/solver/DomainsRestorePinLaw" = some m.cls := findClass_of_methodNamed Bd.named
  have hnm := (name_of_methodNamed Bd.named Bd.method).1
  have X0 : Stand p l e ({ frames := 0, cells := 0, slots := 0, locals := 0 } : Room) s m #[(.int q0), (.int q1), (.int q2)] below meth c s₁ [] 0 0 := Stand.of_body Bd
  have e0 : s₁.heap = h0 := by rw [← hh, Bd.state]; rfl
  have N0 := Fr.nil n0
  have pre0 : ∀ t, Steps p.tables e below (s₁.setTop (mkF m 0 #[.val (.int q0), .val (.int q1), .val (.int q2)] [])) t → Steps p.tables e below (s₁.setTop (entryFrame m #[(.int q0), (.int q1), (.int q2)] 3)) t := fun t k => castTop (ef235 m q0 q1 q2) k
  obtain ⟨fs, hr, hrun, hended, hW, hsame⟩ := X0.leave (v := some (.long (0 : Int64))) (fun h => by rw [Bd.returns] at h; cases h)
  refine ⟨_, _, pre0 _ ?_, hrun, hended, _, _, rfl, ?_, ⟨_, rfl⟩, hW, hsame.mono (by decide) (by decide)⟩
  · show Steps p.tables e below (s₁.setTop (mkF m 0 #[.val (.int q0), .val (.int q1), .val (.int q2)] [])) _
    refine XS.iloadN X0.here hx rfl (hb hby d8_0) rfl ?_
    show Steps p.tables e below (s₁.setTop (mkF m 1 #[.val (.int q0), .val (.int q1), .val (.int q2)] [(.int q2)])) _
    refine XS.ifNo X0.here hx rfl (hb hby d8_1) rfl ((if0 _ _).trans (feq hd0).1) ?_
    show Steps p.tables e below (s₁.setTop (mkF m 4 #[.val (.int q0), .val (.int q1), .val (.int q2)] [])) _
    refine XS.iloadN X0.here hx rfl (hb hby d8_4) rfl ?_
    show Steps p.tables e below (s₁.setTop (mkF m 5 #[.val (.int q0), .val (.int q1), .val (.int q2)] [(.int q0)])) _
    refine XS.bipush X0.here hx rfl (hb hby d8_5) ?_
    show Steps p.tables e below (s₁.setTop (mkF m 7 #[.val (.int q0), .val (.int q1), .val (.int q2)] [(.int (6 : Int32)), (.int q0)])) _
    refine XS.iushr X0.here hx rfl (hb hby d8_7) rfl ?_
    show Steps p.tables e below (s₁.setTop (mkF m 8 #[.val (.int q0), .val (.int q1), .val (.int q2)] [(.int ((q0.toUInt32 >>> ((6 : Int32) &&& 31).toUInt32).toInt32))])) _
    refine XS.iloadN X0.here hx rfl (hb hby d8_8) rfl ?_
    show Steps p.tables e below (s₁.setTop (mkF m 9 #[.val (.int q0), .val (.int q1), .val (.int q2)] [(.int q1), (.int ((q0.toUInt32 >>> ((6 : Int32) &&& 31).toUInt32).toInt32))])) _
    refine XS.icmpYes X0.here hx rfl (pc0 := 9) (pc' := 19) rfl (hb hby d8_9) rfl (feq hd1).2 (by decide) (by decide) ?_
    show Steps p.tables e below (s₁.setTop (mkF m 19 #[.val (.int q0), .val (.int q1), .val (.int q2)] [])) _
    refine XS.lconst X0.here hx rfl (hb hby d8_19) ?_
    show Steps p.tables e below (s₁.setTop (mkF m 20 #[.val (.int q0), .val (.int q1), .val (.int q2)] [(.long (0 : Int64))])) _
    exact Jvm.Stand.lreturnOut X0 hx Bd.returns (hb hby d8_20) hr
  · exact ⟨rfl, N0, e0⟩
theorem d9_0 : decode method_3_code 0 = .ok (.iload_n 2, 1) := by decide +kernel
theorem d9_1 : decode method_3_code 1 = .ok (.ifCond .eq 13, 3) := by decide +kernel
theorem d9_14 : decode method_3_code 14 = .ok (.iconst 0, 1) := by decide +kernel
theorem d9_15 : decode method_3_code 15 = .ok (.ireturn, 1) := by decide +kernel
theorem ef255 (m : MethodId) (x0 : Int32) (x1 : Int32) (x2 : Int32) : entryFrame m #[(.int x0), (.int x1), (.int x2)] 3 = mkF m 0 #[.val (.int x0), .val (.int x1), .val (.int x2)] [] := by first | (simp [entryFrame, mkF, argsToLocals, Value.category]; done) | rfl
def Q9_13 (Z : State) (q0 : Int32) (q1 : Int32) (q2 : Int32) (h0 : Heap) (n0 : Nat) (v : Option Value) (h : Heap) (L : List Loc) : Prop := v = some (.int (0 : Int32)) ∧ Fr n0 L ∧ h = h0
set_option maxRecDepth 65536 in
set_option maxHeartbeats 40000000 in
theorem rm9_13 (l : Launch) (Z : State) (a0 : Array Value) (hw : ∀ d ∈ tables_1, d.before a0 Z = true) (ws : List Jvm.Cond) (q0 : Int32) (q1 : Int32) (q2 : Int32) (h0 : Heap) (n0 : Nat) (Z0 : n0 ≤ h0.size) (O0 : Old Z n0 h0) (hd0 : q2 = (0 : Int32)) :
    MetFree l (⟨"com/example/caprice/caprice/solver/DomainsRestorePinLaw", "one", "(IIZ)I"⟩ : MethodName) (head1 (Jvm.Cond.code (⟨"com/example/caprice/caprice/solver/DomainsRestorePinLaw", "one", "(IIZ)I"⟩ : MethodName) method_3_code 3 (some .int) :: ws) ({ frames := 0, cells := 0, slots := 0, locals := 0 } : Room)) (fun a U => a = #[(.int q0), (.int q1), (.int q2)] ∧ Z.Warmed39 U.vm ∧ U.heap = h0) (fun _ _ _ _ _ => True) (fun _ U o U' => ∃ v L, o = .returned v ∧ Q9_13 Z  q0 q1 q2 h0 n0 v U'.heap L ∧ FrameEnd U o U' L ({ frames := 0, cells := 0, slots := 0, locals := 0 } : Room).cells ({ frames := 0, cells := 0, slots := 0, locals := 0 } : Room).slots) := by
  refine MetFree.of_bodySF (plainFor_of_name pn236) hisR ?_
  intro p e s m args below meth c s₁ Bd hml0 hP hK
  obtain ⟨rfl, hZ, hh⟩ := hP
  have hx := Bd.exec
  have hby := Bd.bytes
  have hml : c.maxLocals = 3 := hml0
  have hown : s.vm.findClass "com/example/caprice/caprice/solver/DomainsRestorePinLaw" = some m.cls := findClass_of_methodNamed Bd.named
  have hnm := (name_of_methodNamed Bd.named Bd.method).1
  have X0 : Stand p l e ({ frames := 0, cells := 0, slots := 0, locals := 0 } : Room) s m #[(.int q0), (.int q1), (.int q2)] below meth c s₁ [] 0 0 := Stand.of_body Bd
  have e0 : s₁.heap = h0 := by rw [← hh, Bd.state]; rfl
  have N0 := Fr.nil n0
  have pre0 : ∀ t, Steps p.tables e below (s₁.setTop (mkF m 0 #[.val (.int q0), .val (.int q1), .val (.int q2)] [])) t → Steps p.tables e below (s₁.setTop (entryFrame m #[(.int q0), (.int q1), (.int q2)] 3)) t := fun t k => castTop (ef255 m q0 q1 q2) k
  obtain ⟨fs, hr, hrun, hended, hW, hsame⟩ := X0.leave (v := some (.int (0 : Int32))) (fun h => by rw [Bd.returns] at h; cases h)
  refine ⟨_, _, pre0 _ ?_, hrun, hended, _, _, rfl, ?_, ⟨_, rfl⟩, hW, hsame.mono (by decide) (by decide)⟩
  · show Steps p.tables e below (s₁.setTop (mkF m 0 #[.val (.int q0), .val (.int q1), .val (.int q2)] [])) _
    refine XS.iloadN X0.here hx rfl (hb hby d9_0) rfl ?_
    show Steps p.tables e below (s₁.setTop (mkF m 1 #[.val (.int q0), .val (.int q1), .val (.int q2)] [(.int q2)])) _
    refine XS.ifYes X0.here hx rfl (pc0 := 1) (pc' := 14) rfl (hb hby d9_1) rfl ((if0 _ _).trans (teq hd0).1) (by decide) (by decide) ?_
    show Steps p.tables e below (s₁.setTop (mkF m 14 #[.val (.int q0), .val (.int q1), .val (.int q2)] [])) _
    refine XS.iconst X0.here hx rfl (hb hby d9_14) ?_
    show Steps p.tables e below (s₁.setTop (mkF m 15 #[.val (.int q0), .val (.int q1), .val (.int q2)] [(.int (0 : Int32))])) _
    exact Jvm.RoadKit.retI X0 hx Bd.returns (hb hby d9_15) hr
  · exact ⟨rfl, N0, e0⟩
theorem d9_4 : decode method_3_code 4 = .ok (.iload_n 0, 1) := by decide +kernel
theorem d9_5 : decode method_3_code 5 = .ok (.bipush 6, 2) := by decide +kernel
theorem d9_7 : decode method_3_code 7 = .ok (.iushr, 1) := by decide +kernel
theorem d9_8 : decode method_3_code 8 = .ok (.iload_n 1, 1) := by decide +kernel
theorem d9_9 : decode method_3_code 9 = .ok (.if_icmp .ne 5, 3) := by decide +kernel
theorem d9_12 : decode method_3_code 12 = .ok (.iconst 1, 1) := by decide +kernel
theorem d9_13 : decode method_3_code 13 = .ok (.ireturn, 1) := by decide +kernel
def Q9_14 (Z : State) (q0 : Int32) (q1 : Int32) (q2 : Int32) (h0 : Heap) (n0 : Nat) (v : Option Value) (h : Heap) (L : List Loc) : Prop := v = some (.int (1 : Int32)) ∧ Fr n0 L ∧ h = h0
set_option maxRecDepth 65536 in
set_option maxHeartbeats 40000000 in
theorem rm9_14 (l : Launch) (Z : State) (a0 : Array Value) (hw : ∀ d ∈ tables_1, d.before a0 Z = true) (ws : List Jvm.Cond) (q0 : Int32) (q1 : Int32) (q2 : Int32) (h0 : Heap) (n0 : Nat) (Z0 : n0 ≤ h0.size) (O0 : Old Z n0 h0) (hd0 : ¬ (q2 = (0 : Int32))) (hd1 : ((q0.toUInt32 >>> ((6 : Int32) &&& 31).toUInt32).toInt32) = q1) :
    MetFree l (⟨"com/example/caprice/caprice/solver/DomainsRestorePinLaw", "one", "(IIZ)I"⟩ : MethodName) (head1 (Jvm.Cond.code (⟨"com/example/caprice/caprice/solver/DomainsRestorePinLaw", "one", "(IIZ)I"⟩ : MethodName) method_3_code 3 (some .int) :: ws) ({ frames := 0, cells := 0, slots := 0, locals := 0 } : Room)) (fun a U => a = #[(.int q0), (.int q1), (.int q2)] ∧ Z.Warmed39 U.vm ∧ U.heap = h0) (fun _ _ _ _ _ => True) (fun _ U o U' => ∃ v L, o = .returned v ∧ Q9_14 Z  q0 q1 q2 h0 n0 v U'.heap L ∧ FrameEnd U o U' L ({ frames := 0, cells := 0, slots := 0, locals := 0 } : Room).cells ({ frames := 0, cells := 0, slots := 0, locals := 0 } : Room).slots) := by
  refine MetFree.of_bodySF (plainFor_of_name pn236) hisR ?_
  intro p e s m args below meth c s₁ Bd hml0 hP hK
  obtain ⟨rfl, hZ, hh⟩ := hP
  have hx := Bd.exec
  have hby := Bd.bytes
  have hml : c.maxLocals = 3 := hml0
  have hown : s.vm.findClass "com/example/caprice/caprice/solver/DomainsRestorePinLaw" = some m.cls := findClass_of_methodNamed Bd.named
  have hnm := (name_of_methodNamed Bd.named Bd.method).1
  have X0 : Stand p l e ({ frames := 0, cells := 0, slots := 0, locals := 0 } : Room) s m #[(.int q0), (.int q1), (.int q2)] below meth c s₁ [] 0 0 := Stand.of_body Bd
  have e0 : s₁.heap = h0 := by rw [← hh, Bd.state]; rfl
  have N0 := Fr.nil n0
  have pre0 : ∀ t, Steps p.tables e below (s₁.setTop (mkF m 0 #[.val (.int q0), .val (.int q1), .val (.int q2)] [])) t → Steps p.tables e below (s₁.setTop (entryFrame m #[(.int q0), (.int q1), (.int q2)] 3)) t := fun t k => castTop (ef255 m q0 q1 q2) k
  obtain ⟨fs, hr, hrun, hended, hW, hsame⟩ := X0.leave (v := some (.int (1 : Int32))) (fun h => by rw [Bd.returns] at h; cases h)
  refine ⟨_, _, pre0 _ ?_, hrun, hended, _, _, rfl, ?_, ⟨_, rfl⟩, hW, hsame.mono (by decide) (by decide)⟩
  · show Steps p.tables e below (s₁.setTop (mkF m 0 #[.val (.int q0), .val (.int q1), .val (.int q2)] [])) _
    refine XS.iloadN X0.here hx rfl (hb hby d9_0) rfl ?_
    show Steps p.tables e below (s₁.setTop (mkF m 1 #[.val (.int q0), .val (.int q1), .val (.int q2)] [(.int q2)])) _
    refine XS.ifNo X0.here hx rfl (hb hby d9_1) rfl ((if0 _ _).trans (feq hd0).1) ?_
    show Steps p.tables e below (s₁.setTop (mkF m 4 #[.val (.int q0), .val (.int q1), .val (.int q2)] [])) _
    refine XS.iloadN X0.here hx rfl (hb hby d9_4) rfl ?_
    show Steps p.tables e below (s₁.setTop (mkF m 5 #[.val (.int q0), .val (.int q1), .val (.int q2)] [(.int q0)])) _
    refine XS.bipush X0.here hx rfl (hb hby d9_5) ?_
    show Steps p.tables e below (s₁.setTop (mkF m 7 #[.val (.int q0), .val (.int q1), .val (.int q2)] [(.int (6 : Int32)), (.int q0)])) _
    refine XS.iushr X0.here hx rfl (hb hby d9_7) rfl ?_
    show Steps p.tables e below (s₁.setTop (mkF m 8 #[.val (.int q0), .val (.int q1), .val (.int q2)] [(.int ((q0.toUInt32 >>> ((6 : Int32) &&& 31).toUInt32).toInt32))])) _
    refine XS.iloadN X0.here hx rfl (hb hby d9_8) rfl ?_
    show Steps p.tables e below (s₁.setTop (mkF m 9 #[.val (.int q0), .val (.int q1), .val (.int q2)] [(.int q1), (.int ((q0.toUInt32 >>> ((6 : Int32) &&& 31).toUInt32).toInt32))])) _
    refine XS.icmpNo X0.here hx rfl (hb hby d9_9) rfl (teq hd1).2 ?_
    show Steps p.tables e below (s₁.setTop (mkF m 12 #[.val (.int q0), .val (.int q1), .val (.int q2)] [])) _
    refine XS.iconst X0.here hx rfl (hb hby d9_12) ?_
    show Steps p.tables e below (s₁.setTop (mkF m 13 #[.val (.int q0), .val (.int q1), .val (.int q2)] [(.int (1 : Int32))])) _
    exact Jvm.RoadKit.retI X0 hx Bd.returns (hb hby d9_13) hr
  · exact ⟨rfl, N0, e0⟩
def Q9_15 (Z : State) (q0 : Int32) (q1 : Int32) (q2 : Int32) (h0 : Heap) (n0 : Nat) (v : Option Value) (h : Heap) (L : List Loc) : Prop := v = some (.int (0 : Int32)) ∧ Fr n0 L ∧ h = h0
set_option maxRecDepth 65536 in
set_option maxHeartbeats 40000000 in
theorem rm9_15 (l : Launch) (Z : State) (a0 : Array Value) (hw : ∀ d ∈ tables_1, d.before a0 Z = true) (ws : List Jvm.Cond) (q0 : Int32) (q1 : Int32) (q2 : Int32) (h0 : Heap) (n0 : Nat) (Z0 : n0 ≤ h0.size) (O0 : Old Z n0 h0) (hd0 : ¬ (q2 = (0 : Int32))) (hd1 : ¬ (((q0.toUInt32 >>> ((6 : Int32) &&& 31).toUInt32).toInt32) = q1)) :
    MetFree l (⟨"com/example/caprice/caprice/solver/DomainsRestorePinLaw", "one", "(IIZ)I"⟩ : MethodName) (head1 (Jvm.Cond.code (⟨"com/example/caprice/caprice/solver/DomainsRestorePinLaw", "one", "(IIZ)I"⟩ : MethodName) method_3_code 3 (some .int) :: ws) ({ frames := 0, cells := 0, slots := 0, locals := 0 } : Room)) (fun a U => a = #[(.int q0), (.int q1), (.int q2)] ∧ Z.Warmed39 U.vm ∧ U.heap = h0) (fun _ _ _ _ _ => True) (fun _ U o U' => ∃ v L, o = .returned v ∧ Q9_15 Z  q0 q1 q2 h0 n0 v U'.heap L ∧ FrameEnd U o U' L ({ frames := 0, cells := 0, slots := 0, locals := 0 } : Room).cells ({ frames := 0, cells := 0, slots := 0, locals := 0 } : Room).slots) := by
  refine MetFree.of_bodySF (plainFor_of_name pn236) hisR ?_
  intro p e s m args below meth c s₁ Bd hml0 hP hK
  obtain ⟨rfl, hZ, hh⟩ := hP
  have hx := Bd.exec
  have hby := Bd.bytes
  have hml : c.maxLocals = 3 := hml0
  have hown : s.vm.findClass "com/example/caprice/caprice/solver/DomainsRestorePinLaw" = some m.cls := findClass_of_methodNamed Bd.named
  have hnm := (name_of_methodNamed Bd.named Bd.method).1
  have X0 : Stand p l e ({ frames := 0, cells := 0, slots := 0, locals := 0 } : Room) s m #[(.int q0), (.int q1), (.int q2)] below meth c s₁ [] 0 0 := Stand.of_body Bd
  have e0 : s₁.heap = h0 := by rw [← hh, Bd.state]; rfl
  have N0 := Fr.nil n0
  have pre0 : ∀ t, Steps p.tables e below (s₁.setTop (mkF m 0 #[.val (.int q0), .val (.int q1), .val (.int q2)] [])) t → Steps p.tables e below (s₁.setTop (entryFrame m #[(.int q0), (.int q1), (.int q2)] 3)) t := fun t k => castTop (ef255 m q0 q1 q2) k
  obtain ⟨fs, hr, hrun, hended, hW, hsame⟩ := X0.leave (v := some (.int (0 : Int32))) (fun h => by rw [Bd.returns] at h; cases h)
  refine ⟨_, _, pre0 _ ?_, hrun, hended, _, _, rfl, ?_, ⟨_, rfl⟩, hW, hsame.mono (by decide) (by decide)⟩
  · show Steps p.tables e below (s₁.setTop (mkF m 0 #[.val (.int q0), .val (.int q1), .val (.int q2)] [])) _
    refine XS.iloadN X0.here hx rfl (hb hby d9_0) rfl ?_
    show Steps p.tables e below (s₁.setTop (mkF m 1 #[.val (.int q0), .val (.int q1), .val (.int q2)] [(.int q2)])) _
    refine XS.ifNo X0.here hx rfl (hb hby d9_1) rfl ((if0 _ _).trans (feq hd0).1) ?_
    show Steps p.tables e below (s₁.setTop (mkF m 4 #[.val (.int q0), .val (.int q1), .val (.int q2)] [])) _
    refine XS.iloadN X0.here hx rfl (hb hby d9_4) rfl ?_
    show Steps p.tables e below (s₁.setTop (mkF m 5 #[.val (.int q0), .val (.int q1), .val (.int q2)] [(.int q0)])) _
    refine XS.bipush X0.here hx rfl (hb hby d9_5) ?_
    show Steps p.tables e below (s₁.setTop (mkF m 7 #[.val (.int q0), .val (.int q1), .val (.int q2)] [(.int (6 : Int32)), (.int q0)])) _
    refine XS.iushr X0.here hx rfl (hb hby d9_7) rfl ?_
    show Steps p.tables e below (s₁.setTop (mkF m 8 #[.val (.int q0), .val (.int q1), .val (.int q2)] [(.int ((q0.toUInt32 >>> ((6 : Int32) &&& 31).toUInt32).toInt32))])) _
    refine XS.iloadN X0.here hx rfl (hb hby d9_8) rfl ?_
    show Steps p.tables e below (s₁.setTop (mkF m 9 #[.val (.int q0), .val (.int q1), .val (.int q2)] [(.int q1), (.int ((q0.toUInt32 >>> ((6 : Int32) &&& 31).toUInt32).toInt32))])) _
    refine XS.icmpYes X0.here hx rfl (pc0 := 9) (pc' := 14) rfl (hb hby d9_9) rfl (feq hd1).2 (by decide) (by decide) ?_
    show Steps p.tables e below (s₁.setTop (mkF m 14 #[.val (.int q0), .val (.int q1), .val (.int q2)] [])) _
    refine XS.iconst X0.here hx rfl (hb hby d9_14) ?_
    show Steps p.tables e below (s₁.setTop (mkF m 15 #[.val (.int q0), .val (.int q1), .val (.int q2)] [(.int (0 : Int32))])) _
    exact Jvm.RoadKit.retI X0 hx Bd.returns (hb hby d9_15) hr
  · exact ⟨rfl, N0, e0⟩
theorem d1_0 : decode jdk_29_method_69_code 0 = .ok (.iload_n 0, 1) := by decide +kernel
theorem d1_1 : decode jdk_29_method_69_code 1 = .ok (.iload_n 1, 1) := by decide +kernel
theorem d1_2 : decode jdk_29_method_69_code 2 = .ok (.if_icmp .gt 7, 3) := by decide +kernel
theorem d1_9 : decode jdk_29_method_69_code 9 = .ok (.iload_n 1, 1) := by decide +kernel
theorem d1_10 : decode jdk_29_method_69_code 10 = .ok (.ireturn, 1) := by decide +kernel
theorem ef271 (m : MethodId) (x0 : Int32) (x1 : Int32) : entryFrame m #[(.int x0), (.int x1)] 2 = mkF m 0 #[.val (.int x0), .val (.int x1)] [] := by first | (simp [entryFrame, mkF, argsToLocals, Value.category]; done) | rfl
def Q1_16 (Z : State) (q0 : Int32) (q1 : Int32) (h0 : Heap) (n0 : Nat) (v : Option Value) (h : Heap) (L : List Loc) : Prop := v = some (.int q1) ∧ Fr n0 L ∧ h = h0
set_option maxRecDepth 65536 in
set_option maxHeartbeats 40000000 in
theorem rm1_16 (l : Launch) (Z : State) (a0 : Array Value) (hw : ∀ d ∈ tables_1, d.before a0 Z = true) (ws : List Jvm.Cond) (q0 : Int32) (q1 : Int32) (h0 : Heap) (n0 : Nat) (Z0 : n0 ≤ h0.size) (O0 : Old Z n0 h0) (hd0 : q1 < q0) :
    MetFree l (⟨"java/lang/Math", "min", "(II)I"⟩ : MethodName) (head1 (Jvm.Cond.code (⟨"java/lang/Math", "min", "(II)I"⟩ : MethodName) jdk_29_method_69_code 2 (some .int) :: ws) ({ frames := 0, cells := 0, slots := 0, locals := 0 } : Room)) (fun a U => a = #[(.int q0), (.int q1)] ∧ Z.Warmed39 U.vm ∧ U.heap = h0) (fun _ _ _ _ _ => True) (fun _ U o U' => ∃ v L, o = .returned v ∧ Q1_16 Z  q0 q1 h0 n0 v U'.heap L ∧ FrameEnd U o U' L ({ frames := 0, cells := 0, slots := 0, locals := 0 } : Room).cells ({ frames := 0, cells := 0, slots := 0, locals := 0 } : Room).slots) := by
  refine MetFree.of_bodySF (Jvm.Free.JP.mathPlain rfl (by decide +kernel)) hisR ?_
  intro p e s m args below meth c s₁ Bd hml0 hP hK
  obtain ⟨rfl, hZ, hh⟩ := hP
  have hx := Bd.exec
  have hby := Bd.bytes
  have hml : c.maxLocals = 2 := hml0
  have hown : s.vm.findClass "java/lang/Math" = some m.cls := findClass_of_methodNamed Bd.named
  have hnm := (name_of_methodNamed Bd.named Bd.method).1
  have X0 : Stand p l e ({ frames := 0, cells := 0, slots := 0, locals := 0 } : Room) s m #[(.int q0), (.int q1)] below meth c s₁ [] 0 0 := Stand.of_body Bd
  have e0 : s₁.heap = h0 := by rw [← hh, Bd.state]; rfl
  have N0 := Fr.nil n0
  have pre0 : ∀ t, Steps p.tables e below (s₁.setTop (mkF m 0 #[.val (.int q0), .val (.int q1)] [])) t → Steps p.tables e below (s₁.setTop (entryFrame m #[(.int q0), (.int q1)] 2)) t := fun t k => castTop (ef271 m q0 q1) k
  obtain ⟨fs, hr, hrun, hended, hW, hsame⟩ := X0.leave (v := some (.int q1)) (fun h => by rw [Bd.returns] at h; cases h)
  refine ⟨_, _, pre0 _ ?_, hrun, hended, _, _, rfl, ?_, ⟨_, rfl⟩, hW, hsame.mono (by decide) (by decide)⟩
  · show Steps p.tables e below (s₁.setTop (mkF m 0 #[.val (.int q0), .val (.int q1)] [])) _
    refine XS.iloadN X0.here hx rfl (hb hby d1_0) rfl ?_
    show Steps p.tables e below (s₁.setTop (mkF m 1 #[.val (.int q0), .val (.int q1)] [(.int q0)])) _
    refine XS.iloadN X0.here hx rfl (hb hby d1_1) rfl ?_
    show Steps p.tables e below (s₁.setTop (mkF m 2 #[.val (.int q0), .val (.int q1)] [(.int q1), (.int q0)])) _
    refine XS.icmpYes X0.here hx rfl (pc0 := 2) (pc' := 9) rfl (hb hby d1_2) rfl (tlt hd0).2.2.1 (by decide) (by decide) ?_
    show Steps p.tables e below (s₁.setTop (mkF m 9 #[.val (.int q0), .val (.int q1)] [])) _
    refine XS.iloadN X0.here hx rfl (hb hby d1_9) rfl ?_
    show Steps p.tables e below (s₁.setTop (mkF m 10 #[.val (.int q0), .val (.int q1)] [(.int q1)])) _
    exact Jvm.RoadKit.retI X0 hx Bd.returns (hb hby d1_10) hr
  · exact ⟨rfl, N0, e0⟩
theorem d1_5 : decode jdk_29_method_69_code 5 = .ok (.iload_n 0, 1) := by decide +kernel
theorem d1_6 : decode jdk_29_method_69_code 6 = .ok (.goto 4, 3) := by decide +kernel
def Q1_17 (Z : State) (q0 : Int32) (q1 : Int32) (h0 : Heap) (n0 : Nat) (v : Option Value) (h : Heap) (L : List Loc) : Prop := v = some (.int q0) ∧ Fr n0 L ∧ h = h0
set_option maxRecDepth 65536 in
set_option maxHeartbeats 40000000 in
theorem rm1_17 (l : Launch) (Z : State) (a0 : Array Value) (hw : ∀ d ∈ tables_1, d.before a0 Z = true) (ws : List Jvm.Cond) (q0 : Int32) (q1 : Int32) (h0 : Heap) (n0 : Nat) (Z0 : n0 ≤ h0.size) (O0 : Old Z n0 h0) (hd0 : ¬ (q1 < q0)) :
    MetFree l (⟨"java/lang/Math", "min", "(II)I"⟩ : MethodName) (head1 (Jvm.Cond.code (⟨"java/lang/Math", "min", "(II)I"⟩ : MethodName) jdk_29_method_69_code 2 (some .int) :: ws) ({ frames := 0, cells := 0, slots := 0, locals := 0 } : Room)) (fun a U => a = #[(.int q0), (.int q1)] ∧ Z.Warmed39 U.vm ∧ U.heap = h0) (fun _ _ _ _ _ => True) (fun _ U o U' => ∃ v L, o = .returned v ∧ Q1_17 Z  q0 q1 h0 n0 v U'.heap L ∧ FrameEnd U o U' L ({ frames := 0, cells := 0, slots := 0, locals := 0 } : Room).cells ({ frames := 0, cells := 0, slots := 0, locals := 0 } : Room).slots) := by
  refine MetFree.of_bodySF (Jvm.Free.JP.mathPlain rfl (by decide +kernel)) hisR ?_
  intro p e s m args below meth c s₁ Bd hml0 hP hK
  obtain ⟨rfl, hZ, hh⟩ := hP
  have hx := Bd.exec
  have hby := Bd.bytes
  have hml : c.maxLocals = 2 := hml0
  have hown : s.vm.findClass "java/lang/Math" = some m.cls := findClass_of_methodNamed Bd.named
  have hnm := (name_of_methodNamed Bd.named Bd.method).1
  have X0 : Stand p l e ({ frames := 0, cells := 0, slots := 0, locals := 0 } : Room) s m #[(.int q0), (.int q1)] below meth c s₁ [] 0 0 := Stand.of_body Bd
  have e0 : s₁.heap = h0 := by rw [← hh, Bd.state]; rfl
  have N0 := Fr.nil n0
  have pre0 : ∀ t, Steps p.tables e below (s₁.setTop (mkF m 0 #[.val (.int q0), .val (.int q1)] [])) t → Steps p.tables e below (s₁.setTop (entryFrame m #[(.int q0), (.int q1)] 2)) t := fun t k => castTop (ef271 m q0 q1) k
  obtain ⟨fs, hr, hrun, hended, hW, hsame⟩ := X0.leave (v := some (.int q0)) (fun h => by rw [Bd.returns] at h; cases h)
  refine ⟨_, _, pre0 _ ?_, hrun, hended, _, _, rfl, ?_, ⟨_, rfl⟩, hW, hsame.mono (by decide) (by decide)⟩
  · show Steps p.tables e below (s₁.setTop (mkF m 0 #[.val (.int q0), .val (.int q1)] [])) _
    refine XS.iloadN X0.here hx rfl (hb hby d1_0) rfl ?_
    show Steps p.tables e below (s₁.setTop (mkF m 1 #[.val (.int q0), .val (.int q1)] [(.int q0)])) _
    refine XS.iloadN X0.here hx rfl (hb hby d1_1) rfl ?_
    show Steps p.tables e below (s₁.setTop (mkF m 2 #[.val (.int q0), .val (.int q1)] [(.int q1), (.int q0)])) _
    refine XS.icmpNo X0.here hx rfl (hb hby d1_2) rfl (flt hd0).2.2.1 ?_
    show Steps p.tables e below (s₁.setTop (mkF m 5 #[.val (.int q0), .val (.int q1)] [])) _
    refine XS.iloadN X0.here hx rfl (hb hby d1_5) rfl ?_
    show Steps p.tables e below (s₁.setTop (mkF m 6 #[.val (.int q0), .val (.int q1)] [(.int q0)])) _
    refine XS.goto X0.here hx rfl (pc0 := 6) (pc' := 10) rfl (hb hby d1_6) (by decide) (by decide) ?_
    show Steps p.tables e below (s₁.setTop (mkF m 10 #[.val (.int q0), .val (.int q1)] [(.int q0)])) _
    exact Jvm.RoadKit.retI X0 hx Bd.returns (hb hby d1_10) hr
  · exact ⟨rfl, N0, e0⟩
set_option maxRecDepth 65536 in
set_option maxHeartbeats 40000000 in
theorem pA {p : Program} {l : Launch} {e : Env} {s : State} {m : MethodId} {args : Array Value} {below : List Frame} {meth : Method} {c : Code} {T0 : State} {locs : List Loc} {Z : State} {a0 : Array Value} {h0 : Heap} {n0 : Nat} (p1 : Int32) (p2 : Int32) (p3 : Int32) (p4 : Int32)
    (X0 : Stand p l e room_1 s m args below meth c T0 locs 0 0) (hx : p.tables.exec = Jvm.exec) (hZ : Z.Warmed39 s.vm) (hw : ∀ d ∈ tables_1, d.before a0 Z = true) (hby : c.code = code) (hml : c.maxLocals = 22) (hown : s.vm.findClass "com/example/caprice/caprice/solver/DomainsRestorePinLaw" = some m.cls) (e0 : T0.heap = h0) (N0 : Fr n0 locs) (O0 : Old Z n0 h0) :
    ∃ (T' : State) (locs' : List Loc), Stand p l e room_1 s m args below meth c T' locs' 0 0 ∧ Fr n0 locs' ∧ T'.heap = h0 ∧ ∀ t, Steps p.tables e below (T'.setTop (mkF m 40 #[.val (.int p1), .val (.int p2), .val (.int p3), .val (.int p4), .val (.int (p1 &&& (127 : Int32))), .val (.int ((((p1 &&& (127 : Int32)) + (1 : Int32)) + ((p2 &&& (2147483647 : Int32)) % (127 : Int32))) &&& (127 : Int32))), .val (.int ((((p1 &&& (127 : Int32)) + (1 : Int32)) + ((p3 &&& (2147483647 : Int32)) % (126 : Int32))) &&& (127 : Int32))), .unset, .unset, .unset, .unset, .unset, .unset, .unset, .unset, .unset, .unset, .unset, .unset, .unset, .unset, .unset] [])) t → Steps p.tables e below (T0.setTop (mkF m 0 #[.val (.int p1), .val (.int p2), .val (.int p3), .val (.int p4), .unset, .unset, .unset, .unset, .unset, .unset, .unset, .unset, .unset, .unset, .unset, .unset, .unset, .unset, .unset, .unset, .unset, .unset] [])) t := by
  refine ⟨T0, _, X0, N0, e0, fun t kt => ?_⟩
  show Steps p.tables e below (T0.setTop (mkF m 0 #[.val (.int p1), .val (.int p2), .val (.int p3), .val (.int p4), .unset, .unset, .unset, .unset, .unset, .unset, .unset, .unset, .unset, .unset, .unset, .unset, .unset, .unset, .unset, .unset, .unset, .unset] [])) _
  refine XS.iloadN X0.here hx rfl (hb hby at_0) rfl ?_
  show Steps p.tables e below (T0.setTop (mkF m 1 #[.val (.int p1), .val (.int p2), .val (.int p3), .val (.int p4), .unset, .unset, .unset, .unset, .unset, .unset, .unset, .unset, .unset, .unset, .unset, .unset, .unset, .unset, .unset, .unset, .unset, .unset] [(.int p1)])) _
  refine XS.bipush X0.here hx rfl (hb hby at_1) ?_
  show Steps p.tables e below (T0.setTop (mkF m 3 #[.val (.int p1), .val (.int p2), .val (.int p3), .val (.int p4), .unset, .unset, .unset, .unset, .unset, .unset, .unset, .unset, .unset, .unset, .unset, .unset, .unset, .unset, .unset, .unset, .unset, .unset] [(.int (127 : Int32)), (.int p1)])) _
  refine XS.iand X0.here hx rfl (hb hby at_3) rfl ?_
  show Steps p.tables e below (T0.setTop (mkF m 4 #[.val (.int p1), .val (.int p2), .val (.int p3), .val (.int p4), .unset, .unset, .unset, .unset, .unset, .unset, .unset, .unset, .unset, .unset, .unset, .unset, .unset, .unset, .unset, .unset, .unset, .unset] [(.int (p1 &&& (127 : Int32)))])) _
  refine XS.istore X0.here hx rfl (hb hby at_4) rfl (l' := #[.val (.int p1), .val (.int p2), .val (.int p3), .val (.int p4), .val (.int (p1 &&& (127 : Int32))), .unset, .unset, .unset, .unset, .unset, .unset, .unset, .unset, .unset, .unset, .unset, .unset, .unset, .unset, .unset, .unset, .unset]) rfl ?_
  show Steps p.tables e below (T0.setTop (mkF m 6 #[.val (.int p1), .val (.int p2), .val (.int p3), .val (.int p4), .val (.int (p1 &&& (127 : Int32))), .unset, .unset, .unset, .unset, .unset, .unset, .unset, .unset, .unset, .unset, .unset, .unset, .unset, .unset, .unset, .unset, .unset] [])) _
  refine XS.iload X0.here hx rfl (hb hby at_6) rfl ?_
  show Steps p.tables e below (T0.setTop (mkF m 8 #[.val (.int p1), .val (.int p2), .val (.int p3), .val (.int p4), .val (.int (p1 &&& (127 : Int32))), .unset, .unset, .unset, .unset, .unset, .unset, .unset, .unset, .unset, .unset, .unset, .unset, .unset, .unset, .unset, .unset, .unset] [(.int (p1 &&& (127 : Int32)))])) _
  refine XS.iconst X0.here hx rfl (hb hby at_8) ?_
  show Steps p.tables e below (T0.setTop (mkF m 9 #[.val (.int p1), .val (.int p2), .val (.int p3), .val (.int p4), .val (.int (p1 &&& (127 : Int32))), .unset, .unset, .unset, .unset, .unset, .unset, .unset, .unset, .unset, .unset, .unset, .unset, .unset, .unset, .unset, .unset, .unset] [(.int (1 : Int32)), (.int (p1 &&& (127 : Int32)))])) _
  refine XS.iadd X0.here hx rfl (hb hby at_9) rfl ?_
  show Steps p.tables e below (T0.setTop (mkF m 10 #[.val (.int p1), .val (.int p2), .val (.int p3), .val (.int p4), .val (.int (p1 &&& (127 : Int32))), .unset, .unset, .unset, .unset, .unset, .unset, .unset, .unset, .unset, .unset, .unset, .unset, .unset, .unset, .unset, .unset, .unset] [(.int ((p1 &&& (127 : Int32)) + (1 : Int32)))])) _
  refine XS.iloadN X0.here hx rfl (hb hby at_10) rfl ?_
  show Steps p.tables e below (T0.setTop (mkF m 11 #[.val (.int p1), .val (.int p2), .val (.int p3), .val (.int p4), .val (.int (p1 &&& (127 : Int32))), .unset, .unset, .unset, .unset, .unset, .unset, .unset, .unset, .unset, .unset, .unset, .unset, .unset, .unset, .unset, .unset, .unset] [(.int p2), (.int ((p1 &&& (127 : Int32)) + (1 : Int32)))])) _
  refine X0.ldcInt hx hown (mvT hZ (hw _ (List.mem_of_getElem? (i := 0) rfl))) (g := (mkF m 11 #[.val (.int p1), .val (.int p2), .val (.int p3), .val (.int p4), .val (.int (p1 &&& (127 : Int32))), .unset, .unset, .unset, .unset, .unset, .unset, .unset, .unset, .unset, .unset, .unset, .unset, .unset, .unset, .unset, .unset, .unset] [(.int p2), (.int ((p1 &&& (127 : Int32)) + (1 : Int32)))])) rfl (hb hby at_11) _ ?_
  show Steps p.tables e below (T0.setTop (mkF m 13 #[.val (.int p1), .val (.int p2), .val (.int p3), .val (.int p4), .val (.int (p1 &&& (127 : Int32))), .unset, .unset, .unset, .unset, .unset, .unset, .unset, .unset, .unset, .unset, .unset, .unset, .unset, .unset, .unset, .unset, .unset] [(.int (2147483647 : Int32)), (.int p2), (.int ((p1 &&& (127 : Int32)) + (1 : Int32)))])) _
  refine XS.iand X0.here hx rfl (hb hby at_13) rfl ?_
  show Steps p.tables e below (T0.setTop (mkF m 14 #[.val (.int p1), .val (.int p2), .val (.int p3), .val (.int p4), .val (.int (p1 &&& (127 : Int32))), .unset, .unset, .unset, .unset, .unset, .unset, .unset, .unset, .unset, .unset, .unset, .unset, .unset, .unset, .unset, .unset, .unset] [(.int (p2 &&& (2147483647 : Int32))), (.int ((p1 &&& (127 : Int32)) + (1 : Int32)))])) _
  refine XS.bipush X0.here hx rfl (hb hby at_14) ?_
  show Steps p.tables e below (T0.setTop (mkF m 16 #[.val (.int p1), .val (.int p2), .val (.int p3), .val (.int p4), .val (.int (p1 &&& (127 : Int32))), .unset, .unset, .unset, .unset, .unset, .unset, .unset, .unset, .unset, .unset, .unset, .unset, .unset, .unset, .unset, .unset, .unset] [(.int (127 : Int32)), (.int (p2 &&& (2147483647 : Int32))), (.int ((p1 &&& (127 : Int32)) + (1 : Int32)))])) _
  refine iremM X0 hx rfl (hb hby at_16) rfl (by decide) ?_
  show Steps p.tables e below (T0.setTop (mkF m 17 #[.val (.int p1), .val (.int p2), .val (.int p3), .val (.int p4), .val (.int (p1 &&& (127 : Int32))), .unset, .unset, .unset, .unset, .unset, .unset, .unset, .unset, .unset, .unset, .unset, .unset, .unset, .unset, .unset, .unset, .unset] [(.int ((p2 &&& (2147483647 : Int32)) % (127 : Int32))), (.int ((p1 &&& (127 : Int32)) + (1 : Int32)))])) _
  refine XS.iadd X0.here hx rfl (hb hby at_17) rfl ?_
  show Steps p.tables e below (T0.setTop (mkF m 18 #[.val (.int p1), .val (.int p2), .val (.int p3), .val (.int p4), .val (.int (p1 &&& (127 : Int32))), .unset, .unset, .unset, .unset, .unset, .unset, .unset, .unset, .unset, .unset, .unset, .unset, .unset, .unset, .unset, .unset, .unset] [(.int (((p1 &&& (127 : Int32)) + (1 : Int32)) + ((p2 &&& (2147483647 : Int32)) % (127 : Int32))))])) _
  refine XS.bipush X0.here hx rfl (hb hby at_18) ?_
  show Steps p.tables e below (T0.setTop (mkF m 20 #[.val (.int p1), .val (.int p2), .val (.int p3), .val (.int p4), .val (.int (p1 &&& (127 : Int32))), .unset, .unset, .unset, .unset, .unset, .unset, .unset, .unset, .unset, .unset, .unset, .unset, .unset, .unset, .unset, .unset, .unset] [(.int (127 : Int32)), (.int (((p1 &&& (127 : Int32)) + (1 : Int32)) + ((p2 &&& (2147483647 : Int32)) % (127 : Int32))))])) _
  refine XS.iand X0.here hx rfl (hb hby at_20) rfl ?_
  show Steps p.tables e below (T0.setTop (mkF m 21 #[.val (.int p1), .val (.int p2), .val (.int p3), .val (.int p4), .val (.int (p1 &&& (127 : Int32))), .unset, .unset, .unset, .unset, .unset, .unset, .unset, .unset, .unset, .unset, .unset, .unset, .unset, .unset, .unset, .unset, .unset] [(.int ((((p1 &&& (127 : Int32)) + (1 : Int32)) + ((p2 &&& (2147483647 : Int32)) % (127 : Int32))) &&& (127 : Int32)))])) _
  refine XS.istore X0.here hx rfl (hb hby at_21) rfl (l' := #[.val (.int p1), .val (.int p2), .val (.int p3), .val (.int p4), .val (.int (p1 &&& (127 : Int32))), .val (.int ((((p1 &&& (127 : Int32)) + (1 : Int32)) + ((p2 &&& (2147483647 : Int32)) % (127 : Int32))) &&& (127 : Int32))), .unset, .unset, .unset, .unset, .unset, .unset, .unset, .unset, .unset, .unset, .unset, .unset, .unset, .unset, .unset, .unset]) rfl ?_
  show Steps p.tables e below (T0.setTop (mkF m 23 #[.val (.int p1), .val (.int p2), .val (.int p3), .val (.int p4), .val (.int (p1 &&& (127 : Int32))), .val (.int ((((p1 &&& (127 : Int32)) + (1 : Int32)) + ((p2 &&& (2147483647 : Int32)) % (127 : Int32))) &&& (127 : Int32))), .unset, .unset, .unset, .unset, .unset, .unset, .unset, .unset, .unset, .unset, .unset, .unset, .unset, .unset, .unset, .unset] [])) _
  refine XS.iload X0.here hx rfl (hb hby at_23) rfl ?_
  show Steps p.tables e below (T0.setTop (mkF m 25 #[.val (.int p1), .val (.int p2), .val (.int p3), .val (.int p4), .val (.int (p1 &&& (127 : Int32))), .val (.int ((((p1 &&& (127 : Int32)) + (1 : Int32)) + ((p2 &&& (2147483647 : Int32)) % (127 : Int32))) &&& (127 : Int32))), .unset, .unset, .unset, .unset, .unset, .unset, .unset, .unset, .unset, .unset, .unset, .unset, .unset, .unset, .unset, .unset] [(.int (p1 &&& (127 : Int32)))])) _
  refine XS.iconst X0.here hx rfl (hb hby at_25) ?_
  show Steps p.tables e below (T0.setTop (mkF m 26 #[.val (.int p1), .val (.int p2), .val (.int p3), .val (.int p4), .val (.int (p1 &&& (127 : Int32))), .val (.int ((((p1 &&& (127 : Int32)) + (1 : Int32)) + ((p2 &&& (2147483647 : Int32)) % (127 : Int32))) &&& (127 : Int32))), .unset, .unset, .unset, .unset, .unset, .unset, .unset, .unset, .unset, .unset, .unset, .unset, .unset, .unset, .unset, .unset] [(.int (1 : Int32)), (.int (p1 &&& (127 : Int32)))])) _
  refine XS.iadd X0.here hx rfl (hb hby at_26) rfl ?_
  show Steps p.tables e below (T0.setTop (mkF m 27 #[.val (.int p1), .val (.int p2), .val (.int p3), .val (.int p4), .val (.int (p1 &&& (127 : Int32))), .val (.int ((((p1 &&& (127 : Int32)) + (1 : Int32)) + ((p2 &&& (2147483647 : Int32)) % (127 : Int32))) &&& (127 : Int32))), .unset, .unset, .unset, .unset, .unset, .unset, .unset, .unset, .unset, .unset, .unset, .unset, .unset, .unset, .unset, .unset] [(.int ((p1 &&& (127 : Int32)) + (1 : Int32)))])) _
  refine XS.iloadN X0.here hx rfl (hb hby at_27) rfl ?_
  show Steps p.tables e below (T0.setTop (mkF m 28 #[.val (.int p1), .val (.int p2), .val (.int p3), .val (.int p4), .val (.int (p1 &&& (127 : Int32))), .val (.int ((((p1 &&& (127 : Int32)) + (1 : Int32)) + ((p2 &&& (2147483647 : Int32)) % (127 : Int32))) &&& (127 : Int32))), .unset, .unset, .unset, .unset, .unset, .unset, .unset, .unset, .unset, .unset, .unset, .unset, .unset, .unset, .unset, .unset] [(.int p3), (.int ((p1 &&& (127 : Int32)) + (1 : Int32)))])) _
  refine X0.ldcInt hx hown (mvT hZ (hw _ (List.mem_of_getElem? (i := 0) rfl))) (g := (mkF m 28 #[.val (.int p1), .val (.int p2), .val (.int p3), .val (.int p4), .val (.int (p1 &&& (127 : Int32))), .val (.int ((((p1 &&& (127 : Int32)) + (1 : Int32)) + ((p2 &&& (2147483647 : Int32)) % (127 : Int32))) &&& (127 : Int32))), .unset, .unset, .unset, .unset, .unset, .unset, .unset, .unset, .unset, .unset, .unset, .unset, .unset, .unset, .unset, .unset] [(.int p3), (.int ((p1 &&& (127 : Int32)) + (1 : Int32)))])) rfl (hb hby at_28) _ ?_
  show Steps p.tables e below (T0.setTop (mkF m 30 #[.val (.int p1), .val (.int p2), .val (.int p3), .val (.int p4), .val (.int (p1 &&& (127 : Int32))), .val (.int ((((p1 &&& (127 : Int32)) + (1 : Int32)) + ((p2 &&& (2147483647 : Int32)) % (127 : Int32))) &&& (127 : Int32))), .unset, .unset, .unset, .unset, .unset, .unset, .unset, .unset, .unset, .unset, .unset, .unset, .unset, .unset, .unset, .unset] [(.int (2147483647 : Int32)), (.int p3), (.int ((p1 &&& (127 : Int32)) + (1 : Int32)))])) _
  refine XS.iand X0.here hx rfl (hb hby at_30) rfl ?_
  show Steps p.tables e below (T0.setTop (mkF m 31 #[.val (.int p1), .val (.int p2), .val (.int p3), .val (.int p4), .val (.int (p1 &&& (127 : Int32))), .val (.int ((((p1 &&& (127 : Int32)) + (1 : Int32)) + ((p2 &&& (2147483647 : Int32)) % (127 : Int32))) &&& (127 : Int32))), .unset, .unset, .unset, .unset, .unset, .unset, .unset, .unset, .unset, .unset, .unset, .unset, .unset, .unset, .unset, .unset] [(.int (p3 &&& (2147483647 : Int32))), (.int ((p1 &&& (127 : Int32)) + (1 : Int32)))])) _
  refine XS.bipush X0.here hx rfl (hb hby at_31) ?_
  show Steps p.tables e below (T0.setTop (mkF m 33 #[.val (.int p1), .val (.int p2), .val (.int p3), .val (.int p4), .val (.int (p1 &&& (127 : Int32))), .val (.int ((((p1 &&& (127 : Int32)) + (1 : Int32)) + ((p2 &&& (2147483647 : Int32)) % (127 : Int32))) &&& (127 : Int32))), .unset, .unset, .unset, .unset, .unset, .unset, .unset, .unset, .unset, .unset, .unset, .unset, .unset, .unset, .unset, .unset] [(.int (126 : Int32)), (.int (p3 &&& (2147483647 : Int32))), (.int ((p1 &&& (127 : Int32)) + (1 : Int32)))])) _
  refine iremM X0 hx rfl (hb hby at_33) rfl (by decide) ?_
  show Steps p.tables e below (T0.setTop (mkF m 34 #[.val (.int p1), .val (.int p2), .val (.int p3), .val (.int p4), .val (.int (p1 &&& (127 : Int32))), .val (.int ((((p1 &&& (127 : Int32)) + (1 : Int32)) + ((p2 &&& (2147483647 : Int32)) % (127 : Int32))) &&& (127 : Int32))), .unset, .unset, .unset, .unset, .unset, .unset, .unset, .unset, .unset, .unset, .unset, .unset, .unset, .unset, .unset, .unset] [(.int ((p3 &&& (2147483647 : Int32)) % (126 : Int32))), (.int ((p1 &&& (127 : Int32)) + (1 : Int32)))])) _
  refine XS.iadd X0.here hx rfl (hb hby at_34) rfl ?_
  show Steps p.tables e below (T0.setTop (mkF m 35 #[.val (.int p1), .val (.int p2), .val (.int p3), .val (.int p4), .val (.int (p1 &&& (127 : Int32))), .val (.int ((((p1 &&& (127 : Int32)) + (1 : Int32)) + ((p2 &&& (2147483647 : Int32)) % (127 : Int32))) &&& (127 : Int32))), .unset, .unset, .unset, .unset, .unset, .unset, .unset, .unset, .unset, .unset, .unset, .unset, .unset, .unset, .unset, .unset] [(.int (((p1 &&& (127 : Int32)) + (1 : Int32)) + ((p3 &&& (2147483647 : Int32)) % (126 : Int32))))])) _
  refine XS.bipush X0.here hx rfl (hb hby at_35) ?_
  show Steps p.tables e below (T0.setTop (mkF m 37 #[.val (.int p1), .val (.int p2), .val (.int p3), .val (.int p4), .val (.int (p1 &&& (127 : Int32))), .val (.int ((((p1 &&& (127 : Int32)) + (1 : Int32)) + ((p2 &&& (2147483647 : Int32)) % (127 : Int32))) &&& (127 : Int32))), .unset, .unset, .unset, .unset, .unset, .unset, .unset, .unset, .unset, .unset, .unset, .unset, .unset, .unset, .unset, .unset] [(.int (127 : Int32)), (.int (((p1 &&& (127 : Int32)) + (1 : Int32)) + ((p3 &&& (2147483647 : Int32)) % (126 : Int32))))])) _
  refine XS.iand X0.here hx rfl (hb hby at_37) rfl ?_
  show Steps p.tables e below (T0.setTop (mkF m 38 #[.val (.int p1), .val (.int p2), .val (.int p3), .val (.int p4), .val (.int (p1 &&& (127 : Int32))), .val (.int ((((p1 &&& (127 : Int32)) + (1 : Int32)) + ((p2 &&& (2147483647 : Int32)) % (127 : Int32))) &&& (127 : Int32))), .unset, .unset, .unset, .unset, .unset, .unset, .unset, .unset, .unset, .unset, .unset, .unset, .unset, .unset, .unset, .unset] [(.int ((((p1 &&& (127 : Int32)) + (1 : Int32)) + ((p3 &&& (2147483647 : Int32)) % (126 : Int32))) &&& (127 : Int32)))])) _
  refine XS.istore X0.here hx rfl (hb hby at_38) rfl (l' := #[.val (.int p1), .val (.int p2), .val (.int p3), .val (.int p4), .val (.int (p1 &&& (127 : Int32))), .val (.int ((((p1 &&& (127 : Int32)) + (1 : Int32)) + ((p2 &&& (2147483647 : Int32)) % (127 : Int32))) &&& (127 : Int32))), .val (.int ((((p1 &&& (127 : Int32)) + (1 : Int32)) + ((p3 &&& (2147483647 : Int32)) % (126 : Int32))) &&& (127 : Int32))), .unset, .unset, .unset, .unset, .unset, .unset, .unset, .unset, .unset, .unset, .unset, .unset, .unset, .unset, .unset]) rfl ?_
  show Steps p.tables e below (T0.setTop (mkF m 40 #[.val (.int p1), .val (.int p2), .val (.int p3), .val (.int p4), .val (.int (p1 &&& (127 : Int32))), .val (.int ((((p1 &&& (127 : Int32)) + (1 : Int32)) + ((p2 &&& (2147483647 : Int32)) % (127 : Int32))) &&& (127 : Int32))), .val (.int ((((p1 &&& (127 : Int32)) + (1 : Int32)) + ((p3 &&& (2147483647 : Int32)) % (126 : Int32))) &&& (127 : Int32))), .unset, .unset, .unset, .unset, .unset, .unset, .unset, .unset, .unset, .unset, .unset, .unset, .unset, .unset, .unset] [])) _
  exact kt
set_option maxRecDepth 65536 in
set_option maxHeartbeats 40000000 in
theorem pB1 {p : Program} {l : Launch} {e : Env} {s : State} {m : MethodId} {args : Array Value} {below : List Frame} {meth : Method} {c : Code} {T0 : State} {locs : List Loc} {Z : State} {a0 : Array Value} {h0 : Heap} {n0 : Nat} (p1 : Int32) (p2 : Int32) (p3 : Int32) (p4 : Int32) (c0 : Int32) (c1 : Int32) (c2 : Int32)
    (X0 : Stand p l e room_1 s m args below meth c T0 locs 0 0) (hx : p.tables.exec = Jvm.exec) (hZ : Z.Warmed39 s.vm) (hw : ∀ d ∈ tables_1, d.before a0 Z = true) (hby : c.code = code) (hml : c.maxLocals = 22) (hown : s.vm.findClass "com/example/caprice/caprice/solver/DomainsRestorePinLaw" = some m.cls) (e0 : T0.heap = h0) (N0 : Fr n0 locs) (O0 : Old Z n0 h0) (hd0 : c2 = c1) :
    ∃ (T' : State) (locs' : List Loc), Stand p l e room_1 s m args below meth c T' locs' 0 0 ∧ Fr n0 locs' ∧ T'.heap = h0 ∧ ∀ t, Steps p.tables e below (T'.setTop (mkF m 57 #[.val (.int p1), .val (.int p2), .val (.int p3), .val (.int p4), .val (.int c0), .val (.int c1), .val (.int ((c0 + (127 : Int32)) &&& (127 : Int32))), .unset, .unset, .unset, .unset, .unset, .unset, .unset, .unset, .unset, .unset, .unset, .unset, .unset, .unset, .unset] [])) t → Steps p.tables e below (T0.setTop (mkF m 40 #[.val (.int p1), .val (.int p2), .val (.int p3), .val (.int p4), .val (.int c0), .val (.int c1), .val (.int c2), .unset, .unset, .unset, .unset, .unset, .unset, .unset, .unset, .unset, .unset, .unset, .unset, .unset, .unset, .unset] [])) t := by
  refine ⟨T0, _, X0, N0, e0, fun t kt => ?_⟩
  show Steps p.tables e below (T0.setTop (mkF m 40 #[.val (.int p1), .val (.int p2), .val (.int p3), .val (.int p4), .val (.int c0), .val (.int c1), .val (.int c2), .unset, .unset, .unset, .unset, .unset, .unset, .unset, .unset, .unset, .unset, .unset, .unset, .unset, .unset, .unset] [])) _
  refine XS.iload X0.here hx rfl (hb hby at_40) rfl ?_
  show Steps p.tables e below (T0.setTop (mkF m 42 #[.val (.int p1), .val (.int p2), .val (.int p3), .val (.int p4), .val (.int c0), .val (.int c1), .val (.int c2), .unset, .unset, .unset, .unset, .unset, .unset, .unset, .unset, .unset, .unset, .unset, .unset, .unset, .unset, .unset] [(.int c2)])) _
  refine XS.iload X0.here hx rfl (hb hby at_42) rfl ?_
  show Steps p.tables e below (T0.setTop (mkF m 44 #[.val (.int p1), .val (.int p2), .val (.int p3), .val (.int p4), .val (.int c0), .val (.int c1), .val (.int c2), .unset, .unset, .unset, .unset, .unset, .unset, .unset, .unset, .unset, .unset, .unset, .unset, .unset, .unset, .unset] [(.int c1), (.int c2)])) _
  refine XS.icmpNo X0.here hx rfl (hb hby at_44) rfl (teq hd0).2 ?_
  show Steps p.tables e below (T0.setTop (mkF m 47 #[.val (.int p1), .val (.int p2), .val (.int p3), .val (.int p4), .val (.int c0), .val (.int c1), .val (.int c2), .unset, .unset, .unset, .unset, .unset, .unset, .unset, .unset, .unset, .unset, .unset, .unset, .unset, .unset, .unset] [])) _
  refine XS.iload X0.here hx rfl (hb hby at_47) rfl ?_
  show Steps p.tables e below (T0.setTop (mkF m 49 #[.val (.int p1), .val (.int p2), .val (.int p3), .val (.int p4), .val (.int c0), .val (.int c1), .val (.int c2), .unset, .unset, .unset, .unset, .unset, .unset, .unset, .unset, .unset, .unset, .unset, .unset, .unset, .unset, .unset] [(.int c0)])) _
  refine XS.bipush X0.here hx rfl (hb hby at_49) ?_
  show Steps p.tables e below (T0.setTop (mkF m 51 #[.val (.int p1), .val (.int p2), .val (.int p3), .val (.int p4), .val (.int c0), .val (.int c1), .val (.int c2), .unset, .unset, .unset, .unset, .unset, .unset, .unset, .unset, .unset, .unset, .unset, .unset, .unset, .unset, .unset] [(.int (127 : Int32)), (.int c0)])) _
  refine XS.iadd X0.here hx rfl (hb hby at_51) rfl ?_
  show Steps p.tables e below (T0.setTop (mkF m 52 #[.val (.int p1), .val (.int p2), .val (.int p3), .val (.int p4), .val (.int c0), .val (.int c1), .val (.int c2), .unset, .unset, .unset, .unset, .unset, .unset, .unset, .unset, .unset, .unset, .unset, .unset, .unset, .unset, .unset] [(.int (c0 + (127 : Int32)))])) _
  refine XS.bipush X0.here hx rfl (hb hby at_52) ?_
  show Steps p.tables e below (T0.setTop (mkF m 54 #[.val (.int p1), .val (.int p2), .val (.int p3), .val (.int p4), .val (.int c0), .val (.int c1), .val (.int c2), .unset, .unset, .unset, .unset, .unset, .unset, .unset, .unset, .unset, .unset, .unset, .unset, .unset, .unset, .unset] [(.int (127 : Int32)), (.int (c0 + (127 : Int32)))])) _
  refine XS.iand X0.here hx rfl (hb hby at_54) rfl ?_
  show Steps p.tables e below (T0.setTop (mkF m 55 #[.val (.int p1), .val (.int p2), .val (.int p3), .val (.int p4), .val (.int c0), .val (.int c1), .val (.int c2), .unset, .unset, .unset, .unset, .unset, .unset, .unset, .unset, .unset, .unset, .unset, .unset, .unset, .unset, .unset] [(.int ((c0 + (127 : Int32)) &&& (127 : Int32)))])) _
  refine XS.istore X0.here hx rfl (hb hby at_55) rfl (l' := #[.val (.int p1), .val (.int p2), .val (.int p3), .val (.int p4), .val (.int c0), .val (.int c1), .val (.int ((c0 + (127 : Int32)) &&& (127 : Int32))), .unset, .unset, .unset, .unset, .unset, .unset, .unset, .unset, .unset, .unset, .unset, .unset, .unset, .unset, .unset]) rfl ?_
  show Steps p.tables e below (T0.setTop (mkF m 57 #[.val (.int p1), .val (.int p2), .val (.int p3), .val (.int p4), .val (.int c0), .val (.int c1), .val (.int ((c0 + (127 : Int32)) &&& (127 : Int32))), .unset, .unset, .unset, .unset, .unset, .unset, .unset, .unset, .unset, .unset, .unset, .unset, .unset, .unset, .unset] [])) _
  exact kt
set_option maxRecDepth 65536 in
set_option maxHeartbeats 40000000 in
theorem pB0 {p : Program} {l : Launch} {e : Env} {s : State} {m : MethodId} {args : Array Value} {below : List Frame} {meth : Method} {c : Code} {T0 : State} {locs : List Loc} {Z : State} {a0 : Array Value} {h0 : Heap} {n0 : Nat} (p1 : Int32) (p2 : Int32) (p3 : Int32) (p4 : Int32) (c0 : Int32) (c1 : Int32) (c2 : Int32)
    (X0 : Stand p l e room_1 s m args below meth c T0 locs 0 0) (hx : p.tables.exec = Jvm.exec) (hZ : Z.Warmed39 s.vm) (hw : ∀ d ∈ tables_1, d.before a0 Z = true) (hby : c.code = code) (hml : c.maxLocals = 22) (hown : s.vm.findClass "com/example/caprice/caprice/solver/DomainsRestorePinLaw" = some m.cls) (e0 : T0.heap = h0) (N0 : Fr n0 locs) (O0 : Old Z n0 h0) (hd0 : ¬ (c2 = c1)) :
    ∃ (T' : State) (locs' : List Loc), Stand p l e room_1 s m args below meth c T' locs' 0 0 ∧ Fr n0 locs' ∧ T'.heap = h0 ∧ ∀ t, Steps p.tables e below (T'.setTop (mkF m 57 #[.val (.int p1), .val (.int p2), .val (.int p3), .val (.int p4), .val (.int c0), .val (.int c1), .val (.int c2), .unset, .unset, .unset, .unset, .unset, .unset, .unset, .unset, .unset, .unset, .unset, .unset, .unset, .unset, .unset] [])) t → Steps p.tables e below (T0.setTop (mkF m 40 #[.val (.int p1), .val (.int p2), .val (.int p3), .val (.int p4), .val (.int c0), .val (.int c1), .val (.int c2), .unset, .unset, .unset, .unset, .unset, .unset, .unset, .unset, .unset, .unset, .unset, .unset, .unset, .unset, .unset] [])) t := by
  refine ⟨T0, _, X0, N0, e0, fun t kt => ?_⟩
  show Steps p.tables e below (T0.setTop (mkF m 40 #[.val (.int p1), .val (.int p2), .val (.int p3), .val (.int p4), .val (.int c0), .val (.int c1), .val (.int c2), .unset, .unset, .unset, .unset, .unset, .unset, .unset, .unset, .unset, .unset, .unset, .unset, .unset, .unset, .unset] [])) _
  refine XS.iload X0.here hx rfl (hb hby at_40) rfl ?_
  show Steps p.tables e below (T0.setTop (mkF m 42 #[.val (.int p1), .val (.int p2), .val (.int p3), .val (.int p4), .val (.int c0), .val (.int c1), .val (.int c2), .unset, .unset, .unset, .unset, .unset, .unset, .unset, .unset, .unset, .unset, .unset, .unset, .unset, .unset, .unset] [(.int c2)])) _
  refine XS.iload X0.here hx rfl (hb hby at_42) rfl ?_
  show Steps p.tables e below (T0.setTop (mkF m 44 #[.val (.int p1), .val (.int p2), .val (.int p3), .val (.int p4), .val (.int c0), .val (.int c1), .val (.int c2), .unset, .unset, .unset, .unset, .unset, .unset, .unset, .unset, .unset, .unset, .unset, .unset, .unset, .unset, .unset] [(.int c1), (.int c2)])) _
  refine XS.icmpYes X0.here hx rfl (pc0 := 44) (pc' := 57) rfl (hb hby at_44) rfl (feq hd0).2 (by decide) (by decide) ?_
  show Steps p.tables e below (T0.setTop (mkF m 57 #[.val (.int p1), .val (.int p2), .val (.int p3), .val (.int p4), .val (.int c0), .val (.int c1), .val (.int c2), .unset, .unset, .unset, .unset, .unset, .unset, .unset, .unset, .unset, .unset, .unset, .unset, .unset, .unset, .unset] [])) _
  exact kt
set_option maxRecDepth 65536 in
set_option maxHeartbeats 40000000 in
theorem pC {p : Program} {l : Launch} {e : Env} {s : State} {m : MethodId} {args : Array Value} {below : List Frame} {meth : Method} {c : Code} {T0 : State} {locs : List Loc} {Z : State} {a0 : Array Value} {h0 : Heap} {n0 : Nat} (p1 : Int32) (p2 : Int32) (p3 : Int32) (p4 : Int32) (c0 : Int32) (c1 : Int32) (c2 : Int32)
    (X0 : Stand p l e room_1 s m args below meth c T0 locs 0 0) (hx : p.tables.exec = Jvm.exec) (hZ : Z.Warmed39 s.vm) (hw : ∀ d ∈ tables_1, d.before a0 Z = true) (hby : c.code = code) (hml : c.maxLocals = 22) (hown : s.vm.findClass "com/example/caprice/caprice/solver/DomainsRestorePinLaw" = some m.cls) (e0 : T0.heap = h0) (N0 : Fr n0 locs) (O0 : Old Z n0 h0) :
    ∃ (T' : State) (locs' : List Loc), Stand p l e room_1 s m args below meth c T' locs' 0 0 ∧ Fr n0 locs' ∧ T'.heap = h0 ∧ ∀ t, Steps p.tables e below (T'.setTop (mkF m 69 #[.val (.int p1), .val (.int p2), .val (.int p3), .val (.int p4), .val (.int c0), .val (.int c1), .val (.int c2), .val (.int (p4 &&& (3 : Int32))), .unset, .unset, .unset, .unset, .unset, .unset, .unset, .unset, .unset, .unset, .unset, .unset, .unset, .unset] [(.int (p4 &&& (3 : Int32))), (.int (((p4.toUInt32 >>> ((2 : Int32) &&& 31).toUInt32).toInt32) &&& (3 : Int32)))])) t → Steps p.tables e below (T0.setTop (mkF m 57 #[.val (.int p1), .val (.int p2), .val (.int p3), .val (.int p4), .val (.int c0), .val (.int c1), .val (.int c2), .unset, .unset, .unset, .unset, .unset, .unset, .unset, .unset, .unset, .unset, .unset, .unset, .unset, .unset, .unset] [])) t := by
  refine ⟨T0, _, X0, N0, e0, fun t kt => ?_⟩
  show Steps p.tables e below (T0.setTop (mkF m 57 #[.val (.int p1), .val (.int p2), .val (.int p3), .val (.int p4), .val (.int c0), .val (.int c1), .val (.int c2), .unset, .unset, .unset, .unset, .unset, .unset, .unset, .unset, .unset, .unset, .unset, .unset, .unset, .unset, .unset] [])) _
  refine XS.iloadN X0.here hx rfl (hb hby at_57) rfl ?_
  show Steps p.tables e below (T0.setTop (mkF m 58 #[.val (.int p1), .val (.int p2), .val (.int p3), .val (.int p4), .val (.int c0), .val (.int c1), .val (.int c2), .unset, .unset, .unset, .unset, .unset, .unset, .unset, .unset, .unset, .unset, .unset, .unset, .unset, .unset, .unset] [(.int p4)])) _
  refine XS.iconst X0.here hx rfl (hb hby at_58) ?_
  show Steps p.tables e below (T0.setTop (mkF m 59 #[.val (.int p1), .val (.int p2), .val (.int p3), .val (.int p4), .val (.int c0), .val (.int c1), .val (.int c2), .unset, .unset, .unset, .unset, .unset, .unset, .unset, .unset, .unset, .unset, .unset, .unset, .unset, .unset, .unset] [(.int (3 : Int32)), (.int p4)])) _
  refine XS.iand X0.here hx rfl (hb hby at_59) rfl ?_
  show Steps p.tables e below (T0.setTop (mkF m 60 #[.val (.int p1), .val (.int p2), .val (.int p3), .val (.int p4), .val (.int c0), .val (.int c1), .val (.int c2), .unset, .unset, .unset, .unset, .unset, .unset, .unset, .unset, .unset, .unset, .unset, .unset, .unset, .unset, .unset] [(.int (p4 &&& (3 : Int32)))])) _
  refine XS.istore X0.here hx rfl (hb hby at_60) rfl (l' := #[.val (.int p1), .val (.int p2), .val (.int p3), .val (.int p4), .val (.int c0), .val (.int c1), .val (.int c2), .val (.int (p4 &&& (3 : Int32))), .unset, .unset, .unset, .unset, .unset, .unset, .unset, .unset, .unset, .unset, .unset, .unset, .unset, .unset]) rfl ?_
  show Steps p.tables e below (T0.setTop (mkF m 62 #[.val (.int p1), .val (.int p2), .val (.int p3), .val (.int p4), .val (.int c0), .val (.int c1), .val (.int c2), .val (.int (p4 &&& (3 : Int32))), .unset, .unset, .unset, .unset, .unset, .unset, .unset, .unset, .unset, .unset, .unset, .unset, .unset, .unset] [])) _
  refine XS.iloadN X0.here hx rfl (hb hby at_62) rfl ?_
  show Steps p.tables e below (T0.setTop (mkF m 63 #[.val (.int p1), .val (.int p2), .val (.int p3), .val (.int p4), .val (.int c0), .val (.int c1), .val (.int c2), .val (.int (p4 &&& (3 : Int32))), .unset, .unset, .unset, .unset, .unset, .unset, .unset, .unset, .unset, .unset, .unset, .unset, .unset, .unset] [(.int p4)])) _
  refine XS.iconst X0.here hx rfl (hb hby at_63) ?_
  show Steps p.tables e below (T0.setTop (mkF m 64 #[.val (.int p1), .val (.int p2), .val (.int p3), .val (.int p4), .val (.int c0), .val (.int c1), .val (.int c2), .val (.int (p4 &&& (3 : Int32))), .unset, .unset, .unset, .unset, .unset, .unset, .unset, .unset, .unset, .unset, .unset, .unset, .unset, .unset] [(.int (2 : Int32)), (.int p4)])) _
  refine XS.iushr X0.here hx rfl (hb hby at_64) rfl ?_
  show Steps p.tables e below (T0.setTop (mkF m 65 #[.val (.int p1), .val (.int p2), .val (.int p3), .val (.int p4), .val (.int c0), .val (.int c1), .val (.int c2), .val (.int (p4 &&& (3 : Int32))), .unset, .unset, .unset, .unset, .unset, .unset, .unset, .unset, .unset, .unset, .unset, .unset, .unset, .unset] [(.int ((p4.toUInt32 >>> ((2 : Int32) &&& 31).toUInt32).toInt32))])) _
  refine XS.iconst X0.here hx rfl (hb hby at_65) ?_
  show Steps p.tables e below (T0.setTop (mkF m 66 #[.val (.int p1), .val (.int p2), .val (.int p3), .val (.int p4), .val (.int c0), .val (.int c1), .val (.int c2), .val (.int (p4 &&& (3 : Int32))), .unset, .unset, .unset, .unset, .unset, .unset, .unset, .unset, .unset, .unset, .unset, .unset, .unset, .unset] [(.int (3 : Int32)), (.int ((p4.toUInt32 >>> ((2 : Int32) &&& 31).toUInt32).toInt32))])) _
  refine XS.iand X0.here hx rfl (hb hby at_66) rfl ?_
  show Steps p.tables e below (T0.setTop (mkF m 67 #[.val (.int p1), .val (.int p2), .val (.int p3), .val (.int p4), .val (.int c0), .val (.int c1), .val (.int c2), .val (.int (p4 &&& (3 : Int32))), .unset, .unset, .unset, .unset, .unset, .unset, .unset, .unset, .unset, .unset, .unset, .unset, .unset, .unset] [(.int (((p4.toUInt32 >>> ((2 : Int32) &&& 31).toUInt32).toInt32) &&& (3 : Int32)))])) _
  refine XS.iload X0.here hx rfl (hb hby at_67) rfl ?_
  show Steps p.tables e below (T0.setTop (mkF m 69 #[.val (.int p1), .val (.int p2), .val (.int p3), .val (.int p4), .val (.int c0), .val (.int c1), .val (.int c2), .val (.int (p4 &&& (3 : Int32))), .unset, .unset, .unset, .unset, .unset, .unset, .unset, .unset, .unset, .unset, .unset, .unset, .unset, .unset] [(.int (p4 &&& (3 : Int32))), (.int (((p4.toUInt32 >>> ((2 : Int32) &&& 31).toUInt32).toInt32) &&& (3 : Int32)))])) _
  exact kt
theorem pd279 : parseMethodDescriptor "(II)I" = some ⟨[.int, .int], some .int⟩ := by decide +kernel
set_option maxRecDepth 65536 in
set_option maxHeartbeats 4000000 in
theorem cMin {p : Program} {l : Launch} {e : Env} {s : State} {m : MethodId} {args : Array Value} {below : List Frame} {meth : Method} {c : Code} {T0 : State} {locs : List Loc} {cells slots : Nat} {Z : State} {a0 : Array Value} {h0 : Heap} {Ls : Array Slot} (x0 : Int32) (x1 : Int32)
    (X0 : Stand p l e room_1 s m args below meth c T0 locs cells slots) (hx : p.tables.exec = Jvm.exec) (hZ : Z.Warmed39 s.vm) (hw : ∀ d ∈ tables_1, d.before a0 Z = true) (hby : c.code = code) (hml : c.maxLocals = 22) (hown : s.vm.findClass "com/example/caprice/caprice/solver/DomainsRestorePinLaw" = some m.cls) (e0 : T0.heap = h0) (hsz : Ls.size = 22) {rm : Room} {Q : Option Value → Heap → List Loc → Prop}
    (M : MetFree l (⟨"java/lang/Math", "min", "(II)I"⟩ : MethodName) (head1 [Jvm.Cond.code (⟨"java/lang/Math", "min", "(II)I"⟩ : MethodName) jdk_29_method_69_code 2 (some .int)] rm) (fun a U => a = #[(.int x0), (.int x1)] ∧ Z.Warmed39 U.vm ∧ U.heap = h0) (fun _ _ _ _ _ => True) (fun _ U o U' => ∃ v L, o = .returned v ∧ Q v U'.heap L ∧ FrameEnd U o U' L rm.cells rm.slots)) (hfr : rm.frames + 1 ≤ room_1.frames) (hlo : 0 + (2 + 11) + rm.locals ≤ room_1.locals) (hce : cells + rm.cells ≤ room_1.cells) (hsl : slots + rm.slots ≤ room_1.slots) :
    ∃ (T' : State) (v : Option Value) (L : List Loc), Stand p l e room_1 s m args below meth c T' (locs ++ L) (cells + rm.cells) (slots + rm.slots) ∧ Q v T'.heap L ∧ ∀ t, Steps p.tables e below (T'.setTop (mkF m 72 Ls (v.toList ++ []))) t → Steps p.tables e below (T0.setTop (mkF m 69 Ls [(.int x1), (.int x0)])) t := by
  obtain ⟨v, _, ⟨T1, L1, k1, n1⟩, -, X1, ⟨Lc, hQ, l1, y1, z1⟩, st⟩ := Jvm.LawKit.callS X0 hx (y := (⟨"java/lang/Math", "min", "(II)I"⟩ : MethodName)) hown (mvT hZ (hw _ (List.mem_of_getElem? (i := 1) rfl))) (mvT hZ (hw _ (List.mem_of_getElem? (i := 2) rfl))) (mvT hZ (hw _ (List.mem_of_getElem? (i := 3) rfl))) (mvT hZ (hw _ (List.mem_of_getElem? (i := 4) rfl))) (by decide) (backOf (W := 0) M hZ (hw _ (List.mem_of_getElem? (i := 4) rfl)) (hw _ (List.mem_of_getElem? (i := 3) rfl)) hfr hlo) (g := (mkF m 69 Ls [(.int x1), (.int x0)])) rfl (by rw [hml]; exact hsz) (argsL := [(.int x0), (.int x1)]) (rest := []) (lenOf pd279 rfl) rfl (by show 2 * 0 + _ ≤ _; exact Nat.le_of_eq rfl) (hb hby at_69) (fun _ _ => ⟨rfl, e0, hce, hsl⟩)
  dsimp only [Pt.U, Pt.locs, Pt.cells, Pt.slots] at X1 l1 y1 z1 st hQ
  subst l1 y1 z1
  exact ⟨T1, v, Lc, X1, hQ, fun t kt => st t kt⟩
set_option maxRecDepth 65536 in
set_option maxHeartbeats 40000000 in
theorem pD {p : Program} {l : Launch} {e : Env} {s : State} {m : MethodId} {args : Array Value} {below : List Frame} {meth : Method} {c : Code} {T0 : State} {locs : List Loc} {Z : State} {a0 : Array Value} {h0 : Heap} {n0 : Nat} (p1 : Int32) (p2 : Int32) (p3 : Int32) (p4 : Int32) (c0 : Int32) (c1 : Int32) (c2 : Int32) (nn : Int32) (jj : Int32)
    (X0 : Stand p l e room_1 s m args below meth c T0 locs 0 0) (hx : p.tables.exec = Jvm.exec) (hZ : Z.Warmed39 s.vm) (hw : ∀ d ∈ tables_1, d.before a0 Z = true) (hby : c.code = code) (hml : c.maxLocals = 22) (hown : s.vm.findClass "com/example/caprice/caprice/solver/DomainsRestorePinLaw" = some m.cls) (e0 : T0.heap = h0) (N0 : Fr n0 locs) (O0 : Old Z n0 h0) :
    ∃ (T' : State) (locs' : List Loc) (b1 : Addr) (b2 : Addr) (kk_b2 : ClassId), Stand p l e room_1 s m args below meth c T' locs' 2 10 ∧ Fr n0 locs' ∧ Keep h0 T'.heap [] ∧ Old Z n0 T'.heap ∧ h0.size ≤ b1 ∧ h0.size ≤ b2 ∧ b1 < b2 ∧ Arv Z T'.heap b2 kk_b2 .int (2 : Int32) [(.int (64 : Int32)), (.int (64 : Int32))] (.int (0 : Int32)) ∧ Exa Z T'.heap b2 "[I" ∧ Exa Z T'.heap b1 "com/example/caprice/caprice/solver/Domains" ∧ Fld Z T'.heap b1 "com/example/caprice/caprice/solver/Domains" "reasons" "[[[I" .null ∧ Fld Z T'.heap b1 "com/example/caprice/caprice/solver/Domains" "left" "[I" .null ∧ Fld Z T'.heap b1 "com/example/caprice/caprice/solver/Domains" "leftMasks" "[J" .null ∧ Fld Z T'.heap b1 "com/example/caprice/caprice/solver/Domains" "trail" "[I" .null ∧ Fld Z T'.heap b1 "com/example/caprice/caprice/solver/Domains" "gathered" "[I" .null ∧ Fld Z T'.heap b1 "com/example/caprice/caprice/solver/Domains" "marked" "[Z" .null ∧ Fld Z T'.heap b1 "com/example/caprice/caprice/solver/Domains" "trailSize" "I" (.int (0 : Int32)) ∧ True ∧ ∀ t, Steps p.tables e below (T'.setTop (mkF m 91 #[.val (.int p1), .val (.int p2), .val (.int p3), .val (.int p4), .val (.int c0), .val (.int c1), .val (.int c2), .val (.int nn), .val (.int jj), .unset, .unset, .unset, .unset, .unset, .unset, .unset, .unset, .unset, .unset, .unset, .unset, .unset] [(.ref b2), (.ref b1), (.ref b1)])) t → Steps p.tables e below (T0.setTop (mkF m 72 #[.val (.int p1), .val (.int p2), .val (.int p3), .val (.int p4), .val (.int c0), .val (.int c1), .val (.int c2), .val (.int nn), .unset, .unset, .unset, .unset, .unset, .unset, .unset, .unset, .unset, .unset, .unset, .unset, .unset, .unset] [(.int jj)])) t := by
  obtain ⟨T1, h1, X1, e1, E1, A1, D1, -, st1⟩ := newO X0 hx hZ hown (hw _ (List.mem_of_getElem? (i := 5) rfl)) (hw _ (List.mem_of_getElem? (i := 6) rfl)) (hw _ (List.mem_of_getElem? (i := 7) rfl)) e0 (g := (mkF m 74 #[.val (.int p1), .val (.int p2), .val (.int p3), .val (.int p4), .val (.int c0), .val (.int c1), .val (.int c2), .val (.int nn), .val (.int jj), .unset, .unset, .unset, .unset, .unset, .unset, .unset, .unset, .unset, .unset, .unset, .unset, .unset] [])) rfl (hb hby at_74) (by decide) (by decide)
  obtain ⟨b1, gg1⟩ : ∃ z, z = h0.size := ⟨_, rfl⟩
  rw [← gg1] at A1 D1 st1
  have bo_b1 : h0.size ≤ b1 := Nat.le_of_eq gg1.symm
  have g_b1 : n0 ≤ b1 := Nat.le_trans (own_n0 O0) bo_b1
  have sz_b1 : h0.size ≤ b1 := Nat.le_trans (Keep.refl h0 []).1 bo_b1
  have KK1 : Keep h0 h1 [] := (Keep.refl h0 []).ext E1
  have O1 := O0.ext E1
  have lb_b1 : b1 < h1.size := A1.lt
  have F_reasons_b1 : Fld Z h1 b1 "com/example/caprice/caprice/solver/Domains" "reasons" "[[[I" .null := D1 (Or.inr (hw _ (List.mem_of_getElem? (i := 18) rfl))) (ty := (.array (.array (.array .int)))) (by decide)
  have F_left_b1 : Fld Z h1 b1 "com/example/caprice/caprice/solver/Domains" "left" "[I" .null := D1 (Or.inr (hw _ (List.mem_of_getElem? (i := 20) rfl))) (ty := (.array .int)) (by decide)
  have F_leftMasks_b1 : Fld Z h1 b1 "com/example/caprice/caprice/solver/Domains" "leftMasks" "[J" .null := D1 (Or.inr (hw _ (List.mem_of_getElem? (i := 23) rfl))) (ty := (.array .long)) (by decide)
  have F_trail_b1 : Fld Z h1 b1 "com/example/caprice/caprice/solver/Domains" "trail" "[I" .null := D1 (Or.inr (hw _ (List.mem_of_getElem? (i := 32) rfl))) (ty := (.array .int)) (by decide)
  have F_gathered_b1 : Fld Z h1 b1 "com/example/caprice/caprice/solver/Domains" "gathered" "[I" .null := D1 (Or.inr (hw _ (List.mem_of_getElem? (i := 34) rfl))) (ty := (.array .int)) (by decide)
  have F_marked_b1 : Fld Z h1 b1 "com/example/caprice/caprice/solver/Domains" "marked" "[Z" .null := D1 (Or.inr (hw _ (List.mem_of_getElem? (i := 37) rfl))) (ty := (.array .boolean)) (by decide)
  have F_trailSize_b1 : Fld Z h1 b1 "com/example/caprice/caprice/solver/Domains" "trailSize" "I" (.int (0 : Int32)) := D1 (Or.inl (hw _ (List.mem_of_getElem? (i := 44) rfl))) (ty := .int) (by decide)
  obtain ⟨T2, h2, k2, X2, e2, E2, A2, B2, st2⟩ := newPE X1 hx hZ (hw _ (List.mem_of_getElem? (i := 8) rfl)) e1 (g := (mkF m 79 #[.val (.int p1), .val (.int p2), .val (.int p3), .val (.int p4), .val (.int c0), .val (.int c1), .val (.int c2), .val (.int nn), .val (.int jj), .unset, .unset, .unset, .unset, .unset, .unset, .unset, .unset, .unset, .unset, .unset, .unset, .unset] [(.int (2 : Int32)), (.ref b1), (.ref b1)])) rfl (hb hby at_79) rfl (by decide) (cap := 2) (by decide) (by decide) (by decide) (by decide) (ad := "[I") (by decide)
  obtain ⟨b2, gg2⟩ : ∃ z, z = h1.size := ⟨_, rfl⟩
  rw [← gg2] at A2 B2 st2
  have bo_b2 : h1.size ≤ b2 := Nat.le_of_eq gg2.symm
  have g_b2 : n0 ≤ b2 := Nat.le_trans (own_n0 O1) bo_b2
  have sz_b2 : h0.size ≤ b2 := Nat.le_trans KK1.1 bo_b2
  have V_b2 : Arv Z h2 b2 k2 .int (2 : Int32) [(.int (0 : Int32)), (.int (0 : Int32))] (.int (0 : Int32)) := (Arv.new A2 (by decide)).pad (pad_rep [] (.int (0 : Int32)) 2)
  have lb_b2 : b2 < h2.size := A2.lt
  have KK2 : Keep h0 h2 [] := KK1.ext E2
  have O2 := O1.ext E2
  obtain ⟨ac3, aA3, aq3, aS3, aN3, aH3, aG3⟩ := id V_b2
  obtain ⟨T4, h4, X4, e4, W4, st4⟩ := stI X2 hx hZ e2 aA3 (j := (0 : Int32)) (inb_of aS3 ⟨by decide, by decide⟩) (g := (mkF m 85 #[.val (.int p1), .val (.int p2), .val (.int p3), .val (.int p4), .val (.int c0), .val (.int c1), .val (.int c2), .val (.int nn), .val (.int jj), .unset, .unset, .unset, .unset, .unset, .unset, .unset, .unset, .unset, .unset, .unset, .unset, .unset] [(.int (64 : Int32)), (.int (0 : Int32)), (.ref b2), (.ref b2), (.ref b1), (.ref b1)])) rfl rfl (hb hby at_85)
  have V_b2_4 : Arv Z h4 b2 k2 .int (2 : Int32) [(.int (64 : Int32)), (.int (0 : Int32))] (.int (0 : Int32)) := Arv.set aA3 aq3 aS3 aN3 aH3 aG3 rfl W4 0 rfl (Nat.le_of_ble_eq_true rfl)
  have N4 := Fr.snoc X4 N0 g_b2
  have O4 := O2.wr W4 g_b2
  have KK4 : Keep h0 h4 [] := KK2.wr W4 (Or.inr sz_b2)
  obtain ⟨ac5, aA5, aq5, aS5, aN5, aH5, aG5⟩ := id V_b2_4
  obtain ⟨T6, h6, X6, e6, W6, st6⟩ := stI X4 hx hZ e4 aA5 (j := (1 : Int32)) (inb_of aS5 ⟨by decide, by decide⟩) (g := (mkF m 90 #[.val (.int p1), .val (.int p2), .val (.int p3), .val (.int p4), .val (.int c0), .val (.int c1), .val (.int c2), .val (.int nn), .val (.int jj), .unset, .unset, .unset, .unset, .unset, .unset, .unset, .unset, .unset, .unset, .unset, .unset, .unset] [(.int (64 : Int32)), (.int (1 : Int32)), (.ref b2), (.ref b2), (.ref b1), (.ref b1)])) rfl rfl (hb hby at_90)
  have V_b2_6 : Arv Z h6 b2 k2 .int (2 : Int32) [(.int (64 : Int32)), (.int (64 : Int32))] (.int (0 : Int32)) := Arv.set aA5 aq5 aS5 aN5 aH5 aG5 rfl W6 1 rfl (Nat.le_of_ble_eq_true rfl)
  have N6 := Fr.snoc X6 N4 g_b2
  have O6 := O4.wr W6 g_b2
  have KK6 : Keep h0 h6 [] := KK4.wr W6 (Or.inr sz_b2)
  have J7 := (((A1.ext E2).wr W4).wr W6)
  have J8 := (((F_reasons_b1.ext E2).other W4 (Or.inl (Nat.ne_of_lt (Nat.lt_of_lt_of_le lb_b1 bo_b2)))).other W6 (Or.inl (Nat.ne_of_lt (Nat.lt_of_lt_of_le lb_b1 bo_b2))))
  have J9 := (((F_left_b1.ext E2).other W4 (Or.inl (Nat.ne_of_lt (Nat.lt_of_lt_of_le lb_b1 bo_b2)))).other W6 (Or.inl (Nat.ne_of_lt (Nat.lt_of_lt_of_le lb_b1 bo_b2))))
  have J10 := (((F_leftMasks_b1.ext E2).other W4 (Or.inl (Nat.ne_of_lt (Nat.lt_of_lt_of_le lb_b1 bo_b2)))).other W6 (Or.inl (Nat.ne_of_lt (Nat.lt_of_lt_of_le lb_b1 bo_b2))))
  have J11 := (((F_trail_b1.ext E2).other W4 (Or.inl (Nat.ne_of_lt (Nat.lt_of_lt_of_le lb_b1 bo_b2)))).other W6 (Or.inl (Nat.ne_of_lt (Nat.lt_of_lt_of_le lb_b1 bo_b2))))
  have J12 := (((F_gathered_b1.ext E2).other W4 (Or.inl (Nat.ne_of_lt (Nat.lt_of_lt_of_le lb_b1 bo_b2)))).other W6 (Or.inl (Nat.ne_of_lt (Nat.lt_of_lt_of_le lb_b1 bo_b2))))
  have J13 := (((F_marked_b1.ext E2).other W4 (Or.inl (Nat.ne_of_lt (Nat.lt_of_lt_of_le lb_b1 bo_b2)))).other W6 (Or.inl (Nat.ne_of_lt (Nat.lt_of_lt_of_le lb_b1 bo_b2))))
  have J14 := (((F_trailSize_b1.ext E2).other W4 (Or.inl (Nat.ne_of_lt (Nat.lt_of_lt_of_le lb_b1 bo_b2)))).other W6 (Or.inl (Nat.ne_of_lt (Nat.lt_of_lt_of_le lb_b1 bo_b2))))
  refine ⟨T6, _, b1, b2, k2, X6, N6, (by rw [e6]; exact KK6), (by rw [e6]; exact O6), sz_b1, sz_b2, (Nat.lt_of_lt_of_le lb_b1 bo_b2), (by rw [e6]; exact V_b2_6), (by rw [e6]; exact ((B2.wr W4).wr W6)), (by rw [e6]; exact J7), (by rw [e6]; exact J8), (by rw [e6]; exact J9), (by rw [e6]; exact J10), (by rw [e6]; exact J11), (by rw [e6]; exact J12), (by rw [e6]; exact J13), (by rw [e6]; exact J14), trivial, fun t kt => ?_⟩
  show Steps p.tables e below (T0.setTop (mkF m 72 #[.val (.int p1), .val (.int p2), .val (.int p3), .val (.int p4), .val (.int c0), .val (.int c1), .val (.int c2), .val (.int nn), .unset, .unset, .unset, .unset, .unset, .unset, .unset, .unset, .unset, .unset, .unset, .unset, .unset, .unset] [(.int jj)])) _
  refine XS.istore X0.here hx rfl (hb hby at_72) rfl (l' := #[.val (.int p1), .val (.int p2), .val (.int p3), .val (.int p4), .val (.int c0), .val (.int c1), .val (.int c2), .val (.int nn), .val (.int jj), .unset, .unset, .unset, .unset, .unset, .unset, .unset, .unset, .unset, .unset, .unset, .unset, .unset]) rfl ?_
  show Steps p.tables e below (T0.setTop (mkF m 74 #[.val (.int p1), .val (.int p2), .val (.int p3), .val (.int p4), .val (.int c0), .val (.int c1), .val (.int c2), .val (.int nn), .val (.int jj), .unset, .unset, .unset, .unset, .unset, .unset, .unset, .unset, .unset, .unset, .unset, .unset, .unset] [])) _
  refine st1 _ ?_
  show Steps p.tables e below (T1.setTop (mkF m 77 #[.val (.int p1), .val (.int p2), .val (.int p3), .val (.int p4), .val (.int c0), .val (.int c1), .val (.int c2), .val (.int nn), .val (.int jj), .unset, .unset, .unset, .unset, .unset, .unset, .unset, .unset, .unset, .unset, .unset, .unset, .unset] [(.ref b1)])) _
  refine XS.dup X1.here hx rfl (hb hby at_77) rfl rfl ?_
  show Steps p.tables e below (T1.setTop (mkF m 78 #[.val (.int p1), .val (.int p2), .val (.int p3), .val (.int p4), .val (.int c0), .val (.int c1), .val (.int c2), .val (.int nn), .val (.int jj), .unset, .unset, .unset, .unset, .unset, .unset, .unset, .unset, .unset, .unset, .unset, .unset, .unset] [(.ref b1), (.ref b1)])) _
  refine XS.iconst X1.here hx rfl (hb hby at_78) ?_
  show Steps p.tables e below (T1.setTop (mkF m 79 #[.val (.int p1), .val (.int p2), .val (.int p3), .val (.int p4), .val (.int c0), .val (.int c1), .val (.int c2), .val (.int nn), .val (.int jj), .unset, .unset, .unset, .unset, .unset, .unset, .unset, .unset, .unset, .unset, .unset, .unset, .unset] [(.int (2 : Int32)), (.ref b1), (.ref b1)])) _
  refine st2 _ ?_
  show Steps p.tables e below (T2.setTop (mkF m 81 #[.val (.int p1), .val (.int p2), .val (.int p3), .val (.int p4), .val (.int c0), .val (.int c1), .val (.int c2), .val (.int nn), .val (.int jj), .unset, .unset, .unset, .unset, .unset, .unset, .unset, .unset, .unset, .unset, .unset, .unset, .unset] [(.ref b2), (.ref b1), (.ref b1)])) _
  refine XS.dup X2.here hx rfl (hb hby at_81) rfl rfl ?_
  show Steps p.tables e below (T2.setTop (mkF m 82 #[.val (.int p1), .val (.int p2), .val (.int p3), .val (.int p4), .val (.int c0), .val (.int c1), .val (.int c2), .val (.int nn), .val (.int jj), .unset, .unset, .unset, .unset, .unset, .unset, .unset, .unset, .unset, .unset, .unset, .unset, .unset] [(.ref b2), (.ref b2), (.ref b1), (.ref b1)])) _
  refine XS.iconst X2.here hx rfl (hb hby at_82) ?_
  show Steps p.tables e below (T2.setTop (mkF m 83 #[.val (.int p1), .val (.int p2), .val (.int p3), .val (.int p4), .val (.int c0), .val (.int c1), .val (.int c2), .val (.int nn), .val (.int jj), .unset, .unset, .unset, .unset, .unset, .unset, .unset, .unset, .unset, .unset, .unset, .unset, .unset] [(.int (0 : Int32)), (.ref b2), (.ref b2), (.ref b1), (.ref b1)])) _
  refine XS.bipush X2.here hx rfl (hb hby at_83) ?_
  show Steps p.tables e below (T2.setTop (mkF m 85 #[.val (.int p1), .val (.int p2), .val (.int p3), .val (.int p4), .val (.int c0), .val (.int c1), .val (.int c2), .val (.int nn), .val (.int jj), .unset, .unset, .unset, .unset, .unset, .unset, .unset, .unset, .unset, .unset, .unset, .unset, .unset] [(.int (64 : Int32)), (.int (0 : Int32)), (.ref b2), (.ref b2), (.ref b1), (.ref b1)])) _
  refine st4 _ ?_
  show Steps p.tables e below (T4.setTop (mkF m 86 #[.val (.int p1), .val (.int p2), .val (.int p3), .val (.int p4), .val (.int c0), .val (.int c1), .val (.int c2), .val (.int nn), .val (.int jj), .unset, .unset, .unset, .unset, .unset, .unset, .unset, .unset, .unset, .unset, .unset, .unset, .unset] [(.ref b2), (.ref b1), (.ref b1)])) _
  refine XS.dup X4.here hx rfl (hb hby at_86) rfl rfl ?_
  show Steps p.tables e below (T4.setTop (mkF m 87 #[.val (.int p1), .val (.int p2), .val (.int p3), .val (.int p4), .val (.int c0), .val (.int c1), .val (.int c2), .val (.int nn), .val (.int jj), .unset, .unset, .unset, .unset, .unset, .unset, .unset, .unset, .unset, .unset, .unset, .unset, .unset] [(.ref b2), (.ref b2), (.ref b1), (.ref b1)])) _
  refine XS.iconst X4.here hx rfl (hb hby at_87) ?_
  show Steps p.tables e below (T4.setTop (mkF m 88 #[.val (.int p1), .val (.int p2), .val (.int p3), .val (.int p4), .val (.int c0), .val (.int c1), .val (.int c2), .val (.int nn), .val (.int jj), .unset, .unset, .unset, .unset, .unset, .unset, .unset, .unset, .unset, .unset, .unset, .unset, .unset] [(.int (1 : Int32)), (.ref b2), (.ref b2), (.ref b1), (.ref b1)])) _
  refine XS.bipush X4.here hx rfl (hb hby at_88) ?_
  show Steps p.tables e below (T4.setTop (mkF m 90 #[.val (.int p1), .val (.int p2), .val (.int p3), .val (.int p4), .val (.int c0), .val (.int c1), .val (.int c2), .val (.int nn), .val (.int jj), .unset, .unset, .unset, .unset, .unset, .unset, .unset, .unset, .unset, .unset, .unset, .unset, .unset] [(.int (64 : Int32)), (.int (1 : Int32)), (.ref b2), (.ref b2), (.ref b1), (.ref b1)])) _
  refine st6 _ ?_
  show Steps p.tables e below (T6.setTop (mkF m 91 #[.val (.int p1), .val (.int p2), .val (.int p3), .val (.int p4), .val (.int c0), .val (.int c1), .val (.int c2), .val (.int nn), .val (.int jj), .unset, .unset, .unset, .unset, .unset, .unset, .unset, .unset, .unset, .unset, .unset, .unset, .unset] [(.ref b2), (.ref b1), (.ref b1)])) _
  exact kt
theorem pd281 : parseMethodDescriptor "([I)V" = some ⟨[(.array .int)], none⟩ := by decide +kernel
set_option maxRecDepth 65536 in
set_option maxHeartbeats 4000000 in
theorem cI {p : Program} {l : Launch} {e : Env} {s : State} {m : MethodId} {args : Array Value} {below : List Frame} {meth : Method} {c : Code} {T0 : State} {locs : List Loc} {cells slots : Nat} {Z : State} {a0 : Array Value} {h0 : Heap} {Ls : Array Slot} (ob : Addr) (x0 : Addr) (y : Addr)
    (X0 : Stand p l e room_1 s m args below meth c T0 locs cells slots) (hx : p.tables.exec = Jvm.exec) (hZ : Z.Warmed39 s.vm) (hw : ∀ d ∈ tables_1, d.before a0 Z = true) (hby : c.code = code) (hml : c.maxLocals = 22) (hown : s.vm.findClass "com/example/caprice/caprice/solver/DomainsRestorePinLaw" = some m.cls) (e0 : T0.heap = h0) (hsz : Ls.size = 22) {rm : Room} {Q : Option Value → Heap → List Loc → Prop}
    (M : MetFree l (⟨"com/example/caprice/caprice/solver/Domains", "<init>", "([I)V"⟩ : MethodName) (head1 [Jvm.Cond.code (⟨"com/example/caprice/caprice/solver/Domains", "<init>", "([I)V"⟩ : MethodName) prog_59_method_1_code 5 none] rm) (fun a U => a = #[(.ref ob), (.ref x0)] ∧ Z.Warmed39 U.vm ∧ U.heap = h0) (fun _ _ _ _ _ => True) (fun _ U o U' => ∃ v L, o = .returned v ∧ Q v U'.heap L ∧ FrameEnd U o U' L rm.cells rm.slots)) (hfr : rm.frames + 1 ≤ room_1.frames) (hlo : 1 + (5 + 11) + rm.locals ≤ room_1.locals) (hce : cells + rm.cells ≤ room_1.cells) (hsl : slots + rm.slots ≤ room_1.slots) :
    ∃ (T' : State) (v : Option Value) (L : List Loc), Stand p l e room_1 s m args below meth c T' (locs ++ L) (cells + rm.cells) (slots + rm.slots) ∧ Q v T'.heap L ∧ ∀ t, Steps p.tables e below (T'.setTop (mkF m 94 Ls (v.toList ++ [(.ref y)]))) t → Steps p.tables e below (T0.setTop (mkF m 91 Ls [(.ref x0), (.ref ob), (.ref y)])) t := by
  obtain ⟨v, _, ⟨T1, L1, k1, n1⟩, -, X1, ⟨Lc, hQ, l1, y1, z1⟩, st⟩ := X0.specialBack hx (y := (⟨"com/example/caprice/caprice/solver/Domains", "<init>", "([I)V"⟩ : MethodName)) rfl hown (mvT hZ (hw _ (List.mem_of_getElem? (i := 9) rfl))) (mvT hZ (hw _ (List.mem_of_getElem? (i := 10) rfl))) (mvT hZ (hw _ (List.mem_of_getElem? (i := 11) rfl))) (by decide) (backOf (W := 1) M hZ (hw _ (List.mem_of_getElem? (i := 11) rfl)) (hw _ (List.mem_of_getElem? (i := 7) rfl)) hfr hlo) (g := (mkF m 91 Ls [(.ref x0), (.ref ob), (.ref y)])) rfl (by rw [hml]; exact hsz) (Steps.refl _) (a := ob) (argsL := [(.ref x0)]) (rest := [(.ref y)]) (lenOf pd281 rfl) rfl (by show 2 * 0 + _ ≤ _; exact Nat.le_of_eq rfl) (hb hby at_91) (fun _ _ => ⟨rfl, e0, hce, hsl⟩)
  dsimp only [Pt.U, Pt.locs, Pt.cells, Pt.slots] at X1 l1 y1 z1 st hQ
  subst l1 y1 z1
  exact ⟨T1, v, Lc, X1, hQ, fun t kt => st.trans kt⟩
set_option maxRecDepth 65536 in
set_option maxHeartbeats 40000000 in
theorem pE {p : Program} {l : Launch} {e : Env} {s : State} {m : MethodId} {args : Array Value} {below : List Frame} {meth : Method} {c : Code} {T0 : State} {locs : List Loc} {Z : State} {a0 : Array Value} {h0 : Heap} {n0 : Nat} (p1 : Int32) (p2 : Int32) (p3 : Int32) (p4 : Int32) (c0 : Int32) (c1 : Int32) (c2 : Int32) (nn : Int32) (jj : Int32) (dom : Addr)
    (X0 : Stand p l e room_1 s m args below meth c T0 locs 10 404) (hx : p.tables.exec = Jvm.exec) (hZ : Z.Warmed39 s.vm) (hw : ∀ d ∈ tables_1, d.before a0 Z = true) (hby : c.code = code) (hml : c.maxLocals = 22) (hown : s.vm.findClass "com/example/caprice/caprice/solver/DomainsRestorePinLaw" = some m.cls) (e0 : T0.heap = h0) (N0 : Fr n0 locs) (O0 : Old Z n0 h0) :
    ∃ (T' : State) (locs' : List Loc) (b1 : Addr) (kk_b1 : ClassId), Stand p l e room_1 s m args below meth c T' locs' 11 404 ∧ Fr n0 locs' ∧ Keep h0 T'.heap [] ∧ Old Z n0 T'.heap ∧ h0.size ≤ b1 ∧ Arv Z T'.heap b1 kk_b1 .int (0 : Int32) [] (.int (0 : Int32)) ∧ Exa Z T'.heap b1 "[I" ∧ True ∧ ∀ t, Steps p.tables e below (T'.setTop (mkF m 104 #[.val (.int p1), .val (.int p2), .val (.int p3), .val (.int p4), .val (.int c0), .val (.int c1), .val (.int c2), .val (.int nn), .val (.int jj), .val (.ref dom), .val (.ref b1), .val (.int (0 : Int32)), .unset, .unset, .unset, .unset, .unset, .unset, .unset, .unset, .unset, .unset] [])) t → Steps p.tables e below (T0.setTop (mkF m 94 #[.val (.int p1), .val (.int p2), .val (.int p3), .val (.int p4), .val (.int c0), .val (.int c1), .val (.int c2), .val (.int nn), .val (.int jj), .unset, .unset, .unset, .unset, .unset, .unset, .unset, .unset, .unset, .unset, .unset, .unset, .unset] [(.ref dom)])) t := by
  obtain ⟨T1, h1, k1, X1, e1, E1, A1, B1, st1⟩ := newPE X0 hx hZ (hw _ (List.mem_of_getElem? (i := 8) rfl)) e0 (g := (mkF m 97 #[.val (.int p1), .val (.int p2), .val (.int p3), .val (.int p4), .val (.int c0), .val (.int c1), .val (.int c2), .val (.int nn), .val (.int jj), .val (.ref dom), .unset, .unset, .unset, .unset, .unset, .unset, .unset, .unset, .unset, .unset, .unset, .unset] [(.int (0 : Int32))])) rfl (hb hby at_97) rfl (by decide) (cap := 0) (by decide) (by decide) (by decide) (by decide) (ad := "[I") (by decide)
  obtain ⟨b1, gg1⟩ : ∃ z, z = h0.size := ⟨_, rfl⟩
  rw [← gg1] at A1 B1 st1
  have bo_b1 : h0.size ≤ b1 := Nat.le_of_eq gg1.symm
  have g_b1 : n0 ≤ b1 := Nat.le_trans (own_n0 O0) bo_b1
  have sz_b1 : h0.size ≤ b1 := Nat.le_trans (Keep.refl h0 []).1 bo_b1
  have V_b1 : Arv Z h1 b1 k1 .int (0 : Int32) [] (.int (0 : Int32)) := (Arv.new A1 (by decide)).pad (pad_rep [] (.int (0 : Int32)) 0)
  have lb_b1 : b1 < h1.size := A1.lt
  have KK1 : Keep h0 h1 [] := (Keep.refl h0 []).ext E1
  have O1 := O0.ext E1
  refine ⟨T1, _, b1, k1, X1, N0, (by rw [e1]; exact KK1), (by rw [e1]; exact O1), sz_b1, (by rw [e1]; exact V_b1), (by rw [e1]; exact B1), trivial, fun t kt => ?_⟩
  show Steps p.tables e below (T0.setTop (mkF m 94 #[.val (.int p1), .val (.int p2), .val (.int p3), .val (.int p4), .val (.int c0), .val (.int c1), .val (.int c2), .val (.int nn), .val (.int jj), .unset, .unset, .unset, .unset, .unset, .unset, .unset, .unset, .unset, .unset, .unset, .unset, .unset] [(.ref dom)])) _
  refine XS.astore X0.here hx rfl (hb hby at_94) rfl rfl (l' := #[.val (.int p1), .val (.int p2), .val (.int p3), .val (.int p4), .val (.int c0), .val (.int c1), .val (.int c2), .val (.int nn), .val (.int jj), .val (.ref dom), .unset, .unset, .unset, .unset, .unset, .unset, .unset, .unset, .unset, .unset, .unset, .unset]) rfl ?_
  show Steps p.tables e below (T0.setTop (mkF m 96 #[.val (.int p1), .val (.int p2), .val (.int p3), .val (.int p4), .val (.int c0), .val (.int c1), .val (.int c2), .val (.int nn), .val (.int jj), .val (.ref dom), .unset, .unset, .unset, .unset, .unset, .unset, .unset, .unset, .unset, .unset, .unset, .unset] [])) _
  refine XS.iconst X0.here hx rfl (hb hby at_96) ?_
  show Steps p.tables e below (T0.setTop (mkF m 97 #[.val (.int p1), .val (.int p2), .val (.int p3), .val (.int p4), .val (.int c0), .val (.int c1), .val (.int c2), .val (.int nn), .val (.int jj), .val (.ref dom), .unset, .unset, .unset, .unset, .unset, .unset, .unset, .unset, .unset, .unset, .unset, .unset] [(.int (0 : Int32))])) _
  refine st1 _ ?_
  show Steps p.tables e below (T1.setTop (mkF m 99 #[.val (.int p1), .val (.int p2), .val (.int p3), .val (.int p4), .val (.int c0), .val (.int c1), .val (.int c2), .val (.int nn), .val (.int jj), .val (.ref dom), .unset, .unset, .unset, .unset, .unset, .unset, .unset, .unset, .unset, .unset, .unset, .unset] [(.ref b1)])) _
  refine XS.astore X1.here hx rfl (hb hby at_99) rfl rfl (l' := #[.val (.int p1), .val (.int p2), .val (.int p3), .val (.int p4), .val (.int c0), .val (.int c1), .val (.int c2), .val (.int nn), .val (.int jj), .val (.ref dom), .val (.ref b1), .unset, .unset, .unset, .unset, .unset, .unset, .unset, .unset, .unset, .unset, .unset]) rfl ?_
  show Steps p.tables e below (T1.setTop (mkF m 101 #[.val (.int p1), .val (.int p2), .val (.int p3), .val (.int p4), .val (.int c0), .val (.int c1), .val (.int c2), .val (.int nn), .val (.int jj), .val (.ref dom), .val (.ref b1), .unset, .unset, .unset, .unset, .unset, .unset, .unset, .unset, .unset, .unset, .unset] [])) _
  refine XS.iconst X1.here hx rfl (hb hby at_101) ?_
  show Steps p.tables e below (T1.setTop (mkF m 102 #[.val (.int p1), .val (.int p2), .val (.int p3), .val (.int p4), .val (.int c0), .val (.int c1), .val (.int c2), .val (.int nn), .val (.int jj), .val (.ref dom), .val (.ref b1), .unset, .unset, .unset, .unset, .unset, .unset, .unset, .unset, .unset, .unset, .unset] [(.int (0 : Int32))])) _
  refine XS.istore X1.here hx rfl (hb hby at_102) rfl (l' := #[.val (.int p1), .val (.int p2), .val (.int p3), .val (.int p4), .val (.int c0), .val (.int c1), .val (.int c2), .val (.int nn), .val (.int jj), .val (.ref dom), .val (.ref b1), .val (.int (0 : Int32)), .unset, .unset, .unset, .unset, .unset, .unset, .unset, .unset, .unset, .unset]) rfl ?_
  show Steps p.tables e below (T1.setTop (mkF m 104 #[.val (.int p1), .val (.int p2), .val (.int p3), .val (.int p4), .val (.int c0), .val (.int c1), .val (.int c2), .val (.int nn), .val (.int jj), .val (.ref dom), .val (.ref b1), .val (.int (0 : Int32)), .unset, .unset, .unset, .unset, .unset, .unset, .unset, .unset, .unset, .unset] [])) _
  exact kt
set_option maxRecDepth 65536 in
set_option maxHeartbeats 40000000 in
theorem pM00 {p : Program} {l : Launch} {e : Env} {s : State} {m : MethodId} {args : Array Value} {below : List Frame} {meth : Method} {c : Code} {T0 : State} {locs : List Loc} {Z : State} {a0 : Array Value} {h0 : Heap} {n0 : Nat} (p1 : Int32) (p2 : Int32) (p3 : Int32) (p4 : Int32) (c0 : Int32) (c1 : Int32) (c2 : Int32) (nn : Int32) (jj : Int32) (dom : Addr) (non : Addr) (mm : Int32)
    (X0 : Stand p l e room_1 s m args below meth c T0 locs 11 404) (hx : p.tables.exec = Jvm.exec) (hZ : Z.Warmed39 s.vm) (hw : ∀ d ∈ tables_1, d.before a0 Z = true) (hby : c.code = code) (hml : c.maxLocals = 22) (hown : s.vm.findClass "com/example/caprice/caprice/solver/DomainsRestorePinLaw" = some m.cls) (e0 : T0.heap = h0) (N0 : Fr n0 locs) (O0 : Old Z n0 h0) (hd0 : ¬ (jj = (0 : Int32))) :
    ∃ (T' : State) (locs' : List Loc), Stand p l e room_1 s m args below meth c T' locs' 11 404 ∧ Fr n0 locs' ∧ T'.heap = h0 ∧ ∀ t, Steps p.tables e below (T'.setTop (mkF m 116 #[.val (.int p1), .val (.int p2), .val (.int p3), .val (.int p4), .val (.int c0), .val (.int c1), .val (.int c2), .val (.int nn), .val (.int jj), .val (.ref dom), .val (.ref non), .val (.int mm), .unset, .unset, .unset, .unset, .unset, .unset, .unset, .unset, .unset, .unset] [])) t → Steps p.tables e below (T0.setTop (mkF m 104 #[.val (.int p1), .val (.int p2), .val (.int p3), .val (.int p4), .val (.int c0), .val (.int c1), .val (.int c2), .val (.int nn), .val (.int jj), .val (.ref dom), .val (.ref non), .val (.int mm), .unset, .unset, .unset, .unset, .unset, .unset, .unset, .unset, .unset, .unset] [])) t := by
  refine ⟨T0, _, X0, N0, e0, fun t kt => ?_⟩
  show Steps p.tables e below (T0.setTop (mkF m 104 #[.val (.int p1), .val (.int p2), .val (.int p3), .val (.int p4), .val (.int c0), .val (.int c1), .val (.int c2), .val (.int nn), .val (.int jj), .val (.ref dom), .val (.ref non), .val (.int mm), .unset, .unset, .unset, .unset, .unset, .unset, .unset, .unset, .unset, .unset] [])) _
  refine XS.iload X0.here hx rfl (hb hby at_104) rfl ?_
  show Steps p.tables e below (T0.setTop (mkF m 106 #[.val (.int p1), .val (.int p2), .val (.int p3), .val (.int p4), .val (.int c0), .val (.int c1), .val (.int c2), .val (.int nn), .val (.int jj), .val (.ref dom), .val (.ref non), .val (.int mm), .unset, .unset, .unset, .unset, .unset, .unset, .unset, .unset, .unset, .unset] [(.int jj)])) _
  refine XS.ifYes X0.here hx rfl (pc0 := 106) (pc' := 116) rfl (hb hby at_106) rfl ((if0 _ _).trans (feq hd0).2) (by decide) (by decide) ?_
  show Steps p.tables e below (T0.setTop (mkF m 116 #[.val (.int p1), .val (.int p2), .val (.int p3), .val (.int p4), .val (.int c0), .val (.int c1), .val (.int c2), .val (.int nn), .val (.int jj), .val (.ref dom), .val (.ref non), .val (.int mm), .unset, .unset, .unset, .unset, .unset, .unset, .unset, .unset, .unset, .unset] [])) _
  exact kt
set_option maxRecDepth 65536 in
set_option maxHeartbeats 40000000 in
theorem pM01 {p : Program} {l : Launch} {e : Env} {s : State} {m : MethodId} {args : Array Value} {below : List Frame} {meth : Method} {c : Code} {T0 : State} {locs : List Loc} {Z : State} {a0 : Array Value} {h0 : Heap} {n0 : Nat} (p1 : Int32) (p2 : Int32) (p3 : Int32) (p4 : Int32) (c0 : Int32) (c1 : Int32) (c2 : Int32) (nn : Int32) (jj : Int32) (dom : Addr) (non : Addr) (mm : Int32)
    (X0 : Stand p l e room_1 s m args below meth c T0 locs 11 404) (hx : p.tables.exec = Jvm.exec) (hZ : Z.Warmed39 s.vm) (hw : ∀ d ∈ tables_1, d.before a0 Z = true) (hby : c.code = code) (hml : c.maxLocals = 22) (hown : s.vm.findClass "com/example/caprice/caprice/solver/DomainsRestorePinLaw" = some m.cls) (e0 : T0.heap = h0) (N0 : Fr n0 locs) (O0 : Old Z n0 h0) (hd0 : jj = (0 : Int32)) :
    ∃ (T' : State) (locs' : List Loc), Stand p l e room_1 s m args below meth c T' locs' 11 404 ∧ Fr n0 locs' ∧ T'.heap = h0 ∧ ∀ t, Steps p.tables e below (T'.setTop (mkF m 111 #[.val (.int p1), .val (.int p2), .val (.int p3), .val (.int p4), .val (.int c0), .val (.int c1), .val (.int c2), .val (.int nn), .val (.int jj), .val (.ref dom), .val (.ref non), .val (.int mm), .unset, .unset, .unset, .unset, .unset, .unset, .unset, .unset, .unset, .unset] [(.ref dom)])) t → Steps p.tables e below (T0.setTop (mkF m 104 #[.val (.int p1), .val (.int p2), .val (.int p3), .val (.int p4), .val (.int c0), .val (.int c1), .val (.int c2), .val (.int nn), .val (.int jj), .val (.ref dom), .val (.ref non), .val (.int mm), .unset, .unset, .unset, .unset, .unset, .unset, .unset, .unset, .unset, .unset] [])) t := by
  refine ⟨T0, _, X0, N0, e0, fun t kt => ?_⟩
  show Steps p.tables e below (T0.setTop (mkF m 104 #[.val (.int p1), .val (.int p2), .val (.int p3), .val (.int p4), .val (.int c0), .val (.int c1), .val (.int c2), .val (.int nn), .val (.int jj), .val (.ref dom), .val (.ref non), .val (.int mm), .unset, .unset, .unset, .unset, .unset, .unset, .unset, .unset, .unset, .unset] [])) _
  refine XS.iload X0.here hx rfl (hb hby at_104) rfl ?_
  show Steps p.tables e below (T0.setTop (mkF m 106 #[.val (.int p1), .val (.int p2), .val (.int p3), .val (.int p4), .val (.int c0), .val (.int c1), .val (.int c2), .val (.int nn), .val (.int jj), .val (.ref dom), .val (.ref non), .val (.int mm), .unset, .unset, .unset, .unset, .unset, .unset, .unset, .unset, .unset, .unset] [(.int jj)])) _
  refine XS.ifNo X0.here hx rfl (hb hby at_106) rfl ((if0 _ _).trans (teq hd0).2) ?_
  show Steps p.tables e below (T0.setTop (mkF m 109 #[.val (.int p1), .val (.int p2), .val (.int p3), .val (.int p4), .val (.int c0), .val (.int c1), .val (.int c2), .val (.int nn), .val (.int jj), .val (.ref dom), .val (.ref non), .val (.int mm), .unset, .unset, .unset, .unset, .unset, .unset, .unset, .unset, .unset, .unset] [])) _
  refine XS.aload X0.here hx rfl (hb hby at_109) rfl rfl ?_
  show Steps p.tables e below (T0.setTop (mkF m 111 #[.val (.int p1), .val (.int p2), .val (.int p3), .val (.int p4), .val (.int c0), .val (.int c1), .val (.int c2), .val (.int nn), .val (.int jj), .val (.ref dom), .val (.ref non), .val (.int mm), .unset, .unset, .unset, .unset, .unset, .unset, .unset, .unset, .unset, .unset] [(.ref dom)])) _
  exact kt
theorem pd285 : parseMethodDescriptor "()I" = some ⟨[], some .int⟩ := by decide +kernel
set_option maxRecDepth 65536 in
set_option maxHeartbeats 4000000 in
theorem cK0 {p : Program} {l : Launch} {e : Env} {s : State} {m : MethodId} {args : Array Value} {below : List Frame} {meth : Method} {c : Code} {T0 : State} {locs : List Loc} {cells slots : Nat} {Z : State} {a0 : Array Value} {h0 : Heap} {Ls : Array Slot} (ob : Addr)
    (X0 : Stand p l e room_1 s m args below meth c T0 locs cells slots) (hx : p.tables.exec = Jvm.exec) (hZ : Z.Warmed39 s.vm) (hw : ∀ d ∈ tables_1, d.before a0 Z = true) (hby : c.code = code) (hml : c.maxLocals = 22) (hown : s.vm.findClass "com/example/caprice/caprice/solver/DomainsRestorePinLaw" = some m.cls) (e0 : T0.heap = h0) (hsz : Ls.size = 22) (ER : Exa Z h0 ob "com/example/caprice/caprice/solver/Domains") {rm : Room} {Q : Option Value → Heap → List Loc → Prop}
    (M : MetFree l (⟨"com/example/caprice/caprice/solver/Domains", "mark", "()I"⟩ : MethodName) (head1 [Jvm.Cond.code (⟨"com/example/caprice/caprice/solver/Domains", "mark", "()I"⟩ : MethodName) prog_59_method_8_code 1 (some .int)] rm) (fun a U => a = #[(.ref ob)] ∧ Z.Warmed39 U.vm ∧ U.heap = h0) (fun _ _ _ _ _ => True) (fun _ U o U' => ∃ v L, o = .returned v ∧ Q v U'.heap L ∧ FrameEnd U o U' L rm.cells rm.slots)) (hfr : rm.frames + 1 ≤ room_1.frames) (hlo : 0 + (1 + 11) + rm.locals ≤ room_1.locals) (hce : cells + rm.cells ≤ room_1.cells) (hsl : slots + rm.slots ≤ room_1.slots) :
    ∃ (T' : State) (v : Option Value) (L : List Loc), Stand p l e room_1 s m args below meth c T' (locs ++ L) (cells + rm.cells) (slots + rm.slots) ∧ Q v T'.heap L ∧ ∀ t, Steps p.tables e below (T'.setTop (mkF m 114 Ls (v.toList ++ []))) t → Steps p.tables e below (T0.setTop (mkF m 111 Ls [(.ref ob)])) t := by
  obtain ⟨cq, kq, qa, qb, qc⟩ := isOf hZ e0 ER
  obtain ⟨v, _, ⟨T1, L1, k1, n1⟩, -, X1, ⟨Lc, hQ, l1, y1, z1⟩, st⟩ := X0.virtualBack hx (y := (⟨"com/example/caprice/caprice/solver/Domains", "mark", "()I"⟩ : MethodName)) (z := (⟨"com/example/caprice/caprice/solver/Domains", "mark", "()I"⟩ : MethodName)) hown (mvT hZ (hw _ (List.mem_of_getElem? (i := 38) rfl))) (mvT hZ (hw _ (List.mem_of_getElem? (i := 39) rfl))) (notFace_of_selects (args := #[]) (mvT hZ (hw _ (List.mem_of_getElem? (i := 41) rfl)))) (mvT hZ (hw _ (List.mem_of_getElem? (i := 41) rfl))) (mvT hZ (hw _ (List.mem_of_getElem? (i := 40) rfl))) (by decide) (backOf (W := 0) M hZ (hw _ (List.mem_of_getElem? (i := 42) rfl)) (hw _ (List.mem_of_getElem? (i := 7) rfl)) hfr hlo) qa qc (g := (mkF m 111 Ls [(.ref ob)])) rfl (by rw [hml]; exact hsz) (Steps.refl _) (argsL := []) (rest := []) (lenOf pd285 rfl) rfl (by show 2 * 0 + _ ≤ _; exact Nat.le_of_eq rfl) (hb hby at_111) (fun _ _ => ⟨rfl, e0, hce, hsl⟩)
  dsimp only [Pt.U, Pt.locs, Pt.cells, Pt.slots] at X1 l1 y1 z1 st hQ
  subst l1 y1 z1
  exact ⟨T1, v, Lc, X1, hQ, fun t kt => st.trans kt⟩
set_option maxRecDepth 65536 in
set_option maxHeartbeats 40000000 in
theorem pM02 {p : Program} {l : Launch} {e : Env} {s : State} {m : MethodId} {args : Array Value} {below : List Frame} {meth : Method} {c : Code} {T0 : State} {locs : List Loc} {Z : State} {a0 : Array Value} {h0 : Heap} {n0 : Nat} (p1 : Int32) (p2 : Int32) (p3 : Int32) (p4 : Int32) (c0 : Int32) (c1 : Int32) (c2 : Int32) (nn : Int32) (jj : Int32) (dom : Addr) (non : Addr) (mm : Int32) (mk : Int32)
    (X0 : Stand p l e room_1 s m args below meth c T0 locs 11 404) (hx : p.tables.exec = Jvm.exec) (hZ : Z.Warmed39 s.vm) (hw : ∀ d ∈ tables_1, d.before a0 Z = true) (hby : c.code = code) (hml : c.maxLocals = 22) (hown : s.vm.findClass "com/example/caprice/caprice/solver/DomainsRestorePinLaw" = some m.cls) (e0 : T0.heap = h0) (N0 : Fr n0 locs) (O0 : Old Z n0 h0) :
    ∃ (T' : State) (locs' : List Loc), Stand p l e room_1 s m args below meth c T' locs' 11 404 ∧ Fr n0 locs' ∧ T'.heap = h0 ∧ ∀ t, Steps p.tables e below (T'.setTop (mkF m 116 #[.val (.int p1), .val (.int p2), .val (.int p3), .val (.int p4), .val (.int c0), .val (.int c1), .val (.int c2), .val (.int nn), .val (.int jj), .val (.ref dom), .val (.ref non), .val (.int mk), .unset, .unset, .unset, .unset, .unset, .unset, .unset, .unset, .unset, .unset] [])) t → Steps p.tables e below (T0.setTop (mkF m 114 #[.val (.int p1), .val (.int p2), .val (.int p3), .val (.int p4), .val (.int c0), .val (.int c1), .val (.int c2), .val (.int nn), .val (.int jj), .val (.ref dom), .val (.ref non), .val (.int mm), .unset, .unset, .unset, .unset, .unset, .unset, .unset, .unset, .unset, .unset] [(.int mk)])) t := by
  refine ⟨T0, _, X0, N0, e0, fun t kt => ?_⟩
  show Steps p.tables e below (T0.setTop (mkF m 114 #[.val (.int p1), .val (.int p2), .val (.int p3), .val (.int p4), .val (.int c0), .val (.int c1), .val (.int c2), .val (.int nn), .val (.int jj), .val (.ref dom), .val (.ref non), .val (.int mm), .unset, .unset, .unset, .unset, .unset, .unset, .unset, .unset, .unset, .unset] [(.int mk)])) _
  refine XS.istore X0.here hx rfl (hb hby at_114) rfl (l' := #[.val (.int p1), .val (.int p2), .val (.int p3), .val (.int p4), .val (.int c0), .val (.int c1), .val (.int c2), .val (.int nn), .val (.int jj), .val (.ref dom), .val (.ref non), .val (.int mk), .unset, .unset, .unset, .unset, .unset, .unset, .unset, .unset, .unset, .unset]) rfl ?_
  show Steps p.tables e below (T0.setTop (mkF m 116 #[.val (.int p1), .val (.int p2), .val (.int p3), .val (.int p4), .val (.int c0), .val (.int c1), .val (.int c2), .val (.int nn), .val (.int jj), .val (.ref dom), .val (.ref non), .val (.int mk), .unset, .unset, .unset, .unset, .unset, .unset, .unset, .unset, .unset, .unset] [])) _
  exact kt
set_option maxRecDepth 65536 in
set_option maxHeartbeats 40000000 in
theorem pM10 {p : Program} {l : Launch} {e : Env} {s : State} {m : MethodId} {args : Array Value} {below : List Frame} {meth : Method} {c : Code} {T0 : State} {locs : List Loc} {Z : State} {a0 : Array Value} {h0 : Heap} {n0 : Nat} (p1 : Int32) (p2 : Int32) (p3 : Int32) (p4 : Int32) (c0 : Int32) (c1 : Int32) (c2 : Int32) (nn : Int32) (jj : Int32) (dom : Addr) (non : Addr) (mm : Int32)
    (X0 : Stand p l e room_1 s m args below meth c T0 locs 11 404) (hx : p.tables.exec = Jvm.exec) (hZ : Z.Warmed39 s.vm) (hw : ∀ d ∈ tables_1, d.before a0 Z = true) (hby : c.code = code) (hml : c.maxLocals = 22) (hown : s.vm.findClass "com/example/caprice/caprice/solver/DomainsRestorePinLaw" = some m.cls) (e0 : T0.heap = h0) (N0 : Fr n0 locs) (O0 : Old Z n0 h0) (hd0 : ¬ (jj = (1 : Int32))) :
    ∃ (T' : State) (locs' : List Loc), Stand p l e room_1 s m args below meth c T' locs' 11 404 ∧ Fr n0 locs' ∧ T'.heap = h0 ∧ ∀ t, Steps p.tables e below (T'.setTop (mkF m 152 #[.val (.int p1), .val (.int p2), .val (.int p3), .val (.int p4), .val (.int c0), .val (.int c1), .val (.int c2), .val (.int nn), .val (.int jj), .val (.ref dom), .val (.ref non), .val (.int mm), .unset, .unset, .unset, .unset, .unset, .unset, .unset, .unset, .unset, .unset] [])) t → Steps p.tables e below (T0.setTop (mkF m 139 #[.val (.int p1), .val (.int p2), .val (.int p3), .val (.int p4), .val (.int c0), .val (.int c1), .val (.int c2), .val (.int nn), .val (.int jj), .val (.ref dom), .val (.ref non), .val (.int mm), .unset, .unset, .unset, .unset, .unset, .unset, .unset, .unset, .unset, .unset] [])) t := by
  refine ⟨T0, _, X0, N0, e0, fun t kt => ?_⟩
  show Steps p.tables e below (T0.setTop (mkF m 139 #[.val (.int p1), .val (.int p2), .val (.int p3), .val (.int p4), .val (.int c0), .val (.int c1), .val (.int c2), .val (.int nn), .val (.int jj), .val (.ref dom), .val (.ref non), .val (.int mm), .unset, .unset, .unset, .unset, .unset, .unset, .unset, .unset, .unset, .unset] [])) _
  refine XS.iload X0.here hx rfl (hb hby at_139) rfl ?_
  show Steps p.tables e below (T0.setTop (mkF m 141 #[.val (.int p1), .val (.int p2), .val (.int p3), .val (.int p4), .val (.int c0), .val (.int c1), .val (.int c2), .val (.int nn), .val (.int jj), .val (.ref dom), .val (.ref non), .val (.int mm), .unset, .unset, .unset, .unset, .unset, .unset, .unset, .unset, .unset, .unset] [(.int jj)])) _
  refine XS.iconst X0.here hx rfl (hb hby at_141) ?_
  show Steps p.tables e below (T0.setTop (mkF m 142 #[.val (.int p1), .val (.int p2), .val (.int p3), .val (.int p4), .val (.int c0), .val (.int c1), .val (.int c2), .val (.int nn), .val (.int jj), .val (.ref dom), .val (.ref non), .val (.int mm), .unset, .unset, .unset, .unset, .unset, .unset, .unset, .unset, .unset, .unset] [(.int (1 : Int32)), (.int jj)])) _
  refine XS.icmpYes X0.here hx rfl (pc0 := 142) (pc' := 152) rfl (hb hby at_142) rfl (feq hd0).2 (by decide) (by decide) ?_
  show Steps p.tables e below (T0.setTop (mkF m 152 #[.val (.int p1), .val (.int p2), .val (.int p3), .val (.int p4), .val (.int c0), .val (.int c1), .val (.int c2), .val (.int nn), .val (.int jj), .val (.ref dom), .val (.ref non), .val (.int mm), .unset, .unset, .unset, .unset, .unset, .unset, .unset, .unset, .unset, .unset] [])) _
  exact kt
set_option maxRecDepth 65536 in
set_option maxHeartbeats 40000000 in
theorem pM11 {p : Program} {l : Launch} {e : Env} {s : State} {m : MethodId} {args : Array Value} {below : List Frame} {meth : Method} {c : Code} {T0 : State} {locs : List Loc} {Z : State} {a0 : Array Value} {h0 : Heap} {n0 : Nat} (p1 : Int32) (p2 : Int32) (p3 : Int32) (p4 : Int32) (c0 : Int32) (c1 : Int32) (c2 : Int32) (nn : Int32) (jj : Int32) (dom : Addr) (non : Addr) (mm : Int32)
    (X0 : Stand p l e room_1 s m args below meth c T0 locs 11 404) (hx : p.tables.exec = Jvm.exec) (hZ : Z.Warmed39 s.vm) (hw : ∀ d ∈ tables_1, d.before a0 Z = true) (hby : c.code = code) (hml : c.maxLocals = 22) (hown : s.vm.findClass "com/example/caprice/caprice/solver/DomainsRestorePinLaw" = some m.cls) (e0 : T0.heap = h0) (N0 : Fr n0 locs) (O0 : Old Z n0 h0) (hd0 : jj = (1 : Int32)) :
    ∃ (T' : State) (locs' : List Loc), Stand p l e room_1 s m args below meth c T' locs' 11 404 ∧ Fr n0 locs' ∧ T'.heap = h0 ∧ ∀ t, Steps p.tables e below (T'.setTop (mkF m 147 #[.val (.int p1), .val (.int p2), .val (.int p3), .val (.int p4), .val (.int c0), .val (.int c1), .val (.int c2), .val (.int nn), .val (.int jj), .val (.ref dom), .val (.ref non), .val (.int mm), .unset, .unset, .unset, .unset, .unset, .unset, .unset, .unset, .unset, .unset] [(.ref dom)])) t → Steps p.tables e below (T0.setTop (mkF m 139 #[.val (.int p1), .val (.int p2), .val (.int p3), .val (.int p4), .val (.int c0), .val (.int c1), .val (.int c2), .val (.int nn), .val (.int jj), .val (.ref dom), .val (.ref non), .val (.int mm), .unset, .unset, .unset, .unset, .unset, .unset, .unset, .unset, .unset, .unset] [])) t := by
  refine ⟨T0, _, X0, N0, e0, fun t kt => ?_⟩
  show Steps p.tables e below (T0.setTop (mkF m 139 #[.val (.int p1), .val (.int p2), .val (.int p3), .val (.int p4), .val (.int c0), .val (.int c1), .val (.int c2), .val (.int nn), .val (.int jj), .val (.ref dom), .val (.ref non), .val (.int mm), .unset, .unset, .unset, .unset, .unset, .unset, .unset, .unset, .unset, .unset] [])) _
  refine XS.iload X0.here hx rfl (hb hby at_139) rfl ?_
  show Steps p.tables e below (T0.setTop (mkF m 141 #[.val (.int p1), .val (.int p2), .val (.int p3), .val (.int p4), .val (.int c0), .val (.int c1), .val (.int c2), .val (.int nn), .val (.int jj), .val (.ref dom), .val (.ref non), .val (.int mm), .unset, .unset, .unset, .unset, .unset, .unset, .unset, .unset, .unset, .unset] [(.int jj)])) _
  refine XS.iconst X0.here hx rfl (hb hby at_141) ?_
  show Steps p.tables e below (T0.setTop (mkF m 142 #[.val (.int p1), .val (.int p2), .val (.int p3), .val (.int p4), .val (.int c0), .val (.int c1), .val (.int c2), .val (.int nn), .val (.int jj), .val (.ref dom), .val (.ref non), .val (.int mm), .unset, .unset, .unset, .unset, .unset, .unset, .unset, .unset, .unset, .unset] [(.int (1 : Int32)), (.int jj)])) _
  refine XS.icmpNo X0.here hx rfl (hb hby at_142) rfl (teq hd0).2 ?_
  show Steps p.tables e below (T0.setTop (mkF m 145 #[.val (.int p1), .val (.int p2), .val (.int p3), .val (.int p4), .val (.int c0), .val (.int c1), .val (.int c2), .val (.int nn), .val (.int jj), .val (.ref dom), .val (.ref non), .val (.int mm), .unset, .unset, .unset, .unset, .unset, .unset, .unset, .unset, .unset, .unset] [])) _
  refine XS.aload X0.here hx rfl (hb hby at_145) rfl rfl ?_
  show Steps p.tables e below (T0.setTop (mkF m 147 #[.val (.int p1), .val (.int p2), .val (.int p3), .val (.int p4), .val (.int c0), .val (.int c1), .val (.int c2), .val (.int nn), .val (.int jj), .val (.ref dom), .val (.ref non), .val (.int mm), .unset, .unset, .unset, .unset, .unset, .unset, .unset, .unset, .unset, .unset] [(.ref dom)])) _
  exact kt
set_option maxRecDepth 65536 in
set_option maxHeartbeats 4000000 in
theorem cK1 {p : Program} {l : Launch} {e : Env} {s : State} {m : MethodId} {args : Array Value} {below : List Frame} {meth : Method} {c : Code} {T0 : State} {locs : List Loc} {cells slots : Nat} {Z : State} {a0 : Array Value} {h0 : Heap} {Ls : Array Slot} (ob : Addr)
    (X0 : Stand p l e room_1 s m args below meth c T0 locs cells slots) (hx : p.tables.exec = Jvm.exec) (hZ : Z.Warmed39 s.vm) (hw : ∀ d ∈ tables_1, d.before a0 Z = true) (hby : c.code = code) (hml : c.maxLocals = 22) (hown : s.vm.findClass "com/example/caprice/caprice/solver/DomainsRestorePinLaw" = some m.cls) (e0 : T0.heap = h0) (hsz : Ls.size = 22) (ER : Exa Z h0 ob "com/example/caprice/caprice/solver/Domains") {rm : Room} {Q : Option Value → Heap → List Loc → Prop}
    (M : MetFree l (⟨"com/example/caprice/caprice/solver/Domains", "mark", "()I"⟩ : MethodName) (head1 [Jvm.Cond.code (⟨"com/example/caprice/caprice/solver/Domains", "mark", "()I"⟩ : MethodName) prog_59_method_8_code 1 (some .int)] rm) (fun a U => a = #[(.ref ob)] ∧ Z.Warmed39 U.vm ∧ U.heap = h0) (fun _ _ _ _ _ => True) (fun _ U o U' => ∃ v L, o = .returned v ∧ Q v U'.heap L ∧ FrameEnd U o U' L rm.cells rm.slots)) (hfr : rm.frames + 1 ≤ room_1.frames) (hlo : 0 + (1 + 11) + rm.locals ≤ room_1.locals) (hce : cells + rm.cells ≤ room_1.cells) (hsl : slots + rm.slots ≤ room_1.slots) :
    ∃ (T' : State) (v : Option Value) (L : List Loc), Stand p l e room_1 s m args below meth c T' (locs ++ L) (cells + rm.cells) (slots + rm.slots) ∧ Q v T'.heap L ∧ ∀ t, Steps p.tables e below (T'.setTop (mkF m 150 Ls (v.toList ++ []))) t → Steps p.tables e below (T0.setTop (mkF m 147 Ls [(.ref ob)])) t := by
  obtain ⟨cq, kq, qa, qb, qc⟩ := isOf hZ e0 ER
  obtain ⟨v, _, ⟨T1, L1, k1, n1⟩, -, X1, ⟨Lc, hQ, l1, y1, z1⟩, st⟩ := X0.virtualBack hx (y := (⟨"com/example/caprice/caprice/solver/Domains", "mark", "()I"⟩ : MethodName)) (z := (⟨"com/example/caprice/caprice/solver/Domains", "mark", "()I"⟩ : MethodName)) hown (mvT hZ (hw _ (List.mem_of_getElem? (i := 38) rfl))) (mvT hZ (hw _ (List.mem_of_getElem? (i := 39) rfl))) (notFace_of_selects (args := #[]) (mvT hZ (hw _ (List.mem_of_getElem? (i := 41) rfl)))) (mvT hZ (hw _ (List.mem_of_getElem? (i := 41) rfl))) (mvT hZ (hw _ (List.mem_of_getElem? (i := 40) rfl))) (by decide) (backOf (W := 0) M hZ (hw _ (List.mem_of_getElem? (i := 42) rfl)) (hw _ (List.mem_of_getElem? (i := 7) rfl)) hfr hlo) qa qc (g := (mkF m 147 Ls [(.ref ob)])) rfl (by rw [hml]; exact hsz) (Steps.refl _) (argsL := []) (rest := []) (lenOf pd285 rfl) rfl (by show 2 * 0 + _ ≤ _; exact Nat.le_of_eq rfl) (hb hby at_147) (fun _ _ => ⟨rfl, e0, hce, hsl⟩)
  dsimp only [Pt.U, Pt.locs, Pt.cells, Pt.slots] at X1 l1 y1 z1 st hQ
  subst l1 y1 z1
  exact ⟨T1, v, Lc, X1, hQ, fun t kt => st.trans kt⟩
set_option maxRecDepth 65536 in
set_option maxHeartbeats 40000000 in
theorem pM12 {p : Program} {l : Launch} {e : Env} {s : State} {m : MethodId} {args : Array Value} {below : List Frame} {meth : Method} {c : Code} {T0 : State} {locs : List Loc} {Z : State} {a0 : Array Value} {h0 : Heap} {n0 : Nat} (p1 : Int32) (p2 : Int32) (p3 : Int32) (p4 : Int32) (c0 : Int32) (c1 : Int32) (c2 : Int32) (nn : Int32) (jj : Int32) (dom : Addr) (non : Addr) (mm : Int32) (mk : Int32)
    (X0 : Stand p l e room_1 s m args below meth c T0 locs 11 404) (hx : p.tables.exec = Jvm.exec) (hZ : Z.Warmed39 s.vm) (hw : ∀ d ∈ tables_1, d.before a0 Z = true) (hby : c.code = code) (hml : c.maxLocals = 22) (hown : s.vm.findClass "com/example/caprice/caprice/solver/DomainsRestorePinLaw" = some m.cls) (e0 : T0.heap = h0) (N0 : Fr n0 locs) (O0 : Old Z n0 h0) :
    ∃ (T' : State) (locs' : List Loc), Stand p l e room_1 s m args below meth c T' locs' 11 404 ∧ Fr n0 locs' ∧ T'.heap = h0 ∧ ∀ t, Steps p.tables e below (T'.setTop (mkF m 152 #[.val (.int p1), .val (.int p2), .val (.int p3), .val (.int p4), .val (.int c0), .val (.int c1), .val (.int c2), .val (.int nn), .val (.int jj), .val (.ref dom), .val (.ref non), .val (.int mk), .unset, .unset, .unset, .unset, .unset, .unset, .unset, .unset, .unset, .unset] [])) t → Steps p.tables e below (T0.setTop (mkF m 150 #[.val (.int p1), .val (.int p2), .val (.int p3), .val (.int p4), .val (.int c0), .val (.int c1), .val (.int c2), .val (.int nn), .val (.int jj), .val (.ref dom), .val (.ref non), .val (.int mm), .unset, .unset, .unset, .unset, .unset, .unset, .unset, .unset, .unset, .unset] [(.int mk)])) t := by
  refine ⟨T0, _, X0, N0, e0, fun t kt => ?_⟩
  show Steps p.tables e below (T0.setTop (mkF m 150 #[.val (.int p1), .val (.int p2), .val (.int p3), .val (.int p4), .val (.int c0), .val (.int c1), .val (.int c2), .val (.int nn), .val (.int jj), .val (.ref dom), .val (.ref non), .val (.int mm), .unset, .unset, .unset, .unset, .unset, .unset, .unset, .unset, .unset, .unset] [(.int mk)])) _
  refine XS.istore X0.here hx rfl (hb hby at_150) rfl (l' := #[.val (.int p1), .val (.int p2), .val (.int p3), .val (.int p4), .val (.int c0), .val (.int c1), .val (.int c2), .val (.int nn), .val (.int jj), .val (.ref dom), .val (.ref non), .val (.int mk), .unset, .unset, .unset, .unset, .unset, .unset, .unset, .unset, .unset, .unset]) rfl ?_
  show Steps p.tables e below (T0.setTop (mkF m 152 #[.val (.int p1), .val (.int p2), .val (.int p3), .val (.int p4), .val (.int c0), .val (.int c1), .val (.int c2), .val (.int nn), .val (.int jj), .val (.ref dom), .val (.ref non), .val (.int mk), .unset, .unset, .unset, .unset, .unset, .unset, .unset, .unset, .unset, .unset] [])) _
  exact kt
set_option maxRecDepth 65536 in
set_option maxHeartbeats 40000000 in
theorem pM20 {p : Program} {l : Launch} {e : Env} {s : State} {m : MethodId} {args : Array Value} {below : List Frame} {meth : Method} {c : Code} {T0 : State} {locs : List Loc} {Z : State} {a0 : Array Value} {h0 : Heap} {n0 : Nat} (p1 : Int32) (p2 : Int32) (p3 : Int32) (p4 : Int32) (c0 : Int32) (c1 : Int32) (c2 : Int32) (nn : Int32) (jj : Int32) (dom : Addr) (non : Addr) (mm : Int32)
    (X0 : Stand p l e room_1 s m args below meth c T0 locs 11 404) (hx : p.tables.exec = Jvm.exec) (hZ : Z.Warmed39 s.vm) (hw : ∀ d ∈ tables_1, d.before a0 Z = true) (hby : c.code = code) (hml : c.maxLocals = 22) (hown : s.vm.findClass "com/example/caprice/caprice/solver/DomainsRestorePinLaw" = some m.cls) (e0 : T0.heap = h0) (N0 : Fr n0 locs) (O0 : Old Z n0 h0) (hd0 : ¬ (jj = (2 : Int32))) :
    ∃ (T' : State) (locs' : List Loc), Stand p l e room_1 s m args below meth c T' locs' 11 404 ∧ Fr n0 locs' ∧ T'.heap = h0 ∧ ∀ t, Steps p.tables e below (T'.setTop (mkF m 188 #[.val (.int p1), .val (.int p2), .val (.int p3), .val (.int p4), .val (.int c0), .val (.int c1), .val (.int c2), .val (.int nn), .val (.int jj), .val (.ref dom), .val (.ref non), .val (.int mm), .unset, .unset, .unset, .unset, .unset, .unset, .unset, .unset, .unset, .unset] [])) t → Steps p.tables e below (T0.setTop (mkF m 175 #[.val (.int p1), .val (.int p2), .val (.int p3), .val (.int p4), .val (.int c0), .val (.int c1), .val (.int c2), .val (.int nn), .val (.int jj), .val (.ref dom), .val (.ref non), .val (.int mm), .unset, .unset, .unset, .unset, .unset, .unset, .unset, .unset, .unset, .unset] [])) t := by
  refine ⟨T0, _, X0, N0, e0, fun t kt => ?_⟩
  show Steps p.tables e below (T0.setTop (mkF m 175 #[.val (.int p1), .val (.int p2), .val (.int p3), .val (.int p4), .val (.int c0), .val (.int c1), .val (.int c2), .val (.int nn), .val (.int jj), .val (.ref dom), .val (.ref non), .val (.int mm), .unset, .unset, .unset, .unset, .unset, .unset, .unset, .unset, .unset, .unset] [])) _
  refine XS.iload X0.here hx rfl (hb hby at_175) rfl ?_
  show Steps p.tables e below (T0.setTop (mkF m 177 #[.val (.int p1), .val (.int p2), .val (.int p3), .val (.int p4), .val (.int c0), .val (.int c1), .val (.int c2), .val (.int nn), .val (.int jj), .val (.ref dom), .val (.ref non), .val (.int mm), .unset, .unset, .unset, .unset, .unset, .unset, .unset, .unset, .unset, .unset] [(.int jj)])) _
  refine XS.iconst X0.here hx rfl (hb hby at_177) ?_
  show Steps p.tables e below (T0.setTop (mkF m 178 #[.val (.int p1), .val (.int p2), .val (.int p3), .val (.int p4), .val (.int c0), .val (.int c1), .val (.int c2), .val (.int nn), .val (.int jj), .val (.ref dom), .val (.ref non), .val (.int mm), .unset, .unset, .unset, .unset, .unset, .unset, .unset, .unset, .unset, .unset] [(.int (2 : Int32)), (.int jj)])) _
  refine XS.icmpYes X0.here hx rfl (pc0 := 178) (pc' := 188) rfl (hb hby at_178) rfl (feq hd0).2 (by decide) (by decide) ?_
  show Steps p.tables e below (T0.setTop (mkF m 188 #[.val (.int p1), .val (.int p2), .val (.int p3), .val (.int p4), .val (.int c0), .val (.int c1), .val (.int c2), .val (.int nn), .val (.int jj), .val (.ref dom), .val (.ref non), .val (.int mm), .unset, .unset, .unset, .unset, .unset, .unset, .unset, .unset, .unset, .unset] [])) _
  exact kt
set_option maxRecDepth 65536 in
set_option maxHeartbeats 40000000 in
theorem pM21 {p : Program} {l : Launch} {e : Env} {s : State} {m : MethodId} {args : Array Value} {below : List Frame} {meth : Method} {c : Code} {T0 : State} {locs : List Loc} {Z : State} {a0 : Array Value} {h0 : Heap} {n0 : Nat} (p1 : Int32) (p2 : Int32) (p3 : Int32) (p4 : Int32) (c0 : Int32) (c1 : Int32) (c2 : Int32) (nn : Int32) (jj : Int32) (dom : Addr) (non : Addr) (mm : Int32)
    (X0 : Stand p l e room_1 s m args below meth c T0 locs 11 404) (hx : p.tables.exec = Jvm.exec) (hZ : Z.Warmed39 s.vm) (hw : ∀ d ∈ tables_1, d.before a0 Z = true) (hby : c.code = code) (hml : c.maxLocals = 22) (hown : s.vm.findClass "com/example/caprice/caprice/solver/DomainsRestorePinLaw" = some m.cls) (e0 : T0.heap = h0) (N0 : Fr n0 locs) (O0 : Old Z n0 h0) (hd0 : jj = (2 : Int32)) :
    ∃ (T' : State) (locs' : List Loc), Stand p l e room_1 s m args below meth c T' locs' 11 404 ∧ Fr n0 locs' ∧ T'.heap = h0 ∧ ∀ t, Steps p.tables e below (T'.setTop (mkF m 183 #[.val (.int p1), .val (.int p2), .val (.int p3), .val (.int p4), .val (.int c0), .val (.int c1), .val (.int c2), .val (.int nn), .val (.int jj), .val (.ref dom), .val (.ref non), .val (.int mm), .unset, .unset, .unset, .unset, .unset, .unset, .unset, .unset, .unset, .unset] [(.ref dom)])) t → Steps p.tables e below (T0.setTop (mkF m 175 #[.val (.int p1), .val (.int p2), .val (.int p3), .val (.int p4), .val (.int c0), .val (.int c1), .val (.int c2), .val (.int nn), .val (.int jj), .val (.ref dom), .val (.ref non), .val (.int mm), .unset, .unset, .unset, .unset, .unset, .unset, .unset, .unset, .unset, .unset] [])) t := by
  refine ⟨T0, _, X0, N0, e0, fun t kt => ?_⟩
  show Steps p.tables e below (T0.setTop (mkF m 175 #[.val (.int p1), .val (.int p2), .val (.int p3), .val (.int p4), .val (.int c0), .val (.int c1), .val (.int c2), .val (.int nn), .val (.int jj), .val (.ref dom), .val (.ref non), .val (.int mm), .unset, .unset, .unset, .unset, .unset, .unset, .unset, .unset, .unset, .unset] [])) _
  refine XS.iload X0.here hx rfl (hb hby at_175) rfl ?_
  show Steps p.tables e below (T0.setTop (mkF m 177 #[.val (.int p1), .val (.int p2), .val (.int p3), .val (.int p4), .val (.int c0), .val (.int c1), .val (.int c2), .val (.int nn), .val (.int jj), .val (.ref dom), .val (.ref non), .val (.int mm), .unset, .unset, .unset, .unset, .unset, .unset, .unset, .unset, .unset, .unset] [(.int jj)])) _
  refine XS.iconst X0.here hx rfl (hb hby at_177) ?_
  show Steps p.tables e below (T0.setTop (mkF m 178 #[.val (.int p1), .val (.int p2), .val (.int p3), .val (.int p4), .val (.int c0), .val (.int c1), .val (.int c2), .val (.int nn), .val (.int jj), .val (.ref dom), .val (.ref non), .val (.int mm), .unset, .unset, .unset, .unset, .unset, .unset, .unset, .unset, .unset, .unset] [(.int (2 : Int32)), (.int jj)])) _
  refine XS.icmpNo X0.here hx rfl (hb hby at_178) rfl (teq hd0).2 ?_
  show Steps p.tables e below (T0.setTop (mkF m 181 #[.val (.int p1), .val (.int p2), .val (.int p3), .val (.int p4), .val (.int c0), .val (.int c1), .val (.int c2), .val (.int nn), .val (.int jj), .val (.ref dom), .val (.ref non), .val (.int mm), .unset, .unset, .unset, .unset, .unset, .unset, .unset, .unset, .unset, .unset] [])) _
  refine XS.aload X0.here hx rfl (hb hby at_181) rfl rfl ?_
  show Steps p.tables e below (T0.setTop (mkF m 183 #[.val (.int p1), .val (.int p2), .val (.int p3), .val (.int p4), .val (.int c0), .val (.int c1), .val (.int c2), .val (.int nn), .val (.int jj), .val (.ref dom), .val (.ref non), .val (.int mm), .unset, .unset, .unset, .unset, .unset, .unset, .unset, .unset, .unset, .unset] [(.ref dom)])) _
  exact kt
set_option maxRecDepth 65536 in
set_option maxHeartbeats 4000000 in
theorem cK2 {p : Program} {l : Launch} {e : Env} {s : State} {m : MethodId} {args : Array Value} {below : List Frame} {meth : Method} {c : Code} {T0 : State} {locs : List Loc} {cells slots : Nat} {Z : State} {a0 : Array Value} {h0 : Heap} {Ls : Array Slot} (ob : Addr)
    (X0 : Stand p l e room_1 s m args below meth c T0 locs cells slots) (hx : p.tables.exec = Jvm.exec) (hZ : Z.Warmed39 s.vm) (hw : ∀ d ∈ tables_1, d.before a0 Z = true) (hby : c.code = code) (hml : c.maxLocals = 22) (hown : s.vm.findClass "com/example/caprice/caprice/solver/DomainsRestorePinLaw" = some m.cls) (e0 : T0.heap = h0) (hsz : Ls.size = 22) (ER : Exa Z h0 ob "com/example/caprice/caprice/solver/Domains") {rm : Room} {Q : Option Value → Heap → List Loc → Prop}
    (M : MetFree l (⟨"com/example/caprice/caprice/solver/Domains", "mark", "()I"⟩ : MethodName) (head1 [Jvm.Cond.code (⟨"com/example/caprice/caprice/solver/Domains", "mark", "()I"⟩ : MethodName) prog_59_method_8_code 1 (some .int)] rm) (fun a U => a = #[(.ref ob)] ∧ Z.Warmed39 U.vm ∧ U.heap = h0) (fun _ _ _ _ _ => True) (fun _ U o U' => ∃ v L, o = .returned v ∧ Q v U'.heap L ∧ FrameEnd U o U' L rm.cells rm.slots)) (hfr : rm.frames + 1 ≤ room_1.frames) (hlo : 0 + (1 + 11) + rm.locals ≤ room_1.locals) (hce : cells + rm.cells ≤ room_1.cells) (hsl : slots + rm.slots ≤ room_1.slots) :
    ∃ (T' : State) (v : Option Value) (L : List Loc), Stand p l e room_1 s m args below meth c T' (locs ++ L) (cells + rm.cells) (slots + rm.slots) ∧ Q v T'.heap L ∧ ∀ t, Steps p.tables e below (T'.setTop (mkF m 186 Ls (v.toList ++ []))) t → Steps p.tables e below (T0.setTop (mkF m 183 Ls [(.ref ob)])) t := by
  obtain ⟨cq, kq, qa, qb, qc⟩ := isOf hZ e0 ER
  obtain ⟨v, _, ⟨T1, L1, k1, n1⟩, -, X1, ⟨Lc, hQ, l1, y1, z1⟩, st⟩ := X0.virtualBack hx (y := (⟨"com/example/caprice/caprice/solver/Domains", "mark", "()I"⟩ : MethodName)) (z := (⟨"com/example/caprice/caprice/solver/Domains", "mark", "()I"⟩ : MethodName)) hown (mvT hZ (hw _ (List.mem_of_getElem? (i := 38) rfl))) (mvT hZ (hw _ (List.mem_of_getElem? (i := 39) rfl))) (notFace_of_selects (args := #[]) (mvT hZ (hw _ (List.mem_of_getElem? (i := 41) rfl)))) (mvT hZ (hw _ (List.mem_of_getElem? (i := 41) rfl))) (mvT hZ (hw _ (List.mem_of_getElem? (i := 40) rfl))) (by decide) (backOf (W := 0) M hZ (hw _ (List.mem_of_getElem? (i := 42) rfl)) (hw _ (List.mem_of_getElem? (i := 7) rfl)) hfr hlo) qa qc (g := (mkF m 183 Ls [(.ref ob)])) rfl (by rw [hml]; exact hsz) (Steps.refl _) (argsL := []) (rest := []) (lenOf pd285 rfl) rfl (by show 2 * 0 + _ ≤ _; exact Nat.le_of_eq rfl) (hb hby at_183) (fun _ _ => ⟨rfl, e0, hce, hsl⟩)
  dsimp only [Pt.U, Pt.locs, Pt.cells, Pt.slots] at X1 l1 y1 z1 st hQ
  subst l1 y1 z1
  exact ⟨T1, v, Lc, X1, hQ, fun t kt => st.trans kt⟩
set_option maxRecDepth 65536 in
set_option maxHeartbeats 40000000 in
theorem pM22 {p : Program} {l : Launch} {e : Env} {s : State} {m : MethodId} {args : Array Value} {below : List Frame} {meth : Method} {c : Code} {T0 : State} {locs : List Loc} {Z : State} {a0 : Array Value} {h0 : Heap} {n0 : Nat} (p1 : Int32) (p2 : Int32) (p3 : Int32) (p4 : Int32) (c0 : Int32) (c1 : Int32) (c2 : Int32) (nn : Int32) (jj : Int32) (dom : Addr) (non : Addr) (mm : Int32) (mk : Int32)
    (X0 : Stand p l e room_1 s m args below meth c T0 locs 11 404) (hx : p.tables.exec = Jvm.exec) (hZ : Z.Warmed39 s.vm) (hw : ∀ d ∈ tables_1, d.before a0 Z = true) (hby : c.code = code) (hml : c.maxLocals = 22) (hown : s.vm.findClass "com/example/caprice/caprice/solver/DomainsRestorePinLaw" = some m.cls) (e0 : T0.heap = h0) (N0 : Fr n0 locs) (O0 : Old Z n0 h0) :
    ∃ (T' : State) (locs' : List Loc), Stand p l e room_1 s m args below meth c T' locs' 11 404 ∧ Fr n0 locs' ∧ T'.heap = h0 ∧ ∀ t, Steps p.tables e below (T'.setTop (mkF m 188 #[.val (.int p1), .val (.int p2), .val (.int p3), .val (.int p4), .val (.int c0), .val (.int c1), .val (.int c2), .val (.int nn), .val (.int jj), .val (.ref dom), .val (.ref non), .val (.int mk), .unset, .unset, .unset, .unset, .unset, .unset, .unset, .unset, .unset, .unset] [])) t → Steps p.tables e below (T0.setTop (mkF m 186 #[.val (.int p1), .val (.int p2), .val (.int p3), .val (.int p4), .val (.int c0), .val (.int c1), .val (.int c2), .val (.int nn), .val (.int jj), .val (.ref dom), .val (.ref non), .val (.int mm), .unset, .unset, .unset, .unset, .unset, .unset, .unset, .unset, .unset, .unset] [(.int mk)])) t := by
  refine ⟨T0, _, X0, N0, e0, fun t kt => ?_⟩
  show Steps p.tables e below (T0.setTop (mkF m 186 #[.val (.int p1), .val (.int p2), .val (.int p3), .val (.int p4), .val (.int c0), .val (.int c1), .val (.int c2), .val (.int nn), .val (.int jj), .val (.ref dom), .val (.ref non), .val (.int mm), .unset, .unset, .unset, .unset, .unset, .unset, .unset, .unset, .unset, .unset] [(.int mk)])) _
  refine XS.istore X0.here hx rfl (hb hby at_186) rfl (l' := #[.val (.int p1), .val (.int p2), .val (.int p3), .val (.int p4), .val (.int c0), .val (.int c1), .val (.int c2), .val (.int nn), .val (.int jj), .val (.ref dom), .val (.ref non), .val (.int mk), .unset, .unset, .unset, .unset, .unset, .unset, .unset, .unset, .unset, .unset]) rfl ?_
  show Steps p.tables e below (T0.setTop (mkF m 188 #[.val (.int p1), .val (.int p2), .val (.int p3), .val (.int p4), .val (.int c0), .val (.int c1), .val (.int c2), .val (.int nn), .val (.int jj), .val (.ref dom), .val (.ref non), .val (.int mk), .unset, .unset, .unset, .unset, .unset, .unset, .unset, .unset, .unset, .unset] [])) _
  exact kt
set_option maxRecDepth 65536 in
set_option maxHeartbeats 40000000 in
theorem pM30 {p : Program} {l : Launch} {e : Env} {s : State} {m : MethodId} {args : Array Value} {below : List Frame} {meth : Method} {c : Code} {T0 : State} {locs : List Loc} {Z : State} {a0 : Array Value} {h0 : Heap} {n0 : Nat} (p1 : Int32) (p2 : Int32) (p3 : Int32) (p4 : Int32) (c0 : Int32) (c1 : Int32) (c2 : Int32) (nn : Int32) (jj : Int32) (dom : Addr) (non : Addr) (mm : Int32)
    (X0 : Stand p l e room_1 s m args below meth c T0 locs 11 404) (hx : p.tables.exec = Jvm.exec) (hZ : Z.Warmed39 s.vm) (hw : ∀ d ∈ tables_1, d.before a0 Z = true) (hby : c.code = code) (hml : c.maxLocals = 22) (hown : s.vm.findClass "com/example/caprice/caprice/solver/DomainsRestorePinLaw" = some m.cls) (e0 : T0.heap = h0) (N0 : Fr n0 locs) (O0 : Old Z n0 h0) (hd0 : ¬ (jj = (3 : Int32))) :
    ∃ (T' : State) (locs' : List Loc), Stand p l e room_1 s m args below meth c T' locs' 11 404 ∧ Fr n0 locs' ∧ T'.heap = h0 ∧ ∀ t, Steps p.tables e below (T'.setTop (mkF m 224 #[.val (.int p1), .val (.int p2), .val (.int p3), .val (.int p4), .val (.int c0), .val (.int c1), .val (.int c2), .val (.int nn), .val (.int jj), .val (.ref dom), .val (.ref non), .val (.int mm), .unset, .unset, .unset, .unset, .unset, .unset, .unset, .unset, .unset, .unset] [])) t → Steps p.tables e below (T0.setTop (mkF m 211 #[.val (.int p1), .val (.int p2), .val (.int p3), .val (.int p4), .val (.int c0), .val (.int c1), .val (.int c2), .val (.int nn), .val (.int jj), .val (.ref dom), .val (.ref non), .val (.int mm), .unset, .unset, .unset, .unset, .unset, .unset, .unset, .unset, .unset, .unset] [])) t := by
  refine ⟨T0, _, X0, N0, e0, fun t kt => ?_⟩
  show Steps p.tables e below (T0.setTop (mkF m 211 #[.val (.int p1), .val (.int p2), .val (.int p3), .val (.int p4), .val (.int c0), .val (.int c1), .val (.int c2), .val (.int nn), .val (.int jj), .val (.ref dom), .val (.ref non), .val (.int mm), .unset, .unset, .unset, .unset, .unset, .unset, .unset, .unset, .unset, .unset] [])) _
  refine XS.iload X0.here hx rfl (hb hby at_211) rfl ?_
  show Steps p.tables e below (T0.setTop (mkF m 213 #[.val (.int p1), .val (.int p2), .val (.int p3), .val (.int p4), .val (.int c0), .val (.int c1), .val (.int c2), .val (.int nn), .val (.int jj), .val (.ref dom), .val (.ref non), .val (.int mm), .unset, .unset, .unset, .unset, .unset, .unset, .unset, .unset, .unset, .unset] [(.int jj)])) _
  refine XS.iconst X0.here hx rfl (hb hby at_213) ?_
  show Steps p.tables e below (T0.setTop (mkF m 214 #[.val (.int p1), .val (.int p2), .val (.int p3), .val (.int p4), .val (.int c0), .val (.int c1), .val (.int c2), .val (.int nn), .val (.int jj), .val (.ref dom), .val (.ref non), .val (.int mm), .unset, .unset, .unset, .unset, .unset, .unset, .unset, .unset, .unset, .unset] [(.int (3 : Int32)), (.int jj)])) _
  refine XS.icmpYes X0.here hx rfl (pc0 := 214) (pc' := 224) rfl (hb hby at_214) rfl (feq hd0).2 (by decide) (by decide) ?_
  show Steps p.tables e below (T0.setTop (mkF m 224 #[.val (.int p1), .val (.int p2), .val (.int p3), .val (.int p4), .val (.int c0), .val (.int c1), .val (.int c2), .val (.int nn), .val (.int jj), .val (.ref dom), .val (.ref non), .val (.int mm), .unset, .unset, .unset, .unset, .unset, .unset, .unset, .unset, .unset, .unset] [])) _
  exact kt
set_option maxRecDepth 65536 in
set_option maxHeartbeats 40000000 in
theorem pM31 {p : Program} {l : Launch} {e : Env} {s : State} {m : MethodId} {args : Array Value} {below : List Frame} {meth : Method} {c : Code} {T0 : State} {locs : List Loc} {Z : State} {a0 : Array Value} {h0 : Heap} {n0 : Nat} (p1 : Int32) (p2 : Int32) (p3 : Int32) (p4 : Int32) (c0 : Int32) (c1 : Int32) (c2 : Int32) (nn : Int32) (jj : Int32) (dom : Addr) (non : Addr) (mm : Int32)
    (X0 : Stand p l e room_1 s m args below meth c T0 locs 11 404) (hx : p.tables.exec = Jvm.exec) (hZ : Z.Warmed39 s.vm) (hw : ∀ d ∈ tables_1, d.before a0 Z = true) (hby : c.code = code) (hml : c.maxLocals = 22) (hown : s.vm.findClass "com/example/caprice/caprice/solver/DomainsRestorePinLaw" = some m.cls) (e0 : T0.heap = h0) (N0 : Fr n0 locs) (O0 : Old Z n0 h0) (hd0 : jj = (3 : Int32)) :
    ∃ (T' : State) (locs' : List Loc), Stand p l e room_1 s m args below meth c T' locs' 11 404 ∧ Fr n0 locs' ∧ T'.heap = h0 ∧ ∀ t, Steps p.tables e below (T'.setTop (mkF m 219 #[.val (.int p1), .val (.int p2), .val (.int p3), .val (.int p4), .val (.int c0), .val (.int c1), .val (.int c2), .val (.int nn), .val (.int jj), .val (.ref dom), .val (.ref non), .val (.int mm), .unset, .unset, .unset, .unset, .unset, .unset, .unset, .unset, .unset, .unset] [(.ref dom)])) t → Steps p.tables e below (T0.setTop (mkF m 211 #[.val (.int p1), .val (.int p2), .val (.int p3), .val (.int p4), .val (.int c0), .val (.int c1), .val (.int c2), .val (.int nn), .val (.int jj), .val (.ref dom), .val (.ref non), .val (.int mm), .unset, .unset, .unset, .unset, .unset, .unset, .unset, .unset, .unset, .unset] [])) t := by
  refine ⟨T0, _, X0, N0, e0, fun t kt => ?_⟩
  show Steps p.tables e below (T0.setTop (mkF m 211 #[.val (.int p1), .val (.int p2), .val (.int p3), .val (.int p4), .val (.int c0), .val (.int c1), .val (.int c2), .val (.int nn), .val (.int jj), .val (.ref dom), .val (.ref non), .val (.int mm), .unset, .unset, .unset, .unset, .unset, .unset, .unset, .unset, .unset, .unset] [])) _
  refine XS.iload X0.here hx rfl (hb hby at_211) rfl ?_
  show Steps p.tables e below (T0.setTop (mkF m 213 #[.val (.int p1), .val (.int p2), .val (.int p3), .val (.int p4), .val (.int c0), .val (.int c1), .val (.int c2), .val (.int nn), .val (.int jj), .val (.ref dom), .val (.ref non), .val (.int mm), .unset, .unset, .unset, .unset, .unset, .unset, .unset, .unset, .unset, .unset] [(.int jj)])) _
  refine XS.iconst X0.here hx rfl (hb hby at_213) ?_
  show Steps p.tables e below (T0.setTop (mkF m 214 #[.val (.int p1), .val (.int p2), .val (.int p3), .val (.int p4), .val (.int c0), .val (.int c1), .val (.int c2), .val (.int nn), .val (.int jj), .val (.ref dom), .val (.ref non), .val (.int mm), .unset, .unset, .unset, .unset, .unset, .unset, .unset, .unset, .unset, .unset] [(.int (3 : Int32)), (.int jj)])) _
  refine XS.icmpNo X0.here hx rfl (hb hby at_214) rfl (teq hd0).2 ?_
  show Steps p.tables e below (T0.setTop (mkF m 217 #[.val (.int p1), .val (.int p2), .val (.int p3), .val (.int p4), .val (.int c0), .val (.int c1), .val (.int c2), .val (.int nn), .val (.int jj), .val (.ref dom), .val (.ref non), .val (.int mm), .unset, .unset, .unset, .unset, .unset, .unset, .unset, .unset, .unset, .unset] [])) _
  refine XS.aload X0.here hx rfl (hb hby at_217) rfl rfl ?_
  show Steps p.tables e below (T0.setTop (mkF m 219 #[.val (.int p1), .val (.int p2), .val (.int p3), .val (.int p4), .val (.int c0), .val (.int c1), .val (.int c2), .val (.int nn), .val (.int jj), .val (.ref dom), .val (.ref non), .val (.int mm), .unset, .unset, .unset, .unset, .unset, .unset, .unset, .unset, .unset, .unset] [(.ref dom)])) _
  exact kt
set_option maxRecDepth 65536 in
set_option maxHeartbeats 4000000 in
theorem cK3 {p : Program} {l : Launch} {e : Env} {s : State} {m : MethodId} {args : Array Value} {below : List Frame} {meth : Method} {c : Code} {T0 : State} {locs : List Loc} {cells slots : Nat} {Z : State} {a0 : Array Value} {h0 : Heap} {Ls : Array Slot} (ob : Addr)
    (X0 : Stand p l e room_1 s m args below meth c T0 locs cells slots) (hx : p.tables.exec = Jvm.exec) (hZ : Z.Warmed39 s.vm) (hw : ∀ d ∈ tables_1, d.before a0 Z = true) (hby : c.code = code) (hml : c.maxLocals = 22) (hown : s.vm.findClass "com/example/caprice/caprice/solver/DomainsRestorePinLaw" = some m.cls) (e0 : T0.heap = h0) (hsz : Ls.size = 22) (ER : Exa Z h0 ob "com/example/caprice/caprice/solver/Domains") {rm : Room} {Q : Option Value → Heap → List Loc → Prop}
    (M : MetFree l (⟨"com/example/caprice/caprice/solver/Domains", "mark", "()I"⟩ : MethodName) (head1 [Jvm.Cond.code (⟨"com/example/caprice/caprice/solver/Domains", "mark", "()I"⟩ : MethodName) prog_59_method_8_code 1 (some .int)] rm) (fun a U => a = #[(.ref ob)] ∧ Z.Warmed39 U.vm ∧ U.heap = h0) (fun _ _ _ _ _ => True) (fun _ U o U' => ∃ v L, o = .returned v ∧ Q v U'.heap L ∧ FrameEnd U o U' L rm.cells rm.slots)) (hfr : rm.frames + 1 ≤ room_1.frames) (hlo : 0 + (1 + 11) + rm.locals ≤ room_1.locals) (hce : cells + rm.cells ≤ room_1.cells) (hsl : slots + rm.slots ≤ room_1.slots) :
    ∃ (T' : State) (v : Option Value) (L : List Loc), Stand p l e room_1 s m args below meth c T' (locs ++ L) (cells + rm.cells) (slots + rm.slots) ∧ Q v T'.heap L ∧ ∀ t, Steps p.tables e below (T'.setTop (mkF m 222 Ls (v.toList ++ []))) t → Steps p.tables e below (T0.setTop (mkF m 219 Ls [(.ref ob)])) t := by
  obtain ⟨cq, kq, qa, qb, qc⟩ := isOf hZ e0 ER
  obtain ⟨v, _, ⟨T1, L1, k1, n1⟩, -, X1, ⟨Lc, hQ, l1, y1, z1⟩, st⟩ := X0.virtualBack hx (y := (⟨"com/example/caprice/caprice/solver/Domains", "mark", "()I"⟩ : MethodName)) (z := (⟨"com/example/caprice/caprice/solver/Domains", "mark", "()I"⟩ : MethodName)) hown (mvT hZ (hw _ (List.mem_of_getElem? (i := 38) rfl))) (mvT hZ (hw _ (List.mem_of_getElem? (i := 39) rfl))) (notFace_of_selects (args := #[]) (mvT hZ (hw _ (List.mem_of_getElem? (i := 41) rfl)))) (mvT hZ (hw _ (List.mem_of_getElem? (i := 41) rfl))) (mvT hZ (hw _ (List.mem_of_getElem? (i := 40) rfl))) (by decide) (backOf (W := 0) M hZ (hw _ (List.mem_of_getElem? (i := 42) rfl)) (hw _ (List.mem_of_getElem? (i := 7) rfl)) hfr hlo) qa qc (g := (mkF m 219 Ls [(.ref ob)])) rfl (by rw [hml]; exact hsz) (Steps.refl _) (argsL := []) (rest := []) (lenOf pd285 rfl) rfl (by show 2 * 0 + _ ≤ _; exact Nat.le_of_eq rfl) (hb hby at_219) (fun _ _ => ⟨rfl, e0, hce, hsl⟩)
  dsimp only [Pt.U, Pt.locs, Pt.cells, Pt.slots] at X1 l1 y1 z1 st hQ
  subst l1 y1 z1
  exact ⟨T1, v, Lc, X1, hQ, fun t kt => st.trans kt⟩
set_option maxRecDepth 65536 in
set_option maxHeartbeats 40000000 in
theorem pM32 {p : Program} {l : Launch} {e : Env} {s : State} {m : MethodId} {args : Array Value} {below : List Frame} {meth : Method} {c : Code} {T0 : State} {locs : List Loc} {Z : State} {a0 : Array Value} {h0 : Heap} {n0 : Nat} (p1 : Int32) (p2 : Int32) (p3 : Int32) (p4 : Int32) (c0 : Int32) (c1 : Int32) (c2 : Int32) (nn : Int32) (jj : Int32) (dom : Addr) (non : Addr) (mm : Int32) (mk : Int32)
    (X0 : Stand p l e room_1 s m args below meth c T0 locs 11 404) (hx : p.tables.exec = Jvm.exec) (hZ : Z.Warmed39 s.vm) (hw : ∀ d ∈ tables_1, d.before a0 Z = true) (hby : c.code = code) (hml : c.maxLocals = 22) (hown : s.vm.findClass "com/example/caprice/caprice/solver/DomainsRestorePinLaw" = some m.cls) (e0 : T0.heap = h0) (N0 : Fr n0 locs) (O0 : Old Z n0 h0) :
    ∃ (T' : State) (locs' : List Loc), Stand p l e room_1 s m args below meth c T' locs' 11 404 ∧ Fr n0 locs' ∧ T'.heap = h0 ∧ ∀ t, Steps p.tables e below (T'.setTop (mkF m 224 #[.val (.int p1), .val (.int p2), .val (.int p3), .val (.int p4), .val (.int c0), .val (.int c1), .val (.int c2), .val (.int nn), .val (.int jj), .val (.ref dom), .val (.ref non), .val (.int mk), .unset, .unset, .unset, .unset, .unset, .unset, .unset, .unset, .unset, .unset] [])) t → Steps p.tables e below (T0.setTop (mkF m 222 #[.val (.int p1), .val (.int p2), .val (.int p3), .val (.int p4), .val (.int c0), .val (.int c1), .val (.int c2), .val (.int nn), .val (.int jj), .val (.ref dom), .val (.ref non), .val (.int mm), .unset, .unset, .unset, .unset, .unset, .unset, .unset, .unset, .unset, .unset] [(.int mk)])) t := by
  refine ⟨T0, _, X0, N0, e0, fun t kt => ?_⟩
  show Steps p.tables e below (T0.setTop (mkF m 222 #[.val (.int p1), .val (.int p2), .val (.int p3), .val (.int p4), .val (.int c0), .val (.int c1), .val (.int c2), .val (.int nn), .val (.int jj), .val (.ref dom), .val (.ref non), .val (.int mm), .unset, .unset, .unset, .unset, .unset, .unset, .unset, .unset, .unset, .unset] [(.int mk)])) _
  refine XS.istore X0.here hx rfl (hb hby at_222) rfl (l' := #[.val (.int p1), .val (.int p2), .val (.int p3), .val (.int p4), .val (.int c0), .val (.int c1), .val (.int c2), .val (.int nn), .val (.int jj), .val (.ref dom), .val (.ref non), .val (.int mk), .unset, .unset, .unset, .unset, .unset, .unset, .unset, .unset, .unset, .unset]) rfl ?_
  show Steps p.tables e below (T0.setTop (mkF m 224 #[.val (.int p1), .val (.int p2), .val (.int p3), .val (.int p4), .val (.int c0), .val (.int c1), .val (.int c2), .val (.int nn), .val (.int jj), .val (.ref dom), .val (.ref non), .val (.int mk), .unset, .unset, .unset, .unset, .unset, .unset, .unset, .unset, .unset, .unset] [])) _
  exact kt
set_option maxRecDepth 65536 in
set_option maxHeartbeats 40000000 in
theorem pR00 {p : Program} {l : Launch} {e : Env} {s : State} {m : MethodId} {args : Array Value} {below : List Frame} {meth : Method} {c : Code} {T0 : State} {locs : List Loc} {Z : State} {a0 : Array Value} {h0 : Heap} {n0 : Nat} (p1 : Int32) (p2 : Int32) (p3 : Int32) (p4 : Int32) (c0 : Int32) (c1 : Int32) (c2 : Int32) (nn : Int32) (jj : Int32) (dom : Addr) (non : Addr) (mm : Int32)
    (X0 : Stand p l e room_1 s m args below meth c T0 locs 11 404) (hx : p.tables.exec = Jvm.exec) (hZ : Z.Warmed39 s.vm) (hw : ∀ d ∈ tables_1, d.before a0 Z = true) (hby : c.code = code) (hml : c.maxLocals = 22) (hown : s.vm.findClass "com/example/caprice/caprice/solver/DomainsRestorePinLaw" = some m.cls) (e0 : T0.heap = h0) (N0 : Fr n0 locs) (O0 : Old Z n0 h0) (hd0 : nn < (1 : Int32)) :
    ∃ (T' : State) (locs' : List Loc), Stand p l e room_1 s m args below meth c T' locs' 11 404 ∧ Fr n0 locs' ∧ T'.heap = h0 ∧ ∀ t, Steps p.tables e below (T'.setTop (mkF m 139 #[.val (.int p1), .val (.int p2), .val (.int p3), .val (.int p4), .val (.int c0), .val (.int c1), .val (.int c2), .val (.int nn), .val (.int jj), .val (.ref dom), .val (.ref non), .val (.int mm), .unset, .unset, .unset, .unset, .unset, .unset, .unset, .unset, .unset, .unset] [])) t → Steps p.tables e below (T0.setTop (mkF m 116 #[.val (.int p1), .val (.int p2), .val (.int p3), .val (.int p4), .val (.int c0), .val (.int c1), .val (.int c2), .val (.int nn), .val (.int jj), .val (.ref dom), .val (.ref non), .val (.int mm), .unset, .unset, .unset, .unset, .unset, .unset, .unset, .unset, .unset, .unset] [])) t := by
  refine ⟨T0, _, X0, N0, e0, fun t kt => ?_⟩
  show Steps p.tables e below (T0.setTop (mkF m 116 #[.val (.int p1), .val (.int p2), .val (.int p3), .val (.int p4), .val (.int c0), .val (.int c1), .val (.int c2), .val (.int nn), .val (.int jj), .val (.ref dom), .val (.ref non), .val (.int mm), .unset, .unset, .unset, .unset, .unset, .unset, .unset, .unset, .unset, .unset] [])) _
  refine XS.iload X0.here hx rfl (hb hby at_116) rfl ?_
  show Steps p.tables e below (T0.setTop (mkF m 118 #[.val (.int p1), .val (.int p2), .val (.int p3), .val (.int p4), .val (.int c0), .val (.int c1), .val (.int c2), .val (.int nn), .val (.int jj), .val (.ref dom), .val (.ref non), .val (.int mm), .unset, .unset, .unset, .unset, .unset, .unset, .unset, .unset, .unset, .unset] [(.int nn)])) _
  refine XS.iconst X0.here hx rfl (hb hby at_118) ?_
  show Steps p.tables e below (T0.setTop (mkF m 119 #[.val (.int p1), .val (.int p2), .val (.int p3), .val (.int p4), .val (.int c0), .val (.int c1), .val (.int c2), .val (.int nn), .val (.int jj), .val (.ref dom), .val (.ref non), .val (.int mm), .unset, .unset, .unset, .unset, .unset, .unset, .unset, .unset, .unset, .unset] [(.int (1 : Int32)), (.int nn)])) _
  refine XS.icmpYes X0.here hx rfl (pc0 := 119) (pc' := 139) rfl (hb hby at_119) rfl (tlt hd0).1 (by decide) (by decide) ?_
  show Steps p.tables e below (T0.setTop (mkF m 139 #[.val (.int p1), .val (.int p2), .val (.int p3), .val (.int p4), .val (.int c0), .val (.int c1), .val (.int c2), .val (.int nn), .val (.int jj), .val (.ref dom), .val (.ref non), .val (.int mm), .unset, .unset, .unset, .unset, .unset, .unset, .unset, .unset, .unset, .unset] [])) _
  exact kt
set_option maxRecDepth 65536 in
set_option maxHeartbeats 40000000 in
theorem pR01 {p : Program} {l : Launch} {e : Env} {s : State} {m : MethodId} {args : Array Value} {below : List Frame} {meth : Method} {c : Code} {T0 : State} {locs : List Loc} {Z : State} {a0 : Array Value} {h0 : Heap} {n0 : Nat} (p1 : Int32) (p2 : Int32) (p3 : Int32) (p4 : Int32) (c0 : Int32) (c1 : Int32) (c2 : Int32) (nn : Int32) (jj : Int32) (dom : Addr) (non : Addr) (mm : Int32)
    (X0 : Stand p l e room_1 s m args below meth c T0 locs 11 404) (hx : p.tables.exec = Jvm.exec) (hZ : Z.Warmed39 s.vm) (hw : ∀ d ∈ tables_1, d.before a0 Z = true) (hby : c.code = code) (hml : c.maxLocals = 22) (hown : s.vm.findClass "com/example/caprice/caprice/solver/DomainsRestorePinLaw" = some m.cls) (e0 : T0.heap = h0) (N0 : Fr n0 locs) (O0 : Old Z n0 h0) (hd0 : ¬ (nn < (1 : Int32))) :
    ∃ (T' : State) (locs' : List Loc), Stand p l e room_1 s m args below meth c T' locs' 11 404 ∧ Fr n0 locs' ∧ T'.heap = h0 ∧ ∀ t, Steps p.tables e below (T'.setTop (mkF m 136 #[.val (.int p1), .val (.int p2), .val (.int p3), .val (.int p4), .val (.int c0), .val (.int c1), .val (.int c2), .val (.int nn), .val (.int jj), .val (.ref dom), .val (.ref non), .val (.int mm), .unset, .unset, .unset, .unset, .unset, .unset, .unset, .unset, .unset, .unset] [(.ref non), (.int (c0 &&& (63 : Int32))), (.int ((c0.toUInt32 >>> ((6 : Int32) &&& 31).toUInt32).toInt32)), (.ref dom)])) t → Steps p.tables e below (T0.setTop (mkF m 116 #[.val (.int p1), .val (.int p2), .val (.int p3), .val (.int p4), .val (.int c0), .val (.int c1), .val (.int c2), .val (.int nn), .val (.int jj), .val (.ref dom), .val (.ref non), .val (.int mm), .unset, .unset, .unset, .unset, .unset, .unset, .unset, .unset, .unset, .unset] [])) t := by
  refine ⟨T0, _, X0, N0, e0, fun t kt => ?_⟩
  show Steps p.tables e below (T0.setTop (mkF m 116 #[.val (.int p1), .val (.int p2), .val (.int p3), .val (.int p4), .val (.int c0), .val (.int c1), .val (.int c2), .val (.int nn), .val (.int jj), .val (.ref dom), .val (.ref non), .val (.int mm), .unset, .unset, .unset, .unset, .unset, .unset, .unset, .unset, .unset, .unset] [])) _
  refine XS.iload X0.here hx rfl (hb hby at_116) rfl ?_
  show Steps p.tables e below (T0.setTop (mkF m 118 #[.val (.int p1), .val (.int p2), .val (.int p3), .val (.int p4), .val (.int c0), .val (.int c1), .val (.int c2), .val (.int nn), .val (.int jj), .val (.ref dom), .val (.ref non), .val (.int mm), .unset, .unset, .unset, .unset, .unset, .unset, .unset, .unset, .unset, .unset] [(.int nn)])) _
  refine XS.iconst X0.here hx rfl (hb hby at_118) ?_
  show Steps p.tables e below (T0.setTop (mkF m 119 #[.val (.int p1), .val (.int p2), .val (.int p3), .val (.int p4), .val (.int c0), .val (.int c1), .val (.int c2), .val (.int nn), .val (.int jj), .val (.ref dom), .val (.ref non), .val (.int mm), .unset, .unset, .unset, .unset, .unset, .unset, .unset, .unset, .unset, .unset] [(.int (1 : Int32)), (.int nn)])) _
  refine XS.icmpNo X0.here hx rfl (hb hby at_119) rfl (flt hd0).1 ?_
  show Steps p.tables e below (T0.setTop (mkF m 122 #[.val (.int p1), .val (.int p2), .val (.int p3), .val (.int p4), .val (.int c0), .val (.int c1), .val (.int c2), .val (.int nn), .val (.int jj), .val (.ref dom), .val (.ref non), .val (.int mm), .unset, .unset, .unset, .unset, .unset, .unset, .unset, .unset, .unset, .unset] [])) _
  refine XS.aload X0.here hx rfl (hb hby at_122) rfl rfl ?_
  show Steps p.tables e below (T0.setTop (mkF m 124 #[.val (.int p1), .val (.int p2), .val (.int p3), .val (.int p4), .val (.int c0), .val (.int c1), .val (.int c2), .val (.int nn), .val (.int jj), .val (.ref dom), .val (.ref non), .val (.int mm), .unset, .unset, .unset, .unset, .unset, .unset, .unset, .unset, .unset, .unset] [(.ref dom)])) _
  refine XS.iload X0.here hx rfl (hb hby at_124) rfl ?_
  show Steps p.tables e below (T0.setTop (mkF m 126 #[.val (.int p1), .val (.int p2), .val (.int p3), .val (.int p4), .val (.int c0), .val (.int c1), .val (.int c2), .val (.int nn), .val (.int jj), .val (.ref dom), .val (.ref non), .val (.int mm), .unset, .unset, .unset, .unset, .unset, .unset, .unset, .unset, .unset, .unset] [(.int c0), (.ref dom)])) _
  refine XS.bipush X0.here hx rfl (hb hby at_126) ?_
  show Steps p.tables e below (T0.setTop (mkF m 128 #[.val (.int p1), .val (.int p2), .val (.int p3), .val (.int p4), .val (.int c0), .val (.int c1), .val (.int c2), .val (.int nn), .val (.int jj), .val (.ref dom), .val (.ref non), .val (.int mm), .unset, .unset, .unset, .unset, .unset, .unset, .unset, .unset, .unset, .unset] [(.int (6 : Int32)), (.int c0), (.ref dom)])) _
  refine XS.iushr X0.here hx rfl (hb hby at_128) rfl ?_
  show Steps p.tables e below (T0.setTop (mkF m 129 #[.val (.int p1), .val (.int p2), .val (.int p3), .val (.int p4), .val (.int c0), .val (.int c1), .val (.int c2), .val (.int nn), .val (.int jj), .val (.ref dom), .val (.ref non), .val (.int mm), .unset, .unset, .unset, .unset, .unset, .unset, .unset, .unset, .unset, .unset] [(.int ((c0.toUInt32 >>> ((6 : Int32) &&& 31).toUInt32).toInt32)), (.ref dom)])) _
  refine XS.iload X0.here hx rfl (hb hby at_129) rfl ?_
  show Steps p.tables e below (T0.setTop (mkF m 131 #[.val (.int p1), .val (.int p2), .val (.int p3), .val (.int p4), .val (.int c0), .val (.int c1), .val (.int c2), .val (.int nn), .val (.int jj), .val (.ref dom), .val (.ref non), .val (.int mm), .unset, .unset, .unset, .unset, .unset, .unset, .unset, .unset, .unset, .unset] [(.int c0), (.int ((c0.toUInt32 >>> ((6 : Int32) &&& 31).toUInt32).toInt32)), (.ref dom)])) _
  refine XS.bipush X0.here hx rfl (hb hby at_131) ?_
  show Steps p.tables e below (T0.setTop (mkF m 133 #[.val (.int p1), .val (.int p2), .val (.int p3), .val (.int p4), .val (.int c0), .val (.int c1), .val (.int c2), .val (.int nn), .val (.int jj), .val (.ref dom), .val (.ref non), .val (.int mm), .unset, .unset, .unset, .unset, .unset, .unset, .unset, .unset, .unset, .unset] [(.int (63 : Int32)), (.int c0), (.int ((c0.toUInt32 >>> ((6 : Int32) &&& 31).toUInt32).toInt32)), (.ref dom)])) _
  refine XS.iand X0.here hx rfl (hb hby at_133) rfl ?_
  show Steps p.tables e below (T0.setTop (mkF m 134 #[.val (.int p1), .val (.int p2), .val (.int p3), .val (.int p4), .val (.int c0), .val (.int c1), .val (.int c2), .val (.int nn), .val (.int jj), .val (.ref dom), .val (.ref non), .val (.int mm), .unset, .unset, .unset, .unset, .unset, .unset, .unset, .unset, .unset, .unset] [(.int (c0 &&& (63 : Int32))), (.int ((c0.toUInt32 >>> ((6 : Int32) &&& 31).toUInt32).toInt32)), (.ref dom)])) _
  refine XS.aload X0.here hx rfl (hb hby at_134) rfl rfl ?_
  show Steps p.tables e below (T0.setTop (mkF m 136 #[.val (.int p1), .val (.int p2), .val (.int p3), .val (.int p4), .val (.int c0), .val (.int c1), .val (.int c2), .val (.int nn), .val (.int jj), .val (.ref dom), .val (.ref non), .val (.int mm), .unset, .unset, .unset, .unset, .unset, .unset, .unset, .unset, .unset, .unset] [(.ref non), (.int (c0 &&& (63 : Int32))), (.int ((c0.toUInt32 >>> ((6 : Int32) &&& 31).toUInt32).toInt32)), (.ref dom)])) _
  exact kt
theorem pd298 : parseMethodDescriptor "(II[I)V" = some ⟨[.int, .int, (.array .int)], none⟩ := by decide +kernel
set_option maxRecDepth 65536 in
set_option maxHeartbeats 4000000 in
theorem cR0 {p : Program} {l : Launch} {e : Env} {s : State} {m : MethodId} {args : Array Value} {below : List Frame} {meth : Method} {c : Code} {T0 : State} {locs : List Loc} {cells slots : Nat} {Z : State} {a0 : Array Value} {h0 : Heap} {Ls : Array Slot} (ob : Addr) (x0 : Int32) (x1 : Int32) (x2 : Addr)
    (X0 : Stand p l e room_1 s m args below meth c T0 locs cells slots) (hx : p.tables.exec = Jvm.exec) (hZ : Z.Warmed39 s.vm) (hw : ∀ d ∈ tables_1, d.before a0 Z = true) (hby : c.code = code) (hml : c.maxLocals = 22) (hown : s.vm.findClass "com/example/caprice/caprice/solver/DomainsRestorePinLaw" = some m.cls) (e0 : T0.heap = h0) (hsz : Ls.size = 22) (ER : Exa Z h0 ob "com/example/caprice/caprice/solver/Domains") {rm : Room} {Q : Option Value → Heap → List Loc → Prop}
    (M : MetFree l (⟨"com/example/caprice/caprice/solver/Domains", "remove", "(II[I)V"⟩ : MethodName) (head1 [Jvm.Cond.code (⟨"com/example/caprice/caprice/solver/Domains", "remove", "(II[I)V"⟩ : MethodName) prog_59_method_10_code 4 none] rm) (fun a U => a = #[(.ref ob), (.int x0), (.int x1), (.ref x2)] ∧ Z.Warmed39 U.vm ∧ U.heap = h0) (fun _ _ _ _ _ => True) (fun _ U o U' => ∃ v L, o = .returned v ∧ Q v U'.heap L ∧ FrameEnd U o U' L rm.cells rm.slots)) (hfr : rm.frames + 1 ≤ room_1.frames) (hlo : 0 + (4 + 11) + rm.locals ≤ room_1.locals) (hce : cells + rm.cells ≤ room_1.cells) (hsl : slots + rm.slots ≤ room_1.slots) :
    ∃ (T' : State) (v : Option Value) (L : List Loc), Stand p l e room_1 s m args below meth c T' (locs ++ L) (cells + rm.cells) (slots + rm.slots) ∧ Q v T'.heap L ∧ ∀ t, Steps p.tables e below (T'.setTop (mkF m 139 Ls (v.toList ++ []))) t → Steps p.tables e below (T0.setTop (mkF m 136 Ls [(.ref x2), (.int x1), (.int x0), (.ref ob)])) t := by
  obtain ⟨cq, kq, qa, qb, qc⟩ := isOf hZ e0 ER
  obtain ⟨v, _, ⟨T1, L1, k1, n1⟩, -, X1, ⟨Lc, hQ, l1, y1, z1⟩, st⟩ := X0.virtualBack hx (y := (⟨"com/example/caprice/caprice/solver/Domains", "remove", "(II[I)V"⟩ : MethodName)) (z := (⟨"com/example/caprice/caprice/solver/Domains", "remove", "(II[I)V"⟩ : MethodName)) hown (mvT hZ (hw _ (List.mem_of_getElem? (i := 45) rfl))) (mvT hZ (hw _ (List.mem_of_getElem? (i := 46) rfl))) (notFace_of_selects (args := #[]) (mvT hZ (hw _ (List.mem_of_getElem? (i := 48) rfl)))) (mvT hZ (hw _ (List.mem_of_getElem? (i := 48) rfl))) (mvT hZ (hw _ (List.mem_of_getElem? (i := 47) rfl))) (by decide) (backOf (W := 0) M hZ (hw _ (List.mem_of_getElem? (i := 49) rfl)) (hw _ (List.mem_of_getElem? (i := 7) rfl)) hfr hlo) qa qc (g := (mkF m 136 Ls [(.ref x2), (.int x1), (.int x0), (.ref ob)])) rfl (by rw [hml]; exact hsz) (Steps.refl _) (argsL := [(.int x0), (.int x1), (.ref x2)]) (rest := []) (lenOf pd298 rfl) rfl (by show 2 * 0 + _ ≤ _; exact Nat.le_of_eq rfl) (hb hby at_136) (fun _ _ => ⟨rfl, e0, hce, hsl⟩)
  dsimp only [Pt.U, Pt.locs, Pt.cells, Pt.slots] at X1 l1 y1 z1 st hQ
  subst l1 y1 z1
  exact ⟨T1, v, Lc, X1, hQ, fun t kt => st.trans kt⟩
set_option maxRecDepth 65536 in
set_option maxHeartbeats 40000000 in
theorem pR10 {p : Program} {l : Launch} {e : Env} {s : State} {m : MethodId} {args : Array Value} {below : List Frame} {meth : Method} {c : Code} {T0 : State} {locs : List Loc} {Z : State} {a0 : Array Value} {h0 : Heap} {n0 : Nat} (p1 : Int32) (p2 : Int32) (p3 : Int32) (p4 : Int32) (c0 : Int32) (c1 : Int32) (c2 : Int32) (nn : Int32) (jj : Int32) (dom : Addr) (non : Addr) (mm : Int32)
    (X0 : Stand p l e room_1 s m args below meth c T0 locs 11 404) (hx : p.tables.exec = Jvm.exec) (hZ : Z.Warmed39 s.vm) (hw : ∀ d ∈ tables_1, d.before a0 Z = true) (hby : c.code = code) (hml : c.maxLocals = 22) (hown : s.vm.findClass "com/example/caprice/caprice/solver/DomainsRestorePinLaw" = some m.cls) (e0 : T0.heap = h0) (N0 : Fr n0 locs) (O0 : Old Z n0 h0) (hd0 : nn < (2 : Int32)) :
    ∃ (T' : State) (locs' : List Loc), Stand p l e room_1 s m args below meth c T' locs' 11 404 ∧ Fr n0 locs' ∧ T'.heap = h0 ∧ ∀ t, Steps p.tables e below (T'.setTop (mkF m 175 #[.val (.int p1), .val (.int p2), .val (.int p3), .val (.int p4), .val (.int c0), .val (.int c1), .val (.int c2), .val (.int nn), .val (.int jj), .val (.ref dom), .val (.ref non), .val (.int mm), .unset, .unset, .unset, .unset, .unset, .unset, .unset, .unset, .unset, .unset] [])) t → Steps p.tables e below (T0.setTop (mkF m 152 #[.val (.int p1), .val (.int p2), .val (.int p3), .val (.int p4), .val (.int c0), .val (.int c1), .val (.int c2), .val (.int nn), .val (.int jj), .val (.ref dom), .val (.ref non), .val (.int mm), .unset, .unset, .unset, .unset, .unset, .unset, .unset, .unset, .unset, .unset] [])) t := by
  refine ⟨T0, _, X0, N0, e0, fun t kt => ?_⟩
  show Steps p.tables e below (T0.setTop (mkF m 152 #[.val (.int p1), .val (.int p2), .val (.int p3), .val (.int p4), .val (.int c0), .val (.int c1), .val (.int c2), .val (.int nn), .val (.int jj), .val (.ref dom), .val (.ref non), .val (.int mm), .unset, .unset, .unset, .unset, .unset, .unset, .unset, .unset, .unset, .unset] [])) _
  refine XS.iload X0.here hx rfl (hb hby at_152) rfl ?_
  show Steps p.tables e below (T0.setTop (mkF m 154 #[.val (.int p1), .val (.int p2), .val (.int p3), .val (.int p4), .val (.int c0), .val (.int c1), .val (.int c2), .val (.int nn), .val (.int jj), .val (.ref dom), .val (.ref non), .val (.int mm), .unset, .unset, .unset, .unset, .unset, .unset, .unset, .unset, .unset, .unset] [(.int nn)])) _
  refine XS.iconst X0.here hx rfl (hb hby at_154) ?_
  show Steps p.tables e below (T0.setTop (mkF m 155 #[.val (.int p1), .val (.int p2), .val (.int p3), .val (.int p4), .val (.int c0), .val (.int c1), .val (.int c2), .val (.int nn), .val (.int jj), .val (.ref dom), .val (.ref non), .val (.int mm), .unset, .unset, .unset, .unset, .unset, .unset, .unset, .unset, .unset, .unset] [(.int (2 : Int32)), (.int nn)])) _
  refine XS.icmpYes X0.here hx rfl (pc0 := 155) (pc' := 175) rfl (hb hby at_155) rfl (tlt hd0).1 (by decide) (by decide) ?_
  show Steps p.tables e below (T0.setTop (mkF m 175 #[.val (.int p1), .val (.int p2), .val (.int p3), .val (.int p4), .val (.int c0), .val (.int c1), .val (.int c2), .val (.int nn), .val (.int jj), .val (.ref dom), .val (.ref non), .val (.int mm), .unset, .unset, .unset, .unset, .unset, .unset, .unset, .unset, .unset, .unset] [])) _
  exact kt
set_option maxRecDepth 65536 in
set_option maxHeartbeats 40000000 in
theorem pR11 {p : Program} {l : Launch} {e : Env} {s : State} {m : MethodId} {args : Array Value} {below : List Frame} {meth : Method} {c : Code} {T0 : State} {locs : List Loc} {Z : State} {a0 : Array Value} {h0 : Heap} {n0 : Nat} (p1 : Int32) (p2 : Int32) (p3 : Int32) (p4 : Int32) (c0 : Int32) (c1 : Int32) (c2 : Int32) (nn : Int32) (jj : Int32) (dom : Addr) (non : Addr) (mm : Int32)
    (X0 : Stand p l e room_1 s m args below meth c T0 locs 11 404) (hx : p.tables.exec = Jvm.exec) (hZ : Z.Warmed39 s.vm) (hw : ∀ d ∈ tables_1, d.before a0 Z = true) (hby : c.code = code) (hml : c.maxLocals = 22) (hown : s.vm.findClass "com/example/caprice/caprice/solver/DomainsRestorePinLaw" = some m.cls) (e0 : T0.heap = h0) (N0 : Fr n0 locs) (O0 : Old Z n0 h0) (hd0 : ¬ (nn < (2 : Int32))) :
    ∃ (T' : State) (locs' : List Loc), Stand p l e room_1 s m args below meth c T' locs' 11 404 ∧ Fr n0 locs' ∧ T'.heap = h0 ∧ ∀ t, Steps p.tables e below (T'.setTop (mkF m 172 #[.val (.int p1), .val (.int p2), .val (.int p3), .val (.int p4), .val (.int c0), .val (.int c1), .val (.int c2), .val (.int nn), .val (.int jj), .val (.ref dom), .val (.ref non), .val (.int mm), .unset, .unset, .unset, .unset, .unset, .unset, .unset, .unset, .unset, .unset] [(.ref non), (.int (c1 &&& (63 : Int32))), (.int ((c1.toUInt32 >>> ((6 : Int32) &&& 31).toUInt32).toInt32)), (.ref dom)])) t → Steps p.tables e below (T0.setTop (mkF m 152 #[.val (.int p1), .val (.int p2), .val (.int p3), .val (.int p4), .val (.int c0), .val (.int c1), .val (.int c2), .val (.int nn), .val (.int jj), .val (.ref dom), .val (.ref non), .val (.int mm), .unset, .unset, .unset, .unset, .unset, .unset, .unset, .unset, .unset, .unset] [])) t := by
  refine ⟨T0, _, X0, N0, e0, fun t kt => ?_⟩
  show Steps p.tables e below (T0.setTop (mkF m 152 #[.val (.int p1), .val (.int p2), .val (.int p3), .val (.int p4), .val (.int c0), .val (.int c1), .val (.int c2), .val (.int nn), .val (.int jj), .val (.ref dom), .val (.ref non), .val (.int mm), .unset, .unset, .unset, .unset, .unset, .unset, .unset, .unset, .unset, .unset] [])) _
  refine XS.iload X0.here hx rfl (hb hby at_152) rfl ?_
  show Steps p.tables e below (T0.setTop (mkF m 154 #[.val (.int p1), .val (.int p2), .val (.int p3), .val (.int p4), .val (.int c0), .val (.int c1), .val (.int c2), .val (.int nn), .val (.int jj), .val (.ref dom), .val (.ref non), .val (.int mm), .unset, .unset, .unset, .unset, .unset, .unset, .unset, .unset, .unset, .unset] [(.int nn)])) _
  refine XS.iconst X0.here hx rfl (hb hby at_154) ?_
  show Steps p.tables e below (T0.setTop (mkF m 155 #[.val (.int p1), .val (.int p2), .val (.int p3), .val (.int p4), .val (.int c0), .val (.int c1), .val (.int c2), .val (.int nn), .val (.int jj), .val (.ref dom), .val (.ref non), .val (.int mm), .unset, .unset, .unset, .unset, .unset, .unset, .unset, .unset, .unset, .unset] [(.int (2 : Int32)), (.int nn)])) _
  refine XS.icmpNo X0.here hx rfl (hb hby at_155) rfl (flt hd0).1 ?_
  show Steps p.tables e below (T0.setTop (mkF m 158 #[.val (.int p1), .val (.int p2), .val (.int p3), .val (.int p4), .val (.int c0), .val (.int c1), .val (.int c2), .val (.int nn), .val (.int jj), .val (.ref dom), .val (.ref non), .val (.int mm), .unset, .unset, .unset, .unset, .unset, .unset, .unset, .unset, .unset, .unset] [])) _
  refine XS.aload X0.here hx rfl (hb hby at_158) rfl rfl ?_
  show Steps p.tables e below (T0.setTop (mkF m 160 #[.val (.int p1), .val (.int p2), .val (.int p3), .val (.int p4), .val (.int c0), .val (.int c1), .val (.int c2), .val (.int nn), .val (.int jj), .val (.ref dom), .val (.ref non), .val (.int mm), .unset, .unset, .unset, .unset, .unset, .unset, .unset, .unset, .unset, .unset] [(.ref dom)])) _
  refine XS.iload X0.here hx rfl (hb hby at_160) rfl ?_
  show Steps p.tables e below (T0.setTop (mkF m 162 #[.val (.int p1), .val (.int p2), .val (.int p3), .val (.int p4), .val (.int c0), .val (.int c1), .val (.int c2), .val (.int nn), .val (.int jj), .val (.ref dom), .val (.ref non), .val (.int mm), .unset, .unset, .unset, .unset, .unset, .unset, .unset, .unset, .unset, .unset] [(.int c1), (.ref dom)])) _
  refine XS.bipush X0.here hx rfl (hb hby at_162) ?_
  show Steps p.tables e below (T0.setTop (mkF m 164 #[.val (.int p1), .val (.int p2), .val (.int p3), .val (.int p4), .val (.int c0), .val (.int c1), .val (.int c2), .val (.int nn), .val (.int jj), .val (.ref dom), .val (.ref non), .val (.int mm), .unset, .unset, .unset, .unset, .unset, .unset, .unset, .unset, .unset, .unset] [(.int (6 : Int32)), (.int c1), (.ref dom)])) _
  refine XS.iushr X0.here hx rfl (hb hby at_164) rfl ?_
  show Steps p.tables e below (T0.setTop (mkF m 165 #[.val (.int p1), .val (.int p2), .val (.int p3), .val (.int p4), .val (.int c0), .val (.int c1), .val (.int c2), .val (.int nn), .val (.int jj), .val (.ref dom), .val (.ref non), .val (.int mm), .unset, .unset, .unset, .unset, .unset, .unset, .unset, .unset, .unset, .unset] [(.int ((c1.toUInt32 >>> ((6 : Int32) &&& 31).toUInt32).toInt32)), (.ref dom)])) _
  refine XS.iload X0.here hx rfl (hb hby at_165) rfl ?_
  show Steps p.tables e below (T0.setTop (mkF m 167 #[.val (.int p1), .val (.int p2), .val (.int p3), .val (.int p4), .val (.int c0), .val (.int c1), .val (.int c2), .val (.int nn), .val (.int jj), .val (.ref dom), .val (.ref non), .val (.int mm), .unset, .unset, .unset, .unset, .unset, .unset, .unset, .unset, .unset, .unset] [(.int c1), (.int ((c1.toUInt32 >>> ((6 : Int32) &&& 31).toUInt32).toInt32)), (.ref dom)])) _
  refine XS.bipush X0.here hx rfl (hb hby at_167) ?_
  show Steps p.tables e below (T0.setTop (mkF m 169 #[.val (.int p1), .val (.int p2), .val (.int p3), .val (.int p4), .val (.int c0), .val (.int c1), .val (.int c2), .val (.int nn), .val (.int jj), .val (.ref dom), .val (.ref non), .val (.int mm), .unset, .unset, .unset, .unset, .unset, .unset, .unset, .unset, .unset, .unset] [(.int (63 : Int32)), (.int c1), (.int ((c1.toUInt32 >>> ((6 : Int32) &&& 31).toUInt32).toInt32)), (.ref dom)])) _
  refine XS.iand X0.here hx rfl (hb hby at_169) rfl ?_
  show Steps p.tables e below (T0.setTop (mkF m 170 #[.val (.int p1), .val (.int p2), .val (.int p3), .val (.int p4), .val (.int c0), .val (.int c1), .val (.int c2), .val (.int nn), .val (.int jj), .val (.ref dom), .val (.ref non), .val (.int mm), .unset, .unset, .unset, .unset, .unset, .unset, .unset, .unset, .unset, .unset] [(.int (c1 &&& (63 : Int32))), (.int ((c1.toUInt32 >>> ((6 : Int32) &&& 31).toUInt32).toInt32)), (.ref dom)])) _
  refine XS.aload X0.here hx rfl (hb hby at_170) rfl rfl ?_
  show Steps p.tables e below (T0.setTop (mkF m 172 #[.val (.int p1), .val (.int p2), .val (.int p3), .val (.int p4), .val (.int c0), .val (.int c1), .val (.int c2), .val (.int nn), .val (.int jj), .val (.ref dom), .val (.ref non), .val (.int mm), .unset, .unset, .unset, .unset, .unset, .unset, .unset, .unset, .unset, .unset] [(.ref non), (.int (c1 &&& (63 : Int32))), (.int ((c1.toUInt32 >>> ((6 : Int32) &&& 31).toUInt32).toInt32)), (.ref dom)])) _
  exact kt
set_option maxRecDepth 65536 in
set_option maxHeartbeats 4000000 in
theorem cR1 {p : Program} {l : Launch} {e : Env} {s : State} {m : MethodId} {args : Array Value} {below : List Frame} {meth : Method} {c : Code} {T0 : State} {locs : List Loc} {cells slots : Nat} {Z : State} {a0 : Array Value} {h0 : Heap} {Ls : Array Slot} (ob : Addr) (x0 : Int32) (x1 : Int32) (x2 : Addr)
    (X0 : Stand p l e room_1 s m args below meth c T0 locs cells slots) (hx : p.tables.exec = Jvm.exec) (hZ : Z.Warmed39 s.vm) (hw : ∀ d ∈ tables_1, d.before a0 Z = true) (hby : c.code = code) (hml : c.maxLocals = 22) (hown : s.vm.findClass "com/example/caprice/caprice/solver/DomainsRestorePinLaw" = some m.cls) (e0 : T0.heap = h0) (hsz : Ls.size = 22) (ER : Exa Z h0 ob "com/example/caprice/caprice/solver/Domains") {rm : Room} {Q : Option Value → Heap → List Loc → Prop}
    (M : MetFree l (⟨"com/example/caprice/caprice/solver/Domains", "remove", "(II[I)V"⟩ : MethodName) (head1 [Jvm.Cond.code (⟨"com/example/caprice/caprice/solver/Domains", "remove", "(II[I)V"⟩ : MethodName) prog_59_method_10_code 4 none] rm) (fun a U => a = #[(.ref ob), (.int x0), (.int x1), (.ref x2)] ∧ Z.Warmed39 U.vm ∧ U.heap = h0) (fun _ _ _ _ _ => True) (fun _ U o U' => ∃ v L, o = .returned v ∧ Q v U'.heap L ∧ FrameEnd U o U' L rm.cells rm.slots)) (hfr : rm.frames + 1 ≤ room_1.frames) (hlo : 0 + (4 + 11) + rm.locals ≤ room_1.locals) (hce : cells + rm.cells ≤ room_1.cells) (hsl : slots + rm.slots ≤ room_1.slots) :
    ∃ (T' : State) (v : Option Value) (L : List Loc), Stand p l e room_1 s m args below meth c T' (locs ++ L) (cells + rm.cells) (slots + rm.slots) ∧ Q v T'.heap L ∧ ∀ t, Steps p.tables e below (T'.setTop (mkF m 175 Ls (v.toList ++ []))) t → Steps p.tables e below (T0.setTop (mkF m 172 Ls [(.ref x2), (.int x1), (.int x0), (.ref ob)])) t := by
  obtain ⟨cq, kq, qa, qb, qc⟩ := isOf hZ e0 ER
  obtain ⟨v, _, ⟨T1, L1, k1, n1⟩, -, X1, ⟨Lc, hQ, l1, y1, z1⟩, st⟩ := X0.virtualBack hx (y := (⟨"com/example/caprice/caprice/solver/Domains", "remove", "(II[I)V"⟩ : MethodName)) (z := (⟨"com/example/caprice/caprice/solver/Domains", "remove", "(II[I)V"⟩ : MethodName)) hown (mvT hZ (hw _ (List.mem_of_getElem? (i := 45) rfl))) (mvT hZ (hw _ (List.mem_of_getElem? (i := 46) rfl))) (notFace_of_selects (args := #[]) (mvT hZ (hw _ (List.mem_of_getElem? (i := 48) rfl)))) (mvT hZ (hw _ (List.mem_of_getElem? (i := 48) rfl))) (mvT hZ (hw _ (List.mem_of_getElem? (i := 47) rfl))) (by decide) (backOf (W := 0) M hZ (hw _ (List.mem_of_getElem? (i := 49) rfl)) (hw _ (List.mem_of_getElem? (i := 7) rfl)) hfr hlo) qa qc (g := (mkF m 172 Ls [(.ref x2), (.int x1), (.int x0), (.ref ob)])) rfl (by rw [hml]; exact hsz) (Steps.refl _) (argsL := [(.int x0), (.int x1), (.ref x2)]) (rest := []) (lenOf pd298 rfl) rfl (by show 2 * 0 + _ ≤ _; exact Nat.le_of_eq rfl) (hb hby at_172) (fun _ _ => ⟨rfl, e0, hce, hsl⟩)
  dsimp only [Pt.U, Pt.locs, Pt.cells, Pt.slots] at X1 l1 y1 z1 st hQ
  subst l1 y1 z1
  exact ⟨T1, v, Lc, X1, hQ, fun t kt => st.trans kt⟩
set_option maxRecDepth 65536 in
set_option maxHeartbeats 40000000 in
theorem pR20 {p : Program} {l : Launch} {e : Env} {s : State} {m : MethodId} {args : Array Value} {below : List Frame} {meth : Method} {c : Code} {T0 : State} {locs : List Loc} {Z : State} {a0 : Array Value} {h0 : Heap} {n0 : Nat} (p1 : Int32) (p2 : Int32) (p3 : Int32) (p4 : Int32) (c0 : Int32) (c1 : Int32) (c2 : Int32) (nn : Int32) (jj : Int32) (dom : Addr) (non : Addr) (mm : Int32)
    (X0 : Stand p l e room_1 s m args below meth c T0 locs 11 404) (hx : p.tables.exec = Jvm.exec) (hZ : Z.Warmed39 s.vm) (hw : ∀ d ∈ tables_1, d.before a0 Z = true) (hby : c.code = code) (hml : c.maxLocals = 22) (hown : s.vm.findClass "com/example/caprice/caprice/solver/DomainsRestorePinLaw" = some m.cls) (e0 : T0.heap = h0) (N0 : Fr n0 locs) (O0 : Old Z n0 h0) (hd0 : nn < (3 : Int32)) :
    ∃ (T' : State) (locs' : List Loc), Stand p l e room_1 s m args below meth c T' locs' 11 404 ∧ Fr n0 locs' ∧ T'.heap = h0 ∧ ∀ t, Steps p.tables e below (T'.setTop (mkF m 211 #[.val (.int p1), .val (.int p2), .val (.int p3), .val (.int p4), .val (.int c0), .val (.int c1), .val (.int c2), .val (.int nn), .val (.int jj), .val (.ref dom), .val (.ref non), .val (.int mm), .unset, .unset, .unset, .unset, .unset, .unset, .unset, .unset, .unset, .unset] [])) t → Steps p.tables e below (T0.setTop (mkF m 188 #[.val (.int p1), .val (.int p2), .val (.int p3), .val (.int p4), .val (.int c0), .val (.int c1), .val (.int c2), .val (.int nn), .val (.int jj), .val (.ref dom), .val (.ref non), .val (.int mm), .unset, .unset, .unset, .unset, .unset, .unset, .unset, .unset, .unset, .unset] [])) t := by
  refine ⟨T0, _, X0, N0, e0, fun t kt => ?_⟩
  show Steps p.tables e below (T0.setTop (mkF m 188 #[.val (.int p1), .val (.int p2), .val (.int p3), .val (.int p4), .val (.int c0), .val (.int c1), .val (.int c2), .val (.int nn), .val (.int jj), .val (.ref dom), .val (.ref non), .val (.int mm), .unset, .unset, .unset, .unset, .unset, .unset, .unset, .unset, .unset, .unset] [])) _
  refine XS.iload X0.here hx rfl (hb hby at_188) rfl ?_
  show Steps p.tables e below (T0.setTop (mkF m 190 #[.val (.int p1), .val (.int p2), .val (.int p3), .val (.int p4), .val (.int c0), .val (.int c1), .val (.int c2), .val (.int nn), .val (.int jj), .val (.ref dom), .val (.ref non), .val (.int mm), .unset, .unset, .unset, .unset, .unset, .unset, .unset, .unset, .unset, .unset] [(.int nn)])) _
  refine XS.iconst X0.here hx rfl (hb hby at_190) ?_
  show Steps p.tables e below (T0.setTop (mkF m 191 #[.val (.int p1), .val (.int p2), .val (.int p3), .val (.int p4), .val (.int c0), .val (.int c1), .val (.int c2), .val (.int nn), .val (.int jj), .val (.ref dom), .val (.ref non), .val (.int mm), .unset, .unset, .unset, .unset, .unset, .unset, .unset, .unset, .unset, .unset] [(.int (3 : Int32)), (.int nn)])) _
  refine XS.icmpYes X0.here hx rfl (pc0 := 191) (pc' := 211) rfl (hb hby at_191) rfl (tlt hd0).1 (by decide) (by decide) ?_
  show Steps p.tables e below (T0.setTop (mkF m 211 #[.val (.int p1), .val (.int p2), .val (.int p3), .val (.int p4), .val (.int c0), .val (.int c1), .val (.int c2), .val (.int nn), .val (.int jj), .val (.ref dom), .val (.ref non), .val (.int mm), .unset, .unset, .unset, .unset, .unset, .unset, .unset, .unset, .unset, .unset] [])) _
  exact kt
set_option maxRecDepth 65536 in
set_option maxHeartbeats 40000000 in
theorem pR21 {p : Program} {l : Launch} {e : Env} {s : State} {m : MethodId} {args : Array Value} {below : List Frame} {meth : Method} {c : Code} {T0 : State} {locs : List Loc} {Z : State} {a0 : Array Value} {h0 : Heap} {n0 : Nat} (p1 : Int32) (p2 : Int32) (p3 : Int32) (p4 : Int32) (c0 : Int32) (c1 : Int32) (c2 : Int32) (nn : Int32) (jj : Int32) (dom : Addr) (non : Addr) (mm : Int32)
    (X0 : Stand p l e room_1 s m args below meth c T0 locs 11 404) (hx : p.tables.exec = Jvm.exec) (hZ : Z.Warmed39 s.vm) (hw : ∀ d ∈ tables_1, d.before a0 Z = true) (hby : c.code = code) (hml : c.maxLocals = 22) (hown : s.vm.findClass "com/example/caprice/caprice/solver/DomainsRestorePinLaw" = some m.cls) (e0 : T0.heap = h0) (N0 : Fr n0 locs) (O0 : Old Z n0 h0) (hd0 : ¬ (nn < (3 : Int32))) :
    ∃ (T' : State) (locs' : List Loc), Stand p l e room_1 s m args below meth c T' locs' 11 404 ∧ Fr n0 locs' ∧ T'.heap = h0 ∧ ∀ t, Steps p.tables e below (T'.setTop (mkF m 208 #[.val (.int p1), .val (.int p2), .val (.int p3), .val (.int p4), .val (.int c0), .val (.int c1), .val (.int c2), .val (.int nn), .val (.int jj), .val (.ref dom), .val (.ref non), .val (.int mm), .unset, .unset, .unset, .unset, .unset, .unset, .unset, .unset, .unset, .unset] [(.ref non), (.int (c2 &&& (63 : Int32))), (.int ((c2.toUInt32 >>> ((6 : Int32) &&& 31).toUInt32).toInt32)), (.ref dom)])) t → Steps p.tables e below (T0.setTop (mkF m 188 #[.val (.int p1), .val (.int p2), .val (.int p3), .val (.int p4), .val (.int c0), .val (.int c1), .val (.int c2), .val (.int nn), .val (.int jj), .val (.ref dom), .val (.ref non), .val (.int mm), .unset, .unset, .unset, .unset, .unset, .unset, .unset, .unset, .unset, .unset] [])) t := by
  refine ⟨T0, _, X0, N0, e0, fun t kt => ?_⟩
  show Steps p.tables e below (T0.setTop (mkF m 188 #[.val (.int p1), .val (.int p2), .val (.int p3), .val (.int p4), .val (.int c0), .val (.int c1), .val (.int c2), .val (.int nn), .val (.int jj), .val (.ref dom), .val (.ref non), .val (.int mm), .unset, .unset, .unset, .unset, .unset, .unset, .unset, .unset, .unset, .unset] [])) _
  refine XS.iload X0.here hx rfl (hb hby at_188) rfl ?_
  show Steps p.tables e below (T0.setTop (mkF m 190 #[.val (.int p1), .val (.int p2), .val (.int p3), .val (.int p4), .val (.int c0), .val (.int c1), .val (.int c2), .val (.int nn), .val (.int jj), .val (.ref dom), .val (.ref non), .val (.int mm), .unset, .unset, .unset, .unset, .unset, .unset, .unset, .unset, .unset, .unset] [(.int nn)])) _
  refine XS.iconst X0.here hx rfl (hb hby at_190) ?_
  show Steps p.tables e below (T0.setTop (mkF m 191 #[.val (.int p1), .val (.int p2), .val (.int p3), .val (.int p4), .val (.int c0), .val (.int c1), .val (.int c2), .val (.int nn), .val (.int jj), .val (.ref dom), .val (.ref non), .val (.int mm), .unset, .unset, .unset, .unset, .unset, .unset, .unset, .unset, .unset, .unset] [(.int (3 : Int32)), (.int nn)])) _
  refine XS.icmpNo X0.here hx rfl (hb hby at_191) rfl (flt hd0).1 ?_
  show Steps p.tables e below (T0.setTop (mkF m 194 #[.val (.int p1), .val (.int p2), .val (.int p3), .val (.int p4), .val (.int c0), .val (.int c1), .val (.int c2), .val (.int nn), .val (.int jj), .val (.ref dom), .val (.ref non), .val (.int mm), .unset, .unset, .unset, .unset, .unset, .unset, .unset, .unset, .unset, .unset] [])) _
  refine XS.aload X0.here hx rfl (hb hby at_194) rfl rfl ?_
  show Steps p.tables e below (T0.setTop (mkF m 196 #[.val (.int p1), .val (.int p2), .val (.int p3), .val (.int p4), .val (.int c0), .val (.int c1), .val (.int c2), .val (.int nn), .val (.int jj), .val (.ref dom), .val (.ref non), .val (.int mm), .unset, .unset, .unset, .unset, .unset, .unset, .unset, .unset, .unset, .unset] [(.ref dom)])) _
  refine XS.iload X0.here hx rfl (hb hby at_196) rfl ?_
  show Steps p.tables e below (T0.setTop (mkF m 198 #[.val (.int p1), .val (.int p2), .val (.int p3), .val (.int p4), .val (.int c0), .val (.int c1), .val (.int c2), .val (.int nn), .val (.int jj), .val (.ref dom), .val (.ref non), .val (.int mm), .unset, .unset, .unset, .unset, .unset, .unset, .unset, .unset, .unset, .unset] [(.int c2), (.ref dom)])) _
  refine XS.bipush X0.here hx rfl (hb hby at_198) ?_
  show Steps p.tables e below (T0.setTop (mkF m 200 #[.val (.int p1), .val (.int p2), .val (.int p3), .val (.int p4), .val (.int c0), .val (.int c1), .val (.int c2), .val (.int nn), .val (.int jj), .val (.ref dom), .val (.ref non), .val (.int mm), .unset, .unset, .unset, .unset, .unset, .unset, .unset, .unset, .unset, .unset] [(.int (6 : Int32)), (.int c2), (.ref dom)])) _
  refine XS.iushr X0.here hx rfl (hb hby at_200) rfl ?_
  show Steps p.tables e below (T0.setTop (mkF m 201 #[.val (.int p1), .val (.int p2), .val (.int p3), .val (.int p4), .val (.int c0), .val (.int c1), .val (.int c2), .val (.int nn), .val (.int jj), .val (.ref dom), .val (.ref non), .val (.int mm), .unset, .unset, .unset, .unset, .unset, .unset, .unset, .unset, .unset, .unset] [(.int ((c2.toUInt32 >>> ((6 : Int32) &&& 31).toUInt32).toInt32)), (.ref dom)])) _
  refine XS.iload X0.here hx rfl (hb hby at_201) rfl ?_
  show Steps p.tables e below (T0.setTop (mkF m 203 #[.val (.int p1), .val (.int p2), .val (.int p3), .val (.int p4), .val (.int c0), .val (.int c1), .val (.int c2), .val (.int nn), .val (.int jj), .val (.ref dom), .val (.ref non), .val (.int mm), .unset, .unset, .unset, .unset, .unset, .unset, .unset, .unset, .unset, .unset] [(.int c2), (.int ((c2.toUInt32 >>> ((6 : Int32) &&& 31).toUInt32).toInt32)), (.ref dom)])) _
  refine XS.bipush X0.here hx rfl (hb hby at_203) ?_
  show Steps p.tables e below (T0.setTop (mkF m 205 #[.val (.int p1), .val (.int p2), .val (.int p3), .val (.int p4), .val (.int c0), .val (.int c1), .val (.int c2), .val (.int nn), .val (.int jj), .val (.ref dom), .val (.ref non), .val (.int mm), .unset, .unset, .unset, .unset, .unset, .unset, .unset, .unset, .unset, .unset] [(.int (63 : Int32)), (.int c2), (.int ((c2.toUInt32 >>> ((6 : Int32) &&& 31).toUInt32).toInt32)), (.ref dom)])) _
  refine XS.iand X0.here hx rfl (hb hby at_205) rfl ?_
  show Steps p.tables e below (T0.setTop (mkF m 206 #[.val (.int p1), .val (.int p2), .val (.int p3), .val (.int p4), .val (.int c0), .val (.int c1), .val (.int c2), .val (.int nn), .val (.int jj), .val (.ref dom), .val (.ref non), .val (.int mm), .unset, .unset, .unset, .unset, .unset, .unset, .unset, .unset, .unset, .unset] [(.int (c2 &&& (63 : Int32))), (.int ((c2.toUInt32 >>> ((6 : Int32) &&& 31).toUInt32).toInt32)), (.ref dom)])) _
  refine XS.aload X0.here hx rfl (hb hby at_206) rfl rfl ?_
  show Steps p.tables e below (T0.setTop (mkF m 208 #[.val (.int p1), .val (.int p2), .val (.int p3), .val (.int p4), .val (.int c0), .val (.int c1), .val (.int c2), .val (.int nn), .val (.int jj), .val (.ref dom), .val (.ref non), .val (.int mm), .unset, .unset, .unset, .unset, .unset, .unset, .unset, .unset, .unset, .unset] [(.ref non), (.int (c2 &&& (63 : Int32))), (.int ((c2.toUInt32 >>> ((6 : Int32) &&& 31).toUInt32).toInt32)), (.ref dom)])) _
  exact kt
set_option maxRecDepth 65536 in
set_option maxHeartbeats 4000000 in
theorem cR2 {p : Program} {l : Launch} {e : Env} {s : State} {m : MethodId} {args : Array Value} {below : List Frame} {meth : Method} {c : Code} {T0 : State} {locs : List Loc} {cells slots : Nat} {Z : State} {a0 : Array Value} {h0 : Heap} {Ls : Array Slot} (ob : Addr) (x0 : Int32) (x1 : Int32) (x2 : Addr)
    (X0 : Stand p l e room_1 s m args below meth c T0 locs cells slots) (hx : p.tables.exec = Jvm.exec) (hZ : Z.Warmed39 s.vm) (hw : ∀ d ∈ tables_1, d.before a0 Z = true) (hby : c.code = code) (hml : c.maxLocals = 22) (hown : s.vm.findClass "com/example/caprice/caprice/solver/DomainsRestorePinLaw" = some m.cls) (e0 : T0.heap = h0) (hsz : Ls.size = 22) (ER : Exa Z h0 ob "com/example/caprice/caprice/solver/Domains") {rm : Room} {Q : Option Value → Heap → List Loc → Prop}
    (M : MetFree l (⟨"com/example/caprice/caprice/solver/Domains", "remove", "(II[I)V"⟩ : MethodName) (head1 [Jvm.Cond.code (⟨"com/example/caprice/caprice/solver/Domains", "remove", "(II[I)V"⟩ : MethodName) prog_59_method_10_code 4 none] rm) (fun a U => a = #[(.ref ob), (.int x0), (.int x1), (.ref x2)] ∧ Z.Warmed39 U.vm ∧ U.heap = h0) (fun _ _ _ _ _ => True) (fun _ U o U' => ∃ v L, o = .returned v ∧ Q v U'.heap L ∧ FrameEnd U o U' L rm.cells rm.slots)) (hfr : rm.frames + 1 ≤ room_1.frames) (hlo : 0 + (4 + 11) + rm.locals ≤ room_1.locals) (hce : cells + rm.cells ≤ room_1.cells) (hsl : slots + rm.slots ≤ room_1.slots) :
    ∃ (T' : State) (v : Option Value) (L : List Loc), Stand p l e room_1 s m args below meth c T' (locs ++ L) (cells + rm.cells) (slots + rm.slots) ∧ Q v T'.heap L ∧ ∀ t, Steps p.tables e below (T'.setTop (mkF m 211 Ls (v.toList ++ []))) t → Steps p.tables e below (T0.setTop (mkF m 208 Ls [(.ref x2), (.int x1), (.int x0), (.ref ob)])) t := by
  obtain ⟨cq, kq, qa, qb, qc⟩ := isOf hZ e0 ER
  obtain ⟨v, _, ⟨T1, L1, k1, n1⟩, -, X1, ⟨Lc, hQ, l1, y1, z1⟩, st⟩ := X0.virtualBack hx (y := (⟨"com/example/caprice/caprice/solver/Domains", "remove", "(II[I)V"⟩ : MethodName)) (z := (⟨"com/example/caprice/caprice/solver/Domains", "remove", "(II[I)V"⟩ : MethodName)) hown (mvT hZ (hw _ (List.mem_of_getElem? (i := 45) rfl))) (mvT hZ (hw _ (List.mem_of_getElem? (i := 46) rfl))) (notFace_of_selects (args := #[]) (mvT hZ (hw _ (List.mem_of_getElem? (i := 48) rfl)))) (mvT hZ (hw _ (List.mem_of_getElem? (i := 48) rfl))) (mvT hZ (hw _ (List.mem_of_getElem? (i := 47) rfl))) (by decide) (backOf (W := 0) M hZ (hw _ (List.mem_of_getElem? (i := 49) rfl)) (hw _ (List.mem_of_getElem? (i := 7) rfl)) hfr hlo) qa qc (g := (mkF m 208 Ls [(.ref x2), (.int x1), (.int x0), (.ref ob)])) rfl (by rw [hml]; exact hsz) (Steps.refl _) (argsL := [(.int x0), (.int x1), (.ref x2)]) (rest := []) (lenOf pd298 rfl) rfl (by show 2 * 0 + _ ≤ _; exact Nat.le_of_eq rfl) (hb hby at_208) (fun _ _ => ⟨rfl, e0, hce, hsl⟩)
  dsimp only [Pt.U, Pt.locs, Pt.cells, Pt.slots] at X1 l1 y1 z1 st hQ
  subst l1 y1 z1
  exact ⟨T1, v, Lc, X1, hQ, fun t kt => st.trans kt⟩
set_option maxRecDepth 65536 in
set_option maxHeartbeats 40000000 in
theorem pS {p : Program} {l : Launch} {e : Env} {s : State} {m : MethodId} {args : Array Value} {below : List Frame} {meth : Method} {c : Code} {T0 : State} {locs : List Loc} {Z : State} {a0 : Array Value} {h0 : Heap} {n0 : Nat} (p1 : Int32) (p2 : Int32) (p3 : Int32) (p4 : Int32) (c0 : Int32) (c1 : Int32) (c2 : Int32) (nn : Int32) (jj : Int32) (dom : Addr) (non : Addr) (mm : Int32)
    (X0 : Stand p l e room_1 s m args below meth c T0 locs 11 404) (hx : p.tables.exec = Jvm.exec) (hZ : Z.Warmed39 s.vm) (hw : ∀ d ∈ tables_1, d.before a0 Z = true) (hby : c.code = code) (hml : c.maxLocals = 22) (hown : s.vm.findClass "com/example/caprice/caprice/solver/DomainsRestorePinLaw" = some m.cls) (e0 : T0.heap = h0) (N0 : Fr n0 locs) (O0 : Old Z n0 h0) :
    ∃ (T' : State) (locs' : List Loc), Stand p l e room_1 s m args below meth c T' locs' 11 404 ∧ Fr n0 locs' ∧ T'.heap = h0 ∧ ∀ t, Steps p.tables e below (T'.setTop (mkF m 228 #[.val (.int p1), .val (.int p2), .val (.int p3), .val (.int p4), .val (.int c0), .val (.int c1), .val (.int c2), .val (.int nn), .val (.int jj), .val (.ref dom), .val (.ref non), .val (.int mm), .unset, .unset, .unset, .unset, .unset, .unset, .unset, .unset, .unset, .unset] [(.int mm), (.ref dom)])) t → Steps p.tables e below (T0.setTop (mkF m 224 #[.val (.int p1), .val (.int p2), .val (.int p3), .val (.int p4), .val (.int c0), .val (.int c1), .val (.int c2), .val (.int nn), .val (.int jj), .val (.ref dom), .val (.ref non), .val (.int mm), .unset, .unset, .unset, .unset, .unset, .unset, .unset, .unset, .unset, .unset] [])) t := by
  refine ⟨T0, _, X0, N0, e0, fun t kt => ?_⟩
  show Steps p.tables e below (T0.setTop (mkF m 224 #[.val (.int p1), .val (.int p2), .val (.int p3), .val (.int p4), .val (.int c0), .val (.int c1), .val (.int c2), .val (.int nn), .val (.int jj), .val (.ref dom), .val (.ref non), .val (.int mm), .unset, .unset, .unset, .unset, .unset, .unset, .unset, .unset, .unset, .unset] [])) _
  refine XS.aload X0.here hx rfl (hb hby at_224) rfl rfl ?_
  show Steps p.tables e below (T0.setTop (mkF m 226 #[.val (.int p1), .val (.int p2), .val (.int p3), .val (.int p4), .val (.int c0), .val (.int c1), .val (.int c2), .val (.int nn), .val (.int jj), .val (.ref dom), .val (.ref non), .val (.int mm), .unset, .unset, .unset, .unset, .unset, .unset, .unset, .unset, .unset, .unset] [(.ref dom)])) _
  refine XS.iload X0.here hx rfl (hb hby at_226) rfl ?_
  show Steps p.tables e below (T0.setTop (mkF m 228 #[.val (.int p1), .val (.int p2), .val (.int p3), .val (.int p4), .val (.int c0), .val (.int c1), .val (.int c2), .val (.int nn), .val (.int jj), .val (.ref dom), .val (.ref non), .val (.int mm), .unset, .unset, .unset, .unset, .unset, .unset, .unset, .unset, .unset, .unset] [(.int mm), (.ref dom)])) _
  exact kt
theorem pd304 : parseMethodDescriptor "(I)V" = some ⟨[.int], none⟩ := by decide +kernel
set_option maxRecDepth 65536 in
set_option maxHeartbeats 4000000 in
theorem cS {p : Program} {l : Launch} {e : Env} {s : State} {m : MethodId} {args : Array Value} {below : List Frame} {meth : Method} {c : Code} {T0 : State} {locs : List Loc} {cells slots : Nat} {Z : State} {a0 : Array Value} {h0 : Heap} {Ls : Array Slot} (ob : Addr) (x0 : Int32)
    (X0 : Stand p l e room_1 s m args below meth c T0 locs cells slots) (hx : p.tables.exec = Jvm.exec) (hZ : Z.Warmed39 s.vm) (hw : ∀ d ∈ tables_1, d.before a0 Z = true) (hby : c.code = code) (hml : c.maxLocals = 22) (hown : s.vm.findClass "com/example/caprice/caprice/solver/DomainsRestorePinLaw" = some m.cls) (e0 : T0.heap = h0) (hsz : Ls.size = 22) (ER : Exa Z h0 ob "com/example/caprice/caprice/solver/Domains") {rm : Room} {Q : Option Value → Heap → List Loc → Prop}
    (M : MetFree l (⟨"com/example/caprice/caprice/solver/Domains", "restore", "(I)V"⟩ : MethodName) (head1 [Jvm.Cond.code (⟨"com/example/caprice/caprice/solver/Domains", "restore", "(I)V"⟩ : MethodName) prog_59_method_9_code 4 none] rm) (fun a U => a = #[(.ref ob), (.int x0)] ∧ Z.Warmed39 U.vm ∧ U.heap = h0) (fun _ _ _ _ _ => True) (fun _ U o U' => ∃ v L, o = .returned v ∧ Q v U'.heap L ∧ FrameEnd U o U' L rm.cells rm.slots)) (hfr : rm.frames + 1 ≤ room_1.frames) (hlo : 0 + (4 + 11) + rm.locals ≤ room_1.locals) (hce : cells + rm.cells ≤ room_1.cells) (hsl : slots + rm.slots ≤ room_1.slots) :
    ∃ (T' : State) (v : Option Value) (L : List Loc), Stand p l e room_1 s m args below meth c T' (locs ++ L) (cells + rm.cells) (slots + rm.slots) ∧ Q v T'.heap L ∧ ∀ t, Steps p.tables e below (T'.setTop (mkF m 231 Ls (v.toList ++ []))) t → Steps p.tables e below (T0.setTop (mkF m 228 Ls [(.int x0), (.ref ob)])) t := by
  obtain ⟨cq, kq, qa, qb, qc⟩ := isOf hZ e0 ER
  obtain ⟨v, _, ⟨T1, L1, k1, n1⟩, -, X1, ⟨Lc, hQ, l1, y1, z1⟩, st⟩ := X0.virtualBack hx (y := (⟨"com/example/caprice/caprice/solver/Domains", "restore", "(I)V"⟩ : MethodName)) (z := (⟨"com/example/caprice/caprice/solver/Domains", "restore", "(I)V"⟩ : MethodName)) hown (mvT hZ (hw _ (List.mem_of_getElem? (i := 51) rfl))) (mvT hZ (hw _ (List.mem_of_getElem? (i := 52) rfl))) (notFace_of_selects (args := #[]) (mvT hZ (hw _ (List.mem_of_getElem? (i := 54) rfl)))) (mvT hZ (hw _ (List.mem_of_getElem? (i := 54) rfl))) (mvT hZ (hw _ (List.mem_of_getElem? (i := 53) rfl))) (by decide) (backOf (W := 0) M hZ (hw _ (List.mem_of_getElem? (i := 55) rfl)) (hw _ (List.mem_of_getElem? (i := 7) rfl)) hfr hlo) qa qc (g := (mkF m 228 Ls [(.int x0), (.ref ob)])) rfl (by rw [hml]; exact hsz) (Steps.refl _) (argsL := [(.int x0)]) (rest := []) (lenOf pd304 rfl) rfl (by show 2 * 0 + _ ≤ _; exact Nat.le_of_eq rfl) (hb hby at_228) (fun _ _ => ⟨rfl, e0, hce, hsl⟩)
  dsimp only [Pt.U, Pt.locs, Pt.cells, Pt.slots] at X1 l1 y1 z1 st hQ
  subst l1 y1 z1
  exact ⟨T1, v, Lc, X1, hQ, fun t kt => st.trans kt⟩
set_option maxRecDepth 65536 in
set_option maxHeartbeats 40000000 in
theorem pF00 {p : Program} {l : Launch} {e : Env} {s : State} {m : MethodId} {args : Array Value} {below : List Frame} {meth : Method} {c : Code} {T0 : State} {locs : List Loc} {Z : State} {a0 : Array Value} {h0 : Heap} {n0 : Nat} (p1 : Int32) (p2 : Int32) (p3 : Int32) (p4 : Int32) (c0 : Int32) (c1 : Int32) (c2 : Int32) (nn : Int32) (jj : Int32) (dom : Addr) (non : Addr) (mm : Int32)
    (X0 : Stand p l e room_1 s m args below meth c T0 locs 11 404) (hx : p.tables.exec = Jvm.exec) (hZ : Z.Warmed39 s.vm) (hw : ∀ d ∈ tables_1, d.before a0 Z = true) (hby : c.code = code) (hml : c.maxLocals = 22) (hown : s.vm.findClass "com/example/caprice/caprice/solver/DomainsRestorePinLaw" = some m.cls) (e0 : T0.heap = h0) (N0 : Fr n0 locs) (O0 : Old Z n0 h0) (hd0 : jj < (1 : Int32)) :
    ∃ (T' : State) (locs' : List Loc), Stand p l e room_1 s m args below meth c T' locs' 11 404 ∧ Fr n0 locs' ∧ T'.heap = h0 ∧ ∀ t, Steps p.tables e below (T'.setTop (mkF m 244 #[.val (.int p1), .val (.int p2), .val (.int p3), .val (.int p4), .val (.int c0), .val (.int c1), .val (.int c2), .val (.int nn), .val (.int jj), .val (.ref dom), .val (.ref non), .val (.int mm), .val (.int (0 : Int32)), .unset, .unset, .unset, .unset, .unset, .unset, .unset, .unset, .unset] [])) t → Steps p.tables e below (T0.setTop (mkF m 231 #[.val (.int p1), .val (.int p2), .val (.int p3), .val (.int p4), .val (.int c0), .val (.int c1), .val (.int c2), .val (.int nn), .val (.int jj), .val (.ref dom), .val (.ref non), .val (.int mm), .unset, .unset, .unset, .unset, .unset, .unset, .unset, .unset, .unset, .unset] [])) t := by
  refine ⟨T0, _, X0, N0, e0, fun t kt => ?_⟩
  show Steps p.tables e below (T0.setTop (mkF m 231 #[.val (.int p1), .val (.int p2), .val (.int p3), .val (.int p4), .val (.int c0), .val (.int c1), .val (.int c2), .val (.int nn), .val (.int jj), .val (.ref dom), .val (.ref non), .val (.int mm), .unset, .unset, .unset, .unset, .unset, .unset, .unset, .unset, .unset, .unset] [])) _
  refine XS.iload X0.here hx rfl (hb hby at_231) rfl ?_
  show Steps p.tables e below (T0.setTop (mkF m 233 #[.val (.int p1), .val (.int p2), .val (.int p3), .val (.int p4), .val (.int c0), .val (.int c1), .val (.int c2), .val (.int nn), .val (.int jj), .val (.ref dom), .val (.ref non), .val (.int mm), .unset, .unset, .unset, .unset, .unset, .unset, .unset, .unset, .unset, .unset] [(.int jj)])) _
  refine XS.iconst X0.here hx rfl (hb hby at_233) ?_
  show Steps p.tables e below (T0.setTop (mkF m 234 #[.val (.int p1), .val (.int p2), .val (.int p3), .val (.int p4), .val (.int c0), .val (.int c1), .val (.int c2), .val (.int nn), .val (.int jj), .val (.ref dom), .val (.ref non), .val (.int mm), .unset, .unset, .unset, .unset, .unset, .unset, .unset, .unset, .unset, .unset] [(.int (1 : Int32)), (.int jj)])) _
  refine XS.icmpYes X0.here hx rfl (pc0 := 234) (pc' := 241) rfl (hb hby at_234) rfl (tlt hd0).1 (by decide) (by decide) ?_
  show Steps p.tables e below (T0.setTop (mkF m 241 #[.val (.int p1), .val (.int p2), .val (.int p3), .val (.int p4), .val (.int c0), .val (.int c1), .val (.int c2), .val (.int nn), .val (.int jj), .val (.ref dom), .val (.ref non), .val (.int mm), .unset, .unset, .unset, .unset, .unset, .unset, .unset, .unset, .unset, .unset] [])) _
  refine XS.iconst X0.here hx rfl (hb hby at_241) ?_
  show Steps p.tables e below (T0.setTop (mkF m 242 #[.val (.int p1), .val (.int p2), .val (.int p3), .val (.int p4), .val (.int c0), .val (.int c1), .val (.int c2), .val (.int nn), .val (.int jj), .val (.ref dom), .val (.ref non), .val (.int mm), .unset, .unset, .unset, .unset, .unset, .unset, .unset, .unset, .unset, .unset] [(.int (0 : Int32))])) _
  refine XS.istore X0.here hx rfl (hb hby at_242) rfl (l' := #[.val (.int p1), .val (.int p2), .val (.int p3), .val (.int p4), .val (.int c0), .val (.int c1), .val (.int c2), .val (.int nn), .val (.int jj), .val (.ref dom), .val (.ref non), .val (.int mm), .val (.int (0 : Int32)), .unset, .unset, .unset, .unset, .unset, .unset, .unset, .unset, .unset]) rfl ?_
  show Steps p.tables e below (T0.setTop (mkF m 244 #[.val (.int p1), .val (.int p2), .val (.int p3), .val (.int p4), .val (.int c0), .val (.int c1), .val (.int c2), .val (.int nn), .val (.int jj), .val (.ref dom), .val (.ref non), .val (.int mm), .val (.int (0 : Int32)), .unset, .unset, .unset, .unset, .unset, .unset, .unset, .unset, .unset] [])) _
  exact kt
set_option maxRecDepth 65536 in
set_option maxHeartbeats 40000000 in
theorem pF01 {p : Program} {l : Launch} {e : Env} {s : State} {m : MethodId} {args : Array Value} {below : List Frame} {meth : Method} {c : Code} {T0 : State} {locs : List Loc} {Z : State} {a0 : Array Value} {h0 : Heap} {n0 : Nat} (p1 : Int32) (p2 : Int32) (p3 : Int32) (p4 : Int32) (c0 : Int32) (c1 : Int32) (c2 : Int32) (nn : Int32) (jj : Int32) (dom : Addr) (non : Addr) (mm : Int32)
    (X0 : Stand p l e room_1 s m args below meth c T0 locs 11 404) (hx : p.tables.exec = Jvm.exec) (hZ : Z.Warmed39 s.vm) (hw : ∀ d ∈ tables_1, d.before a0 Z = true) (hby : c.code = code) (hml : c.maxLocals = 22) (hown : s.vm.findClass "com/example/caprice/caprice/solver/DomainsRestorePinLaw" = some m.cls) (e0 : T0.heap = h0) (N0 : Fr n0 locs) (O0 : Old Z n0 h0) (hd0 : ¬ (jj < (1 : Int32))) :
    ∃ (T' : State) (locs' : List Loc), Stand p l e room_1 s m args below meth c T' locs' 11 404 ∧ Fr n0 locs' ∧ T'.heap = h0 ∧ ∀ t, Steps p.tables e below (T'.setTop (mkF m 244 #[.val (.int p1), .val (.int p2), .val (.int p3), .val (.int p4), .val (.int c0), .val (.int c1), .val (.int c2), .val (.int nn), .val (.int jj), .val (.ref dom), .val (.ref non), .val (.int mm), .val (.int (1 : Int32)), .unset, .unset, .unset, .unset, .unset, .unset, .unset, .unset, .unset] [])) t → Steps p.tables e below (T0.setTop (mkF m 231 #[.val (.int p1), .val (.int p2), .val (.int p3), .val (.int p4), .val (.int c0), .val (.int c1), .val (.int c2), .val (.int nn), .val (.int jj), .val (.ref dom), .val (.ref non), .val (.int mm), .unset, .unset, .unset, .unset, .unset, .unset, .unset, .unset, .unset, .unset] [])) t := by
  refine ⟨T0, _, X0, N0, e0, fun t kt => ?_⟩
  show Steps p.tables e below (T0.setTop (mkF m 231 #[.val (.int p1), .val (.int p2), .val (.int p3), .val (.int p4), .val (.int c0), .val (.int c1), .val (.int c2), .val (.int nn), .val (.int jj), .val (.ref dom), .val (.ref non), .val (.int mm), .unset, .unset, .unset, .unset, .unset, .unset, .unset, .unset, .unset, .unset] [])) _
  refine XS.iload X0.here hx rfl (hb hby at_231) rfl ?_
  show Steps p.tables e below (T0.setTop (mkF m 233 #[.val (.int p1), .val (.int p2), .val (.int p3), .val (.int p4), .val (.int c0), .val (.int c1), .val (.int c2), .val (.int nn), .val (.int jj), .val (.ref dom), .val (.ref non), .val (.int mm), .unset, .unset, .unset, .unset, .unset, .unset, .unset, .unset, .unset, .unset] [(.int jj)])) _
  refine XS.iconst X0.here hx rfl (hb hby at_233) ?_
  show Steps p.tables e below (T0.setTop (mkF m 234 #[.val (.int p1), .val (.int p2), .val (.int p3), .val (.int p4), .val (.int c0), .val (.int c1), .val (.int c2), .val (.int nn), .val (.int jj), .val (.ref dom), .val (.ref non), .val (.int mm), .unset, .unset, .unset, .unset, .unset, .unset, .unset, .unset, .unset, .unset] [(.int (1 : Int32)), (.int jj)])) _
  refine XS.icmpNo X0.here hx rfl (hb hby at_234) rfl (flt hd0).1 ?_
  show Steps p.tables e below (T0.setTop (mkF m 237 #[.val (.int p1), .val (.int p2), .val (.int p3), .val (.int p4), .val (.int c0), .val (.int c1), .val (.int c2), .val (.int nn), .val (.int jj), .val (.ref dom), .val (.ref non), .val (.int mm), .unset, .unset, .unset, .unset, .unset, .unset, .unset, .unset, .unset, .unset] [])) _
  refine XS.iconst X0.here hx rfl (hb hby at_237) ?_
  show Steps p.tables e below (T0.setTop (mkF m 238 #[.val (.int p1), .val (.int p2), .val (.int p3), .val (.int p4), .val (.int c0), .val (.int c1), .val (.int c2), .val (.int nn), .val (.int jj), .val (.ref dom), .val (.ref non), .val (.int mm), .unset, .unset, .unset, .unset, .unset, .unset, .unset, .unset, .unset, .unset] [(.int (1 : Int32))])) _
  refine XS.goto X0.here hx rfl (pc0 := 238) (pc' := 242) rfl (hb hby at_238) (by decide) (by decide) ?_
  show Steps p.tables e below (T0.setTop (mkF m 242 #[.val (.int p1), .val (.int p2), .val (.int p3), .val (.int p4), .val (.int c0), .val (.int c1), .val (.int c2), .val (.int nn), .val (.int jj), .val (.ref dom), .val (.ref non), .val (.int mm), .unset, .unset, .unset, .unset, .unset, .unset, .unset, .unset, .unset, .unset] [(.int (1 : Int32))])) _
  refine XS.istore X0.here hx rfl (hb hby at_242) rfl (l' := #[.val (.int p1), .val (.int p2), .val (.int p3), .val (.int p4), .val (.int c0), .val (.int c1), .val (.int c2), .val (.int nn), .val (.int jj), .val (.ref dom), .val (.ref non), .val (.int mm), .val (.int (1 : Int32)), .unset, .unset, .unset, .unset, .unset, .unset, .unset, .unset, .unset]) rfl ?_
  show Steps p.tables e below (T0.setTop (mkF m 244 #[.val (.int p1), .val (.int p2), .val (.int p3), .val (.int p4), .val (.int c0), .val (.int c1), .val (.int c2), .val (.int nn), .val (.int jj), .val (.ref dom), .val (.ref non), .val (.int mm), .val (.int (1 : Int32)), .unset, .unset, .unset, .unset, .unset, .unset, .unset, .unset, .unset] [])) _
  exact kt
set_option maxRecDepth 65536 in
set_option maxHeartbeats 40000000 in
theorem pF10 {p : Program} {l : Launch} {e : Env} {s : State} {m : MethodId} {args : Array Value} {below : List Frame} {meth : Method} {c : Code} {T0 : State} {locs : List Loc} {Z : State} {a0 : Array Value} {h0 : Heap} {n0 : Nat} (p1 : Int32) (p2 : Int32) (p3 : Int32) (p4 : Int32) (c0 : Int32) (c1 : Int32) (c2 : Int32) (nn : Int32) (jj : Int32) (dom : Addr) (non : Addr) (mm : Int32) (r1 : Int32)
    (X0 : Stand p l e room_1 s m args below meth c T0 locs 11 404) (hx : p.tables.exec = Jvm.exec) (hZ : Z.Warmed39 s.vm) (hw : ∀ d ∈ tables_1, d.before a0 Z = true) (hby : c.code = code) (hml : c.maxLocals = 22) (hown : s.vm.findClass "com/example/caprice/caprice/solver/DomainsRestorePinLaw" = some m.cls) (e0 : T0.heap = h0) (N0 : Fr n0 locs) (O0 : Old Z n0 h0) (hd0 : jj < (2 : Int32)) :
    ∃ (T' : State) (locs' : List Loc), Stand p l e room_1 s m args below meth c T' locs' 11 404 ∧ Fr n0 locs' ∧ T'.heap = h0 ∧ ∀ t, Steps p.tables e below (T'.setTop (mkF m 257 #[.val (.int p1), .val (.int p2), .val (.int p3), .val (.int p4), .val (.int c0), .val (.int c1), .val (.int c2), .val (.int nn), .val (.int jj), .val (.ref dom), .val (.ref non), .val (.int mm), .val (.int r1), .val (.int (0 : Int32)), .unset, .unset, .unset, .unset, .unset, .unset, .unset, .unset] [])) t → Steps p.tables e below (T0.setTop (mkF m 244 #[.val (.int p1), .val (.int p2), .val (.int p3), .val (.int p4), .val (.int c0), .val (.int c1), .val (.int c2), .val (.int nn), .val (.int jj), .val (.ref dom), .val (.ref non), .val (.int mm), .val (.int r1), .unset, .unset, .unset, .unset, .unset, .unset, .unset, .unset, .unset] [])) t := by
  refine ⟨T0, _, X0, N0, e0, fun t kt => ?_⟩
  show Steps p.tables e below (T0.setTop (mkF m 244 #[.val (.int p1), .val (.int p2), .val (.int p3), .val (.int p4), .val (.int c0), .val (.int c1), .val (.int c2), .val (.int nn), .val (.int jj), .val (.ref dom), .val (.ref non), .val (.int mm), .val (.int r1), .unset, .unset, .unset, .unset, .unset, .unset, .unset, .unset, .unset] [])) _
  refine XS.iload X0.here hx rfl (hb hby at_244) rfl ?_
  show Steps p.tables e below (T0.setTop (mkF m 246 #[.val (.int p1), .val (.int p2), .val (.int p3), .val (.int p4), .val (.int c0), .val (.int c1), .val (.int c2), .val (.int nn), .val (.int jj), .val (.ref dom), .val (.ref non), .val (.int mm), .val (.int r1), .unset, .unset, .unset, .unset, .unset, .unset, .unset, .unset, .unset] [(.int jj)])) _
  refine XS.iconst X0.here hx rfl (hb hby at_246) ?_
  show Steps p.tables e below (T0.setTop (mkF m 247 #[.val (.int p1), .val (.int p2), .val (.int p3), .val (.int p4), .val (.int c0), .val (.int c1), .val (.int c2), .val (.int nn), .val (.int jj), .val (.ref dom), .val (.ref non), .val (.int mm), .val (.int r1), .unset, .unset, .unset, .unset, .unset, .unset, .unset, .unset, .unset] [(.int (2 : Int32)), (.int jj)])) _
  refine XS.icmpYes X0.here hx rfl (pc0 := 247) (pc' := 254) rfl (hb hby at_247) rfl (tlt hd0).1 (by decide) (by decide) ?_
  show Steps p.tables e below (T0.setTop (mkF m 254 #[.val (.int p1), .val (.int p2), .val (.int p3), .val (.int p4), .val (.int c0), .val (.int c1), .val (.int c2), .val (.int nn), .val (.int jj), .val (.ref dom), .val (.ref non), .val (.int mm), .val (.int r1), .unset, .unset, .unset, .unset, .unset, .unset, .unset, .unset, .unset] [])) _
  refine XS.iconst X0.here hx rfl (hb hby at_254) ?_
  show Steps p.tables e below (T0.setTop (mkF m 255 #[.val (.int p1), .val (.int p2), .val (.int p3), .val (.int p4), .val (.int c0), .val (.int c1), .val (.int c2), .val (.int nn), .val (.int jj), .val (.ref dom), .val (.ref non), .val (.int mm), .val (.int r1), .unset, .unset, .unset, .unset, .unset, .unset, .unset, .unset, .unset] [(.int (0 : Int32))])) _
  refine XS.istore X0.here hx rfl (hb hby at_255) rfl (l' := #[.val (.int p1), .val (.int p2), .val (.int p3), .val (.int p4), .val (.int c0), .val (.int c1), .val (.int c2), .val (.int nn), .val (.int jj), .val (.ref dom), .val (.ref non), .val (.int mm), .val (.int r1), .val (.int (0 : Int32)), .unset, .unset, .unset, .unset, .unset, .unset, .unset, .unset]) rfl ?_
  show Steps p.tables e below (T0.setTop (mkF m 257 #[.val (.int p1), .val (.int p2), .val (.int p3), .val (.int p4), .val (.int c0), .val (.int c1), .val (.int c2), .val (.int nn), .val (.int jj), .val (.ref dom), .val (.ref non), .val (.int mm), .val (.int r1), .val (.int (0 : Int32)), .unset, .unset, .unset, .unset, .unset, .unset, .unset, .unset] [])) _
  exact kt
set_option maxRecDepth 65536 in
set_option maxHeartbeats 40000000 in
theorem pF11 {p : Program} {l : Launch} {e : Env} {s : State} {m : MethodId} {args : Array Value} {below : List Frame} {meth : Method} {c : Code} {T0 : State} {locs : List Loc} {Z : State} {a0 : Array Value} {h0 : Heap} {n0 : Nat} (p1 : Int32) (p2 : Int32) (p3 : Int32) (p4 : Int32) (c0 : Int32) (c1 : Int32) (c2 : Int32) (nn : Int32) (jj : Int32) (dom : Addr) (non : Addr) (mm : Int32) (r1 : Int32)
    (X0 : Stand p l e room_1 s m args below meth c T0 locs 11 404) (hx : p.tables.exec = Jvm.exec) (hZ : Z.Warmed39 s.vm) (hw : ∀ d ∈ tables_1, d.before a0 Z = true) (hby : c.code = code) (hml : c.maxLocals = 22) (hown : s.vm.findClass "com/example/caprice/caprice/solver/DomainsRestorePinLaw" = some m.cls) (e0 : T0.heap = h0) (N0 : Fr n0 locs) (O0 : Old Z n0 h0) (hd0 : ¬ (jj < (2 : Int32))) :
    ∃ (T' : State) (locs' : List Loc), Stand p l e room_1 s m args below meth c T' locs' 11 404 ∧ Fr n0 locs' ∧ T'.heap = h0 ∧ ∀ t, Steps p.tables e below (T'.setTop (mkF m 257 #[.val (.int p1), .val (.int p2), .val (.int p3), .val (.int p4), .val (.int c0), .val (.int c1), .val (.int c2), .val (.int nn), .val (.int jj), .val (.ref dom), .val (.ref non), .val (.int mm), .val (.int r1), .val (.int (1 : Int32)), .unset, .unset, .unset, .unset, .unset, .unset, .unset, .unset] [])) t → Steps p.tables e below (T0.setTop (mkF m 244 #[.val (.int p1), .val (.int p2), .val (.int p3), .val (.int p4), .val (.int c0), .val (.int c1), .val (.int c2), .val (.int nn), .val (.int jj), .val (.ref dom), .val (.ref non), .val (.int mm), .val (.int r1), .unset, .unset, .unset, .unset, .unset, .unset, .unset, .unset, .unset] [])) t := by
  refine ⟨T0, _, X0, N0, e0, fun t kt => ?_⟩
  show Steps p.tables e below (T0.setTop (mkF m 244 #[.val (.int p1), .val (.int p2), .val (.int p3), .val (.int p4), .val (.int c0), .val (.int c1), .val (.int c2), .val (.int nn), .val (.int jj), .val (.ref dom), .val (.ref non), .val (.int mm), .val (.int r1), .unset, .unset, .unset, .unset, .unset, .unset, .unset, .unset, .unset] [])) _
  refine XS.iload X0.here hx rfl (hb hby at_244) rfl ?_
  show Steps p.tables e below (T0.setTop (mkF m 246 #[.val (.int p1), .val (.int p2), .val (.int p3), .val (.int p4), .val (.int c0), .val (.int c1), .val (.int c2), .val (.int nn), .val (.int jj), .val (.ref dom), .val (.ref non), .val (.int mm), .val (.int r1), .unset, .unset, .unset, .unset, .unset, .unset, .unset, .unset, .unset] [(.int jj)])) _
  refine XS.iconst X0.here hx rfl (hb hby at_246) ?_
  show Steps p.tables e below (T0.setTop (mkF m 247 #[.val (.int p1), .val (.int p2), .val (.int p3), .val (.int p4), .val (.int c0), .val (.int c1), .val (.int c2), .val (.int nn), .val (.int jj), .val (.ref dom), .val (.ref non), .val (.int mm), .val (.int r1), .unset, .unset, .unset, .unset, .unset, .unset, .unset, .unset, .unset] [(.int (2 : Int32)), (.int jj)])) _
  refine XS.icmpNo X0.here hx rfl (hb hby at_247) rfl (flt hd0).1 ?_
  show Steps p.tables e below (T0.setTop (mkF m 250 #[.val (.int p1), .val (.int p2), .val (.int p3), .val (.int p4), .val (.int c0), .val (.int c1), .val (.int c2), .val (.int nn), .val (.int jj), .val (.ref dom), .val (.ref non), .val (.int mm), .val (.int r1), .unset, .unset, .unset, .unset, .unset, .unset, .unset, .unset, .unset] [])) _
  refine XS.iconst X0.here hx rfl (hb hby at_250) ?_
  show Steps p.tables e below (T0.setTop (mkF m 251 #[.val (.int p1), .val (.int p2), .val (.int p3), .val (.int p4), .val (.int c0), .val (.int c1), .val (.int c2), .val (.int nn), .val (.int jj), .val (.ref dom), .val (.ref non), .val (.int mm), .val (.int r1), .unset, .unset, .unset, .unset, .unset, .unset, .unset, .unset, .unset] [(.int (1 : Int32))])) _
  refine XS.goto X0.here hx rfl (pc0 := 251) (pc' := 255) rfl (hb hby at_251) (by decide) (by decide) ?_
  show Steps p.tables e below (T0.setTop (mkF m 255 #[.val (.int p1), .val (.int p2), .val (.int p3), .val (.int p4), .val (.int c0), .val (.int c1), .val (.int c2), .val (.int nn), .val (.int jj), .val (.ref dom), .val (.ref non), .val (.int mm), .val (.int r1), .unset, .unset, .unset, .unset, .unset, .unset, .unset, .unset, .unset] [(.int (1 : Int32))])) _
  refine XS.istore X0.here hx rfl (hb hby at_255) rfl (l' := #[.val (.int p1), .val (.int p2), .val (.int p3), .val (.int p4), .val (.int c0), .val (.int c1), .val (.int c2), .val (.int nn), .val (.int jj), .val (.ref dom), .val (.ref non), .val (.int mm), .val (.int r1), .val (.int (1 : Int32)), .unset, .unset, .unset, .unset, .unset, .unset, .unset, .unset]) rfl ?_
  show Steps p.tables e below (T0.setTop (mkF m 257 #[.val (.int p1), .val (.int p2), .val (.int p3), .val (.int p4), .val (.int c0), .val (.int c1), .val (.int c2), .val (.int nn), .val (.int jj), .val (.ref dom), .val (.ref non), .val (.int mm), .val (.int r1), .val (.int (1 : Int32)), .unset, .unset, .unset, .unset, .unset, .unset, .unset, .unset] [])) _
  exact kt
set_option maxRecDepth 65536 in
set_option maxHeartbeats 40000000 in
theorem pF20 {p : Program} {l : Launch} {e : Env} {s : State} {m : MethodId} {args : Array Value} {below : List Frame} {meth : Method} {c : Code} {T0 : State} {locs : List Loc} {Z : State} {a0 : Array Value} {h0 : Heap} {n0 : Nat} (p1 : Int32) (p2 : Int32) (p3 : Int32) (p4 : Int32) (c0 : Int32) (c1 : Int32) (c2 : Int32) (nn : Int32) (jj : Int32) (dom : Addr) (non : Addr) (mm : Int32) (r1 : Int32) (r2 : Int32)
    (X0 : Stand p l e room_1 s m args below meth c T0 locs 11 404) (hx : p.tables.exec = Jvm.exec) (hZ : Z.Warmed39 s.vm) (hw : ∀ d ∈ tables_1, d.before a0 Z = true) (hby : c.code = code) (hml : c.maxLocals = 22) (hown : s.vm.findClass "com/example/caprice/caprice/solver/DomainsRestorePinLaw" = some m.cls) (e0 : T0.heap = h0) (N0 : Fr n0 locs) (O0 : Old Z n0 h0) (hd0 : jj < (3 : Int32)) :
    ∃ (T' : State) (locs' : List Loc), Stand p l e room_1 s m args below meth c T' locs' 11 404 ∧ Fr n0 locs' ∧ T'.heap = h0 ∧ ∀ t, Steps p.tables e below (T'.setTop (mkF m 270 #[.val (.int p1), .val (.int p2), .val (.int p3), .val (.int p4), .val (.int c0), .val (.int c1), .val (.int c2), .val (.int nn), .val (.int jj), .val (.ref dom), .val (.ref non), .val (.int mm), .val (.int r1), .val (.int r2), .val (.int (0 : Int32)), .unset, .unset, .unset, .unset, .unset, .unset, .unset] [])) t → Steps p.tables e below (T0.setTop (mkF m 257 #[.val (.int p1), .val (.int p2), .val (.int p3), .val (.int p4), .val (.int c0), .val (.int c1), .val (.int c2), .val (.int nn), .val (.int jj), .val (.ref dom), .val (.ref non), .val (.int mm), .val (.int r1), .val (.int r2), .unset, .unset, .unset, .unset, .unset, .unset, .unset, .unset] [])) t := by
  refine ⟨T0, _, X0, N0, e0, fun t kt => ?_⟩
  show Steps p.tables e below (T0.setTop (mkF m 257 #[.val (.int p1), .val (.int p2), .val (.int p3), .val (.int p4), .val (.int c0), .val (.int c1), .val (.int c2), .val (.int nn), .val (.int jj), .val (.ref dom), .val (.ref non), .val (.int mm), .val (.int r1), .val (.int r2), .unset, .unset, .unset, .unset, .unset, .unset, .unset, .unset] [])) _
  refine XS.iload X0.here hx rfl (hb hby at_257) rfl ?_
  show Steps p.tables e below (T0.setTop (mkF m 259 #[.val (.int p1), .val (.int p2), .val (.int p3), .val (.int p4), .val (.int c0), .val (.int c1), .val (.int c2), .val (.int nn), .val (.int jj), .val (.ref dom), .val (.ref non), .val (.int mm), .val (.int r1), .val (.int r2), .unset, .unset, .unset, .unset, .unset, .unset, .unset, .unset] [(.int jj)])) _
  refine XS.iconst X0.here hx rfl (hb hby at_259) ?_
  show Steps p.tables e below (T0.setTop (mkF m 260 #[.val (.int p1), .val (.int p2), .val (.int p3), .val (.int p4), .val (.int c0), .val (.int c1), .val (.int c2), .val (.int nn), .val (.int jj), .val (.ref dom), .val (.ref non), .val (.int mm), .val (.int r1), .val (.int r2), .unset, .unset, .unset, .unset, .unset, .unset, .unset, .unset] [(.int (3 : Int32)), (.int jj)])) _
  refine XS.icmpYes X0.here hx rfl (pc0 := 260) (pc' := 267) rfl (hb hby at_260) rfl (tlt hd0).1 (by decide) (by decide) ?_
  show Steps p.tables e below (T0.setTop (mkF m 267 #[.val (.int p1), .val (.int p2), .val (.int p3), .val (.int p4), .val (.int c0), .val (.int c1), .val (.int c2), .val (.int nn), .val (.int jj), .val (.ref dom), .val (.ref non), .val (.int mm), .val (.int r1), .val (.int r2), .unset, .unset, .unset, .unset, .unset, .unset, .unset, .unset] [])) _
  refine XS.iconst X0.here hx rfl (hb hby at_267) ?_
  show Steps p.tables e below (T0.setTop (mkF m 268 #[.val (.int p1), .val (.int p2), .val (.int p3), .val (.int p4), .val (.int c0), .val (.int c1), .val (.int c2), .val (.int nn), .val (.int jj), .val (.ref dom), .val (.ref non), .val (.int mm), .val (.int r1), .val (.int r2), .unset, .unset, .unset, .unset, .unset, .unset, .unset, .unset] [(.int (0 : Int32))])) _
  refine XS.istore X0.here hx rfl (hb hby at_268) rfl (l' := #[.val (.int p1), .val (.int p2), .val (.int p3), .val (.int p4), .val (.int c0), .val (.int c1), .val (.int c2), .val (.int nn), .val (.int jj), .val (.ref dom), .val (.ref non), .val (.int mm), .val (.int r1), .val (.int r2), .val (.int (0 : Int32)), .unset, .unset, .unset, .unset, .unset, .unset, .unset]) rfl ?_
  show Steps p.tables e below (T0.setTop (mkF m 270 #[.val (.int p1), .val (.int p2), .val (.int p3), .val (.int p4), .val (.int c0), .val (.int c1), .val (.int c2), .val (.int nn), .val (.int jj), .val (.ref dom), .val (.ref non), .val (.int mm), .val (.int r1), .val (.int r2), .val (.int (0 : Int32)), .unset, .unset, .unset, .unset, .unset, .unset, .unset] [])) _
  exact kt
set_option maxRecDepth 65536 in
set_option maxHeartbeats 40000000 in
theorem pF21 {p : Program} {l : Launch} {e : Env} {s : State} {m : MethodId} {args : Array Value} {below : List Frame} {meth : Method} {c : Code} {T0 : State} {locs : List Loc} {Z : State} {a0 : Array Value} {h0 : Heap} {n0 : Nat} (p1 : Int32) (p2 : Int32) (p3 : Int32) (p4 : Int32) (c0 : Int32) (c1 : Int32) (c2 : Int32) (nn : Int32) (jj : Int32) (dom : Addr) (non : Addr) (mm : Int32) (r1 : Int32) (r2 : Int32)
    (X0 : Stand p l e room_1 s m args below meth c T0 locs 11 404) (hx : p.tables.exec = Jvm.exec) (hZ : Z.Warmed39 s.vm) (hw : ∀ d ∈ tables_1, d.before a0 Z = true) (hby : c.code = code) (hml : c.maxLocals = 22) (hown : s.vm.findClass "com/example/caprice/caprice/solver/DomainsRestorePinLaw" = some m.cls) (e0 : T0.heap = h0) (N0 : Fr n0 locs) (O0 : Old Z n0 h0) (hd0 : ¬ (jj < (3 : Int32))) :
    ∃ (T' : State) (locs' : List Loc), Stand p l e room_1 s m args below meth c T' locs' 11 404 ∧ Fr n0 locs' ∧ T'.heap = h0 ∧ ∀ t, Steps p.tables e below (T'.setTop (mkF m 270 #[.val (.int p1), .val (.int p2), .val (.int p3), .val (.int p4), .val (.int c0), .val (.int c1), .val (.int c2), .val (.int nn), .val (.int jj), .val (.ref dom), .val (.ref non), .val (.int mm), .val (.int r1), .val (.int r2), .val (.int (1 : Int32)), .unset, .unset, .unset, .unset, .unset, .unset, .unset] [])) t → Steps p.tables e below (T0.setTop (mkF m 257 #[.val (.int p1), .val (.int p2), .val (.int p3), .val (.int p4), .val (.int c0), .val (.int c1), .val (.int c2), .val (.int nn), .val (.int jj), .val (.ref dom), .val (.ref non), .val (.int mm), .val (.int r1), .val (.int r2), .unset, .unset, .unset, .unset, .unset, .unset, .unset, .unset] [])) t := by
  refine ⟨T0, _, X0, N0, e0, fun t kt => ?_⟩
  show Steps p.tables e below (T0.setTop (mkF m 257 #[.val (.int p1), .val (.int p2), .val (.int p3), .val (.int p4), .val (.int c0), .val (.int c1), .val (.int c2), .val (.int nn), .val (.int jj), .val (.ref dom), .val (.ref non), .val (.int mm), .val (.int r1), .val (.int r2), .unset, .unset, .unset, .unset, .unset, .unset, .unset, .unset] [])) _
  refine XS.iload X0.here hx rfl (hb hby at_257) rfl ?_
  show Steps p.tables e below (T0.setTop (mkF m 259 #[.val (.int p1), .val (.int p2), .val (.int p3), .val (.int p4), .val (.int c0), .val (.int c1), .val (.int c2), .val (.int nn), .val (.int jj), .val (.ref dom), .val (.ref non), .val (.int mm), .val (.int r1), .val (.int r2), .unset, .unset, .unset, .unset, .unset, .unset, .unset, .unset] [(.int jj)])) _
  refine XS.iconst X0.here hx rfl (hb hby at_259) ?_
  show Steps p.tables e below (T0.setTop (mkF m 260 #[.val (.int p1), .val (.int p2), .val (.int p3), .val (.int p4), .val (.int c0), .val (.int c1), .val (.int c2), .val (.int nn), .val (.int jj), .val (.ref dom), .val (.ref non), .val (.int mm), .val (.int r1), .val (.int r2), .unset, .unset, .unset, .unset, .unset, .unset, .unset, .unset] [(.int (3 : Int32)), (.int jj)])) _
  refine XS.icmpNo X0.here hx rfl (hb hby at_260) rfl (flt hd0).1 ?_
  show Steps p.tables e below (T0.setTop (mkF m 263 #[.val (.int p1), .val (.int p2), .val (.int p3), .val (.int p4), .val (.int c0), .val (.int c1), .val (.int c2), .val (.int nn), .val (.int jj), .val (.ref dom), .val (.ref non), .val (.int mm), .val (.int r1), .val (.int r2), .unset, .unset, .unset, .unset, .unset, .unset, .unset, .unset] [])) _
  refine XS.iconst X0.here hx rfl (hb hby at_263) ?_
  show Steps p.tables e below (T0.setTop (mkF m 264 #[.val (.int p1), .val (.int p2), .val (.int p3), .val (.int p4), .val (.int c0), .val (.int c1), .val (.int c2), .val (.int nn), .val (.int jj), .val (.ref dom), .val (.ref non), .val (.int mm), .val (.int r1), .val (.int r2), .unset, .unset, .unset, .unset, .unset, .unset, .unset, .unset] [(.int (1 : Int32))])) _
  refine XS.goto X0.here hx rfl (pc0 := 264) (pc' := 268) rfl (hb hby at_264) (by decide) (by decide) ?_
  show Steps p.tables e below (T0.setTop (mkF m 268 #[.val (.int p1), .val (.int p2), .val (.int p3), .val (.int p4), .val (.int c0), .val (.int c1), .val (.int c2), .val (.int nn), .val (.int jj), .val (.ref dom), .val (.ref non), .val (.int mm), .val (.int r1), .val (.int r2), .unset, .unset, .unset, .unset, .unset, .unset, .unset, .unset] [(.int (1 : Int32))])) _
  refine XS.istore X0.here hx rfl (hb hby at_268) rfl (l' := #[.val (.int p1), .val (.int p2), .val (.int p3), .val (.int p4), .val (.int c0), .val (.int c1), .val (.int c2), .val (.int nn), .val (.int jj), .val (.ref dom), .val (.ref non), .val (.int mm), .val (.int r1), .val (.int r2), .val (.int (1 : Int32)), .unset, .unset, .unset, .unset, .unset, .unset, .unset]) rfl ?_
  show Steps p.tables e below (T0.setTop (mkF m 270 #[.val (.int p1), .val (.int p2), .val (.int p3), .val (.int p4), .val (.int c0), .val (.int c1), .val (.int c2), .val (.int nn), .val (.int jj), .val (.ref dom), .val (.ref non), .val (.int mm), .val (.int r1), .val (.int r2), .val (.int (1 : Int32)), .unset, .unset, .unset, .unset, .unset, .unset, .unset] [])) _
  exact kt
set_option maxRecDepth 65536 in
set_option maxHeartbeats 40000000 in
theorem pG0 {p : Program} {l : Launch} {e : Env} {s : State} {m : MethodId} {args : Array Value} {below : List Frame} {meth : Method} {c : Code} {T0 : State} {locs : List Loc} {Z : State} {a0 : Array Value} {h0 : Heap} {n0 : Nat} (p1 : Int32) (p2 : Int32) (p3 : Int32) (p4 : Int32) (c0 : Int32) (c1 : Int32) (c2 : Int32) (nn : Int32) (jj : Int32) (dom : Addr) (non : Addr) (mm : Int32) (r1 : Int32) (r2 : Int32) (r3 : Int32)
    (X0 : Stand p l e room_1 s m args below meth c T0 locs 11 404) (hx : p.tables.exec = Jvm.exec) (hZ : Z.Warmed39 s.vm) (hw : ∀ d ∈ tables_1, d.before a0 Z = true) (hby : c.code = code) (hml : c.maxLocals = 22) (hown : s.vm.findClass "com/example/caprice/caprice/solver/DomainsRestorePinLaw" = some m.cls) (e0 : T0.heap = h0) (N0 : Fr n0 locs) (O0 : Old Z n0 h0) :
    ∃ (T' : State) (locs' : List Loc), Stand p l e room_1 s m args below meth c T' locs' 11 404 ∧ Fr n0 locs' ∧ T'.heap = h0 ∧ ∀ t, Steps p.tables e below (T'.setTop (mkF m 275 #[.val (.int p1), .val (.int p2), .val (.int p3), .val (.int p4), .val (.int c0), .val (.int c1), .val (.int c2), .val (.int nn), .val (.int jj), .val (.ref dom), .val (.ref non), .val (.int mm), .val (.int r1), .val (.int r2), .val (.int r3), .unset, .unset, .unset, .unset, .unset, .unset, .unset] [(.int r1), (.int (0 : Int32)), (.int c0)])) t → Steps p.tables e below (T0.setTop (mkF m 270 #[.val (.int p1), .val (.int p2), .val (.int p3), .val (.int p4), .val (.int c0), .val (.int c1), .val (.int c2), .val (.int nn), .val (.int jj), .val (.ref dom), .val (.ref non), .val (.int mm), .val (.int r1), .val (.int r2), .val (.int r3), .unset, .unset, .unset, .unset, .unset, .unset, .unset] [])) t := by
  refine ⟨T0, _, X0, N0, e0, fun t kt => ?_⟩
  show Steps p.tables e below (T0.setTop (mkF m 270 #[.val (.int p1), .val (.int p2), .val (.int p3), .val (.int p4), .val (.int c0), .val (.int c1), .val (.int c2), .val (.int nn), .val (.int jj), .val (.ref dom), .val (.ref non), .val (.int mm), .val (.int r1), .val (.int r2), .val (.int r3), .unset, .unset, .unset, .unset, .unset, .unset, .unset] [])) _
  refine XS.iload X0.here hx rfl (hb hby at_270) rfl ?_
  show Steps p.tables e below (T0.setTop (mkF m 272 #[.val (.int p1), .val (.int p2), .val (.int p3), .val (.int p4), .val (.int c0), .val (.int c1), .val (.int c2), .val (.int nn), .val (.int jj), .val (.ref dom), .val (.ref non), .val (.int mm), .val (.int r1), .val (.int r2), .val (.int r3), .unset, .unset, .unset, .unset, .unset, .unset, .unset] [(.int c0)])) _
  refine XS.iconst X0.here hx rfl (hb hby at_272) ?_
  show Steps p.tables e below (T0.setTop (mkF m 273 #[.val (.int p1), .val (.int p2), .val (.int p3), .val (.int p4), .val (.int c0), .val (.int c1), .val (.int c2), .val (.int nn), .val (.int jj), .val (.ref dom), .val (.ref non), .val (.int mm), .val (.int r1), .val (.int r2), .val (.int r3), .unset, .unset, .unset, .unset, .unset, .unset, .unset] [(.int (0 : Int32)), (.int c0)])) _
  refine XS.iload X0.here hx rfl (hb hby at_273) rfl ?_
  show Steps p.tables e below (T0.setTop (mkF m 275 #[.val (.int p1), .val (.int p2), .val (.int p3), .val (.int p4), .val (.int c0), .val (.int c1), .val (.int c2), .val (.int nn), .val (.int jj), .val (.ref dom), .val (.ref non), .val (.int mm), .val (.int r1), .val (.int r2), .val (.int r3), .unset, .unset, .unset, .unset, .unset, .unset, .unset] [(.int r1), (.int (0 : Int32)), (.int c0)])) _
  exact kt
theorem pd312 : parseMethodDescriptor "(IIZ)J" = some ⟨[.int, .int, .boolean], some .long⟩ := by decide +kernel
set_option maxRecDepth 65536 in
set_option maxHeartbeats 4000000 in
theorem cG0 {p : Program} {l : Launch} {e : Env} {s : State} {m : MethodId} {args : Array Value} {below : List Frame} {meth : Method} {c : Code} {T0 : State} {locs : List Loc} {cells slots : Nat} {Z : State} {a0 : Array Value} {h0 : Heap} {Ls : Array Slot} (x0 : Int32) (x1 : Int32) (x2 : Int32)
    (X0 : Stand p l e room_1 s m args below meth c T0 locs cells slots) (hx : p.tables.exec = Jvm.exec) (hZ : Z.Warmed39 s.vm) (hw : ∀ d ∈ tables_1, d.before a0 Z = true) (hby : c.code = code) (hml : c.maxLocals = 22) (hown : s.vm.findClass "com/example/caprice/caprice/solver/DomainsRestorePinLaw" = some m.cls) (e0 : T0.heap = h0) (hsz : Ls.size = 22) {rm : Room} {Q : Option Value → Heap → List Loc → Prop}
    (M : MetFree l (⟨"com/example/caprice/caprice/solver/DomainsRestorePinLaw", "bit", "(IIZ)J"⟩ : MethodName) (head1 [Jvm.Cond.code (⟨"com/example/caprice/caprice/solver/DomainsRestorePinLaw", "bit", "(IIZ)J"⟩ : MethodName) method_2_code 3 (some .long)] rm) (fun a U => a = #[(.int x0), (.int x1), (.int x2)] ∧ Z.Warmed39 U.vm ∧ U.heap = h0) (fun _ _ _ _ _ => True) (fun _ U o U' => ∃ v L, o = .returned v ∧ Q v U'.heap L ∧ FrameEnd U o U' L rm.cells rm.slots)) (hfr : rm.frames + 1 ≤ room_1.frames) (hlo : 0 + (3 + 11) + rm.locals ≤ room_1.locals) (hce : cells + rm.cells ≤ room_1.cells) (hsl : slots + rm.slots ≤ room_1.slots) :
    ∃ (T' : State) (v : Option Value) (L : List Loc), Stand p l e room_1 s m args below meth c T' (locs ++ L) (cells + rm.cells) (slots + rm.slots) ∧ Q v T'.heap L ∧ ∀ t, Steps p.tables e below (T'.setTop (mkF m 278 Ls (v.toList ++ []))) t → Steps p.tables e below (T0.setTop (mkF m 275 Ls [(.int x2), (.int x1), (.int x0)])) t := by
  obtain ⟨v, _, ⟨T1, L1, k1, n1⟩, -, X1, ⟨Lc, hQ, l1, y1, z1⟩, st⟩ := Jvm.LawKit.callS X0 hx (y := (⟨"com/example/caprice/caprice/solver/DomainsRestorePinLaw", "bit", "(IIZ)J"⟩ : MethodName)) hown (mvT hZ (hw _ (List.mem_of_getElem? (i := 56) rfl))) (mvT hZ (hw _ (List.mem_of_getElem? (i := 57) rfl))) (mvT hZ (hw _ (List.mem_of_getElem? (i := 58) rfl))) (mvT hZ (hw _ (List.mem_of_getElem? (i := 59) rfl))) (by decide) (backOf (W := 0) M hZ (hw _ (List.mem_of_getElem? (i := 59) rfl)) (hw _ (List.mem_of_getElem? (i := 58) rfl)) hfr hlo) (g := (mkF m 275 Ls [(.int x2), (.int x1), (.int x0)])) rfl (by rw [hml]; exact hsz) (argsL := [(.int x0), (.int x1), (.int x2)]) (rest := []) (lenOf pd312 rfl) rfl (by show 2 * 0 + _ ≤ _; exact Nat.le_of_eq rfl) (hb hby at_275) (fun _ _ => ⟨rfl, e0, hce, hsl⟩)
  dsimp only [Pt.U, Pt.locs, Pt.cells, Pt.slots] at X1 l1 y1 z1 st hQ
  subst l1 y1 z1
  exact ⟨T1, v, Lc, X1, hQ, fun t kt => st t kt⟩
set_option maxRecDepth 65536 in
set_option maxHeartbeats 40000000 in
theorem pG1 {p : Program} {l : Launch} {e : Env} {s : State} {m : MethodId} {args : Array Value} {below : List Frame} {meth : Method} {c : Code} {T0 : State} {locs : List Loc} {Z : State} {a0 : Array Value} {h0 : Heap} {n0 : Nat} (p1 : Int32) (p2 : Int32) (p3 : Int32) (p4 : Int32) (c0 : Int32) (c1 : Int32) (c2 : Int32) (nn : Int32) (jj : Int32) (dom : Addr) (non : Addr) (mm : Int32) (r1 : Int32) (r2 : Int32) (r3 : Int32) (x : Int64)
    (X0 : Stand p l e room_1 s m args below meth c T0 locs 11 404) (hx : p.tables.exec = Jvm.exec) (hZ : Z.Warmed39 s.vm) (hw : ∀ d ∈ tables_1, d.before a0 Z = true) (hby : c.code = code) (hml : c.maxLocals = 22) (hown : s.vm.findClass "com/example/caprice/caprice/solver/DomainsRestorePinLaw" = some m.cls) (e0 : T0.heap = h0) (N0 : Fr n0 locs) (O0 : Old Z n0 h0) :
    ∃ (T' : State) (locs' : List Loc), Stand p l e room_1 s m args below meth c T' locs' 11 404 ∧ Fr n0 locs' ∧ T'.heap = h0 ∧ ∀ t, Steps p.tables e below (T'.setTop (mkF m 283 #[.val (.int p1), .val (.int p2), .val (.int p3), .val (.int p4), .val (.int c0), .val (.int c1), .val (.int c2), .val (.int nn), .val (.int jj), .val (.ref dom), .val (.ref non), .val (.int mm), .val (.int r1), .val (.int r2), .val (.int r3), .unset, .unset, .unset, .unset, .unset, .unset, .unset] [(.int r2), (.int (0 : Int32)), (.int c1), (.long x)])) t → Steps p.tables e below (T0.setTop (mkF m 278 #[.val (.int p1), .val (.int p2), .val (.int p3), .val (.int p4), .val (.int c0), .val (.int c1), .val (.int c2), .val (.int nn), .val (.int jj), .val (.ref dom), .val (.ref non), .val (.int mm), .val (.int r1), .val (.int r2), .val (.int r3), .unset, .unset, .unset, .unset, .unset, .unset, .unset] [(.long x)])) t := by
  refine ⟨T0, _, X0, N0, e0, fun t kt => ?_⟩
  show Steps p.tables e below (T0.setTop (mkF m 278 #[.val (.int p1), .val (.int p2), .val (.int p3), .val (.int p4), .val (.int c0), .val (.int c1), .val (.int c2), .val (.int nn), .val (.int jj), .val (.ref dom), .val (.ref non), .val (.int mm), .val (.int r1), .val (.int r2), .val (.int r3), .unset, .unset, .unset, .unset, .unset, .unset, .unset] [(.long x)])) _
  refine XS.iload X0.here hx rfl (hb hby at_278) rfl ?_
  show Steps p.tables e below (T0.setTop (mkF m 280 #[.val (.int p1), .val (.int p2), .val (.int p3), .val (.int p4), .val (.int c0), .val (.int c1), .val (.int c2), .val (.int nn), .val (.int jj), .val (.ref dom), .val (.ref non), .val (.int mm), .val (.int r1), .val (.int r2), .val (.int r3), .unset, .unset, .unset, .unset, .unset, .unset, .unset] [(.int c1), (.long x)])) _
  refine XS.iconst X0.here hx rfl (hb hby at_280) ?_
  show Steps p.tables e below (T0.setTop (mkF m 281 #[.val (.int p1), .val (.int p2), .val (.int p3), .val (.int p4), .val (.int c0), .val (.int c1), .val (.int c2), .val (.int nn), .val (.int jj), .val (.ref dom), .val (.ref non), .val (.int mm), .val (.int r1), .val (.int r2), .val (.int r3), .unset, .unset, .unset, .unset, .unset, .unset, .unset] [(.int (0 : Int32)), (.int c1), (.long x)])) _
  refine XS.iload X0.here hx rfl (hb hby at_281) rfl ?_
  show Steps p.tables e below (T0.setTop (mkF m 283 #[.val (.int p1), .val (.int p2), .val (.int p3), .val (.int p4), .val (.int c0), .val (.int c1), .val (.int c2), .val (.int nn), .val (.int jj), .val (.ref dom), .val (.ref non), .val (.int mm), .val (.int r1), .val (.int r2), .val (.int r3), .unset, .unset, .unset, .unset, .unset, .unset, .unset] [(.int r2), (.int (0 : Int32)), (.int c1), (.long x)])) _
  exact kt
set_option maxRecDepth 65536 in
set_option maxHeartbeats 4000000 in
theorem cG1 {p : Program} {l : Launch} {e : Env} {s : State} {m : MethodId} {args : Array Value} {below : List Frame} {meth : Method} {c : Code} {T0 : State} {locs : List Loc} {cells slots : Nat} {Z : State} {a0 : Array Value} {h0 : Heap} {Ls : Array Slot} (x0 : Int32) (x1 : Int32) (x2 : Int32) (y : Int64)
    (X0 : Stand p l e room_1 s m args below meth c T0 locs cells slots) (hx : p.tables.exec = Jvm.exec) (hZ : Z.Warmed39 s.vm) (hw : ∀ d ∈ tables_1, d.before a0 Z = true) (hby : c.code = code) (hml : c.maxLocals = 22) (hown : s.vm.findClass "com/example/caprice/caprice/solver/DomainsRestorePinLaw" = some m.cls) (e0 : T0.heap = h0) (hsz : Ls.size = 22) {rm : Room} {Q : Option Value → Heap → List Loc → Prop}
    (M : MetFree l (⟨"com/example/caprice/caprice/solver/DomainsRestorePinLaw", "bit", "(IIZ)J"⟩ : MethodName) (head1 [Jvm.Cond.code (⟨"com/example/caprice/caprice/solver/DomainsRestorePinLaw", "bit", "(IIZ)J"⟩ : MethodName) method_2_code 3 (some .long)] rm) (fun a U => a = #[(.int x0), (.int x1), (.int x2)] ∧ Z.Warmed39 U.vm ∧ U.heap = h0) (fun _ _ _ _ _ => True) (fun _ U o U' => ∃ v L, o = .returned v ∧ Q v U'.heap L ∧ FrameEnd U o U' L rm.cells rm.slots)) (hfr : rm.frames + 1 ≤ room_1.frames) (hlo : 2 + (3 + 11) + rm.locals ≤ room_1.locals) (hce : cells + rm.cells ≤ room_1.cells) (hsl : slots + rm.slots ≤ room_1.slots) :
    ∃ (T' : State) (v : Option Value) (L : List Loc), Stand p l e room_1 s m args below meth c T' (locs ++ L) (cells + rm.cells) (slots + rm.slots) ∧ Q v T'.heap L ∧ ∀ t, Steps p.tables e below (T'.setTop (mkF m 286 Ls (v.toList ++ [(.long y)]))) t → Steps p.tables e below (T0.setTop (mkF m 283 Ls [(.int x2), (.int x1), (.int x0), (.long y)])) t := by
  obtain ⟨v, _, ⟨T1, L1, k1, n1⟩, -, X1, ⟨Lc, hQ, l1, y1, z1⟩, st⟩ := Jvm.LawKit.callS X0 hx (y := (⟨"com/example/caprice/caprice/solver/DomainsRestorePinLaw", "bit", "(IIZ)J"⟩ : MethodName)) hown (mvT hZ (hw _ (List.mem_of_getElem? (i := 56) rfl))) (mvT hZ (hw _ (List.mem_of_getElem? (i := 57) rfl))) (mvT hZ (hw _ (List.mem_of_getElem? (i := 58) rfl))) (mvT hZ (hw _ (List.mem_of_getElem? (i := 59) rfl))) (by decide) (backOf (W := 2) M hZ (hw _ (List.mem_of_getElem? (i := 59) rfl)) (hw _ (List.mem_of_getElem? (i := 58) rfl)) hfr hlo) (g := (mkF m 283 Ls [(.int x2), (.int x1), (.int x0), (.long y)])) rfl (by rw [hml]; exact hsz) (argsL := [(.int x0), (.int x1), (.int x2)]) (rest := [(.long y)]) (lenOf pd312 rfl) rfl (by show 2 * 0 + _ ≤ _; exact Nat.le_of_eq rfl) (hb hby at_283) (fun _ _ => ⟨rfl, e0, hce, hsl⟩)
  dsimp only [Pt.U, Pt.locs, Pt.cells, Pt.slots] at X1 l1 y1 z1 st hQ
  subst l1 y1 z1
  exact ⟨T1, v, Lc, X1, hQ, fun t kt => st t kt⟩
set_option maxRecDepth 65536 in
set_option maxHeartbeats 40000000 in
theorem pG2 {p : Program} {l : Launch} {e : Env} {s : State} {m : MethodId} {args : Array Value} {below : List Frame} {meth : Method} {c : Code} {T0 : State} {locs : List Loc} {Z : State} {a0 : Array Value} {h0 : Heap} {n0 : Nat} (p1 : Int32) (p2 : Int32) (p3 : Int32) (p4 : Int32) (c0 : Int32) (c1 : Int32) (c2 : Int32) (nn : Int32) (jj : Int32) (dom : Addr) (non : Addr) (mm : Int32) (r1 : Int32) (r2 : Int32) (r3 : Int32) (x : Int64) (y : Int64)
    (X0 : Stand p l e room_1 s m args below meth c T0 locs 11 404) (hx : p.tables.exec = Jvm.exec) (hZ : Z.Warmed39 s.vm) (hw : ∀ d ∈ tables_1, d.before a0 Z = true) (hby : c.code = code) (hml : c.maxLocals = 22) (hown : s.vm.findClass "com/example/caprice/caprice/solver/DomainsRestorePinLaw" = some m.cls) (e0 : T0.heap = h0) (N0 : Fr n0 locs) (O0 : Old Z n0 h0) :
    ∃ (T' : State) (locs' : List Loc), Stand p l e room_1 s m args below meth c T' locs' 11 404 ∧ Fr n0 locs' ∧ T'.heap = h0 ∧ ∀ t, Steps p.tables e below (T'.setTop (mkF m 292 #[.val (.int p1), .val (.int p2), .val (.int p3), .val (.int p4), .val (.int c0), .val (.int c1), .val (.int c2), .val (.int nn), .val (.int jj), .val (.ref dom), .val (.ref non), .val (.int mm), .val (.int r1), .val (.int r2), .val (.int r3), .unset, .unset, .unset, .unset, .unset, .unset, .unset] [(.int r3), (.int (0 : Int32)), (.int c2), (.long (y ||| x))])) t → Steps p.tables e below (T0.setTop (mkF m 286 #[.val (.int p1), .val (.int p2), .val (.int p3), .val (.int p4), .val (.int c0), .val (.int c1), .val (.int c2), .val (.int nn), .val (.int jj), .val (.ref dom), .val (.ref non), .val (.int mm), .val (.int r1), .val (.int r2), .val (.int r3), .unset, .unset, .unset, .unset, .unset, .unset, .unset] [(.long x), (.long y)])) t := by
  refine ⟨T0, _, X0, N0, e0, fun t kt => ?_⟩
  show Steps p.tables e below (T0.setTop (mkF m 286 #[.val (.int p1), .val (.int p2), .val (.int p3), .val (.int p4), .val (.int c0), .val (.int c1), .val (.int c2), .val (.int nn), .val (.int jj), .val (.ref dom), .val (.ref non), .val (.int mm), .val (.int r1), .val (.int r2), .val (.int r3), .unset, .unset, .unset, .unset, .unset, .unset, .unset] [(.long x), (.long y)])) _
  refine XS.lor X0.here hx rfl (hb hby at_286) rfl ?_
  show Steps p.tables e below (T0.setTop (mkF m 287 #[.val (.int p1), .val (.int p2), .val (.int p3), .val (.int p4), .val (.int c0), .val (.int c1), .val (.int c2), .val (.int nn), .val (.int jj), .val (.ref dom), .val (.ref non), .val (.int mm), .val (.int r1), .val (.int r2), .val (.int r3), .unset, .unset, .unset, .unset, .unset, .unset, .unset] [(.long (y ||| x))])) _
  refine XS.iload X0.here hx rfl (hb hby at_287) rfl ?_
  show Steps p.tables e below (T0.setTop (mkF m 289 #[.val (.int p1), .val (.int p2), .val (.int p3), .val (.int p4), .val (.int c0), .val (.int c1), .val (.int c2), .val (.int nn), .val (.int jj), .val (.ref dom), .val (.ref non), .val (.int mm), .val (.int r1), .val (.int r2), .val (.int r3), .unset, .unset, .unset, .unset, .unset, .unset, .unset] [(.int c2), (.long (y ||| x))])) _
  refine XS.iconst X0.here hx rfl (hb hby at_289) ?_
  show Steps p.tables e below (T0.setTop (mkF m 290 #[.val (.int p1), .val (.int p2), .val (.int p3), .val (.int p4), .val (.int c0), .val (.int c1), .val (.int c2), .val (.int nn), .val (.int jj), .val (.ref dom), .val (.ref non), .val (.int mm), .val (.int r1), .val (.int r2), .val (.int r3), .unset, .unset, .unset, .unset, .unset, .unset, .unset] [(.int (0 : Int32)), (.int c2), (.long (y ||| x))])) _
  refine XS.iload X0.here hx rfl (hb hby at_290) rfl ?_
  show Steps p.tables e below (T0.setTop (mkF m 292 #[.val (.int p1), .val (.int p2), .val (.int p3), .val (.int p4), .val (.int c0), .val (.int c1), .val (.int c2), .val (.int nn), .val (.int jj), .val (.ref dom), .val (.ref non), .val (.int mm), .val (.int r1), .val (.int r2), .val (.int r3), .unset, .unset, .unset, .unset, .unset, .unset, .unset] [(.int r3), (.int (0 : Int32)), (.int c2), (.long (y ||| x))])) _
  exact kt
set_option maxRecDepth 65536 in
set_option maxHeartbeats 4000000 in
theorem cG2 {p : Program} {l : Launch} {e : Env} {s : State} {m : MethodId} {args : Array Value} {below : List Frame} {meth : Method} {c : Code} {T0 : State} {locs : List Loc} {cells slots : Nat} {Z : State} {a0 : Array Value} {h0 : Heap} {Ls : Array Slot} (x0 : Int32) (x1 : Int32) (x2 : Int32) (y : Int64)
    (X0 : Stand p l e room_1 s m args below meth c T0 locs cells slots) (hx : p.tables.exec = Jvm.exec) (hZ : Z.Warmed39 s.vm) (hw : ∀ d ∈ tables_1, d.before a0 Z = true) (hby : c.code = code) (hml : c.maxLocals = 22) (hown : s.vm.findClass "com/example/caprice/caprice/solver/DomainsRestorePinLaw" = some m.cls) (e0 : T0.heap = h0) (hsz : Ls.size = 22) {rm : Room} {Q : Option Value → Heap → List Loc → Prop}
    (M : MetFree l (⟨"com/example/caprice/caprice/solver/DomainsRestorePinLaw", "bit", "(IIZ)J"⟩ : MethodName) (head1 [Jvm.Cond.code (⟨"com/example/caprice/caprice/solver/DomainsRestorePinLaw", "bit", "(IIZ)J"⟩ : MethodName) method_2_code 3 (some .long)] rm) (fun a U => a = #[(.int x0), (.int x1), (.int x2)] ∧ Z.Warmed39 U.vm ∧ U.heap = h0) (fun _ _ _ _ _ => True) (fun _ U o U' => ∃ v L, o = .returned v ∧ Q v U'.heap L ∧ FrameEnd U o U' L rm.cells rm.slots)) (hfr : rm.frames + 1 ≤ room_1.frames) (hlo : 2 + (3 + 11) + rm.locals ≤ room_1.locals) (hce : cells + rm.cells ≤ room_1.cells) (hsl : slots + rm.slots ≤ room_1.slots) :
    ∃ (T' : State) (v : Option Value) (L : List Loc), Stand p l e room_1 s m args below meth c T' (locs ++ L) (cells + rm.cells) (slots + rm.slots) ∧ Q v T'.heap L ∧ ∀ t, Steps p.tables e below (T'.setTop (mkF m 295 Ls (v.toList ++ [(.long y)]))) t → Steps p.tables e below (T0.setTop (mkF m 292 Ls [(.int x2), (.int x1), (.int x0), (.long y)])) t := by
  obtain ⟨v, _, ⟨T1, L1, k1, n1⟩, -, X1, ⟨Lc, hQ, l1, y1, z1⟩, st⟩ := Jvm.LawKit.callS X0 hx (y := (⟨"com/example/caprice/caprice/solver/DomainsRestorePinLaw", "bit", "(IIZ)J"⟩ : MethodName)) hown (mvT hZ (hw _ (List.mem_of_getElem? (i := 56) rfl))) (mvT hZ (hw _ (List.mem_of_getElem? (i := 57) rfl))) (mvT hZ (hw _ (List.mem_of_getElem? (i := 58) rfl))) (mvT hZ (hw _ (List.mem_of_getElem? (i := 59) rfl))) (by decide) (backOf (W := 2) M hZ (hw _ (List.mem_of_getElem? (i := 59) rfl)) (hw _ (List.mem_of_getElem? (i := 58) rfl)) hfr hlo) (g := (mkF m 292 Ls [(.int x2), (.int x1), (.int x0), (.long y)])) rfl (by rw [hml]; exact hsz) (argsL := [(.int x0), (.int x1), (.int x2)]) (rest := [(.long y)]) (lenOf pd312 rfl) rfl (by show 2 * 0 + _ ≤ _; exact Nat.le_of_eq rfl) (hb hby at_292) (fun _ _ => ⟨rfl, e0, hce, hsl⟩)
  dsimp only [Pt.U, Pt.locs, Pt.cells, Pt.slots] at X1 l1 y1 z1 st hQ
  subst l1 y1 z1
  exact ⟨T1, v, Lc, X1, hQ, fun t kt => st t kt⟩
set_option maxRecDepth 65536 in
set_option maxHeartbeats 40000000 in
theorem pG3 {p : Program} {l : Launch} {e : Env} {s : State} {m : MethodId} {args : Array Value} {below : List Frame} {meth : Method} {c : Code} {T0 : State} {locs : List Loc} {Z : State} {a0 : Array Value} {h0 : Heap} {n0 : Nat} (p1 : Int32) (p2 : Int32) (p3 : Int32) (p4 : Int32) (c0 : Int32) (c1 : Int32) (c2 : Int32) (nn : Int32) (jj : Int32) (dom : Addr) (non : Addr) (mm : Int32) (r1 : Int32) (r2 : Int32) (r3 : Int32) (x : Int64) (y : Int64)
    (X0 : Stand p l e room_1 s m args below meth c T0 locs 11 404) (hx : p.tables.exec = Jvm.exec) (hZ : Z.Warmed39 s.vm) (hw : ∀ d ∈ tables_1, d.before a0 Z = true) (hby : c.code = code) (hml : c.maxLocals = 22) (hown : s.vm.findClass "com/example/caprice/caprice/solver/DomainsRestorePinLaw" = some m.cls) (e0 : T0.heap = h0) (N0 : Fr n0 locs) (O0 : Old Z n0 h0) :
    ∃ (T' : State) (locs' : List Loc), Stand p l e room_1 s m args below meth c T' locs' 11 404 ∧ Fr n0 locs' ∧ T'.heap = h0 ∧ ∀ t, Steps p.tables e below (T'.setTop (mkF m 307 #[.val (.int p1), .val (.int p2), .val (.int p3), .val (.int p4), .val (.int c0), .val (.int c1), .val (.int c2), .val (.int nn), .val (.int jj), .val (.ref dom), .val (.ref non), .val (.int mm), .val (.int r1), .val (.int r2), .val (.int r3), .val (.long ((y ||| x) ^^^ (-1 : Int64))), .second, .unset, .unset, .unset, .unset, .unset] [(.int r1), (.int (1 : Int32)), (.int c0)])) t → Steps p.tables e below (T0.setTop (mkF m 295 #[.val (.int p1), .val (.int p2), .val (.int p3), .val (.int p4), .val (.int c0), .val (.int c1), .val (.int c2), .val (.int nn), .val (.int jj), .val (.ref dom), .val (.ref non), .val (.int mm), .val (.int r1), .val (.int r2), .val (.int r3), .unset, .unset, .unset, .unset, .unset, .unset, .unset] [(.long x), (.long y)])) t := by
  refine ⟨T0, _, X0, N0, e0, fun t kt => ?_⟩
  show Steps p.tables e below (T0.setTop (mkF m 295 #[.val (.int p1), .val (.int p2), .val (.int p3), .val (.int p4), .val (.int c0), .val (.int c1), .val (.int c2), .val (.int nn), .val (.int jj), .val (.ref dom), .val (.ref non), .val (.int mm), .val (.int r1), .val (.int r2), .val (.int r3), .unset, .unset, .unset, .unset, .unset, .unset, .unset] [(.long x), (.long y)])) _
  refine XS.lor X0.here hx rfl (hb hby at_295) rfl ?_
  show Steps p.tables e below (T0.setTop (mkF m 296 #[.val (.int p1), .val (.int p2), .val (.int p3), .val (.int p4), .val (.int c0), .val (.int c1), .val (.int c2), .val (.int nn), .val (.int jj), .val (.ref dom), .val (.ref non), .val (.int mm), .val (.int r1), .val (.int r2), .val (.int r3), .unset, .unset, .unset, .unset, .unset, .unset, .unset] [(.long (y ||| x))])) _
  refine X0.ldc2Long hx hown (mvT hZ (hw _ (List.mem_of_getElem? (i := 60) rfl))) (g := (mkF m 296 #[.val (.int p1), .val (.int p2), .val (.int p3), .val (.int p4), .val (.int c0), .val (.int c1), .val (.int c2), .val (.int nn), .val (.int jj), .val (.ref dom), .val (.ref non), .val (.int mm), .val (.int r1), .val (.int r2), .val (.int r3), .unset, .unset, .unset, .unset, .unset, .unset, .unset] [(.long (y ||| x))])) rfl (hb hby at_296) _ ?_
  show Steps p.tables e below (T0.setTop (mkF m 299 #[.val (.int p1), .val (.int p2), .val (.int p3), .val (.int p4), .val (.int c0), .val (.int c1), .val (.int c2), .val (.int nn), .val (.int jj), .val (.ref dom), .val (.ref non), .val (.int mm), .val (.int r1), .val (.int r2), .val (.int r3), .unset, .unset, .unset, .unset, .unset, .unset, .unset] [(.long (-1 : Int64)), (.long (y ||| x))])) _
  refine XS.lxor X0.here hx rfl (hb hby at_299) rfl ?_
  show Steps p.tables e below (T0.setTop (mkF m 300 #[.val (.int p1), .val (.int p2), .val (.int p3), .val (.int p4), .val (.int c0), .val (.int c1), .val (.int c2), .val (.int nn), .val (.int jj), .val (.ref dom), .val (.ref non), .val (.int mm), .val (.int r1), .val (.int r2), .val (.int r3), .unset, .unset, .unset, .unset, .unset, .unset, .unset] [(.long ((y ||| x) ^^^ (-1 : Int64)))])) _
  refine XS.lstore X0.here hx rfl (hb hby at_300) rfl (l' := #[.val (.int p1), .val (.int p2), .val (.int p3), .val (.int p4), .val (.int c0), .val (.int c1), .val (.int c2), .val (.int nn), .val (.int jj), .val (.ref dom), .val (.ref non), .val (.int mm), .val (.int r1), .val (.int r2), .val (.int r3), .val (.long ((y ||| x) ^^^ (-1 : Int64))), .second, .unset, .unset, .unset, .unset, .unset]) rfl ?_
  show Steps p.tables e below (T0.setTop (mkF m 302 #[.val (.int p1), .val (.int p2), .val (.int p3), .val (.int p4), .val (.int c0), .val (.int c1), .val (.int c2), .val (.int nn), .val (.int jj), .val (.ref dom), .val (.ref non), .val (.int mm), .val (.int r1), .val (.int r2), .val (.int r3), .val (.long ((y ||| x) ^^^ (-1 : Int64))), .second, .unset, .unset, .unset, .unset, .unset] [])) _
  refine XS.iload X0.here hx rfl (hb hby at_302) rfl ?_
  show Steps p.tables e below (T0.setTop (mkF m 304 #[.val (.int p1), .val (.int p2), .val (.int p3), .val (.int p4), .val (.int c0), .val (.int c1), .val (.int c2), .val (.int nn), .val (.int jj), .val (.ref dom), .val (.ref non), .val (.int mm), .val (.int r1), .val (.int r2), .val (.int r3), .val (.long ((y ||| x) ^^^ (-1 : Int64))), .second, .unset, .unset, .unset, .unset, .unset] [(.int c0)])) _
  refine XS.iconst X0.here hx rfl (hb hby at_304) ?_
  show Steps p.tables e below (T0.setTop (mkF m 305 #[.val (.int p1), .val (.int p2), .val (.int p3), .val (.int p4), .val (.int c0), .val (.int c1), .val (.int c2), .val (.int nn), .val (.int jj), .val (.ref dom), .val (.ref non), .val (.int mm), .val (.int r1), .val (.int r2), .val (.int r3), .val (.long ((y ||| x) ^^^ (-1 : Int64))), .second, .unset, .unset, .unset, .unset, .unset] [(.int (1 : Int32)), (.int c0)])) _
  refine XS.iload X0.here hx rfl (hb hby at_305) rfl ?_
  show Steps p.tables e below (T0.setTop (mkF m 307 #[.val (.int p1), .val (.int p2), .val (.int p3), .val (.int p4), .val (.int c0), .val (.int c1), .val (.int c2), .val (.int nn), .val (.int jj), .val (.ref dom), .val (.ref non), .val (.int mm), .val (.int r1), .val (.int r2), .val (.int r3), .val (.long ((y ||| x) ^^^ (-1 : Int64))), .second, .unset, .unset, .unset, .unset, .unset] [(.int r1), (.int (1 : Int32)), (.int c0)])) _
  exact kt
set_option maxRecDepth 65536 in
set_option maxHeartbeats 4000000 in
theorem cG3 {p : Program} {l : Launch} {e : Env} {s : State} {m : MethodId} {args : Array Value} {below : List Frame} {meth : Method} {c : Code} {T0 : State} {locs : List Loc} {cells slots : Nat} {Z : State} {a0 : Array Value} {h0 : Heap} {Ls : Array Slot} (x0 : Int32) (x1 : Int32) (x2 : Int32)
    (X0 : Stand p l e room_1 s m args below meth c T0 locs cells slots) (hx : p.tables.exec = Jvm.exec) (hZ : Z.Warmed39 s.vm) (hw : ∀ d ∈ tables_1, d.before a0 Z = true) (hby : c.code = code) (hml : c.maxLocals = 22) (hown : s.vm.findClass "com/example/caprice/caprice/solver/DomainsRestorePinLaw" = some m.cls) (e0 : T0.heap = h0) (hsz : Ls.size = 22) {rm : Room} {Q : Option Value → Heap → List Loc → Prop}
    (M : MetFree l (⟨"com/example/caprice/caprice/solver/DomainsRestorePinLaw", "bit", "(IIZ)J"⟩ : MethodName) (head1 [Jvm.Cond.code (⟨"com/example/caprice/caprice/solver/DomainsRestorePinLaw", "bit", "(IIZ)J"⟩ : MethodName) method_2_code 3 (some .long)] rm) (fun a U => a = #[(.int x0), (.int x1), (.int x2)] ∧ Z.Warmed39 U.vm ∧ U.heap = h0) (fun _ _ _ _ _ => True) (fun _ U o U' => ∃ v L, o = .returned v ∧ Q v U'.heap L ∧ FrameEnd U o U' L rm.cells rm.slots)) (hfr : rm.frames + 1 ≤ room_1.frames) (hlo : 0 + (3 + 11) + rm.locals ≤ room_1.locals) (hce : cells + rm.cells ≤ room_1.cells) (hsl : slots + rm.slots ≤ room_1.slots) :
    ∃ (T' : State) (v : Option Value) (L : List Loc), Stand p l e room_1 s m args below meth c T' (locs ++ L) (cells + rm.cells) (slots + rm.slots) ∧ Q v T'.heap L ∧ ∀ t, Steps p.tables e below (T'.setTop (mkF m 310 Ls (v.toList ++ []))) t → Steps p.tables e below (T0.setTop (mkF m 307 Ls [(.int x2), (.int x1), (.int x0)])) t := by
  obtain ⟨v, _, ⟨T1, L1, k1, n1⟩, -, X1, ⟨Lc, hQ, l1, y1, z1⟩, st⟩ := Jvm.LawKit.callS X0 hx (y := (⟨"com/example/caprice/caprice/solver/DomainsRestorePinLaw", "bit", "(IIZ)J"⟩ : MethodName)) hown (mvT hZ (hw _ (List.mem_of_getElem? (i := 56) rfl))) (mvT hZ (hw _ (List.mem_of_getElem? (i := 57) rfl))) (mvT hZ (hw _ (List.mem_of_getElem? (i := 58) rfl))) (mvT hZ (hw _ (List.mem_of_getElem? (i := 59) rfl))) (by decide) (backOf (W := 0) M hZ (hw _ (List.mem_of_getElem? (i := 59) rfl)) (hw _ (List.mem_of_getElem? (i := 58) rfl)) hfr hlo) (g := (mkF m 307 Ls [(.int x2), (.int x1), (.int x0)])) rfl (by rw [hml]; exact hsz) (argsL := [(.int x0), (.int x1), (.int x2)]) (rest := []) (lenOf pd312 rfl) rfl (by show 2 * 0 + _ ≤ _; exact Nat.le_of_eq rfl) (hb hby at_307) (fun _ _ => ⟨rfl, e0, hce, hsl⟩)
  dsimp only [Pt.U, Pt.locs, Pt.cells, Pt.slots] at X1 l1 y1 z1 st hQ
  subst l1 y1 z1
  exact ⟨T1, v, Lc, X1, hQ, fun t kt => st t kt⟩
set_option maxRecDepth 65536 in
set_option maxHeartbeats 40000000 in
theorem pG4 {p : Program} {l : Launch} {e : Env} {s : State} {m : MethodId} {args : Array Value} {below : List Frame} {meth : Method} {c : Code} {T0 : State} {locs : List Loc} {Z : State} {a0 : Array Value} {h0 : Heap} {n0 : Nat} (p1 : Int32) (p2 : Int32) (p3 : Int32) (p4 : Int32) (c0 : Int32) (c1 : Int32) (c2 : Int32) (nn : Int32) (jj : Int32) (dom : Addr) (non : Addr) (mm : Int32) (r1 : Int32) (r2 : Int32) (r3 : Int32) (k0 : Int64) (x : Int64)
    (X0 : Stand p l e room_1 s m args below meth c T0 locs 11 404) (hx : p.tables.exec = Jvm.exec) (hZ : Z.Warmed39 s.vm) (hw : ∀ d ∈ tables_1, d.before a0 Z = true) (hby : c.code = code) (hml : c.maxLocals = 22) (hown : s.vm.findClass "com/example/caprice/caprice/solver/DomainsRestorePinLaw" = some m.cls) (e0 : T0.heap = h0) (N0 : Fr n0 locs) (O0 : Old Z n0 h0) :
    ∃ (T' : State) (locs' : List Loc), Stand p l e room_1 s m args below meth c T' locs' 11 404 ∧ Fr n0 locs' ∧ T'.heap = h0 ∧ ∀ t, Steps p.tables e below (T'.setTop (mkF m 315 #[.val (.int p1), .val (.int p2), .val (.int p3), .val (.int p4), .val (.int c0), .val (.int c1), .val (.int c2), .val (.int nn), .val (.int jj), .val (.ref dom), .val (.ref non), .val (.int mm), .val (.int r1), .val (.int r2), .val (.int r3), .val (.long k0), .second, .unset, .unset, .unset, .unset, .unset] [(.int r2), (.int (1 : Int32)), (.int c1), (.long x)])) t → Steps p.tables e below (T0.setTop (mkF m 310 #[.val (.int p1), .val (.int p2), .val (.int p3), .val (.int p4), .val (.int c0), .val (.int c1), .val (.int c2), .val (.int nn), .val (.int jj), .val (.ref dom), .val (.ref non), .val (.int mm), .val (.int r1), .val (.int r2), .val (.int r3), .val (.long k0), .second, .unset, .unset, .unset, .unset, .unset] [(.long x)])) t := by
  refine ⟨T0, _, X0, N0, e0, fun t kt => ?_⟩
  show Steps p.tables e below (T0.setTop (mkF m 310 #[.val (.int p1), .val (.int p2), .val (.int p3), .val (.int p4), .val (.int c0), .val (.int c1), .val (.int c2), .val (.int nn), .val (.int jj), .val (.ref dom), .val (.ref non), .val (.int mm), .val (.int r1), .val (.int r2), .val (.int r3), .val (.long k0), .second, .unset, .unset, .unset, .unset, .unset] [(.long x)])) _
  refine XS.iload X0.here hx rfl (hb hby at_310) rfl ?_
  show Steps p.tables e below (T0.setTop (mkF m 312 #[.val (.int p1), .val (.int p2), .val (.int p3), .val (.int p4), .val (.int c0), .val (.int c1), .val (.int c2), .val (.int nn), .val (.int jj), .val (.ref dom), .val (.ref non), .val (.int mm), .val (.int r1), .val (.int r2), .val (.int r3), .val (.long k0), .second, .unset, .unset, .unset, .unset, .unset] [(.int c1), (.long x)])) _
  refine XS.iconst X0.here hx rfl (hb hby at_312) ?_
  show Steps p.tables e below (T0.setTop (mkF m 313 #[.val (.int p1), .val (.int p2), .val (.int p3), .val (.int p4), .val (.int c0), .val (.int c1), .val (.int c2), .val (.int nn), .val (.int jj), .val (.ref dom), .val (.ref non), .val (.int mm), .val (.int r1), .val (.int r2), .val (.int r3), .val (.long k0), .second, .unset, .unset, .unset, .unset, .unset] [(.int (1 : Int32)), (.int c1), (.long x)])) _
  refine XS.iload X0.here hx rfl (hb hby at_313) rfl ?_
  show Steps p.tables e below (T0.setTop (mkF m 315 #[.val (.int p1), .val (.int p2), .val (.int p3), .val (.int p4), .val (.int c0), .val (.int c1), .val (.int c2), .val (.int nn), .val (.int jj), .val (.ref dom), .val (.ref non), .val (.int mm), .val (.int r1), .val (.int r2), .val (.int r3), .val (.long k0), .second, .unset, .unset, .unset, .unset, .unset] [(.int r2), (.int (1 : Int32)), (.int c1), (.long x)])) _
  exact kt
set_option maxRecDepth 65536 in
set_option maxHeartbeats 4000000 in
theorem cG4 {p : Program} {l : Launch} {e : Env} {s : State} {m : MethodId} {args : Array Value} {below : List Frame} {meth : Method} {c : Code} {T0 : State} {locs : List Loc} {cells slots : Nat} {Z : State} {a0 : Array Value} {h0 : Heap} {Ls : Array Slot} (x0 : Int32) (x1 : Int32) (x2 : Int32) (y : Int64)
    (X0 : Stand p l e room_1 s m args below meth c T0 locs cells slots) (hx : p.tables.exec = Jvm.exec) (hZ : Z.Warmed39 s.vm) (hw : ∀ d ∈ tables_1, d.before a0 Z = true) (hby : c.code = code) (hml : c.maxLocals = 22) (hown : s.vm.findClass "com/example/caprice/caprice/solver/DomainsRestorePinLaw" = some m.cls) (e0 : T0.heap = h0) (hsz : Ls.size = 22) {rm : Room} {Q : Option Value → Heap → List Loc → Prop}
    (M : MetFree l (⟨"com/example/caprice/caprice/solver/DomainsRestorePinLaw", "bit", "(IIZ)J"⟩ : MethodName) (head1 [Jvm.Cond.code (⟨"com/example/caprice/caprice/solver/DomainsRestorePinLaw", "bit", "(IIZ)J"⟩ : MethodName) method_2_code 3 (some .long)] rm) (fun a U => a = #[(.int x0), (.int x1), (.int x2)] ∧ Z.Warmed39 U.vm ∧ U.heap = h0) (fun _ _ _ _ _ => True) (fun _ U o U' => ∃ v L, o = .returned v ∧ Q v U'.heap L ∧ FrameEnd U o U' L rm.cells rm.slots)) (hfr : rm.frames + 1 ≤ room_1.frames) (hlo : 2 + (3 + 11) + rm.locals ≤ room_1.locals) (hce : cells + rm.cells ≤ room_1.cells) (hsl : slots + rm.slots ≤ room_1.slots) :
    ∃ (T' : State) (v : Option Value) (L : List Loc), Stand p l e room_1 s m args below meth c T' (locs ++ L) (cells + rm.cells) (slots + rm.slots) ∧ Q v T'.heap L ∧ ∀ t, Steps p.tables e below (T'.setTop (mkF m 318 Ls (v.toList ++ [(.long y)]))) t → Steps p.tables e below (T0.setTop (mkF m 315 Ls [(.int x2), (.int x1), (.int x0), (.long y)])) t := by
  obtain ⟨v, _, ⟨T1, L1, k1, n1⟩, -, X1, ⟨Lc, hQ, l1, y1, z1⟩, st⟩ := Jvm.LawKit.callS X0 hx (y := (⟨"com/example/caprice/caprice/solver/DomainsRestorePinLaw", "bit", "(IIZ)J"⟩ : MethodName)) hown (mvT hZ (hw _ (List.mem_of_getElem? (i := 56) rfl))) (mvT hZ (hw _ (List.mem_of_getElem? (i := 57) rfl))) (mvT hZ (hw _ (List.mem_of_getElem? (i := 58) rfl))) (mvT hZ (hw _ (List.mem_of_getElem? (i := 59) rfl))) (by decide) (backOf (W := 2) M hZ (hw _ (List.mem_of_getElem? (i := 59) rfl)) (hw _ (List.mem_of_getElem? (i := 58) rfl)) hfr hlo) (g := (mkF m 315 Ls [(.int x2), (.int x1), (.int x0), (.long y)])) rfl (by rw [hml]; exact hsz) (argsL := [(.int x0), (.int x1), (.int x2)]) (rest := [(.long y)]) (lenOf pd312 rfl) rfl (by show 2 * 0 + _ ≤ _; exact Nat.le_of_eq rfl) (hb hby at_315) (fun _ _ => ⟨rfl, e0, hce, hsl⟩)
  dsimp only [Pt.U, Pt.locs, Pt.cells, Pt.slots] at X1 l1 y1 z1 st hQ
  subst l1 y1 z1
  exact ⟨T1, v, Lc, X1, hQ, fun t kt => st t kt⟩
set_option maxRecDepth 65536 in
set_option maxHeartbeats 40000000 in
theorem pG5 {p : Program} {l : Launch} {e : Env} {s : State} {m : MethodId} {args : Array Value} {below : List Frame} {meth : Method} {c : Code} {T0 : State} {locs : List Loc} {Z : State} {a0 : Array Value} {h0 : Heap} {n0 : Nat} (p1 : Int32) (p2 : Int32) (p3 : Int32) (p4 : Int32) (c0 : Int32) (c1 : Int32) (c2 : Int32) (nn : Int32) (jj : Int32) (dom : Addr) (non : Addr) (mm : Int32) (r1 : Int32) (r2 : Int32) (r3 : Int32) (k0 : Int64) (x : Int64) (y : Int64)
    (X0 : Stand p l e room_1 s m args below meth c T0 locs 11 404) (hx : p.tables.exec = Jvm.exec) (hZ : Z.Warmed39 s.vm) (hw : ∀ d ∈ tables_1, d.before a0 Z = true) (hby : c.code = code) (hml : c.maxLocals = 22) (hown : s.vm.findClass "com/example/caprice/caprice/solver/DomainsRestorePinLaw" = some m.cls) (e0 : T0.heap = h0) (N0 : Fr n0 locs) (O0 : Old Z n0 h0) :
    ∃ (T' : State) (locs' : List Loc), Stand p l e room_1 s m args below meth c T' locs' 11 404 ∧ Fr n0 locs' ∧ T'.heap = h0 ∧ ∀ t, Steps p.tables e below (T'.setTop (mkF m 324 #[.val (.int p1), .val (.int p2), .val (.int p3), .val (.int p4), .val (.int c0), .val (.int c1), .val (.int c2), .val (.int nn), .val (.int jj), .val (.ref dom), .val (.ref non), .val (.int mm), .val (.int r1), .val (.int r2), .val (.int r3), .val (.long k0), .second, .unset, .unset, .unset, .unset, .unset] [(.int r3), (.int (1 : Int32)), (.int c2), (.long (y ||| x))])) t → Steps p.tables e below (T0.setTop (mkF m 318 #[.val (.int p1), .val (.int p2), .val (.int p3), .val (.int p4), .val (.int c0), .val (.int c1), .val (.int c2), .val (.int nn), .val (.int jj), .val (.ref dom), .val (.ref non), .val (.int mm), .val (.int r1), .val (.int r2), .val (.int r3), .val (.long k0), .second, .unset, .unset, .unset, .unset, .unset] [(.long x), (.long y)])) t := by
  refine ⟨T0, _, X0, N0, e0, fun t kt => ?_⟩
  show Steps p.tables e below (T0.setTop (mkF m 318 #[.val (.int p1), .val (.int p2), .val (.int p3), .val (.int p4), .val (.int c0), .val (.int c1), .val (.int c2), .val (.int nn), .val (.int jj), .val (.ref dom), .val (.ref non), .val (.int mm), .val (.int r1), .val (.int r2), .val (.int r3), .val (.long k0), .second, .unset, .unset, .unset, .unset, .unset] [(.long x), (.long y)])) _
  refine XS.lor X0.here hx rfl (hb hby at_318) rfl ?_
  show Steps p.tables e below (T0.setTop (mkF m 319 #[.val (.int p1), .val (.int p2), .val (.int p3), .val (.int p4), .val (.int c0), .val (.int c1), .val (.int c2), .val (.int nn), .val (.int jj), .val (.ref dom), .val (.ref non), .val (.int mm), .val (.int r1), .val (.int r2), .val (.int r3), .val (.long k0), .second, .unset, .unset, .unset, .unset, .unset] [(.long (y ||| x))])) _
  refine XS.iload X0.here hx rfl (hb hby at_319) rfl ?_
  show Steps p.tables e below (T0.setTop (mkF m 321 #[.val (.int p1), .val (.int p2), .val (.int p3), .val (.int p4), .val (.int c0), .val (.int c1), .val (.int c2), .val (.int nn), .val (.int jj), .val (.ref dom), .val (.ref non), .val (.int mm), .val (.int r1), .val (.int r2), .val (.int r3), .val (.long k0), .second, .unset, .unset, .unset, .unset, .unset] [(.int c2), (.long (y ||| x))])) _
  refine XS.iconst X0.here hx rfl (hb hby at_321) ?_
  show Steps p.tables e below (T0.setTop (mkF m 322 #[.val (.int p1), .val (.int p2), .val (.int p3), .val (.int p4), .val (.int c0), .val (.int c1), .val (.int c2), .val (.int nn), .val (.int jj), .val (.ref dom), .val (.ref non), .val (.int mm), .val (.int r1), .val (.int r2), .val (.int r3), .val (.long k0), .second, .unset, .unset, .unset, .unset, .unset] [(.int (1 : Int32)), (.int c2), (.long (y ||| x))])) _
  refine XS.iload X0.here hx rfl (hb hby at_322) rfl ?_
  show Steps p.tables e below (T0.setTop (mkF m 324 #[.val (.int p1), .val (.int p2), .val (.int p3), .val (.int p4), .val (.int c0), .val (.int c1), .val (.int c2), .val (.int nn), .val (.int jj), .val (.ref dom), .val (.ref non), .val (.int mm), .val (.int r1), .val (.int r2), .val (.int r3), .val (.long k0), .second, .unset, .unset, .unset, .unset, .unset] [(.int r3), (.int (1 : Int32)), (.int c2), (.long (y ||| x))])) _
  exact kt
set_option maxRecDepth 65536 in
set_option maxHeartbeats 4000000 in
theorem cG5 {p : Program} {l : Launch} {e : Env} {s : State} {m : MethodId} {args : Array Value} {below : List Frame} {meth : Method} {c : Code} {T0 : State} {locs : List Loc} {cells slots : Nat} {Z : State} {a0 : Array Value} {h0 : Heap} {Ls : Array Slot} (x0 : Int32) (x1 : Int32) (x2 : Int32) (y : Int64)
    (X0 : Stand p l e room_1 s m args below meth c T0 locs cells slots) (hx : p.tables.exec = Jvm.exec) (hZ : Z.Warmed39 s.vm) (hw : ∀ d ∈ tables_1, d.before a0 Z = true) (hby : c.code = code) (hml : c.maxLocals = 22) (hown : s.vm.findClass "com/example/caprice/caprice/solver/DomainsRestorePinLaw" = some m.cls) (e0 : T0.heap = h0) (hsz : Ls.size = 22) {rm : Room} {Q : Option Value → Heap → List Loc → Prop}
    (M : MetFree l (⟨"com/example/caprice/caprice/solver/DomainsRestorePinLaw", "bit", "(IIZ)J"⟩ : MethodName) (head1 [Jvm.Cond.code (⟨"com/example/caprice/caprice/solver/DomainsRestorePinLaw", "bit", "(IIZ)J"⟩ : MethodName) method_2_code 3 (some .long)] rm) (fun a U => a = #[(.int x0), (.int x1), (.int x2)] ∧ Z.Warmed39 U.vm ∧ U.heap = h0) (fun _ _ _ _ _ => True) (fun _ U o U' => ∃ v L, o = .returned v ∧ Q v U'.heap L ∧ FrameEnd U o U' L rm.cells rm.slots)) (hfr : rm.frames + 1 ≤ room_1.frames) (hlo : 2 + (3 + 11) + rm.locals ≤ room_1.locals) (hce : cells + rm.cells ≤ room_1.cells) (hsl : slots + rm.slots ≤ room_1.slots) :
    ∃ (T' : State) (v : Option Value) (L : List Loc), Stand p l e room_1 s m args below meth c T' (locs ++ L) (cells + rm.cells) (slots + rm.slots) ∧ Q v T'.heap L ∧ ∀ t, Steps p.tables e below (T'.setTop (mkF m 327 Ls (v.toList ++ [(.long y)]))) t → Steps p.tables e below (T0.setTop (mkF m 324 Ls [(.int x2), (.int x1), (.int x0), (.long y)])) t := by
  obtain ⟨v, _, ⟨T1, L1, k1, n1⟩, -, X1, ⟨Lc, hQ, l1, y1, z1⟩, st⟩ := Jvm.LawKit.callS X0 hx (y := (⟨"com/example/caprice/caprice/solver/DomainsRestorePinLaw", "bit", "(IIZ)J"⟩ : MethodName)) hown (mvT hZ (hw _ (List.mem_of_getElem? (i := 56) rfl))) (mvT hZ (hw _ (List.mem_of_getElem? (i := 57) rfl))) (mvT hZ (hw _ (List.mem_of_getElem? (i := 58) rfl))) (mvT hZ (hw _ (List.mem_of_getElem? (i := 59) rfl))) (by decide) (backOf (W := 2) M hZ (hw _ (List.mem_of_getElem? (i := 59) rfl)) (hw _ (List.mem_of_getElem? (i := 58) rfl)) hfr hlo) (g := (mkF m 324 Ls [(.int x2), (.int x1), (.int x0), (.long y)])) rfl (by rw [hml]; exact hsz) (argsL := [(.int x0), (.int x1), (.int x2)]) (rest := [(.long y)]) (lenOf pd312 rfl) rfl (by show 2 * 0 + _ ≤ _; exact Nat.le_of_eq rfl) (hb hby at_324) (fun _ _ => ⟨rfl, e0, hce, hsl⟩)
  dsimp only [Pt.U, Pt.locs, Pt.cells, Pt.slots] at X1 l1 y1 z1 st hQ
  subst l1 y1 z1
  exact ⟨T1, v, Lc, X1, hQ, fun t kt => st t kt⟩
set_option maxRecDepth 65536 in
set_option maxHeartbeats 40000000 in
theorem pG6 {p : Program} {l : Launch} {e : Env} {s : State} {m : MethodId} {args : Array Value} {below : List Frame} {meth : Method} {c : Code} {T0 : State} {locs : List Loc} {Z : State} {a0 : Array Value} {h0 : Heap} {n0 : Nat} (p1 : Int32) (p2 : Int32) (p3 : Int32) (p4 : Int32) (c0 : Int32) (c1 : Int32) (c2 : Int32) (nn : Int32) (jj : Int32) (dom : Addr) (non : Addr) (mm : Int32) (r1 : Int32) (r2 : Int32) (r3 : Int32) (k0 : Int64) (x : Int64) (y : Int64)
    (X0 : Stand p l e room_1 s m args below meth c T0 locs 11 404) (hx : p.tables.exec = Jvm.exec) (hZ : Z.Warmed39 s.vm) (hw : ∀ d ∈ tables_1, d.before a0 Z = true) (hby : c.code = code) (hml : c.maxLocals = 22) (hown : s.vm.findClass "com/example/caprice/caprice/solver/DomainsRestorePinLaw" = some m.cls) (e0 : T0.heap = h0) (N0 : Fr n0 locs) (O0 : Old Z n0 h0) :
    ∃ (T' : State) (locs' : List Loc), Stand p l e room_1 s m args below meth c T' locs' 11 404 ∧ Fr n0 locs' ∧ T'.heap = h0 ∧ ∀ t, Steps p.tables e below (T'.setTop (mkF m 341 #[.val (.int p1), .val (.int p2), .val (.int p3), .val (.int p4), .val (.int c0), .val (.int c1), .val (.int c2), .val (.int nn), .val (.int jj), .val (.ref dom), .val (.ref non), .val (.int mm), .val (.int r1), .val (.int r2), .val (.int r3), .val (.long k0), .second, .val (.long ((y ||| x) ^^^ (-1 : Int64))), .second, .unset, .unset, .unset] [(.int r1), (.int (0 : Int32)), (.int c0), (.int (64 : Int32))])) t → Steps p.tables e below (T0.setTop (mkF m 327 #[.val (.int p1), .val (.int p2), .val (.int p3), .val (.int p4), .val (.int c0), .val (.int c1), .val (.int c2), .val (.int nn), .val (.int jj), .val (.ref dom), .val (.ref non), .val (.int mm), .val (.int r1), .val (.int r2), .val (.int r3), .val (.long k0), .second, .unset, .unset, .unset, .unset, .unset] [(.long x), (.long y)])) t := by
  refine ⟨T0, _, X0, N0, e0, fun t kt => ?_⟩
  show Steps p.tables e below (T0.setTop (mkF m 327 #[.val (.int p1), .val (.int p2), .val (.int p3), .val (.int p4), .val (.int c0), .val (.int c1), .val (.int c2), .val (.int nn), .val (.int jj), .val (.ref dom), .val (.ref non), .val (.int mm), .val (.int r1), .val (.int r2), .val (.int r3), .val (.long k0), .second, .unset, .unset, .unset, .unset, .unset] [(.long x), (.long y)])) _
  refine XS.lor X0.here hx rfl (hb hby at_327) rfl ?_
  show Steps p.tables e below (T0.setTop (mkF m 328 #[.val (.int p1), .val (.int p2), .val (.int p3), .val (.int p4), .val (.int c0), .val (.int c1), .val (.int c2), .val (.int nn), .val (.int jj), .val (.ref dom), .val (.ref non), .val (.int mm), .val (.int r1), .val (.int r2), .val (.int r3), .val (.long k0), .second, .unset, .unset, .unset, .unset, .unset] [(.long (y ||| x))])) _
  refine X0.ldc2Long hx hown (mvT hZ (hw _ (List.mem_of_getElem? (i := 60) rfl))) (g := (mkF m 328 #[.val (.int p1), .val (.int p2), .val (.int p3), .val (.int p4), .val (.int c0), .val (.int c1), .val (.int c2), .val (.int nn), .val (.int jj), .val (.ref dom), .val (.ref non), .val (.int mm), .val (.int r1), .val (.int r2), .val (.int r3), .val (.long k0), .second, .unset, .unset, .unset, .unset, .unset] [(.long (y ||| x))])) rfl (hb hby at_328) _ ?_
  show Steps p.tables e below (T0.setTop (mkF m 331 #[.val (.int p1), .val (.int p2), .val (.int p3), .val (.int p4), .val (.int c0), .val (.int c1), .val (.int c2), .val (.int nn), .val (.int jj), .val (.ref dom), .val (.ref non), .val (.int mm), .val (.int r1), .val (.int r2), .val (.int r3), .val (.long k0), .second, .unset, .unset, .unset, .unset, .unset] [(.long (-1 : Int64)), (.long (y ||| x))])) _
  refine XS.lxor X0.here hx rfl (hb hby at_331) rfl ?_
  show Steps p.tables e below (T0.setTop (mkF m 332 #[.val (.int p1), .val (.int p2), .val (.int p3), .val (.int p4), .val (.int c0), .val (.int c1), .val (.int c2), .val (.int nn), .val (.int jj), .val (.ref dom), .val (.ref non), .val (.int mm), .val (.int r1), .val (.int r2), .val (.int r3), .val (.long k0), .second, .unset, .unset, .unset, .unset, .unset] [(.long ((y ||| x) ^^^ (-1 : Int64)))])) _
  refine XS.lstore X0.here hx rfl (hb hby at_332) rfl (l' := #[.val (.int p1), .val (.int p2), .val (.int p3), .val (.int p4), .val (.int c0), .val (.int c1), .val (.int c2), .val (.int nn), .val (.int jj), .val (.ref dom), .val (.ref non), .val (.int mm), .val (.int r1), .val (.int r2), .val (.int r3), .val (.long k0), .second, .val (.long ((y ||| x) ^^^ (-1 : Int64))), .second, .unset, .unset, .unset]) rfl ?_
  show Steps p.tables e below (T0.setTop (mkF m 334 #[.val (.int p1), .val (.int p2), .val (.int p3), .val (.int p4), .val (.int c0), .val (.int c1), .val (.int c2), .val (.int nn), .val (.int jj), .val (.ref dom), .val (.ref non), .val (.int mm), .val (.int r1), .val (.int r2), .val (.int r3), .val (.long k0), .second, .val (.long ((y ||| x) ^^^ (-1 : Int64))), .second, .unset, .unset, .unset] [])) _
  refine XS.bipush X0.here hx rfl (hb hby at_334) ?_
  show Steps p.tables e below (T0.setTop (mkF m 336 #[.val (.int p1), .val (.int p2), .val (.int p3), .val (.int p4), .val (.int c0), .val (.int c1), .val (.int c2), .val (.int nn), .val (.int jj), .val (.ref dom), .val (.ref non), .val (.int mm), .val (.int r1), .val (.int r2), .val (.int r3), .val (.long k0), .second, .val (.long ((y ||| x) ^^^ (-1 : Int64))), .second, .unset, .unset, .unset] [(.int (64 : Int32))])) _
  refine XS.iload X0.here hx rfl (hb hby at_336) rfl ?_
  show Steps p.tables e below (T0.setTop (mkF m 338 #[.val (.int p1), .val (.int p2), .val (.int p3), .val (.int p4), .val (.int c0), .val (.int c1), .val (.int c2), .val (.int nn), .val (.int jj), .val (.ref dom), .val (.ref non), .val (.int mm), .val (.int r1), .val (.int r2), .val (.int r3), .val (.long k0), .second, .val (.long ((y ||| x) ^^^ (-1 : Int64))), .second, .unset, .unset, .unset] [(.int c0), (.int (64 : Int32))])) _
  refine XS.iconst X0.here hx rfl (hb hby at_338) ?_
  show Steps p.tables e below (T0.setTop (mkF m 339 #[.val (.int p1), .val (.int p2), .val (.int p3), .val (.int p4), .val (.int c0), .val (.int c1), .val (.int c2), .val (.int nn), .val (.int jj), .val (.ref dom), .val (.ref non), .val (.int mm), .val (.int r1), .val (.int r2), .val (.int r3), .val (.long k0), .second, .val (.long ((y ||| x) ^^^ (-1 : Int64))), .second, .unset, .unset, .unset] [(.int (0 : Int32)), (.int c0), (.int (64 : Int32))])) _
  refine XS.iload X0.here hx rfl (hb hby at_339) rfl ?_
  show Steps p.tables e below (T0.setTop (mkF m 341 #[.val (.int p1), .val (.int p2), .val (.int p3), .val (.int p4), .val (.int c0), .val (.int c1), .val (.int c2), .val (.int nn), .val (.int jj), .val (.ref dom), .val (.ref non), .val (.int mm), .val (.int r1), .val (.int r2), .val (.int r3), .val (.long k0), .second, .val (.long ((y ||| x) ^^^ (-1 : Int64))), .second, .unset, .unset, .unset] [(.int r1), (.int (0 : Int32)), (.int c0), (.int (64 : Int32))])) _
  exact kt
theorem pd319 : parseMethodDescriptor "(IIZ)I" = some ⟨[.int, .int, .boolean], some .int⟩ := by decide +kernel
set_option maxRecDepth 65536 in
set_option maxHeartbeats 4000000 in
theorem cG6 {p : Program} {l : Launch} {e : Env} {s : State} {m : MethodId} {args : Array Value} {below : List Frame} {meth : Method} {c : Code} {T0 : State} {locs : List Loc} {cells slots : Nat} {Z : State} {a0 : Array Value} {h0 : Heap} {Ls : Array Slot} (x0 : Int32) (x1 : Int32) (x2 : Int32) (y : Int32)
    (X0 : Stand p l e room_1 s m args below meth c T0 locs cells slots) (hx : p.tables.exec = Jvm.exec) (hZ : Z.Warmed39 s.vm) (hw : ∀ d ∈ tables_1, d.before a0 Z = true) (hby : c.code = code) (hml : c.maxLocals = 22) (hown : s.vm.findClass "com/example/caprice/caprice/solver/DomainsRestorePinLaw" = some m.cls) (e0 : T0.heap = h0) (hsz : Ls.size = 22) {rm : Room} {Q : Option Value → Heap → List Loc → Prop}
    (M : MetFree l (⟨"com/example/caprice/caprice/solver/DomainsRestorePinLaw", "one", "(IIZ)I"⟩ : MethodName) (head1 [Jvm.Cond.code (⟨"com/example/caprice/caprice/solver/DomainsRestorePinLaw", "one", "(IIZ)I"⟩ : MethodName) method_3_code 3 (some .int)] rm) (fun a U => a = #[(.int x0), (.int x1), (.int x2)] ∧ Z.Warmed39 U.vm ∧ U.heap = h0) (fun _ _ _ _ _ => True) (fun _ U o U' => ∃ v L, o = .returned v ∧ Q v U'.heap L ∧ FrameEnd U o U' L rm.cells rm.slots)) (hfr : rm.frames + 1 ≤ room_1.frames) (hlo : 1 + (3 + 11) + rm.locals ≤ room_1.locals) (hce : cells + rm.cells ≤ room_1.cells) (hsl : slots + rm.slots ≤ room_1.slots) :
    ∃ (T' : State) (v : Option Value) (L : List Loc), Stand p l e room_1 s m args below meth c T' (locs ++ L) (cells + rm.cells) (slots + rm.slots) ∧ Q v T'.heap L ∧ ∀ t, Steps p.tables e below (T'.setTop (mkF m 344 Ls (v.toList ++ [(.int y)]))) t → Steps p.tables e below (T0.setTop (mkF m 341 Ls [(.int x2), (.int x1), (.int x0), (.int y)])) t := by
  obtain ⟨v, _, ⟨T1, L1, k1, n1⟩, -, X1, ⟨Lc, hQ, l1, y1, z1⟩, st⟩ := Jvm.LawKit.callS X0 hx (y := (⟨"com/example/caprice/caprice/solver/DomainsRestorePinLaw", "one", "(IIZ)I"⟩ : MethodName)) hown (mvT hZ (hw _ (List.mem_of_getElem? (i := 61) rfl))) (mvT hZ (hw _ (List.mem_of_getElem? (i := 62) rfl))) (mvT hZ (hw _ (List.mem_of_getElem? (i := 58) rfl))) (mvT hZ (hw _ (List.mem_of_getElem? (i := 63) rfl))) (by decide) (backOf (W := 1) M hZ (hw _ (List.mem_of_getElem? (i := 63) rfl)) (hw _ (List.mem_of_getElem? (i := 58) rfl)) hfr hlo) (g := (mkF m 341 Ls [(.int x2), (.int x1), (.int x0), (.int y)])) rfl (by rw [hml]; exact hsz) (argsL := [(.int x0), (.int x1), (.int x2)]) (rest := [(.int y)]) (lenOf pd319 rfl) rfl (by show 2 * 0 + _ ≤ _; exact Nat.le_of_eq rfl) (hb hby at_341) (fun _ _ => ⟨rfl, e0, hce, hsl⟩)
  dsimp only [Pt.U, Pt.locs, Pt.cells, Pt.slots] at X1 l1 y1 z1 st hQ
  subst l1 y1 z1
  exact ⟨T1, v, Lc, X1, hQ, fun t kt => st t kt⟩
set_option maxRecDepth 65536 in
set_option maxHeartbeats 40000000 in
theorem pG7 {p : Program} {l : Launch} {e : Env} {s : State} {m : MethodId} {args : Array Value} {below : List Frame} {meth : Method} {c : Code} {T0 : State} {locs : List Loc} {Z : State} {a0 : Array Value} {h0 : Heap} {n0 : Nat} (p1 : Int32) (p2 : Int32) (p3 : Int32) (p4 : Int32) (c0 : Int32) (c1 : Int32) (c2 : Int32) (nn : Int32) (jj : Int32) (dom : Addr) (non : Addr) (mm : Int32) (r1 : Int32) (r2 : Int32) (r3 : Int32) (k0 : Int64) (k1 : Int64) (x : Int32) (y : Int32)
    (X0 : Stand p l e room_1 s m args below meth c T0 locs 11 404) (hx : p.tables.exec = Jvm.exec) (hZ : Z.Warmed39 s.vm) (hw : ∀ d ∈ tables_1, d.before a0 Z = true) (hby : c.code = code) (hml : c.maxLocals = 22) (hown : s.vm.findClass "com/example/caprice/caprice/solver/DomainsRestorePinLaw" = some m.cls) (e0 : T0.heap = h0) (N0 : Fr n0 locs) (O0 : Old Z n0 h0) :
    ∃ (T' : State) (locs' : List Loc), Stand p l e room_1 s m args below meth c T' locs' 11 404 ∧ Fr n0 locs' ∧ T'.heap = h0 ∧ ∀ t, Steps p.tables e below (T'.setTop (mkF m 350 #[.val (.int p1), .val (.int p2), .val (.int p3), .val (.int p4), .val (.int c0), .val (.int c1), .val (.int c2), .val (.int nn), .val (.int jj), .val (.ref dom), .val (.ref non), .val (.int mm), .val (.int r1), .val (.int r2), .val (.int r3), .val (.long k0), .second, .val (.long k1), .second, .unset, .unset, .unset] [(.int r2), (.int (0 : Int32)), (.int c1), (.int (y - x))])) t → Steps p.tables e below (T0.setTop (mkF m 344 #[.val (.int p1), .val (.int p2), .val (.int p3), .val (.int p4), .val (.int c0), .val (.int c1), .val (.int c2), .val (.int nn), .val (.int jj), .val (.ref dom), .val (.ref non), .val (.int mm), .val (.int r1), .val (.int r2), .val (.int r3), .val (.long k0), .second, .val (.long k1), .second, .unset, .unset, .unset] [(.int x), (.int y)])) t := by
  refine ⟨T0, _, X0, N0, e0, fun t kt => ?_⟩
  show Steps p.tables e below (T0.setTop (mkF m 344 #[.val (.int p1), .val (.int p2), .val (.int p3), .val (.int p4), .val (.int c0), .val (.int c1), .val (.int c2), .val (.int nn), .val (.int jj), .val (.ref dom), .val (.ref non), .val (.int mm), .val (.int r1), .val (.int r2), .val (.int r3), .val (.long k0), .second, .val (.long k1), .second, .unset, .unset, .unset] [(.int x), (.int y)])) _
  refine XS.isub X0.here hx rfl (hb hby at_344) rfl ?_
  show Steps p.tables e below (T0.setTop (mkF m 345 #[.val (.int p1), .val (.int p2), .val (.int p3), .val (.int p4), .val (.int c0), .val (.int c1), .val (.int c2), .val (.int nn), .val (.int jj), .val (.ref dom), .val (.ref non), .val (.int mm), .val (.int r1), .val (.int r2), .val (.int r3), .val (.long k0), .second, .val (.long k1), .second, .unset, .unset, .unset] [(.int (y - x))])) _
  refine XS.iload X0.here hx rfl (hb hby at_345) rfl ?_
  show Steps p.tables e below (T0.setTop (mkF m 347 #[.val (.int p1), .val (.int p2), .val (.int p3), .val (.int p4), .val (.int c0), .val (.int c1), .val (.int c2), .val (.int nn), .val (.int jj), .val (.ref dom), .val (.ref non), .val (.int mm), .val (.int r1), .val (.int r2), .val (.int r3), .val (.long k0), .second, .val (.long k1), .second, .unset, .unset, .unset] [(.int c1), (.int (y - x))])) _
  refine XS.iconst X0.here hx rfl (hb hby at_347) ?_
  show Steps p.tables e below (T0.setTop (mkF m 348 #[.val (.int p1), .val (.int p2), .val (.int p3), .val (.int p4), .val (.int c0), .val (.int c1), .val (.int c2), .val (.int nn), .val (.int jj), .val (.ref dom), .val (.ref non), .val (.int mm), .val (.int r1), .val (.int r2), .val (.int r3), .val (.long k0), .second, .val (.long k1), .second, .unset, .unset, .unset] [(.int (0 : Int32)), (.int c1), (.int (y - x))])) _
  refine XS.iload X0.here hx rfl (hb hby at_348) rfl ?_
  show Steps p.tables e below (T0.setTop (mkF m 350 #[.val (.int p1), .val (.int p2), .val (.int p3), .val (.int p4), .val (.int c0), .val (.int c1), .val (.int c2), .val (.int nn), .val (.int jj), .val (.ref dom), .val (.ref non), .val (.int mm), .val (.int r1), .val (.int r2), .val (.int r3), .val (.long k0), .second, .val (.long k1), .second, .unset, .unset, .unset] [(.int r2), (.int (0 : Int32)), (.int c1), (.int (y - x))])) _
  exact kt
set_option maxRecDepth 65536 in
set_option maxHeartbeats 4000000 in
theorem cG7 {p : Program} {l : Launch} {e : Env} {s : State} {m : MethodId} {args : Array Value} {below : List Frame} {meth : Method} {c : Code} {T0 : State} {locs : List Loc} {cells slots : Nat} {Z : State} {a0 : Array Value} {h0 : Heap} {Ls : Array Slot} (x0 : Int32) (x1 : Int32) (x2 : Int32) (y : Int32)
    (X0 : Stand p l e room_1 s m args below meth c T0 locs cells slots) (hx : p.tables.exec = Jvm.exec) (hZ : Z.Warmed39 s.vm) (hw : ∀ d ∈ tables_1, d.before a0 Z = true) (hby : c.code = code) (hml : c.maxLocals = 22) (hown : s.vm.findClass "com/example/caprice/caprice/solver/DomainsRestorePinLaw" = some m.cls) (e0 : T0.heap = h0) (hsz : Ls.size = 22) {rm : Room} {Q : Option Value → Heap → List Loc → Prop}
    (M : MetFree l (⟨"com/example/caprice/caprice/solver/DomainsRestorePinLaw", "one", "(IIZ)I"⟩ : MethodName) (head1 [Jvm.Cond.code (⟨"com/example/caprice/caprice/solver/DomainsRestorePinLaw", "one", "(IIZ)I"⟩ : MethodName) method_3_code 3 (some .int)] rm) (fun a U => a = #[(.int x0), (.int x1), (.int x2)] ∧ Z.Warmed39 U.vm ∧ U.heap = h0) (fun _ _ _ _ _ => True) (fun _ U o U' => ∃ v L, o = .returned v ∧ Q v U'.heap L ∧ FrameEnd U o U' L rm.cells rm.slots)) (hfr : rm.frames + 1 ≤ room_1.frames) (hlo : 1 + (3 + 11) + rm.locals ≤ room_1.locals) (hce : cells + rm.cells ≤ room_1.cells) (hsl : slots + rm.slots ≤ room_1.slots) :
    ∃ (T' : State) (v : Option Value) (L : List Loc), Stand p l e room_1 s m args below meth c T' (locs ++ L) (cells + rm.cells) (slots + rm.slots) ∧ Q v T'.heap L ∧ ∀ t, Steps p.tables e below (T'.setTop (mkF m 353 Ls (v.toList ++ [(.int y)]))) t → Steps p.tables e below (T0.setTop (mkF m 350 Ls [(.int x2), (.int x1), (.int x0), (.int y)])) t := by
  obtain ⟨v, _, ⟨T1, L1, k1, n1⟩, -, X1, ⟨Lc, hQ, l1, y1, z1⟩, st⟩ := Jvm.LawKit.callS X0 hx (y := (⟨"com/example/caprice/caprice/solver/DomainsRestorePinLaw", "one", "(IIZ)I"⟩ : MethodName)) hown (mvT hZ (hw _ (List.mem_of_getElem? (i := 61) rfl))) (mvT hZ (hw _ (List.mem_of_getElem? (i := 62) rfl))) (mvT hZ (hw _ (List.mem_of_getElem? (i := 58) rfl))) (mvT hZ (hw _ (List.mem_of_getElem? (i := 63) rfl))) (by decide) (backOf (W := 1) M hZ (hw _ (List.mem_of_getElem? (i := 63) rfl)) (hw _ (List.mem_of_getElem? (i := 58) rfl)) hfr hlo) (g := (mkF m 350 Ls [(.int x2), (.int x1), (.int x0), (.int y)])) rfl (by rw [hml]; exact hsz) (argsL := [(.int x0), (.int x1), (.int x2)]) (rest := [(.int y)]) (lenOf pd319 rfl) rfl (by show 2 * 0 + _ ≤ _; exact Nat.le_of_eq rfl) (hb hby at_350) (fun _ _ => ⟨rfl, e0, hce, hsl⟩)
  dsimp only [Pt.U, Pt.locs, Pt.cells, Pt.slots] at X1 l1 y1 z1 st hQ
  subst l1 y1 z1
  exact ⟨T1, v, Lc, X1, hQ, fun t kt => st t kt⟩
set_option maxRecDepth 65536 in
set_option maxHeartbeats 40000000 in
theorem pG8 {p : Program} {l : Launch} {e : Env} {s : State} {m : MethodId} {args : Array Value} {below : List Frame} {meth : Method} {c : Code} {T0 : State} {locs : List Loc} {Z : State} {a0 : Array Value} {h0 : Heap} {n0 : Nat} (p1 : Int32) (p2 : Int32) (p3 : Int32) (p4 : Int32) (c0 : Int32) (c1 : Int32) (c2 : Int32) (nn : Int32) (jj : Int32) (dom : Addr) (non : Addr) (mm : Int32) (r1 : Int32) (r2 : Int32) (r3 : Int32) (k0 : Int64) (k1 : Int64) (x : Int32) (y : Int32)
    (X0 : Stand p l e room_1 s m args below meth c T0 locs 11 404) (hx : p.tables.exec = Jvm.exec) (hZ : Z.Warmed39 s.vm) (hw : ∀ d ∈ tables_1, d.before a0 Z = true) (hby : c.code = code) (hml : c.maxLocals = 22) (hown : s.vm.findClass "com/example/caprice/caprice/solver/DomainsRestorePinLaw" = some m.cls) (e0 : T0.heap = h0) (N0 : Fr n0 locs) (O0 : Old Z n0 h0) :
    ∃ (T' : State) (locs' : List Loc), Stand p l e room_1 s m args below meth c T' locs' 11 404 ∧ Fr n0 locs' ∧ T'.heap = h0 ∧ ∀ t, Steps p.tables e below (T'.setTop (mkF m 359 #[.val (.int p1), .val (.int p2), .val (.int p3), .val (.int p4), .val (.int c0), .val (.int c1), .val (.int c2), .val (.int nn), .val (.int jj), .val (.ref dom), .val (.ref non), .val (.int mm), .val (.int r1), .val (.int r2), .val (.int r3), .val (.long k0), .second, .val (.long k1), .second, .unset, .unset, .unset] [(.int r3), (.int (0 : Int32)), (.int c2), (.int (y - x))])) t → Steps p.tables e below (T0.setTop (mkF m 353 #[.val (.int p1), .val (.int p2), .val (.int p3), .val (.int p4), .val (.int c0), .val (.int c1), .val (.int c2), .val (.int nn), .val (.int jj), .val (.ref dom), .val (.ref non), .val (.int mm), .val (.int r1), .val (.int r2), .val (.int r3), .val (.long k0), .second, .val (.long k1), .second, .unset, .unset, .unset] [(.int x), (.int y)])) t := by
  refine ⟨T0, _, X0, N0, e0, fun t kt => ?_⟩
  show Steps p.tables e below (T0.setTop (mkF m 353 #[.val (.int p1), .val (.int p2), .val (.int p3), .val (.int p4), .val (.int c0), .val (.int c1), .val (.int c2), .val (.int nn), .val (.int jj), .val (.ref dom), .val (.ref non), .val (.int mm), .val (.int r1), .val (.int r2), .val (.int r3), .val (.long k0), .second, .val (.long k1), .second, .unset, .unset, .unset] [(.int x), (.int y)])) _
  refine XS.isub X0.here hx rfl (hb hby at_353) rfl ?_
  show Steps p.tables e below (T0.setTop (mkF m 354 #[.val (.int p1), .val (.int p2), .val (.int p3), .val (.int p4), .val (.int c0), .val (.int c1), .val (.int c2), .val (.int nn), .val (.int jj), .val (.ref dom), .val (.ref non), .val (.int mm), .val (.int r1), .val (.int r2), .val (.int r3), .val (.long k0), .second, .val (.long k1), .second, .unset, .unset, .unset] [(.int (y - x))])) _
  refine XS.iload X0.here hx rfl (hb hby at_354) rfl ?_
  show Steps p.tables e below (T0.setTop (mkF m 356 #[.val (.int p1), .val (.int p2), .val (.int p3), .val (.int p4), .val (.int c0), .val (.int c1), .val (.int c2), .val (.int nn), .val (.int jj), .val (.ref dom), .val (.ref non), .val (.int mm), .val (.int r1), .val (.int r2), .val (.int r3), .val (.long k0), .second, .val (.long k1), .second, .unset, .unset, .unset] [(.int c2), (.int (y - x))])) _
  refine XS.iconst X0.here hx rfl (hb hby at_356) ?_
  show Steps p.tables e below (T0.setTop (mkF m 357 #[.val (.int p1), .val (.int p2), .val (.int p3), .val (.int p4), .val (.int c0), .val (.int c1), .val (.int c2), .val (.int nn), .val (.int jj), .val (.ref dom), .val (.ref non), .val (.int mm), .val (.int r1), .val (.int r2), .val (.int r3), .val (.long k0), .second, .val (.long k1), .second, .unset, .unset, .unset] [(.int (0 : Int32)), (.int c2), (.int (y - x))])) _
  refine XS.iload X0.here hx rfl (hb hby at_357) rfl ?_
  show Steps p.tables e below (T0.setTop (mkF m 359 #[.val (.int p1), .val (.int p2), .val (.int p3), .val (.int p4), .val (.int c0), .val (.int c1), .val (.int c2), .val (.int nn), .val (.int jj), .val (.ref dom), .val (.ref non), .val (.int mm), .val (.int r1), .val (.int r2), .val (.int r3), .val (.long k0), .second, .val (.long k1), .second, .unset, .unset, .unset] [(.int r3), (.int (0 : Int32)), (.int c2), (.int (y - x))])) _
  exact kt
set_option maxRecDepth 65536 in
set_option maxHeartbeats 4000000 in
theorem cG8 {p : Program} {l : Launch} {e : Env} {s : State} {m : MethodId} {args : Array Value} {below : List Frame} {meth : Method} {c : Code} {T0 : State} {locs : List Loc} {cells slots : Nat} {Z : State} {a0 : Array Value} {h0 : Heap} {Ls : Array Slot} (x0 : Int32) (x1 : Int32) (x2 : Int32) (y : Int32)
    (X0 : Stand p l e room_1 s m args below meth c T0 locs cells slots) (hx : p.tables.exec = Jvm.exec) (hZ : Z.Warmed39 s.vm) (hw : ∀ d ∈ tables_1, d.before a0 Z = true) (hby : c.code = code) (hml : c.maxLocals = 22) (hown : s.vm.findClass "com/example/caprice/caprice/solver/DomainsRestorePinLaw" = some m.cls) (e0 : T0.heap = h0) (hsz : Ls.size = 22) {rm : Room} {Q : Option Value → Heap → List Loc → Prop}
    (M : MetFree l (⟨"com/example/caprice/caprice/solver/DomainsRestorePinLaw", "one", "(IIZ)I"⟩ : MethodName) (head1 [Jvm.Cond.code (⟨"com/example/caprice/caprice/solver/DomainsRestorePinLaw", "one", "(IIZ)I"⟩ : MethodName) method_3_code 3 (some .int)] rm) (fun a U => a = #[(.int x0), (.int x1), (.int x2)] ∧ Z.Warmed39 U.vm ∧ U.heap = h0) (fun _ _ _ _ _ => True) (fun _ U o U' => ∃ v L, o = .returned v ∧ Q v U'.heap L ∧ FrameEnd U o U' L rm.cells rm.slots)) (hfr : rm.frames + 1 ≤ room_1.frames) (hlo : 1 + (3 + 11) + rm.locals ≤ room_1.locals) (hce : cells + rm.cells ≤ room_1.cells) (hsl : slots + rm.slots ≤ room_1.slots) :
    ∃ (T' : State) (v : Option Value) (L : List Loc), Stand p l e room_1 s m args below meth c T' (locs ++ L) (cells + rm.cells) (slots + rm.slots) ∧ Q v T'.heap L ∧ ∀ t, Steps p.tables e below (T'.setTop (mkF m 362 Ls (v.toList ++ [(.int y)]))) t → Steps p.tables e below (T0.setTop (mkF m 359 Ls [(.int x2), (.int x1), (.int x0), (.int y)])) t := by
  obtain ⟨v, _, ⟨T1, L1, k1, n1⟩, -, X1, ⟨Lc, hQ, l1, y1, z1⟩, st⟩ := Jvm.LawKit.callS X0 hx (y := (⟨"com/example/caprice/caprice/solver/DomainsRestorePinLaw", "one", "(IIZ)I"⟩ : MethodName)) hown (mvT hZ (hw _ (List.mem_of_getElem? (i := 61) rfl))) (mvT hZ (hw _ (List.mem_of_getElem? (i := 62) rfl))) (mvT hZ (hw _ (List.mem_of_getElem? (i := 58) rfl))) (mvT hZ (hw _ (List.mem_of_getElem? (i := 63) rfl))) (by decide) (backOf (W := 1) M hZ (hw _ (List.mem_of_getElem? (i := 63) rfl)) (hw _ (List.mem_of_getElem? (i := 58) rfl)) hfr hlo) (g := (mkF m 359 Ls [(.int x2), (.int x1), (.int x0), (.int y)])) rfl (by rw [hml]; exact hsz) (argsL := [(.int x0), (.int x1), (.int x2)]) (rest := [(.int y)]) (lenOf pd319 rfl) rfl (by show 2 * 0 + _ ≤ _; exact Nat.le_of_eq rfl) (hb hby at_359) (fun _ _ => ⟨rfl, e0, hce, hsl⟩)
  dsimp only [Pt.U, Pt.locs, Pt.cells, Pt.slots] at X1 l1 y1 z1 st hQ
  subst l1 y1 z1
  exact ⟨T1, v, Lc, X1, hQ, fun t kt => st t kt⟩
set_option maxRecDepth 65536 in
set_option maxHeartbeats 40000000 in
theorem pG9 {p : Program} {l : Launch} {e : Env} {s : State} {m : MethodId} {args : Array Value} {below : List Frame} {meth : Method} {c : Code} {T0 : State} {locs : List Loc} {Z : State} {a0 : Array Value} {h0 : Heap} {n0 : Nat} (p1 : Int32) (p2 : Int32) (p3 : Int32) (p4 : Int32) (c0 : Int32) (c1 : Int32) (c2 : Int32) (nn : Int32) (jj : Int32) (dom : Addr) (non : Addr) (mm : Int32) (r1 : Int32) (r2 : Int32) (r3 : Int32) (k0 : Int64) (k1 : Int64) (x : Int32) (y : Int32)
    (X0 : Stand p l e room_1 s m args below meth c T0 locs 11 404) (hx : p.tables.exec = Jvm.exec) (hZ : Z.Warmed39 s.vm) (hw : ∀ d ∈ tables_1, d.before a0 Z = true) (hby : c.code = code) (hml : c.maxLocals = 22) (hown : s.vm.findClass "com/example/caprice/caprice/solver/DomainsRestorePinLaw" = some m.cls) (e0 : T0.heap = h0) (N0 : Fr n0 locs) (O0 : Old Z n0 h0) :
    ∃ (T' : State) (locs' : List Loc), Stand p l e room_1 s m args below meth c T' locs' 11 404 ∧ Fr n0 locs' ∧ T'.heap = h0 ∧ ∀ t, Steps p.tables e below (T'.setTop (mkF m 372 #[.val (.int p1), .val (.int p2), .val (.int p3), .val (.int p4), .val (.int c0), .val (.int c1), .val (.int c2), .val (.int nn), .val (.int jj), .val (.ref dom), .val (.ref non), .val (.int mm), .val (.int r1), .val (.int r2), .val (.int r3), .val (.long k0), .second, .val (.long k1), .second, .val (.int (y - x)), .unset, .unset] [(.int r1), (.int (1 : Int32)), (.int c0), (.int (64 : Int32))])) t → Steps p.tables e below (T0.setTop (mkF m 362 #[.val (.int p1), .val (.int p2), .val (.int p3), .val (.int p4), .val (.int c0), .val (.int c1), .val (.int c2), .val (.int nn), .val (.int jj), .val (.ref dom), .val (.ref non), .val (.int mm), .val (.int r1), .val (.int r2), .val (.int r3), .val (.long k0), .second, .val (.long k1), .second, .unset, .unset, .unset] [(.int x), (.int y)])) t := by
  refine ⟨T0, _, X0, N0, e0, fun t kt => ?_⟩
  show Steps p.tables e below (T0.setTop (mkF m 362 #[.val (.int p1), .val (.int p2), .val (.int p3), .val (.int p4), .val (.int c0), .val (.int c1), .val (.int c2), .val (.int nn), .val (.int jj), .val (.ref dom), .val (.ref non), .val (.int mm), .val (.int r1), .val (.int r2), .val (.int r3), .val (.long k0), .second, .val (.long k1), .second, .unset, .unset, .unset] [(.int x), (.int y)])) _
  refine XS.isub X0.here hx rfl (hb hby at_362) rfl ?_
  show Steps p.tables e below (T0.setTop (mkF m 363 #[.val (.int p1), .val (.int p2), .val (.int p3), .val (.int p4), .val (.int c0), .val (.int c1), .val (.int c2), .val (.int nn), .val (.int jj), .val (.ref dom), .val (.ref non), .val (.int mm), .val (.int r1), .val (.int r2), .val (.int r3), .val (.long k0), .second, .val (.long k1), .second, .unset, .unset, .unset] [(.int (y - x))])) _
  refine XS.istore X0.here hx rfl (hb hby at_363) rfl (l' := #[.val (.int p1), .val (.int p2), .val (.int p3), .val (.int p4), .val (.int c0), .val (.int c1), .val (.int c2), .val (.int nn), .val (.int jj), .val (.ref dom), .val (.ref non), .val (.int mm), .val (.int r1), .val (.int r2), .val (.int r3), .val (.long k0), .second, .val (.long k1), .second, .val (.int (y - x)), .unset, .unset]) rfl ?_
  show Steps p.tables e below (T0.setTop (mkF m 365 #[.val (.int p1), .val (.int p2), .val (.int p3), .val (.int p4), .val (.int c0), .val (.int c1), .val (.int c2), .val (.int nn), .val (.int jj), .val (.ref dom), .val (.ref non), .val (.int mm), .val (.int r1), .val (.int r2), .val (.int r3), .val (.long k0), .second, .val (.long k1), .second, .val (.int (y - x)), .unset, .unset] [])) _
  refine XS.bipush X0.here hx rfl (hb hby at_365) ?_
  show Steps p.tables e below (T0.setTop (mkF m 367 #[.val (.int p1), .val (.int p2), .val (.int p3), .val (.int p4), .val (.int c0), .val (.int c1), .val (.int c2), .val (.int nn), .val (.int jj), .val (.ref dom), .val (.ref non), .val (.int mm), .val (.int r1), .val (.int r2), .val (.int r3), .val (.long k0), .second, .val (.long k1), .second, .val (.int (y - x)), .unset, .unset] [(.int (64 : Int32))])) _
  refine XS.iload X0.here hx rfl (hb hby at_367) rfl ?_
  show Steps p.tables e below (T0.setTop (mkF m 369 #[.val (.int p1), .val (.int p2), .val (.int p3), .val (.int p4), .val (.int c0), .val (.int c1), .val (.int c2), .val (.int nn), .val (.int jj), .val (.ref dom), .val (.ref non), .val (.int mm), .val (.int r1), .val (.int r2), .val (.int r3), .val (.long k0), .second, .val (.long k1), .second, .val (.int (y - x)), .unset, .unset] [(.int c0), (.int (64 : Int32))])) _
  refine XS.iconst X0.here hx rfl (hb hby at_369) ?_
  show Steps p.tables e below (T0.setTop (mkF m 370 #[.val (.int p1), .val (.int p2), .val (.int p3), .val (.int p4), .val (.int c0), .val (.int c1), .val (.int c2), .val (.int nn), .val (.int jj), .val (.ref dom), .val (.ref non), .val (.int mm), .val (.int r1), .val (.int r2), .val (.int r3), .val (.long k0), .second, .val (.long k1), .second, .val (.int (y - x)), .unset, .unset] [(.int (1 : Int32)), (.int c0), (.int (64 : Int32))])) _
  refine XS.iload X0.here hx rfl (hb hby at_370) rfl ?_
  show Steps p.tables e below (T0.setTop (mkF m 372 #[.val (.int p1), .val (.int p2), .val (.int p3), .val (.int p4), .val (.int c0), .val (.int c1), .val (.int c2), .val (.int nn), .val (.int jj), .val (.ref dom), .val (.ref non), .val (.int mm), .val (.int r1), .val (.int r2), .val (.int r3), .val (.long k0), .second, .val (.long k1), .second, .val (.int (y - x)), .unset, .unset] [(.int r1), (.int (1 : Int32)), (.int c0), (.int (64 : Int32))])) _
  exact kt
set_option maxRecDepth 65536 in
set_option maxHeartbeats 4000000 in
theorem cG9 {p : Program} {l : Launch} {e : Env} {s : State} {m : MethodId} {args : Array Value} {below : List Frame} {meth : Method} {c : Code} {T0 : State} {locs : List Loc} {cells slots : Nat} {Z : State} {a0 : Array Value} {h0 : Heap} {Ls : Array Slot} (x0 : Int32) (x1 : Int32) (x2 : Int32) (y : Int32)
    (X0 : Stand p l e room_1 s m args below meth c T0 locs cells slots) (hx : p.tables.exec = Jvm.exec) (hZ : Z.Warmed39 s.vm) (hw : ∀ d ∈ tables_1, d.before a0 Z = true) (hby : c.code = code) (hml : c.maxLocals = 22) (hown : s.vm.findClass "com/example/caprice/caprice/solver/DomainsRestorePinLaw" = some m.cls) (e0 : T0.heap = h0) (hsz : Ls.size = 22) {rm : Room} {Q : Option Value → Heap → List Loc → Prop}
    (M : MetFree l (⟨"com/example/caprice/caprice/solver/DomainsRestorePinLaw", "one", "(IIZ)I"⟩ : MethodName) (head1 [Jvm.Cond.code (⟨"com/example/caprice/caprice/solver/DomainsRestorePinLaw", "one", "(IIZ)I"⟩ : MethodName) method_3_code 3 (some .int)] rm) (fun a U => a = #[(.int x0), (.int x1), (.int x2)] ∧ Z.Warmed39 U.vm ∧ U.heap = h0) (fun _ _ _ _ _ => True) (fun _ U o U' => ∃ v L, o = .returned v ∧ Q v U'.heap L ∧ FrameEnd U o U' L rm.cells rm.slots)) (hfr : rm.frames + 1 ≤ room_1.frames) (hlo : 1 + (3 + 11) + rm.locals ≤ room_1.locals) (hce : cells + rm.cells ≤ room_1.cells) (hsl : slots + rm.slots ≤ room_1.slots) :
    ∃ (T' : State) (v : Option Value) (L : List Loc), Stand p l e room_1 s m args below meth c T' (locs ++ L) (cells + rm.cells) (slots + rm.slots) ∧ Q v T'.heap L ∧ ∀ t, Steps p.tables e below (T'.setTop (mkF m 375 Ls (v.toList ++ [(.int y)]))) t → Steps p.tables e below (T0.setTop (mkF m 372 Ls [(.int x2), (.int x1), (.int x0), (.int y)])) t := by
  obtain ⟨v, _, ⟨T1, L1, k1, n1⟩, -, X1, ⟨Lc, hQ, l1, y1, z1⟩, st⟩ := Jvm.LawKit.callS X0 hx (y := (⟨"com/example/caprice/caprice/solver/DomainsRestorePinLaw", "one", "(IIZ)I"⟩ : MethodName)) hown (mvT hZ (hw _ (List.mem_of_getElem? (i := 61) rfl))) (mvT hZ (hw _ (List.mem_of_getElem? (i := 62) rfl))) (mvT hZ (hw _ (List.mem_of_getElem? (i := 58) rfl))) (mvT hZ (hw _ (List.mem_of_getElem? (i := 63) rfl))) (by decide) (backOf (W := 1) M hZ (hw _ (List.mem_of_getElem? (i := 63) rfl)) (hw _ (List.mem_of_getElem? (i := 58) rfl)) hfr hlo) (g := (mkF m 372 Ls [(.int x2), (.int x1), (.int x0), (.int y)])) rfl (by rw [hml]; exact hsz) (argsL := [(.int x0), (.int x1), (.int x2)]) (rest := [(.int y)]) (lenOf pd319 rfl) rfl (by show 2 * 0 + _ ≤ _; exact Nat.le_of_eq rfl) (hb hby at_372) (fun _ _ => ⟨rfl, e0, hce, hsl⟩)
  dsimp only [Pt.U, Pt.locs, Pt.cells, Pt.slots] at X1 l1 y1 z1 st hQ
  subst l1 y1 z1
  exact ⟨T1, v, Lc, X1, hQ, fun t kt => st t kt⟩
set_option maxRecDepth 65536 in
set_option maxHeartbeats 40000000 in
theorem pGa {p : Program} {l : Launch} {e : Env} {s : State} {m : MethodId} {args : Array Value} {below : List Frame} {meth : Method} {c : Code} {T0 : State} {locs : List Loc} {Z : State} {a0 : Array Value} {h0 : Heap} {n0 : Nat} (p1 : Int32) (p2 : Int32) (p3 : Int32) (p4 : Int32) (c0 : Int32) (c1 : Int32) (c2 : Int32) (nn : Int32) (jj : Int32) (dom : Addr) (non : Addr) (mm : Int32) (r1 : Int32) (r2 : Int32) (r3 : Int32) (k0 : Int64) (k1 : Int64) (l0 : Int32) (x : Int32) (y : Int32)
    (X0 : Stand p l e room_1 s m args below meth c T0 locs 11 404) (hx : p.tables.exec = Jvm.exec) (hZ : Z.Warmed39 s.vm) (hw : ∀ d ∈ tables_1, d.before a0 Z = true) (hby : c.code = code) (hml : c.maxLocals = 22) (hown : s.vm.findClass "com/example/caprice/caprice/solver/DomainsRestorePinLaw" = some m.cls) (e0 : T0.heap = h0) (N0 : Fr n0 locs) (O0 : Old Z n0 h0) :
    ∃ (T' : State) (locs' : List Loc), Stand p l e room_1 s m args below meth c T' locs' 11 404 ∧ Fr n0 locs' ∧ T'.heap = h0 ∧ ∀ t, Steps p.tables e below (T'.setTop (mkF m 381 #[.val (.int p1), .val (.int p2), .val (.int p3), .val (.int p4), .val (.int c0), .val (.int c1), .val (.int c2), .val (.int nn), .val (.int jj), .val (.ref dom), .val (.ref non), .val (.int mm), .val (.int r1), .val (.int r2), .val (.int r3), .val (.long k0), .second, .val (.long k1), .second, .val (.int l0), .unset, .unset] [(.int r2), (.int (1 : Int32)), (.int c1), (.int (y - x))])) t → Steps p.tables e below (T0.setTop (mkF m 375 #[.val (.int p1), .val (.int p2), .val (.int p3), .val (.int p4), .val (.int c0), .val (.int c1), .val (.int c2), .val (.int nn), .val (.int jj), .val (.ref dom), .val (.ref non), .val (.int mm), .val (.int r1), .val (.int r2), .val (.int r3), .val (.long k0), .second, .val (.long k1), .second, .val (.int l0), .unset, .unset] [(.int x), (.int y)])) t := by
  refine ⟨T0, _, X0, N0, e0, fun t kt => ?_⟩
  show Steps p.tables e below (T0.setTop (mkF m 375 #[.val (.int p1), .val (.int p2), .val (.int p3), .val (.int p4), .val (.int c0), .val (.int c1), .val (.int c2), .val (.int nn), .val (.int jj), .val (.ref dom), .val (.ref non), .val (.int mm), .val (.int r1), .val (.int r2), .val (.int r3), .val (.long k0), .second, .val (.long k1), .second, .val (.int l0), .unset, .unset] [(.int x), (.int y)])) _
  refine XS.isub X0.here hx rfl (hb hby at_375) rfl ?_
  show Steps p.tables e below (T0.setTop (mkF m 376 #[.val (.int p1), .val (.int p2), .val (.int p3), .val (.int p4), .val (.int c0), .val (.int c1), .val (.int c2), .val (.int nn), .val (.int jj), .val (.ref dom), .val (.ref non), .val (.int mm), .val (.int r1), .val (.int r2), .val (.int r3), .val (.long k0), .second, .val (.long k1), .second, .val (.int l0), .unset, .unset] [(.int (y - x))])) _
  refine XS.iload X0.here hx rfl (hb hby at_376) rfl ?_
  show Steps p.tables e below (T0.setTop (mkF m 378 #[.val (.int p1), .val (.int p2), .val (.int p3), .val (.int p4), .val (.int c0), .val (.int c1), .val (.int c2), .val (.int nn), .val (.int jj), .val (.ref dom), .val (.ref non), .val (.int mm), .val (.int r1), .val (.int r2), .val (.int r3), .val (.long k0), .second, .val (.long k1), .second, .val (.int l0), .unset, .unset] [(.int c1), (.int (y - x))])) _
  refine XS.iconst X0.here hx rfl (hb hby at_378) ?_
  show Steps p.tables e below (T0.setTop (mkF m 379 #[.val (.int p1), .val (.int p2), .val (.int p3), .val (.int p4), .val (.int c0), .val (.int c1), .val (.int c2), .val (.int nn), .val (.int jj), .val (.ref dom), .val (.ref non), .val (.int mm), .val (.int r1), .val (.int r2), .val (.int r3), .val (.long k0), .second, .val (.long k1), .second, .val (.int l0), .unset, .unset] [(.int (1 : Int32)), (.int c1), (.int (y - x))])) _
  refine XS.iload X0.here hx rfl (hb hby at_379) rfl ?_
  show Steps p.tables e below (T0.setTop (mkF m 381 #[.val (.int p1), .val (.int p2), .val (.int p3), .val (.int p4), .val (.int c0), .val (.int c1), .val (.int c2), .val (.int nn), .val (.int jj), .val (.ref dom), .val (.ref non), .val (.int mm), .val (.int r1), .val (.int r2), .val (.int r3), .val (.long k0), .second, .val (.long k1), .second, .val (.int l0), .unset, .unset] [(.int r2), (.int (1 : Int32)), (.int c1), (.int (y - x))])) _
  exact kt
set_option maxRecDepth 65536 in
set_option maxHeartbeats 4000000 in
theorem cGa {p : Program} {l : Launch} {e : Env} {s : State} {m : MethodId} {args : Array Value} {below : List Frame} {meth : Method} {c : Code} {T0 : State} {locs : List Loc} {cells slots : Nat} {Z : State} {a0 : Array Value} {h0 : Heap} {Ls : Array Slot} (x0 : Int32) (x1 : Int32) (x2 : Int32) (y : Int32)
    (X0 : Stand p l e room_1 s m args below meth c T0 locs cells slots) (hx : p.tables.exec = Jvm.exec) (hZ : Z.Warmed39 s.vm) (hw : ∀ d ∈ tables_1, d.before a0 Z = true) (hby : c.code = code) (hml : c.maxLocals = 22) (hown : s.vm.findClass "com/example/caprice/caprice/solver/DomainsRestorePinLaw" = some m.cls) (e0 : T0.heap = h0) (hsz : Ls.size = 22) {rm : Room} {Q : Option Value → Heap → List Loc → Prop}
    (M : MetFree l (⟨"com/example/caprice/caprice/solver/DomainsRestorePinLaw", "one", "(IIZ)I"⟩ : MethodName) (head1 [Jvm.Cond.code (⟨"com/example/caprice/caprice/solver/DomainsRestorePinLaw", "one", "(IIZ)I"⟩ : MethodName) method_3_code 3 (some .int)] rm) (fun a U => a = #[(.int x0), (.int x1), (.int x2)] ∧ Z.Warmed39 U.vm ∧ U.heap = h0) (fun _ _ _ _ _ => True) (fun _ U o U' => ∃ v L, o = .returned v ∧ Q v U'.heap L ∧ FrameEnd U o U' L rm.cells rm.slots)) (hfr : rm.frames + 1 ≤ room_1.frames) (hlo : 1 + (3 + 11) + rm.locals ≤ room_1.locals) (hce : cells + rm.cells ≤ room_1.cells) (hsl : slots + rm.slots ≤ room_1.slots) :
    ∃ (T' : State) (v : Option Value) (L : List Loc), Stand p l e room_1 s m args below meth c T' (locs ++ L) (cells + rm.cells) (slots + rm.slots) ∧ Q v T'.heap L ∧ ∀ t, Steps p.tables e below (T'.setTop (mkF m 384 Ls (v.toList ++ [(.int y)]))) t → Steps p.tables e below (T0.setTop (mkF m 381 Ls [(.int x2), (.int x1), (.int x0), (.int y)])) t := by
  obtain ⟨v, _, ⟨T1, L1, k1, n1⟩, -, X1, ⟨Lc, hQ, l1, y1, z1⟩, st⟩ := Jvm.LawKit.callS X0 hx (y := (⟨"com/example/caprice/caprice/solver/DomainsRestorePinLaw", "one", "(IIZ)I"⟩ : MethodName)) hown (mvT hZ (hw _ (List.mem_of_getElem? (i := 61) rfl))) (mvT hZ (hw _ (List.mem_of_getElem? (i := 62) rfl))) (mvT hZ (hw _ (List.mem_of_getElem? (i := 58) rfl))) (mvT hZ (hw _ (List.mem_of_getElem? (i := 63) rfl))) (by decide) (backOf (W := 1) M hZ (hw _ (List.mem_of_getElem? (i := 63) rfl)) (hw _ (List.mem_of_getElem? (i := 58) rfl)) hfr hlo) (g := (mkF m 381 Ls [(.int x2), (.int x1), (.int x0), (.int y)])) rfl (by rw [hml]; exact hsz) (argsL := [(.int x0), (.int x1), (.int x2)]) (rest := [(.int y)]) (lenOf pd319 rfl) rfl (by show 2 * 0 + _ ≤ _; exact Nat.le_of_eq rfl) (hb hby at_381) (fun _ _ => ⟨rfl, e0, hce, hsl⟩)
  dsimp only [Pt.U, Pt.locs, Pt.cells, Pt.slots] at X1 l1 y1 z1 st hQ
  subst l1 y1 z1
  exact ⟨T1, v, Lc, X1, hQ, fun t kt => st t kt⟩
set_option maxRecDepth 65536 in
set_option maxHeartbeats 40000000 in
theorem pGb {p : Program} {l : Launch} {e : Env} {s : State} {m : MethodId} {args : Array Value} {below : List Frame} {meth : Method} {c : Code} {T0 : State} {locs : List Loc} {Z : State} {a0 : Array Value} {h0 : Heap} {n0 : Nat} (p1 : Int32) (p2 : Int32) (p3 : Int32) (p4 : Int32) (c0 : Int32) (c1 : Int32) (c2 : Int32) (nn : Int32) (jj : Int32) (dom : Addr) (non : Addr) (mm : Int32) (r1 : Int32) (r2 : Int32) (r3 : Int32) (k0 : Int64) (k1 : Int64) (l0 : Int32) (x : Int32) (y : Int32)
    (X0 : Stand p l e room_1 s m args below meth c T0 locs 11 404) (hx : p.tables.exec = Jvm.exec) (hZ : Z.Warmed39 s.vm) (hw : ∀ d ∈ tables_1, d.before a0 Z = true) (hby : c.code = code) (hml : c.maxLocals = 22) (hown : s.vm.findClass "com/example/caprice/caprice/solver/DomainsRestorePinLaw" = some m.cls) (e0 : T0.heap = h0) (N0 : Fr n0 locs) (O0 : Old Z n0 h0) :
    ∃ (T' : State) (locs' : List Loc), Stand p l e room_1 s m args below meth c T' locs' 11 404 ∧ Fr n0 locs' ∧ T'.heap = h0 ∧ ∀ t, Steps p.tables e below (T'.setTop (mkF m 390 #[.val (.int p1), .val (.int p2), .val (.int p3), .val (.int p4), .val (.int c0), .val (.int c1), .val (.int c2), .val (.int nn), .val (.int jj), .val (.ref dom), .val (.ref non), .val (.int mm), .val (.int r1), .val (.int r2), .val (.int r3), .val (.long k0), .second, .val (.long k1), .second, .val (.int l0), .unset, .unset] [(.int r3), (.int (1 : Int32)), (.int c2), (.int (y - x))])) t → Steps p.tables e below (T0.setTop (mkF m 384 #[.val (.int p1), .val (.int p2), .val (.int p3), .val (.int p4), .val (.int c0), .val (.int c1), .val (.int c2), .val (.int nn), .val (.int jj), .val (.ref dom), .val (.ref non), .val (.int mm), .val (.int r1), .val (.int r2), .val (.int r3), .val (.long k0), .second, .val (.long k1), .second, .val (.int l0), .unset, .unset] [(.int x), (.int y)])) t := by
  refine ⟨T0, _, X0, N0, e0, fun t kt => ?_⟩
  show Steps p.tables e below (T0.setTop (mkF m 384 #[.val (.int p1), .val (.int p2), .val (.int p3), .val (.int p4), .val (.int c0), .val (.int c1), .val (.int c2), .val (.int nn), .val (.int jj), .val (.ref dom), .val (.ref non), .val (.int mm), .val (.int r1), .val (.int r2), .val (.int r3), .val (.long k0), .second, .val (.long k1), .second, .val (.int l0), .unset, .unset] [(.int x), (.int y)])) _
  refine XS.isub X0.here hx rfl (hb hby at_384) rfl ?_
  show Steps p.tables e below (T0.setTop (mkF m 385 #[.val (.int p1), .val (.int p2), .val (.int p3), .val (.int p4), .val (.int c0), .val (.int c1), .val (.int c2), .val (.int nn), .val (.int jj), .val (.ref dom), .val (.ref non), .val (.int mm), .val (.int r1), .val (.int r2), .val (.int r3), .val (.long k0), .second, .val (.long k1), .second, .val (.int l0), .unset, .unset] [(.int (y - x))])) _
  refine XS.iload X0.here hx rfl (hb hby at_385) rfl ?_
  show Steps p.tables e below (T0.setTop (mkF m 387 #[.val (.int p1), .val (.int p2), .val (.int p3), .val (.int p4), .val (.int c0), .val (.int c1), .val (.int c2), .val (.int nn), .val (.int jj), .val (.ref dom), .val (.ref non), .val (.int mm), .val (.int r1), .val (.int r2), .val (.int r3), .val (.long k0), .second, .val (.long k1), .second, .val (.int l0), .unset, .unset] [(.int c2), (.int (y - x))])) _
  refine XS.iconst X0.here hx rfl (hb hby at_387) ?_
  show Steps p.tables e below (T0.setTop (mkF m 388 #[.val (.int p1), .val (.int p2), .val (.int p3), .val (.int p4), .val (.int c0), .val (.int c1), .val (.int c2), .val (.int nn), .val (.int jj), .val (.ref dom), .val (.ref non), .val (.int mm), .val (.int r1), .val (.int r2), .val (.int r3), .val (.long k0), .second, .val (.long k1), .second, .val (.int l0), .unset, .unset] [(.int (1 : Int32)), (.int c2), (.int (y - x))])) _
  refine XS.iload X0.here hx rfl (hb hby at_388) rfl ?_
  show Steps p.tables e below (T0.setTop (mkF m 390 #[.val (.int p1), .val (.int p2), .val (.int p3), .val (.int p4), .val (.int c0), .val (.int c1), .val (.int c2), .val (.int nn), .val (.int jj), .val (.ref dom), .val (.ref non), .val (.int mm), .val (.int r1), .val (.int r2), .val (.int r3), .val (.long k0), .second, .val (.long k1), .second, .val (.int l0), .unset, .unset] [(.int r3), (.int (1 : Int32)), (.int c2), (.int (y - x))])) _
  exact kt
set_option maxRecDepth 65536 in
set_option maxHeartbeats 4000000 in
theorem cGb {p : Program} {l : Launch} {e : Env} {s : State} {m : MethodId} {args : Array Value} {below : List Frame} {meth : Method} {c : Code} {T0 : State} {locs : List Loc} {cells slots : Nat} {Z : State} {a0 : Array Value} {h0 : Heap} {Ls : Array Slot} (x0 : Int32) (x1 : Int32) (x2 : Int32) (y : Int32)
    (X0 : Stand p l e room_1 s m args below meth c T0 locs cells slots) (hx : p.tables.exec = Jvm.exec) (hZ : Z.Warmed39 s.vm) (hw : ∀ d ∈ tables_1, d.before a0 Z = true) (hby : c.code = code) (hml : c.maxLocals = 22) (hown : s.vm.findClass "com/example/caprice/caprice/solver/DomainsRestorePinLaw" = some m.cls) (e0 : T0.heap = h0) (hsz : Ls.size = 22) {rm : Room} {Q : Option Value → Heap → List Loc → Prop}
    (M : MetFree l (⟨"com/example/caprice/caprice/solver/DomainsRestorePinLaw", "one", "(IIZ)I"⟩ : MethodName) (head1 [Jvm.Cond.code (⟨"com/example/caprice/caprice/solver/DomainsRestorePinLaw", "one", "(IIZ)I"⟩ : MethodName) method_3_code 3 (some .int)] rm) (fun a U => a = #[(.int x0), (.int x1), (.int x2)] ∧ Z.Warmed39 U.vm ∧ U.heap = h0) (fun _ _ _ _ _ => True) (fun _ U o U' => ∃ v L, o = .returned v ∧ Q v U'.heap L ∧ FrameEnd U o U' L rm.cells rm.slots)) (hfr : rm.frames + 1 ≤ room_1.frames) (hlo : 1 + (3 + 11) + rm.locals ≤ room_1.locals) (hce : cells + rm.cells ≤ room_1.cells) (hsl : slots + rm.slots ≤ room_1.slots) :
    ∃ (T' : State) (v : Option Value) (L : List Loc), Stand p l e room_1 s m args below meth c T' (locs ++ L) (cells + rm.cells) (slots + rm.slots) ∧ Q v T'.heap L ∧ ∀ t, Steps p.tables e below (T'.setTop (mkF m 393 Ls (v.toList ++ [(.int y)]))) t → Steps p.tables e below (T0.setTop (mkF m 390 Ls [(.int x2), (.int x1), (.int x0), (.int y)])) t := by
  obtain ⟨v, _, ⟨T1, L1, k1, n1⟩, -, X1, ⟨Lc, hQ, l1, y1, z1⟩, st⟩ := Jvm.LawKit.callS X0 hx (y := (⟨"com/example/caprice/caprice/solver/DomainsRestorePinLaw", "one", "(IIZ)I"⟩ : MethodName)) hown (mvT hZ (hw _ (List.mem_of_getElem? (i := 61) rfl))) (mvT hZ (hw _ (List.mem_of_getElem? (i := 62) rfl))) (mvT hZ (hw _ (List.mem_of_getElem? (i := 58) rfl))) (mvT hZ (hw _ (List.mem_of_getElem? (i := 63) rfl))) (by decide) (backOf (W := 1) M hZ (hw _ (List.mem_of_getElem? (i := 63) rfl)) (hw _ (List.mem_of_getElem? (i := 58) rfl)) hfr hlo) (g := (mkF m 390 Ls [(.int x2), (.int x1), (.int x0), (.int y)])) rfl (by rw [hml]; exact hsz) (argsL := [(.int x0), (.int x1), (.int x2)]) (rest := [(.int y)]) (lenOf pd319 rfl) rfl (by show 2 * 0 + _ ≤ _; exact Nat.le_of_eq rfl) (hb hby at_390) (fun _ _ => ⟨rfl, e0, hce, hsl⟩)
  dsimp only [Pt.U, Pt.locs, Pt.cells, Pt.slots] at X1 l1 y1 z1 st hQ
  subst l1 y1 z1
  exact ⟨T1, v, Lc, X1, hQ, fun t kt => st t kt⟩
set_option maxRecDepth 65536 in
set_option maxHeartbeats 40000000 in
theorem pH0 {p : Program} {l : Launch} {e : Env} {s : State} {m : MethodId} {args : Array Value} {below : List Frame} {meth : Method} {c : Code} {T0 : State} {locs : List Loc} {Z : State} {a0 : Array Value} {h0 : Heap} {n0 : Nat} (p1 : Int32) (p2 : Int32) (p3 : Int32) (p4 : Int32) (c0 : Int32) (c1 : Int32) (c2 : Int32) (nn : Int32) (jj : Int32) (dom : Addr) (non : Addr) (mm : Int32) (r1 : Int32) (r2 : Int32) (r3 : Int32) (k0 : Int64) (k1 : Int64) (l0 : Int32) (x : Int32) (y : Int32)
    (X0 : Stand p l e room_1 s m args below meth c T0 locs 11 404) (hx : p.tables.exec = Jvm.exec) (hZ : Z.Warmed39 s.vm) (hw : ∀ d ∈ tables_1, d.before a0 Z = true) (hby : c.code = code) (hml : c.maxLocals = 22) (hown : s.vm.findClass "com/example/caprice/caprice/solver/DomainsRestorePinLaw" = some m.cls) (e0 : T0.heap = h0) (N0 : Fr n0 locs) (O0 : Old Z n0 h0) :
    ∃ (T' : State) (locs' : List Loc), Stand p l e room_1 s m args below meth c T' locs' 11 404 ∧ Fr n0 locs' ∧ T'.heap = h0 ∧ ∀ t, Steps p.tables e below (T'.setTop (mkF m 396 #[.val (.int p1), .val (.int p2), .val (.int p3), .val (.int p4), .val (.int c0), .val (.int c1), .val (.int c2), .val (.int nn), .val (.int jj), .val (.ref dom), .val (.ref non), .val (.int mm), .val (.int r1), .val (.int r2), .val (.int r3), .val (.long k0), .second, .val (.long k1), .second, .val (.int l0), .val (.int (y - x)), .unset] [])) t → Steps p.tables e below (T0.setTop (mkF m 393 #[.val (.int p1), .val (.int p2), .val (.int p3), .val (.int p4), .val (.int c0), .val (.int c1), .val (.int c2), .val (.int nn), .val (.int jj), .val (.ref dom), .val (.ref non), .val (.int mm), .val (.int r1), .val (.int r2), .val (.int r3), .val (.long k0), .second, .val (.long k1), .second, .val (.int l0), .unset, .unset] [(.int x), (.int y)])) t := by
  refine ⟨T0, _, X0, N0, e0, fun t kt => ?_⟩
  show Steps p.tables e below (T0.setTop (mkF m 393 #[.val (.int p1), .val (.int p2), .val (.int p3), .val (.int p4), .val (.int c0), .val (.int c1), .val (.int c2), .val (.int nn), .val (.int jj), .val (.ref dom), .val (.ref non), .val (.int mm), .val (.int r1), .val (.int r2), .val (.int r3), .val (.long k0), .second, .val (.long k1), .second, .val (.int l0), .unset, .unset] [(.int x), (.int y)])) _
  refine XS.isub X0.here hx rfl (hb hby at_393) rfl ?_
  show Steps p.tables e below (T0.setTop (mkF m 394 #[.val (.int p1), .val (.int p2), .val (.int p3), .val (.int p4), .val (.int c0), .val (.int c1), .val (.int c2), .val (.int nn), .val (.int jj), .val (.ref dom), .val (.ref non), .val (.int mm), .val (.int r1), .val (.int r2), .val (.int r3), .val (.long k0), .second, .val (.long k1), .second, .val (.int l0), .unset, .unset] [(.int (y - x))])) _
  refine XS.istore X0.here hx rfl (hb hby at_394) rfl (l' := #[.val (.int p1), .val (.int p2), .val (.int p3), .val (.int p4), .val (.int c0), .val (.int c1), .val (.int c2), .val (.int nn), .val (.int jj), .val (.ref dom), .val (.ref non), .val (.int mm), .val (.int r1), .val (.int r2), .val (.int r3), .val (.long k0), .second, .val (.long k1), .second, .val (.int l0), .val (.int (y - x)), .unset]) rfl ?_
  show Steps p.tables e below (T0.setTop (mkF m 396 #[.val (.int p1), .val (.int p2), .val (.int p3), .val (.int p4), .val (.int c0), .val (.int c1), .val (.int c2), .val (.int nn), .val (.int jj), .val (.ref dom), .val (.ref non), .val (.int mm), .val (.int r1), .val (.int r2), .val (.int r3), .val (.long k0), .second, .val (.long k1), .second, .val (.int l0), .val (.int (y - x)), .unset] [])) _
  exact kt
set_option maxRecDepth 65536 in
set_option maxHeartbeats 40000000 in
theorem pH1 {p : Program} {l : Launch} {e : Env} {s : State} {m : MethodId} {args : Array Value} {below : List Frame} {meth : Method} {c : Code} {T0 : State} {locs : List Loc} {Z : State} {a0 : Array Value} {h0 : Heap} {n0 : Nat} (p1 : Int32) (p2 : Int32) (p3 : Int32) (p4 : Int32) (c0 : Int32) (c1 : Int32) (c2 : Int32) (nn : Int32) (jj : Int32) (dom : Addr) (non : Addr) (mm : Int32) (r1 : Int32) (r2 : Int32) (r3 : Int32) (k0 : Int64) (k1 : Int64) (l0 : Int32) (l1 : Int32)
    (X0 : Stand p l e room_1 s m args below meth c T0 locs 11 404) (hx : p.tables.exec = Jvm.exec) (hZ : Z.Warmed39 s.vm) (hw : ∀ d ∈ tables_1, d.before a0 Z = true) (hby : c.code = code) (hml : c.maxLocals = 22) (hown : s.vm.findClass "com/example/caprice/caprice/solver/DomainsRestorePinLaw" = some m.cls) (e0 : T0.heap = h0) (N0 : Fr n0 locs) (O0 : Old Z n0 h0) (hd0 : mm = ((2 : Int32) * jj)) :
    ∃ (T' : State) (locs' : List Loc), Stand p l e room_1 s m args below meth c T' locs' 11 404 ∧ Fr n0 locs' ∧ T'.heap = h0 ∧ ∀ t, Steps p.tables e below (T'.setTop (mkF m 407 #[.val (.int p1), .val (.int p2), .val (.int p3), .val (.int p4), .val (.int c0), .val (.int c1), .val (.int c2), .val (.int nn), .val (.int jj), .val (.ref dom), .val (.ref non), .val (.int mm), .val (.int r1), .val (.int r2), .val (.int r3), .val (.long k0), .second, .val (.long k1), .second, .val (.int l0), .val (.int l1), .unset] [(.ref dom)])) t → Steps p.tables e below (T0.setTop (mkF m 396 #[.val (.int p1), .val (.int p2), .val (.int p3), .val (.int p4), .val (.int c0), .val (.int c1), .val (.int c2), .val (.int nn), .val (.int jj), .val (.ref dom), .val (.ref non), .val (.int mm), .val (.int r1), .val (.int r2), .val (.int r3), .val (.long k0), .second, .val (.long k1), .second, .val (.int l0), .val (.int l1), .unset] [])) t := by
  refine ⟨T0, _, X0, N0, e0, fun t kt => ?_⟩
  show Steps p.tables e below (T0.setTop (mkF m 396 #[.val (.int p1), .val (.int p2), .val (.int p3), .val (.int p4), .val (.int c0), .val (.int c1), .val (.int c2), .val (.int nn), .val (.int jj), .val (.ref dom), .val (.ref non), .val (.int mm), .val (.int r1), .val (.int r2), .val (.int r3), .val (.long k0), .second, .val (.long k1), .second, .val (.int l0), .val (.int l1), .unset] [])) _
  refine XS.iload X0.here hx rfl (hb hby at_396) rfl ?_
  show Steps p.tables e below (T0.setTop (mkF m 398 #[.val (.int p1), .val (.int p2), .val (.int p3), .val (.int p4), .val (.int c0), .val (.int c1), .val (.int c2), .val (.int nn), .val (.int jj), .val (.ref dom), .val (.ref non), .val (.int mm), .val (.int r1), .val (.int r2), .val (.int r3), .val (.long k0), .second, .val (.long k1), .second, .val (.int l0), .val (.int l1), .unset] [(.int mm)])) _
  refine XS.iconst X0.here hx rfl (hb hby at_398) ?_
  show Steps p.tables e below (T0.setTop (mkF m 399 #[.val (.int p1), .val (.int p2), .val (.int p3), .val (.int p4), .val (.int c0), .val (.int c1), .val (.int c2), .val (.int nn), .val (.int jj), .val (.ref dom), .val (.ref non), .val (.int mm), .val (.int r1), .val (.int r2), .val (.int r3), .val (.long k0), .second, .val (.long k1), .second, .val (.int l0), .val (.int l1), .unset] [(.int (2 : Int32)), (.int mm)])) _
  refine XS.iload X0.here hx rfl (hb hby at_399) rfl ?_
  show Steps p.tables e below (T0.setTop (mkF m 401 #[.val (.int p1), .val (.int p2), .val (.int p3), .val (.int p4), .val (.int c0), .val (.int c1), .val (.int c2), .val (.int nn), .val (.int jj), .val (.ref dom), .val (.ref non), .val (.int mm), .val (.int r1), .val (.int r2), .val (.int r3), .val (.long k0), .second, .val (.long k1), .second, .val (.int l0), .val (.int l1), .unset] [(.int jj), (.int (2 : Int32)), (.int mm)])) _
  refine XS.imul X0.here hx rfl (hb hby at_401) rfl ?_
  show Steps p.tables e below (T0.setTop (mkF m 402 #[.val (.int p1), .val (.int p2), .val (.int p3), .val (.int p4), .val (.int c0), .val (.int c1), .val (.int c2), .val (.int nn), .val (.int jj), .val (.ref dom), .val (.ref non), .val (.int mm), .val (.int r1), .val (.int r2), .val (.int r3), .val (.long k0), .second, .val (.long k1), .second, .val (.int l0), .val (.int l1), .unset] [(.int ((2 : Int32) * jj)), (.int mm)])) _
  refine XS.icmpNo X0.here hx rfl (hb hby at_402) rfl (teq hd0).2 ?_
  show Steps p.tables e below (T0.setTop (mkF m 405 #[.val (.int p1), .val (.int p2), .val (.int p3), .val (.int p4), .val (.int c0), .val (.int c1), .val (.int c2), .val (.int nn), .val (.int jj), .val (.ref dom), .val (.ref non), .val (.int mm), .val (.int r1), .val (.int r2), .val (.int r3), .val (.long k0), .second, .val (.long k1), .second, .val (.int l0), .val (.int l1), .unset] [])) _
  refine XS.aload X0.here hx rfl (hb hby at_405) rfl rfl ?_
  show Steps p.tables e below (T0.setTop (mkF m 407 #[.val (.int p1), .val (.int p2), .val (.int p3), .val (.int p4), .val (.int c0), .val (.int c1), .val (.int c2), .val (.int nn), .val (.int jj), .val (.ref dom), .val (.ref non), .val (.int mm), .val (.int r1), .val (.int r2), .val (.int r3), .val (.long k0), .second, .val (.long k1), .second, .val (.int l0), .val (.int l1), .unset] [(.ref dom)])) _
  exact kt
set_option maxRecDepth 65536 in
set_option maxHeartbeats 4000000 in
theorem cH1 {p : Program} {l : Launch} {e : Env} {s : State} {m : MethodId} {args : Array Value} {below : List Frame} {meth : Method} {c : Code} {T0 : State} {locs : List Loc} {cells slots : Nat} {Z : State} {a0 : Array Value} {h0 : Heap} {Ls : Array Slot} (ob : Addr)
    (X0 : Stand p l e room_1 s m args below meth c T0 locs cells slots) (hx : p.tables.exec = Jvm.exec) (hZ : Z.Warmed39 s.vm) (hw : ∀ d ∈ tables_1, d.before a0 Z = true) (hby : c.code = code) (hml : c.maxLocals = 22) (hown : s.vm.findClass "com/example/caprice/caprice/solver/DomainsRestorePinLaw" = some m.cls) (e0 : T0.heap = h0) (hsz : Ls.size = 22) (ER : Exa Z h0 ob "com/example/caprice/caprice/solver/Domains") {rm : Room} {Q : Option Value → Heap → List Loc → Prop}
    (M : MetFree l (⟨"com/example/caprice/caprice/solver/Domains", "mark", "()I"⟩ : MethodName) (head1 [Jvm.Cond.code (⟨"com/example/caprice/caprice/solver/Domains", "mark", "()I"⟩ : MethodName) prog_59_method_8_code 1 (some .int)] rm) (fun a U => a = #[(.ref ob)] ∧ Z.Warmed39 U.vm ∧ U.heap = h0) (fun _ _ _ _ _ => True) (fun _ U o U' => ∃ v L, o = .returned v ∧ Q v U'.heap L ∧ FrameEnd U o U' L rm.cells rm.slots)) (hfr : rm.frames + 1 ≤ room_1.frames) (hlo : 0 + (1 + 11) + rm.locals ≤ room_1.locals) (hce : cells + rm.cells ≤ room_1.cells) (hsl : slots + rm.slots ≤ room_1.slots) :
    ∃ (T' : State) (v : Option Value) (L : List Loc), Stand p l e room_1 s m args below meth c T' (locs ++ L) (cells + rm.cells) (slots + rm.slots) ∧ Q v T'.heap L ∧ ∀ t, Steps p.tables e below (T'.setTop (mkF m 410 Ls (v.toList ++ []))) t → Steps p.tables e below (T0.setTop (mkF m 407 Ls [(.ref ob)])) t := by
  obtain ⟨cq, kq, qa, qb, qc⟩ := isOf hZ e0 ER
  obtain ⟨v, _, ⟨T1, L1, k1, n1⟩, -, X1, ⟨Lc, hQ, l1, y1, z1⟩, st⟩ := X0.virtualBack hx (y := (⟨"com/example/caprice/caprice/solver/Domains", "mark", "()I"⟩ : MethodName)) (z := (⟨"com/example/caprice/caprice/solver/Domains", "mark", "()I"⟩ : MethodName)) hown (mvT hZ (hw _ (List.mem_of_getElem? (i := 38) rfl))) (mvT hZ (hw _ (List.mem_of_getElem? (i := 39) rfl))) (notFace_of_selects (args := #[]) (mvT hZ (hw _ (List.mem_of_getElem? (i := 41) rfl)))) (mvT hZ (hw _ (List.mem_of_getElem? (i := 41) rfl))) (mvT hZ (hw _ (List.mem_of_getElem? (i := 40) rfl))) (by decide) (backOf (W := 0) M hZ (hw _ (List.mem_of_getElem? (i := 42) rfl)) (hw _ (List.mem_of_getElem? (i := 7) rfl)) hfr hlo) qa qc (g := (mkF m 407 Ls [(.ref ob)])) rfl (by rw [hml]; exact hsz) (Steps.refl _) (argsL := []) (rest := []) (lenOf pd285 rfl) rfl (by show 2 * 0 + _ ≤ _; exact Nat.le_of_eq rfl) (hb hby at_407) (fun _ _ => ⟨rfl, e0, hce, hsl⟩)
  dsimp only [Pt.U, Pt.locs, Pt.cells, Pt.slots] at X1 l1 y1 z1 st hQ
  subst l1 y1 z1
  exact ⟨T1, v, Lc, X1, hQ, fun t kt => st.trans kt⟩
set_option maxRecDepth 65536 in
set_option maxHeartbeats 40000000 in
theorem pH2 {p : Program} {l : Launch} {e : Env} {s : State} {m : MethodId} {args : Array Value} {below : List Frame} {meth : Method} {c : Code} {T0 : State} {locs : List Loc} {Z : State} {a0 : Array Value} {h0 : Heap} {n0 : Nat} (p1 : Int32) (p2 : Int32) (p3 : Int32) (p4 : Int32) (c0 : Int32) (c1 : Int32) (c2 : Int32) (nn : Int32) (jj : Int32) (dom : Addr) (non : Addr) (mm : Int32) (r1 : Int32) (r2 : Int32) (r3 : Int32) (k0 : Int64) (k1 : Int64) (l0 : Int32) (l1 : Int32) (x : Int32)
    (X0 : Stand p l e room_1 s m args below meth c T0 locs 11 404) (hx : p.tables.exec = Jvm.exec) (hZ : Z.Warmed39 s.vm) (hw : ∀ d ∈ tables_1, d.before a0 Z = true) (hby : c.code = code) (hml : c.maxLocals = 22) (hown : s.vm.findClass "com/example/caprice/caprice/solver/DomainsRestorePinLaw" = some m.cls) (e0 : T0.heap = h0) (N0 : Fr n0 locs) (O0 : Old Z n0 h0) (hd0 : x = mm) :
    ∃ (T' : State) (locs' : List Loc), Stand p l e room_1 s m args below meth c T' locs' 11 404 ∧ Fr n0 locs' ∧ T'.heap = h0 ∧ ∀ t, Steps p.tables e below (T'.setTop (mkF m 418 #[.val (.int p1), .val (.int p2), .val (.int p3), .val (.int p4), .val (.int c0), .val (.int c1), .val (.int c2), .val (.int nn), .val (.int jj), .val (.ref dom), .val (.ref non), .val (.int mm), .val (.int r1), .val (.int r2), .val (.int r3), .val (.long k0), .second, .val (.long k1), .second, .val (.int l0), .val (.int l1), .unset] [(.int (0 : Int32)), (.ref dom)])) t → Steps p.tables e below (T0.setTop (mkF m 410 #[.val (.int p1), .val (.int p2), .val (.int p3), .val (.int p4), .val (.int c0), .val (.int c1), .val (.int c2), .val (.int nn), .val (.int jj), .val (.ref dom), .val (.ref non), .val (.int mm), .val (.int r1), .val (.int r2), .val (.int r3), .val (.long k0), .second, .val (.long k1), .second, .val (.int l0), .val (.int l1), .unset] [(.int x)])) t := by
  refine ⟨T0, _, X0, N0, e0, fun t kt => ?_⟩
  show Steps p.tables e below (T0.setTop (mkF m 410 #[.val (.int p1), .val (.int p2), .val (.int p3), .val (.int p4), .val (.int c0), .val (.int c1), .val (.int c2), .val (.int nn), .val (.int jj), .val (.ref dom), .val (.ref non), .val (.int mm), .val (.int r1), .val (.int r2), .val (.int r3), .val (.long k0), .second, .val (.long k1), .second, .val (.int l0), .val (.int l1), .unset] [(.int x)])) _
  refine XS.iload X0.here hx rfl (hb hby at_410) rfl ?_
  show Steps p.tables e below (T0.setTop (mkF m 412 #[.val (.int p1), .val (.int p2), .val (.int p3), .val (.int p4), .val (.int c0), .val (.int c1), .val (.int c2), .val (.int nn), .val (.int jj), .val (.ref dom), .val (.ref non), .val (.int mm), .val (.int r1), .val (.int r2), .val (.int r3), .val (.long k0), .second, .val (.long k1), .second, .val (.int l0), .val (.int l1), .unset] [(.int mm), (.int x)])) _
  refine XS.icmpNo X0.here hx rfl (hb hby at_412) rfl (teq hd0).2 ?_
  show Steps p.tables e below (T0.setTop (mkF m 415 #[.val (.int p1), .val (.int p2), .val (.int p3), .val (.int p4), .val (.int c0), .val (.int c1), .val (.int c2), .val (.int nn), .val (.int jj), .val (.ref dom), .val (.ref non), .val (.int mm), .val (.int r1), .val (.int r2), .val (.int r3), .val (.long k0), .second, .val (.long k1), .second, .val (.int l0), .val (.int l1), .unset] [])) _
  refine XS.aload X0.here hx rfl (hb hby at_415) rfl rfl ?_
  show Steps p.tables e below (T0.setTop (mkF m 417 #[.val (.int p1), .val (.int p2), .val (.int p3), .val (.int p4), .val (.int c0), .val (.int c1), .val (.int c2), .val (.int nn), .val (.int jj), .val (.ref dom), .val (.ref non), .val (.int mm), .val (.int r1), .val (.int r2), .val (.int r3), .val (.long k0), .second, .val (.long k1), .second, .val (.int l0), .val (.int l1), .unset] [(.ref dom)])) _
  refine XS.iconst X0.here hx rfl (hb hby at_417) ?_
  show Steps p.tables e below (T0.setTop (mkF m 418 #[.val (.int p1), .val (.int p2), .val (.int p3), .val (.int p4), .val (.int c0), .val (.int c1), .val (.int c2), .val (.int nn), .val (.int jj), .val (.ref dom), .val (.ref non), .val (.int mm), .val (.int r1), .val (.int r2), .val (.int r3), .val (.long k0), .second, .val (.long k1), .second, .val (.int l0), .val (.int l1), .unset] [(.int (0 : Int32)), (.ref dom)])) _
  exact kt
theorem pd328 : parseMethodDescriptor "(I)I" = some ⟨[.int], some .int⟩ := by decide +kernel
set_option maxRecDepth 65536 in
set_option maxHeartbeats 4000000 in
theorem cH2 {p : Program} {l : Launch} {e : Env} {s : State} {m : MethodId} {args : Array Value} {below : List Frame} {meth : Method} {c : Code} {T0 : State} {locs : List Loc} {cells slots : Nat} {Z : State} {a0 : Array Value} {h0 : Heap} {Ls : Array Slot} (ob : Addr) (x0 : Int32)
    (X0 : Stand p l e room_1 s m args below meth c T0 locs cells slots) (hx : p.tables.exec = Jvm.exec) (hZ : Z.Warmed39 s.vm) (hw : ∀ d ∈ tables_1, d.before a0 Z = true) (hby : c.code = code) (hml : c.maxLocals = 22) (hown : s.vm.findClass "com/example/caprice/caprice/solver/DomainsRestorePinLaw" = some m.cls) (e0 : T0.heap = h0) (hsz : Ls.size = 22) (ER : Exa Z h0 ob "com/example/caprice/caprice/solver/Domains") {rm : Room} {Q : Option Value → Heap → List Loc → Prop}
    (M : MetFree l (⟨"com/example/caprice/caprice/solver/Domains", "left", "(I)I"⟩ : MethodName) (head1 [Jvm.Cond.code (⟨"com/example/caprice/caprice/solver/Domains", "left", "(I)I"⟩ : MethodName) prog_59_method_6_code 2 (some .int)] rm) (fun a U => a = #[(.ref ob), (.int x0)] ∧ Z.Warmed39 U.vm ∧ U.heap = h0) (fun _ _ _ _ _ => True) (fun _ U o U' => ∃ v L, o = .returned v ∧ Q v U'.heap L ∧ FrameEnd U o U' L rm.cells rm.slots)) (hfr : rm.frames + 1 ≤ room_1.frames) (hlo : 0 + (2 + 11) + rm.locals ≤ room_1.locals) (hce : cells + rm.cells ≤ room_1.cells) (hsl : slots + rm.slots ≤ room_1.slots) :
    ∃ (T' : State) (v : Option Value) (L : List Loc), Stand p l e room_1 s m args below meth c T' (locs ++ L) (cells + rm.cells) (slots + rm.slots) ∧ Q v T'.heap L ∧ ∀ t, Steps p.tables e below (T'.setTop (mkF m 421 Ls (v.toList ++ []))) t → Steps p.tables e below (T0.setTop (mkF m 418 Ls [(.int x0), (.ref ob)])) t := by
  obtain ⟨cq, kq, qa, qb, qc⟩ := isOf hZ e0 ER
  obtain ⟨v, _, ⟨T1, L1, k1, n1⟩, -, X1, ⟨Lc, hQ, l1, y1, z1⟩, st⟩ := X0.virtualBack hx (y := (⟨"com/example/caprice/caprice/solver/Domains", "left", "(I)I"⟩ : MethodName)) (z := (⟨"com/example/caprice/caprice/solver/Domains", "left", "(I)I"⟩ : MethodName)) hown (mvT hZ (hw _ (List.mem_of_getElem? (i := 64) rfl))) (mvT hZ (hw _ (List.mem_of_getElem? (i := 65) rfl))) (notFace_of_selects (args := #[]) (mvT hZ (hw _ (List.mem_of_getElem? (i := 67) rfl)))) (mvT hZ (hw _ (List.mem_of_getElem? (i := 67) rfl))) (mvT hZ (hw _ (List.mem_of_getElem? (i := 66) rfl))) (by decide) (backOf (W := 0) M hZ (hw _ (List.mem_of_getElem? (i := 68) rfl)) (hw _ (List.mem_of_getElem? (i := 7) rfl)) hfr hlo) qa qc (g := (mkF m 418 Ls [(.int x0), (.ref ob)])) rfl (by rw [hml]; exact hsz) (Steps.refl _) (argsL := [(.int x0)]) (rest := []) (lenOf pd328 rfl) rfl (by show 2 * 0 + _ ≤ _; exact Nat.le_of_eq rfl) (hb hby at_418) (fun _ _ => ⟨rfl, e0, hce, hsl⟩)
  dsimp only [Pt.U, Pt.locs, Pt.cells, Pt.slots] at X1 l1 y1 z1 st hQ
  subst l1 y1 z1
  exact ⟨T1, v, Lc, X1, hQ, fun t kt => st.trans kt⟩
set_option maxRecDepth 65536 in
set_option maxHeartbeats 40000000 in
theorem pH3 {p : Program} {l : Launch} {e : Env} {s : State} {m : MethodId} {args : Array Value} {below : List Frame} {meth : Method} {c : Code} {T0 : State} {locs : List Loc} {Z : State} {a0 : Array Value} {h0 : Heap} {n0 : Nat} (p1 : Int32) (p2 : Int32) (p3 : Int32) (p4 : Int32) (c0 : Int32) (c1 : Int32) (c2 : Int32) (nn : Int32) (jj : Int32) (dom : Addr) (non : Addr) (mm : Int32) (r1 : Int32) (r2 : Int32) (r3 : Int32) (k0 : Int64) (k1 : Int64) (l0 : Int32) (l1 : Int32) (x : Int32)
    (X0 : Stand p l e room_1 s m args below meth c T0 locs 11 404) (hx : p.tables.exec = Jvm.exec) (hZ : Z.Warmed39 s.vm) (hw : ∀ d ∈ tables_1, d.before a0 Z = true) (hby : c.code = code) (hml : c.maxLocals = 22) (hown : s.vm.findClass "com/example/caprice/caprice/solver/DomainsRestorePinLaw" = some m.cls) (e0 : T0.heap = h0) (N0 : Fr n0 locs) (O0 : Old Z n0 h0) (hd0 : x = l0) :
    ∃ (T' : State) (locs' : List Loc), Stand p l e room_1 s m args below meth c T' locs' 11 404 ∧ Fr n0 locs' ∧ T'.heap = h0 ∧ ∀ t, Steps p.tables e below (T'.setTop (mkF m 429 #[.val (.int p1), .val (.int p2), .val (.int p3), .val (.int p4), .val (.int c0), .val (.int c1), .val (.int c2), .val (.int nn), .val (.int jj), .val (.ref dom), .val (.ref non), .val (.int mm), .val (.int r1), .val (.int r2), .val (.int r3), .val (.long k0), .second, .val (.long k1), .second, .val (.int l0), .val (.int l1), .unset] [(.int (1 : Int32)), (.ref dom)])) t → Steps p.tables e below (T0.setTop (mkF m 421 #[.val (.int p1), .val (.int p2), .val (.int p3), .val (.int p4), .val (.int c0), .val (.int c1), .val (.int c2), .val (.int nn), .val (.int jj), .val (.ref dom), .val (.ref non), .val (.int mm), .val (.int r1), .val (.int r2), .val (.int r3), .val (.long k0), .second, .val (.long k1), .second, .val (.int l0), .val (.int l1), .unset] [(.int x)])) t := by
  refine ⟨T0, _, X0, N0, e0, fun t kt => ?_⟩
  show Steps p.tables e below (T0.setTop (mkF m 421 #[.val (.int p1), .val (.int p2), .val (.int p3), .val (.int p4), .val (.int c0), .val (.int c1), .val (.int c2), .val (.int nn), .val (.int jj), .val (.ref dom), .val (.ref non), .val (.int mm), .val (.int r1), .val (.int r2), .val (.int r3), .val (.long k0), .second, .val (.long k1), .second, .val (.int l0), .val (.int l1), .unset] [(.int x)])) _
  refine XS.iload X0.here hx rfl (hb hby at_421) rfl ?_
  show Steps p.tables e below (T0.setTop (mkF m 423 #[.val (.int p1), .val (.int p2), .val (.int p3), .val (.int p4), .val (.int c0), .val (.int c1), .val (.int c2), .val (.int nn), .val (.int jj), .val (.ref dom), .val (.ref non), .val (.int mm), .val (.int r1), .val (.int r2), .val (.int r3), .val (.long k0), .second, .val (.long k1), .second, .val (.int l0), .val (.int l1), .unset] [(.int l0), (.int x)])) _
  refine XS.icmpNo X0.here hx rfl (hb hby at_423) rfl (teq hd0).2 ?_
  show Steps p.tables e below (T0.setTop (mkF m 426 #[.val (.int p1), .val (.int p2), .val (.int p3), .val (.int p4), .val (.int c0), .val (.int c1), .val (.int c2), .val (.int nn), .val (.int jj), .val (.ref dom), .val (.ref non), .val (.int mm), .val (.int r1), .val (.int r2), .val (.int r3), .val (.long k0), .second, .val (.long k1), .second, .val (.int l0), .val (.int l1), .unset] [])) _
  refine XS.aload X0.here hx rfl (hb hby at_426) rfl rfl ?_
  show Steps p.tables e below (T0.setTop (mkF m 428 #[.val (.int p1), .val (.int p2), .val (.int p3), .val (.int p4), .val (.int c0), .val (.int c1), .val (.int c2), .val (.int nn), .val (.int jj), .val (.ref dom), .val (.ref non), .val (.int mm), .val (.int r1), .val (.int r2), .val (.int r3), .val (.long k0), .second, .val (.long k1), .second, .val (.int l0), .val (.int l1), .unset] [(.ref dom)])) _
  refine XS.iconst X0.here hx rfl (hb hby at_428) ?_
  show Steps p.tables e below (T0.setTop (mkF m 429 #[.val (.int p1), .val (.int p2), .val (.int p3), .val (.int p4), .val (.int c0), .val (.int c1), .val (.int c2), .val (.int nn), .val (.int jj), .val (.ref dom), .val (.ref non), .val (.int mm), .val (.int r1), .val (.int r2), .val (.int r3), .val (.long k0), .second, .val (.long k1), .second, .val (.int l0), .val (.int l1), .unset] [(.int (1 : Int32)), (.ref dom)])) _
  exact kt
set_option maxRecDepth 65536 in
set_option maxHeartbeats 4000000 in
theorem cH3 {p : Program} {l : Launch} {e : Env} {s : State} {m : MethodId} {args : Array Value} {below : List Frame} {meth : Method} {c : Code} {T0 : State} {locs : List Loc} {cells slots : Nat} {Z : State} {a0 : Array Value} {h0 : Heap} {Ls : Array Slot} (ob : Addr) (x0 : Int32)
    (X0 : Stand p l e room_1 s m args below meth c T0 locs cells slots) (hx : p.tables.exec = Jvm.exec) (hZ : Z.Warmed39 s.vm) (hw : ∀ d ∈ tables_1, d.before a0 Z = true) (hby : c.code = code) (hml : c.maxLocals = 22) (hown : s.vm.findClass "com/example/caprice/caprice/solver/DomainsRestorePinLaw" = some m.cls) (e0 : T0.heap = h0) (hsz : Ls.size = 22) (ER : Exa Z h0 ob "com/example/caprice/caprice/solver/Domains") {rm : Room} {Q : Option Value → Heap → List Loc → Prop}
    (M : MetFree l (⟨"com/example/caprice/caprice/solver/Domains", "left", "(I)I"⟩ : MethodName) (head1 [Jvm.Cond.code (⟨"com/example/caprice/caprice/solver/Domains", "left", "(I)I"⟩ : MethodName) prog_59_method_6_code 2 (some .int)] rm) (fun a U => a = #[(.ref ob), (.int x0)] ∧ Z.Warmed39 U.vm ∧ U.heap = h0) (fun _ _ _ _ _ => True) (fun _ U o U' => ∃ v L, o = .returned v ∧ Q v U'.heap L ∧ FrameEnd U o U' L rm.cells rm.slots)) (hfr : rm.frames + 1 ≤ room_1.frames) (hlo : 0 + (2 + 11) + rm.locals ≤ room_1.locals) (hce : cells + rm.cells ≤ room_1.cells) (hsl : slots + rm.slots ≤ room_1.slots) :
    ∃ (T' : State) (v : Option Value) (L : List Loc), Stand p l e room_1 s m args below meth c T' (locs ++ L) (cells + rm.cells) (slots + rm.slots) ∧ Q v T'.heap L ∧ ∀ t, Steps p.tables e below (T'.setTop (mkF m 432 Ls (v.toList ++ []))) t → Steps p.tables e below (T0.setTop (mkF m 429 Ls [(.int x0), (.ref ob)])) t := by
  obtain ⟨cq, kq, qa, qb, qc⟩ := isOf hZ e0 ER
  obtain ⟨v, _, ⟨T1, L1, k1, n1⟩, -, X1, ⟨Lc, hQ, l1, y1, z1⟩, st⟩ := X0.virtualBack hx (y := (⟨"com/example/caprice/caprice/solver/Domains", "left", "(I)I"⟩ : MethodName)) (z := (⟨"com/example/caprice/caprice/solver/Domains", "left", "(I)I"⟩ : MethodName)) hown (mvT hZ (hw _ (List.mem_of_getElem? (i := 64) rfl))) (mvT hZ (hw _ (List.mem_of_getElem? (i := 65) rfl))) (notFace_of_selects (args := #[]) (mvT hZ (hw _ (List.mem_of_getElem? (i := 67) rfl)))) (mvT hZ (hw _ (List.mem_of_getElem? (i := 67) rfl))) (mvT hZ (hw _ (List.mem_of_getElem? (i := 66) rfl))) (by decide) (backOf (W := 0) M hZ (hw _ (List.mem_of_getElem? (i := 68) rfl)) (hw _ (List.mem_of_getElem? (i := 7) rfl)) hfr hlo) qa qc (g := (mkF m 429 Ls [(.int x0), (.ref ob)])) rfl (by rw [hml]; exact hsz) (Steps.refl _) (argsL := [(.int x0)]) (rest := []) (lenOf pd328 rfl) rfl (by show 2 * 0 + _ ≤ _; exact Nat.le_of_eq rfl) (hb hby at_429) (fun _ _ => ⟨rfl, e0, hce, hsl⟩)
  dsimp only [Pt.U, Pt.locs, Pt.cells, Pt.slots] at X1 l1 y1 z1 st hQ
  subst l1 y1 z1
  exact ⟨T1, v, Lc, X1, hQ, fun t kt => st.trans kt⟩
set_option maxRecDepth 65536 in
set_option maxHeartbeats 40000000 in
theorem pH4 {p : Program} {l : Launch} {e : Env} {s : State} {m : MethodId} {args : Array Value} {below : List Frame} {meth : Method} {c : Code} {T0 : State} {locs : List Loc} {Z : State} {a0 : Array Value} {h0 : Heap} {n0 : Nat} (p1 : Int32) (p2 : Int32) (p3 : Int32) (p4 : Int32) (c0 : Int32) (c1 : Int32) (c2 : Int32) (nn : Int32) (jj : Int32) (dom : Addr) (non : Addr) (mm : Int32) (r1 : Int32) (r2 : Int32) (r3 : Int32) (k0 : Int64) (k1 : Int64) (l0 : Int32) (l1 : Int32) (x : Int32)
    (X0 : Stand p l e room_1 s m args below meth c T0 locs 11 404) (hx : p.tables.exec = Jvm.exec) (hZ : Z.Warmed39 s.vm) (hw : ∀ d ∈ tables_1, d.before a0 Z = true) (hby : c.code = code) (hml : c.maxLocals = 22) (hown : s.vm.findClass "com/example/caprice/caprice/solver/DomainsRestorePinLaw" = some m.cls) (e0 : T0.heap = h0) (N0 : Fr n0 locs) (O0 : Old Z n0 h0) (hd0 : x = l1) :
    ∃ (T' : State) (locs' : List Loc), Stand p l e room_1 s m args below meth c T' locs' 11 404 ∧ Fr n0 locs' ∧ T'.heap = h0 ∧ ∀ t, Steps p.tables e below (T'.setTop (mkF m 440 #[.val (.int p1), .val (.int p2), .val (.int p3), .val (.int p4), .val (.int c0), .val (.int c1), .val (.int c2), .val (.int nn), .val (.int jj), .val (.ref dom), .val (.ref non), .val (.int mm), .val (.int r1), .val (.int r2), .val (.int r3), .val (.long k0), .second, .val (.long k1), .second, .val (.int l0), .val (.int l1), .unset] [(.int (0 : Int32)), (.ref dom)])) t → Steps p.tables e below (T0.setTop (mkF m 432 #[.val (.int p1), .val (.int p2), .val (.int p3), .val (.int p4), .val (.int c0), .val (.int c1), .val (.int c2), .val (.int nn), .val (.int jj), .val (.ref dom), .val (.ref non), .val (.int mm), .val (.int r1), .val (.int r2), .val (.int r3), .val (.long k0), .second, .val (.long k1), .second, .val (.int l0), .val (.int l1), .unset] [(.int x)])) t := by
  refine ⟨T0, _, X0, N0, e0, fun t kt => ?_⟩
  show Steps p.tables e below (T0.setTop (mkF m 432 #[.val (.int p1), .val (.int p2), .val (.int p3), .val (.int p4), .val (.int c0), .val (.int c1), .val (.int c2), .val (.int nn), .val (.int jj), .val (.ref dom), .val (.ref non), .val (.int mm), .val (.int r1), .val (.int r2), .val (.int r3), .val (.long k0), .second, .val (.long k1), .second, .val (.int l0), .val (.int l1), .unset] [(.int x)])) _
  refine XS.iload X0.here hx rfl (hb hby at_432) rfl ?_
  show Steps p.tables e below (T0.setTop (mkF m 434 #[.val (.int p1), .val (.int p2), .val (.int p3), .val (.int p4), .val (.int c0), .val (.int c1), .val (.int c2), .val (.int nn), .val (.int jj), .val (.ref dom), .val (.ref non), .val (.int mm), .val (.int r1), .val (.int r2), .val (.int r3), .val (.long k0), .second, .val (.long k1), .second, .val (.int l0), .val (.int l1), .unset] [(.int l1), (.int x)])) _
  refine XS.icmpNo X0.here hx rfl (hb hby at_434) rfl (teq hd0).2 ?_
  show Steps p.tables e below (T0.setTop (mkF m 437 #[.val (.int p1), .val (.int p2), .val (.int p3), .val (.int p4), .val (.int c0), .val (.int c1), .val (.int c2), .val (.int nn), .val (.int jj), .val (.ref dom), .val (.ref non), .val (.int mm), .val (.int r1), .val (.int r2), .val (.int r3), .val (.long k0), .second, .val (.long k1), .second, .val (.int l0), .val (.int l1), .unset] [])) _
  refine XS.aload X0.here hx rfl (hb hby at_437) rfl rfl ?_
  show Steps p.tables e below (T0.setTop (mkF m 439 #[.val (.int p1), .val (.int p2), .val (.int p3), .val (.int p4), .val (.int c0), .val (.int c1), .val (.int c2), .val (.int nn), .val (.int jj), .val (.ref dom), .val (.ref non), .val (.int mm), .val (.int r1), .val (.int r2), .val (.int r3), .val (.long k0), .second, .val (.long k1), .second, .val (.int l0), .val (.int l1), .unset] [(.ref dom)])) _
  refine XS.iconst X0.here hx rfl (hb hby at_439) ?_
  show Steps p.tables e below (T0.setTop (mkF m 440 #[.val (.int p1), .val (.int p2), .val (.int p3), .val (.int p4), .val (.int c0), .val (.int c1), .val (.int c2), .val (.int nn), .val (.int jj), .val (.ref dom), .val (.ref non), .val (.int mm), .val (.int r1), .val (.int r2), .val (.int r3), .val (.long k0), .second, .val (.long k1), .second, .val (.int l0), .val (.int l1), .unset] [(.int (0 : Int32)), (.ref dom)])) _
  exact kt
set_option maxRecDepth 65536 in
set_option maxHeartbeats 4000000 in
theorem cH4 {p : Program} {l : Launch} {e : Env} {s : State} {m : MethodId} {args : Array Value} {below : List Frame} {meth : Method} {c : Code} {T0 : State} {locs : List Loc} {cells slots : Nat} {Z : State} {a0 : Array Value} {h0 : Heap} {Ls : Array Slot} (ob : Addr) (x0 : Int32)
    (X0 : Stand p l e room_1 s m args below meth c T0 locs cells slots) (hx : p.tables.exec = Jvm.exec) (hZ : Z.Warmed39 s.vm) (hw : ∀ d ∈ tables_1, d.before a0 Z = true) (hby : c.code = code) (hml : c.maxLocals = 22) (hown : s.vm.findClass "com/example/caprice/caprice/solver/DomainsRestorePinLaw" = some m.cls) (e0 : T0.heap = h0) (hsz : Ls.size = 22) (ER : Exa Z h0 ob "com/example/caprice/caprice/solver/Domains") {rm : Room} {Q : Option Value → Heap → List Loc → Prop}
    (M : MetFree l (⟨"com/example/caprice/caprice/solver/Domains", "leftMask", "(I)J"⟩ : MethodName) (head1 [Jvm.Cond.code (⟨"com/example/caprice/caprice/solver/Domains", "leftMask", "(I)J"⟩ : MethodName) prog_59_method_5_code 2 (some .long)] rm) (fun a U => a = #[(.ref ob), (.int x0)] ∧ Z.Warmed39 U.vm ∧ U.heap = h0) (fun _ _ _ _ _ => True) (fun _ U o U' => ∃ v L, o = .returned v ∧ Q v U'.heap L ∧ FrameEnd U o U' L rm.cells rm.slots)) (hfr : rm.frames + 1 ≤ room_1.frames) (hlo : 0 + (2 + 11) + rm.locals ≤ room_1.locals) (hce : cells + rm.cells ≤ room_1.cells) (hsl : slots + rm.slots ≤ room_1.slots) :
    ∃ (T' : State) (v : Option Value) (L : List Loc), Stand p l e room_1 s m args below meth c T' (locs ++ L) (cells + rm.cells) (slots + rm.slots) ∧ Q v T'.heap L ∧ ∀ t, Steps p.tables e below (T'.setTop (mkF m 443 Ls (v.toList ++ []))) t → Steps p.tables e below (T0.setTop (mkF m 440 Ls [(.int x0), (.ref ob)])) t := by
  obtain ⟨cq, kq, qa, qb, qc⟩ := isOf hZ e0 ER
  obtain ⟨v, _, ⟨T1, L1, k1, n1⟩, -, X1, ⟨Lc, hQ, l1, y1, z1⟩, st⟩ := X0.virtualBack hx (y := (⟨"com/example/caprice/caprice/solver/Domains", "leftMask", "(I)J"⟩ : MethodName)) (z := (⟨"com/example/caprice/caprice/solver/Domains", "leftMask", "(I)J"⟩ : MethodName)) hown (mvT hZ (hw _ (List.mem_of_getElem? (i := 69) rfl))) (mvT hZ (hw _ (List.mem_of_getElem? (i := 70) rfl))) (notFace_of_selects (args := #[]) (mvT hZ (hw _ (List.mem_of_getElem? (i := 72) rfl)))) (mvT hZ (hw _ (List.mem_of_getElem? (i := 72) rfl))) (mvT hZ (hw _ (List.mem_of_getElem? (i := 71) rfl))) (by decide) (backOf (W := 0) M hZ (hw _ (List.mem_of_getElem? (i := 73) rfl)) (hw _ (List.mem_of_getElem? (i := 7) rfl)) hfr hlo) qa qc (g := (mkF m 440 Ls [(.int x0), (.ref ob)])) rfl (by rw [hml]; exact hsz) (Steps.refl _) (argsL := [(.int x0)]) (rest := []) (lenOf pd70 rfl) rfl (by show 2 * 0 + _ ≤ _; exact Nat.le_of_eq rfl) (hb hby at_440) (fun _ _ => ⟨rfl, e0, hce, hsl⟩)
  dsimp only [Pt.U, Pt.locs, Pt.cells, Pt.slots] at X1 l1 y1 z1 st hQ
  subst l1 y1 z1
  exact ⟨T1, v, Lc, X1, hQ, fun t kt => st.trans kt⟩
set_option maxRecDepth 65536 in
set_option maxHeartbeats 40000000 in
theorem pH5 {p : Program} {l : Launch} {e : Env} {s : State} {m : MethodId} {args : Array Value} {below : List Frame} {meth : Method} {c : Code} {T0 : State} {locs : List Loc} {Z : State} {a0 : Array Value} {h0 : Heap} {n0 : Nat} (p1 : Int32) (p2 : Int32) (p3 : Int32) (p4 : Int32) (c0 : Int32) (c1 : Int32) (c2 : Int32) (nn : Int32) (jj : Int32) (dom : Addr) (non : Addr) (mm : Int32) (r1 : Int32) (r2 : Int32) (r3 : Int32) (k0 : Int64) (k1 : Int64) (l0 : Int32) (l1 : Int32) (x : Int64)
    (X0 : Stand p l e room_1 s m args below meth c T0 locs 11 404) (hx : p.tables.exec = Jvm.exec) (hZ : Z.Warmed39 s.vm) (hw : ∀ d ∈ tables_1, d.before a0 Z = true) (hby : c.code = code) (hml : c.maxLocals = 22) (hown : s.vm.findClass "com/example/caprice/caprice/solver/DomainsRestorePinLaw" = some m.cls) (e0 : T0.heap = h0) (N0 : Fr n0 locs) (O0 : Old Z n0 h0) (hd0 : x = k0) :
    ∃ (T' : State) (locs' : List Loc), Stand p l e room_1 s m args below meth c T' locs' 11 404 ∧ Fr n0 locs' ∧ T'.heap = h0 ∧ ∀ t, Steps p.tables e below (T'.setTop (mkF m 452 #[.val (.int p1), .val (.int p2), .val (.int p3), .val (.int p4), .val (.int c0), .val (.int c1), .val (.int c2), .val (.int nn), .val (.int jj), .val (.ref dom), .val (.ref non), .val (.int mm), .val (.int r1), .val (.int r2), .val (.int r3), .val (.long k0), .second, .val (.long k1), .second, .val (.int l0), .val (.int l1), .unset] [(.int (1 : Int32)), (.ref dom)])) t → Steps p.tables e below (T0.setTop (mkF m 443 #[.val (.int p1), .val (.int p2), .val (.int p3), .val (.int p4), .val (.int c0), .val (.int c1), .val (.int c2), .val (.int nn), .val (.int jj), .val (.ref dom), .val (.ref non), .val (.int mm), .val (.int r1), .val (.int r2), .val (.int r3), .val (.long k0), .second, .val (.long k1), .second, .val (.int l0), .val (.int l1), .unset] [(.long x)])) t := by
  refine ⟨T0, _, X0, N0, e0, fun t kt => ?_⟩
  show Steps p.tables e below (T0.setTop (mkF m 443 #[.val (.int p1), .val (.int p2), .val (.int p3), .val (.int p4), .val (.int c0), .val (.int c1), .val (.int c2), .val (.int nn), .val (.int jj), .val (.ref dom), .val (.ref non), .val (.int mm), .val (.int r1), .val (.int r2), .val (.int r3), .val (.long k0), .second, .val (.long k1), .second, .val (.int l0), .val (.int l1), .unset] [(.long x)])) _
  refine XS.lload X0.here hx rfl (hb hby at_443) rfl ?_
  show Steps p.tables e below (T0.setTop (mkF m 445 #[.val (.int p1), .val (.int p2), .val (.int p3), .val (.int p4), .val (.int c0), .val (.int c1), .val (.int c2), .val (.int nn), .val (.int jj), .val (.ref dom), .val (.ref non), .val (.int mm), .val (.int r1), .val (.int r2), .val (.int r3), .val (.long k0), .second, .val (.long k1), .second, .val (.int l0), .val (.int l1), .unset] [(.long k0), (.long x)])) _
  refine XS.lcmp X0.here hx rfl (hb hby at_445) rfl ?_
  show Steps p.tables e below (T0.setTop (mkF m 446 #[.val (.int p1), .val (.int p2), .val (.int p3), .val (.int p4), .val (.int c0), .val (.int c1), .val (.int c2), .val (.int nn), .val (.int jj), .val (.ref dom), .val (.ref non), .val (.int mm), .val (.int r1), .val (.int r2), .val (.int r3), .val (.long k0), .second, .val (.long k1), .second, .val (.int l0), .val (.int l1), .unset] [(.int (lcmpW x k0))])) _
  refine XS.ifNo X0.here hx rfl (hb hby at_446) rfl ((if0 _ _).trans (teq ((lw_eq x k0).mpr hd0)).2) ?_
  show Steps p.tables e below (T0.setTop (mkF m 449 #[.val (.int p1), .val (.int p2), .val (.int p3), .val (.int p4), .val (.int c0), .val (.int c1), .val (.int c2), .val (.int nn), .val (.int jj), .val (.ref dom), .val (.ref non), .val (.int mm), .val (.int r1), .val (.int r2), .val (.int r3), .val (.long k0), .second, .val (.long k1), .second, .val (.int l0), .val (.int l1), .unset] [])) _
  refine XS.aload X0.here hx rfl (hb hby at_449) rfl rfl ?_
  show Steps p.tables e below (T0.setTop (mkF m 451 #[.val (.int p1), .val (.int p2), .val (.int p3), .val (.int p4), .val (.int c0), .val (.int c1), .val (.int c2), .val (.int nn), .val (.int jj), .val (.ref dom), .val (.ref non), .val (.int mm), .val (.int r1), .val (.int r2), .val (.int r3), .val (.long k0), .second, .val (.long k1), .second, .val (.int l0), .val (.int l1), .unset] [(.ref dom)])) _
  refine XS.iconst X0.here hx rfl (hb hby at_451) ?_
  show Steps p.tables e below (T0.setTop (mkF m 452 #[.val (.int p1), .val (.int p2), .val (.int p3), .val (.int p4), .val (.int c0), .val (.int c1), .val (.int c2), .val (.int nn), .val (.int jj), .val (.ref dom), .val (.ref non), .val (.int mm), .val (.int r1), .val (.int r2), .val (.int r3), .val (.long k0), .second, .val (.long k1), .second, .val (.int l0), .val (.int l1), .unset] [(.int (1 : Int32)), (.ref dom)])) _
  exact kt
set_option maxRecDepth 65536 in
set_option maxHeartbeats 4000000 in
theorem cH5 {p : Program} {l : Launch} {e : Env} {s : State} {m : MethodId} {args : Array Value} {below : List Frame} {meth : Method} {c : Code} {T0 : State} {locs : List Loc} {cells slots : Nat} {Z : State} {a0 : Array Value} {h0 : Heap} {Ls : Array Slot} (ob : Addr) (x0 : Int32)
    (X0 : Stand p l e room_1 s m args below meth c T0 locs cells slots) (hx : p.tables.exec = Jvm.exec) (hZ : Z.Warmed39 s.vm) (hw : ∀ d ∈ tables_1, d.before a0 Z = true) (hby : c.code = code) (hml : c.maxLocals = 22) (hown : s.vm.findClass "com/example/caprice/caprice/solver/DomainsRestorePinLaw" = some m.cls) (e0 : T0.heap = h0) (hsz : Ls.size = 22) (ER : Exa Z h0 ob "com/example/caprice/caprice/solver/Domains") {rm : Room} {Q : Option Value → Heap → List Loc → Prop}
    (M : MetFree l (⟨"com/example/caprice/caprice/solver/Domains", "leftMask", "(I)J"⟩ : MethodName) (head1 [Jvm.Cond.code (⟨"com/example/caprice/caprice/solver/Domains", "leftMask", "(I)J"⟩ : MethodName) prog_59_method_5_code 2 (some .long)] rm) (fun a U => a = #[(.ref ob), (.int x0)] ∧ Z.Warmed39 U.vm ∧ U.heap = h0) (fun _ _ _ _ _ => True) (fun _ U o U' => ∃ v L, o = .returned v ∧ Q v U'.heap L ∧ FrameEnd U o U' L rm.cells rm.slots)) (hfr : rm.frames + 1 ≤ room_1.frames) (hlo : 0 + (2 + 11) + rm.locals ≤ room_1.locals) (hce : cells + rm.cells ≤ room_1.cells) (hsl : slots + rm.slots ≤ room_1.slots) :
    ∃ (T' : State) (v : Option Value) (L : List Loc), Stand p l e room_1 s m args below meth c T' (locs ++ L) (cells + rm.cells) (slots + rm.slots) ∧ Q v T'.heap L ∧ ∀ t, Steps p.tables e below (T'.setTop (mkF m 455 Ls (v.toList ++ []))) t → Steps p.tables e below (T0.setTop (mkF m 452 Ls [(.int x0), (.ref ob)])) t := by
  obtain ⟨cq, kq, qa, qb, qc⟩ := isOf hZ e0 ER
  obtain ⟨v, _, ⟨T1, L1, k1, n1⟩, -, X1, ⟨Lc, hQ, l1, y1, z1⟩, st⟩ := X0.virtualBack hx (y := (⟨"com/example/caprice/caprice/solver/Domains", "leftMask", "(I)J"⟩ : MethodName)) (z := (⟨"com/example/caprice/caprice/solver/Domains", "leftMask", "(I)J"⟩ : MethodName)) hown (mvT hZ (hw _ (List.mem_of_getElem? (i := 69) rfl))) (mvT hZ (hw _ (List.mem_of_getElem? (i := 70) rfl))) (notFace_of_selects (args := #[]) (mvT hZ (hw _ (List.mem_of_getElem? (i := 72) rfl)))) (mvT hZ (hw _ (List.mem_of_getElem? (i := 72) rfl))) (mvT hZ (hw _ (List.mem_of_getElem? (i := 71) rfl))) (by decide) (backOf (W := 0) M hZ (hw _ (List.mem_of_getElem? (i := 73) rfl)) (hw _ (List.mem_of_getElem? (i := 7) rfl)) hfr hlo) qa qc (g := (mkF m 452 Ls [(.int x0), (.ref ob)])) rfl (by rw [hml]; exact hsz) (Steps.refl _) (argsL := [(.int x0)]) (rest := []) (lenOf pd70 rfl) rfl (by show 2 * 0 + _ ≤ _; exact Nat.le_of_eq rfl) (hb hby at_452) (fun _ _ => ⟨rfl, e0, hce, hsl⟩)
  dsimp only [Pt.U, Pt.locs, Pt.cells, Pt.slots] at X1 l1 y1 z1 st hQ
  subst l1 y1 z1
  exact ⟨T1, v, Lc, X1, hQ, fun t kt => st.trans kt⟩
set_option maxRecDepth 65536 in
set_option maxHeartbeats 40000000 in
theorem pH6 {p : Program} {l : Launch} {e : Env} {s : State} {m : MethodId} {args : Array Value} {below : List Frame} {meth : Method} {c : Code} {T0 : State} {locs : List Loc} {Z : State} {a0 : Array Value} {h0 : Heap} {n0 : Nat} (p1 : Int32) (p2 : Int32) (p3 : Int32) (p4 : Int32) (c0 : Int32) (c1 : Int32) (c2 : Int32) (nn : Int32) (jj : Int32) (dom : Addr) (non : Addr) (mm : Int32) (r1 : Int32) (r2 : Int32) (r3 : Int32) (k0 : Int64) (k1 : Int64) (l0 : Int32) (l1 : Int32) (x : Int64)
    (X0 : Stand p l e room_1 s m args below meth c T0 locs 11 404) (hx : p.tables.exec = Jvm.exec) (hZ : Z.Warmed39 s.vm) (hw : ∀ d ∈ tables_1, d.before a0 Z = true) (hby : c.code = code) (hml : c.maxLocals = 22) (hown : s.vm.findClass "com/example/caprice/caprice/solver/DomainsRestorePinLaw" = some m.cls) (e0 : T0.heap = h0) (N0 : Fr n0 locs) (O0 : Old Z n0 h0) (hd0 : x = k1) :
    ∃ (T' : State) (locs' : List Loc), Stand p l e room_1 s m args below meth c T' locs' 11 404 ∧ Fr n0 locs' ∧ T'.heap = h0 ∧ ∀ t, Steps p.tables e below (T'.setTop (mkF m 468 #[.val (.int p1), .val (.int p2), .val (.int p3), .val (.int p4), .val (.int c0), .val (.int c1), .val (.int c2), .val (.int nn), .val (.int jj), .val (.ref dom), .val (.ref non), .val (.int mm), .val (.int r1), .val (.int r2), .val (.int r3), .val (.long k0), .second, .val (.long k1), .second, .val (.int l0), .val (.int l1), .val (.int (1 : Int32))] [])) t → Steps p.tables e below (T0.setTop (mkF m 455 #[.val (.int p1), .val (.int p2), .val (.int p3), .val (.int p4), .val (.int c0), .val (.int c1), .val (.int c2), .val (.int nn), .val (.int jj), .val (.ref dom), .val (.ref non), .val (.int mm), .val (.int r1), .val (.int r2), .val (.int r3), .val (.long k0), .second, .val (.long k1), .second, .val (.int l0), .val (.int l1), .unset] [(.long x)])) t := by
  refine ⟨T0, _, X0, N0, e0, fun t kt => ?_⟩
  show Steps p.tables e below (T0.setTop (mkF m 455 #[.val (.int p1), .val (.int p2), .val (.int p3), .val (.int p4), .val (.int c0), .val (.int c1), .val (.int c2), .val (.int nn), .val (.int jj), .val (.ref dom), .val (.ref non), .val (.int mm), .val (.int r1), .val (.int r2), .val (.int r3), .val (.long k0), .second, .val (.long k1), .second, .val (.int l0), .val (.int l1), .unset] [(.long x)])) _
  refine XS.lload X0.here hx rfl (hb hby at_455) rfl ?_
  show Steps p.tables e below (T0.setTop (mkF m 457 #[.val (.int p1), .val (.int p2), .val (.int p3), .val (.int p4), .val (.int c0), .val (.int c1), .val (.int c2), .val (.int nn), .val (.int jj), .val (.ref dom), .val (.ref non), .val (.int mm), .val (.int r1), .val (.int r2), .val (.int r3), .val (.long k0), .second, .val (.long k1), .second, .val (.int l0), .val (.int l1), .unset] [(.long k1), (.long x)])) _
  refine XS.lcmp X0.here hx rfl (hb hby at_457) rfl ?_
  show Steps p.tables e below (T0.setTop (mkF m 458 #[.val (.int p1), .val (.int p2), .val (.int p3), .val (.int p4), .val (.int c0), .val (.int c1), .val (.int c2), .val (.int nn), .val (.int jj), .val (.ref dom), .val (.ref non), .val (.int mm), .val (.int r1), .val (.int r2), .val (.int r3), .val (.long k0), .second, .val (.long k1), .second, .val (.int l0), .val (.int l1), .unset] [(.int (lcmpW x k1))])) _
  refine XS.ifNo X0.here hx rfl (hb hby at_458) rfl ((if0 _ _).trans (teq ((lw_eq x k1).mpr hd0)).2) ?_
  show Steps p.tables e below (T0.setTop (mkF m 461 #[.val (.int p1), .val (.int p2), .val (.int p3), .val (.int p4), .val (.int c0), .val (.int c1), .val (.int c2), .val (.int nn), .val (.int jj), .val (.ref dom), .val (.ref non), .val (.int mm), .val (.int r1), .val (.int r2), .val (.int r3), .val (.long k0), .second, .val (.long k1), .second, .val (.int l0), .val (.int l1), .unset] [])) _
  refine XS.iconst X0.here hx rfl (hb hby at_461) ?_
  show Steps p.tables e below (T0.setTop (mkF m 462 #[.val (.int p1), .val (.int p2), .val (.int p3), .val (.int p4), .val (.int c0), .val (.int c1), .val (.int c2), .val (.int nn), .val (.int jj), .val (.ref dom), .val (.ref non), .val (.int mm), .val (.int r1), .val (.int r2), .val (.int r3), .val (.long k0), .second, .val (.long k1), .second, .val (.int l0), .val (.int l1), .unset] [(.int (1 : Int32))])) _
  refine XS.goto X0.here hx rfl (pc0 := 462) (pc' := 466) rfl (hb hby at_462) (by decide) (by decide) ?_
  show Steps p.tables e below (T0.setTop (mkF m 466 #[.val (.int p1), .val (.int p2), .val (.int p3), .val (.int p4), .val (.int c0), .val (.int c1), .val (.int c2), .val (.int nn), .val (.int jj), .val (.ref dom), .val (.ref non), .val (.int mm), .val (.int r1), .val (.int r2), .val (.int r3), .val (.long k0), .second, .val (.long k1), .second, .val (.int l0), .val (.int l1), .unset] [(.int (1 : Int32))])) _
  refine XS.istore X0.here hx rfl (hb hby at_466) rfl (l' := #[.val (.int p1), .val (.int p2), .val (.int p3), .val (.int p4), .val (.int c0), .val (.int c1), .val (.int c2), .val (.int nn), .val (.int jj), .val (.ref dom), .val (.ref non), .val (.int mm), .val (.int r1), .val (.int r2), .val (.int r3), .val (.long k0), .second, .val (.long k1), .second, .val (.int l0), .val (.int l1), .val (.int (1 : Int32))]) rfl ?_
  show Steps p.tables e below (T0.setTop (mkF m 468 #[.val (.int p1), .val (.int p2), .val (.int p3), .val (.int p4), .val (.int c0), .val (.int c1), .val (.int c2), .val (.int nn), .val (.int jj), .val (.ref dom), .val (.ref non), .val (.int mm), .val (.int r1), .val (.int r2), .val (.int r3), .val (.long k0), .second, .val (.long k1), .second, .val (.int l0), .val (.int l1), .val (.int (1 : Int32))] [])) _
  exact kt
def Q0 (h0 : Heap) (n0 : Nat) (v : Option Value) (h : Heap) (L : List Loc) : Prop := v = some (.int (1 : Int32)) ∧ Fr n0 L
set_option maxRecDepth 65536 in
set_option maxHeartbeats 40000000 in
theorem pZ0 {p : Program} {l : Launch} {e : Env} {s : State} {m : MethodId} {args : Array Value} {below : List Frame} {meth : Method} {c : Code} {T0 : State} {locs : List Loc} {Z : State} {a0 : Array Value} {h0 : Heap} {n0 : Nat} (p1 : Int32) (p2 : Int32) (p3 : Int32) (p4 : Int32) (c0 : Int32) (c1 : Int32) (c2 : Int32) (nn : Int32) (jj : Int32) (dom : Addr) (non : Addr) (mm : Int32) (r1 : Int32) (r2 : Int32) (r3 : Int32) (k0 : Int64) (k1 : Int64) (l0 : Int32) (l1 : Int32)
    (X0 : Stand p l e room_1 s m args below meth c T0 locs 11 404) (hx : p.tables.exec = Jvm.exec) (hZ : Z.Warmed39 s.vm) (hw : ∀ d ∈ tables_1, d.before a0 Z = true) (hby : c.code = code) (hml : c.maxLocals = 22) (hown : s.vm.findClass "com/example/caprice/caprice/solver/DomainsRestorePinLaw" = some m.cls) (e0 : T0.heap = h0) (N0 : Fr n0 locs) (O0 : Old Z n0 h0) (hd0 : nn < (1 : Int32)) (hret : meth.sig.returnType = some .boolean) (hlk : meth.locks = false) {entry : State} (pre0 : ∀ t, Steps p.tables e below (T0.setTop (mkF m 468 #[.val (.int p1), .val (.int p2), .val (.int p3), .val (.int p4), .val (.int c0), .val (.int c1), .val (.int c2), .val (.int nn), .val (.int jj), .val (.ref dom), .val (.ref non), .val (.int mm), .val (.int r1), .val (.int r2), .val (.int r3), .val (.long k0), .second, .val (.long k1), .second, .val (.int l0), .val (.int l1), .val (.int (1 : Int32))] [])) t → Steps p.tables e below entry t) :
    ∃ s₂ o, Steps p.tables e below entry s₂ ∧ s₂.status = .running ∧ Ended s₂ below o ∧ ∃ v L, o = .returned v ∧ Q0 h0 n0 v s₂.heap L ∧ FrameEnd s o s₂ L room_1.cells room_1.slots := by
  obtain ⟨fs, hr, hrun, hended, hW, hsame⟩ := X0.leave (v := some (.int (1 : Int32))) (fun h => by rw [hret] at h; cases h) hlk
  refine ⟨_, _, pre0 _ ?_, hrun, hended, _, _, rfl, ?_, ⟨_, rfl⟩, hW, hsame.mono (by decide) (by decide)⟩
  · show Steps p.tables e below (T0.setTop (mkF m 468 #[.val (.int p1), .val (.int p2), .val (.int p3), .val (.int p4), .val (.int c0), .val (.int c1), .val (.int c2), .val (.int nn), .val (.int jj), .val (.ref dom), .val (.ref non), .val (.int mm), .val (.int r1), .val (.int r2), .val (.int r3), .val (.long k0), .second, .val (.long k1), .second, .val (.int l0), .val (.int l1), .val (.int (1 : Int32))] [])) _
    refine XS.iload X0.here hx rfl (hb hby at_468) rfl ?_
    show Steps p.tables e below (T0.setTop (mkF m 470 #[.val (.int p1), .val (.int p2), .val (.int p3), .val (.int p4), .val (.int c0), .val (.int c1), .val (.int c2), .val (.int nn), .val (.int jj), .val (.ref dom), .val (.ref non), .val (.int mm), .val (.int r1), .val (.int r2), .val (.int r3), .val (.long k0), .second, .val (.long k1), .second, .val (.int l0), .val (.int l1), .val (.int (1 : Int32))] [(.int nn)])) _
    refine XS.iconst X0.here hx rfl (hb hby at_470) ?_
    show Steps p.tables e below (T0.setTop (mkF m 471 #[.val (.int p1), .val (.int p2), .val (.int p3), .val (.int p4), .val (.int c0), .val (.int c1), .val (.int c2), .val (.int nn), .val (.int jj), .val (.ref dom), .val (.ref non), .val (.int mm), .val (.int r1), .val (.int r2), .val (.int r3), .val (.long k0), .second, .val (.long k1), .second, .val (.int l0), .val (.int l1), .val (.int (1 : Int32))] [(.int (1 : Int32)), (.int nn)])) _
    refine XS.icmpYes X0.here hx rfl (pc0 := 471) (pc' := 514) rfl (hb hby at_471) rfl (tlt hd0).1 (by decide) (by decide) ?_
    show Steps p.tables e below (T0.setTop (mkF m 514 #[.val (.int p1), .val (.int p2), .val (.int p3), .val (.int p4), .val (.int c0), .val (.int c1), .val (.int c2), .val (.int nn), .val (.int jj), .val (.ref dom), .val (.ref non), .val (.int mm), .val (.int r1), .val (.int r2), .val (.int r3), .val (.long k0), .second, .val (.long k1), .second, .val (.int l0), .val (.int l1), .val (.int (1 : Int32))] [])) _
    refine XS.iload X0.here hx rfl (hb hby at_514) rfl ?_
    show Steps p.tables e below (T0.setTop (mkF m 516 #[.val (.int p1), .val (.int p2), .val (.int p3), .val (.int p4), .val (.int c0), .val (.int c1), .val (.int c2), .val (.int nn), .val (.int jj), .val (.ref dom), .val (.ref non), .val (.int mm), .val (.int r1), .val (.int r2), .val (.int r3), .val (.long k0), .second, .val (.long k1), .second, .val (.int l0), .val (.int l1), .val (.int (1 : Int32))] [(.int (1 : Int32))])) _
    exact retN X0 hx (t := .boolean) hret (by simp) (hb hby at_516) hr
  · exact ⟨rfl, N0⟩
set_option maxRecDepth 65536 in
set_option maxHeartbeats 40000000 in
theorem pZ1 {p : Program} {l : Launch} {e : Env} {s : State} {m : MethodId} {args : Array Value} {below : List Frame} {meth : Method} {c : Code} {T0 : State} {locs : List Loc} {Z : State} {a0 : Array Value} {h0 : Heap} {n0 : Nat} (p1 : Int32) (p2 : Int32) (p3 : Int32) (p4 : Int32) (c0 : Int32) (c1 : Int32) (c2 : Int32) (nn : Int32) (jj : Int32) (dom : Addr) (non : Addr) (mm : Int32) (r1 : Int32) (r2 : Int32) (r3 : Int32) (k0 : Int64) (k1 : Int64) (l0 : Int32) (l1 : Int32)
    (X0 : Stand p l e room_1 s m args below meth c T0 locs 11 404) (hx : p.tables.exec = Jvm.exec) (hZ : Z.Warmed39 s.vm) (hw : ∀ d ∈ tables_1, d.before a0 Z = true) (hby : c.code = code) (hml : c.maxLocals = 22) (hown : s.vm.findClass "com/example/caprice/caprice/solver/DomainsRestorePinLaw" = some m.cls) (e0 : T0.heap = h0) (N0 : Fr n0 locs) (O0 : Old Z n0 h0) (hd0 : ¬ (nn < (1 : Int32))) :
    ∃ (T' : State) (locs' : List Loc), Stand p l e room_1 s m args below meth c T' locs' 11 404 ∧ Fr n0 locs' ∧ T'.heap = h0 ∧ ∀ t, Steps p.tables e below (T'.setTop (mkF m 491 #[.val (.int p1), .val (.int p2), .val (.int p3), .val (.int p4), .val (.int c0), .val (.int c1), .val (.int c2), .val (.int nn), .val (.int jj), .val (.ref dom), .val (.ref non), .val (.int mm), .val (.int r1), .val (.int r2), .val (.int r3), .val (.long k0), .second, .val (.long k1), .second, .val (.int l0), .val (.int l1), .val (.int (1 : Int32))] [(.int (c0 &&& (63 : Int32))), (.int ((c0.toUInt32 >>> ((6 : Int32) &&& 31).toUInt32).toInt32)), (.ref dom)])) t → Steps p.tables e below (T0.setTop (mkF m 468 #[.val (.int p1), .val (.int p2), .val (.int p3), .val (.int p4), .val (.int c0), .val (.int c1), .val (.int c2), .val (.int nn), .val (.int jj), .val (.ref dom), .val (.ref non), .val (.int mm), .val (.int r1), .val (.int r2), .val (.int r3), .val (.long k0), .second, .val (.long k1), .second, .val (.int l0), .val (.int l1), .val (.int (1 : Int32))] [])) t := by
  refine ⟨T0, _, X0, N0, e0, fun t kt => ?_⟩
  show Steps p.tables e below (T0.setTop (mkF m 468 #[.val (.int p1), .val (.int p2), .val (.int p3), .val (.int p4), .val (.int c0), .val (.int c1), .val (.int c2), .val (.int nn), .val (.int jj), .val (.ref dom), .val (.ref non), .val (.int mm), .val (.int r1), .val (.int r2), .val (.int r3), .val (.long k0), .second, .val (.long k1), .second, .val (.int l0), .val (.int l1), .val (.int (1 : Int32))] [])) _
  refine XS.iload X0.here hx rfl (hb hby at_468) rfl ?_
  show Steps p.tables e below (T0.setTop (mkF m 470 #[.val (.int p1), .val (.int p2), .val (.int p3), .val (.int p4), .val (.int c0), .val (.int c1), .val (.int c2), .val (.int nn), .val (.int jj), .val (.ref dom), .val (.ref non), .val (.int mm), .val (.int r1), .val (.int r2), .val (.int r3), .val (.long k0), .second, .val (.long k1), .second, .val (.int l0), .val (.int l1), .val (.int (1 : Int32))] [(.int nn)])) _
  refine XS.iconst X0.here hx rfl (hb hby at_470) ?_
  show Steps p.tables e below (T0.setTop (mkF m 471 #[.val (.int p1), .val (.int p2), .val (.int p3), .val (.int p4), .val (.int c0), .val (.int c1), .val (.int c2), .val (.int nn), .val (.int jj), .val (.ref dom), .val (.ref non), .val (.int mm), .val (.int r1), .val (.int r2), .val (.int r3), .val (.long k0), .second, .val (.long k1), .second, .val (.int l0), .val (.int l1), .val (.int (1 : Int32))] [(.int (1 : Int32)), (.int nn)])) _
  refine XS.icmpNo X0.here hx rfl (hb hby at_471) rfl (flt hd0).1 ?_
  show Steps p.tables e below (T0.setTop (mkF m 474 #[.val (.int p1), .val (.int p2), .val (.int p3), .val (.int p4), .val (.int c0), .val (.int c1), .val (.int c2), .val (.int nn), .val (.int jj), .val (.ref dom), .val (.ref non), .val (.int mm), .val (.int r1), .val (.int r2), .val (.int r3), .val (.long k0), .second, .val (.long k1), .second, .val (.int l0), .val (.int l1), .val (.int (1 : Int32))] [])) _
  refine XS.iload X0.here hx rfl (hb hby at_474) rfl ?_
  show Steps p.tables e below (T0.setTop (mkF m 476 #[.val (.int p1), .val (.int p2), .val (.int p3), .val (.int p4), .val (.int c0), .val (.int c1), .val (.int c2), .val (.int nn), .val (.int jj), .val (.ref dom), .val (.ref non), .val (.int mm), .val (.int r1), .val (.int r2), .val (.int r3), .val (.long k0), .second, .val (.long k1), .second, .val (.int l0), .val (.int l1), .val (.int (1 : Int32))] [(.int (1 : Int32))])) _
  refine XS.ifNo X0.here hx rfl (hb hby at_476) rfl ((if0 _ _).trans (feq (by decide : ¬ ((1 : Int32) = (0 : Int32)))).1) ?_
  show Steps p.tables e below (T0.setTop (mkF m 479 #[.val (.int p1), .val (.int p2), .val (.int p3), .val (.int p4), .val (.int c0), .val (.int c1), .val (.int c2), .val (.int nn), .val (.int jj), .val (.ref dom), .val (.ref non), .val (.int mm), .val (.int r1), .val (.int r2), .val (.int r3), .val (.long k0), .second, .val (.long k1), .second, .val (.int l0), .val (.int l1), .val (.int (1 : Int32))] [])) _
  refine XS.aload X0.here hx rfl (hb hby at_479) rfl rfl ?_
  show Steps p.tables e below (T0.setTop (mkF m 481 #[.val (.int p1), .val (.int p2), .val (.int p3), .val (.int p4), .val (.int c0), .val (.int c1), .val (.int c2), .val (.int nn), .val (.int jj), .val (.ref dom), .val (.ref non), .val (.int mm), .val (.int r1), .val (.int r2), .val (.int r3), .val (.long k0), .second, .val (.long k1), .second, .val (.int l0), .val (.int l1), .val (.int (1 : Int32))] [(.ref dom)])) _
  refine XS.iload X0.here hx rfl (hb hby at_481) rfl ?_
  show Steps p.tables e below (T0.setTop (mkF m 483 #[.val (.int p1), .val (.int p2), .val (.int p3), .val (.int p4), .val (.int c0), .val (.int c1), .val (.int c2), .val (.int nn), .val (.int jj), .val (.ref dom), .val (.ref non), .val (.int mm), .val (.int r1), .val (.int r2), .val (.int r3), .val (.long k0), .second, .val (.long k1), .second, .val (.int l0), .val (.int l1), .val (.int (1 : Int32))] [(.int c0), (.ref dom)])) _
  refine XS.bipush X0.here hx rfl (hb hby at_483) ?_
  show Steps p.tables e below (T0.setTop (mkF m 485 #[.val (.int p1), .val (.int p2), .val (.int p3), .val (.int p4), .val (.int c0), .val (.int c1), .val (.int c2), .val (.int nn), .val (.int jj), .val (.ref dom), .val (.ref non), .val (.int mm), .val (.int r1), .val (.int r2), .val (.int r3), .val (.long k0), .second, .val (.long k1), .second, .val (.int l0), .val (.int l1), .val (.int (1 : Int32))] [(.int (6 : Int32)), (.int c0), (.ref dom)])) _
  refine XS.iushr X0.here hx rfl (hb hby at_485) rfl ?_
  show Steps p.tables e below (T0.setTop (mkF m 486 #[.val (.int p1), .val (.int p2), .val (.int p3), .val (.int p4), .val (.int c0), .val (.int c1), .val (.int c2), .val (.int nn), .val (.int jj), .val (.ref dom), .val (.ref non), .val (.int mm), .val (.int r1), .val (.int r2), .val (.int r3), .val (.long k0), .second, .val (.long k1), .second, .val (.int l0), .val (.int l1), .val (.int (1 : Int32))] [(.int ((c0.toUInt32 >>> ((6 : Int32) &&& 31).toUInt32).toInt32)), (.ref dom)])) _
  refine XS.iload X0.here hx rfl (hb hby at_486) rfl ?_
  show Steps p.tables e below (T0.setTop (mkF m 488 #[.val (.int p1), .val (.int p2), .val (.int p3), .val (.int p4), .val (.int c0), .val (.int c1), .val (.int c2), .val (.int nn), .val (.int jj), .val (.ref dom), .val (.ref non), .val (.int mm), .val (.int r1), .val (.int r2), .val (.int r3), .val (.long k0), .second, .val (.long k1), .second, .val (.int l0), .val (.int l1), .val (.int (1 : Int32))] [(.int c0), (.int ((c0.toUInt32 >>> ((6 : Int32) &&& 31).toUInt32).toInt32)), (.ref dom)])) _
  refine XS.bipush X0.here hx rfl (hb hby at_488) ?_
  show Steps p.tables e below (T0.setTop (mkF m 490 #[.val (.int p1), .val (.int p2), .val (.int p3), .val (.int p4), .val (.int c0), .val (.int c1), .val (.int c2), .val (.int nn), .val (.int jj), .val (.ref dom), .val (.ref non), .val (.int mm), .val (.int r1), .val (.int r2), .val (.int r3), .val (.long k0), .second, .val (.long k1), .second, .val (.int l0), .val (.int l1), .val (.int (1 : Int32))] [(.int (63 : Int32)), (.int c0), (.int ((c0.toUInt32 >>> ((6 : Int32) &&& 31).toUInt32).toInt32)), (.ref dom)])) _
  refine XS.iand X0.here hx rfl (hb hby at_490) rfl ?_
  show Steps p.tables e below (T0.setTop (mkF m 491 #[.val (.int p1), .val (.int p2), .val (.int p3), .val (.int p4), .val (.int c0), .val (.int c1), .val (.int c2), .val (.int nn), .val (.int jj), .val (.ref dom), .val (.ref non), .val (.int mm), .val (.int r1), .val (.int r2), .val (.int r3), .val (.long k0), .second, .val (.long k1), .second, .val (.int l0), .val (.int l1), .val (.int (1 : Int32))] [(.int (c0 &&& (63 : Int32))), (.int ((c0.toUInt32 >>> ((6 : Int32) &&& 31).toUInt32).toInt32)), (.ref dom)])) _
  exact kt
theorem pd336 : parseMethodDescriptor "(II)Z" = some ⟨[.int, .int], some .boolean⟩ := by decide +kernel
set_option maxRecDepth 65536 in
set_option maxHeartbeats 4000000 in
theorem cH7 {p : Program} {l : Launch} {e : Env} {s : State} {m : MethodId} {args : Array Value} {below : List Frame} {meth : Method} {c : Code} {T0 : State} {locs : List Loc} {cells slots : Nat} {Z : State} {a0 : Array Value} {h0 : Heap} {Ls : Array Slot} (ob : Addr) (x0 : Int32) (x1 : Int32)
    (X0 : Stand p l e room_1 s m args below meth c T0 locs cells slots) (hx : p.tables.exec = Jvm.exec) (hZ : Z.Warmed39 s.vm) (hw : ∀ d ∈ tables_1, d.before a0 Z = true) (hby : c.code = code) (hml : c.maxLocals = 22) (hown : s.vm.findClass "com/example/caprice/caprice/solver/DomainsRestorePinLaw" = some m.cls) (e0 : T0.heap = h0) (hsz : Ls.size = 22) (ER : Exa Z h0 ob "com/example/caprice/caprice/solver/Domains") {rm : Room} {Q : Option Value → Heap → List Loc → Prop}
    (M : MetFree l (⟨"com/example/caprice/caprice/solver/Domains", "has", "(II)Z"⟩ : MethodName) (head1 [Jvm.Cond.code (⟨"com/example/caprice/caprice/solver/Domains", "has", "(II)Z"⟩ : MethodName) prog_59_method_3_code 3 (some .boolean)] rm) (fun a U => a = #[(.ref ob), (.int x0), (.int x1)] ∧ Z.Warmed39 U.vm ∧ U.heap = h0) (fun _ _ _ _ _ => True) (fun _ U o U' => ∃ v L, o = .returned v ∧ Q v U'.heap L ∧ FrameEnd U o U' L rm.cells rm.slots)) (hfr : rm.frames + 1 ≤ room_1.frames) (hlo : 0 + (3 + 11) + rm.locals ≤ room_1.locals) (hce : cells + rm.cells ≤ room_1.cells) (hsl : slots + rm.slots ≤ room_1.slots) :
    ∃ (T' : State) (v : Option Value) (L : List Loc), Stand p l e room_1 s m args below meth c T' (locs ++ L) (cells + rm.cells) (slots + rm.slots) ∧ Q v T'.heap L ∧ ∀ t, Steps p.tables e below (T'.setTop (mkF m 494 Ls (v.toList ++ []))) t → Steps p.tables e below (T0.setTop (mkF m 491 Ls [(.int x1), (.int x0), (.ref ob)])) t := by
  obtain ⟨cq, kq, qa, qb, qc⟩ := isOf hZ e0 ER
  obtain ⟨v, _, ⟨T1, L1, k1, n1⟩, -, X1, ⟨Lc, hQ, l1, y1, z1⟩, st⟩ := X0.virtualBack hx (y := (⟨"com/example/caprice/caprice/solver/Domains", "has", "(II)Z"⟩ : MethodName)) (z := (⟨"com/example/caprice/caprice/solver/Domains", "has", "(II)Z"⟩ : MethodName)) hown (mvT hZ (hw _ (List.mem_of_getElem? (i := 74) rfl))) (mvT hZ (hw _ (List.mem_of_getElem? (i := 75) rfl))) (notFace_of_selects (args := #[]) (mvT hZ (hw _ (List.mem_of_getElem? (i := 77) rfl)))) (mvT hZ (hw _ (List.mem_of_getElem? (i := 77) rfl))) (mvT hZ (hw _ (List.mem_of_getElem? (i := 76) rfl))) (by decide) (backOf (W := 0) M hZ (hw _ (List.mem_of_getElem? (i := 78) rfl)) (hw _ (List.mem_of_getElem? (i := 7) rfl)) hfr hlo) qa qc (g := (mkF m 491 Ls [(.int x1), (.int x0), (.ref ob)])) rfl (by rw [hml]; exact hsz) (Steps.refl _) (argsL := [(.int x0), (.int x1)]) (rest := []) (lenOf pd336 rfl) rfl (by show 2 * 0 + _ ≤ _; exact Nat.le_of_eq rfl) (hb hby at_491) (fun _ _ => ⟨rfl, e0, hce, hsl⟩)
  dsimp only [Pt.U, Pt.locs, Pt.cells, Pt.slots] at X1 l1 y1 z1 st hQ
  subst l1 y1 z1
  exact ⟨T1, v, Lc, X1, hQ, fun t kt => st.trans kt⟩
set_option maxRecDepth 65536 in
set_option maxHeartbeats 40000000 in
theorem pZ2 {p : Program} {l : Launch} {e : Env} {s : State} {m : MethodId} {args : Array Value} {below : List Frame} {meth : Method} {c : Code} {T0 : State} {locs : List Loc} {Z : State} {a0 : Array Value} {h0 : Heap} {n0 : Nat} (p1 : Int32) (p2 : Int32) (p3 : Int32) (p4 : Int32) (c0 : Int32) (c1 : Int32) (c2 : Int32) (nn : Int32) (jj : Int32) (dom : Addr) (non : Addr) (mm : Int32) (r1 : Int32) (r2 : Int32) (r3 : Int32) (k0 : Int64) (k1 : Int64) (l0 : Int32) (l1 : Int32) (x : Int32)
    (X0 : Stand p l e room_1 s m args below meth c T0 locs 11 404) (hx : p.tables.exec = Jvm.exec) (hZ : Z.Warmed39 s.vm) (hw : ∀ d ∈ tables_1, d.before a0 Z = true) (hby : c.code = code) (hml : c.maxLocals = 22) (hown : s.vm.findClass "com/example/caprice/caprice/solver/DomainsRestorePinLaw" = some m.cls) (e0 : T0.heap = h0) (N0 : Fr n0 locs) (O0 : Old Z n0 h0) (hd0 : jj = (0 : Int32)) (hd1 : x = (1 : Int32)) (hret : meth.sig.returnType = some .boolean) (hlk : meth.locks = false) {entry : State} (pre0 : ∀ t, Steps p.tables e below (T0.setTop (mkF m 494 #[.val (.int p1), .val (.int p2), .val (.int p3), .val (.int p4), .val (.int c0), .val (.int c1), .val (.int c2), .val (.int nn), .val (.int jj), .val (.ref dom), .val (.ref non), .val (.int mm), .val (.int r1), .val (.int r2), .val (.int r3), .val (.long k0), .second, .val (.long k1), .second, .val (.int l0), .val (.int l1), .val (.int (1 : Int32))] [(.int x)])) t → Steps p.tables e below entry t) :
    ∃ s₂ o, Steps p.tables e below entry s₂ ∧ s₂.status = .running ∧ Ended s₂ below o ∧ ∃ v L, o = .returned v ∧ Q0 h0 n0 v s₂.heap L ∧ FrameEnd s o s₂ L room_1.cells room_1.slots := by
  obtain ⟨fs, hr, hrun, hended, hW, hsame⟩ := X0.leave (v := some (.int (1 : Int32))) (fun h => by rw [hret] at h; cases h) hlk
  refine ⟨_, _, pre0 _ ?_, hrun, hended, _, _, rfl, ?_, ⟨_, rfl⟩, hW, hsame.mono (by decide) (by decide)⟩
  · show Steps p.tables e below (T0.setTop (mkF m 494 #[.val (.int p1), .val (.int p2), .val (.int p3), .val (.int p4), .val (.int c0), .val (.int c1), .val (.int c2), .val (.int nn), .val (.int jj), .val (.ref dom), .val (.ref non), .val (.int mm), .val (.int r1), .val (.int r2), .val (.int r3), .val (.long k0), .second, .val (.long k1), .second, .val (.int l0), .val (.int l1), .val (.int (1 : Int32))] [(.int x)])) _
    refine XS.iload X0.here hx rfl (hb hby at_494) rfl ?_
    show Steps p.tables e below (T0.setTop (mkF m 496 #[.val (.int p1), .val (.int p2), .val (.int p3), .val (.int p4), .val (.int c0), .val (.int c1), .val (.int c2), .val (.int nn), .val (.int jj), .val (.ref dom), .val (.ref non), .val (.int mm), .val (.int r1), .val (.int r2), .val (.int r3), .val (.long k0), .second, .val (.long k1), .second, .val (.int l0), .val (.int l1), .val (.int (1 : Int32))] [(.int jj), (.int x)])) _
    refine XS.ifNo X0.here hx rfl (hb hby at_496) rfl ((if0 _ _).trans (teq hd0).2) ?_
    show Steps p.tables e below (T0.setTop (mkF m 499 #[.val (.int p1), .val (.int p2), .val (.int p3), .val (.int p4), .val (.int c0), .val (.int c1), .val (.int c2), .val (.int nn), .val (.int jj), .val (.ref dom), .val (.ref non), .val (.int mm), .val (.int r1), .val (.int r2), .val (.int r3), .val (.long k0), .second, .val (.long k1), .second, .val (.int l0), .val (.int l1), .val (.int (1 : Int32))] [(.int x)])) _
    refine XS.iconst X0.here hx rfl (hb hby at_499) ?_
    show Steps p.tables e below (T0.setTop (mkF m 500 #[.val (.int p1), .val (.int p2), .val (.int p3), .val (.int p4), .val (.int c0), .val (.int c1), .val (.int c2), .val (.int nn), .val (.int jj), .val (.ref dom), .val (.ref non), .val (.int mm), .val (.int r1), .val (.int r2), .val (.int r3), .val (.long k0), .second, .val (.long k1), .second, .val (.int l0), .val (.int l1), .val (.int (1 : Int32))] [(.int (1 : Int32)), (.int x)])) _
    refine XS.goto X0.here hx rfl (pc0 := 500) (pc' := 504) rfl (hb hby at_500) (by decide) (by decide) ?_
    show Steps p.tables e below (T0.setTop (mkF m 504 #[.val (.int p1), .val (.int p2), .val (.int p3), .val (.int p4), .val (.int c0), .val (.int c1), .val (.int c2), .val (.int nn), .val (.int jj), .val (.ref dom), .val (.ref non), .val (.int mm), .val (.int r1), .val (.int r2), .val (.int r3), .val (.long k0), .second, .val (.long k1), .second, .val (.int l0), .val (.int l1), .val (.int (1 : Int32))] [(.int (1 : Int32)), (.int x)])) _
    refine XS.icmpNo X0.here hx rfl (hb hby at_504) rfl (teq hd1).2 ?_
    show Steps p.tables e below (T0.setTop (mkF m 507 #[.val (.int p1), .val (.int p2), .val (.int p3), .val (.int p4), .val (.int c0), .val (.int c1), .val (.int c2), .val (.int nn), .val (.int jj), .val (.ref dom), .val (.ref non), .val (.int mm), .val (.int r1), .val (.int r2), .val (.int r3), .val (.long k0), .second, .val (.long k1), .second, .val (.int l0), .val (.int l1), .val (.int (1 : Int32))] [])) _
    refine XS.iconst X0.here hx rfl (hb hby at_507) ?_
    show Steps p.tables e below (T0.setTop (mkF m 508 #[.val (.int p1), .val (.int p2), .val (.int p3), .val (.int p4), .val (.int c0), .val (.int c1), .val (.int c2), .val (.int nn), .val (.int jj), .val (.ref dom), .val (.ref non), .val (.int mm), .val (.int r1), .val (.int r2), .val (.int r3), .val (.long k0), .second, .val (.long k1), .second, .val (.int l0), .val (.int l1), .val (.int (1 : Int32))] [(.int (1 : Int32))])) _
    refine XS.goto X0.here hx rfl (pc0 := 508) (pc' := 512) rfl (hb hby at_508) (by decide) (by decide) ?_
    show Steps p.tables e below (T0.setTop (mkF m 512 #[.val (.int p1), .val (.int p2), .val (.int p3), .val (.int p4), .val (.int c0), .val (.int c1), .val (.int c2), .val (.int nn), .val (.int jj), .val (.ref dom), .val (.ref non), .val (.int mm), .val (.int r1), .val (.int r2), .val (.int r3), .val (.long k0), .second, .val (.long k1), .second, .val (.int l0), .val (.int l1), .val (.int (1 : Int32))] [(.int (1 : Int32))])) _
    refine XS.istore X0.here hx rfl (hb hby at_512) rfl (l' := #[.val (.int p1), .val (.int p2), .val (.int p3), .val (.int p4), .val (.int c0), .val (.int c1), .val (.int c2), .val (.int nn), .val (.int jj), .val (.ref dom), .val (.ref non), .val (.int mm), .val (.int r1), .val (.int r2), .val (.int r3), .val (.long k0), .second, .val (.long k1), .second, .val (.int l0), .val (.int l1), .val (.int (1 : Int32))]) rfl ?_
    show Steps p.tables e below (T0.setTop (mkF m 514 #[.val (.int p1), .val (.int p2), .val (.int p3), .val (.int p4), .val (.int c0), .val (.int c1), .val (.int c2), .val (.int nn), .val (.int jj), .val (.ref dom), .val (.ref non), .val (.int mm), .val (.int r1), .val (.int r2), .val (.int r3), .val (.long k0), .second, .val (.long k1), .second, .val (.int l0), .val (.int l1), .val (.int (1 : Int32))] [])) _
    refine XS.iload X0.here hx rfl (hb hby at_514) rfl ?_
    show Steps p.tables e below (T0.setTop (mkF m 516 #[.val (.int p1), .val (.int p2), .val (.int p3), .val (.int p4), .val (.int c0), .val (.int c1), .val (.int c2), .val (.int nn), .val (.int jj), .val (.ref dom), .val (.ref non), .val (.int mm), .val (.int r1), .val (.int r2), .val (.int r3), .val (.long k0), .second, .val (.long k1), .second, .val (.int l0), .val (.int l1), .val (.int (1 : Int32))] [(.int (1 : Int32))])) _
    exact retN X0 hx (t := .boolean) hret (by simp) (hb hby at_516) hr
  · exact ⟨rfl, N0⟩
set_option maxRecDepth 65536 in
set_option maxHeartbeats 40000000 in
theorem pZ3 {p : Program} {l : Launch} {e : Env} {s : State} {m : MethodId} {args : Array Value} {below : List Frame} {meth : Method} {c : Code} {T0 : State} {locs : List Loc} {Z : State} {a0 : Array Value} {h0 : Heap} {n0 : Nat} (p1 : Int32) (p2 : Int32) (p3 : Int32) (p4 : Int32) (c0 : Int32) (c1 : Int32) (c2 : Int32) (nn : Int32) (jj : Int32) (dom : Addr) (non : Addr) (mm : Int32) (r1 : Int32) (r2 : Int32) (r3 : Int32) (k0 : Int64) (k1 : Int64) (l0 : Int32) (l1 : Int32) (x : Int32)
    (X0 : Stand p l e room_1 s m args below meth c T0 locs 11 404) (hx : p.tables.exec = Jvm.exec) (hZ : Z.Warmed39 s.vm) (hw : ∀ d ∈ tables_1, d.before a0 Z = true) (hby : c.code = code) (hml : c.maxLocals = 22) (hown : s.vm.findClass "com/example/caprice/caprice/solver/DomainsRestorePinLaw" = some m.cls) (e0 : T0.heap = h0) (N0 : Fr n0 locs) (O0 : Old Z n0 h0) (hd0 : ¬ (jj = (0 : Int32))) (hd1 : x = (0 : Int32)) (hret : meth.sig.returnType = some .boolean) (hlk : meth.locks = false) {entry : State} (pre0 : ∀ t, Steps p.tables e below (T0.setTop (mkF m 494 #[.val (.int p1), .val (.int p2), .val (.int p3), .val (.int p4), .val (.int c0), .val (.int c1), .val (.int c2), .val (.int nn), .val (.int jj), .val (.ref dom), .val (.ref non), .val (.int mm), .val (.int r1), .val (.int r2), .val (.int r3), .val (.long k0), .second, .val (.long k1), .second, .val (.int l0), .val (.int l1), .val (.int (1 : Int32))] [(.int x)])) t → Steps p.tables e below entry t) :
    ∃ s₂ o, Steps p.tables e below entry s₂ ∧ s₂.status = .running ∧ Ended s₂ below o ∧ ∃ v L, o = .returned v ∧ Q0 h0 n0 v s₂.heap L ∧ FrameEnd s o s₂ L room_1.cells room_1.slots := by
  obtain ⟨fs, hr, hrun, hended, hW, hsame⟩ := X0.leave (v := some (.int (1 : Int32))) (fun h => by rw [hret] at h; cases h) hlk
  refine ⟨_, _, pre0 _ ?_, hrun, hended, _, _, rfl, ?_, ⟨_, rfl⟩, hW, hsame.mono (by decide) (by decide)⟩
  · show Steps p.tables e below (T0.setTop (mkF m 494 #[.val (.int p1), .val (.int p2), .val (.int p3), .val (.int p4), .val (.int c0), .val (.int c1), .val (.int c2), .val (.int nn), .val (.int jj), .val (.ref dom), .val (.ref non), .val (.int mm), .val (.int r1), .val (.int r2), .val (.int r3), .val (.long k0), .second, .val (.long k1), .second, .val (.int l0), .val (.int l1), .val (.int (1 : Int32))] [(.int x)])) _
    refine XS.iload X0.here hx rfl (hb hby at_494) rfl ?_
    show Steps p.tables e below (T0.setTop (mkF m 496 #[.val (.int p1), .val (.int p2), .val (.int p3), .val (.int p4), .val (.int c0), .val (.int c1), .val (.int c2), .val (.int nn), .val (.int jj), .val (.ref dom), .val (.ref non), .val (.int mm), .val (.int r1), .val (.int r2), .val (.int r3), .val (.long k0), .second, .val (.long k1), .second, .val (.int l0), .val (.int l1), .val (.int (1 : Int32))] [(.int jj), (.int x)])) _
    refine XS.ifYes X0.here hx rfl (pc0 := 496) (pc' := 503) rfl (hb hby at_496) rfl ((if0 _ _).trans (feq hd0).2) (by decide) (by decide) ?_
    show Steps p.tables e below (T0.setTop (mkF m 503 #[.val (.int p1), .val (.int p2), .val (.int p3), .val (.int p4), .val (.int c0), .val (.int c1), .val (.int c2), .val (.int nn), .val (.int jj), .val (.ref dom), .val (.ref non), .val (.int mm), .val (.int r1), .val (.int r2), .val (.int r3), .val (.long k0), .second, .val (.long k1), .second, .val (.int l0), .val (.int l1), .val (.int (1 : Int32))] [(.int x)])) _
    refine XS.iconst X0.here hx rfl (hb hby at_503) ?_
    show Steps p.tables e below (T0.setTop (mkF m 504 #[.val (.int p1), .val (.int p2), .val (.int p3), .val (.int p4), .val (.int c0), .val (.int c1), .val (.int c2), .val (.int nn), .val (.int jj), .val (.ref dom), .val (.ref non), .val (.int mm), .val (.int r1), .val (.int r2), .val (.int r3), .val (.long k0), .second, .val (.long k1), .second, .val (.int l0), .val (.int l1), .val (.int (1 : Int32))] [(.int (0 : Int32)), (.int x)])) _
    refine XS.icmpNo X0.here hx rfl (hb hby at_504) rfl (teq hd1).2 ?_
    show Steps p.tables e below (T0.setTop (mkF m 507 #[.val (.int p1), .val (.int p2), .val (.int p3), .val (.int p4), .val (.int c0), .val (.int c1), .val (.int c2), .val (.int nn), .val (.int jj), .val (.ref dom), .val (.ref non), .val (.int mm), .val (.int r1), .val (.int r2), .val (.int r3), .val (.long k0), .second, .val (.long k1), .second, .val (.int l0), .val (.int l1), .val (.int (1 : Int32))] [])) _
    refine XS.iconst X0.here hx rfl (hb hby at_507) ?_
    show Steps p.tables e below (T0.setTop (mkF m 508 #[.val (.int p1), .val (.int p2), .val (.int p3), .val (.int p4), .val (.int c0), .val (.int c1), .val (.int c2), .val (.int nn), .val (.int jj), .val (.ref dom), .val (.ref non), .val (.int mm), .val (.int r1), .val (.int r2), .val (.int r3), .val (.long k0), .second, .val (.long k1), .second, .val (.int l0), .val (.int l1), .val (.int (1 : Int32))] [(.int (1 : Int32))])) _
    refine XS.goto X0.here hx rfl (pc0 := 508) (pc' := 512) rfl (hb hby at_508) (by decide) (by decide) ?_
    show Steps p.tables e below (T0.setTop (mkF m 512 #[.val (.int p1), .val (.int p2), .val (.int p3), .val (.int p4), .val (.int c0), .val (.int c1), .val (.int c2), .val (.int nn), .val (.int jj), .val (.ref dom), .val (.ref non), .val (.int mm), .val (.int r1), .val (.int r2), .val (.int r3), .val (.long k0), .second, .val (.long k1), .second, .val (.int l0), .val (.int l1), .val (.int (1 : Int32))] [(.int (1 : Int32))])) _
    refine XS.istore X0.here hx rfl (hb hby at_512) rfl (l' := #[.val (.int p1), .val (.int p2), .val (.int p3), .val (.int p4), .val (.int c0), .val (.int c1), .val (.int c2), .val (.int nn), .val (.int jj), .val (.ref dom), .val (.ref non), .val (.int mm), .val (.int r1), .val (.int r2), .val (.int r3), .val (.long k0), .second, .val (.long k1), .second, .val (.int l0), .val (.int l1), .val (.int (1 : Int32))]) rfl ?_
    show Steps p.tables e below (T0.setTop (mkF m 514 #[.val (.int p1), .val (.int p2), .val (.int p3), .val (.int p4), .val (.int c0), .val (.int c1), .val (.int c2), .val (.int nn), .val (.int jj), .val (.ref dom), .val (.ref non), .val (.int mm), .val (.int r1), .val (.int r2), .val (.int r3), .val (.long k0), .second, .val (.long k1), .second, .val (.int l0), .val (.int l1), .val (.int (1 : Int32))] [])) _
    refine XS.iload X0.here hx rfl (hb hby at_514) rfl ?_
    show Steps p.tables e below (T0.setTop (mkF m 516 #[.val (.int p1), .val (.int p2), .val (.int p3), .val (.int p4), .val (.int c0), .val (.int c1), .val (.int c2), .val (.int nn), .val (.int jj), .val (.ref dom), .val (.ref non), .val (.int mm), .val (.int r1), .val (.int r2), .val (.int r3), .val (.long k0), .second, .val (.long k1), .second, .val (.int l0), .val (.int l1), .val (.int (1 : Int32))] [(.int (1 : Int32))])) _
    exact retN X0 hx (t := .boolean) hret (by simp) (hb hby at_516) hr
  · exact ⟨rfl, N0⟩
def PresX (Z : State) (lo : Nat) (h h' : Heap) : Prop := Pres lo h h' ∧ ∀ (a : Addr) (C : String), Exa Z h a C → Exa Z h' a C
theorem PresX.refl {Z : State} (lo : Nat) (h : Heap) : PresX Z lo h h := ⟨Pres.refl lo h, fun _ _ q => q⟩
theorem PresX.trans {Z : State} {lo : Nat} {h1 h2 h3 : Heap} (A : PresX Z lo h1 h2) (B : PresX Z lo h2 h3) : PresX Z lo h1 h3 := ⟨A.1.trans B.1, fun a C q => B.2 a C (A.2 a C q)⟩
theorem PresX.of_keep {Z : State} {h h' : Heap} {lo : Nat} {ws : List Addr} (K : Keep h h' ws) (q : ∀ x ∈ ws, lo ≤ x) : PresX Z lo h h' := ⟨Pres.of_keep K q, fun _ _ F => F.keep K⟩
def Dm (Z : State) (h : Heap) (d : Nat) (lo N K : Nat) (M : Nat → Nat → Value) (lf : Nat → Int32) (lm : Nat → Int64) (tr : Nat → Int32) (ts : Nat) : Prop :=
  ∃ (R Lf Lm Tr : Nat) (X : Nat → Nat) (kR : ClassId) (kX : Nat → ClassId) (kL kJ kT : ClassId),
    (lo ≤ d ∧ d < R ∧ R < Lf ∧ Lf < Lm ∧ Lm < Tr ∧ (∀ i, i < N → Lm < X i ∧ X i < Tr) ∧ (∀ i j, i < j → j < N → X i < X j)) ∧ (∀ i, i < N → OvrA Z (kX i) .int "[I") ∧
    Exa Z h d "com/example/caprice/caprice/solver/Domains" ∧ Fld Z h d "com/example/caprice/caprice/solver/Domains" "reasons" "[[[I" (.ref R) ∧ Fld Z h d "com/example/caprice/caprice/solver/Domains" "left" "[I" (.ref Lf) ∧ Fld Z h d "com/example/caprice/caprice/solver/Domains" "leftMasks" "[J" (.ref Lm) ∧ Fld Z h d "com/example/caprice/caprice/solver/Domains" "trail" "[I" (.ref Tr) ∧ Fld Z h d "com/example/caprice/caprice/solver/Domains" "trailSize" "I" (.int (Int32.ofNat ts)) ∧
    Ars Z h R kR (.array (.array .int)) N (fun i => .ref (X i)) ∧ (∀ i, i < N → Ars Z h (X i) (kX i) (.array .int) K (M i)) ∧ Ars Z h Lf kL .int N (fun i => .int (lf i)) ∧ Ars Z h Lm kJ .long N (fun i => .long (lm i)) ∧ Ars Z h Tr kT .int (2 * (N * K)) (fun i => .int (tr i))
theorem own_nlt {a b : Nat} (h : a < b ∨ b < a) : a ≠ b := h.elim Nat.ne_of_lt Nat.ne_of_gt
def rM (M : Nat → Nat → Value) (d v : Nat) (b : Value) : Nat → Nat → Value := own_upd M d (own_upd (M d) v b)
theorem own_updI (f : Nat → Int32) (j : Nat) (v : Int32) (i : Nat) : own_upd (fun i => Value.int (f i)) j (.int v) i = .int (own_upd f j v i) := by unfold own_upd; split <;> rfl
theorem own_updJ (f : Nat → Int64) (j : Nat) (v : Int64) (i : Nat) : own_upd (fun i => Value.long (f i)) j (.long v) i = .long (own_upd f j v i) := by unfold own_upd; split <;> rfl
theorem own_ordX {N : Nat} {X : Nat → Nat} (h : ∀ i j, i < j → j < N → X i < X j) {i j : Nat} (hi : i < N) (hj : j < N) (q : i ≠ j) : X i ≠ X j := by
  rcases Nat.lt_or_gt_of_ne q with r | r
  · exact Nat.ne_of_lt (h i j r hj)
  · exact Nat.ne_of_gt (h j i r hi)
def QDm (r : Option Value) (Z : State) (d : Nat) (lo N K : Nat) (M : Nat → Nat → Value) (lf : Nat → Int32) (lm : Nat → Int64) (tr : Nat → Int32) (ts : Nat) (h0 : Heap) (n0 : Nat) (v : Option Value) (h : Heap) (L : List Loc) : Prop := v = r ∧ Fr n0 L ∧ PresX Z lo h0 h ∧ Old Z n0 h ∧ Dm Z h d lo N K M lf lm tr ts
set_option maxRecDepth 65536 in
set_option maxHeartbeats 4000000 in
theorem rmRemove (l : Launch) (Z : State) (a0 : Array Value) (hw : ∀ d ∈ tables_1, d.before a0 Z = true) (d : Nat) (dI vI : Int32) (y : Addr) (lo N K : Nat) (M : Nat → Nat → Value) (lf : Nat → Int32) (lm : Nat → Int64) (tr : Nat → Int32) (ts : Nat) (h0 : Heap) (n0 : Nat) (O0 : Old Z n0 h0) (hlo : n0 ≤ lo) (D : Dm Z h0 d lo N K M lf lm tr ts)
    (hd : ¬ (dI < 0 ∨ N ≤ dI.toNatClampNeg)) (hv : ¬ (vI < 0 ∨ K ≤ vI.toNatClampNeg)) (ht : ts + 1 < 2 * (N * K)) (Ey : Exa Z h0 y "[I") :
    MetFree l (⟨"com/example/caprice/caprice/solver/Domains", "remove", "(II[I)V"⟩ : MethodName) (head1 [Jvm.Cond.code (⟨"com/example/caprice/caprice/solver/Domains", "remove", "(II[I)V"⟩ : MethodName) prog_59_method_10_code 4 none] ({ frames := 0, cells := 0, slots := 0, locals := 0 } : Room)) (fun a U => a = #[(.ref d), (.int dI), (.int vI), (.ref y)] ∧ Z.Warmed39 U.vm ∧ U.heap = h0) (fun _ _ _ _ _ => True) (fun _ U o U' => ∃ v L, o = .returned v ∧ QDm none Z d lo N K (rM M dI.toNatClampNeg vI.toNatClampNeg (.ref y)) (own_upd lf dI.toNatClampNeg (lf dI.toNatClampNeg - 1)) (own_upd lm dI.toNatClampNeg (lm dI.toNatClampNeg &&& (((1 : Int64) <<< (vI &&& 0x3f).toInt64) ^^^ (-1 : Int64)))) (own_upd (own_upd tr ts dI) (ts + 1) vI) (ts + 2) h0 n0 v U'.heap L ∧ FrameEnd U o U' L ({ frames := 0, cells := 0, slots := 0, locals := 0 } : Room).cells ({ frames := 0, cells := 0, slots := 0, locals := 0 } : Room).slots) := by
  obtain ⟨R, Lf, Lm, Tr, X, kR, kX, kL, kJ, kT, ⟨o1, o2, o3, o4, o5, o6, o7⟩, OX, E, F1, F2, F3, F4, F5, AR, AX, AL, AJ, AT⟩ := D
  have hdN : dI.toNatClampNeg < N := Nat.lt_of_not_le fun q => hd (Or.inr q)
  obtain ⟨x1, x2⟩ := o6 _ hdN
  have h31 : 2 * (N * K) < 2 ^ 31 := by obtain ⟨_, _, _, _, q, _⟩ := AT; exact q
  have c0 : (Int32.ofNat ts).toNatClampNeg = ts := clamp_of rfl (by omega)
  have c1 : (Int32.ofNat ts + 1).toNatClampNeg = ts + 1 := clamp_of (inc_ofNat ts).symm (by omega)
  refine (rm6_2 l Z a0 hw [] d dI vI y R Lf Lm Tr (Int32.ofNat ts) kR N (fun i => .ref (X i)) (X dI.toNatClampNeg) (kX dI.toNatClampNeg) K (M dI.toNatClampNeg) kL (fun i => .int (lf i)) kJ (fun i => .long (lm i)) kT (2 * (N * K)) (fun i => .int (tr i)) (lf dI.toNatClampNeg) (lm dI.toNatClampNeg) h0 n0 (own_n0 O0) O0 (OX _ hdN) E F1 F2 F3 F4 F5 AR (AX _ hdN) AL AJ AT Ey (own_nlt (by omega)) (own_nlt (by omega)) (own_nlt (by omega)) (own_nlt (by omega)) (own_nlt (by omega)) (own_nlt (by omega)) (own_nlt (by omega)) (own_nlt (by omega)) (own_nlt (by omega)) (own_nlt (by omega)) (by omega) (by omega) (by omega) (by omega) (by omega) hd rfl hv rfl rfl (within rfl (by omega) h31) (within (inc_ofNat ts).symm (by omega) h31)).imp ?_
  rintro a U o U' ⟨v, L, rfl, ⟨rfl, N1, K1, O1, A1, A2, A3, A4, E', F1', F2', F3', F4', F5', -⟩, hF⟩
  rw [c0, c1] at A4
  have n1 : R ∉ [X dI.toNatClampNeg, Lf, Lm, Tr, d] := ninS (own_nlt (by omega)) (ninS (own_nlt (by omega)) (ninS (own_nlt (by omega)) (ninS (own_nlt (by omega)) (ninS (own_nlt (by omega)) nin0))))
  refine ⟨_, L, rfl, ⟨rfl, N1, PresX.of_keep K1 (allS (show lo ≤ X dI.toNatClampNeg by omega) (allS (show lo ≤ Lf by omega) (allS (show lo ≤ Lm by omega) (allS (show lo ≤ Tr by omega) (allS o1 all0))))), O1, R, Lf, Lm, Tr, X, kR, kX, kL, kJ, kT, ⟨o1, o2, o3, o4, o5, o6, o7⟩, OX, E', F1', F2', F3', F4', ?_, AR.keep K1 n1, fun i hi => ?_, A2.congr fun i _ => own_updI _ _ _ _, A3.congr fun i _ => own_updJ _ _ _ _, A4.congr fun i _ => ?_⟩, hF⟩
  · rw [inc2_ofNat]; exact F5'
  · by_cases q : i = dI.toNatClampNeg
    · subst q; unfold rM; rw [own_upd_hit]; exact A1
    · unfold rM; rw [own_upd_miss _ _ q]
      obtain ⟨y1, y2⟩ := o6 _ hi
      have q2 := own_ordX o7 hi hdN q
      exact (AX i hi).keep K1 (ninS q2 (ninS (own_nlt (by omega)) (ninS (own_nlt (by omega)) (ninS (own_nlt (by omega)) (ninS (own_nlt (by omega)) nin0)))))
  · rw [show own_upd (fun i => Value.int (tr i)) ts (.int dI) = fun i => Value.int (own_upd tr ts dI i) from funext fun i => own_updI _ _ _ _]
    exact own_updI _ _ _ _
def clrM (tr : Nat → Int32) (m : Nat) : Nat → (Nat → Nat → Value) → Nat → Nat → Value
  | 0, M => M
  | k + 1, M => clrM tr m k (rM M (tr (m + 2 * k)).toNatClampNeg (tr (m + 2 * k + 1)).toNatClampNeg .null)
def clrF (tr : Nat → Int32) (m : Nat) : Nat → (Nat → Int32) → Nat → Int32
  | 0, f => f
  | k + 1, f => clrF tr m k (own_upd f (tr (m + 2 * k)).toNatClampNeg (f (tr (m + 2 * k)).toNatClampNeg + 1))
def clrJ (tr : Nat → Int32) (m : Nat) : Nat → (Nat → Int64) → Nat → Int64
  | 0, f => f
  | k + 1, f => clrJ tr m k (own_upd f (tr (m + 2 * k)).toNatClampNeg (f (tr (m + 2 * k)).toNatClampNeg ||| ((1 : Int64) <<< (tr (m + 2 * k + 1) &&& 0x3f).toInt64)))
theorem own_dec2 (c : Nat) : Int32.ofNat (c + 2) - 2 = Int32.ofNat c := by rw [inc2_ofNat]; exact Int32.add_sub_cancel _ _
theorem own_ltN {a b : Nat} (h : a < b) (hb : b < 2 ^ 31) : Int32.ofNat a < Int32.ofNat b := by
  rw [Int32.lt_iff_toInt_lt, toInt_of rfl (by omega), toInt_of rfl hb]; omega
set_option maxRecDepth 65536 in
set_option maxHeartbeats 4000000 in
theorem rstLoop {p : Program} {l : Launch} {e : Env} {s : State} {m : MethodId} {args : Array Value} {below : List Frame} {meth : Method} {c : Code} {Z : State} {a0 : Array Value} {n0 : Nat} (hx : p.tables.exec = Jvm.exec) (hZ : Z.Warmed39 s.vm) (hw : ∀ d ∈ tables_1, d.before a0 Z = true) (hby : c.code = prog_59_method_9_code) (hml : c.maxLocals = 4) (hown : s.vm.findClass "com/example/caprice/caprice/solver/Domains" = some m.cls) (hret : meth.sig.returnType = none) (hlk : meth.locks = false)
    (d lo N K mN : Nat) (tr : Nat → Int32) (hlo : n0 ≤ lo) (hS : Heap) {entry : State} : ∀ (k : Nat) (M : Nat → Nat → Value) (lf : Nat → Int32) (lm : Nat → Int64) (T0 : State) (locs : List Loc) (h0 : Heap) (z2 z3 : Slot),
    Stand p l e ({ frames := 0, cells := 0, slots := 0, locals := 0 } : Room) s m args below meth c T0 locs 0 0 → T0.heap = h0 → Fr n0 locs → Old Z n0 h0 → PresX Z lo hS h0 → Dm Z h0 d lo N K M lf lm tr (mN + 2 * k) →
    (∀ i, i < k → ¬ (tr (mN + 2 * i) < 0 ∨ N ≤ (tr (mN + 2 * i)).toNatClampNeg) ∧ ¬ (tr (mN + 2 * i + 1) < 0 ∨ K ≤ (tr (mN + 2 * i + 1)).toNatClampNeg)) → mN + 2 * k ≤ 2 * (N * K) → One z2 → One z3 →
    (∀ t, Steps p.tables e below (T0.setTop (mkF m 0 #[.val (.ref d), .val (.int (Int32.ofNat mN)), z2, z3] [])) t → Steps p.tables e below entry t) →
    ∃ s₂ o, Steps p.tables e below entry s₂ ∧ s₂.status = .running ∧ Ended s₂ below o ∧ ∃ v L, o = .returned v ∧ QDm none Z d lo N K (clrM tr mN k M) (clrF tr mN k lf) (clrJ tr mN k lm) tr mN hS n0 v s₂.heap L ∧ FrameEnd s o s₂ L ({ frames := 0, cells := 0, slots := 0, locals := 0 } : Room).cells ({ frames := 0, cells := 0, slots := 0, locals := 0 } : Room).slots := by
  intro k
  induction k with
  | zero =>
    intro M lf lm T0 locs h0 z2 z3 X0 e0 N0 O0 P0 D _ _ h2 h3 pre
    obtain ⟨R, Lf, Lm, Tr, X, kR, kX, kL, kJ, kT, ord, OX, E, F1, F2, F3, F4, F5, r⟩ := id D
    obtain ⟨s₂, o, c1, c2, c3, v, L, c4, ⟨c5, c6, c7⟩, c8⟩ := rstExit d (Int32.ofNat mN) z2 z3 _ X0 hx hZ hw hby hml hown e0 N0 O0 E F5 (by rw [Int32.lt_iff_toInt_lt]; exact Int.lt_irrefl _) hret hlk pre
    refine ⟨s₂, o, c1, c2, c3, v, L, c4, ⟨c5, c6, ?_, ?_, ?_⟩, c8⟩
    · rw [c7]; exact P0
    · rw [c7]; exact O0
    · rw [c7]; exact D
  | succ k ih =>
    intro M lf lm T0 locs h0 z2 z3 X0 e0 N0 O0 P0 D hb hle h2 h3 pre
    obtain ⟨R, Lf, Lm, Tr, X, kR, kX, kL, kJ, kT, ⟨o1, o2, o3, o4, o5, o6, o7⟩, OX, E, F1, F2, F3, F4, F5, AR, AX, AL, AJ, AT⟩ := D
    obtain ⟨hd, hv⟩ := hb k (Nat.lt_succ_self k)
    generalize hdI : tr (mN + 2 * k) = dI at hd
    generalize hvI : tr (mN + 2 * k + 1) = vI at hv
    have hdN : dI.toNatClampNeg < N := Nat.lt_of_not_le fun q => hd (Or.inr q)
    obtain ⟨x1, x2⟩ := o6 _ hdN
    have h31 : 2 * (N * K) < 2 ^ 31 := by obtain ⟨_, _, _, _, q, _⟩ := AT; exact q
    have d2 : Int32.ofNat (mN + 2 * (k + 1)) - 2 = Int32.ofNat (mN + 2 * k) := own_dec2 (mN + 2 * k)
    have c0 : (Int32.ofNat (mN + 2 * k)).toNatClampNeg = mN + 2 * k := clamp_of rfl (by omega)
    have c1 : (Int32.ofNat (mN + 2 * k) + 1).toNatClampNeg = mN + 2 * k + 1 := clamp_of (inc_ofNat _).symm (by omega)
    obtain ⟨T1, L1, X1, N1, K1, O1, E', F1', F2', F3', F4', F5', A1, A2, A3, -, c9⟩ := rstTurn d (Int32.ofNat mN) z2 z3 R Lf Lm Tr (Int32.ofNat (mN + 2 * (k + 1))) kR N (fun i => .ref (X i)) (X dI.toNatClampNeg) (kX dI.toNatClampNeg) K (M dI.toNatClampNeg) kL (fun i => .int (lf i)) kJ (fun i => .long (lm i)) kT (2 * (N * K)) (fun i => .int (tr i)) dI vI (lf dI.toNatClampNeg) (lm dI.toNatClampNeg) X0 hx hZ hw hby hml hown e0 N0 O0 E F1 F2 F3 F4 F5 AR (AX _ hdN) AL AJ AT (own_nlt (by omega)) (own_nlt (by omega)) (own_nlt (by omega)) (own_nlt (by omega)) (own_nlt (by omega)) (own_nlt (by omega)) (own_nlt (by omega)) (own_nlt (by omega)) (by omega) (by omega) (by omega) (by omega)
      (by rw [d2]; exact within rfl (by omega) h31) (by rw [d2, c0, hdI]) h2 (by rw [d2]; exact within (inc_ofNat _).symm (by omega) h31) (by rw [d2, c1, hvI]) h3 hd rfl hv rfl rfl (own_ltN (by omega) (by omega))
    rw [d2] at F5'
    have n1 : R ∉ [d, X dI.toNatClampNeg, Lf, Lm] := ninS (own_nlt (by omega)) (ninS (own_nlt (by omega)) (ninS (own_nlt (by omega)) (ninS (own_nlt (by omega)) nin0)))
    have n2 : Tr ∉ [d, X dI.toNatClampNeg, Lf, Lm] := ninS (own_nlt (by omega)) (ninS (own_nlt (by omega)) (ninS (own_nlt (by omega)) (ninS (own_nlt (by omega)) nin0)))
    have D1 : Dm Z T1.heap d lo N K (rM M dI.toNatClampNeg vI.toNatClampNeg .null) (own_upd lf dI.toNatClampNeg (lf dI.toNatClampNeg + 1)) (own_upd lm dI.toNatClampNeg (lm dI.toNatClampNeg ||| ((1 : Int64) <<< (vI &&& 0x3f).toInt64))) tr (mN + 2 * k) := by
      refine ⟨R, Lf, Lm, Tr, X, kR, kX, kL, kJ, kT, ⟨o1, o2, o3, o4, o5, o6, o7⟩, OX, E', F1', F2', F3', F4', F5', AR.keep K1 n1, fun i hi => ?_, A2.congr fun i _ => own_updI _ _ _ _, A3.congr fun i _ => own_updJ _ _ _ _, AT.keep K1 n2⟩
      by_cases q : i = dI.toNatClampNeg
      · subst q; unfold rM; rw [own_upd_hit]; exact A1
      · unfold rM; rw [own_upd_miss _ _ q]
        obtain ⟨y1, y2⟩ := o6 _ hi
        have q2 := own_ordX o7 hi hdN q
        exact (AX i hi).keep K1 (ninS (own_nlt (by omega)) (ninS q2 (ninS (own_nlt (by omega)) (ninS (own_nlt (by omega)) nin0))))
    have P1 : PresX Z lo h0 T1.heap := PresX.of_keep K1 (allS o1 (allS (show lo ≤ X dI.toNatClampNeg by omega) (allS (show lo ≤ Lf by omega) (allS (show lo ≤ Lm by omega) all0))))
    have q := ih _ _ _ T1 L1 _ (.val (.int dI)) (.val (.int vI)) X1 rfl N1 O1 (P0.trans P1) D1 (fun i hi => hb i (by omega)) (by omega) (One.val rfl) (One.val rfl) (fun t kt => pre t (c9 t kt))
    subst hdI hvI
    exact q
set_option maxRecDepth 65536 in
set_option maxHeartbeats 4000000 in
theorem rmRestore (l : Launch) (Z : State) (a0 : Array Value) (hw : ∀ d ∈ tables_1, d.before a0 Z = true) (d mN k lo N K : Nat) (M : Nat → Nat → Value) (lf : Nat → Int32) (lm : Nat → Int64) (tr : Nat → Int32) (h0 : Heap) (n0 : Nat) (O0 : Old Z n0 h0) (hlo : n0 ≤ lo) (D : Dm Z h0 d lo N K M lf lm tr (mN + 2 * k))
    (hb : ∀ i, i < k → ¬ (tr (mN + 2 * i) < 0 ∨ N ≤ (tr (mN + 2 * i)).toNatClampNeg) ∧ ¬ (tr (mN + 2 * i + 1) < 0 ∨ K ≤ (tr (mN + 2 * i + 1)).toNatClampNeg)) (hle : mN + 2 * k ≤ 2 * (N * K)) :
    MetFree l (⟨"com/example/caprice/caprice/solver/Domains", "restore", "(I)V"⟩ : MethodName) (head1 [Jvm.Cond.code (⟨"com/example/caprice/caprice/solver/Domains", "restore", "(I)V"⟩ : MethodName) prog_59_method_9_code 4 none] ({ frames := 0, cells := 0, slots := 0, locals := 0 } : Room)) (fun a U => a = #[(.ref d), (.int (Int32.ofNat mN))] ∧ Z.Warmed39 U.vm ∧ U.heap = h0) (fun _ _ _ _ _ => True) (fun _ U o U' => ∃ v L, o = .returned v ∧ QDm none Z d lo N K (clrM tr mN k M) (clrF tr mN k lf) (clrJ tr mN k lm) tr mN h0 n0 v U'.heap L ∧ FrameEnd U o U' L ({ frames := 0, cells := 0, slots := 0, locals := 0 } : Room).cells ({ frames := 0, cells := 0, slots := 0, locals := 0 } : Room).slots) := by
  refine MetFree.of_bodySF (plainFor_of_name pn69) hisR ?_
  intro p e s m args below meth c s₁ Bd hml0 hP hK
  obtain ⟨rfl, hZ, hh⟩ := hP
  have hml : c.maxLocals = 4 := hml0
  have X0 : Stand p l e ({ frames := 0, cells := 0, slots := 0, locals := 0 } : Room) s m #[(.ref d), (.int (Int32.ofNat mN))] below meth c s₁ [] 0 0 := Stand.of_body Bd
  have e0 : s₁.heap = h0 := by rw [← hh, Bd.state]; rfl
  have ef : entryFrame m #[(.ref d), (.int (Int32.ofNat mN))] 4 = mkF m 0 #[.val (.ref d), .val (.int (Int32.ofNat mN)), .unset, .unset] [] := by first | (simp [entryFrame, mkF, argsToLocals, Value.category]; done) | rfl
  exact rstLoop Bd.exec hZ hw Bd.bytes hml (findClass_of_methodNamed Bd.named) Bd.returns (BodyLoose.notSynchronized Bd) d lo N K mN tr hlo h0 k M lf lm s₁ [] h0 .unset .unset X0 e0 (Fr.nil n0) O0 (PresX.refl _ _) D hb hle One.u One.u (fun t k => castTop ef k)
abbrev dp (c : Int32) : Int32 := ((c.toUInt32 >>> ((6 : Int32) &&& 31).toUInt32).toInt32)
abbrev vl (c : Int32) : Int32 := (c &&& (63 : Int32))
abbrev dN (c : Int32) : Nat := (dp c).toNatClampNeg
abbrev vN (c : Int32) : Nat := (vl c).toNatClampNeg
abbrev BB (c : Int32) : Int64 := ((1 : Int64) <<< (vl c &&& 0x3f).toInt64)
def Cel (c : Int32) : Prop := ∃ k : Fin 128, c = Int32.ofNat k.val
theorem cel_all : ∀ k : Fin 128, (dp (Int32.ofNat k.val) = 0 ∨ dp (Int32.ofNat k.val) = 1) ∧ ¬ (dp (Int32.ofNat k.val) < 0 ∨ 2 ≤ dN (Int32.ofNat k.val)) ∧ ¬ (vl (Int32.ofNat k.val) < 0 ∨ 64 ≤ vN (Int32.ofNat k.val)) ∧ 64 * dN (Int32.ofNat k.val) + vN (Int32.ofNat k.val) = k.val := by decide +kernel
theorem cel_bb : ∀ k : Fin 128, BB (Int32.ofNat k.val) = BB (Int32.ofNat (k.val % 64)) := by decide +kernel
theorem cel_dis : ∀ i j : Fin 64, i ≠ j → BB (Int32.ofNat i.val) &&& BB (Int32.ofNat j.val) = 0 := by decide +kernel
theorem Cel.d {c : Int32} (h : Cel c) : dp c = 0 ∨ dp c = 1 := by obtain ⟨k, rfl⟩ := h; exact (cel_all k).1
theorem Cel.rd {c : Int32} (h : Cel c) : ¬ (dp c < 0 ∨ 2 ≤ (dp c).toNatClampNeg) := by obtain ⟨k, rfl⟩ := h; exact (cel_all k).2.1
theorem Cel.rv {c : Int32} (h : Cel c) : ¬ (vl c < 0 ∨ 64 ≤ (vl c).toNatClampNeg) := by obtain ⟨k, rfl⟩ := h; exact (cel_all k).2.2.1
theorem Cel.inj {a b : Int32} (h : Cel a) (h' : Cel b) (q : dN a = dN b) (q2 : vN a = vN b) : a = b := by
  obtain ⟨k, rfl⟩ := h; obtain ⟨k', rfl⟩ := h'
  have e1 := (cel_all k).2.2.2
  have e2 := (cel_all k').2.2.2
  rw [q, q2] at e1
  rw [e1.symm.trans e2]
theorem Cel.dis {a b : Int32} (h : Cel a) (h' : Cel b) (q2 : vN a ≠ vN b) : BB a &&& BB b = 0 := by
  obtain ⟨k, rfl⟩ := h; obtain ⟨k', rfl⟩ := h'
  have e1 := (cel_all k).2.2.2
  have e2 := (cel_all k').2.2.2
  have l1 := (cel_all k).2.2.1
  have l2 := (cel_all k').2.2.1
  have g1 : vN (Int32.ofNat k.val) < 64 := Nat.lt_of_not_le fun z => l1 (Or.inr z)
  have g2 : vN (Int32.ofNat k'.val) < 64 := Nat.lt_of_not_le fun z => l2 (Or.inr z)
  rw [cel_bb k, cel_bb k']
  refine cel_dis ⟨k.val % 64, Nat.mod_lt _ (by decide)⟩ ⟨k'.val % 64, Nat.mod_lt _ (by decide)⟩ fun z => q2 ?_
  have z' : k.val % 64 = k'.val % 64 := congrArg Fin.val z
  omega
theorem own_j64 {a b : Int64} (h : a.toBitVec = b.toBitVec) : a = b := Int64.toBitVec_inj.mp h
theorem own_geq {x y : BitVec 64} (h : x = y) (i : Nat) (hi : i < 64) : x[i] = y[i] := by subst h; rfl
theorem own_ones : ∀ (i : Nat) (hi : i < 64), ((-1 : Int64).toBitVec)[i] = true := by
  intro i hi
  have e : (-1 : Int64).toBitVec = BitVec.allOnes 64 := by decide
  exact (own_geq e i hi).trans (BitVec.getElem_allOnes i hi)
theorem own_dm (a b : Int64) : (a ^^^ (-1 : Int64)) &&& (b ^^^ (-1 : Int64)) = (a ||| b) ^^^ (-1 : Int64) := by
  apply own_j64
  rw [Int64.toBitVec_and, Int64.toBitVec_xor, Int64.toBitVec_xor, Int64.toBitVec_xor, Int64.toBitVec_or]
  have ho := own_ones
  generalize (-1 : Int64).toBitVec = o at ho ⊢
  ext i hi
  simp only [BitVec.getElem_and, BitVec.getElem_or, BitVec.getElem_xor, ho]
  cases a.toBitVec[i] <;> cases b.toBitVec[i] <;> rfl
theorem own_m1 (b : Int64) : (-1 : Int64) &&& b = b := by
  apply own_j64
  rw [Int64.toBitVec_and]
  have ho := own_ones
  generalize (-1 : Int64).toBitVec = o at ho ⊢
  ext i hi
  simp only [BitVec.getElem_and, ho]
  cases b.toBitVec[i] <;> rfl
theorem own_0x (x : Int64) : x &&& ((0 : Int64) ^^^ (-1 : Int64)) = x := by
  rw [show ((0 : Int64) ^^^ (-1 : Int64)) = (-1 : Int64) from by decide]
  apply own_j64
  rw [Int64.toBitVec_and]
  have ho := own_ones
  generalize (-1 : Int64).toBitVec = o at ho ⊢
  ext i hi
  simp only [BitVec.getElem_and, ho]
  cases x.toBitVec[i] <;> rfl
theorem own_or0 (x : Int64) : x ||| (0 : Int64) = x := by
  apply own_j64; rw [Int64.toBitVec_or, show (0 : Int64).toBitVec = 0#64 from by decide]; simp
theorem own_putback {x b : Int64} (h : x &&& b = b) : (x &&& (b ^^^ (-1 : Int64))) ||| b = x := by
  have h' := congrArg Int64.toBitVec h
  rw [Int64.toBitVec_and] at h'
  apply own_j64
  rw [Int64.toBitVec_or, Int64.toBitVec_and, Int64.toBitVec_xor]
  have ho := own_ones
  generalize (-1 : Int64).toBitVec = o at ho ⊢
  ext i hi
  have h2 : (x.toBitVec &&& b.toBitVec)[i] = b.toBitVec[i] := own_geq h' i hi
  simp only [BitVec.getElem_and, BitVec.getElem_or, BitVec.getElem_xor, ho] at h2 ⊢
  revert h2
  cases x.toBitVec[i] <;> cases b.toBitVec[i] <;> decide
theorem own_keepbit {x a b : Int64} (h : x &&& b = b) (d : a &&& b = 0) : (x &&& (a ^^^ (-1 : Int64))) &&& b = b := by
  have h' := congrArg Int64.toBitVec h
  have d' := congrArg Int64.toBitVec d
  rw [Int64.toBitVec_and] at h' d'
  rw [show (0 : Int64).toBitVec = 0#64 from by decide] at d'
  apply own_j64
  rw [Int64.toBitVec_and, Int64.toBitVec_and, Int64.toBitVec_xor]
  have ho := own_ones
  generalize (-1 : Int64).toBitVec = o at ho ⊢
  ext i hi
  have h2 : (x.toBitVec &&& b.toBitVec)[i] = b.toBitVec[i] := own_geq h' i hi
  have d2 : (a.toBitVec &&& b.toBitVec)[i] = (0#64)[i] := own_geq d' i hi
  simp only [BitVec.getElem_and, BitVec.getElem_xor, BitVec.getElem_zero, ho] at h2 d2 ⊢
  revert h2 d2
  cases x.toBitVec[i] <;> cases b.toBitVec[i] <;> cases a.toBitVec[i] <;> decide
def fF (f : Nat → Int32) (c : Int32) : Nat → Int32 := own_upd f (dN c) (f (dN c) - 1)
def fJ (f : Nat → Int64) (c : Int32) : Nat → Int64 := own_upd f (dN c) (f (dN c) &&& (BB c ^^^ (-1 : Int64)))
def fM (y : Nat) (M : Nat → Nat → Value) (c : Int32) : Nat → Nat → Value := rM M (dN c) (vN c) (.ref y)
def LF (cs : List Int32) : Nat → Int32 := cs.foldl fF (fun _ => 64)
def LJ (cs : List Int32) : Nat → Int64 := cs.foldl fJ (fun _ => -1)
def LM (y : Nat) (cs : List Int32) : Nat → Nat → Value := cs.foldl (fM y) (fun _ _ => .null)
theorem LF_add (cs : List Int32) (c : Int32) : LF (cs ++ [c]) = fF (LF cs) c := by unfold LF; rw [List.foldl_append]; rfl
theorem LJ_add (cs : List Int32) (c : Int32) : LJ (cs ++ [c]) = fJ (LJ cs) c := by unfold LJ; rw [List.foldl_append]; rfl
theorem LM_add (y : Nat) (cs : List Int32) (c : Int32) : LM y (cs ++ [c]) = fM y (LM y cs) c := by unfold LM; rw [List.foldl_append]; rfl
def TrOK (tr : Nat → Int32) (cs : List Int32) : Prop := ∀ i c, cs[i]? = some c → tr (2 * i) = dp c ∧ tr (2 * i + 1) = vl c
theorem TrOK.nil (tr : Nat → Int32) : TrOK tr [] := fun i c h => by simp at h
theorem TrOK.add {tr : Nat → Int32} {cs : List Int32} (H : TrOK tr cs) (c : Int32) : TrOK (own_upd (own_upd tr (2 * cs.length) (dp c)) (2 * cs.length + 1) (vl c)) (cs ++ [c]) := by
  intro i c' h
  rcases Nat.lt_or_ge i cs.length with q | q
  · rw [List.getElem?_append_left q] at h
    obtain ⟨a, b⟩ := H i c' h
    rw [own_upd_miss _ _ (by omega), own_upd_miss _ _ (by omega), own_upd_miss _ _ (by omega), own_upd_miss _ _ (by omega)]
    exact ⟨a, b⟩
  · rw [List.getElem?_append_right q] at h
    rcases Nat.eq_zero_or_pos (i - cs.length) with z | z
    · rw [z] at h
      simp at h
      subst h
      obtain rfl : i = cs.length := by omega
      refine ⟨?_, ?_⟩
      · rw [own_upd_miss _ _ (by omega), own_upd_hit]
      · rw [own_upd_hit]
    · rw [List.getElem?_eq_none (by simp; omega)] at h
      cases h
theorem LJ_keep {c : Int32} (hc : Cel c) : ∀ (cs : List Int32) (f : Nat → Int64), (∀ x ∈ cs, Cel x ∧ x ≠ c) → f (dN c) &&& BB c = BB c → (cs.foldl fJ f) (dN c) &&& BB c = BB c := by
  intro cs
  induction cs with
  | nil => intro f _ h; exact h
  | cons a cs ih =>
    intro f H h
    refine ih (fJ f a) (fun x hx => H x (List.mem_cons_of_mem _ hx)) ?_
    obtain ⟨ha, hne⟩ := H a List.mem_cons_self
    unfold fJ
    by_cases q : dN c = dN a
    · rw [q, own_upd_hit]
      rw [q] at h
      exact own_keepbit h (ha.dis hc (fun z => hne (ha.inj hc q.symm z)))
    · rw [own_upd_miss _ _ q]; exact h
theorem LM_keep {y : Nat} {v : Value} {c : Int32} (hc : Cel c) : ∀ (cs : List Int32) (M : Nat → Nat → Value), (∀ x ∈ cs, Cel x ∧ x ≠ c) → M (dN c) (vN c) = v → (cs.foldl (fM y) M) (dN c) (vN c) = v := by
  intro cs
  induction cs with
  | nil => intro f _ h; exact h
  | cons a cs ih =>
    intro M H h
    refine ih (fM y M a) (fun x hx => H x (List.mem_cons_of_mem _ hx)) ?_
    obtain ⟨ha, hne⟩ := H a List.mem_cons_self
    unfold fM rM
    by_cases q : dN c = dN a
    · rw [q, own_upd_hit, own_upd_miss _ _ (fun z => hne (ha.inj hc q.symm z.symm))]
      rw [← q]; exact h
    · rw [own_upd_miss _ _ q]; exact h
theorem LJ_at {c : Int32} (hc : Cel c) {cs : List Int32} (h : ∀ x ∈ cs, Cel x ∧ x ≠ c) : LJ cs (dN c) &&& BB c = BB c := LJ_keep hc cs (fun _ => -1) h (own_m1 _)
theorem LM_at {y : Nat} {c : Int32} (hc : Cel c) {cs : List Int32} (h : ∀ x ∈ cs, Cel x ∧ x ≠ c) : LM y cs (dN c) (vN c) = .null := LM_keep (y := y) (v := .null) hc cs (fun _ _ => .null) h rfl
theorem clrF_step (tr : Nat → Int32) (m k : Nat) (f : Nat → Int32) {c : Int32} (h : tr (m + 2 * k) = dp c) : clrF tr m (k + 1) (fF f c) = clrF tr m k f := by
  have e : own_upd (fF f c) (dN c) (fF f c (dN c) + 1) = f := by
    funext i
    unfold fF
    by_cases e : i = dN c
    · rw [e, own_upd_hit, own_upd_hit]; exact Int32.sub_add_cancel _ _
    · rw [own_upd_miss _ _ e, own_upd_miss _ _ e]
  rw [clrF, h, e]
theorem clrJ_step (tr : Nat → Int32) (m k : Nat) (f : Nat → Int64) {c : Int32} (h : tr (m + 2 * k) = dp c) (h2 : tr (m + 2 * k + 1) = vl c) (hb : f (dN c) &&& BB c = BB c) : clrJ tr m (k + 1) (fJ f c) = clrJ tr m k f := by
  have e : own_upd (fJ f c) (dN c) (fJ f c (dN c) ||| BB c) = f := by
    funext i
    unfold fJ
    by_cases e : i = dN c
    · rw [e, own_upd_hit, own_upd_hit]; exact own_putback hb
    · rw [own_upd_miss _ _ e, own_upd_miss _ _ e]
  rw [clrJ, h, h2, e]
theorem clrM_step (tr : Nat → Int32) (m k y : Nat) (M : Nat → Nat → Value) {c : Int32} (h : tr (m + 2 * k) = dp c) (h2 : tr (m + 2 * k + 1) = vl c) (hb : M (dN c) (vN c) = .null) : clrM tr m (k + 1) (fM y M c) = clrM tr m k M := by
  have e : rM (fM y M c) (dN c) (vN c) .null = M := by
    funext i j
    unfold fM rM
    by_cases e : i = dN c
    · rw [e, own_upd_hit, own_upd_hit]
      by_cases e2 : j = vN c
      · rw [e2, own_upd_hit]; exact hb.symm
      · rw [own_upd_miss _ _ e2, own_upd_miss _ _ e2]
    · rw [own_upd_miss _ _ e, own_upd_miss _ _ e]
  rw [clrM, h, h2, e]
theorem own_undo (y : Nat) (tr : Nat → Int32) (pre : List Int32) : ∀ (k : Nat) (post : List Int32), post.length = k → (∀ x ∈ pre ++ post, Cel x) → (pre ++ post).Nodup → TrOK tr (pre ++ post) →
    clrF tr (2 * pre.length) k (LF (pre ++ post)) = LF pre ∧ clrJ tr (2 * pre.length) k (LJ (pre ++ post)) = LJ pre ∧ clrM tr (2 * pre.length) k (LM y (pre ++ post)) = LM y pre := by
  intro k
  induction k with
  | zero =>
    intro post h _ _ _
    obtain rfl := List.eq_nil_of_length_eq_zero h
    rw [List.append_nil]
    exact ⟨rfl, rfl, rfl⟩
  | succ k ih =>
    intro post h H nd T
    rcases List.eq_nil_or_concat post with rfl | ⟨post, c, rfl⟩
    · cases h
    · rw [List.concat_eq_append] at H nd T h ⊢
      have hk : post.length = k := by simp at h; exact h
      rw [← List.append_assoc] at H nd T ⊢
      have hT := T (pre.length + k) c (by rw [← hk, ← List.length_append]; simp)
      have hc : Cel c := H c (by simp)
      have nd2 := List.nodup_append.mp nd
      have hne : ∀ x ∈ pre ++ post, Cel x ∧ x ≠ c := fun x hx => ⟨H x (List.mem_append_left _ hx), nd2.2.2 x hx c (by simp)⟩
      have T2 : TrOK tr (pre ++ post) := fun i a hi => T i a (by rw [List.getElem?_append_left (List.getElem?_eq_some_iff.mp hi).1]; exact hi)
      have q := ih post hk (fun x hx => (hne x hx).1) nd2.1 T2
      rw [Nat.mul_add] at hT
      rw [LF_add, LJ_add, LM_add]
      rw [clrF_step _ _ _ _ hT.1, clrJ_step _ _ _ _ hT.1 hT.2 (LJ_at hc hne), clrM_step _ _ _ _ _ hT.1 hT.2 (LM_at hc hne)]
      exact q
def oneV (c d r : Int32) : Int32 := if r ≠ 0 ∧ dp c = d then 1 else 0
def bitV (c d r : Int32) : Int64 := if r ≠ 0 ∧ dp c = d then BB c else 0
def Flg (c0 c1 c2 : Int32) (pre : List Int32) (r1 r2 r3 : Int32) : Prop := (pre = [] ∧ r1 = 0 ∧ r2 = 0 ∧ r3 = 0) ∨ (pre = [c0] ∧ r1 = 1 ∧ r2 = 0 ∧ r3 = 0) ∨ (pre = [c0, c1] ∧ r1 = 1 ∧ r2 = 1 ∧ r3 = 0) ∨ (pre = [c0, c1, c2] ∧ r1 = 1 ∧ r2 = 1 ∧ r3 = 1)
theorem own_dclamp {c d : Int32} (hc : Cel c) (hd : d = 0 ∨ d = 1) : (d.toNatClampNeg = dN c) ↔ dp c = d := by
  unfold dN
  rcases hc.d with q | q <;> rcases hd with rfl | rfl <;> rw [q] <;> decide
theorem fF_at {c d : Int32} (hc : Cel c) (hd : d = 0 ∨ d = 1) (f : Nat → Int32) : fF f c d.toNatClampNeg = f d.toNatClampNeg - oneV c d 1 := by
  unfold fF own_upd oneV
  by_cases q : dp c = d
  · rw [if_pos ((own_dclamp hc hd).mpr q), if_pos ⟨by decide, q⟩, (own_dclamp hc hd).mpr q]
  · rw [if_neg (fun z => q ((own_dclamp hc hd).mp z)), if_neg (fun z => q z.2)]; exact (Int32.sub_zero _).symm
theorem fJ_at {c d : Int32} (hc : Cel c) (hd : d = 0 ∨ d = 1) (f : Nat → Int64) : fJ f c d.toNatClampNeg = f d.toNatClampNeg &&& (bitV c d 1 ^^^ (-1 : Int64)) := by
  unfold fJ own_upd bitV
  by_cases q : dp c = d
  · rw [if_pos ((own_dclamp hc hd).mpr q), if_pos ⟨by decide, q⟩, (own_dclamp hc hd).mpr q]
  · rw [if_neg (fun z => q ((own_dclamp hc hd).mp z)), if_neg (fun z => q z.2)]; exact (own_0x _).symm
theorem oneV0 (c d : Int32) : oneV c d 0 = 0 := if_neg (fun z => z.1 rfl)
theorem bitV0 (c d : Int32) : bitV c d 0 = 0 := if_neg (fun z => z.1 rfl)
theorem own_fin {c0 c1 c2 : Int32} {pre : List Int32} {r1 r2 r3 : Int32} (h0 : Cel c0) (h1 : Cel c1) (h2 : Cel c2) (F : Flg c0 c1 c2 pre r1 r2 r3) {d : Int32} (hd : d = 0 ∨ d = 1) :
    LF pre d.toNatClampNeg = (((64 : Int32) - oneV c0 d r1) - oneV c1 d r2) - oneV c2 d r3 ∧ LJ pre d.toNatClampNeg = ((bitV c0 d r1 ||| bitV c1 d r2) ||| bitV c2 d r3) ^^^ (-1 : Int64) := by
  rcases F with ⟨rfl, rfl, rfl, rfl⟩ | ⟨rfl, rfl, rfl, rfl⟩ | ⟨rfl, rfl, rfl, rfl⟩ | ⟨rfl, rfl, rfl, rfl⟩
  · rw [oneV0, oneV0, oneV0, bitV0, bitV0, bitV0]; exact ⟨by show (64 : Int32) = _; decide, by show (-1 : Int64) = _; decide⟩
  · rw [oneV0, oneV0, bitV0, bitV0, own_or0, own_or0, Int32.sub_zero, Int32.sub_zero]
    exact ⟨fF_at h0 hd (fun _ => 64), (fJ_at h0 hd (fun _ => -1)).trans (own_m1 _)⟩
  · rw [oneV0, bitV0, own_or0, Int32.sub_zero]
    refine ⟨(fF_at h1 hd (fF (fun _ => 64) c0)).trans ?_, (fJ_at h1 hd (fJ (fun _ => -1) c0)).trans ?_⟩
    · rw [fF_at h0 hd]
    · rw [fJ_at h0 hd, own_m1, own_dm]
  · refine ⟨(fF_at h2 hd (fF (fF (fun _ => 64) c0) c1)).trans ?_, (fJ_at h2 hd (fJ (fJ (fun _ => -1) c0) c1)).trans ?_⟩
    · rw [fF_at h1 hd, fF_at h0 hd]
    · rw [fJ_at h1 hd, fJ_at h0 hd, own_m1, own_dm, own_dm]
theorem own_mid {nn jj c0 c1 c2 m1 m2 m3 m4 : Int32} {s1 s2 s3 : List Int32} (hn : nn = 0 ∨ nn = 1 ∨ nn = 2 ∨ nn = 3) (hj : jj = 0 ∨ jj = 1 ∨ jj = 2 ∨ jj = 3) (hjn : ¬ (nn < jj))
    (a0 : (jj = 0 ∧ m1 = Int32.ofNat 0) ∨ (jj ≠ 0 ∧ m1 = 0)) (b0 : (nn < 1 ∧ s1 = []) ∨ (¬ nn < 1 ∧ s1 = [c0]))
    (a1 : (jj = 1 ∧ m2 = Int32.ofNat (2 * s1.length)) ∨ (jj ≠ 1 ∧ m2 = m1)) (b1 : (nn < 2 ∧ s2 = s1) ∨ (¬ nn < 2 ∧ s2 = s1 ++ [c1]))
    (a2 : (jj = 2 ∧ m3 = Int32.ofNat (2 * s2.length)) ∨ (jj ≠ 2 ∧ m3 = m2)) (b2 : (nn < 3 ∧ s3 = s2) ∨ (¬ nn < 3 ∧ s3 = s2 ++ [c2]))
    (a3 : (jj = 3 ∧ m4 = Int32.ofNat (2 * s3.length)) ∨ (jj ≠ 3 ∧ m4 = m3)) :
    ∃ pre post, s3 = pre ++ post ∧ m4 = Int32.ofNat (2 * pre.length) ∧ ((pre = [] ∧ jj = 0) ∨ (pre = [c0] ∧ jj = 1) ∨ (pre = [c0, c1] ∧ jj = 2) ∨ (pre = [c0, c1, c2] ∧ jj = 3)) ∧ (s3 = [] ∨ s3 = [c0] ∨ s3 = [c0, c1] ∨ s3 = [c0, c1, c2]) := by
  have hs1 : nn = 0 ∧ s1 = [] ∧ s2 = [] ∧ s3 = [] ∨ nn = 1 ∧ s1 = [c0] ∧ s2 = [c0] ∧ s3 = [c0] ∨ nn = 2 ∧ s1 = [c0] ∧ s2 = [c0, c1] ∧ s3 = [c0, c1] ∨ nn = 3 ∧ s1 = [c0] ∧ s2 = [c0, c1] ∧ s3 = [c0, c1, c2] := by
    rcases hn with rfl | rfl | rfl | rfl
    all_goals
      rcases b0 with ⟨h, rfl⟩ | ⟨h, rfl⟩
      all_goals try (exact absurd h (by decide))
      all_goals
        rcases b1 with ⟨h, rfl⟩ | ⟨h, rfl⟩
        all_goals try (exact absurd h (by decide))
        all_goals
          rcases b2 with ⟨h, rfl⟩ | ⟨h, rfl⟩
          all_goals try (exact absurd h (by decide))
          all_goals simp
  clear b0 b1 b2
  have hall : s3 = [] ∨ s3 = [c0] ∨ s3 = [c0, c1] ∨ s3 = [c0, c1, c2] := by
    rcases hs1 with ⟨-, -, -, h⟩ | ⟨-, -, -, h⟩ | ⟨-, -, -, h⟩ | ⟨-, -, -, h⟩
    · exact Or.inl h
    · exact Or.inr (Or.inl h)
    · exact Or.inr (Or.inr (Or.inl h))
    · exact Or.inr (Or.inr (Or.inr h))
  rcases hj with rfl | rfl | rfl | rfl
  · have hm : m4 = Int32.ofNat 0 := by
      rcases a0 with ⟨_, rfl⟩ | ⟨h, _⟩
      · rcases a1 with ⟨h, _⟩ | ⟨_, rfl⟩
        · exact absurd h (by decide)
        · rcases a2 with ⟨h, _⟩ | ⟨_, rfl⟩
          · exact absurd h (by decide)
          · rcases a3 with ⟨h, _⟩ | ⟨_, rfl⟩
            · exact absurd h (by decide)
            · rfl
      · exact absurd rfl h
    exact ⟨[], s3, rfl, hm, Or.inl ⟨rfl, rfl⟩, hall⟩
  · have hm : m4 = Int32.ofNat (2 * s1.length) := by
      rcases a1 with ⟨_, rfl⟩ | ⟨h, _⟩
      · rcases a2 with ⟨h, _⟩ | ⟨_, rfl⟩
        · exact absurd h (by decide)
        · rcases a3 with ⟨h, _⟩ | ⟨_, rfl⟩
          · exact absurd h (by decide)
          · rfl
      · exact absurd rfl h
    clear a0 a1 a2 a3
    rcases hs1 with ⟨rfl, rfl, rfl, rfl⟩ | ⟨rfl, rfl, rfl, rfl⟩ | ⟨rfl, rfl, rfl, rfl⟩ | ⟨rfl, rfl, rfl, rfl⟩
    · exact absurd (by decide) hjn
    · exact ⟨[c0], [], rfl, hm, Or.inr (Or.inl ⟨rfl, rfl⟩), hall⟩
    · exact ⟨[c0], [c1], rfl, hm, Or.inr (Or.inl ⟨rfl, rfl⟩), hall⟩
    · exact ⟨[c0], [c1, c2], rfl, hm, Or.inr (Or.inl ⟨rfl, rfl⟩), hall⟩
  · have hm : m4 = Int32.ofNat (2 * s2.length) := by
      rcases a2 with ⟨_, rfl⟩ | ⟨h, _⟩
      · rcases a3 with ⟨h, _⟩ | ⟨_, rfl⟩
        · exact absurd h (by decide)
        · rfl
      · exact absurd rfl h
    clear a0 a1 a2 a3
    rcases hs1 with ⟨rfl, rfl, rfl, rfl⟩ | ⟨rfl, rfl, rfl, rfl⟩ | ⟨rfl, rfl, rfl, rfl⟩ | ⟨rfl, rfl, rfl, rfl⟩
    · exact absurd (by decide) hjn
    · exact absurd (by decide) hjn
    · exact ⟨[c0, c1], [], rfl, hm, Or.inr (Or.inr (Or.inl ⟨rfl, rfl⟩)), hall⟩
    · exact ⟨[c0, c1], [c2], rfl, hm, Or.inr (Or.inr (Or.inl ⟨rfl, rfl⟩)), hall⟩
  · have hm : m4 = Int32.ofNat (2 * s3.length) := by
      rcases a3 with ⟨_, rfl⟩ | ⟨h, _⟩
      · rfl
      · exact absurd rfl h
    clear a0 a1 a2 a3
    rcases hs1 with ⟨rfl, rfl, rfl, rfl⟩ | ⟨rfl, rfl, rfl, rfl⟩ | ⟨rfl, rfl, rfl, rfl⟩ | ⟨rfl, rfl, rfl, rfl⟩
    · exact absurd (by decide) hjn
    · exact absurd (by decide) hjn
    · exact absurd (by decide) hjn
    · exact ⟨[c0, c1, c2], [], rfl, hm, Or.inr (Or.inr (Or.inr ⟨rfl, rfl⟩)), hall⟩
theorem cel_of {x : Int32} (h1 : 0 ≤ x.toInt) (h2 : x.toInt < 128) : Cel x := by
  refine ⟨⟨x.toInt.toNat, by omega⟩, own_inj ?_⟩
  rw [toInt_of rfl (show x.toInt.toNat < 2 ^ 31 by omega)]
  omega
theorem own_cells (p1 p2 p3 c0 c1 c2 : Int32) (e0 : c0 = (p1 &&& (127 : Int32))) (e1 : c1 = (((c0 + (1 : Int32)) + ((p2 &&& (2147483647 : Int32)) % (127 : Int32))) &&& (127 : Int32))) (e2 : c2 = (((c0 + (1 : Int32)) + ((p3 &&& (2147483647 : Int32)) % (126 : Int32))) &&& (127 : Int32))) :
    (c2 = c1 → Cel c0 ∧ Cel c1 ∧ Cel ((c0 + (127 : Int32)) &&& (127 : Int32)) ∧ c0 ≠ c1 ∧ c0 ≠ ((c0 + (127 : Int32)) &&& (127 : Int32)) ∧ c1 ≠ ((c0 + (127 : Int32)) &&& (127 : Int32))) ∧ (c2 ≠ c1 → Cel c0 ∧ Cel c1 ∧ Cel c2 ∧ c0 ≠ c1 ∧ c0 ≠ c2 ∧ c1 ≠ c2) := by
  have f0 : c0.toInt = p1.toInt % 2 ^ 7 := by rw [e0]; exact Jvm.Kit.i32_mask p1 (127 : Int32) (k := 7) (by decide) (by decide)
  have g2 := Jvm.Kit.i32_mask p2 (2147483647 : Int32) (k := 31) (by decide) (by decide)
  have g3 := Jvm.Kit.i32_mask p3 (2147483647 : Int32) (k := 31) (by decide) (by decide)
  have r2 := Jvm.Kit.i32_rem_nonneg (x := p2 &&& (2147483647 : Int32)) (y := (127 : Int32)) (by omega)
  have r3 := Jvm.Kit.i32_rem_nonneg (x := p3 &&& (2147483647 : Int32)) (y := (126 : Int32)) (by omega)
  rw [show (127 : Int32).toInt = 127 from by decide] at r2
  rw [show (126 : Int32).toInt = 126 from by decide] at r3
  generalize hy2 : (p2 &&& (2147483647 : Int32)) % (127 : Int32) = y2 at r2 e1
  generalize hy3 : (p3 &&& (2147483647 : Int32)) % (126 : Int32) = y3 at r3 e2
  have i1 : (1 : Int32).toInt = 1 := by decide
  have i127 : (127 : Int32).toInt = 127 := by decide
  have s1 : (c0 + (1 : Int32)).toInt = c0.toInt + 1 := by rw [Jvm.Kit.i32_add (by omega) (by omega), i1]
  have s2 : ((c0 + (1 : Int32)) + y2).toInt = c0.toInt + 1 + y2.toInt := by rw [Jvm.Kit.i32_add (by omega) (by omega), s1]
  have s3 : ((c0 + (1 : Int32)) + y3).toInt = c0.toInt + 1 + y3.toInt := by rw [Jvm.Kit.i32_add (by omega) (by omega), s1]
  have s4 : (c0 + (127 : Int32)).toInt = c0.toInt + 127 := by rw [Jvm.Kit.i32_add (by omega) (by omega), i127]
  have f1 : c1.toInt = (c0.toInt + 1 + y2.toInt) % 2 ^ 7 := by rw [e1, ← s2]; exact Jvm.Kit.i32_mask _ (127 : Int32) (k := 7) (by decide) (by decide)
  have f2 : c2.toInt = (c0.toInt + 1 + y3.toInt) % 2 ^ 7 := by rw [e2, ← s3]; exact Jvm.Kit.i32_mask _ (127 : Int32) (k := 7) (by decide) (by decide)
  have f3 : ((c0 + (127 : Int32)) &&& (127 : Int32)).toInt = (c0.toInt + 127) % 2 ^ 7 := by rw [← s4]; exact Jvm.Kit.i32_mask _ (127 : Int32) (k := 7) (by decide) (by decide)
  clear e0 e1 e2 s1 s2 s3 s4
  generalize ((c0 + (127 : Int32)) &&& (127 : Int32)) = c3 at f3
  have ne : ∀ {a b : Int32}, a.toInt ≠ b.toInt → a ≠ b := fun h z => h (congrArg _ z)
  refine ⟨fun h => ?_, fun h => ?_⟩
  · have h' : c2.toInt = c1.toInt := congrArg _ h
    exact ⟨cel_of (by omega) (by omega), cel_of (by omega) (by omega), cel_of (by omega) (by omega), ne (by omega), ne (by omega), ne (by omega)⟩
  · exact ⟨cel_of (by omega) (by omega), cel_of (by omega) (by omega), cel_of (by omega) (by omega), ne (by omega), ne (by omega), fun z => h z.symm⟩
abbrev R0 : Room := { frames := 0, cells := 0, slots := 0, locals := 0 }
theorem Dm.exa {Z : State} {h : Heap} {d lo N K : Nat} {M : Nat → Nat → Value} {lf : Nat → Int32} {lm : Nat → Int64} {tr : Nat → Int32} {ts : Nat} (D : Dm Z h d lo N K M lf lm tr ts) : Exa Z h d "com/example/caprice/caprice/solver/Domains" := by obtain ⟨R, Lf, Lm, Tr, X, kR, kX, kL, kJ, kT, ord, OX, E, r⟩ := D; exact E
theorem Dm.keep {Z : State} {h h' : Heap} {d lo N K : Nat} {M : Nat → Nat → Value} {lf : Nat → Int32} {lm : Nat → Int64} {tr : Nat → Int32} {ts : Nat} (D : Dm Z h d lo N K M lf lm tr ts) (Kp : Keep h h' []) : Dm Z h' d lo N K M lf lm tr ts := by
  obtain ⟨R, Lf, Lm, Tr, X, kR, kX, kL, kJ, kT, ord, OX, E, F1, F2, F3, F4, F5, AR, AX, AL, AJ, AT⟩ := D
  exact ⟨R, Lf, Lm, Tr, X, kR, kX, kL, kJ, kT, ord, OX, E.keep Kp, F1.keep Kp nin0, F2.keep Kp nin0, F3.keep Kp nin0, F4.keep Kp nin0, F5.keep Kp nin0, AR.keep Kp nin0, fun i hi => (AX i hi).keep Kp nin0, AL.keep Kp nin0, AJ.keep Kp nin0, AT.keep Kp nin0⟩
theorem rmMark (l : Launch) (Z : State) (a0 : Array Value) (hw : ∀ d ∈ tables_1, d.before a0 Z = true) (d lo N K : Nat) (M : Nat → Nat → Value) (lf : Nat → Int32) (lm : Nat → Int64) (tr : Nat → Int32) (ts : Nat) (h0 : Heap) (n0 : Nat) (O0 : Old Z n0 h0) (D : Dm Z h0 d lo N K M lf lm tr ts) :
    MetFree l (⟨"com/example/caprice/caprice/solver/Domains", "mark", "()I"⟩ : MethodName) (head1 [Jvm.Cond.code (⟨"com/example/caprice/caprice/solver/Domains", "mark", "()I"⟩ : MethodName) prog_59_method_8_code 1 (some .int)] R0) (fun a U => a = #[(.ref d)] ∧ Z.Warmed39 U.vm ∧ U.heap = h0) (fun _ _ _ _ _ => True) (fun _ U o U' => ∃ v L, o = .returned v ∧ QV (some (.int (Int32.ofNat ts))) h0 n0 v U'.heap L ∧ FrameEnd U o U' L R0.cells R0.slots) := by
  obtain ⟨R, Lf, Lm, Tr, X, kR, kX, kL, kJ, kT, ord, OX, E, F1, F2, F3, F4, F5, r⟩ := D
  exact rm5_3 l Z a0 hw [] d (Int32.ofNat ts) h0 n0 (own_n0 O0) O0 E F5
theorem rmLeft (l : Launch) (Z : State) (a0 : Array Value) (hw : ∀ d ∈ tables_1, d.before a0 Z = true) (d lo N K : Nat) (M : Nat → Nat → Value) (lf : Nat → Int32) (lm : Nat → Int64) (tr : Nat → Int32) (ts : Nat) (h0 : Heap) (n0 : Nat) (O0 : Old Z n0 h0) (D : Dm Z h0 d lo N K M lf lm tr ts) (q : Int32) (hq : ¬ (q < 0 ∨ N ≤ q.toNatClampNeg)) :
    MetFree l (⟨"com/example/caprice/caprice/solver/Domains", "left", "(I)I"⟩ : MethodName) (head1 [Jvm.Cond.code (⟨"com/example/caprice/caprice/solver/Domains", "left", "(I)I"⟩ : MethodName) prog_59_method_6_code 2 (some .int)] R0) (fun a U => a = #[(.ref d), (.int q)] ∧ Z.Warmed39 U.vm ∧ U.heap = h0) (fun _ _ _ _ _ => True) (fun _ U o U' => ∃ v L, o = .returned v ∧ QV (some (.int (lf q.toNatClampNeg))) h0 n0 v U'.heap L ∧ FrameEnd U o U' L R0.cells R0.slots) := by
  obtain ⟨R, Lf, Lm, Tr, X, kR, kX, kL, kJ, kT, ord, OX, E, F1, F2, F3, F4, F5, AR, AX, AL, AJ, AT⟩ := D
  exact rm10_6 l Z a0 hw [] d q Lf kL N _ (lf q.toNatClampNeg) h0 n0 (own_n0 O0) O0 E F2 AL hq rfl
theorem rmLeftMask (l : Launch) (Z : State) (a0 : Array Value) (hw : ∀ d ∈ tables_1, d.before a0 Z = true) (d lo N K : Nat) (M : Nat → Nat → Value) (lf : Nat → Int32) (lm : Nat → Int64) (tr : Nat → Int32) (ts : Nat) (h0 : Heap) (n0 : Nat) (O0 : Old Z n0 h0) (D : Dm Z h0 d lo N K M lf lm tr ts) (q : Int32) (hq : ¬ (q < 0 ∨ N ≤ q.toNatClampNeg)) :
    MetFree l (⟨"com/example/caprice/caprice/solver/Domains", "leftMask", "(I)J"⟩ : MethodName) (head1 [Jvm.Cond.code (⟨"com/example/caprice/caprice/solver/Domains", "leftMask", "(I)J"⟩ : MethodName) prog_59_method_5_code 2 (some .long)] R0) (fun a U => a = #[(.ref d), (.int q)] ∧ Z.Warmed39 U.vm ∧ U.heap = h0) (fun _ _ _ _ _ => True) (fun _ U o U' => ∃ v L, o = .returned v ∧ QV (some (.long (lm q.toNatClampNeg))) h0 n0 v U'.heap L ∧ FrameEnd U o U' L R0.cells R0.slots) := by
  obtain ⟨R, Lf, Lm, Tr, X, kR, kX, kL, kJ, kT, ord, OX, E, F1, F2, F3, F4, F5, AR, AX, AL, AJ, AT⟩ := D
  exact rm11_7 l Z a0 hw [] d q Lm kJ N _ (lm q.toNatClampNeg) h0 n0 (own_n0 O0) O0 E F3 AJ hq rfl
theorem rmHas (l : Launch) (Z : State) (a0 : Array Value) (hw : ∀ d ∈ tables_1, d.before a0 Z = true) (d lo N K : Nat) (M : Nat → Nat → Value) (lf : Nat → Int32) (lm : Nat → Int64) (tr : Nat → Int32) (ts : Nat) (h0 : Heap) (n0 : Nat) (O0 : Old Z n0 h0) (D : Dm Z h0 d lo N K M lf lm tr ts) (q v : Int32) (hq : ¬ (q < 0 ∨ N ≤ q.toNatClampNeg)) (hv : ¬ (v < 0 ∨ K ≤ v.toNatClampNeg)) (res : Int32) (H : (M q.toNatClampNeg v.toNatClampNeg = .null ∧ res = 1) ∨ (∃ y : Nat, M q.toNatClampNeg v.toNatClampNeg = .ref y ∧ res = 0)) :
    MetFree l (⟨"com/example/caprice/caprice/solver/Domains", "has", "(II)Z"⟩ : MethodName) (head1 [Jvm.Cond.code (⟨"com/example/caprice/caprice/solver/Domains", "has", "(II)Z"⟩ : MethodName) prog_59_method_3_code 3 (some .boolean)] R0) (fun a U => a = #[(.ref d), (.int q), (.int v)] ∧ Z.Warmed39 U.vm ∧ U.heap = h0) (fun _ _ _ _ _ => True) (fun _ U o U' => ∃ v L, o = .returned v ∧ QV (some (.int res)) h0 n0 v U'.heap L ∧ FrameEnd U o U' L R0.cells R0.slots) := by
  obtain ⟨R, Lf, Lm, Tr, X, kR, kX, kL, kJ, kT, ord, OX, E, F1, F2, F3, F4, F5, AR, AX, AL, AJ, AT⟩ := D
  have hN : q.toNatClampNeg < N := Nat.lt_of_not_le fun z => hq (Or.inr z)
  rcases H with ⟨h, rfl⟩ | ⟨y, h, rfl⟩
  · exact rm12_8 l Z a0 hw [] d q v R kR N _ (X q.toNatClampNeg) (kX q.toNatClampNeg) K _ h0 n0 (own_n0 O0) O0 E F1 AR (AX _ hN) hq rfl hv h
  · exact rm12_9 l Z a0 hw [] d q v R kR N _ (X q.toNatClampNeg) (kX q.toNatClampNeg) K _ y h0 n0 (own_n0 O0) O0 E F1 AR (AX _ hN) hq rfl hv h
theorem rmBit (l : Launch) (Z : State) (a0 : Array Value) (hw : ∀ d ∈ tables_1, d.before a0 Z = true) (q0 q1 q2 : Int32) (h0 : Heap) (n0 : Nat) (O0 : Old Z n0 h0) :
    MetFree l (⟨"com/example/caprice/caprice/solver/DomainsRestorePinLaw", "bit", "(IIZ)J"⟩ : MethodName) (head1 [Jvm.Cond.code (⟨"com/example/caprice/caprice/solver/DomainsRestorePinLaw", "bit", "(IIZ)J"⟩ : MethodName) method_2_code 3 (some .long)] R0) (fun a U => a = #[(.int q0), (.int q1), (.int q2)] ∧ Z.Warmed39 U.vm ∧ U.heap = h0) (fun _ _ _ _ _ => True) (fun _ U o U' => ∃ v L, o = .returned v ∧ QV (some (.long (bitV q0 q1 q2))) h0 n0 v U'.heap L ∧ FrameEnd U o U' L R0.cells R0.slots) := by
  by_cases h1 : q2 = 0
  · rw [show bitV q0 q1 q2 = 0 from if_neg (fun z => z.1 h1)]; exact rm8_10 l Z a0 hw [] q0 q1 q2 h0 n0 (own_n0 O0) O0 h1
  · by_cases h2 : dp q0 = q1
    · rw [show bitV q0 q1 q2 = BB q0 from if_pos ⟨h1, h2⟩]; exact rm8_11 l Z a0 hw [] q0 q1 q2 h0 n0 (own_n0 O0) O0 h1 h2
    · rw [show bitV q0 q1 q2 = 0 from if_neg (fun z => h2 z.2)]; exact rm8_12 l Z a0 hw [] q0 q1 q2 h0 n0 (own_n0 O0) O0 h1 h2
theorem rmOne (l : Launch) (Z : State) (a0 : Array Value) (hw : ∀ d ∈ tables_1, d.before a0 Z = true) (q0 q1 q2 : Int32) (h0 : Heap) (n0 : Nat) (O0 : Old Z n0 h0) :
    MetFree l (⟨"com/example/caprice/caprice/solver/DomainsRestorePinLaw", "one", "(IIZ)I"⟩ : MethodName) (head1 [Jvm.Cond.code (⟨"com/example/caprice/caprice/solver/DomainsRestorePinLaw", "one", "(IIZ)I"⟩ : MethodName) method_3_code 3 (some .int)] R0) (fun a U => a = #[(.int q0), (.int q1), (.int q2)] ∧ Z.Warmed39 U.vm ∧ U.heap = h0) (fun _ _ _ _ _ => True) (fun _ U o U' => ∃ v L, o = .returned v ∧ QV (some (.int (oneV q0 q1 q2))) h0 n0 v U'.heap L ∧ FrameEnd U o U' L R0.cells R0.slots) := by
  by_cases h1 : q2 = 0
  · rw [show oneV q0 q1 q2 = 0 from if_neg (fun z => z.1 h1)]; exact rm9_13 l Z a0 hw [] q0 q1 q2 h0 n0 (own_n0 O0) O0 h1
  · by_cases h2 : dp q0 = q1
    · rw [show oneV q0 q1 q2 = 1 from if_pos ⟨h1, h2⟩]; exact rm9_14 l Z a0 hw [] q0 q1 q2 h0 n0 (own_n0 O0) O0 h1 h2
    · rw [show oneV q0 q1 q2 = 0 from if_neg (fun z => h2 z.2)]; exact rm9_15 l Z a0 hw [] q0 q1 q2 h0 n0 (own_n0 O0) O0 h1 h2
theorem rmMin (l : Launch) (Z : State) (a0 : Array Value) (hw : ∀ d ∈ tables_1, d.before a0 Z = true) (q0 q1 : Int32) (h0 : Heap) (n0 : Nat) (O0 : Old Z n0 h0) :
    MetFree l (⟨"java/lang/Math", "min", "(II)I"⟩ : MethodName) (head1 [Jvm.Cond.code (⟨"java/lang/Math", "min", "(II)I"⟩ : MethodName) jdk_29_method_69_code 2 (some .int)] R0) (fun a U => a = #[(.int q0), (.int q1)] ∧ Z.Warmed39 U.vm ∧ U.heap = h0) (fun _ _ _ _ _ => True) (fun _ U o U' => ∃ v L, o = .returned v ∧ QV (some (.int (if q1 < q0 then q1 else q0))) h0 n0 v U'.heap L ∧ FrameEnd U o U' L R0.cells R0.slots) := by
  by_cases h1 : q1 < q0
  · rw [if_pos h1]; exact rm1_16 l Z a0 hw [] q0 q1 h0 n0 (own_n0 O0) O0 h1
  · rw [if_neg h1]; exact rm1_17 l Z a0 hw [] q0 q1 h0 n0 (own_n0 O0) O0 h1
abbrev RC : Room := { frames := 1, cells := 8, slots := 394, locals := 14 }
theorem own_two {P : Nat → Prop} (h0 : P 0) (h1 : P 1) : ∀ i, i < 2 → P i := fun i hi => by
  match i, hi with
  | 0, _ => exact h0
  | 1, _ => exact h1
def pick2 {α : Type} (a b : α) : Nat → α := fun i => if i = 0 then a else b
set_option maxRecDepth 65536 in
theorem rmCon (l : Launch) (Z : State) (a0 : Array Value) (hw : ∀ d ∈ tables_1, d.before a0 Z = true) (d sz : Nat) (ks : ClassId) (h0 : Heap) (n0 : Nat) (O0 : Old Z n0 h0) (E : Exa Z h0 d "com/example/caprice/caprice/solver/Domains") (F1 : Fld Z h0 d "com/example/caprice/caprice/solver/Domains" "reasons" "[[[I" .null) (F2 : Fld Z h0 d "com/example/caprice/caprice/solver/Domains" "left" "[I" .null) (F3 : Fld Z h0 d "com/example/caprice/caprice/solver/Domains" "leftMasks" "[J" .null) (F4 : Fld Z h0 d "com/example/caprice/caprice/solver/Domains" "trail" "[I" .null) (F5 : Fld Z h0 d "com/example/caprice/caprice/solver/Domains" "gathered" "[I" .null) (F6 : Fld Z h0 d "com/example/caprice/caprice/solver/Domains" "marked" "[Z" .null) (F7 : Fld Z h0 d "com/example/caprice/caprice/solver/Domains" "trailSize" "I" (.int (0 : Int32))) (V : Arv Z h0 sz ks .int (2 : Int32) [(.int (64 : Int32)), (.int (64 : Int32))] (.int (0 : Int32))) (hne : d ≠ sz) (hg : n0 ≤ d) :
    MetFree l (⟨"com/example/caprice/caprice/solver/Domains", "<init>", "([I)V"⟩ : MethodName) (head1 [Jvm.Cond.code (⟨"com/example/caprice/caprice/solver/Domains", "<init>", "([I)V"⟩ : MethodName) prog_59_method_1_code 5 none] RC) (fun a U => a = #[(.ref d), (.ref sz)] ∧ Z.Warmed39 U.vm ∧ U.heap = h0) (fun _ _ _ _ _ => True) (fun _ U o U' => ∃ v L, o = .returned v ∧ QDm none Z d d 2 64 (fun _ _ => .null) (fun _ => 64) (fun _ => -1) (fun _ => 0) 0 h0 n0 v U'.heap L ∧ FrameEnd U o U' L RC.cells RC.slots) := by
  have dlt : d < h0.size := E.lt
  refine (rm2_1 l Z a0 hw [] d sz ks h0 n0 (own_n0 O0) O0 E F1 F2 F3 F4 F5 F6 F7 V hne hg).imp ?_
  rintro a U o U' ⟨v, L, rfl, ⟨R, Lf, Lm, X0, X1, Tr, Ga, Mk, kR, kL, kJ, kT, kG, kM, k0, k1, rfl, N1, K1, O1, z1, z2, z3, z4, z5, z6, z7, z8, o1, o2, o3, o4, o5, o6, o7, E', F1', F2', F3', F4', F5', F6', F7', VR, ER, OR, VL, EL, VJ, EJ, VT, ET, VG, EG, VM, EM, V0, E0, O0', V1, E1, O1', -⟩, hF⟩
  have a1 : d < R := Nat.lt_of_lt_of_le dlt z1
  have b1 : R < Lf := o1
  have b2 : Lf < Lm := o2
  have b3 : Lm < X0 := o3
  have b4 : X0 < X1 := o4
  have b5 : X1 < Tr := o5
  refine ⟨_, L, rfl, ⟨rfl, N1, PresX.of_keep K1 (allS (Nat.le_refl d) all0), O1, R, Lf, Lm, Tr, pick2 X0 X1, kR, pick2 k0 k1, kL, kJ, kT, ⟨Nat.le_refl d, a1, b1, b2, Nat.lt_trans b3 (Nat.lt_trans b4 b5), own_two ⟨b3, Nat.lt_trans b4 b5⟩ ⟨Nat.lt_trans b3 b4, b5⟩, ?_⟩, own_two O0' O1', E', F1', F2', F3', F4', F7', (Ars.of_arv VR).congr (own_two rfl rfl), own_two ((Ars.of_arv V0).congr (fun i _ => rfl)) ((Ars.of_arv V1).congr (fun i _ => rfl)), (Ars.of_arv VL).congr (own_two rfl rfl), (Ars.of_arv VJ).congr (own_two rfl rfl), (Ars.of_arv VT).congr (fun i _ => rfl)⟩, hF⟩
  intro i j hij hj
  obtain ⟨rfl, rfl⟩ : i = 0 ∧ j = 1 := by omega
  exact b4
def Rs (Z : State) (h : Heap) (dom non : Nat) (cs : List Int32) (tr : Nat → Int32) : Prop := Dm Z h dom dom 2 64 (LM non cs) (LF cs) (LJ cs) tr (2 * cs.length) ∧ TrOK tr cs ∧ Exa Z h non "[I"
section LawM
variable {p : Program} {l : Launch} {e : Env} {s : State} {m : MethodId} {args : Array Value} {below : List Frame} {meth : Method} {c : Code} {Z : State} {a0 : Array Value} {n0 : Nat} {entry : State}
def GoalQ (p : Program) (e : Env) (below : List Frame) (s entry : State) (n0 : Nat) : Prop := ∃ s₂ o, Steps p.tables e below entry s₂ ∧ s₂.status = .running ∧ Ended s₂ below o ∧ ∃ v L, o = .returned v ∧ (v = some (.int (1 : Int32)) ∧ Fr n0 L) ∧ FrameEnd s o s₂ L room_1.cells room_1.slots
theorem own_flg {c0 c1 c2 jj r1 r2 r3 : Int32} {pre : List Int32} (hj : (pre = [] ∧ jj = 0) ∨ (pre = [c0] ∧ jj = 1) ∨ (pre = [c0, c1] ∧ jj = 2) ∨ (pre = [c0, c1, c2] ∧ jj = 3)) (h1 : (jj < 1 ∧ r1 = 0) ∨ (¬ jj < 1 ∧ r1 = 1)) (h2 : (jj < 2 ∧ r2 = 0) ∨ (¬ jj < 2 ∧ r2 = 1)) (h3 : (jj < 3 ∧ r3 = 0) ∨ (¬ jj < 3 ∧ r3 = 1)) : Flg c0 c1 c2 pre r1 r2 r3 := by
  have f : ∀ {P : Prop} {r : Int32}, (P ∧ r = 0) ∨ (¬ P ∧ r = 1) → (P → r = 0) ∧ (¬ P → r = 1) := fun h => h.elim (fun z => ⟨fun _ => z.2, fun y => absurd z.1 y⟩) (fun z => ⟨fun y => absurd y z.1, fun _ => z.2⟩)
  obtain ⟨a1, b1⟩ := f h1
  obtain ⟨a2, b2⟩ := f h2
  obtain ⟨a3, b3⟩ := f h3
  rcases hj with ⟨rfl, rfl⟩ | ⟨rfl, rfl⟩ | ⟨rfl, rfl⟩ | ⟨rfl, rfl⟩
  · exact Or.inl ⟨rfl, a1 (by decide), a2 (by decide), a3 (by decide)⟩
  · exact Or.inr (Or.inl ⟨rfl, b1 (by decide), a2 (by decide), a3 (by decide)⟩)
  · exact Or.inr (Or.inr (Or.inl ⟨rfl, b1 (by decide), b2 (by decide), a3 (by decide)⟩))
  · exact Or.inr (Or.inr (Or.inr ⟨rfl, b1 (by decide), b2 (by decide), b3 (by decide)⟩))
theorem own_hasc {c0 c1 c2 jj : Int32} {non : Nat} {pre : List Int32} (h0 : Cel c0) (h1 : Cel c1) (h2 : Cel c2) (n1 : c0 ≠ c1) (n2 : c0 ≠ c2) (hj : (pre = [] ∧ jj = 0) ∨ (pre = [c0] ∧ jj = 1) ∨ (pre = [c0, c1] ∧ jj = 2) ∨ (pre = [c0, c1, c2] ∧ jj = 3)) : (jj = 0 ∧ LM non pre (dN c0) (vN c0) = .null) ∨ (jj ≠ 0 ∧ LM non pre (dN c0) (vN c0) = .ref non) := by
  have hit : fM non (fun _ _ => .null) c0 (dN c0) (vN c0) = .ref non := by unfold fM rM; rw [own_upd_hit, own_upd_hit]
  have f : ∀ rest : List Int32, (∀ x ∈ rest, Cel x ∧ x ≠ c0) → LM non (c0 :: rest) (dN c0) (vN c0) = .ref non := fun rest h => LM_keep (y := non) (v := .ref non) h0 rest (fM non (fun _ _ => .null) c0) h hit
  rcases hj with ⟨rfl, rfl⟩ | ⟨rfl, rfl⟩ | ⟨rfl, rfl⟩ | ⟨rfl, rfl⟩
  · exact Or.inl ⟨rfl, rfl⟩
  · exact Or.inr ⟨by decide, f [] (by simp)⟩
  · exact Or.inr ⟨by decide, f [c1] (by intro x hx; rw [List.mem_singleton] at hx; subst hx; exact ⟨h1, n1.symm⟩)⟩
  · exact Or.inr ⟨by decide, f [c1, c2] (by
      intro x hx
      rcases List.mem_cons.mp hx with rfl | hx
      · exact ⟨h1, n1.symm⟩
      · rw [List.mem_singleton] at hx; subst hx; exact ⟨h2, n2.symm⟩)⟩
theorem own_mj {c0 c1 c2 jj : Int32} {pre : List Int32} (hj : (pre = [] ∧ jj = 0) ∨ (pre = [c0] ∧ jj = 1) ∨ (pre = [c0, c1] ∧ jj = 2) ∨ (pre = [c0, c1, c2] ∧ jj = 3)) : Int32.ofNat (2 * pre.length) = (2 : Int32) * jj := by
  rcases hj with ⟨rfl, rfl⟩ | ⟨rfl, rfl⟩ | ⟨rfl, rfl⟩ | ⟨rfl, rfl⟩ <;> (simp only [List.length_nil, List.length_cons]; decide)
set_option maxRecDepth 65536 in
set_option maxHeartbeats 4000000 in
theorem cdM0 (hx : p.tables.exec = Jvm.exec) (hZ : Z.Warmed39 s.vm) (hw : ∀ d ∈ tables_1, d.before a0 Z = true) (hby : c.code = code) (hml : c.maxLocals = 22) (hown : s.vm.findClass "com/example/caprice/caprice/solver/DomainsRestorePinLaw" = some m.cls) (p1 : Int32) (p2 : Int32) (p3 : Int32) (p4 : Int32) (c0 : Int32) (c1 : Int32) (c2 : Int32) (nn : Int32) (jj : Int32) (dom : Nat) (non : Nat) (mm : Int32) (cs : List Int32) (tr : Nat → Int32) (T0 : State) (locs : List Loc) (h0 : Heap) (X0 : Stand p l e room_1 s m args below meth c T0 locs 11 404) (e0 : T0.heap = h0) (N0 : Fr n0 locs) (O0 : Old Z n0 h0) (D : Rs Z h0 dom non cs tr) :
    ∃ (T' : State) (locs' : List Loc) (mm' : Int32), Stand p l e room_1 s m args below meth c T' locs' 11 404 ∧ Fr n0 locs' ∧ T'.heap = h0 ∧ ((jj = 0 ∧ mm' = Int32.ofNat (2 * cs.length)) ∨ (jj ≠ 0 ∧ mm' = mm)) ∧ ∀ t, Steps p.tables e below (T'.setTop (mkF m 116 #[.val (.int p1), .val (.int p2), .val (.int p3), .val (.int p4), .val (.int c0), .val (.int c1), .val (.int c2), .val (.int nn), .val (.int jj), .val (.ref dom), .val (.ref non), .val (.int mm'), .unset, .unset, .unset, .unset, .unset, .unset, .unset, .unset, .unset, .unset] [])) t → Steps p.tables e below (T0.setTop (mkF m 104 #[.val (.int p1), .val (.int p2), .val (.int p3), .val (.int p4), .val (.int c0), .val (.int c1), .val (.int c2), .val (.int nn), .val (.int jj), .val (.ref dom), .val (.ref non), .val (.int mm), .unset, .unset, .unset, .unset, .unset, .unset, .unset, .unset, .unset, .unset] [])) t := by
  by_cases h : jj = (0 : Int32)
  · obtain ⟨T2, L2, X2, N2, e2, c2'⟩ := pM01 p1 p2 p3 p4 c0 c1 c2 nn jj dom non mm X0 hx hZ hw hby hml hown e0 N0 O0 h
    obtain ⟨T3, _, L3, X3, ⟨rfl, N3, e3⟩, c3⟩ := cK0 (Ls := #[.val (.int p1), .val (.int p2), .val (.int p3), .val (.int p4), .val (.int c0), .val (.int c1), .val (.int c2), .val (.int nn), .val (.int jj), .val (.ref dom), .val (.ref non), .val (.int mm), .unset, .unset, .unset, .unset, .unset, .unset, .unset, .unset, .unset, .unset]) dom X2 hx hZ hw hby hml hown e2 rfl D.1.exa (rmMark l Z a0 hw dom dom 2 64 _ _ _ tr _ h0 n0 O0 D.1) (by decide) (by decide) (by decide) (by decide)
    obtain ⟨T4, L4, X4, N4, e4, c4⟩ := pM02 p1 p2 p3 p4 c0 c1 c2 nn jj dom non mm (Int32.ofNat (2 * cs.length)) X3 hx hZ hw hby hml hown e3 (Fr.app N2 N3) O0
    exact ⟨T4, L4, _, X4, N4, e4, Or.inl ⟨h, rfl⟩, fun t kt => c2' t (c3 t (c4 t kt))⟩
  · obtain ⟨T2, L2, X2, N2, e2, c2'⟩ := pM00 p1 p2 p3 p4 c0 c1 c2 nn jj dom non mm X0 hx hZ hw hby hml hown e0 N0 O0 h
    exact ⟨T2, L2, mm, X2, N2, e2, Or.inr ⟨h, rfl⟩, c2'⟩
set_option maxRecDepth 65536 in
set_option maxHeartbeats 4000000 in
theorem cdM1 (hx : p.tables.exec = Jvm.exec) (hZ : Z.Warmed39 s.vm) (hw : ∀ d ∈ tables_1, d.before a0 Z = true) (hby : c.code = code) (hml : c.maxLocals = 22) (hown : s.vm.findClass "com/example/caprice/caprice/solver/DomainsRestorePinLaw" = some m.cls) (p1 : Int32) (p2 : Int32) (p3 : Int32) (p4 : Int32) (c0 : Int32) (c1 : Int32) (c2 : Int32) (nn : Int32) (jj : Int32) (dom : Nat) (non : Nat) (mm : Int32) (cs : List Int32) (tr : Nat → Int32) (T0 : State) (locs : List Loc) (h0 : Heap) (X0 : Stand p l e room_1 s m args below meth c T0 locs 11 404) (e0 : T0.heap = h0) (N0 : Fr n0 locs) (O0 : Old Z n0 h0) (D : Rs Z h0 dom non cs tr) :
    ∃ (T' : State) (locs' : List Loc) (mm' : Int32), Stand p l e room_1 s m args below meth c T' locs' 11 404 ∧ Fr n0 locs' ∧ T'.heap = h0 ∧ ((jj = 1 ∧ mm' = Int32.ofNat (2 * cs.length)) ∨ (jj ≠ 1 ∧ mm' = mm)) ∧ ∀ t, Steps p.tables e below (T'.setTop (mkF m 152 #[.val (.int p1), .val (.int p2), .val (.int p3), .val (.int p4), .val (.int c0), .val (.int c1), .val (.int c2), .val (.int nn), .val (.int jj), .val (.ref dom), .val (.ref non), .val (.int mm'), .unset, .unset, .unset, .unset, .unset, .unset, .unset, .unset, .unset, .unset] [])) t → Steps p.tables e below (T0.setTop (mkF m 139 #[.val (.int p1), .val (.int p2), .val (.int p3), .val (.int p4), .val (.int c0), .val (.int c1), .val (.int c2), .val (.int nn), .val (.int jj), .val (.ref dom), .val (.ref non), .val (.int mm), .unset, .unset, .unset, .unset, .unset, .unset, .unset, .unset, .unset, .unset] [])) t := by
  by_cases h : jj = (1 : Int32)
  · obtain ⟨T2, L2, X2, N2, e2, c2'⟩ := pM11 p1 p2 p3 p4 c0 c1 c2 nn jj dom non mm X0 hx hZ hw hby hml hown e0 N0 O0 h
    obtain ⟨T3, _, L3, X3, ⟨rfl, N3, e3⟩, c3⟩ := cK1 (Ls := #[.val (.int p1), .val (.int p2), .val (.int p3), .val (.int p4), .val (.int c0), .val (.int c1), .val (.int c2), .val (.int nn), .val (.int jj), .val (.ref dom), .val (.ref non), .val (.int mm), .unset, .unset, .unset, .unset, .unset, .unset, .unset, .unset, .unset, .unset]) dom X2 hx hZ hw hby hml hown e2 rfl D.1.exa (rmMark l Z a0 hw dom dom 2 64 _ _ _ tr _ h0 n0 O0 D.1) (by decide) (by decide) (by decide) (by decide)
    obtain ⟨T4, L4, X4, N4, e4, c4⟩ := pM12 p1 p2 p3 p4 c0 c1 c2 nn jj dom non mm (Int32.ofNat (2 * cs.length)) X3 hx hZ hw hby hml hown e3 (Fr.app N2 N3) O0
    exact ⟨T4, L4, _, X4, N4, e4, Or.inl ⟨h, rfl⟩, fun t kt => c2' t (c3 t (c4 t kt))⟩
  · obtain ⟨T2, L2, X2, N2, e2, c2'⟩ := pM10 p1 p2 p3 p4 c0 c1 c2 nn jj dom non mm X0 hx hZ hw hby hml hown e0 N0 O0 h
    exact ⟨T2, L2, mm, X2, N2, e2, Or.inr ⟨h, rfl⟩, c2'⟩
set_option maxRecDepth 65536 in
set_option maxHeartbeats 4000000 in
theorem cdM2 (hx : p.tables.exec = Jvm.exec) (hZ : Z.Warmed39 s.vm) (hw : ∀ d ∈ tables_1, d.before a0 Z = true) (hby : c.code = code) (hml : c.maxLocals = 22) (hown : s.vm.findClass "com/example/caprice/caprice/solver/DomainsRestorePinLaw" = some m.cls) (p1 : Int32) (p2 : Int32) (p3 : Int32) (p4 : Int32) (c0 : Int32) (c1 : Int32) (c2 : Int32) (nn : Int32) (jj : Int32) (dom : Nat) (non : Nat) (mm : Int32) (cs : List Int32) (tr : Nat → Int32) (T0 : State) (locs : List Loc) (h0 : Heap) (X0 : Stand p l e room_1 s m args below meth c T0 locs 11 404) (e0 : T0.heap = h0) (N0 : Fr n0 locs) (O0 : Old Z n0 h0) (D : Rs Z h0 dom non cs tr) :
    ∃ (T' : State) (locs' : List Loc) (mm' : Int32), Stand p l e room_1 s m args below meth c T' locs' 11 404 ∧ Fr n0 locs' ∧ T'.heap = h0 ∧ ((jj = 2 ∧ mm' = Int32.ofNat (2 * cs.length)) ∨ (jj ≠ 2 ∧ mm' = mm)) ∧ ∀ t, Steps p.tables e below (T'.setTop (mkF m 188 #[.val (.int p1), .val (.int p2), .val (.int p3), .val (.int p4), .val (.int c0), .val (.int c1), .val (.int c2), .val (.int nn), .val (.int jj), .val (.ref dom), .val (.ref non), .val (.int mm'), .unset, .unset, .unset, .unset, .unset, .unset, .unset, .unset, .unset, .unset] [])) t → Steps p.tables e below (T0.setTop (mkF m 175 #[.val (.int p1), .val (.int p2), .val (.int p3), .val (.int p4), .val (.int c0), .val (.int c1), .val (.int c2), .val (.int nn), .val (.int jj), .val (.ref dom), .val (.ref non), .val (.int mm), .unset, .unset, .unset, .unset, .unset, .unset, .unset, .unset, .unset, .unset] [])) t := by
  by_cases h : jj = (2 : Int32)
  · obtain ⟨T2, L2, X2, N2, e2, c2'⟩ := pM21 p1 p2 p3 p4 c0 c1 c2 nn jj dom non mm X0 hx hZ hw hby hml hown e0 N0 O0 h
    obtain ⟨T3, _, L3, X3, ⟨rfl, N3, e3⟩, c3⟩ := cK2 (Ls := #[.val (.int p1), .val (.int p2), .val (.int p3), .val (.int p4), .val (.int c0), .val (.int c1), .val (.int c2), .val (.int nn), .val (.int jj), .val (.ref dom), .val (.ref non), .val (.int mm), .unset, .unset, .unset, .unset, .unset, .unset, .unset, .unset, .unset, .unset]) dom X2 hx hZ hw hby hml hown e2 rfl D.1.exa (rmMark l Z a0 hw dom dom 2 64 _ _ _ tr _ h0 n0 O0 D.1) (by decide) (by decide) (by decide) (by decide)
    obtain ⟨T4, L4, X4, N4, e4, c4⟩ := pM22 p1 p2 p3 p4 c0 c1 c2 nn jj dom non mm (Int32.ofNat (2 * cs.length)) X3 hx hZ hw hby hml hown e3 (Fr.app N2 N3) O0
    exact ⟨T4, L4, _, X4, N4, e4, Or.inl ⟨h, rfl⟩, fun t kt => c2' t (c3 t (c4 t kt))⟩
  · obtain ⟨T2, L2, X2, N2, e2, c2'⟩ := pM20 p1 p2 p3 p4 c0 c1 c2 nn jj dom non mm X0 hx hZ hw hby hml hown e0 N0 O0 h
    exact ⟨T2, L2, mm, X2, N2, e2, Or.inr ⟨h, rfl⟩, c2'⟩
set_option maxRecDepth 65536 in
set_option maxHeartbeats 4000000 in
theorem cdM3 (hx : p.tables.exec = Jvm.exec) (hZ : Z.Warmed39 s.vm) (hw : ∀ d ∈ tables_1, d.before a0 Z = true) (hby : c.code = code) (hml : c.maxLocals = 22) (hown : s.vm.findClass "com/example/caprice/caprice/solver/DomainsRestorePinLaw" = some m.cls) (p1 : Int32) (p2 : Int32) (p3 : Int32) (p4 : Int32) (c0 : Int32) (c1 : Int32) (c2 : Int32) (nn : Int32) (jj : Int32) (dom : Nat) (non : Nat) (mm : Int32) (cs : List Int32) (tr : Nat → Int32) (T0 : State) (locs : List Loc) (h0 : Heap) (X0 : Stand p l e room_1 s m args below meth c T0 locs 11 404) (e0 : T0.heap = h0) (N0 : Fr n0 locs) (O0 : Old Z n0 h0) (D : Rs Z h0 dom non cs tr) :
    ∃ (T' : State) (locs' : List Loc) (mm' : Int32), Stand p l e room_1 s m args below meth c T' locs' 11 404 ∧ Fr n0 locs' ∧ T'.heap = h0 ∧ ((jj = 3 ∧ mm' = Int32.ofNat (2 * cs.length)) ∨ (jj ≠ 3 ∧ mm' = mm)) ∧ ∀ t, Steps p.tables e below (T'.setTop (mkF m 224 #[.val (.int p1), .val (.int p2), .val (.int p3), .val (.int p4), .val (.int c0), .val (.int c1), .val (.int c2), .val (.int nn), .val (.int jj), .val (.ref dom), .val (.ref non), .val (.int mm'), .unset, .unset, .unset, .unset, .unset, .unset, .unset, .unset, .unset, .unset] [])) t → Steps p.tables e below (T0.setTop (mkF m 211 #[.val (.int p1), .val (.int p2), .val (.int p3), .val (.int p4), .val (.int c0), .val (.int c1), .val (.int c2), .val (.int nn), .val (.int jj), .val (.ref dom), .val (.ref non), .val (.int mm), .unset, .unset, .unset, .unset, .unset, .unset, .unset, .unset, .unset, .unset] [])) t := by
  by_cases h : jj = (3 : Int32)
  · obtain ⟨T2, L2, X2, N2, e2, c2'⟩ := pM31 p1 p2 p3 p4 c0 c1 c2 nn jj dom non mm X0 hx hZ hw hby hml hown e0 N0 O0 h
    obtain ⟨T3, _, L3, X3, ⟨rfl, N3, e3⟩, c3⟩ := cK3 (Ls := #[.val (.int p1), .val (.int p2), .val (.int p3), .val (.int p4), .val (.int c0), .val (.int c1), .val (.int c2), .val (.int nn), .val (.int jj), .val (.ref dom), .val (.ref non), .val (.int mm), .unset, .unset, .unset, .unset, .unset, .unset, .unset, .unset, .unset, .unset]) dom X2 hx hZ hw hby hml hown e2 rfl D.1.exa (rmMark l Z a0 hw dom dom 2 64 _ _ _ tr _ h0 n0 O0 D.1) (by decide) (by decide) (by decide) (by decide)
    obtain ⟨T4, L4, X4, N4, e4, c4⟩ := pM32 p1 p2 p3 p4 c0 c1 c2 nn jj dom non mm (Int32.ofNat (2 * cs.length)) X3 hx hZ hw hby hml hown e3 (Fr.app N2 N3) O0
    exact ⟨T4, L4, _, X4, N4, e4, Or.inl ⟨h, rfl⟩, fun t kt => c2' t (c3 t (c4 t kt))⟩
  · obtain ⟨T2, L2, X2, N2, e2, c2'⟩ := pM30 p1 p2 p3 p4 c0 c1 c2 nn jj dom non mm X0 hx hZ hw hby hml hown e0 N0 O0 h
    exact ⟨T2, L2, mm, X2, N2, e2, Or.inr ⟨h, rfl⟩, c2'⟩
set_option maxRecDepth 65536 in
set_option maxHeartbeats 4000000 in
theorem cdR0 (hx : p.tables.exec = Jvm.exec) (hZ : Z.Warmed39 s.vm) (hw : ∀ d ∈ tables_1, d.before a0 Z = true) (hby : c.code = code) (hml : c.maxLocals = 22) (hown : s.vm.findClass "com/example/caprice/caprice/solver/DomainsRestorePinLaw" = some m.cls) (p1 : Int32) (p2 : Int32) (p3 : Int32) (p4 : Int32) (c0 : Int32) (c1 : Int32) (c2 : Int32) (nn : Int32) (jj : Int32) (dom : Nat) (non : Nat) (mm : Int32) (cs : List Int32) (tr : Nat → Int32) (T0 : State) (locs : List Loc) (h0 : Heap) (hdn : n0 ≤ dom) (X0 : Stand p l e room_1 s m args below meth c T0 locs 11 404) (e0 : T0.heap = h0) (N0 : Fr n0 locs) (O0 : Old Z n0 h0) (D : Rs Z h0 dom non cs tr) (hc : Cel c0) (hl : cs.length ≤ 2) :
    ∃ (T' : State) (locs' : List Loc) (cs' : List Int32) (tr' : Nat → Int32), Stand p l e room_1 s m args below meth c T' locs' 11 404 ∧ Fr n0 locs' ∧ Old Z n0 T'.heap ∧ Rs Z T'.heap dom non cs' tr' ∧ ((nn < 1 ∧ cs' = cs) ∨ (¬ nn < 1 ∧ cs' = cs ++ [c0])) ∧ ∀ t, Steps p.tables e below (T'.setTop (mkF m 139 #[.val (.int p1), .val (.int p2), .val (.int p3), .val (.int p4), .val (.int c0), .val (.int c1), .val (.int c2), .val (.int nn), .val (.int jj), .val (.ref dom), .val (.ref non), .val (.int mm), .unset, .unset, .unset, .unset, .unset, .unset, .unset, .unset, .unset, .unset] [])) t → Steps p.tables e below (T0.setTop (mkF m 116 #[.val (.int p1), .val (.int p2), .val (.int p3), .val (.int p4), .val (.int c0), .val (.int c1), .val (.int c2), .val (.int nn), .val (.int jj), .val (.ref dom), .val (.ref non), .val (.int mm), .unset, .unset, .unset, .unset, .unset, .unset, .unset, .unset, .unset, .unset] [])) t := by
  by_cases h : nn < (1 : Int32)
  · obtain ⟨T2, L2, X2, N2, e2, c2'⟩ := pR00 p1 p2 p3 p4 c0 c1 c2 nn jj dom non mm X0 hx hZ hw hby hml hown e0 N0 O0 h
    exact ⟨T2, L2, cs, tr, X2, N2, by rw [e2]; exact O0, by rw [e2]; exact D, Or.inl ⟨h, rfl⟩, c2'⟩
  · obtain ⟨T2, L2, X2, N2, e2, c2'⟩ := pR01 p1 p2 p3 p4 c0 c1 c2 nn jj dom non mm X0 hx hZ hw hby hml hown e0 N0 O0 h
    obtain ⟨T3, _, L3, X3, ⟨rfl, N3, P3, O3, D3⟩, c3⟩ := cR0 (Ls := #[.val (.int p1), .val (.int p2), .val (.int p3), .val (.int p4), .val (.int c0), .val (.int c1), .val (.int c2), .val (.int nn), .val (.int jj), .val (.ref dom), .val (.ref non), .val (.int mm), .unset, .unset, .unset, .unset, .unset, .unset, .unset, .unset, .unset, .unset]) dom (dp c0) (vl c0) non X2 hx hZ hw hby hml hown e2 rfl D.1.exa (rmRemove l Z a0 hw dom (dp c0) (vl c0) non dom 2 64 _ _ _ tr _ h0 n0 O0 hdn D.1 hc.rd hc.rv (by omega) D.2.2) (by decide) (by decide) (by decide) (by decide)
    refine ⟨T3, _, cs ++ [c0], _, X3, Fr.app N2 N3, O3, ⟨?_, D.2.1.add c0, P3.2 _ _ D.2.2⟩, Or.inr ⟨h, rfl⟩, fun t kt => c2' t (c3 t kt)⟩
    rw [LF_add, LJ_add, LM_add, List.length_append]
    exact D3
set_option maxRecDepth 65536 in
set_option maxHeartbeats 4000000 in
theorem cdR1 (hx : p.tables.exec = Jvm.exec) (hZ : Z.Warmed39 s.vm) (hw : ∀ d ∈ tables_1, d.before a0 Z = true) (hby : c.code = code) (hml : c.maxLocals = 22) (hown : s.vm.findClass "com/example/caprice/caprice/solver/DomainsRestorePinLaw" = some m.cls) (p1 : Int32) (p2 : Int32) (p3 : Int32) (p4 : Int32) (c0 : Int32) (c1 : Int32) (c2 : Int32) (nn : Int32) (jj : Int32) (dom : Nat) (non : Nat) (mm : Int32) (cs : List Int32) (tr : Nat → Int32) (T0 : State) (locs : List Loc) (h0 : Heap) (hdn : n0 ≤ dom) (X0 : Stand p l e room_1 s m args below meth c T0 locs 11 404) (e0 : T0.heap = h0) (N0 : Fr n0 locs) (O0 : Old Z n0 h0) (D : Rs Z h0 dom non cs tr) (hc : Cel c1) (hl : cs.length ≤ 2) :
    ∃ (T' : State) (locs' : List Loc) (cs' : List Int32) (tr' : Nat → Int32), Stand p l e room_1 s m args below meth c T' locs' 11 404 ∧ Fr n0 locs' ∧ Old Z n0 T'.heap ∧ Rs Z T'.heap dom non cs' tr' ∧ ((nn < 2 ∧ cs' = cs) ∨ (¬ nn < 2 ∧ cs' = cs ++ [c1])) ∧ ∀ t, Steps p.tables e below (T'.setTop (mkF m 175 #[.val (.int p1), .val (.int p2), .val (.int p3), .val (.int p4), .val (.int c0), .val (.int c1), .val (.int c2), .val (.int nn), .val (.int jj), .val (.ref dom), .val (.ref non), .val (.int mm), .unset, .unset, .unset, .unset, .unset, .unset, .unset, .unset, .unset, .unset] [])) t → Steps p.tables e below (T0.setTop (mkF m 152 #[.val (.int p1), .val (.int p2), .val (.int p3), .val (.int p4), .val (.int c0), .val (.int c1), .val (.int c2), .val (.int nn), .val (.int jj), .val (.ref dom), .val (.ref non), .val (.int mm), .unset, .unset, .unset, .unset, .unset, .unset, .unset, .unset, .unset, .unset] [])) t := by
  by_cases h : nn < (2 : Int32)
  · obtain ⟨T2, L2, X2, N2, e2, c2'⟩ := pR10 p1 p2 p3 p4 c0 c1 c2 nn jj dom non mm X0 hx hZ hw hby hml hown e0 N0 O0 h
    exact ⟨T2, L2, cs, tr, X2, N2, by rw [e2]; exact O0, by rw [e2]; exact D, Or.inl ⟨h, rfl⟩, c2'⟩
  · obtain ⟨T2, L2, X2, N2, e2, c2'⟩ := pR11 p1 p2 p3 p4 c0 c1 c2 nn jj dom non mm X0 hx hZ hw hby hml hown e0 N0 O0 h
    obtain ⟨T3, _, L3, X3, ⟨rfl, N3, P3, O3, D3⟩, c3⟩ := cR1 (Ls := #[.val (.int p1), .val (.int p2), .val (.int p3), .val (.int p4), .val (.int c0), .val (.int c1), .val (.int c2), .val (.int nn), .val (.int jj), .val (.ref dom), .val (.ref non), .val (.int mm), .unset, .unset, .unset, .unset, .unset, .unset, .unset, .unset, .unset, .unset]) dom (dp c1) (vl c1) non X2 hx hZ hw hby hml hown e2 rfl D.1.exa (rmRemove l Z a0 hw dom (dp c1) (vl c1) non dom 2 64 _ _ _ tr _ h0 n0 O0 hdn D.1 hc.rd hc.rv (by omega) D.2.2) (by decide) (by decide) (by decide) (by decide)
    refine ⟨T3, _, cs ++ [c1], _, X3, Fr.app N2 N3, O3, ⟨?_, D.2.1.add c1, P3.2 _ _ D.2.2⟩, Or.inr ⟨h, rfl⟩, fun t kt => c2' t (c3 t kt)⟩
    rw [LF_add, LJ_add, LM_add, List.length_append]
    exact D3
set_option maxRecDepth 65536 in
set_option maxHeartbeats 4000000 in
theorem cdR2 (hx : p.tables.exec = Jvm.exec) (hZ : Z.Warmed39 s.vm) (hw : ∀ d ∈ tables_1, d.before a0 Z = true) (hby : c.code = code) (hml : c.maxLocals = 22) (hown : s.vm.findClass "com/example/caprice/caprice/solver/DomainsRestorePinLaw" = some m.cls) (p1 : Int32) (p2 : Int32) (p3 : Int32) (p4 : Int32) (c0 : Int32) (c1 : Int32) (c2 : Int32) (nn : Int32) (jj : Int32) (dom : Nat) (non : Nat) (mm : Int32) (cs : List Int32) (tr : Nat → Int32) (T0 : State) (locs : List Loc) (h0 : Heap) (hdn : n0 ≤ dom) (X0 : Stand p l e room_1 s m args below meth c T0 locs 11 404) (e0 : T0.heap = h0) (N0 : Fr n0 locs) (O0 : Old Z n0 h0) (D : Rs Z h0 dom non cs tr) (hc : Cel c2) (hl : cs.length ≤ 2) :
    ∃ (T' : State) (locs' : List Loc) (cs' : List Int32) (tr' : Nat → Int32), Stand p l e room_1 s m args below meth c T' locs' 11 404 ∧ Fr n0 locs' ∧ Old Z n0 T'.heap ∧ Rs Z T'.heap dom non cs' tr' ∧ ((nn < 3 ∧ cs' = cs) ∨ (¬ nn < 3 ∧ cs' = cs ++ [c2])) ∧ ∀ t, Steps p.tables e below (T'.setTop (mkF m 211 #[.val (.int p1), .val (.int p2), .val (.int p3), .val (.int p4), .val (.int c0), .val (.int c1), .val (.int c2), .val (.int nn), .val (.int jj), .val (.ref dom), .val (.ref non), .val (.int mm), .unset, .unset, .unset, .unset, .unset, .unset, .unset, .unset, .unset, .unset] [])) t → Steps p.tables e below (T0.setTop (mkF m 188 #[.val (.int p1), .val (.int p2), .val (.int p3), .val (.int p4), .val (.int c0), .val (.int c1), .val (.int c2), .val (.int nn), .val (.int jj), .val (.ref dom), .val (.ref non), .val (.int mm), .unset, .unset, .unset, .unset, .unset, .unset, .unset, .unset, .unset, .unset] [])) t := by
  by_cases h : nn < (3 : Int32)
  · obtain ⟨T2, L2, X2, N2, e2, c2'⟩ := pR20 p1 p2 p3 p4 c0 c1 c2 nn jj dom non mm X0 hx hZ hw hby hml hown e0 N0 O0 h
    exact ⟨T2, L2, cs, tr, X2, N2, by rw [e2]; exact O0, by rw [e2]; exact D, Or.inl ⟨h, rfl⟩, c2'⟩
  · obtain ⟨T2, L2, X2, N2, e2, c2'⟩ := pR21 p1 p2 p3 p4 c0 c1 c2 nn jj dom non mm X0 hx hZ hw hby hml hown e0 N0 O0 h
    obtain ⟨T3, _, L3, X3, ⟨rfl, N3, P3, O3, D3⟩, c3⟩ := cR2 (Ls := #[.val (.int p1), .val (.int p2), .val (.int p3), .val (.int p4), .val (.int c0), .val (.int c1), .val (.int c2), .val (.int nn), .val (.int jj), .val (.ref dom), .val (.ref non), .val (.int mm), .unset, .unset, .unset, .unset, .unset, .unset, .unset, .unset, .unset, .unset]) dom (dp c2) (vl c2) non X2 hx hZ hw hby hml hown e2 rfl D.1.exa (rmRemove l Z a0 hw dom (dp c2) (vl c2) non dom 2 64 _ _ _ tr _ h0 n0 O0 hdn D.1 hc.rd hc.rv (by omega) D.2.2) (by decide) (by decide) (by decide) (by decide)
    refine ⟨T3, _, cs ++ [c2], _, X3, Fr.app N2 N3, O3, ⟨?_, D.2.1.add c2, P3.2 _ _ D.2.2⟩, Or.inr ⟨h, rfl⟩, fun t kt => c2' t (c3 t kt)⟩
    rw [LF_add, LJ_add, LM_add, List.length_append]
    exact D3
set_option maxRecDepth 65536 in
set_option maxHeartbeats 4000000 in
theorem cdF (hx : p.tables.exec = Jvm.exec) (hZ : Z.Warmed39 s.vm) (hw : ∀ d ∈ tables_1, d.before a0 Z = true) (hby : c.code = code) (hml : c.maxLocals = 22) (hown : s.vm.findClass "com/example/caprice/caprice/solver/DomainsRestorePinLaw" = some m.cls) (p1 : Int32) (p2 : Int32) (p3 : Int32) (p4 : Int32) (c0 : Int32) (c1 : Int32) (c2 : Int32) (nn : Int32) (jj : Int32) (dom : Nat) (non : Nat) (mm : Int32) (T0 : State) (locs : List Loc) (h0 : Heap) (X0 : Stand p l e room_1 s m args below meth c T0 locs 11 404) (e0 : T0.heap = h0) (N0 : Fr n0 locs) (O0 : Old Z n0 h0) :
    ∃ (T' : State) (locs' : List Loc) (r1 r2 r3 : Int32), Stand p l e room_1 s m args below meth c T' locs' 11 404 ∧ Fr n0 locs' ∧ T'.heap = h0 ∧ ((jj < 1 ∧ r1 = 0) ∨ (¬ jj < 1 ∧ r1 = 1)) ∧ ((jj < 2 ∧ r2 = 0) ∨ (¬ jj < 2 ∧ r2 = 1)) ∧ ((jj < 3 ∧ r3 = 0) ∨ (¬ jj < 3 ∧ r3 = 1)) ∧ ∀ t, Steps p.tables e below (T'.setTop (mkF m 270 #[.val (.int p1), .val (.int p2), .val (.int p3), .val (.int p4), .val (.int c0), .val (.int c1), .val (.int c2), .val (.int nn), .val (.int jj), .val (.ref dom), .val (.ref non), .val (.int mm), .val (.int r1), .val (.int r2), .val (.int r3), .unset, .unset, .unset, .unset, .unset, .unset, .unset] [])) t → Steps p.tables e below (T0.setTop (mkF m 231 #[.val (.int p1), .val (.int p2), .val (.int p3), .val (.int p4), .val (.int c0), .val (.int c1), .val (.int c2), .val (.int nn), .val (.int jj), .val (.ref dom), .val (.ref non), .val (.int mm), .unset, .unset, .unset, .unset, .unset, .unset, .unset, .unset, .unset, .unset] [])) t := by
  obtain ⟨TF0, LF0, r1, hr1, XF0, NF0, eF0, cF0⟩ : ∃ (T' : State) (L' : List Loc) (r1 : Int32), ((jj < 1 ∧ r1 = 0) ∨ (¬ jj < 1 ∧ r1 = 1)) ∧ Stand p l e room_1 s m args below meth c T' L' 11 404 ∧ Fr n0 L' ∧ T'.heap = h0 ∧ ∀ t, Steps p.tables e below (T'.setTop (mkF m 244 #[.val (.int p1), .val (.int p2), .val (.int p3), .val (.int p4), .val (.int c0), .val (.int c1), .val (.int c2), .val (.int nn), .val (.int jj), .val (.ref dom), .val (.ref non), .val (.int mm), .val (.int r1), .unset, .unset, .unset, .unset, .unset, .unset, .unset, .unset, .unset] [])) t → Steps p.tables e below (T0.setTop (mkF m 231 #[.val (.int p1), .val (.int p2), .val (.int p3), .val (.int p4), .val (.int c0), .val (.int c1), .val (.int c2), .val (.int nn), .val (.int jj), .val (.ref dom), .val (.ref non), .val (.int mm), .unset, .unset, .unset, .unset, .unset, .unset, .unset, .unset, .unset, .unset] [])) t := by
    by_cases hb : jj < (1 : Int32)
    · obtain ⟨T', L', X', N', e', c'⟩ := pF00 p1 p2 p3 p4 c0 c1 c2 nn jj dom non mm X0 hx hZ hw hby hml hown e0 N0 O0 hb
      exact ⟨T', L', 0, Or.inl ⟨hb, rfl⟩, X', N', e', c'⟩
    · obtain ⟨T', L', X', N', e', c'⟩ := pF01 p1 p2 p3 p4 c0 c1 c2 nn jj dom non mm X0 hx hZ hw hby hml hown e0 N0 O0 hb
      exact ⟨T', L', 1, Or.inr ⟨hb, rfl⟩, X', N', e', c'⟩
  obtain ⟨TF1, LF1, r2, hr2, XF1, NF1, eF1, cF1⟩ : ∃ (T' : State) (L' : List Loc) (r2 : Int32), ((jj < 2 ∧ r2 = 0) ∨ (¬ jj < 2 ∧ r2 = 1)) ∧ Stand p l e room_1 s m args below meth c T' L' 11 404 ∧ Fr n0 L' ∧ T'.heap = h0 ∧ ∀ t, Steps p.tables e below (T'.setTop (mkF m 257 #[.val (.int p1), .val (.int p2), .val (.int p3), .val (.int p4), .val (.int c0), .val (.int c1), .val (.int c2), .val (.int nn), .val (.int jj), .val (.ref dom), .val (.ref non), .val (.int mm), .val (.int r1), .val (.int r2), .unset, .unset, .unset, .unset, .unset, .unset, .unset, .unset] [])) t → Steps p.tables e below (TF0.setTop (mkF m 244 #[.val (.int p1), .val (.int p2), .val (.int p3), .val (.int p4), .val (.int c0), .val (.int c1), .val (.int c2), .val (.int nn), .val (.int jj), .val (.ref dom), .val (.ref non), .val (.int mm), .val (.int r1), .unset, .unset, .unset, .unset, .unset, .unset, .unset, .unset, .unset] [])) t := by
    by_cases hb : jj < (2 : Int32)
    · obtain ⟨T', L', X', N', e', c'⟩ := pF10 p1 p2 p3 p4 c0 c1 c2 nn jj dom non mm r1 XF0 hx hZ hw hby hml hown eF0 NF0 O0 hb
      exact ⟨T', L', 0, Or.inl ⟨hb, rfl⟩, X', N', e', c'⟩
    · obtain ⟨T', L', X', N', e', c'⟩ := pF11 p1 p2 p3 p4 c0 c1 c2 nn jj dom non mm r1 XF0 hx hZ hw hby hml hown eF0 NF0 O0 hb
      exact ⟨T', L', 1, Or.inr ⟨hb, rfl⟩, X', N', e', c'⟩
  obtain ⟨TF2, LF2, r3, hr3, XF2, NF2, eF2, cF2⟩ : ∃ (T' : State) (L' : List Loc) (r3 : Int32), ((jj < 3 ∧ r3 = 0) ∨ (¬ jj < 3 ∧ r3 = 1)) ∧ Stand p l e room_1 s m args below meth c T' L' 11 404 ∧ Fr n0 L' ∧ T'.heap = h0 ∧ ∀ t, Steps p.tables e below (T'.setTop (mkF m 270 #[.val (.int p1), .val (.int p2), .val (.int p3), .val (.int p4), .val (.int c0), .val (.int c1), .val (.int c2), .val (.int nn), .val (.int jj), .val (.ref dom), .val (.ref non), .val (.int mm), .val (.int r1), .val (.int r2), .val (.int r3), .unset, .unset, .unset, .unset, .unset, .unset, .unset] [])) t → Steps p.tables e below (TF1.setTop (mkF m 257 #[.val (.int p1), .val (.int p2), .val (.int p3), .val (.int p4), .val (.int c0), .val (.int c1), .val (.int c2), .val (.int nn), .val (.int jj), .val (.ref dom), .val (.ref non), .val (.int mm), .val (.int r1), .val (.int r2), .unset, .unset, .unset, .unset, .unset, .unset, .unset, .unset] [])) t := by
    by_cases hb : jj < (3 : Int32)
    · obtain ⟨T', L', X', N', e', c'⟩ := pF20 p1 p2 p3 p4 c0 c1 c2 nn jj dom non mm r1 r2 XF1 hx hZ hw hby hml hown eF1 NF1 O0 hb
      exact ⟨T', L', 0, Or.inl ⟨hb, rfl⟩, X', N', e', c'⟩
    · obtain ⟨T', L', X', N', e', c'⟩ := pF21 p1 p2 p3 p4 c0 c1 c2 nn jj dom non mm r1 r2 XF1 hx hZ hw hby hml hown eF1 NF1 O0 hb
      exact ⟨T', L', 1, Or.inr ⟨hb, rfl⟩, X', N', e', c'⟩
  exact ⟨TF2, LF2, r1, r2, r3, XF2, NF2, eF2, hr1, hr2, hr3, fun t kt => cF0 t (cF1 t (cF2 t kt))⟩
set_option maxRecDepth 65536 in
set_option maxHeartbeats 4000000 in
theorem lawEnd (hx : p.tables.exec = Jvm.exec) (hZ : Z.Warmed39 s.vm) (hw : ∀ d ∈ tables_1, d.before a0 Z = true) (hby : c.code = code) (hml : c.maxLocals = 22) (hown : s.vm.findClass "com/example/caprice/caprice/solver/DomainsRestorePinLaw" = some m.cls) (hret : meth.sig.returnType = some .boolean) (hlk : meth.locks = false) (p1 : Int32) (p2 : Int32) (p3 : Int32) (p4 : Int32) (c0 : Int32) (c1 : Int32) (c2 : Int32) (nn : Int32) (jj : Int32) (dom : Nat) (non : Nat) (mm : Int32) (r1 : Int32) (r2 : Int32) (r3 : Int32) (pre : List Int32) (tr : Nat → Int32) (T0 : State) (locs : List Loc) (h0 : Heap) (X0 : Stand p l e room_1 s m args below meth c T0 locs 11 404) (e0 : T0.heap = h0) (N0 : Fr n0 locs) (O0 : Old Z n0 h0) (D : Dm Z h0 dom dom 2 64 (LM non pre) (LF pre) (LJ pre) tr (2 * pre.length)) (hm : mm = Int32.ofNat (2 * pre.length)) (hj : (pre = [] ∧ jj = 0) ∨ (pre = [c0] ∧ jj = 1) ∨ (pre = [c0, c1] ∧ jj = 2) ∨ (pre = [c0, c1, c2] ∧ jj = 3)) (FL : Flg c0 c1 c2 pre r1 r2 r3) (h0c : Cel c0) (h1c : Cel c1) (h2c : Cel c2) (n1 : c0 ≠ c1) (n2 : c0 ≠ c2)
    (pre0 : ∀ t, Steps p.tables e below (T0.setTop (mkF m 270 #[.val (.int p1), .val (.int p2), .val (.int p3), .val (.int p4), .val (.int c0), .val (.int c1), .val (.int c2), .val (.int nn), .val (.int jj), .val (.ref dom), .val (.ref non), .val (.int mm), .val (.int r1), .val (.int r2), .val (.int r3), .unset, .unset, .unset, .unset, .unset, .unset, .unset] [])) t → Steps p.tables e below entry t) : GoalQ p e below s entry n0 := by
  obtain ⟨u0, w0⟩ := own_fin h0c h1c h2c FL (d := 0) (Or.inl rfl)
  obtain ⟨u1, w1⟩ := own_fin h0c h1c h2c FL (d := 1) (Or.inr rfl)
  obtain ⟨b00, hb00⟩ : ∃ z, z = bitV c0 0 r1 := ⟨_, rfl⟩
  obtain ⟨o00, ho00⟩ : ∃ z, z = oneV c0 0 r1 := ⟨_, rfl⟩
  obtain ⟨b01, hb01⟩ : ∃ z, z = bitV c1 0 r2 := ⟨_, rfl⟩
  obtain ⟨o01, ho01⟩ : ∃ z, z = oneV c1 0 r2 := ⟨_, rfl⟩
  obtain ⟨b02, hb02⟩ : ∃ z, z = bitV c2 0 r3 := ⟨_, rfl⟩
  obtain ⟨o02, ho02⟩ : ∃ z, z = oneV c2 0 r3 := ⟨_, rfl⟩
  rw [← ho00, ← ho01, ← ho02] at u0
  rw [← hb00, ← hb01, ← hb02] at w0
  obtain ⟨b10, hb10⟩ : ∃ z, z = bitV c0 1 r1 := ⟨_, rfl⟩
  obtain ⟨o10, ho10⟩ : ∃ z, z = oneV c0 1 r1 := ⟨_, rfl⟩
  obtain ⟨b11, hb11⟩ : ∃ z, z = bitV c1 1 r2 := ⟨_, rfl⟩
  obtain ⟨o11, ho11⟩ : ∃ z, z = oneV c1 1 r2 := ⟨_, rfl⟩
  obtain ⟨b12, hb12⟩ : ∃ z, z = bitV c2 1 r3 := ⟨_, rfl⟩
  obtain ⟨o12, ho12⟩ : ∃ z, z = oneV c2 1 r3 := ⟨_, rfl⟩
  rw [← ho10, ← ho11, ← ho12] at u1
  rw [← hb10, ← hb11, ← hb12] at w1
  obtain ⟨Ta1, La1, Xa1, Na1, ea1, sa1⟩ := pG0 p1 p2 p3 p4 c0 c1 c2 nn jj dom non mm r1 r2 r3  X0 hx hZ hw hby hml hown e0 N0 O0
  obtain ⟨Ta2, _, La2, Xa2, ⟨rfl, Na2, ea2⟩, sa2⟩ := cG0 (Ls := #[.val (.int p1), .val (.int p2), .val (.int p3), .val (.int p4), .val (.int c0), .val (.int c1), .val (.int c2), .val (.int nn), .val (.int jj), .val (.ref dom), .val (.ref non), .val (.int mm), .val (.int r1), .val (.int r2), .val (.int r3), .unset, .unset, .unset, .unset, .unset, .unset, .unset]) c0 0 r1 Xa1 hx hZ hw hby hml hown ea1 rfl (hb00 ▸ rmBit l Z a0 hw c0 0 r1 h0 n0 O0) (by decide) (by decide) (by decide) (by decide)
  obtain ⟨Ta3, La3, Xa3, Na3, ea3, sa3⟩ := pG1 p1 p2 p3 p4 c0 c1 c2 nn jj dom non mm r1 r2 r3 b00 Xa2 hx hZ hw hby hml hown ea2 (Fr.app Na1 Na2) O0
  obtain ⟨Ta4, _, La4, Xa4, ⟨rfl, Na4, ea4⟩, sa4⟩ := cG1 (Ls := #[.val (.int p1), .val (.int p2), .val (.int p3), .val (.int p4), .val (.int c0), .val (.int c1), .val (.int c2), .val (.int nn), .val (.int jj), .val (.ref dom), .val (.ref non), .val (.int mm), .val (.int r1), .val (.int r2), .val (.int r3), .unset, .unset, .unset, .unset, .unset, .unset, .unset]) c1 0 r2 b00 Xa3 hx hZ hw hby hml hown ea3 rfl (hb01 ▸ rmBit l Z a0 hw c1 0 r2 h0 n0 O0) (by decide) (by decide) (by decide) (by decide)
  obtain ⟨Ta5, La5, Xa5, Na5, ea5, sa5⟩ := pG2 p1 p2 p3 p4 c0 c1 c2 nn jj dom non mm r1 r2 r3 b01 b00 Xa4 hx hZ hw hby hml hown ea4 (Fr.app Na3 Na4) O0
  obtain ⟨Ta6, _, La6, Xa6, ⟨rfl, Na6, ea6⟩, sa6⟩ := cG2 (Ls := #[.val (.int p1), .val (.int p2), .val (.int p3), .val (.int p4), .val (.int c0), .val (.int c1), .val (.int c2), .val (.int nn), .val (.int jj), .val (.ref dom), .val (.ref non), .val (.int mm), .val (.int r1), .val (.int r2), .val (.int r3), .unset, .unset, .unset, .unset, .unset, .unset, .unset]) c2 0 r3 (b00 ||| b01) Xa5 hx hZ hw hby hml hown ea5 rfl (hb02 ▸ rmBit l Z a0 hw c2 0 r3 h0 n0 O0) (by decide) (by decide) (by decide) (by decide)
  obtain ⟨Ta7, La7, Xa7, Na7, ea7, sa7⟩ := pG3 p1 p2 p3 p4 c0 c1 c2 nn jj dom non mm r1 r2 r3 b02 (b00 ||| b01) Xa6 hx hZ hw hby hml hown ea6 (Fr.app Na5 Na6) O0
  obtain ⟨Ta8, _, La8, Xa8, ⟨rfl, Na8, ea8⟩, sa8⟩ := cG3 (Ls := #[.val (.int p1), .val (.int p2), .val (.int p3), .val (.int p4), .val (.int c0), .val (.int c1), .val (.int c2), .val (.int nn), .val (.int jj), .val (.ref dom), .val (.ref non), .val (.int mm), .val (.int r1), .val (.int r2), .val (.int r3), .val (.long (((b00 ||| b01) ||| b02) ^^^ (-1 : Int64))), .second, .unset, .unset, .unset, .unset, .unset]) c0 1 r1 Xa7 hx hZ hw hby hml hown ea7 rfl (hb10 ▸ rmBit l Z a0 hw c0 1 r1 h0 n0 O0) (by decide) (by decide) (by decide) (by decide)
  obtain ⟨Ta9, La9, Xa9, Na9, ea9, sa9⟩ := pG4 p1 p2 p3 p4 c0 c1 c2 nn jj dom non mm r1 r2 r3 (((b00 ||| b01) ||| b02) ^^^ (-1 : Int64)) b10 Xa8 hx hZ hw hby hml hown ea8 (Fr.app Na7 Na8) O0
  obtain ⟨Ta10, _, La10, Xa10, ⟨rfl, Na10, ea10⟩, sa10⟩ := cG4 (Ls := #[.val (.int p1), .val (.int p2), .val (.int p3), .val (.int p4), .val (.int c0), .val (.int c1), .val (.int c2), .val (.int nn), .val (.int jj), .val (.ref dom), .val (.ref non), .val (.int mm), .val (.int r1), .val (.int r2), .val (.int r3), .val (.long (((b00 ||| b01) ||| b02) ^^^ (-1 : Int64))), .second, .unset, .unset, .unset, .unset, .unset]) c1 1 r2 b10 Xa9 hx hZ hw hby hml hown ea9 rfl (hb11 ▸ rmBit l Z a0 hw c1 1 r2 h0 n0 O0) (by decide) (by decide) (by decide) (by decide)
  obtain ⟨Ta11, La11, Xa11, Na11, ea11, sa11⟩ := pG5 p1 p2 p3 p4 c0 c1 c2 nn jj dom non mm r1 r2 r3 (((b00 ||| b01) ||| b02) ^^^ (-1 : Int64)) b11 b10 Xa10 hx hZ hw hby hml hown ea10 (Fr.app Na9 Na10) O0
  obtain ⟨Ta12, _, La12, Xa12, ⟨rfl, Na12, ea12⟩, sa12⟩ := cG5 (Ls := #[.val (.int p1), .val (.int p2), .val (.int p3), .val (.int p4), .val (.int c0), .val (.int c1), .val (.int c2), .val (.int nn), .val (.int jj), .val (.ref dom), .val (.ref non), .val (.int mm), .val (.int r1), .val (.int r2), .val (.int r3), .val (.long (((b00 ||| b01) ||| b02) ^^^ (-1 : Int64))), .second, .unset, .unset, .unset, .unset, .unset]) c2 1 r3 (b10 ||| b11) Xa11 hx hZ hw hby hml hown ea11 rfl (hb12 ▸ rmBit l Z a0 hw c2 1 r3 h0 n0 O0) (by decide) (by decide) (by decide) (by decide)
  obtain ⟨Ta13, La13, Xa13, Na13, ea13, sa13⟩ := pG6 p1 p2 p3 p4 c0 c1 c2 nn jj dom non mm r1 r2 r3 (((b00 ||| b01) ||| b02) ^^^ (-1 : Int64)) b12 (b10 ||| b11) Xa12 hx hZ hw hby hml hown ea12 (Fr.app Na11 Na12) O0
  obtain ⟨Ta14, _, La14, Xa14, ⟨rfl, Na14, ea14⟩, sa14⟩ := cG6 (Ls := #[.val (.int p1), .val (.int p2), .val (.int p3), .val (.int p4), .val (.int c0), .val (.int c1), .val (.int c2), .val (.int nn), .val (.int jj), .val (.ref dom), .val (.ref non), .val (.int mm), .val (.int r1), .val (.int r2), .val (.int r3), .val (.long (((b00 ||| b01) ||| b02) ^^^ (-1 : Int64))), .second, .val (.long (((b10 ||| b11) ||| b12) ^^^ (-1 : Int64))), .second, .unset, .unset, .unset]) c0 0 r1 64 Xa13 hx hZ hw hby hml hown ea13 rfl (ho00 ▸ rmOne l Z a0 hw c0 0 r1 h0 n0 O0) (by decide) (by decide) (by decide) (by decide)
  obtain ⟨Ta15, La15, Xa15, Na15, ea15, sa15⟩ := pG7 p1 p2 p3 p4 c0 c1 c2 nn jj dom non mm r1 r2 r3 (((b00 ||| b01) ||| b02) ^^^ (-1 : Int64)) (((b10 ||| b11) ||| b12) ^^^ (-1 : Int64)) o00 64 Xa14 hx hZ hw hby hml hown ea14 (Fr.app Na13 Na14) O0
  obtain ⟨Ta16, _, La16, Xa16, ⟨rfl, Na16, ea16⟩, sa16⟩ := cG7 (Ls := #[.val (.int p1), .val (.int p2), .val (.int p3), .val (.int p4), .val (.int c0), .val (.int c1), .val (.int c2), .val (.int nn), .val (.int jj), .val (.ref dom), .val (.ref non), .val (.int mm), .val (.int r1), .val (.int r2), .val (.int r3), .val (.long (((b00 ||| b01) ||| b02) ^^^ (-1 : Int64))), .second, .val (.long (((b10 ||| b11) ||| b12) ^^^ (-1 : Int64))), .second, .unset, .unset, .unset]) c1 0 r2 (64 - o00) Xa15 hx hZ hw hby hml hown ea15 rfl (ho01 ▸ rmOne l Z a0 hw c1 0 r2 h0 n0 O0) (by decide) (by decide) (by decide) (by decide)
  obtain ⟨Ta17, La17, Xa17, Na17, ea17, sa17⟩ := pG8 p1 p2 p3 p4 c0 c1 c2 nn jj dom non mm r1 r2 r3 (((b00 ||| b01) ||| b02) ^^^ (-1 : Int64)) (((b10 ||| b11) ||| b12) ^^^ (-1 : Int64)) o01 (64 - o00) Xa16 hx hZ hw hby hml hown ea16 (Fr.app Na15 Na16) O0
  obtain ⟨Ta18, _, La18, Xa18, ⟨rfl, Na18, ea18⟩, sa18⟩ := cG8 (Ls := #[.val (.int p1), .val (.int p2), .val (.int p3), .val (.int p4), .val (.int c0), .val (.int c1), .val (.int c2), .val (.int nn), .val (.int jj), .val (.ref dom), .val (.ref non), .val (.int mm), .val (.int r1), .val (.int r2), .val (.int r3), .val (.long (((b00 ||| b01) ||| b02) ^^^ (-1 : Int64))), .second, .val (.long (((b10 ||| b11) ||| b12) ^^^ (-1 : Int64))), .second, .unset, .unset, .unset]) c2 0 r3 ((64 - o00) - o01) Xa17 hx hZ hw hby hml hown ea17 rfl (ho02 ▸ rmOne l Z a0 hw c2 0 r3 h0 n0 O0) (by decide) (by decide) (by decide) (by decide)
  obtain ⟨Ta19, La19, Xa19, Na19, ea19, sa19⟩ := pG9 p1 p2 p3 p4 c0 c1 c2 nn jj dom non mm r1 r2 r3 (((b00 ||| b01) ||| b02) ^^^ (-1 : Int64)) (((b10 ||| b11) ||| b12) ^^^ (-1 : Int64)) o02 ((64 - o00) - o01) Xa18 hx hZ hw hby hml hown ea18 (Fr.app Na17 Na18) O0
  obtain ⟨Ta20, _, La20, Xa20, ⟨rfl, Na20, ea20⟩, sa20⟩ := cG9 (Ls := #[.val (.int p1), .val (.int p2), .val (.int p3), .val (.int p4), .val (.int c0), .val (.int c1), .val (.int c2), .val (.int nn), .val (.int jj), .val (.ref dom), .val (.ref non), .val (.int mm), .val (.int r1), .val (.int r2), .val (.int r3), .val (.long (((b00 ||| b01) ||| b02) ^^^ (-1 : Int64))), .second, .val (.long (((b10 ||| b11) ||| b12) ^^^ (-1 : Int64))), .second, .val (.int (((64 - o00) - o01) - o02)), .unset, .unset]) c0 1 r1 64 Xa19 hx hZ hw hby hml hown ea19 rfl (ho10 ▸ rmOne l Z a0 hw c0 1 r1 h0 n0 O0) (by decide) (by decide) (by decide) (by decide)
  obtain ⟨Ta21, La21, Xa21, Na21, ea21, sa21⟩ := pGa p1 p2 p3 p4 c0 c1 c2 nn jj dom non mm r1 r2 r3 (((b00 ||| b01) ||| b02) ^^^ (-1 : Int64)) (((b10 ||| b11) ||| b12) ^^^ (-1 : Int64)) (((64 - o00) - o01) - o02) o10 64 Xa20 hx hZ hw hby hml hown ea20 (Fr.app Na19 Na20) O0
  obtain ⟨Ta22, _, La22, Xa22, ⟨rfl, Na22, ea22⟩, sa22⟩ := cGa (Ls := #[.val (.int p1), .val (.int p2), .val (.int p3), .val (.int p4), .val (.int c0), .val (.int c1), .val (.int c2), .val (.int nn), .val (.int jj), .val (.ref dom), .val (.ref non), .val (.int mm), .val (.int r1), .val (.int r2), .val (.int r3), .val (.long (((b00 ||| b01) ||| b02) ^^^ (-1 : Int64))), .second, .val (.long (((b10 ||| b11) ||| b12) ^^^ (-1 : Int64))), .second, .val (.int (((64 - o00) - o01) - o02)), .unset, .unset]) c1 1 r2 (64 - o10) Xa21 hx hZ hw hby hml hown ea21 rfl (ho11 ▸ rmOne l Z a0 hw c1 1 r2 h0 n0 O0) (by decide) (by decide) (by decide) (by decide)
  obtain ⟨Ta23, La23, Xa23, Na23, ea23, sa23⟩ := pGb p1 p2 p3 p4 c0 c1 c2 nn jj dom non mm r1 r2 r3 (((b00 ||| b01) ||| b02) ^^^ (-1 : Int64)) (((b10 ||| b11) ||| b12) ^^^ (-1 : Int64)) (((64 - o00) - o01) - o02) o11 (64 - o10) Xa22 hx hZ hw hby hml hown ea22 (Fr.app Na21 Na22) O0
  obtain ⟨Ta24, _, La24, Xa24, ⟨rfl, Na24, ea24⟩, sa24⟩ := cGb (Ls := #[.val (.int p1), .val (.int p2), .val (.int p3), .val (.int p4), .val (.int c0), .val (.int c1), .val (.int c2), .val (.int nn), .val (.int jj), .val (.ref dom), .val (.ref non), .val (.int mm), .val (.int r1), .val (.int r2), .val (.int r3), .val (.long (((b00 ||| b01) ||| b02) ^^^ (-1 : Int64))), .second, .val (.long (((b10 ||| b11) ||| b12) ^^^ (-1 : Int64))), .second, .val (.int (((64 - o00) - o01) - o02)), .unset, .unset]) c2 1 r3 ((64 - o10) - o11) Xa23 hx hZ hw hby hml hown ea23 rfl (ho12 ▸ rmOne l Z a0 hw c2 1 r3 h0 n0 O0) (by decide) (by decide) (by decide) (by decide)
  obtain ⟨Ta25, La25, Xa25, Na25, ea25, sa25⟩ := pH0 p1 p2 p3 p4 c0 c1 c2 nn jj dom non mm r1 r2 r3 (((b00 ||| b01) ||| b02) ^^^ (-1 : Int64)) (((b10 ||| b11) ||| b12) ^^^ (-1 : Int64)) (((64 - o00) - o01) - o02) o12 ((64 - o10) - o11) Xa24 hx hZ hw hby hml hown ea24 (Fr.app Na23 Na24) O0
  obtain ⟨Ta26, La26, Xa26, Na26, ea26, sa26⟩ := pH1 p1 p2 p3 p4 c0 c1 c2 nn jj dom non mm r1 r2 r3 (((b00 ||| b01) ||| b02) ^^^ (-1 : Int64)) (((b10 ||| b11) ||| b12) ^^^ (-1 : Int64)) (((64 - o00) - o01) - o02) (((64 - o10) - o11) - o12)  Xa25 hx hZ hw hby hml hown ea25 Na25 O0 (hm.trans (own_mj hj))
  obtain ⟨Ta27, _, La27, Xa27, ⟨rfl, Na27, ea27⟩, sa27⟩ := cH1 (Ls := #[.val (.int p1), .val (.int p2), .val (.int p3), .val (.int p4), .val (.int c0), .val (.int c1), .val (.int c2), .val (.int nn), .val (.int jj), .val (.ref dom), .val (.ref non), .val (.int mm), .val (.int r1), .val (.int r2), .val (.int r3), .val (.long (((b00 ||| b01) ||| b02) ^^^ (-1 : Int64))), .second, .val (.long (((b10 ||| b11) ||| b12) ^^^ (-1 : Int64))), .second, .val (.int (((64 - o00) - o01) - o02)), .val (.int (((64 - o10) - o11) - o12)), .unset]) dom Xa26 hx hZ hw hby hml hown ea26 rfl D.exa (rmMark l Z a0 hw dom dom 2 64 _ _ _ tr _ h0 n0 O0 D) (by decide) (by decide) (by decide) (by decide)
  obtain ⟨Ta28, La28, Xa28, Na28, ea28, sa28⟩ := pH2 p1 p2 p3 p4 c0 c1 c2 nn jj dom non mm r1 r2 r3 (((b00 ||| b01) ||| b02) ^^^ (-1 : Int64)) (((b10 ||| b11) ||| b12) ^^^ (-1 : Int64)) (((64 - o00) - o01) - o02) (((64 - o10) - o11) - o12) (Int32.ofNat (2 * pre.length)) Xa27 hx hZ hw hby hml hown ea27 (Fr.app Na26 Na27) O0 hm.symm
  obtain ⟨Ta29, _, La29, Xa29, ⟨rfl, Na29, ea29⟩, sa29⟩ := cH2 (Ls := #[.val (.int p1), .val (.int p2), .val (.int p3), .val (.int p4), .val (.int c0), .val (.int c1), .val (.int c2), .val (.int nn), .val (.int jj), .val (.ref dom), .val (.ref non), .val (.int mm), .val (.int r1), .val (.int r2), .val (.int r3), .val (.long (((b00 ||| b01) ||| b02) ^^^ (-1 : Int64))), .second, .val (.long (((b10 ||| b11) ||| b12) ^^^ (-1 : Int64))), .second, .val (.int (((64 - o00) - o01) - o02)), .val (.int (((64 - o10) - o11) - o12)), .unset]) dom 0 Xa28 hx hZ hw hby hml hown ea28 rfl D.exa (rmLeft l Z a0 hw dom dom 2 64 _ _ _ tr _ h0 n0 O0 D 0 (by decide)) (by decide) (by decide) (by decide) (by decide)
  obtain ⟨Ta30, La30, Xa30, Na30, ea30, sa30⟩ := pH3 p1 p2 p3 p4 c0 c1 c2 nn jj dom non mm r1 r2 r3 (((b00 ||| b01) ||| b02) ^^^ (-1 : Int64)) (((b10 ||| b11) ||| b12) ^^^ (-1 : Int64)) (((64 - o00) - o01) - o02) (((64 - o10) - o11) - o12) _ Xa29 hx hZ hw hby hml hown ea29 (Fr.app Na28 Na29) O0 u0
  obtain ⟨Ta31, _, La31, Xa31, ⟨rfl, Na31, ea31⟩, sa31⟩ := cH3 (Ls := #[.val (.int p1), .val (.int p2), .val (.int p3), .val (.int p4), .val (.int c0), .val (.int c1), .val (.int c2), .val (.int nn), .val (.int jj), .val (.ref dom), .val (.ref non), .val (.int mm), .val (.int r1), .val (.int r2), .val (.int r3), .val (.long (((b00 ||| b01) ||| b02) ^^^ (-1 : Int64))), .second, .val (.long (((b10 ||| b11) ||| b12) ^^^ (-1 : Int64))), .second, .val (.int (((64 - o00) - o01) - o02)), .val (.int (((64 - o10) - o11) - o12)), .unset]) dom 1 Xa30 hx hZ hw hby hml hown ea30 rfl D.exa (rmLeft l Z a0 hw dom dom 2 64 _ _ _ tr _ h0 n0 O0 D 1 (by decide)) (by decide) (by decide) (by decide) (by decide)
  obtain ⟨Ta32, La32, Xa32, Na32, ea32, sa32⟩ := pH4 p1 p2 p3 p4 c0 c1 c2 nn jj dom non mm r1 r2 r3 (((b00 ||| b01) ||| b02) ^^^ (-1 : Int64)) (((b10 ||| b11) ||| b12) ^^^ (-1 : Int64)) (((64 - o00) - o01) - o02) (((64 - o10) - o11) - o12) _ Xa31 hx hZ hw hby hml hown ea31 (Fr.app Na30 Na31) O0 u1
  obtain ⟨Ta33, _, La33, Xa33, ⟨rfl, Na33, ea33⟩, sa33⟩ := cH4 (Ls := #[.val (.int p1), .val (.int p2), .val (.int p3), .val (.int p4), .val (.int c0), .val (.int c1), .val (.int c2), .val (.int nn), .val (.int jj), .val (.ref dom), .val (.ref non), .val (.int mm), .val (.int r1), .val (.int r2), .val (.int r3), .val (.long (((b00 ||| b01) ||| b02) ^^^ (-1 : Int64))), .second, .val (.long (((b10 ||| b11) ||| b12) ^^^ (-1 : Int64))), .second, .val (.int (((64 - o00) - o01) - o02)), .val (.int (((64 - o10) - o11) - o12)), .unset]) dom 0 Xa32 hx hZ hw hby hml hown ea32 rfl D.exa (rmLeftMask l Z a0 hw dom dom 2 64 _ _ _ tr _ h0 n0 O0 D 0 (by decide)) (by decide) (by decide) (by decide) (by decide)
  obtain ⟨Ta34, La34, Xa34, Na34, ea34, sa34⟩ := pH5 p1 p2 p3 p4 c0 c1 c2 nn jj dom non mm r1 r2 r3 (((b00 ||| b01) ||| b02) ^^^ (-1 : Int64)) (((b10 ||| b11) ||| b12) ^^^ (-1 : Int64)) (((64 - o00) - o01) - o02) (((64 - o10) - o11) - o12) _ Xa33 hx hZ hw hby hml hown ea33 (Fr.app Na32 Na33) O0 w0
  obtain ⟨Ta35, _, La35, Xa35, ⟨rfl, Na35, ea35⟩, sa35⟩ := cH5 (Ls := #[.val (.int p1), .val (.int p2), .val (.int p3), .val (.int p4), .val (.int c0), .val (.int c1), .val (.int c2), .val (.int nn), .val (.int jj), .val (.ref dom), .val (.ref non), .val (.int mm), .val (.int r1), .val (.int r2), .val (.int r3), .val (.long (((b00 ||| b01) ||| b02) ^^^ (-1 : Int64))), .second, .val (.long (((b10 ||| b11) ||| b12) ^^^ (-1 : Int64))), .second, .val (.int (((64 - o00) - o01) - o02)), .val (.int (((64 - o10) - o11) - o12)), .unset]) dom 1 Xa34 hx hZ hw hby hml hown ea34 rfl D.exa (rmLeftMask l Z a0 hw dom dom 2 64 _ _ _ tr _ h0 n0 O0 D 1 (by decide)) (by decide) (by decide) (by decide) (by decide)
  obtain ⟨Ta36, La36, Xa36, Na36, ea36, sa36⟩ := pH6 p1 p2 p3 p4 c0 c1 c2 nn jj dom non mm r1 r2 r3 (((b00 ||| b01) ||| b02) ^^^ (-1 : Int64)) (((b10 ||| b11) ||| b12) ^^^ (-1 : Int64)) (((64 - o00) - o01) - o02) (((64 - o10) - o11) - o12) _ Xa35 hx hZ hw hby hml hown ea35 (Fr.app Na34 Na35) O0 w1
  by_cases hn : nn < (1 : Int32)
  · exact pZ0 p1 p2 p3 p4 c0 c1 c2 nn jj dom non mm r1 r2 r3 (((b00 ||| b01) ||| b02) ^^^ (-1 : Int64)) (((b10 ||| b11) ||| b12) ^^^ (-1 : Int64)) (((64 - o00) - o01) - o02) (((64 - o10) - o11) - o12) Xa36 hx hZ hw hby hml hown ea36 Na36 O0 hn hret hlk (fun t kt => pre0 t (sa1 t (sa2 t (sa3 t (sa4 t (sa5 t (sa6 t (sa7 t (sa8 t (sa9 t (sa10 t (sa11 t (sa12 t (sa13 t (sa14 t (sa15 t (sa16 t (sa17 t (sa18 t (sa19 t (sa20 t (sa21 t (sa22 t (sa23 t (sa24 t (sa25 t (sa26 t (sa27 t (sa28 t (sa29 t (sa30 t (sa31 t (sa32 t (sa33 t (sa34 t (sa35 t (sa36 t kt)))))))))))))))))))))))))))))))))))))
  · obtain ⟨Ta37, La37, Xa37, Na37, ea37, sa37⟩ := pZ1 p1 p2 p3 p4 c0 c1 c2 nn jj dom non mm r1 r2 r3 (((b00 ||| b01) ||| b02) ^^^ (-1 : Int64)) (((b10 ||| b11) ||| b12) ^^^ (-1 : Int64)) (((64 - o00) - o01) - o02) (((64 - o10) - o11) - o12)  Xa36 hx hZ hw hby hml hown ea36 Na36 O0 hn
    rcases own_hasc (non := non) h0c h1c h2c n1 n2 hj with ⟨z1, z2⟩ | ⟨z1, z2⟩
    · obtain ⟨Ta38, _, La38, Xa38, ⟨rfl, Na38, ea38⟩, sa38⟩ := cH7 (Ls := #[.val (.int p1), .val (.int p2), .val (.int p3), .val (.int p4), .val (.int c0), .val (.int c1), .val (.int c2), .val (.int nn), .val (.int jj), .val (.ref dom), .val (.ref non), .val (.int mm), .val (.int r1), .val (.int r2), .val (.int r3), .val (.long (((b00 ||| b01) ||| b02) ^^^ (-1 : Int64))), .second, .val (.long (((b10 ||| b11) ||| b12) ^^^ (-1 : Int64))), .second, .val (.int (((64 - o00) - o01) - o02)), .val (.int (((64 - o10) - o11) - o12)), .val (.int (1 : Int32))]) dom (dp c0) (vl c0) Xa37 hx hZ hw hby hml hown ea37 rfl D.exa (rmHas l Z a0 hw dom dom 2 64 _ _ _ tr _ h0 n0 O0 D (dp c0) (vl c0) h0c.rd h0c.rv 1 (Or.inl ⟨z2, rfl⟩)) (by decide) (by decide) (by decide) (by decide)
      exact pZ2 p1 p2 p3 p4 c0 c1 c2 nn jj dom non mm r1 r2 r3 (((b00 ||| b01) ||| b02) ^^^ (-1 : Int64)) (((b10 ||| b11) ||| b12) ^^^ (-1 : Int64)) (((64 - o00) - o01) - o02) (((64 - o10) - o11) - o12) 1 Xa38 hx hZ hw hby hml hown ea38 (Fr.app Na37 Na38) O0 z1 rfl hret hlk (fun t kt => pre0 t (sa1 t (sa2 t (sa3 t (sa4 t (sa5 t (sa6 t (sa7 t (sa8 t (sa9 t (sa10 t (sa11 t (sa12 t (sa13 t (sa14 t (sa15 t (sa16 t (sa17 t (sa18 t (sa19 t (sa20 t (sa21 t (sa22 t (sa23 t (sa24 t (sa25 t (sa26 t (sa27 t (sa28 t (sa29 t (sa30 t (sa31 t (sa32 t (sa33 t (sa34 t (sa35 t (sa36 t (sa37 t (sa38 t kt)))))))))))))))))))))))))))))))))))))))
    · obtain ⟨Ta38, _, La38, Xa38, ⟨rfl, Na38, ea38⟩, sa38⟩ := cH7 (Ls := #[.val (.int p1), .val (.int p2), .val (.int p3), .val (.int p4), .val (.int c0), .val (.int c1), .val (.int c2), .val (.int nn), .val (.int jj), .val (.ref dom), .val (.ref non), .val (.int mm), .val (.int r1), .val (.int r2), .val (.int r3), .val (.long (((b00 ||| b01) ||| b02) ^^^ (-1 : Int64))), .second, .val (.long (((b10 ||| b11) ||| b12) ^^^ (-1 : Int64))), .second, .val (.int (((64 - o00) - o01) - o02)), .val (.int (((64 - o10) - o11) - o12)), .val (.int (1 : Int32))]) dom (dp c0) (vl c0) Xa37 hx hZ hw hby hml hown ea37 rfl D.exa (rmHas l Z a0 hw dom dom 2 64 _ _ _ tr _ h0 n0 O0 D (dp c0) (vl c0) h0c.rd h0c.rv 0 (Or.inr ⟨_, z2, rfl⟩)) (by decide) (by decide) (by decide) (by decide)
      exact pZ3 p1 p2 p3 p4 c0 c1 c2 nn jj dom non mm r1 r2 r3 (((b00 ||| b01) ||| b02) ^^^ (-1 : Int64)) (((b10 ||| b11) ||| b12) ^^^ (-1 : Int64)) (((64 - o00) - o01) - o02) (((64 - o10) - o11) - o12) 0 Xa38 hx hZ hw hby hml hown ea38 (Fr.app Na37 Na38) O0 z1 rfl hret hlk (fun t kt => pre0 t (sa1 t (sa2 t (sa3 t (sa4 t (sa5 t (sa6 t (sa7 t (sa8 t (sa9 t (sa10 t (sa11 t (sa12 t (sa13 t (sa14 t (sa15 t (sa16 t (sa17 t (sa18 t (sa19 t (sa20 t (sa21 t (sa22 t (sa23 t (sa24 t (sa25 t (sa26 t (sa27 t (sa28 t (sa29 t (sa30 t (sa31 t (sa32 t (sa33 t (sa34 t (sa35 t (sa36 t (sa37 t (sa38 t kt)))))))))))))))))))))))))))))))))))))))
end LawM
theorem own_mask (x : Int32) : (x &&& (3 : Int32)) = (0 : Int32) ∨ (x &&& (3 : Int32)) = (1 : Int32) ∨ (x &&& (3 : Int32)) = (2 : Int32) ∨ (x &&& (3 : Int32)) = (3 : Int32) := by
  have e := Jvm.Kit.i32_mask x (3 : Int32) (k := 2) (by decide) (by decide)
  have h : (x &&& (3 : Int32)).toInt = 0 ∨ (x &&& (3 : Int32)).toInt = 1 ∨ (x &&& (3 : Int32)).toInt = 2 ∨ (x &&& (3 : Int32)).toInt = 3 := by omega
  rcases h with h | h | h | h
  · exact Or.inl (own_inj (h.trans (by decide)))
  · exact Or.inr (Or.inl (own_inj (h.trans (by decide))))
  · exact Or.inr (Or.inr (Or.inl (own_inj (h.trans (by decide)))))
  · exact Or.inr (Or.inr (Or.inr (own_inj (h.trans (by decide)))))
set_option maxRecDepth 65536 in
set_option maxHeartbeats 4000000 in
theorem rm0_all (l : Launch) (Z : State) (a0 : Array Value) (hw : ∀ d ∈ tables_1, d.before a0 Z = true) (ws : List Jvm.Cond) (p1 p2 p3 p4 : Int32) (h0 : Heap) (n0 : Nat) (Z0 : n0 ≤ h0.size) (O0 : Old Z n0 h0) :
    MetFree l x (head1 (Jvm.Cond.code x code maxLocals ret :: ws) room_1) (fun a U => a = #[(.int p1), (.int p2), (.int p3), (.int p4)] ∧ Z.Warmed39 U.vm ∧ U.heap = h0) (fun _ _ _ _ _ => True) (fun _ U o U' => ∃ v L, o = .returned v ∧ Q0 h0 n0 v U'.heap L ∧ FrameEnd U o U' L room_1.cells room_1.slots) := by
  refine MetFree.of_bodySF (plainFor_of_name pn236) hisR ?_
  intro p e s m args below meth c s₁ Bd hml0 hP hK
  obtain ⟨rfl, hZ, hh⟩ := hP
  have hx := Bd.exec
  have hby := Bd.bytes
  have hml : c.maxLocals = 22 := hml0
  have hown : s.vm.findClass "com/example/caprice/caprice/solver/DomainsRestorePinLaw" = some m.cls := findClass_of_methodNamed Bd.named
  have X0 : Stand p l e room_1 s m #[(.int p1), (.int p2), (.int p3), (.int p4)] below meth c s₁ [] 0 0 := Stand.of_body Bd
  have e0 : s₁.heap = h0 := by rw [← hh, Bd.state]; rfl
  have hlk : meth.locks = false := BodyLoose.notSynchronized Bd
  have ef : entryFrame m #[(.int p1), (.int p2), (.int p3), (.int p4)] maxLocals = (mkF m 0 #[.val (.int p1), .val (.int p2), .val (.int p3), .val (.int p4), .unset, .unset, .unset, .unset, .unset, .unset, .unset, .unset, .unset, .unset, .unset, .unset, .unset, .unset, .unset, .unset, .unset, .unset] []) := by first | (simp [entryFrame, mkF, argsToLocals, Value.category, maxLocals]; done) | rfl
  obtain ⟨TA, LA, XA, NA, eA, cA⟩ := pA p1 p2 p3 p4 X0 hx hZ hw hby hml hown e0 (Fr.nil n0) O0
  obtain ⟨c0, h0e⟩ : ∃ z : Int32, z = (p1 &&& (127 : Int32)) := ⟨_, rfl⟩
  rw [← h0e] at cA
  obtain ⟨c1, h1e⟩ : ∃ z : Int32, z = (((c0 + (1 : Int32)) + ((p2 &&& (2147483647 : Int32)) % (127 : Int32))) &&& (127 : Int32)) := ⟨_, rfl⟩
  rw [← h1e] at cA
  obtain ⟨c2o, h2e⟩ : ∃ z : Int32, z = (((c0 + (1 : Int32)) + ((p3 &&& (2147483647 : Int32)) % (126 : Int32))) &&& (127 : Int32)) := ⟨_, rfl⟩
  rw [← h2e] at cA
  obtain ⟨y1, y2⟩ := own_cells p1 p2 p3 c0 c1 c2o h0e h1e h2e
  clear h0e h1e h2e
  obtain ⟨TB, LB, c2, ⟨g0, g1, g2, n01, n02, n12⟩, XB, NB, eB, cB⟩ : ∃ (T' : State) (L' : List Loc) (c2 : Int32), (Cel c0 ∧ Cel c1 ∧ Cel c2 ∧ c0 ≠ c1 ∧ c0 ≠ c2 ∧ c1 ≠ c2) ∧ Stand p l e room_1 s m #[(.int p1), (.int p2), (.int p3), (.int p4)] below meth c T' L' 0 0 ∧ Fr n0 L' ∧ T'.heap = h0 ∧ ∀ t, Steps p.tables e below (T'.setTop (mkF m 57 #[.val (.int p1), .val (.int p2), .val (.int p3), .val (.int p4), .val (.int c0), .val (.int c1), .val (.int c2), .unset, .unset, .unset, .unset, .unset, .unset, .unset, .unset, .unset, .unset, .unset, .unset, .unset, .unset, .unset] [])) t → Steps p.tables e below (TA.setTop (mkF m 40 #[.val (.int p1), .val (.int p2), .val (.int p3), .val (.int p4), .val (.int c0), .val (.int c1), .val (.int c2o), .unset, .unset, .unset, .unset, .unset, .unset, .unset, .unset, .unset, .unset, .unset, .unset, .unset, .unset, .unset] [])) t := by
    by_cases hb : c2o = c1
    · obtain ⟨T', L', X', N', e', c'⟩ := pB1 p1 p2 p3 p4 c0 c1 c2o XA hx hZ hw hby hml hown eA NA O0 hb
      exact ⟨T', L', _, y1 hb, X', N', e', c'⟩
    · obtain ⟨T', L', X', N', e', c'⟩ := pB0 p1 p2 p3 p4 c0 c1 c2o XA hx hZ hw hby hml hown eA NA O0 hb
      exact ⟨T', L', _, y2 hb, X', N', e', c'⟩
  obtain ⟨TC, LC, XC, NC, eC, cC⟩ := pC p1 p2 p3 p4 c0 c1 c2 XB hx hZ hw hby hml hown eB NB O0
  obtain ⟨jt, hjt⟩ : ∃ z : Int32, z = (((p4.toUInt32 >>> ((2 : Int32) &&& 31).toUInt32).toInt32) &&& (3 : Int32)) := ⟨_, rfl⟩
  have jt4 : jt = 0 ∨ jt = 1 ∨ jt = 2 ∨ jt = 3 := by rw [hjt]; exact own_mask _
  obtain ⟨nn, hnn⟩ : ∃ z : Int32, z = (p4 &&& (3 : Int32)) := ⟨_, rfl⟩
  have nn4 : nn = 0 ∨ nn = 1 ∨ nn = 2 ∨ nn = 3 := by rw [hnn]; exact own_mask _
  rw [← hjt, ← hnn] at cC
  clear hjt hnn
  obtain ⟨T1, _, L1, X1, ⟨rfl, N1, e1⟩, c1'⟩ := cMin (Ls := #[.val (.int p1), .val (.int p2), .val (.int p3), .val (.int p4), .val (.int c0), .val (.int c1), .val (.int c2), .val (.int nn), .unset, .unset, .unset, .unset, .unset, .unset, .unset, .unset, .unset, .unset, .unset, .unset, .unset, .unset]) jt nn XC hx hZ hw hby hml hown eC rfl (rmMin l Z a0 hw jt nn h0 n0 O0) (by decide) (by decide) (by decide) (by decide)
  obtain ⟨jj, hjj⟩ : ∃ z : Int32, z = (if nn < jt then nn else jt) := ⟨_, rfl⟩
  have jj4 : (jj = 0 ∨ jj = 1 ∨ jj = 2 ∨ jj = 3) ∧ ¬ (nn < jj) := by
    rw [hjj]
    by_cases hb : nn < jt
    · rw [if_pos hb]; exact ⟨nn4, fun z => Int32.lt_irrefl z⟩
    · rw [if_neg hb]; exact ⟨jt4, hb⟩
  rw [← hjj] at c1'
  clear hjj jt4
  obtain ⟨TD, LD, dom, sz, ks, XD, ND, KD, OD, v1, v2, w1, Vs, Es, Ed, G1, G2, G3, G4, G5, G6, G7, -, cD⟩ := pD p1 p2 p3 p4 c0 c1 c2 nn jj X1 hx hZ hw hby hml hown e1 (Fr.app NC N1) O0
  have hdn : n0 ≤ dom := Nat.le_trans Z0 v1
  obtain ⟨T3, _, L3, X3, ⟨rfl, N3, P3, O3, D0⟩, c3'⟩ := cI (Ls := #[.val (.int p1), .val (.int p2), .val (.int p3), .val (.int p4), .val (.int c0), .val (.int c1), .val (.int c2), .val (.int nn), .val (.int jj), .unset, .unset, .unset, .unset, .unset, .unset, .unset, .unset, .unset, .unset, .unset, .unset, .unset]) dom sz dom XD hx hZ hw hby hml hown rfl rfl (rmCon l Z a0 hw dom sz ks TD.heap n0 OD Ed G1 G2 G3 G4 G5 G6 G7 Vs (Nat.ne_of_lt w1) hdn) (by decide) (by decide) (by decide) (by decide)
  obtain ⟨TE, LE, non, kn, XE, NE, KE, OE, v3, Vn, En, -, cE⟩ := pE p1 p2 p3 p4 c0 c1 c2 nn jj dom X3 hx hZ hw hby hml hown rfl (Fr.app ND N3) O3
  have D1 : Rs Z TE.heap dom non [] (fun _ => 0) := ⟨D0.keep KE, TrOK.nil _, En⟩
  obtain ⟨TM0, LM0, m1, XM0, NM0, eM0, aM0, cM0⟩ := cdM0 hx hZ hw hby hml hown p1 p2 p3 p4 c0 c1 c2 nn jj dom non 0 [] (fun _ => 0) TE LE TE.heap XE rfl NE OE D1
  obtain ⟨TR0, LR0, s1, t1, XR0, NR0, OR0, DR0, aR0, cR0⟩ := cdR0 hx hZ hw hby hml hown p1 p2 p3 p4 c0 c1 c2 nn jj dom non m1 [] (fun _ => 0) TM0 LM0 TE.heap hdn XM0 eM0 NM0 OE D1 g0 (by decide)
  have hl1' : s1.length ≤ 1 := by rcases aR0 with ⟨_, rfl⟩ | ⟨_, rfl⟩ <;> simp
  have hl1 : s1.length ≤ 2 := by omega
  obtain ⟨TM1, LM1, m2, XM1, NM1, eM1, aM1, cM1⟩ := cdM1 hx hZ hw hby hml hown p1 p2 p3 p4 c0 c1 c2 nn jj dom non m1 s1 t1 TR0 LR0 TR0.heap XR0 rfl NR0 OR0 DR0
  obtain ⟨TR1, LR1, s2, t2, XR1, NR1, OR1, DR1, aR1, cR1⟩ := cdR1 hx hZ hw hby hml hown p1 p2 p3 p4 c0 c1 c2 nn jj dom non m2 s1 t1 TM1 LM1 TR0.heap hdn XM1 eM1 NM1 OR0 DR0 g1 hl1
  have hl2 : s2.length ≤ 2 := by rcases aR1 with ⟨_, rfl⟩ | ⟨_, rfl⟩ <;> (try simp only [List.length_append, List.length_cons, List.length_nil]) <;> omega
  obtain ⟨TM2, LM2, m3, XM2, NM2, eM2, aM2, cM2⟩ := cdM2 hx hZ hw hby hml hown p1 p2 p3 p4 c0 c1 c2 nn jj dom non m2 s2 t2 TR1 LR1 TR1.heap XR1 rfl NR1 OR1 DR1
  obtain ⟨TR2, LR2, s3, t3, XR2, NR2, OR2, DR2, aR2, cR2⟩ := cdR2 hx hZ hw hby hml hown p1 p2 p3 p4 c0 c1 c2 nn jj dom non m3 s2 t2 TM2 LM2 TR1.heap hdn XM2 eM2 NM2 OR1 DR1 g2 hl2
  obtain ⟨TM3, LM3, m4, XM3, NM3, eM3, aM3, cM3⟩ := cdM3 hx hZ hw hby hml hown p1 p2 p3 p4 c0 c1 c2 nn jj dom non m3 s3 t3 TR2 LR2 TR2.heap XR2 rfl NR2 OR2 DR2
  obtain ⟨pre, post, hs3, hm4, hj, hall⟩ := own_mid (c0 := c0) (c1 := c1) (c2 := c2) nn4 jj4.1 jj4.2 aM0 aR0 aM1 aR1 aM2 aR2 aM3
  have hcel : ∀ x ∈ s3, Cel x := by
    intro x hx
    rcases hall with h | h | h | h <;> rw [h] at hx <;> simp only [List.mem_cons, List.not_mem_nil, or_false] at hx
    · subst hx; exact g0
    · rcases hx with rfl | rfl
      · exact g0
      · exact g1
    · rcases hx with rfl | rfl | rfl
      · exact g0
      · exact g1
      · exact g2
  have hnd : s3.Nodup := by rcases hall with h | h | h | h <;> rw [h] <;> simp [n01, n02, n12]
  have hlen : s3.length ≤ 3 := by rcases hall with h | h | h | h <;> rw [h] <;> simp
  clear aM0 aR0 aM1 aR1 aM2 aR2 aM3 hall
  subst hs3 hm4
  obtain ⟨TS, LS, XS, NS, eS, cS'⟩ := pS p1 p2 p3 p4 c0 c1 c2 nn jj dom non (Int32.ofNat (2 * pre.length)) XM3 hx hZ hw hby hml hown eM3 NM3 OR2
  have hlp : 2 * (pre ++ post).length = 2 * pre.length + 2 * post.length := by rw [List.length_append, Nat.mul_add]
  have D5 := DR2.1
  rw [hlp] at D5
  have T5 := DR2.2.1
  have hb5 : ∀ i, i < post.length → ¬ (t3 (2 * pre.length + 2 * i) < 0 ∨ 2 ≤ (t3 (2 * pre.length + 2 * i)).toNatClampNeg) ∧ ¬ (t3 (2 * pre.length + 2 * i + 1) < 0 ∨ 64 ≤ (t3 (2 * pre.length + 2 * i + 1)).toNatClampNeg) := by
    intro i hi
    have hg : (pre ++ post)[pre.length + i]? = some post[i] := by rw [List.getElem?_append_right (by omega), Nat.add_sub_cancel_left]; exact List.getElem?_eq_getElem hi
    obtain ⟨q1, q2⟩ := T5 _ _ hg
    have hc := hcel post[i] (List.mem_append_right _ (List.getElem_mem hi))
    rw [Nat.mul_add] at q1 q2
    rw [q1, q2]
    exact ⟨hc.rd, hc.rv⟩
  obtain ⟨T6, _, L6, X6, ⟨rfl, N6, P6, O6, D6⟩, c6⟩ := cS (Ls := #[.val (.int p1), .val (.int p2), .val (.int p3), .val (.int p4), .val (.int c0), .val (.int c1), .val (.int c2), .val (.int nn), .val (.int jj), .val (.ref dom), .val (.ref non), .val (.int (Int32.ofNat (2 * pre.length))), .unset, .unset, .unset, .unset, .unset, .unset, .unset, .unset, .unset, .unset]) dom (Int32.ofNat (2 * pre.length)) XS hx hZ hw hby hml hown eS rfl D5.exa (rmRestore l Z a0 hw dom (2 * pre.length) post.length dom 2 64 _ _ _ t3 _ n0 OR2 hdn D5 hb5 (by omega)) (by decide) (by decide) (by decide) (by decide)
  obtain ⟨u1, u2, u3⟩ := own_undo non t3 pre post.length post rfl hcel hnd T5
  rw [u1, u2, u3] at D6
  obtain ⟨T7, L7, r1, r2, r3, X7, N7, e7, q1, q2, q3, c7⟩ := cdF hx hZ hw hby hml hown p1 p2 p3 p4 c0 c1 c2 nn jj dom non (Int32.ofNat (2 * pre.length)) T6 _ T6.heap X6 rfl (Fr.app NS N6) O6
  exact lawEnd hx hZ hw hby hml hown Bd.returns hlk p1 p2 p3 p4 c0 c1 c2 nn jj dom non (Int32.ofNat (2 * pre.length)) r1 r2 r3 pre t3 T7 L7 T6.heap X7 e7 N7 O6 D6 rfl hj (own_flg hj q1 q2 q3) g0 g1 g2 n01 n02 (fun t kt => castTop ef (cA t (cB t (cC t (c1' t (cD t (c3' t (cE t (cM0 t (cR0 t (cM1 t (cR1 t (cM2 t (cR2 t (cM3 t (cS' t (c6 t (c7 t kt))))))))))))))))))
set_option maxRecDepth 65536 in
set_option maxHeartbeats 40000000 in
theorem comes_1 {Post : Tables → Env → Array Value → State → Outcome → State → Prop} (hpost : ∀ tb e args s v u, (limb_1_1.after args s (.returned v) u = true ∧ limb_1_2.after args s (.returned v) u = true ∧ True) → FrameEnd s (.returned v) u (Jvm.fieldLocs frame_1_writes args s ++ Jvm.arrayLocs frame_1_arrays args s ++ Jvm.staticLocs frame_1_statics s) 32 896 → Post tb e args s (.returned v) u) :
    ArmFor flags0 classFile x code maxLocals ret World_1 tables_1 room_1 Calls_1 rest_1 Pre_1 Post := by
  intro l hfl _ _ p e ha hc hk s m args below hf hA hF happ hP
  obtain ⟨hcalls, hrest, hpre⟩ := hP
  obtain ⟨-, -, -, hnamed, -, -, -, hat⟩ := (Spec.applies_iff hf).mp happ
  obtain ⟨hg, hn⟩ := and_e (Cond.before_iff.mp (show (Jvm.Cond.and given_1 narrow_1).before args s = true from hpre))
  obtain ⟨hg1a, hg1b⟩ := and_e hg
  obtain ⟨hg2a, hg2b⟩ := and_e hg1b
  obtain ⟨hg3a, hg3b⟩ := and_e hg2b
  obtain ⟨hg4a, hg4b⟩ := and_e hg3b
  obtain ⟨w0, w1, w2, w3, rfl⟩ : ∃ w0 w1 w2 w3 : Value, args = #[w0, w1, w2, w3] := by
    have hs : args.size = 4 := by simpa [Cond.value, given_1] using hg1a
    obtain ⟨L⟩ := args
    match L, hs with
    | [w0, w1, w2, w3], _ => exact ⟨w0, w1, w2, w3, rfl⟩
  have hw := fun d (hd : d ∈ tables_1) => atoms_spec (ws := Jvm.Cond.code x code maxLocals ret :: tables_1) hat d (List.mem_cons_of_mem _ hd)
  have hfit : Fit s := fun {y c} hc i hi => by
    obtain ⟨ha, rfl⟩ := Array.getElem?_eq_some_iff.mp hc
    have q := List.all_eq_true.mp ((Array.all_eq_true_iff_forall_mem.mp hF) _ (Array.getElem_mem ha)) i (List.mem_range.mpr hi)
    simpa [Array.getElem?_eq_getElem hi] using q
  obtain ⟨i0, ei0⟩ := is_v hg2a
  obtain rfl : w0 = (.int i0) := Option.some.inj ei0
  obtain ⟨i1, ei1⟩ := is_v hg3a
  obtain rfl : w1 = (.int i1) := Option.some.inj ei1
  obtain ⟨i2, ei2⟩ := is_v hg4a
  obtain rfl : w2 = (.int i2) := Option.some.inj ei2
  obtain ⟨i3, ei3⟩ := is_v hg4b
  obtain rfl : w3 = (.int i3) := Option.some.inj ei3
  obtain ⟨n, o, h1, h2, h3, _, L, rfl, ⟨rfl, N⟩, hq⟩ := rm0_all l s _ hw tables_1  i0 i1 i2 i3 s.heap s.heap.size (Nat.le_refl _) (Old.start s) p e ha hc hk s m _ below hf ((Spec.applies_iff_loose hf).mp happ).1 ⟨rfl, State.Warmed39.refl s, rfl⟩ trivial
  exact ⟨n, _, h1, h2, h3, hpost _ _ _ _ _ _ ⟨Cond.after_iff.mpr rfl, Cond.after_iff.mpr (eq_i res_at (Term.int_eval (1)) rfl), trivial⟩ ⟨hq.1, hq.2.1, (hq.2.2.sift fun y hy => Or.inr (N y hy)).mono (by decide) (by decide)⟩⟩
theorem main_1_1 : Claimed_1_1 := comes_1 fun _ _ _ _ _ _ h hF => ⟨h.1, hF⟩
theorem main_1_2 : Claimed_1_2 := comes_1 fun _ _ _ _ _ _ h hF => ⟨h.2.1, hF⟩
end Jvm.Pilot.@@N@@
namespace Jvm.Pilot.@@N@@
open Jvm Jvm.ClassFile Sem Op Lib Jvm.Free Jvm.Stand Jvm.Pilot.@@N@@.Jvm.D
/-! MADE BY PROGRAM (witnessworld.py) out of the Statement's table words and the real class files: 15 classes; the members and pool entries that the words name. The judged class is class 1, her method 3. -/
namespace start1
open Jvm.ClassFile
def u (s : String) : CpInfo := .utf8 (stringToUtf16 s)
/-- a pool by its gaps: so many unusable entries, then the entry; so many at the end -/
def gap : Nat → List CpInfo → List CpInfo
  | 0, r => r
  | n + 1, r => .unusable :: gap n r
def poolList (es : List (Nat × CpInfo)) (last : Nat) : List CpInfo := es.foldr (fun e r => gap e.1 (e.2 :: r)) (gap last [])
def pool (es : List (Nat × CpInfo)) (last : Nat) : Array CpInfo := ⟨poolList es last⟩
def fileOf (pool : Array CpInfo) (this : Nat) (attrs : Array Attribute := #[]) (ms : Array MethodInfo := #[]) (fl : Nat := 33) (sup : Nat := 0) (ifs : Array Nat := #[]) (fds : Array FieldInfo := #[]) : ClassFile where
  minorVersion := 0
  majorVersion := 65
  constantPool := pool
  accessFlags := fl
  thisClass := this
  superClass := sup
  interfaces := ifs
  fields := fds
  methods := ms
  attributes := attrs
def plain (name : String) (sup : Option ClassId) : Class where
  name := name
  kind := .ordinary
  loader := none
  accessFlags := 33
  super := sup
  interfaces := #[]
  cf := none
  fields := #[]
  methods := #[]
  instanceTypes := #[]
  staticTypes := #[]
  resolved := #[]
  callSites := []
  init := .initialized
  statics := none
  mirror := none

def pool0 : Array CpInfo := pool [(5, u "<init>"), (0, u "()V"), (1, .class_ 10), (1, u "java/lang/Object")] 113

def k0c0 : Code := { maxStack := 0, maxLocals := 1, code := object_method_1_code, exceptionTable := #[], attributes := #[] }
def k0m0 : Method := { name := "<init>", desc := "()V", sig := { parameters := [], returnType := none }, accessFlags := 1, code := some k0c0 }
/-- java/lang/Object -/
def k0 : Class := { plain "java/lang/Object" none with
  accessFlags := 33
  interfaces := #[]
  cf := some (fileOf pool0 8 #[] #[{ accessFlags := 1, nameIndex := 5, descriptorIndex := 6, attributes := #[] }] 33 0 #[] #[])
  fields := #[]
  methods := #[k0m0]
  instanceTypes := #[]
  staticTypes := #[]
  resolved := Array.replicate 124 none
  statics := none }

def pool1 : Array CpInfo := pool [(2, .class_ 4), (1, u "java/lang/Object"), (0, u "<init>"), (0, u "()V"), (0, .integer 2147483647), (0, .methodref 9 10), (0, .class_ 11), (0, .nameAndType 12 13), (0, u "java/lang/Math"), (0, u "min"), (0, u "(II)I"), (0, .class_ 15), (0, u "com/example/caprice/caprice/solver/Domains"), (0, .methodref 14 17), (0, .nameAndType 5 18), (0, u "([I)V"), (0, .methodref 14 20), (0, .nameAndType 21 22), (0, u "mark"), (0, u "()I"), (0, .methodref 14 24), (0, .nameAndType 25 26), (0, u "remove"), (0, u "(II[I)V"), (0, .methodref 14 28), (0, .nameAndType 29 30), (0, u "restore"), (0, u "(I)V"), (0, .methodref 32 33), (0, .class_ 34), (0, .nameAndType 35 36), (0, u "com/example/caprice/caprice/solver/DomainsRestorePinLaw"), (0, u "bit"), (0, u "(IIZ)J"), (0, .long 18446744073709551615), (1, .methodref 32 40), (0, .nameAndType 41 42), (0, u "one"), (0, u "(IIZ)I"), (0, .methodref 14 44), (0, .nameAndType 45 46), (0, u "left"), (0, u "(I)I"), (0, .methodref 14 48), (0, .nameAndType 49 50), (0, u "leftMask"), (0, u "(I)J"), (0, .methodref 14 52), (0, .nameAndType 53 54), (0, u "has"), (0, u "(II)Z"), (3, u "law"), (0, u "(IIII)Z")] 4

def k1m0 : Method := { name := "<init>", desc := "()V", sig := { parameters := [], returnType := none }, accessFlags := 2, code := none }
def k1c1 : Code := { maxStack := 4, maxLocals := 3, code := method_2_code, exceptionTable := #[], attributes := #[] }
def k1m1 : Method := { name := "bit", desc := "(IIZ)J", sig := { parameters := [.int, .int, .boolean], returnType := some .long }, accessFlags := 10, code := some k1c1 }
def k1c2 : Code := { maxStack := 2, maxLocals := 3, code := method_3_code, exceptionTable := #[], attributes := #[] }
def k1m2 : Method := { name := "one", desc := "(IIZ)I", sig := { parameters := [.int, .int, .boolean], returnType := some .int }, accessFlags := 10, code := some k1c2 }
def k1c3 : Code := { maxStack := 6, maxLocals := 22, code := code, exceptionTable := #[], attributes := #[] }
def k1m3 : Method := { name := "law", desc := "(IIII)Z", sig := { parameters := [.int, .int, .int, .int], returnType := some .boolean }, accessFlags := 9, code := some k1c3 }
/-- com/example/caprice/caprice/solver/DomainsRestorePinLaw -/
def k1 : Class := { plain "com/example/caprice/caprice/solver/DomainsRestorePinLaw" (some 0) with
  accessFlags := 49
  interfaces := #[]
  cf := some (fileOf pool1 32 #[] #[{ accessFlags := 2, nameIndex := 5, descriptorIndex := 6, attributes := #[] }, { accessFlags := 10, nameIndex := 35, descriptorIndex := 36, attributes := #[] }, { accessFlags := 10, nameIndex := 41, descriptorIndex := 42, attributes := #[] }, { accessFlags := 9, nameIndex := 58, descriptorIndex := 59, attributes := #[] }] 49 2 #[] #[])
  fields := #[]
  methods := #[k1m0, k1m1, k1m2, k1m3]
  instanceTypes := #[]
  staticTypes := #[]
  resolved := Array.replicate 64 none
  statics := none }

def pool2 : Array CpInfo := pool [(1, .class_ 2), (0, u "java/lang/Math"), (1, .class_ 6), (1, u "java/lang/Object"), (0, u "<init>"), (0, u "()V"), (89, .class_ 100), (1, u "java/lang/Math$RandomNumberGeneratorHolder"), (71, u "negativeZeroFloatBits"), (0, u "J"), (2, u "negativeZeroDoubleBits"), (24, u "min"), (43, u "$assertionsDisabled"), (0, u "Z"), (88, u "(II)I"), (2, u "twoToTheDoubleScaleDown"), (0, u "D"), (4, u "twoToTheDoubleScaleUp"), (9, u "E"), (3, u "PI"), (2, u "TAU"), (2, u "DEGREES_TO_RADIANS"), (0, u "RADIANS_TO_DEGREES")] 94

def k2m0 : Method := { name := "<init>", desc := "()V", sig := { parameters := [], returnType := none }, accessFlags := 2, code := none }
def k2c1 : Code := { maxStack := 2, maxLocals := 2, code := jdk_29_method_69_code, exceptionTable := #[], attributes := #[] }
def k2m1 : Method := { name := "min", desc := "(II)I", sig := { parameters := [.int, .int], returnType := some .int }, accessFlags := 9, code := some k2c1 }
/-- java/lang/Math -/
def k2 : Class := { plain "java/lang/Math" (some 0) with
  accessFlags := 49
  interfaces := #[]
  cf := some (fileOf pool2 1 #[.nestMembers #[98]] #[{ accessFlags := 2, nameIndex := 7, descriptorIndex := 8, attributes := #[] }, { accessFlags := 9, nameIndex := 201, descriptorIndex := 335, attributes := #[] }] 49 4 #[] #[{ accessFlags := 25, nameIndex := 354, descriptorIndex := 339, attributes := #[] }, { accessFlags := 25, nameIndex := 358, descriptorIndex := 339, attributes := #[] }, { accessFlags := 25, nameIndex := 361, descriptorIndex := 339, attributes := #[] }, { accessFlags := 26, nameIndex := 364, descriptorIndex := 339, attributes := #[] }, { accessFlags := 26, nameIndex := 365, descriptorIndex := 339, attributes := #[] }, { accessFlags := 26, nameIndex := 172, descriptorIndex := 173, attributes := #[] }, { accessFlags := 26, nameIndex := 176, descriptorIndex := 173, attributes := #[] }, { accessFlags := 8, nameIndex := 344, descriptorIndex := 339, attributes := #[] }, { accessFlags := 8, nameIndex := 338, descriptorIndex := 339, attributes := #[] }, { accessFlags := 4120, nameIndex := 245, descriptorIndex := 246, attributes := #[] }])
  fields := #[{ name := "E", type := .double, accessFlags := 25, slot := 0, constantValue := 0 }, { name := "PI", type := .double, accessFlags := 25, slot := 1, constantValue := 0 }, { name := "TAU", type := .double, accessFlags := 25, slot := 2, constantValue := 0 }, { name := "DEGREES_TO_RADIANS", type := .double, accessFlags := 26, slot := 3, constantValue := 0 }, { name := "RADIANS_TO_DEGREES", type := .double, accessFlags := 26, slot := 4, constantValue := 0 }, { name := "negativeZeroFloatBits", type := .long, accessFlags := 26, slot := 5, constantValue := 0 }, { name := "negativeZeroDoubleBits", type := .long, accessFlags := 26, slot := 6, constantValue := 0 }, { name := "twoToTheDoubleScaleUp", type := .double, accessFlags := 8, slot := 7, constantValue := 0 }, { name := "twoToTheDoubleScaleDown", type := .double, accessFlags := 8, slot := 8, constantValue := 0 }, { name := "$assertionsDisabled", type := .boolean, accessFlags := 4120, slot := 9, constantValue := 0 }]
  methods := #[k2m0, k2m1]
  instanceTypes := #[]
  staticTypes := #[.double, .double, .double, .double, .double, .long, .long, .double, .double, .boolean]
  resolved := Array.replicate 460 none
  statics := none }

def pool3 : Array CpInfo := pool [(1, .class_ 2), (0, u "com/example/caprice/caprice/solver/ValuesLeft"), (0, .class_ 4), (0, u "java/lang/Object")] 6

/-- com/example/caprice/caprice/solver/ValuesLeft -/
def k3 : Class := { plain "com/example/caprice/caprice/solver/ValuesLeft" (some 0) with
  accessFlags := 1536
  interfaces := #[]
  cf := some (fileOf pool3 1 #[] #[] 1536 3 #[] #[])
  fields := #[]
  methods := #[]
  instanceTypes := #[]
  staticTypes := #[]
  resolved := Array.replicate 11 none
  statics := none }

def pool4 : Array CpInfo := pool [(3, .methodref 4 5), (0, .class_ 6), (0, .nameAndType 7 8), (0, u "java/lang/Object"), (0, u "<init>"), (0, u "()V"), (0, .class_ 10), (0, u "[[I"), (0, .fieldref 12 13), (0, .class_ 14), (0, .nameAndType 15 16), (0, u "com/example/caprice/caprice/solver/Domains"), (0, u "reasons"), (0, u "[[[I"), (0, .fieldref 12 18), (0, .nameAndType 19 20), (0, u "left"), (0, u "[I"), (0, .fieldref 12 22), (0, .nameAndType 23 24), (0, u "leftMasks"), (0, u "[J"), (0, .class_ 20), (0, .methodref 12 27), (0, .nameAndType 28 29), (0, u "every"), (0, u "(I)J"), (0, .fieldref 12 31), (0, .nameAndType 32 20), (0, u "trail"), (0, .fieldref 12 34), (0, .nameAndType 35 20), (0, u "gathered"), (0, .fieldref 12 37), (0, .nameAndType 38 39), (0, u "marked"), (0, u "[Z"), (0, .long 18446744073709551615), (3, .fieldref 12 45), (0, .nameAndType 46 47), (0, u "trailSize"), (0, u "I"), (4, u "(I)V"), (2, u "has"), (15, u "gatheredCount"), (2, u "FOR_GOOD"), (8, u "(II)Z"), (4, .class_ 89), (0, u "com/example/caprice/caprice/solver/ValuesLeft"), (0, u "MASKED"), (2, u "([I)V"), (7, u "leftMask"), (0, u "(I)I"), (1, u "mark"), (0, u "()I"), (0, u "restore"), (0, u "remove"), (0, u "(II[I)V")] 30

def k4c0 : Code := { maxStack := 4, maxLocals := 5, code := prog_59_method_1_code, exceptionTable := #[], attributes := #[] }
def k4m0 : Method := { name := "<init>", desc := "([I)V", sig := { parameters := [(.array .int)], returnType := none }, accessFlags := 0, code := some k4c0 }
def k4c1 : Code := { maxStack := 4, maxLocals := 1, code := prog_59_method_2_code, exceptionTable := #[], attributes := #[] }
def k4m1 : Method := { name := "every", desc := "(I)J", sig := { parameters := [.int], returnType := some .long }, accessFlags := 8, code := some k4c1 }
def k4c2 : Code := { maxStack := 2, maxLocals := 3, code := prog_59_method_3_code, exceptionTable := #[], attributes := #[] }
def k4m2 : Method := { name := "has", desc := "(II)Z", sig := { parameters := [.int, .int], returnType := some .boolean }, accessFlags := 1, code := some k4c2 }
def k4c3 : Code := { maxStack := 2, maxLocals := 2, code := prog_59_method_5_code, exceptionTable := #[], attributes := #[] }
def k4m3 : Method := { name := "leftMask", desc := "(I)J", sig := { parameters := [.int], returnType := some .long }, accessFlags := 0, code := some k4c3 }
def k4c4 : Code := { maxStack := 2, maxLocals := 2, code := prog_59_method_6_code, exceptionTable := #[], attributes := #[] }
def k4m4 : Method := { name := "left", desc := "(I)I", sig := { parameters := [.int], returnType := some .int }, accessFlags := 0, code := some k4c4 }
def k4c5 : Code := { maxStack := 1, maxLocals := 1, code := prog_59_method_8_code, exceptionTable := #[], attributes := #[] }
def k4m5 : Method := { name := "mark", desc := "()I", sig := { parameters := [], returnType := some .int }, accessFlags := 0, code := some k4c5 }
def k4c6 : Code := { maxStack := 7, maxLocals := 4, code := prog_59_method_9_code, exceptionTable := #[], attributes := #[] }
def k4m6 : Method := { name := "restore", desc := "(I)V", sig := { parameters := [.int], returnType := none }, accessFlags := 0, code := some k4c6 }
def k4c7 : Code := { maxStack := 8, maxLocals := 4, code := prog_59_method_10_code, exceptionTable := #[], attributes := #[] }
def k4m7 : Method := { name := "remove", desc := "(II[I)V", sig := { parameters := [.int, .int, (.array .int)], returnType := none }, accessFlags := 0, code := some k4c7 }
/-- com/example/caprice/caprice/solver/Domains -/
def k4 : Class := { plain "com/example/caprice/caprice/solver/Domains" (some 0) with
  accessFlags := 48
  interfaces := #[3]
  cf := some (fileOf pool4 12 #[] #[{ accessFlags := 0, nameIndex := 7, descriptorIndex := 93, attributes := #[] }, { accessFlags := 8, nameIndex := 28, descriptorIndex := 29, attributes := #[] }, { accessFlags := 1, nameIndex := 55, descriptorIndex := 83, attributes := #[] }, { accessFlags := 0, nameIndex := 101, descriptorIndex := 29, attributes := #[] }, { accessFlags := 0, nameIndex := 19, descriptorIndex := 102, attributes := #[] }, { accessFlags := 0, nameIndex := 104, descriptorIndex := 105, attributes := #[] }, { accessFlags := 0, nameIndex := 106, descriptorIndex := 52, attributes := #[] }, { accessFlags := 0, nameIndex := 107, descriptorIndex := 108, attributes := #[] }] 48 4 #[88] #[{ accessFlags := 24, nameIndex := 74, descriptorIndex := 20, attributes := #[] }, { accessFlags := 24, nameIndex := 90, descriptorIndex := 47, attributes := #[] }, { accessFlags := 18, nameIndex := 15, descriptorIndex := 16, attributes := #[] }, { accessFlags := 18, nameIndex := 19, descriptorIndex := 20, attributes := #[] }, { accessFlags := 18, nameIndex := 23, descriptorIndex := 24, attributes := #[] }, { accessFlags := 18, nameIndex := 32, descriptorIndex := 20, attributes := #[] }, { accessFlags := 2, nameIndex := 46, descriptorIndex := 47, attributes := #[] }, { accessFlags := 18, nameIndex := 35, descriptorIndex := 20, attributes := #[] }, { accessFlags := 2, nameIndex := 71, descriptorIndex := 47, attributes := #[] }, { accessFlags := 18, nameIndex := 38, descriptorIndex := 39, attributes := #[] }])
  fields := #[{ name := "FOR_GOOD", type := (.array .int), accessFlags := 24, slot := 0, constantValue := 0 }, { name := "MASKED", type := .int, accessFlags := 24, slot := 1, constantValue := 0 }, { name := "reasons", type := (.array (.array (.array .int))), accessFlags := 18, slot := 0, constantValue := 0 }, { name := "left", type := (.array .int), accessFlags := 18, slot := 1, constantValue := 0 }, { name := "leftMasks", type := (.array .long), accessFlags := 18, slot := 2, constantValue := 0 }, { name := "trail", type := (.array .int), accessFlags := 18, slot := 3, constantValue := 0 }, { name := "trailSize", type := .int, accessFlags := 2, slot := 4, constantValue := 0 }, { name := "gathered", type := (.array .int), accessFlags := 18, slot := 5, constantValue := 0 }, { name := "gatheredCount", type := .int, accessFlags := 2, slot := 6, constantValue := 0 }, { name := "marked", type := (.array .boolean), accessFlags := 18, slot := 7, constantValue := 0 }]
  methods := #[k4m0, k4m1, k4m2, k4m3, k4m4, k4m5, k4m6, k4m7]
  instanceTypes := #[(.array (.array (.array .int))), (.array .int), (.array .long), (.array .int), .int, (.array .int), .int, (.array .boolean)]
  staticTypes := #[(.array .int), .int]
  resolved := Array.replicate 139 none
  statics := none }

def pool5 : Array CpInfo := pool [(1, u "java/lang/Cloneable"), (0, .class_ 1), (0, u "java/lang/Object"), (0, .class_ 3)] 3

/-- java/lang/Cloneable -/
def k5 : Class := { plain "java/lang/Cloneable" (some 0) with
  accessFlags := 1537
  interfaces := #[]
  cf := some (fileOf pool5 2 #[] #[] 1537 4 #[] #[])
  fields := #[]
  methods := #[]
  instanceTypes := #[]
  staticTypes := #[]
  resolved := Array.replicate 8 none
  statics := none }

def pool6 : Array CpInfo := pool [(1, u "java/io/Serializable"), (0, .class_ 1), (0, u "java/lang/Object"), (0, .class_ 3)] 3

/-- java/io/Serializable -/
def k6 : Class := { plain "java/io/Serializable" (some 0) with
  accessFlags := 1537
  interfaces := #[]
  cf := some (fileOf pool6 2 #[] #[] 1537 4 #[] #[])
  fields := #[]
  methods := #[]
  instanceTypes := #[]
  staticTypes := #[]
  resolved := Array.replicate 8 none
  statics := none }

/-- the primitive boolean -/
def k7 : Class := { plain "boolean" none with kind := .primitive 'Z', accessFlags := 0x411 }
/-- [Z -/
def k8 : Class := { plain "[Z" (some 0) with kind := .array 7 .boolean, interfaces := #[5, 6], accessFlags := 1041 }

/-- the primitive byte -/
def k9 : Class := { plain "byte" none with kind := .primitive 'B', accessFlags := 0x411 }
/-- [B -/
def k10 : Class := { plain "[B" (some 0) with kind := .array 9 .byte, interfaces := #[5, 6], accessFlags := 1041 }

/-- the primitive int -/
def k11 : Class := { plain "int" none with kind := .primitive 'I', accessFlags := 0x411 }
/-- [I -/
def k12 : Class := { plain "[I" (some 0) with kind := .array 11 .int, interfaces := #[5, 6], accessFlags := 1041 }

/-- the primitive long -/
def k13 : Class := { plain "long" none with kind := .primitive 'J', accessFlags := 0x411 }
/-- [J -/
def k14 : Class := { plain "[J" (some 0) with kind := .array 13 .long, interfaces := #[5, 6], accessFlags := 1041 }

/-- [[I -/
def k15 : Class := { plain "[[I" (some 0) with kind := .array 12 (.array .int), interfaces := #[5, 6], accessFlags := 1041 }
/-- [[[I -/
def k16 : Class := { plain "[[[I" (some 0) with kind := .array 15 (.array (.array .int)), interfaces := #[5, 6], accessFlags := 1041 }
def heap : Heap := #[]
def classes : Array Class := #[k0, k1, k2, k3, k4, k5, k6, k7, k8, k9, k10, k11, k12, k13, k14, k15, k16]
def interned : List (Array UInt16 × Addr) := []
def slotsUsed : Nat := 0
def theMethod : MethodId := ⟨1, 3⟩
def args0 : Array Value := #[.int 5, .int 3, .int 258, .int 6]
def aboutOver (below : List Frame) : State where
  vm := { classes := classes, interned := interned.toArray }
  heap := heap
  slotsUsed := slotsUsed
  threads := #[{ frames := .invoking theMethod args0 :: below }]
def below0 : List Frame := [.native { method := ⟨0, 0⟩, args := #[] }]
def about1 : State := aboutOver below0
def p0 : Program := .bare "" "" ""
def e0 : Env := launch0.env 0 0 0
theorem w_frames : about1.frames = Frame.invoking theMethod args0 :: below0 := rfl
set_option maxRecDepth 65536 in
theorem w_args : argsFit about1.vm theMethod args0 = true := by decide +kernel
set_option maxRecDepth 65536 in
theorem w_heap : heapFits about1 = true := by decide +kernel
set_option maxRecDepth 65536 in
theorem w_runnable : about1.curStatus? = some .runnable := by decide +kernel
set_option maxRecDepth 65536 in
theorem w_alone : about1.alone = true := by decide +kernel
set_option maxRecDepth 65536 in
theorem w_named : about1.methodNamed? x = some theMethod := by decide +kernel
set_option maxRecDepth 65536 in
theorem w_hears : about1.hears theMethod below0 = true := by decide +kernel
set_option maxRecDepth 65536 in
theorem w_ripe : about1.ripe theMethod args0 below0 = true := by decide +kernel
theorem w_running : about1.status = .running := rfl
set_option maxRecDepth 65536 in
theorem w_room : about1.hasRoom e0.platform room_1 = true :=
  launch0.hasRoom_least _ room_1 (by decide +kernel) (by decide +kernel) (by decide +kernel) (by decide +kernel) (by decide +kernel) (by decide +kernel)
theorem allAtoms_all (ts : List Jvm.Cond) (a : Array Jvm.Value) (st : Jvm.State) : (allAtoms ts).before a st = ts.all (fun c => c.before a st) := by
  induction ts with
  | nil => rfl
  | cons c t ih =>
    show (Jvm.Cond.and c (allAtoms t)).before a st = _
    rw [Jvm.Cond.before_and, ih, List.all_cons]
def words1 : List Jvm.Cond := Jvm.Cond.code x code maxLocals ret :: tables_1
/-- a 'code' word, met by the world's own term for the bytes: nothing is compared byte by byte -/
theorem code_word {y : MethodName} {bytes : ByteArray} {mx : Nat} {rt : Option FieldType} {a : Array Value} {s : State} {m : MethodId} {meth : Method} {c : Code} (h1 : s.methodNamed? y = some m) (h2 : s.vm.method? m = some meth) (h3 : meth.code = some c) (h4 : c.code = bytes)
    (h5 : (c.maxLocals == mx && c.exceptionTable.isEmpty && decide (c.maxStack ≤ mostOperands) && decide (meth.sig.returnType = rt) && !meth.locks && decide (parseMethodDescriptor y.desc = some meth.sig)) = true) : (Jvm.Cond.code y bytes mx rt).before a s = true := by
  simp only [Bool.and_eq_true, beq_iff_eq, Bool.not_eq_true', decide_eq_true_eq] at h5
  obtain ⟨⟨⟨⟨⟨g1, g2⟩, g3⟩, g4⟩, g5⟩, g6⟩ := h5
  simp [Cond.before, Cond.holds, Cond.value, h1, h2, h3, h4, g1, g2, g3, g4, g5, g6]
def isCode : Jvm.Cond → Bool
  | .code _ _ _ _ => true
  | _ => false
theorem all_split {L : List Jvm.Cond} {P : Jvm.Cond → Bool} (h1 : L.all (fun c => isCode c || P c) = true) (h2 : ∀ c ∈ L.filter isCode, P c = true) : L.all P = true := by
  refine List.all_eq_true.mpr fun c hc => ?_
  have h := List.all_eq_true.mp h1 c hc
  rcases Bool.eq_false_or_eq_true (isCode c) with hi | hi
  · exact h2 c (List.mem_filter.mpr ⟨hc, hi⟩)
  · simpa [hi] using h
set_option maxRecDepth 65536 in
theorem w_c0 : (Jvm.Cond.code x code maxLocals ret).before args0 about1 = true := code_word (m := ⟨1, 3⟩) (meth := k1m3) (c := k1c3) (by decide +kernel) rfl rfl rfl (by decide +kernel)
set_option maxRecDepth 65536 in
theorem w_c1 : (Jvm.Cond.code ({ cls := "java/lang/Math", name := "min", desc := "(II)I" } : Jvm.MethodName) jdk_29_method_69_code (2 : Nat) (Option.some Jvm.ClassFile.FieldType.int)).before args0 about1 = true := code_word (m := ⟨2, 1⟩) (meth := k2m1) (c := k2c1) (by decide +kernel) rfl rfl rfl (by decide +kernel)
set_option maxRecDepth 65536 in
theorem w_c2 : (Jvm.Cond.code ({ cls := "com/example/caprice/caprice/solver/Domains", name := "<init>", desc := "([I)V" } : Jvm.MethodName) prog_59_method_1_code (5 : Nat) (Option.none : Option Jvm.ClassFile.FieldType)).before args0 about1 = true := code_word (m := ⟨4, 0⟩) (meth := k4m0) (c := k4c0) (by decide +kernel) rfl rfl rfl (by decide +kernel)
set_option maxRecDepth 65536 in
theorem w_c3 : (Jvm.Cond.code ({ cls := "java/lang/Object", name := "<init>", desc := "()V" } : Jvm.MethodName) object_method_1_code (1 : Nat) (Option.none : Option Jvm.ClassFile.FieldType)).before args0 about1 = true := code_word (m := ⟨0, 0⟩) (meth := k0m0) (c := k0c0) (by decide +kernel) rfl rfl rfl (by decide +kernel)
set_option maxRecDepth 65536 in
theorem w_c4 : (Jvm.Cond.code ({ cls := "com/example/caprice/caprice/solver/Domains", name := "every", desc := "(I)J" } : Jvm.MethodName) prog_59_method_2_code (1 : Nat) (Option.some Jvm.ClassFile.FieldType.long)).before args0 about1 = true := code_word (m := ⟨4, 1⟩) (meth := k4m1) (c := k4c1) (by decide +kernel) rfl rfl rfl (by decide +kernel)
set_option maxRecDepth 65536 in
theorem w_c5 : (Jvm.Cond.code ({ cls := "com/example/caprice/caprice/solver/Domains", name := "mark", desc := "()I" } : Jvm.MethodName) prog_59_method_8_code (1 : Nat) (Option.some Jvm.ClassFile.FieldType.int)).before args0 about1 = true := code_word (m := ⟨4, 5⟩) (meth := k4m5) (c := k4c5) (by decide +kernel) rfl rfl rfl (by decide +kernel)
set_option maxRecDepth 65536 in
theorem w_c6 : (Jvm.Cond.code ({ cls := "com/example/caprice/caprice/solver/Domains", name := "remove", desc := "(II[I)V" } : Jvm.MethodName) prog_59_method_10_code (4 : Nat) (Option.none : Option Jvm.ClassFile.FieldType)).before args0 about1 = true := code_word (m := ⟨4, 7⟩) (meth := k4m7) (c := k4c7) (by decide +kernel) rfl rfl rfl (by decide +kernel)
set_option maxRecDepth 65536 in
theorem w_c7 : (Jvm.Cond.code ({ cls := "com/example/caprice/caprice/solver/Domains", name := "restore", desc := "(I)V" } : Jvm.MethodName) prog_59_method_9_code (4 : Nat) (Option.none : Option Jvm.ClassFile.FieldType)).before args0 about1 = true := code_word (m := ⟨4, 6⟩) (meth := k4m6) (c := k4c6) (by decide +kernel) rfl rfl rfl (by decide +kernel)
set_option maxRecDepth 65536 in
theorem w_c8 : (Jvm.Cond.code ({ cls := "com/example/caprice/caprice/solver/DomainsRestorePinLaw", name := "bit", desc := "(IIZ)J" } : Jvm.MethodName) method_2_code (3 : Nat) (Option.some Jvm.ClassFile.FieldType.long)).before args0 about1 = true := code_word (m := ⟨1, 1⟩) (meth := k1m1) (c := k1c1) (by decide +kernel) rfl rfl rfl (by decide +kernel)
set_option maxRecDepth 65536 in
theorem w_c9 : (Jvm.Cond.code ({ cls := "com/example/caprice/caprice/solver/DomainsRestorePinLaw", name := "one", desc := "(IIZ)I" } : Jvm.MethodName) method_3_code (3 : Nat) (Option.some Jvm.ClassFile.FieldType.int)).before args0 about1 = true := code_word (m := ⟨1, 2⟩) (meth := k1m2) (c := k1c2) (by decide +kernel) rfl rfl rfl (by decide +kernel)
set_option maxRecDepth 65536 in
theorem w_c10 : (Jvm.Cond.code ({ cls := "com/example/caprice/caprice/solver/Domains", name := "left", desc := "(I)I" } : Jvm.MethodName) prog_59_method_6_code (2 : Nat) (Option.some Jvm.ClassFile.FieldType.int)).before args0 about1 = true := code_word (m := ⟨4, 4⟩) (meth := k4m4) (c := k4c4) (by decide +kernel) rfl rfl rfl (by decide +kernel)
set_option maxRecDepth 65536 in
theorem w_c11 : (Jvm.Cond.code ({ cls := "com/example/caprice/caprice/solver/Domains", name := "leftMask", desc := "(I)J" } : Jvm.MethodName) prog_59_method_5_code (2 : Nat) (Option.some Jvm.ClassFile.FieldType.long)).before args0 about1 = true := code_word (m := ⟨4, 3⟩) (meth := k4m3) (c := k4c3) (by decide +kernel) rfl rfl rfl (by decide +kernel)
set_option maxRecDepth 65536 in
theorem w_c12 : (Jvm.Cond.code ({ cls := "com/example/caprice/caprice/solver/Domains", name := "has", desc := "(II)Z" } : Jvm.MethodName) prog_59_method_3_code (3 : Nat) (Option.some Jvm.ClassFile.FieldType.boolean)).before args0 about1 = true := code_word (m := ⟨4, 2⟩) (meth := k4m2) (c := k4c2) (by decide +kernel) rfl rfl rfl (by decide +kernel)
def codes1 : List Jvm.Cond := [Jvm.Cond.code x code maxLocals ret, Jvm.Cond.code ({ cls := "java/lang/Math", name := "min", desc := "(II)I" } : Jvm.MethodName) jdk_29_method_69_code (2 : Nat) (Option.some Jvm.ClassFile.FieldType.int), Jvm.Cond.code ({ cls := "com/example/caprice/caprice/solver/Domains", name := "<init>", desc := "([I)V" } : Jvm.MethodName) prog_59_method_1_code (5 : Nat) (Option.none : Option Jvm.ClassFile.FieldType), Jvm.Cond.code ({ cls := "java/lang/Object", name := "<init>", desc := "()V" } : Jvm.MethodName) object_method_1_code (1 : Nat) (Option.none : Option Jvm.ClassFile.FieldType), Jvm.Cond.code ({ cls := "com/example/caprice/caprice/solver/Domains", name := "every", desc := "(I)J" } : Jvm.MethodName) prog_59_method_2_code (1 : Nat) (Option.some Jvm.ClassFile.FieldType.long), Jvm.Cond.code ({ cls := "com/example/caprice/caprice/solver/Domains", name := "mark", desc := "()I" } : Jvm.MethodName) prog_59_method_8_code (1 : Nat) (Option.some Jvm.ClassFile.FieldType.int), Jvm.Cond.code ({ cls := "com/example/caprice/caprice/solver/Domains", name := "remove", desc := "(II[I)V" } : Jvm.MethodName) prog_59_method_10_code (4 : Nat) (Option.none : Option Jvm.ClassFile.FieldType), Jvm.Cond.code ({ cls := "com/example/caprice/caprice/solver/Domains", name := "restore", desc := "(I)V" } : Jvm.MethodName) prog_59_method_9_code (4 : Nat) (Option.none : Option Jvm.ClassFile.FieldType), Jvm.Cond.code ({ cls := "com/example/caprice/caprice/solver/DomainsRestorePinLaw", name := "bit", desc := "(IIZ)J" } : Jvm.MethodName) method_2_code (3 : Nat) (Option.some Jvm.ClassFile.FieldType.long), Jvm.Cond.code ({ cls := "com/example/caprice/caprice/solver/DomainsRestorePinLaw", name := "one", desc := "(IIZ)I" } : Jvm.MethodName) method_3_code (3 : Nat) (Option.some Jvm.ClassFile.FieldType.int), Jvm.Cond.code ({ cls := "com/example/caprice/caprice/solver/Domains", name := "left", desc := "(I)I" } : Jvm.MethodName) prog_59_method_6_code (2 : Nat) (Option.some Jvm.ClassFile.FieldType.int), Jvm.Cond.code ({ cls := "com/example/caprice/caprice/solver/Domains", name := "leftMask", desc := "(I)J" } : Jvm.MethodName) prog_59_method_5_code (2 : Nat) (Option.some Jvm.ClassFile.FieldType.long), Jvm.Cond.code ({ cls := "com/example/caprice/caprice/solver/Domains", name := "has", desc := "(II)Z" } : Jvm.MethodName) prog_59_method_3_code (3 : Nat) (Option.some Jvm.ClassFile.FieldType.boolean)]
set_option maxRecDepth 65536 in
theorem codes_eq : words1.filter isCode = codes1 := rfl
theorem w_codes : ∀ c ∈ words1.filter isCode, c.before args0 about1 = true := by
  rw [codes_eq]
  intro c hc
  simp only [codes1, List.mem_cons, List.not_mem_nil, or_false] at hc
  rcases hc with rfl | rfl | rfl | rfl | rfl | rfl | rfl | rfl | rfl | rfl | rfl | rfl | rfl
  · exact w_c0
  · exact w_c1
  · exact w_c2
  · exact w_c3
  · exact w_c4
  · exact w_c5
  · exact w_c6
  · exact w_c7
  · exact w_c8
  · exact w_c9
  · exact w_c10
  · exact w_c11
  · exact w_c12
set_option maxRecDepth 65536 in
theorem w_t1 : (words1.take 24).all (fun c => isCode c || c.before args0 about1) = true := by decide +kernel
set_option maxRecDepth 65536 in
theorem w_t2 : ((words1.drop 24).take 24).all (fun c => isCode c || c.before args0 about1) = true := by decide +kernel
set_option maxRecDepth 65536 in
theorem w_t3 : (((words1.drop 24).drop 24).take 24).all (fun c => isCode c || c.before args0 about1) = true := by decide +kernel
set_option maxRecDepth 65536 in
theorem w_t4 : (((words1.drop 24).drop 24).drop 24).all (fun c => isCode c || c.before args0 about1) = true := by decide +kernel
theorem w_tables : (allAtoms (Jvm.Cond.code x code maxLocals ret :: tables_1)).before args0 about1 = true := by
  rw [allAtoms_all]
  show words1.all (fun c => c.before args0 about1) = true
  refine all_split ?_ w_codes
  rw [← List.take_append_drop 24 words1, List.all_append, w_t1, ← List.take_append_drop 24 (words1.drop 24), List.all_append, w_t2, ← List.take_append_drop 24 ((words1.drop 24).drop 24), List.all_append, w_t3, w_t4]
  rfl
set_option maxRecDepth 65536 in
theorem w_case : (Jvm.Cond.and given_1 narrow_1).before args0 about1 = true := by decide +kernel
theorem w_applies : (headSpec (Jvm.Cond.code x code maxLocals ret :: tables_1) room_1).applies x e0.platform about1 = true :=
  (Spec.applies_iff w_frames).mpr ⟨w_running, w_runnable, w_alone, w_named, w_hears, w_ripe, w_room, w_tables⟩
theorem atStart : AtStart classFile x code maxLocals ret World_1 tables_1 room_1 Calls_1 rest_1 Pre_1 launch0 p0 e0 about1 theMethod args0 below0 :=
  ⟨lists_1, trivial, launch0.admits_env _ _ _, launch0.least_env, fairChoices_fair.cas, fairChoices_fair.clock, w_frames, w_args, w_heap, w_applies, trivial, trivial, w_case⟩
end start1
theorem witness_1 : WitnessClaimed_1 := ⟨start1.p0, start1.e0, start1.about1, start1.theMethod, start1.args0, start1.below0, start1.atStart⟩
end Jvm.Pilot.@@N@@
