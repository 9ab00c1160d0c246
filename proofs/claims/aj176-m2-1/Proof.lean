import JvmDerived
import JvmDerived.Pilot.@@N@@Statement
import JvmDerived.Pilot.@@N@@Code
set_option linter.unusedVariables false
set_option linter.unusedSimpArgs false
namespace Jvm.RoadKit
open Sem ClassFile Op Lib Jvm.Stand Jvm.Free Jvm.LawKit
section New
variable {p : Program} {l : Launch} {e : Env} {R : Room} {s : State} {m : MethodId} {args : Array Value} {below : List Frame} {meth : Method} {c : Code} {T : State} {locs : List Loc} {cells slots : Nat}
theorem retI (X : Stand p l e R s m args below meth c T locs cells slots) (hx : p.tables.exec = Jvm.exec) {pc : Nat} {Ls : Array Slot} {z : Int32} {rest : List Value} (hret : meth.sig.returnType = some .int) (hd : decode c.code pc = .ok (.ireturn, 1)) {fs : List Frame}
    (hl : ∀ (f : JFrame) (acts : List Action), f.method = m → f.locked = none → f.entered = [] → (doReturn e (T.setTop f) acts (some (.int z))).1 = T.setFrames fs) : Steps p.tables e below (T.setTop (mkF m pc Ls (.int z :: rest))) (T.setFrames fs) := by
  have hm' : T.vm.method? m = some meth := X.method'
  have hn : narrow .int (.int z) = .int z := rfl
  show Steps p.tables e below (T.setTop { method := m, pc := pc, locals := Ls, stack := _ :: rest, locked := none }) _
  jvm_step X.here [X.here.top, hx, hd, hm', hret, hn]
  first | (intro acts; rw [hl _ acts rfl rfl rfl]) | rw [hl _ _ rfl rfl rfl]
  exact Steps.refl _
end New
end Jvm.RoadKit
namespace Jvm.Pilot.@@N@@
open Jvm Jvm.ClassFile Sem Op Lib Jvm.Free Jvm.Stand Jvm.LawKit Jvm.RoadKit Bundle Jvm.Pilot.@@N@@.Jvm.D
theorem own_ext {h h' h'' : Heap} (A : Ext h h') (B : Ext h' h'') : Ext h h'' := ⟨Nat.le_trans A.1 B.1, fun a c q => B.2 a c (A.2 a c q)⟩
theorem own_fld {args : Array Value} {s : State} {t : Term} {C n d : String} {w : Addr} {k : Int32} (h : (Jvm.Cond.eq (.field t C n d) (.int k)).value args s none s [] = some true) (ev : t.eval args s none [] s = some (.ref w)) : Fld s s.heap w C n d (.int k) := by
  apply Fld.start
  have e := fld_at (C := C) (n := n) (dd := d) ev
  obtain ⟨x, y, e1, e2, k1, k2⟩ := cmp_v (Or.inl h)
  cases (show y = .int k from (Option.some.inj (e2.symm.trans rfl)))
  obtain ⟨z, rfl⟩ := k2
  have q := gotT (Cond.eq_ints e1 e2) h
  rw [← e, e1, q]
theorem own_fldR {args : Array Value} {s : State} {t u : Term} {C n d : String} {w b : Addr} (h : (Jvm.Cond.eq (.field t C n d) u).value args s none s [] = some true) (ev : t.eval args s none [] s = some (.ref w)) (eu : u.eval args s none [] s = some (.ref b)) : Fld s s.heap w C n d (.ref b) := by
  apply Fld.start
  have e := fld_at (C := C) (n := n) (dd := d) ev
  obtain ⟨x, y, e1, e2, k1, k2⟩ := cmp_v (Or.inl h)
  cases e2.symm.trans eu
  have q := gotT (eq_R e1 eu k2.2 rfl) h
  rw [← e, e1, q]
theorem own_ne {Z : State} {h : Heap} {a b : Addr} {C n d : String} {i j : Int32} (F : Fld Z h a C n d (.int i)) (G : Fld Z h b C n d (.int j)) (hn : ¬ (i = j)) : ¬ (a = b) := fun e => by
  subst e
  obtain ⟨c1, f1, k1, i1, g1, p1, p2, -, -, -, -, p7⟩ := F
  obtain ⟨c2, f2, k2, i2, g2, q1, q2, -, -, -, -, q7⟩ := G
  cases p1.symm.trans q1
  cases p2.symm.trans q2
  exact hn (Value.int.inj (Option.some.inj (p7.symm.trans q7)))
theorem own_inj {x y : Int32} (h : x.toInt = y.toInt) : x = y := Int32.toInt_inj.mp h
theorem own_len {args : Array Value} {s : State} {t : Term} {w : Addr} {n : Int32} {cl : Cell} {ty : FieldType} (h : (Jvm.Cond.eq (.length t) (.int n)).value args s none s [] = some true) (ev : t.eval args s none [] s = some (.ref w)) (A : Arr s s.heap w cl ty) : cl.slots.size.toInt32 = n := by
  obtain ⟨x, y, e1, e2, k1, k2⟩ := cmp_v (Or.inl h)
  cases (show y = .int n from (Option.some.inj (e2.symm.trans rfl)))
  obtain ⟨z, rfl⟩ := k2
  have q := gotT (Cond.eq_ints e1 e2) h
  have ha : s.arrayAt? w = some cl := Arr.fin (Vm.Alike.refl _) A
  simp [Term.eval, ev, ha] at e1
  rw [← q]; exact e1.2
theorem own_elem {args : Array Value} {s : State} {t u : Term} {w : Addr} {j : Int32} {cl : Cell} {ty : FieldType} {v : Value} (h : (Jvm.Cond.eq (.elem t (.int j)) u).value args s none s [] = some true) (ev : t.eval args s none [] s = some (.ref w)) (A : Arr s s.heap w cl ty) (eu : u.eval args s none [] s = some v) (hv : v.isRef = true := by rfl) : ¬ (j < 0 ∨ cl.slots.size ≤ j.toNatClampNeg) ∧ cl.slots[j.toNatClampNeg]? = some v := by
  obtain ⟨x, y, e1, e2, k1, k2⟩ := cmp_v (Or.inl h)
  cases e2.symm.trans eu
  have hx : x.isRef = true := by cases v <;> simp [Value.isRef] at hv <;> exact k2.2
  have q := gotT (eq_R e1 eu hx hv) h
  rw [q] at e1
  exact elem_in e1 ev rfl A.1
theorem own_neg_ne {x k : Int32} (h : x < 0) (hk : ¬ (k < 0)) : ¬ (x = k) := fun q => hk (q ▸ h)
theorem own_big_nn {x : Int32} (h : 19 < x) : ¬ (x < 0) := fun q => by
  rw [Int32.lt_iff_toInt_lt] at h q
  have e : (19 : Int32).toInt = 19 := by decide
  have e0 : (0 : Int32).toInt = 0 := by decide
  omega
theorem own_big_ge {x : Int32} (h : 19 < x) : ¬ (x < 20) := fun q => by
  rw [Int32.lt_iff_toInt_lt] at h q
  have e : (19 : Int32).toInt = 19 := by decide
  have e0 : (20 : Int32).toInt = 20 := by decide
  omega
theorem own_big_ne {x k : Int32} (h : 19 < x) (hk : ¬ (19 < k)) : ¬ (x = k) := fun q => hk (q ▸ h)
theorem own_sm (x : Int32) : x < (0 : Int32) ∨ (19 : Int32) < x ∨ x = (0 : Int32) ∨ x = (1 : Int32) ∨ x = (2 : Int32) ∨ x = (3 : Int32) ∨ x = (4 : Int32) ∨ x = (5 : Int32) ∨ x = (6 : Int32) ∨ x = (7 : Int32) ∨ x = (8 : Int32) ∨ x = (9 : Int32) ∨ x = (10 : Int32) ∨ x = (11 : Int32) ∨ x = (12 : Int32) ∨ x = (13 : Int32) ∨ x = (14 : Int32) ∨ x = (15 : Int32) ∨ x = (16 : Int32) ∨ x = (17 : Int32) ∨ x = (18 : Int32) ∨ x = (19 : Int32) := by
  have h : x.toInt < 0 ∨ 19 < x.toInt ∨ x.toInt = 0 ∨ x.toInt = 1 ∨ x.toInt = 2 ∨ x.toInt = 3 ∨ x.toInt = 4 ∨ x.toInt = 5 ∨ x.toInt = 6 ∨ x.toInt = 7 ∨ x.toInt = 8 ∨ x.toInt = 9 ∨ x.toInt = 10 ∨ x.toInt = 11 ∨ x.toInt = 12 ∨ x.toInt = 13 ∨ x.toInt = 14 ∨ x.toInt = 15 ∨ x.toInt = 16 ∨ x.toInt = 17 ∨ x.toInt = 18 ∨ x.toInt = 19 := by omega
  rcases h with h | h | h | h | h | h | h | h | h | h | h | h | h | h | h | h | h | h | h | h | h | h
  · exact Or.inl (by rw [Int32.lt_iff_toInt_lt]; exact h)
  · exact Or.inr (Or.inl (by rw [Int32.lt_iff_toInt_lt]; exact h))
  · exact Or.inr (Or.inr (Or.inl (own_inj (h.trans (by decide)))))
  · exact Or.inr (Or.inr (Or.inr (Or.inl (own_inj (h.trans (by decide))))))
  · exact Or.inr (Or.inr (Or.inr (Or.inr (Or.inl (own_inj (h.trans (by decide)))))))
  · exact Or.inr (Or.inr (Or.inr (Or.inr (Or.inr (Or.inl (own_inj (h.trans (by decide))))))))
  · exact Or.inr (Or.inr (Or.inr (Or.inr (Or.inr (Or.inr (Or.inl (own_inj (h.trans (by decide)))))))))
  · exact Or.inr (Or.inr (Or.inr (Or.inr (Or.inr (Or.inr (Or.inr (Or.inl (own_inj (h.trans (by decide))))))))))
  · exact Or.inr (Or.inr (Or.inr (Or.inr (Or.inr (Or.inr (Or.inr (Or.inr (Or.inl (own_inj (h.trans (by decide)))))))))))
  · exact Or.inr (Or.inr (Or.inr (Or.inr (Or.inr (Or.inr (Or.inr (Or.inr (Or.inr (Or.inl (own_inj (h.trans (by decide))))))))))))
  · exact Or.inr (Or.inr (Or.inr (Or.inr (Or.inr (Or.inr (Or.inr (Or.inr (Or.inr (Or.inr (Or.inl (own_inj (h.trans (by decide)))))))))))))
  · exact Or.inr (Or.inr (Or.inr (Or.inr (Or.inr (Or.inr (Or.inr (Or.inr (Or.inr (Or.inr (Or.inr (Or.inl (own_inj (h.trans (by decide))))))))))))))
  · exact Or.inr (Or.inr (Or.inr (Or.inr (Or.inr (Or.inr (Or.inr (Or.inr (Or.inr (Or.inr (Or.inr (Or.inr (Or.inl (own_inj (h.trans (by decide)))))))))))))))
  · exact Or.inr (Or.inr (Or.inr (Or.inr (Or.inr (Or.inr (Or.inr (Or.inr (Or.inr (Or.inr (Or.inr (Or.inr (Or.inr (Or.inl (own_inj (h.trans (by decide))))))))))))))))
  · exact Or.inr (Or.inr (Or.inr (Or.inr (Or.inr (Or.inr (Or.inr (Or.inr (Or.inr (Or.inr (Or.inr (Or.inr (Or.inr (Or.inr (Or.inl (own_inj (h.trans (by decide)))))))))))))))))
  · exact Or.inr (Or.inr (Or.inr (Or.inr (Or.inr (Or.inr (Or.inr (Or.inr (Or.inr (Or.inr (Or.inr (Or.inr (Or.inr (Or.inr (Or.inr (Or.inl (own_inj (h.trans (by decide))))))))))))))))))
  · exact Or.inr (Or.inr (Or.inr (Or.inr (Or.inr (Or.inr (Or.inr (Or.inr (Or.inr (Or.inr (Or.inr (Or.inr (Or.inr (Or.inr (Or.inr (Or.inr (Or.inl (own_inj (h.trans (by decide)))))))))))))))))))
  · exact Or.inr (Or.inr (Or.inr (Or.inr (Or.inr (Or.inr (Or.inr (Or.inr (Or.inr (Or.inr (Or.inr (Or.inr (Or.inr (Or.inr (Or.inr (Or.inr (Or.inr (Or.inl (own_inj (h.trans (by decide))))))))))))))))))))
  · exact Or.inr (Or.inr (Or.inr (Or.inr (Or.inr (Or.inr (Or.inr (Or.inr (Or.inr (Or.inr (Or.inr (Or.inr (Or.inr (Or.inr (Or.inr (Or.inr (Or.inr (Or.inr (Or.inl (own_inj (h.trans (by decide)))))))))))))))))))))
  · exact Or.inr (Or.inr (Or.inr (Or.inr (Or.inr (Or.inr (Or.inr (Or.inr (Or.inr (Or.inr (Or.inr (Or.inr (Or.inr (Or.inr (Or.inr (Or.inr (Or.inr (Or.inr (Or.inr (Or.inl (own_inj (h.trans (by decide))))))))))))))))))))))
  · exact Or.inr (Or.inr (Or.inr (Or.inr (Or.inr (Or.inr (Or.inr (Or.inr (Or.inr (Or.inr (Or.inr (Or.inr (Or.inr (Or.inr (Or.inr (Or.inr (Or.inr (Or.inr (Or.inr (Or.inr (Or.inl (own_inj (h.trans (by decide)))))))))))))))))))))))
  · exact Or.inr (Or.inr (Or.inr (Or.inr (Or.inr (Or.inr (Or.inr (Or.inr (Or.inr (Or.inr (Or.inr (Or.inr (Or.inr (Or.inr (Or.inr (Or.inr (Or.inr (Or.inr (Or.inr (Or.inr (Or.inr (own_inj (h.trans (by decide)))))))))))))))))))))))
def World (Z : State) (h : Heap) (w_PRODUCE : Addr) (w_METADATA : Addr) (w_LIST_OFFSETS : Addr) (w_JOIN_GROUP : Addr) (w_OFFSET_COMMIT : Addr) (w_FETCH : Addr) (w_FIND_COORDINATOR : Addr) (w_CREATE_TOPICS : Addr) (w_SYNC_GROUP : Addr) (w_OFFSET_FETCH : Addr) (w_HEARTBEAT : Addr) (w_LEAVE_GROUP : Addr) (w_API_VERSIONS : Addr) (w_BY_ID : Addr) (cl_w_BY_ID : Cell) : Prop := Sta Z h "com/example/melog/melog/protocol/ApiKey" "PRODUCE" "Lcom/example/melog/melog/protocol/ApiKey;" (.ref w_PRODUCE) ∧ Exa Z h w_PRODUCE "com/example/melog/melog/protocol/ApiKey" ∧ Sta Z h "com/example/melog/melog/protocol/ApiKey" "METADATA" "Lcom/example/melog/melog/protocol/ApiKey;" (.ref w_METADATA) ∧ Exa Z h w_METADATA "com/example/melog/melog/protocol/ApiKey" ∧ Sta Z h "com/example/melog/melog/protocol/ApiKey" "LIST_OFFSETS" "Lcom/example/melog/melog/protocol/ApiKey;" (.ref w_LIST_OFFSETS) ∧ Exa Z h w_LIST_OFFSETS "com/example/melog/melog/protocol/ApiKey" ∧ Sta Z h "com/example/melog/melog/protocol/ApiKey" "JOIN_GROUP" "Lcom/example/melog/melog/protocol/ApiKey;" (.ref w_JOIN_GROUP) ∧ Exa Z h w_JOIN_GROUP "com/example/melog/melog/protocol/ApiKey" ∧ Sta Z h "com/example/melog/melog/protocol/ApiKey" "OFFSET_COMMIT" "Lcom/example/melog/melog/protocol/ApiKey;" (.ref w_OFFSET_COMMIT) ∧ Exa Z h w_OFFSET_COMMIT "com/example/melog/melog/protocol/ApiKey" ∧ Sta Z h "com/example/melog/melog/protocol/ApiKey" "FETCH" "Lcom/example/melog/melog/protocol/ApiKey;" (.ref w_FETCH) ∧ Exa Z h w_FETCH "com/example/melog/melog/protocol/ApiKey" ∧ Sta Z h "com/example/melog/melog/protocol/ApiKey" "FIND_COORDINATOR" "Lcom/example/melog/melog/protocol/ApiKey;" (.ref w_FIND_COORDINATOR) ∧ Exa Z h w_FIND_COORDINATOR "com/example/melog/melog/protocol/ApiKey" ∧ Sta Z h "com/example/melog/melog/protocol/ApiKey" "CREATE_TOPICS" "Lcom/example/melog/melog/protocol/ApiKey;" (.ref w_CREATE_TOPICS) ∧ Exa Z h w_CREATE_TOPICS "com/example/melog/melog/protocol/ApiKey" ∧ Sta Z h "com/example/melog/melog/protocol/ApiKey" "SYNC_GROUP" "Lcom/example/melog/melog/protocol/ApiKey;" (.ref w_SYNC_GROUP) ∧ Exa Z h w_SYNC_GROUP "com/example/melog/melog/protocol/ApiKey" ∧ Sta Z h "com/example/melog/melog/protocol/ApiKey" "OFFSET_FETCH" "Lcom/example/melog/melog/protocol/ApiKey;" (.ref w_OFFSET_FETCH) ∧ Exa Z h w_OFFSET_FETCH "com/example/melog/melog/protocol/ApiKey" ∧ Sta Z h "com/example/melog/melog/protocol/ApiKey" "HEARTBEAT" "Lcom/example/melog/melog/protocol/ApiKey;" (.ref w_HEARTBEAT) ∧ Exa Z h w_HEARTBEAT "com/example/melog/melog/protocol/ApiKey" ∧ Sta Z h "com/example/melog/melog/protocol/ApiKey" "LEAVE_GROUP" "Lcom/example/melog/melog/protocol/ApiKey;" (.ref w_LEAVE_GROUP) ∧ Exa Z h w_LEAVE_GROUP "com/example/melog/melog/protocol/ApiKey" ∧ Sta Z h "com/example/melog/melog/protocol/ApiKey" "API_VERSIONS" "Lcom/example/melog/melog/protocol/ApiKey;" (.ref w_API_VERSIONS) ∧ Exa Z h w_API_VERSIONS "com/example/melog/melog/protocol/ApiKey" ∧ Sta Z h "com/example/melog/melog/protocol/ApiKey" "BY_ID" "[Lcom/example/melog/melog/protocol/ApiKey;" (.ref w_BY_ID) ∧ Arr Z h w_BY_ID cl_w_BY_ID (.object "com/example/melog/melog/protocol/ApiKey") ∧ cl_w_BY_ID.slots.size.toInt32 = (20 : Int32) ∧ (¬ ((0 : Int32) < 0 ∨ cl_w_BY_ID.slots.size ≤ ((0 : Int32)).toNatClampNeg) ∧ cl_w_BY_ID.slots[((0 : Int32)).toNatClampNeg]? = some (.ref w_PRODUCE)) ∧ (¬ ((3 : Int32) < 0 ∨ cl_w_BY_ID.slots.size ≤ ((3 : Int32)).toNatClampNeg) ∧ cl_w_BY_ID.slots[((3 : Int32)).toNatClampNeg]? = some (.ref w_METADATA)) ∧ (¬ ((7 : Int32) < 0 ∨ cl_w_BY_ID.slots.size ≤ ((7 : Int32)).toNatClampNeg) ∧ cl_w_BY_ID.slots[((7 : Int32)).toNatClampNeg]? = some .null) ∧ (¬ ((2 : Int32) < 0 ∨ cl_w_BY_ID.slots.size ≤ ((2 : Int32)).toNatClampNeg) ∧ cl_w_BY_ID.slots[((2 : Int32)).toNatClampNeg]? = some (.ref w_LIST_OFFSETS)) ∧ (¬ ((11 : Int32) < 0 ∨ cl_w_BY_ID.slots.size ≤ ((11 : Int32)).toNatClampNeg) ∧ cl_w_BY_ID.slots[((11 : Int32)).toNatClampNeg]? = some (.ref w_JOIN_GROUP)) ∧ (¬ ((8 : Int32) < 0 ∨ cl_w_BY_ID.slots.size ≤ ((8 : Int32)).toNatClampNeg) ∧ cl_w_BY_ID.slots[((8 : Int32)).toNatClampNeg]? = some (.ref w_OFFSET_COMMIT)) ∧ (¬ ((1 : Int32) < 0 ∨ cl_w_BY_ID.slots.size ≤ ((1 : Int32)).toNatClampNeg) ∧ cl_w_BY_ID.slots[((1 : Int32)).toNatClampNeg]? = some (.ref w_FETCH)) ∧ (¬ ((10 : Int32) < 0 ∨ cl_w_BY_ID.slots.size ≤ ((10 : Int32)).toNatClampNeg) ∧ cl_w_BY_ID.slots[((10 : Int32)).toNatClampNeg]? = some (.ref w_FIND_COORDINATOR)) ∧ (¬ ((16 : Int32) < 0 ∨ cl_w_BY_ID.slots.size ≤ ((16 : Int32)).toNatClampNeg) ∧ cl_w_BY_ID.slots[((16 : Int32)).toNatClampNeg]? = some .null) ∧ (¬ ((19 : Int32) < 0 ∨ cl_w_BY_ID.slots.size ≤ ((19 : Int32)).toNatClampNeg) ∧ cl_w_BY_ID.slots[((19 : Int32)).toNatClampNeg]? = some (.ref w_CREATE_TOPICS)) ∧ (¬ ((15 : Int32) < 0 ∨ cl_w_BY_ID.slots.size ≤ ((15 : Int32)).toNatClampNeg) ∧ cl_w_BY_ID.slots[((15 : Int32)).toNatClampNeg]? = some .null) ∧ (¬ ((14 : Int32) < 0 ∨ cl_w_BY_ID.slots.size ≤ ((14 : Int32)).toNatClampNeg) ∧ cl_w_BY_ID.slots[((14 : Int32)).toNatClampNeg]? = some (.ref w_SYNC_GROUP)) ∧ (¬ ((6 : Int32) < 0 ∨ cl_w_BY_ID.slots.size ≤ ((6 : Int32)).toNatClampNeg) ∧ cl_w_BY_ID.slots[((6 : Int32)).toNatClampNeg]? = some .null) ∧ (¬ ((9 : Int32) < 0 ∨ cl_w_BY_ID.slots.size ≤ ((9 : Int32)).toNatClampNeg) ∧ cl_w_BY_ID.slots[((9 : Int32)).toNatClampNeg]? = some (.ref w_OFFSET_FETCH)) ∧ (¬ ((12 : Int32) < 0 ∨ cl_w_BY_ID.slots.size ≤ ((12 : Int32)).toNatClampNeg) ∧ cl_w_BY_ID.slots[((12 : Int32)).toNatClampNeg]? = some (.ref w_HEARTBEAT)) ∧ (¬ ((17 : Int32) < 0 ∨ cl_w_BY_ID.slots.size ≤ ((17 : Int32)).toNatClampNeg) ∧ cl_w_BY_ID.slots[((17 : Int32)).toNatClampNeg]? = some .null) ∧ (¬ ((13 : Int32) < 0 ∨ cl_w_BY_ID.slots.size ≤ ((13 : Int32)).toNatClampNeg) ∧ cl_w_BY_ID.slots[((13 : Int32)).toNatClampNeg]? = some (.ref w_LEAVE_GROUP)) ∧ (¬ ((5 : Int32) < 0 ∨ cl_w_BY_ID.slots.size ≤ ((5 : Int32)).toNatClampNeg) ∧ cl_w_BY_ID.slots[((5 : Int32)).toNatClampNeg]? = some .null) ∧ (¬ ((18 : Int32) < 0 ∨ cl_w_BY_ID.slots.size ≤ ((18 : Int32)).toNatClampNeg) ∧ cl_w_BY_ID.slots[((18 : Int32)).toNatClampNeg]? = some (.ref w_API_VERSIONS)) ∧ (¬ ((4 : Int32) < 0 ∨ cl_w_BY_ID.slots.size ≤ ((4 : Int32)).toNatClampNeg) ∧ cl_w_BY_ID.slots[((4 : Int32)).toNatClampNeg]? = some .null) ∧ True
theorem World.ext {Z : State} {h h' : Heap} {w_PRODUCE : Addr} {w_METADATA : Addr} {w_LIST_OFFSETS : Addr} {w_JOIN_GROUP : Addr} {w_OFFSET_COMMIT : Addr} {w_FETCH : Addr} {w_FIND_COORDINATOR : Addr} {w_CREATE_TOPICS : Addr} {w_SYNC_GROUP : Addr} {w_OFFSET_FETCH : Addr} {w_HEARTBEAT : Addr} {w_LEAVE_GROUP : Addr} {w_API_VERSIONS : Addr} {w_BY_ID : Addr} {cl_w_BY_ID : Cell} (E : Ext h h') (W : World Z h w_PRODUCE w_METADATA w_LIST_OFFSETS w_JOIN_GROUP w_OFFSET_COMMIT w_FETCH w_FIND_COORDINATOR w_CREATE_TOPICS w_SYNC_GROUP w_OFFSET_FETCH w_HEARTBEAT w_LEAVE_GROUP w_API_VERSIONS w_BY_ID cl_w_BY_ID) : World Z h' w_PRODUCE w_METADATA w_LIST_OFFSETS w_JOIN_GROUP w_OFFSET_COMMIT w_FETCH w_FIND_COORDINATOR w_CREATE_TOPICS w_SYNC_GROUP w_OFFSET_FETCH w_HEARTBEAT w_LEAVE_GROUP w_API_VERSIONS w_BY_ID cl_w_BY_ID := by
  obtain ⟨S_w_PRODUCE, E_w_PRODUCE, S_w_METADATA, E_w_METADATA, S_w_LIST_OFFSETS, E_w_LIST_OFFSETS, S_w_JOIN_GROUP, E_w_JOIN_GROUP, S_w_OFFSET_COMMIT, E_w_OFFSET_COMMIT, S_w_FETCH, E_w_FETCH, S_w_FIND_COORDINATOR, E_w_FIND_COORDINATOR, S_w_CREATE_TOPICS, E_w_CREATE_TOPICS, S_w_SYNC_GROUP, E_w_SYNC_GROUP, S_w_OFFSET_FETCH, E_w_OFFSET_FETCH, S_w_HEARTBEAT, E_w_HEARTBEAT, S_w_LEAVE_GROUP, E_w_LEAVE_GROUP, S_w_API_VERSIONS, E_w_API_VERSIONS, S_w_BY_ID, Ar_w_BY_ID, Sz_w_BY_ID, At_w_BY_ID_0, At_w_BY_ID_3, At_w_BY_ID_7, At_w_BY_ID_2, At_w_BY_ID_11, At_w_BY_ID_8, At_w_BY_ID_1, At_w_BY_ID_10, At_w_BY_ID_16, At_w_BY_ID_19, At_w_BY_ID_15, At_w_BY_ID_14, At_w_BY_ID_6, At_w_BY_ID_9, At_w_BY_ID_12, At_w_BY_ID_17, At_w_BY_ID_13, At_w_BY_ID_5, At_w_BY_ID_18, At_w_BY_ID_4, -⟩ := W
  exact ⟨S_w_PRODUCE.ext E, E_w_PRODUCE.ext E, S_w_METADATA.ext E, E_w_METADATA.ext E, S_w_LIST_OFFSETS.ext E, E_w_LIST_OFFSETS.ext E, S_w_JOIN_GROUP.ext E, E_w_JOIN_GROUP.ext E, S_w_OFFSET_COMMIT.ext E, E_w_OFFSET_COMMIT.ext E, S_w_FETCH.ext E, E_w_FETCH.ext E, S_w_FIND_COORDINATOR.ext E, E_w_FIND_COORDINATOR.ext E, S_w_CREATE_TOPICS.ext E, E_w_CREATE_TOPICS.ext E, S_w_SYNC_GROUP.ext E, E_w_SYNC_GROUP.ext E, S_w_OFFSET_FETCH.ext E, E_w_OFFSET_FETCH.ext E, S_w_HEARTBEAT.ext E, E_w_HEARTBEAT.ext E, S_w_LEAVE_GROUP.ext E, E_w_LEAVE_GROUP.ext E, S_w_API_VERSIONS.ext E, E_w_API_VERSIONS.ext E, S_w_BY_ID.ext E, Ar_w_BY_ID.ext E, Sz_w_BY_ID, At_w_BY_ID_0, At_w_BY_ID_3, At_w_BY_ID_7, At_w_BY_ID_2, At_w_BY_ID_11, At_w_BY_ID_8, At_w_BY_ID_1, At_w_BY_ID_10, At_w_BY_ID_16, At_w_BY_ID_19, At_w_BY_ID_15, At_w_BY_ID_14, At_w_BY_ID_6, At_w_BY_ID_9, At_w_BY_ID_12, At_w_BY_ID_17, At_w_BY_ID_13, At_w_BY_ID_5, At_w_BY_ID_18, At_w_BY_ID_4, trivial⟩
theorem d1_0 : decode prog_9_method_4_code 0 = .ok (.iload_n 0, 1) := by decide +kernel
theorem d1_1 : decode prog_9_method_4_code 1 = .ok (.ifCond .lt 19, 3) := by decide +kernel
theorem d1_20 : decode prog_9_method_4_code 20 = .ok (.aconst_null, 1) := by decide +kernel
theorem d1_21 : decode prog_9_method_4_code 21 = .ok (.areturn, 1) := by decide +kernel
theorem ef5 (m : MethodId) (x0 : Int32) : entryFrame m #[(.int x0)] 1 = mkF m 0 #[.val (.int x0)] [] := by first | (simp [entryFrame, mkF, argsToLocals, Value.category]; done) | rfl
theorem pn6 : plainName "com/example/melog/melog/protocol/ApiKey" = true := by first | (simp [plainName, overriddenIn]; done) | decide +kernel
def Q1_0 (Z : State) (w_PRODUCE : Addr) (w_METADATA : Addr) (w_LIST_OFFSETS : Addr) (w_JOIN_GROUP : Addr) (w_OFFSET_COMMIT : Addr) (w_FETCH : Addr) (w_FIND_COORDINATOR : Addr) (w_CREATE_TOPICS : Addr) (w_SYNC_GROUP : Addr) (w_OFFSET_FETCH : Addr) (w_HEARTBEAT : Addr) (w_LEAVE_GROUP : Addr) (w_API_VERSIONS : Addr) (w_BY_ID : Addr) (cl_w_BY_ID : Cell) (q0 : Int32) (h0 : Heap) (n0 : Nat) (v : Option Value) (h : Heap) (L : List Loc) : Prop := v = some .null ∧ Fr n0 L ∧ h = h0
set_option maxRecDepth 65536 in
set_option maxHeartbeats 40000000 in
theorem rm1_0 (l : Launch) (Z : State) (a0 : Array Value) (hw : ∀ d ∈ tables_1, d.before a0 Z = true) (ws : List Jvm.Cond) (w_PRODUCE : Addr) (w_METADATA : Addr) (w_LIST_OFFSETS : Addr) (w_JOIN_GROUP : Addr) (w_OFFSET_COMMIT : Addr) (w_FETCH : Addr) (w_FIND_COORDINATOR : Addr) (w_CREATE_TOPICS : Addr) (w_SYNC_GROUP : Addr) (w_OFFSET_FETCH : Addr) (w_HEARTBEAT : Addr) (w_LEAVE_GROUP : Addr) (w_API_VERSIONS : Addr) (w_BY_ID : Addr) (cl_w_BY_ID : Cell) (q0 : Int32) (h0 : Heap) (n0 : Nat) (Z0 : n0 ≤ h0.size) (HW : World Z h0 w_PRODUCE w_METADATA w_LIST_OFFSETS w_JOIN_GROUP w_OFFSET_COMMIT w_FETCH w_FIND_COORDINATOR w_CREATE_TOPICS w_SYNC_GROUP w_OFFSET_FETCH w_HEARTBEAT w_LEAVE_GROUP w_API_VERSIONS w_BY_ID cl_w_BY_ID) (hd0 : q0 < (0 : Int32)) :
    MetFree l (⟨"com/example/melog/melog/protocol/ApiKey", "forId", "(S)Lcom/example/melog/melog/protocol/ApiKey;"⟩ : MethodName) (head1 (Jvm.Cond.code (⟨"com/example/melog/melog/protocol/ApiKey", "forId", "(S)Lcom/example/melog/melog/protocol/ApiKey;"⟩ : MethodName) prog_9_method_4_code 1 (some (.object "com/example/melog/melog/protocol/ApiKey")) :: ws) ({ frames := 0, cells := 0, slots := 0, locals := 0 } : Room)) (fun a U => a = #[(.int q0)] ∧ Z.Warmed39 U.vm ∧ U.heap = h0) (fun _ _ _ _ _ => True) (fun _ U o U' => ∃ v L, o = .returned v ∧ Q1_0 Z w_PRODUCE w_METADATA w_LIST_OFFSETS w_JOIN_GROUP w_OFFSET_COMMIT w_FETCH w_FIND_COORDINATOR w_CREATE_TOPICS w_SYNC_GROUP w_OFFSET_FETCH w_HEARTBEAT w_LEAVE_GROUP w_API_VERSIONS w_BY_ID cl_w_BY_ID q0 h0 n0 v U'.heap L ∧ FrameEnd U o U' L ({ frames := 0, cells := 0, slots := 0, locals := 0 } : Room).cells ({ frames := 0, cells := 0, slots := 0, locals := 0 } : Room).slots) := by
  refine MetFree.of_bodySF (plainFor_of_name pn6) hisR ?_
  intro p e s m args below meth c s₁ Bd hml0 hP hK
  obtain ⟨rfl, hZ, hh⟩ := hP
  have hx := Bd.exec
  have hby := Bd.bytes
  have hml : c.maxLocals = 1 := hml0
  have hown : s.vm.findClass "com/example/melog/melog/protocol/ApiKey" = some m.cls := findClass_of_methodNamed Bd.named
  have X0 : Stand p l e ({ frames := 0, cells := 0, slots := 0, locals := 0 } : Room) s m #[(.int q0)] below meth c s₁ [] 0 0 := Stand.of_body Bd
  have e0 : s₁.heap = h0 := by rw [← hh, Bd.state]; rfl
  have N0 := Fr.nil n0
  have pre0 : ∀ t, Steps p.tables e below (s₁.setTop (mkF m 0 #[.val (.int q0)] [])) t → Steps p.tables e below (s₁.setTop (entryFrame m #[(.int q0)] 1)) t := fun t k => castTop (ef5 m q0) k
  obtain ⟨S_w_PRODUCE, E_w_PRODUCE, S_w_METADATA, E_w_METADATA, S_w_LIST_OFFSETS, E_w_LIST_OFFSETS, S_w_JOIN_GROUP, E_w_JOIN_GROUP, S_w_OFFSET_COMMIT, E_w_OFFSET_COMMIT, S_w_FETCH, E_w_FETCH, S_w_FIND_COORDINATOR, E_w_FIND_COORDINATOR, S_w_CREATE_TOPICS, E_w_CREATE_TOPICS, S_w_SYNC_GROUP, E_w_SYNC_GROUP, S_w_OFFSET_FETCH, E_w_OFFSET_FETCH, S_w_HEARTBEAT, E_w_HEARTBEAT, S_w_LEAVE_GROUP, E_w_LEAVE_GROUP, S_w_API_VERSIONS, E_w_API_VERSIONS, S_w_BY_ID, Ar_w_BY_ID, Sz_w_BY_ID, At_w_BY_ID_0, At_w_BY_ID_3, At_w_BY_ID_7, At_w_BY_ID_2, At_w_BY_ID_11, At_w_BY_ID_8, At_w_BY_ID_1, At_w_BY_ID_10, At_w_BY_ID_16, At_w_BY_ID_19, At_w_BY_ID_15, At_w_BY_ID_14, At_w_BY_ID_6, At_w_BY_ID_9, At_w_BY_ID_12, At_w_BY_ID_17, At_w_BY_ID_13, At_w_BY_ID_5, At_w_BY_ID_18, At_w_BY_ID_4, -⟩ := id HW
  obtain ⟨fs, hr, hrun, hended, hW, hsame⟩ := X0.leave (v := some .null) (fun h => by rw [Bd.returns] at h; cases h)
  refine ⟨_, _, pre0 _ ?_, hrun, hended, _, _, rfl, ?_, ⟨_, rfl⟩, hW, hsame.mono (by decide) (by decide)⟩
  · show Steps p.tables e below (s₁.setTop (mkF m 0 #[.val (.int q0)] [])) _
    refine XS.iloadN X0.here hx rfl (hb hby d1_0) rfl ?_
    show Steps p.tables e below (s₁.setTop (mkF m 1 #[.val (.int q0)] [(.int q0)])) _
    refine XS.ifYes X0.here hx rfl (pc0 := 1) (pc' := 20) rfl (hb hby d1_1) rfl ((if0 _ _).trans (tlt hd0).1) (by decide) (by decide) ?_
    show Steps p.tables e below (s₁.setTop (mkF m 20 #[.val (.int q0)] [])) _
    refine XS.aconstNull X0.here hx rfl (hb hby d1_20) ?_
    show Steps p.tables e below (s₁.setTop (mkF m 21 #[.val (.int q0)] [.null])) _
    jvm_step X0.here [X0.here.top, hx, (hb hby d1_21), X0.method', Bd.returns, Value.isRef, FieldType.isReference]
    first | (intro acts; rw [hr _ acts rfl rfl rfl]) | rw [hr _ _ rfl rfl rfl]
    exact Steps.refl _
  · exact ⟨rfl, N0, e0⟩
theorem pd7 : parseMethodDescriptor "(S)Lcom/example/melog/melog/protocol/ApiKey;" = some ⟨[.short], some (.object "com/example/melog/melog/protocol/ApiKey")⟩ := by decide +kernel
theorem d2_0 : decode method_2_code 0 = .ok (.iload_n 0, 1) := by decide +kernel
theorem d2_1 : decode method_2_code 1 = .ok (.ifCond .ne 7, 3) := by decide +kernel
theorem d2_8 : decode method_2_code 8 = .ok (.iload_n 0, 1) := by decide +kernel
theorem d2_9 : decode method_2_code 9 = .ok (.iconst 1, 1) := by decide +kernel
theorem d2_10 : decode method_2_code 10 = .ok (.if_icmp .ne 7, 3) := by decide +kernel
theorem d2_17 : decode method_2_code 17 = .ok (.iload_n 0, 1) := by decide +kernel
theorem d2_18 : decode method_2_code 18 = .ok (.iconst 2, 1) := by decide +kernel
theorem d2_19 : decode method_2_code 19 = .ok (.if_icmp .ne 7, 3) := by decide +kernel
theorem d2_26 : decode method_2_code 26 = .ok (.iload_n 0, 1) := by decide +kernel
theorem d2_27 : decode method_2_code 27 = .ok (.iconst 3, 1) := by decide +kernel
theorem d2_28 : decode method_2_code 28 = .ok (.if_icmp .ne 7, 3) := by decide +kernel
theorem d2_35 : decode method_2_code 35 = .ok (.iload_n 0, 1) := by decide +kernel
theorem d2_36 : decode method_2_code 36 = .ok (.bipush 8, 2) := by decide +kernel
theorem d2_38 : decode method_2_code 38 = .ok (.if_icmp .ne 7, 3) := by decide +kernel
theorem d2_45 : decode method_2_code 45 = .ok (.iload_n 0, 1) := by decide +kernel
theorem d2_46 : decode method_2_code 46 = .ok (.bipush 9, 2) := by decide +kernel
theorem d2_48 : decode method_2_code 48 = .ok (.if_icmp .ne 7, 3) := by decide +kernel
theorem d2_55 : decode method_2_code 55 = .ok (.iload_n 0, 1) := by decide +kernel
theorem d2_56 : decode method_2_code 56 = .ok (.bipush 10, 2) := by decide +kernel
theorem d2_58 : decode method_2_code 58 = .ok (.if_icmp .ne 7, 3) := by decide +kernel
theorem d2_65 : decode method_2_code 65 = .ok (.iload_n 0, 1) := by decide +kernel
theorem d2_66 : decode method_2_code 66 = .ok (.bipush 11, 2) := by decide +kernel
theorem d2_68 : decode method_2_code 68 = .ok (.if_icmp .ne 7, 3) := by decide +kernel
theorem d2_75 : decode method_2_code 75 = .ok (.iload_n 0, 1) := by decide +kernel
theorem d2_76 : decode method_2_code 76 = .ok (.bipush 12, 2) := by decide +kernel
theorem d2_78 : decode method_2_code 78 = .ok (.if_icmp .ne 7, 3) := by decide +kernel
theorem d2_85 : decode method_2_code 85 = .ok (.iload_n 0, 1) := by decide +kernel
theorem d2_86 : decode method_2_code 86 = .ok (.bipush 13, 2) := by decide +kernel
theorem d2_88 : decode method_2_code 88 = .ok (.if_icmp .ne 7, 3) := by decide +kernel
theorem d2_95 : decode method_2_code 95 = .ok (.iload_n 0, 1) := by decide +kernel
theorem d2_96 : decode method_2_code 96 = .ok (.bipush 14, 2) := by decide +kernel
theorem d2_98 : decode method_2_code 98 = .ok (.if_icmp .ne 7, 3) := by decide +kernel
theorem d2_105 : decode method_2_code 105 = .ok (.iload_n 0, 1) := by decide +kernel
theorem d2_106 : decode method_2_code 106 = .ok (.bipush 18, 2) := by decide +kernel
theorem d2_108 : decode method_2_code 108 = .ok (.if_icmp .ne 7, 3) := by decide +kernel
theorem d2_115 : decode method_2_code 115 = .ok (.iload_n 0, 1) := by decide +kernel
theorem d2_116 : decode method_2_code 116 = .ok (.bipush 19, 2) := by decide +kernel
theorem d2_118 : decode method_2_code 118 = .ok (.if_icmp .ne 7, 3) := by decide +kernel
theorem d2_125 : decode method_2_code 125 = .ok (.aconst_null, 1) := by decide +kernel
theorem d2_126 : decode method_2_code 126 = .ok (.areturn, 1) := by decide +kernel
theorem ef49 (m : MethodId) (x0 : Int32) : entryFrame m #[(.int x0)] 1 = mkF m 0 #[.val (.int x0)] [] := by first | (simp [entryFrame, mkF, argsToLocals, Value.category]; done) | rfl
theorem pn50 : plainName "com/example/melog/melog/protocol/ApiKeyForIdPinLaw" = true := by first | (simp [plainName, overriddenIn]; done) | decide +kernel
def Q2_1 (Z : State) (w_PRODUCE : Addr) (w_METADATA : Addr) (w_LIST_OFFSETS : Addr) (w_JOIN_GROUP : Addr) (w_OFFSET_COMMIT : Addr) (w_FETCH : Addr) (w_FIND_COORDINATOR : Addr) (w_CREATE_TOPICS : Addr) (w_SYNC_GROUP : Addr) (w_OFFSET_FETCH : Addr) (w_HEARTBEAT : Addr) (w_LEAVE_GROUP : Addr) (w_API_VERSIONS : Addr) (w_BY_ID : Addr) (cl_w_BY_ID : Cell) (q0 : Int32) (h0 : Heap) (n0 : Nat) (v : Option Value) (h : Heap) (L : List Loc) : Prop := v = some .null ∧ Fr n0 L ∧ h = h0
set_option maxRecDepth 65536 in
set_option maxHeartbeats 40000000 in
theorem rm2_1 (l : Launch) (Z : State) (a0 : Array Value) (hw : ∀ d ∈ tables_1, d.before a0 Z = true) (ws : List Jvm.Cond) (w_PRODUCE : Addr) (w_METADATA : Addr) (w_LIST_OFFSETS : Addr) (w_JOIN_GROUP : Addr) (w_OFFSET_COMMIT : Addr) (w_FETCH : Addr) (w_FIND_COORDINATOR : Addr) (w_CREATE_TOPICS : Addr) (w_SYNC_GROUP : Addr) (w_OFFSET_FETCH : Addr) (w_HEARTBEAT : Addr) (w_LEAVE_GROUP : Addr) (w_API_VERSIONS : Addr) (w_BY_ID : Addr) (cl_w_BY_ID : Cell) (q0 : Int32) (h0 : Heap) (n0 : Nat) (Z0 : n0 ≤ h0.size) (HW : World Z h0 w_PRODUCE w_METADATA w_LIST_OFFSETS w_JOIN_GROUP w_OFFSET_COMMIT w_FETCH w_FIND_COORDINATOR w_CREATE_TOPICS w_SYNC_GROUP w_OFFSET_FETCH w_HEARTBEAT w_LEAVE_GROUP w_API_VERSIONS w_BY_ID cl_w_BY_ID) (hd0 : ¬ (q0 = (0 : Int32))) (hd1 : ¬ (q0 = (1 : Int32))) (hd2 : ¬ (q0 = (2 : Int32))) (hd3 : ¬ (q0 = (3 : Int32))) (hd4 : ¬ (q0 = (8 : Int32))) (hd5 : ¬ (q0 = (9 : Int32))) (hd6 : ¬ (q0 = (10 : Int32))) (hd7 : ¬ (q0 = (11 : Int32))) (hd8 : ¬ (q0 = (12 : Int32))) (hd9 : ¬ (q0 = (13 : Int32))) (hd10 : ¬ (q0 = (14 : Int32))) (hd11 : ¬ (q0 = (18 : Int32))) (hd12 : ¬ (q0 = (19 : Int32))) :
    MetFree l (⟨"com/example/melog/melog/protocol/ApiKeyForIdPinLaw", "expected", "(I)Lcom/example/melog/melog/protocol/ApiKey;"⟩ : MethodName) (head1 (Jvm.Cond.code (⟨"com/example/melog/melog/protocol/ApiKeyForIdPinLaw", "expected", "(I)Lcom/example/melog/melog/protocol/ApiKey;"⟩ : MethodName) method_2_code 1 (some (.object "com/example/melog/melog/protocol/ApiKey")) :: ws) ({ frames := 0, cells := 0, slots := 0, locals := 0 } : Room)) (fun a U => a = #[(.int q0)] ∧ Z.Warmed39 U.vm ∧ U.heap = h0) (fun _ _ _ _ _ => True) (fun _ U o U' => ∃ v L, o = .returned v ∧ Q2_1 Z w_PRODUCE w_METADATA w_LIST_OFFSETS w_JOIN_GROUP w_OFFSET_COMMIT w_FETCH w_FIND_COORDINATOR w_CREATE_TOPICS w_SYNC_GROUP w_OFFSET_FETCH w_HEARTBEAT w_LEAVE_GROUP w_API_VERSIONS w_BY_ID cl_w_BY_ID q0 h0 n0 v U'.heap L ∧ FrameEnd U o U' L ({ frames := 0, cells := 0, slots := 0, locals := 0 } : Room).cells ({ frames := 0, cells := 0, slots := 0, locals := 0 } : Room).slots) := by
  refine MetFree.of_bodySF (plainFor_of_name pn50) hisR ?_
  intro p e s m args below meth c s₁ Bd hml0 hP hK
  obtain ⟨rfl, hZ, hh⟩ := hP
  have hx := Bd.exec
  have hby := Bd.bytes
  have hml : c.maxLocals = 1 := hml0
  have hown : s.vm.findClass "com/example/melog/melog/protocol/ApiKeyForIdPinLaw" = some m.cls := findClass_of_methodNamed Bd.named
  have X0 : Stand p l e ({ frames := 0, cells := 0, slots := 0, locals := 0 } : Room) s m #[(.int q0)] below meth c s₁ [] 0 0 := Stand.of_body Bd
  have e0 : s₁.heap = h0 := by rw [← hh, Bd.state]; rfl
  have N0 := Fr.nil n0
  have pre0 : ∀ t, Steps p.tables e below (s₁.setTop (mkF m 0 #[.val (.int q0)] [])) t → Steps p.tables e below (s₁.setTop (entryFrame m #[(.int q0)] 1)) t := fun t k => castTop (ef49 m q0) k
  obtain ⟨S_w_PRODUCE, E_w_PRODUCE, S_w_METADATA, E_w_METADATA, S_w_LIST_OFFSETS, E_w_LIST_OFFSETS, S_w_JOIN_GROUP, E_w_JOIN_GROUP, S_w_OFFSET_COMMIT, E_w_OFFSET_COMMIT, S_w_FETCH, E_w_FETCH, S_w_FIND_COORDINATOR, E_w_FIND_COORDINATOR, S_w_CREATE_TOPICS, E_w_CREATE_TOPICS, S_w_SYNC_GROUP, E_w_SYNC_GROUP, S_w_OFFSET_FETCH, E_w_OFFSET_FETCH, S_w_HEARTBEAT, E_w_HEARTBEAT, S_w_LEAVE_GROUP, E_w_LEAVE_GROUP, S_w_API_VERSIONS, E_w_API_VERSIONS, S_w_BY_ID, Ar_w_BY_ID, Sz_w_BY_ID, At_w_BY_ID_0, At_w_BY_ID_3, At_w_BY_ID_7, At_w_BY_ID_2, At_w_BY_ID_11, At_w_BY_ID_8, At_w_BY_ID_1, At_w_BY_ID_10, At_w_BY_ID_16, At_w_BY_ID_19, At_w_BY_ID_15, At_w_BY_ID_14, At_w_BY_ID_6, At_w_BY_ID_9, At_w_BY_ID_12, At_w_BY_ID_17, At_w_BY_ID_13, At_w_BY_ID_5, At_w_BY_ID_18, At_w_BY_ID_4, -⟩ := id HW
  obtain ⟨fs, hr, hrun, hended, hW, hsame⟩ := X0.leave (v := some .null) (fun h => by rw [Bd.returns] at h; cases h)
  refine ⟨_, _, pre0 _ ?_, hrun, hended, _, _, rfl, ?_, ⟨_, rfl⟩, hW, hsame.mono (by decide) (by decide)⟩
  · show Steps p.tables e below (s₁.setTop (mkF m 0 #[.val (.int q0)] [])) _
    refine XS.iloadN X0.here hx rfl (hb hby d2_0) rfl ?_
    show Steps p.tables e below (s₁.setTop (mkF m 1 #[.val (.int q0)] [(.int q0)])) _
    refine XS.ifYes X0.here hx rfl (pc0 := 1) (pc' := 8) rfl (hb hby d2_1) rfl ((if0 _ _).trans (feq hd0).2) (by decide) (by decide) ?_
    show Steps p.tables e below (s₁.setTop (mkF m 8 #[.val (.int q0)] [])) _
    refine XS.iloadN X0.here hx rfl (hb hby d2_8) rfl ?_
    show Steps p.tables e below (s₁.setTop (mkF m 9 #[.val (.int q0)] [(.int q0)])) _
    refine XS.iconst X0.here hx rfl (hb hby d2_9) ?_
    show Steps p.tables e below (s₁.setTop (mkF m 10 #[.val (.int q0)] [(.int (1 : Int32)), (.int q0)])) _
    refine XS.icmpYes X0.here hx rfl (pc0 := 10) (pc' := 17) rfl (hb hby d2_10) rfl (feq hd1).2 (by decide) (by decide) ?_
    show Steps p.tables e below (s₁.setTop (mkF m 17 #[.val (.int q0)] [])) _
    refine XS.iloadN X0.here hx rfl (hb hby d2_17) rfl ?_
    show Steps p.tables e below (s₁.setTop (mkF m 18 #[.val (.int q0)] [(.int q0)])) _
    refine XS.iconst X0.here hx rfl (hb hby d2_18) ?_
    show Steps p.tables e below (s₁.setTop (mkF m 19 #[.val (.int q0)] [(.int (2 : Int32)), (.int q0)])) _
    refine XS.icmpYes X0.here hx rfl (pc0 := 19) (pc' := 26) rfl (hb hby d2_19) rfl (feq hd2).2 (by decide) (by decide) ?_
    show Steps p.tables e below (s₁.setTop (mkF m 26 #[.val (.int q0)] [])) _
    refine XS.iloadN X0.here hx rfl (hb hby d2_26) rfl ?_
    show Steps p.tables e below (s₁.setTop (mkF m 27 #[.val (.int q0)] [(.int q0)])) _
    refine XS.iconst X0.here hx rfl (hb hby d2_27) ?_
    show Steps p.tables e below (s₁.setTop (mkF m 28 #[.val (.int q0)] [(.int (3 : Int32)), (.int q0)])) _
    refine XS.icmpYes X0.here hx rfl (pc0 := 28) (pc' := 35) rfl (hb hby d2_28) rfl (feq hd3).2 (by decide) (by decide) ?_
    show Steps p.tables e below (s₁.setTop (mkF m 35 #[.val (.int q0)] [])) _
    refine XS.iloadN X0.here hx rfl (hb hby d2_35) rfl ?_
    show Steps p.tables e below (s₁.setTop (mkF m 36 #[.val (.int q0)] [(.int q0)])) _
    refine XS.bipush X0.here hx rfl (hb hby d2_36) ?_
    show Steps p.tables e below (s₁.setTop (mkF m 38 #[.val (.int q0)] [(.int (8 : Int32)), (.int q0)])) _
    refine XS.icmpYes X0.here hx rfl (pc0 := 38) (pc' := 45) rfl (hb hby d2_38) rfl (feq hd4).2 (by decide) (by decide) ?_
    show Steps p.tables e below (s₁.setTop (mkF m 45 #[.val (.int q0)] [])) _
    refine XS.iloadN X0.here hx rfl (hb hby d2_45) rfl ?_
    show Steps p.tables e below (s₁.setTop (mkF m 46 #[.val (.int q0)] [(.int q0)])) _
    refine XS.bipush X0.here hx rfl (hb hby d2_46) ?_
    show Steps p.tables e below (s₁.setTop (mkF m 48 #[.val (.int q0)] [(.int (9 : Int32)), (.int q0)])) _
    refine XS.icmpYes X0.here hx rfl (pc0 := 48) (pc' := 55) rfl (hb hby d2_48) rfl (feq hd5).2 (by decide) (by decide) ?_
    show Steps p.tables e below (s₁.setTop (mkF m 55 #[.val (.int q0)] [])) _
    refine XS.iloadN X0.here hx rfl (hb hby d2_55) rfl ?_
    show Steps p.tables e below (s₁.setTop (mkF m 56 #[.val (.int q0)] [(.int q0)])) _
    refine XS.bipush X0.here hx rfl (hb hby d2_56) ?_
    show Steps p.tables e below (s₁.setTop (mkF m 58 #[.val (.int q0)] [(.int (10 : Int32)), (.int q0)])) _
    refine XS.icmpYes X0.here hx rfl (pc0 := 58) (pc' := 65) rfl (hb hby d2_58) rfl (feq hd6).2 (by decide) (by decide) ?_
    show Steps p.tables e below (s₁.setTop (mkF m 65 #[.val (.int q0)] [])) _
    refine XS.iloadN X0.here hx rfl (hb hby d2_65) rfl ?_
    show Steps p.tables e below (s₁.setTop (mkF m 66 #[.val (.int q0)] [(.int q0)])) _
    refine XS.bipush X0.here hx rfl (hb hby d2_66) ?_
    show Steps p.tables e below (s₁.setTop (mkF m 68 #[.val (.int q0)] [(.int (11 : Int32)), (.int q0)])) _
    refine XS.icmpYes X0.here hx rfl (pc0 := 68) (pc' := 75) rfl (hb hby d2_68) rfl (feq hd7).2 (by decide) (by decide) ?_
    show Steps p.tables e below (s₁.setTop (mkF m 75 #[.val (.int q0)] [])) _
    refine XS.iloadN X0.here hx rfl (hb hby d2_75) rfl ?_
    show Steps p.tables e below (s₁.setTop (mkF m 76 #[.val (.int q0)] [(.int q0)])) _
    refine XS.bipush X0.here hx rfl (hb hby d2_76) ?_
    show Steps p.tables e below (s₁.setTop (mkF m 78 #[.val (.int q0)] [(.int (12 : Int32)), (.int q0)])) _
    refine XS.icmpYes X0.here hx rfl (pc0 := 78) (pc' := 85) rfl (hb hby d2_78) rfl (feq hd8).2 (by decide) (by decide) ?_
    show Steps p.tables e below (s₁.setTop (mkF m 85 #[.val (.int q0)] [])) _
    refine XS.iloadN X0.here hx rfl (hb hby d2_85) rfl ?_
    show Steps p.tables e below (s₁.setTop (mkF m 86 #[.val (.int q0)] [(.int q0)])) _
    refine XS.bipush X0.here hx rfl (hb hby d2_86) ?_
    show Steps p.tables e below (s₁.setTop (mkF m 88 #[.val (.int q0)] [(.int (13 : Int32)), (.int q0)])) _
    refine XS.icmpYes X0.here hx rfl (pc0 := 88) (pc' := 95) rfl (hb hby d2_88) rfl (feq hd9).2 (by decide) (by decide) ?_
    show Steps p.tables e below (s₁.setTop (mkF m 95 #[.val (.int q0)] [])) _
    refine XS.iloadN X0.here hx rfl (hb hby d2_95) rfl ?_
    show Steps p.tables e below (s₁.setTop (mkF m 96 #[.val (.int q0)] [(.int q0)])) _
    refine XS.bipush X0.here hx rfl (hb hby d2_96) ?_
    show Steps p.tables e below (s₁.setTop (mkF m 98 #[.val (.int q0)] [(.int (14 : Int32)), (.int q0)])) _
    refine XS.icmpYes X0.here hx rfl (pc0 := 98) (pc' := 105) rfl (hb hby d2_98) rfl (feq hd10).2 (by decide) (by decide) ?_
    show Steps p.tables e below (s₁.setTop (mkF m 105 #[.val (.int q0)] [])) _
    refine XS.iloadN X0.here hx rfl (hb hby d2_105) rfl ?_
    show Steps p.tables e below (s₁.setTop (mkF m 106 #[.val (.int q0)] [(.int q0)])) _
    refine XS.bipush X0.here hx rfl (hb hby d2_106) ?_
    show Steps p.tables e below (s₁.setTop (mkF m 108 #[.val (.int q0)] [(.int (18 : Int32)), (.int q0)])) _
    refine XS.icmpYes X0.here hx rfl (pc0 := 108) (pc' := 115) rfl (hb hby d2_108) rfl (feq hd11).2 (by decide) (by decide) ?_
    show Steps p.tables e below (s₁.setTop (mkF m 115 #[.val (.int q0)] [])) _
    refine XS.iloadN X0.here hx rfl (hb hby d2_115) rfl ?_
    show Steps p.tables e below (s₁.setTop (mkF m 116 #[.val (.int q0)] [(.int q0)])) _
    refine XS.bipush X0.here hx rfl (hb hby d2_116) ?_
    show Steps p.tables e below (s₁.setTop (mkF m 118 #[.val (.int q0)] [(.int (19 : Int32)), (.int q0)])) _
    refine XS.icmpYes X0.here hx rfl (pc0 := 118) (pc' := 125) rfl (hb hby d2_118) rfl (feq hd12).2 (by decide) (by decide) ?_
    show Steps p.tables e below (s₁.setTop (mkF m 125 #[.val (.int q0)] [])) _
    refine XS.aconstNull X0.here hx rfl (hb hby d2_125) ?_
    show Steps p.tables e below (s₁.setTop (mkF m 126 #[.val (.int q0)] [.null])) _
    jvm_step X0.here [X0.here.top, hx, (hb hby d2_126), X0.method', Bd.returns, Value.isRef, FieldType.isReference]
    first | (intro acts; rw [hr _ acts rfl rfl rfl]) | rw [hr _ _ rfl rfl rfl]
    exact Steps.refl _
  · exact ⟨rfl, N0, e0⟩
theorem pd51 : parseMethodDescriptor "(I)Lcom/example/melog/melog/protocol/ApiKey;" = some ⟨[.int], some (.object "com/example/melog/melog/protocol/ApiKey")⟩ := by decide +kernel
theorem ef53 (m : MethodId) (x0 : Int32) : entryFrame m #[(.int x0)] maxLocals = mkF m 0 #[.val (.int x0), .unset, .unset] [] := by first | (simp [entryFrame, mkF, argsToLocals, Value.category, maxLocals]; done) | rfl
def Q0 (h0 : Heap) (n0 : Nat) (v : Option Value) (h : Heap) (L : List Loc) : Prop := v = some (.int (1 : Int32)) ∧ Fr n0 L
set_option maxRecDepth 65536 in
set_option maxHeartbeats 40000000 in
theorem rm0_n (l : Launch) (Z : State) (a0 : Array Value) (hw : ∀ d ∈ tables_1, d.before a0 Z = true) (ws : List Jvm.Cond) (w_PRODUCE : Addr) (w_METADATA : Addr) (w_LIST_OFFSETS : Addr) (w_JOIN_GROUP : Addr) (w_OFFSET_COMMIT : Addr) (w_FETCH : Addr) (w_FIND_COORDINATOR : Addr) (w_CREATE_TOPICS : Addr) (w_SYNC_GROUP : Addr) (w_OFFSET_FETCH : Addr) (w_HEARTBEAT : Addr) (w_LEAVE_GROUP : Addr) (w_API_VERSIONS : Addr) (w_BY_ID : Addr) (cl_w_BY_ID : Cell) (p1 : Int32) (h0 : Heap) (n0 : Nat) (Z0 : n0 ≤ h0.size) (HW : World Z h0 w_PRODUCE w_METADATA w_LIST_OFFSETS w_JOIN_GROUP w_OFFSET_COMMIT w_FETCH w_FIND_COORDINATOR w_CREATE_TOPICS w_SYNC_GROUP w_OFFSET_FETCH w_HEARTBEAT w_LEAVE_GROUP w_API_VERSIONS w_BY_ID cl_w_BY_ID) (hneg : (p1.toInt16.toInt32) < (0 : Int32)) :
    MetFree l x (head1 (Jvm.Cond.code x code maxLocals ret :: ws) room_1) (fun a U => a = #[(.int p1)] ∧ Z.Warmed39 U.vm ∧ U.heap = h0) (fun _ _ _ _ _ => True) (fun _ U o U' => ∃ v L, o = .returned v ∧ Q0 h0 n0 v U'.heap L ∧ FrameEnd U o U' L room_1.cells room_1.slots) := by
  refine MetFree.of_bodySF (plainFor_of_name pn50) hisR ?_
  intro p e s m args below meth c s₁ Bd hml0 hP hK
  obtain ⟨rfl, hZ, hh⟩ := hP
  have hx := Bd.exec
  have hby := Bd.bytes
  have hml : c.maxLocals = 3 := hml0
  have hown : s.vm.findClass "com/example/melog/melog/protocol/ApiKeyForIdPinLaw" = some m.cls := findClass_of_methodNamed Bd.named
  have X0 : Stand p l e room_1 s m #[(.int p1)] below meth c s₁ [] 0 0 := Stand.of_body Bd
  have e0 : s₁.heap = h0 := by rw [← hh, Bd.state]; rfl
  have N0 := Fr.nil n0
  have pre0 : ∀ t, Steps p.tables e below (s₁.setTop (mkF m 0 #[.val (.int p1), .unset, .unset] [])) t → Steps p.tables e below (s₁.setTop (entryFrame m #[(.int p1)] maxLocals)) t := fun t k => castTop (ef53 m p1) k
  obtain ⟨S_w_PRODUCE, E_w_PRODUCE, S_w_METADATA, E_w_METADATA, S_w_LIST_OFFSETS, E_w_LIST_OFFSETS, S_w_JOIN_GROUP, E_w_JOIN_GROUP, S_w_OFFSET_COMMIT, E_w_OFFSET_COMMIT, S_w_FETCH, E_w_FETCH, S_w_FIND_COORDINATOR, E_w_FIND_COORDINATOR, S_w_CREATE_TOPICS, E_w_CREATE_TOPICS, S_w_SYNC_GROUP, E_w_SYNC_GROUP, S_w_OFFSET_FETCH, E_w_OFFSET_FETCH, S_w_HEARTBEAT, E_w_HEARTBEAT, S_w_LEAVE_GROUP, E_w_LEAVE_GROUP, S_w_API_VERSIONS, E_w_API_VERSIONS, S_w_BY_ID, Ar_w_BY_ID, Sz_w_BY_ID, At_w_BY_ID_0, At_w_BY_ID_3, At_w_BY_ID_7, At_w_BY_ID_2, At_w_BY_ID_11, At_w_BY_ID_8, At_w_BY_ID_1, At_w_BY_ID_10, At_w_BY_ID_16, At_w_BY_ID_19, At_w_BY_ID_15, At_w_BY_ID_14, At_w_BY_ID_6, At_w_BY_ID_9, At_w_BY_ID_12, At_w_BY_ID_17, At_w_BY_ID_13, At_w_BY_ID_5, At_w_BY_ID_18, At_w_BY_ID_4, -⟩ := id HW
  obtain ⟨_, _, ⟨T1, L1, k1, n1⟩, -, X1, ⟨Lc1, hQ1, l1, y1, z1⟩, st1⟩ := Jvm.LawKit.callS X0 hx (y := (⟨"com/example/melog/melog/protocol/ApiKey", "forId", "(S)Lcom/example/melog/melog/protocol/ApiKey;"⟩ : MethodName)) hown (mvT hZ (hw _ (List.mem_of_getElem? (i := 0) rfl))) (mvT hZ (hw _ (List.mem_of_getElem? (i := 1) rfl))) (mvT hZ (hw _ (List.mem_of_getElem? (i := 2) rfl))) (mvT hZ (hw _ (List.mem_of_getElem? (i := 3) rfl))) (by decide) (backOf (W := 0) (rm1_0 l Z a0 hw [] w_PRODUCE w_METADATA w_LIST_OFFSETS w_JOIN_GROUP w_OFFSET_COMMIT w_FETCH w_FIND_COORDINATOR w_CREATE_TOPICS w_SYNC_GROUP w_OFFSET_FETCH w_HEARTBEAT w_LEAVE_GROUP w_API_VERSIONS w_BY_ID cl_w_BY_ID (p1.toInt16.toInt32) h0 n0 Z0 HW hneg) hZ (hw _ (List.mem_of_getElem? (i := 3) rfl)) (hw _ (List.mem_of_getElem? (i := 2) rfl)) (by decide) (by decide)) (g := (mkF m 4 #[.val (.int p1), .val (.int (p1.toInt16.toInt32)), .unset] [(.int (p1.toInt16.toInt32))])) rfl (by rw [hml]; rfl) (argsL := [(.int (p1.toInt16.toInt32))]) (rest := []) (lenOf pd7 rfl) rfl (by show 2 * 0 + _ ≤ _; exact Nat.le_of_eq rfl) (hb hby at_4) (fun _ _ => ⟨rfl, e0, (by decide : 0 + 0 ≤ _), (by decide : 0 + 0 ≤ _)⟩)
  dsimp only [Pt.U, Pt.locs, Pt.cells, Pt.slots] at X1 l1 y1 z1 st1 hQ1
  subst l1 y1 z1
  obtain ⟨rfl, N1q, e1⟩ := hQ1
  have N1 := Fr.app N0 N1q
  obtain ⟨_, _, ⟨T2, L2, k2, n2⟩, -, X2, ⟨Lc2, hQ2, l2, y2, z2⟩, st2⟩ := Jvm.LawKit.callS X1 hx (y := (⟨"com/example/melog/melog/protocol/ApiKeyForIdPinLaw", "expected", "(I)Lcom/example/melog/melog/protocol/ApiKey;"⟩ : MethodName)) hown (mvT hZ (hw _ (List.mem_of_getElem? (i := 7) rfl))) (mvT hZ (hw _ (List.mem_of_getElem? (i := 8) rfl))) (mvT hZ (hw _ (List.mem_of_getElem? (i := 9) rfl))) (mvT hZ (hw _ (List.mem_of_getElem? (i := 10) rfl))) (by decide) (backOf (W := 1) (rm2_1 l Z a0 hw [] w_PRODUCE w_METADATA w_LIST_OFFSETS w_JOIN_GROUP w_OFFSET_COMMIT w_FETCH w_FIND_COORDINATOR w_CREATE_TOPICS w_SYNC_GROUP w_OFFSET_FETCH w_HEARTBEAT w_LEAVE_GROUP w_API_VERSIONS w_BY_ID cl_w_BY_ID (p1.toInt16.toInt32) h0 n0 Z0 HW (own_neg_ne hneg (by decide)) (own_neg_ne hneg (by decide)) (own_neg_ne hneg (by decide)) (own_neg_ne hneg (by decide)) (own_neg_ne hneg (by decide)) (own_neg_ne hneg (by decide)) (own_neg_ne hneg (by decide)) (own_neg_ne hneg (by decide)) (own_neg_ne hneg (by decide)) (own_neg_ne hneg (by decide)) (own_neg_ne hneg (by decide)) (own_neg_ne hneg (by decide)) (own_neg_ne hneg (by decide))) hZ (hw _ (List.mem_of_getElem? (i := 10) rfl)) (hw _ (List.mem_of_getElem? (i := 9) rfl)) (by decide) (by decide)) (g := (mkF m 10 #[.val (.int p1), .val (.int (p1.toInt16.toInt32)), .val .null] [(.int (p1.toInt16.toInt32)), .null])) rfl (by rw [hml]; rfl) (argsL := [(.int (p1.toInt16.toInt32))]) (rest := [.null]) (lenOf pd51 rfl) rfl (by show 2 * 0 + _ ≤ _; exact Nat.le_of_eq rfl) (hb hby at_10) (fun _ _ => ⟨rfl, e1, (by decide : 0 + 0 ≤ _), (by decide : 0 + 0 ≤ _)⟩)
  dsimp only [Pt.U, Pt.locs, Pt.cells, Pt.slots] at X2 l2 y2 z2 st2 hQ2
  subst l2 y2 z2
  obtain ⟨rfl, N2q, e2⟩ := hQ2
  have N2 := Fr.app N1 N2q
  obtain ⟨fs, hr, hrun, hended, hW, hsame⟩ := X2.leave (v := some (.int (1 : Int32))) (fun h => by rw [Bd.returns] at h; cases h)
  refine ⟨_, _, pre0 _ ?_, hrun, hended, _, _, rfl, ?_, ⟨_, rfl⟩, hW, hsame.mono (by decide) (by decide)⟩
  · show Steps p.tables e below (s₁.setTop (mkF m 0 #[.val (.int p1), .unset, .unset] [])) _
    refine XS.iloadN X0.here hx rfl (hb hby at_0) rfl ?_
    show Steps p.tables e below (s₁.setTop (mkF m 1 #[.val (.int p1), .unset, .unset] [(.int p1)])) _
    refine XS.i2s X0.here hx rfl (hb hby at_1) rfl ?_
    show Steps p.tables e below (s₁.setTop (mkF m 2 #[.val (.int p1), .unset, .unset] [(.int (p1.toInt16.toInt32))])) _
    refine XS.istoreN X0.here hx rfl (hb hby at_2) rfl (l' := #[.val (.int p1), .val (.int (p1.toInt16.toInt32)), .unset]) rfl ?_
    show Steps p.tables e below (s₁.setTop (mkF m 3 #[.val (.int p1), .val (.int (p1.toInt16.toInt32)), .unset] [])) _
    refine XS.iloadN X0.here hx rfl (hb hby at_3) rfl ?_
    show Steps p.tables e below (s₁.setTop (mkF m 4 #[.val (.int p1), .val (.int (p1.toInt16.toInt32)), .unset] [(.int (p1.toInt16.toInt32))])) _
    refine st1 _ ?_
    show Steps p.tables e below (T1.setTop (mkF m 7 #[.val (.int p1), .val (.int (p1.toInt16.toInt32)), .unset] [.null])) _
    refine XS.astoreN X1.here hx rfl (hb hby at_7) rfl rfl (l' := #[.val (.int p1), .val (.int (p1.toInt16.toInt32)), .val .null]) rfl ?_
    show Steps p.tables e below (T1.setTop (mkF m 8 #[.val (.int p1), .val (.int (p1.toInt16.toInt32)), .val .null] [])) _
    refine XS.aloadN X1.here hx rfl (hb hby at_8) rfl rfl ?_
    show Steps p.tables e below (T1.setTop (mkF m 9 #[.val (.int p1), .val (.int (p1.toInt16.toInt32)), .val .null] [.null])) _
    refine XS.iloadN X1.here hx rfl (hb hby at_9) rfl ?_
    show Steps p.tables e below (T1.setTop (mkF m 10 #[.val (.int p1), .val (.int (p1.toInt16.toInt32)), .val .null] [(.int (p1.toInt16.toInt32)), .null])) _
    refine st2 _ ?_
    show Steps p.tables e below (T2.setTop (mkF m 13 #[.val (.int p1), .val (.int (p1.toInt16.toInt32)), .val .null] [.null, .null])) _
    refine Jvm.RoadKit.acmp (g := (mkF m 13 #[.val (.int p1), .val (.int (p1.toInt16.toInt32)), .val .null] [.null, .null])) X2 hx rfl rfl rfl (pc0 := 13) (pc' := 16) (same := true) rfl (hb hby at_13) rfl (decide_eq_true rfl) (by decide) (by decide) ?_
    show Steps p.tables e below (T2.setTop (mkF m 16 #[.val (.int p1), .val (.int (p1.toInt16.toInt32)), .val .null] [])) _
    refine XS.iconst X2.here hx rfl (hb hby at_16) ?_
    show Steps p.tables e below (T2.setTop (mkF m 17 #[.val (.int p1), .val (.int (p1.toInt16.toInt32)), .val .null] [(.int (1 : Int32))])) _
    refine XS.goto X2.here hx rfl (pc0 := 17) (pc' := 21) rfl (hb hby at_17) (by decide) (by decide) ?_
    show Steps p.tables e below (T2.setTop (mkF m 21 #[.val (.int p1), .val (.int (p1.toInt16.toInt32)), .val .null] [(.int (1 : Int32))])) _
    exact retN X2 hx (t := .boolean) Bd.returns (by simp) (hb hby at_21) hr
  · exact ⟨rfl, N2⟩
theorem d1_4 : decode prog_9_method_4_code 4 = .ok (.iload_n 0, 1) := by decide +kernel
theorem d1_5 : decode prog_9_method_4_code 5 = .ok (.getstatic 75, 3) := by decide +kernel
theorem d1_8 : decode prog_9_method_4_code 8 = .ok (.arraylength, 1) := by decide +kernel
theorem d1_9 : decode prog_9_method_4_code 9 = .ok (.if_icmp .ge 11, 3) := by decide +kernel
def Q1_3 (Z : State) (w_PRODUCE : Addr) (w_METADATA : Addr) (w_LIST_OFFSETS : Addr) (w_JOIN_GROUP : Addr) (w_OFFSET_COMMIT : Addr) (w_FETCH : Addr) (w_FIND_COORDINATOR : Addr) (w_CREATE_TOPICS : Addr) (w_SYNC_GROUP : Addr) (w_OFFSET_FETCH : Addr) (w_HEARTBEAT : Addr) (w_LEAVE_GROUP : Addr) (w_API_VERSIONS : Addr) (w_BY_ID : Addr) (cl_w_BY_ID : Cell) (q0 : Int32) (h0 : Heap) (n0 : Nat) (v : Option Value) (h : Heap) (L : List Loc) : Prop := v = some .null ∧ Fr n0 L ∧ h = h0
set_option maxRecDepth 65536 in
set_option maxHeartbeats 40000000 in
theorem rm1_3 (l : Launch) (Z : State) (a0 : Array Value) (hw : ∀ d ∈ tables_1, d.before a0 Z = true) (ws : List Jvm.Cond) (w_PRODUCE : Addr) (w_METADATA : Addr) (w_LIST_OFFSETS : Addr) (w_JOIN_GROUP : Addr) (w_OFFSET_COMMIT : Addr) (w_FETCH : Addr) (w_FIND_COORDINATOR : Addr) (w_CREATE_TOPICS : Addr) (w_SYNC_GROUP : Addr) (w_OFFSET_FETCH : Addr) (w_HEARTBEAT : Addr) (w_LEAVE_GROUP : Addr) (w_API_VERSIONS : Addr) (w_BY_ID : Addr) (cl_w_BY_ID : Cell) (q0 : Int32) (h0 : Heap) (n0 : Nat) (Z0 : n0 ≤ h0.size) (HW : World Z h0 w_PRODUCE w_METADATA w_LIST_OFFSETS w_JOIN_GROUP w_OFFSET_COMMIT w_FETCH w_FIND_COORDINATOR w_CREATE_TOPICS w_SYNC_GROUP w_OFFSET_FETCH w_HEARTBEAT w_LEAVE_GROUP w_API_VERSIONS w_BY_ID cl_w_BY_ID) (hd0 : ¬ (q0 < (0 : Int32))) (hd1 : ¬ (q0 < (20 : Int32))) :
    MetFree l (⟨"com/example/melog/melog/protocol/ApiKey", "forId", "(S)Lcom/example/melog/melog/protocol/ApiKey;"⟩ : MethodName) (head1 (Jvm.Cond.code (⟨"com/example/melog/melog/protocol/ApiKey", "forId", "(S)Lcom/example/melog/melog/protocol/ApiKey;"⟩ : MethodName) prog_9_method_4_code 1 (some (.object "com/example/melog/melog/protocol/ApiKey")) :: ws) ({ frames := 0, cells := 0, slots := 0, locals := 0 } : Room)) (fun a U => a = #[(.int q0)] ∧ Z.Warmed39 U.vm ∧ U.heap = h0) (fun _ _ _ _ _ => True) (fun _ U o U' => ∃ v L, o = .returned v ∧ Q1_3 Z w_PRODUCE w_METADATA w_LIST_OFFSETS w_JOIN_GROUP w_OFFSET_COMMIT w_FETCH w_FIND_COORDINATOR w_CREATE_TOPICS w_SYNC_GROUP w_OFFSET_FETCH w_HEARTBEAT w_LEAVE_GROUP w_API_VERSIONS w_BY_ID cl_w_BY_ID q0 h0 n0 v U'.heap L ∧ FrameEnd U o U' L ({ frames := 0, cells := 0, slots := 0, locals := 0 } : Room).cells ({ frames := 0, cells := 0, slots := 0, locals := 0 } : Room).slots) := by
  refine MetFree.of_bodySF (plainFor_of_name pn6) hisR ?_
  intro p e s m args below meth c s₁ Bd hml0 hP hK
  obtain ⟨rfl, hZ, hh⟩ := hP
  have hx := Bd.exec
  have hby := Bd.bytes
  have hml : c.maxLocals = 1 := hml0
  have hown : s.vm.findClass "com/example/melog/melog/protocol/ApiKey" = some m.cls := findClass_of_methodNamed Bd.named
  have X0 : Stand p l e ({ frames := 0, cells := 0, slots := 0, locals := 0 } : Room) s m #[(.int q0)] below meth c s₁ [] 0 0 := Stand.of_body Bd
  have e0 : s₁.heap = h0 := by rw [← hh, Bd.state]; rfl
  have N0 := Fr.nil n0
  have pre0 : ∀ t, Steps p.tables e below (s₁.setTop (mkF m 0 #[.val (.int q0)] [])) t → Steps p.tables e below (s₁.setTop (entryFrame m #[(.int q0)] 1)) t := fun t k => castTop (ef5 m q0) k
  obtain ⟨S_w_PRODUCE, E_w_PRODUCE, S_w_METADATA, E_w_METADATA, S_w_LIST_OFFSETS, E_w_LIST_OFFSETS, S_w_JOIN_GROUP, E_w_JOIN_GROUP, S_w_OFFSET_COMMIT, E_w_OFFSET_COMMIT, S_w_FETCH, E_w_FETCH, S_w_FIND_COORDINATOR, E_w_FIND_COORDINATOR, S_w_CREATE_TOPICS, E_w_CREATE_TOPICS, S_w_SYNC_GROUP, E_w_SYNC_GROUP, S_w_OFFSET_FETCH, E_w_OFFSET_FETCH, S_w_HEARTBEAT, E_w_HEARTBEAT, S_w_LEAVE_GROUP, E_w_LEAVE_GROUP, S_w_API_VERSIONS, E_w_API_VERSIONS, S_w_BY_ID, Ar_w_BY_ID, Sz_w_BY_ID, At_w_BY_ID_0, At_w_BY_ID_3, At_w_BY_ID_7, At_w_BY_ID_2, At_w_BY_ID_11, At_w_BY_ID_8, At_w_BY_ID_1, At_w_BY_ID_10, At_w_BY_ID_16, At_w_BY_ID_19, At_w_BY_ID_15, At_w_BY_ID_14, At_w_BY_ID_6, At_w_BY_ID_9, At_w_BY_ID_12, At_w_BY_ID_17, At_w_BY_ID_13, At_w_BY_ID_5, At_w_BY_ID_18, At_w_BY_ID_4, -⟩ := id HW
  obtain ⟨T1, X1, e1, st1⟩ := getS2 X0 hx hZ hown (host := "") (Or.inl (hw _ (List.mem_of_getElem? (i := 4) rfl))) Via.refl e0 S_w_BY_ID (g := (mkF m 5 #[.val (.int q0)] [(.int q0)])) rfl (hb hby d1_5)
  obtain ⟨fs, hr, hrun, hended, hW, hsame⟩ := X1.leave (v := some .null) (fun h => by rw [Bd.returns] at h; cases h)
  refine ⟨_, _, pre0 _ ?_, hrun, hended, _, _, rfl, ?_, ⟨_, rfl⟩, hW, hsame.mono (by decide) (by decide)⟩
  · show Steps p.tables e below (s₁.setTop (mkF m 0 #[.val (.int q0)] [])) _
    refine XS.iloadN X0.here hx rfl (hb hby d1_0) rfl ?_
    show Steps p.tables e below (s₁.setTop (mkF m 1 #[.val (.int q0)] [(.int q0)])) _
    refine XS.ifNo X0.here hx rfl (hb hby d1_1) rfl ((if0 _ _).trans (flt hd0).1) ?_
    show Steps p.tables e below (s₁.setTop (mkF m 4 #[.val (.int q0)] [])) _
    refine XS.iloadN X0.here hx rfl (hb hby d1_4) rfl ?_
    show Steps p.tables e below (s₁.setTop (mkF m 5 #[.val (.int q0)] [(.int q0)])) _
    refine st1 _ ?_
    show Steps p.tables e below (T1.setTop (mkF m 8 #[.val (.int q0)] [(.ref w_BY_ID), (.int q0)])) _
    refine X1.arraylength hx (by rw [e1]; exact Ar_w_BY_ID.1) (State.isArrayOf_alike hZ.alike Ar_w_BY_ID.2.1) (g := (mkF m 8 #[.val (.int q0)] [(.ref w_BY_ID), (.int q0)])) rfl rfl (hb hby d1_8) _ ?_
    rw [Sz_w_BY_ID]
    show Steps p.tables e below (T1.setTop (mkF m 9 #[.val (.int q0)] [(.int (20 : Int32)), (.int q0)])) _
    refine XS.icmpYes X1.here hx rfl (pc0 := 9) (pc' := 20) rfl (hb hby d1_9) rfl (flt hd1).2.1 (by decide) (by decide) ?_
    show Steps p.tables e below (T1.setTop (mkF m 20 #[.val (.int q0)] [])) _
    refine XS.aconstNull X1.here hx rfl (hb hby d1_20) ?_
    show Steps p.tables e below (T1.setTop (mkF m 21 #[.val (.int q0)] [.null])) _
    jvm_step X1.here [X1.here.top, hx, (hb hby d1_21), X1.method', Bd.returns, Value.isRef, FieldType.isReference]
    first | (intro acts; rw [hr _ acts rfl rfl rfl]) | rw [hr _ _ rfl rfl rfl]
    exact Steps.refl _
  · exact ⟨rfl, N0, e1⟩
set_option maxRecDepth 65536 in
set_option maxHeartbeats 40000000 in
theorem rm0_b (l : Launch) (Z : State) (a0 : Array Value) (hw : ∀ d ∈ tables_1, d.before a0 Z = true) (ws : List Jvm.Cond) (w_PRODUCE : Addr) (w_METADATA : Addr) (w_LIST_OFFSETS : Addr) (w_JOIN_GROUP : Addr) (w_OFFSET_COMMIT : Addr) (w_FETCH : Addr) (w_FIND_COORDINATOR : Addr) (w_CREATE_TOPICS : Addr) (w_SYNC_GROUP : Addr) (w_OFFSET_FETCH : Addr) (w_HEARTBEAT : Addr) (w_LEAVE_GROUP : Addr) (w_API_VERSIONS : Addr) (w_BY_ID : Addr) (cl_w_BY_ID : Cell) (p1 : Int32) (h0 : Heap) (n0 : Nat) (Z0 : n0 ≤ h0.size) (HW : World Z h0 w_PRODUCE w_METADATA w_LIST_OFFSETS w_JOIN_GROUP w_OFFSET_COMMIT w_FETCH w_FIND_COORDINATOR w_CREATE_TOPICS w_SYNC_GROUP w_OFFSET_FETCH w_HEARTBEAT w_LEAVE_GROUP w_API_VERSIONS w_BY_ID cl_w_BY_ID) (hbig : (19 : Int32) < (p1.toInt16.toInt32)) :
    MetFree l x (head1 (Jvm.Cond.code x code maxLocals ret :: ws) room_1) (fun a U => a = #[(.int p1)] ∧ Z.Warmed39 U.vm ∧ U.heap = h0) (fun _ _ _ _ _ => True) (fun _ U o U' => ∃ v L, o = .returned v ∧ Q0 h0 n0 v U'.heap L ∧ FrameEnd U o U' L room_1.cells room_1.slots) := by
  refine MetFree.of_bodySF (plainFor_of_name pn50) hisR ?_
  intro p e s m args below meth c s₁ Bd hml0 hP hK
  obtain ⟨rfl, hZ, hh⟩ := hP
  have hx := Bd.exec
  have hby := Bd.bytes
  have hml : c.maxLocals = 3 := hml0
  have hown : s.vm.findClass "com/example/melog/melog/protocol/ApiKeyForIdPinLaw" = some m.cls := findClass_of_methodNamed Bd.named
  have X0 : Stand p l e room_1 s m #[(.int p1)] below meth c s₁ [] 0 0 := Stand.of_body Bd
  have e0 : s₁.heap = h0 := by rw [← hh, Bd.state]; rfl
  have N0 := Fr.nil n0
  have pre0 : ∀ t, Steps p.tables e below (s₁.setTop (mkF m 0 #[.val (.int p1), .unset, .unset] [])) t → Steps p.tables e below (s₁.setTop (entryFrame m #[(.int p1)] maxLocals)) t := fun t k => castTop (ef53 m p1) k
  obtain ⟨S_w_PRODUCE, E_w_PRODUCE, S_w_METADATA, E_w_METADATA, S_w_LIST_OFFSETS, E_w_LIST_OFFSETS, S_w_JOIN_GROUP, E_w_JOIN_GROUP, S_w_OFFSET_COMMIT, E_w_OFFSET_COMMIT, S_w_FETCH, E_w_FETCH, S_w_FIND_COORDINATOR, E_w_FIND_COORDINATOR, S_w_CREATE_TOPICS, E_w_CREATE_TOPICS, S_w_SYNC_GROUP, E_w_SYNC_GROUP, S_w_OFFSET_FETCH, E_w_OFFSET_FETCH, S_w_HEARTBEAT, E_w_HEARTBEAT, S_w_LEAVE_GROUP, E_w_LEAVE_GROUP, S_w_API_VERSIONS, E_w_API_VERSIONS, S_w_BY_ID, Ar_w_BY_ID, Sz_w_BY_ID, At_w_BY_ID_0, At_w_BY_ID_3, At_w_BY_ID_7, At_w_BY_ID_2, At_w_BY_ID_11, At_w_BY_ID_8, At_w_BY_ID_1, At_w_BY_ID_10, At_w_BY_ID_16, At_w_BY_ID_19, At_w_BY_ID_15, At_w_BY_ID_14, At_w_BY_ID_6, At_w_BY_ID_9, At_w_BY_ID_12, At_w_BY_ID_17, At_w_BY_ID_13, At_w_BY_ID_5, At_w_BY_ID_18, At_w_BY_ID_4, -⟩ := id HW
  obtain ⟨_, _, ⟨T1, L1, k1, n1⟩, -, X1, ⟨Lc1, hQ1, l1, y1, z1⟩, st1⟩ := Jvm.LawKit.callS X0 hx (y := (⟨"com/example/melog/melog/protocol/ApiKey", "forId", "(S)Lcom/example/melog/melog/protocol/ApiKey;"⟩ : MethodName)) hown (mvT hZ (hw _ (List.mem_of_getElem? (i := 0) rfl))) (mvT hZ (hw _ (List.mem_of_getElem? (i := 1) rfl))) (mvT hZ (hw _ (List.mem_of_getElem? (i := 2) rfl))) (mvT hZ (hw _ (List.mem_of_getElem? (i := 3) rfl))) (by decide) (backOf (W := 0) (rm1_3 l Z a0 hw [] w_PRODUCE w_METADATA w_LIST_OFFSETS w_JOIN_GROUP w_OFFSET_COMMIT w_FETCH w_FIND_COORDINATOR w_CREATE_TOPICS w_SYNC_GROUP w_OFFSET_FETCH w_HEARTBEAT w_LEAVE_GROUP w_API_VERSIONS w_BY_ID cl_w_BY_ID (p1.toInt16.toInt32) h0 n0 Z0 HW (own_big_nn hbig) (own_big_ge hbig)) hZ (hw _ (List.mem_of_getElem? (i := 3) rfl)) (hw _ (List.mem_of_getElem? (i := 2) rfl)) (by decide) (by decide)) (g := (mkF m 4 #[.val (.int p1), .val (.int (p1.toInt16.toInt32)), .unset] [(.int (p1.toInt16.toInt32))])) rfl (by rw [hml]; rfl) (argsL := [(.int (p1.toInt16.toInt32))]) (rest := []) (lenOf pd7 rfl) rfl (by show 2 * 0 + _ ≤ _; exact Nat.le_of_eq rfl) (hb hby at_4) (fun _ _ => ⟨rfl, e0, (by decide : 0 + 0 ≤ _), (by decide : 0 + 0 ≤ _)⟩)
  dsimp only [Pt.U, Pt.locs, Pt.cells, Pt.slots] at X1 l1 y1 z1 st1 hQ1
  subst l1 y1 z1
  obtain ⟨rfl, N1q, e1⟩ := hQ1
  have N1 := Fr.app N0 N1q
  obtain ⟨_, _, ⟨T2, L2, k2, n2⟩, -, X2, ⟨Lc2, hQ2, l2, y2, z2⟩, st2⟩ := Jvm.LawKit.callS X1 hx (y := (⟨"com/example/melog/melog/protocol/ApiKeyForIdPinLaw", "expected", "(I)Lcom/example/melog/melog/protocol/ApiKey;"⟩ : MethodName)) hown (mvT hZ (hw _ (List.mem_of_getElem? (i := 7) rfl))) (mvT hZ (hw _ (List.mem_of_getElem? (i := 8) rfl))) (mvT hZ (hw _ (List.mem_of_getElem? (i := 9) rfl))) (mvT hZ (hw _ (List.mem_of_getElem? (i := 10) rfl))) (by decide) (backOf (W := 1) (rm2_1 l Z a0 hw [] w_PRODUCE w_METADATA w_LIST_OFFSETS w_JOIN_GROUP w_OFFSET_COMMIT w_FETCH w_FIND_COORDINATOR w_CREATE_TOPICS w_SYNC_GROUP w_OFFSET_FETCH w_HEARTBEAT w_LEAVE_GROUP w_API_VERSIONS w_BY_ID cl_w_BY_ID (p1.toInt16.toInt32) h0 n0 Z0 HW (own_big_ne hbig (by decide)) (own_big_ne hbig (by decide)) (own_big_ne hbig (by decide)) (own_big_ne hbig (by decide)) (own_big_ne hbig (by decide)) (own_big_ne hbig (by decide)) (own_big_ne hbig (by decide)) (own_big_ne hbig (by decide)) (own_big_ne hbig (by decide)) (own_big_ne hbig (by decide)) (own_big_ne hbig (by decide)) (own_big_ne hbig (by decide)) (own_big_ne hbig (by decide))) hZ (hw _ (List.mem_of_getElem? (i := 10) rfl)) (hw _ (List.mem_of_getElem? (i := 9) rfl)) (by decide) (by decide)) (g := (mkF m 10 #[.val (.int p1), .val (.int (p1.toInt16.toInt32)), .val .null] [(.int (p1.toInt16.toInt32)), .null])) rfl (by rw [hml]; rfl) (argsL := [(.int (p1.toInt16.toInt32))]) (rest := [.null]) (lenOf pd51 rfl) rfl (by show 2 * 0 + _ ≤ _; exact Nat.le_of_eq rfl) (hb hby at_10) (fun _ _ => ⟨rfl, e1, (by decide : 0 + 0 ≤ _), (by decide : 0 + 0 ≤ _)⟩)
  dsimp only [Pt.U, Pt.locs, Pt.cells, Pt.slots] at X2 l2 y2 z2 st2 hQ2
  subst l2 y2 z2
  obtain ⟨rfl, N2q, e2⟩ := hQ2
  have N2 := Fr.app N1 N2q
  obtain ⟨fs, hr, hrun, hended, hW, hsame⟩ := X2.leave (v := some (.int (1 : Int32))) (fun h => by rw [Bd.returns] at h; cases h)
  refine ⟨_, _, pre0 _ ?_, hrun, hended, _, _, rfl, ?_, ⟨_, rfl⟩, hW, hsame.mono (by decide) (by decide)⟩
  · show Steps p.tables e below (s₁.setTop (mkF m 0 #[.val (.int p1), .unset, .unset] [])) _
    refine XS.iloadN X0.here hx rfl (hb hby at_0) rfl ?_
    show Steps p.tables e below (s₁.setTop (mkF m 1 #[.val (.int p1), .unset, .unset] [(.int p1)])) _
    refine XS.i2s X0.here hx rfl (hb hby at_1) rfl ?_
    show Steps p.tables e below (s₁.setTop (mkF m 2 #[.val (.int p1), .unset, .unset] [(.int (p1.toInt16.toInt32))])) _
    refine XS.istoreN X0.here hx rfl (hb hby at_2) rfl (l' := #[.val (.int p1), .val (.int (p1.toInt16.toInt32)), .unset]) rfl ?_
    show Steps p.tables e below (s₁.setTop (mkF m 3 #[.val (.int p1), .val (.int (p1.toInt16.toInt32)), .unset] [])) _
    refine XS.iloadN X0.here hx rfl (hb hby at_3) rfl ?_
    show Steps p.tables e below (s₁.setTop (mkF m 4 #[.val (.int p1), .val (.int (p1.toInt16.toInt32)), .unset] [(.int (p1.toInt16.toInt32))])) _
    refine st1 _ ?_
    show Steps p.tables e below (T1.setTop (mkF m 7 #[.val (.int p1), .val (.int (p1.toInt16.toInt32)), .unset] [.null])) _
    refine XS.astoreN X1.here hx rfl (hb hby at_7) rfl rfl (l' := #[.val (.int p1), .val (.int (p1.toInt16.toInt32)), .val .null]) rfl ?_
    show Steps p.tables e below (T1.setTop (mkF m 8 #[.val (.int p1), .val (.int (p1.toInt16.toInt32)), .val .null] [])) _
    refine XS.aloadN X1.here hx rfl (hb hby at_8) rfl rfl ?_
    show Steps p.tables e below (T1.setTop (mkF m 9 #[.val (.int p1), .val (.int (p1.toInt16.toInt32)), .val .null] [.null])) _
    refine XS.iloadN X1.here hx rfl (hb hby at_9) rfl ?_
    show Steps p.tables e below (T1.setTop (mkF m 10 #[.val (.int p1), .val (.int (p1.toInt16.toInt32)), .val .null] [(.int (p1.toInt16.toInt32)), .null])) _
    refine st2 _ ?_
    show Steps p.tables e below (T2.setTop (mkF m 13 #[.val (.int p1), .val (.int (p1.toInt16.toInt32)), .val .null] [.null, .null])) _
    refine Jvm.RoadKit.acmp (g := (mkF m 13 #[.val (.int p1), .val (.int (p1.toInt16.toInt32)), .val .null] [.null, .null])) X2 hx rfl rfl rfl (pc0 := 13) (pc' := 16) (same := true) rfl (hb hby at_13) rfl (decide_eq_true rfl) (by decide) (by decide) ?_
    show Steps p.tables e below (T2.setTop (mkF m 16 #[.val (.int p1), .val (.int (p1.toInt16.toInt32)), .val .null] [])) _
    refine XS.iconst X2.here hx rfl (hb hby at_16) ?_
    show Steps p.tables e below (T2.setTop (mkF m 17 #[.val (.int p1), .val (.int (p1.toInt16.toInt32)), .val .null] [(.int (1 : Int32))])) _
    refine XS.goto X2.here hx rfl (pc0 := 17) (pc' := 21) rfl (hb hby at_17) (by decide) (by decide) ?_
    show Steps p.tables e below (T2.setTop (mkF m 21 #[.val (.int p1), .val (.int (p1.toInt16.toInt32)), .val .null] [(.int (1 : Int32))])) _
    exact retN X2 hx (t := .boolean) Bd.returns (by simp) (hb hby at_21) hr
  · exact ⟨rfl, N2⟩
theorem d1_12 : decode prog_9_method_4_code 12 = .ok (.getstatic 75, 3) := by decide +kernel
theorem d1_15 : decode prog_9_method_4_code 15 = .ok (.iload_n 0, 1) := by decide +kernel
theorem d1_16 : decode prog_9_method_4_code 16 = .ok (.aaload, 1) := by decide +kernel
theorem d1_17 : decode prog_9_method_4_code 17 = .ok (.goto 4, 3) := by decide +kernel
def Q1_5 (Z : State) (w_PRODUCE : Addr) (w_METADATA : Addr) (w_LIST_OFFSETS : Addr) (w_JOIN_GROUP : Addr) (w_OFFSET_COMMIT : Addr) (w_FETCH : Addr) (w_FIND_COORDINATOR : Addr) (w_CREATE_TOPICS : Addr) (w_SYNC_GROUP : Addr) (w_OFFSET_FETCH : Addr) (w_HEARTBEAT : Addr) (w_LEAVE_GROUP : Addr) (w_API_VERSIONS : Addr) (w_BY_ID : Addr) (cl_w_BY_ID : Cell) (h0 : Heap) (n0 : Nat) (v : Option Value) (h : Heap) (L : List Loc) : Prop := v = some (.ref w_PRODUCE) ∧ Fr n0 L ∧ h = h0
set_option maxRecDepth 65536 in
set_option maxHeartbeats 40000000 in
theorem rm1_5 (l : Launch) (Z : State) (a0 : Array Value) (hw : ∀ d ∈ tables_1, d.before a0 Z = true) (ws : List Jvm.Cond) (w_PRODUCE : Addr) (w_METADATA : Addr) (w_LIST_OFFSETS : Addr) (w_JOIN_GROUP : Addr) (w_OFFSET_COMMIT : Addr) (w_FETCH : Addr) (w_FIND_COORDINATOR : Addr) (w_CREATE_TOPICS : Addr) (w_SYNC_GROUP : Addr) (w_OFFSET_FETCH : Addr) (w_HEARTBEAT : Addr) (w_LEAVE_GROUP : Addr) (w_API_VERSIONS : Addr) (w_BY_ID : Addr) (cl_w_BY_ID : Cell) (h0 : Heap) (n0 : Nat) (Z0 : n0 ≤ h0.size) (HW : World Z h0 w_PRODUCE w_METADATA w_LIST_OFFSETS w_JOIN_GROUP w_OFFSET_COMMIT w_FETCH w_FIND_COORDINATOR w_CREATE_TOPICS w_SYNC_GROUP w_OFFSET_FETCH w_HEARTBEAT w_LEAVE_GROUP w_API_VERSIONS w_BY_ID cl_w_BY_ID) :
    MetFree l (⟨"com/example/melog/melog/protocol/ApiKey", "forId", "(S)Lcom/example/melog/melog/protocol/ApiKey;"⟩ : MethodName) (head1 (Jvm.Cond.code (⟨"com/example/melog/melog/protocol/ApiKey", "forId", "(S)Lcom/example/melog/melog/protocol/ApiKey;"⟩ : MethodName) prog_9_method_4_code 1 (some (.object "com/example/melog/melog/protocol/ApiKey")) :: ws) ({ frames := 0, cells := 0, slots := 0, locals := 0 } : Room)) (fun a U => a = #[(.int (0 : Int32))] ∧ Z.Warmed39 U.vm ∧ U.heap = h0) (fun _ _ _ _ _ => True) (fun _ U o U' => ∃ v L, o = .returned v ∧ Q1_5 Z w_PRODUCE w_METADATA w_LIST_OFFSETS w_JOIN_GROUP w_OFFSET_COMMIT w_FETCH w_FIND_COORDINATOR w_CREATE_TOPICS w_SYNC_GROUP w_OFFSET_FETCH w_HEARTBEAT w_LEAVE_GROUP w_API_VERSIONS w_BY_ID cl_w_BY_ID h0 n0 v U'.heap L ∧ FrameEnd U o U' L ({ frames := 0, cells := 0, slots := 0, locals := 0 } : Room).cells ({ frames := 0, cells := 0, slots := 0, locals := 0 } : Room).slots) := by
  refine MetFree.of_bodySF (plainFor_of_name pn6) hisR ?_
  intro p e s m args below meth c s₁ Bd hml0 hP hK
  obtain ⟨rfl, hZ, hh⟩ := hP
  have hx := Bd.exec
  have hby := Bd.bytes
  have hml : c.maxLocals = 1 := hml0
  have hown : s.vm.findClass "com/example/melog/melog/protocol/ApiKey" = some m.cls := findClass_of_methodNamed Bd.named
  have X0 : Stand p l e ({ frames := 0, cells := 0, slots := 0, locals := 0 } : Room) s m #[(.int (0 : Int32))] below meth c s₁ [] 0 0 := Stand.of_body Bd
  have e0 : s₁.heap = h0 := by rw [← hh, Bd.state]; rfl
  have N0 := Fr.nil n0
  have pre0 : ∀ t, Steps p.tables e below (s₁.setTop (mkF m 0 #[.val (.int (0 : Int32))] [])) t → Steps p.tables e below (s₁.setTop (entryFrame m #[(.int (0 : Int32))] 1)) t := fun t k => castTop (ef5 m (0 : Int32)) k
  obtain ⟨S_w_PRODUCE, E_w_PRODUCE, S_w_METADATA, E_w_METADATA, S_w_LIST_OFFSETS, E_w_LIST_OFFSETS, S_w_JOIN_GROUP, E_w_JOIN_GROUP, S_w_OFFSET_COMMIT, E_w_OFFSET_COMMIT, S_w_FETCH, E_w_FETCH, S_w_FIND_COORDINATOR, E_w_FIND_COORDINATOR, S_w_CREATE_TOPICS, E_w_CREATE_TOPICS, S_w_SYNC_GROUP, E_w_SYNC_GROUP, S_w_OFFSET_FETCH, E_w_OFFSET_FETCH, S_w_HEARTBEAT, E_w_HEARTBEAT, S_w_LEAVE_GROUP, E_w_LEAVE_GROUP, S_w_API_VERSIONS, E_w_API_VERSIONS, S_w_BY_ID, Ar_w_BY_ID, Sz_w_BY_ID, At_w_BY_ID_0, At_w_BY_ID_3, At_w_BY_ID_7, At_w_BY_ID_2, At_w_BY_ID_11, At_w_BY_ID_8, At_w_BY_ID_1, At_w_BY_ID_10, At_w_BY_ID_16, At_w_BY_ID_19, At_w_BY_ID_15, At_w_BY_ID_14, At_w_BY_ID_6, At_w_BY_ID_9, At_w_BY_ID_12, At_w_BY_ID_17, At_w_BY_ID_13, At_w_BY_ID_5, At_w_BY_ID_18, At_w_BY_ID_4, -⟩ := id HW
  obtain ⟨T1, X1, e1, st1⟩ := getS2 X0 hx hZ hown (host := "") (Or.inl (hw _ (List.mem_of_getElem? (i := 4) rfl))) Via.refl e0 S_w_BY_ID (g := (mkF m 5 #[.val (.int (0 : Int32))] [(.int (0 : Int32))])) rfl (hb hby d1_5)
  obtain ⟨T2, X2, e2, st2⟩ := getS2 X1 hx hZ hown (host := "") (Or.inl (hw _ (List.mem_of_getElem? (i := 4) rfl))) Via.refl e1 S_w_BY_ID (g := (mkF m 12 #[.val (.int (0 : Int32))] [])) rfl (hb hby d1_12)
  obtain ⟨fs, hr, hrun, hended, hW, hsame⟩ := X2.leave (v := some (.ref w_PRODUCE)) (fun h => by rw [Bd.returns] at h; cases h)
  refine ⟨_, _, pre0 _ ?_, hrun, hended, _, _, rfl, ?_, ⟨_, rfl⟩, hW, hsame.mono (by decide) (by decide)⟩
  · show Steps p.tables e below (s₁.setTop (mkF m 0 #[.val (.int (0 : Int32))] [])) _
    refine XS.iloadN X0.here hx rfl (hb hby d1_0) rfl ?_
    show Steps p.tables e below (s₁.setTop (mkF m 1 #[.val (.int (0 : Int32))] [(.int (0 : Int32))])) _
    refine XS.ifNo X0.here hx rfl (hb hby d1_1) rfl ((if0 _ _).trans (flt (by decide : ¬ ((0 : Int32) < (0 : Int32)))).1) ?_
    show Steps p.tables e below (s₁.setTop (mkF m 4 #[.val (.int (0 : Int32))] [])) _
    refine XS.iloadN X0.here hx rfl (hb hby d1_4) rfl ?_
    show Steps p.tables e below (s₁.setTop (mkF m 5 #[.val (.int (0 : Int32))] [(.int (0 : Int32))])) _
    refine st1 _ ?_
    show Steps p.tables e below (T1.setTop (mkF m 8 #[.val (.int (0 : Int32))] [(.ref w_BY_ID), (.int (0 : Int32))])) _
    refine X1.arraylength hx (by rw [e1]; exact Ar_w_BY_ID.1) (State.isArrayOf_alike hZ.alike Ar_w_BY_ID.2.1) (g := (mkF m 8 #[.val (.int (0 : Int32))] [(.ref w_BY_ID), (.int (0 : Int32))])) rfl rfl (hb hby d1_8) _ ?_
    rw [Sz_w_BY_ID]
    show Steps p.tables e below (T1.setTop (mkF m 9 #[.val (.int (0 : Int32))] [(.int (20 : Int32)), (.int (0 : Int32))])) _
    refine XS.icmpNo X1.here hx rfl (hb hby d1_9) rfl (tlt (by decide : (0 : Int32) < (20 : Int32))).2.1 ?_
    show Steps p.tables e below (T1.setTop (mkF m 12 #[.val (.int (0 : Int32))] [])) _
    refine st2 _ ?_
    show Steps p.tables e below (T2.setTop (mkF m 15 #[.val (.int (0 : Int32))] [(.ref w_BY_ID)])) _
    refine XS.iloadN X2.here hx rfl (hb hby d1_15) rfl ?_
    show Steps p.tables e below (T2.setTop (mkF m 16 #[.val (.int (0 : Int32))] [(.int (0 : Int32)), (.ref w_BY_ID)])) _
    refine X2.aaload hx (j := (0 : Int32)) (v := (.ref w_PRODUCE)) (by rw [e2]; exact Ar_w_BY_ID.1) (State.isArrayOf_alike hZ.alike Ar_w_BY_ID.2.1) rfl Ar_w_BY_ID.2.2 At_w_BY_ID_0.1 At_w_BY_ID_0.2 (g := (mkF m 16 #[.val (.int (0 : Int32))] [(.int (0 : Int32)), (.ref w_BY_ID)])) rfl rfl (hb hby d1_16) _ ?_
    show Steps p.tables e below (T2.setTop (mkF m 17 #[.val (.int (0 : Int32))] [(.ref w_PRODUCE)])) _
    refine XS.goto X2.here hx rfl (pc0 := 17) (pc' := 21) rfl (hb hby d1_17) (by decide) (by decide) ?_
    show Steps p.tables e below (T2.setTop (mkF m 21 #[.val (.int (0 : Int32))] [(.ref w_PRODUCE)])) _
    jvm_step X2.here [X2.here.top, hx, (hb hby d1_21), X2.method', Bd.returns, Value.isRef, FieldType.isReference]
    first | (intro acts; rw [hr _ acts rfl rfl rfl]) | rw [hr _ _ rfl rfl rfl]
    exact Steps.refl _
  · exact ⟨rfl, N0, e2⟩
theorem d2_4 : decode method_2_code 4 = .ok (.getstatic 7, 3) := by decide +kernel
theorem d2_7 : decode method_2_code 7 = .ok (.areturn, 1) := by decide +kernel
def Q2_6 (Z : State) (w_PRODUCE : Addr) (w_METADATA : Addr) (w_LIST_OFFSETS : Addr) (w_JOIN_GROUP : Addr) (w_OFFSET_COMMIT : Addr) (w_FETCH : Addr) (w_FIND_COORDINATOR : Addr) (w_CREATE_TOPICS : Addr) (w_SYNC_GROUP : Addr) (w_OFFSET_FETCH : Addr) (w_HEARTBEAT : Addr) (w_LEAVE_GROUP : Addr) (w_API_VERSIONS : Addr) (w_BY_ID : Addr) (cl_w_BY_ID : Cell) (h0 : Heap) (n0 : Nat) (v : Option Value) (h : Heap) (L : List Loc) : Prop := v = some (.ref w_PRODUCE) ∧ Fr n0 L ∧ h = h0
set_option maxRecDepth 65536 in
set_option maxHeartbeats 40000000 in
theorem rm2_6 (l : Launch) (Z : State) (a0 : Array Value) (hw : ∀ d ∈ tables_1, d.before a0 Z = true) (ws : List Jvm.Cond) (w_PRODUCE : Addr) (w_METADATA : Addr) (w_LIST_OFFSETS : Addr) (w_JOIN_GROUP : Addr) (w_OFFSET_COMMIT : Addr) (w_FETCH : Addr) (w_FIND_COORDINATOR : Addr) (w_CREATE_TOPICS : Addr) (w_SYNC_GROUP : Addr) (w_OFFSET_FETCH : Addr) (w_HEARTBEAT : Addr) (w_LEAVE_GROUP : Addr) (w_API_VERSIONS : Addr) (w_BY_ID : Addr) (cl_w_BY_ID : Cell) (h0 : Heap) (n0 : Nat) (Z0 : n0 ≤ h0.size) (HW : World Z h0 w_PRODUCE w_METADATA w_LIST_OFFSETS w_JOIN_GROUP w_OFFSET_COMMIT w_FETCH w_FIND_COORDINATOR w_CREATE_TOPICS w_SYNC_GROUP w_OFFSET_FETCH w_HEARTBEAT w_LEAVE_GROUP w_API_VERSIONS w_BY_ID cl_w_BY_ID) :
    MetFree l (⟨"com/example/melog/melog/protocol/ApiKeyForIdPinLaw", "expected", "(I)Lcom/example/melog/melog/protocol/ApiKey;"⟩ : MethodName) (head1 (Jvm.Cond.code (⟨"com/example/melog/melog/protocol/ApiKeyForIdPinLaw", "expected", "(I)Lcom/example/melog/melog/protocol/ApiKey;"⟩ : MethodName) method_2_code 1 (some (.object "com/example/melog/melog/protocol/ApiKey")) :: ws) ({ frames := 0, cells := 0, slots := 0, locals := 0 } : Room)) (fun a U => a = #[(.int (0 : Int32))] ∧ Z.Warmed39 U.vm ∧ U.heap = h0) (fun _ _ _ _ _ => True) (fun _ U o U' => ∃ v L, o = .returned v ∧ Q2_6 Z w_PRODUCE w_METADATA w_LIST_OFFSETS w_JOIN_GROUP w_OFFSET_COMMIT w_FETCH w_FIND_COORDINATOR w_CREATE_TOPICS w_SYNC_GROUP w_OFFSET_FETCH w_HEARTBEAT w_LEAVE_GROUP w_API_VERSIONS w_BY_ID cl_w_BY_ID h0 n0 v U'.heap L ∧ FrameEnd U o U' L ({ frames := 0, cells := 0, slots := 0, locals := 0 } : Room).cells ({ frames := 0, cells := 0, slots := 0, locals := 0 } : Room).slots) := by
  refine MetFree.of_bodySF (plainFor_of_name pn50) hisR ?_
  intro p e s m args below meth c s₁ Bd hml0 hP hK
  obtain ⟨rfl, hZ, hh⟩ := hP
  have hx := Bd.exec
  have hby := Bd.bytes
  have hml : c.maxLocals = 1 := hml0
  have hown : s.vm.findClass "com/example/melog/melog/protocol/ApiKeyForIdPinLaw" = some m.cls := findClass_of_methodNamed Bd.named
  have X0 : Stand p l e ({ frames := 0, cells := 0, slots := 0, locals := 0 } : Room) s m #[(.int (0 : Int32))] below meth c s₁ [] 0 0 := Stand.of_body Bd
  have e0 : s₁.heap = h0 := by rw [← hh, Bd.state]; rfl
  have N0 := Fr.nil n0
  have pre0 : ∀ t, Steps p.tables e below (s₁.setTop (mkF m 0 #[.val (.int (0 : Int32))] [])) t → Steps p.tables e below (s₁.setTop (entryFrame m #[(.int (0 : Int32))] 1)) t := fun t k => castTop (ef49 m (0 : Int32)) k
  obtain ⟨S_w_PRODUCE, E_w_PRODUCE, S_w_METADATA, E_w_METADATA, S_w_LIST_OFFSETS, E_w_LIST_OFFSETS, S_w_JOIN_GROUP, E_w_JOIN_GROUP, S_w_OFFSET_COMMIT, E_w_OFFSET_COMMIT, S_w_FETCH, E_w_FETCH, S_w_FIND_COORDINATOR, E_w_FIND_COORDINATOR, S_w_CREATE_TOPICS, E_w_CREATE_TOPICS, S_w_SYNC_GROUP, E_w_SYNC_GROUP, S_w_OFFSET_FETCH, E_w_OFFSET_FETCH, S_w_HEARTBEAT, E_w_HEARTBEAT, S_w_LEAVE_GROUP, E_w_LEAVE_GROUP, S_w_API_VERSIONS, E_w_API_VERSIONS, S_w_BY_ID, Ar_w_BY_ID, Sz_w_BY_ID, At_w_BY_ID_0, At_w_BY_ID_3, At_w_BY_ID_7, At_w_BY_ID_2, At_w_BY_ID_11, At_w_BY_ID_8, At_w_BY_ID_1, At_w_BY_ID_10, At_w_BY_ID_16, At_w_BY_ID_19, At_w_BY_ID_15, At_w_BY_ID_14, At_w_BY_ID_6, At_w_BY_ID_9, At_w_BY_ID_12, At_w_BY_ID_17, At_w_BY_ID_13, At_w_BY_ID_5, At_w_BY_ID_18, At_w_BY_ID_4, -⟩ := id HW
  obtain ⟨T1, X1, e1, st1⟩ := getS2 X0 hx hZ hown (host := "") (Or.inl (hw _ (List.mem_of_getElem? (i := 11) rfl))) Via.refl e0 S_w_PRODUCE (g := (mkF m 4 #[.val (.int (0 : Int32))] [])) rfl (hb hby d2_4)
  obtain ⟨fs, hr, hrun, hended, hW, hsame⟩ := X1.leave (v := some (.ref w_PRODUCE)) (fun h => by rw [Bd.returns] at h; cases h)
  refine ⟨_, _, pre0 _ ?_, hrun, hended, _, _, rfl, ?_, ⟨_, rfl⟩, hW, hsame.mono (by decide) (by decide)⟩
  · show Steps p.tables e below (s₁.setTop (mkF m 0 #[.val (.int (0 : Int32))] [])) _
    refine XS.iloadN X0.here hx rfl (hb hby d2_0) rfl ?_
    show Steps p.tables e below (s₁.setTop (mkF m 1 #[.val (.int (0 : Int32))] [(.int (0 : Int32))])) _
    refine XS.ifNo X0.here hx rfl (hb hby d2_1) rfl ((if0 _ _).trans (teq (by decide : (0 : Int32) = (0 : Int32))).2) ?_
    show Steps p.tables e below (s₁.setTop (mkF m 4 #[.val (.int (0 : Int32))] [])) _
    refine st1 _ ?_
    show Steps p.tables e below (T1.setTop (mkF m 7 #[.val (.int (0 : Int32))] [(.ref w_PRODUCE)])) _
    jvm_step X1.here [X1.here.top, hx, (hb hby d2_7), X1.method', Bd.returns, Value.isRef, FieldType.isReference]
    first | (intro acts; rw [hr _ acts rfl rfl rfl]) | rw [hr _ _ rfl rfl rfl]
    exact Steps.refl _
  · exact ⟨rfl, N0, e1⟩
set_option maxRecDepth 65536 in
set_option maxHeartbeats 40000000 in
theorem rm0_c0 (l : Launch) (Z : State) (a0 : Array Value) (hw : ∀ d ∈ tables_1, d.before a0 Z = true) (ws : List Jvm.Cond) (w_PRODUCE : Addr) (w_METADATA : Addr) (w_LIST_OFFSETS : Addr) (w_JOIN_GROUP : Addr) (w_OFFSET_COMMIT : Addr) (w_FETCH : Addr) (w_FIND_COORDINATOR : Addr) (w_CREATE_TOPICS : Addr) (w_SYNC_GROUP : Addr) (w_OFFSET_FETCH : Addr) (w_HEARTBEAT : Addr) (w_LEAVE_GROUP : Addr) (w_API_VERSIONS : Addr) (w_BY_ID : Addr) (cl_w_BY_ID : Cell) (p1 : Int32) (h0 : Heap) (n0 : Nat) (Z0 : n0 ≤ h0.size) (HW : World Z h0 w_PRODUCE w_METADATA w_LIST_OFFSETS w_JOIN_GROUP w_OFFSET_COMMIT w_FETCH w_FIND_COORDINATOR w_CREATE_TOPICS w_SYNC_GROUP w_OFFSET_FETCH w_HEARTBEAT w_LEAVE_GROUP w_API_VERSIONS w_BY_ID cl_w_BY_ID) (hk : (p1.toInt16.toInt32) = (0 : Int32)) :
    MetFree l x (head1 (Jvm.Cond.code x code maxLocals ret :: ws) room_1) (fun a U => a = #[(.int p1)] ∧ Z.Warmed39 U.vm ∧ U.heap = h0) (fun _ _ _ _ _ => True) (fun _ U o U' => ∃ v L, o = .returned v ∧ Q0 h0 n0 v U'.heap L ∧ FrameEnd U o U' L room_1.cells room_1.slots) := by
  refine MetFree.of_bodySF (plainFor_of_name pn50) hisR ?_
  intro p e s m args below meth c s₁ Bd hml0 hP hK
  obtain ⟨rfl, hZ, hh⟩ := hP
  have hx := Bd.exec
  have hby := Bd.bytes
  have hml : c.maxLocals = 3 := hml0
  have hown : s.vm.findClass "com/example/melog/melog/protocol/ApiKeyForIdPinLaw" = some m.cls := findClass_of_methodNamed Bd.named
  have X0 : Stand p l e room_1 s m #[(.int p1)] below meth c s₁ [] 0 0 := Stand.of_body Bd
  have e0 : s₁.heap = h0 := by rw [← hh, Bd.state]; rfl
  have N0 := Fr.nil n0
  have pre0 : ∀ t, Steps p.tables e below (s₁.setTop (mkF m 0 #[.val (.int p1), .unset, .unset] [])) t → Steps p.tables e below (s₁.setTop (entryFrame m #[(.int p1)] maxLocals)) t := fun t k => castTop (ef53 m p1) k
  obtain ⟨S_w_PRODUCE, E_w_PRODUCE, S_w_METADATA, E_w_METADATA, S_w_LIST_OFFSETS, E_w_LIST_OFFSETS, S_w_JOIN_GROUP, E_w_JOIN_GROUP, S_w_OFFSET_COMMIT, E_w_OFFSET_COMMIT, S_w_FETCH, E_w_FETCH, S_w_FIND_COORDINATOR, E_w_FIND_COORDINATOR, S_w_CREATE_TOPICS, E_w_CREATE_TOPICS, S_w_SYNC_GROUP, E_w_SYNC_GROUP, S_w_OFFSET_FETCH, E_w_OFFSET_FETCH, S_w_HEARTBEAT, E_w_HEARTBEAT, S_w_LEAVE_GROUP, E_w_LEAVE_GROUP, S_w_API_VERSIONS, E_w_API_VERSIONS, S_w_BY_ID, Ar_w_BY_ID, Sz_w_BY_ID, At_w_BY_ID_0, At_w_BY_ID_3, At_w_BY_ID_7, At_w_BY_ID_2, At_w_BY_ID_11, At_w_BY_ID_8, At_w_BY_ID_1, At_w_BY_ID_10, At_w_BY_ID_16, At_w_BY_ID_19, At_w_BY_ID_15, At_w_BY_ID_14, At_w_BY_ID_6, At_w_BY_ID_9, At_w_BY_ID_12, At_w_BY_ID_17, At_w_BY_ID_13, At_w_BY_ID_5, At_w_BY_ID_18, At_w_BY_ID_4, -⟩ := id HW
  obtain ⟨_, _, ⟨T1, L1, k1, n1⟩, -, X1, ⟨Lc1, hQ1, l1, y1, z1⟩, st1⟩ := Jvm.LawKit.callS X0 hx (y := (⟨"com/example/melog/melog/protocol/ApiKey", "forId", "(S)Lcom/example/melog/melog/protocol/ApiKey;"⟩ : MethodName)) hown (mvT hZ (hw _ (List.mem_of_getElem? (i := 0) rfl))) (mvT hZ (hw _ (List.mem_of_getElem? (i := 1) rfl))) (mvT hZ (hw _ (List.mem_of_getElem? (i := 2) rfl))) (mvT hZ (hw _ (List.mem_of_getElem? (i := 3) rfl))) (by decide) (backOf (W := 0) (rm1_5 l Z a0 hw [] w_PRODUCE w_METADATA w_LIST_OFFSETS w_JOIN_GROUP w_OFFSET_COMMIT w_FETCH w_FIND_COORDINATOR w_CREATE_TOPICS w_SYNC_GROUP w_OFFSET_FETCH w_HEARTBEAT w_LEAVE_GROUP w_API_VERSIONS w_BY_ID cl_w_BY_ID h0 n0 Z0 HW) hZ (hw _ (List.mem_of_getElem? (i := 3) rfl)) (hw _ (List.mem_of_getElem? (i := 2) rfl)) (by decide) (by decide)) (g := (mkF m 4 #[.val (.int p1), .val (.int (0 : Int32)), .unset] [(.int (0 : Int32))])) rfl (by rw [hml]; rfl) (argsL := [(.int (0 : Int32))]) (rest := []) (lenOf pd7 rfl) rfl (by show 2 * 0 + _ ≤ _; exact Nat.le_of_eq rfl) (hb hby at_4) (fun _ _ => ⟨rfl, e0, (by decide : 0 + 0 ≤ _), (by decide : 0 + 0 ≤ _)⟩)
  dsimp only [Pt.U, Pt.locs, Pt.cells, Pt.slots] at X1 l1 y1 z1 st1 hQ1
  subst l1 y1 z1
  obtain ⟨rfl, N1q, e1⟩ := hQ1
  have N1 := Fr.app N0 N1q
  obtain ⟨_, _, ⟨T2, L2, k2, n2⟩, -, X2, ⟨Lc2, hQ2, l2, y2, z2⟩, st2⟩ := Jvm.LawKit.callS X1 hx (y := (⟨"com/example/melog/melog/protocol/ApiKeyForIdPinLaw", "expected", "(I)Lcom/example/melog/melog/protocol/ApiKey;"⟩ : MethodName)) hown (mvT hZ (hw _ (List.mem_of_getElem? (i := 7) rfl))) (mvT hZ (hw _ (List.mem_of_getElem? (i := 8) rfl))) (mvT hZ (hw _ (List.mem_of_getElem? (i := 9) rfl))) (mvT hZ (hw _ (List.mem_of_getElem? (i := 10) rfl))) (by decide) (backOf (W := 1) (rm2_6 l Z a0 hw [] w_PRODUCE w_METADATA w_LIST_OFFSETS w_JOIN_GROUP w_OFFSET_COMMIT w_FETCH w_FIND_COORDINATOR w_CREATE_TOPICS w_SYNC_GROUP w_OFFSET_FETCH w_HEARTBEAT w_LEAVE_GROUP w_API_VERSIONS w_BY_ID cl_w_BY_ID h0 n0 Z0 HW) hZ (hw _ (List.mem_of_getElem? (i := 10) rfl)) (hw _ (List.mem_of_getElem? (i := 9) rfl)) (by decide) (by decide)) (g := (mkF m 10 #[.val (.int p1), .val (.int (0 : Int32)), .val (.ref w_PRODUCE)] [(.int (0 : Int32)), (.ref w_PRODUCE)])) rfl (by rw [hml]; rfl) (argsL := [(.int (0 : Int32))]) (rest := [(.ref w_PRODUCE)]) (lenOf pd51 rfl) rfl (by show 2 * 0 + _ ≤ _; exact Nat.le_of_eq rfl) (hb hby at_10) (fun _ _ => ⟨rfl, e1, (by decide : 0 + 0 ≤ _), (by decide : 0 + 0 ≤ _)⟩)
  dsimp only [Pt.U, Pt.locs, Pt.cells, Pt.slots] at X2 l2 y2 z2 st2 hQ2
  subst l2 y2 z2
  obtain ⟨rfl, N2q, e2⟩ := hQ2
  have N2 := Fr.app N1 N2q
  obtain ⟨fs, hr, hrun, hended, hW, hsame⟩ := X2.leave (v := some (.int (1 : Int32))) (fun h => by rw [Bd.returns] at h; cases h)
  refine ⟨_, _, pre0 _ ?_, hrun, hended, _, _, rfl, ?_, ⟨_, rfl⟩, hW, hsame.mono (by decide) (by decide)⟩
  · show Steps p.tables e below (s₁.setTop (mkF m 0 #[.val (.int p1), .unset, .unset] [])) _
    refine XS.iloadN X0.here hx rfl (hb hby at_0) rfl ?_
    show Steps p.tables e below (s₁.setTop (mkF m 1 #[.val (.int p1), .unset, .unset] [(.int p1)])) _
    refine XS.i2s X0.here hx rfl (hb hby at_1) rfl ?_
    rw [hk]
    show Steps p.tables e below (s₁.setTop (mkF m 2 #[.val (.int p1), .unset, .unset] [(.int (0 : Int32))])) _
    refine XS.istoreN X0.here hx rfl (hb hby at_2) rfl (l' := #[.val (.int p1), .val (.int (0 : Int32)), .unset]) rfl ?_
    show Steps p.tables e below (s₁.setTop (mkF m 3 #[.val (.int p1), .val (.int (0 : Int32)), .unset] [])) _
    refine XS.iloadN X0.here hx rfl (hb hby at_3) rfl ?_
    show Steps p.tables e below (s₁.setTop (mkF m 4 #[.val (.int p1), .val (.int (0 : Int32)), .unset] [(.int (0 : Int32))])) _
    refine st1 _ ?_
    show Steps p.tables e below (T1.setTop (mkF m 7 #[.val (.int p1), .val (.int (0 : Int32)), .unset] [(.ref w_PRODUCE)])) _
    refine XS.astoreN X1.here hx rfl (hb hby at_7) rfl rfl (l' := #[.val (.int p1), .val (.int (0 : Int32)), .val (.ref w_PRODUCE)]) rfl ?_
    show Steps p.tables e below (T1.setTop (mkF m 8 #[.val (.int p1), .val (.int (0 : Int32)), .val (.ref w_PRODUCE)] [])) _
    refine XS.aloadN X1.here hx rfl (hb hby at_8) rfl rfl ?_
    show Steps p.tables e below (T1.setTop (mkF m 9 #[.val (.int p1), .val (.int (0 : Int32)), .val (.ref w_PRODUCE)] [(.ref w_PRODUCE)])) _
    refine XS.iloadN X1.here hx rfl (hb hby at_9) rfl ?_
    show Steps p.tables e below (T1.setTop (mkF m 10 #[.val (.int p1), .val (.int (0 : Int32)), .val (.ref w_PRODUCE)] [(.int (0 : Int32)), (.ref w_PRODUCE)])) _
    refine st2 _ ?_
    show Steps p.tables e below (T2.setTop (mkF m 13 #[.val (.int p1), .val (.int (0 : Int32)), .val (.ref w_PRODUCE)] [(.ref w_PRODUCE), (.ref w_PRODUCE)])) _
    refine Jvm.RoadKit.acmp (g := (mkF m 13 #[.val (.int p1), .val (.int (0 : Int32)), .val (.ref w_PRODUCE)] [(.ref w_PRODUCE), (.ref w_PRODUCE)])) X2 hx rfl rfl rfl (pc0 := 13) (pc' := 16) (same := true) rfl (hb hby at_13) rfl (decide_eq_true rfl) (by decide) (by decide) ?_
    show Steps p.tables e below (T2.setTop (mkF m 16 #[.val (.int p1), .val (.int (0 : Int32)), .val (.ref w_PRODUCE)] [])) _
    refine XS.iconst X2.here hx rfl (hb hby at_16) ?_
    show Steps p.tables e below (T2.setTop (mkF m 17 #[.val (.int p1), .val (.int (0 : Int32)), .val (.ref w_PRODUCE)] [(.int (1 : Int32))])) _
    refine XS.goto X2.here hx rfl (pc0 := 17) (pc' := 21) rfl (hb hby at_17) (by decide) (by decide) ?_
    show Steps p.tables e below (T2.setTop (mkF m 21 #[.val (.int p1), .val (.int (0 : Int32)), .val (.ref w_PRODUCE)] [(.int (1 : Int32))])) _
    exact retN X2 hx (t := .boolean) Bd.returns (by simp) (hb hby at_21) hr
  · exact ⟨rfl, N2⟩
def Q1_8 (Z : State) (w_PRODUCE : Addr) (w_METADATA : Addr) (w_LIST_OFFSETS : Addr) (w_JOIN_GROUP : Addr) (w_OFFSET_COMMIT : Addr) (w_FETCH : Addr) (w_FIND_COORDINATOR : Addr) (w_CREATE_TOPICS : Addr) (w_SYNC_GROUP : Addr) (w_OFFSET_FETCH : Addr) (w_HEARTBEAT : Addr) (w_LEAVE_GROUP : Addr) (w_API_VERSIONS : Addr) (w_BY_ID : Addr) (cl_w_BY_ID : Cell) (h0 : Heap) (n0 : Nat) (v : Option Value) (h : Heap) (L : List Loc) : Prop := v = some (.ref w_FETCH) ∧ Fr n0 L ∧ h = h0
set_option maxRecDepth 65536 in
set_option maxHeartbeats 40000000 in
theorem rm1_8 (l : Launch) (Z : State) (a0 : Array Value) (hw : ∀ d ∈ tables_1, d.before a0 Z = true) (ws : List Jvm.Cond) (w_PRODUCE : Addr) (w_METADATA : Addr) (w_LIST_OFFSETS : Addr) (w_JOIN_GROUP : Addr) (w_OFFSET_COMMIT : Addr) (w_FETCH : Addr) (w_FIND_COORDINATOR : Addr) (w_CREATE_TOPICS : Addr) (w_SYNC_GROUP : Addr) (w_OFFSET_FETCH : Addr) (w_HEARTBEAT : Addr) (w_LEAVE_GROUP : Addr) (w_API_VERSIONS : Addr) (w_BY_ID : Addr) (cl_w_BY_ID : Cell) (h0 : Heap) (n0 : Nat) (Z0 : n0 ≤ h0.size) (HW : World Z h0 w_PRODUCE w_METADATA w_LIST_OFFSETS w_JOIN_GROUP w_OFFSET_COMMIT w_FETCH w_FIND_COORDINATOR w_CREATE_TOPICS w_SYNC_GROUP w_OFFSET_FETCH w_HEARTBEAT w_LEAVE_GROUP w_API_VERSIONS w_BY_ID cl_w_BY_ID) :
    MetFree l (⟨"com/example/melog/melog/protocol/ApiKey", "forId", "(S)Lcom/example/melog/melog/protocol/ApiKey;"⟩ : MethodName) (head1 (Jvm.Cond.code (⟨"com/example/melog/melog/protocol/ApiKey", "forId", "(S)Lcom/example/melog/melog/protocol/ApiKey;"⟩ : MethodName) prog_9_method_4_code 1 (some (.object "com/example/melog/melog/protocol/ApiKey")) :: ws) ({ frames := 0, cells := 0, slots := 0, locals := 0 } : Room)) (fun a U => a = #[(.int (1 : Int32))] ∧ Z.Warmed39 U.vm ∧ U.heap = h0) (fun _ _ _ _ _ => True) (fun _ U o U' => ∃ v L, o = .returned v ∧ Q1_8 Z w_PRODUCE w_METADATA w_LIST_OFFSETS w_JOIN_GROUP w_OFFSET_COMMIT w_FETCH w_FIND_COORDINATOR w_CREATE_TOPICS w_SYNC_GROUP w_OFFSET_FETCH w_HEARTBEAT w_LEAVE_GROUP w_API_VERSIONS w_BY_ID cl_w_BY_ID h0 n0 v U'.heap L ∧ FrameEnd U o U' L ({ frames := 0, cells := 0, slots := 0, locals := 0 } : Room).cells ({ frames := 0, cells := 0, slots := 0, locals := 0 } : Room).slots) := by
  refine MetFree.of_bodySF (plainFor_of_name pn6) hisR ?_
  intro p e s m args below meth c s₁ Bd hml0 hP hK
  obtain ⟨rfl, hZ, hh⟩ := hP
  have hx := Bd.exec
  have hby := Bd.bytes
  have hml : c.maxLocals = 1 := hml0
  have hown : s.vm.findClass "com/example/melog/melog/protocol/ApiKey" = some m.cls := findClass_of_methodNamed Bd.named
  have X0 : Stand p l e ({ frames := 0, cells := 0, slots := 0, locals := 0 } : Room) s m #[(.int (1 : Int32))] below meth c s₁ [] 0 0 := Stand.of_body Bd
  have e0 : s₁.heap = h0 := by rw [← hh, Bd.state]; rfl
  have N0 := Fr.nil n0
  have pre0 : ∀ t, Steps p.tables e below (s₁.setTop (mkF m 0 #[.val (.int (1 : Int32))] [])) t → Steps p.tables e below (s₁.setTop (entryFrame m #[(.int (1 : Int32))] 1)) t := fun t k => castTop (ef5 m (1 : Int32)) k
  obtain ⟨S_w_PRODUCE, E_w_PRODUCE, S_w_METADATA, E_w_METADATA, S_w_LIST_OFFSETS, E_w_LIST_OFFSETS, S_w_JOIN_GROUP, E_w_JOIN_GROUP, S_w_OFFSET_COMMIT, E_w_OFFSET_COMMIT, S_w_FETCH, E_w_FETCH, S_w_FIND_COORDINATOR, E_w_FIND_COORDINATOR, S_w_CREATE_TOPICS, E_w_CREATE_TOPICS, S_w_SYNC_GROUP, E_w_SYNC_GROUP, S_w_OFFSET_FETCH, E_w_OFFSET_FETCH, S_w_HEARTBEAT, E_w_HEARTBEAT, S_w_LEAVE_GROUP, E_w_LEAVE_GROUP, S_w_API_VERSIONS, E_w_API_VERSIONS, S_w_BY_ID, Ar_w_BY_ID, Sz_w_BY_ID, At_w_BY_ID_0, At_w_BY_ID_3, At_w_BY_ID_7, At_w_BY_ID_2, At_w_BY_ID_11, At_w_BY_ID_8, At_w_BY_ID_1, At_w_BY_ID_10, At_w_BY_ID_16, At_w_BY_ID_19, At_w_BY_ID_15, At_w_BY_ID_14, At_w_BY_ID_6, At_w_BY_ID_9, At_w_BY_ID_12, At_w_BY_ID_17, At_w_BY_ID_13, At_w_BY_ID_5, At_w_BY_ID_18, At_w_BY_ID_4, -⟩ := id HW
  obtain ⟨T1, X1, e1, st1⟩ := getS2 X0 hx hZ hown (host := "") (Or.inl (hw _ (List.mem_of_getElem? (i := 4) rfl))) Via.refl e0 S_w_BY_ID (g := (mkF m 5 #[.val (.int (1 : Int32))] [(.int (1 : Int32))])) rfl (hb hby d1_5)
  obtain ⟨T2, X2, e2, st2⟩ := getS2 X1 hx hZ hown (host := "") (Or.inl (hw _ (List.mem_of_getElem? (i := 4) rfl))) Via.refl e1 S_w_BY_ID (g := (mkF m 12 #[.val (.int (1 : Int32))] [])) rfl (hb hby d1_12)
  obtain ⟨fs, hr, hrun, hended, hW, hsame⟩ := X2.leave (v := some (.ref w_FETCH)) (fun h => by rw [Bd.returns] at h; cases h)
  refine ⟨_, _, pre0 _ ?_, hrun, hended, _, _, rfl, ?_, ⟨_, rfl⟩, hW, hsame.mono (by decide) (by decide)⟩
  · show Steps p.tables e below (s₁.setTop (mkF m 0 #[.val (.int (1 : Int32))] [])) _
    refine XS.iloadN X0.here hx rfl (hb hby d1_0) rfl ?_
    show Steps p.tables e below (s₁.setTop (mkF m 1 #[.val (.int (1 : Int32))] [(.int (1 : Int32))])) _
    refine XS.ifNo X0.here hx rfl (hb hby d1_1) rfl ((if0 _ _).trans (flt (by decide : ¬ ((1 : Int32) < (0 : Int32)))).1) ?_
    show Steps p.tables e below (s₁.setTop (mkF m 4 #[.val (.int (1 : Int32))] [])) _
    refine XS.iloadN X0.here hx rfl (hb hby d1_4) rfl ?_
    show Steps p.tables e below (s₁.setTop (mkF m 5 #[.val (.int (1 : Int32))] [(.int (1 : Int32))])) _
    refine st1 _ ?_
    show Steps p.tables e below (T1.setTop (mkF m 8 #[.val (.int (1 : Int32))] [(.ref w_BY_ID), (.int (1 : Int32))])) _
    refine X1.arraylength hx (by rw [e1]; exact Ar_w_BY_ID.1) (State.isArrayOf_alike hZ.alike Ar_w_BY_ID.2.1) (g := (mkF m 8 #[.val (.int (1 : Int32))] [(.ref w_BY_ID), (.int (1 : Int32))])) rfl rfl (hb hby d1_8) _ ?_
    rw [Sz_w_BY_ID]
    show Steps p.tables e below (T1.setTop (mkF m 9 #[.val (.int (1 : Int32))] [(.int (20 : Int32)), (.int (1 : Int32))])) _
    refine XS.icmpNo X1.here hx rfl (hb hby d1_9) rfl (tlt (by decide : (1 : Int32) < (20 : Int32))).2.1 ?_
    show Steps p.tables e below (T1.setTop (mkF m 12 #[.val (.int (1 : Int32))] [])) _
    refine st2 _ ?_
    show Steps p.tables e below (T2.setTop (mkF m 15 #[.val (.int (1 : Int32))] [(.ref w_BY_ID)])) _
    refine XS.iloadN X2.here hx rfl (hb hby d1_15) rfl ?_
    show Steps p.tables e below (T2.setTop (mkF m 16 #[.val (.int (1 : Int32))] [(.int (1 : Int32)), (.ref w_BY_ID)])) _
    refine X2.aaload hx (j := (1 : Int32)) (v := (.ref w_FETCH)) (by rw [e2]; exact Ar_w_BY_ID.1) (State.isArrayOf_alike hZ.alike Ar_w_BY_ID.2.1) rfl Ar_w_BY_ID.2.2 At_w_BY_ID_1.1 At_w_BY_ID_1.2 (g := (mkF m 16 #[.val (.int (1 : Int32))] [(.int (1 : Int32)), (.ref w_BY_ID)])) rfl rfl (hb hby d1_16) _ ?_
    show Steps p.tables e below (T2.setTop (mkF m 17 #[.val (.int (1 : Int32))] [(.ref w_FETCH)])) _
    refine XS.goto X2.here hx rfl (pc0 := 17) (pc' := 21) rfl (hb hby d1_17) (by decide) (by decide) ?_
    show Steps p.tables e below (T2.setTop (mkF m 21 #[.val (.int (1 : Int32))] [(.ref w_FETCH)])) _
    jvm_step X2.here [X2.here.top, hx, (hb hby d1_21), X2.method', Bd.returns, Value.isRef, FieldType.isReference]
    first | (intro acts; rw [hr _ acts rfl rfl rfl]) | rw [hr _ _ rfl rfl rfl]
    exact Steps.refl _
  · exact ⟨rfl, N0, e2⟩
theorem d2_13 : decode method_2_code 13 = .ok (.getstatic 13, 3) := by decide +kernel
theorem d2_16 : decode method_2_code 16 = .ok (.areturn, 1) := by decide +kernel
def Q2_9 (Z : State) (w_PRODUCE : Addr) (w_METADATA : Addr) (w_LIST_OFFSETS : Addr) (w_JOIN_GROUP : Addr) (w_OFFSET_COMMIT : Addr) (w_FETCH : Addr) (w_FIND_COORDINATOR : Addr) (w_CREATE_TOPICS : Addr) (w_SYNC_GROUP : Addr) (w_OFFSET_FETCH : Addr) (w_HEARTBEAT : Addr) (w_LEAVE_GROUP : Addr) (w_API_VERSIONS : Addr) (w_BY_ID : Addr) (cl_w_BY_ID : Cell) (h0 : Heap) (n0 : Nat) (v : Option Value) (h : Heap) (L : List Loc) : Prop := v = some (.ref w_FETCH) ∧ Fr n0 L ∧ h = h0
set_option maxRecDepth 65536 in
set_option maxHeartbeats 40000000 in
theorem rm2_9 (l : Launch) (Z : State) (a0 : Array Value) (hw : ∀ d ∈ tables_1, d.before a0 Z = true) (ws : List Jvm.Cond) (w_PRODUCE : Addr) (w_METADATA : Addr) (w_LIST_OFFSETS : Addr) (w_JOIN_GROUP : Addr) (w_OFFSET_COMMIT : Addr) (w_FETCH : Addr) (w_FIND_COORDINATOR : Addr) (w_CREATE_TOPICS : Addr) (w_SYNC_GROUP : Addr) (w_OFFSET_FETCH : Addr) (w_HEARTBEAT : Addr) (w_LEAVE_GROUP : Addr) (w_API_VERSIONS : Addr) (w_BY_ID : Addr) (cl_w_BY_ID : Cell) (h0 : Heap) (n0 : Nat) (Z0 : n0 ≤ h0.size) (HW : World Z h0 w_PRODUCE w_METADATA w_LIST_OFFSETS w_JOIN_GROUP w_OFFSET_COMMIT w_FETCH w_FIND_COORDINATOR w_CREATE_TOPICS w_SYNC_GROUP w_OFFSET_FETCH w_HEARTBEAT w_LEAVE_GROUP w_API_VERSIONS w_BY_ID cl_w_BY_ID) :
    MetFree l (⟨"com/example/melog/melog/protocol/ApiKeyForIdPinLaw", "expected", "(I)Lcom/example/melog/melog/protocol/ApiKey;"⟩ : MethodName) (head1 (Jvm.Cond.code (⟨"com/example/melog/melog/protocol/ApiKeyForIdPinLaw", "expected", "(I)Lcom/example/melog/melog/protocol/ApiKey;"⟩ : MethodName) method_2_code 1 (some (.object "com/example/melog/melog/protocol/ApiKey")) :: ws) ({ frames := 0, cells := 0, slots := 0, locals := 0 } : Room)) (fun a U => a = #[(.int (1 : Int32))] ∧ Z.Warmed39 U.vm ∧ U.heap = h0) (fun _ _ _ _ _ => True) (fun _ U o U' => ∃ v L, o = .returned v ∧ Q2_9 Z w_PRODUCE w_METADATA w_LIST_OFFSETS w_JOIN_GROUP w_OFFSET_COMMIT w_FETCH w_FIND_COORDINATOR w_CREATE_TOPICS w_SYNC_GROUP w_OFFSET_FETCH w_HEARTBEAT w_LEAVE_GROUP w_API_VERSIONS w_BY_ID cl_w_BY_ID h0 n0 v U'.heap L ∧ FrameEnd U o U' L ({ frames := 0, cells := 0, slots := 0, locals := 0 } : Room).cells ({ frames := 0, cells := 0, slots := 0, locals := 0 } : Room).slots) := by
  refine MetFree.of_bodySF (plainFor_of_name pn50) hisR ?_
  intro p e s m args below meth c s₁ Bd hml0 hP hK
  obtain ⟨rfl, hZ, hh⟩ := hP
  have hx := Bd.exec
  have hby := Bd.bytes
  have hml : c.maxLocals = 1 := hml0
  have hown : s.vm.findClass "com/example/melog/melog/protocol/ApiKeyForIdPinLaw" = some m.cls := findClass_of_methodNamed Bd.named
  have X0 : Stand p l e ({ frames := 0, cells := 0, slots := 0, locals := 0 } : Room) s m #[(.int (1 : Int32))] below meth c s₁ [] 0 0 := Stand.of_body Bd
  have e0 : s₁.heap = h0 := by rw [← hh, Bd.state]; rfl
  have N0 := Fr.nil n0
  have pre0 : ∀ t, Steps p.tables e below (s₁.setTop (mkF m 0 #[.val (.int (1 : Int32))] [])) t → Steps p.tables e below (s₁.setTop (entryFrame m #[(.int (1 : Int32))] 1)) t := fun t k => castTop (ef49 m (1 : Int32)) k
  obtain ⟨S_w_PRODUCE, E_w_PRODUCE, S_w_METADATA, E_w_METADATA, S_w_LIST_OFFSETS, E_w_LIST_OFFSETS, S_w_JOIN_GROUP, E_w_JOIN_GROUP, S_w_OFFSET_COMMIT, E_w_OFFSET_COMMIT, S_w_FETCH, E_w_FETCH, S_w_FIND_COORDINATOR, E_w_FIND_COORDINATOR, S_w_CREATE_TOPICS, E_w_CREATE_TOPICS, S_w_SYNC_GROUP, E_w_SYNC_GROUP, S_w_OFFSET_FETCH, E_w_OFFSET_FETCH, S_w_HEARTBEAT, E_w_HEARTBEAT, S_w_LEAVE_GROUP, E_w_LEAVE_GROUP, S_w_API_VERSIONS, E_w_API_VERSIONS, S_w_BY_ID, Ar_w_BY_ID, Sz_w_BY_ID, At_w_BY_ID_0, At_w_BY_ID_3, At_w_BY_ID_7, At_w_BY_ID_2, At_w_BY_ID_11, At_w_BY_ID_8, At_w_BY_ID_1, At_w_BY_ID_10, At_w_BY_ID_16, At_w_BY_ID_19, At_w_BY_ID_15, At_w_BY_ID_14, At_w_BY_ID_6, At_w_BY_ID_9, At_w_BY_ID_12, At_w_BY_ID_17, At_w_BY_ID_13, At_w_BY_ID_5, At_w_BY_ID_18, At_w_BY_ID_4, -⟩ := id HW
  obtain ⟨T1, X1, e1, st1⟩ := getS2 X0 hx hZ hown (host := "") (Or.inl (hw _ (List.mem_of_getElem? (i := 21) rfl))) Via.refl e0 S_w_FETCH (g := (mkF m 13 #[.val (.int (1 : Int32))] [])) rfl (hb hby d2_13)
  obtain ⟨fs, hr, hrun, hended, hW, hsame⟩ := X1.leave (v := some (.ref w_FETCH)) (fun h => by rw [Bd.returns] at h; cases h)
  refine ⟨_, _, pre0 _ ?_, hrun, hended, _, _, rfl, ?_, ⟨_, rfl⟩, hW, hsame.mono (by decide) (by decide)⟩
  · show Steps p.tables e below (s₁.setTop (mkF m 0 #[.val (.int (1 : Int32))] [])) _
    refine XS.iloadN X0.here hx rfl (hb hby d2_0) rfl ?_
    show Steps p.tables e below (s₁.setTop (mkF m 1 #[.val (.int (1 : Int32))] [(.int (1 : Int32))])) _
    refine XS.ifYes X0.here hx rfl (pc0 := 1) (pc' := 8) rfl (hb hby d2_1) rfl ((if0 _ _).trans (feq (by decide : ¬ ((1 : Int32) = (0 : Int32)))).2) (by decide) (by decide) ?_
    show Steps p.tables e below (s₁.setTop (mkF m 8 #[.val (.int (1 : Int32))] [])) _
    refine XS.iloadN X0.here hx rfl (hb hby d2_8) rfl ?_
    show Steps p.tables e below (s₁.setTop (mkF m 9 #[.val (.int (1 : Int32))] [(.int (1 : Int32))])) _
    refine XS.iconst X0.here hx rfl (hb hby d2_9) ?_
    show Steps p.tables e below (s₁.setTop (mkF m 10 #[.val (.int (1 : Int32))] [(.int (1 : Int32)), (.int (1 : Int32))])) _
    refine XS.icmpNo X0.here hx rfl (hb hby d2_10) rfl (teq (by decide : (1 : Int32) = (1 : Int32))).2 ?_
    show Steps p.tables e below (s₁.setTop (mkF m 13 #[.val (.int (1 : Int32))] [])) _
    refine st1 _ ?_
    show Steps p.tables e below (T1.setTop (mkF m 16 #[.val (.int (1 : Int32))] [(.ref w_FETCH)])) _
    jvm_step X1.here [X1.here.top, hx, (hb hby d2_16), X1.method', Bd.returns, Value.isRef, FieldType.isReference]
    first | (intro acts; rw [hr _ acts rfl rfl rfl]) | rw [hr _ _ rfl rfl rfl]
    exact Steps.refl _
  · exact ⟨rfl, N0, e1⟩
set_option maxRecDepth 65536 in
set_option maxHeartbeats 40000000 in
theorem rm0_c1 (l : Launch) (Z : State) (a0 : Array Value) (hw : ∀ d ∈ tables_1, d.before a0 Z = true) (ws : List Jvm.Cond) (w_PRODUCE : Addr) (w_METADATA : Addr) (w_LIST_OFFSETS : Addr) (w_JOIN_GROUP : Addr) (w_OFFSET_COMMIT : Addr) (w_FETCH : Addr) (w_FIND_COORDINATOR : Addr) (w_CREATE_TOPICS : Addr) (w_SYNC_GROUP : Addr) (w_OFFSET_FETCH : Addr) (w_HEARTBEAT : Addr) (w_LEAVE_GROUP : Addr) (w_API_VERSIONS : Addr) (w_BY_ID : Addr) (cl_w_BY_ID : Cell) (p1 : Int32) (h0 : Heap) (n0 : Nat) (Z0 : n0 ≤ h0.size) (HW : World Z h0 w_PRODUCE w_METADATA w_LIST_OFFSETS w_JOIN_GROUP w_OFFSET_COMMIT w_FETCH w_FIND_COORDINATOR w_CREATE_TOPICS w_SYNC_GROUP w_OFFSET_FETCH w_HEARTBEAT w_LEAVE_GROUP w_API_VERSIONS w_BY_ID cl_w_BY_ID) (hk : (p1.toInt16.toInt32) = (1 : Int32)) :
    MetFree l x (head1 (Jvm.Cond.code x code maxLocals ret :: ws) room_1) (fun a U => a = #[(.int p1)] ∧ Z.Warmed39 U.vm ∧ U.heap = h0) (fun _ _ _ _ _ => True) (fun _ U o U' => ∃ v L, o = .returned v ∧ Q0 h0 n0 v U'.heap L ∧ FrameEnd U o U' L room_1.cells room_1.slots) := by
  refine MetFree.of_bodySF (plainFor_of_name pn50) hisR ?_
  intro p e s m args below meth c s₁ Bd hml0 hP hK
  obtain ⟨rfl, hZ, hh⟩ := hP
  have hx := Bd.exec
  have hby := Bd.bytes
  have hml : c.maxLocals = 3 := hml0
  have hown : s.vm.findClass "com/example/melog/melog/protocol/ApiKeyForIdPinLaw" = some m.cls := findClass_of_methodNamed Bd.named
  have X0 : Stand p l e room_1 s m #[(.int p1)] below meth c s₁ [] 0 0 := Stand.of_body Bd
  have e0 : s₁.heap = h0 := by rw [← hh, Bd.state]; rfl
  have N0 := Fr.nil n0
  have pre0 : ∀ t, Steps p.tables e below (s₁.setTop (mkF m 0 #[.val (.int p1), .unset, .unset] [])) t → Steps p.tables e below (s₁.setTop (entryFrame m #[(.int p1)] maxLocals)) t := fun t k => castTop (ef53 m p1) k
  obtain ⟨S_w_PRODUCE, E_w_PRODUCE, S_w_METADATA, E_w_METADATA, S_w_LIST_OFFSETS, E_w_LIST_OFFSETS, S_w_JOIN_GROUP, E_w_JOIN_GROUP, S_w_OFFSET_COMMIT, E_w_OFFSET_COMMIT, S_w_FETCH, E_w_FETCH, S_w_FIND_COORDINATOR, E_w_FIND_COORDINATOR, S_w_CREATE_TOPICS, E_w_CREATE_TOPICS, S_w_SYNC_GROUP, E_w_SYNC_GROUP, S_w_OFFSET_FETCH, E_w_OFFSET_FETCH, S_w_HEARTBEAT, E_w_HEARTBEAT, S_w_LEAVE_GROUP, E_w_LEAVE_GROUP, S_w_API_VERSIONS, E_w_API_VERSIONS, S_w_BY_ID, Ar_w_BY_ID, Sz_w_BY_ID, At_w_BY_ID_0, At_w_BY_ID_3, At_w_BY_ID_7, At_w_BY_ID_2, At_w_BY_ID_11, At_w_BY_ID_8, At_w_BY_ID_1, At_w_BY_ID_10, At_w_BY_ID_16, At_w_BY_ID_19, At_w_BY_ID_15, At_w_BY_ID_14, At_w_BY_ID_6, At_w_BY_ID_9, At_w_BY_ID_12, At_w_BY_ID_17, At_w_BY_ID_13, At_w_BY_ID_5, At_w_BY_ID_18, At_w_BY_ID_4, -⟩ := id HW
  obtain ⟨_, _, ⟨T1, L1, k1, n1⟩, -, X1, ⟨Lc1, hQ1, l1, y1, z1⟩, st1⟩ := Jvm.LawKit.callS X0 hx (y := (⟨"com/example/melog/melog/protocol/ApiKey", "forId", "(S)Lcom/example/melog/melog/protocol/ApiKey;"⟩ : MethodName)) hown (mvT hZ (hw _ (List.mem_of_getElem? (i := 0) rfl))) (mvT hZ (hw _ (List.mem_of_getElem? (i := 1) rfl))) (mvT hZ (hw _ (List.mem_of_getElem? (i := 2) rfl))) (mvT hZ (hw _ (List.mem_of_getElem? (i := 3) rfl))) (by decide) (backOf (W := 0) (rm1_8 l Z a0 hw [] w_PRODUCE w_METADATA w_LIST_OFFSETS w_JOIN_GROUP w_OFFSET_COMMIT w_FETCH w_FIND_COORDINATOR w_CREATE_TOPICS w_SYNC_GROUP w_OFFSET_FETCH w_HEARTBEAT w_LEAVE_GROUP w_API_VERSIONS w_BY_ID cl_w_BY_ID h0 n0 Z0 HW) hZ (hw _ (List.mem_of_getElem? (i := 3) rfl)) (hw _ (List.mem_of_getElem? (i := 2) rfl)) (by decide) (by decide)) (g := (mkF m 4 #[.val (.int p1), .val (.int (1 : Int32)), .unset] [(.int (1 : Int32))])) rfl (by rw [hml]; rfl) (argsL := [(.int (1 : Int32))]) (rest := []) (lenOf pd7 rfl) rfl (by show 2 * 0 + _ ≤ _; exact Nat.le_of_eq rfl) (hb hby at_4) (fun _ _ => ⟨rfl, e0, (by decide : 0 + 0 ≤ _), (by decide : 0 + 0 ≤ _)⟩)
  dsimp only [Pt.U, Pt.locs, Pt.cells, Pt.slots] at X1 l1 y1 z1 st1 hQ1
  subst l1 y1 z1
  obtain ⟨rfl, N1q, e1⟩ := hQ1
  have N1 := Fr.app N0 N1q
  obtain ⟨_, _, ⟨T2, L2, k2, n2⟩, -, X2, ⟨Lc2, hQ2, l2, y2, z2⟩, st2⟩ := Jvm.LawKit.callS X1 hx (y := (⟨"com/example/melog/melog/protocol/ApiKeyForIdPinLaw", "expected", "(I)Lcom/example/melog/melog/protocol/ApiKey;"⟩ : MethodName)) hown (mvT hZ (hw _ (List.mem_of_getElem? (i := 7) rfl))) (mvT hZ (hw _ (List.mem_of_getElem? (i := 8) rfl))) (mvT hZ (hw _ (List.mem_of_getElem? (i := 9) rfl))) (mvT hZ (hw _ (List.mem_of_getElem? (i := 10) rfl))) (by decide) (backOf (W := 1) (rm2_9 l Z a0 hw [] w_PRODUCE w_METADATA w_LIST_OFFSETS w_JOIN_GROUP w_OFFSET_COMMIT w_FETCH w_FIND_COORDINATOR w_CREATE_TOPICS w_SYNC_GROUP w_OFFSET_FETCH w_HEARTBEAT w_LEAVE_GROUP w_API_VERSIONS w_BY_ID cl_w_BY_ID h0 n0 Z0 HW) hZ (hw _ (List.mem_of_getElem? (i := 10) rfl)) (hw _ (List.mem_of_getElem? (i := 9) rfl)) (by decide) (by decide)) (g := (mkF m 10 #[.val (.int p1), .val (.int (1 : Int32)), .val (.ref w_FETCH)] [(.int (1 : Int32)), (.ref w_FETCH)])) rfl (by rw [hml]; rfl) (argsL := [(.int (1 : Int32))]) (rest := [(.ref w_FETCH)]) (lenOf pd51 rfl) rfl (by show 2 * 0 + _ ≤ _; exact Nat.le_of_eq rfl) (hb hby at_10) (fun _ _ => ⟨rfl, e1, (by decide : 0 + 0 ≤ _), (by decide : 0 + 0 ≤ _)⟩)
  dsimp only [Pt.U, Pt.locs, Pt.cells, Pt.slots] at X2 l2 y2 z2 st2 hQ2
  subst l2 y2 z2
  obtain ⟨rfl, N2q, e2⟩ := hQ2
  have N2 := Fr.app N1 N2q
  obtain ⟨fs, hr, hrun, hended, hW, hsame⟩ := X2.leave (v := some (.int (1 : Int32))) (fun h => by rw [Bd.returns] at h; cases h)
  refine ⟨_, _, pre0 _ ?_, hrun, hended, _, _, rfl, ?_, ⟨_, rfl⟩, hW, hsame.mono (by decide) (by decide)⟩
  · show Steps p.tables e below (s₁.setTop (mkF m 0 #[.val (.int p1), .unset, .unset] [])) _
    refine XS.iloadN X0.here hx rfl (hb hby at_0) rfl ?_
    show Steps p.tables e below (s₁.setTop (mkF m 1 #[.val (.int p1), .unset, .unset] [(.int p1)])) _
    refine XS.i2s X0.here hx rfl (hb hby at_1) rfl ?_
    rw [hk]
    show Steps p.tables e below (s₁.setTop (mkF m 2 #[.val (.int p1), .unset, .unset] [(.int (1 : Int32))])) _
    refine XS.istoreN X0.here hx rfl (hb hby at_2) rfl (l' := #[.val (.int p1), .val (.int (1 : Int32)), .unset]) rfl ?_
    show Steps p.tables e below (s₁.setTop (mkF m 3 #[.val (.int p1), .val (.int (1 : Int32)), .unset] [])) _
    refine XS.iloadN X0.here hx rfl (hb hby at_3) rfl ?_
    show Steps p.tables e below (s₁.setTop (mkF m 4 #[.val (.int p1), .val (.int (1 : Int32)), .unset] [(.int (1 : Int32))])) _
    refine st1 _ ?_
    show Steps p.tables e below (T1.setTop (mkF m 7 #[.val (.int p1), .val (.int (1 : Int32)), .unset] [(.ref w_FETCH)])) _
    refine XS.astoreN X1.here hx rfl (hb hby at_7) rfl rfl (l' := #[.val (.int p1), .val (.int (1 : Int32)), .val (.ref w_FETCH)]) rfl ?_
    show Steps p.tables e below (T1.setTop (mkF m 8 #[.val (.int p1), .val (.int (1 : Int32)), .val (.ref w_FETCH)] [])) _
    refine XS.aloadN X1.here hx rfl (hb hby at_8) rfl rfl ?_
    show Steps p.tables e below (T1.setTop (mkF m 9 #[.val (.int p1), .val (.int (1 : Int32)), .val (.ref w_FETCH)] [(.ref w_FETCH)])) _
    refine XS.iloadN X1.here hx rfl (hb hby at_9) rfl ?_
    show Steps p.tables e below (T1.setTop (mkF m 10 #[.val (.int p1), .val (.int (1 : Int32)), .val (.ref w_FETCH)] [(.int (1 : Int32)), (.ref w_FETCH)])) _
    refine st2 _ ?_
    show Steps p.tables e below (T2.setTop (mkF m 13 #[.val (.int p1), .val (.int (1 : Int32)), .val (.ref w_FETCH)] [(.ref w_FETCH), (.ref w_FETCH)])) _
    refine Jvm.RoadKit.acmp (g := (mkF m 13 #[.val (.int p1), .val (.int (1 : Int32)), .val (.ref w_FETCH)] [(.ref w_FETCH), (.ref w_FETCH)])) X2 hx rfl rfl rfl (pc0 := 13) (pc' := 16) (same := true) rfl (hb hby at_13) rfl (decide_eq_true rfl) (by decide) (by decide) ?_
    show Steps p.tables e below (T2.setTop (mkF m 16 #[.val (.int p1), .val (.int (1 : Int32)), .val (.ref w_FETCH)] [])) _
    refine XS.iconst X2.here hx rfl (hb hby at_16) ?_
    show Steps p.tables e below (T2.setTop (mkF m 17 #[.val (.int p1), .val (.int (1 : Int32)), .val (.ref w_FETCH)] [(.int (1 : Int32))])) _
    refine XS.goto X2.here hx rfl (pc0 := 17) (pc' := 21) rfl (hb hby at_17) (by decide) (by decide) ?_
    show Steps p.tables e below (T2.setTop (mkF m 21 #[.val (.int p1), .val (.int (1 : Int32)), .val (.ref w_FETCH)] [(.int (1 : Int32))])) _
    exact retN X2 hx (t := .boolean) Bd.returns (by simp) (hb hby at_21) hr
  · exact ⟨rfl, N2⟩
def Q1_11 (Z : State) (w_PRODUCE : Addr) (w_METADATA : Addr) (w_LIST_OFFSETS : Addr) (w_JOIN_GROUP : Addr) (w_OFFSET_COMMIT : Addr) (w_FETCH : Addr) (w_FIND_COORDINATOR : Addr) (w_CREATE_TOPICS : Addr) (w_SYNC_GROUP : Addr) (w_OFFSET_FETCH : Addr) (w_HEARTBEAT : Addr) (w_LEAVE_GROUP : Addr) (w_API_VERSIONS : Addr) (w_BY_ID : Addr) (cl_w_BY_ID : Cell) (h0 : Heap) (n0 : Nat) (v : Option Value) (h : Heap) (L : List Loc) : Prop := v = some (.ref w_LIST_OFFSETS) ∧ Fr n0 L ∧ h = h0
set_option maxRecDepth 65536 in
set_option maxHeartbeats 40000000 in
theorem rm1_11 (l : Launch) (Z : State) (a0 : Array Value) (hw : ∀ d ∈ tables_1, d.before a0 Z = true) (ws : List Jvm.Cond) (w_PRODUCE : Addr) (w_METADATA : Addr) (w_LIST_OFFSETS : Addr) (w_JOIN_GROUP : Addr) (w_OFFSET_COMMIT : Addr) (w_FETCH : Addr) (w_FIND_COORDINATOR : Addr) (w_CREATE_TOPICS : Addr) (w_SYNC_GROUP : Addr) (w_OFFSET_FETCH : Addr) (w_HEARTBEAT : Addr) (w_LEAVE_GROUP : Addr) (w_API_VERSIONS : Addr) (w_BY_ID : Addr) (cl_w_BY_ID : Cell) (h0 : Heap) (n0 : Nat) (Z0 : n0 ≤ h0.size) (HW : World Z h0 w_PRODUCE w_METADATA w_LIST_OFFSETS w_JOIN_GROUP w_OFFSET_COMMIT w_FETCH w_FIND_COORDINATOR w_CREATE_TOPICS w_SYNC_GROUP w_OFFSET_FETCH w_HEARTBEAT w_LEAVE_GROUP w_API_VERSIONS w_BY_ID cl_w_BY_ID) :
    MetFree l (⟨"com/example/melog/melog/protocol/ApiKey", "forId", "(S)Lcom/example/melog/melog/protocol/ApiKey;"⟩ : MethodName) (head1 (Jvm.Cond.code (⟨"com/example/melog/melog/protocol/ApiKey", "forId", "(S)Lcom/example/melog/melog/protocol/ApiKey;"⟩ : MethodName) prog_9_method_4_code 1 (some (.object "com/example/melog/melog/protocol/ApiKey")) :: ws) ({ frames := 0, cells := 0, slots := 0, locals := 0 } : Room)) (fun a U => a = #[(.int (2 : Int32))] ∧ Z.Warmed39 U.vm ∧ U.heap = h0) (fun _ _ _ _ _ => True) (fun _ U o U' => ∃ v L, o = .returned v ∧ Q1_11 Z w_PRODUCE w_METADATA w_LIST_OFFSETS w_JOIN_GROUP w_OFFSET_COMMIT w_FETCH w_FIND_COORDINATOR w_CREATE_TOPICS w_SYNC_GROUP w_OFFSET_FETCH w_HEARTBEAT w_LEAVE_GROUP w_API_VERSIONS w_BY_ID cl_w_BY_ID h0 n0 v U'.heap L ∧ FrameEnd U o U' L ({ frames := 0, cells := 0, slots := 0, locals := 0 } : Room).cells ({ frames := 0, cells := 0, slots := 0, locals := 0 } : Room).slots) := by
  refine MetFree.of_bodySF (plainFor_of_name pn6) hisR ?_
  intro p e s m args below meth c s₁ Bd hml0 hP hK
  obtain ⟨rfl, hZ, hh⟩ := hP
  have hx := Bd.exec
  have hby := Bd.bytes
  have hml : c.maxLocals = 1 := hml0
  have hown : s.vm.findClass "com/example/melog/melog/protocol/ApiKey" = some m.cls := findClass_of_methodNamed Bd.named
  have X0 : Stand p l e ({ frames := 0, cells := 0, slots := 0, locals := 0 } : Room) s m #[(.int (2 : Int32))] below meth c s₁ [] 0 0 := Stand.of_body Bd
  have e0 : s₁.heap = h0 := by rw [← hh, Bd.state]; rfl
  have N0 := Fr.nil n0
  have pre0 : ∀ t, Steps p.tables e below (s₁.setTop (mkF m 0 #[.val (.int (2 : Int32))] [])) t → Steps p.tables e below (s₁.setTop (entryFrame m #[(.int (2 : Int32))] 1)) t := fun t k => castTop (ef5 m (2 : Int32)) k
  obtain ⟨S_w_PRODUCE, E_w_PRODUCE, S_w_METADATA, E_w_METADATA, S_w_LIST_OFFSETS, E_w_LIST_OFFSETS, S_w_JOIN_GROUP, E_w_JOIN_GROUP, S_w_OFFSET_COMMIT, E_w_OFFSET_COMMIT, S_w_FETCH, E_w_FETCH, S_w_FIND_COORDINATOR, E_w_FIND_COORDINATOR, S_w_CREATE_TOPICS, E_w_CREATE_TOPICS, S_w_SYNC_GROUP, E_w_SYNC_GROUP, S_w_OFFSET_FETCH, E_w_OFFSET_FETCH, S_w_HEARTBEAT, E_w_HEARTBEAT, S_w_LEAVE_GROUP, E_w_LEAVE_GROUP, S_w_API_VERSIONS, E_w_API_VERSIONS, S_w_BY_ID, Ar_w_BY_ID, Sz_w_BY_ID, At_w_BY_ID_0, At_w_BY_ID_3, At_w_BY_ID_7, At_w_BY_ID_2, At_w_BY_ID_11, At_w_BY_ID_8, At_w_BY_ID_1, At_w_BY_ID_10, At_w_BY_ID_16, At_w_BY_ID_19, At_w_BY_ID_15, At_w_BY_ID_14, At_w_BY_ID_6, At_w_BY_ID_9, At_w_BY_ID_12, At_w_BY_ID_17, At_w_BY_ID_13, At_w_BY_ID_5, At_w_BY_ID_18, At_w_BY_ID_4, -⟩ := id HW
  obtain ⟨T1, X1, e1, st1⟩ := getS2 X0 hx hZ hown (host := "") (Or.inl (hw _ (List.mem_of_getElem? (i := 4) rfl))) Via.refl e0 S_w_BY_ID (g := (mkF m 5 #[.val (.int (2 : Int32))] [(.int (2 : Int32))])) rfl (hb hby d1_5)
  obtain ⟨T2, X2, e2, st2⟩ := getS2 X1 hx hZ hown (host := "") (Or.inl (hw _ (List.mem_of_getElem? (i := 4) rfl))) Via.refl e1 S_w_BY_ID (g := (mkF m 12 #[.val (.int (2 : Int32))] [])) rfl (hb hby d1_12)
  obtain ⟨fs, hr, hrun, hended, hW, hsame⟩ := X2.leave (v := some (.ref w_LIST_OFFSETS)) (fun h => by rw [Bd.returns] at h; cases h)
  refine ⟨_, _, pre0 _ ?_, hrun, hended, _, _, rfl, ?_, ⟨_, rfl⟩, hW, hsame.mono (by decide) (by decide)⟩
  · show Steps p.tables e below (s₁.setTop (mkF m 0 #[.val (.int (2 : Int32))] [])) _
    refine XS.iloadN X0.here hx rfl (hb hby d1_0) rfl ?_
    show Steps p.tables e below (s₁.setTop (mkF m 1 #[.val (.int (2 : Int32))] [(.int (2 : Int32))])) _
    refine XS.ifNo X0.here hx rfl (hb hby d1_1) rfl ((if0 _ _).trans (flt (by decide : ¬ ((2 : Int32) < (0 : Int32)))).1) ?_
    show Steps p.tables e below (s₁.setTop (mkF m 4 #[.val (.int (2 : Int32))] [])) _
    refine XS.iloadN X0.here hx rfl (hb hby d1_4) rfl ?_
    show Steps p.tables e below (s₁.setTop (mkF m 5 #[.val (.int (2 : Int32))] [(.int (2 : Int32))])) _
    refine st1 _ ?_
    show Steps p.tables e below (T1.setTop (mkF m 8 #[.val (.int (2 : Int32))] [(.ref w_BY_ID), (.int (2 : Int32))])) _
    refine X1.arraylength hx (by rw [e1]; exact Ar_w_BY_ID.1) (State.isArrayOf_alike hZ.alike Ar_w_BY_ID.2.1) (g := (mkF m 8 #[.val (.int (2 : Int32))] [(.ref w_BY_ID), (.int (2 : Int32))])) rfl rfl (hb hby d1_8) _ ?_
    rw [Sz_w_BY_ID]
    show Steps p.tables e below (T1.setTop (mkF m 9 #[.val (.int (2 : Int32))] [(.int (20 : Int32)), (.int (2 : Int32))])) _
    refine XS.icmpNo X1.here hx rfl (hb hby d1_9) rfl (tlt (by decide : (2 : Int32) < (20 : Int32))).2.1 ?_
    show Steps p.tables e below (T1.setTop (mkF m 12 #[.val (.int (2 : Int32))] [])) _
    refine st2 _ ?_
    show Steps p.tables e below (T2.setTop (mkF m 15 #[.val (.int (2 : Int32))] [(.ref w_BY_ID)])) _
    refine XS.iloadN X2.here hx rfl (hb hby d1_15) rfl ?_
    show Steps p.tables e below (T2.setTop (mkF m 16 #[.val (.int (2 : Int32))] [(.int (2 : Int32)), (.ref w_BY_ID)])) _
    refine X2.aaload hx (j := (2 : Int32)) (v := (.ref w_LIST_OFFSETS)) (by rw [e2]; exact Ar_w_BY_ID.1) (State.isArrayOf_alike hZ.alike Ar_w_BY_ID.2.1) rfl Ar_w_BY_ID.2.2 At_w_BY_ID_2.1 At_w_BY_ID_2.2 (g := (mkF m 16 #[.val (.int (2 : Int32))] [(.int (2 : Int32)), (.ref w_BY_ID)])) rfl rfl (hb hby d1_16) _ ?_
    show Steps p.tables e below (T2.setTop (mkF m 17 #[.val (.int (2 : Int32))] [(.ref w_LIST_OFFSETS)])) _
    refine XS.goto X2.here hx rfl (pc0 := 17) (pc' := 21) rfl (hb hby d1_17) (by decide) (by decide) ?_
    show Steps p.tables e below (T2.setTop (mkF m 21 #[.val (.int (2 : Int32))] [(.ref w_LIST_OFFSETS)])) _
    jvm_step X2.here [X2.here.top, hx, (hb hby d1_21), X2.method', Bd.returns, Value.isRef, FieldType.isReference]
    first | (intro acts; rw [hr _ acts rfl rfl rfl]) | rw [hr _ _ rfl rfl rfl]
    exact Steps.refl _
  · exact ⟨rfl, N0, e2⟩
theorem d2_22 : decode method_2_code 22 = .ok (.getstatic 16, 3) := by decide +kernel
theorem d2_25 : decode method_2_code 25 = .ok (.areturn, 1) := by decide +kernel
def Q2_12 (Z : State) (w_PRODUCE : Addr) (w_METADATA : Addr) (w_LIST_OFFSETS : Addr) (w_JOIN_GROUP : Addr) (w_OFFSET_COMMIT : Addr) (w_FETCH : Addr) (w_FIND_COORDINATOR : Addr) (w_CREATE_TOPICS : Addr) (w_SYNC_GROUP : Addr) (w_OFFSET_FETCH : Addr) (w_HEARTBEAT : Addr) (w_LEAVE_GROUP : Addr) (w_API_VERSIONS : Addr) (w_BY_ID : Addr) (cl_w_BY_ID : Cell) (h0 : Heap) (n0 : Nat) (v : Option Value) (h : Heap) (L : List Loc) : Prop := v = some (.ref w_LIST_OFFSETS) ∧ Fr n0 L ∧ h = h0
set_option maxRecDepth 65536 in
set_option maxHeartbeats 40000000 in
theorem rm2_12 (l : Launch) (Z : State) (a0 : Array Value) (hw : ∀ d ∈ tables_1, d.before a0 Z = true) (ws : List Jvm.Cond) (w_PRODUCE : Addr) (w_METADATA : Addr) (w_LIST_OFFSETS : Addr) (w_JOIN_GROUP : Addr) (w_OFFSET_COMMIT : Addr) (w_FETCH : Addr) (w_FIND_COORDINATOR : Addr) (w_CREATE_TOPICS : Addr) (w_SYNC_GROUP : Addr) (w_OFFSET_FETCH : Addr) (w_HEARTBEAT : Addr) (w_LEAVE_GROUP : Addr) (w_API_VERSIONS : Addr) (w_BY_ID : Addr) (cl_w_BY_ID : Cell) (h0 : Heap) (n0 : Nat) (Z0 : n0 ≤ h0.size) (HW : World Z h0 w_PRODUCE w_METADATA w_LIST_OFFSETS w_JOIN_GROUP w_OFFSET_COMMIT w_FETCH w_FIND_COORDINATOR w_CREATE_TOPICS w_SYNC_GROUP w_OFFSET_FETCH w_HEARTBEAT w_LEAVE_GROUP w_API_VERSIONS w_BY_ID cl_w_BY_ID) :
    MetFree l (⟨"com/example/melog/melog/protocol/ApiKeyForIdPinLaw", "expected", "(I)Lcom/example/melog/melog/protocol/ApiKey;"⟩ : MethodName) (head1 (Jvm.Cond.code (⟨"com/example/melog/melog/protocol/ApiKeyForIdPinLaw", "expected", "(I)Lcom/example/melog/melog/protocol/ApiKey;"⟩ : MethodName) method_2_code 1 (some (.object "com/example/melog/melog/protocol/ApiKey")) :: ws) ({ frames := 0, cells := 0, slots := 0, locals := 0 } : Room)) (fun a U => a = #[(.int (2 : Int32))] ∧ Z.Warmed39 U.vm ∧ U.heap = h0) (fun _ _ _ _ _ => True) (fun _ U o U' => ∃ v L, o = .returned v ∧ Q2_12 Z w_PRODUCE w_METADATA w_LIST_OFFSETS w_JOIN_GROUP w_OFFSET_COMMIT w_FETCH w_FIND_COORDINATOR w_CREATE_TOPICS w_SYNC_GROUP w_OFFSET_FETCH w_HEARTBEAT w_LEAVE_GROUP w_API_VERSIONS w_BY_ID cl_w_BY_ID h0 n0 v U'.heap L ∧ FrameEnd U o U' L ({ frames := 0, cells := 0, slots := 0, locals := 0 } : Room).cells ({ frames := 0, cells := 0, slots := 0, locals := 0 } : Room).slots) := by
  refine MetFree.of_bodySF (plainFor_of_name pn50) hisR ?_
  intro p e s m args below meth c s₁ Bd hml0 hP hK
  obtain ⟨rfl, hZ, hh⟩ := hP
  have hx := Bd.exec
  have hby := Bd.bytes
  have hml : c.maxLocals = 1 := hml0
  have hown : s.vm.findClass "com/example/melog/melog/protocol/ApiKeyForIdPinLaw" = some m.cls := findClass_of_methodNamed Bd.named
  have X0 : Stand p l e ({ frames := 0, cells := 0, slots := 0, locals := 0 } : Room) s m #[(.int (2 : Int32))] below meth c s₁ [] 0 0 := Stand.of_body Bd
  have e0 : s₁.heap = h0 := by rw [← hh, Bd.state]; rfl
  have N0 := Fr.nil n0
  have pre0 : ∀ t, Steps p.tables e below (s₁.setTop (mkF m 0 #[.val (.int (2 : Int32))] [])) t → Steps p.tables e below (s₁.setTop (entryFrame m #[(.int (2 : Int32))] 1)) t := fun t k => castTop (ef49 m (2 : Int32)) k
  obtain ⟨S_w_PRODUCE, E_w_PRODUCE, S_w_METADATA, E_w_METADATA, S_w_LIST_OFFSETS, E_w_LIST_OFFSETS, S_w_JOIN_GROUP, E_w_JOIN_GROUP, S_w_OFFSET_COMMIT, E_w_OFFSET_COMMIT, S_w_FETCH, E_w_FETCH, S_w_FIND_COORDINATOR, E_w_FIND_COORDINATOR, S_w_CREATE_TOPICS, E_w_CREATE_TOPICS, S_w_SYNC_GROUP, E_w_SYNC_GROUP, S_w_OFFSET_FETCH, E_w_OFFSET_FETCH, S_w_HEARTBEAT, E_w_HEARTBEAT, S_w_LEAVE_GROUP, E_w_LEAVE_GROUP, S_w_API_VERSIONS, E_w_API_VERSIONS, S_w_BY_ID, Ar_w_BY_ID, Sz_w_BY_ID, At_w_BY_ID_0, At_w_BY_ID_3, At_w_BY_ID_7, At_w_BY_ID_2, At_w_BY_ID_11, At_w_BY_ID_8, At_w_BY_ID_1, At_w_BY_ID_10, At_w_BY_ID_16, At_w_BY_ID_19, At_w_BY_ID_15, At_w_BY_ID_14, At_w_BY_ID_6, At_w_BY_ID_9, At_w_BY_ID_12, At_w_BY_ID_17, At_w_BY_ID_13, At_w_BY_ID_5, At_w_BY_ID_18, At_w_BY_ID_4, -⟩ := id HW
  obtain ⟨T1, X1, e1, st1⟩ := getS2 X0 hx hZ hown (host := "") (Or.inl (hw _ (List.mem_of_getElem? (i := 15) rfl))) Via.refl e0 S_w_LIST_OFFSETS (g := (mkF m 22 #[.val (.int (2 : Int32))] [])) rfl (hb hby d2_22)
  obtain ⟨fs, hr, hrun, hended, hW, hsame⟩ := X1.leave (v := some (.ref w_LIST_OFFSETS)) (fun h => by rw [Bd.returns] at h; cases h)
  refine ⟨_, _, pre0 _ ?_, hrun, hended, _, _, rfl, ?_, ⟨_, rfl⟩, hW, hsame.mono (by decide) (by decide)⟩
  · show Steps p.tables e below (s₁.setTop (mkF m 0 #[.val (.int (2 : Int32))] [])) _
    refine XS.iloadN X0.here hx rfl (hb hby d2_0) rfl ?_
    show Steps p.tables e below (s₁.setTop (mkF m 1 #[.val (.int (2 : Int32))] [(.int (2 : Int32))])) _
    refine XS.ifYes X0.here hx rfl (pc0 := 1) (pc' := 8) rfl (hb hby d2_1) rfl ((if0 _ _).trans (feq (by decide : ¬ ((2 : Int32) = (0 : Int32)))).2) (by decide) (by decide) ?_
    show Steps p.tables e below (s₁.setTop (mkF m 8 #[.val (.int (2 : Int32))] [])) _
    refine XS.iloadN X0.here hx rfl (hb hby d2_8) rfl ?_
    show Steps p.tables e below (s₁.setTop (mkF m 9 #[.val (.int (2 : Int32))] [(.int (2 : Int32))])) _
    refine XS.iconst X0.here hx rfl (hb hby d2_9) ?_
    show Steps p.tables e below (s₁.setTop (mkF m 10 #[.val (.int (2 : Int32))] [(.int (1 : Int32)), (.int (2 : Int32))])) _
    refine XS.icmpYes X0.here hx rfl (pc0 := 10) (pc' := 17) rfl (hb hby d2_10) rfl (feq (by decide : ¬ ((2 : Int32) = (1 : Int32)))).2 (by decide) (by decide) ?_
    show Steps p.tables e below (s₁.setTop (mkF m 17 #[.val (.int (2 : Int32))] [])) _
    refine XS.iloadN X0.here hx rfl (hb hby d2_17) rfl ?_
    show Steps p.tables e below (s₁.setTop (mkF m 18 #[.val (.int (2 : Int32))] [(.int (2 : Int32))])) _
    refine XS.iconst X0.here hx rfl (hb hby d2_18) ?_
    show Steps p.tables e below (s₁.setTop (mkF m 19 #[.val (.int (2 : Int32))] [(.int (2 : Int32)), (.int (2 : Int32))])) _
    refine XS.icmpNo X0.here hx rfl (hb hby d2_19) rfl (teq (by decide : (2 : Int32) = (2 : Int32))).2 ?_
    show Steps p.tables e below (s₁.setTop (mkF m 22 #[.val (.int (2 : Int32))] [])) _
    refine st1 _ ?_
    show Steps p.tables e below (T1.setTop (mkF m 25 #[.val (.int (2 : Int32))] [(.ref w_LIST_OFFSETS)])) _
    jvm_step X1.here [X1.here.top, hx, (hb hby d2_25), X1.method', Bd.returns, Value.isRef, FieldType.isReference]
    first | (intro acts; rw [hr _ acts rfl rfl rfl]) | rw [hr _ _ rfl rfl rfl]
    exact Steps.refl _
  · exact ⟨rfl, N0, e1⟩
set_option maxRecDepth 65536 in
set_option maxHeartbeats 40000000 in
theorem rm0_c2 (l : Launch) (Z : State) (a0 : Array Value) (hw : ∀ d ∈ tables_1, d.before a0 Z = true) (ws : List Jvm.Cond) (w_PRODUCE : Addr) (w_METADATA : Addr) (w_LIST_OFFSETS : Addr) (w_JOIN_GROUP : Addr) (w_OFFSET_COMMIT : Addr) (w_FETCH : Addr) (w_FIND_COORDINATOR : Addr) (w_CREATE_TOPICS : Addr) (w_SYNC_GROUP : Addr) (w_OFFSET_FETCH : Addr) (w_HEARTBEAT : Addr) (w_LEAVE_GROUP : Addr) (w_API_VERSIONS : Addr) (w_BY_ID : Addr) (cl_w_BY_ID : Cell) (p1 : Int32) (h0 : Heap) (n0 : Nat) (Z0 : n0 ≤ h0.size) (HW : World Z h0 w_PRODUCE w_METADATA w_LIST_OFFSETS w_JOIN_GROUP w_OFFSET_COMMIT w_FETCH w_FIND_COORDINATOR w_CREATE_TOPICS w_SYNC_GROUP w_OFFSET_FETCH w_HEARTBEAT w_LEAVE_GROUP w_API_VERSIONS w_BY_ID cl_w_BY_ID) (hk : (p1.toInt16.toInt32) = (2 : Int32)) :
    MetFree l x (head1 (Jvm.Cond.code x code maxLocals ret :: ws) room_1) (fun a U => a = #[(.int p1)] ∧ Z.Warmed39 U.vm ∧ U.heap = h0) (fun _ _ _ _ _ => True) (fun _ U o U' => ∃ v L, o = .returned v ∧ Q0 h0 n0 v U'.heap L ∧ FrameEnd U o U' L room_1.cells room_1.slots) := by
  refine MetFree.of_bodySF (plainFor_of_name pn50) hisR ?_
  intro p e s m args below meth c s₁ Bd hml0 hP hK
  obtain ⟨rfl, hZ, hh⟩ := hP
  have hx := Bd.exec
  have hby := Bd.bytes
  have hml : c.maxLocals = 3 := hml0
  have hown : s.vm.findClass "com/example/melog/melog/protocol/ApiKeyForIdPinLaw" = some m.cls := findClass_of_methodNamed Bd.named
  have X0 : Stand p l e room_1 s m #[(.int p1)] below meth c s₁ [] 0 0 := Stand.of_body Bd
  have e0 : s₁.heap = h0 := by rw [← hh, Bd.state]; rfl
  have N0 := Fr.nil n0
  have pre0 : ∀ t, Steps p.tables e below (s₁.setTop (mkF m 0 #[.val (.int p1), .unset, .unset] [])) t → Steps p.tables e below (s₁.setTop (entryFrame m #[(.int p1)] maxLocals)) t := fun t k => castTop (ef53 m p1) k
  obtain ⟨S_w_PRODUCE, E_w_PRODUCE, S_w_METADATA, E_w_METADATA, S_w_LIST_OFFSETS, E_w_LIST_OFFSETS, S_w_JOIN_GROUP, E_w_JOIN_GROUP, S_w_OFFSET_COMMIT, E_w_OFFSET_COMMIT, S_w_FETCH, E_w_FETCH, S_w_FIND_COORDINATOR, E_w_FIND_COORDINATOR, S_w_CREATE_TOPICS, E_w_CREATE_TOPICS, S_w_SYNC_GROUP, E_w_SYNC_GROUP, S_w_OFFSET_FETCH, E_w_OFFSET_FETCH, S_w_HEARTBEAT, E_w_HEARTBEAT, S_w_LEAVE_GROUP, E_w_LEAVE_GROUP, S_w_API_VERSIONS, E_w_API_VERSIONS, S_w_BY_ID, Ar_w_BY_ID, Sz_w_BY_ID, At_w_BY_ID_0, At_w_BY_ID_3, At_w_BY_ID_7, At_w_BY_ID_2, At_w_BY_ID_11, At_w_BY_ID_8, At_w_BY_ID_1, At_w_BY_ID_10, At_w_BY_ID_16, At_w_BY_ID_19, At_w_BY_ID_15, At_w_BY_ID_14, At_w_BY_ID_6, At_w_BY_ID_9, At_w_BY_ID_12, At_w_BY_ID_17, At_w_BY_ID_13, At_w_BY_ID_5, At_w_BY_ID_18, At_w_BY_ID_4, -⟩ := id HW
  obtain ⟨_, _, ⟨T1, L1, k1, n1⟩, -, X1, ⟨Lc1, hQ1, l1, y1, z1⟩, st1⟩ := Jvm.LawKit.callS X0 hx (y := (⟨"com/example/melog/melog/protocol/ApiKey", "forId", "(S)Lcom/example/melog/melog/protocol/ApiKey;"⟩ : MethodName)) hown (mvT hZ (hw _ (List.mem_of_getElem? (i := 0) rfl))) (mvT hZ (hw _ (List.mem_of_getElem? (i := 1) rfl))) (mvT hZ (hw _ (List.mem_of_getElem? (i := 2) rfl))) (mvT hZ (hw _ (List.mem_of_getElem? (i := 3) rfl))) (by decide) (backOf (W := 0) (rm1_11 l Z a0 hw [] w_PRODUCE w_METADATA w_LIST_OFFSETS w_JOIN_GROUP w_OFFSET_COMMIT w_FETCH w_FIND_COORDINATOR w_CREATE_TOPICS w_SYNC_GROUP w_OFFSET_FETCH w_HEARTBEAT w_LEAVE_GROUP w_API_VERSIONS w_BY_ID cl_w_BY_ID h0 n0 Z0 HW) hZ (hw _ (List.mem_of_getElem? (i := 3) rfl)) (hw _ (List.mem_of_getElem? (i := 2) rfl)) (by decide) (by decide)) (g := (mkF m 4 #[.val (.int p1), .val (.int (2 : Int32)), .unset] [(.int (2 : Int32))])) rfl (by rw [hml]; rfl) (argsL := [(.int (2 : Int32))]) (rest := []) (lenOf pd7 rfl) rfl (by show 2 * 0 + _ ≤ _; exact Nat.le_of_eq rfl) (hb hby at_4) (fun _ _ => ⟨rfl, e0, (by decide : 0 + 0 ≤ _), (by decide : 0 + 0 ≤ _)⟩)
  dsimp only [Pt.U, Pt.locs, Pt.cells, Pt.slots] at X1 l1 y1 z1 st1 hQ1
  subst l1 y1 z1
  obtain ⟨rfl, N1q, e1⟩ := hQ1
  have N1 := Fr.app N0 N1q
  obtain ⟨_, _, ⟨T2, L2, k2, n2⟩, -, X2, ⟨Lc2, hQ2, l2, y2, z2⟩, st2⟩ := Jvm.LawKit.callS X1 hx (y := (⟨"com/example/melog/melog/protocol/ApiKeyForIdPinLaw", "expected", "(I)Lcom/example/melog/melog/protocol/ApiKey;"⟩ : MethodName)) hown (mvT hZ (hw _ (List.mem_of_getElem? (i := 7) rfl))) (mvT hZ (hw _ (List.mem_of_getElem? (i := 8) rfl))) (mvT hZ (hw _ (List.mem_of_getElem? (i := 9) rfl))) (mvT hZ (hw _ (List.mem_of_getElem? (i := 10) rfl))) (by decide) (backOf (W := 1) (rm2_12 l Z a0 hw [] w_PRODUCE w_METADATA w_LIST_OFFSETS w_JOIN_GROUP w_OFFSET_COMMIT w_FETCH w_FIND_COORDINATOR w_CREATE_TOPICS w_SYNC_GROUP w_OFFSET_FETCH w_HEARTBEAT w_LEAVE_GROUP w_API_VERSIONS w_BY_ID cl_w_BY_ID h0 n0 Z0 HW) hZ (hw _ (List.mem_of_getElem? (i := 10) rfl)) (hw _ (List.mem_of_getElem? (i := 9) rfl)) (by decide) (by decide)) (g := (mkF m 10 #[.val (.int p1), .val (.int (2 : Int32)), .val (.ref w_LIST_OFFSETS)] [(.int (2 : Int32)), (.ref w_LIST_OFFSETS)])) rfl (by rw [hml]; rfl) (argsL := [(.int (2 : Int32))]) (rest := [(.ref w_LIST_OFFSETS)]) (lenOf pd51 rfl) rfl (by show 2 * 0 + _ ≤ _; exact Nat.le_of_eq rfl) (hb hby at_10) (fun _ _ => ⟨rfl, e1, (by decide : 0 + 0 ≤ _), (by decide : 0 + 0 ≤ _)⟩)
  dsimp only [Pt.U, Pt.locs, Pt.cells, Pt.slots] at X2 l2 y2 z2 st2 hQ2
  subst l2 y2 z2
  obtain ⟨rfl, N2q, e2⟩ := hQ2
  have N2 := Fr.app N1 N2q
  obtain ⟨fs, hr, hrun, hended, hW, hsame⟩ := X2.leave (v := some (.int (1 : Int32))) (fun h => by rw [Bd.returns] at h; cases h)
  refine ⟨_, _, pre0 _ ?_, hrun, hended, _, _, rfl, ?_, ⟨_, rfl⟩, hW, hsame.mono (by decide) (by decide)⟩
  · show Steps p.tables e below (s₁.setTop (mkF m 0 #[.val (.int p1), .unset, .unset] [])) _
    refine XS.iloadN X0.here hx rfl (hb hby at_0) rfl ?_
    show Steps p.tables e below (s₁.setTop (mkF m 1 #[.val (.int p1), .unset, .unset] [(.int p1)])) _
    refine XS.i2s X0.here hx rfl (hb hby at_1) rfl ?_
    rw [hk]
    show Steps p.tables e below (s₁.setTop (mkF m 2 #[.val (.int p1), .unset, .unset] [(.int (2 : Int32))])) _
    refine XS.istoreN X0.here hx rfl (hb hby at_2) rfl (l' := #[.val (.int p1), .val (.int (2 : Int32)), .unset]) rfl ?_
    show Steps p.tables e below (s₁.setTop (mkF m 3 #[.val (.int p1), .val (.int (2 : Int32)), .unset] [])) _
    refine XS.iloadN X0.here hx rfl (hb hby at_3) rfl ?_
    show Steps p.tables e below (s₁.setTop (mkF m 4 #[.val (.int p1), .val (.int (2 : Int32)), .unset] [(.int (2 : Int32))])) _
    refine st1 _ ?_
    show Steps p.tables e below (T1.setTop (mkF m 7 #[.val (.int p1), .val (.int (2 : Int32)), .unset] [(.ref w_LIST_OFFSETS)])) _
    refine XS.astoreN X1.here hx rfl (hb hby at_7) rfl rfl (l' := #[.val (.int p1), .val (.int (2 : Int32)), .val (.ref w_LIST_OFFSETS)]) rfl ?_
    show Steps p.tables e below (T1.setTop (mkF m 8 #[.val (.int p1), .val (.int (2 : Int32)), .val (.ref w_LIST_OFFSETS)] [])) _
    refine XS.aloadN X1.here hx rfl (hb hby at_8) rfl rfl ?_
    show Steps p.tables e below (T1.setTop (mkF m 9 #[.val (.int p1), .val (.int (2 : Int32)), .val (.ref w_LIST_OFFSETS)] [(.ref w_LIST_OFFSETS)])) _
    refine XS.iloadN X1.here hx rfl (hb hby at_9) rfl ?_
    show Steps p.tables e below (T1.setTop (mkF m 10 #[.val (.int p1), .val (.int (2 : Int32)), .val (.ref w_LIST_OFFSETS)] [(.int (2 : Int32)), (.ref w_LIST_OFFSETS)])) _
    refine st2 _ ?_
    show Steps p.tables e below (T2.setTop (mkF m 13 #[.val (.int p1), .val (.int (2 : Int32)), .val (.ref w_LIST_OFFSETS)] [(.ref w_LIST_OFFSETS), (.ref w_LIST_OFFSETS)])) _
    refine Jvm.RoadKit.acmp (g := (mkF m 13 #[.val (.int p1), .val (.int (2 : Int32)), .val (.ref w_LIST_OFFSETS)] [(.ref w_LIST_OFFSETS), (.ref w_LIST_OFFSETS)])) X2 hx rfl rfl rfl (pc0 := 13) (pc' := 16) (same := true) rfl (hb hby at_13) rfl (decide_eq_true rfl) (by decide) (by decide) ?_
    show Steps p.tables e below (T2.setTop (mkF m 16 #[.val (.int p1), .val (.int (2 : Int32)), .val (.ref w_LIST_OFFSETS)] [])) _
    refine XS.iconst X2.here hx rfl (hb hby at_16) ?_
    show Steps p.tables e below (T2.setTop (mkF m 17 #[.val (.int p1), .val (.int (2 : Int32)), .val (.ref w_LIST_OFFSETS)] [(.int (1 : Int32))])) _
    refine XS.goto X2.here hx rfl (pc0 := 17) (pc' := 21) rfl (hb hby at_17) (by decide) (by decide) ?_
    show Steps p.tables e below (T2.setTop (mkF m 21 #[.val (.int p1), .val (.int (2 : Int32)), .val (.ref w_LIST_OFFSETS)] [(.int (1 : Int32))])) _
    exact retN X2 hx (t := .boolean) Bd.returns (by simp) (hb hby at_21) hr
  · exact ⟨rfl, N2⟩
def Q1_14 (Z : State) (w_PRODUCE : Addr) (w_METADATA : Addr) (w_LIST_OFFSETS : Addr) (w_JOIN_GROUP : Addr) (w_OFFSET_COMMIT : Addr) (w_FETCH : Addr) (w_FIND_COORDINATOR : Addr) (w_CREATE_TOPICS : Addr) (w_SYNC_GROUP : Addr) (w_OFFSET_FETCH : Addr) (w_HEARTBEAT : Addr) (w_LEAVE_GROUP : Addr) (w_API_VERSIONS : Addr) (w_BY_ID : Addr) (cl_w_BY_ID : Cell) (h0 : Heap) (n0 : Nat) (v : Option Value) (h : Heap) (L : List Loc) : Prop := v = some (.ref w_METADATA) ∧ Fr n0 L ∧ h = h0
set_option maxRecDepth 65536 in
set_option maxHeartbeats 40000000 in
theorem rm1_14 (l : Launch) (Z : State) (a0 : Array Value) (hw : ∀ d ∈ tables_1, d.before a0 Z = true) (ws : List Jvm.Cond) (w_PRODUCE : Addr) (w_METADATA : Addr) (w_LIST_OFFSETS : Addr) (w_JOIN_GROUP : Addr) (w_OFFSET_COMMIT : Addr) (w_FETCH : Addr) (w_FIND_COORDINATOR : Addr) (w_CREATE_TOPICS : Addr) (w_SYNC_GROUP : Addr) (w_OFFSET_FETCH : Addr) (w_HEARTBEAT : Addr) (w_LEAVE_GROUP : Addr) (w_API_VERSIONS : Addr) (w_BY_ID : Addr) (cl_w_BY_ID : Cell) (h0 : Heap) (n0 : Nat) (Z0 : n0 ≤ h0.size) (HW : World Z h0 w_PRODUCE w_METADATA w_LIST_OFFSETS w_JOIN_GROUP w_OFFSET_COMMIT w_FETCH w_FIND_COORDINATOR w_CREATE_TOPICS w_SYNC_GROUP w_OFFSET_FETCH w_HEARTBEAT w_LEAVE_GROUP w_API_VERSIONS w_BY_ID cl_w_BY_ID) :
    MetFree l (⟨"com/example/melog/melog/protocol/ApiKey", "forId", "(S)Lcom/example/melog/melog/protocol/ApiKey;"⟩ : MethodName) (head1 (Jvm.Cond.code (⟨"com/example/melog/melog/protocol/ApiKey", "forId", "(S)Lcom/example/melog/melog/protocol/ApiKey;"⟩ : MethodName) prog_9_method_4_code 1 (some (.object "com/example/melog/melog/protocol/ApiKey")) :: ws) ({ frames := 0, cells := 0, slots := 0, locals := 0 } : Room)) (fun a U => a = #[(.int (3 : Int32))] ∧ Z.Warmed39 U.vm ∧ U.heap = h0) (fun _ _ _ _ _ => True) (fun _ U o U' => ∃ v L, o = .returned v ∧ Q1_14 Z w_PRODUCE w_METADATA w_LIST_OFFSETS w_JOIN_GROUP w_OFFSET_COMMIT w_FETCH w_FIND_COORDINATOR w_CREATE_TOPICS w_SYNC_GROUP w_OFFSET_FETCH w_HEARTBEAT w_LEAVE_GROUP w_API_VERSIONS w_BY_ID cl_w_BY_ID h0 n0 v U'.heap L ∧ FrameEnd U o U' L ({ frames := 0, cells := 0, slots := 0, locals := 0 } : Room).cells ({ frames := 0, cells := 0, slots := 0, locals := 0 } : Room).slots) := by
  refine MetFree.of_bodySF (plainFor_of_name pn6) hisR ?_
  intro p e s m args below meth c s₁ Bd hml0 hP hK
  obtain ⟨rfl, hZ, hh⟩ := hP
  have hx := Bd.exec
  have hby := Bd.bytes
  have hml : c.maxLocals = 1 := hml0
  have hown : s.vm.findClass "com/example/melog/melog/protocol/ApiKey" = some m.cls := findClass_of_methodNamed Bd.named
  have X0 : Stand p l e ({ frames := 0, cells := 0, slots := 0, locals := 0 } : Room) s m #[(.int (3 : Int32))] below meth c s₁ [] 0 0 := Stand.of_body Bd
  have e0 : s₁.heap = h0 := by rw [← hh, Bd.state]; rfl
  have N0 := Fr.nil n0
  have pre0 : ∀ t, Steps p.tables e below (s₁.setTop (mkF m 0 #[.val (.int (3 : Int32))] [])) t → Steps p.tables e below (s₁.setTop (entryFrame m #[(.int (3 : Int32))] 1)) t := fun t k => castTop (ef5 m (3 : Int32)) k
  obtain ⟨S_w_PRODUCE, E_w_PRODUCE, S_w_METADATA, E_w_METADATA, S_w_LIST_OFFSETS, E_w_LIST_OFFSETS, S_w_JOIN_GROUP, E_w_JOIN_GROUP, S_w_OFFSET_COMMIT, E_w_OFFSET_COMMIT, S_w_FETCH, E_w_FETCH, S_w_FIND_COORDINATOR, E_w_FIND_COORDINATOR, S_w_CREATE_TOPICS, E_w_CREATE_TOPICS, S_w_SYNC_GROUP, E_w_SYNC_GROUP, S_w_OFFSET_FETCH, E_w_OFFSET_FETCH, S_w_HEARTBEAT, E_w_HEARTBEAT, S_w_LEAVE_GROUP, E_w_LEAVE_GROUP, S_w_API_VERSIONS, E_w_API_VERSIONS, S_w_BY_ID, Ar_w_BY_ID, Sz_w_BY_ID, At_w_BY_ID_0, At_w_BY_ID_3, At_w_BY_ID_7, At_w_BY_ID_2, At_w_BY_ID_11, At_w_BY_ID_8, At_w_BY_ID_1, At_w_BY_ID_10, At_w_BY_ID_16, At_w_BY_ID_19, At_w_BY_ID_15, At_w_BY_ID_14, At_w_BY_ID_6, At_w_BY_ID_9, At_w_BY_ID_12, At_w_BY_ID_17, At_w_BY_ID_13, At_w_BY_ID_5, At_w_BY_ID_18, At_w_BY_ID_4, -⟩ := id HW
  obtain ⟨T1, X1, e1, st1⟩ := getS2 X0 hx hZ hown (host := "") (Or.inl (hw _ (List.mem_of_getElem? (i := 4) rfl))) Via.refl e0 S_w_BY_ID (g := (mkF m 5 #[.val (.int (3 : Int32))] [(.int (3 : Int32))])) rfl (hb hby d1_5)
  obtain ⟨T2, X2, e2, st2⟩ := getS2 X1 hx hZ hown (host := "") (Or.inl (hw _ (List.mem_of_getElem? (i := 4) rfl))) Via.refl e1 S_w_BY_ID (g := (mkF m 12 #[.val (.int (3 : Int32))] [])) rfl (hb hby d1_12)
  obtain ⟨fs, hr, hrun, hended, hW, hsame⟩ := X2.leave (v := some (.ref w_METADATA)) (fun h => by rw [Bd.returns] at h; cases h)
  refine ⟨_, _, pre0 _ ?_, hrun, hended, _, _, rfl, ?_, ⟨_, rfl⟩, hW, hsame.mono (by decide) (by decide)⟩
  · show Steps p.tables e below (s₁.setTop (mkF m 0 #[.val (.int (3 : Int32))] [])) _
    refine XS.iloadN X0.here hx rfl (hb hby d1_0) rfl ?_
    show Steps p.tables e below (s₁.setTop (mkF m 1 #[.val (.int (3 : Int32))] [(.int (3 : Int32))])) _
    refine XS.ifNo X0.here hx rfl (hb hby d1_1) rfl ((if0 _ _).trans (flt (by decide : ¬ ((3 : Int32) < (0 : Int32)))).1) ?_
    show Steps p.tables e below (s₁.setTop (mkF m 4 #[.val (.int (3 : Int32))] [])) _
    refine XS.iloadN X0.here hx rfl (hb hby d1_4) rfl ?_
    show Steps p.tables e below (s₁.setTop (mkF m 5 #[.val (.int (3 : Int32))] [(.int (3 : Int32))])) _
    refine st1 _ ?_
    show Steps p.tables e below (T1.setTop (mkF m 8 #[.val (.int (3 : Int32))] [(.ref w_BY_ID), (.int (3 : Int32))])) _
    refine X1.arraylength hx (by rw [e1]; exact Ar_w_BY_ID.1) (State.isArrayOf_alike hZ.alike Ar_w_BY_ID.2.1) (g := (mkF m 8 #[.val (.int (3 : Int32))] [(.ref w_BY_ID), (.int (3 : Int32))])) rfl rfl (hb hby d1_8) _ ?_
    rw [Sz_w_BY_ID]
    show Steps p.tables e below (T1.setTop (mkF m 9 #[.val (.int (3 : Int32))] [(.int (20 : Int32)), (.int (3 : Int32))])) _
    refine XS.icmpNo X1.here hx rfl (hb hby d1_9) rfl (tlt (by decide : (3 : Int32) < (20 : Int32))).2.1 ?_
    show Steps p.tables e below (T1.setTop (mkF m 12 #[.val (.int (3 : Int32))] [])) _
    refine st2 _ ?_
    show Steps p.tables e below (T2.setTop (mkF m 15 #[.val (.int (3 : Int32))] [(.ref w_BY_ID)])) _
    refine XS.iloadN X2.here hx rfl (hb hby d1_15) rfl ?_
    show Steps p.tables e below (T2.setTop (mkF m 16 #[.val (.int (3 : Int32))] [(.int (3 : Int32)), (.ref w_BY_ID)])) _
    refine X2.aaload hx (j := (3 : Int32)) (v := (.ref w_METADATA)) (by rw [e2]; exact Ar_w_BY_ID.1) (State.isArrayOf_alike hZ.alike Ar_w_BY_ID.2.1) rfl Ar_w_BY_ID.2.2 At_w_BY_ID_3.1 At_w_BY_ID_3.2 (g := (mkF m 16 #[.val (.int (3 : Int32))] [(.int (3 : Int32)), (.ref w_BY_ID)])) rfl rfl (hb hby d1_16) _ ?_
    show Steps p.tables e below (T2.setTop (mkF m 17 #[.val (.int (3 : Int32))] [(.ref w_METADATA)])) _
    refine XS.goto X2.here hx rfl (pc0 := 17) (pc' := 21) rfl (hb hby d1_17) (by decide) (by decide) ?_
    show Steps p.tables e below (T2.setTop (mkF m 21 #[.val (.int (3 : Int32))] [(.ref w_METADATA)])) _
    jvm_step X2.here [X2.here.top, hx, (hb hby d1_21), X2.method', Bd.returns, Value.isRef, FieldType.isReference]
    first | (intro acts; rw [hr _ acts rfl rfl rfl]) | rw [hr _ _ rfl rfl rfl]
    exact Steps.refl _
  · exact ⟨rfl, N0, e2⟩
theorem d2_31 : decode method_2_code 31 = .ok (.getstatic 19, 3) := by decide +kernel
theorem d2_34 : decode method_2_code 34 = .ok (.areturn, 1) := by decide +kernel
def Q2_15 (Z : State) (w_PRODUCE : Addr) (w_METADATA : Addr) (w_LIST_OFFSETS : Addr) (w_JOIN_GROUP : Addr) (w_OFFSET_COMMIT : Addr) (w_FETCH : Addr) (w_FIND_COORDINATOR : Addr) (w_CREATE_TOPICS : Addr) (w_SYNC_GROUP : Addr) (w_OFFSET_FETCH : Addr) (w_HEARTBEAT : Addr) (w_LEAVE_GROUP : Addr) (w_API_VERSIONS : Addr) (w_BY_ID : Addr) (cl_w_BY_ID : Cell) (h0 : Heap) (n0 : Nat) (v : Option Value) (h : Heap) (L : List Loc) : Prop := v = some (.ref w_METADATA) ∧ Fr n0 L ∧ h = h0
set_option maxRecDepth 65536 in
set_option maxHeartbeats 40000000 in
theorem rm2_15 (l : Launch) (Z : State) (a0 : Array Value) (hw : ∀ d ∈ tables_1, d.before a0 Z = true) (ws : List Jvm.Cond) (w_PRODUCE : Addr) (w_METADATA : Addr) (w_LIST_OFFSETS : Addr) (w_JOIN_GROUP : Addr) (w_OFFSET_COMMIT : Addr) (w_FETCH : Addr) (w_FIND_COORDINATOR : Addr) (w_CREATE_TOPICS : Addr) (w_SYNC_GROUP : Addr) (w_OFFSET_FETCH : Addr) (w_HEARTBEAT : Addr) (w_LEAVE_GROUP : Addr) (w_API_VERSIONS : Addr) (w_BY_ID : Addr) (cl_w_BY_ID : Cell) (h0 : Heap) (n0 : Nat) (Z0 : n0 ≤ h0.size) (HW : World Z h0 w_PRODUCE w_METADATA w_LIST_OFFSETS w_JOIN_GROUP w_OFFSET_COMMIT w_FETCH w_FIND_COORDINATOR w_CREATE_TOPICS w_SYNC_GROUP w_OFFSET_FETCH w_HEARTBEAT w_LEAVE_GROUP w_API_VERSIONS w_BY_ID cl_w_BY_ID) :
    MetFree l (⟨"com/example/melog/melog/protocol/ApiKeyForIdPinLaw", "expected", "(I)Lcom/example/melog/melog/protocol/ApiKey;"⟩ : MethodName) (head1 (Jvm.Cond.code (⟨"com/example/melog/melog/protocol/ApiKeyForIdPinLaw", "expected", "(I)Lcom/example/melog/melog/protocol/ApiKey;"⟩ : MethodName) method_2_code 1 (some (.object "com/example/melog/melog/protocol/ApiKey")) :: ws) ({ frames := 0, cells := 0, slots := 0, locals := 0 } : Room)) (fun a U => a = #[(.int (3 : Int32))] ∧ Z.Warmed39 U.vm ∧ U.heap = h0) (fun _ _ _ _ _ => True) (fun _ U o U' => ∃ v L, o = .returned v ∧ Q2_15 Z w_PRODUCE w_METADATA w_LIST_OFFSETS w_JOIN_GROUP w_OFFSET_COMMIT w_FETCH w_FIND_COORDINATOR w_CREATE_TOPICS w_SYNC_GROUP w_OFFSET_FETCH w_HEARTBEAT w_LEAVE_GROUP w_API_VERSIONS w_BY_ID cl_w_BY_ID h0 n0 v U'.heap L ∧ FrameEnd U o U' L ({ frames := 0, cells := 0, slots := 0, locals := 0 } : Room).cells ({ frames := 0, cells := 0, slots := 0, locals := 0 } : Room).slots) := by
  refine MetFree.of_bodySF (plainFor_of_name pn50) hisR ?_
  intro p e s m args below meth c s₁ Bd hml0 hP hK
  obtain ⟨rfl, hZ, hh⟩ := hP
  have hx := Bd.exec
  have hby := Bd.bytes
  have hml : c.maxLocals = 1 := hml0
  have hown : s.vm.findClass "com/example/melog/melog/protocol/ApiKeyForIdPinLaw" = some m.cls := findClass_of_methodNamed Bd.named
  have X0 : Stand p l e ({ frames := 0, cells := 0, slots := 0, locals := 0 } : Room) s m #[(.int (3 : Int32))] below meth c s₁ [] 0 0 := Stand.of_body Bd
  have e0 : s₁.heap = h0 := by rw [← hh, Bd.state]; rfl
  have N0 := Fr.nil n0
  have pre0 : ∀ t, Steps p.tables e below (s₁.setTop (mkF m 0 #[.val (.int (3 : Int32))] [])) t → Steps p.tables e below (s₁.setTop (entryFrame m #[(.int (3 : Int32))] 1)) t := fun t k => castTop (ef49 m (3 : Int32)) k
  obtain ⟨S_w_PRODUCE, E_w_PRODUCE, S_w_METADATA, E_w_METADATA, S_w_LIST_OFFSETS, E_w_LIST_OFFSETS, S_w_JOIN_GROUP, E_w_JOIN_GROUP, S_w_OFFSET_COMMIT, E_w_OFFSET_COMMIT, S_w_FETCH, E_w_FETCH, S_w_FIND_COORDINATOR, E_w_FIND_COORDINATOR, S_w_CREATE_TOPICS, E_w_CREATE_TOPICS, S_w_SYNC_GROUP, E_w_SYNC_GROUP, S_w_OFFSET_FETCH, E_w_OFFSET_FETCH, S_w_HEARTBEAT, E_w_HEARTBEAT, S_w_LEAVE_GROUP, E_w_LEAVE_GROUP, S_w_API_VERSIONS, E_w_API_VERSIONS, S_w_BY_ID, Ar_w_BY_ID, Sz_w_BY_ID, At_w_BY_ID_0, At_w_BY_ID_3, At_w_BY_ID_7, At_w_BY_ID_2, At_w_BY_ID_11, At_w_BY_ID_8, At_w_BY_ID_1, At_w_BY_ID_10, At_w_BY_ID_16, At_w_BY_ID_19, At_w_BY_ID_15, At_w_BY_ID_14, At_w_BY_ID_6, At_w_BY_ID_9, At_w_BY_ID_12, At_w_BY_ID_17, At_w_BY_ID_13, At_w_BY_ID_5, At_w_BY_ID_18, At_w_BY_ID_4, -⟩ := id HW
  obtain ⟨T1, X1, e1, st1⟩ := getS2 X0 hx hZ hown (host := "") (Or.inl (hw _ (List.mem_of_getElem? (i := 13) rfl))) Via.refl e0 S_w_METADATA (g := (mkF m 31 #[.val (.int (3 : Int32))] [])) rfl (hb hby d2_31)
  obtain ⟨fs, hr, hrun, hended, hW, hsame⟩ := X1.leave (v := some (.ref w_METADATA)) (fun h => by rw [Bd.returns] at h; cases h)
  refine ⟨_, _, pre0 _ ?_, hrun, hended, _, _, rfl, ?_, ⟨_, rfl⟩, hW, hsame.mono (by decide) (by decide)⟩
  · show Steps p.tables e below (s₁.setTop (mkF m 0 #[.val (.int (3 : Int32))] [])) _
    refine XS.iloadN X0.here hx rfl (hb hby d2_0) rfl ?_
    show Steps p.tables e below (s₁.setTop (mkF m 1 #[.val (.int (3 : Int32))] [(.int (3 : Int32))])) _
    refine XS.ifYes X0.here hx rfl (pc0 := 1) (pc' := 8) rfl (hb hby d2_1) rfl ((if0 _ _).trans (feq (by decide : ¬ ((3 : Int32) = (0 : Int32)))).2) (by decide) (by decide) ?_
    show Steps p.tables e below (s₁.setTop (mkF m 8 #[.val (.int (3 : Int32))] [])) _
    refine XS.iloadN X0.here hx rfl (hb hby d2_8) rfl ?_
    show Steps p.tables e below (s₁.setTop (mkF m 9 #[.val (.int (3 : Int32))] [(.int (3 : Int32))])) _
    refine XS.iconst X0.here hx rfl (hb hby d2_9) ?_
    show Steps p.tables e below (s₁.setTop (mkF m 10 #[.val (.int (3 : Int32))] [(.int (1 : Int32)), (.int (3 : Int32))])) _
    refine XS.icmpYes X0.here hx rfl (pc0 := 10) (pc' := 17) rfl (hb hby d2_10) rfl (feq (by decide : ¬ ((3 : Int32) = (1 : Int32)))).2 (by decide) (by decide) ?_
    show Steps p.tables e below (s₁.setTop (mkF m 17 #[.val (.int (3 : Int32))] [])) _
    refine XS.iloadN X0.here hx rfl (hb hby d2_17) rfl ?_
    show Steps p.tables e below (s₁.setTop (mkF m 18 #[.val (.int (3 : Int32))] [(.int (3 : Int32))])) _
    refine XS.iconst X0.here hx rfl (hb hby d2_18) ?_
    show Steps p.tables e below (s₁.setTop (mkF m 19 #[.val (.int (3 : Int32))] [(.int (2 : Int32)), (.int (3 : Int32))])) _
    refine XS.icmpYes X0.here hx rfl (pc0 := 19) (pc' := 26) rfl (hb hby d2_19) rfl (feq (by decide : ¬ ((3 : Int32) = (2 : Int32)))).2 (by decide) (by decide) ?_
    show Steps p.tables e below (s₁.setTop (mkF m 26 #[.val (.int (3 : Int32))] [])) _
    refine XS.iloadN X0.here hx rfl (hb hby d2_26) rfl ?_
    show Steps p.tables e below (s₁.setTop (mkF m 27 #[.val (.int (3 : Int32))] [(.int (3 : Int32))])) _
    refine XS.iconst X0.here hx rfl (hb hby d2_27) ?_
    show Steps p.tables e below (s₁.setTop (mkF m 28 #[.val (.int (3 : Int32))] [(.int (3 : Int32)), (.int (3 : Int32))])) _
    refine XS.icmpNo X0.here hx rfl (hb hby d2_28) rfl (teq (by decide : (3 : Int32) = (3 : Int32))).2 ?_
    show Steps p.tables e below (s₁.setTop (mkF m 31 #[.val (.int (3 : Int32))] [])) _
    refine st1 _ ?_
    show Steps p.tables e below (T1.setTop (mkF m 34 #[.val (.int (3 : Int32))] [(.ref w_METADATA)])) _
    jvm_step X1.here [X1.here.top, hx, (hb hby d2_34), X1.method', Bd.returns, Value.isRef, FieldType.isReference]
    first | (intro acts; rw [hr _ acts rfl rfl rfl]) | rw [hr _ _ rfl rfl rfl]
    exact Steps.refl _
  · exact ⟨rfl, N0, e1⟩
set_option maxRecDepth 65536 in
set_option maxHeartbeats 40000000 in
theorem rm0_c3 (l : Launch) (Z : State) (a0 : Array Value) (hw : ∀ d ∈ tables_1, d.before a0 Z = true) (ws : List Jvm.Cond) (w_PRODUCE : Addr) (w_METADATA : Addr) (w_LIST_OFFSETS : Addr) (w_JOIN_GROUP : Addr) (w_OFFSET_COMMIT : Addr) (w_FETCH : Addr) (w_FIND_COORDINATOR : Addr) (w_CREATE_TOPICS : Addr) (w_SYNC_GROUP : Addr) (w_OFFSET_FETCH : Addr) (w_HEARTBEAT : Addr) (w_LEAVE_GROUP : Addr) (w_API_VERSIONS : Addr) (w_BY_ID : Addr) (cl_w_BY_ID : Cell) (p1 : Int32) (h0 : Heap) (n0 : Nat) (Z0 : n0 ≤ h0.size) (HW : World Z h0 w_PRODUCE w_METADATA w_LIST_OFFSETS w_JOIN_GROUP w_OFFSET_COMMIT w_FETCH w_FIND_COORDINATOR w_CREATE_TOPICS w_SYNC_GROUP w_OFFSET_FETCH w_HEARTBEAT w_LEAVE_GROUP w_API_VERSIONS w_BY_ID cl_w_BY_ID) (hk : (p1.toInt16.toInt32) = (3 : Int32)) :
    MetFree l x (head1 (Jvm.Cond.code x code maxLocals ret :: ws) room_1) (fun a U => a = #[(.int p1)] ∧ Z.Warmed39 U.vm ∧ U.heap = h0) (fun _ _ _ _ _ => True) (fun _ U o U' => ∃ v L, o = .returned v ∧ Q0 h0 n0 v U'.heap L ∧ FrameEnd U o U' L room_1.cells room_1.slots) := by
  refine MetFree.of_bodySF (plainFor_of_name pn50) hisR ?_
  intro p e s m args below meth c s₁ Bd hml0 hP hK
  obtain ⟨rfl, hZ, hh⟩ := hP
  have hx := Bd.exec
  have hby := Bd.bytes
  have hml : c.maxLocals = 3 := hml0
  have hown : s.vm.findClass "com/example/melog/melog/protocol/ApiKeyForIdPinLaw" = some m.cls := findClass_of_methodNamed Bd.named
  have X0 : Stand p l e room_1 s m #[(.int p1)] below meth c s₁ [] 0 0 := Stand.of_body Bd
  have e0 : s₁.heap = h0 := by rw [← hh, Bd.state]; rfl
  have N0 := Fr.nil n0
  have pre0 : ∀ t, Steps p.tables e below (s₁.setTop (mkF m 0 #[.val (.int p1), .unset, .unset] [])) t → Steps p.tables e below (s₁.setTop (entryFrame m #[(.int p1)] maxLocals)) t := fun t k => castTop (ef53 m p1) k
  obtain ⟨S_w_PRODUCE, E_w_PRODUCE, S_w_METADATA, E_w_METADATA, S_w_LIST_OFFSETS, E_w_LIST_OFFSETS, S_w_JOIN_GROUP, E_w_JOIN_GROUP, S_w_OFFSET_COMMIT, E_w_OFFSET_COMMIT, S_w_FETCH, E_w_FETCH, S_w_FIND_COORDINATOR, E_w_FIND_COORDINATOR, S_w_CREATE_TOPICS, E_w_CREATE_TOPICS, S_w_SYNC_GROUP, E_w_SYNC_GROUP, S_w_OFFSET_FETCH, E_w_OFFSET_FETCH, S_w_HEARTBEAT, E_w_HEARTBEAT, S_w_LEAVE_GROUP, E_w_LEAVE_GROUP, S_w_API_VERSIONS, E_w_API_VERSIONS, S_w_BY_ID, Ar_w_BY_ID, Sz_w_BY_ID, At_w_BY_ID_0, At_w_BY_ID_3, At_w_BY_ID_7, At_w_BY_ID_2, At_w_BY_ID_11, At_w_BY_ID_8, At_w_BY_ID_1, At_w_BY_ID_10, At_w_BY_ID_16, At_w_BY_ID_19, At_w_BY_ID_15, At_w_BY_ID_14, At_w_BY_ID_6, At_w_BY_ID_9, At_w_BY_ID_12, At_w_BY_ID_17, At_w_BY_ID_13, At_w_BY_ID_5, At_w_BY_ID_18, At_w_BY_ID_4, -⟩ := id HW
  obtain ⟨_, _, ⟨T1, L1, k1, n1⟩, -, X1, ⟨Lc1, hQ1, l1, y1, z1⟩, st1⟩ := Jvm.LawKit.callS X0 hx (y := (⟨"com/example/melog/melog/protocol/ApiKey", "forId", "(S)Lcom/example/melog/melog/protocol/ApiKey;"⟩ : MethodName)) hown (mvT hZ (hw _ (List.mem_of_getElem? (i := 0) rfl))) (mvT hZ (hw _ (List.mem_of_getElem? (i := 1) rfl))) (mvT hZ (hw _ (List.mem_of_getElem? (i := 2) rfl))) (mvT hZ (hw _ (List.mem_of_getElem? (i := 3) rfl))) (by decide) (backOf (W := 0) (rm1_14 l Z a0 hw [] w_PRODUCE w_METADATA w_LIST_OFFSETS w_JOIN_GROUP w_OFFSET_COMMIT w_FETCH w_FIND_COORDINATOR w_CREATE_TOPICS w_SYNC_GROUP w_OFFSET_FETCH w_HEARTBEAT w_LEAVE_GROUP w_API_VERSIONS w_BY_ID cl_w_BY_ID h0 n0 Z0 HW) hZ (hw _ (List.mem_of_getElem? (i := 3) rfl)) (hw _ (List.mem_of_getElem? (i := 2) rfl)) (by decide) (by decide)) (g := (mkF m 4 #[.val (.int p1), .val (.int (3 : Int32)), .unset] [(.int (3 : Int32))])) rfl (by rw [hml]; rfl) (argsL := [(.int (3 : Int32))]) (rest := []) (lenOf pd7 rfl) rfl (by show 2 * 0 + _ ≤ _; exact Nat.le_of_eq rfl) (hb hby at_4) (fun _ _ => ⟨rfl, e0, (by decide : 0 + 0 ≤ _), (by decide : 0 + 0 ≤ _)⟩)
  dsimp only [Pt.U, Pt.locs, Pt.cells, Pt.slots] at X1 l1 y1 z1 st1 hQ1
  subst l1 y1 z1
  obtain ⟨rfl, N1q, e1⟩ := hQ1
  have N1 := Fr.app N0 N1q
  obtain ⟨_, _, ⟨T2, L2, k2, n2⟩, -, X2, ⟨Lc2, hQ2, l2, y2, z2⟩, st2⟩ := Jvm.LawKit.callS X1 hx (y := (⟨"com/example/melog/melog/protocol/ApiKeyForIdPinLaw", "expected", "(I)Lcom/example/melog/melog/protocol/ApiKey;"⟩ : MethodName)) hown (mvT hZ (hw _ (List.mem_of_getElem? (i := 7) rfl))) (mvT hZ (hw _ (List.mem_of_getElem? (i := 8) rfl))) (mvT hZ (hw _ (List.mem_of_getElem? (i := 9) rfl))) (mvT hZ (hw _ (List.mem_of_getElem? (i := 10) rfl))) (by decide) (backOf (W := 1) (rm2_15 l Z a0 hw [] w_PRODUCE w_METADATA w_LIST_OFFSETS w_JOIN_GROUP w_OFFSET_COMMIT w_FETCH w_FIND_COORDINATOR w_CREATE_TOPICS w_SYNC_GROUP w_OFFSET_FETCH w_HEARTBEAT w_LEAVE_GROUP w_API_VERSIONS w_BY_ID cl_w_BY_ID h0 n0 Z0 HW) hZ (hw _ (List.mem_of_getElem? (i := 10) rfl)) (hw _ (List.mem_of_getElem? (i := 9) rfl)) (by decide) (by decide)) (g := (mkF m 10 #[.val (.int p1), .val (.int (3 : Int32)), .val (.ref w_METADATA)] [(.int (3 : Int32)), (.ref w_METADATA)])) rfl (by rw [hml]; rfl) (argsL := [(.int (3 : Int32))]) (rest := [(.ref w_METADATA)]) (lenOf pd51 rfl) rfl (by show 2 * 0 + _ ≤ _; exact Nat.le_of_eq rfl) (hb hby at_10) (fun _ _ => ⟨rfl, e1, (by decide : 0 + 0 ≤ _), (by decide : 0 + 0 ≤ _)⟩)
  dsimp only [Pt.U, Pt.locs, Pt.cells, Pt.slots] at X2 l2 y2 z2 st2 hQ2
  subst l2 y2 z2
  obtain ⟨rfl, N2q, e2⟩ := hQ2
  have N2 := Fr.app N1 N2q
  obtain ⟨fs, hr, hrun, hended, hW, hsame⟩ := X2.leave (v := some (.int (1 : Int32))) (fun h => by rw [Bd.returns] at h; cases h)
  refine ⟨_, _, pre0 _ ?_, hrun, hended, _, _, rfl, ?_, ⟨_, rfl⟩, hW, hsame.mono (by decide) (by decide)⟩
  · show Steps p.tables e below (s₁.setTop (mkF m 0 #[.val (.int p1), .unset, .unset] [])) _
    refine XS.iloadN X0.here hx rfl (hb hby at_0) rfl ?_
    show Steps p.tables e below (s₁.setTop (mkF m 1 #[.val (.int p1), .unset, .unset] [(.int p1)])) _
    refine XS.i2s X0.here hx rfl (hb hby at_1) rfl ?_
    rw [hk]
    show Steps p.tables e below (s₁.setTop (mkF m 2 #[.val (.int p1), .unset, .unset] [(.int (3 : Int32))])) _
    refine XS.istoreN X0.here hx rfl (hb hby at_2) rfl (l' := #[.val (.int p1), .val (.int (3 : Int32)), .unset]) rfl ?_
    show Steps p.tables e below (s₁.setTop (mkF m 3 #[.val (.int p1), .val (.int (3 : Int32)), .unset] [])) _
    refine XS.iloadN X0.here hx rfl (hb hby at_3) rfl ?_
    show Steps p.tables e below (s₁.setTop (mkF m 4 #[.val (.int p1), .val (.int (3 : Int32)), .unset] [(.int (3 : Int32))])) _
    refine st1 _ ?_
    show Steps p.tables e below (T1.setTop (mkF m 7 #[.val (.int p1), .val (.int (3 : Int32)), .unset] [(.ref w_METADATA)])) _
    refine XS.astoreN X1.here hx rfl (hb hby at_7) rfl rfl (l' := #[.val (.int p1), .val (.int (3 : Int32)), .val (.ref w_METADATA)]) rfl ?_
    show Steps p.tables e below (T1.setTop (mkF m 8 #[.val (.int p1), .val (.int (3 : Int32)), .val (.ref w_METADATA)] [])) _
    refine XS.aloadN X1.here hx rfl (hb hby at_8) rfl rfl ?_
    show Steps p.tables e below (T1.setTop (mkF m 9 #[.val (.int p1), .val (.int (3 : Int32)), .val (.ref w_METADATA)] [(.ref w_METADATA)])) _
    refine XS.iloadN X1.here hx rfl (hb hby at_9) rfl ?_
    show Steps p.tables e below (T1.setTop (mkF m 10 #[.val (.int p1), .val (.int (3 : Int32)), .val (.ref w_METADATA)] [(.int (3 : Int32)), (.ref w_METADATA)])) _
    refine st2 _ ?_
    show Steps p.tables e below (T2.setTop (mkF m 13 #[.val (.int p1), .val (.int (3 : Int32)), .val (.ref w_METADATA)] [(.ref w_METADATA), (.ref w_METADATA)])) _
    refine Jvm.RoadKit.acmp (g := (mkF m 13 #[.val (.int p1), .val (.int (3 : Int32)), .val (.ref w_METADATA)] [(.ref w_METADATA), (.ref w_METADATA)])) X2 hx rfl rfl rfl (pc0 := 13) (pc' := 16) (same := true) rfl (hb hby at_13) rfl (decide_eq_true rfl) (by decide) (by decide) ?_
    show Steps p.tables e below (T2.setTop (mkF m 16 #[.val (.int p1), .val (.int (3 : Int32)), .val (.ref w_METADATA)] [])) _
    refine XS.iconst X2.here hx rfl (hb hby at_16) ?_
    show Steps p.tables e below (T2.setTop (mkF m 17 #[.val (.int p1), .val (.int (3 : Int32)), .val (.ref w_METADATA)] [(.int (1 : Int32))])) _
    refine XS.goto X2.here hx rfl (pc0 := 17) (pc' := 21) rfl (hb hby at_17) (by decide) (by decide) ?_
    show Steps p.tables e below (T2.setTop (mkF m 21 #[.val (.int p1), .val (.int (3 : Int32)), .val (.ref w_METADATA)] [(.int (1 : Int32))])) _
    exact retN X2 hx (t := .boolean) Bd.returns (by simp) (hb hby at_21) hr
  · exact ⟨rfl, N2⟩
def Q1_17 (Z : State) (w_PRODUCE : Addr) (w_METADATA : Addr) (w_LIST_OFFSETS : Addr) (w_JOIN_GROUP : Addr) (w_OFFSET_COMMIT : Addr) (w_FETCH : Addr) (w_FIND_COORDINATOR : Addr) (w_CREATE_TOPICS : Addr) (w_SYNC_GROUP : Addr) (w_OFFSET_FETCH : Addr) (w_HEARTBEAT : Addr) (w_LEAVE_GROUP : Addr) (w_API_VERSIONS : Addr) (w_BY_ID : Addr) (cl_w_BY_ID : Cell) (h0 : Heap) (n0 : Nat) (v : Option Value) (h : Heap) (L : List Loc) : Prop := v = some .null ∧ Fr n0 L ∧ h = h0
set_option maxRecDepth 65536 in
set_option maxHeartbeats 40000000 in
theorem rm1_17 (l : Launch) (Z : State) (a0 : Array Value) (hw : ∀ d ∈ tables_1, d.before a0 Z = true) (ws : List Jvm.Cond) (w_PRODUCE : Addr) (w_METADATA : Addr) (w_LIST_OFFSETS : Addr) (w_JOIN_GROUP : Addr) (w_OFFSET_COMMIT : Addr) (w_FETCH : Addr) (w_FIND_COORDINATOR : Addr) (w_CREATE_TOPICS : Addr) (w_SYNC_GROUP : Addr) (w_OFFSET_FETCH : Addr) (w_HEARTBEAT : Addr) (w_LEAVE_GROUP : Addr) (w_API_VERSIONS : Addr) (w_BY_ID : Addr) (cl_w_BY_ID : Cell) (h0 : Heap) (n0 : Nat) (Z0 : n0 ≤ h0.size) (HW : World Z h0 w_PRODUCE w_METADATA w_LIST_OFFSETS w_JOIN_GROUP w_OFFSET_COMMIT w_FETCH w_FIND_COORDINATOR w_CREATE_TOPICS w_SYNC_GROUP w_OFFSET_FETCH w_HEARTBEAT w_LEAVE_GROUP w_API_VERSIONS w_BY_ID cl_w_BY_ID) :
    MetFree l (⟨"com/example/melog/melog/protocol/ApiKey", "forId", "(S)Lcom/example/melog/melog/protocol/ApiKey;"⟩ : MethodName) (head1 (Jvm.Cond.code (⟨"com/example/melog/melog/protocol/ApiKey", "forId", "(S)Lcom/example/melog/melog/protocol/ApiKey;"⟩ : MethodName) prog_9_method_4_code 1 (some (.object "com/example/melog/melog/protocol/ApiKey")) :: ws) ({ frames := 0, cells := 0, slots := 0, locals := 0 } : Room)) (fun a U => a = #[(.int (4 : Int32))] ∧ Z.Warmed39 U.vm ∧ U.heap = h0) (fun _ _ _ _ _ => True) (fun _ U o U' => ∃ v L, o = .returned v ∧ Q1_17 Z w_PRODUCE w_METADATA w_LIST_OFFSETS w_JOIN_GROUP w_OFFSET_COMMIT w_FETCH w_FIND_COORDINATOR w_CREATE_TOPICS w_SYNC_GROUP w_OFFSET_FETCH w_HEARTBEAT w_LEAVE_GROUP w_API_VERSIONS w_BY_ID cl_w_BY_ID h0 n0 v U'.heap L ∧ FrameEnd U o U' L ({ frames := 0, cells := 0, slots := 0, locals := 0 } : Room).cells ({ frames := 0, cells := 0, slots := 0, locals := 0 } : Room).slots) := by
  refine MetFree.of_bodySF (plainFor_of_name pn6) hisR ?_
  intro p e s m args below meth c s₁ Bd hml0 hP hK
  obtain ⟨rfl, hZ, hh⟩ := hP
  have hx := Bd.exec
  have hby := Bd.bytes
  have hml : c.maxLocals = 1 := hml0
  have hown : s.vm.findClass "com/example/melog/melog/protocol/ApiKey" = some m.cls := findClass_of_methodNamed Bd.named
  have X0 : Stand p l e ({ frames := 0, cells := 0, slots := 0, locals := 0 } : Room) s m #[(.int (4 : Int32))] below meth c s₁ [] 0 0 := Stand.of_body Bd
  have e0 : s₁.heap = h0 := by rw [← hh, Bd.state]; rfl
  have N0 := Fr.nil n0
  have pre0 : ∀ t, Steps p.tables e below (s₁.setTop (mkF m 0 #[.val (.int (4 : Int32))] [])) t → Steps p.tables e below (s₁.setTop (entryFrame m #[(.int (4 : Int32))] 1)) t := fun t k => castTop (ef5 m (4 : Int32)) k
  obtain ⟨S_w_PRODUCE, E_w_PRODUCE, S_w_METADATA, E_w_METADATA, S_w_LIST_OFFSETS, E_w_LIST_OFFSETS, S_w_JOIN_GROUP, E_w_JOIN_GROUP, S_w_OFFSET_COMMIT, E_w_OFFSET_COMMIT, S_w_FETCH, E_w_FETCH, S_w_FIND_COORDINATOR, E_w_FIND_COORDINATOR, S_w_CREATE_TOPICS, E_w_CREATE_TOPICS, S_w_SYNC_GROUP, E_w_SYNC_GROUP, S_w_OFFSET_FETCH, E_w_OFFSET_FETCH, S_w_HEARTBEAT, E_w_HEARTBEAT, S_w_LEAVE_GROUP, E_w_LEAVE_GROUP, S_w_API_VERSIONS, E_w_API_VERSIONS, S_w_BY_ID, Ar_w_BY_ID, Sz_w_BY_ID, At_w_BY_ID_0, At_w_BY_ID_3, At_w_BY_ID_7, At_w_BY_ID_2, At_w_BY_ID_11, At_w_BY_ID_8, At_w_BY_ID_1, At_w_BY_ID_10, At_w_BY_ID_16, At_w_BY_ID_19, At_w_BY_ID_15, At_w_BY_ID_14, At_w_BY_ID_6, At_w_BY_ID_9, At_w_BY_ID_12, At_w_BY_ID_17, At_w_BY_ID_13, At_w_BY_ID_5, At_w_BY_ID_18, At_w_BY_ID_4, -⟩ := id HW
  obtain ⟨T1, X1, e1, st1⟩ := getS2 X0 hx hZ hown (host := "") (Or.inl (hw _ (List.mem_of_getElem? (i := 4) rfl))) Via.refl e0 S_w_BY_ID (g := (mkF m 5 #[.val (.int (4 : Int32))] [(.int (4 : Int32))])) rfl (hb hby d1_5)
  obtain ⟨T2, X2, e2, st2⟩ := getS2 X1 hx hZ hown (host := "") (Or.inl (hw _ (List.mem_of_getElem? (i := 4) rfl))) Via.refl e1 S_w_BY_ID (g := (mkF m 12 #[.val (.int (4 : Int32))] [])) rfl (hb hby d1_12)
  obtain ⟨fs, hr, hrun, hended, hW, hsame⟩ := X2.leave (v := some .null) (fun h => by rw [Bd.returns] at h; cases h)
  refine ⟨_, _, pre0 _ ?_, hrun, hended, _, _, rfl, ?_, ⟨_, rfl⟩, hW, hsame.mono (by decide) (by decide)⟩
  · show Steps p.tables e below (s₁.setTop (mkF m 0 #[.val (.int (4 : Int32))] [])) _
    refine XS.iloadN X0.here hx rfl (hb hby d1_0) rfl ?_
    show Steps p.tables e below (s₁.setTop (mkF m 1 #[.val (.int (4 : Int32))] [(.int (4 : Int32))])) _
    refine XS.ifNo X0.here hx rfl (hb hby d1_1) rfl ((if0 _ _).trans (flt (by decide : ¬ ((4 : Int32) < (0 : Int32)))).1) ?_
    show Steps p.tables e below (s₁.setTop (mkF m 4 #[.val (.int (4 : Int32))] [])) _
    refine XS.iloadN X0.here hx rfl (hb hby d1_4) rfl ?_
    show Steps p.tables e below (s₁.setTop (mkF m 5 #[.val (.int (4 : Int32))] [(.int (4 : Int32))])) _
    refine st1 _ ?_
    show Steps p.tables e below (T1.setTop (mkF m 8 #[.val (.int (4 : Int32))] [(.ref w_BY_ID), (.int (4 : Int32))])) _
    refine X1.arraylength hx (by rw [e1]; exact Ar_w_BY_ID.1) (State.isArrayOf_alike hZ.alike Ar_w_BY_ID.2.1) (g := (mkF m 8 #[.val (.int (4 : Int32))] [(.ref w_BY_ID), (.int (4 : Int32))])) rfl rfl (hb hby d1_8) _ ?_
    rw [Sz_w_BY_ID]
    show Steps p.tables e below (T1.setTop (mkF m 9 #[.val (.int (4 : Int32))] [(.int (20 : Int32)), (.int (4 : Int32))])) _
    refine XS.icmpNo X1.here hx rfl (hb hby d1_9) rfl (tlt (by decide : (4 : Int32) < (20 : Int32))).2.1 ?_
    show Steps p.tables e below (T1.setTop (mkF m 12 #[.val (.int (4 : Int32))] [])) _
    refine st2 _ ?_
    show Steps p.tables e below (T2.setTop (mkF m 15 #[.val (.int (4 : Int32))] [(.ref w_BY_ID)])) _
    refine XS.iloadN X2.here hx rfl (hb hby d1_15) rfl ?_
    show Steps p.tables e below (T2.setTop (mkF m 16 #[.val (.int (4 : Int32))] [(.int (4 : Int32)), (.ref w_BY_ID)])) _
    refine X2.aaload hx (j := (4 : Int32)) (v := .null) (by rw [e2]; exact Ar_w_BY_ID.1) (State.isArrayOf_alike hZ.alike Ar_w_BY_ID.2.1) rfl Ar_w_BY_ID.2.2 At_w_BY_ID_4.1 At_w_BY_ID_4.2 (g := (mkF m 16 #[.val (.int (4 : Int32))] [(.int (4 : Int32)), (.ref w_BY_ID)])) rfl rfl (hb hby d1_16) _ ?_
    show Steps p.tables e below (T2.setTop (mkF m 17 #[.val (.int (4 : Int32))] [.null])) _
    refine XS.goto X2.here hx rfl (pc0 := 17) (pc' := 21) rfl (hb hby d1_17) (by decide) (by decide) ?_
    show Steps p.tables e below (T2.setTop (mkF m 21 #[.val (.int (4 : Int32))] [.null])) _
    jvm_step X2.here [X2.here.top, hx, (hb hby d1_21), X2.method', Bd.returns, Value.isRef, FieldType.isReference]
    first | (intro acts; rw [hr _ acts rfl rfl rfl]) | rw [hr _ _ rfl rfl rfl]
    exact Steps.refl _
  · exact ⟨rfl, N0, e2⟩
def Q2_18 (Z : State) (w_PRODUCE : Addr) (w_METADATA : Addr) (w_LIST_OFFSETS : Addr) (w_JOIN_GROUP : Addr) (w_OFFSET_COMMIT : Addr) (w_FETCH : Addr) (w_FIND_COORDINATOR : Addr) (w_CREATE_TOPICS : Addr) (w_SYNC_GROUP : Addr) (w_OFFSET_FETCH : Addr) (w_HEARTBEAT : Addr) (w_LEAVE_GROUP : Addr) (w_API_VERSIONS : Addr) (w_BY_ID : Addr) (cl_w_BY_ID : Cell) (h0 : Heap) (n0 : Nat) (v : Option Value) (h : Heap) (L : List Loc) : Prop := v = some .null ∧ Fr n0 L ∧ h = h0
set_option maxRecDepth 65536 in
set_option maxHeartbeats 40000000 in
theorem rm2_18 (l : Launch) (Z : State) (a0 : Array Value) (hw : ∀ d ∈ tables_1, d.before a0 Z = true) (ws : List Jvm.Cond) (w_PRODUCE : Addr) (w_METADATA : Addr) (w_LIST_OFFSETS : Addr) (w_JOIN_GROUP : Addr) (w_OFFSET_COMMIT : Addr) (w_FETCH : Addr) (w_FIND_COORDINATOR : Addr) (w_CREATE_TOPICS : Addr) (w_SYNC_GROUP : Addr) (w_OFFSET_FETCH : Addr) (w_HEARTBEAT : Addr) (w_LEAVE_GROUP : Addr) (w_API_VERSIONS : Addr) (w_BY_ID : Addr) (cl_w_BY_ID : Cell) (h0 : Heap) (n0 : Nat) (Z0 : n0 ≤ h0.size) (HW : World Z h0 w_PRODUCE w_METADATA w_LIST_OFFSETS w_JOIN_GROUP w_OFFSET_COMMIT w_FETCH w_FIND_COORDINATOR w_CREATE_TOPICS w_SYNC_GROUP w_OFFSET_FETCH w_HEARTBEAT w_LEAVE_GROUP w_API_VERSIONS w_BY_ID cl_w_BY_ID) :
    MetFree l (⟨"com/example/melog/melog/protocol/ApiKeyForIdPinLaw", "expected", "(I)Lcom/example/melog/melog/protocol/ApiKey;"⟩ : MethodName) (head1 (Jvm.Cond.code (⟨"com/example/melog/melog/protocol/ApiKeyForIdPinLaw", "expected", "(I)Lcom/example/melog/melog/protocol/ApiKey;"⟩ : MethodName) method_2_code 1 (some (.object "com/example/melog/melog/protocol/ApiKey")) :: ws) ({ frames := 0, cells := 0, slots := 0, locals := 0 } : Room)) (fun a U => a = #[(.int (4 : Int32))] ∧ Z.Warmed39 U.vm ∧ U.heap = h0) (fun _ _ _ _ _ => True) (fun _ U o U' => ∃ v L, o = .returned v ∧ Q2_18 Z w_PRODUCE w_METADATA w_LIST_OFFSETS w_JOIN_GROUP w_OFFSET_COMMIT w_FETCH w_FIND_COORDINATOR w_CREATE_TOPICS w_SYNC_GROUP w_OFFSET_FETCH w_HEARTBEAT w_LEAVE_GROUP w_API_VERSIONS w_BY_ID cl_w_BY_ID h0 n0 v U'.heap L ∧ FrameEnd U o U' L ({ frames := 0, cells := 0, slots := 0, locals := 0 } : Room).cells ({ frames := 0, cells := 0, slots := 0, locals := 0 } : Room).slots) := by
  refine MetFree.of_bodySF (plainFor_of_name pn50) hisR ?_
  intro p e s m args below meth c s₁ Bd hml0 hP hK
  obtain ⟨rfl, hZ, hh⟩ := hP
  have hx := Bd.exec
  have hby := Bd.bytes
  have hml : c.maxLocals = 1 := hml0
  have hown : s.vm.findClass "com/example/melog/melog/protocol/ApiKeyForIdPinLaw" = some m.cls := findClass_of_methodNamed Bd.named
  have X0 : Stand p l e ({ frames := 0, cells := 0, slots := 0, locals := 0 } : Room) s m #[(.int (4 : Int32))] below meth c s₁ [] 0 0 := Stand.of_body Bd
  have e0 : s₁.heap = h0 := by rw [← hh, Bd.state]; rfl
  have N0 := Fr.nil n0
  have pre0 : ∀ t, Steps p.tables e below (s₁.setTop (mkF m 0 #[.val (.int (4 : Int32))] [])) t → Steps p.tables e below (s₁.setTop (entryFrame m #[(.int (4 : Int32))] 1)) t := fun t k => castTop (ef49 m (4 : Int32)) k
  obtain ⟨S_w_PRODUCE, E_w_PRODUCE, S_w_METADATA, E_w_METADATA, S_w_LIST_OFFSETS, E_w_LIST_OFFSETS, S_w_JOIN_GROUP, E_w_JOIN_GROUP, S_w_OFFSET_COMMIT, E_w_OFFSET_COMMIT, S_w_FETCH, E_w_FETCH, S_w_FIND_COORDINATOR, E_w_FIND_COORDINATOR, S_w_CREATE_TOPICS, E_w_CREATE_TOPICS, S_w_SYNC_GROUP, E_w_SYNC_GROUP, S_w_OFFSET_FETCH, E_w_OFFSET_FETCH, S_w_HEARTBEAT, E_w_HEARTBEAT, S_w_LEAVE_GROUP, E_w_LEAVE_GROUP, S_w_API_VERSIONS, E_w_API_VERSIONS, S_w_BY_ID, Ar_w_BY_ID, Sz_w_BY_ID, At_w_BY_ID_0, At_w_BY_ID_3, At_w_BY_ID_7, At_w_BY_ID_2, At_w_BY_ID_11, At_w_BY_ID_8, At_w_BY_ID_1, At_w_BY_ID_10, At_w_BY_ID_16, At_w_BY_ID_19, At_w_BY_ID_15, At_w_BY_ID_14, At_w_BY_ID_6, At_w_BY_ID_9, At_w_BY_ID_12, At_w_BY_ID_17, At_w_BY_ID_13, At_w_BY_ID_5, At_w_BY_ID_18, At_w_BY_ID_4, -⟩ := id HW
  obtain ⟨fs, hr, hrun, hended, hW, hsame⟩ := X0.leave (v := some .null) (fun h => by rw [Bd.returns] at h; cases h)
  refine ⟨_, _, pre0 _ ?_, hrun, hended, _, _, rfl, ?_, ⟨_, rfl⟩, hW, hsame.mono (by decide) (by decide)⟩
  · show Steps p.tables e below (s₁.setTop (mkF m 0 #[.val (.int (4 : Int32))] [])) _
    refine XS.iloadN X0.here hx rfl (hb hby d2_0) rfl ?_
    show Steps p.tables e below (s₁.setTop (mkF m 1 #[.val (.int (4 : Int32))] [(.int (4 : Int32))])) _
    refine XS.ifYes X0.here hx rfl (pc0 := 1) (pc' := 8) rfl (hb hby d2_1) rfl ((if0 _ _).trans (feq (by decide : ¬ ((4 : Int32) = (0 : Int32)))).2) (by decide) (by decide) ?_
    show Steps p.tables e below (s₁.setTop (mkF m 8 #[.val (.int (4 : Int32))] [])) _
    refine XS.iloadN X0.here hx rfl (hb hby d2_8) rfl ?_
    show Steps p.tables e below (s₁.setTop (mkF m 9 #[.val (.int (4 : Int32))] [(.int (4 : Int32))])) _
    refine XS.iconst X0.here hx rfl (hb hby d2_9) ?_
    show Steps p.tables e below (s₁.setTop (mkF m 10 #[.val (.int (4 : Int32))] [(.int (1 : Int32)), (.int (4 : Int32))])) _
    refine XS.icmpYes X0.here hx rfl (pc0 := 10) (pc' := 17) rfl (hb hby d2_10) rfl (feq (by decide : ¬ ((4 : Int32) = (1 : Int32)))).2 (by decide) (by decide) ?_
    show Steps p.tables e below (s₁.setTop (mkF m 17 #[.val (.int (4 : Int32))] [])) _
    refine XS.iloadN X0.here hx rfl (hb hby d2_17) rfl ?_
    show Steps p.tables e below (s₁.setTop (mkF m 18 #[.val (.int (4 : Int32))] [(.int (4 : Int32))])) _
    refine XS.iconst X0.here hx rfl (hb hby d2_18) ?_
    show Steps p.tables e below (s₁.setTop (mkF m 19 #[.val (.int (4 : Int32))] [(.int (2 : Int32)), (.int (4 : Int32))])) _
    refine XS.icmpYes X0.here hx rfl (pc0 := 19) (pc' := 26) rfl (hb hby d2_19) rfl (feq (by decide : ¬ ((4 : Int32) = (2 : Int32)))).2 (by decide) (by decide) ?_
    show Steps p.tables e below (s₁.setTop (mkF m 26 #[.val (.int (4 : Int32))] [])) _
    refine XS.iloadN X0.here hx rfl (hb hby d2_26) rfl ?_
    show Steps p.tables e below (s₁.setTop (mkF m 27 #[.val (.int (4 : Int32))] [(.int (4 : Int32))])) _
    refine XS.iconst X0.here hx rfl (hb hby d2_27) ?_
    show Steps p.tables e below (s₁.setTop (mkF m 28 #[.val (.int (4 : Int32))] [(.int (3 : Int32)), (.int (4 : Int32))])) _
    refine XS.icmpYes X0.here hx rfl (pc0 := 28) (pc' := 35) rfl (hb hby d2_28) rfl (feq (by decide : ¬ ((4 : Int32) = (3 : Int32)))).2 (by decide) (by decide) ?_
    show Steps p.tables e below (s₁.setTop (mkF m 35 #[.val (.int (4 : Int32))] [])) _
    refine XS.iloadN X0.here hx rfl (hb hby d2_35) rfl ?_
    show Steps p.tables e below (s₁.setTop (mkF m 36 #[.val (.int (4 : Int32))] [(.int (4 : Int32))])) _
    refine XS.bipush X0.here hx rfl (hb hby d2_36) ?_
    show Steps p.tables e below (s₁.setTop (mkF m 38 #[.val (.int (4 : Int32))] [(.int (8 : Int32)), (.int (4 : Int32))])) _
    refine XS.icmpYes X0.here hx rfl (pc0 := 38) (pc' := 45) rfl (hb hby d2_38) rfl (feq (by decide : ¬ ((4 : Int32) = (8 : Int32)))).2 (by decide) (by decide) ?_
    show Steps p.tables e below (s₁.setTop (mkF m 45 #[.val (.int (4 : Int32))] [])) _
    refine XS.iloadN X0.here hx rfl (hb hby d2_45) rfl ?_
    show Steps p.tables e below (s₁.setTop (mkF m 46 #[.val (.int (4 : Int32))] [(.int (4 : Int32))])) _
    refine XS.bipush X0.here hx rfl (hb hby d2_46) ?_
    show Steps p.tables e below (s₁.setTop (mkF m 48 #[.val (.int (4 : Int32))] [(.int (9 : Int32)), (.int (4 : Int32))])) _
    refine XS.icmpYes X0.here hx rfl (pc0 := 48) (pc' := 55) rfl (hb hby d2_48) rfl (feq (by decide : ¬ ((4 : Int32) = (9 : Int32)))).2 (by decide) (by decide) ?_
    show Steps p.tables e below (s₁.setTop (mkF m 55 #[.val (.int (4 : Int32))] [])) _
    refine XS.iloadN X0.here hx rfl (hb hby d2_55) rfl ?_
    show Steps p.tables e below (s₁.setTop (mkF m 56 #[.val (.int (4 : Int32))] [(.int (4 : Int32))])) _
    refine XS.bipush X0.here hx rfl (hb hby d2_56) ?_
    show Steps p.tables e below (s₁.setTop (mkF m 58 #[.val (.int (4 : Int32))] [(.int (10 : Int32)), (.int (4 : Int32))])) _
    refine XS.icmpYes X0.here hx rfl (pc0 := 58) (pc' := 65) rfl (hb hby d2_58) rfl (feq (by decide : ¬ ((4 : Int32) = (10 : Int32)))).2 (by decide) (by decide) ?_
    show Steps p.tables e below (s₁.setTop (mkF m 65 #[.val (.int (4 : Int32))] [])) _
    refine XS.iloadN X0.here hx rfl (hb hby d2_65) rfl ?_
    show Steps p.tables e below (s₁.setTop (mkF m 66 #[.val (.int (4 : Int32))] [(.int (4 : Int32))])) _
    refine XS.bipush X0.here hx rfl (hb hby d2_66) ?_
    show Steps p.tables e below (s₁.setTop (mkF m 68 #[.val (.int (4 : Int32))] [(.int (11 : Int32)), (.int (4 : Int32))])) _
    refine XS.icmpYes X0.here hx rfl (pc0 := 68) (pc' := 75) rfl (hb hby d2_68) rfl (feq (by decide : ¬ ((4 : Int32) = (11 : Int32)))).2 (by decide) (by decide) ?_
    show Steps p.tables e below (s₁.setTop (mkF m 75 #[.val (.int (4 : Int32))] [])) _
    refine XS.iloadN X0.here hx rfl (hb hby d2_75) rfl ?_
    show Steps p.tables e below (s₁.setTop (mkF m 76 #[.val (.int (4 : Int32))] [(.int (4 : Int32))])) _
    refine XS.bipush X0.here hx rfl (hb hby d2_76) ?_
    show Steps p.tables e below (s₁.setTop (mkF m 78 #[.val (.int (4 : Int32))] [(.int (12 : Int32)), (.int (4 : Int32))])) _
    refine XS.icmpYes X0.here hx rfl (pc0 := 78) (pc' := 85) rfl (hb hby d2_78) rfl (feq (by decide : ¬ ((4 : Int32) = (12 : Int32)))).2 (by decide) (by decide) ?_
    show Steps p.tables e below (s₁.setTop (mkF m 85 #[.val (.int (4 : Int32))] [])) _
    refine XS.iloadN X0.here hx rfl (hb hby d2_85) rfl ?_
    show Steps p.tables e below (s₁.setTop (mkF m 86 #[.val (.int (4 : Int32))] [(.int (4 : Int32))])) _
    refine XS.bipush X0.here hx rfl (hb hby d2_86) ?_
    show Steps p.tables e below (s₁.setTop (mkF m 88 #[.val (.int (4 : Int32))] [(.int (13 : Int32)), (.int (4 : Int32))])) _
    refine XS.icmpYes X0.here hx rfl (pc0 := 88) (pc' := 95) rfl (hb hby d2_88) rfl (feq (by decide : ¬ ((4 : Int32) = (13 : Int32)))).2 (by decide) (by decide) ?_
    show Steps p.tables e below (s₁.setTop (mkF m 95 #[.val (.int (4 : Int32))] [])) _
    refine XS.iloadN X0.here hx rfl (hb hby d2_95) rfl ?_
    show Steps p.tables e below (s₁.setTop (mkF m 96 #[.val (.int (4 : Int32))] [(.int (4 : Int32))])) _
    refine XS.bipush X0.here hx rfl (hb hby d2_96) ?_
    show Steps p.tables e below (s₁.setTop (mkF m 98 #[.val (.int (4 : Int32))] [(.int (14 : Int32)), (.int (4 : Int32))])) _
    refine XS.icmpYes X0.here hx rfl (pc0 := 98) (pc' := 105) rfl (hb hby d2_98) rfl (feq (by decide : ¬ ((4 : Int32) = (14 : Int32)))).2 (by decide) (by decide) ?_
    show Steps p.tables e below (s₁.setTop (mkF m 105 #[.val (.int (4 : Int32))] [])) _
    refine XS.iloadN X0.here hx rfl (hb hby d2_105) rfl ?_
    show Steps p.tables e below (s₁.setTop (mkF m 106 #[.val (.int (4 : Int32))] [(.int (4 : Int32))])) _
    refine XS.bipush X0.here hx rfl (hb hby d2_106) ?_
    show Steps p.tables e below (s₁.setTop (mkF m 108 #[.val (.int (4 : Int32))] [(.int (18 : Int32)), (.int (4 : Int32))])) _
    refine XS.icmpYes X0.here hx rfl (pc0 := 108) (pc' := 115) rfl (hb hby d2_108) rfl (feq (by decide : ¬ ((4 : Int32) = (18 : Int32)))).2 (by decide) (by decide) ?_
    show Steps p.tables e below (s₁.setTop (mkF m 115 #[.val (.int (4 : Int32))] [])) _
    refine XS.iloadN X0.here hx rfl (hb hby d2_115) rfl ?_
    show Steps p.tables e below (s₁.setTop (mkF m 116 #[.val (.int (4 : Int32))] [(.int (4 : Int32))])) _
    refine XS.bipush X0.here hx rfl (hb hby d2_116) ?_
    show Steps p.tables e below (s₁.setTop (mkF m 118 #[.val (.int (4 : Int32))] [(.int (19 : Int32)), (.int (4 : Int32))])) _
    refine XS.icmpYes X0.here hx rfl (pc0 := 118) (pc' := 125) rfl (hb hby d2_118) rfl (feq (by decide : ¬ ((4 : Int32) = (19 : Int32)))).2 (by decide) (by decide) ?_
    show Steps p.tables e below (s₁.setTop (mkF m 125 #[.val (.int (4 : Int32))] [])) _
    refine XS.aconstNull X0.here hx rfl (hb hby d2_125) ?_
    show Steps p.tables e below (s₁.setTop (mkF m 126 #[.val (.int (4 : Int32))] [.null])) _
    jvm_step X0.here [X0.here.top, hx, (hb hby d2_126), X0.method', Bd.returns, Value.isRef, FieldType.isReference]
    first | (intro acts; rw [hr _ acts rfl rfl rfl]) | rw [hr _ _ rfl rfl rfl]
    exact Steps.refl _
  · exact ⟨rfl, N0, e0⟩
set_option maxRecDepth 65536 in
set_option maxHeartbeats 40000000 in
theorem rm0_c4 (l : Launch) (Z : State) (a0 : Array Value) (hw : ∀ d ∈ tables_1, d.before a0 Z = true) (ws : List Jvm.Cond) (w_PRODUCE : Addr) (w_METADATA : Addr) (w_LIST_OFFSETS : Addr) (w_JOIN_GROUP : Addr) (w_OFFSET_COMMIT : Addr) (w_FETCH : Addr) (w_FIND_COORDINATOR : Addr) (w_CREATE_TOPICS : Addr) (w_SYNC_GROUP : Addr) (w_OFFSET_FETCH : Addr) (w_HEARTBEAT : Addr) (w_LEAVE_GROUP : Addr) (w_API_VERSIONS : Addr) (w_BY_ID : Addr) (cl_w_BY_ID : Cell) (p1 : Int32) (h0 : Heap) (n0 : Nat) (Z0 : n0 ≤ h0.size) (HW : World Z h0 w_PRODUCE w_METADATA w_LIST_OFFSETS w_JOIN_GROUP w_OFFSET_COMMIT w_FETCH w_FIND_COORDINATOR w_CREATE_TOPICS w_SYNC_GROUP w_OFFSET_FETCH w_HEARTBEAT w_LEAVE_GROUP w_API_VERSIONS w_BY_ID cl_w_BY_ID) (hk : (p1.toInt16.toInt32) = (4 : Int32)) :
    MetFree l x (head1 (Jvm.Cond.code x code maxLocals ret :: ws) room_1) (fun a U => a = #[(.int p1)] ∧ Z.Warmed39 U.vm ∧ U.heap = h0) (fun _ _ _ _ _ => True) (fun _ U o U' => ∃ v L, o = .returned v ∧ Q0 h0 n0 v U'.heap L ∧ FrameEnd U o U' L room_1.cells room_1.slots) := by
  refine MetFree.of_bodySF (plainFor_of_name pn50) hisR ?_
  intro p e s m args below meth c s₁ Bd hml0 hP hK
  obtain ⟨rfl, hZ, hh⟩ := hP
  have hx := Bd.exec
  have hby := Bd.bytes
  have hml : c.maxLocals = 3 := hml0
  have hown : s.vm.findClass "com/example/melog/melog/protocol/ApiKeyForIdPinLaw" = some m.cls := findClass_of_methodNamed Bd.named
  have X0 : Stand p l e room_1 s m #[(.int p1)] below meth c s₁ [] 0 0 := Stand.of_body Bd
  have e0 : s₁.heap = h0 := by rw [← hh, Bd.state]; rfl
  have N0 := Fr.nil n0
  have pre0 : ∀ t, Steps p.tables e below (s₁.setTop (mkF m 0 #[.val (.int p1), .unset, .unset] [])) t → Steps p.tables e below (s₁.setTop (entryFrame m #[(.int p1)] maxLocals)) t := fun t k => castTop (ef53 m p1) k
  obtain ⟨S_w_PRODUCE, E_w_PRODUCE, S_w_METADATA, E_w_METADATA, S_w_LIST_OFFSETS, E_w_LIST_OFFSETS, S_w_JOIN_GROUP, E_w_JOIN_GROUP, S_w_OFFSET_COMMIT, E_w_OFFSET_COMMIT, S_w_FETCH, E_w_FETCH, S_w_FIND_COORDINATOR, E_w_FIND_COORDINATOR, S_w_CREATE_TOPICS, E_w_CREATE_TOPICS, S_w_SYNC_GROUP, E_w_SYNC_GROUP, S_w_OFFSET_FETCH, E_w_OFFSET_FETCH, S_w_HEARTBEAT, E_w_HEARTBEAT, S_w_LEAVE_GROUP, E_w_LEAVE_GROUP, S_w_API_VERSIONS, E_w_API_VERSIONS, S_w_BY_ID, Ar_w_BY_ID, Sz_w_BY_ID, At_w_BY_ID_0, At_w_BY_ID_3, At_w_BY_ID_7, At_w_BY_ID_2, At_w_BY_ID_11, At_w_BY_ID_8, At_w_BY_ID_1, At_w_BY_ID_10, At_w_BY_ID_16, At_w_BY_ID_19, At_w_BY_ID_15, At_w_BY_ID_14, At_w_BY_ID_6, At_w_BY_ID_9, At_w_BY_ID_12, At_w_BY_ID_17, At_w_BY_ID_13, At_w_BY_ID_5, At_w_BY_ID_18, At_w_BY_ID_4, -⟩ := id HW
  obtain ⟨_, _, ⟨T1, L1, k1, n1⟩, -, X1, ⟨Lc1, hQ1, l1, y1, z1⟩, st1⟩ := Jvm.LawKit.callS X0 hx (y := (⟨"com/example/melog/melog/protocol/ApiKey", "forId", "(S)Lcom/example/melog/melog/protocol/ApiKey;"⟩ : MethodName)) hown (mvT hZ (hw _ (List.mem_of_getElem? (i := 0) rfl))) (mvT hZ (hw _ (List.mem_of_getElem? (i := 1) rfl))) (mvT hZ (hw _ (List.mem_of_getElem? (i := 2) rfl))) (mvT hZ (hw _ (List.mem_of_getElem? (i := 3) rfl))) (by decide) (backOf (W := 0) (rm1_17 l Z a0 hw [] w_PRODUCE w_METADATA w_LIST_OFFSETS w_JOIN_GROUP w_OFFSET_COMMIT w_FETCH w_FIND_COORDINATOR w_CREATE_TOPICS w_SYNC_GROUP w_OFFSET_FETCH w_HEARTBEAT w_LEAVE_GROUP w_API_VERSIONS w_BY_ID cl_w_BY_ID h0 n0 Z0 HW) hZ (hw _ (List.mem_of_getElem? (i := 3) rfl)) (hw _ (List.mem_of_getElem? (i := 2) rfl)) (by decide) (by decide)) (g := (mkF m 4 #[.val (.int p1), .val (.int (4 : Int32)), .unset] [(.int (4 : Int32))])) rfl (by rw [hml]; rfl) (argsL := [(.int (4 : Int32))]) (rest := []) (lenOf pd7 rfl) rfl (by show 2 * 0 + _ ≤ _; exact Nat.le_of_eq rfl) (hb hby at_4) (fun _ _ => ⟨rfl, e0, (by decide : 0 + 0 ≤ _), (by decide : 0 + 0 ≤ _)⟩)
  dsimp only [Pt.U, Pt.locs, Pt.cells, Pt.slots] at X1 l1 y1 z1 st1 hQ1
  subst l1 y1 z1
  obtain ⟨rfl, N1q, e1⟩ := hQ1
  have N1 := Fr.app N0 N1q
  obtain ⟨_, _, ⟨T2, L2, k2, n2⟩, -, X2, ⟨Lc2, hQ2, l2, y2, z2⟩, st2⟩ := Jvm.LawKit.callS X1 hx (y := (⟨"com/example/melog/melog/protocol/ApiKeyForIdPinLaw", "expected", "(I)Lcom/example/melog/melog/protocol/ApiKey;"⟩ : MethodName)) hown (mvT hZ (hw _ (List.mem_of_getElem? (i := 7) rfl))) (mvT hZ (hw _ (List.mem_of_getElem? (i := 8) rfl))) (mvT hZ (hw _ (List.mem_of_getElem? (i := 9) rfl))) (mvT hZ (hw _ (List.mem_of_getElem? (i := 10) rfl))) (by decide) (backOf (W := 1) (rm2_18 l Z a0 hw [] w_PRODUCE w_METADATA w_LIST_OFFSETS w_JOIN_GROUP w_OFFSET_COMMIT w_FETCH w_FIND_COORDINATOR w_CREATE_TOPICS w_SYNC_GROUP w_OFFSET_FETCH w_HEARTBEAT w_LEAVE_GROUP w_API_VERSIONS w_BY_ID cl_w_BY_ID h0 n0 Z0 HW) hZ (hw _ (List.mem_of_getElem? (i := 10) rfl)) (hw _ (List.mem_of_getElem? (i := 9) rfl)) (by decide) (by decide)) (g := (mkF m 10 #[.val (.int p1), .val (.int (4 : Int32)), .val .null] [(.int (4 : Int32)), .null])) rfl (by rw [hml]; rfl) (argsL := [(.int (4 : Int32))]) (rest := [.null]) (lenOf pd51 rfl) rfl (by show 2 * 0 + _ ≤ _; exact Nat.le_of_eq rfl) (hb hby at_10) (fun _ _ => ⟨rfl, e1, (by decide : 0 + 0 ≤ _), (by decide : 0 + 0 ≤ _)⟩)
  dsimp only [Pt.U, Pt.locs, Pt.cells, Pt.slots] at X2 l2 y2 z2 st2 hQ2
  subst l2 y2 z2
  obtain ⟨rfl, N2q, e2⟩ := hQ2
  have N2 := Fr.app N1 N2q
  obtain ⟨fs, hr, hrun, hended, hW, hsame⟩ := X2.leave (v := some (.int (1 : Int32))) (fun h => by rw [Bd.returns] at h; cases h)
  refine ⟨_, _, pre0 _ ?_, hrun, hended, _, _, rfl, ?_, ⟨_, rfl⟩, hW, hsame.mono (by decide) (by decide)⟩
  · show Steps p.tables e below (s₁.setTop (mkF m 0 #[.val (.int p1), .unset, .unset] [])) _
    refine XS.iloadN X0.here hx rfl (hb hby at_0) rfl ?_
    show Steps p.tables e below (s₁.setTop (mkF m 1 #[.val (.int p1), .unset, .unset] [(.int p1)])) _
    refine XS.i2s X0.here hx rfl (hb hby at_1) rfl ?_
    rw [hk]
    show Steps p.tables e below (s₁.setTop (mkF m 2 #[.val (.int p1), .unset, .unset] [(.int (4 : Int32))])) _
    refine XS.istoreN X0.here hx rfl (hb hby at_2) rfl (l' := #[.val (.int p1), .val (.int (4 : Int32)), .unset]) rfl ?_
    show Steps p.tables e below (s₁.setTop (mkF m 3 #[.val (.int p1), .val (.int (4 : Int32)), .unset] [])) _
    refine XS.iloadN X0.here hx rfl (hb hby at_3) rfl ?_
    show Steps p.tables e below (s₁.setTop (mkF m 4 #[.val (.int p1), .val (.int (4 : Int32)), .unset] [(.int (4 : Int32))])) _
    refine st1 _ ?_
    show Steps p.tables e below (T1.setTop (mkF m 7 #[.val (.int p1), .val (.int (4 : Int32)), .unset] [.null])) _
    refine XS.astoreN X1.here hx rfl (hb hby at_7) rfl rfl (l' := #[.val (.int p1), .val (.int (4 : Int32)), .val .null]) rfl ?_
    show Steps p.tables e below (T1.setTop (mkF m 8 #[.val (.int p1), .val (.int (4 : Int32)), .val .null] [])) _
    refine XS.aloadN X1.here hx rfl (hb hby at_8) rfl rfl ?_
    show Steps p.tables e below (T1.setTop (mkF m 9 #[.val (.int p1), .val (.int (4 : Int32)), .val .null] [.null])) _
    refine XS.iloadN X1.here hx rfl (hb hby at_9) rfl ?_
    show Steps p.tables e below (T1.setTop (mkF m 10 #[.val (.int p1), .val (.int (4 : Int32)), .val .null] [(.int (4 : Int32)), .null])) _
    refine st2 _ ?_
    show Steps p.tables e below (T2.setTop (mkF m 13 #[.val (.int p1), .val (.int (4 : Int32)), .val .null] [.null, .null])) _
    refine Jvm.RoadKit.acmp (g := (mkF m 13 #[.val (.int p1), .val (.int (4 : Int32)), .val .null] [.null, .null])) X2 hx rfl rfl rfl (pc0 := 13) (pc' := 16) (same := true) rfl (hb hby at_13) rfl (decide_eq_true rfl) (by decide) (by decide) ?_
    show Steps p.tables e below (T2.setTop (mkF m 16 #[.val (.int p1), .val (.int (4 : Int32)), .val .null] [])) _
    refine XS.iconst X2.here hx rfl (hb hby at_16) ?_
    show Steps p.tables e below (T2.setTop (mkF m 17 #[.val (.int p1), .val (.int (4 : Int32)), .val .null] [(.int (1 : Int32))])) _
    refine XS.goto X2.here hx rfl (pc0 := 17) (pc' := 21) rfl (hb hby at_17) (by decide) (by decide) ?_
    show Steps p.tables e below (T2.setTop (mkF m 21 #[.val (.int p1), .val (.int (4 : Int32)), .val .null] [(.int (1 : Int32))])) _
    exact retN X2 hx (t := .boolean) Bd.returns (by simp) (hb hby at_21) hr
  · exact ⟨rfl, N2⟩
def Q1_20 (Z : State) (w_PRODUCE : Addr) (w_METADATA : Addr) (w_LIST_OFFSETS : Addr) (w_JOIN_GROUP : Addr) (w_OFFSET_COMMIT : Addr) (w_FETCH : Addr) (w_FIND_COORDINATOR : Addr) (w_CREATE_TOPICS : Addr) (w_SYNC_GROUP : Addr) (w_OFFSET_FETCH : Addr) (w_HEARTBEAT : Addr) (w_LEAVE_GROUP : Addr) (w_API_VERSIONS : Addr) (w_BY_ID : Addr) (cl_w_BY_ID : Cell) (h0 : Heap) (n0 : Nat) (v : Option Value) (h : Heap) (L : List Loc) : Prop := v = some .null ∧ Fr n0 L ∧ h = h0
set_option maxRecDepth 65536 in
set_option maxHeartbeats 40000000 in
theorem rm1_20 (l : Launch) (Z : State) (a0 : Array Value) (hw : ∀ d ∈ tables_1, d.before a0 Z = true) (ws : List Jvm.Cond) (w_PRODUCE : Addr) (w_METADATA : Addr) (w_LIST_OFFSETS : Addr) (w_JOIN_GROUP : Addr) (w_OFFSET_COMMIT : Addr) (w_FETCH : Addr) (w_FIND_COORDINATOR : Addr) (w_CREATE_TOPICS : Addr) (w_SYNC_GROUP : Addr) (w_OFFSET_FETCH : Addr) (w_HEARTBEAT : Addr) (w_LEAVE_GROUP : Addr) (w_API_VERSIONS : Addr) (w_BY_ID : Addr) (cl_w_BY_ID : Cell) (h0 : Heap) (n0 : Nat) (Z0 : n0 ≤ h0.size) (HW : World Z h0 w_PRODUCE w_METADATA w_LIST_OFFSETS w_JOIN_GROUP w_OFFSET_COMMIT w_FETCH w_FIND_COORDINATOR w_CREATE_TOPICS w_SYNC_GROUP w_OFFSET_FETCH w_HEARTBEAT w_LEAVE_GROUP w_API_VERSIONS w_BY_ID cl_w_BY_ID) :
    MetFree l (⟨"com/example/melog/melog/protocol/ApiKey", "forId", "(S)Lcom/example/melog/melog/protocol/ApiKey;"⟩ : MethodName) (head1 (Jvm.Cond.code (⟨"com/example/melog/melog/protocol/ApiKey", "forId", "(S)Lcom/example/melog/melog/protocol/ApiKey;"⟩ : MethodName) prog_9_method_4_code 1 (some (.object "com/example/melog/melog/protocol/ApiKey")) :: ws) ({ frames := 0, cells := 0, slots := 0, locals := 0 } : Room)) (fun a U => a = #[(.int (5 : Int32))] ∧ Z.Warmed39 U.vm ∧ U.heap = h0) (fun _ _ _ _ _ => True) (fun _ U o U' => ∃ v L, o = .returned v ∧ Q1_20 Z w_PRODUCE w_METADATA w_LIST_OFFSETS w_JOIN_GROUP w_OFFSET_COMMIT w_FETCH w_FIND_COORDINATOR w_CREATE_TOPICS w_SYNC_GROUP w_OFFSET_FETCH w_HEARTBEAT w_LEAVE_GROUP w_API_VERSIONS w_BY_ID cl_w_BY_ID h0 n0 v U'.heap L ∧ FrameEnd U o U' L ({ frames := 0, cells := 0, slots := 0, locals := 0 } : Room).cells ({ frames := 0, cells := 0, slots := 0, locals := 0 } : Room).slots) := by
  refine MetFree.of_bodySF (plainFor_of_name pn6) hisR ?_
  intro p e s m args below meth c s₁ Bd hml0 hP hK
  obtain ⟨rfl, hZ, hh⟩ := hP
  have hx := Bd.exec
  have hby := Bd.bytes
  have hml : c.maxLocals = 1 := hml0
  have hown : s.vm.findClass "com/example/melog/melog/protocol/ApiKey" = some m.cls := findClass_of_methodNamed Bd.named
  have X0 : Stand p l e ({ frames := 0, cells := 0, slots := 0, locals := 0 } : Room) s m #[(.int (5 : Int32))] below meth c s₁ [] 0 0 := Stand.of_body Bd
  have e0 : s₁.heap = h0 := by rw [← hh, Bd.state]; rfl
  have N0 := Fr.nil n0
  have pre0 : ∀ t, Steps p.tables e below (s₁.setTop (mkF m 0 #[.val (.int (5 : Int32))] [])) t → Steps p.tables e below (s₁.setTop (entryFrame m #[(.int (5 : Int32))] 1)) t := fun t k => castTop (ef5 m (5 : Int32)) k
  obtain ⟨S_w_PRODUCE, E_w_PRODUCE, S_w_METADATA, E_w_METADATA, S_w_LIST_OFFSETS, E_w_LIST_OFFSETS, S_w_JOIN_GROUP, E_w_JOIN_GROUP, S_w_OFFSET_COMMIT, E_w_OFFSET_COMMIT, S_w_FETCH, E_w_FETCH, S_w_FIND_COORDINATOR, E_w_FIND_COORDINATOR, S_w_CREATE_TOPICS, E_w_CREATE_TOPICS, S_w_SYNC_GROUP, E_w_SYNC_GROUP, S_w_OFFSET_FETCH, E_w_OFFSET_FETCH, S_w_HEARTBEAT, E_w_HEARTBEAT, S_w_LEAVE_GROUP, E_w_LEAVE_GROUP, S_w_API_VERSIONS, E_w_API_VERSIONS, S_w_BY_ID, Ar_w_BY_ID, Sz_w_BY_ID, At_w_BY_ID_0, At_w_BY_ID_3, At_w_BY_ID_7, At_w_BY_ID_2, At_w_BY_ID_11, At_w_BY_ID_8, At_w_BY_ID_1, At_w_BY_ID_10, At_w_BY_ID_16, At_w_BY_ID_19, At_w_BY_ID_15, At_w_BY_ID_14, At_w_BY_ID_6, At_w_BY_ID_9, At_w_BY_ID_12, At_w_BY_ID_17, At_w_BY_ID_13, At_w_BY_ID_5, At_w_BY_ID_18, At_w_BY_ID_4, -⟩ := id HW
  obtain ⟨T1, X1, e1, st1⟩ := getS2 X0 hx hZ hown (host := "") (Or.inl (hw _ (List.mem_of_getElem? (i := 4) rfl))) Via.refl e0 S_w_BY_ID (g := (mkF m 5 #[.val (.int (5 : Int32))] [(.int (5 : Int32))])) rfl (hb hby d1_5)
  obtain ⟨T2, X2, e2, st2⟩ := getS2 X1 hx hZ hown (host := "") (Or.inl (hw _ (List.mem_of_getElem? (i := 4) rfl))) Via.refl e1 S_w_BY_ID (g := (mkF m 12 #[.val (.int (5 : Int32))] [])) rfl (hb hby d1_12)
  obtain ⟨fs, hr, hrun, hended, hW, hsame⟩ := X2.leave (v := some .null) (fun h => by rw [Bd.returns] at h; cases h)
  refine ⟨_, _, pre0 _ ?_, hrun, hended, _, _, rfl, ?_, ⟨_, rfl⟩, hW, hsame.mono (by decide) (by decide)⟩
  · show Steps p.tables e below (s₁.setTop (mkF m 0 #[.val (.int (5 : Int32))] [])) _
    refine XS.iloadN X0.here hx rfl (hb hby d1_0) rfl ?_
    show Steps p.tables e below (s₁.setTop (mkF m 1 #[.val (.int (5 : Int32))] [(.int (5 : Int32))])) _
    refine XS.ifNo X0.here hx rfl (hb hby d1_1) rfl ((if0 _ _).trans (flt (by decide : ¬ ((5 : Int32) < (0 : Int32)))).1) ?_
    show Steps p.tables e below (s₁.setTop (mkF m 4 #[.val (.int (5 : Int32))] [])) _
    refine XS.iloadN X0.here hx rfl (hb hby d1_4) rfl ?_
    show Steps p.tables e below (s₁.setTop (mkF m 5 #[.val (.int (5 : Int32))] [(.int (5 : Int32))])) _
    refine st1 _ ?_
    show Steps p.tables e below (T1.setTop (mkF m 8 #[.val (.int (5 : Int32))] [(.ref w_BY_ID), (.int (5 : Int32))])) _
    refine X1.arraylength hx (by rw [e1]; exact Ar_w_BY_ID.1) (State.isArrayOf_alike hZ.alike Ar_w_BY_ID.2.1) (g := (mkF m 8 #[.val (.int (5 : Int32))] [(.ref w_BY_ID), (.int (5 : Int32))])) rfl rfl (hb hby d1_8) _ ?_
    rw [Sz_w_BY_ID]
    show Steps p.tables e below (T1.setTop (mkF m 9 #[.val (.int (5 : Int32))] [(.int (20 : Int32)), (.int (5 : Int32))])) _
    refine XS.icmpNo X1.here hx rfl (hb hby d1_9) rfl (tlt (by decide : (5 : Int32) < (20 : Int32))).2.1 ?_
    show Steps p.tables e below (T1.setTop (mkF m 12 #[.val (.int (5 : Int32))] [])) _
    refine st2 _ ?_
    show Steps p.tables e below (T2.setTop (mkF m 15 #[.val (.int (5 : Int32))] [(.ref w_BY_ID)])) _
    refine XS.iloadN X2.here hx rfl (hb hby d1_15) rfl ?_
    show Steps p.tables e below (T2.setTop (mkF m 16 #[.val (.int (5 : Int32))] [(.int (5 : Int32)), (.ref w_BY_ID)])) _
    refine X2.aaload hx (j := (5 : Int32)) (v := .null) (by rw [e2]; exact Ar_w_BY_ID.1) (State.isArrayOf_alike hZ.alike Ar_w_BY_ID.2.1) rfl Ar_w_BY_ID.2.2 At_w_BY_ID_5.1 At_w_BY_ID_5.2 (g := (mkF m 16 #[.val (.int (5 : Int32))] [(.int (5 : Int32)), (.ref w_BY_ID)])) rfl rfl (hb hby d1_16) _ ?_
    show Steps p.tables e below (T2.setTop (mkF m 17 #[.val (.int (5 : Int32))] [.null])) _
    refine XS.goto X2.here hx rfl (pc0 := 17) (pc' := 21) rfl (hb hby d1_17) (by decide) (by decide) ?_
    show Steps p.tables e below (T2.setTop (mkF m 21 #[.val (.int (5 : Int32))] [.null])) _
    jvm_step X2.here [X2.here.top, hx, (hb hby d1_21), X2.method', Bd.returns, Value.isRef, FieldType.isReference]
    first | (intro acts; rw [hr _ acts rfl rfl rfl]) | rw [hr _ _ rfl rfl rfl]
    exact Steps.refl _
  · exact ⟨rfl, N0, e2⟩
def Q2_21 (Z : State) (w_PRODUCE : Addr) (w_METADATA : Addr) (w_LIST_OFFSETS : Addr) (w_JOIN_GROUP : Addr) (w_OFFSET_COMMIT : Addr) (w_FETCH : Addr) (w_FIND_COORDINATOR : Addr) (w_CREATE_TOPICS : Addr) (w_SYNC_GROUP : Addr) (w_OFFSET_FETCH : Addr) (w_HEARTBEAT : Addr) (w_LEAVE_GROUP : Addr) (w_API_VERSIONS : Addr) (w_BY_ID : Addr) (cl_w_BY_ID : Cell) (h0 : Heap) (n0 : Nat) (v : Option Value) (h : Heap) (L : List Loc) : Prop := v = some .null ∧ Fr n0 L ∧ h = h0
set_option maxRecDepth 65536 in
set_option maxHeartbeats 40000000 in
theorem rm2_21 (l : Launch) (Z : State) (a0 : Array Value) (hw : ∀ d ∈ tables_1, d.before a0 Z = true) (ws : List Jvm.Cond) (w_PRODUCE : Addr) (w_METADATA : Addr) (w_LIST_OFFSETS : Addr) (w_JOIN_GROUP : Addr) (w_OFFSET_COMMIT : Addr) (w_FETCH : Addr) (w_FIND_COORDINATOR : Addr) (w_CREATE_TOPICS : Addr) (w_SYNC_GROUP : Addr) (w_OFFSET_FETCH : Addr) (w_HEARTBEAT : Addr) (w_LEAVE_GROUP : Addr) (w_API_VERSIONS : Addr) (w_BY_ID : Addr) (cl_w_BY_ID : Cell) (h0 : Heap) (n0 : Nat) (Z0 : n0 ≤ h0.size) (HW : World Z h0 w_PRODUCE w_METADATA w_LIST_OFFSETS w_JOIN_GROUP w_OFFSET_COMMIT w_FETCH w_FIND_COORDINATOR w_CREATE_TOPICS w_SYNC_GROUP w_OFFSET_FETCH w_HEARTBEAT w_LEAVE_GROUP w_API_VERSIONS w_BY_ID cl_w_BY_ID) :
    MetFree l (⟨"com/example/melog/melog/protocol/ApiKeyForIdPinLaw", "expected", "(I)Lcom/example/melog/melog/protocol/ApiKey;"⟩ : MethodName) (head1 (Jvm.Cond.code (⟨"com/example/melog/melog/protocol/ApiKeyForIdPinLaw", "expected", "(I)Lcom/example/melog/melog/protocol/ApiKey;"⟩ : MethodName) method_2_code 1 (some (.object "com/example/melog/melog/protocol/ApiKey")) :: ws) ({ frames := 0, cells := 0, slots := 0, locals := 0 } : Room)) (fun a U => a = #[(.int (5 : Int32))] ∧ Z.Warmed39 U.vm ∧ U.heap = h0) (fun _ _ _ _ _ => True) (fun _ U o U' => ∃ v L, o = .returned v ∧ Q2_21 Z w_PRODUCE w_METADATA w_LIST_OFFSETS w_JOIN_GROUP w_OFFSET_COMMIT w_FETCH w_FIND_COORDINATOR w_CREATE_TOPICS w_SYNC_GROUP w_OFFSET_FETCH w_HEARTBEAT w_LEAVE_GROUP w_API_VERSIONS w_BY_ID cl_w_BY_ID h0 n0 v U'.heap L ∧ FrameEnd U o U' L ({ frames := 0, cells := 0, slots := 0, locals := 0 } : Room).cells ({ frames := 0, cells := 0, slots := 0, locals := 0 } : Room).slots) := by
  refine MetFree.of_bodySF (plainFor_of_name pn50) hisR ?_
  intro p e s m args below meth c s₁ Bd hml0 hP hK
  obtain ⟨rfl, hZ, hh⟩ := hP
  have hx := Bd.exec
  have hby := Bd.bytes
  have hml : c.maxLocals = 1 := hml0
  have hown : s.vm.findClass "com/example/melog/melog/protocol/ApiKeyForIdPinLaw" = some m.cls := findClass_of_methodNamed Bd.named
  have X0 : Stand p l e ({ frames := 0, cells := 0, slots := 0, locals := 0 } : Room) s m #[(.int (5 : Int32))] below meth c s₁ [] 0 0 := Stand.of_body Bd
  have e0 : s₁.heap = h0 := by rw [← hh, Bd.state]; rfl
  have N0 := Fr.nil n0
  have pre0 : ∀ t, Steps p.tables e below (s₁.setTop (mkF m 0 #[.val (.int (5 : Int32))] [])) t → Steps p.tables e below (s₁.setTop (entryFrame m #[(.int (5 : Int32))] 1)) t := fun t k => castTop (ef49 m (5 : Int32)) k
  obtain ⟨S_w_PRODUCE, E_w_PRODUCE, S_w_METADATA, E_w_METADATA, S_w_LIST_OFFSETS, E_w_LIST_OFFSETS, S_w_JOIN_GROUP, E_w_JOIN_GROUP, S_w_OFFSET_COMMIT, E_w_OFFSET_COMMIT, S_w_FETCH, E_w_FETCH, S_w_FIND_COORDINATOR, E_w_FIND_COORDINATOR, S_w_CREATE_TOPICS, E_w_CREATE_TOPICS, S_w_SYNC_GROUP, E_w_SYNC_GROUP, S_w_OFFSET_FETCH, E_w_OFFSET_FETCH, S_w_HEARTBEAT, E_w_HEARTBEAT, S_w_LEAVE_GROUP, E_w_LEAVE_GROUP, S_w_API_VERSIONS, E_w_API_VERSIONS, S_w_BY_ID, Ar_w_BY_ID, Sz_w_BY_ID, At_w_BY_ID_0, At_w_BY_ID_3, At_w_BY_ID_7, At_w_BY_ID_2, At_w_BY_ID_11, At_w_BY_ID_8, At_w_BY_ID_1, At_w_BY_ID_10, At_w_BY_ID_16, At_w_BY_ID_19, At_w_BY_ID_15, At_w_BY_ID_14, At_w_BY_ID_6, At_w_BY_ID_9, At_w_BY_ID_12, At_w_BY_ID_17, At_w_BY_ID_13, At_w_BY_ID_5, At_w_BY_ID_18, At_w_BY_ID_4, -⟩ := id HW
  obtain ⟨fs, hr, hrun, hended, hW, hsame⟩ := X0.leave (v := some .null) (fun h => by rw [Bd.returns] at h; cases h)
  refine ⟨_, _, pre0 _ ?_, hrun, hended, _, _, rfl, ?_, ⟨_, rfl⟩, hW, hsame.mono (by decide) (by decide)⟩
  · show Steps p.tables e below (s₁.setTop (mkF m 0 #[.val (.int (5 : Int32))] [])) _
    refine XS.iloadN X0.here hx rfl (hb hby d2_0) rfl ?_
    show Steps p.tables e below (s₁.setTop (mkF m 1 #[.val (.int (5 : Int32))] [(.int (5 : Int32))])) _
    refine XS.ifYes X0.here hx rfl (pc0 := 1) (pc' := 8) rfl (hb hby d2_1) rfl ((if0 _ _).trans (feq (by decide : ¬ ((5 : Int32) = (0 : Int32)))).2) (by decide) (by decide) ?_
    show Steps p.tables e below (s₁.setTop (mkF m 8 #[.val (.int (5 : Int32))] [])) _
    refine XS.iloadN X0.here hx rfl (hb hby d2_8) rfl ?_
    show Steps p.tables e below (s₁.setTop (mkF m 9 #[.val (.int (5 : Int32))] [(.int (5 : Int32))])) _
    refine XS.iconst X0.here hx rfl (hb hby d2_9) ?_
    show Steps p.tables e below (s₁.setTop (mkF m 10 #[.val (.int (5 : Int32))] [(.int (1 : Int32)), (.int (5 : Int32))])) _
    refine XS.icmpYes X0.here hx rfl (pc0 := 10) (pc' := 17) rfl (hb hby d2_10) rfl (feq (by decide : ¬ ((5 : Int32) = (1 : Int32)))).2 (by decide) (by decide) ?_
    show Steps p.tables e below (s₁.setTop (mkF m 17 #[.val (.int (5 : Int32))] [])) _
    refine XS.iloadN X0.here hx rfl (hb hby d2_17) rfl ?_
    show Steps p.tables e below (s₁.setTop (mkF m 18 #[.val (.int (5 : Int32))] [(.int (5 : Int32))])) _
    refine XS.iconst X0.here hx rfl (hb hby d2_18) ?_
    show Steps p.tables e below (s₁.setTop (mkF m 19 #[.val (.int (5 : Int32))] [(.int (2 : Int32)), (.int (5 : Int32))])) _
    refine XS.icmpYes X0.here hx rfl (pc0 := 19) (pc' := 26) rfl (hb hby d2_19) rfl (feq (by decide : ¬ ((5 : Int32) = (2 : Int32)))).2 (by decide) (by decide) ?_
    show Steps p.tables e below (s₁.setTop (mkF m 26 #[.val (.int (5 : Int32))] [])) _
    refine XS.iloadN X0.here hx rfl (hb hby d2_26) rfl ?_
    show Steps p.tables e below (s₁.setTop (mkF m 27 #[.val (.int (5 : Int32))] [(.int (5 : Int32))])) _
    refine XS.iconst X0.here hx rfl (hb hby d2_27) ?_
    show Steps p.tables e below (s₁.setTop (mkF m 28 #[.val (.int (5 : Int32))] [(.int (3 : Int32)), (.int (5 : Int32))])) _
    refine XS.icmpYes X0.here hx rfl (pc0 := 28) (pc' := 35) rfl (hb hby d2_28) rfl (feq (by decide : ¬ ((5 : Int32) = (3 : Int32)))).2 (by decide) (by decide) ?_
    show Steps p.tables e below (s₁.setTop (mkF m 35 #[.val (.int (5 : Int32))] [])) _
    refine XS.iloadN X0.here hx rfl (hb hby d2_35) rfl ?_
    show Steps p.tables e below (s₁.setTop (mkF m 36 #[.val (.int (5 : Int32))] [(.int (5 : Int32))])) _
    refine XS.bipush X0.here hx rfl (hb hby d2_36) ?_
    show Steps p.tables e below (s₁.setTop (mkF m 38 #[.val (.int (5 : Int32))] [(.int (8 : Int32)), (.int (5 : Int32))])) _
    refine XS.icmpYes X0.here hx rfl (pc0 := 38) (pc' := 45) rfl (hb hby d2_38) rfl (feq (by decide : ¬ ((5 : Int32) = (8 : Int32)))).2 (by decide) (by decide) ?_
    show Steps p.tables e below (s₁.setTop (mkF m 45 #[.val (.int (5 : Int32))] [])) _
    refine XS.iloadN X0.here hx rfl (hb hby d2_45) rfl ?_
    show Steps p.tables e below (s₁.setTop (mkF m 46 #[.val (.int (5 : Int32))] [(.int (5 : Int32))])) _
    refine XS.bipush X0.here hx rfl (hb hby d2_46) ?_
    show Steps p.tables e below (s₁.setTop (mkF m 48 #[.val (.int (5 : Int32))] [(.int (9 : Int32)), (.int (5 : Int32))])) _
    refine XS.icmpYes X0.here hx rfl (pc0 := 48) (pc' := 55) rfl (hb hby d2_48) rfl (feq (by decide : ¬ ((5 : Int32) = (9 : Int32)))).2 (by decide) (by decide) ?_
    show Steps p.tables e below (s₁.setTop (mkF m 55 #[.val (.int (5 : Int32))] [])) _
    refine XS.iloadN X0.here hx rfl (hb hby d2_55) rfl ?_
    show Steps p.tables e below (s₁.setTop (mkF m 56 #[.val (.int (5 : Int32))] [(.int (5 : Int32))])) _
    refine XS.bipush X0.here hx rfl (hb hby d2_56) ?_
    show Steps p.tables e below (s₁.setTop (mkF m 58 #[.val (.int (5 : Int32))] [(.int (10 : Int32)), (.int (5 : Int32))])) _
    refine XS.icmpYes X0.here hx rfl (pc0 := 58) (pc' := 65) rfl (hb hby d2_58) rfl (feq (by decide : ¬ ((5 : Int32) = (10 : Int32)))).2 (by decide) (by decide) ?_
    show Steps p.tables e below (s₁.setTop (mkF m 65 #[.val (.int (5 : Int32))] [])) _
    refine XS.iloadN X0.here hx rfl (hb hby d2_65) rfl ?_
    show Steps p.tables e below (s₁.setTop (mkF m 66 #[.val (.int (5 : Int32))] [(.int (5 : Int32))])) _
    refine XS.bipush X0.here hx rfl (hb hby d2_66) ?_
    show Steps p.tables e below (s₁.setTop (mkF m 68 #[.val (.int (5 : Int32))] [(.int (11 : Int32)), (.int (5 : Int32))])) _
    refine XS.icmpYes X0.here hx rfl (pc0 := 68) (pc' := 75) rfl (hb hby d2_68) rfl (feq (by decide : ¬ ((5 : Int32) = (11 : Int32)))).2 (by decide) (by decide) ?_
    show Steps p.tables e below (s₁.setTop (mkF m 75 #[.val (.int (5 : Int32))] [])) _
    refine XS.iloadN X0.here hx rfl (hb hby d2_75) rfl ?_
    show Steps p.tables e below (s₁.setTop (mkF m 76 #[.val (.int (5 : Int32))] [(.int (5 : Int32))])) _
    refine XS.bipush X0.here hx rfl (hb hby d2_76) ?_
    show Steps p.tables e below (s₁.setTop (mkF m 78 #[.val (.int (5 : Int32))] [(.int (12 : Int32)), (.int (5 : Int32))])) _
    refine XS.icmpYes X0.here hx rfl (pc0 := 78) (pc' := 85) rfl (hb hby d2_78) rfl (feq (by decide : ¬ ((5 : Int32) = (12 : Int32)))).2 (by decide) (by decide) ?_
    show Steps p.tables e below (s₁.setTop (mkF m 85 #[.val (.int (5 : Int32))] [])) _
    refine XS.iloadN X0.here hx rfl (hb hby d2_85) rfl ?_
    show Steps p.tables e below (s₁.setTop (mkF m 86 #[.val (.int (5 : Int32))] [(.int (5 : Int32))])) _
    refine XS.bipush X0.here hx rfl (hb hby d2_86) ?_
    show Steps p.tables e below (s₁.setTop (mkF m 88 #[.val (.int (5 : Int32))] [(.int (13 : Int32)), (.int (5 : Int32))])) _
    refine XS.icmpYes X0.here hx rfl (pc0 := 88) (pc' := 95) rfl (hb hby d2_88) rfl (feq (by decide : ¬ ((5 : Int32) = (13 : Int32)))).2 (by decide) (by decide) ?_
    show Steps p.tables e below (s₁.setTop (mkF m 95 #[.val (.int (5 : Int32))] [])) _
    refine XS.iloadN X0.here hx rfl (hb hby d2_95) rfl ?_
    show Steps p.tables e below (s₁.setTop (mkF m 96 #[.val (.int (5 : Int32))] [(.int (5 : Int32))])) _
    refine XS.bipush X0.here hx rfl (hb hby d2_96) ?_
    show Steps p.tables e below (s₁.setTop (mkF m 98 #[.val (.int (5 : Int32))] [(.int (14 : Int32)), (.int (5 : Int32))])) _
    refine XS.icmpYes X0.here hx rfl (pc0 := 98) (pc' := 105) rfl (hb hby d2_98) rfl (feq (by decide : ¬ ((5 : Int32) = (14 : Int32)))).2 (by decide) (by decide) ?_
    show Steps p.tables e below (s₁.setTop (mkF m 105 #[.val (.int (5 : Int32))] [])) _
    refine XS.iloadN X0.here hx rfl (hb hby d2_105) rfl ?_
    show Steps p.tables e below (s₁.setTop (mkF m 106 #[.val (.int (5 : Int32))] [(.int (5 : Int32))])) _
    refine XS.bipush X0.here hx rfl (hb hby d2_106) ?_
    show Steps p.tables e below (s₁.setTop (mkF m 108 #[.val (.int (5 : Int32))] [(.int (18 : Int32)), (.int (5 : Int32))])) _
    refine XS.icmpYes X0.here hx rfl (pc0 := 108) (pc' := 115) rfl (hb hby d2_108) rfl (feq (by decide : ¬ ((5 : Int32) = (18 : Int32)))).2 (by decide) (by decide) ?_
    show Steps p.tables e below (s₁.setTop (mkF m 115 #[.val (.int (5 : Int32))] [])) _
    refine XS.iloadN X0.here hx rfl (hb hby d2_115) rfl ?_
    show Steps p.tables e below (s₁.setTop (mkF m 116 #[.val (.int (5 : Int32))] [(.int (5 : Int32))])) _
    refine XS.bipush X0.here hx rfl (hb hby d2_116) ?_
    show Steps p.tables e below (s₁.setTop (mkF m 118 #[.val (.int (5 : Int32))] [(.int (19 : Int32)), (.int (5 : Int32))])) _
    refine XS.icmpYes X0.here hx rfl (pc0 := 118) (pc' := 125) rfl (hb hby d2_118) rfl (feq (by decide : ¬ ((5 : Int32) = (19 : Int32)))).2 (by decide) (by decide) ?_
    show Steps p.tables e below (s₁.setTop (mkF m 125 #[.val (.int (5 : Int32))] [])) _
    refine XS.aconstNull X0.here hx rfl (hb hby d2_125) ?_
    show Steps p.tables e below (s₁.setTop (mkF m 126 #[.val (.int (5 : Int32))] [.null])) _
    jvm_step X0.here [X0.here.top, hx, (hb hby d2_126), X0.method', Bd.returns, Value.isRef, FieldType.isReference]
    first | (intro acts; rw [hr _ acts rfl rfl rfl]) | rw [hr _ _ rfl rfl rfl]
    exact Steps.refl _
  · exact ⟨rfl, N0, e0⟩
set_option maxRecDepth 65536 in
set_option maxHeartbeats 40000000 in
theorem rm0_c5 (l : Launch) (Z : State) (a0 : Array Value) (hw : ∀ d ∈ tables_1, d.before a0 Z = true) (ws : List Jvm.Cond) (w_PRODUCE : Addr) (w_METADATA : Addr) (w_LIST_OFFSETS : Addr) (w_JOIN_GROUP : Addr) (w_OFFSET_COMMIT : Addr) (w_FETCH : Addr) (w_FIND_COORDINATOR : Addr) (w_CREATE_TOPICS : Addr) (w_SYNC_GROUP : Addr) (w_OFFSET_FETCH : Addr) (w_HEARTBEAT : Addr) (w_LEAVE_GROUP : Addr) (w_API_VERSIONS : Addr) (w_BY_ID : Addr) (cl_w_BY_ID : Cell) (p1 : Int32) (h0 : Heap) (n0 : Nat) (Z0 : n0 ≤ h0.size) (HW : World Z h0 w_PRODUCE w_METADATA w_LIST_OFFSETS w_JOIN_GROUP w_OFFSET_COMMIT w_FETCH w_FIND_COORDINATOR w_CREATE_TOPICS w_SYNC_GROUP w_OFFSET_FETCH w_HEARTBEAT w_LEAVE_GROUP w_API_VERSIONS w_BY_ID cl_w_BY_ID) (hk : (p1.toInt16.toInt32) = (5 : Int32)) :
    MetFree l x (head1 (Jvm.Cond.code x code maxLocals ret :: ws) room_1) (fun a U => a = #[(.int p1)] ∧ Z.Warmed39 U.vm ∧ U.heap = h0) (fun _ _ _ _ _ => True) (fun _ U o U' => ∃ v L, o = .returned v ∧ Q0 h0 n0 v U'.heap L ∧ FrameEnd U o U' L room_1.cells room_1.slots) := by
  refine MetFree.of_bodySF (plainFor_of_name pn50) hisR ?_
  intro p e s m args below meth c s₁ Bd hml0 hP hK
  obtain ⟨rfl, hZ, hh⟩ := hP
  have hx := Bd.exec
  have hby := Bd.bytes
  have hml : c.maxLocals = 3 := hml0
  have hown : s.vm.findClass "com/example/melog/melog/protocol/ApiKeyForIdPinLaw" = some m.cls := findClass_of_methodNamed Bd.named
  have X0 : Stand p l e room_1 s m #[(.int p1)] below meth c s₁ [] 0 0 := Stand.of_body Bd
  have e0 : s₁.heap = h0 := by rw [← hh, Bd.state]; rfl
  have N0 := Fr.nil n0
  have pre0 : ∀ t, Steps p.tables e below (s₁.setTop (mkF m 0 #[.val (.int p1), .unset, .unset] [])) t → Steps p.tables e below (s₁.setTop (entryFrame m #[(.int p1)] maxLocals)) t := fun t k => castTop (ef53 m p1) k
  obtain ⟨S_w_PRODUCE, E_w_PRODUCE, S_w_METADATA, E_w_METADATA, S_w_LIST_OFFSETS, E_w_LIST_OFFSETS, S_w_JOIN_GROUP, E_w_JOIN_GROUP, S_w_OFFSET_COMMIT, E_w_OFFSET_COMMIT, S_w_FETCH, E_w_FETCH, S_w_FIND_COORDINATOR, E_w_FIND_COORDINATOR, S_w_CREATE_TOPICS, E_w_CREATE_TOPICS, S_w_SYNC_GROUP, E_w_SYNC_GROUP, S_w_OFFSET_FETCH, E_w_OFFSET_FETCH, S_w_HEARTBEAT, E_w_HEARTBEAT, S_w_LEAVE_GROUP, E_w_LEAVE_GROUP, S_w_API_VERSIONS, E_w_API_VERSIONS, S_w_BY_ID, Ar_w_BY_ID, Sz_w_BY_ID, At_w_BY_ID_0, At_w_BY_ID_3, At_w_BY_ID_7, At_w_BY_ID_2, At_w_BY_ID_11, At_w_BY_ID_8, At_w_BY_ID_1, At_w_BY_ID_10, At_w_BY_ID_16, At_w_BY_ID_19, At_w_BY_ID_15, At_w_BY_ID_14, At_w_BY_ID_6, At_w_BY_ID_9, At_w_BY_ID_12, At_w_BY_ID_17, At_w_BY_ID_13, At_w_BY_ID_5, At_w_BY_ID_18, At_w_BY_ID_4, -⟩ := id HW
  obtain ⟨_, _, ⟨T1, L1, k1, n1⟩, -, X1, ⟨Lc1, hQ1, l1, y1, z1⟩, st1⟩ := Jvm.LawKit.callS X0 hx (y := (⟨"com/example/melog/melog/protocol/ApiKey", "forId", "(S)Lcom/example/melog/melog/protocol/ApiKey;"⟩ : MethodName)) hown (mvT hZ (hw _ (List.mem_of_getElem? (i := 0) rfl))) (mvT hZ (hw _ (List.mem_of_getElem? (i := 1) rfl))) (mvT hZ (hw _ (List.mem_of_getElem? (i := 2) rfl))) (mvT hZ (hw _ (List.mem_of_getElem? (i := 3) rfl))) (by decide) (backOf (W := 0) (rm1_20 l Z a0 hw [] w_PRODUCE w_METADATA w_LIST_OFFSETS w_JOIN_GROUP w_OFFSET_COMMIT w_FETCH w_FIND_COORDINATOR w_CREATE_TOPICS w_SYNC_GROUP w_OFFSET_FETCH w_HEARTBEAT w_LEAVE_GROUP w_API_VERSIONS w_BY_ID cl_w_BY_ID h0 n0 Z0 HW) hZ (hw _ (List.mem_of_getElem? (i := 3) rfl)) (hw _ (List.mem_of_getElem? (i := 2) rfl)) (by decide) (by decide)) (g := (mkF m 4 #[.val (.int p1), .val (.int (5 : Int32)), .unset] [(.int (5 : Int32))])) rfl (by rw [hml]; rfl) (argsL := [(.int (5 : Int32))]) (rest := []) (lenOf pd7 rfl) rfl (by show 2 * 0 + _ ≤ _; exact Nat.le_of_eq rfl) (hb hby at_4) (fun _ _ => ⟨rfl, e0, (by decide : 0 + 0 ≤ _), (by decide : 0 + 0 ≤ _)⟩)
  dsimp only [Pt.U, Pt.locs, Pt.cells, Pt.slots] at X1 l1 y1 z1 st1 hQ1
  subst l1 y1 z1
  obtain ⟨rfl, N1q, e1⟩ := hQ1
  have N1 := Fr.app N0 N1q
  obtain ⟨_, _, ⟨T2, L2, k2, n2⟩, -, X2, ⟨Lc2, hQ2, l2, y2, z2⟩, st2⟩ := Jvm.LawKit.callS X1 hx (y := (⟨"com/example/melog/melog/protocol/ApiKeyForIdPinLaw", "expected", "(I)Lcom/example/melog/melog/protocol/ApiKey;"⟩ : MethodName)) hown (mvT hZ (hw _ (List.mem_of_getElem? (i := 7) rfl))) (mvT hZ (hw _ (List.mem_of_getElem? (i := 8) rfl))) (mvT hZ (hw _ (List.mem_of_getElem? (i := 9) rfl))) (mvT hZ (hw _ (List.mem_of_getElem? (i := 10) rfl))) (by decide) (backOf (W := 1) (rm2_21 l Z a0 hw [] w_PRODUCE w_METADATA w_LIST_OFFSETS w_JOIN_GROUP w_OFFSET_COMMIT w_FETCH w_FIND_COORDINATOR w_CREATE_TOPICS w_SYNC_GROUP w_OFFSET_FETCH w_HEARTBEAT w_LEAVE_GROUP w_API_VERSIONS w_BY_ID cl_w_BY_ID h0 n0 Z0 HW) hZ (hw _ (List.mem_of_getElem? (i := 10) rfl)) (hw _ (List.mem_of_getElem? (i := 9) rfl)) (by decide) (by decide)) (g := (mkF m 10 #[.val (.int p1), .val (.int (5 : Int32)), .val .null] [(.int (5 : Int32)), .null])) rfl (by rw [hml]; rfl) (argsL := [(.int (5 : Int32))]) (rest := [.null]) (lenOf pd51 rfl) rfl (by show 2 * 0 + _ ≤ _; exact Nat.le_of_eq rfl) (hb hby at_10) (fun _ _ => ⟨rfl, e1, (by decide : 0 + 0 ≤ _), (by decide : 0 + 0 ≤ _)⟩)
  dsimp only [Pt.U, Pt.locs, Pt.cells, Pt.slots] at X2 l2 y2 z2 st2 hQ2
  subst l2 y2 z2
  obtain ⟨rfl, N2q, e2⟩ := hQ2
  have N2 := Fr.app N1 N2q
  obtain ⟨fs, hr, hrun, hended, hW, hsame⟩ := X2.leave (v := some (.int (1 : Int32))) (fun h => by rw [Bd.returns] at h; cases h)
  refine ⟨_, _, pre0 _ ?_, hrun, hended, _, _, rfl, ?_, ⟨_, rfl⟩, hW, hsame.mono (by decide) (by decide)⟩
  · show Steps p.tables e below (s₁.setTop (mkF m 0 #[.val (.int p1), .unset, .unset] [])) _
    refine XS.iloadN X0.here hx rfl (hb hby at_0) rfl ?_
    show Steps p.tables e below (s₁.setTop (mkF m 1 #[.val (.int p1), .unset, .unset] [(.int p1)])) _
    refine XS.i2s X0.here hx rfl (hb hby at_1) rfl ?_
    rw [hk]
    show Steps p.tables e below (s₁.setTop (mkF m 2 #[.val (.int p1), .unset, .unset] [(.int (5 : Int32))])) _
    refine XS.istoreN X0.here hx rfl (hb hby at_2) rfl (l' := #[.val (.int p1), .val (.int (5 : Int32)), .unset]) rfl ?_
    show Steps p.tables e below (s₁.setTop (mkF m 3 #[.val (.int p1), .val (.int (5 : Int32)), .unset] [])) _
    refine XS.iloadN X0.here hx rfl (hb hby at_3) rfl ?_
    show Steps p.tables e below (s₁.setTop (mkF m 4 #[.val (.int p1), .val (.int (5 : Int32)), .unset] [(.int (5 : Int32))])) _
    refine st1 _ ?_
    show Steps p.tables e below (T1.setTop (mkF m 7 #[.val (.int p1), .val (.int (5 : Int32)), .unset] [.null])) _
    refine XS.astoreN X1.here hx rfl (hb hby at_7) rfl rfl (l' := #[.val (.int p1), .val (.int (5 : Int32)), .val .null]) rfl ?_
    show Steps p.tables e below (T1.setTop (mkF m 8 #[.val (.int p1), .val (.int (5 : Int32)), .val .null] [])) _
    refine XS.aloadN X1.here hx rfl (hb hby at_8) rfl rfl ?_
    show Steps p.tables e below (T1.setTop (mkF m 9 #[.val (.int p1), .val (.int (5 : Int32)), .val .null] [.null])) _
    refine XS.iloadN X1.here hx rfl (hb hby at_9) rfl ?_
    show Steps p.tables e below (T1.setTop (mkF m 10 #[.val (.int p1), .val (.int (5 : Int32)), .val .null] [(.int (5 : Int32)), .null])) _
    refine st2 _ ?_
    show Steps p.tables e below (T2.setTop (mkF m 13 #[.val (.int p1), .val (.int (5 : Int32)), .val .null] [.null, .null])) _
    refine Jvm.RoadKit.acmp (g := (mkF m 13 #[.val (.int p1), .val (.int (5 : Int32)), .val .null] [.null, .null])) X2 hx rfl rfl rfl (pc0 := 13) (pc' := 16) (same := true) rfl (hb hby at_13) rfl (decide_eq_true rfl) (by decide) (by decide) ?_
    show Steps p.tables e below (T2.setTop (mkF m 16 #[.val (.int p1), .val (.int (5 : Int32)), .val .null] [])) _
    refine XS.iconst X2.here hx rfl (hb hby at_16) ?_
    show Steps p.tables e below (T2.setTop (mkF m 17 #[.val (.int p1), .val (.int (5 : Int32)), .val .null] [(.int (1 : Int32))])) _
    refine XS.goto X2.here hx rfl (pc0 := 17) (pc' := 21) rfl (hb hby at_17) (by decide) (by decide) ?_
    show Steps p.tables e below (T2.setTop (mkF m 21 #[.val (.int p1), .val (.int (5 : Int32)), .val .null] [(.int (1 : Int32))])) _
    exact retN X2 hx (t := .boolean) Bd.returns (by simp) (hb hby at_21) hr
  · exact ⟨rfl, N2⟩
def Q1_23 (Z : State) (w_PRODUCE : Addr) (w_METADATA : Addr) (w_LIST_OFFSETS : Addr) (w_JOIN_GROUP : Addr) (w_OFFSET_COMMIT : Addr) (w_FETCH : Addr) (w_FIND_COORDINATOR : Addr) (w_CREATE_TOPICS : Addr) (w_SYNC_GROUP : Addr) (w_OFFSET_FETCH : Addr) (w_HEARTBEAT : Addr) (w_LEAVE_GROUP : Addr) (w_API_VERSIONS : Addr) (w_BY_ID : Addr) (cl_w_BY_ID : Cell) (h0 : Heap) (n0 : Nat) (v : Option Value) (h : Heap) (L : List Loc) : Prop := v = some .null ∧ Fr n0 L ∧ h = h0
set_option maxRecDepth 65536 in
set_option maxHeartbeats 40000000 in
theorem rm1_23 (l : Launch) (Z : State) (a0 : Array Value) (hw : ∀ d ∈ tables_1, d.before a0 Z = true) (ws : List Jvm.Cond) (w_PRODUCE : Addr) (w_METADATA : Addr) (w_LIST_OFFSETS : Addr) (w_JOIN_GROUP : Addr) (w_OFFSET_COMMIT : Addr) (w_FETCH : Addr) (w_FIND_COORDINATOR : Addr) (w_CREATE_TOPICS : Addr) (w_SYNC_GROUP : Addr) (w_OFFSET_FETCH : Addr) (w_HEARTBEAT : Addr) (w_LEAVE_GROUP : Addr) (w_API_VERSIONS : Addr) (w_BY_ID : Addr) (cl_w_BY_ID : Cell) (h0 : Heap) (n0 : Nat) (Z0 : n0 ≤ h0.size) (HW : World Z h0 w_PRODUCE w_METADATA w_LIST_OFFSETS w_JOIN_GROUP w_OFFSET_COMMIT w_FETCH w_FIND_COORDINATOR w_CREATE_TOPICS w_SYNC_GROUP w_OFFSET_FETCH w_HEARTBEAT w_LEAVE_GROUP w_API_VERSIONS w_BY_ID cl_w_BY_ID) :
    MetFree l (⟨"com/example/melog/melog/protocol/ApiKey", "forId", "(S)Lcom/example/melog/melog/protocol/ApiKey;"⟩ : MethodName) (head1 (Jvm.Cond.code (⟨"com/example/melog/melog/protocol/ApiKey", "forId", "(S)Lcom/example/melog/melog/protocol/ApiKey;"⟩ : MethodName) prog_9_method_4_code 1 (some (.object "com/example/melog/melog/protocol/ApiKey")) :: ws) ({ frames := 0, cells := 0, slots := 0, locals := 0 } : Room)) (fun a U => a = #[(.int (6 : Int32))] ∧ Z.Warmed39 U.vm ∧ U.heap = h0) (fun _ _ _ _ _ => True) (fun _ U o U' => ∃ v L, o = .returned v ∧ Q1_23 Z w_PRODUCE w_METADATA w_LIST_OFFSETS w_JOIN_GROUP w_OFFSET_COMMIT w_FETCH w_FIND_COORDINATOR w_CREATE_TOPICS w_SYNC_GROUP w_OFFSET_FETCH w_HEARTBEAT w_LEAVE_GROUP w_API_VERSIONS w_BY_ID cl_w_BY_ID h0 n0 v U'.heap L ∧ FrameEnd U o U' L ({ frames := 0, cells := 0, slots := 0, locals := 0 } : Room).cells ({ frames := 0, cells := 0, slots := 0, locals := 0 } : Room).slots) := by
  refine MetFree.of_bodySF (plainFor_of_name pn6) hisR ?_
  intro p e s m args below meth c s₁ Bd hml0 hP hK
  obtain ⟨rfl, hZ, hh⟩ := hP
  have hx := Bd.exec
  have hby := Bd.bytes
  have hml : c.maxLocals = 1 := hml0
  have hown : s.vm.findClass "com/example/melog/melog/protocol/ApiKey" = some m.cls := findClass_of_methodNamed Bd.named
  have X0 : Stand p l e ({ frames := 0, cells := 0, slots := 0, locals := 0 } : Room) s m #[(.int (6 : Int32))] below meth c s₁ [] 0 0 := Stand.of_body Bd
  have e0 : s₁.heap = h0 := by rw [← hh, Bd.state]; rfl
  have N0 := Fr.nil n0
  have pre0 : ∀ t, Steps p.tables e below (s₁.setTop (mkF m 0 #[.val (.int (6 : Int32))] [])) t → Steps p.tables e below (s₁.setTop (entryFrame m #[(.int (6 : Int32))] 1)) t := fun t k => castTop (ef5 m (6 : Int32)) k
  obtain ⟨S_w_PRODUCE, E_w_PRODUCE, S_w_METADATA, E_w_METADATA, S_w_LIST_OFFSETS, E_w_LIST_OFFSETS, S_w_JOIN_GROUP, E_w_JOIN_GROUP, S_w_OFFSET_COMMIT, E_w_OFFSET_COMMIT, S_w_FETCH, E_w_FETCH, S_w_FIND_COORDINATOR, E_w_FIND_COORDINATOR, S_w_CREATE_TOPICS, E_w_CREATE_TOPICS, S_w_SYNC_GROUP, E_w_SYNC_GROUP, S_w_OFFSET_FETCH, E_w_OFFSET_FETCH, S_w_HEARTBEAT, E_w_HEARTBEAT, S_w_LEAVE_GROUP, E_w_LEAVE_GROUP, S_w_API_VERSIONS, E_w_API_VERSIONS, S_w_BY_ID, Ar_w_BY_ID, Sz_w_BY_ID, At_w_BY_ID_0, At_w_BY_ID_3, At_w_BY_ID_7, At_w_BY_ID_2, At_w_BY_ID_11, At_w_BY_ID_8, At_w_BY_ID_1, At_w_BY_ID_10, At_w_BY_ID_16, At_w_BY_ID_19, At_w_BY_ID_15, At_w_BY_ID_14, At_w_BY_ID_6, At_w_BY_ID_9, At_w_BY_ID_12, At_w_BY_ID_17, At_w_BY_ID_13, At_w_BY_ID_5, At_w_BY_ID_18, At_w_BY_ID_4, -⟩ := id HW
  obtain ⟨T1, X1, e1, st1⟩ := getS2 X0 hx hZ hown (host := "") (Or.inl (hw _ (List.mem_of_getElem? (i := 4) rfl))) Via.refl e0 S_w_BY_ID (g := (mkF m 5 #[.val (.int (6 : Int32))] [(.int (6 : Int32))])) rfl (hb hby d1_5)
  obtain ⟨T2, X2, e2, st2⟩ := getS2 X1 hx hZ hown (host := "") (Or.inl (hw _ (List.mem_of_getElem? (i := 4) rfl))) Via.refl e1 S_w_BY_ID (g := (mkF m 12 #[.val (.int (6 : Int32))] [])) rfl (hb hby d1_12)
  obtain ⟨fs, hr, hrun, hended, hW, hsame⟩ := X2.leave (v := some .null) (fun h => by rw [Bd.returns] at h; cases h)
  refine ⟨_, _, pre0 _ ?_, hrun, hended, _, _, rfl, ?_, ⟨_, rfl⟩, hW, hsame.mono (by decide) (by decide)⟩
  · show Steps p.tables e below (s₁.setTop (mkF m 0 #[.val (.int (6 : Int32))] [])) _
    refine XS.iloadN X0.here hx rfl (hb hby d1_0) rfl ?_
    show Steps p.tables e below (s₁.setTop (mkF m 1 #[.val (.int (6 : Int32))] [(.int (6 : Int32))])) _
    refine XS.ifNo X0.here hx rfl (hb hby d1_1) rfl ((if0 _ _).trans (flt (by decide : ¬ ((6 : Int32) < (0 : Int32)))).1) ?_
    show Steps p.tables e below (s₁.setTop (mkF m 4 #[.val (.int (6 : Int32))] [])) _
    refine XS.iloadN X0.here hx rfl (hb hby d1_4) rfl ?_
    show Steps p.tables e below (s₁.setTop (mkF m 5 #[.val (.int (6 : Int32))] [(.int (6 : Int32))])) _
    refine st1 _ ?_
    show Steps p.tables e below (T1.setTop (mkF m 8 #[.val (.int (6 : Int32))] [(.ref w_BY_ID), (.int (6 : Int32))])) _
    refine X1.arraylength hx (by rw [e1]; exact Ar_w_BY_ID.1) (State.isArrayOf_alike hZ.alike Ar_w_BY_ID.2.1) (g := (mkF m 8 #[.val (.int (6 : Int32))] [(.ref w_BY_ID), (.int (6 : Int32))])) rfl rfl (hb hby d1_8) _ ?_
    rw [Sz_w_BY_ID]
    show Steps p.tables e below (T1.setTop (mkF m 9 #[.val (.int (6 : Int32))] [(.int (20 : Int32)), (.int (6 : Int32))])) _
    refine XS.icmpNo X1.here hx rfl (hb hby d1_9) rfl (tlt (by decide : (6 : Int32) < (20 : Int32))).2.1 ?_
    show Steps p.tables e below (T1.setTop (mkF m 12 #[.val (.int (6 : Int32))] [])) _
    refine st2 _ ?_
    show Steps p.tables e below (T2.setTop (mkF m 15 #[.val (.int (6 : Int32))] [(.ref w_BY_ID)])) _
    refine XS.iloadN X2.here hx rfl (hb hby d1_15) rfl ?_
    show Steps p.tables e below (T2.setTop (mkF m 16 #[.val (.int (6 : Int32))] [(.int (6 : Int32)), (.ref w_BY_ID)])) _
    refine X2.aaload hx (j := (6 : Int32)) (v := .null) (by rw [e2]; exact Ar_w_BY_ID.1) (State.isArrayOf_alike hZ.alike Ar_w_BY_ID.2.1) rfl Ar_w_BY_ID.2.2 At_w_BY_ID_6.1 At_w_BY_ID_6.2 (g := (mkF m 16 #[.val (.int (6 : Int32))] [(.int (6 : Int32)), (.ref w_BY_ID)])) rfl rfl (hb hby d1_16) _ ?_
    show Steps p.tables e below (T2.setTop (mkF m 17 #[.val (.int (6 : Int32))] [.null])) _
    refine XS.goto X2.here hx rfl (pc0 := 17) (pc' := 21) rfl (hb hby d1_17) (by decide) (by decide) ?_
    show Steps p.tables e below (T2.setTop (mkF m 21 #[.val (.int (6 : Int32))] [.null])) _
    jvm_step X2.here [X2.here.top, hx, (hb hby d1_21), X2.method', Bd.returns, Value.isRef, FieldType.isReference]
    first | (intro acts; rw [hr _ acts rfl rfl rfl]) | rw [hr _ _ rfl rfl rfl]
    exact Steps.refl _
  · exact ⟨rfl, N0, e2⟩
def Q2_24 (Z : State) (w_PRODUCE : Addr) (w_METADATA : Addr) (w_LIST_OFFSETS : Addr) (w_JOIN_GROUP : Addr) (w_OFFSET_COMMIT : Addr) (w_FETCH : Addr) (w_FIND_COORDINATOR : Addr) (w_CREATE_TOPICS : Addr) (w_SYNC_GROUP : Addr) (w_OFFSET_FETCH : Addr) (w_HEARTBEAT : Addr) (w_LEAVE_GROUP : Addr) (w_API_VERSIONS : Addr) (w_BY_ID : Addr) (cl_w_BY_ID : Cell) (h0 : Heap) (n0 : Nat) (v : Option Value) (h : Heap) (L : List Loc) : Prop := v = some .null ∧ Fr n0 L ∧ h = h0
set_option maxRecDepth 65536 in
set_option maxHeartbeats 40000000 in
theorem rm2_24 (l : Launch) (Z : State) (a0 : Array Value) (hw : ∀ d ∈ tables_1, d.before a0 Z = true) (ws : List Jvm.Cond) (w_PRODUCE : Addr) (w_METADATA : Addr) (w_LIST_OFFSETS : Addr) (w_JOIN_GROUP : Addr) (w_OFFSET_COMMIT : Addr) (w_FETCH : Addr) (w_FIND_COORDINATOR : Addr) (w_CREATE_TOPICS : Addr) (w_SYNC_GROUP : Addr) (w_OFFSET_FETCH : Addr) (w_HEARTBEAT : Addr) (w_LEAVE_GROUP : Addr) (w_API_VERSIONS : Addr) (w_BY_ID : Addr) (cl_w_BY_ID : Cell) (h0 : Heap) (n0 : Nat) (Z0 : n0 ≤ h0.size) (HW : World Z h0 w_PRODUCE w_METADATA w_LIST_OFFSETS w_JOIN_GROUP w_OFFSET_COMMIT w_FETCH w_FIND_COORDINATOR w_CREATE_TOPICS w_SYNC_GROUP w_OFFSET_FETCH w_HEARTBEAT w_LEAVE_GROUP w_API_VERSIONS w_BY_ID cl_w_BY_ID) :
    MetFree l (⟨"com/example/melog/melog/protocol/ApiKeyForIdPinLaw", "expected", "(I)Lcom/example/melog/melog/protocol/ApiKey;"⟩ : MethodName) (head1 (Jvm.Cond.code (⟨"com/example/melog/melog/protocol/ApiKeyForIdPinLaw", "expected", "(I)Lcom/example/melog/melog/protocol/ApiKey;"⟩ : MethodName) method_2_code 1 (some (.object "com/example/melog/melog/protocol/ApiKey")) :: ws) ({ frames := 0, cells := 0, slots := 0, locals := 0 } : Room)) (fun a U => a = #[(.int (6 : Int32))] ∧ Z.Warmed39 U.vm ∧ U.heap = h0) (fun _ _ _ _ _ => True) (fun _ U o U' => ∃ v L, o = .returned v ∧ Q2_24 Z w_PRODUCE w_METADATA w_LIST_OFFSETS w_JOIN_GROUP w_OFFSET_COMMIT w_FETCH w_FIND_COORDINATOR w_CREATE_TOPICS w_SYNC_GROUP w_OFFSET_FETCH w_HEARTBEAT w_LEAVE_GROUP w_API_VERSIONS w_BY_ID cl_w_BY_ID h0 n0 v U'.heap L ∧ FrameEnd U o U' L ({ frames := 0, cells := 0, slots := 0, locals := 0 } : Room).cells ({ frames := 0, cells := 0, slots := 0, locals := 0 } : Room).slots) := by
  refine MetFree.of_bodySF (plainFor_of_name pn50) hisR ?_
  intro p e s m args below meth c s₁ Bd hml0 hP hK
  obtain ⟨rfl, hZ, hh⟩ := hP
  have hx := Bd.exec
  have hby := Bd.bytes
  have hml : c.maxLocals = 1 := hml0
  have hown : s.vm.findClass "com/example/melog/melog/protocol/ApiKeyForIdPinLaw" = some m.cls := findClass_of_methodNamed Bd.named
  have X0 : Stand p l e ({ frames := 0, cells := 0, slots := 0, locals := 0 } : Room) s m #[(.int (6 : Int32))] below meth c s₁ [] 0 0 := Stand.of_body Bd
  have e0 : s₁.heap = h0 := by rw [← hh, Bd.state]; rfl
  have N0 := Fr.nil n0
  have pre0 : ∀ t, Steps p.tables e below (s₁.setTop (mkF m 0 #[.val (.int (6 : Int32))] [])) t → Steps p.tables e below (s₁.setTop (entryFrame m #[(.int (6 : Int32))] 1)) t := fun t k => castTop (ef49 m (6 : Int32)) k
  obtain ⟨S_w_PRODUCE, E_w_PRODUCE, S_w_METADATA, E_w_METADATA, S_w_LIST_OFFSETS, E_w_LIST_OFFSETS, S_w_JOIN_GROUP, E_w_JOIN_GROUP, S_w_OFFSET_COMMIT, E_w_OFFSET_COMMIT, S_w_FETCH, E_w_FETCH, S_w_FIND_COORDINATOR, E_w_FIND_COORDINATOR, S_w_CREATE_TOPICS, E_w_CREATE_TOPICS, S_w_SYNC_GROUP, E_w_SYNC_GROUP, S_w_OFFSET_FETCH, E_w_OFFSET_FETCH, S_w_HEARTBEAT, E_w_HEARTBEAT, S_w_LEAVE_GROUP, E_w_LEAVE_GROUP, S_w_API_VERSIONS, E_w_API_VERSIONS, S_w_BY_ID, Ar_w_BY_ID, Sz_w_BY_ID, At_w_BY_ID_0, At_w_BY_ID_3, At_w_BY_ID_7, At_w_BY_ID_2, At_w_BY_ID_11, At_w_BY_ID_8, At_w_BY_ID_1, At_w_BY_ID_10, At_w_BY_ID_16, At_w_BY_ID_19, At_w_BY_ID_15, At_w_BY_ID_14, At_w_BY_ID_6, At_w_BY_ID_9, At_w_BY_ID_12, At_w_BY_ID_17, At_w_BY_ID_13, At_w_BY_ID_5, At_w_BY_ID_18, At_w_BY_ID_4, -⟩ := id HW
  obtain ⟨fs, hr, hrun, hended, hW, hsame⟩ := X0.leave (v := some .null) (fun h => by rw [Bd.returns] at h; cases h)
  refine ⟨_, _, pre0 _ ?_, hrun, hended, _, _, rfl, ?_, ⟨_, rfl⟩, hW, hsame.mono (by decide) (by decide)⟩
  · show Steps p.tables e below (s₁.setTop (mkF m 0 #[.val (.int (6 : Int32))] [])) _
    refine XS.iloadN X0.here hx rfl (hb hby d2_0) rfl ?_
    show Steps p.tables e below (s₁.setTop (mkF m 1 #[.val (.int (6 : Int32))] [(.int (6 : Int32))])) _
    refine XS.ifYes X0.here hx rfl (pc0 := 1) (pc' := 8) rfl (hb hby d2_1) rfl ((if0 _ _).trans (feq (by decide : ¬ ((6 : Int32) = (0 : Int32)))).2) (by decide) (by decide) ?_
    show Steps p.tables e below (s₁.setTop (mkF m 8 #[.val (.int (6 : Int32))] [])) _
    refine XS.iloadN X0.here hx rfl (hb hby d2_8) rfl ?_
    show Steps p.tables e below (s₁.setTop (mkF m 9 #[.val (.int (6 : Int32))] [(.int (6 : Int32))])) _
    refine XS.iconst X0.here hx rfl (hb hby d2_9) ?_
    show Steps p.tables e below (s₁.setTop (mkF m 10 #[.val (.int (6 : Int32))] [(.int (1 : Int32)), (.int (6 : Int32))])) _
    refine XS.icmpYes X0.here hx rfl (pc0 := 10) (pc' := 17) rfl (hb hby d2_10) rfl (feq (by decide : ¬ ((6 : Int32) = (1 : Int32)))).2 (by decide) (by decide) ?_
    show Steps p.tables e below (s₁.setTop (mkF m 17 #[.val (.int (6 : Int32))] [])) _
    refine XS.iloadN X0.here hx rfl (hb hby d2_17) rfl ?_
    show Steps p.tables e below (s₁.setTop (mkF m 18 #[.val (.int (6 : Int32))] [(.int (6 : Int32))])) _
    refine XS.iconst X0.here hx rfl (hb hby d2_18) ?_
    show Steps p.tables e below (s₁.setTop (mkF m 19 #[.val (.int (6 : Int32))] [(.int (2 : Int32)), (.int (6 : Int32))])) _
    refine XS.icmpYes X0.here hx rfl (pc0 := 19) (pc' := 26) rfl (hb hby d2_19) rfl (feq (by decide : ¬ ((6 : Int32) = (2 : Int32)))).2 (by decide) (by decide) ?_
    show Steps p.tables e below (s₁.setTop (mkF m 26 #[.val (.int (6 : Int32))] [])) _
    refine XS.iloadN X0.here hx rfl (hb hby d2_26) rfl ?_
    show Steps p.tables e below (s₁.setTop (mkF m 27 #[.val (.int (6 : Int32))] [(.int (6 : Int32))])) _
    refine XS.iconst X0.here hx rfl (hb hby d2_27) ?_
    show Steps p.tables e below (s₁.setTop (mkF m 28 #[.val (.int (6 : Int32))] [(.int (3 : Int32)), (.int (6 : Int32))])) _
    refine XS.icmpYes X0.here hx rfl (pc0 := 28) (pc' := 35) rfl (hb hby d2_28) rfl (feq (by decide : ¬ ((6 : Int32) = (3 : Int32)))).2 (by decide) (by decide) ?_
    show Steps p.tables e below (s₁.setTop (mkF m 35 #[.val (.int (6 : Int32))] [])) _
    refine XS.iloadN X0.here hx rfl (hb hby d2_35) rfl ?_
    show Steps p.tables e below (s₁.setTop (mkF m 36 #[.val (.int (6 : Int32))] [(.int (6 : Int32))])) _
    refine XS.bipush X0.here hx rfl (hb hby d2_36) ?_
    show Steps p.tables e below (s₁.setTop (mkF m 38 #[.val (.int (6 : Int32))] [(.int (8 : Int32)), (.int (6 : Int32))])) _
    refine XS.icmpYes X0.here hx rfl (pc0 := 38) (pc' := 45) rfl (hb hby d2_38) rfl (feq (by decide : ¬ ((6 : Int32) = (8 : Int32)))).2 (by decide) (by decide) ?_
    show Steps p.tables e below (s₁.setTop (mkF m 45 #[.val (.int (6 : Int32))] [])) _
    refine XS.iloadN X0.here hx rfl (hb hby d2_45) rfl ?_
    show Steps p.tables e below (s₁.setTop (mkF m 46 #[.val (.int (6 : Int32))] [(.int (6 : Int32))])) _
    refine XS.bipush X0.here hx rfl (hb hby d2_46) ?_
    show Steps p.tables e below (s₁.setTop (mkF m 48 #[.val (.int (6 : Int32))] [(.int (9 : Int32)), (.int (6 : Int32))])) _
    refine XS.icmpYes X0.here hx rfl (pc0 := 48) (pc' := 55) rfl (hb hby d2_48) rfl (feq (by decide : ¬ ((6 : Int32) = (9 : Int32)))).2 (by decide) (by decide) ?_
    show Steps p.tables e below (s₁.setTop (mkF m 55 #[.val (.int (6 : Int32))] [])) _
    refine XS.iloadN X0.here hx rfl (hb hby d2_55) rfl ?_
    show Steps p.tables e below (s₁.setTop (mkF m 56 #[.val (.int (6 : Int32))] [(.int (6 : Int32))])) _
    refine XS.bipush X0.here hx rfl (hb hby d2_56) ?_
    show Steps p.tables e below (s₁.setTop (mkF m 58 #[.val (.int (6 : Int32))] [(.int (10 : Int32)), (.int (6 : Int32))])) _
    refine XS.icmpYes X0.here hx rfl (pc0 := 58) (pc' := 65) rfl (hb hby d2_58) rfl (feq (by decide : ¬ ((6 : Int32) = (10 : Int32)))).2 (by decide) (by decide) ?_
    show Steps p.tables e below (s₁.setTop (mkF m 65 #[.val (.int (6 : Int32))] [])) _
    refine XS.iloadN X0.here hx rfl (hb hby d2_65) rfl ?_
    show Steps p.tables e below (s₁.setTop (mkF m 66 #[.val (.int (6 : Int32))] [(.int (6 : Int32))])) _
    refine XS.bipush X0.here hx rfl (hb hby d2_66) ?_
    show Steps p.tables e below (s₁.setTop (mkF m 68 #[.val (.int (6 : Int32))] [(.int (11 : Int32)), (.int (6 : Int32))])) _
    refine XS.icmpYes X0.here hx rfl (pc0 := 68) (pc' := 75) rfl (hb hby d2_68) rfl (feq (by decide : ¬ ((6 : Int32) = (11 : Int32)))).2 (by decide) (by decide) ?_
    show Steps p.tables e below (s₁.setTop (mkF m 75 #[.val (.int (6 : Int32))] [])) _
    refine XS.iloadN X0.here hx rfl (hb hby d2_75) rfl ?_
    show Steps p.tables e below (s₁.setTop (mkF m 76 #[.val (.int (6 : Int32))] [(.int (6 : Int32))])) _
    refine XS.bipush X0.here hx rfl (hb hby d2_76) ?_
    show Steps p.tables e below (s₁.setTop (mkF m 78 #[.val (.int (6 : Int32))] [(.int (12 : Int32)), (.int (6 : Int32))])) _
    refine XS.icmpYes X0.here hx rfl (pc0 := 78) (pc' := 85) rfl (hb hby d2_78) rfl (feq (by decide : ¬ ((6 : Int32) = (12 : Int32)))).2 (by decide) (by decide) ?_
    show Steps p.tables e below (s₁.setTop (mkF m 85 #[.val (.int (6 : Int32))] [])) _
    refine XS.iloadN X0.here hx rfl (hb hby d2_85) rfl ?_
    show Steps p.tables e below (s₁.setTop (mkF m 86 #[.val (.int (6 : Int32))] [(.int (6 : Int32))])) _
    refine XS.bipush X0.here hx rfl (hb hby d2_86) ?_
    show Steps p.tables e below (s₁.setTop (mkF m 88 #[.val (.int (6 : Int32))] [(.int (13 : Int32)), (.int (6 : Int32))])) _
    refine XS.icmpYes X0.here hx rfl (pc0 := 88) (pc' := 95) rfl (hb hby d2_88) rfl (feq (by decide : ¬ ((6 : Int32) = (13 : Int32)))).2 (by decide) (by decide) ?_
    show Steps p.tables e below (s₁.setTop (mkF m 95 #[.val (.int (6 : Int32))] [])) _
    refine XS.iloadN X0.here hx rfl (hb hby d2_95) rfl ?_
    show Steps p.tables e below (s₁.setTop (mkF m 96 #[.val (.int (6 : Int32))] [(.int (6 : Int32))])) _
    refine XS.bipush X0.here hx rfl (hb hby d2_96) ?_
    show Steps p.tables e below (s₁.setTop (mkF m 98 #[.val (.int (6 : Int32))] [(.int (14 : Int32)), (.int (6 : Int32))])) _
    refine XS.icmpYes X0.here hx rfl (pc0 := 98) (pc' := 105) rfl (hb hby d2_98) rfl (feq (by decide : ¬ ((6 : Int32) = (14 : Int32)))).2 (by decide) (by decide) ?_
    show Steps p.tables e below (s₁.setTop (mkF m 105 #[.val (.int (6 : Int32))] [])) _
    refine XS.iloadN X0.here hx rfl (hb hby d2_105) rfl ?_
    show Steps p.tables e below (s₁.setTop (mkF m 106 #[.val (.int (6 : Int32))] [(.int (6 : Int32))])) _
    refine XS.bipush X0.here hx rfl (hb hby d2_106) ?_
    show Steps p.tables e below (s₁.setTop (mkF m 108 #[.val (.int (6 : Int32))] [(.int (18 : Int32)), (.int (6 : Int32))])) _
    refine XS.icmpYes X0.here hx rfl (pc0 := 108) (pc' := 115) rfl (hb hby d2_108) rfl (feq (by decide : ¬ ((6 : Int32) = (18 : Int32)))).2 (by decide) (by decide) ?_
    show Steps p.tables e below (s₁.setTop (mkF m 115 #[.val (.int (6 : Int32))] [])) _
    refine XS.iloadN X0.here hx rfl (hb hby d2_115) rfl ?_
    show Steps p.tables e below (s₁.setTop (mkF m 116 #[.val (.int (6 : Int32))] [(.int (6 : Int32))])) _
    refine XS.bipush X0.here hx rfl (hb hby d2_116) ?_
    show Steps p.tables e below (s₁.setTop (mkF m 118 #[.val (.int (6 : Int32))] [(.int (19 : Int32)), (.int (6 : Int32))])) _
    refine XS.icmpYes X0.here hx rfl (pc0 := 118) (pc' := 125) rfl (hb hby d2_118) rfl (feq (by decide : ¬ ((6 : Int32) = (19 : Int32)))).2 (by decide) (by decide) ?_
    show Steps p.tables e below (s₁.setTop (mkF m 125 #[.val (.int (6 : Int32))] [])) _
    refine XS.aconstNull X0.here hx rfl (hb hby d2_125) ?_
    show Steps p.tables e below (s₁.setTop (mkF m 126 #[.val (.int (6 : Int32))] [.null])) _
    jvm_step X0.here [X0.here.top, hx, (hb hby d2_126), X0.method', Bd.returns, Value.isRef, FieldType.isReference]
    first | (intro acts; rw [hr _ acts rfl rfl rfl]) | rw [hr _ _ rfl rfl rfl]
    exact Steps.refl _
  · exact ⟨rfl, N0, e0⟩
set_option maxRecDepth 65536 in
set_option maxHeartbeats 40000000 in
theorem rm0_c6 (l : Launch) (Z : State) (a0 : Array Value) (hw : ∀ d ∈ tables_1, d.before a0 Z = true) (ws : List Jvm.Cond) (w_PRODUCE : Addr) (w_METADATA : Addr) (w_LIST_OFFSETS : Addr) (w_JOIN_GROUP : Addr) (w_OFFSET_COMMIT : Addr) (w_FETCH : Addr) (w_FIND_COORDINATOR : Addr) (w_CREATE_TOPICS : Addr) (w_SYNC_GROUP : Addr) (w_OFFSET_FETCH : Addr) (w_HEARTBEAT : Addr) (w_LEAVE_GROUP : Addr) (w_API_VERSIONS : Addr) (w_BY_ID : Addr) (cl_w_BY_ID : Cell) (p1 : Int32) (h0 : Heap) (n0 : Nat) (Z0 : n0 ≤ h0.size) (HW : World Z h0 w_PRODUCE w_METADATA w_LIST_OFFSETS w_JOIN_GROUP w_OFFSET_COMMIT w_FETCH w_FIND_COORDINATOR w_CREATE_TOPICS w_SYNC_GROUP w_OFFSET_FETCH w_HEARTBEAT w_LEAVE_GROUP w_API_VERSIONS w_BY_ID cl_w_BY_ID) (hk : (p1.toInt16.toInt32) = (6 : Int32)) :
    MetFree l x (head1 (Jvm.Cond.code x code maxLocals ret :: ws) room_1) (fun a U => a = #[(.int p1)] ∧ Z.Warmed39 U.vm ∧ U.heap = h0) (fun _ _ _ _ _ => True) (fun _ U o U' => ∃ v L, o = .returned v ∧ Q0 h0 n0 v U'.heap L ∧ FrameEnd U o U' L room_1.cells room_1.slots) := by
  refine MetFree.of_bodySF (plainFor_of_name pn50) hisR ?_
  intro p e s m args below meth c s₁ Bd hml0 hP hK
  obtain ⟨rfl, hZ, hh⟩ := hP
  have hx := Bd.exec
  have hby := Bd.bytes
  have hml : c.maxLocals = 3 := hml0
  have hown : s.vm.findClass "com/example/melog/melog/protocol/ApiKeyForIdPinLaw" = some m.cls := findClass_of_methodNamed Bd.named
  have X0 : Stand p l e room_1 s m #[(.int p1)] below meth c s₁ [] 0 0 := Stand.of_body Bd
  have e0 : s₁.heap = h0 := by rw [← hh, Bd.state]; rfl
  have N0 := Fr.nil n0
  have pre0 : ∀ t, Steps p.tables e below (s₁.setTop (mkF m 0 #[.val (.int p1), .unset, .unset] [])) t → Steps p.tables e below (s₁.setTop (entryFrame m #[(.int p1)] maxLocals)) t := fun t k => castTop (ef53 m p1) k
  obtain ⟨S_w_PRODUCE, E_w_PRODUCE, S_w_METADATA, E_w_METADATA, S_w_LIST_OFFSETS, E_w_LIST_OFFSETS, S_w_JOIN_GROUP, E_w_JOIN_GROUP, S_w_OFFSET_COMMIT, E_w_OFFSET_COMMIT, S_w_FETCH, E_w_FETCH, S_w_FIND_COORDINATOR, E_w_FIND_COORDINATOR, S_w_CREATE_TOPICS, E_w_CREATE_TOPICS, S_w_SYNC_GROUP, E_w_SYNC_GROUP, S_w_OFFSET_FETCH, E_w_OFFSET_FETCH, S_w_HEARTBEAT, E_w_HEARTBEAT, S_w_LEAVE_GROUP, E_w_LEAVE_GROUP, S_w_API_VERSIONS, E_w_API_VERSIONS, S_w_BY_ID, Ar_w_BY_ID, Sz_w_BY_ID, At_w_BY_ID_0, At_w_BY_ID_3, At_w_BY_ID_7, At_w_BY_ID_2, At_w_BY_ID_11, At_w_BY_ID_8, At_w_BY_ID_1, At_w_BY_ID_10, At_w_BY_ID_16, At_w_BY_ID_19, At_w_BY_ID_15, At_w_BY_ID_14, At_w_BY_ID_6, At_w_BY_ID_9, At_w_BY_ID_12, At_w_BY_ID_17, At_w_BY_ID_13, At_w_BY_ID_5, At_w_BY_ID_18, At_w_BY_ID_4, -⟩ := id HW
  obtain ⟨_, _, ⟨T1, L1, k1, n1⟩, -, X1, ⟨Lc1, hQ1, l1, y1, z1⟩, st1⟩ := Jvm.LawKit.callS X0 hx (y := (⟨"com/example/melog/melog/protocol/ApiKey", "forId", "(S)Lcom/example/melog/melog/protocol/ApiKey;"⟩ : MethodName)) hown (mvT hZ (hw _ (List.mem_of_getElem? (i := 0) rfl))) (mvT hZ (hw _ (List.mem_of_getElem? (i := 1) rfl))) (mvT hZ (hw _ (List.mem_of_getElem? (i := 2) rfl))) (mvT hZ (hw _ (List.mem_of_getElem? (i := 3) rfl))) (by decide) (backOf (W := 0) (rm1_23 l Z a0 hw [] w_PRODUCE w_METADATA w_LIST_OFFSETS w_JOIN_GROUP w_OFFSET_COMMIT w_FETCH w_FIND_COORDINATOR w_CREATE_TOPICS w_SYNC_GROUP w_OFFSET_FETCH w_HEARTBEAT w_LEAVE_GROUP w_API_VERSIONS w_BY_ID cl_w_BY_ID h0 n0 Z0 HW) hZ (hw _ (List.mem_of_getElem? (i := 3) rfl)) (hw _ (List.mem_of_getElem? (i := 2) rfl)) (by decide) (by decide)) (g := (mkF m 4 #[.val (.int p1), .val (.int (6 : Int32)), .unset] [(.int (6 : Int32))])) rfl (by rw [hml]; rfl) (argsL := [(.int (6 : Int32))]) (rest := []) (lenOf pd7 rfl) rfl (by show 2 * 0 + _ ≤ _; exact Nat.le_of_eq rfl) (hb hby at_4) (fun _ _ => ⟨rfl, e0, (by decide : 0 + 0 ≤ _), (by decide : 0 + 0 ≤ _)⟩)
  dsimp only [Pt.U, Pt.locs, Pt.cells, Pt.slots] at X1 l1 y1 z1 st1 hQ1
  subst l1 y1 z1
  obtain ⟨rfl, N1q, e1⟩ := hQ1
  have N1 := Fr.app N0 N1q
  obtain ⟨_, _, ⟨T2, L2, k2, n2⟩, -, X2, ⟨Lc2, hQ2, l2, y2, z2⟩, st2⟩ := Jvm.LawKit.callS X1 hx (y := (⟨"com/example/melog/melog/protocol/ApiKeyForIdPinLaw", "expected", "(I)Lcom/example/melog/melog/protocol/ApiKey;"⟩ : MethodName)) hown (mvT hZ (hw _ (List.mem_of_getElem? (i := 7) rfl))) (mvT hZ (hw _ (List.mem_of_getElem? (i := 8) rfl))) (mvT hZ (hw _ (List.mem_of_getElem? (i := 9) rfl))) (mvT hZ (hw _ (List.mem_of_getElem? (i := 10) rfl))) (by decide) (backOf (W := 1) (rm2_24 l Z a0 hw [] w_PRODUCE w_METADATA w_LIST_OFFSETS w_JOIN_GROUP w_OFFSET_COMMIT w_FETCH w_FIND_COORDINATOR w_CREATE_TOPICS w_SYNC_GROUP w_OFFSET_FETCH w_HEARTBEAT w_LEAVE_GROUP w_API_VERSIONS w_BY_ID cl_w_BY_ID h0 n0 Z0 HW) hZ (hw _ (List.mem_of_getElem? (i := 10) rfl)) (hw _ (List.mem_of_getElem? (i := 9) rfl)) (by decide) (by decide)) (g := (mkF m 10 #[.val (.int p1), .val (.int (6 : Int32)), .val .null] [(.int (6 : Int32)), .null])) rfl (by rw [hml]; rfl) (argsL := [(.int (6 : Int32))]) (rest := [.null]) (lenOf pd51 rfl) rfl (by show 2 * 0 + _ ≤ _; exact Nat.le_of_eq rfl) (hb hby at_10) (fun _ _ => ⟨rfl, e1, (by decide : 0 + 0 ≤ _), (by decide : 0 + 0 ≤ _)⟩)
  dsimp only [Pt.U, Pt.locs, Pt.cells, Pt.slots] at X2 l2 y2 z2 st2 hQ2
  subst l2 y2 z2
  obtain ⟨rfl, N2q, e2⟩ := hQ2
  have N2 := Fr.app N1 N2q
  obtain ⟨fs, hr, hrun, hended, hW, hsame⟩ := X2.leave (v := some (.int (1 : Int32))) (fun h => by rw [Bd.returns] at h; cases h)
  refine ⟨_, _, pre0 _ ?_, hrun, hended, _, _, rfl, ?_, ⟨_, rfl⟩, hW, hsame.mono (by decide) (by decide)⟩
  · show Steps p.tables e below (s₁.setTop (mkF m 0 #[.val (.int p1), .unset, .unset] [])) _
    refine XS.iloadN X0.here hx rfl (hb hby at_0) rfl ?_
    show Steps p.tables e below (s₁.setTop (mkF m 1 #[.val (.int p1), .unset, .unset] [(.int p1)])) _
    refine XS.i2s X0.here hx rfl (hb hby at_1) rfl ?_
    rw [hk]
    show Steps p.tables e below (s₁.setTop (mkF m 2 #[.val (.int p1), .unset, .unset] [(.int (6 : Int32))])) _
    refine XS.istoreN X0.here hx rfl (hb hby at_2) rfl (l' := #[.val (.int p1), .val (.int (6 : Int32)), .unset]) rfl ?_
    show Steps p.tables e below (s₁.setTop (mkF m 3 #[.val (.int p1), .val (.int (6 : Int32)), .unset] [])) _
    refine XS.iloadN X0.here hx rfl (hb hby at_3) rfl ?_
    show Steps p.tables e below (s₁.setTop (mkF m 4 #[.val (.int p1), .val (.int (6 : Int32)), .unset] [(.int (6 : Int32))])) _
    refine st1 _ ?_
    show Steps p.tables e below (T1.setTop (mkF m 7 #[.val (.int p1), .val (.int (6 : Int32)), .unset] [.null])) _
    refine XS.astoreN X1.here hx rfl (hb hby at_7) rfl rfl (l' := #[.val (.int p1), .val (.int (6 : Int32)), .val .null]) rfl ?_
    show Steps p.tables e below (T1.setTop (mkF m 8 #[.val (.int p1), .val (.int (6 : Int32)), .val .null] [])) _
    refine XS.aloadN X1.here hx rfl (hb hby at_8) rfl rfl ?_
    show Steps p.tables e below (T1.setTop (mkF m 9 #[.val (.int p1), .val (.int (6 : Int32)), .val .null] [.null])) _
    refine XS.iloadN X1.here hx rfl (hb hby at_9) rfl ?_
    show Steps p.tables e below (T1.setTop (mkF m 10 #[.val (.int p1), .val (.int (6 : Int32)), .val .null] [(.int (6 : Int32)), .null])) _
    refine st2 _ ?_
    show Steps p.tables e below (T2.setTop (mkF m 13 #[.val (.int p1), .val (.int (6 : Int32)), .val .null] [.null, .null])) _
    refine Jvm.RoadKit.acmp (g := (mkF m 13 #[.val (.int p1), .val (.int (6 : Int32)), .val .null] [.null, .null])) X2 hx rfl rfl rfl (pc0 := 13) (pc' := 16) (same := true) rfl (hb hby at_13) rfl (decide_eq_true rfl) (by decide) (by decide) ?_
    show Steps p.tables e below (T2.setTop (mkF m 16 #[.val (.int p1), .val (.int (6 : Int32)), .val .null] [])) _
    refine XS.iconst X2.here hx rfl (hb hby at_16) ?_
    show Steps p.tables e below (T2.setTop (mkF m 17 #[.val (.int p1), .val (.int (6 : Int32)), .val .null] [(.int (1 : Int32))])) _
    refine XS.goto X2.here hx rfl (pc0 := 17) (pc' := 21) rfl (hb hby at_17) (by decide) (by decide) ?_
    show Steps p.tables e below (T2.setTop (mkF m 21 #[.val (.int p1), .val (.int (6 : Int32)), .val .null] [(.int (1 : Int32))])) _
    exact retN X2 hx (t := .boolean) Bd.returns (by simp) (hb hby at_21) hr
  · exact ⟨rfl, N2⟩
def Q1_26 (Z : State) (w_PRODUCE : Addr) (w_METADATA : Addr) (w_LIST_OFFSETS : Addr) (w_JOIN_GROUP : Addr) (w_OFFSET_COMMIT : Addr) (w_FETCH : Addr) (w_FIND_COORDINATOR : Addr) (w_CREATE_TOPICS : Addr) (w_SYNC_GROUP : Addr) (w_OFFSET_FETCH : Addr) (w_HEARTBEAT : Addr) (w_LEAVE_GROUP : Addr) (w_API_VERSIONS : Addr) (w_BY_ID : Addr) (cl_w_BY_ID : Cell) (h0 : Heap) (n0 : Nat) (v : Option Value) (h : Heap) (L : List Loc) : Prop := v = some .null ∧ Fr n0 L ∧ h = h0
set_option maxRecDepth 65536 in
set_option maxHeartbeats 40000000 in
theorem rm1_26 (l : Launch) (Z : State) (a0 : Array Value) (hw : ∀ d ∈ tables_1, d.before a0 Z = true) (ws : List Jvm.Cond) (w_PRODUCE : Addr) (w_METADATA : Addr) (w_LIST_OFFSETS : Addr) (w_JOIN_GROUP : Addr) (w_OFFSET_COMMIT : Addr) (w_FETCH : Addr) (w_FIND_COORDINATOR : Addr) (w_CREATE_TOPICS : Addr) (w_SYNC_GROUP : Addr) (w_OFFSET_FETCH : Addr) (w_HEARTBEAT : Addr) (w_LEAVE_GROUP : Addr) (w_API_VERSIONS : Addr) (w_BY_ID : Addr) (cl_w_BY_ID : Cell) (h0 : Heap) (n0 : Nat) (Z0 : n0 ≤ h0.size) (HW : World Z h0 w_PRODUCE w_METADATA w_LIST_OFFSETS w_JOIN_GROUP w_OFFSET_COMMIT w_FETCH w_FIND_COORDINATOR w_CREATE_TOPICS w_SYNC_GROUP w_OFFSET_FETCH w_HEARTBEAT w_LEAVE_GROUP w_API_VERSIONS w_BY_ID cl_w_BY_ID) :
    MetFree l (⟨"com/example/melog/melog/protocol/ApiKey", "forId", "(S)Lcom/example/melog/melog/protocol/ApiKey;"⟩ : MethodName) (head1 (Jvm.Cond.code (⟨"com/example/melog/melog/protocol/ApiKey", "forId", "(S)Lcom/example/melog/melog/protocol/ApiKey;"⟩ : MethodName) prog_9_method_4_code 1 (some (.object "com/example/melog/melog/protocol/ApiKey")) :: ws) ({ frames := 0, cells := 0, slots := 0, locals := 0 } : Room)) (fun a U => a = #[(.int (7 : Int32))] ∧ Z.Warmed39 U.vm ∧ U.heap = h0) (fun _ _ _ _ _ => True) (fun _ U o U' => ∃ v L, o = .returned v ∧ Q1_26 Z w_PRODUCE w_METADATA w_LIST_OFFSETS w_JOIN_GROUP w_OFFSET_COMMIT w_FETCH w_FIND_COORDINATOR w_CREATE_TOPICS w_SYNC_GROUP w_OFFSET_FETCH w_HEARTBEAT w_LEAVE_GROUP w_API_VERSIONS w_BY_ID cl_w_BY_ID h0 n0 v U'.heap L ∧ FrameEnd U o U' L ({ frames := 0, cells := 0, slots := 0, locals := 0 } : Room).cells ({ frames := 0, cells := 0, slots := 0, locals := 0 } : Room).slots) := by
  refine MetFree.of_bodySF (plainFor_of_name pn6) hisR ?_
  intro p e s m args below meth c s₁ Bd hml0 hP hK
  obtain ⟨rfl, hZ, hh⟩ := hP
  have hx := Bd.exec
  have hby := Bd.bytes
  have hml : c.maxLocals = 1 := hml0
  have hown : s.vm.findClass "com/example/melog/melog/protocol/ApiKey" = some m.cls := findClass_of_methodNamed Bd.named
  have X0 : Stand p l e ({ frames := 0, cells := 0, slots := 0, locals := 0 } : Room) s m #[(.int (7 : Int32))] below meth c s₁ [] 0 0 := Stand.of_body Bd
  have e0 : s₁.heap = h0 := by rw [← hh, Bd.state]; rfl
  have N0 := Fr.nil n0
  have pre0 : ∀ t, Steps p.tables e below (s₁.setTop (mkF m 0 #[.val (.int (7 : Int32))] [])) t → Steps p.tables e below (s₁.setTop (entryFrame m #[(.int (7 : Int32))] 1)) t := fun t k => castTop (ef5 m (7 : Int32)) k
  obtain ⟨S_w_PRODUCE, E_w_PRODUCE, S_w_METADATA, E_w_METADATA, S_w_LIST_OFFSETS, E_w_LIST_OFFSETS, S_w_JOIN_GROUP, E_w_JOIN_GROUP, S_w_OFFSET_COMMIT, E_w_OFFSET_COMMIT, S_w_FETCH, E_w_FETCH, S_w_FIND_COORDINATOR, E_w_FIND_COORDINATOR, S_w_CREATE_TOPICS, E_w_CREATE_TOPICS, S_w_SYNC_GROUP, E_w_SYNC_GROUP, S_w_OFFSET_FETCH, E_w_OFFSET_FETCH, S_w_HEARTBEAT, E_w_HEARTBEAT, S_w_LEAVE_GROUP, E_w_LEAVE_GROUP, S_w_API_VERSIONS, E_w_API_VERSIONS, S_w_BY_ID, Ar_w_BY_ID, Sz_w_BY_ID, At_w_BY_ID_0, At_w_BY_ID_3, At_w_BY_ID_7, At_w_BY_ID_2, At_w_BY_ID_11, At_w_BY_ID_8, At_w_BY_ID_1, At_w_BY_ID_10, At_w_BY_ID_16, At_w_BY_ID_19, At_w_BY_ID_15, At_w_BY_ID_14, At_w_BY_ID_6, At_w_BY_ID_9, At_w_BY_ID_12, At_w_BY_ID_17, At_w_BY_ID_13, At_w_BY_ID_5, At_w_BY_ID_18, At_w_BY_ID_4, -⟩ := id HW
  obtain ⟨T1, X1, e1, st1⟩ := getS2 X0 hx hZ hown (host := "") (Or.inl (hw _ (List.mem_of_getElem? (i := 4) rfl))) Via.refl e0 S_w_BY_ID (g := (mkF m 5 #[.val (.int (7 : Int32))] [(.int (7 : Int32))])) rfl (hb hby d1_5)
  obtain ⟨T2, X2, e2, st2⟩ := getS2 X1 hx hZ hown (host := "") (Or.inl (hw _ (List.mem_of_getElem? (i := 4) rfl))) Via.refl e1 S_w_BY_ID (g := (mkF m 12 #[.val (.int (7 : Int32))] [])) rfl (hb hby d1_12)
  obtain ⟨fs, hr, hrun, hended, hW, hsame⟩ := X2.leave (v := some .null) (fun h => by rw [Bd.returns] at h; cases h)
  refine ⟨_, _, pre0 _ ?_, hrun, hended, _, _, rfl, ?_, ⟨_, rfl⟩, hW, hsame.mono (by decide) (by decide)⟩
  · show Steps p.tables e below (s₁.setTop (mkF m 0 #[.val (.int (7 : Int32))] [])) _
    refine XS.iloadN X0.here hx rfl (hb hby d1_0) rfl ?_
    show Steps p.tables e below (s₁.setTop (mkF m 1 #[.val (.int (7 : Int32))] [(.int (7 : Int32))])) _
    refine XS.ifNo X0.here hx rfl (hb hby d1_1) rfl ((if0 _ _).trans (flt (by decide : ¬ ((7 : Int32) < (0 : Int32)))).1) ?_
    show Steps p.tables e below (s₁.setTop (mkF m 4 #[.val (.int (7 : Int32))] [])) _
    refine XS.iloadN X0.here hx rfl (hb hby d1_4) rfl ?_
    show Steps p.tables e below (s₁.setTop (mkF m 5 #[.val (.int (7 : Int32))] [(.int (7 : Int32))])) _
    refine st1 _ ?_
    show Steps p.tables e below (T1.setTop (mkF m 8 #[.val (.int (7 : Int32))] [(.ref w_BY_ID), (.int (7 : Int32))])) _
    refine X1.arraylength hx (by rw [e1]; exact Ar_w_BY_ID.1) (State.isArrayOf_alike hZ.alike Ar_w_BY_ID.2.1) (g := (mkF m 8 #[.val (.int (7 : Int32))] [(.ref w_BY_ID), (.int (7 : Int32))])) rfl rfl (hb hby d1_8) _ ?_
    rw [Sz_w_BY_ID]
    show Steps p.tables e below (T1.setTop (mkF m 9 #[.val (.int (7 : Int32))] [(.int (20 : Int32)), (.int (7 : Int32))])) _
    refine XS.icmpNo X1.here hx rfl (hb hby d1_9) rfl (tlt (by decide : (7 : Int32) < (20 : Int32))).2.1 ?_
    show Steps p.tables e below (T1.setTop (mkF m 12 #[.val (.int (7 : Int32))] [])) _
    refine st2 _ ?_
    show Steps p.tables e below (T2.setTop (mkF m 15 #[.val (.int (7 : Int32))] [(.ref w_BY_ID)])) _
    refine XS.iloadN X2.here hx rfl (hb hby d1_15) rfl ?_
    show Steps p.tables e below (T2.setTop (mkF m 16 #[.val (.int (7 : Int32))] [(.int (7 : Int32)), (.ref w_BY_ID)])) _
    refine X2.aaload hx (j := (7 : Int32)) (v := .null) (by rw [e2]; exact Ar_w_BY_ID.1) (State.isArrayOf_alike hZ.alike Ar_w_BY_ID.2.1) rfl Ar_w_BY_ID.2.2 At_w_BY_ID_7.1 At_w_BY_ID_7.2 (g := (mkF m 16 #[.val (.int (7 : Int32))] [(.int (7 : Int32)), (.ref w_BY_ID)])) rfl rfl (hb hby d1_16) _ ?_
    show Steps p.tables e below (T2.setTop (mkF m 17 #[.val (.int (7 : Int32))] [.null])) _
    refine XS.goto X2.here hx rfl (pc0 := 17) (pc' := 21) rfl (hb hby d1_17) (by decide) (by decide) ?_
    show Steps p.tables e below (T2.setTop (mkF m 21 #[.val (.int (7 : Int32))] [.null])) _
    jvm_step X2.here [X2.here.top, hx, (hb hby d1_21), X2.method', Bd.returns, Value.isRef, FieldType.isReference]
    first | (intro acts; rw [hr _ acts rfl rfl rfl]) | rw [hr _ _ rfl rfl rfl]
    exact Steps.refl _
  · exact ⟨rfl, N0, e2⟩
def Q2_27 (Z : State) (w_PRODUCE : Addr) (w_METADATA : Addr) (w_LIST_OFFSETS : Addr) (w_JOIN_GROUP : Addr) (w_OFFSET_COMMIT : Addr) (w_FETCH : Addr) (w_FIND_COORDINATOR : Addr) (w_CREATE_TOPICS : Addr) (w_SYNC_GROUP : Addr) (w_OFFSET_FETCH : Addr) (w_HEARTBEAT : Addr) (w_LEAVE_GROUP : Addr) (w_API_VERSIONS : Addr) (w_BY_ID : Addr) (cl_w_BY_ID : Cell) (h0 : Heap) (n0 : Nat) (v : Option Value) (h : Heap) (L : List Loc) : Prop := v = some .null ∧ Fr n0 L ∧ h = h0
set_option maxRecDepth 65536 in
set_option maxHeartbeats 40000000 in
theorem rm2_27 (l : Launch) (Z : State) (a0 : Array Value) (hw : ∀ d ∈ tables_1, d.before a0 Z = true) (ws : List Jvm.Cond) (w_PRODUCE : Addr) (w_METADATA : Addr) (w_LIST_OFFSETS : Addr) (w_JOIN_GROUP : Addr) (w_OFFSET_COMMIT : Addr) (w_FETCH : Addr) (w_FIND_COORDINATOR : Addr) (w_CREATE_TOPICS : Addr) (w_SYNC_GROUP : Addr) (w_OFFSET_FETCH : Addr) (w_HEARTBEAT : Addr) (w_LEAVE_GROUP : Addr) (w_API_VERSIONS : Addr) (w_BY_ID : Addr) (cl_w_BY_ID : Cell) (h0 : Heap) (n0 : Nat) (Z0 : n0 ≤ h0.size) (HW : World Z h0 w_PRODUCE w_METADATA w_LIST_OFFSETS w_JOIN_GROUP w_OFFSET_COMMIT w_FETCH w_FIND_COORDINATOR w_CREATE_TOPICS w_SYNC_GROUP w_OFFSET_FETCH w_HEARTBEAT w_LEAVE_GROUP w_API_VERSIONS w_BY_ID cl_w_BY_ID) :
    MetFree l (⟨"com/example/melog/melog/protocol/ApiKeyForIdPinLaw", "expected", "(I)Lcom/example/melog/melog/protocol/ApiKey;"⟩ : MethodName) (head1 (Jvm.Cond.code (⟨"com/example/melog/melog/protocol/ApiKeyForIdPinLaw", "expected", "(I)Lcom/example/melog/melog/protocol/ApiKey;"⟩ : MethodName) method_2_code 1 (some (.object "com/example/melog/melog/protocol/ApiKey")) :: ws) ({ frames := 0, cells := 0, slots := 0, locals := 0 } : Room)) (fun a U => a = #[(.int (7 : Int32))] ∧ Z.Warmed39 U.vm ∧ U.heap = h0) (fun _ _ _ _ _ => True) (fun _ U o U' => ∃ v L, o = .returned v ∧ Q2_27 Z w_PRODUCE w_METADATA w_LIST_OFFSETS w_JOIN_GROUP w_OFFSET_COMMIT w_FETCH w_FIND_COORDINATOR w_CREATE_TOPICS w_SYNC_GROUP w_OFFSET_FETCH w_HEARTBEAT w_LEAVE_GROUP w_API_VERSIONS w_BY_ID cl_w_BY_ID h0 n0 v U'.heap L ∧ FrameEnd U o U' L ({ frames := 0, cells := 0, slots := 0, locals := 0 } : Room).cells ({ frames := 0, cells := 0, slots := 0, locals := 0 } : Room).slots) := by
  refine MetFree.of_bodySF (plainFor_of_name pn50) hisR ?_
  intro p e s m args below meth c s₁ Bd hml0 hP hK
  obtain ⟨rfl, hZ, hh⟩ := hP
  have hx := Bd.exec
  have hby := Bd.bytes
  have hml : c.maxLocals = 1 := hml0
  have hown : s.vm.findClass "com/example/melog/melog/protocol/ApiKeyForIdPinLaw" = some m.cls := findClass_of_methodNamed Bd.named
  have X0 : Stand p l e ({ frames := 0, cells := 0, slots := 0, locals := 0 } : Room) s m #[(.int (7 : Int32))] below meth c s₁ [] 0 0 := Stand.of_body Bd
  have e0 : s₁.heap = h0 := by rw [← hh, Bd.state]; rfl
  have N0 := Fr.nil n0
  have pre0 : ∀ t, Steps p.tables e below (s₁.setTop (mkF m 0 #[.val (.int (7 : Int32))] [])) t → Steps p.tables e below (s₁.setTop (entryFrame m #[(.int (7 : Int32))] 1)) t := fun t k => castTop (ef49 m (7 : Int32)) k
  obtain ⟨S_w_PRODUCE, E_w_PRODUCE, S_w_METADATA, E_w_METADATA, S_w_LIST_OFFSETS, E_w_LIST_OFFSETS, S_w_JOIN_GROUP, E_w_JOIN_GROUP, S_w_OFFSET_COMMIT, E_w_OFFSET_COMMIT, S_w_FETCH, E_w_FETCH, S_w_FIND_COORDINATOR, E_w_FIND_COORDINATOR, S_w_CREATE_TOPICS, E_w_CREATE_TOPICS, S_w_SYNC_GROUP, E_w_SYNC_GROUP, S_w_OFFSET_FETCH, E_w_OFFSET_FETCH, S_w_HEARTBEAT, E_w_HEARTBEAT, S_w_LEAVE_GROUP, E_w_LEAVE_GROUP, S_w_API_VERSIONS, E_w_API_VERSIONS, S_w_BY_ID, Ar_w_BY_ID, Sz_w_BY_ID, At_w_BY_ID_0, At_w_BY_ID_3, At_w_BY_ID_7, At_w_BY_ID_2, At_w_BY_ID_11, At_w_BY_ID_8, At_w_BY_ID_1, At_w_BY_ID_10, At_w_BY_ID_16, At_w_BY_ID_19, At_w_BY_ID_15, At_w_BY_ID_14, At_w_BY_ID_6, At_w_BY_ID_9, At_w_BY_ID_12, At_w_BY_ID_17, At_w_BY_ID_13, At_w_BY_ID_5, At_w_BY_ID_18, At_w_BY_ID_4, -⟩ := id HW
  obtain ⟨fs, hr, hrun, hended, hW, hsame⟩ := X0.leave (v := some .null) (fun h => by rw [Bd.returns] at h; cases h)
  refine ⟨_, _, pre0 _ ?_, hrun, hended, _, _, rfl, ?_, ⟨_, rfl⟩, hW, hsame.mono (by decide) (by decide)⟩
  · show Steps p.tables e below (s₁.setTop (mkF m 0 #[.val (.int (7 : Int32))] [])) _
    refine XS.iloadN X0.here hx rfl (hb hby d2_0) rfl ?_
    show Steps p.tables e below (s₁.setTop (mkF m 1 #[.val (.int (7 : Int32))] [(.int (7 : Int32))])) _
    refine XS.ifYes X0.here hx rfl (pc0 := 1) (pc' := 8) rfl (hb hby d2_1) rfl ((if0 _ _).trans (feq (by decide : ¬ ((7 : Int32) = (0 : Int32)))).2) (by decide) (by decide) ?_
    show Steps p.tables e below (s₁.setTop (mkF m 8 #[.val (.int (7 : Int32))] [])) _
    refine XS.iloadN X0.here hx rfl (hb hby d2_8) rfl ?_
    show Steps p.tables e below (s₁.setTop (mkF m 9 #[.val (.int (7 : Int32))] [(.int (7 : Int32))])) _
    refine XS.iconst X0.here hx rfl (hb hby d2_9) ?_
    show Steps p.tables e below (s₁.setTop (mkF m 10 #[.val (.int (7 : Int32))] [(.int (1 : Int32)), (.int (7 : Int32))])) _
    refine XS.icmpYes X0.here hx rfl (pc0 := 10) (pc' := 17) rfl (hb hby d2_10) rfl (feq (by decide : ¬ ((7 : Int32) = (1 : Int32)))).2 (by decide) (by decide) ?_
    show Steps p.tables e below (s₁.setTop (mkF m 17 #[.val (.int (7 : Int32))] [])) _
    refine XS.iloadN X0.here hx rfl (hb hby d2_17) rfl ?_
    show Steps p.tables e below (s₁.setTop (mkF m 18 #[.val (.int (7 : Int32))] [(.int (7 : Int32))])) _
    refine XS.iconst X0.here hx rfl (hb hby d2_18) ?_
    show Steps p.tables e below (s₁.setTop (mkF m 19 #[.val (.int (7 : Int32))] [(.int (2 : Int32)), (.int (7 : Int32))])) _
    refine XS.icmpYes X0.here hx rfl (pc0 := 19) (pc' := 26) rfl (hb hby d2_19) rfl (feq (by decide : ¬ ((7 : Int32) = (2 : Int32)))).2 (by decide) (by decide) ?_
    show Steps p.tables e below (s₁.setTop (mkF m 26 #[.val (.int (7 : Int32))] [])) _
    refine XS.iloadN X0.here hx rfl (hb hby d2_26) rfl ?_
    show Steps p.tables e below (s₁.setTop (mkF m 27 #[.val (.int (7 : Int32))] [(.int (7 : Int32))])) _
    refine XS.iconst X0.here hx rfl (hb hby d2_27) ?_
    show Steps p.tables e below (s₁.setTop (mkF m 28 #[.val (.int (7 : Int32))] [(.int (3 : Int32)), (.int (7 : Int32))])) _
    refine XS.icmpYes X0.here hx rfl (pc0 := 28) (pc' := 35) rfl (hb hby d2_28) rfl (feq (by decide : ¬ ((7 : Int32) = (3 : Int32)))).2 (by decide) (by decide) ?_
    show Steps p.tables e below (s₁.setTop (mkF m 35 #[.val (.int (7 : Int32))] [])) _
    refine XS.iloadN X0.here hx rfl (hb hby d2_35) rfl ?_
    show Steps p.tables e below (s₁.setTop (mkF m 36 #[.val (.int (7 : Int32))] [(.int (7 : Int32))])) _
    refine XS.bipush X0.here hx rfl (hb hby d2_36) ?_
    show Steps p.tables e below (s₁.setTop (mkF m 38 #[.val (.int (7 : Int32))] [(.int (8 : Int32)), (.int (7 : Int32))])) _
    refine XS.icmpYes X0.here hx rfl (pc0 := 38) (pc' := 45) rfl (hb hby d2_38) rfl (feq (by decide : ¬ ((7 : Int32) = (8 : Int32)))).2 (by decide) (by decide) ?_
    show Steps p.tables e below (s₁.setTop (mkF m 45 #[.val (.int (7 : Int32))] [])) _
    refine XS.iloadN X0.here hx rfl (hb hby d2_45) rfl ?_
    show Steps p.tables e below (s₁.setTop (mkF m 46 #[.val (.int (7 : Int32))] [(.int (7 : Int32))])) _
    refine XS.bipush X0.here hx rfl (hb hby d2_46) ?_
    show Steps p.tables e below (s₁.setTop (mkF m 48 #[.val (.int (7 : Int32))] [(.int (9 : Int32)), (.int (7 : Int32))])) _
    refine XS.icmpYes X0.here hx rfl (pc0 := 48) (pc' := 55) rfl (hb hby d2_48) rfl (feq (by decide : ¬ ((7 : Int32) = (9 : Int32)))).2 (by decide) (by decide) ?_
    show Steps p.tables e below (s₁.setTop (mkF m 55 #[.val (.int (7 : Int32))] [])) _
    refine XS.iloadN X0.here hx rfl (hb hby d2_55) rfl ?_
    show Steps p.tables e below (s₁.setTop (mkF m 56 #[.val (.int (7 : Int32))] [(.int (7 : Int32))])) _
    refine XS.bipush X0.here hx rfl (hb hby d2_56) ?_
    show Steps p.tables e below (s₁.setTop (mkF m 58 #[.val (.int (7 : Int32))] [(.int (10 : Int32)), (.int (7 : Int32))])) _
    refine XS.icmpYes X0.here hx rfl (pc0 := 58) (pc' := 65) rfl (hb hby d2_58) rfl (feq (by decide : ¬ ((7 : Int32) = (10 : Int32)))).2 (by decide) (by decide) ?_
    show Steps p.tables e below (s₁.setTop (mkF m 65 #[.val (.int (7 : Int32))] [])) _
    refine XS.iloadN X0.here hx rfl (hb hby d2_65) rfl ?_
    show Steps p.tables e below (s₁.setTop (mkF m 66 #[.val (.int (7 : Int32))] [(.int (7 : Int32))])) _
    refine XS.bipush X0.here hx rfl (hb hby d2_66) ?_
    show Steps p.tables e below (s₁.setTop (mkF m 68 #[.val (.int (7 : Int32))] [(.int (11 : Int32)), (.int (7 : Int32))])) _
    refine XS.icmpYes X0.here hx rfl (pc0 := 68) (pc' := 75) rfl (hb hby d2_68) rfl (feq (by decide : ¬ ((7 : Int32) = (11 : Int32)))).2 (by decide) (by decide) ?_
    show Steps p.tables e below (s₁.setTop (mkF m 75 #[.val (.int (7 : Int32))] [])) _
    refine XS.iloadN X0.here hx rfl (hb hby d2_75) rfl ?_
    show Steps p.tables e below (s₁.setTop (mkF m 76 #[.val (.int (7 : Int32))] [(.int (7 : Int32))])) _
    refine XS.bipush X0.here hx rfl (hb hby d2_76) ?_
    show Steps p.tables e below (s₁.setTop (mkF m 78 #[.val (.int (7 : Int32))] [(.int (12 : Int32)), (.int (7 : Int32))])) _
    refine XS.icmpYes X0.here hx rfl (pc0 := 78) (pc' := 85) rfl (hb hby d2_78) rfl (feq (by decide : ¬ ((7 : Int32) = (12 : Int32)))).2 (by decide) (by decide) ?_
    show Steps p.tables e below (s₁.setTop (mkF m 85 #[.val (.int (7 : Int32))] [])) _
    refine XS.iloadN X0.here hx rfl (hb hby d2_85) rfl ?_
    show Steps p.tables e below (s₁.setTop (mkF m 86 #[.val (.int (7 : Int32))] [(.int (7 : Int32))])) _
    refine XS.bipush X0.here hx rfl (hb hby d2_86) ?_
    show Steps p.tables e below (s₁.setTop (mkF m 88 #[.val (.int (7 : Int32))] [(.int (13 : Int32)), (.int (7 : Int32))])) _
    refine XS.icmpYes X0.here hx rfl (pc0 := 88) (pc' := 95) rfl (hb hby d2_88) rfl (feq (by decide : ¬ ((7 : Int32) = (13 : Int32)))).2 (by decide) (by decide) ?_
    show Steps p.tables e below (s₁.setTop (mkF m 95 #[.val (.int (7 : Int32))] [])) _
    refine XS.iloadN X0.here hx rfl (hb hby d2_95) rfl ?_
    show Steps p.tables e below (s₁.setTop (mkF m 96 #[.val (.int (7 : Int32))] [(.int (7 : Int32))])) _
    refine XS.bipush X0.here hx rfl (hb hby d2_96) ?_
    show Steps p.tables e below (s₁.setTop (mkF m 98 #[.val (.int (7 : Int32))] [(.int (14 : Int32)), (.int (7 : Int32))])) _
    refine XS.icmpYes X0.here hx rfl (pc0 := 98) (pc' := 105) rfl (hb hby d2_98) rfl (feq (by decide : ¬ ((7 : Int32) = (14 : Int32)))).2 (by decide) (by decide) ?_
    show Steps p.tables e below (s₁.setTop (mkF m 105 #[.val (.int (7 : Int32))] [])) _
    refine XS.iloadN X0.here hx rfl (hb hby d2_105) rfl ?_
    show Steps p.tables e below (s₁.setTop (mkF m 106 #[.val (.int (7 : Int32))] [(.int (7 : Int32))])) _
    refine XS.bipush X0.here hx rfl (hb hby d2_106) ?_
    show Steps p.tables e below (s₁.setTop (mkF m 108 #[.val (.int (7 : Int32))] [(.int (18 : Int32)), (.int (7 : Int32))])) _
    refine XS.icmpYes X0.here hx rfl (pc0 := 108) (pc' := 115) rfl (hb hby d2_108) rfl (feq (by decide : ¬ ((7 : Int32) = (18 : Int32)))).2 (by decide) (by decide) ?_
    show Steps p.tables e below (s₁.setTop (mkF m 115 #[.val (.int (7 : Int32))] [])) _
    refine XS.iloadN X0.here hx rfl (hb hby d2_115) rfl ?_
    show Steps p.tables e below (s₁.setTop (mkF m 116 #[.val (.int (7 : Int32))] [(.int (7 : Int32))])) _
    refine XS.bipush X0.here hx rfl (hb hby d2_116) ?_
    show Steps p.tables e below (s₁.setTop (mkF m 118 #[.val (.int (7 : Int32))] [(.int (19 : Int32)), (.int (7 : Int32))])) _
    refine XS.icmpYes X0.here hx rfl (pc0 := 118) (pc' := 125) rfl (hb hby d2_118) rfl (feq (by decide : ¬ ((7 : Int32) = (19 : Int32)))).2 (by decide) (by decide) ?_
    show Steps p.tables e below (s₁.setTop (mkF m 125 #[.val (.int (7 : Int32))] [])) _
    refine XS.aconstNull X0.here hx rfl (hb hby d2_125) ?_
    show Steps p.tables e below (s₁.setTop (mkF m 126 #[.val (.int (7 : Int32))] [.null])) _
    jvm_step X0.here [X0.here.top, hx, (hb hby d2_126), X0.method', Bd.returns, Value.isRef, FieldType.isReference]
    first | (intro acts; rw [hr _ acts rfl rfl rfl]) | rw [hr _ _ rfl rfl rfl]
    exact Steps.refl _
  · exact ⟨rfl, N0, e0⟩
set_option maxRecDepth 65536 in
set_option maxHeartbeats 40000000 in
theorem rm0_c7 (l : Launch) (Z : State) (a0 : Array Value) (hw : ∀ d ∈ tables_1, d.before a0 Z = true) (ws : List Jvm.Cond) (w_PRODUCE : Addr) (w_METADATA : Addr) (w_LIST_OFFSETS : Addr) (w_JOIN_GROUP : Addr) (w_OFFSET_COMMIT : Addr) (w_FETCH : Addr) (w_FIND_COORDINATOR : Addr) (w_CREATE_TOPICS : Addr) (w_SYNC_GROUP : Addr) (w_OFFSET_FETCH : Addr) (w_HEARTBEAT : Addr) (w_LEAVE_GROUP : Addr) (w_API_VERSIONS : Addr) (w_BY_ID : Addr) (cl_w_BY_ID : Cell) (p1 : Int32) (h0 : Heap) (n0 : Nat) (Z0 : n0 ≤ h0.size) (HW : World Z h0 w_PRODUCE w_METADATA w_LIST_OFFSETS w_JOIN_GROUP w_OFFSET_COMMIT w_FETCH w_FIND_COORDINATOR w_CREATE_TOPICS w_SYNC_GROUP w_OFFSET_FETCH w_HEARTBEAT w_LEAVE_GROUP w_API_VERSIONS w_BY_ID cl_w_BY_ID) (hk : (p1.toInt16.toInt32) = (7 : Int32)) :
    MetFree l x (head1 (Jvm.Cond.code x code maxLocals ret :: ws) room_1) (fun a U => a = #[(.int p1)] ∧ Z.Warmed39 U.vm ∧ U.heap = h0) (fun _ _ _ _ _ => True) (fun _ U o U' => ∃ v L, o = .returned v ∧ Q0 h0 n0 v U'.heap L ∧ FrameEnd U o U' L room_1.cells room_1.slots) := by
  refine MetFree.of_bodySF (plainFor_of_name pn50) hisR ?_
  intro p e s m args below meth c s₁ Bd hml0 hP hK
  obtain ⟨rfl, hZ, hh⟩ := hP
  have hx := Bd.exec
  have hby := Bd.bytes
  have hml : c.maxLocals = 3 := hml0
  have hown : s.vm.findClass "com/example/melog/melog/protocol/ApiKeyForIdPinLaw" = some m.cls := findClass_of_methodNamed Bd.named
  have X0 : Stand p l e room_1 s m #[(.int p1)] below meth c s₁ [] 0 0 := Stand.of_body Bd
  have e0 : s₁.heap = h0 := by rw [← hh, Bd.state]; rfl
  have N0 := Fr.nil n0
  have pre0 : ∀ t, Steps p.tables e below (s₁.setTop (mkF m 0 #[.val (.int p1), .unset, .unset] [])) t → Steps p.tables e below (s₁.setTop (entryFrame m #[(.int p1)] maxLocals)) t := fun t k => castTop (ef53 m p1) k
  obtain ⟨S_w_PRODUCE, E_w_PRODUCE, S_w_METADATA, E_w_METADATA, S_w_LIST_OFFSETS, E_w_LIST_OFFSETS, S_w_JOIN_GROUP, E_w_JOIN_GROUP, S_w_OFFSET_COMMIT, E_w_OFFSET_COMMIT, S_w_FETCH, E_w_FETCH, S_w_FIND_COORDINATOR, E_w_FIND_COORDINATOR, S_w_CREATE_TOPICS, E_w_CREATE_TOPICS, S_w_SYNC_GROUP, E_w_SYNC_GROUP, S_w_OFFSET_FETCH, E_w_OFFSET_FETCH, S_w_HEARTBEAT, E_w_HEARTBEAT, S_w_LEAVE_GROUP, E_w_LEAVE_GROUP, S_w_API_VERSIONS, E_w_API_VERSIONS, S_w_BY_ID, Ar_w_BY_ID, Sz_w_BY_ID, At_w_BY_ID_0, At_w_BY_ID_3, At_w_BY_ID_7, At_w_BY_ID_2, At_w_BY_ID_11, At_w_BY_ID_8, At_w_BY_ID_1, At_w_BY_ID_10, At_w_BY_ID_16, At_w_BY_ID_19, At_w_BY_ID_15, At_w_BY_ID_14, At_w_BY_ID_6, At_w_BY_ID_9, At_w_BY_ID_12, At_w_BY_ID_17, At_w_BY_ID_13, At_w_BY_ID_5, At_w_BY_ID_18, At_w_BY_ID_4, -⟩ := id HW
  obtain ⟨_, _, ⟨T1, L1, k1, n1⟩, -, X1, ⟨Lc1, hQ1, l1, y1, z1⟩, st1⟩ := Jvm.LawKit.callS X0 hx (y := (⟨"com/example/melog/melog/protocol/ApiKey", "forId", "(S)Lcom/example/melog/melog/protocol/ApiKey;"⟩ : MethodName)) hown (mvT hZ (hw _ (List.mem_of_getElem? (i := 0) rfl))) (mvT hZ (hw _ (List.mem_of_getElem? (i := 1) rfl))) (mvT hZ (hw _ (List.mem_of_getElem? (i := 2) rfl))) (mvT hZ (hw _ (List.mem_of_getElem? (i := 3) rfl))) (by decide) (backOf (W := 0) (rm1_26 l Z a0 hw [] w_PRODUCE w_METADATA w_LIST_OFFSETS w_JOIN_GROUP w_OFFSET_COMMIT w_FETCH w_FIND_COORDINATOR w_CREATE_TOPICS w_SYNC_GROUP w_OFFSET_FETCH w_HEARTBEAT w_LEAVE_GROUP w_API_VERSIONS w_BY_ID cl_w_BY_ID h0 n0 Z0 HW) hZ (hw _ (List.mem_of_getElem? (i := 3) rfl)) (hw _ (List.mem_of_getElem? (i := 2) rfl)) (by decide) (by decide)) (g := (mkF m 4 #[.val (.int p1), .val (.int (7 : Int32)), .unset] [(.int (7 : Int32))])) rfl (by rw [hml]; rfl) (argsL := [(.int (7 : Int32))]) (rest := []) (lenOf pd7 rfl) rfl (by show 2 * 0 + _ ≤ _; exact Nat.le_of_eq rfl) (hb hby at_4) (fun _ _ => ⟨rfl, e0, (by decide : 0 + 0 ≤ _), (by decide : 0 + 0 ≤ _)⟩)
  dsimp only [Pt.U, Pt.locs, Pt.cells, Pt.slots] at X1 l1 y1 z1 st1 hQ1
  subst l1 y1 z1
  obtain ⟨rfl, N1q, e1⟩ := hQ1
  have N1 := Fr.app N0 N1q
  obtain ⟨_, _, ⟨T2, L2, k2, n2⟩, -, X2, ⟨Lc2, hQ2, l2, y2, z2⟩, st2⟩ := Jvm.LawKit.callS X1 hx (y := (⟨"com/example/melog/melog/protocol/ApiKeyForIdPinLaw", "expected", "(I)Lcom/example/melog/melog/protocol/ApiKey;"⟩ : MethodName)) hown (mvT hZ (hw _ (List.mem_of_getElem? (i := 7) rfl))) (mvT hZ (hw _ (List.mem_of_getElem? (i := 8) rfl))) (mvT hZ (hw _ (List.mem_of_getElem? (i := 9) rfl))) (mvT hZ (hw _ (List.mem_of_getElem? (i := 10) rfl))) (by decide) (backOf (W := 1) (rm2_27 l Z a0 hw [] w_PRODUCE w_METADATA w_LIST_OFFSETS w_JOIN_GROUP w_OFFSET_COMMIT w_FETCH w_FIND_COORDINATOR w_CREATE_TOPICS w_SYNC_GROUP w_OFFSET_FETCH w_HEARTBEAT w_LEAVE_GROUP w_API_VERSIONS w_BY_ID cl_w_BY_ID h0 n0 Z0 HW) hZ (hw _ (List.mem_of_getElem? (i := 10) rfl)) (hw _ (List.mem_of_getElem? (i := 9) rfl)) (by decide) (by decide)) (g := (mkF m 10 #[.val (.int p1), .val (.int (7 : Int32)), .val .null] [(.int (7 : Int32)), .null])) rfl (by rw [hml]; rfl) (argsL := [(.int (7 : Int32))]) (rest := [.null]) (lenOf pd51 rfl) rfl (by show 2 * 0 + _ ≤ _; exact Nat.le_of_eq rfl) (hb hby at_10) (fun _ _ => ⟨rfl, e1, (by decide : 0 + 0 ≤ _), (by decide : 0 + 0 ≤ _)⟩)
  dsimp only [Pt.U, Pt.locs, Pt.cells, Pt.slots] at X2 l2 y2 z2 st2 hQ2
  subst l2 y2 z2
  obtain ⟨rfl, N2q, e2⟩ := hQ2
  have N2 := Fr.app N1 N2q
  obtain ⟨fs, hr, hrun, hended, hW, hsame⟩ := X2.leave (v := some (.int (1 : Int32))) (fun h => by rw [Bd.returns] at h; cases h)
  refine ⟨_, _, pre0 _ ?_, hrun, hended, _, _, rfl, ?_, ⟨_, rfl⟩, hW, hsame.mono (by decide) (by decide)⟩
  · show Steps p.tables e below (s₁.setTop (mkF m 0 #[.val (.int p1), .unset, .unset] [])) _
    refine XS.iloadN X0.here hx rfl (hb hby at_0) rfl ?_
    show Steps p.tables e below (s₁.setTop (mkF m 1 #[.val (.int p1), .unset, .unset] [(.int p1)])) _
    refine XS.i2s X0.here hx rfl (hb hby at_1) rfl ?_
    rw [hk]
    show Steps p.tables e below (s₁.setTop (mkF m 2 #[.val (.int p1), .unset, .unset] [(.int (7 : Int32))])) _
    refine XS.istoreN X0.here hx rfl (hb hby at_2) rfl (l' := #[.val (.int p1), .val (.int (7 : Int32)), .unset]) rfl ?_
    show Steps p.tables e below (s₁.setTop (mkF m 3 #[.val (.int p1), .val (.int (7 : Int32)), .unset] [])) _
    refine XS.iloadN X0.here hx rfl (hb hby at_3) rfl ?_
    show Steps p.tables e below (s₁.setTop (mkF m 4 #[.val (.int p1), .val (.int (7 : Int32)), .unset] [(.int (7 : Int32))])) _
    refine st1 _ ?_
    show Steps p.tables e below (T1.setTop (mkF m 7 #[.val (.int p1), .val (.int (7 : Int32)), .unset] [.null])) _
    refine XS.astoreN X1.here hx rfl (hb hby at_7) rfl rfl (l' := #[.val (.int p1), .val (.int (7 : Int32)), .val .null]) rfl ?_
    show Steps p.tables e below (T1.setTop (mkF m 8 #[.val (.int p1), .val (.int (7 : Int32)), .val .null] [])) _
    refine XS.aloadN X1.here hx rfl (hb hby at_8) rfl rfl ?_
    show Steps p.tables e below (T1.setTop (mkF m 9 #[.val (.int p1), .val (.int (7 : Int32)), .val .null] [.null])) _
    refine XS.iloadN X1.here hx rfl (hb hby at_9) rfl ?_
    show Steps p.tables e below (T1.setTop (mkF m 10 #[.val (.int p1), .val (.int (7 : Int32)), .val .null] [(.int (7 : Int32)), .null])) _
    refine st2 _ ?_
    show Steps p.tables e below (T2.setTop (mkF m 13 #[.val (.int p1), .val (.int (7 : Int32)), .val .null] [.null, .null])) _
    refine Jvm.RoadKit.acmp (g := (mkF m 13 #[.val (.int p1), .val (.int (7 : Int32)), .val .null] [.null, .null])) X2 hx rfl rfl rfl (pc0 := 13) (pc' := 16) (same := true) rfl (hb hby at_13) rfl (decide_eq_true rfl) (by decide) (by decide) ?_
    show Steps p.tables e below (T2.setTop (mkF m 16 #[.val (.int p1), .val (.int (7 : Int32)), .val .null] [])) _
    refine XS.iconst X2.here hx rfl (hb hby at_16) ?_
    show Steps p.tables e below (T2.setTop (mkF m 17 #[.val (.int p1), .val (.int (7 : Int32)), .val .null] [(.int (1 : Int32))])) _
    refine XS.goto X2.here hx rfl (pc0 := 17) (pc' := 21) rfl (hb hby at_17) (by decide) (by decide) ?_
    show Steps p.tables e below (T2.setTop (mkF m 21 #[.val (.int p1), .val (.int (7 : Int32)), .val .null] [(.int (1 : Int32))])) _
    exact retN X2 hx (t := .boolean) Bd.returns (by simp) (hb hby at_21) hr
  · exact ⟨rfl, N2⟩
def Q1_29 (Z : State) (w_PRODUCE : Addr) (w_METADATA : Addr) (w_LIST_OFFSETS : Addr) (w_JOIN_GROUP : Addr) (w_OFFSET_COMMIT : Addr) (w_FETCH : Addr) (w_FIND_COORDINATOR : Addr) (w_CREATE_TOPICS : Addr) (w_SYNC_GROUP : Addr) (w_OFFSET_FETCH : Addr) (w_HEARTBEAT : Addr) (w_LEAVE_GROUP : Addr) (w_API_VERSIONS : Addr) (w_BY_ID : Addr) (cl_w_BY_ID : Cell) (h0 : Heap) (n0 : Nat) (v : Option Value) (h : Heap) (L : List Loc) : Prop := v = some (.ref w_OFFSET_COMMIT) ∧ Fr n0 L ∧ h = h0
set_option maxRecDepth 65536 in
set_option maxHeartbeats 40000000 in
theorem rm1_29 (l : Launch) (Z : State) (a0 : Array Value) (hw : ∀ d ∈ tables_1, d.before a0 Z = true) (ws : List Jvm.Cond) (w_PRODUCE : Addr) (w_METADATA : Addr) (w_LIST_OFFSETS : Addr) (w_JOIN_GROUP : Addr) (w_OFFSET_COMMIT : Addr) (w_FETCH : Addr) (w_FIND_COORDINATOR : Addr) (w_CREATE_TOPICS : Addr) (w_SYNC_GROUP : Addr) (w_OFFSET_FETCH : Addr) (w_HEARTBEAT : Addr) (w_LEAVE_GROUP : Addr) (w_API_VERSIONS : Addr) (w_BY_ID : Addr) (cl_w_BY_ID : Cell) (h0 : Heap) (n0 : Nat) (Z0 : n0 ≤ h0.size) (HW : World Z h0 w_PRODUCE w_METADATA w_LIST_OFFSETS w_JOIN_GROUP w_OFFSET_COMMIT w_FETCH w_FIND_COORDINATOR w_CREATE_TOPICS w_SYNC_GROUP w_OFFSET_FETCH w_HEARTBEAT w_LEAVE_GROUP w_API_VERSIONS w_BY_ID cl_w_BY_ID) :
    MetFree l (⟨"com/example/melog/melog/protocol/ApiKey", "forId", "(S)Lcom/example/melog/melog/protocol/ApiKey;"⟩ : MethodName) (head1 (Jvm.Cond.code (⟨"com/example/melog/melog/protocol/ApiKey", "forId", "(S)Lcom/example/melog/melog/protocol/ApiKey;"⟩ : MethodName) prog_9_method_4_code 1 (some (.object "com/example/melog/melog/protocol/ApiKey")) :: ws) ({ frames := 0, cells := 0, slots := 0, locals := 0 } : Room)) (fun a U => a = #[(.int (8 : Int32))] ∧ Z.Warmed39 U.vm ∧ U.heap = h0) (fun _ _ _ _ _ => True) (fun _ U o U' => ∃ v L, o = .returned v ∧ Q1_29 Z w_PRODUCE w_METADATA w_LIST_OFFSETS w_JOIN_GROUP w_OFFSET_COMMIT w_FETCH w_FIND_COORDINATOR w_CREATE_TOPICS w_SYNC_GROUP w_OFFSET_FETCH w_HEARTBEAT w_LEAVE_GROUP w_API_VERSIONS w_BY_ID cl_w_BY_ID h0 n0 v U'.heap L ∧ FrameEnd U o U' L ({ frames := 0, cells := 0, slots := 0, locals := 0 } : Room).cells ({ frames := 0, cells := 0, slots := 0, locals := 0 } : Room).slots) := by
  refine MetFree.of_bodySF (plainFor_of_name pn6) hisR ?_
  intro p e s m args below meth c s₁ Bd hml0 hP hK
  obtain ⟨rfl, hZ, hh⟩ := hP
  have hx := Bd.exec
  have hby := Bd.bytes
  have hml : c.maxLocals = 1 := hml0
  have hown : s.vm.findClass "com/example/melog/melog/protocol/ApiKey" = some m.cls := findClass_of_methodNamed Bd.named
  have X0 : Stand p l e ({ frames := 0, cells := 0, slots := 0, locals := 0 } : Room) s m #[(.int (8 : Int32))] below meth c s₁ [] 0 0 := Stand.of_body Bd
  have e0 : s₁.heap = h0 := by rw [← hh, Bd.state]; rfl
  have N0 := Fr.nil n0
  have pre0 : ∀ t, Steps p.tables e below (s₁.setTop (mkF m 0 #[.val (.int (8 : Int32))] [])) t → Steps p.tables e below (s₁.setTop (entryFrame m #[(.int (8 : Int32))] 1)) t := fun t k => castTop (ef5 m (8 : Int32)) k
  obtain ⟨S_w_PRODUCE, E_w_PRODUCE, S_w_METADATA, E_w_METADATA, S_w_LIST_OFFSETS, E_w_LIST_OFFSETS, S_w_JOIN_GROUP, E_w_JOIN_GROUP, S_w_OFFSET_COMMIT, E_w_OFFSET_COMMIT, S_w_FETCH, E_w_FETCH, S_w_FIND_COORDINATOR, E_w_FIND_COORDINATOR, S_w_CREATE_TOPICS, E_w_CREATE_TOPICS, S_w_SYNC_GROUP, E_w_SYNC_GROUP, S_w_OFFSET_FETCH, E_w_OFFSET_FETCH, S_w_HEARTBEAT, E_w_HEARTBEAT, S_w_LEAVE_GROUP, E_w_LEAVE_GROUP, S_w_API_VERSIONS, E_w_API_VERSIONS, S_w_BY_ID, Ar_w_BY_ID, Sz_w_BY_ID, At_w_BY_ID_0, At_w_BY_ID_3, At_w_BY_ID_7, At_w_BY_ID_2, At_w_BY_ID_11, At_w_BY_ID_8, At_w_BY_ID_1, At_w_BY_ID_10, At_w_BY_ID_16, At_w_BY_ID_19, At_w_BY_ID_15, At_w_BY_ID_14, At_w_BY_ID_6, At_w_BY_ID_9, At_w_BY_ID_12, At_w_BY_ID_17, At_w_BY_ID_13, At_w_BY_ID_5, At_w_BY_ID_18, At_w_BY_ID_4, -⟩ := id HW
  obtain ⟨T1, X1, e1, st1⟩ := getS2 X0 hx hZ hown (host := "") (Or.inl (hw _ (List.mem_of_getElem? (i := 4) rfl))) Via.refl e0 S_w_BY_ID (g := (mkF m 5 #[.val (.int (8 : Int32))] [(.int (8 : Int32))])) rfl (hb hby d1_5)
  obtain ⟨T2, X2, e2, st2⟩ := getS2 X1 hx hZ hown (host := "") (Or.inl (hw _ (List.mem_of_getElem? (i := 4) rfl))) Via.refl e1 S_w_BY_ID (g := (mkF m 12 #[.val (.int (8 : Int32))] [])) rfl (hb hby d1_12)
  obtain ⟨fs, hr, hrun, hended, hW, hsame⟩ := X2.leave (v := some (.ref w_OFFSET_COMMIT)) (fun h => by rw [Bd.returns] at h; cases h)
  refine ⟨_, _, pre0 _ ?_, hrun, hended, _, _, rfl, ?_, ⟨_, rfl⟩, hW, hsame.mono (by decide) (by decide)⟩
  · show Steps p.tables e below (s₁.setTop (mkF m 0 #[.val (.int (8 : Int32))] [])) _
    refine XS.iloadN X0.here hx rfl (hb hby d1_0) rfl ?_
    show Steps p.tables e below (s₁.setTop (mkF m 1 #[.val (.int (8 : Int32))] [(.int (8 : Int32))])) _
    refine XS.ifNo X0.here hx rfl (hb hby d1_1) rfl ((if0 _ _).trans (flt (by decide : ¬ ((8 : Int32) < (0 : Int32)))).1) ?_
    show Steps p.tables e below (s₁.setTop (mkF m 4 #[.val (.int (8 : Int32))] [])) _
    refine XS.iloadN X0.here hx rfl (hb hby d1_4) rfl ?_
    show Steps p.tables e below (s₁.setTop (mkF m 5 #[.val (.int (8 : Int32))] [(.int (8 : Int32))])) _
    refine st1 _ ?_
    show Steps p.tables e below (T1.setTop (mkF m 8 #[.val (.int (8 : Int32))] [(.ref w_BY_ID), (.int (8 : Int32))])) _
    refine X1.arraylength hx (by rw [e1]; exact Ar_w_BY_ID.1) (State.isArrayOf_alike hZ.alike Ar_w_BY_ID.2.1) (g := (mkF m 8 #[.val (.int (8 : Int32))] [(.ref w_BY_ID), (.int (8 : Int32))])) rfl rfl (hb hby d1_8) _ ?_
    rw [Sz_w_BY_ID]
    show Steps p.tables e below (T1.setTop (mkF m 9 #[.val (.int (8 : Int32))] [(.int (20 : Int32)), (.int (8 : Int32))])) _
    refine XS.icmpNo X1.here hx rfl (hb hby d1_9) rfl (tlt (by decide : (8 : Int32) < (20 : Int32))).2.1 ?_
    show Steps p.tables e below (T1.setTop (mkF m 12 #[.val (.int (8 : Int32))] [])) _
    refine st2 _ ?_
    show Steps p.tables e below (T2.setTop (mkF m 15 #[.val (.int (8 : Int32))] [(.ref w_BY_ID)])) _
    refine XS.iloadN X2.here hx rfl (hb hby d1_15) rfl ?_
    show Steps p.tables e below (T2.setTop (mkF m 16 #[.val (.int (8 : Int32))] [(.int (8 : Int32)), (.ref w_BY_ID)])) _
    refine X2.aaload hx (j := (8 : Int32)) (v := (.ref w_OFFSET_COMMIT)) (by rw [e2]; exact Ar_w_BY_ID.1) (State.isArrayOf_alike hZ.alike Ar_w_BY_ID.2.1) rfl Ar_w_BY_ID.2.2 At_w_BY_ID_8.1 At_w_BY_ID_8.2 (g := (mkF m 16 #[.val (.int (8 : Int32))] [(.int (8 : Int32)), (.ref w_BY_ID)])) rfl rfl (hb hby d1_16) _ ?_
    show Steps p.tables e below (T2.setTop (mkF m 17 #[.val (.int (8 : Int32))] [(.ref w_OFFSET_COMMIT)])) _
    refine XS.goto X2.here hx rfl (pc0 := 17) (pc' := 21) rfl (hb hby d1_17) (by decide) (by decide) ?_
    show Steps p.tables e below (T2.setTop (mkF m 21 #[.val (.int (8 : Int32))] [(.ref w_OFFSET_COMMIT)])) _
    jvm_step X2.here [X2.here.top, hx, (hb hby d1_21), X2.method', Bd.returns, Value.isRef, FieldType.isReference]
    first | (intro acts; rw [hr _ acts rfl rfl rfl]) | rw [hr _ _ rfl rfl rfl]
    exact Steps.refl _
  · exact ⟨rfl, N0, e2⟩
theorem d2_41 : decode method_2_code 41 = .ok (.getstatic 22, 3) := by decide +kernel
theorem d2_44 : decode method_2_code 44 = .ok (.areturn, 1) := by decide +kernel
def Q2_30 (Z : State) (w_PRODUCE : Addr) (w_METADATA : Addr) (w_LIST_OFFSETS : Addr) (w_JOIN_GROUP : Addr) (w_OFFSET_COMMIT : Addr) (w_FETCH : Addr) (w_FIND_COORDINATOR : Addr) (w_CREATE_TOPICS : Addr) (w_SYNC_GROUP : Addr) (w_OFFSET_FETCH : Addr) (w_HEARTBEAT : Addr) (w_LEAVE_GROUP : Addr) (w_API_VERSIONS : Addr) (w_BY_ID : Addr) (cl_w_BY_ID : Cell) (h0 : Heap) (n0 : Nat) (v : Option Value) (h : Heap) (L : List Loc) : Prop := v = some (.ref w_OFFSET_COMMIT) ∧ Fr n0 L ∧ h = h0
set_option maxRecDepth 65536 in
set_option maxHeartbeats 40000000 in
theorem rm2_30 (l : Launch) (Z : State) (a0 : Array Value) (hw : ∀ d ∈ tables_1, d.before a0 Z = true) (ws : List Jvm.Cond) (w_PRODUCE : Addr) (w_METADATA : Addr) (w_LIST_OFFSETS : Addr) (w_JOIN_GROUP : Addr) (w_OFFSET_COMMIT : Addr) (w_FETCH : Addr) (w_FIND_COORDINATOR : Addr) (w_CREATE_TOPICS : Addr) (w_SYNC_GROUP : Addr) (w_OFFSET_FETCH : Addr) (w_HEARTBEAT : Addr) (w_LEAVE_GROUP : Addr) (w_API_VERSIONS : Addr) (w_BY_ID : Addr) (cl_w_BY_ID : Cell) (h0 : Heap) (n0 : Nat) (Z0 : n0 ≤ h0.size) (HW : World Z h0 w_PRODUCE w_METADATA w_LIST_OFFSETS w_JOIN_GROUP w_OFFSET_COMMIT w_FETCH w_FIND_COORDINATOR w_CREATE_TOPICS w_SYNC_GROUP w_OFFSET_FETCH w_HEARTBEAT w_LEAVE_GROUP w_API_VERSIONS w_BY_ID cl_w_BY_ID) :
    MetFree l (⟨"com/example/melog/melog/protocol/ApiKeyForIdPinLaw", "expected", "(I)Lcom/example/melog/melog/protocol/ApiKey;"⟩ : MethodName) (head1 (Jvm.Cond.code (⟨"com/example/melog/melog/protocol/ApiKeyForIdPinLaw", "expected", "(I)Lcom/example/melog/melog/protocol/ApiKey;"⟩ : MethodName) method_2_code 1 (some (.object "com/example/melog/melog/protocol/ApiKey")) :: ws) ({ frames := 0, cells := 0, slots := 0, locals := 0 } : Room)) (fun a U => a = #[(.int (8 : Int32))] ∧ Z.Warmed39 U.vm ∧ U.heap = h0) (fun _ _ _ _ _ => True) (fun _ U o U' => ∃ v L, o = .returned v ∧ Q2_30 Z w_PRODUCE w_METADATA w_LIST_OFFSETS w_JOIN_GROUP w_OFFSET_COMMIT w_FETCH w_FIND_COORDINATOR w_CREATE_TOPICS w_SYNC_GROUP w_OFFSET_FETCH w_HEARTBEAT w_LEAVE_GROUP w_API_VERSIONS w_BY_ID cl_w_BY_ID h0 n0 v U'.heap L ∧ FrameEnd U o U' L ({ frames := 0, cells := 0, slots := 0, locals := 0 } : Room).cells ({ frames := 0, cells := 0, slots := 0, locals := 0 } : Room).slots) := by
  refine MetFree.of_bodySF (plainFor_of_name pn50) hisR ?_
  intro p e s m args below meth c s₁ Bd hml0 hP hK
  obtain ⟨rfl, hZ, hh⟩ := hP
  have hx := Bd.exec
  have hby := Bd.bytes
  have hml : c.maxLocals = 1 := hml0
  have hown : s.vm.findClass "com/example/melog/melog/protocol/ApiKeyForIdPinLaw" = some m.cls := findClass_of_methodNamed Bd.named
  have X0 : Stand p l e ({ frames := 0, cells := 0, slots := 0, locals := 0 } : Room) s m #[(.int (8 : Int32))] below meth c s₁ [] 0 0 := Stand.of_body Bd
  have e0 : s₁.heap = h0 := by rw [← hh, Bd.state]; rfl
  have N0 := Fr.nil n0
  have pre0 : ∀ t, Steps p.tables e below (s₁.setTop (mkF m 0 #[.val (.int (8 : Int32))] [])) t → Steps p.tables e below (s₁.setTop (entryFrame m #[(.int (8 : Int32))] 1)) t := fun t k => castTop (ef49 m (8 : Int32)) k
  obtain ⟨S_w_PRODUCE, E_w_PRODUCE, S_w_METADATA, E_w_METADATA, S_w_LIST_OFFSETS, E_w_LIST_OFFSETS, S_w_JOIN_GROUP, E_w_JOIN_GROUP, S_w_OFFSET_COMMIT, E_w_OFFSET_COMMIT, S_w_FETCH, E_w_FETCH, S_w_FIND_COORDINATOR, E_w_FIND_COORDINATOR, S_w_CREATE_TOPICS, E_w_CREATE_TOPICS, S_w_SYNC_GROUP, E_w_SYNC_GROUP, S_w_OFFSET_FETCH, E_w_OFFSET_FETCH, S_w_HEARTBEAT, E_w_HEARTBEAT, S_w_LEAVE_GROUP, E_w_LEAVE_GROUP, S_w_API_VERSIONS, E_w_API_VERSIONS, S_w_BY_ID, Ar_w_BY_ID, Sz_w_BY_ID, At_w_BY_ID_0, At_w_BY_ID_3, At_w_BY_ID_7, At_w_BY_ID_2, At_w_BY_ID_11, At_w_BY_ID_8, At_w_BY_ID_1, At_w_BY_ID_10, At_w_BY_ID_16, At_w_BY_ID_19, At_w_BY_ID_15, At_w_BY_ID_14, At_w_BY_ID_6, At_w_BY_ID_9, At_w_BY_ID_12, At_w_BY_ID_17, At_w_BY_ID_13, At_w_BY_ID_5, At_w_BY_ID_18, At_w_BY_ID_4, -⟩ := id HW
  obtain ⟨T1, X1, e1, st1⟩ := getS2 X0 hx hZ hown (host := "") (Or.inl (hw _ (List.mem_of_getElem? (i := 19) rfl))) Via.refl e0 S_w_OFFSET_COMMIT (g := (mkF m 41 #[.val (.int (8 : Int32))] [])) rfl (hb hby d2_41)
  obtain ⟨fs, hr, hrun, hended, hW, hsame⟩ := X1.leave (v := some (.ref w_OFFSET_COMMIT)) (fun h => by rw [Bd.returns] at h; cases h)
  refine ⟨_, _, pre0 _ ?_, hrun, hended, _, _, rfl, ?_, ⟨_, rfl⟩, hW, hsame.mono (by decide) (by decide)⟩
  · show Steps p.tables e below (s₁.setTop (mkF m 0 #[.val (.int (8 : Int32))] [])) _
    refine XS.iloadN X0.here hx rfl (hb hby d2_0) rfl ?_
    show Steps p.tables e below (s₁.setTop (mkF m 1 #[.val (.int (8 : Int32))] [(.int (8 : Int32))])) _
    refine XS.ifYes X0.here hx rfl (pc0 := 1) (pc' := 8) rfl (hb hby d2_1) rfl ((if0 _ _).trans (feq (by decide : ¬ ((8 : Int32) = (0 : Int32)))).2) (by decide) (by decide) ?_
    show Steps p.tables e below (s₁.setTop (mkF m 8 #[.val (.int (8 : Int32))] [])) _
    refine XS.iloadN X0.here hx rfl (hb hby d2_8) rfl ?_
    show Steps p.tables e below (s₁.setTop (mkF m 9 #[.val (.int (8 : Int32))] [(.int (8 : Int32))])) _
    refine XS.iconst X0.here hx rfl (hb hby d2_9) ?_
    show Steps p.tables e below (s₁.setTop (mkF m 10 #[.val (.int (8 : Int32))] [(.int (1 : Int32)), (.int (8 : Int32))])) _
    refine XS.icmpYes X0.here hx rfl (pc0 := 10) (pc' := 17) rfl (hb hby d2_10) rfl (feq (by decide : ¬ ((8 : Int32) = (1 : Int32)))).2 (by decide) (by decide) ?_
    show Steps p.tables e below (s₁.setTop (mkF m 17 #[.val (.int (8 : Int32))] [])) _
    refine XS.iloadN X0.here hx rfl (hb hby d2_17) rfl ?_
    show Steps p.tables e below (s₁.setTop (mkF m 18 #[.val (.int (8 : Int32))] [(.int (8 : Int32))])) _
    refine XS.iconst X0.here hx rfl (hb hby d2_18) ?_
    show Steps p.tables e below (s₁.setTop (mkF m 19 #[.val (.int (8 : Int32))] [(.int (2 : Int32)), (.int (8 : Int32))])) _
    refine XS.icmpYes X0.here hx rfl (pc0 := 19) (pc' := 26) rfl (hb hby d2_19) rfl (feq (by decide : ¬ ((8 : Int32) = (2 : Int32)))).2 (by decide) (by decide) ?_
    show Steps p.tables e below (s₁.setTop (mkF m 26 #[.val (.int (8 : Int32))] [])) _
    refine XS.iloadN X0.here hx rfl (hb hby d2_26) rfl ?_
    show Steps p.tables e below (s₁.setTop (mkF m 27 #[.val (.int (8 : Int32))] [(.int (8 : Int32))])) _
    refine XS.iconst X0.here hx rfl (hb hby d2_27) ?_
    show Steps p.tables e below (s₁.setTop (mkF m 28 #[.val (.int (8 : Int32))] [(.int (3 : Int32)), (.int (8 : Int32))])) _
    refine XS.icmpYes X0.here hx rfl (pc0 := 28) (pc' := 35) rfl (hb hby d2_28) rfl (feq (by decide : ¬ ((8 : Int32) = (3 : Int32)))).2 (by decide) (by decide) ?_
    show Steps p.tables e below (s₁.setTop (mkF m 35 #[.val (.int (8 : Int32))] [])) _
    refine XS.iloadN X0.here hx rfl (hb hby d2_35) rfl ?_
    show Steps p.tables e below (s₁.setTop (mkF m 36 #[.val (.int (8 : Int32))] [(.int (8 : Int32))])) _
    refine XS.bipush X0.here hx rfl (hb hby d2_36) ?_
    show Steps p.tables e below (s₁.setTop (mkF m 38 #[.val (.int (8 : Int32))] [(.int (8 : Int32)), (.int (8 : Int32))])) _
    refine XS.icmpNo X0.here hx rfl (hb hby d2_38) rfl (teq (by decide : (8 : Int32) = (8 : Int32))).2 ?_
    show Steps p.tables e below (s₁.setTop (mkF m 41 #[.val (.int (8 : Int32))] [])) _
    refine st1 _ ?_
    show Steps p.tables e below (T1.setTop (mkF m 44 #[.val (.int (8 : Int32))] [(.ref w_OFFSET_COMMIT)])) _
    jvm_step X1.here [X1.here.top, hx, (hb hby d2_44), X1.method', Bd.returns, Value.isRef, FieldType.isReference]
    first | (intro acts; rw [hr _ acts rfl rfl rfl]) | rw [hr _ _ rfl rfl rfl]
    exact Steps.refl _
  · exact ⟨rfl, N0, e1⟩
set_option maxRecDepth 65536 in
set_option maxHeartbeats 40000000 in
theorem rm0_c8 (l : Launch) (Z : State) (a0 : Array Value) (hw : ∀ d ∈ tables_1, d.before a0 Z = true) (ws : List Jvm.Cond) (w_PRODUCE : Addr) (w_METADATA : Addr) (w_LIST_OFFSETS : Addr) (w_JOIN_GROUP : Addr) (w_OFFSET_COMMIT : Addr) (w_FETCH : Addr) (w_FIND_COORDINATOR : Addr) (w_CREATE_TOPICS : Addr) (w_SYNC_GROUP : Addr) (w_OFFSET_FETCH : Addr) (w_HEARTBEAT : Addr) (w_LEAVE_GROUP : Addr) (w_API_VERSIONS : Addr) (w_BY_ID : Addr) (cl_w_BY_ID : Cell) (p1 : Int32) (h0 : Heap) (n0 : Nat) (Z0 : n0 ≤ h0.size) (HW : World Z h0 w_PRODUCE w_METADATA w_LIST_OFFSETS w_JOIN_GROUP w_OFFSET_COMMIT w_FETCH w_FIND_COORDINATOR w_CREATE_TOPICS w_SYNC_GROUP w_OFFSET_FETCH w_HEARTBEAT w_LEAVE_GROUP w_API_VERSIONS w_BY_ID cl_w_BY_ID) (hk : (p1.toInt16.toInt32) = (8 : Int32)) :
    MetFree l x (head1 (Jvm.Cond.code x code maxLocals ret :: ws) room_1) (fun a U => a = #[(.int p1)] ∧ Z.Warmed39 U.vm ∧ U.heap = h0) (fun _ _ _ _ _ => True) (fun _ U o U' => ∃ v L, o = .returned v ∧ Q0 h0 n0 v U'.heap L ∧ FrameEnd U o U' L room_1.cells room_1.slots) := by
  refine MetFree.of_bodySF (plainFor_of_name pn50) hisR ?_
  intro p e s m args below meth c s₁ Bd hml0 hP hK
  obtain ⟨rfl, hZ, hh⟩ := hP
  have hx := Bd.exec
  have hby := Bd.bytes
  have hml : c.maxLocals = 3 := hml0
  have hown : s.vm.findClass "com/example/melog/melog/protocol/ApiKeyForIdPinLaw" = some m.cls := findClass_of_methodNamed Bd.named
  have X0 : Stand p l e room_1 s m #[(.int p1)] below meth c s₁ [] 0 0 := Stand.of_body Bd
  have e0 : s₁.heap = h0 := by rw [← hh, Bd.state]; rfl
  have N0 := Fr.nil n0
  have pre0 : ∀ t, Steps p.tables e below (s₁.setTop (mkF m 0 #[.val (.int p1), .unset, .unset] [])) t → Steps p.tables e below (s₁.setTop (entryFrame m #[(.int p1)] maxLocals)) t := fun t k => castTop (ef53 m p1) k
  obtain ⟨S_w_PRODUCE, E_w_PRODUCE, S_w_METADATA, E_w_METADATA, S_w_LIST_OFFSETS, E_w_LIST_OFFSETS, S_w_JOIN_GROUP, E_w_JOIN_GROUP, S_w_OFFSET_COMMIT, E_w_OFFSET_COMMIT, S_w_FETCH, E_w_FETCH, S_w_FIND_COORDINATOR, E_w_FIND_COORDINATOR, S_w_CREATE_TOPICS, E_w_CREATE_TOPICS, S_w_SYNC_GROUP, E_w_SYNC_GROUP, S_w_OFFSET_FETCH, E_w_OFFSET_FETCH, S_w_HEARTBEAT, E_w_HEARTBEAT, S_w_LEAVE_GROUP, E_w_LEAVE_GROUP, S_w_API_VERSIONS, E_w_API_VERSIONS, S_w_BY_ID, Ar_w_BY_ID, Sz_w_BY_ID, At_w_BY_ID_0, At_w_BY_ID_3, At_w_BY_ID_7, At_w_BY_ID_2, At_w_BY_ID_11, At_w_BY_ID_8, At_w_BY_ID_1, At_w_BY_ID_10, At_w_BY_ID_16, At_w_BY_ID_19, At_w_BY_ID_15, At_w_BY_ID_14, At_w_BY_ID_6, At_w_BY_ID_9, At_w_BY_ID_12, At_w_BY_ID_17, At_w_BY_ID_13, At_w_BY_ID_5, At_w_BY_ID_18, At_w_BY_ID_4, -⟩ := id HW
  obtain ⟨_, _, ⟨T1, L1, k1, n1⟩, -, X1, ⟨Lc1, hQ1, l1, y1, z1⟩, st1⟩ := Jvm.LawKit.callS X0 hx (y := (⟨"com/example/melog/melog/protocol/ApiKey", "forId", "(S)Lcom/example/melog/melog/protocol/ApiKey;"⟩ : MethodName)) hown (mvT hZ (hw _ (List.mem_of_getElem? (i := 0) rfl))) (mvT hZ (hw _ (List.mem_of_getElem? (i := 1) rfl))) (mvT hZ (hw _ (List.mem_of_getElem? (i := 2) rfl))) (mvT hZ (hw _ (List.mem_of_getElem? (i := 3) rfl))) (by decide) (backOf (W := 0) (rm1_29 l Z a0 hw [] w_PRODUCE w_METADATA w_LIST_OFFSETS w_JOIN_GROUP w_OFFSET_COMMIT w_FETCH w_FIND_COORDINATOR w_CREATE_TOPICS w_SYNC_GROUP w_OFFSET_FETCH w_HEARTBEAT w_LEAVE_GROUP w_API_VERSIONS w_BY_ID cl_w_BY_ID h0 n0 Z0 HW) hZ (hw _ (List.mem_of_getElem? (i := 3) rfl)) (hw _ (List.mem_of_getElem? (i := 2) rfl)) (by decide) (by decide)) (g := (mkF m 4 #[.val (.int p1), .val (.int (8 : Int32)), .unset] [(.int (8 : Int32))])) rfl (by rw [hml]; rfl) (argsL := [(.int (8 : Int32))]) (rest := []) (lenOf pd7 rfl) rfl (by show 2 * 0 + _ ≤ _; exact Nat.le_of_eq rfl) (hb hby at_4) (fun _ _ => ⟨rfl, e0, (by decide : 0 + 0 ≤ _), (by decide : 0 + 0 ≤ _)⟩)
  dsimp only [Pt.U, Pt.locs, Pt.cells, Pt.slots] at X1 l1 y1 z1 st1 hQ1
  subst l1 y1 z1
  obtain ⟨rfl, N1q, e1⟩ := hQ1
  have N1 := Fr.app N0 N1q
  obtain ⟨_, _, ⟨T2, L2, k2, n2⟩, -, X2, ⟨Lc2, hQ2, l2, y2, z2⟩, st2⟩ := Jvm.LawKit.callS X1 hx (y := (⟨"com/example/melog/melog/protocol/ApiKeyForIdPinLaw", "expected", "(I)Lcom/example/melog/melog/protocol/ApiKey;"⟩ : MethodName)) hown (mvT hZ (hw _ (List.mem_of_getElem? (i := 7) rfl))) (mvT hZ (hw _ (List.mem_of_getElem? (i := 8) rfl))) (mvT hZ (hw _ (List.mem_of_getElem? (i := 9) rfl))) (mvT hZ (hw _ (List.mem_of_getElem? (i := 10) rfl))) (by decide) (backOf (W := 1) (rm2_30 l Z a0 hw [] w_PRODUCE w_METADATA w_LIST_OFFSETS w_JOIN_GROUP w_OFFSET_COMMIT w_FETCH w_FIND_COORDINATOR w_CREATE_TOPICS w_SYNC_GROUP w_OFFSET_FETCH w_HEARTBEAT w_LEAVE_GROUP w_API_VERSIONS w_BY_ID cl_w_BY_ID h0 n0 Z0 HW) hZ (hw _ (List.mem_of_getElem? (i := 10) rfl)) (hw _ (List.mem_of_getElem? (i := 9) rfl)) (by decide) (by decide)) (g := (mkF m 10 #[.val (.int p1), .val (.int (8 : Int32)), .val (.ref w_OFFSET_COMMIT)] [(.int (8 : Int32)), (.ref w_OFFSET_COMMIT)])) rfl (by rw [hml]; rfl) (argsL := [(.int (8 : Int32))]) (rest := [(.ref w_OFFSET_COMMIT)]) (lenOf pd51 rfl) rfl (by show 2 * 0 + _ ≤ _; exact Nat.le_of_eq rfl) (hb hby at_10) (fun _ _ => ⟨rfl, e1, (by decide : 0 + 0 ≤ _), (by decide : 0 + 0 ≤ _)⟩)
  dsimp only [Pt.U, Pt.locs, Pt.cells, Pt.slots] at X2 l2 y2 z2 st2 hQ2
  subst l2 y2 z2
  obtain ⟨rfl, N2q, e2⟩ := hQ2
  have N2 := Fr.app N1 N2q
  obtain ⟨fs, hr, hrun, hended, hW, hsame⟩ := X2.leave (v := some (.int (1 : Int32))) (fun h => by rw [Bd.returns] at h; cases h)
  refine ⟨_, _, pre0 _ ?_, hrun, hended, _, _, rfl, ?_, ⟨_, rfl⟩, hW, hsame.mono (by decide) (by decide)⟩
  · show Steps p.tables e below (s₁.setTop (mkF m 0 #[.val (.int p1), .unset, .unset] [])) _
    refine XS.iloadN X0.here hx rfl (hb hby at_0) rfl ?_
    show Steps p.tables e below (s₁.setTop (mkF m 1 #[.val (.int p1), .unset, .unset] [(.int p1)])) _
    refine XS.i2s X0.here hx rfl (hb hby at_1) rfl ?_
    rw [hk]
    show Steps p.tables e below (s₁.setTop (mkF m 2 #[.val (.int p1), .unset, .unset] [(.int (8 : Int32))])) _
    refine XS.istoreN X0.here hx rfl (hb hby at_2) rfl (l' := #[.val (.int p1), .val (.int (8 : Int32)), .unset]) rfl ?_
    show Steps p.tables e below (s₁.setTop (mkF m 3 #[.val (.int p1), .val (.int (8 : Int32)), .unset] [])) _
    refine XS.iloadN X0.here hx rfl (hb hby at_3) rfl ?_
    show Steps p.tables e below (s₁.setTop (mkF m 4 #[.val (.int p1), .val (.int (8 : Int32)), .unset] [(.int (8 : Int32))])) _
    refine st1 _ ?_
    show Steps p.tables e below (T1.setTop (mkF m 7 #[.val (.int p1), .val (.int (8 : Int32)), .unset] [(.ref w_OFFSET_COMMIT)])) _
    refine XS.astoreN X1.here hx rfl (hb hby at_7) rfl rfl (l' := #[.val (.int p1), .val (.int (8 : Int32)), .val (.ref w_OFFSET_COMMIT)]) rfl ?_
    show Steps p.tables e below (T1.setTop (mkF m 8 #[.val (.int p1), .val (.int (8 : Int32)), .val (.ref w_OFFSET_COMMIT)] [])) _
    refine XS.aloadN X1.here hx rfl (hb hby at_8) rfl rfl ?_
    show Steps p.tables e below (T1.setTop (mkF m 9 #[.val (.int p1), .val (.int (8 : Int32)), .val (.ref w_OFFSET_COMMIT)] [(.ref w_OFFSET_COMMIT)])) _
    refine XS.iloadN X1.here hx rfl (hb hby at_9) rfl ?_
    show Steps p.tables e below (T1.setTop (mkF m 10 #[.val (.int p1), .val (.int (8 : Int32)), .val (.ref w_OFFSET_COMMIT)] [(.int (8 : Int32)), (.ref w_OFFSET_COMMIT)])) _
    refine st2 _ ?_
    show Steps p.tables e below (T2.setTop (mkF m 13 #[.val (.int p1), .val (.int (8 : Int32)), .val (.ref w_OFFSET_COMMIT)] [(.ref w_OFFSET_COMMIT), (.ref w_OFFSET_COMMIT)])) _
    refine Jvm.RoadKit.acmp (g := (mkF m 13 #[.val (.int p1), .val (.int (8 : Int32)), .val (.ref w_OFFSET_COMMIT)] [(.ref w_OFFSET_COMMIT), (.ref w_OFFSET_COMMIT)])) X2 hx rfl rfl rfl (pc0 := 13) (pc' := 16) (same := true) rfl (hb hby at_13) rfl (decide_eq_true rfl) (by decide) (by decide) ?_
    show Steps p.tables e below (T2.setTop (mkF m 16 #[.val (.int p1), .val (.int (8 : Int32)), .val (.ref w_OFFSET_COMMIT)] [])) _
    refine XS.iconst X2.here hx rfl (hb hby at_16) ?_
    show Steps p.tables e below (T2.setTop (mkF m 17 #[.val (.int p1), .val (.int (8 : Int32)), .val (.ref w_OFFSET_COMMIT)] [(.int (1 : Int32))])) _
    refine XS.goto X2.here hx rfl (pc0 := 17) (pc' := 21) rfl (hb hby at_17) (by decide) (by decide) ?_
    show Steps p.tables e below (T2.setTop (mkF m 21 #[.val (.int p1), .val (.int (8 : Int32)), .val (.ref w_OFFSET_COMMIT)] [(.int (1 : Int32))])) _
    exact retN X2 hx (t := .boolean) Bd.returns (by simp) (hb hby at_21) hr
  · exact ⟨rfl, N2⟩
def Q1_32 (Z : State) (w_PRODUCE : Addr) (w_METADATA : Addr) (w_LIST_OFFSETS : Addr) (w_JOIN_GROUP : Addr) (w_OFFSET_COMMIT : Addr) (w_FETCH : Addr) (w_FIND_COORDINATOR : Addr) (w_CREATE_TOPICS : Addr) (w_SYNC_GROUP : Addr) (w_OFFSET_FETCH : Addr) (w_HEARTBEAT : Addr) (w_LEAVE_GROUP : Addr) (w_API_VERSIONS : Addr) (w_BY_ID : Addr) (cl_w_BY_ID : Cell) (h0 : Heap) (n0 : Nat) (v : Option Value) (h : Heap) (L : List Loc) : Prop := v = some (.ref w_OFFSET_FETCH) ∧ Fr n0 L ∧ h = h0
set_option maxRecDepth 65536 in
set_option maxHeartbeats 40000000 in
theorem rm1_32 (l : Launch) (Z : State) (a0 : Array Value) (hw : ∀ d ∈ tables_1, d.before a0 Z = true) (ws : List Jvm.Cond) (w_PRODUCE : Addr) (w_METADATA : Addr) (w_LIST_OFFSETS : Addr) (w_JOIN_GROUP : Addr) (w_OFFSET_COMMIT : Addr) (w_FETCH : Addr) (w_FIND_COORDINATOR : Addr) (w_CREATE_TOPICS : Addr) (w_SYNC_GROUP : Addr) (w_OFFSET_FETCH : Addr) (w_HEARTBEAT : Addr) (w_LEAVE_GROUP : Addr) (w_API_VERSIONS : Addr) (w_BY_ID : Addr) (cl_w_BY_ID : Cell) (h0 : Heap) (n0 : Nat) (Z0 : n0 ≤ h0.size) (HW : World Z h0 w_PRODUCE w_METADATA w_LIST_OFFSETS w_JOIN_GROUP w_OFFSET_COMMIT w_FETCH w_FIND_COORDINATOR w_CREATE_TOPICS w_SYNC_GROUP w_OFFSET_FETCH w_HEARTBEAT w_LEAVE_GROUP w_API_VERSIONS w_BY_ID cl_w_BY_ID) :
    MetFree l (⟨"com/example/melog/melog/protocol/ApiKey", "forId", "(S)Lcom/example/melog/melog/protocol/ApiKey;"⟩ : MethodName) (head1 (Jvm.Cond.code (⟨"com/example/melog/melog/protocol/ApiKey", "forId", "(S)Lcom/example/melog/melog/protocol/ApiKey;"⟩ : MethodName) prog_9_method_4_code 1 (some (.object "com/example/melog/melog/protocol/ApiKey")) :: ws) ({ frames := 0, cells := 0, slots := 0, locals := 0 } : Room)) (fun a U => a = #[(.int (9 : Int32))] ∧ Z.Warmed39 U.vm ∧ U.heap = h0) (fun _ _ _ _ _ => True) (fun _ U o U' => ∃ v L, o = .returned v ∧ Q1_32 Z w_PRODUCE w_METADATA w_LIST_OFFSETS w_JOIN_GROUP w_OFFSET_COMMIT w_FETCH w_FIND_COORDINATOR w_CREATE_TOPICS w_SYNC_GROUP w_OFFSET_FETCH w_HEARTBEAT w_LEAVE_GROUP w_API_VERSIONS w_BY_ID cl_w_BY_ID h0 n0 v U'.heap L ∧ FrameEnd U o U' L ({ frames := 0, cells := 0, slots := 0, locals := 0 } : Room).cells ({ frames := 0, cells := 0, slots := 0, locals := 0 } : Room).slots) := by
  refine MetFree.of_bodySF (plainFor_of_name pn6) hisR ?_
  intro p e s m args below meth c s₁ Bd hml0 hP hK
  obtain ⟨rfl, hZ, hh⟩ := hP
  have hx := Bd.exec
  have hby := Bd.bytes
  have hml : c.maxLocals = 1 := hml0
  have hown : s.vm.findClass "com/example/melog/melog/protocol/ApiKey" = some m.cls := findClass_of_methodNamed Bd.named
  have X0 : Stand p l e ({ frames := 0, cells := 0, slots := 0, locals := 0 } : Room) s m #[(.int (9 : Int32))] below meth c s₁ [] 0 0 := Stand.of_body Bd
  have e0 : s₁.heap = h0 := by rw [← hh, Bd.state]; rfl
  have N0 := Fr.nil n0
  have pre0 : ∀ t, Steps p.tables e below (s₁.setTop (mkF m 0 #[.val (.int (9 : Int32))] [])) t → Steps p.tables e below (s₁.setTop (entryFrame m #[(.int (9 : Int32))] 1)) t := fun t k => castTop (ef5 m (9 : Int32)) k
  obtain ⟨S_w_PRODUCE, E_w_PRODUCE, S_w_METADATA, E_w_METADATA, S_w_LIST_OFFSETS, E_w_LIST_OFFSETS, S_w_JOIN_GROUP, E_w_JOIN_GROUP, S_w_OFFSET_COMMIT, E_w_OFFSET_COMMIT, S_w_FETCH, E_w_FETCH, S_w_FIND_COORDINATOR, E_w_FIND_COORDINATOR, S_w_CREATE_TOPICS, E_w_CREATE_TOPICS, S_w_SYNC_GROUP, E_w_SYNC_GROUP, S_w_OFFSET_FETCH, E_w_OFFSET_FETCH, S_w_HEARTBEAT, E_w_HEARTBEAT, S_w_LEAVE_GROUP, E_w_LEAVE_GROUP, S_w_API_VERSIONS, E_w_API_VERSIONS, S_w_BY_ID, Ar_w_BY_ID, Sz_w_BY_ID, At_w_BY_ID_0, At_w_BY_ID_3, At_w_BY_ID_7, At_w_BY_ID_2, At_w_BY_ID_11, At_w_BY_ID_8, At_w_BY_ID_1, At_w_BY_ID_10, At_w_BY_ID_16, At_w_BY_ID_19, At_w_BY_ID_15, At_w_BY_ID_14, At_w_BY_ID_6, At_w_BY_ID_9, At_w_BY_ID_12, At_w_BY_ID_17, At_w_BY_ID_13, At_w_BY_ID_5, At_w_BY_ID_18, At_w_BY_ID_4, -⟩ := id HW
  obtain ⟨T1, X1, e1, st1⟩ := getS2 X0 hx hZ hown (host := "") (Or.inl (hw _ (List.mem_of_getElem? (i := 4) rfl))) Via.refl e0 S_w_BY_ID (g := (mkF m 5 #[.val (.int (9 : Int32))] [(.int (9 : Int32))])) rfl (hb hby d1_5)
  obtain ⟨T2, X2, e2, st2⟩ := getS2 X1 hx hZ hown (host := "") (Or.inl (hw _ (List.mem_of_getElem? (i := 4) rfl))) Via.refl e1 S_w_BY_ID (g := (mkF m 12 #[.val (.int (9 : Int32))] [])) rfl (hb hby d1_12)
  obtain ⟨fs, hr, hrun, hended, hW, hsame⟩ := X2.leave (v := some (.ref w_OFFSET_FETCH)) (fun h => by rw [Bd.returns] at h; cases h)
  refine ⟨_, _, pre0 _ ?_, hrun, hended, _, _, rfl, ?_, ⟨_, rfl⟩, hW, hsame.mono (by decide) (by decide)⟩
  · show Steps p.tables e below (s₁.setTop (mkF m 0 #[.val (.int (9 : Int32))] [])) _
    refine XS.iloadN X0.here hx rfl (hb hby d1_0) rfl ?_
    show Steps p.tables e below (s₁.setTop (mkF m 1 #[.val (.int (9 : Int32))] [(.int (9 : Int32))])) _
    refine XS.ifNo X0.here hx rfl (hb hby d1_1) rfl ((if0 _ _).trans (flt (by decide : ¬ ((9 : Int32) < (0 : Int32)))).1) ?_
    show Steps p.tables e below (s₁.setTop (mkF m 4 #[.val (.int (9 : Int32))] [])) _
    refine XS.iloadN X0.here hx rfl (hb hby d1_4) rfl ?_
    show Steps p.tables e below (s₁.setTop (mkF m 5 #[.val (.int (9 : Int32))] [(.int (9 : Int32))])) _
    refine st1 _ ?_
    show Steps p.tables e below (T1.setTop (mkF m 8 #[.val (.int (9 : Int32))] [(.ref w_BY_ID), (.int (9 : Int32))])) _
    refine X1.arraylength hx (by rw [e1]; exact Ar_w_BY_ID.1) (State.isArrayOf_alike hZ.alike Ar_w_BY_ID.2.1) (g := (mkF m 8 #[.val (.int (9 : Int32))] [(.ref w_BY_ID), (.int (9 : Int32))])) rfl rfl (hb hby d1_8) _ ?_
    rw [Sz_w_BY_ID]
    show Steps p.tables e below (T1.setTop (mkF m 9 #[.val (.int (9 : Int32))] [(.int (20 : Int32)), (.int (9 : Int32))])) _
    refine XS.icmpNo X1.here hx rfl (hb hby d1_9) rfl (tlt (by decide : (9 : Int32) < (20 : Int32))).2.1 ?_
    show Steps p.tables e below (T1.setTop (mkF m 12 #[.val (.int (9 : Int32))] [])) _
    refine st2 _ ?_
    show Steps p.tables e below (T2.setTop (mkF m 15 #[.val (.int (9 : Int32))] [(.ref w_BY_ID)])) _
    refine XS.iloadN X2.here hx rfl (hb hby d1_15) rfl ?_
    show Steps p.tables e below (T2.setTop (mkF m 16 #[.val (.int (9 : Int32))] [(.int (9 : Int32)), (.ref w_BY_ID)])) _
    refine X2.aaload hx (j := (9 : Int32)) (v := (.ref w_OFFSET_FETCH)) (by rw [e2]; exact Ar_w_BY_ID.1) (State.isArrayOf_alike hZ.alike Ar_w_BY_ID.2.1) rfl Ar_w_BY_ID.2.2 At_w_BY_ID_9.1 At_w_BY_ID_9.2 (g := (mkF m 16 #[.val (.int (9 : Int32))] [(.int (9 : Int32)), (.ref w_BY_ID)])) rfl rfl (hb hby d1_16) _ ?_
    show Steps p.tables e below (T2.setTop (mkF m 17 #[.val (.int (9 : Int32))] [(.ref w_OFFSET_FETCH)])) _
    refine XS.goto X2.here hx rfl (pc0 := 17) (pc' := 21) rfl (hb hby d1_17) (by decide) (by decide) ?_
    show Steps p.tables e below (T2.setTop (mkF m 21 #[.val (.int (9 : Int32))] [(.ref w_OFFSET_FETCH)])) _
    jvm_step X2.here [X2.here.top, hx, (hb hby d1_21), X2.method', Bd.returns, Value.isRef, FieldType.isReference]
    first | (intro acts; rw [hr _ acts rfl rfl rfl]) | rw [hr _ _ rfl rfl rfl]
    exact Steps.refl _
  · exact ⟨rfl, N0, e2⟩
theorem d2_51 : decode method_2_code 51 = .ok (.getstatic 25, 3) := by decide +kernel
theorem d2_54 : decode method_2_code 54 = .ok (.areturn, 1) := by decide +kernel
def Q2_33 (Z : State) (w_PRODUCE : Addr) (w_METADATA : Addr) (w_LIST_OFFSETS : Addr) (w_JOIN_GROUP : Addr) (w_OFFSET_COMMIT : Addr) (w_FETCH : Addr) (w_FIND_COORDINATOR : Addr) (w_CREATE_TOPICS : Addr) (w_SYNC_GROUP : Addr) (w_OFFSET_FETCH : Addr) (w_HEARTBEAT : Addr) (w_LEAVE_GROUP : Addr) (w_API_VERSIONS : Addr) (w_BY_ID : Addr) (cl_w_BY_ID : Cell) (h0 : Heap) (n0 : Nat) (v : Option Value) (h : Heap) (L : List Loc) : Prop := v = some (.ref w_OFFSET_FETCH) ∧ Fr n0 L ∧ h = h0
set_option maxRecDepth 65536 in
set_option maxHeartbeats 40000000 in
theorem rm2_33 (l : Launch) (Z : State) (a0 : Array Value) (hw : ∀ d ∈ tables_1, d.before a0 Z = true) (ws : List Jvm.Cond) (w_PRODUCE : Addr) (w_METADATA : Addr) (w_LIST_OFFSETS : Addr) (w_JOIN_GROUP : Addr) (w_OFFSET_COMMIT : Addr) (w_FETCH : Addr) (w_FIND_COORDINATOR : Addr) (w_CREATE_TOPICS : Addr) (w_SYNC_GROUP : Addr) (w_OFFSET_FETCH : Addr) (w_HEARTBEAT : Addr) (w_LEAVE_GROUP : Addr) (w_API_VERSIONS : Addr) (w_BY_ID : Addr) (cl_w_BY_ID : Cell) (h0 : Heap) (n0 : Nat) (Z0 : n0 ≤ h0.size) (HW : World Z h0 w_PRODUCE w_METADATA w_LIST_OFFSETS w_JOIN_GROUP w_OFFSET_COMMIT w_FETCH w_FIND_COORDINATOR w_CREATE_TOPICS w_SYNC_GROUP w_OFFSET_FETCH w_HEARTBEAT w_LEAVE_GROUP w_API_VERSIONS w_BY_ID cl_w_BY_ID) :
    MetFree l (⟨"com/example/melog/melog/protocol/ApiKeyForIdPinLaw", "expected", "(I)Lcom/example/melog/melog/protocol/ApiKey;"⟩ : MethodName) (head1 (Jvm.Cond.code (⟨"com/example/melog/melog/protocol/ApiKeyForIdPinLaw", "expected", "(I)Lcom/example/melog/melog/protocol/ApiKey;"⟩ : MethodName) method_2_code 1 (some (.object "com/example/melog/melog/protocol/ApiKey")) :: ws) ({ frames := 0, cells := 0, slots := 0, locals := 0 } : Room)) (fun a U => a = #[(.int (9 : Int32))] ∧ Z.Warmed39 U.vm ∧ U.heap = h0) (fun _ _ _ _ _ => True) (fun _ U o U' => ∃ v L, o = .returned v ∧ Q2_33 Z w_PRODUCE w_METADATA w_LIST_OFFSETS w_JOIN_GROUP w_OFFSET_COMMIT w_FETCH w_FIND_COORDINATOR w_CREATE_TOPICS w_SYNC_GROUP w_OFFSET_FETCH w_HEARTBEAT w_LEAVE_GROUP w_API_VERSIONS w_BY_ID cl_w_BY_ID h0 n0 v U'.heap L ∧ FrameEnd U o U' L ({ frames := 0, cells := 0, slots := 0, locals := 0 } : Room).cells ({ frames := 0, cells := 0, slots := 0, locals := 0 } : Room).slots) := by
  refine MetFree.of_bodySF (plainFor_of_name pn50) hisR ?_
  intro p e s m args below meth c s₁ Bd hml0 hP hK
  obtain ⟨rfl, hZ, hh⟩ := hP
  have hx := Bd.exec
  have hby := Bd.bytes
  have hml : c.maxLocals = 1 := hml0
  have hown : s.vm.findClass "com/example/melog/melog/protocol/ApiKeyForIdPinLaw" = some m.cls := findClass_of_methodNamed Bd.named
  have X0 : Stand p l e ({ frames := 0, cells := 0, slots := 0, locals := 0 } : Room) s m #[(.int (9 : Int32))] below meth c s₁ [] 0 0 := Stand.of_body Bd
  have e0 : s₁.heap = h0 := by rw [← hh, Bd.state]; rfl
  have N0 := Fr.nil n0
  have pre0 : ∀ t, Steps p.tables e below (s₁.setTop (mkF m 0 #[.val (.int (9 : Int32))] [])) t → Steps p.tables e below (s₁.setTop (entryFrame m #[(.int (9 : Int32))] 1)) t := fun t k => castTop (ef49 m (9 : Int32)) k
  obtain ⟨S_w_PRODUCE, E_w_PRODUCE, S_w_METADATA, E_w_METADATA, S_w_LIST_OFFSETS, E_w_LIST_OFFSETS, S_w_JOIN_GROUP, E_w_JOIN_GROUP, S_w_OFFSET_COMMIT, E_w_OFFSET_COMMIT, S_w_FETCH, E_w_FETCH, S_w_FIND_COORDINATOR, E_w_FIND_COORDINATOR, S_w_CREATE_TOPICS, E_w_CREATE_TOPICS, S_w_SYNC_GROUP, E_w_SYNC_GROUP, S_w_OFFSET_FETCH, E_w_OFFSET_FETCH, S_w_HEARTBEAT, E_w_HEARTBEAT, S_w_LEAVE_GROUP, E_w_LEAVE_GROUP, S_w_API_VERSIONS, E_w_API_VERSIONS, S_w_BY_ID, Ar_w_BY_ID, Sz_w_BY_ID, At_w_BY_ID_0, At_w_BY_ID_3, At_w_BY_ID_7, At_w_BY_ID_2, At_w_BY_ID_11, At_w_BY_ID_8, At_w_BY_ID_1, At_w_BY_ID_10, At_w_BY_ID_16, At_w_BY_ID_19, At_w_BY_ID_15, At_w_BY_ID_14, At_w_BY_ID_6, At_w_BY_ID_9, At_w_BY_ID_12, At_w_BY_ID_17, At_w_BY_ID_13, At_w_BY_ID_5, At_w_BY_ID_18, At_w_BY_ID_4, -⟩ := id HW
  obtain ⟨T1, X1, e1, st1⟩ := getS2 X0 hx hZ hown (host := "") (Or.inl (hw _ (List.mem_of_getElem? (i := 29) rfl))) Via.refl e0 S_w_OFFSET_FETCH (g := (mkF m 51 #[.val (.int (9 : Int32))] [])) rfl (hb hby d2_51)
  obtain ⟨fs, hr, hrun, hended, hW, hsame⟩ := X1.leave (v := some (.ref w_OFFSET_FETCH)) (fun h => by rw [Bd.returns] at h; cases h)
  refine ⟨_, _, pre0 _ ?_, hrun, hended, _, _, rfl, ?_, ⟨_, rfl⟩, hW, hsame.mono (by decide) (by decide)⟩
  · show Steps p.tables e below (s₁.setTop (mkF m 0 #[.val (.int (9 : Int32))] [])) _
    refine XS.iloadN X0.here hx rfl (hb hby d2_0) rfl ?_
    show Steps p.tables e below (s₁.setTop (mkF m 1 #[.val (.int (9 : Int32))] [(.int (9 : Int32))])) _
    refine XS.ifYes X0.here hx rfl (pc0 := 1) (pc' := 8) rfl (hb hby d2_1) rfl ((if0 _ _).trans (feq (by decide : ¬ ((9 : Int32) = (0 : Int32)))).2) (by decide) (by decide) ?_
    show Steps p.tables e below (s₁.setTop (mkF m 8 #[.val (.int (9 : Int32))] [])) _
    refine XS.iloadN X0.here hx rfl (hb hby d2_8) rfl ?_
    show Steps p.tables e below (s₁.setTop (mkF m 9 #[.val (.int (9 : Int32))] [(.int (9 : Int32))])) _
    refine XS.iconst X0.here hx rfl (hb hby d2_9) ?_
    show Steps p.tables e below (s₁.setTop (mkF m 10 #[.val (.int (9 : Int32))] [(.int (1 : Int32)), (.int (9 : Int32))])) _
    refine XS.icmpYes X0.here hx rfl (pc0 := 10) (pc' := 17) rfl (hb hby d2_10) rfl (feq (by decide : ¬ ((9 : Int32) = (1 : Int32)))).2 (by decide) (by decide) ?_
    show Steps p.tables e below (s₁.setTop (mkF m 17 #[.val (.int (9 : Int32))] [])) _
    refine XS.iloadN X0.here hx rfl (hb hby d2_17) rfl ?_
    show Steps p.tables e below (s₁.setTop (mkF m 18 #[.val (.int (9 : Int32))] [(.int (9 : Int32))])) _
    refine XS.iconst X0.here hx rfl (hb hby d2_18) ?_
    show Steps p.tables e below (s₁.setTop (mkF m 19 #[.val (.int (9 : Int32))] [(.int (2 : Int32)), (.int (9 : Int32))])) _
    refine XS.icmpYes X0.here hx rfl (pc0 := 19) (pc' := 26) rfl (hb hby d2_19) rfl (feq (by decide : ¬ ((9 : Int32) = (2 : Int32)))).2 (by decide) (by decide) ?_
    show Steps p.tables e below (s₁.setTop (mkF m 26 #[.val (.int (9 : Int32))] [])) _
    refine XS.iloadN X0.here hx rfl (hb hby d2_26) rfl ?_
    show Steps p.tables e below (s₁.setTop (mkF m 27 #[.val (.int (9 : Int32))] [(.int (9 : Int32))])) _
    refine XS.iconst X0.here hx rfl (hb hby d2_27) ?_
    show Steps p.tables e below (s₁.setTop (mkF m 28 #[.val (.int (9 : Int32))] [(.int (3 : Int32)), (.int (9 : Int32))])) _
    refine XS.icmpYes X0.here hx rfl (pc0 := 28) (pc' := 35) rfl (hb hby d2_28) rfl (feq (by decide : ¬ ((9 : Int32) = (3 : Int32)))).2 (by decide) (by decide) ?_
    show Steps p.tables e below (s₁.setTop (mkF m 35 #[.val (.int (9 : Int32))] [])) _
    refine XS.iloadN X0.here hx rfl (hb hby d2_35) rfl ?_
    show Steps p.tables e below (s₁.setTop (mkF m 36 #[.val (.int (9 : Int32))] [(.int (9 : Int32))])) _
    refine XS.bipush X0.here hx rfl (hb hby d2_36) ?_
    show Steps p.tables e below (s₁.setTop (mkF m 38 #[.val (.int (9 : Int32))] [(.int (8 : Int32)), (.int (9 : Int32))])) _
    refine XS.icmpYes X0.here hx rfl (pc0 := 38) (pc' := 45) rfl (hb hby d2_38) rfl (feq (by decide : ¬ ((9 : Int32) = (8 : Int32)))).2 (by decide) (by decide) ?_
    show Steps p.tables e below (s₁.setTop (mkF m 45 #[.val (.int (9 : Int32))] [])) _
    refine XS.iloadN X0.here hx rfl (hb hby d2_45) rfl ?_
    show Steps p.tables e below (s₁.setTop (mkF m 46 #[.val (.int (9 : Int32))] [(.int (9 : Int32))])) _
    refine XS.bipush X0.here hx rfl (hb hby d2_46) ?_
    show Steps p.tables e below (s₁.setTop (mkF m 48 #[.val (.int (9 : Int32))] [(.int (9 : Int32)), (.int (9 : Int32))])) _
    refine XS.icmpNo X0.here hx rfl (hb hby d2_48) rfl (teq (by decide : (9 : Int32) = (9 : Int32))).2 ?_
    show Steps p.tables e below (s₁.setTop (mkF m 51 #[.val (.int (9 : Int32))] [])) _
    refine st1 _ ?_
    show Steps p.tables e below (T1.setTop (mkF m 54 #[.val (.int (9 : Int32))] [(.ref w_OFFSET_FETCH)])) _
    jvm_step X1.here [X1.here.top, hx, (hb hby d2_54), X1.method', Bd.returns, Value.isRef, FieldType.isReference]
    first | (intro acts; rw [hr _ acts rfl rfl rfl]) | rw [hr _ _ rfl rfl rfl]
    exact Steps.refl _
  · exact ⟨rfl, N0, e1⟩
set_option maxRecDepth 65536 in
set_option maxHeartbeats 40000000 in
theorem rm0_c9 (l : Launch) (Z : State) (a0 : Array Value) (hw : ∀ d ∈ tables_1, d.before a0 Z = true) (ws : List Jvm.Cond) (w_PRODUCE : Addr) (w_METADATA : Addr) (w_LIST_OFFSETS : Addr) (w_JOIN_GROUP : Addr) (w_OFFSET_COMMIT : Addr) (w_FETCH : Addr) (w_FIND_COORDINATOR : Addr) (w_CREATE_TOPICS : Addr) (w_SYNC_GROUP : Addr) (w_OFFSET_FETCH : Addr) (w_HEARTBEAT : Addr) (w_LEAVE_GROUP : Addr) (w_API_VERSIONS : Addr) (w_BY_ID : Addr) (cl_w_BY_ID : Cell) (p1 : Int32) (h0 : Heap) (n0 : Nat) (Z0 : n0 ≤ h0.size) (HW : World Z h0 w_PRODUCE w_METADATA w_LIST_OFFSETS w_JOIN_GROUP w_OFFSET_COMMIT w_FETCH w_FIND_COORDINATOR w_CREATE_TOPICS w_SYNC_GROUP w_OFFSET_FETCH w_HEARTBEAT w_LEAVE_GROUP w_API_VERSIONS w_BY_ID cl_w_BY_ID) (hk : (p1.toInt16.toInt32) = (9 : Int32)) :
    MetFree l x (head1 (Jvm.Cond.code x code maxLocals ret :: ws) room_1) (fun a U => a = #[(.int p1)] ∧ Z.Warmed39 U.vm ∧ U.heap = h0) (fun _ _ _ _ _ => True) (fun _ U o U' => ∃ v L, o = .returned v ∧ Q0 h0 n0 v U'.heap L ∧ FrameEnd U o U' L room_1.cells room_1.slots) := by
  refine MetFree.of_bodySF (plainFor_of_name pn50) hisR ?_
  intro p e s m args below meth c s₁ Bd hml0 hP hK
  obtain ⟨rfl, hZ, hh⟩ := hP
  have hx := Bd.exec
  have hby := Bd.bytes
  have hml : c.maxLocals = 3 := hml0
  have hown : s.vm.findClass "com/example/melog/melog/protocol/ApiKeyForIdPinLaw" = some m.cls := findClass_of_methodNamed Bd.named
  have X0 : Stand p l e room_1 s m #[(.int p1)] below meth c s₁ [] 0 0 := Stand.of_body Bd
  have e0 : s₁.heap = h0 := by rw [← hh, Bd.state]; rfl
  have N0 := Fr.nil n0
  have pre0 : ∀ t, Steps p.tables e below (s₁.setTop (mkF m 0 #[.val (.int p1), .unset, .unset] [])) t → Steps p.tables e below (s₁.setTop (entryFrame m #[(.int p1)] maxLocals)) t := fun t k => castTop (ef53 m p1) k
  obtain ⟨S_w_PRODUCE, E_w_PRODUCE, S_w_METADATA, E_w_METADATA, S_w_LIST_OFFSETS, E_w_LIST_OFFSETS, S_w_JOIN_GROUP, E_w_JOIN_GROUP, S_w_OFFSET_COMMIT, E_w_OFFSET_COMMIT, S_w_FETCH, E_w_FETCH, S_w_FIND_COORDINATOR, E_w_FIND_COORDINATOR, S_w_CREATE_TOPICS, E_w_CREATE_TOPICS, S_w_SYNC_GROUP, E_w_SYNC_GROUP, S_w_OFFSET_FETCH, E_w_OFFSET_FETCH, S_w_HEARTBEAT, E_w_HEARTBEAT, S_w_LEAVE_GROUP, E_w_LEAVE_GROUP, S_w_API_VERSIONS, E_w_API_VERSIONS, S_w_BY_ID, Ar_w_BY_ID, Sz_w_BY_ID, At_w_BY_ID_0, At_w_BY_ID_3, At_w_BY_ID_7, At_w_BY_ID_2, At_w_BY_ID_11, At_w_BY_ID_8, At_w_BY_ID_1, At_w_BY_ID_10, At_w_BY_ID_16, At_w_BY_ID_19, At_w_BY_ID_15, At_w_BY_ID_14, At_w_BY_ID_6, At_w_BY_ID_9, At_w_BY_ID_12, At_w_BY_ID_17, At_w_BY_ID_13, At_w_BY_ID_5, At_w_BY_ID_18, At_w_BY_ID_4, -⟩ := id HW
  obtain ⟨_, _, ⟨T1, L1, k1, n1⟩, -, X1, ⟨Lc1, hQ1, l1, y1, z1⟩, st1⟩ := Jvm.LawKit.callS X0 hx (y := (⟨"com/example/melog/melog/protocol/ApiKey", "forId", "(S)Lcom/example/melog/melog/protocol/ApiKey;"⟩ : MethodName)) hown (mvT hZ (hw _ (List.mem_of_getElem? (i := 0) rfl))) (mvT hZ (hw _ (List.mem_of_getElem? (i := 1) rfl))) (mvT hZ (hw _ (List.mem_of_getElem? (i := 2) rfl))) (mvT hZ (hw _ (List.mem_of_getElem? (i := 3) rfl))) (by decide) (backOf (W := 0) (rm1_32 l Z a0 hw [] w_PRODUCE w_METADATA w_LIST_OFFSETS w_JOIN_GROUP w_OFFSET_COMMIT w_FETCH w_FIND_COORDINATOR w_CREATE_TOPICS w_SYNC_GROUP w_OFFSET_FETCH w_HEARTBEAT w_LEAVE_GROUP w_API_VERSIONS w_BY_ID cl_w_BY_ID h0 n0 Z0 HW) hZ (hw _ (List.mem_of_getElem? (i := 3) rfl)) (hw _ (List.mem_of_getElem? (i := 2) rfl)) (by decide) (by decide)) (g := (mkF m 4 #[.val (.int p1), .val (.int (9 : Int32)), .unset] [(.int (9 : Int32))])) rfl (by rw [hml]; rfl) (argsL := [(.int (9 : Int32))]) (rest := []) (lenOf pd7 rfl) rfl (by show 2 * 0 + _ ≤ _; exact Nat.le_of_eq rfl) (hb hby at_4) (fun _ _ => ⟨rfl, e0, (by decide : 0 + 0 ≤ _), (by decide : 0 + 0 ≤ _)⟩)
  dsimp only [Pt.U, Pt.locs, Pt.cells, Pt.slots] at X1 l1 y1 z1 st1 hQ1
  subst l1 y1 z1
  obtain ⟨rfl, N1q, e1⟩ := hQ1
  have N1 := Fr.app N0 N1q
  obtain ⟨_, _, ⟨T2, L2, k2, n2⟩, -, X2, ⟨Lc2, hQ2, l2, y2, z2⟩, st2⟩ := Jvm.LawKit.callS X1 hx (y := (⟨"com/example/melog/melog/protocol/ApiKeyForIdPinLaw", "expected", "(I)Lcom/example/melog/melog/protocol/ApiKey;"⟩ : MethodName)) hown (mvT hZ (hw _ (List.mem_of_getElem? (i := 7) rfl))) (mvT hZ (hw _ (List.mem_of_getElem? (i := 8) rfl))) (mvT hZ (hw _ (List.mem_of_getElem? (i := 9) rfl))) (mvT hZ (hw _ (List.mem_of_getElem? (i := 10) rfl))) (by decide) (backOf (W := 1) (rm2_33 l Z a0 hw [] w_PRODUCE w_METADATA w_LIST_OFFSETS w_JOIN_GROUP w_OFFSET_COMMIT w_FETCH w_FIND_COORDINATOR w_CREATE_TOPICS w_SYNC_GROUP w_OFFSET_FETCH w_HEARTBEAT w_LEAVE_GROUP w_API_VERSIONS w_BY_ID cl_w_BY_ID h0 n0 Z0 HW) hZ (hw _ (List.mem_of_getElem? (i := 10) rfl)) (hw _ (List.mem_of_getElem? (i := 9) rfl)) (by decide) (by decide)) (g := (mkF m 10 #[.val (.int p1), .val (.int (9 : Int32)), .val (.ref w_OFFSET_FETCH)] [(.int (9 : Int32)), (.ref w_OFFSET_FETCH)])) rfl (by rw [hml]; rfl) (argsL := [(.int (9 : Int32))]) (rest := [(.ref w_OFFSET_FETCH)]) (lenOf pd51 rfl) rfl (by show 2 * 0 + _ ≤ _; exact Nat.le_of_eq rfl) (hb hby at_10) (fun _ _ => ⟨rfl, e1, (by decide : 0 + 0 ≤ _), (by decide : 0 + 0 ≤ _)⟩)
  dsimp only [Pt.U, Pt.locs, Pt.cells, Pt.slots] at X2 l2 y2 z2 st2 hQ2
  subst l2 y2 z2
  obtain ⟨rfl, N2q, e2⟩ := hQ2
  have N2 := Fr.app N1 N2q
  obtain ⟨fs, hr, hrun, hended, hW, hsame⟩ := X2.leave (v := some (.int (1 : Int32))) (fun h => by rw [Bd.returns] at h; cases h)
  refine ⟨_, _, pre0 _ ?_, hrun, hended, _, _, rfl, ?_, ⟨_, rfl⟩, hW, hsame.mono (by decide) (by decide)⟩
  · show Steps p.tables e below (s₁.setTop (mkF m 0 #[.val (.int p1), .unset, .unset] [])) _
    refine XS.iloadN X0.here hx rfl (hb hby at_0) rfl ?_
    show Steps p.tables e below (s₁.setTop (mkF m 1 #[.val (.int p1), .unset, .unset] [(.int p1)])) _
    refine XS.i2s X0.here hx rfl (hb hby at_1) rfl ?_
    rw [hk]
    show Steps p.tables e below (s₁.setTop (mkF m 2 #[.val (.int p1), .unset, .unset] [(.int (9 : Int32))])) _
    refine XS.istoreN X0.here hx rfl (hb hby at_2) rfl (l' := #[.val (.int p1), .val (.int (9 : Int32)), .unset]) rfl ?_
    show Steps p.tables e below (s₁.setTop (mkF m 3 #[.val (.int p1), .val (.int (9 : Int32)), .unset] [])) _
    refine XS.iloadN X0.here hx rfl (hb hby at_3) rfl ?_
    show Steps p.tables e below (s₁.setTop (mkF m 4 #[.val (.int p1), .val (.int (9 : Int32)), .unset] [(.int (9 : Int32))])) _
    refine st1 _ ?_
    show Steps p.tables e below (T1.setTop (mkF m 7 #[.val (.int p1), .val (.int (9 : Int32)), .unset] [(.ref w_OFFSET_FETCH)])) _
    refine XS.astoreN X1.here hx rfl (hb hby at_7) rfl rfl (l' := #[.val (.int p1), .val (.int (9 : Int32)), .val (.ref w_OFFSET_FETCH)]) rfl ?_
    show Steps p.tables e below (T1.setTop (mkF m 8 #[.val (.int p1), .val (.int (9 : Int32)), .val (.ref w_OFFSET_FETCH)] [])) _
    refine XS.aloadN X1.here hx rfl (hb hby at_8) rfl rfl ?_
    show Steps p.tables e below (T1.setTop (mkF m 9 #[.val (.int p1), .val (.int (9 : Int32)), .val (.ref w_OFFSET_FETCH)] [(.ref w_OFFSET_FETCH)])) _
    refine XS.iloadN X1.here hx rfl (hb hby at_9) rfl ?_
    show Steps p.tables e below (T1.setTop (mkF m 10 #[.val (.int p1), .val (.int (9 : Int32)), .val (.ref w_OFFSET_FETCH)] [(.int (9 : Int32)), (.ref w_OFFSET_FETCH)])) _
    refine st2 _ ?_
    show Steps p.tables e below (T2.setTop (mkF m 13 #[.val (.int p1), .val (.int (9 : Int32)), .val (.ref w_OFFSET_FETCH)] [(.ref w_OFFSET_FETCH), (.ref w_OFFSET_FETCH)])) _
    refine Jvm.RoadKit.acmp (g := (mkF m 13 #[.val (.int p1), .val (.int (9 : Int32)), .val (.ref w_OFFSET_FETCH)] [(.ref w_OFFSET_FETCH), (.ref w_OFFSET_FETCH)])) X2 hx rfl rfl rfl (pc0 := 13) (pc' := 16) (same := true) rfl (hb hby at_13) rfl (decide_eq_true rfl) (by decide) (by decide) ?_
    show Steps p.tables e below (T2.setTop (mkF m 16 #[.val (.int p1), .val (.int (9 : Int32)), .val (.ref w_OFFSET_FETCH)] [])) _
    refine XS.iconst X2.here hx rfl (hb hby at_16) ?_
    show Steps p.tables e below (T2.setTop (mkF m 17 #[.val (.int p1), .val (.int (9 : Int32)), .val (.ref w_OFFSET_FETCH)] [(.int (1 : Int32))])) _
    refine XS.goto X2.here hx rfl (pc0 := 17) (pc' := 21) rfl (hb hby at_17) (by decide) (by decide) ?_
    show Steps p.tables e below (T2.setTop (mkF m 21 #[.val (.int p1), .val (.int (9 : Int32)), .val (.ref w_OFFSET_FETCH)] [(.int (1 : Int32))])) _
    exact retN X2 hx (t := .boolean) Bd.returns (by simp) (hb hby at_21) hr
  · exact ⟨rfl, N2⟩
def Q1_35 (Z : State) (w_PRODUCE : Addr) (w_METADATA : Addr) (w_LIST_OFFSETS : Addr) (w_JOIN_GROUP : Addr) (w_OFFSET_COMMIT : Addr) (w_FETCH : Addr) (w_FIND_COORDINATOR : Addr) (w_CREATE_TOPICS : Addr) (w_SYNC_GROUP : Addr) (w_OFFSET_FETCH : Addr) (w_HEARTBEAT : Addr) (w_LEAVE_GROUP : Addr) (w_API_VERSIONS : Addr) (w_BY_ID : Addr) (cl_w_BY_ID : Cell) (h0 : Heap) (n0 : Nat) (v : Option Value) (h : Heap) (L : List Loc) : Prop := v = some (.ref w_FIND_COORDINATOR) ∧ Fr n0 L ∧ h = h0
set_option maxRecDepth 65536 in
set_option maxHeartbeats 40000000 in
theorem rm1_35 (l : Launch) (Z : State) (a0 : Array Value) (hw : ∀ d ∈ tables_1, d.before a0 Z = true) (ws : List Jvm.Cond) (w_PRODUCE : Addr) (w_METADATA : Addr) (w_LIST_OFFSETS : Addr) (w_JOIN_GROUP : Addr) (w_OFFSET_COMMIT : Addr) (w_FETCH : Addr) (w_FIND_COORDINATOR : Addr) (w_CREATE_TOPICS : Addr) (w_SYNC_GROUP : Addr) (w_OFFSET_FETCH : Addr) (w_HEARTBEAT : Addr) (w_LEAVE_GROUP : Addr) (w_API_VERSIONS : Addr) (w_BY_ID : Addr) (cl_w_BY_ID : Cell) (h0 : Heap) (n0 : Nat) (Z0 : n0 ≤ h0.size) (HW : World Z h0 w_PRODUCE w_METADATA w_LIST_OFFSETS w_JOIN_GROUP w_OFFSET_COMMIT w_FETCH w_FIND_COORDINATOR w_CREATE_TOPICS w_SYNC_GROUP w_OFFSET_FETCH w_HEARTBEAT w_LEAVE_GROUP w_API_VERSIONS w_BY_ID cl_w_BY_ID) :
    MetFree l (⟨"com/example/melog/melog/protocol/ApiKey", "forId", "(S)Lcom/example/melog/melog/protocol/ApiKey;"⟩ : MethodName) (head1 (Jvm.Cond.code (⟨"com/example/melog/melog/protocol/ApiKey", "forId", "(S)Lcom/example/melog/melog/protocol/ApiKey;"⟩ : MethodName) prog_9_method_4_code 1 (some (.object "com/example/melog/melog/protocol/ApiKey")) :: ws) ({ frames := 0, cells := 0, slots := 0, locals := 0 } : Room)) (fun a U => a = #[(.int (10 : Int32))] ∧ Z.Warmed39 U.vm ∧ U.heap = h0) (fun _ _ _ _ _ => True) (fun _ U o U' => ∃ v L, o = .returned v ∧ Q1_35 Z w_PRODUCE w_METADATA w_LIST_OFFSETS w_JOIN_GROUP w_OFFSET_COMMIT w_FETCH w_FIND_COORDINATOR w_CREATE_TOPICS w_SYNC_GROUP w_OFFSET_FETCH w_HEARTBEAT w_LEAVE_GROUP w_API_VERSIONS w_BY_ID cl_w_BY_ID h0 n0 v U'.heap L ∧ FrameEnd U o U' L ({ frames := 0, cells := 0, slots := 0, locals := 0 } : Room).cells ({ frames := 0, cells := 0, slots := 0, locals := 0 } : Room).slots) := by
  refine MetFree.of_bodySF (plainFor_of_name pn6) hisR ?_
  intro p e s m args below meth c s₁ Bd hml0 hP hK
  obtain ⟨rfl, hZ, hh⟩ := hP
  have hx := Bd.exec
  have hby := Bd.bytes
  have hml : c.maxLocals = 1 := hml0
  have hown : s.vm.findClass "com/example/melog/melog/protocol/ApiKey" = some m.cls := findClass_of_methodNamed Bd.named
  have X0 : Stand p l e ({ frames := 0, cells := 0, slots := 0, locals := 0 } : Room) s m #[(.int (10 : Int32))] below meth c s₁ [] 0 0 := Stand.of_body Bd
  have e0 : s₁.heap = h0 := by rw [← hh, Bd.state]; rfl
  have N0 := Fr.nil n0
  have pre0 : ∀ t, Steps p.tables e below (s₁.setTop (mkF m 0 #[.val (.int (10 : Int32))] [])) t → Steps p.tables e below (s₁.setTop (entryFrame m #[(.int (10 : Int32))] 1)) t := fun t k => castTop (ef5 m (10 : Int32)) k
  obtain ⟨S_w_PRODUCE, E_w_PRODUCE, S_w_METADATA, E_w_METADATA, S_w_LIST_OFFSETS, E_w_LIST_OFFSETS, S_w_JOIN_GROUP, E_w_JOIN_GROUP, S_w_OFFSET_COMMIT, E_w_OFFSET_COMMIT, S_w_FETCH, E_w_FETCH, S_w_FIND_COORDINATOR, E_w_FIND_COORDINATOR, S_w_CREATE_TOPICS, E_w_CREATE_TOPICS, S_w_SYNC_GROUP, E_w_SYNC_GROUP, S_w_OFFSET_FETCH, E_w_OFFSET_FETCH, S_w_HEARTBEAT, E_w_HEARTBEAT, S_w_LEAVE_GROUP, E_w_LEAVE_GROUP, S_w_API_VERSIONS, E_w_API_VERSIONS, S_w_BY_ID, Ar_w_BY_ID, Sz_w_BY_ID, At_w_BY_ID_0, At_w_BY_ID_3, At_w_BY_ID_7, At_w_BY_ID_2, At_w_BY_ID_11, At_w_BY_ID_8, At_w_BY_ID_1, At_w_BY_ID_10, At_w_BY_ID_16, At_w_BY_ID_19, At_w_BY_ID_15, At_w_BY_ID_14, At_w_BY_ID_6, At_w_BY_ID_9, At_w_BY_ID_12, At_w_BY_ID_17, At_w_BY_ID_13, At_w_BY_ID_5, At_w_BY_ID_18, At_w_BY_ID_4, -⟩ := id HW
  obtain ⟨T1, X1, e1, st1⟩ := getS2 X0 hx hZ hown (host := "") (Or.inl (hw _ (List.mem_of_getElem? (i := 4) rfl))) Via.refl e0 S_w_BY_ID (g := (mkF m 5 #[.val (.int (10 : Int32))] [(.int (10 : Int32))])) rfl (hb hby d1_5)
  obtain ⟨T2, X2, e2, st2⟩ := getS2 X1 hx hZ hown (host := "") (Or.inl (hw _ (List.mem_of_getElem? (i := 4) rfl))) Via.refl e1 S_w_BY_ID (g := (mkF m 12 #[.val (.int (10 : Int32))] [])) rfl (hb hby d1_12)
  obtain ⟨fs, hr, hrun, hended, hW, hsame⟩ := X2.leave (v := some (.ref w_FIND_COORDINATOR)) (fun h => by rw [Bd.returns] at h; cases h)
  refine ⟨_, _, pre0 _ ?_, hrun, hended, _, _, rfl, ?_, ⟨_, rfl⟩, hW, hsame.mono (by decide) (by decide)⟩
  · show Steps p.tables e below (s₁.setTop (mkF m 0 #[.val (.int (10 : Int32))] [])) _
    refine XS.iloadN X0.here hx rfl (hb hby d1_0) rfl ?_
    show Steps p.tables e below (s₁.setTop (mkF m 1 #[.val (.int (10 : Int32))] [(.int (10 : Int32))])) _
    refine XS.ifNo X0.here hx rfl (hb hby d1_1) rfl ((if0 _ _).trans (flt (by decide : ¬ ((10 : Int32) < (0 : Int32)))).1) ?_
    show Steps p.tables e below (s₁.setTop (mkF m 4 #[.val (.int (10 : Int32))] [])) _
    refine XS.iloadN X0.here hx rfl (hb hby d1_4) rfl ?_
    show Steps p.tables e below (s₁.setTop (mkF m 5 #[.val (.int (10 : Int32))] [(.int (10 : Int32))])) _
    refine st1 _ ?_
    show Steps p.tables e below (T1.setTop (mkF m 8 #[.val (.int (10 : Int32))] [(.ref w_BY_ID), (.int (10 : Int32))])) _
    refine X1.arraylength hx (by rw [e1]; exact Ar_w_BY_ID.1) (State.isArrayOf_alike hZ.alike Ar_w_BY_ID.2.1) (g := (mkF m 8 #[.val (.int (10 : Int32))] [(.ref w_BY_ID), (.int (10 : Int32))])) rfl rfl (hb hby d1_8) _ ?_
    rw [Sz_w_BY_ID]
    show Steps p.tables e below (T1.setTop (mkF m 9 #[.val (.int (10 : Int32))] [(.int (20 : Int32)), (.int (10 : Int32))])) _
    refine XS.icmpNo X1.here hx rfl (hb hby d1_9) rfl (tlt (by decide : (10 : Int32) < (20 : Int32))).2.1 ?_
    show Steps p.tables e below (T1.setTop (mkF m 12 #[.val (.int (10 : Int32))] [])) _
    refine st2 _ ?_
    show Steps p.tables e below (T2.setTop (mkF m 15 #[.val (.int (10 : Int32))] [(.ref w_BY_ID)])) _
    refine XS.iloadN X2.here hx rfl (hb hby d1_15) rfl ?_
    show Steps p.tables e below (T2.setTop (mkF m 16 #[.val (.int (10 : Int32))] [(.int (10 : Int32)), (.ref w_BY_ID)])) _
    refine X2.aaload hx (j := (10 : Int32)) (v := (.ref w_FIND_COORDINATOR)) (by rw [e2]; exact Ar_w_BY_ID.1) (State.isArrayOf_alike hZ.alike Ar_w_BY_ID.2.1) rfl Ar_w_BY_ID.2.2 At_w_BY_ID_10.1 At_w_BY_ID_10.2 (g := (mkF m 16 #[.val (.int (10 : Int32))] [(.int (10 : Int32)), (.ref w_BY_ID)])) rfl rfl (hb hby d1_16) _ ?_
    show Steps p.tables e below (T2.setTop (mkF m 17 #[.val (.int (10 : Int32))] [(.ref w_FIND_COORDINATOR)])) _
    refine XS.goto X2.here hx rfl (pc0 := 17) (pc' := 21) rfl (hb hby d1_17) (by decide) (by decide) ?_
    show Steps p.tables e below (T2.setTop (mkF m 21 #[.val (.int (10 : Int32))] [(.ref w_FIND_COORDINATOR)])) _
    jvm_step X2.here [X2.here.top, hx, (hb hby d1_21), X2.method', Bd.returns, Value.isRef, FieldType.isReference]
    first | (intro acts; rw [hr _ acts rfl rfl rfl]) | rw [hr _ _ rfl rfl rfl]
    exact Steps.refl _
  · exact ⟨rfl, N0, e2⟩
theorem d2_61 : decode method_2_code 61 = .ok (.getstatic 28, 3) := by decide +kernel
theorem d2_64 : decode method_2_code 64 = .ok (.areturn, 1) := by decide +kernel
def Q2_36 (Z : State) (w_PRODUCE : Addr) (w_METADATA : Addr) (w_LIST_OFFSETS : Addr) (w_JOIN_GROUP : Addr) (w_OFFSET_COMMIT : Addr) (w_FETCH : Addr) (w_FIND_COORDINATOR : Addr) (w_CREATE_TOPICS : Addr) (w_SYNC_GROUP : Addr) (w_OFFSET_FETCH : Addr) (w_HEARTBEAT : Addr) (w_LEAVE_GROUP : Addr) (w_API_VERSIONS : Addr) (w_BY_ID : Addr) (cl_w_BY_ID : Cell) (h0 : Heap) (n0 : Nat) (v : Option Value) (h : Heap) (L : List Loc) : Prop := v = some (.ref w_FIND_COORDINATOR) ∧ Fr n0 L ∧ h = h0
set_option maxRecDepth 65536 in
set_option maxHeartbeats 40000000 in
theorem rm2_36 (l : Launch) (Z : State) (a0 : Array Value) (hw : ∀ d ∈ tables_1, d.before a0 Z = true) (ws : List Jvm.Cond) (w_PRODUCE : Addr) (w_METADATA : Addr) (w_LIST_OFFSETS : Addr) (w_JOIN_GROUP : Addr) (w_OFFSET_COMMIT : Addr) (w_FETCH : Addr) (w_FIND_COORDINATOR : Addr) (w_CREATE_TOPICS : Addr) (w_SYNC_GROUP : Addr) (w_OFFSET_FETCH : Addr) (w_HEARTBEAT : Addr) (w_LEAVE_GROUP : Addr) (w_API_VERSIONS : Addr) (w_BY_ID : Addr) (cl_w_BY_ID : Cell) (h0 : Heap) (n0 : Nat) (Z0 : n0 ≤ h0.size) (HW : World Z h0 w_PRODUCE w_METADATA w_LIST_OFFSETS w_JOIN_GROUP w_OFFSET_COMMIT w_FETCH w_FIND_COORDINATOR w_CREATE_TOPICS w_SYNC_GROUP w_OFFSET_FETCH w_HEARTBEAT w_LEAVE_GROUP w_API_VERSIONS w_BY_ID cl_w_BY_ID) :
    MetFree l (⟨"com/example/melog/melog/protocol/ApiKeyForIdPinLaw", "expected", "(I)Lcom/example/melog/melog/protocol/ApiKey;"⟩ : MethodName) (head1 (Jvm.Cond.code (⟨"com/example/melog/melog/protocol/ApiKeyForIdPinLaw", "expected", "(I)Lcom/example/melog/melog/protocol/ApiKey;"⟩ : MethodName) method_2_code 1 (some (.object "com/example/melog/melog/protocol/ApiKey")) :: ws) ({ frames := 0, cells := 0, slots := 0, locals := 0 } : Room)) (fun a U => a = #[(.int (10 : Int32))] ∧ Z.Warmed39 U.vm ∧ U.heap = h0) (fun _ _ _ _ _ => True) (fun _ U o U' => ∃ v L, o = .returned v ∧ Q2_36 Z w_PRODUCE w_METADATA w_LIST_OFFSETS w_JOIN_GROUP w_OFFSET_COMMIT w_FETCH w_FIND_COORDINATOR w_CREATE_TOPICS w_SYNC_GROUP w_OFFSET_FETCH w_HEARTBEAT w_LEAVE_GROUP w_API_VERSIONS w_BY_ID cl_w_BY_ID h0 n0 v U'.heap L ∧ FrameEnd U o U' L ({ frames := 0, cells := 0, slots := 0, locals := 0 } : Room).cells ({ frames := 0, cells := 0, slots := 0, locals := 0 } : Room).slots) := by
  refine MetFree.of_bodySF (plainFor_of_name pn50) hisR ?_
  intro p e s m args below meth c s₁ Bd hml0 hP hK
  obtain ⟨rfl, hZ, hh⟩ := hP
  have hx := Bd.exec
  have hby := Bd.bytes
  have hml : c.maxLocals = 1 := hml0
  have hown : s.vm.findClass "com/example/melog/melog/protocol/ApiKeyForIdPinLaw" = some m.cls := findClass_of_methodNamed Bd.named
  have X0 : Stand p l e ({ frames := 0, cells := 0, slots := 0, locals := 0 } : Room) s m #[(.int (10 : Int32))] below meth c s₁ [] 0 0 := Stand.of_body Bd
  have e0 : s₁.heap = h0 := by rw [← hh, Bd.state]; rfl
  have N0 := Fr.nil n0
  have pre0 : ∀ t, Steps p.tables e below (s₁.setTop (mkF m 0 #[.val (.int (10 : Int32))] [])) t → Steps p.tables e below (s₁.setTop (entryFrame m #[(.int (10 : Int32))] 1)) t := fun t k => castTop (ef49 m (10 : Int32)) k
  obtain ⟨S_w_PRODUCE, E_w_PRODUCE, S_w_METADATA, E_w_METADATA, S_w_LIST_OFFSETS, E_w_LIST_OFFSETS, S_w_JOIN_GROUP, E_w_JOIN_GROUP, S_w_OFFSET_COMMIT, E_w_OFFSET_COMMIT, S_w_FETCH, E_w_FETCH, S_w_FIND_COORDINATOR, E_w_FIND_COORDINATOR, S_w_CREATE_TOPICS, E_w_CREATE_TOPICS, S_w_SYNC_GROUP, E_w_SYNC_GROUP, S_w_OFFSET_FETCH, E_w_OFFSET_FETCH, S_w_HEARTBEAT, E_w_HEARTBEAT, S_w_LEAVE_GROUP, E_w_LEAVE_GROUP, S_w_API_VERSIONS, E_w_API_VERSIONS, S_w_BY_ID, Ar_w_BY_ID, Sz_w_BY_ID, At_w_BY_ID_0, At_w_BY_ID_3, At_w_BY_ID_7, At_w_BY_ID_2, At_w_BY_ID_11, At_w_BY_ID_8, At_w_BY_ID_1, At_w_BY_ID_10, At_w_BY_ID_16, At_w_BY_ID_19, At_w_BY_ID_15, At_w_BY_ID_14, At_w_BY_ID_6, At_w_BY_ID_9, At_w_BY_ID_12, At_w_BY_ID_17, At_w_BY_ID_13, At_w_BY_ID_5, At_w_BY_ID_18, At_w_BY_ID_4, -⟩ := id HW
  obtain ⟨T1, X1, e1, st1⟩ := getS2 X0 hx hZ hown (host := "") (Or.inl (hw _ (List.mem_of_getElem? (i := 23) rfl))) Via.refl e0 S_w_FIND_COORDINATOR (g := (mkF m 61 #[.val (.int (10 : Int32))] [])) rfl (hb hby d2_61)
  obtain ⟨fs, hr, hrun, hended, hW, hsame⟩ := X1.leave (v := some (.ref w_FIND_COORDINATOR)) (fun h => by rw [Bd.returns] at h; cases h)
  refine ⟨_, _, pre0 _ ?_, hrun, hended, _, _, rfl, ?_, ⟨_, rfl⟩, hW, hsame.mono (by decide) (by decide)⟩
  · show Steps p.tables e below (s₁.setTop (mkF m 0 #[.val (.int (10 : Int32))] [])) _
    refine XS.iloadN X0.here hx rfl (hb hby d2_0) rfl ?_
    show Steps p.tables e below (s₁.setTop (mkF m 1 #[.val (.int (10 : Int32))] [(.int (10 : Int32))])) _
    refine XS.ifYes X0.here hx rfl (pc0 := 1) (pc' := 8) rfl (hb hby d2_1) rfl ((if0 _ _).trans (feq (by decide : ¬ ((10 : Int32) = (0 : Int32)))).2) (by decide) (by decide) ?_
    show Steps p.tables e below (s₁.setTop (mkF m 8 #[.val (.int (10 : Int32))] [])) _
    refine XS.iloadN X0.here hx rfl (hb hby d2_8) rfl ?_
    show Steps p.tables e below (s₁.setTop (mkF m 9 #[.val (.int (10 : Int32))] [(.int (10 : Int32))])) _
    refine XS.iconst X0.here hx rfl (hb hby d2_9) ?_
    show Steps p.tables e below (s₁.setTop (mkF m 10 #[.val (.int (10 : Int32))] [(.int (1 : Int32)), (.int (10 : Int32))])) _
    refine XS.icmpYes X0.here hx rfl (pc0 := 10) (pc' := 17) rfl (hb hby d2_10) rfl (feq (by decide : ¬ ((10 : Int32) = (1 : Int32)))).2 (by decide) (by decide) ?_
    show Steps p.tables e below (s₁.setTop (mkF m 17 #[.val (.int (10 : Int32))] [])) _
    refine XS.iloadN X0.here hx rfl (hb hby d2_17) rfl ?_
    show Steps p.tables e below (s₁.setTop (mkF m 18 #[.val (.int (10 : Int32))] [(.int (10 : Int32))])) _
    refine XS.iconst X0.here hx rfl (hb hby d2_18) ?_
    show Steps p.tables e below (s₁.setTop (mkF m 19 #[.val (.int (10 : Int32))] [(.int (2 : Int32)), (.int (10 : Int32))])) _
    refine XS.icmpYes X0.here hx rfl (pc0 := 19) (pc' := 26) rfl (hb hby d2_19) rfl (feq (by decide : ¬ ((10 : Int32) = (2 : Int32)))).2 (by decide) (by decide) ?_
    show Steps p.tables e below (s₁.setTop (mkF m 26 #[.val (.int (10 : Int32))] [])) _
    refine XS.iloadN X0.here hx rfl (hb hby d2_26) rfl ?_
    show Steps p.tables e below (s₁.setTop (mkF m 27 #[.val (.int (10 : Int32))] [(.int (10 : Int32))])) _
    refine XS.iconst X0.here hx rfl (hb hby d2_27) ?_
    show Steps p.tables e below (s₁.setTop (mkF m 28 #[.val (.int (10 : Int32))] [(.int (3 : Int32)), (.int (10 : Int32))])) _
    refine XS.icmpYes X0.here hx rfl (pc0 := 28) (pc' := 35) rfl (hb hby d2_28) rfl (feq (by decide : ¬ ((10 : Int32) = (3 : Int32)))).2 (by decide) (by decide) ?_
    show Steps p.tables e below (s₁.setTop (mkF m 35 #[.val (.int (10 : Int32))] [])) _
    refine XS.iloadN X0.here hx rfl (hb hby d2_35) rfl ?_
    show Steps p.tables e below (s₁.setTop (mkF m 36 #[.val (.int (10 : Int32))] [(.int (10 : Int32))])) _
    refine XS.bipush X0.here hx rfl (hb hby d2_36) ?_
    show Steps p.tables e below (s₁.setTop (mkF m 38 #[.val (.int (10 : Int32))] [(.int (8 : Int32)), (.int (10 : Int32))])) _
    refine XS.icmpYes X0.here hx rfl (pc0 := 38) (pc' := 45) rfl (hb hby d2_38) rfl (feq (by decide : ¬ ((10 : Int32) = (8 : Int32)))).2 (by decide) (by decide) ?_
    show Steps p.tables e below (s₁.setTop (mkF m 45 #[.val (.int (10 : Int32))] [])) _
    refine XS.iloadN X0.here hx rfl (hb hby d2_45) rfl ?_
    show Steps p.tables e below (s₁.setTop (mkF m 46 #[.val (.int (10 : Int32))] [(.int (10 : Int32))])) _
    refine XS.bipush X0.here hx rfl (hb hby d2_46) ?_
    show Steps p.tables e below (s₁.setTop (mkF m 48 #[.val (.int (10 : Int32))] [(.int (9 : Int32)), (.int (10 : Int32))])) _
    refine XS.icmpYes X0.here hx rfl (pc0 := 48) (pc' := 55) rfl (hb hby d2_48) rfl (feq (by decide : ¬ ((10 : Int32) = (9 : Int32)))).2 (by decide) (by decide) ?_
    show Steps p.tables e below (s₁.setTop (mkF m 55 #[.val (.int (10 : Int32))] [])) _
    refine XS.iloadN X0.here hx rfl (hb hby d2_55) rfl ?_
    show Steps p.tables e below (s₁.setTop (mkF m 56 #[.val (.int (10 : Int32))] [(.int (10 : Int32))])) _
    refine XS.bipush X0.here hx rfl (hb hby d2_56) ?_
    show Steps p.tables e below (s₁.setTop (mkF m 58 #[.val (.int (10 : Int32))] [(.int (10 : Int32)), (.int (10 : Int32))])) _
    refine XS.icmpNo X0.here hx rfl (hb hby d2_58) rfl (teq (by decide : (10 : Int32) = (10 : Int32))).2 ?_
    show Steps p.tables e below (s₁.setTop (mkF m 61 #[.val (.int (10 : Int32))] [])) _
    refine st1 _ ?_
    show Steps p.tables e below (T1.setTop (mkF m 64 #[.val (.int (10 : Int32))] [(.ref w_FIND_COORDINATOR)])) _
    jvm_step X1.here [X1.here.top, hx, (hb hby d2_64), X1.method', Bd.returns, Value.isRef, FieldType.isReference]
    first | (intro acts; rw [hr _ acts rfl rfl rfl]) | rw [hr _ _ rfl rfl rfl]
    exact Steps.refl _
  · exact ⟨rfl, N0, e1⟩
set_option maxRecDepth 65536 in
set_option maxHeartbeats 40000000 in
theorem rm0_c10 (l : Launch) (Z : State) (a0 : Array Value) (hw : ∀ d ∈ tables_1, d.before a0 Z = true) (ws : List Jvm.Cond) (w_PRODUCE : Addr) (w_METADATA : Addr) (w_LIST_OFFSETS : Addr) (w_JOIN_GROUP : Addr) (w_OFFSET_COMMIT : Addr) (w_FETCH : Addr) (w_FIND_COORDINATOR : Addr) (w_CREATE_TOPICS : Addr) (w_SYNC_GROUP : Addr) (w_OFFSET_FETCH : Addr) (w_HEARTBEAT : Addr) (w_LEAVE_GROUP : Addr) (w_API_VERSIONS : Addr) (w_BY_ID : Addr) (cl_w_BY_ID : Cell) (p1 : Int32) (h0 : Heap) (n0 : Nat) (Z0 : n0 ≤ h0.size) (HW : World Z h0 w_PRODUCE w_METADATA w_LIST_OFFSETS w_JOIN_GROUP w_OFFSET_COMMIT w_FETCH w_FIND_COORDINATOR w_CREATE_TOPICS w_SYNC_GROUP w_OFFSET_FETCH w_HEARTBEAT w_LEAVE_GROUP w_API_VERSIONS w_BY_ID cl_w_BY_ID) (hk : (p1.toInt16.toInt32) = (10 : Int32)) :
    MetFree l x (head1 (Jvm.Cond.code x code maxLocals ret :: ws) room_1) (fun a U => a = #[(.int p1)] ∧ Z.Warmed39 U.vm ∧ U.heap = h0) (fun _ _ _ _ _ => True) (fun _ U o U' => ∃ v L, o = .returned v ∧ Q0 h0 n0 v U'.heap L ∧ FrameEnd U o U' L room_1.cells room_1.slots) := by
  refine MetFree.of_bodySF (plainFor_of_name pn50) hisR ?_
  intro p e s m args below meth c s₁ Bd hml0 hP hK
  obtain ⟨rfl, hZ, hh⟩ := hP
  have hx := Bd.exec
  have hby := Bd.bytes
  have hml : c.maxLocals = 3 := hml0
  have hown : s.vm.findClass "com/example/melog/melog/protocol/ApiKeyForIdPinLaw" = some m.cls := findClass_of_methodNamed Bd.named
  have X0 : Stand p l e room_1 s m #[(.int p1)] below meth c s₁ [] 0 0 := Stand.of_body Bd
  have e0 : s₁.heap = h0 := by rw [← hh, Bd.state]; rfl
  have N0 := Fr.nil n0
  have pre0 : ∀ t, Steps p.tables e below (s₁.setTop (mkF m 0 #[.val (.int p1), .unset, .unset] [])) t → Steps p.tables e below (s₁.setTop (entryFrame m #[(.int p1)] maxLocals)) t := fun t k => castTop (ef53 m p1) k
  obtain ⟨S_w_PRODUCE, E_w_PRODUCE, S_w_METADATA, E_w_METADATA, S_w_LIST_OFFSETS, E_w_LIST_OFFSETS, S_w_JOIN_GROUP, E_w_JOIN_GROUP, S_w_OFFSET_COMMIT, E_w_OFFSET_COMMIT, S_w_FETCH, E_w_FETCH, S_w_FIND_COORDINATOR, E_w_FIND_COORDINATOR, S_w_CREATE_TOPICS, E_w_CREATE_TOPICS, S_w_SYNC_GROUP, E_w_SYNC_GROUP, S_w_OFFSET_FETCH, E_w_OFFSET_FETCH, S_w_HEARTBEAT, E_w_HEARTBEAT, S_w_LEAVE_GROUP, E_w_LEAVE_GROUP, S_w_API_VERSIONS, E_w_API_VERSIONS, S_w_BY_ID, Ar_w_BY_ID, Sz_w_BY_ID, At_w_BY_ID_0, At_w_BY_ID_3, At_w_BY_ID_7, At_w_BY_ID_2, At_w_BY_ID_11, At_w_BY_ID_8, At_w_BY_ID_1, At_w_BY_ID_10, At_w_BY_ID_16, At_w_BY_ID_19, At_w_BY_ID_15, At_w_BY_ID_14, At_w_BY_ID_6, At_w_BY_ID_9, At_w_BY_ID_12, At_w_BY_ID_17, At_w_BY_ID_13, At_w_BY_ID_5, At_w_BY_ID_18, At_w_BY_ID_4, -⟩ := id HW
  obtain ⟨_, _, ⟨T1, L1, k1, n1⟩, -, X1, ⟨Lc1, hQ1, l1, y1, z1⟩, st1⟩ := Jvm.LawKit.callS X0 hx (y := (⟨"com/example/melog/melog/protocol/ApiKey", "forId", "(S)Lcom/example/melog/melog/protocol/ApiKey;"⟩ : MethodName)) hown (mvT hZ (hw _ (List.mem_of_getElem? (i := 0) rfl))) (mvT hZ (hw _ (List.mem_of_getElem? (i := 1) rfl))) (mvT hZ (hw _ (List.mem_of_getElem? (i := 2) rfl))) (mvT hZ (hw _ (List.mem_of_getElem? (i := 3) rfl))) (by decide) (backOf (W := 0) (rm1_35 l Z a0 hw [] w_PRODUCE w_METADATA w_LIST_OFFSETS w_JOIN_GROUP w_OFFSET_COMMIT w_FETCH w_FIND_COORDINATOR w_CREATE_TOPICS w_SYNC_GROUP w_OFFSET_FETCH w_HEARTBEAT w_LEAVE_GROUP w_API_VERSIONS w_BY_ID cl_w_BY_ID h0 n0 Z0 HW) hZ (hw _ (List.mem_of_getElem? (i := 3) rfl)) (hw _ (List.mem_of_getElem? (i := 2) rfl)) (by decide) (by decide)) (g := (mkF m 4 #[.val (.int p1), .val (.int (10 : Int32)), .unset] [(.int (10 : Int32))])) rfl (by rw [hml]; rfl) (argsL := [(.int (10 : Int32))]) (rest := []) (lenOf pd7 rfl) rfl (by show 2 * 0 + _ ≤ _; exact Nat.le_of_eq rfl) (hb hby at_4) (fun _ _ => ⟨rfl, e0, (by decide : 0 + 0 ≤ _), (by decide : 0 + 0 ≤ _)⟩)
  dsimp only [Pt.U, Pt.locs, Pt.cells, Pt.slots] at X1 l1 y1 z1 st1 hQ1
  subst l1 y1 z1
  obtain ⟨rfl, N1q, e1⟩ := hQ1
  have N1 := Fr.app N0 N1q
  obtain ⟨_, _, ⟨T2, L2, k2, n2⟩, -, X2, ⟨Lc2, hQ2, l2, y2, z2⟩, st2⟩ := Jvm.LawKit.callS X1 hx (y := (⟨"com/example/melog/melog/protocol/ApiKeyForIdPinLaw", "expected", "(I)Lcom/example/melog/melog/protocol/ApiKey;"⟩ : MethodName)) hown (mvT hZ (hw _ (List.mem_of_getElem? (i := 7) rfl))) (mvT hZ (hw _ (List.mem_of_getElem? (i := 8) rfl))) (mvT hZ (hw _ (List.mem_of_getElem? (i := 9) rfl))) (mvT hZ (hw _ (List.mem_of_getElem? (i := 10) rfl))) (by decide) (backOf (W := 1) (rm2_36 l Z a0 hw [] w_PRODUCE w_METADATA w_LIST_OFFSETS w_JOIN_GROUP w_OFFSET_COMMIT w_FETCH w_FIND_COORDINATOR w_CREATE_TOPICS w_SYNC_GROUP w_OFFSET_FETCH w_HEARTBEAT w_LEAVE_GROUP w_API_VERSIONS w_BY_ID cl_w_BY_ID h0 n0 Z0 HW) hZ (hw _ (List.mem_of_getElem? (i := 10) rfl)) (hw _ (List.mem_of_getElem? (i := 9) rfl)) (by decide) (by decide)) (g := (mkF m 10 #[.val (.int p1), .val (.int (10 : Int32)), .val (.ref w_FIND_COORDINATOR)] [(.int (10 : Int32)), (.ref w_FIND_COORDINATOR)])) rfl (by rw [hml]; rfl) (argsL := [(.int (10 : Int32))]) (rest := [(.ref w_FIND_COORDINATOR)]) (lenOf pd51 rfl) rfl (by show 2 * 0 + _ ≤ _; exact Nat.le_of_eq rfl) (hb hby at_10) (fun _ _ => ⟨rfl, e1, (by decide : 0 + 0 ≤ _), (by decide : 0 + 0 ≤ _)⟩)
  dsimp only [Pt.U, Pt.locs, Pt.cells, Pt.slots] at X2 l2 y2 z2 st2 hQ2
  subst l2 y2 z2
  obtain ⟨rfl, N2q, e2⟩ := hQ2
  have N2 := Fr.app N1 N2q
  obtain ⟨fs, hr, hrun, hended, hW, hsame⟩ := X2.leave (v := some (.int (1 : Int32))) (fun h => by rw [Bd.returns] at h; cases h)
  refine ⟨_, _, pre0 _ ?_, hrun, hended, _, _, rfl, ?_, ⟨_, rfl⟩, hW, hsame.mono (by decide) (by decide)⟩
  · show Steps p.tables e below (s₁.setTop (mkF m 0 #[.val (.int p1), .unset, .unset] [])) _
    refine XS.iloadN X0.here hx rfl (hb hby at_0) rfl ?_
    show Steps p.tables e below (s₁.setTop (mkF m 1 #[.val (.int p1), .unset, .unset] [(.int p1)])) _
    refine XS.i2s X0.here hx rfl (hb hby at_1) rfl ?_
    rw [hk]
    show Steps p.tables e below (s₁.setTop (mkF m 2 #[.val (.int p1), .unset, .unset] [(.int (10 : Int32))])) _
    refine XS.istoreN X0.here hx rfl (hb hby at_2) rfl (l' := #[.val (.int p1), .val (.int (10 : Int32)), .unset]) rfl ?_
    show Steps p.tables e below (s₁.setTop (mkF m 3 #[.val (.int p1), .val (.int (10 : Int32)), .unset] [])) _
    refine XS.iloadN X0.here hx rfl (hb hby at_3) rfl ?_
    show Steps p.tables e below (s₁.setTop (mkF m 4 #[.val (.int p1), .val (.int (10 : Int32)), .unset] [(.int (10 : Int32))])) _
    refine st1 _ ?_
    show Steps p.tables e below (T1.setTop (mkF m 7 #[.val (.int p1), .val (.int (10 : Int32)), .unset] [(.ref w_FIND_COORDINATOR)])) _
    refine XS.astoreN X1.here hx rfl (hb hby at_7) rfl rfl (l' := #[.val (.int p1), .val (.int (10 : Int32)), .val (.ref w_FIND_COORDINATOR)]) rfl ?_
    show Steps p.tables e below (T1.setTop (mkF m 8 #[.val (.int p1), .val (.int (10 : Int32)), .val (.ref w_FIND_COORDINATOR)] [])) _
    refine XS.aloadN X1.here hx rfl (hb hby at_8) rfl rfl ?_
    show Steps p.tables e below (T1.setTop (mkF m 9 #[.val (.int p1), .val (.int (10 : Int32)), .val (.ref w_FIND_COORDINATOR)] [(.ref w_FIND_COORDINATOR)])) _
    refine XS.iloadN X1.here hx rfl (hb hby at_9) rfl ?_
    show Steps p.tables e below (T1.setTop (mkF m 10 #[.val (.int p1), .val (.int (10 : Int32)), .val (.ref w_FIND_COORDINATOR)] [(.int (10 : Int32)), (.ref w_FIND_COORDINATOR)])) _
    refine st2 _ ?_
    show Steps p.tables e below (T2.setTop (mkF m 13 #[.val (.int p1), .val (.int (10 : Int32)), .val (.ref w_FIND_COORDINATOR)] [(.ref w_FIND_COORDINATOR), (.ref w_FIND_COORDINATOR)])) _
    refine Jvm.RoadKit.acmp (g := (mkF m 13 #[.val (.int p1), .val (.int (10 : Int32)), .val (.ref w_FIND_COORDINATOR)] [(.ref w_FIND_COORDINATOR), (.ref w_FIND_COORDINATOR)])) X2 hx rfl rfl rfl (pc0 := 13) (pc' := 16) (same := true) rfl (hb hby at_13) rfl (decide_eq_true rfl) (by decide) (by decide) ?_
    show Steps p.tables e below (T2.setTop (mkF m 16 #[.val (.int p1), .val (.int (10 : Int32)), .val (.ref w_FIND_COORDINATOR)] [])) _
    refine XS.iconst X2.here hx rfl (hb hby at_16) ?_
    show Steps p.tables e below (T2.setTop (mkF m 17 #[.val (.int p1), .val (.int (10 : Int32)), .val (.ref w_FIND_COORDINATOR)] [(.int (1 : Int32))])) _
    refine XS.goto X2.here hx rfl (pc0 := 17) (pc' := 21) rfl (hb hby at_17) (by decide) (by decide) ?_
    show Steps p.tables e below (T2.setTop (mkF m 21 #[.val (.int p1), .val (.int (10 : Int32)), .val (.ref w_FIND_COORDINATOR)] [(.int (1 : Int32))])) _
    exact retN X2 hx (t := .boolean) Bd.returns (by simp) (hb hby at_21) hr
  · exact ⟨rfl, N2⟩
def Q1_38 (Z : State) (w_PRODUCE : Addr) (w_METADATA : Addr) (w_LIST_OFFSETS : Addr) (w_JOIN_GROUP : Addr) (w_OFFSET_COMMIT : Addr) (w_FETCH : Addr) (w_FIND_COORDINATOR : Addr) (w_CREATE_TOPICS : Addr) (w_SYNC_GROUP : Addr) (w_OFFSET_FETCH : Addr) (w_HEARTBEAT : Addr) (w_LEAVE_GROUP : Addr) (w_API_VERSIONS : Addr) (w_BY_ID : Addr) (cl_w_BY_ID : Cell) (h0 : Heap) (n0 : Nat) (v : Option Value) (h : Heap) (L : List Loc) : Prop := v = some (.ref w_JOIN_GROUP) ∧ Fr n0 L ∧ h = h0
set_option maxRecDepth 65536 in
set_option maxHeartbeats 40000000 in
theorem rm1_38 (l : Launch) (Z : State) (a0 : Array Value) (hw : ∀ d ∈ tables_1, d.before a0 Z = true) (ws : List Jvm.Cond) (w_PRODUCE : Addr) (w_METADATA : Addr) (w_LIST_OFFSETS : Addr) (w_JOIN_GROUP : Addr) (w_OFFSET_COMMIT : Addr) (w_FETCH : Addr) (w_FIND_COORDINATOR : Addr) (w_CREATE_TOPICS : Addr) (w_SYNC_GROUP : Addr) (w_OFFSET_FETCH : Addr) (w_HEARTBEAT : Addr) (w_LEAVE_GROUP : Addr) (w_API_VERSIONS : Addr) (w_BY_ID : Addr) (cl_w_BY_ID : Cell) (h0 : Heap) (n0 : Nat) (Z0 : n0 ≤ h0.size) (HW : World Z h0 w_PRODUCE w_METADATA w_LIST_OFFSETS w_JOIN_GROUP w_OFFSET_COMMIT w_FETCH w_FIND_COORDINATOR w_CREATE_TOPICS w_SYNC_GROUP w_OFFSET_FETCH w_HEARTBEAT w_LEAVE_GROUP w_API_VERSIONS w_BY_ID cl_w_BY_ID) :
    MetFree l (⟨"com/example/melog/melog/protocol/ApiKey", "forId", "(S)Lcom/example/melog/melog/protocol/ApiKey;"⟩ : MethodName) (head1 (Jvm.Cond.code (⟨"com/example/melog/melog/protocol/ApiKey", "forId", "(S)Lcom/example/melog/melog/protocol/ApiKey;"⟩ : MethodName) prog_9_method_4_code 1 (some (.object "com/example/melog/melog/protocol/ApiKey")) :: ws) ({ frames := 0, cells := 0, slots := 0, locals := 0 } : Room)) (fun a U => a = #[(.int (11 : Int32))] ∧ Z.Warmed39 U.vm ∧ U.heap = h0) (fun _ _ _ _ _ => True) (fun _ U o U' => ∃ v L, o = .returned v ∧ Q1_38 Z w_PRODUCE w_METADATA w_LIST_OFFSETS w_JOIN_GROUP w_OFFSET_COMMIT w_FETCH w_FIND_COORDINATOR w_CREATE_TOPICS w_SYNC_GROUP w_OFFSET_FETCH w_HEARTBEAT w_LEAVE_GROUP w_API_VERSIONS w_BY_ID cl_w_BY_ID h0 n0 v U'.heap L ∧ FrameEnd U o U' L ({ frames := 0, cells := 0, slots := 0, locals := 0 } : Room).cells ({ frames := 0, cells := 0, slots := 0, locals := 0 } : Room).slots) := by
  refine MetFree.of_bodySF (plainFor_of_name pn6) hisR ?_
  intro p e s m args below meth c s₁ Bd hml0 hP hK
  obtain ⟨rfl, hZ, hh⟩ := hP
  have hx := Bd.exec
  have hby := Bd.bytes
  have hml : c.maxLocals = 1 := hml0
  have hown : s.vm.findClass "com/example/melog/melog/protocol/ApiKey" = some m.cls := findClass_of_methodNamed Bd.named
  have X0 : Stand p l e ({ frames := 0, cells := 0, slots := 0, locals := 0 } : Room) s m #[(.int (11 : Int32))] below meth c s₁ [] 0 0 := Stand.of_body Bd
  have e0 : s₁.heap = h0 := by rw [← hh, Bd.state]; rfl
  have N0 := Fr.nil n0
  have pre0 : ∀ t, Steps p.tables e below (s₁.setTop (mkF m 0 #[.val (.int (11 : Int32))] [])) t → Steps p.tables e below (s₁.setTop (entryFrame m #[(.int (11 : Int32))] 1)) t := fun t k => castTop (ef5 m (11 : Int32)) k
  obtain ⟨S_w_PRODUCE, E_w_PRODUCE, S_w_METADATA, E_w_METADATA, S_w_LIST_OFFSETS, E_w_LIST_OFFSETS, S_w_JOIN_GROUP, E_w_JOIN_GROUP, S_w_OFFSET_COMMIT, E_w_OFFSET_COMMIT, S_w_FETCH, E_w_FETCH, S_w_FIND_COORDINATOR, E_w_FIND_COORDINATOR, S_w_CREATE_TOPICS, E_w_CREATE_TOPICS, S_w_SYNC_GROUP, E_w_SYNC_GROUP, S_w_OFFSET_FETCH, E_w_OFFSET_FETCH, S_w_HEARTBEAT, E_w_HEARTBEAT, S_w_LEAVE_GROUP, E_w_LEAVE_GROUP, S_w_API_VERSIONS, E_w_API_VERSIONS, S_w_BY_ID, Ar_w_BY_ID, Sz_w_BY_ID, At_w_BY_ID_0, At_w_BY_ID_3, At_w_BY_ID_7, At_w_BY_ID_2, At_w_BY_ID_11, At_w_BY_ID_8, At_w_BY_ID_1, At_w_BY_ID_10, At_w_BY_ID_16, At_w_BY_ID_19, At_w_BY_ID_15, At_w_BY_ID_14, At_w_BY_ID_6, At_w_BY_ID_9, At_w_BY_ID_12, At_w_BY_ID_17, At_w_BY_ID_13, At_w_BY_ID_5, At_w_BY_ID_18, At_w_BY_ID_4, -⟩ := id HW
  obtain ⟨T1, X1, e1, st1⟩ := getS2 X0 hx hZ hown (host := "") (Or.inl (hw _ (List.mem_of_getElem? (i := 4) rfl))) Via.refl e0 S_w_BY_ID (g := (mkF m 5 #[.val (.int (11 : Int32))] [(.int (11 : Int32))])) rfl (hb hby d1_5)
  obtain ⟨T2, X2, e2, st2⟩ := getS2 X1 hx hZ hown (host := "") (Or.inl (hw _ (List.mem_of_getElem? (i := 4) rfl))) Via.refl e1 S_w_BY_ID (g := (mkF m 12 #[.val (.int (11 : Int32))] [])) rfl (hb hby d1_12)
  obtain ⟨fs, hr, hrun, hended, hW, hsame⟩ := X2.leave (v := some (.ref w_JOIN_GROUP)) (fun h => by rw [Bd.returns] at h; cases h)
  refine ⟨_, _, pre0 _ ?_, hrun, hended, _, _, rfl, ?_, ⟨_, rfl⟩, hW, hsame.mono (by decide) (by decide)⟩
  · show Steps p.tables e below (s₁.setTop (mkF m 0 #[.val (.int (11 : Int32))] [])) _
    refine XS.iloadN X0.here hx rfl (hb hby d1_0) rfl ?_
    show Steps p.tables e below (s₁.setTop (mkF m 1 #[.val (.int (11 : Int32))] [(.int (11 : Int32))])) _
    refine XS.ifNo X0.here hx rfl (hb hby d1_1) rfl ((if0 _ _).trans (flt (by decide : ¬ ((11 : Int32) < (0 : Int32)))).1) ?_
    show Steps p.tables e below (s₁.setTop (mkF m 4 #[.val (.int (11 : Int32))] [])) _
    refine XS.iloadN X0.here hx rfl (hb hby d1_4) rfl ?_
    show Steps p.tables e below (s₁.setTop (mkF m 5 #[.val (.int (11 : Int32))] [(.int (11 : Int32))])) _
    refine st1 _ ?_
    show Steps p.tables e below (T1.setTop (mkF m 8 #[.val (.int (11 : Int32))] [(.ref w_BY_ID), (.int (11 : Int32))])) _
    refine X1.arraylength hx (by rw [e1]; exact Ar_w_BY_ID.1) (State.isArrayOf_alike hZ.alike Ar_w_BY_ID.2.1) (g := (mkF m 8 #[.val (.int (11 : Int32))] [(.ref w_BY_ID), (.int (11 : Int32))])) rfl rfl (hb hby d1_8) _ ?_
    rw [Sz_w_BY_ID]
    show Steps p.tables e below (T1.setTop (mkF m 9 #[.val (.int (11 : Int32))] [(.int (20 : Int32)), (.int (11 : Int32))])) _
    refine XS.icmpNo X1.here hx rfl (hb hby d1_9) rfl (tlt (by decide : (11 : Int32) < (20 : Int32))).2.1 ?_
    show Steps p.tables e below (T1.setTop (mkF m 12 #[.val (.int (11 : Int32))] [])) _
    refine st2 _ ?_
    show Steps p.tables e below (T2.setTop (mkF m 15 #[.val (.int (11 : Int32))] [(.ref w_BY_ID)])) _
    refine XS.iloadN X2.here hx rfl (hb hby d1_15) rfl ?_
    show Steps p.tables e below (T2.setTop (mkF m 16 #[.val (.int (11 : Int32))] [(.int (11 : Int32)), (.ref w_BY_ID)])) _
    refine X2.aaload hx (j := (11 : Int32)) (v := (.ref w_JOIN_GROUP)) (by rw [e2]; exact Ar_w_BY_ID.1) (State.isArrayOf_alike hZ.alike Ar_w_BY_ID.2.1) rfl Ar_w_BY_ID.2.2 At_w_BY_ID_11.1 At_w_BY_ID_11.2 (g := (mkF m 16 #[.val (.int (11 : Int32))] [(.int (11 : Int32)), (.ref w_BY_ID)])) rfl rfl (hb hby d1_16) _ ?_
    show Steps p.tables e below (T2.setTop (mkF m 17 #[.val (.int (11 : Int32))] [(.ref w_JOIN_GROUP)])) _
    refine XS.goto X2.here hx rfl (pc0 := 17) (pc' := 21) rfl (hb hby d1_17) (by decide) (by decide) ?_
    show Steps p.tables e below (T2.setTop (mkF m 21 #[.val (.int (11 : Int32))] [(.ref w_JOIN_GROUP)])) _
    jvm_step X2.here [X2.here.top, hx, (hb hby d1_21), X2.method', Bd.returns, Value.isRef, FieldType.isReference]
    first | (intro acts; rw [hr _ acts rfl rfl rfl]) | rw [hr _ _ rfl rfl rfl]
    exact Steps.refl _
  · exact ⟨rfl, N0, e2⟩
theorem d2_71 : decode method_2_code 71 = .ok (.getstatic 31, 3) := by decide +kernel
theorem d2_74 : decode method_2_code 74 = .ok (.areturn, 1) := by decide +kernel
def Q2_39 (Z : State) (w_PRODUCE : Addr) (w_METADATA : Addr) (w_LIST_OFFSETS : Addr) (w_JOIN_GROUP : Addr) (w_OFFSET_COMMIT : Addr) (w_FETCH : Addr) (w_FIND_COORDINATOR : Addr) (w_CREATE_TOPICS : Addr) (w_SYNC_GROUP : Addr) (w_OFFSET_FETCH : Addr) (w_HEARTBEAT : Addr) (w_LEAVE_GROUP : Addr) (w_API_VERSIONS : Addr) (w_BY_ID : Addr) (cl_w_BY_ID : Cell) (h0 : Heap) (n0 : Nat) (v : Option Value) (h : Heap) (L : List Loc) : Prop := v = some (.ref w_JOIN_GROUP) ∧ Fr n0 L ∧ h = h0
set_option maxRecDepth 65536 in
set_option maxHeartbeats 40000000 in
theorem rm2_39 (l : Launch) (Z : State) (a0 : Array Value) (hw : ∀ d ∈ tables_1, d.before a0 Z = true) (ws : List Jvm.Cond) (w_PRODUCE : Addr) (w_METADATA : Addr) (w_LIST_OFFSETS : Addr) (w_JOIN_GROUP : Addr) (w_OFFSET_COMMIT : Addr) (w_FETCH : Addr) (w_FIND_COORDINATOR : Addr) (w_CREATE_TOPICS : Addr) (w_SYNC_GROUP : Addr) (w_OFFSET_FETCH : Addr) (w_HEARTBEAT : Addr) (w_LEAVE_GROUP : Addr) (w_API_VERSIONS : Addr) (w_BY_ID : Addr) (cl_w_BY_ID : Cell) (h0 : Heap) (n0 : Nat) (Z0 : n0 ≤ h0.size) (HW : World Z h0 w_PRODUCE w_METADATA w_LIST_OFFSETS w_JOIN_GROUP w_OFFSET_COMMIT w_FETCH w_FIND_COORDINATOR w_CREATE_TOPICS w_SYNC_GROUP w_OFFSET_FETCH w_HEARTBEAT w_LEAVE_GROUP w_API_VERSIONS w_BY_ID cl_w_BY_ID) :
    MetFree l (⟨"com/example/melog/melog/protocol/ApiKeyForIdPinLaw", "expected", "(I)Lcom/example/melog/melog/protocol/ApiKey;"⟩ : MethodName) (head1 (Jvm.Cond.code (⟨"com/example/melog/melog/protocol/ApiKeyForIdPinLaw", "expected", "(I)Lcom/example/melog/melog/protocol/ApiKey;"⟩ : MethodName) method_2_code 1 (some (.object "com/example/melog/melog/protocol/ApiKey")) :: ws) ({ frames := 0, cells := 0, slots := 0, locals := 0 } : Room)) (fun a U => a = #[(.int (11 : Int32))] ∧ Z.Warmed39 U.vm ∧ U.heap = h0) (fun _ _ _ _ _ => True) (fun _ U o U' => ∃ v L, o = .returned v ∧ Q2_39 Z w_PRODUCE w_METADATA w_LIST_OFFSETS w_JOIN_GROUP w_OFFSET_COMMIT w_FETCH w_FIND_COORDINATOR w_CREATE_TOPICS w_SYNC_GROUP w_OFFSET_FETCH w_HEARTBEAT w_LEAVE_GROUP w_API_VERSIONS w_BY_ID cl_w_BY_ID h0 n0 v U'.heap L ∧ FrameEnd U o U' L ({ frames := 0, cells := 0, slots := 0, locals := 0 } : Room).cells ({ frames := 0, cells := 0, slots := 0, locals := 0 } : Room).slots) := by
  refine MetFree.of_bodySF (plainFor_of_name pn50) hisR ?_
  intro p e s m args below meth c s₁ Bd hml0 hP hK
  obtain ⟨rfl, hZ, hh⟩ := hP
  have hx := Bd.exec
  have hby := Bd.bytes
  have hml : c.maxLocals = 1 := hml0
  have hown : s.vm.findClass "com/example/melog/melog/protocol/ApiKeyForIdPinLaw" = some m.cls := findClass_of_methodNamed Bd.named
  have X0 : Stand p l e ({ frames := 0, cells := 0, slots := 0, locals := 0 } : Room) s m #[(.int (11 : Int32))] below meth c s₁ [] 0 0 := Stand.of_body Bd
  have e0 : s₁.heap = h0 := by rw [← hh, Bd.state]; rfl
  have N0 := Fr.nil n0
  have pre0 : ∀ t, Steps p.tables e below (s₁.setTop (mkF m 0 #[.val (.int (11 : Int32))] [])) t → Steps p.tables e below (s₁.setTop (entryFrame m #[(.int (11 : Int32))] 1)) t := fun t k => castTop (ef49 m (11 : Int32)) k
  obtain ⟨S_w_PRODUCE, E_w_PRODUCE, S_w_METADATA, E_w_METADATA, S_w_LIST_OFFSETS, E_w_LIST_OFFSETS, S_w_JOIN_GROUP, E_w_JOIN_GROUP, S_w_OFFSET_COMMIT, E_w_OFFSET_COMMIT, S_w_FETCH, E_w_FETCH, S_w_FIND_COORDINATOR, E_w_FIND_COORDINATOR, S_w_CREATE_TOPICS, E_w_CREATE_TOPICS, S_w_SYNC_GROUP, E_w_SYNC_GROUP, S_w_OFFSET_FETCH, E_w_OFFSET_FETCH, S_w_HEARTBEAT, E_w_HEARTBEAT, S_w_LEAVE_GROUP, E_w_LEAVE_GROUP, S_w_API_VERSIONS, E_w_API_VERSIONS, S_w_BY_ID, Ar_w_BY_ID, Sz_w_BY_ID, At_w_BY_ID_0, At_w_BY_ID_3, At_w_BY_ID_7, At_w_BY_ID_2, At_w_BY_ID_11, At_w_BY_ID_8, At_w_BY_ID_1, At_w_BY_ID_10, At_w_BY_ID_16, At_w_BY_ID_19, At_w_BY_ID_15, At_w_BY_ID_14, At_w_BY_ID_6, At_w_BY_ID_9, At_w_BY_ID_12, At_w_BY_ID_17, At_w_BY_ID_13, At_w_BY_ID_5, At_w_BY_ID_18, At_w_BY_ID_4, -⟩ := id HW
  obtain ⟨T1, X1, e1, st1⟩ := getS2 X0 hx hZ hown (host := "") (Or.inl (hw _ (List.mem_of_getElem? (i := 17) rfl))) Via.refl e0 S_w_JOIN_GROUP (g := (mkF m 71 #[.val (.int (11 : Int32))] [])) rfl (hb hby d2_71)
  obtain ⟨fs, hr, hrun, hended, hW, hsame⟩ := X1.leave (v := some (.ref w_JOIN_GROUP)) (fun h => by rw [Bd.returns] at h; cases h)
  refine ⟨_, _, pre0 _ ?_, hrun, hended, _, _, rfl, ?_, ⟨_, rfl⟩, hW, hsame.mono (by decide) (by decide)⟩
  · show Steps p.tables e below (s₁.setTop (mkF m 0 #[.val (.int (11 : Int32))] [])) _
    refine XS.iloadN X0.here hx rfl (hb hby d2_0) rfl ?_
    show Steps p.tables e below (s₁.setTop (mkF m 1 #[.val (.int (11 : Int32))] [(.int (11 : Int32))])) _
    refine XS.ifYes X0.here hx rfl (pc0 := 1) (pc' := 8) rfl (hb hby d2_1) rfl ((if0 _ _).trans (feq (by decide : ¬ ((11 : Int32) = (0 : Int32)))).2) (by decide) (by decide) ?_
    show Steps p.tables e below (s₁.setTop (mkF m 8 #[.val (.int (11 : Int32))] [])) _
    refine XS.iloadN X0.here hx rfl (hb hby d2_8) rfl ?_
    show Steps p.tables e below (s₁.setTop (mkF m 9 #[.val (.int (11 : Int32))] [(.int (11 : Int32))])) _
    refine XS.iconst X0.here hx rfl (hb hby d2_9) ?_
    show Steps p.tables e below (s₁.setTop (mkF m 10 #[.val (.int (11 : Int32))] [(.int (1 : Int32)), (.int (11 : Int32))])) _
    refine XS.icmpYes X0.here hx rfl (pc0 := 10) (pc' := 17) rfl (hb hby d2_10) rfl (feq (by decide : ¬ ((11 : Int32) = (1 : Int32)))).2 (by decide) (by decide) ?_
    show Steps p.tables e below (s₁.setTop (mkF m 17 #[.val (.int (11 : Int32))] [])) _
    refine XS.iloadN X0.here hx rfl (hb hby d2_17) rfl ?_
    show Steps p.tables e below (s₁.setTop (mkF m 18 #[.val (.int (11 : Int32))] [(.int (11 : Int32))])) _
    refine XS.iconst X0.here hx rfl (hb hby d2_18) ?_
    show Steps p.tables e below (s₁.setTop (mkF m 19 #[.val (.int (11 : Int32))] [(.int (2 : Int32)), (.int (11 : Int32))])) _
    refine XS.icmpYes X0.here hx rfl (pc0 := 19) (pc' := 26) rfl (hb hby d2_19) rfl (feq (by decide : ¬ ((11 : Int32) = (2 : Int32)))).2 (by decide) (by decide) ?_
    show Steps p.tables e below (s₁.setTop (mkF m 26 #[.val (.int (11 : Int32))] [])) _
    refine XS.iloadN X0.here hx rfl (hb hby d2_26) rfl ?_
    show Steps p.tables e below (s₁.setTop (mkF m 27 #[.val (.int (11 : Int32))] [(.int (11 : Int32))])) _
    refine XS.iconst X0.here hx rfl (hb hby d2_27) ?_
    show Steps p.tables e below (s₁.setTop (mkF m 28 #[.val (.int (11 : Int32))] [(.int (3 : Int32)), (.int (11 : Int32))])) _
    refine XS.icmpYes X0.here hx rfl (pc0 := 28) (pc' := 35) rfl (hb hby d2_28) rfl (feq (by decide : ¬ ((11 : Int32) = (3 : Int32)))).2 (by decide) (by decide) ?_
    show Steps p.tables e below (s₁.setTop (mkF m 35 #[.val (.int (11 : Int32))] [])) _
    refine XS.iloadN X0.here hx rfl (hb hby d2_35) rfl ?_
    show Steps p.tables e below (s₁.setTop (mkF m 36 #[.val (.int (11 : Int32))] [(.int (11 : Int32))])) _
    refine XS.bipush X0.here hx rfl (hb hby d2_36) ?_
    show Steps p.tables e below (s₁.setTop (mkF m 38 #[.val (.int (11 : Int32))] [(.int (8 : Int32)), (.int (11 : Int32))])) _
    refine XS.icmpYes X0.here hx rfl (pc0 := 38) (pc' := 45) rfl (hb hby d2_38) rfl (feq (by decide : ¬ ((11 : Int32) = (8 : Int32)))).2 (by decide) (by decide) ?_
    show Steps p.tables e below (s₁.setTop (mkF m 45 #[.val (.int (11 : Int32))] [])) _
    refine XS.iloadN X0.here hx rfl (hb hby d2_45) rfl ?_
    show Steps p.tables e below (s₁.setTop (mkF m 46 #[.val (.int (11 : Int32))] [(.int (11 : Int32))])) _
    refine XS.bipush X0.here hx rfl (hb hby d2_46) ?_
    show Steps p.tables e below (s₁.setTop (mkF m 48 #[.val (.int (11 : Int32))] [(.int (9 : Int32)), (.int (11 : Int32))])) _
    refine XS.icmpYes X0.here hx rfl (pc0 := 48) (pc' := 55) rfl (hb hby d2_48) rfl (feq (by decide : ¬ ((11 : Int32) = (9 : Int32)))).2 (by decide) (by decide) ?_
    show Steps p.tables e below (s₁.setTop (mkF m 55 #[.val (.int (11 : Int32))] [])) _
    refine XS.iloadN X0.here hx rfl (hb hby d2_55) rfl ?_
    show Steps p.tables e below (s₁.setTop (mkF m 56 #[.val (.int (11 : Int32))] [(.int (11 : Int32))])) _
    refine XS.bipush X0.here hx rfl (hb hby d2_56) ?_
    show Steps p.tables e below (s₁.setTop (mkF m 58 #[.val (.int (11 : Int32))] [(.int (10 : Int32)), (.int (11 : Int32))])) _
    refine XS.icmpYes X0.here hx rfl (pc0 := 58) (pc' := 65) rfl (hb hby d2_58) rfl (feq (by decide : ¬ ((11 : Int32) = (10 : Int32)))).2 (by decide) (by decide) ?_
    show Steps p.tables e below (s₁.setTop (mkF m 65 #[.val (.int (11 : Int32))] [])) _
    refine XS.iloadN X0.here hx rfl (hb hby d2_65) rfl ?_
    show Steps p.tables e below (s₁.setTop (mkF m 66 #[.val (.int (11 : Int32))] [(.int (11 : Int32))])) _
    refine XS.bipush X0.here hx rfl (hb hby d2_66) ?_
    show Steps p.tables e below (s₁.setTop (mkF m 68 #[.val (.int (11 : Int32))] [(.int (11 : Int32)), (.int (11 : Int32))])) _
    refine XS.icmpNo X0.here hx rfl (hb hby d2_68) rfl (teq (by decide : (11 : Int32) = (11 : Int32))).2 ?_
    show Steps p.tables e below (s₁.setTop (mkF m 71 #[.val (.int (11 : Int32))] [])) _
    refine st1 _ ?_
    show Steps p.tables e below (T1.setTop (mkF m 74 #[.val (.int (11 : Int32))] [(.ref w_JOIN_GROUP)])) _
    jvm_step X1.here [X1.here.top, hx, (hb hby d2_74), X1.method', Bd.returns, Value.isRef, FieldType.isReference]
    first | (intro acts; rw [hr _ acts rfl rfl rfl]) | rw [hr _ _ rfl rfl rfl]
    exact Steps.refl _
  · exact ⟨rfl, N0, e1⟩
set_option maxRecDepth 65536 in
set_option maxHeartbeats 40000000 in
theorem rm0_c11 (l : Launch) (Z : State) (a0 : Array Value) (hw : ∀ d ∈ tables_1, d.before a0 Z = true) (ws : List Jvm.Cond) (w_PRODUCE : Addr) (w_METADATA : Addr) (w_LIST_OFFSETS : Addr) (w_JOIN_GROUP : Addr) (w_OFFSET_COMMIT : Addr) (w_FETCH : Addr) (w_FIND_COORDINATOR : Addr) (w_CREATE_TOPICS : Addr) (w_SYNC_GROUP : Addr) (w_OFFSET_FETCH : Addr) (w_HEARTBEAT : Addr) (w_LEAVE_GROUP : Addr) (w_API_VERSIONS : Addr) (w_BY_ID : Addr) (cl_w_BY_ID : Cell) (p1 : Int32) (h0 : Heap) (n0 : Nat) (Z0 : n0 ≤ h0.size) (HW : World Z h0 w_PRODUCE w_METADATA w_LIST_OFFSETS w_JOIN_GROUP w_OFFSET_COMMIT w_FETCH w_FIND_COORDINATOR w_CREATE_TOPICS w_SYNC_GROUP w_OFFSET_FETCH w_HEARTBEAT w_LEAVE_GROUP w_API_VERSIONS w_BY_ID cl_w_BY_ID) (hk : (p1.toInt16.toInt32) = (11 : Int32)) :
    MetFree l x (head1 (Jvm.Cond.code x code maxLocals ret :: ws) room_1) (fun a U => a = #[(.int p1)] ∧ Z.Warmed39 U.vm ∧ U.heap = h0) (fun _ _ _ _ _ => True) (fun _ U o U' => ∃ v L, o = .returned v ∧ Q0 h0 n0 v U'.heap L ∧ FrameEnd U o U' L room_1.cells room_1.slots) := by
  refine MetFree.of_bodySF (plainFor_of_name pn50) hisR ?_
  intro p e s m args below meth c s₁ Bd hml0 hP hK
  obtain ⟨rfl, hZ, hh⟩ := hP
  have hx := Bd.exec
  have hby := Bd.bytes
  have hml : c.maxLocals = 3 := hml0
  have hown : s.vm.findClass "com/example/melog/melog/protocol/ApiKeyForIdPinLaw" = some m.cls := findClass_of_methodNamed Bd.named
  have X0 : Stand p l e room_1 s m #[(.int p1)] below meth c s₁ [] 0 0 := Stand.of_body Bd
  have e0 : s₁.heap = h0 := by rw [← hh, Bd.state]; rfl
  have N0 := Fr.nil n0
  have pre0 : ∀ t, Steps p.tables e below (s₁.setTop (mkF m 0 #[.val (.int p1), .unset, .unset] [])) t → Steps p.tables e below (s₁.setTop (entryFrame m #[(.int p1)] maxLocals)) t := fun t k => castTop (ef53 m p1) k
  obtain ⟨S_w_PRODUCE, E_w_PRODUCE, S_w_METADATA, E_w_METADATA, S_w_LIST_OFFSETS, E_w_LIST_OFFSETS, S_w_JOIN_GROUP, E_w_JOIN_GROUP, S_w_OFFSET_COMMIT, E_w_OFFSET_COMMIT, S_w_FETCH, E_w_FETCH, S_w_FIND_COORDINATOR, E_w_FIND_COORDINATOR, S_w_CREATE_TOPICS, E_w_CREATE_TOPICS, S_w_SYNC_GROUP, E_w_SYNC_GROUP, S_w_OFFSET_FETCH, E_w_OFFSET_FETCH, S_w_HEARTBEAT, E_w_HEARTBEAT, S_w_LEAVE_GROUP, E_w_LEAVE_GROUP, S_w_API_VERSIONS, E_w_API_VERSIONS, S_w_BY_ID, Ar_w_BY_ID, Sz_w_BY_ID, At_w_BY_ID_0, At_w_BY_ID_3, At_w_BY_ID_7, At_w_BY_ID_2, At_w_BY_ID_11, At_w_BY_ID_8, At_w_BY_ID_1, At_w_BY_ID_10, At_w_BY_ID_16, At_w_BY_ID_19, At_w_BY_ID_15, At_w_BY_ID_14, At_w_BY_ID_6, At_w_BY_ID_9, At_w_BY_ID_12, At_w_BY_ID_17, At_w_BY_ID_13, At_w_BY_ID_5, At_w_BY_ID_18, At_w_BY_ID_4, -⟩ := id HW
  obtain ⟨_, _, ⟨T1, L1, k1, n1⟩, -, X1, ⟨Lc1, hQ1, l1, y1, z1⟩, st1⟩ := Jvm.LawKit.callS X0 hx (y := (⟨"com/example/melog/melog/protocol/ApiKey", "forId", "(S)Lcom/example/melog/melog/protocol/ApiKey;"⟩ : MethodName)) hown (mvT hZ (hw _ (List.mem_of_getElem? (i := 0) rfl))) (mvT hZ (hw _ (List.mem_of_getElem? (i := 1) rfl))) (mvT hZ (hw _ (List.mem_of_getElem? (i := 2) rfl))) (mvT hZ (hw _ (List.mem_of_getElem? (i := 3) rfl))) (by decide) (backOf (W := 0) (rm1_38 l Z a0 hw [] w_PRODUCE w_METADATA w_LIST_OFFSETS w_JOIN_GROUP w_OFFSET_COMMIT w_FETCH w_FIND_COORDINATOR w_CREATE_TOPICS w_SYNC_GROUP w_OFFSET_FETCH w_HEARTBEAT w_LEAVE_GROUP w_API_VERSIONS w_BY_ID cl_w_BY_ID h0 n0 Z0 HW) hZ (hw _ (List.mem_of_getElem? (i := 3) rfl)) (hw _ (List.mem_of_getElem? (i := 2) rfl)) (by decide) (by decide)) (g := (mkF m 4 #[.val (.int p1), .val (.int (11 : Int32)), .unset] [(.int (11 : Int32))])) rfl (by rw [hml]; rfl) (argsL := [(.int (11 : Int32))]) (rest := []) (lenOf pd7 rfl) rfl (by show 2 * 0 + _ ≤ _; exact Nat.le_of_eq rfl) (hb hby at_4) (fun _ _ => ⟨rfl, e0, (by decide : 0 + 0 ≤ _), (by decide : 0 + 0 ≤ _)⟩)
  dsimp only [Pt.U, Pt.locs, Pt.cells, Pt.slots] at X1 l1 y1 z1 st1 hQ1
  subst l1 y1 z1
  obtain ⟨rfl, N1q, e1⟩ := hQ1
  have N1 := Fr.app N0 N1q
  obtain ⟨_, _, ⟨T2, L2, k2, n2⟩, -, X2, ⟨Lc2, hQ2, l2, y2, z2⟩, st2⟩ := Jvm.LawKit.callS X1 hx (y := (⟨"com/example/melog/melog/protocol/ApiKeyForIdPinLaw", "expected", "(I)Lcom/example/melog/melog/protocol/ApiKey;"⟩ : MethodName)) hown (mvT hZ (hw _ (List.mem_of_getElem? (i := 7) rfl))) (mvT hZ (hw _ (List.mem_of_getElem? (i := 8) rfl))) (mvT hZ (hw _ (List.mem_of_getElem? (i := 9) rfl))) (mvT hZ (hw _ (List.mem_of_getElem? (i := 10) rfl))) (by decide) (backOf (W := 1) (rm2_39 l Z a0 hw [] w_PRODUCE w_METADATA w_LIST_OFFSETS w_JOIN_GROUP w_OFFSET_COMMIT w_FETCH w_FIND_COORDINATOR w_CREATE_TOPICS w_SYNC_GROUP w_OFFSET_FETCH w_HEARTBEAT w_LEAVE_GROUP w_API_VERSIONS w_BY_ID cl_w_BY_ID h0 n0 Z0 HW) hZ (hw _ (List.mem_of_getElem? (i := 10) rfl)) (hw _ (List.mem_of_getElem? (i := 9) rfl)) (by decide) (by decide)) (g := (mkF m 10 #[.val (.int p1), .val (.int (11 : Int32)), .val (.ref w_JOIN_GROUP)] [(.int (11 : Int32)), (.ref w_JOIN_GROUP)])) rfl (by rw [hml]; rfl) (argsL := [(.int (11 : Int32))]) (rest := [(.ref w_JOIN_GROUP)]) (lenOf pd51 rfl) rfl (by show 2 * 0 + _ ≤ _; exact Nat.le_of_eq rfl) (hb hby at_10) (fun _ _ => ⟨rfl, e1, (by decide : 0 + 0 ≤ _), (by decide : 0 + 0 ≤ _)⟩)
  dsimp only [Pt.U, Pt.locs, Pt.cells, Pt.slots] at X2 l2 y2 z2 st2 hQ2
  subst l2 y2 z2
  obtain ⟨rfl, N2q, e2⟩ := hQ2
  have N2 := Fr.app N1 N2q
  obtain ⟨fs, hr, hrun, hended, hW, hsame⟩ := X2.leave (v := some (.int (1 : Int32))) (fun h => by rw [Bd.returns] at h; cases h)
  refine ⟨_, _, pre0 _ ?_, hrun, hended, _, _, rfl, ?_, ⟨_, rfl⟩, hW, hsame.mono (by decide) (by decide)⟩
  · show Steps p.tables e below (s₁.setTop (mkF m 0 #[.val (.int p1), .unset, .unset] [])) _
    refine XS.iloadN X0.here hx rfl (hb hby at_0) rfl ?_
    show Steps p.tables e below (s₁.setTop (mkF m 1 #[.val (.int p1), .unset, .unset] [(.int p1)])) _
    refine XS.i2s X0.here hx rfl (hb hby at_1) rfl ?_
    rw [hk]
    show Steps p.tables e below (s₁.setTop (mkF m 2 #[.val (.int p1), .unset, .unset] [(.int (11 : Int32))])) _
    refine XS.istoreN X0.here hx rfl (hb hby at_2) rfl (l' := #[.val (.int p1), .val (.int (11 : Int32)), .unset]) rfl ?_
    show Steps p.tables e below (s₁.setTop (mkF m 3 #[.val (.int p1), .val (.int (11 : Int32)), .unset] [])) _
    refine XS.iloadN X0.here hx rfl (hb hby at_3) rfl ?_
    show Steps p.tables e below (s₁.setTop (mkF m 4 #[.val (.int p1), .val (.int (11 : Int32)), .unset] [(.int (11 : Int32))])) _
    refine st1 _ ?_
    show Steps p.tables e below (T1.setTop (mkF m 7 #[.val (.int p1), .val (.int (11 : Int32)), .unset] [(.ref w_JOIN_GROUP)])) _
    refine XS.astoreN X1.here hx rfl (hb hby at_7) rfl rfl (l' := #[.val (.int p1), .val (.int (11 : Int32)), .val (.ref w_JOIN_GROUP)]) rfl ?_
    show Steps p.tables e below (T1.setTop (mkF m 8 #[.val (.int p1), .val (.int (11 : Int32)), .val (.ref w_JOIN_GROUP)] [])) _
    refine XS.aloadN X1.here hx rfl (hb hby at_8) rfl rfl ?_
    show Steps p.tables e below (T1.setTop (mkF m 9 #[.val (.int p1), .val (.int (11 : Int32)), .val (.ref w_JOIN_GROUP)] [(.ref w_JOIN_GROUP)])) _
    refine XS.iloadN X1.here hx rfl (hb hby at_9) rfl ?_
    show Steps p.tables e below (T1.setTop (mkF m 10 #[.val (.int p1), .val (.int (11 : Int32)), .val (.ref w_JOIN_GROUP)] [(.int (11 : Int32)), (.ref w_JOIN_GROUP)])) _
    refine st2 _ ?_
    show Steps p.tables e below (T2.setTop (mkF m 13 #[.val (.int p1), .val (.int (11 : Int32)), .val (.ref w_JOIN_GROUP)] [(.ref w_JOIN_GROUP), (.ref w_JOIN_GROUP)])) _
    refine Jvm.RoadKit.acmp (g := (mkF m 13 #[.val (.int p1), .val (.int (11 : Int32)), .val (.ref w_JOIN_GROUP)] [(.ref w_JOIN_GROUP), (.ref w_JOIN_GROUP)])) X2 hx rfl rfl rfl (pc0 := 13) (pc' := 16) (same := true) rfl (hb hby at_13) rfl (decide_eq_true rfl) (by decide) (by decide) ?_
    show Steps p.tables e below (T2.setTop (mkF m 16 #[.val (.int p1), .val (.int (11 : Int32)), .val (.ref w_JOIN_GROUP)] [])) _
    refine XS.iconst X2.here hx rfl (hb hby at_16) ?_
    show Steps p.tables e below (T2.setTop (mkF m 17 #[.val (.int p1), .val (.int (11 : Int32)), .val (.ref w_JOIN_GROUP)] [(.int (1 : Int32))])) _
    refine XS.goto X2.here hx rfl (pc0 := 17) (pc' := 21) rfl (hb hby at_17) (by decide) (by decide) ?_
    show Steps p.tables e below (T2.setTop (mkF m 21 #[.val (.int p1), .val (.int (11 : Int32)), .val (.ref w_JOIN_GROUP)] [(.int (1 : Int32))])) _
    exact retN X2 hx (t := .boolean) Bd.returns (by simp) (hb hby at_21) hr
  · exact ⟨rfl, N2⟩
def Q1_41 (Z : State) (w_PRODUCE : Addr) (w_METADATA : Addr) (w_LIST_OFFSETS : Addr) (w_JOIN_GROUP : Addr) (w_OFFSET_COMMIT : Addr) (w_FETCH : Addr) (w_FIND_COORDINATOR : Addr) (w_CREATE_TOPICS : Addr) (w_SYNC_GROUP : Addr) (w_OFFSET_FETCH : Addr) (w_HEARTBEAT : Addr) (w_LEAVE_GROUP : Addr) (w_API_VERSIONS : Addr) (w_BY_ID : Addr) (cl_w_BY_ID : Cell) (h0 : Heap) (n0 : Nat) (v : Option Value) (h : Heap) (L : List Loc) : Prop := v = some (.ref w_HEARTBEAT) ∧ Fr n0 L ∧ h = h0
set_option maxRecDepth 65536 in
set_option maxHeartbeats 40000000 in
theorem rm1_41 (l : Launch) (Z : State) (a0 : Array Value) (hw : ∀ d ∈ tables_1, d.before a0 Z = true) (ws : List Jvm.Cond) (w_PRODUCE : Addr) (w_METADATA : Addr) (w_LIST_OFFSETS : Addr) (w_JOIN_GROUP : Addr) (w_OFFSET_COMMIT : Addr) (w_FETCH : Addr) (w_FIND_COORDINATOR : Addr) (w_CREATE_TOPICS : Addr) (w_SYNC_GROUP : Addr) (w_OFFSET_FETCH : Addr) (w_HEARTBEAT : Addr) (w_LEAVE_GROUP : Addr) (w_API_VERSIONS : Addr) (w_BY_ID : Addr) (cl_w_BY_ID : Cell) (h0 : Heap) (n0 : Nat) (Z0 : n0 ≤ h0.size) (HW : World Z h0 w_PRODUCE w_METADATA w_LIST_OFFSETS w_JOIN_GROUP w_OFFSET_COMMIT w_FETCH w_FIND_COORDINATOR w_CREATE_TOPICS w_SYNC_GROUP w_OFFSET_FETCH w_HEARTBEAT w_LEAVE_GROUP w_API_VERSIONS w_BY_ID cl_w_BY_ID) :
    MetFree l (⟨"com/example/melog/melog/protocol/ApiKey", "forId", "(S)Lcom/example/melog/melog/protocol/ApiKey;"⟩ : MethodName) (head1 (Jvm.Cond.code (⟨"com/example/melog/melog/protocol/ApiKey", "forId", "(S)Lcom/example/melog/melog/protocol/ApiKey;"⟩ : MethodName) prog_9_method_4_code 1 (some (.object "com/example/melog/melog/protocol/ApiKey")) :: ws) ({ frames := 0, cells := 0, slots := 0, locals := 0 } : Room)) (fun a U => a = #[(.int (12 : Int32))] ∧ Z.Warmed39 U.vm ∧ U.heap = h0) (fun _ _ _ _ _ => True) (fun _ U o U' => ∃ v L, o = .returned v ∧ Q1_41 Z w_PRODUCE w_METADATA w_LIST_OFFSETS w_JOIN_GROUP w_OFFSET_COMMIT w_FETCH w_FIND_COORDINATOR w_CREATE_TOPICS w_SYNC_GROUP w_OFFSET_FETCH w_HEARTBEAT w_LEAVE_GROUP w_API_VERSIONS w_BY_ID cl_w_BY_ID h0 n0 v U'.heap L ∧ FrameEnd U o U' L ({ frames := 0, cells := 0, slots := 0, locals := 0 } : Room).cells ({ frames := 0, cells := 0, slots := 0, locals := 0 } : Room).slots) := by
  refine MetFree.of_bodySF (plainFor_of_name pn6) hisR ?_
  intro p e s m args below meth c s₁ Bd hml0 hP hK
  obtain ⟨rfl, hZ, hh⟩ := hP
  have hx := Bd.exec
  have hby := Bd.bytes
  have hml : c.maxLocals = 1 := hml0
  have hown : s.vm.findClass "com/example/melog/melog/protocol/ApiKey" = some m.cls := findClass_of_methodNamed Bd.named
  have X0 : Stand p l e ({ frames := 0, cells := 0, slots := 0, locals := 0 } : Room) s m #[(.int (12 : Int32))] below meth c s₁ [] 0 0 := Stand.of_body Bd
  have e0 : s₁.heap = h0 := by rw [← hh, Bd.state]; rfl
  have N0 := Fr.nil n0
  have pre0 : ∀ t, Steps p.tables e below (s₁.setTop (mkF m 0 #[.val (.int (12 : Int32))] [])) t → Steps p.tables e below (s₁.setTop (entryFrame m #[(.int (12 : Int32))] 1)) t := fun t k => castTop (ef5 m (12 : Int32)) k
  obtain ⟨S_w_PRODUCE, E_w_PRODUCE, S_w_METADATA, E_w_METADATA, S_w_LIST_OFFSETS, E_w_LIST_OFFSETS, S_w_JOIN_GROUP, E_w_JOIN_GROUP, S_w_OFFSET_COMMIT, E_w_OFFSET_COMMIT, S_w_FETCH, E_w_FETCH, S_w_FIND_COORDINATOR, E_w_FIND_COORDINATOR, S_w_CREATE_TOPICS, E_w_CREATE_TOPICS, S_w_SYNC_GROUP, E_w_SYNC_GROUP, S_w_OFFSET_FETCH, E_w_OFFSET_FETCH, S_w_HEARTBEAT, E_w_HEARTBEAT, S_w_LEAVE_GROUP, E_w_LEAVE_GROUP, S_w_API_VERSIONS, E_w_API_VERSIONS, S_w_BY_ID, Ar_w_BY_ID, Sz_w_BY_ID, At_w_BY_ID_0, At_w_BY_ID_3, At_w_BY_ID_7, At_w_BY_ID_2, At_w_BY_ID_11, At_w_BY_ID_8, At_w_BY_ID_1, At_w_BY_ID_10, At_w_BY_ID_16, At_w_BY_ID_19, At_w_BY_ID_15, At_w_BY_ID_14, At_w_BY_ID_6, At_w_BY_ID_9, At_w_BY_ID_12, At_w_BY_ID_17, At_w_BY_ID_13, At_w_BY_ID_5, At_w_BY_ID_18, At_w_BY_ID_4, -⟩ := id HW
  obtain ⟨T1, X1, e1, st1⟩ := getS2 X0 hx hZ hown (host := "") (Or.inl (hw _ (List.mem_of_getElem? (i := 4) rfl))) Via.refl e0 S_w_BY_ID (g := (mkF m 5 #[.val (.int (12 : Int32))] [(.int (12 : Int32))])) rfl (hb hby d1_5)
  obtain ⟨T2, X2, e2, st2⟩ := getS2 X1 hx hZ hown (host := "") (Or.inl (hw _ (List.mem_of_getElem? (i := 4) rfl))) Via.refl e1 S_w_BY_ID (g := (mkF m 12 #[.val (.int (12 : Int32))] [])) rfl (hb hby d1_12)
  obtain ⟨fs, hr, hrun, hended, hW, hsame⟩ := X2.leave (v := some (.ref w_HEARTBEAT)) (fun h => by rw [Bd.returns] at h; cases h)
  refine ⟨_, _, pre0 _ ?_, hrun, hended, _, _, rfl, ?_, ⟨_, rfl⟩, hW, hsame.mono (by decide) (by decide)⟩
  · show Steps p.tables e below (s₁.setTop (mkF m 0 #[.val (.int (12 : Int32))] [])) _
    refine XS.iloadN X0.here hx rfl (hb hby d1_0) rfl ?_
    show Steps p.tables e below (s₁.setTop (mkF m 1 #[.val (.int (12 : Int32))] [(.int (12 : Int32))])) _
    refine XS.ifNo X0.here hx rfl (hb hby d1_1) rfl ((if0 _ _).trans (flt (by decide : ¬ ((12 : Int32) < (0 : Int32)))).1) ?_
    show Steps p.tables e below (s₁.setTop (mkF m 4 #[.val (.int (12 : Int32))] [])) _
    refine XS.iloadN X0.here hx rfl (hb hby d1_4) rfl ?_
    show Steps p.tables e below (s₁.setTop (mkF m 5 #[.val (.int (12 : Int32))] [(.int (12 : Int32))])) _
    refine st1 _ ?_
    show Steps p.tables e below (T1.setTop (mkF m 8 #[.val (.int (12 : Int32))] [(.ref w_BY_ID), (.int (12 : Int32))])) _
    refine X1.arraylength hx (by rw [e1]; exact Ar_w_BY_ID.1) (State.isArrayOf_alike hZ.alike Ar_w_BY_ID.2.1) (g := (mkF m 8 #[.val (.int (12 : Int32))] [(.ref w_BY_ID), (.int (12 : Int32))])) rfl rfl (hb hby d1_8) _ ?_
    rw [Sz_w_BY_ID]
    show Steps p.tables e below (T1.setTop (mkF m 9 #[.val (.int (12 : Int32))] [(.int (20 : Int32)), (.int (12 : Int32))])) _
    refine XS.icmpNo X1.here hx rfl (hb hby d1_9) rfl (tlt (by decide : (12 : Int32) < (20 : Int32))).2.1 ?_
    show Steps p.tables e below (T1.setTop (mkF m 12 #[.val (.int (12 : Int32))] [])) _
    refine st2 _ ?_
    show Steps p.tables e below (T2.setTop (mkF m 15 #[.val (.int (12 : Int32))] [(.ref w_BY_ID)])) _
    refine XS.iloadN X2.here hx rfl (hb hby d1_15) rfl ?_
    show Steps p.tables e below (T2.setTop (mkF m 16 #[.val (.int (12 : Int32))] [(.int (12 : Int32)), (.ref w_BY_ID)])) _
    refine X2.aaload hx (j := (12 : Int32)) (v := (.ref w_HEARTBEAT)) (by rw [e2]; exact Ar_w_BY_ID.1) (State.isArrayOf_alike hZ.alike Ar_w_BY_ID.2.1) rfl Ar_w_BY_ID.2.2 At_w_BY_ID_12.1 At_w_BY_ID_12.2 (g := (mkF m 16 #[.val (.int (12 : Int32))] [(.int (12 : Int32)), (.ref w_BY_ID)])) rfl rfl (hb hby d1_16) _ ?_
    show Steps p.tables e below (T2.setTop (mkF m 17 #[.val (.int (12 : Int32))] [(.ref w_HEARTBEAT)])) _
    refine XS.goto X2.here hx rfl (pc0 := 17) (pc' := 21) rfl (hb hby d1_17) (by decide) (by decide) ?_
    show Steps p.tables e below (T2.setTop (mkF m 21 #[.val (.int (12 : Int32))] [(.ref w_HEARTBEAT)])) _
    jvm_step X2.here [X2.here.top, hx, (hb hby d1_21), X2.method', Bd.returns, Value.isRef, FieldType.isReference]
    first | (intro acts; rw [hr _ acts rfl rfl rfl]) | rw [hr _ _ rfl rfl rfl]
    exact Steps.refl _
  · exact ⟨rfl, N0, e2⟩
theorem d2_81 : decode method_2_code 81 = .ok (.getstatic 34, 3) := by decide +kernel
theorem d2_84 : decode method_2_code 84 = .ok (.areturn, 1) := by decide +kernel
def Q2_42 (Z : State) (w_PRODUCE : Addr) (w_METADATA : Addr) (w_LIST_OFFSETS : Addr) (w_JOIN_GROUP : Addr) (w_OFFSET_COMMIT : Addr) (w_FETCH : Addr) (w_FIND_COORDINATOR : Addr) (w_CREATE_TOPICS : Addr) (w_SYNC_GROUP : Addr) (w_OFFSET_FETCH : Addr) (w_HEARTBEAT : Addr) (w_LEAVE_GROUP : Addr) (w_API_VERSIONS : Addr) (w_BY_ID : Addr) (cl_w_BY_ID : Cell) (h0 : Heap) (n0 : Nat) (v : Option Value) (h : Heap) (L : List Loc) : Prop := v = some (.ref w_HEARTBEAT) ∧ Fr n0 L ∧ h = h0
set_option maxRecDepth 65536 in
set_option maxHeartbeats 40000000 in
theorem rm2_42 (l : Launch) (Z : State) (a0 : Array Value) (hw : ∀ d ∈ tables_1, d.before a0 Z = true) (ws : List Jvm.Cond) (w_PRODUCE : Addr) (w_METADATA : Addr) (w_LIST_OFFSETS : Addr) (w_JOIN_GROUP : Addr) (w_OFFSET_COMMIT : Addr) (w_FETCH : Addr) (w_FIND_COORDINATOR : Addr) (w_CREATE_TOPICS : Addr) (w_SYNC_GROUP : Addr) (w_OFFSET_FETCH : Addr) (w_HEARTBEAT : Addr) (w_LEAVE_GROUP : Addr) (w_API_VERSIONS : Addr) (w_BY_ID : Addr) (cl_w_BY_ID : Cell) (h0 : Heap) (n0 : Nat) (Z0 : n0 ≤ h0.size) (HW : World Z h0 w_PRODUCE w_METADATA w_LIST_OFFSETS w_JOIN_GROUP w_OFFSET_COMMIT w_FETCH w_FIND_COORDINATOR w_CREATE_TOPICS w_SYNC_GROUP w_OFFSET_FETCH w_HEARTBEAT w_LEAVE_GROUP w_API_VERSIONS w_BY_ID cl_w_BY_ID) :
    MetFree l (⟨"com/example/melog/melog/protocol/ApiKeyForIdPinLaw", "expected", "(I)Lcom/example/melog/melog/protocol/ApiKey;"⟩ : MethodName) (head1 (Jvm.Cond.code (⟨"com/example/melog/melog/protocol/ApiKeyForIdPinLaw", "expected", "(I)Lcom/example/melog/melog/protocol/ApiKey;"⟩ : MethodName) method_2_code 1 (some (.object "com/example/melog/melog/protocol/ApiKey")) :: ws) ({ frames := 0, cells := 0, slots := 0, locals := 0 } : Room)) (fun a U => a = #[(.int (12 : Int32))] ∧ Z.Warmed39 U.vm ∧ U.heap = h0) (fun _ _ _ _ _ => True) (fun _ U o U' => ∃ v L, o = .returned v ∧ Q2_42 Z w_PRODUCE w_METADATA w_LIST_OFFSETS w_JOIN_GROUP w_OFFSET_COMMIT w_FETCH w_FIND_COORDINATOR w_CREATE_TOPICS w_SYNC_GROUP w_OFFSET_FETCH w_HEARTBEAT w_LEAVE_GROUP w_API_VERSIONS w_BY_ID cl_w_BY_ID h0 n0 v U'.heap L ∧ FrameEnd U o U' L ({ frames := 0, cells := 0, slots := 0, locals := 0 } : Room).cells ({ frames := 0, cells := 0, slots := 0, locals := 0 } : Room).slots) := by
  refine MetFree.of_bodySF (plainFor_of_name pn50) hisR ?_
  intro p e s m args below meth c s₁ Bd hml0 hP hK
  obtain ⟨rfl, hZ, hh⟩ := hP
  have hx := Bd.exec
  have hby := Bd.bytes
  have hml : c.maxLocals = 1 := hml0
  have hown : s.vm.findClass "com/example/melog/melog/protocol/ApiKeyForIdPinLaw" = some m.cls := findClass_of_methodNamed Bd.named
  have X0 : Stand p l e ({ frames := 0, cells := 0, slots := 0, locals := 0 } : Room) s m #[(.int (12 : Int32))] below meth c s₁ [] 0 0 := Stand.of_body Bd
  have e0 : s₁.heap = h0 := by rw [← hh, Bd.state]; rfl
  have N0 := Fr.nil n0
  have pre0 : ∀ t, Steps p.tables e below (s₁.setTop (mkF m 0 #[.val (.int (12 : Int32))] [])) t → Steps p.tables e below (s₁.setTop (entryFrame m #[(.int (12 : Int32))] 1)) t := fun t k => castTop (ef49 m (12 : Int32)) k
  obtain ⟨S_w_PRODUCE, E_w_PRODUCE, S_w_METADATA, E_w_METADATA, S_w_LIST_OFFSETS, E_w_LIST_OFFSETS, S_w_JOIN_GROUP, E_w_JOIN_GROUP, S_w_OFFSET_COMMIT, E_w_OFFSET_COMMIT, S_w_FETCH, E_w_FETCH, S_w_FIND_COORDINATOR, E_w_FIND_COORDINATOR, S_w_CREATE_TOPICS, E_w_CREATE_TOPICS, S_w_SYNC_GROUP, E_w_SYNC_GROUP, S_w_OFFSET_FETCH, E_w_OFFSET_FETCH, S_w_HEARTBEAT, E_w_HEARTBEAT, S_w_LEAVE_GROUP, E_w_LEAVE_GROUP, S_w_API_VERSIONS, E_w_API_VERSIONS, S_w_BY_ID, Ar_w_BY_ID, Sz_w_BY_ID, At_w_BY_ID_0, At_w_BY_ID_3, At_w_BY_ID_7, At_w_BY_ID_2, At_w_BY_ID_11, At_w_BY_ID_8, At_w_BY_ID_1, At_w_BY_ID_10, At_w_BY_ID_16, At_w_BY_ID_19, At_w_BY_ID_15, At_w_BY_ID_14, At_w_BY_ID_6, At_w_BY_ID_9, At_w_BY_ID_12, At_w_BY_ID_17, At_w_BY_ID_13, At_w_BY_ID_5, At_w_BY_ID_18, At_w_BY_ID_4, -⟩ := id HW
  obtain ⟨T1, X1, e1, st1⟩ := getS2 X0 hx hZ hown (host := "") (Or.inl (hw _ (List.mem_of_getElem? (i := 31) rfl))) Via.refl e0 S_w_HEARTBEAT (g := (mkF m 81 #[.val (.int (12 : Int32))] [])) rfl (hb hby d2_81)
  obtain ⟨fs, hr, hrun, hended, hW, hsame⟩ := X1.leave (v := some (.ref w_HEARTBEAT)) (fun h => by rw [Bd.returns] at h; cases h)
  refine ⟨_, _, pre0 _ ?_, hrun, hended, _, _, rfl, ?_, ⟨_, rfl⟩, hW, hsame.mono (by decide) (by decide)⟩
  · show Steps p.tables e below (s₁.setTop (mkF m 0 #[.val (.int (12 : Int32))] [])) _
    refine XS.iloadN X0.here hx rfl (hb hby d2_0) rfl ?_
    show Steps p.tables e below (s₁.setTop (mkF m 1 #[.val (.int (12 : Int32))] [(.int (12 : Int32))])) _
    refine XS.ifYes X0.here hx rfl (pc0 := 1) (pc' := 8) rfl (hb hby d2_1) rfl ((if0 _ _).trans (feq (by decide : ¬ ((12 : Int32) = (0 : Int32)))).2) (by decide) (by decide) ?_
    show Steps p.tables e below (s₁.setTop (mkF m 8 #[.val (.int (12 : Int32))] [])) _
    refine XS.iloadN X0.here hx rfl (hb hby d2_8) rfl ?_
    show Steps p.tables e below (s₁.setTop (mkF m 9 #[.val (.int (12 : Int32))] [(.int (12 : Int32))])) _
    refine XS.iconst X0.here hx rfl (hb hby d2_9) ?_
    show Steps p.tables e below (s₁.setTop (mkF m 10 #[.val (.int (12 : Int32))] [(.int (1 : Int32)), (.int (12 : Int32))])) _
    refine XS.icmpYes X0.here hx rfl (pc0 := 10) (pc' := 17) rfl (hb hby d2_10) rfl (feq (by decide : ¬ ((12 : Int32) = (1 : Int32)))).2 (by decide) (by decide) ?_
    show Steps p.tables e below (s₁.setTop (mkF m 17 #[.val (.int (12 : Int32))] [])) _
    refine XS.iloadN X0.here hx rfl (hb hby d2_17) rfl ?_
    show Steps p.tables e below (s₁.setTop (mkF m 18 #[.val (.int (12 : Int32))] [(.int (12 : Int32))])) _
    refine XS.iconst X0.here hx rfl (hb hby d2_18) ?_
    show Steps p.tables e below (s₁.setTop (mkF m 19 #[.val (.int (12 : Int32))] [(.int (2 : Int32)), (.int (12 : Int32))])) _
    refine XS.icmpYes X0.here hx rfl (pc0 := 19) (pc' := 26) rfl (hb hby d2_19) rfl (feq (by decide : ¬ ((12 : Int32) = (2 : Int32)))).2 (by decide) (by decide) ?_
    show Steps p.tables e below (s₁.setTop (mkF m 26 #[.val (.int (12 : Int32))] [])) _
    refine XS.iloadN X0.here hx rfl (hb hby d2_26) rfl ?_
    show Steps p.tables e below (s₁.setTop (mkF m 27 #[.val (.int (12 : Int32))] [(.int (12 : Int32))])) _
    refine XS.iconst X0.here hx rfl (hb hby d2_27) ?_
    show Steps p.tables e below (s₁.setTop (mkF m 28 #[.val (.int (12 : Int32))] [(.int (3 : Int32)), (.int (12 : Int32))])) _
    refine XS.icmpYes X0.here hx rfl (pc0 := 28) (pc' := 35) rfl (hb hby d2_28) rfl (feq (by decide : ¬ ((12 : Int32) = (3 : Int32)))).2 (by decide) (by decide) ?_
    show Steps p.tables e below (s₁.setTop (mkF m 35 #[.val (.int (12 : Int32))] [])) _
    refine XS.iloadN X0.here hx rfl (hb hby d2_35) rfl ?_
    show Steps p.tables e below (s₁.setTop (mkF m 36 #[.val (.int (12 : Int32))] [(.int (12 : Int32))])) _
    refine XS.bipush X0.here hx rfl (hb hby d2_36) ?_
    show Steps p.tables e below (s₁.setTop (mkF m 38 #[.val (.int (12 : Int32))] [(.int (8 : Int32)), (.int (12 : Int32))])) _
    refine XS.icmpYes X0.here hx rfl (pc0 := 38) (pc' := 45) rfl (hb hby d2_38) rfl (feq (by decide : ¬ ((12 : Int32) = (8 : Int32)))).2 (by decide) (by decide) ?_
    show Steps p.tables e below (s₁.setTop (mkF m 45 #[.val (.int (12 : Int32))] [])) _
    refine XS.iloadN X0.here hx rfl (hb hby d2_45) rfl ?_
    show Steps p.tables e below (s₁.setTop (mkF m 46 #[.val (.int (12 : Int32))] [(.int (12 : Int32))])) _
    refine XS.bipush X0.here hx rfl (hb hby d2_46) ?_
    show Steps p.tables e below (s₁.setTop (mkF m 48 #[.val (.int (12 : Int32))] [(.int (9 : Int32)), (.int (12 : Int32))])) _
    refine XS.icmpYes X0.here hx rfl (pc0 := 48) (pc' := 55) rfl (hb hby d2_48) rfl (feq (by decide : ¬ ((12 : Int32) = (9 : Int32)))).2 (by decide) (by decide) ?_
    show Steps p.tables e below (s₁.setTop (mkF m 55 #[.val (.int (12 : Int32))] [])) _
    refine XS.iloadN X0.here hx rfl (hb hby d2_55) rfl ?_
    show Steps p.tables e below (s₁.setTop (mkF m 56 #[.val (.int (12 : Int32))] [(.int (12 : Int32))])) _
    refine XS.bipush X0.here hx rfl (hb hby d2_56) ?_
    show Steps p.tables e below (s₁.setTop (mkF m 58 #[.val (.int (12 : Int32))] [(.int (10 : Int32)), (.int (12 : Int32))])) _
    refine XS.icmpYes X0.here hx rfl (pc0 := 58) (pc' := 65) rfl (hb hby d2_58) rfl (feq (by decide : ¬ ((12 : Int32) = (10 : Int32)))).2 (by decide) (by decide) ?_
    show Steps p.tables e below (s₁.setTop (mkF m 65 #[.val (.int (12 : Int32))] [])) _
    refine XS.iloadN X0.here hx rfl (hb hby d2_65) rfl ?_
    show Steps p.tables e below (s₁.setTop (mkF m 66 #[.val (.int (12 : Int32))] [(.int (12 : Int32))])) _
    refine XS.bipush X0.here hx rfl (hb hby d2_66) ?_
    show Steps p.tables e below (s₁.setTop (mkF m 68 #[.val (.int (12 : Int32))] [(.int (11 : Int32)), (.int (12 : Int32))])) _
    refine XS.icmpYes X0.here hx rfl (pc0 := 68) (pc' := 75) rfl (hb hby d2_68) rfl (feq (by decide : ¬ ((12 : Int32) = (11 : Int32)))).2 (by decide) (by decide) ?_
    show Steps p.tables e below (s₁.setTop (mkF m 75 #[.val (.int (12 : Int32))] [])) _
    refine XS.iloadN X0.here hx rfl (hb hby d2_75) rfl ?_
    show Steps p.tables e below (s₁.setTop (mkF m 76 #[.val (.int (12 : Int32))] [(.int (12 : Int32))])) _
    refine XS.bipush X0.here hx rfl (hb hby d2_76) ?_
    show Steps p.tables e below (s₁.setTop (mkF m 78 #[.val (.int (12 : Int32))] [(.int (12 : Int32)), (.int (12 : Int32))])) _
    refine XS.icmpNo X0.here hx rfl (hb hby d2_78) rfl (teq (by decide : (12 : Int32) = (12 : Int32))).2 ?_
    show Steps p.tables e below (s₁.setTop (mkF m 81 #[.val (.int (12 : Int32))] [])) _
    refine st1 _ ?_
    show Steps p.tables e below (T1.setTop (mkF m 84 #[.val (.int (12 : Int32))] [(.ref w_HEARTBEAT)])) _
    jvm_step X1.here [X1.here.top, hx, (hb hby d2_84), X1.method', Bd.returns, Value.isRef, FieldType.isReference]
    first | (intro acts; rw [hr _ acts rfl rfl rfl]) | rw [hr _ _ rfl rfl rfl]
    exact Steps.refl _
  · exact ⟨rfl, N0, e1⟩
set_option maxRecDepth 65536 in
set_option maxHeartbeats 40000000 in
theorem rm0_c12 (l : Launch) (Z : State) (a0 : Array Value) (hw : ∀ d ∈ tables_1, d.before a0 Z = true) (ws : List Jvm.Cond) (w_PRODUCE : Addr) (w_METADATA : Addr) (w_LIST_OFFSETS : Addr) (w_JOIN_GROUP : Addr) (w_OFFSET_COMMIT : Addr) (w_FETCH : Addr) (w_FIND_COORDINATOR : Addr) (w_CREATE_TOPICS : Addr) (w_SYNC_GROUP : Addr) (w_OFFSET_FETCH : Addr) (w_HEARTBEAT : Addr) (w_LEAVE_GROUP : Addr) (w_API_VERSIONS : Addr) (w_BY_ID : Addr) (cl_w_BY_ID : Cell) (p1 : Int32) (h0 : Heap) (n0 : Nat) (Z0 : n0 ≤ h0.size) (HW : World Z h0 w_PRODUCE w_METADATA w_LIST_OFFSETS w_JOIN_GROUP w_OFFSET_COMMIT w_FETCH w_FIND_COORDINATOR w_CREATE_TOPICS w_SYNC_GROUP w_OFFSET_FETCH w_HEARTBEAT w_LEAVE_GROUP w_API_VERSIONS w_BY_ID cl_w_BY_ID) (hk : (p1.toInt16.toInt32) = (12 : Int32)) :
    MetFree l x (head1 (Jvm.Cond.code x code maxLocals ret :: ws) room_1) (fun a U => a = #[(.int p1)] ∧ Z.Warmed39 U.vm ∧ U.heap = h0) (fun _ _ _ _ _ => True) (fun _ U o U' => ∃ v L, o = .returned v ∧ Q0 h0 n0 v U'.heap L ∧ FrameEnd U o U' L room_1.cells room_1.slots) := by
  refine MetFree.of_bodySF (plainFor_of_name pn50) hisR ?_
  intro p e s m args below meth c s₁ Bd hml0 hP hK
  obtain ⟨rfl, hZ, hh⟩ := hP
  have hx := Bd.exec
  have hby := Bd.bytes
  have hml : c.maxLocals = 3 := hml0
  have hown : s.vm.findClass "com/example/melog/melog/protocol/ApiKeyForIdPinLaw" = some m.cls := findClass_of_methodNamed Bd.named
  have X0 : Stand p l e room_1 s m #[(.int p1)] below meth c s₁ [] 0 0 := Stand.of_body Bd
  have e0 : s₁.heap = h0 := by rw [← hh, Bd.state]; rfl
  have N0 := Fr.nil n0
  have pre0 : ∀ t, Steps p.tables e below (s₁.setTop (mkF m 0 #[.val (.int p1), .unset, .unset] [])) t → Steps p.tables e below (s₁.setTop (entryFrame m #[(.int p1)] maxLocals)) t := fun t k => castTop (ef53 m p1) k
  obtain ⟨S_w_PRODUCE, E_w_PRODUCE, S_w_METADATA, E_w_METADATA, S_w_LIST_OFFSETS, E_w_LIST_OFFSETS, S_w_JOIN_GROUP, E_w_JOIN_GROUP, S_w_OFFSET_COMMIT, E_w_OFFSET_COMMIT, S_w_FETCH, E_w_FETCH, S_w_FIND_COORDINATOR, E_w_FIND_COORDINATOR, S_w_CREATE_TOPICS, E_w_CREATE_TOPICS, S_w_SYNC_GROUP, E_w_SYNC_GROUP, S_w_OFFSET_FETCH, E_w_OFFSET_FETCH, S_w_HEARTBEAT, E_w_HEARTBEAT, S_w_LEAVE_GROUP, E_w_LEAVE_GROUP, S_w_API_VERSIONS, E_w_API_VERSIONS, S_w_BY_ID, Ar_w_BY_ID, Sz_w_BY_ID, At_w_BY_ID_0, At_w_BY_ID_3, At_w_BY_ID_7, At_w_BY_ID_2, At_w_BY_ID_11, At_w_BY_ID_8, At_w_BY_ID_1, At_w_BY_ID_10, At_w_BY_ID_16, At_w_BY_ID_19, At_w_BY_ID_15, At_w_BY_ID_14, At_w_BY_ID_6, At_w_BY_ID_9, At_w_BY_ID_12, At_w_BY_ID_17, At_w_BY_ID_13, At_w_BY_ID_5, At_w_BY_ID_18, At_w_BY_ID_4, -⟩ := id HW
  obtain ⟨_, _, ⟨T1, L1, k1, n1⟩, -, X1, ⟨Lc1, hQ1, l1, y1, z1⟩, st1⟩ := Jvm.LawKit.callS X0 hx (y := (⟨"com/example/melog/melog/protocol/ApiKey", "forId", "(S)Lcom/example/melog/melog/protocol/ApiKey;"⟩ : MethodName)) hown (mvT hZ (hw _ (List.mem_of_getElem? (i := 0) rfl))) (mvT hZ (hw _ (List.mem_of_getElem? (i := 1) rfl))) (mvT hZ (hw _ (List.mem_of_getElem? (i := 2) rfl))) (mvT hZ (hw _ (List.mem_of_getElem? (i := 3) rfl))) (by decide) (backOf (W := 0) (rm1_41 l Z a0 hw [] w_PRODUCE w_METADATA w_LIST_OFFSETS w_JOIN_GROUP w_OFFSET_COMMIT w_FETCH w_FIND_COORDINATOR w_CREATE_TOPICS w_SYNC_GROUP w_OFFSET_FETCH w_HEARTBEAT w_LEAVE_GROUP w_API_VERSIONS w_BY_ID cl_w_BY_ID h0 n0 Z0 HW) hZ (hw _ (List.mem_of_getElem? (i := 3) rfl)) (hw _ (List.mem_of_getElem? (i := 2) rfl)) (by decide) (by decide)) (g := (mkF m 4 #[.val (.int p1), .val (.int (12 : Int32)), .unset] [(.int (12 : Int32))])) rfl (by rw [hml]; rfl) (argsL := [(.int (12 : Int32))]) (rest := []) (lenOf pd7 rfl) rfl (by show 2 * 0 + _ ≤ _; exact Nat.le_of_eq rfl) (hb hby at_4) (fun _ _ => ⟨rfl, e0, (by decide : 0 + 0 ≤ _), (by decide : 0 + 0 ≤ _)⟩)
  dsimp only [Pt.U, Pt.locs, Pt.cells, Pt.slots] at X1 l1 y1 z1 st1 hQ1
  subst l1 y1 z1
  obtain ⟨rfl, N1q, e1⟩ := hQ1
  have N1 := Fr.app N0 N1q
  obtain ⟨_, _, ⟨T2, L2, k2, n2⟩, -, X2, ⟨Lc2, hQ2, l2, y2, z2⟩, st2⟩ := Jvm.LawKit.callS X1 hx (y := (⟨"com/example/melog/melog/protocol/ApiKeyForIdPinLaw", "expected", "(I)Lcom/example/melog/melog/protocol/ApiKey;"⟩ : MethodName)) hown (mvT hZ (hw _ (List.mem_of_getElem? (i := 7) rfl))) (mvT hZ (hw _ (List.mem_of_getElem? (i := 8) rfl))) (mvT hZ (hw _ (List.mem_of_getElem? (i := 9) rfl))) (mvT hZ (hw _ (List.mem_of_getElem? (i := 10) rfl))) (by decide) (backOf (W := 1) (rm2_42 l Z a0 hw [] w_PRODUCE w_METADATA w_LIST_OFFSETS w_JOIN_GROUP w_OFFSET_COMMIT w_FETCH w_FIND_COORDINATOR w_CREATE_TOPICS w_SYNC_GROUP w_OFFSET_FETCH w_HEARTBEAT w_LEAVE_GROUP w_API_VERSIONS w_BY_ID cl_w_BY_ID h0 n0 Z0 HW) hZ (hw _ (List.mem_of_getElem? (i := 10) rfl)) (hw _ (List.mem_of_getElem? (i := 9) rfl)) (by decide) (by decide)) (g := (mkF m 10 #[.val (.int p1), .val (.int (12 : Int32)), .val (.ref w_HEARTBEAT)] [(.int (12 : Int32)), (.ref w_HEARTBEAT)])) rfl (by rw [hml]; rfl) (argsL := [(.int (12 : Int32))]) (rest := [(.ref w_HEARTBEAT)]) (lenOf pd51 rfl) rfl (by show 2 * 0 + _ ≤ _; exact Nat.le_of_eq rfl) (hb hby at_10) (fun _ _ => ⟨rfl, e1, (by decide : 0 + 0 ≤ _), (by decide : 0 + 0 ≤ _)⟩)
  dsimp only [Pt.U, Pt.locs, Pt.cells, Pt.slots] at X2 l2 y2 z2 st2 hQ2
  subst l2 y2 z2
  obtain ⟨rfl, N2q, e2⟩ := hQ2
  have N2 := Fr.app N1 N2q
  obtain ⟨fs, hr, hrun, hended, hW, hsame⟩ := X2.leave (v := some (.int (1 : Int32))) (fun h => by rw [Bd.returns] at h; cases h)
  refine ⟨_, _, pre0 _ ?_, hrun, hended, _, _, rfl, ?_, ⟨_, rfl⟩, hW, hsame.mono (by decide) (by decide)⟩
  · show Steps p.tables e below (s₁.setTop (mkF m 0 #[.val (.int p1), .unset, .unset] [])) _
    refine XS.iloadN X0.here hx rfl (hb hby at_0) rfl ?_
    show Steps p.tables e below (s₁.setTop (mkF m 1 #[.val (.int p1), .unset, .unset] [(.int p1)])) _
    refine XS.i2s X0.here hx rfl (hb hby at_1) rfl ?_
    rw [hk]
    show Steps p.tables e below (s₁.setTop (mkF m 2 #[.val (.int p1), .unset, .unset] [(.int (12 : Int32))])) _
    refine XS.istoreN X0.here hx rfl (hb hby at_2) rfl (l' := #[.val (.int p1), .val (.int (12 : Int32)), .unset]) rfl ?_
    show Steps p.tables e below (s₁.setTop (mkF m 3 #[.val (.int p1), .val (.int (12 : Int32)), .unset] [])) _
    refine XS.iloadN X0.here hx rfl (hb hby at_3) rfl ?_
    show Steps p.tables e below (s₁.setTop (mkF m 4 #[.val (.int p1), .val (.int (12 : Int32)), .unset] [(.int (12 : Int32))])) _
    refine st1 _ ?_
    show Steps p.tables e below (T1.setTop (mkF m 7 #[.val (.int p1), .val (.int (12 : Int32)), .unset] [(.ref w_HEARTBEAT)])) _
    refine XS.astoreN X1.here hx rfl (hb hby at_7) rfl rfl (l' := #[.val (.int p1), .val (.int (12 : Int32)), .val (.ref w_HEARTBEAT)]) rfl ?_
    show Steps p.tables e below (T1.setTop (mkF m 8 #[.val (.int p1), .val (.int (12 : Int32)), .val (.ref w_HEARTBEAT)] [])) _
    refine XS.aloadN X1.here hx rfl (hb hby at_8) rfl rfl ?_
    show Steps p.tables e below (T1.setTop (mkF m 9 #[.val (.int p1), .val (.int (12 : Int32)), .val (.ref w_HEARTBEAT)] [(.ref w_HEARTBEAT)])) _
    refine XS.iloadN X1.here hx rfl (hb hby at_9) rfl ?_
    show Steps p.tables e below (T1.setTop (mkF m 10 #[.val (.int p1), .val (.int (12 : Int32)), .val (.ref w_HEARTBEAT)] [(.int (12 : Int32)), (.ref w_HEARTBEAT)])) _
    refine st2 _ ?_
    show Steps p.tables e below (T2.setTop (mkF m 13 #[.val (.int p1), .val (.int (12 : Int32)), .val (.ref w_HEARTBEAT)] [(.ref w_HEARTBEAT), (.ref w_HEARTBEAT)])) _
    refine Jvm.RoadKit.acmp (g := (mkF m 13 #[.val (.int p1), .val (.int (12 : Int32)), .val (.ref w_HEARTBEAT)] [(.ref w_HEARTBEAT), (.ref w_HEARTBEAT)])) X2 hx rfl rfl rfl (pc0 := 13) (pc' := 16) (same := true) rfl (hb hby at_13) rfl (decide_eq_true rfl) (by decide) (by decide) ?_
    show Steps p.tables e below (T2.setTop (mkF m 16 #[.val (.int p1), .val (.int (12 : Int32)), .val (.ref w_HEARTBEAT)] [])) _
    refine XS.iconst X2.here hx rfl (hb hby at_16) ?_
    show Steps p.tables e below (T2.setTop (mkF m 17 #[.val (.int p1), .val (.int (12 : Int32)), .val (.ref w_HEARTBEAT)] [(.int (1 : Int32))])) _
    refine XS.goto X2.here hx rfl (pc0 := 17) (pc' := 21) rfl (hb hby at_17) (by decide) (by decide) ?_
    show Steps p.tables e below (T2.setTop (mkF m 21 #[.val (.int p1), .val (.int (12 : Int32)), .val (.ref w_HEARTBEAT)] [(.int (1 : Int32))])) _
    exact retN X2 hx (t := .boolean) Bd.returns (by simp) (hb hby at_21) hr
  · exact ⟨rfl, N2⟩
def Q1_44 (Z : State) (w_PRODUCE : Addr) (w_METADATA : Addr) (w_LIST_OFFSETS : Addr) (w_JOIN_GROUP : Addr) (w_OFFSET_COMMIT : Addr) (w_FETCH : Addr) (w_FIND_COORDINATOR : Addr) (w_CREATE_TOPICS : Addr) (w_SYNC_GROUP : Addr) (w_OFFSET_FETCH : Addr) (w_HEARTBEAT : Addr) (w_LEAVE_GROUP : Addr) (w_API_VERSIONS : Addr) (w_BY_ID : Addr) (cl_w_BY_ID : Cell) (h0 : Heap) (n0 : Nat) (v : Option Value) (h : Heap) (L : List Loc) : Prop := v = some (.ref w_LEAVE_GROUP) ∧ Fr n0 L ∧ h = h0
set_option maxRecDepth 65536 in
set_option maxHeartbeats 40000000 in
theorem rm1_44 (l : Launch) (Z : State) (a0 : Array Value) (hw : ∀ d ∈ tables_1, d.before a0 Z = true) (ws : List Jvm.Cond) (w_PRODUCE : Addr) (w_METADATA : Addr) (w_LIST_OFFSETS : Addr) (w_JOIN_GROUP : Addr) (w_OFFSET_COMMIT : Addr) (w_FETCH : Addr) (w_FIND_COORDINATOR : Addr) (w_CREATE_TOPICS : Addr) (w_SYNC_GROUP : Addr) (w_OFFSET_FETCH : Addr) (w_HEARTBEAT : Addr) (w_LEAVE_GROUP : Addr) (w_API_VERSIONS : Addr) (w_BY_ID : Addr) (cl_w_BY_ID : Cell) (h0 : Heap) (n0 : Nat) (Z0 : n0 ≤ h0.size) (HW : World Z h0 w_PRODUCE w_METADATA w_LIST_OFFSETS w_JOIN_GROUP w_OFFSET_COMMIT w_FETCH w_FIND_COORDINATOR w_CREATE_TOPICS w_SYNC_GROUP w_OFFSET_FETCH w_HEARTBEAT w_LEAVE_GROUP w_API_VERSIONS w_BY_ID cl_w_BY_ID) :
    MetFree l (⟨"com/example/melog/melog/protocol/ApiKey", "forId", "(S)Lcom/example/melog/melog/protocol/ApiKey;"⟩ : MethodName) (head1 (Jvm.Cond.code (⟨"com/example/melog/melog/protocol/ApiKey", "forId", "(S)Lcom/example/melog/melog/protocol/ApiKey;"⟩ : MethodName) prog_9_method_4_code 1 (some (.object "com/example/melog/melog/protocol/ApiKey")) :: ws) ({ frames := 0, cells := 0, slots := 0, locals := 0 } : Room)) (fun a U => a = #[(.int (13 : Int32))] ∧ Z.Warmed39 U.vm ∧ U.heap = h0) (fun _ _ _ _ _ => True) (fun _ U o U' => ∃ v L, o = .returned v ∧ Q1_44 Z w_PRODUCE w_METADATA w_LIST_OFFSETS w_JOIN_GROUP w_OFFSET_COMMIT w_FETCH w_FIND_COORDINATOR w_CREATE_TOPICS w_SYNC_GROUP w_OFFSET_FETCH w_HEARTBEAT w_LEAVE_GROUP w_API_VERSIONS w_BY_ID cl_w_BY_ID h0 n0 v U'.heap L ∧ FrameEnd U o U' L ({ frames := 0, cells := 0, slots := 0, locals := 0 } : Room).cells ({ frames := 0, cells := 0, slots := 0, locals := 0 } : Room).slots) := by
  refine MetFree.of_bodySF (plainFor_of_name pn6) hisR ?_
  intro p e s m args below meth c s₁ Bd hml0 hP hK
  obtain ⟨rfl, hZ, hh⟩ := hP
  have hx := Bd.exec
  have hby := Bd.bytes
  have hml : c.maxLocals = 1 := hml0
  have hown : s.vm.findClass "com/example/melog/melog/protocol/ApiKey" = some m.cls := findClass_of_methodNamed Bd.named
  have X0 : Stand p l e ({ frames := 0, cells := 0, slots := 0, locals := 0 } : Room) s m #[(.int (13 : Int32))] below meth c s₁ [] 0 0 := Stand.of_body Bd
  have e0 : s₁.heap = h0 := by rw [← hh, Bd.state]; rfl
  have N0 := Fr.nil n0
  have pre0 : ∀ t, Steps p.tables e below (s₁.setTop (mkF m 0 #[.val (.int (13 : Int32))] [])) t → Steps p.tables e below (s₁.setTop (entryFrame m #[(.int (13 : Int32))] 1)) t := fun t k => castTop (ef5 m (13 : Int32)) k
  obtain ⟨S_w_PRODUCE, E_w_PRODUCE, S_w_METADATA, E_w_METADATA, S_w_LIST_OFFSETS, E_w_LIST_OFFSETS, S_w_JOIN_GROUP, E_w_JOIN_GROUP, S_w_OFFSET_COMMIT, E_w_OFFSET_COMMIT, S_w_FETCH, E_w_FETCH, S_w_FIND_COORDINATOR, E_w_FIND_COORDINATOR, S_w_CREATE_TOPICS, E_w_CREATE_TOPICS, S_w_SYNC_GROUP, E_w_SYNC_GROUP, S_w_OFFSET_FETCH, E_w_OFFSET_FETCH, S_w_HEARTBEAT, E_w_HEARTBEAT, S_w_LEAVE_GROUP, E_w_LEAVE_GROUP, S_w_API_VERSIONS, E_w_API_VERSIONS, S_w_BY_ID, Ar_w_BY_ID, Sz_w_BY_ID, At_w_BY_ID_0, At_w_BY_ID_3, At_w_BY_ID_7, At_w_BY_ID_2, At_w_BY_ID_11, At_w_BY_ID_8, At_w_BY_ID_1, At_w_BY_ID_10, At_w_BY_ID_16, At_w_BY_ID_19, At_w_BY_ID_15, At_w_BY_ID_14, At_w_BY_ID_6, At_w_BY_ID_9, At_w_BY_ID_12, At_w_BY_ID_17, At_w_BY_ID_13, At_w_BY_ID_5, At_w_BY_ID_18, At_w_BY_ID_4, -⟩ := id HW
  obtain ⟨T1, X1, e1, st1⟩ := getS2 X0 hx hZ hown (host := "") (Or.inl (hw _ (List.mem_of_getElem? (i := 4) rfl))) Via.refl e0 S_w_BY_ID (g := (mkF m 5 #[.val (.int (13 : Int32))] [(.int (13 : Int32))])) rfl (hb hby d1_5)
  obtain ⟨T2, X2, e2, st2⟩ := getS2 X1 hx hZ hown (host := "") (Or.inl (hw _ (List.mem_of_getElem? (i := 4) rfl))) Via.refl e1 S_w_BY_ID (g := (mkF m 12 #[.val (.int (13 : Int32))] [])) rfl (hb hby d1_12)
  obtain ⟨fs, hr, hrun, hended, hW, hsame⟩ := X2.leave (v := some (.ref w_LEAVE_GROUP)) (fun h => by rw [Bd.returns] at h; cases h)
  refine ⟨_, _, pre0 _ ?_, hrun, hended, _, _, rfl, ?_, ⟨_, rfl⟩, hW, hsame.mono (by decide) (by decide)⟩
  · show Steps p.tables e below (s₁.setTop (mkF m 0 #[.val (.int (13 : Int32))] [])) _
    refine XS.iloadN X0.here hx rfl (hb hby d1_0) rfl ?_
    show Steps p.tables e below (s₁.setTop (mkF m 1 #[.val (.int (13 : Int32))] [(.int (13 : Int32))])) _
    refine XS.ifNo X0.here hx rfl (hb hby d1_1) rfl ((if0 _ _).trans (flt (by decide : ¬ ((13 : Int32) < (0 : Int32)))).1) ?_
    show Steps p.tables e below (s₁.setTop (mkF m 4 #[.val (.int (13 : Int32))] [])) _
    refine XS.iloadN X0.here hx rfl (hb hby d1_4) rfl ?_
    show Steps p.tables e below (s₁.setTop (mkF m 5 #[.val (.int (13 : Int32))] [(.int (13 : Int32))])) _
    refine st1 _ ?_
    show Steps p.tables e below (T1.setTop (mkF m 8 #[.val (.int (13 : Int32))] [(.ref w_BY_ID), (.int (13 : Int32))])) _
    refine X1.arraylength hx (by rw [e1]; exact Ar_w_BY_ID.1) (State.isArrayOf_alike hZ.alike Ar_w_BY_ID.2.1) (g := (mkF m 8 #[.val (.int (13 : Int32))] [(.ref w_BY_ID), (.int (13 : Int32))])) rfl rfl (hb hby d1_8) _ ?_
    rw [Sz_w_BY_ID]
    show Steps p.tables e below (T1.setTop (mkF m 9 #[.val (.int (13 : Int32))] [(.int (20 : Int32)), (.int (13 : Int32))])) _
    refine XS.icmpNo X1.here hx rfl (hb hby d1_9) rfl (tlt (by decide : (13 : Int32) < (20 : Int32))).2.1 ?_
    show Steps p.tables e below (T1.setTop (mkF m 12 #[.val (.int (13 : Int32))] [])) _
    refine st2 _ ?_
    show Steps p.tables e below (T2.setTop (mkF m 15 #[.val (.int (13 : Int32))] [(.ref w_BY_ID)])) _
    refine XS.iloadN X2.here hx rfl (hb hby d1_15) rfl ?_
    show Steps p.tables e below (T2.setTop (mkF m 16 #[.val (.int (13 : Int32))] [(.int (13 : Int32)), (.ref w_BY_ID)])) _
    refine X2.aaload hx (j := (13 : Int32)) (v := (.ref w_LEAVE_GROUP)) (by rw [e2]; exact Ar_w_BY_ID.1) (State.isArrayOf_alike hZ.alike Ar_w_BY_ID.2.1) rfl Ar_w_BY_ID.2.2 At_w_BY_ID_13.1 At_w_BY_ID_13.2 (g := (mkF m 16 #[.val (.int (13 : Int32))] [(.int (13 : Int32)), (.ref w_BY_ID)])) rfl rfl (hb hby d1_16) _ ?_
    show Steps p.tables e below (T2.setTop (mkF m 17 #[.val (.int (13 : Int32))] [(.ref w_LEAVE_GROUP)])) _
    refine XS.goto X2.here hx rfl (pc0 := 17) (pc' := 21) rfl (hb hby d1_17) (by decide) (by decide) ?_
    show Steps p.tables e below (T2.setTop (mkF m 21 #[.val (.int (13 : Int32))] [(.ref w_LEAVE_GROUP)])) _
    jvm_step X2.here [X2.here.top, hx, (hb hby d1_21), X2.method', Bd.returns, Value.isRef, FieldType.isReference]
    first | (intro acts; rw [hr _ acts rfl rfl rfl]) | rw [hr _ _ rfl rfl rfl]
    exact Steps.refl _
  · exact ⟨rfl, N0, e2⟩
theorem d2_91 : decode method_2_code 91 = .ok (.getstatic 37, 3) := by decide +kernel
theorem d2_94 : decode method_2_code 94 = .ok (.areturn, 1) := by decide +kernel
def Q2_45 (Z : State) (w_PRODUCE : Addr) (w_METADATA : Addr) (w_LIST_OFFSETS : Addr) (w_JOIN_GROUP : Addr) (w_OFFSET_COMMIT : Addr) (w_FETCH : Addr) (w_FIND_COORDINATOR : Addr) (w_CREATE_TOPICS : Addr) (w_SYNC_GROUP : Addr) (w_OFFSET_FETCH : Addr) (w_HEARTBEAT : Addr) (w_LEAVE_GROUP : Addr) (w_API_VERSIONS : Addr) (w_BY_ID : Addr) (cl_w_BY_ID : Cell) (h0 : Heap) (n0 : Nat) (v : Option Value) (h : Heap) (L : List Loc) : Prop := v = some (.ref w_LEAVE_GROUP) ∧ Fr n0 L ∧ h = h0
set_option maxRecDepth 65536 in
set_option maxHeartbeats 40000000 in
theorem rm2_45 (l : Launch) (Z : State) (a0 : Array Value) (hw : ∀ d ∈ tables_1, d.before a0 Z = true) (ws : List Jvm.Cond) (w_PRODUCE : Addr) (w_METADATA : Addr) (w_LIST_OFFSETS : Addr) (w_JOIN_GROUP : Addr) (w_OFFSET_COMMIT : Addr) (w_FETCH : Addr) (w_FIND_COORDINATOR : Addr) (w_CREATE_TOPICS : Addr) (w_SYNC_GROUP : Addr) (w_OFFSET_FETCH : Addr) (w_HEARTBEAT : Addr) (w_LEAVE_GROUP : Addr) (w_API_VERSIONS : Addr) (w_BY_ID : Addr) (cl_w_BY_ID : Cell) (h0 : Heap) (n0 : Nat) (Z0 : n0 ≤ h0.size) (HW : World Z h0 w_PRODUCE w_METADATA w_LIST_OFFSETS w_JOIN_GROUP w_OFFSET_COMMIT w_FETCH w_FIND_COORDINATOR w_CREATE_TOPICS w_SYNC_GROUP w_OFFSET_FETCH w_HEARTBEAT w_LEAVE_GROUP w_API_VERSIONS w_BY_ID cl_w_BY_ID) :
    MetFree l (⟨"com/example/melog/melog/protocol/ApiKeyForIdPinLaw", "expected", "(I)Lcom/example/melog/melog/protocol/ApiKey;"⟩ : MethodName) (head1 (Jvm.Cond.code (⟨"com/example/melog/melog/protocol/ApiKeyForIdPinLaw", "expected", "(I)Lcom/example/melog/melog/protocol/ApiKey;"⟩ : MethodName) method_2_code 1 (some (.object "com/example/melog/melog/protocol/ApiKey")) :: ws) ({ frames := 0, cells := 0, slots := 0, locals := 0 } : Room)) (fun a U => a = #[(.int (13 : Int32))] ∧ Z.Warmed39 U.vm ∧ U.heap = h0) (fun _ _ _ _ _ => True) (fun _ U o U' => ∃ v L, o = .returned v ∧ Q2_45 Z w_PRODUCE w_METADATA w_LIST_OFFSETS w_JOIN_GROUP w_OFFSET_COMMIT w_FETCH w_FIND_COORDINATOR w_CREATE_TOPICS w_SYNC_GROUP w_OFFSET_FETCH w_HEARTBEAT w_LEAVE_GROUP w_API_VERSIONS w_BY_ID cl_w_BY_ID h0 n0 v U'.heap L ∧ FrameEnd U o U' L ({ frames := 0, cells := 0, slots := 0, locals := 0 } : Room).cells ({ frames := 0, cells := 0, slots := 0, locals := 0 } : Room).slots) := by
  refine MetFree.of_bodySF (plainFor_of_name pn50) hisR ?_
  intro p e s m args below meth c s₁ Bd hml0 hP hK
  obtain ⟨rfl, hZ, hh⟩ := hP
  have hx := Bd.exec
  have hby := Bd.bytes
  have hml : c.maxLocals = 1 := hml0
  have hown : s.vm.findClass "com/example/melog/melog/protocol/ApiKeyForIdPinLaw" = some m.cls := findClass_of_methodNamed Bd.named
  have X0 : Stand p l e ({ frames := 0, cells := 0, slots := 0, locals := 0 } : Room) s m #[(.int (13 : Int32))] below meth c s₁ [] 0 0 := Stand.of_body Bd
  have e0 : s₁.heap = h0 := by rw [← hh, Bd.state]; rfl
  have N0 := Fr.nil n0
  have pre0 : ∀ t, Steps p.tables e below (s₁.setTop (mkF m 0 #[.val (.int (13 : Int32))] [])) t → Steps p.tables e below (s₁.setTop (entryFrame m #[(.int (13 : Int32))] 1)) t := fun t k => castTop (ef49 m (13 : Int32)) k
  obtain ⟨S_w_PRODUCE, E_w_PRODUCE, S_w_METADATA, E_w_METADATA, S_w_LIST_OFFSETS, E_w_LIST_OFFSETS, S_w_JOIN_GROUP, E_w_JOIN_GROUP, S_w_OFFSET_COMMIT, E_w_OFFSET_COMMIT, S_w_FETCH, E_w_FETCH, S_w_FIND_COORDINATOR, E_w_FIND_COORDINATOR, S_w_CREATE_TOPICS, E_w_CREATE_TOPICS, S_w_SYNC_GROUP, E_w_SYNC_GROUP, S_w_OFFSET_FETCH, E_w_OFFSET_FETCH, S_w_HEARTBEAT, E_w_HEARTBEAT, S_w_LEAVE_GROUP, E_w_LEAVE_GROUP, S_w_API_VERSIONS, E_w_API_VERSIONS, S_w_BY_ID, Ar_w_BY_ID, Sz_w_BY_ID, At_w_BY_ID_0, At_w_BY_ID_3, At_w_BY_ID_7, At_w_BY_ID_2, At_w_BY_ID_11, At_w_BY_ID_8, At_w_BY_ID_1, At_w_BY_ID_10, At_w_BY_ID_16, At_w_BY_ID_19, At_w_BY_ID_15, At_w_BY_ID_14, At_w_BY_ID_6, At_w_BY_ID_9, At_w_BY_ID_12, At_w_BY_ID_17, At_w_BY_ID_13, At_w_BY_ID_5, At_w_BY_ID_18, At_w_BY_ID_4, -⟩ := id HW
  obtain ⟨T1, X1, e1, st1⟩ := getS2 X0 hx hZ hown (host := "") (Or.inl (hw _ (List.mem_of_getElem? (i := 33) rfl))) Via.refl e0 S_w_LEAVE_GROUP (g := (mkF m 91 #[.val (.int (13 : Int32))] [])) rfl (hb hby d2_91)
  obtain ⟨fs, hr, hrun, hended, hW, hsame⟩ := X1.leave (v := some (.ref w_LEAVE_GROUP)) (fun h => by rw [Bd.returns] at h; cases h)
  refine ⟨_, _, pre0 _ ?_, hrun, hended, _, _, rfl, ?_, ⟨_, rfl⟩, hW, hsame.mono (by decide) (by decide)⟩
  · show Steps p.tables e below (s₁.setTop (mkF m 0 #[.val (.int (13 : Int32))] [])) _
    refine XS.iloadN X0.here hx rfl (hb hby d2_0) rfl ?_
    show Steps p.tables e below (s₁.setTop (mkF m 1 #[.val (.int (13 : Int32))] [(.int (13 : Int32))])) _
    refine XS.ifYes X0.here hx rfl (pc0 := 1) (pc' := 8) rfl (hb hby d2_1) rfl ((if0 _ _).trans (feq (by decide : ¬ ((13 : Int32) = (0 : Int32)))).2) (by decide) (by decide) ?_
    show Steps p.tables e below (s₁.setTop (mkF m 8 #[.val (.int (13 : Int32))] [])) _
    refine XS.iloadN X0.here hx rfl (hb hby d2_8) rfl ?_
    show Steps p.tables e below (s₁.setTop (mkF m 9 #[.val (.int (13 : Int32))] [(.int (13 : Int32))])) _
    refine XS.iconst X0.here hx rfl (hb hby d2_9) ?_
    show Steps p.tables e below (s₁.setTop (mkF m 10 #[.val (.int (13 : Int32))] [(.int (1 : Int32)), (.int (13 : Int32))])) _
    refine XS.icmpYes X0.here hx rfl (pc0 := 10) (pc' := 17) rfl (hb hby d2_10) rfl (feq (by decide : ¬ ((13 : Int32) = (1 : Int32)))).2 (by decide) (by decide) ?_
    show Steps p.tables e below (s₁.setTop (mkF m 17 #[.val (.int (13 : Int32))] [])) _
    refine XS.iloadN X0.here hx rfl (hb hby d2_17) rfl ?_
    show Steps p.tables e below (s₁.setTop (mkF m 18 #[.val (.int (13 : Int32))] [(.int (13 : Int32))])) _
    refine XS.iconst X0.here hx rfl (hb hby d2_18) ?_
    show Steps p.tables e below (s₁.setTop (mkF m 19 #[.val (.int (13 : Int32))] [(.int (2 : Int32)), (.int (13 : Int32))])) _
    refine XS.icmpYes X0.here hx rfl (pc0 := 19) (pc' := 26) rfl (hb hby d2_19) rfl (feq (by decide : ¬ ((13 : Int32) = (2 : Int32)))).2 (by decide) (by decide) ?_
    show Steps p.tables e below (s₁.setTop (mkF m 26 #[.val (.int (13 : Int32))] [])) _
    refine XS.iloadN X0.here hx rfl (hb hby d2_26) rfl ?_
    show Steps p.tables e below (s₁.setTop (mkF m 27 #[.val (.int (13 : Int32))] [(.int (13 : Int32))])) _
    refine XS.iconst X0.here hx rfl (hb hby d2_27) ?_
    show Steps p.tables e below (s₁.setTop (mkF m 28 #[.val (.int (13 : Int32))] [(.int (3 : Int32)), (.int (13 : Int32))])) _
    refine XS.icmpYes X0.here hx rfl (pc0 := 28) (pc' := 35) rfl (hb hby d2_28) rfl (feq (by decide : ¬ ((13 : Int32) = (3 : Int32)))).2 (by decide) (by decide) ?_
    show Steps p.tables e below (s₁.setTop (mkF m 35 #[.val (.int (13 : Int32))] [])) _
    refine XS.iloadN X0.here hx rfl (hb hby d2_35) rfl ?_
    show Steps p.tables e below (s₁.setTop (mkF m 36 #[.val (.int (13 : Int32))] [(.int (13 : Int32))])) _
    refine XS.bipush X0.here hx rfl (hb hby d2_36) ?_
    show Steps p.tables e below (s₁.setTop (mkF m 38 #[.val (.int (13 : Int32))] [(.int (8 : Int32)), (.int (13 : Int32))])) _
    refine XS.icmpYes X0.here hx rfl (pc0 := 38) (pc' := 45) rfl (hb hby d2_38) rfl (feq (by decide : ¬ ((13 : Int32) = (8 : Int32)))).2 (by decide) (by decide) ?_
    show Steps p.tables e below (s₁.setTop (mkF m 45 #[.val (.int (13 : Int32))] [])) _
    refine XS.iloadN X0.here hx rfl (hb hby d2_45) rfl ?_
    show Steps p.tables e below (s₁.setTop (mkF m 46 #[.val (.int (13 : Int32))] [(.int (13 : Int32))])) _
    refine XS.bipush X0.here hx rfl (hb hby d2_46) ?_
    show Steps p.tables e below (s₁.setTop (mkF m 48 #[.val (.int (13 : Int32))] [(.int (9 : Int32)), (.int (13 : Int32))])) _
    refine XS.icmpYes X0.here hx rfl (pc0 := 48) (pc' := 55) rfl (hb hby d2_48) rfl (feq (by decide : ¬ ((13 : Int32) = (9 : Int32)))).2 (by decide) (by decide) ?_
    show Steps p.tables e below (s₁.setTop (mkF m 55 #[.val (.int (13 : Int32))] [])) _
    refine XS.iloadN X0.here hx rfl (hb hby d2_55) rfl ?_
    show Steps p.tables e below (s₁.setTop (mkF m 56 #[.val (.int (13 : Int32))] [(.int (13 : Int32))])) _
    refine XS.bipush X0.here hx rfl (hb hby d2_56) ?_
    show Steps p.tables e below (s₁.setTop (mkF m 58 #[.val (.int (13 : Int32))] [(.int (10 : Int32)), (.int (13 : Int32))])) _
    refine XS.icmpYes X0.here hx rfl (pc0 := 58) (pc' := 65) rfl (hb hby d2_58) rfl (feq (by decide : ¬ ((13 : Int32) = (10 : Int32)))).2 (by decide) (by decide) ?_
    show Steps p.tables e below (s₁.setTop (mkF m 65 #[.val (.int (13 : Int32))] [])) _
    refine XS.iloadN X0.here hx rfl (hb hby d2_65) rfl ?_
    show Steps p.tables e below (s₁.setTop (mkF m 66 #[.val (.int (13 : Int32))] [(.int (13 : Int32))])) _
    refine XS.bipush X0.here hx rfl (hb hby d2_66) ?_
    show Steps p.tables e below (s₁.setTop (mkF m 68 #[.val (.int (13 : Int32))] [(.int (11 : Int32)), (.int (13 : Int32))])) _
    refine XS.icmpYes X0.here hx rfl (pc0 := 68) (pc' := 75) rfl (hb hby d2_68) rfl (feq (by decide : ¬ ((13 : Int32) = (11 : Int32)))).2 (by decide) (by decide) ?_
    show Steps p.tables e below (s₁.setTop (mkF m 75 #[.val (.int (13 : Int32))] [])) _
    refine XS.iloadN X0.here hx rfl (hb hby d2_75) rfl ?_
    show Steps p.tables e below (s₁.setTop (mkF m 76 #[.val (.int (13 : Int32))] [(.int (13 : Int32))])) _
    refine XS.bipush X0.here hx rfl (hb hby d2_76) ?_
    show Steps p.tables e below (s₁.setTop (mkF m 78 #[.val (.int (13 : Int32))] [(.int (12 : Int32)), (.int (13 : Int32))])) _
    refine XS.icmpYes X0.here hx rfl (pc0 := 78) (pc' := 85) rfl (hb hby d2_78) rfl (feq (by decide : ¬ ((13 : Int32) = (12 : Int32)))).2 (by decide) (by decide) ?_
    show Steps p.tables e below (s₁.setTop (mkF m 85 #[.val (.int (13 : Int32))] [])) _
    refine XS.iloadN X0.here hx rfl (hb hby d2_85) rfl ?_
    show Steps p.tables e below (s₁.setTop (mkF m 86 #[.val (.int (13 : Int32))] [(.int (13 : Int32))])) _
    refine XS.bipush X0.here hx rfl (hb hby d2_86) ?_
    show Steps p.tables e below (s₁.setTop (mkF m 88 #[.val (.int (13 : Int32))] [(.int (13 : Int32)), (.int (13 : Int32))])) _
    refine XS.icmpNo X0.here hx rfl (hb hby d2_88) rfl (teq (by decide : (13 : Int32) = (13 : Int32))).2 ?_
    show Steps p.tables e below (s₁.setTop (mkF m 91 #[.val (.int (13 : Int32))] [])) _
    refine st1 _ ?_
    show Steps p.tables e below (T1.setTop (mkF m 94 #[.val (.int (13 : Int32))] [(.ref w_LEAVE_GROUP)])) _
    jvm_step X1.here [X1.here.top, hx, (hb hby d2_94), X1.method', Bd.returns, Value.isRef, FieldType.isReference]
    first | (intro acts; rw [hr _ acts rfl rfl rfl]) | rw [hr _ _ rfl rfl rfl]
    exact Steps.refl _
  · exact ⟨rfl, N0, e1⟩
set_option maxRecDepth 65536 in
set_option maxHeartbeats 40000000 in
theorem rm0_c13 (l : Launch) (Z : State) (a0 : Array Value) (hw : ∀ d ∈ tables_1, d.before a0 Z = true) (ws : List Jvm.Cond) (w_PRODUCE : Addr) (w_METADATA : Addr) (w_LIST_OFFSETS : Addr) (w_JOIN_GROUP : Addr) (w_OFFSET_COMMIT : Addr) (w_FETCH : Addr) (w_FIND_COORDINATOR : Addr) (w_CREATE_TOPICS : Addr) (w_SYNC_GROUP : Addr) (w_OFFSET_FETCH : Addr) (w_HEARTBEAT : Addr) (w_LEAVE_GROUP : Addr) (w_API_VERSIONS : Addr) (w_BY_ID : Addr) (cl_w_BY_ID : Cell) (p1 : Int32) (h0 : Heap) (n0 : Nat) (Z0 : n0 ≤ h0.size) (HW : World Z h0 w_PRODUCE w_METADATA w_LIST_OFFSETS w_JOIN_GROUP w_OFFSET_COMMIT w_FETCH w_FIND_COORDINATOR w_CREATE_TOPICS w_SYNC_GROUP w_OFFSET_FETCH w_HEARTBEAT w_LEAVE_GROUP w_API_VERSIONS w_BY_ID cl_w_BY_ID) (hk : (p1.toInt16.toInt32) = (13 : Int32)) :
    MetFree l x (head1 (Jvm.Cond.code x code maxLocals ret :: ws) room_1) (fun a U => a = #[(.int p1)] ∧ Z.Warmed39 U.vm ∧ U.heap = h0) (fun _ _ _ _ _ => True) (fun _ U o U' => ∃ v L, o = .returned v ∧ Q0 h0 n0 v U'.heap L ∧ FrameEnd U o U' L room_1.cells room_1.slots) := by
  refine MetFree.of_bodySF (plainFor_of_name pn50) hisR ?_
  intro p e s m args below meth c s₁ Bd hml0 hP hK
  obtain ⟨rfl, hZ, hh⟩ := hP
  have hx := Bd.exec
  have hby := Bd.bytes
  have hml : c.maxLocals = 3 := hml0
  have hown : s.vm.findClass "com/example/melog/melog/protocol/ApiKeyForIdPinLaw" = some m.cls := findClass_of_methodNamed Bd.named
  have X0 : Stand p l e room_1 s m #[(.int p1)] below meth c s₁ [] 0 0 := Stand.of_body Bd
  have e0 : s₁.heap = h0 := by rw [← hh, Bd.state]; rfl
  have N0 := Fr.nil n0
  have pre0 : ∀ t, Steps p.tables e below (s₁.setTop (mkF m 0 #[.val (.int p1), .unset, .unset] [])) t → Steps p.tables e below (s₁.setTop (entryFrame m #[(.int p1)] maxLocals)) t := fun t k => castTop (ef53 m p1) k
  obtain ⟨S_w_PRODUCE, E_w_PRODUCE, S_w_METADATA, E_w_METADATA, S_w_LIST_OFFSETS, E_w_LIST_OFFSETS, S_w_JOIN_GROUP, E_w_JOIN_GROUP, S_w_OFFSET_COMMIT, E_w_OFFSET_COMMIT, S_w_FETCH, E_w_FETCH, S_w_FIND_COORDINATOR, E_w_FIND_COORDINATOR, S_w_CREATE_TOPICS, E_w_CREATE_TOPICS, S_w_SYNC_GROUP, E_w_SYNC_GROUP, S_w_OFFSET_FETCH, E_w_OFFSET_FETCH, S_w_HEARTBEAT, E_w_HEARTBEAT, S_w_LEAVE_GROUP, E_w_LEAVE_GROUP, S_w_API_VERSIONS, E_w_API_VERSIONS, S_w_BY_ID, Ar_w_BY_ID, Sz_w_BY_ID, At_w_BY_ID_0, At_w_BY_ID_3, At_w_BY_ID_7, At_w_BY_ID_2, At_w_BY_ID_11, At_w_BY_ID_8, At_w_BY_ID_1, At_w_BY_ID_10, At_w_BY_ID_16, At_w_BY_ID_19, At_w_BY_ID_15, At_w_BY_ID_14, At_w_BY_ID_6, At_w_BY_ID_9, At_w_BY_ID_12, At_w_BY_ID_17, At_w_BY_ID_13, At_w_BY_ID_5, At_w_BY_ID_18, At_w_BY_ID_4, -⟩ := id HW
  obtain ⟨_, _, ⟨T1, L1, k1, n1⟩, -, X1, ⟨Lc1, hQ1, l1, y1, z1⟩, st1⟩ := Jvm.LawKit.callS X0 hx (y := (⟨"com/example/melog/melog/protocol/ApiKey", "forId", "(S)Lcom/example/melog/melog/protocol/ApiKey;"⟩ : MethodName)) hown (mvT hZ (hw _ (List.mem_of_getElem? (i := 0) rfl))) (mvT hZ (hw _ (List.mem_of_getElem? (i := 1) rfl))) (mvT hZ (hw _ (List.mem_of_getElem? (i := 2) rfl))) (mvT hZ (hw _ (List.mem_of_getElem? (i := 3) rfl))) (by decide) (backOf (W := 0) (rm1_44 l Z a0 hw [] w_PRODUCE w_METADATA w_LIST_OFFSETS w_JOIN_GROUP w_OFFSET_COMMIT w_FETCH w_FIND_COORDINATOR w_CREATE_TOPICS w_SYNC_GROUP w_OFFSET_FETCH w_HEARTBEAT w_LEAVE_GROUP w_API_VERSIONS w_BY_ID cl_w_BY_ID h0 n0 Z0 HW) hZ (hw _ (List.mem_of_getElem? (i := 3) rfl)) (hw _ (List.mem_of_getElem? (i := 2) rfl)) (by decide) (by decide)) (g := (mkF m 4 #[.val (.int p1), .val (.int (13 : Int32)), .unset] [(.int (13 : Int32))])) rfl (by rw [hml]; rfl) (argsL := [(.int (13 : Int32))]) (rest := []) (lenOf pd7 rfl) rfl (by show 2 * 0 + _ ≤ _; exact Nat.le_of_eq rfl) (hb hby at_4) (fun _ _ => ⟨rfl, e0, (by decide : 0 + 0 ≤ _), (by decide : 0 + 0 ≤ _)⟩)
  dsimp only [Pt.U, Pt.locs, Pt.cells, Pt.slots] at X1 l1 y1 z1 st1 hQ1
  subst l1 y1 z1
  obtain ⟨rfl, N1q, e1⟩ := hQ1
  have N1 := Fr.app N0 N1q
  obtain ⟨_, _, ⟨T2, L2, k2, n2⟩, -, X2, ⟨Lc2, hQ2, l2, y2, z2⟩, st2⟩ := Jvm.LawKit.callS X1 hx (y := (⟨"com/example/melog/melog/protocol/ApiKeyForIdPinLaw", "expected", "(I)Lcom/example/melog/melog/protocol/ApiKey;"⟩ : MethodName)) hown (mvT hZ (hw _ (List.mem_of_getElem? (i := 7) rfl))) (mvT hZ (hw _ (List.mem_of_getElem? (i := 8) rfl))) (mvT hZ (hw _ (List.mem_of_getElem? (i := 9) rfl))) (mvT hZ (hw _ (List.mem_of_getElem? (i := 10) rfl))) (by decide) (backOf (W := 1) (rm2_45 l Z a0 hw [] w_PRODUCE w_METADATA w_LIST_OFFSETS w_JOIN_GROUP w_OFFSET_COMMIT w_FETCH w_FIND_COORDINATOR w_CREATE_TOPICS w_SYNC_GROUP w_OFFSET_FETCH w_HEARTBEAT w_LEAVE_GROUP w_API_VERSIONS w_BY_ID cl_w_BY_ID h0 n0 Z0 HW) hZ (hw _ (List.mem_of_getElem? (i := 10) rfl)) (hw _ (List.mem_of_getElem? (i := 9) rfl)) (by decide) (by decide)) (g := (mkF m 10 #[.val (.int p1), .val (.int (13 : Int32)), .val (.ref w_LEAVE_GROUP)] [(.int (13 : Int32)), (.ref w_LEAVE_GROUP)])) rfl (by rw [hml]; rfl) (argsL := [(.int (13 : Int32))]) (rest := [(.ref w_LEAVE_GROUP)]) (lenOf pd51 rfl) rfl (by show 2 * 0 + _ ≤ _; exact Nat.le_of_eq rfl) (hb hby at_10) (fun _ _ => ⟨rfl, e1, (by decide : 0 + 0 ≤ _), (by decide : 0 + 0 ≤ _)⟩)
  dsimp only [Pt.U, Pt.locs, Pt.cells, Pt.slots] at X2 l2 y2 z2 st2 hQ2
  subst l2 y2 z2
  obtain ⟨rfl, N2q, e2⟩ := hQ2
  have N2 := Fr.app N1 N2q
  obtain ⟨fs, hr, hrun, hended, hW, hsame⟩ := X2.leave (v := some (.int (1 : Int32))) (fun h => by rw [Bd.returns] at h; cases h)
  refine ⟨_, _, pre0 _ ?_, hrun, hended, _, _, rfl, ?_, ⟨_, rfl⟩, hW, hsame.mono (by decide) (by decide)⟩
  · show Steps p.tables e below (s₁.setTop (mkF m 0 #[.val (.int p1), .unset, .unset] [])) _
    refine XS.iloadN X0.here hx rfl (hb hby at_0) rfl ?_
    show Steps p.tables e below (s₁.setTop (mkF m 1 #[.val (.int p1), .unset, .unset] [(.int p1)])) _
    refine XS.i2s X0.here hx rfl (hb hby at_1) rfl ?_
    rw [hk]
    show Steps p.tables e below (s₁.setTop (mkF m 2 #[.val (.int p1), .unset, .unset] [(.int (13 : Int32))])) _
    refine XS.istoreN X0.here hx rfl (hb hby at_2) rfl (l' := #[.val (.int p1), .val (.int (13 : Int32)), .unset]) rfl ?_
    show Steps p.tables e below (s₁.setTop (mkF m 3 #[.val (.int p1), .val (.int (13 : Int32)), .unset] [])) _
    refine XS.iloadN X0.here hx rfl (hb hby at_3) rfl ?_
    show Steps p.tables e below (s₁.setTop (mkF m 4 #[.val (.int p1), .val (.int (13 : Int32)), .unset] [(.int (13 : Int32))])) _
    refine st1 _ ?_
    show Steps p.tables e below (T1.setTop (mkF m 7 #[.val (.int p1), .val (.int (13 : Int32)), .unset] [(.ref w_LEAVE_GROUP)])) _
    refine XS.astoreN X1.here hx rfl (hb hby at_7) rfl rfl (l' := #[.val (.int p1), .val (.int (13 : Int32)), .val (.ref w_LEAVE_GROUP)]) rfl ?_
    show Steps p.tables e below (T1.setTop (mkF m 8 #[.val (.int p1), .val (.int (13 : Int32)), .val (.ref w_LEAVE_GROUP)] [])) _
    refine XS.aloadN X1.here hx rfl (hb hby at_8) rfl rfl ?_
    show Steps p.tables e below (T1.setTop (mkF m 9 #[.val (.int p1), .val (.int (13 : Int32)), .val (.ref w_LEAVE_GROUP)] [(.ref w_LEAVE_GROUP)])) _
    refine XS.iloadN X1.here hx rfl (hb hby at_9) rfl ?_
    show Steps p.tables e below (T1.setTop (mkF m 10 #[.val (.int p1), .val (.int (13 : Int32)), .val (.ref w_LEAVE_GROUP)] [(.int (13 : Int32)), (.ref w_LEAVE_GROUP)])) _
    refine st2 _ ?_
    show Steps p.tables e below (T2.setTop (mkF m 13 #[.val (.int p1), .val (.int (13 : Int32)), .val (.ref w_LEAVE_GROUP)] [(.ref w_LEAVE_GROUP), (.ref w_LEAVE_GROUP)])) _
    refine Jvm.RoadKit.acmp (g := (mkF m 13 #[.val (.int p1), .val (.int (13 : Int32)), .val (.ref w_LEAVE_GROUP)] [(.ref w_LEAVE_GROUP), (.ref w_LEAVE_GROUP)])) X2 hx rfl rfl rfl (pc0 := 13) (pc' := 16) (same := true) rfl (hb hby at_13) rfl (decide_eq_true rfl) (by decide) (by decide) ?_
    show Steps p.tables e below (T2.setTop (mkF m 16 #[.val (.int p1), .val (.int (13 : Int32)), .val (.ref w_LEAVE_GROUP)] [])) _
    refine XS.iconst X2.here hx rfl (hb hby at_16) ?_
    show Steps p.tables e below (T2.setTop (mkF m 17 #[.val (.int p1), .val (.int (13 : Int32)), .val (.ref w_LEAVE_GROUP)] [(.int (1 : Int32))])) _
    refine XS.goto X2.here hx rfl (pc0 := 17) (pc' := 21) rfl (hb hby at_17) (by decide) (by decide) ?_
    show Steps p.tables e below (T2.setTop (mkF m 21 #[.val (.int p1), .val (.int (13 : Int32)), .val (.ref w_LEAVE_GROUP)] [(.int (1 : Int32))])) _
    exact retN X2 hx (t := .boolean) Bd.returns (by simp) (hb hby at_21) hr
  · exact ⟨rfl, N2⟩
def Q1_47 (Z : State) (w_PRODUCE : Addr) (w_METADATA : Addr) (w_LIST_OFFSETS : Addr) (w_JOIN_GROUP : Addr) (w_OFFSET_COMMIT : Addr) (w_FETCH : Addr) (w_FIND_COORDINATOR : Addr) (w_CREATE_TOPICS : Addr) (w_SYNC_GROUP : Addr) (w_OFFSET_FETCH : Addr) (w_HEARTBEAT : Addr) (w_LEAVE_GROUP : Addr) (w_API_VERSIONS : Addr) (w_BY_ID : Addr) (cl_w_BY_ID : Cell) (h0 : Heap) (n0 : Nat) (v : Option Value) (h : Heap) (L : List Loc) : Prop := v = some (.ref w_SYNC_GROUP) ∧ Fr n0 L ∧ h = h0
set_option maxRecDepth 65536 in
set_option maxHeartbeats 40000000 in
theorem rm1_47 (l : Launch) (Z : State) (a0 : Array Value) (hw : ∀ d ∈ tables_1, d.before a0 Z = true) (ws : List Jvm.Cond) (w_PRODUCE : Addr) (w_METADATA : Addr) (w_LIST_OFFSETS : Addr) (w_JOIN_GROUP : Addr) (w_OFFSET_COMMIT : Addr) (w_FETCH : Addr) (w_FIND_COORDINATOR : Addr) (w_CREATE_TOPICS : Addr) (w_SYNC_GROUP : Addr) (w_OFFSET_FETCH : Addr) (w_HEARTBEAT : Addr) (w_LEAVE_GROUP : Addr) (w_API_VERSIONS : Addr) (w_BY_ID : Addr) (cl_w_BY_ID : Cell) (h0 : Heap) (n0 : Nat) (Z0 : n0 ≤ h0.size) (HW : World Z h0 w_PRODUCE w_METADATA w_LIST_OFFSETS w_JOIN_GROUP w_OFFSET_COMMIT w_FETCH w_FIND_COORDINATOR w_CREATE_TOPICS w_SYNC_GROUP w_OFFSET_FETCH w_HEARTBEAT w_LEAVE_GROUP w_API_VERSIONS w_BY_ID cl_w_BY_ID) :
    MetFree l (⟨"com/example/melog/melog/protocol/ApiKey", "forId", "(S)Lcom/example/melog/melog/protocol/ApiKey;"⟩ : MethodName) (head1 (Jvm.Cond.code (⟨"com/example/melog/melog/protocol/ApiKey", "forId", "(S)Lcom/example/melog/melog/protocol/ApiKey;"⟩ : MethodName) prog_9_method_4_code 1 (some (.object "com/example/melog/melog/protocol/ApiKey")) :: ws) ({ frames := 0, cells := 0, slots := 0, locals := 0 } : Room)) (fun a U => a = #[(.int (14 : Int32))] ∧ Z.Warmed39 U.vm ∧ U.heap = h0) (fun _ _ _ _ _ => True) (fun _ U o U' => ∃ v L, o = .returned v ∧ Q1_47 Z w_PRODUCE w_METADATA w_LIST_OFFSETS w_JOIN_GROUP w_OFFSET_COMMIT w_FETCH w_FIND_COORDINATOR w_CREATE_TOPICS w_SYNC_GROUP w_OFFSET_FETCH w_HEARTBEAT w_LEAVE_GROUP w_API_VERSIONS w_BY_ID cl_w_BY_ID h0 n0 v U'.heap L ∧ FrameEnd U o U' L ({ frames := 0, cells := 0, slots := 0, locals := 0 } : Room).cells ({ frames := 0, cells := 0, slots := 0, locals := 0 } : Room).slots) := by
  refine MetFree.of_bodySF (plainFor_of_name pn6) hisR ?_
  intro p e s m args below meth c s₁ Bd hml0 hP hK
  obtain ⟨rfl, hZ, hh⟩ := hP
  have hx := Bd.exec
  have hby := Bd.bytes
  have hml : c.maxLocals = 1 := hml0
  have hown : s.vm.findClass "com/example/melog/melog/protocol/ApiKey" = some m.cls := findClass_of_methodNamed Bd.named
  have X0 : Stand p l e ({ frames := 0, cells := 0, slots := 0, locals := 0 } : Room) s m #[(.int (14 : Int32))] below meth c s₁ [] 0 0 := Stand.of_body Bd
  have e0 : s₁.heap = h0 := by rw [← hh, Bd.state]; rfl
  have N0 := Fr.nil n0
  have pre0 : ∀ t, Steps p.tables e below (s₁.setTop (mkF m 0 #[.val (.int (14 : Int32))] [])) t → Steps p.tables e below (s₁.setTop (entryFrame m #[(.int (14 : Int32))] 1)) t := fun t k => castTop (ef5 m (14 : Int32)) k
  obtain ⟨S_w_PRODUCE, E_w_PRODUCE, S_w_METADATA, E_w_METADATA, S_w_LIST_OFFSETS, E_w_LIST_OFFSETS, S_w_JOIN_GROUP, E_w_JOIN_GROUP, S_w_OFFSET_COMMIT, E_w_OFFSET_COMMIT, S_w_FETCH, E_w_FETCH, S_w_FIND_COORDINATOR, E_w_FIND_COORDINATOR, S_w_CREATE_TOPICS, E_w_CREATE_TOPICS, S_w_SYNC_GROUP, E_w_SYNC_GROUP, S_w_OFFSET_FETCH, E_w_OFFSET_FETCH, S_w_HEARTBEAT, E_w_HEARTBEAT, S_w_LEAVE_GROUP, E_w_LEAVE_GROUP, S_w_API_VERSIONS, E_w_API_VERSIONS, S_w_BY_ID, Ar_w_BY_ID, Sz_w_BY_ID, At_w_BY_ID_0, At_w_BY_ID_3, At_w_BY_ID_7, At_w_BY_ID_2, At_w_BY_ID_11, At_w_BY_ID_8, At_w_BY_ID_1, At_w_BY_ID_10, At_w_BY_ID_16, At_w_BY_ID_19, At_w_BY_ID_15, At_w_BY_ID_14, At_w_BY_ID_6, At_w_BY_ID_9, At_w_BY_ID_12, At_w_BY_ID_17, At_w_BY_ID_13, At_w_BY_ID_5, At_w_BY_ID_18, At_w_BY_ID_4, -⟩ := id HW
  obtain ⟨T1, X1, e1, st1⟩ := getS2 X0 hx hZ hown (host := "") (Or.inl (hw _ (List.mem_of_getElem? (i := 4) rfl))) Via.refl e0 S_w_BY_ID (g := (mkF m 5 #[.val (.int (14 : Int32))] [(.int (14 : Int32))])) rfl (hb hby d1_5)
  obtain ⟨T2, X2, e2, st2⟩ := getS2 X1 hx hZ hown (host := "") (Or.inl (hw _ (List.mem_of_getElem? (i := 4) rfl))) Via.refl e1 S_w_BY_ID (g := (mkF m 12 #[.val (.int (14 : Int32))] [])) rfl (hb hby d1_12)
  obtain ⟨fs, hr, hrun, hended, hW, hsame⟩ := X2.leave (v := some (.ref w_SYNC_GROUP)) (fun h => by rw [Bd.returns] at h; cases h)
  refine ⟨_, _, pre0 _ ?_, hrun, hended, _, _, rfl, ?_, ⟨_, rfl⟩, hW, hsame.mono (by decide) (by decide)⟩
  · show Steps p.tables e below (s₁.setTop (mkF m 0 #[.val (.int (14 : Int32))] [])) _
    refine XS.iloadN X0.here hx rfl (hb hby d1_0) rfl ?_
    show Steps p.tables e below (s₁.setTop (mkF m 1 #[.val (.int (14 : Int32))] [(.int (14 : Int32))])) _
    refine XS.ifNo X0.here hx rfl (hb hby d1_1) rfl ((if0 _ _).trans (flt (by decide : ¬ ((14 : Int32) < (0 : Int32)))).1) ?_
    show Steps p.tables e below (s₁.setTop (mkF m 4 #[.val (.int (14 : Int32))] [])) _
    refine XS.iloadN X0.here hx rfl (hb hby d1_4) rfl ?_
    show Steps p.tables e below (s₁.setTop (mkF m 5 #[.val (.int (14 : Int32))] [(.int (14 : Int32))])) _
    refine st1 _ ?_
    show Steps p.tables e below (T1.setTop (mkF m 8 #[.val (.int (14 : Int32))] [(.ref w_BY_ID), (.int (14 : Int32))])) _
    refine X1.arraylength hx (by rw [e1]; exact Ar_w_BY_ID.1) (State.isArrayOf_alike hZ.alike Ar_w_BY_ID.2.1) (g := (mkF m 8 #[.val (.int (14 : Int32))] [(.ref w_BY_ID), (.int (14 : Int32))])) rfl rfl (hb hby d1_8) _ ?_
    rw [Sz_w_BY_ID]
    show Steps p.tables e below (T1.setTop (mkF m 9 #[.val (.int (14 : Int32))] [(.int (20 : Int32)), (.int (14 : Int32))])) _
    refine XS.icmpNo X1.here hx rfl (hb hby d1_9) rfl (tlt (by decide : (14 : Int32) < (20 : Int32))).2.1 ?_
    show Steps p.tables e below (T1.setTop (mkF m 12 #[.val (.int (14 : Int32))] [])) _
    refine st2 _ ?_
    show Steps p.tables e below (T2.setTop (mkF m 15 #[.val (.int (14 : Int32))] [(.ref w_BY_ID)])) _
    refine XS.iloadN X2.here hx rfl (hb hby d1_15) rfl ?_
    show Steps p.tables e below (T2.setTop (mkF m 16 #[.val (.int (14 : Int32))] [(.int (14 : Int32)), (.ref w_BY_ID)])) _
    refine X2.aaload hx (j := (14 : Int32)) (v := (.ref w_SYNC_GROUP)) (by rw [e2]; exact Ar_w_BY_ID.1) (State.isArrayOf_alike hZ.alike Ar_w_BY_ID.2.1) rfl Ar_w_BY_ID.2.2 At_w_BY_ID_14.1 At_w_BY_ID_14.2 (g := (mkF m 16 #[.val (.int (14 : Int32))] [(.int (14 : Int32)), (.ref w_BY_ID)])) rfl rfl (hb hby d1_16) _ ?_
    show Steps p.tables e below (T2.setTop (mkF m 17 #[.val (.int (14 : Int32))] [(.ref w_SYNC_GROUP)])) _
    refine XS.goto X2.here hx rfl (pc0 := 17) (pc' := 21) rfl (hb hby d1_17) (by decide) (by decide) ?_
    show Steps p.tables e below (T2.setTop (mkF m 21 #[.val (.int (14 : Int32))] [(.ref w_SYNC_GROUP)])) _
    jvm_step X2.here [X2.here.top, hx, (hb hby d1_21), X2.method', Bd.returns, Value.isRef, FieldType.isReference]
    first | (intro acts; rw [hr _ acts rfl rfl rfl]) | rw [hr _ _ rfl rfl rfl]
    exact Steps.refl _
  · exact ⟨rfl, N0, e2⟩
theorem d2_101 : decode method_2_code 101 = .ok (.getstatic 40, 3) := by decide +kernel
theorem d2_104 : decode method_2_code 104 = .ok (.areturn, 1) := by decide +kernel
def Q2_48 (Z : State) (w_PRODUCE : Addr) (w_METADATA : Addr) (w_LIST_OFFSETS : Addr) (w_JOIN_GROUP : Addr) (w_OFFSET_COMMIT : Addr) (w_FETCH : Addr) (w_FIND_COORDINATOR : Addr) (w_CREATE_TOPICS : Addr) (w_SYNC_GROUP : Addr) (w_OFFSET_FETCH : Addr) (w_HEARTBEAT : Addr) (w_LEAVE_GROUP : Addr) (w_API_VERSIONS : Addr) (w_BY_ID : Addr) (cl_w_BY_ID : Cell) (h0 : Heap) (n0 : Nat) (v : Option Value) (h : Heap) (L : List Loc) : Prop := v = some (.ref w_SYNC_GROUP) ∧ Fr n0 L ∧ h = h0
set_option maxRecDepth 65536 in
set_option maxHeartbeats 40000000 in
theorem rm2_48 (l : Launch) (Z : State) (a0 : Array Value) (hw : ∀ d ∈ tables_1, d.before a0 Z = true) (ws : List Jvm.Cond) (w_PRODUCE : Addr) (w_METADATA : Addr) (w_LIST_OFFSETS : Addr) (w_JOIN_GROUP : Addr) (w_OFFSET_COMMIT : Addr) (w_FETCH : Addr) (w_FIND_COORDINATOR : Addr) (w_CREATE_TOPICS : Addr) (w_SYNC_GROUP : Addr) (w_OFFSET_FETCH : Addr) (w_HEARTBEAT : Addr) (w_LEAVE_GROUP : Addr) (w_API_VERSIONS : Addr) (w_BY_ID : Addr) (cl_w_BY_ID : Cell) (h0 : Heap) (n0 : Nat) (Z0 : n0 ≤ h0.size) (HW : World Z h0 w_PRODUCE w_METADATA w_LIST_OFFSETS w_JOIN_GROUP w_OFFSET_COMMIT w_FETCH w_FIND_COORDINATOR w_CREATE_TOPICS w_SYNC_GROUP w_OFFSET_FETCH w_HEARTBEAT w_LEAVE_GROUP w_API_VERSIONS w_BY_ID cl_w_BY_ID) :
    MetFree l (⟨"com/example/melog/melog/protocol/ApiKeyForIdPinLaw", "expected", "(I)Lcom/example/melog/melog/protocol/ApiKey;"⟩ : MethodName) (head1 (Jvm.Cond.code (⟨"com/example/melog/melog/protocol/ApiKeyForIdPinLaw", "expected", "(I)Lcom/example/melog/melog/protocol/ApiKey;"⟩ : MethodName) method_2_code 1 (some (.object "com/example/melog/melog/protocol/ApiKey")) :: ws) ({ frames := 0, cells := 0, slots := 0, locals := 0 } : Room)) (fun a U => a = #[(.int (14 : Int32))] ∧ Z.Warmed39 U.vm ∧ U.heap = h0) (fun _ _ _ _ _ => True) (fun _ U o U' => ∃ v L, o = .returned v ∧ Q2_48 Z w_PRODUCE w_METADATA w_LIST_OFFSETS w_JOIN_GROUP w_OFFSET_COMMIT w_FETCH w_FIND_COORDINATOR w_CREATE_TOPICS w_SYNC_GROUP w_OFFSET_FETCH w_HEARTBEAT w_LEAVE_GROUP w_API_VERSIONS w_BY_ID cl_w_BY_ID h0 n0 v U'.heap L ∧ FrameEnd U o U' L ({ frames := 0, cells := 0, slots := 0, locals := 0 } : Room).cells ({ frames := 0, cells := 0, slots := 0, locals := 0 } : Room).slots) := by
  refine MetFree.of_bodySF (plainFor_of_name pn50) hisR ?_
  intro p e s m args below meth c s₁ Bd hml0 hP hK
  obtain ⟨rfl, hZ, hh⟩ := hP
  have hx := Bd.exec
  have hby := Bd.bytes
  have hml : c.maxLocals = 1 := hml0
  have hown : s.vm.findClass "com/example/melog/melog/protocol/ApiKeyForIdPinLaw" = some m.cls := findClass_of_methodNamed Bd.named
  have X0 : Stand p l e ({ frames := 0, cells := 0, slots := 0, locals := 0 } : Room) s m #[(.int (14 : Int32))] below meth c s₁ [] 0 0 := Stand.of_body Bd
  have e0 : s₁.heap = h0 := by rw [← hh, Bd.state]; rfl
  have N0 := Fr.nil n0
  have pre0 : ∀ t, Steps p.tables e below (s₁.setTop (mkF m 0 #[.val (.int (14 : Int32))] [])) t → Steps p.tables e below (s₁.setTop (entryFrame m #[(.int (14 : Int32))] 1)) t := fun t k => castTop (ef49 m (14 : Int32)) k
  obtain ⟨S_w_PRODUCE, E_w_PRODUCE, S_w_METADATA, E_w_METADATA, S_w_LIST_OFFSETS, E_w_LIST_OFFSETS, S_w_JOIN_GROUP, E_w_JOIN_GROUP, S_w_OFFSET_COMMIT, E_w_OFFSET_COMMIT, S_w_FETCH, E_w_FETCH, S_w_FIND_COORDINATOR, E_w_FIND_COORDINATOR, S_w_CREATE_TOPICS, E_w_CREATE_TOPICS, S_w_SYNC_GROUP, E_w_SYNC_GROUP, S_w_OFFSET_FETCH, E_w_OFFSET_FETCH, S_w_HEARTBEAT, E_w_HEARTBEAT, S_w_LEAVE_GROUP, E_w_LEAVE_GROUP, S_w_API_VERSIONS, E_w_API_VERSIONS, S_w_BY_ID, Ar_w_BY_ID, Sz_w_BY_ID, At_w_BY_ID_0, At_w_BY_ID_3, At_w_BY_ID_7, At_w_BY_ID_2, At_w_BY_ID_11, At_w_BY_ID_8, At_w_BY_ID_1, At_w_BY_ID_10, At_w_BY_ID_16, At_w_BY_ID_19, At_w_BY_ID_15, At_w_BY_ID_14, At_w_BY_ID_6, At_w_BY_ID_9, At_w_BY_ID_12, At_w_BY_ID_17, At_w_BY_ID_13, At_w_BY_ID_5, At_w_BY_ID_18, At_w_BY_ID_4, -⟩ := id HW
  obtain ⟨T1, X1, e1, st1⟩ := getS2 X0 hx hZ hown (host := "") (Or.inl (hw _ (List.mem_of_getElem? (i := 27) rfl))) Via.refl e0 S_w_SYNC_GROUP (g := (mkF m 101 #[.val (.int (14 : Int32))] [])) rfl (hb hby d2_101)
  obtain ⟨fs, hr, hrun, hended, hW, hsame⟩ := X1.leave (v := some (.ref w_SYNC_GROUP)) (fun h => by rw [Bd.returns] at h; cases h)
  refine ⟨_, _, pre0 _ ?_, hrun, hended, _, _, rfl, ?_, ⟨_, rfl⟩, hW, hsame.mono (by decide) (by decide)⟩
  · show Steps p.tables e below (s₁.setTop (mkF m 0 #[.val (.int (14 : Int32))] [])) _
    refine XS.iloadN X0.here hx rfl (hb hby d2_0) rfl ?_
    show Steps p.tables e below (s₁.setTop (mkF m 1 #[.val (.int (14 : Int32))] [(.int (14 : Int32))])) _
    refine XS.ifYes X0.here hx rfl (pc0 := 1) (pc' := 8) rfl (hb hby d2_1) rfl ((if0 _ _).trans (feq (by decide : ¬ ((14 : Int32) = (0 : Int32)))).2) (by decide) (by decide) ?_
    show Steps p.tables e below (s₁.setTop (mkF m 8 #[.val (.int (14 : Int32))] [])) _
    refine XS.iloadN X0.here hx rfl (hb hby d2_8) rfl ?_
    show Steps p.tables e below (s₁.setTop (mkF m 9 #[.val (.int (14 : Int32))] [(.int (14 : Int32))])) _
    refine XS.iconst X0.here hx rfl (hb hby d2_9) ?_
    show Steps p.tables e below (s₁.setTop (mkF m 10 #[.val (.int (14 : Int32))] [(.int (1 : Int32)), (.int (14 : Int32))])) _
    refine XS.icmpYes X0.here hx rfl (pc0 := 10) (pc' := 17) rfl (hb hby d2_10) rfl (feq (by decide : ¬ ((14 : Int32) = (1 : Int32)))).2 (by decide) (by decide) ?_
    show Steps p.tables e below (s₁.setTop (mkF m 17 #[.val (.int (14 : Int32))] [])) _
    refine XS.iloadN X0.here hx rfl (hb hby d2_17) rfl ?_
    show Steps p.tables e below (s₁.setTop (mkF m 18 #[.val (.int (14 : Int32))] [(.int (14 : Int32))])) _
    refine XS.iconst X0.here hx rfl (hb hby d2_18) ?_
    show Steps p.tables e below (s₁.setTop (mkF m 19 #[.val (.int (14 : Int32))] [(.int (2 : Int32)), (.int (14 : Int32))])) _
    refine XS.icmpYes X0.here hx rfl (pc0 := 19) (pc' := 26) rfl (hb hby d2_19) rfl (feq (by decide : ¬ ((14 : Int32) = (2 : Int32)))).2 (by decide) (by decide) ?_
    show Steps p.tables e below (s₁.setTop (mkF m 26 #[.val (.int (14 : Int32))] [])) _
    refine XS.iloadN X0.here hx rfl (hb hby d2_26) rfl ?_
    show Steps p.tables e below (s₁.setTop (mkF m 27 #[.val (.int (14 : Int32))] [(.int (14 : Int32))])) _
    refine XS.iconst X0.here hx rfl (hb hby d2_27) ?_
    show Steps p.tables e below (s₁.setTop (mkF m 28 #[.val (.int (14 : Int32))] [(.int (3 : Int32)), (.int (14 : Int32))])) _
    refine XS.icmpYes X0.here hx rfl (pc0 := 28) (pc' := 35) rfl (hb hby d2_28) rfl (feq (by decide : ¬ ((14 : Int32) = (3 : Int32)))).2 (by decide) (by decide) ?_
    show Steps p.tables e below (s₁.setTop (mkF m 35 #[.val (.int (14 : Int32))] [])) _
    refine XS.iloadN X0.here hx rfl (hb hby d2_35) rfl ?_
    show Steps p.tables e below (s₁.setTop (mkF m 36 #[.val (.int (14 : Int32))] [(.int (14 : Int32))])) _
    refine XS.bipush X0.here hx rfl (hb hby d2_36) ?_
    show Steps p.tables e below (s₁.setTop (mkF m 38 #[.val (.int (14 : Int32))] [(.int (8 : Int32)), (.int (14 : Int32))])) _
    refine XS.icmpYes X0.here hx rfl (pc0 := 38) (pc' := 45) rfl (hb hby d2_38) rfl (feq (by decide : ¬ ((14 : Int32) = (8 : Int32)))).2 (by decide) (by decide) ?_
    show Steps p.tables e below (s₁.setTop (mkF m 45 #[.val (.int (14 : Int32))] [])) _
    refine XS.iloadN X0.here hx rfl (hb hby d2_45) rfl ?_
    show Steps p.tables e below (s₁.setTop (mkF m 46 #[.val (.int (14 : Int32))] [(.int (14 : Int32))])) _
    refine XS.bipush X0.here hx rfl (hb hby d2_46) ?_
    show Steps p.tables e below (s₁.setTop (mkF m 48 #[.val (.int (14 : Int32))] [(.int (9 : Int32)), (.int (14 : Int32))])) _
    refine XS.icmpYes X0.here hx rfl (pc0 := 48) (pc' := 55) rfl (hb hby d2_48) rfl (feq (by decide : ¬ ((14 : Int32) = (9 : Int32)))).2 (by decide) (by decide) ?_
    show Steps p.tables e below (s₁.setTop (mkF m 55 #[.val (.int (14 : Int32))] [])) _
    refine XS.iloadN X0.here hx rfl (hb hby d2_55) rfl ?_
    show Steps p.tables e below (s₁.setTop (mkF m 56 #[.val (.int (14 : Int32))] [(.int (14 : Int32))])) _
    refine XS.bipush X0.here hx rfl (hb hby d2_56) ?_
    show Steps p.tables e below (s₁.setTop (mkF m 58 #[.val (.int (14 : Int32))] [(.int (10 : Int32)), (.int (14 : Int32))])) _
    refine XS.icmpYes X0.here hx rfl (pc0 := 58) (pc' := 65) rfl (hb hby d2_58) rfl (feq (by decide : ¬ ((14 : Int32) = (10 : Int32)))).2 (by decide) (by decide) ?_
    show Steps p.tables e below (s₁.setTop (mkF m 65 #[.val (.int (14 : Int32))] [])) _
    refine XS.iloadN X0.here hx rfl (hb hby d2_65) rfl ?_
    show Steps p.tables e below (s₁.setTop (mkF m 66 #[.val (.int (14 : Int32))] [(.int (14 : Int32))])) _
    refine XS.bipush X0.here hx rfl (hb hby d2_66) ?_
    show Steps p.tables e below (s₁.setTop (mkF m 68 #[.val (.int (14 : Int32))] [(.int (11 : Int32)), (.int (14 : Int32))])) _
    refine XS.icmpYes X0.here hx rfl (pc0 := 68) (pc' := 75) rfl (hb hby d2_68) rfl (feq (by decide : ¬ ((14 : Int32) = (11 : Int32)))).2 (by decide) (by decide) ?_
    show Steps p.tables e below (s₁.setTop (mkF m 75 #[.val (.int (14 : Int32))] [])) _
    refine XS.iloadN X0.here hx rfl (hb hby d2_75) rfl ?_
    show Steps p.tables e below (s₁.setTop (mkF m 76 #[.val (.int (14 : Int32))] [(.int (14 : Int32))])) _
    refine XS.bipush X0.here hx rfl (hb hby d2_76) ?_
    show Steps p.tables e below (s₁.setTop (mkF m 78 #[.val (.int (14 : Int32))] [(.int (12 : Int32)), (.int (14 : Int32))])) _
    refine XS.icmpYes X0.here hx rfl (pc0 := 78) (pc' := 85) rfl (hb hby d2_78) rfl (feq (by decide : ¬ ((14 : Int32) = (12 : Int32)))).2 (by decide) (by decide) ?_
    show Steps p.tables e below (s₁.setTop (mkF m 85 #[.val (.int (14 : Int32))] [])) _
    refine XS.iloadN X0.here hx rfl (hb hby d2_85) rfl ?_
    show Steps p.tables e below (s₁.setTop (mkF m 86 #[.val (.int (14 : Int32))] [(.int (14 : Int32))])) _
    refine XS.bipush X0.here hx rfl (hb hby d2_86) ?_
    show Steps p.tables e below (s₁.setTop (mkF m 88 #[.val (.int (14 : Int32))] [(.int (13 : Int32)), (.int (14 : Int32))])) _
    refine XS.icmpYes X0.here hx rfl (pc0 := 88) (pc' := 95) rfl (hb hby d2_88) rfl (feq (by decide : ¬ ((14 : Int32) = (13 : Int32)))).2 (by decide) (by decide) ?_
    show Steps p.tables e below (s₁.setTop (mkF m 95 #[.val (.int (14 : Int32))] [])) _
    refine XS.iloadN X0.here hx rfl (hb hby d2_95) rfl ?_
    show Steps p.tables e below (s₁.setTop (mkF m 96 #[.val (.int (14 : Int32))] [(.int (14 : Int32))])) _
    refine XS.bipush X0.here hx rfl (hb hby d2_96) ?_
    show Steps p.tables e below (s₁.setTop (mkF m 98 #[.val (.int (14 : Int32))] [(.int (14 : Int32)), (.int (14 : Int32))])) _
    refine XS.icmpNo X0.here hx rfl (hb hby d2_98) rfl (teq (by decide : (14 : Int32) = (14 : Int32))).2 ?_
    show Steps p.tables e below (s₁.setTop (mkF m 101 #[.val (.int (14 : Int32))] [])) _
    refine st1 _ ?_
    show Steps p.tables e below (T1.setTop (mkF m 104 #[.val (.int (14 : Int32))] [(.ref w_SYNC_GROUP)])) _
    jvm_step X1.here [X1.here.top, hx, (hb hby d2_104), X1.method', Bd.returns, Value.isRef, FieldType.isReference]
    first | (intro acts; rw [hr _ acts rfl rfl rfl]) | rw [hr _ _ rfl rfl rfl]
    exact Steps.refl _
  · exact ⟨rfl, N0, e1⟩
set_option maxRecDepth 65536 in
set_option maxHeartbeats 40000000 in
theorem rm0_c14 (l : Launch) (Z : State) (a0 : Array Value) (hw : ∀ d ∈ tables_1, d.before a0 Z = true) (ws : List Jvm.Cond) (w_PRODUCE : Addr) (w_METADATA : Addr) (w_LIST_OFFSETS : Addr) (w_JOIN_GROUP : Addr) (w_OFFSET_COMMIT : Addr) (w_FETCH : Addr) (w_FIND_COORDINATOR : Addr) (w_CREATE_TOPICS : Addr) (w_SYNC_GROUP : Addr) (w_OFFSET_FETCH : Addr) (w_HEARTBEAT : Addr) (w_LEAVE_GROUP : Addr) (w_API_VERSIONS : Addr) (w_BY_ID : Addr) (cl_w_BY_ID : Cell) (p1 : Int32) (h0 : Heap) (n0 : Nat) (Z0 : n0 ≤ h0.size) (HW : World Z h0 w_PRODUCE w_METADATA w_LIST_OFFSETS w_JOIN_GROUP w_OFFSET_COMMIT w_FETCH w_FIND_COORDINATOR w_CREATE_TOPICS w_SYNC_GROUP w_OFFSET_FETCH w_HEARTBEAT w_LEAVE_GROUP w_API_VERSIONS w_BY_ID cl_w_BY_ID) (hk : (p1.toInt16.toInt32) = (14 : Int32)) :
    MetFree l x (head1 (Jvm.Cond.code x code maxLocals ret :: ws) room_1) (fun a U => a = #[(.int p1)] ∧ Z.Warmed39 U.vm ∧ U.heap = h0) (fun _ _ _ _ _ => True) (fun _ U o U' => ∃ v L, o = .returned v ∧ Q0 h0 n0 v U'.heap L ∧ FrameEnd U o U' L room_1.cells room_1.slots) := by
  refine MetFree.of_bodySF (plainFor_of_name pn50) hisR ?_
  intro p e s m args below meth c s₁ Bd hml0 hP hK
  obtain ⟨rfl, hZ, hh⟩ := hP
  have hx := Bd.exec
  have hby := Bd.bytes
  have hml : c.maxLocals = 3 := hml0
  have hown : s.vm.findClass "com/example/melog/melog/protocol/ApiKeyForIdPinLaw" = some m.cls := findClass_of_methodNamed Bd.named
  have X0 : Stand p l e room_1 s m #[(.int p1)] below meth c s₁ [] 0 0 := Stand.of_body Bd
  have e0 : s₁.heap = h0 := by rw [← hh, Bd.state]; rfl
  have N0 := Fr.nil n0
  have pre0 : ∀ t, Steps p.tables e below (s₁.setTop (mkF m 0 #[.val (.int p1), .unset, .unset] [])) t → Steps p.tables e below (s₁.setTop (entryFrame m #[(.int p1)] maxLocals)) t := fun t k => castTop (ef53 m p1) k
  obtain ⟨S_w_PRODUCE, E_w_PRODUCE, S_w_METADATA, E_w_METADATA, S_w_LIST_OFFSETS, E_w_LIST_OFFSETS, S_w_JOIN_GROUP, E_w_JOIN_GROUP, S_w_OFFSET_COMMIT, E_w_OFFSET_COMMIT, S_w_FETCH, E_w_FETCH, S_w_FIND_COORDINATOR, E_w_FIND_COORDINATOR, S_w_CREATE_TOPICS, E_w_CREATE_TOPICS, S_w_SYNC_GROUP, E_w_SYNC_GROUP, S_w_OFFSET_FETCH, E_w_OFFSET_FETCH, S_w_HEARTBEAT, E_w_HEARTBEAT, S_w_LEAVE_GROUP, E_w_LEAVE_GROUP, S_w_API_VERSIONS, E_w_API_VERSIONS, S_w_BY_ID, Ar_w_BY_ID, Sz_w_BY_ID, At_w_BY_ID_0, At_w_BY_ID_3, At_w_BY_ID_7, At_w_BY_ID_2, At_w_BY_ID_11, At_w_BY_ID_8, At_w_BY_ID_1, At_w_BY_ID_10, At_w_BY_ID_16, At_w_BY_ID_19, At_w_BY_ID_15, At_w_BY_ID_14, At_w_BY_ID_6, At_w_BY_ID_9, At_w_BY_ID_12, At_w_BY_ID_17, At_w_BY_ID_13, At_w_BY_ID_5, At_w_BY_ID_18, At_w_BY_ID_4, -⟩ := id HW
  obtain ⟨_, _, ⟨T1, L1, k1, n1⟩, -, X1, ⟨Lc1, hQ1, l1, y1, z1⟩, st1⟩ := Jvm.LawKit.callS X0 hx (y := (⟨"com/example/melog/melog/protocol/ApiKey", "forId", "(S)Lcom/example/melog/melog/protocol/ApiKey;"⟩ : MethodName)) hown (mvT hZ (hw _ (List.mem_of_getElem? (i := 0) rfl))) (mvT hZ (hw _ (List.mem_of_getElem? (i := 1) rfl))) (mvT hZ (hw _ (List.mem_of_getElem? (i := 2) rfl))) (mvT hZ (hw _ (List.mem_of_getElem? (i := 3) rfl))) (by decide) (backOf (W := 0) (rm1_47 l Z a0 hw [] w_PRODUCE w_METADATA w_LIST_OFFSETS w_JOIN_GROUP w_OFFSET_COMMIT w_FETCH w_FIND_COORDINATOR w_CREATE_TOPICS w_SYNC_GROUP w_OFFSET_FETCH w_HEARTBEAT w_LEAVE_GROUP w_API_VERSIONS w_BY_ID cl_w_BY_ID h0 n0 Z0 HW) hZ (hw _ (List.mem_of_getElem? (i := 3) rfl)) (hw _ (List.mem_of_getElem? (i := 2) rfl)) (by decide) (by decide)) (g := (mkF m 4 #[.val (.int p1), .val (.int (14 : Int32)), .unset] [(.int (14 : Int32))])) rfl (by rw [hml]; rfl) (argsL := [(.int (14 : Int32))]) (rest := []) (lenOf pd7 rfl) rfl (by show 2 * 0 + _ ≤ _; exact Nat.le_of_eq rfl) (hb hby at_4) (fun _ _ => ⟨rfl, e0, (by decide : 0 + 0 ≤ _), (by decide : 0 + 0 ≤ _)⟩)
  dsimp only [Pt.U, Pt.locs, Pt.cells, Pt.slots] at X1 l1 y1 z1 st1 hQ1
  subst l1 y1 z1
  obtain ⟨rfl, N1q, e1⟩ := hQ1
  have N1 := Fr.app N0 N1q
  obtain ⟨_, _, ⟨T2, L2, k2, n2⟩, -, X2, ⟨Lc2, hQ2, l2, y2, z2⟩, st2⟩ := Jvm.LawKit.callS X1 hx (y := (⟨"com/example/melog/melog/protocol/ApiKeyForIdPinLaw", "expected", "(I)Lcom/example/melog/melog/protocol/ApiKey;"⟩ : MethodName)) hown (mvT hZ (hw _ (List.mem_of_getElem? (i := 7) rfl))) (mvT hZ (hw _ (List.mem_of_getElem? (i := 8) rfl))) (mvT hZ (hw _ (List.mem_of_getElem? (i := 9) rfl))) (mvT hZ (hw _ (List.mem_of_getElem? (i := 10) rfl))) (by decide) (backOf (W := 1) (rm2_48 l Z a0 hw [] w_PRODUCE w_METADATA w_LIST_OFFSETS w_JOIN_GROUP w_OFFSET_COMMIT w_FETCH w_FIND_COORDINATOR w_CREATE_TOPICS w_SYNC_GROUP w_OFFSET_FETCH w_HEARTBEAT w_LEAVE_GROUP w_API_VERSIONS w_BY_ID cl_w_BY_ID h0 n0 Z0 HW) hZ (hw _ (List.mem_of_getElem? (i := 10) rfl)) (hw _ (List.mem_of_getElem? (i := 9) rfl)) (by decide) (by decide)) (g := (mkF m 10 #[.val (.int p1), .val (.int (14 : Int32)), .val (.ref w_SYNC_GROUP)] [(.int (14 : Int32)), (.ref w_SYNC_GROUP)])) rfl (by rw [hml]; rfl) (argsL := [(.int (14 : Int32))]) (rest := [(.ref w_SYNC_GROUP)]) (lenOf pd51 rfl) rfl (by show 2 * 0 + _ ≤ _; exact Nat.le_of_eq rfl) (hb hby at_10) (fun _ _ => ⟨rfl, e1, (by decide : 0 + 0 ≤ _), (by decide : 0 + 0 ≤ _)⟩)
  dsimp only [Pt.U, Pt.locs, Pt.cells, Pt.slots] at X2 l2 y2 z2 st2 hQ2
  subst l2 y2 z2
  obtain ⟨rfl, N2q, e2⟩ := hQ2
  have N2 := Fr.app N1 N2q
  obtain ⟨fs, hr, hrun, hended, hW, hsame⟩ := X2.leave (v := some (.int (1 : Int32))) (fun h => by rw [Bd.returns] at h; cases h)
  refine ⟨_, _, pre0 _ ?_, hrun, hended, _, _, rfl, ?_, ⟨_, rfl⟩, hW, hsame.mono (by decide) (by decide)⟩
  · show Steps p.tables e below (s₁.setTop (mkF m 0 #[.val (.int p1), .unset, .unset] [])) _
    refine XS.iloadN X0.here hx rfl (hb hby at_0) rfl ?_
    show Steps p.tables e below (s₁.setTop (mkF m 1 #[.val (.int p1), .unset, .unset] [(.int p1)])) _
    refine XS.i2s X0.here hx rfl (hb hby at_1) rfl ?_
    rw [hk]
    show Steps p.tables e below (s₁.setTop (mkF m 2 #[.val (.int p1), .unset, .unset] [(.int (14 : Int32))])) _
    refine XS.istoreN X0.here hx rfl (hb hby at_2) rfl (l' := #[.val (.int p1), .val (.int (14 : Int32)), .unset]) rfl ?_
    show Steps p.tables e below (s₁.setTop (mkF m 3 #[.val (.int p1), .val (.int (14 : Int32)), .unset] [])) _
    refine XS.iloadN X0.here hx rfl (hb hby at_3) rfl ?_
    show Steps p.tables e below (s₁.setTop (mkF m 4 #[.val (.int p1), .val (.int (14 : Int32)), .unset] [(.int (14 : Int32))])) _
    refine st1 _ ?_
    show Steps p.tables e below (T1.setTop (mkF m 7 #[.val (.int p1), .val (.int (14 : Int32)), .unset] [(.ref w_SYNC_GROUP)])) _
    refine XS.astoreN X1.here hx rfl (hb hby at_7) rfl rfl (l' := #[.val (.int p1), .val (.int (14 : Int32)), .val (.ref w_SYNC_GROUP)]) rfl ?_
    show Steps p.tables e below (T1.setTop (mkF m 8 #[.val (.int p1), .val (.int (14 : Int32)), .val (.ref w_SYNC_GROUP)] [])) _
    refine XS.aloadN X1.here hx rfl (hb hby at_8) rfl rfl ?_
    show Steps p.tables e below (T1.setTop (mkF m 9 #[.val (.int p1), .val (.int (14 : Int32)), .val (.ref w_SYNC_GROUP)] [(.ref w_SYNC_GROUP)])) _
    refine XS.iloadN X1.here hx rfl (hb hby at_9) rfl ?_
    show Steps p.tables e below (T1.setTop (mkF m 10 #[.val (.int p1), .val (.int (14 : Int32)), .val (.ref w_SYNC_GROUP)] [(.int (14 : Int32)), (.ref w_SYNC_GROUP)])) _
    refine st2 _ ?_
    show Steps p.tables e below (T2.setTop (mkF m 13 #[.val (.int p1), .val (.int (14 : Int32)), .val (.ref w_SYNC_GROUP)] [(.ref w_SYNC_GROUP), (.ref w_SYNC_GROUP)])) _
    refine Jvm.RoadKit.acmp (g := (mkF m 13 #[.val (.int p1), .val (.int (14 : Int32)), .val (.ref w_SYNC_GROUP)] [(.ref w_SYNC_GROUP), (.ref w_SYNC_GROUP)])) X2 hx rfl rfl rfl (pc0 := 13) (pc' := 16) (same := true) rfl (hb hby at_13) rfl (decide_eq_true rfl) (by decide) (by decide) ?_
    show Steps p.tables e below (T2.setTop (mkF m 16 #[.val (.int p1), .val (.int (14 : Int32)), .val (.ref w_SYNC_GROUP)] [])) _
    refine XS.iconst X2.here hx rfl (hb hby at_16) ?_
    show Steps p.tables e below (T2.setTop (mkF m 17 #[.val (.int p1), .val (.int (14 : Int32)), .val (.ref w_SYNC_GROUP)] [(.int (1 : Int32))])) _
    refine XS.goto X2.here hx rfl (pc0 := 17) (pc' := 21) rfl (hb hby at_17) (by decide) (by decide) ?_
    show Steps p.tables e below (T2.setTop (mkF m 21 #[.val (.int p1), .val (.int (14 : Int32)), .val (.ref w_SYNC_GROUP)] [(.int (1 : Int32))])) _
    exact retN X2 hx (t := .boolean) Bd.returns (by simp) (hb hby at_21) hr
  · exact ⟨rfl, N2⟩
def Q1_50 (Z : State) (w_PRODUCE : Addr) (w_METADATA : Addr) (w_LIST_OFFSETS : Addr) (w_JOIN_GROUP : Addr) (w_OFFSET_COMMIT : Addr) (w_FETCH : Addr) (w_FIND_COORDINATOR : Addr) (w_CREATE_TOPICS : Addr) (w_SYNC_GROUP : Addr) (w_OFFSET_FETCH : Addr) (w_HEARTBEAT : Addr) (w_LEAVE_GROUP : Addr) (w_API_VERSIONS : Addr) (w_BY_ID : Addr) (cl_w_BY_ID : Cell) (h0 : Heap) (n0 : Nat) (v : Option Value) (h : Heap) (L : List Loc) : Prop := v = some .null ∧ Fr n0 L ∧ h = h0
set_option maxRecDepth 65536 in
set_option maxHeartbeats 40000000 in
theorem rm1_50 (l : Launch) (Z : State) (a0 : Array Value) (hw : ∀ d ∈ tables_1, d.before a0 Z = true) (ws : List Jvm.Cond) (w_PRODUCE : Addr) (w_METADATA : Addr) (w_LIST_OFFSETS : Addr) (w_JOIN_GROUP : Addr) (w_OFFSET_COMMIT : Addr) (w_FETCH : Addr) (w_FIND_COORDINATOR : Addr) (w_CREATE_TOPICS : Addr) (w_SYNC_GROUP : Addr) (w_OFFSET_FETCH : Addr) (w_HEARTBEAT : Addr) (w_LEAVE_GROUP : Addr) (w_API_VERSIONS : Addr) (w_BY_ID : Addr) (cl_w_BY_ID : Cell) (h0 : Heap) (n0 : Nat) (Z0 : n0 ≤ h0.size) (HW : World Z h0 w_PRODUCE w_METADATA w_LIST_OFFSETS w_JOIN_GROUP w_OFFSET_COMMIT w_FETCH w_FIND_COORDINATOR w_CREATE_TOPICS w_SYNC_GROUP w_OFFSET_FETCH w_HEARTBEAT w_LEAVE_GROUP w_API_VERSIONS w_BY_ID cl_w_BY_ID) :
    MetFree l (⟨"com/example/melog/melog/protocol/ApiKey", "forId", "(S)Lcom/example/melog/melog/protocol/ApiKey;"⟩ : MethodName) (head1 (Jvm.Cond.code (⟨"com/example/melog/melog/protocol/ApiKey", "forId", "(S)Lcom/example/melog/melog/protocol/ApiKey;"⟩ : MethodName) prog_9_method_4_code 1 (some (.object "com/example/melog/melog/protocol/ApiKey")) :: ws) ({ frames := 0, cells := 0, slots := 0, locals := 0 } : Room)) (fun a U => a = #[(.int (15 : Int32))] ∧ Z.Warmed39 U.vm ∧ U.heap = h0) (fun _ _ _ _ _ => True) (fun _ U o U' => ∃ v L, o = .returned v ∧ Q1_50 Z w_PRODUCE w_METADATA w_LIST_OFFSETS w_JOIN_GROUP w_OFFSET_COMMIT w_FETCH w_FIND_COORDINATOR w_CREATE_TOPICS w_SYNC_GROUP w_OFFSET_FETCH w_HEARTBEAT w_LEAVE_GROUP w_API_VERSIONS w_BY_ID cl_w_BY_ID h0 n0 v U'.heap L ∧ FrameEnd U o U' L ({ frames := 0, cells := 0, slots := 0, locals := 0 } : Room).cells ({ frames := 0, cells := 0, slots := 0, locals := 0 } : Room).slots) := by
  refine MetFree.of_bodySF (plainFor_of_name pn6) hisR ?_
  intro p e s m args below meth c s₁ Bd hml0 hP hK
  obtain ⟨rfl, hZ, hh⟩ := hP
  have hx := Bd.exec
  have hby := Bd.bytes
  have hml : c.maxLocals = 1 := hml0
  have hown : s.vm.findClass "com/example/melog/melog/protocol/ApiKey" = some m.cls := findClass_of_methodNamed Bd.named
  have X0 : Stand p l e ({ frames := 0, cells := 0, slots := 0, locals := 0 } : Room) s m #[(.int (15 : Int32))] below meth c s₁ [] 0 0 := Stand.of_body Bd
  have e0 : s₁.heap = h0 := by rw [← hh, Bd.state]; rfl
  have N0 := Fr.nil n0
  have pre0 : ∀ t, Steps p.tables e below (s₁.setTop (mkF m 0 #[.val (.int (15 : Int32))] [])) t → Steps p.tables e below (s₁.setTop (entryFrame m #[(.int (15 : Int32))] 1)) t := fun t k => castTop (ef5 m (15 : Int32)) k
  obtain ⟨S_w_PRODUCE, E_w_PRODUCE, S_w_METADATA, E_w_METADATA, S_w_LIST_OFFSETS, E_w_LIST_OFFSETS, S_w_JOIN_GROUP, E_w_JOIN_GROUP, S_w_OFFSET_COMMIT, E_w_OFFSET_COMMIT, S_w_FETCH, E_w_FETCH, S_w_FIND_COORDINATOR, E_w_FIND_COORDINATOR, S_w_CREATE_TOPICS, E_w_CREATE_TOPICS, S_w_SYNC_GROUP, E_w_SYNC_GROUP, S_w_OFFSET_FETCH, E_w_OFFSET_FETCH, S_w_HEARTBEAT, E_w_HEARTBEAT, S_w_LEAVE_GROUP, E_w_LEAVE_GROUP, S_w_API_VERSIONS, E_w_API_VERSIONS, S_w_BY_ID, Ar_w_BY_ID, Sz_w_BY_ID, At_w_BY_ID_0, At_w_BY_ID_3, At_w_BY_ID_7, At_w_BY_ID_2, At_w_BY_ID_11, At_w_BY_ID_8, At_w_BY_ID_1, At_w_BY_ID_10, At_w_BY_ID_16, At_w_BY_ID_19, At_w_BY_ID_15, At_w_BY_ID_14, At_w_BY_ID_6, At_w_BY_ID_9, At_w_BY_ID_12, At_w_BY_ID_17, At_w_BY_ID_13, At_w_BY_ID_5, At_w_BY_ID_18, At_w_BY_ID_4, -⟩ := id HW
  obtain ⟨T1, X1, e1, st1⟩ := getS2 X0 hx hZ hown (host := "") (Or.inl (hw _ (List.mem_of_getElem? (i := 4) rfl))) Via.refl e0 S_w_BY_ID (g := (mkF m 5 #[.val (.int (15 : Int32))] [(.int (15 : Int32))])) rfl (hb hby d1_5)
  obtain ⟨T2, X2, e2, st2⟩ := getS2 X1 hx hZ hown (host := "") (Or.inl (hw _ (List.mem_of_getElem? (i := 4) rfl))) Via.refl e1 S_w_BY_ID (g := (mkF m 12 #[.val (.int (15 : Int32))] [])) rfl (hb hby d1_12)
  obtain ⟨fs, hr, hrun, hended, hW, hsame⟩ := X2.leave (v := some .null) (fun h => by rw [Bd.returns] at h; cases h)
  refine ⟨_, _, pre0 _ ?_, hrun, hended, _, _, rfl, ?_, ⟨_, rfl⟩, hW, hsame.mono (by decide) (by decide)⟩
  · show Steps p.tables e below (s₁.setTop (mkF m 0 #[.val (.int (15 : Int32))] [])) _
    refine XS.iloadN X0.here hx rfl (hb hby d1_0) rfl ?_
    show Steps p.tables e below (s₁.setTop (mkF m 1 #[.val (.int (15 : Int32))] [(.int (15 : Int32))])) _
    refine XS.ifNo X0.here hx rfl (hb hby d1_1) rfl ((if0 _ _).trans (flt (by decide : ¬ ((15 : Int32) < (0 : Int32)))).1) ?_
    show Steps p.tables e below (s₁.setTop (mkF m 4 #[.val (.int (15 : Int32))] [])) _
    refine XS.iloadN X0.here hx rfl (hb hby d1_4) rfl ?_
    show Steps p.tables e below (s₁.setTop (mkF m 5 #[.val (.int (15 : Int32))] [(.int (15 : Int32))])) _
    refine st1 _ ?_
    show Steps p.tables e below (T1.setTop (mkF m 8 #[.val (.int (15 : Int32))] [(.ref w_BY_ID), (.int (15 : Int32))])) _
    refine X1.arraylength hx (by rw [e1]; exact Ar_w_BY_ID.1) (State.isArrayOf_alike hZ.alike Ar_w_BY_ID.2.1) (g := (mkF m 8 #[.val (.int (15 : Int32))] [(.ref w_BY_ID), (.int (15 : Int32))])) rfl rfl (hb hby d1_8) _ ?_
    rw [Sz_w_BY_ID]
    show Steps p.tables e below (T1.setTop (mkF m 9 #[.val (.int (15 : Int32))] [(.int (20 : Int32)), (.int (15 : Int32))])) _
    refine XS.icmpNo X1.here hx rfl (hb hby d1_9) rfl (tlt (by decide : (15 : Int32) < (20 : Int32))).2.1 ?_
    show Steps p.tables e below (T1.setTop (mkF m 12 #[.val (.int (15 : Int32))] [])) _
    refine st2 _ ?_
    show Steps p.tables e below (T2.setTop (mkF m 15 #[.val (.int (15 : Int32))] [(.ref w_BY_ID)])) _
    refine XS.iloadN X2.here hx rfl (hb hby d1_15) rfl ?_
    show Steps p.tables e below (T2.setTop (mkF m 16 #[.val (.int (15 : Int32))] [(.int (15 : Int32)), (.ref w_BY_ID)])) _
    refine X2.aaload hx (j := (15 : Int32)) (v := .null) (by rw [e2]; exact Ar_w_BY_ID.1) (State.isArrayOf_alike hZ.alike Ar_w_BY_ID.2.1) rfl Ar_w_BY_ID.2.2 At_w_BY_ID_15.1 At_w_BY_ID_15.2 (g := (mkF m 16 #[.val (.int (15 : Int32))] [(.int (15 : Int32)), (.ref w_BY_ID)])) rfl rfl (hb hby d1_16) _ ?_
    show Steps p.tables e below (T2.setTop (mkF m 17 #[.val (.int (15 : Int32))] [.null])) _
    refine XS.goto X2.here hx rfl (pc0 := 17) (pc' := 21) rfl (hb hby d1_17) (by decide) (by decide) ?_
    show Steps p.tables e below (T2.setTop (mkF m 21 #[.val (.int (15 : Int32))] [.null])) _
    jvm_step X2.here [X2.here.top, hx, (hb hby d1_21), X2.method', Bd.returns, Value.isRef, FieldType.isReference]
    first | (intro acts; rw [hr _ acts rfl rfl rfl]) | rw [hr _ _ rfl rfl rfl]
    exact Steps.refl _
  · exact ⟨rfl, N0, e2⟩
def Q2_51 (Z : State) (w_PRODUCE : Addr) (w_METADATA : Addr) (w_LIST_OFFSETS : Addr) (w_JOIN_GROUP : Addr) (w_OFFSET_COMMIT : Addr) (w_FETCH : Addr) (w_FIND_COORDINATOR : Addr) (w_CREATE_TOPICS : Addr) (w_SYNC_GROUP : Addr) (w_OFFSET_FETCH : Addr) (w_HEARTBEAT : Addr) (w_LEAVE_GROUP : Addr) (w_API_VERSIONS : Addr) (w_BY_ID : Addr) (cl_w_BY_ID : Cell) (h0 : Heap) (n0 : Nat) (v : Option Value) (h : Heap) (L : List Loc) : Prop := v = some .null ∧ Fr n0 L ∧ h = h0
set_option maxRecDepth 65536 in
set_option maxHeartbeats 40000000 in
theorem rm2_51 (l : Launch) (Z : State) (a0 : Array Value) (hw : ∀ d ∈ tables_1, d.before a0 Z = true) (ws : List Jvm.Cond) (w_PRODUCE : Addr) (w_METADATA : Addr) (w_LIST_OFFSETS : Addr) (w_JOIN_GROUP : Addr) (w_OFFSET_COMMIT : Addr) (w_FETCH : Addr) (w_FIND_COORDINATOR : Addr) (w_CREATE_TOPICS : Addr) (w_SYNC_GROUP : Addr) (w_OFFSET_FETCH : Addr) (w_HEARTBEAT : Addr) (w_LEAVE_GROUP : Addr) (w_API_VERSIONS : Addr) (w_BY_ID : Addr) (cl_w_BY_ID : Cell) (h0 : Heap) (n0 : Nat) (Z0 : n0 ≤ h0.size) (HW : World Z h0 w_PRODUCE w_METADATA w_LIST_OFFSETS w_JOIN_GROUP w_OFFSET_COMMIT w_FETCH w_FIND_COORDINATOR w_CREATE_TOPICS w_SYNC_GROUP w_OFFSET_FETCH w_HEARTBEAT w_LEAVE_GROUP w_API_VERSIONS w_BY_ID cl_w_BY_ID) :
    MetFree l (⟨"com/example/melog/melog/protocol/ApiKeyForIdPinLaw", "expected", "(I)Lcom/example/melog/melog/protocol/ApiKey;"⟩ : MethodName) (head1 (Jvm.Cond.code (⟨"com/example/melog/melog/protocol/ApiKeyForIdPinLaw", "expected", "(I)Lcom/example/melog/melog/protocol/ApiKey;"⟩ : MethodName) method_2_code 1 (some (.object "com/example/melog/melog/protocol/ApiKey")) :: ws) ({ frames := 0, cells := 0, slots := 0, locals := 0 } : Room)) (fun a U => a = #[(.int (15 : Int32))] ∧ Z.Warmed39 U.vm ∧ U.heap = h0) (fun _ _ _ _ _ => True) (fun _ U o U' => ∃ v L, o = .returned v ∧ Q2_51 Z w_PRODUCE w_METADATA w_LIST_OFFSETS w_JOIN_GROUP w_OFFSET_COMMIT w_FETCH w_FIND_COORDINATOR w_CREATE_TOPICS w_SYNC_GROUP w_OFFSET_FETCH w_HEARTBEAT w_LEAVE_GROUP w_API_VERSIONS w_BY_ID cl_w_BY_ID h0 n0 v U'.heap L ∧ FrameEnd U o U' L ({ frames := 0, cells := 0, slots := 0, locals := 0 } : Room).cells ({ frames := 0, cells := 0, slots := 0, locals := 0 } : Room).slots) := by
  refine MetFree.of_bodySF (plainFor_of_name pn50) hisR ?_
  intro p e s m args below meth c s₁ Bd hml0 hP hK
  obtain ⟨rfl, hZ, hh⟩ := hP
  have hx := Bd.exec
  have hby := Bd.bytes
  have hml : c.maxLocals = 1 := hml0
  have hown : s.vm.findClass "com/example/melog/melog/protocol/ApiKeyForIdPinLaw" = some m.cls := findClass_of_methodNamed Bd.named
  have X0 : Stand p l e ({ frames := 0, cells := 0, slots := 0, locals := 0 } : Room) s m #[(.int (15 : Int32))] below meth c s₁ [] 0 0 := Stand.of_body Bd
  have e0 : s₁.heap = h0 := by rw [← hh, Bd.state]; rfl
  have N0 := Fr.nil n0
  have pre0 : ∀ t, Steps p.tables e below (s₁.setTop (mkF m 0 #[.val (.int (15 : Int32))] [])) t → Steps p.tables e below (s₁.setTop (entryFrame m #[(.int (15 : Int32))] 1)) t := fun t k => castTop (ef49 m (15 : Int32)) k
  obtain ⟨S_w_PRODUCE, E_w_PRODUCE, S_w_METADATA, E_w_METADATA, S_w_LIST_OFFSETS, E_w_LIST_OFFSETS, S_w_JOIN_GROUP, E_w_JOIN_GROUP, S_w_OFFSET_COMMIT, E_w_OFFSET_COMMIT, S_w_FETCH, E_w_FETCH, S_w_FIND_COORDINATOR, E_w_FIND_COORDINATOR, S_w_CREATE_TOPICS, E_w_CREATE_TOPICS, S_w_SYNC_GROUP, E_w_SYNC_GROUP, S_w_OFFSET_FETCH, E_w_OFFSET_FETCH, S_w_HEARTBEAT, E_w_HEARTBEAT, S_w_LEAVE_GROUP, E_w_LEAVE_GROUP, S_w_API_VERSIONS, E_w_API_VERSIONS, S_w_BY_ID, Ar_w_BY_ID, Sz_w_BY_ID, At_w_BY_ID_0, At_w_BY_ID_3, At_w_BY_ID_7, At_w_BY_ID_2, At_w_BY_ID_11, At_w_BY_ID_8, At_w_BY_ID_1, At_w_BY_ID_10, At_w_BY_ID_16, At_w_BY_ID_19, At_w_BY_ID_15, At_w_BY_ID_14, At_w_BY_ID_6, At_w_BY_ID_9, At_w_BY_ID_12, At_w_BY_ID_17, At_w_BY_ID_13, At_w_BY_ID_5, At_w_BY_ID_18, At_w_BY_ID_4, -⟩ := id HW
  obtain ⟨fs, hr, hrun, hended, hW, hsame⟩ := X0.leave (v := some .null) (fun h => by rw [Bd.returns] at h; cases h)
  refine ⟨_, _, pre0 _ ?_, hrun, hended, _, _, rfl, ?_, ⟨_, rfl⟩, hW, hsame.mono (by decide) (by decide)⟩
  · show Steps p.tables e below (s₁.setTop (mkF m 0 #[.val (.int (15 : Int32))] [])) _
    refine XS.iloadN X0.here hx rfl (hb hby d2_0) rfl ?_
    show Steps p.tables e below (s₁.setTop (mkF m 1 #[.val (.int (15 : Int32))] [(.int (15 : Int32))])) _
    refine XS.ifYes X0.here hx rfl (pc0 := 1) (pc' := 8) rfl (hb hby d2_1) rfl ((if0 _ _).trans (feq (by decide : ¬ ((15 : Int32) = (0 : Int32)))).2) (by decide) (by decide) ?_
    show Steps p.tables e below (s₁.setTop (mkF m 8 #[.val (.int (15 : Int32))] [])) _
    refine XS.iloadN X0.here hx rfl (hb hby d2_8) rfl ?_
    show Steps p.tables e below (s₁.setTop (mkF m 9 #[.val (.int (15 : Int32))] [(.int (15 : Int32))])) _
    refine XS.iconst X0.here hx rfl (hb hby d2_9) ?_
    show Steps p.tables e below (s₁.setTop (mkF m 10 #[.val (.int (15 : Int32))] [(.int (1 : Int32)), (.int (15 : Int32))])) _
    refine XS.icmpYes X0.here hx rfl (pc0 := 10) (pc' := 17) rfl (hb hby d2_10) rfl (feq (by decide : ¬ ((15 : Int32) = (1 : Int32)))).2 (by decide) (by decide) ?_
    show Steps p.tables e below (s₁.setTop (mkF m 17 #[.val (.int (15 : Int32))] [])) _
    refine XS.iloadN X0.here hx rfl (hb hby d2_17) rfl ?_
    show Steps p.tables e below (s₁.setTop (mkF m 18 #[.val (.int (15 : Int32))] [(.int (15 : Int32))])) _
    refine XS.iconst X0.here hx rfl (hb hby d2_18) ?_
    show Steps p.tables e below (s₁.setTop (mkF m 19 #[.val (.int (15 : Int32))] [(.int (2 : Int32)), (.int (15 : Int32))])) _
    refine XS.icmpYes X0.here hx rfl (pc0 := 19) (pc' := 26) rfl (hb hby d2_19) rfl (feq (by decide : ¬ ((15 : Int32) = (2 : Int32)))).2 (by decide) (by decide) ?_
    show Steps p.tables e below (s₁.setTop (mkF m 26 #[.val (.int (15 : Int32))] [])) _
    refine XS.iloadN X0.here hx rfl (hb hby d2_26) rfl ?_
    show Steps p.tables e below (s₁.setTop (mkF m 27 #[.val (.int (15 : Int32))] [(.int (15 : Int32))])) _
    refine XS.iconst X0.here hx rfl (hb hby d2_27) ?_
    show Steps p.tables e below (s₁.setTop (mkF m 28 #[.val (.int (15 : Int32))] [(.int (3 : Int32)), (.int (15 : Int32))])) _
    refine XS.icmpYes X0.here hx rfl (pc0 := 28) (pc' := 35) rfl (hb hby d2_28) rfl (feq (by decide : ¬ ((15 : Int32) = (3 : Int32)))).2 (by decide) (by decide) ?_
    show Steps p.tables e below (s₁.setTop (mkF m 35 #[.val (.int (15 : Int32))] [])) _
    refine XS.iloadN X0.here hx rfl (hb hby d2_35) rfl ?_
    show Steps p.tables e below (s₁.setTop (mkF m 36 #[.val (.int (15 : Int32))] [(.int (15 : Int32))])) _
    refine XS.bipush X0.here hx rfl (hb hby d2_36) ?_
    show Steps p.tables e below (s₁.setTop (mkF m 38 #[.val (.int (15 : Int32))] [(.int (8 : Int32)), (.int (15 : Int32))])) _
    refine XS.icmpYes X0.here hx rfl (pc0 := 38) (pc' := 45) rfl (hb hby d2_38) rfl (feq (by decide : ¬ ((15 : Int32) = (8 : Int32)))).2 (by decide) (by decide) ?_
    show Steps p.tables e below (s₁.setTop (mkF m 45 #[.val (.int (15 : Int32))] [])) _
    refine XS.iloadN X0.here hx rfl (hb hby d2_45) rfl ?_
    show Steps p.tables e below (s₁.setTop (mkF m 46 #[.val (.int (15 : Int32))] [(.int (15 : Int32))])) _
    refine XS.bipush X0.here hx rfl (hb hby d2_46) ?_
    show Steps p.tables e below (s₁.setTop (mkF m 48 #[.val (.int (15 : Int32))] [(.int (9 : Int32)), (.int (15 : Int32))])) _
    refine XS.icmpYes X0.here hx rfl (pc0 := 48) (pc' := 55) rfl (hb hby d2_48) rfl (feq (by decide : ¬ ((15 : Int32) = (9 : Int32)))).2 (by decide) (by decide) ?_
    show Steps p.tables e below (s₁.setTop (mkF m 55 #[.val (.int (15 : Int32))] [])) _
    refine XS.iloadN X0.here hx rfl (hb hby d2_55) rfl ?_
    show Steps p.tables e below (s₁.setTop (mkF m 56 #[.val (.int (15 : Int32))] [(.int (15 : Int32))])) _
    refine XS.bipush X0.here hx rfl (hb hby d2_56) ?_
    show Steps p.tables e below (s₁.setTop (mkF m 58 #[.val (.int (15 : Int32))] [(.int (10 : Int32)), (.int (15 : Int32))])) _
    refine XS.icmpYes X0.here hx rfl (pc0 := 58) (pc' := 65) rfl (hb hby d2_58) rfl (feq (by decide : ¬ ((15 : Int32) = (10 : Int32)))).2 (by decide) (by decide) ?_
    show Steps p.tables e below (s₁.setTop (mkF m 65 #[.val (.int (15 : Int32))] [])) _
    refine XS.iloadN X0.here hx rfl (hb hby d2_65) rfl ?_
    show Steps p.tables e below (s₁.setTop (mkF m 66 #[.val (.int (15 : Int32))] [(.int (15 : Int32))])) _
    refine XS.bipush X0.here hx rfl (hb hby d2_66) ?_
    show Steps p.tables e below (s₁.setTop (mkF m 68 #[.val (.int (15 : Int32))] [(.int (11 : Int32)), (.int (15 : Int32))])) _
    refine XS.icmpYes X0.here hx rfl (pc0 := 68) (pc' := 75) rfl (hb hby d2_68) rfl (feq (by decide : ¬ ((15 : Int32) = (11 : Int32)))).2 (by decide) (by decide) ?_
    show Steps p.tables e below (s₁.setTop (mkF m 75 #[.val (.int (15 : Int32))] [])) _
    refine XS.iloadN X0.here hx rfl (hb hby d2_75) rfl ?_
    show Steps p.tables e below (s₁.setTop (mkF m 76 #[.val (.int (15 : Int32))] [(.int (15 : Int32))])) _
    refine XS.bipush X0.here hx rfl (hb hby d2_76) ?_
    show Steps p.tables e below (s₁.setTop (mkF m 78 #[.val (.int (15 : Int32))] [(.int (12 : Int32)), (.int (15 : Int32))])) _
    refine XS.icmpYes X0.here hx rfl (pc0 := 78) (pc' := 85) rfl (hb hby d2_78) rfl (feq (by decide : ¬ ((15 : Int32) = (12 : Int32)))).2 (by decide) (by decide) ?_
    show Steps p.tables e below (s₁.setTop (mkF m 85 #[.val (.int (15 : Int32))] [])) _
    refine XS.iloadN X0.here hx rfl (hb hby d2_85) rfl ?_
    show Steps p.tables e below (s₁.setTop (mkF m 86 #[.val (.int (15 : Int32))] [(.int (15 : Int32))])) _
    refine XS.bipush X0.here hx rfl (hb hby d2_86) ?_
    show Steps p.tables e below (s₁.setTop (mkF m 88 #[.val (.int (15 : Int32))] [(.int (13 : Int32)), (.int (15 : Int32))])) _
    refine XS.icmpYes X0.here hx rfl (pc0 := 88) (pc' := 95) rfl (hb hby d2_88) rfl (feq (by decide : ¬ ((15 : Int32) = (13 : Int32)))).2 (by decide) (by decide) ?_
    show Steps p.tables e below (s₁.setTop (mkF m 95 #[.val (.int (15 : Int32))] [])) _
    refine XS.iloadN X0.here hx rfl (hb hby d2_95) rfl ?_
    show Steps p.tables e below (s₁.setTop (mkF m 96 #[.val (.int (15 : Int32))] [(.int (15 : Int32))])) _
    refine XS.bipush X0.here hx rfl (hb hby d2_96) ?_
    show Steps p.tables e below (s₁.setTop (mkF m 98 #[.val (.int (15 : Int32))] [(.int (14 : Int32)), (.int (15 : Int32))])) _
    refine XS.icmpYes X0.here hx rfl (pc0 := 98) (pc' := 105) rfl (hb hby d2_98) rfl (feq (by decide : ¬ ((15 : Int32) = (14 : Int32)))).2 (by decide) (by decide) ?_
    show Steps p.tables e below (s₁.setTop (mkF m 105 #[.val (.int (15 : Int32))] [])) _
    refine XS.iloadN X0.here hx rfl (hb hby d2_105) rfl ?_
    show Steps p.tables e below (s₁.setTop (mkF m 106 #[.val (.int (15 : Int32))] [(.int (15 : Int32))])) _
    refine XS.bipush X0.here hx rfl (hb hby d2_106) ?_
    show Steps p.tables e below (s₁.setTop (mkF m 108 #[.val (.int (15 : Int32))] [(.int (18 : Int32)), (.int (15 : Int32))])) _
    refine XS.icmpYes X0.here hx rfl (pc0 := 108) (pc' := 115) rfl (hb hby d2_108) rfl (feq (by decide : ¬ ((15 : Int32) = (18 : Int32)))).2 (by decide) (by decide) ?_
    show Steps p.tables e below (s₁.setTop (mkF m 115 #[.val (.int (15 : Int32))] [])) _
    refine XS.iloadN X0.here hx rfl (hb hby d2_115) rfl ?_
    show Steps p.tables e below (s₁.setTop (mkF m 116 #[.val (.int (15 : Int32))] [(.int (15 : Int32))])) _
    refine XS.bipush X0.here hx rfl (hb hby d2_116) ?_
    show Steps p.tables e below (s₁.setTop (mkF m 118 #[.val (.int (15 : Int32))] [(.int (19 : Int32)), (.int (15 : Int32))])) _
    refine XS.icmpYes X0.here hx rfl (pc0 := 118) (pc' := 125) rfl (hb hby d2_118) rfl (feq (by decide : ¬ ((15 : Int32) = (19 : Int32)))).2 (by decide) (by decide) ?_
    show Steps p.tables e below (s₁.setTop (mkF m 125 #[.val (.int (15 : Int32))] [])) _
    refine XS.aconstNull X0.here hx rfl (hb hby d2_125) ?_
    show Steps p.tables e below (s₁.setTop (mkF m 126 #[.val (.int (15 : Int32))] [.null])) _
    jvm_step X0.here [X0.here.top, hx, (hb hby d2_126), X0.method', Bd.returns, Value.isRef, FieldType.isReference]
    first | (intro acts; rw [hr _ acts rfl rfl rfl]) | rw [hr _ _ rfl rfl rfl]
    exact Steps.refl _
  · exact ⟨rfl, N0, e0⟩
set_option maxRecDepth 65536 in
set_option maxHeartbeats 40000000 in
theorem rm0_c15 (l : Launch) (Z : State) (a0 : Array Value) (hw : ∀ d ∈ tables_1, d.before a0 Z = true) (ws : List Jvm.Cond) (w_PRODUCE : Addr) (w_METADATA : Addr) (w_LIST_OFFSETS : Addr) (w_JOIN_GROUP : Addr) (w_OFFSET_COMMIT : Addr) (w_FETCH : Addr) (w_FIND_COORDINATOR : Addr) (w_CREATE_TOPICS : Addr) (w_SYNC_GROUP : Addr) (w_OFFSET_FETCH : Addr) (w_HEARTBEAT : Addr) (w_LEAVE_GROUP : Addr) (w_API_VERSIONS : Addr) (w_BY_ID : Addr) (cl_w_BY_ID : Cell) (p1 : Int32) (h0 : Heap) (n0 : Nat) (Z0 : n0 ≤ h0.size) (HW : World Z h0 w_PRODUCE w_METADATA w_LIST_OFFSETS w_JOIN_GROUP w_OFFSET_COMMIT w_FETCH w_FIND_COORDINATOR w_CREATE_TOPICS w_SYNC_GROUP w_OFFSET_FETCH w_HEARTBEAT w_LEAVE_GROUP w_API_VERSIONS w_BY_ID cl_w_BY_ID) (hk : (p1.toInt16.toInt32) = (15 : Int32)) :
    MetFree l x (head1 (Jvm.Cond.code x code maxLocals ret :: ws) room_1) (fun a U => a = #[(.int p1)] ∧ Z.Warmed39 U.vm ∧ U.heap = h0) (fun _ _ _ _ _ => True) (fun _ U o U' => ∃ v L, o = .returned v ∧ Q0 h0 n0 v U'.heap L ∧ FrameEnd U o U' L room_1.cells room_1.slots) := by
  refine MetFree.of_bodySF (plainFor_of_name pn50) hisR ?_
  intro p e s m args below meth c s₁ Bd hml0 hP hK
  obtain ⟨rfl, hZ, hh⟩ := hP
  have hx := Bd.exec
  have hby := Bd.bytes
  have hml : c.maxLocals = 3 := hml0
  have hown : s.vm.findClass "com/example/melog/melog/protocol/ApiKeyForIdPinLaw" = some m.cls := findClass_of_methodNamed Bd.named
  have X0 : Stand p l e room_1 s m #[(.int p1)] below meth c s₁ [] 0 0 := Stand.of_body Bd
  have e0 : s₁.heap = h0 := by rw [← hh, Bd.state]; rfl
  have N0 := Fr.nil n0
  have pre0 : ∀ t, Steps p.tables e below (s₁.setTop (mkF m 0 #[.val (.int p1), .unset, .unset] [])) t → Steps p.tables e below (s₁.setTop (entryFrame m #[(.int p1)] maxLocals)) t := fun t k => castTop (ef53 m p1) k
  obtain ⟨S_w_PRODUCE, E_w_PRODUCE, S_w_METADATA, E_w_METADATA, S_w_LIST_OFFSETS, E_w_LIST_OFFSETS, S_w_JOIN_GROUP, E_w_JOIN_GROUP, S_w_OFFSET_COMMIT, E_w_OFFSET_COMMIT, S_w_FETCH, E_w_FETCH, S_w_FIND_COORDINATOR, E_w_FIND_COORDINATOR, S_w_CREATE_TOPICS, E_w_CREATE_TOPICS, S_w_SYNC_GROUP, E_w_SYNC_GROUP, S_w_OFFSET_FETCH, E_w_OFFSET_FETCH, S_w_HEARTBEAT, E_w_HEARTBEAT, S_w_LEAVE_GROUP, E_w_LEAVE_GROUP, S_w_API_VERSIONS, E_w_API_VERSIONS, S_w_BY_ID, Ar_w_BY_ID, Sz_w_BY_ID, At_w_BY_ID_0, At_w_BY_ID_3, At_w_BY_ID_7, At_w_BY_ID_2, At_w_BY_ID_11, At_w_BY_ID_8, At_w_BY_ID_1, At_w_BY_ID_10, At_w_BY_ID_16, At_w_BY_ID_19, At_w_BY_ID_15, At_w_BY_ID_14, At_w_BY_ID_6, At_w_BY_ID_9, At_w_BY_ID_12, At_w_BY_ID_17, At_w_BY_ID_13, At_w_BY_ID_5, At_w_BY_ID_18, At_w_BY_ID_4, -⟩ := id HW
  obtain ⟨_, _, ⟨T1, L1, k1, n1⟩, -, X1, ⟨Lc1, hQ1, l1, y1, z1⟩, st1⟩ := Jvm.LawKit.callS X0 hx (y := (⟨"com/example/melog/melog/protocol/ApiKey", "forId", "(S)Lcom/example/melog/melog/protocol/ApiKey;"⟩ : MethodName)) hown (mvT hZ (hw _ (List.mem_of_getElem? (i := 0) rfl))) (mvT hZ (hw _ (List.mem_of_getElem? (i := 1) rfl))) (mvT hZ (hw _ (List.mem_of_getElem? (i := 2) rfl))) (mvT hZ (hw _ (List.mem_of_getElem? (i := 3) rfl))) (by decide) (backOf (W := 0) (rm1_50 l Z a0 hw [] w_PRODUCE w_METADATA w_LIST_OFFSETS w_JOIN_GROUP w_OFFSET_COMMIT w_FETCH w_FIND_COORDINATOR w_CREATE_TOPICS w_SYNC_GROUP w_OFFSET_FETCH w_HEARTBEAT w_LEAVE_GROUP w_API_VERSIONS w_BY_ID cl_w_BY_ID h0 n0 Z0 HW) hZ (hw _ (List.mem_of_getElem? (i := 3) rfl)) (hw _ (List.mem_of_getElem? (i := 2) rfl)) (by decide) (by decide)) (g := (mkF m 4 #[.val (.int p1), .val (.int (15 : Int32)), .unset] [(.int (15 : Int32))])) rfl (by rw [hml]; rfl) (argsL := [(.int (15 : Int32))]) (rest := []) (lenOf pd7 rfl) rfl (by show 2 * 0 + _ ≤ _; exact Nat.le_of_eq rfl) (hb hby at_4) (fun _ _ => ⟨rfl, e0, (by decide : 0 + 0 ≤ _), (by decide : 0 + 0 ≤ _)⟩)
  dsimp only [Pt.U, Pt.locs, Pt.cells, Pt.slots] at X1 l1 y1 z1 st1 hQ1
  subst l1 y1 z1
  obtain ⟨rfl, N1q, e1⟩ := hQ1
  have N1 := Fr.app N0 N1q
  obtain ⟨_, _, ⟨T2, L2, k2, n2⟩, -, X2, ⟨Lc2, hQ2, l2, y2, z2⟩, st2⟩ := Jvm.LawKit.callS X1 hx (y := (⟨"com/example/melog/melog/protocol/ApiKeyForIdPinLaw", "expected", "(I)Lcom/example/melog/melog/protocol/ApiKey;"⟩ : MethodName)) hown (mvT hZ (hw _ (List.mem_of_getElem? (i := 7) rfl))) (mvT hZ (hw _ (List.mem_of_getElem? (i := 8) rfl))) (mvT hZ (hw _ (List.mem_of_getElem? (i := 9) rfl))) (mvT hZ (hw _ (List.mem_of_getElem? (i := 10) rfl))) (by decide) (backOf (W := 1) (rm2_51 l Z a0 hw [] w_PRODUCE w_METADATA w_LIST_OFFSETS w_JOIN_GROUP w_OFFSET_COMMIT w_FETCH w_FIND_COORDINATOR w_CREATE_TOPICS w_SYNC_GROUP w_OFFSET_FETCH w_HEARTBEAT w_LEAVE_GROUP w_API_VERSIONS w_BY_ID cl_w_BY_ID h0 n0 Z0 HW) hZ (hw _ (List.mem_of_getElem? (i := 10) rfl)) (hw _ (List.mem_of_getElem? (i := 9) rfl)) (by decide) (by decide)) (g := (mkF m 10 #[.val (.int p1), .val (.int (15 : Int32)), .val .null] [(.int (15 : Int32)), .null])) rfl (by rw [hml]; rfl) (argsL := [(.int (15 : Int32))]) (rest := [.null]) (lenOf pd51 rfl) rfl (by show 2 * 0 + _ ≤ _; exact Nat.le_of_eq rfl) (hb hby at_10) (fun _ _ => ⟨rfl, e1, (by decide : 0 + 0 ≤ _), (by decide : 0 + 0 ≤ _)⟩)
  dsimp only [Pt.U, Pt.locs, Pt.cells, Pt.slots] at X2 l2 y2 z2 st2 hQ2
  subst l2 y2 z2
  obtain ⟨rfl, N2q, e2⟩ := hQ2
  have N2 := Fr.app N1 N2q
  obtain ⟨fs, hr, hrun, hended, hW, hsame⟩ := X2.leave (v := some (.int (1 : Int32))) (fun h => by rw [Bd.returns] at h; cases h)
  refine ⟨_, _, pre0 _ ?_, hrun, hended, _, _, rfl, ?_, ⟨_, rfl⟩, hW, hsame.mono (by decide) (by decide)⟩
  · show Steps p.tables e below (s₁.setTop (mkF m 0 #[.val (.int p1), .unset, .unset] [])) _
    refine XS.iloadN X0.here hx rfl (hb hby at_0) rfl ?_
    show Steps p.tables e below (s₁.setTop (mkF m 1 #[.val (.int p1), .unset, .unset] [(.int p1)])) _
    refine XS.i2s X0.here hx rfl (hb hby at_1) rfl ?_
    rw [hk]
    show Steps p.tables e below (s₁.setTop (mkF m 2 #[.val (.int p1), .unset, .unset] [(.int (15 : Int32))])) _
    refine XS.istoreN X0.here hx rfl (hb hby at_2) rfl (l' := #[.val (.int p1), .val (.int (15 : Int32)), .unset]) rfl ?_
    show Steps p.tables e below (s₁.setTop (mkF m 3 #[.val (.int p1), .val (.int (15 : Int32)), .unset] [])) _
    refine XS.iloadN X0.here hx rfl (hb hby at_3) rfl ?_
    show Steps p.tables e below (s₁.setTop (mkF m 4 #[.val (.int p1), .val (.int (15 : Int32)), .unset] [(.int (15 : Int32))])) _
    refine st1 _ ?_
    show Steps p.tables e below (T1.setTop (mkF m 7 #[.val (.int p1), .val (.int (15 : Int32)), .unset] [.null])) _
    refine XS.astoreN X1.here hx rfl (hb hby at_7) rfl rfl (l' := #[.val (.int p1), .val (.int (15 : Int32)), .val .null]) rfl ?_
    show Steps p.tables e below (T1.setTop (mkF m 8 #[.val (.int p1), .val (.int (15 : Int32)), .val .null] [])) _
    refine XS.aloadN X1.here hx rfl (hb hby at_8) rfl rfl ?_
    show Steps p.tables e below (T1.setTop (mkF m 9 #[.val (.int p1), .val (.int (15 : Int32)), .val .null] [.null])) _
    refine XS.iloadN X1.here hx rfl (hb hby at_9) rfl ?_
    show Steps p.tables e below (T1.setTop (mkF m 10 #[.val (.int p1), .val (.int (15 : Int32)), .val .null] [(.int (15 : Int32)), .null])) _
    refine st2 _ ?_
    show Steps p.tables e below (T2.setTop (mkF m 13 #[.val (.int p1), .val (.int (15 : Int32)), .val .null] [.null, .null])) _
    refine Jvm.RoadKit.acmp (g := (mkF m 13 #[.val (.int p1), .val (.int (15 : Int32)), .val .null] [.null, .null])) X2 hx rfl rfl rfl (pc0 := 13) (pc' := 16) (same := true) rfl (hb hby at_13) rfl (decide_eq_true rfl) (by decide) (by decide) ?_
    show Steps p.tables e below (T2.setTop (mkF m 16 #[.val (.int p1), .val (.int (15 : Int32)), .val .null] [])) _
    refine XS.iconst X2.here hx rfl (hb hby at_16) ?_
    show Steps p.tables e below (T2.setTop (mkF m 17 #[.val (.int p1), .val (.int (15 : Int32)), .val .null] [(.int (1 : Int32))])) _
    refine XS.goto X2.here hx rfl (pc0 := 17) (pc' := 21) rfl (hb hby at_17) (by decide) (by decide) ?_
    show Steps p.tables e below (T2.setTop (mkF m 21 #[.val (.int p1), .val (.int (15 : Int32)), .val .null] [(.int (1 : Int32))])) _
    exact retN X2 hx (t := .boolean) Bd.returns (by simp) (hb hby at_21) hr
  · exact ⟨rfl, N2⟩
def Q1_53 (Z : State) (w_PRODUCE : Addr) (w_METADATA : Addr) (w_LIST_OFFSETS : Addr) (w_JOIN_GROUP : Addr) (w_OFFSET_COMMIT : Addr) (w_FETCH : Addr) (w_FIND_COORDINATOR : Addr) (w_CREATE_TOPICS : Addr) (w_SYNC_GROUP : Addr) (w_OFFSET_FETCH : Addr) (w_HEARTBEAT : Addr) (w_LEAVE_GROUP : Addr) (w_API_VERSIONS : Addr) (w_BY_ID : Addr) (cl_w_BY_ID : Cell) (h0 : Heap) (n0 : Nat) (v : Option Value) (h : Heap) (L : List Loc) : Prop := v = some .null ∧ Fr n0 L ∧ h = h0
set_option maxRecDepth 65536 in
set_option maxHeartbeats 40000000 in
theorem rm1_53 (l : Launch) (Z : State) (a0 : Array Value) (hw : ∀ d ∈ tables_1, d.before a0 Z = true) (ws : List Jvm.Cond) (w_PRODUCE : Addr) (w_METADATA : Addr) (w_LIST_OFFSETS : Addr) (w_JOIN_GROUP : Addr) (w_OFFSET_COMMIT : Addr) (w_FETCH : Addr) (w_FIND_COORDINATOR : Addr) (w_CREATE_TOPICS : Addr) (w_SYNC_GROUP : Addr) (w_OFFSET_FETCH : Addr) (w_HEARTBEAT : Addr) (w_LEAVE_GROUP : Addr) (w_API_VERSIONS : Addr) (w_BY_ID : Addr) (cl_w_BY_ID : Cell) (h0 : Heap) (n0 : Nat) (Z0 : n0 ≤ h0.size) (HW : World Z h0 w_PRODUCE w_METADATA w_LIST_OFFSETS w_JOIN_GROUP w_OFFSET_COMMIT w_FETCH w_FIND_COORDINATOR w_CREATE_TOPICS w_SYNC_GROUP w_OFFSET_FETCH w_HEARTBEAT w_LEAVE_GROUP w_API_VERSIONS w_BY_ID cl_w_BY_ID) :
    MetFree l (⟨"com/example/melog/melog/protocol/ApiKey", "forId", "(S)Lcom/example/melog/melog/protocol/ApiKey;"⟩ : MethodName) (head1 (Jvm.Cond.code (⟨"com/example/melog/melog/protocol/ApiKey", "forId", "(S)Lcom/example/melog/melog/protocol/ApiKey;"⟩ : MethodName) prog_9_method_4_code 1 (some (.object "com/example/melog/melog/protocol/ApiKey")) :: ws) ({ frames := 0, cells := 0, slots := 0, locals := 0 } : Room)) (fun a U => a = #[(.int (16 : Int32))] ∧ Z.Warmed39 U.vm ∧ U.heap = h0) (fun _ _ _ _ _ => True) (fun _ U o U' => ∃ v L, o = .returned v ∧ Q1_53 Z w_PRODUCE w_METADATA w_LIST_OFFSETS w_JOIN_GROUP w_OFFSET_COMMIT w_FETCH w_FIND_COORDINATOR w_CREATE_TOPICS w_SYNC_GROUP w_OFFSET_FETCH w_HEARTBEAT w_LEAVE_GROUP w_API_VERSIONS w_BY_ID cl_w_BY_ID h0 n0 v U'.heap L ∧ FrameEnd U o U' L ({ frames := 0, cells := 0, slots := 0, locals := 0 } : Room).cells ({ frames := 0, cells := 0, slots := 0, locals := 0 } : Room).slots) := by
  refine MetFree.of_bodySF (plainFor_of_name pn6) hisR ?_
  intro p e s m args below meth c s₁ Bd hml0 hP hK
  obtain ⟨rfl, hZ, hh⟩ := hP
  have hx := Bd.exec
  have hby := Bd.bytes
  have hml : c.maxLocals = 1 := hml0
  have hown : s.vm.findClass "com/example/melog/melog/protocol/ApiKey" = some m.cls := findClass_of_methodNamed Bd.named
  have X0 : Stand p l e ({ frames := 0, cells := 0, slots := 0, locals := 0 } : Room) s m #[(.int (16 : Int32))] below meth c s₁ [] 0 0 := Stand.of_body Bd
  have e0 : s₁.heap = h0 := by rw [← hh, Bd.state]; rfl
  have N0 := Fr.nil n0
  have pre0 : ∀ t, Steps p.tables e below (s₁.setTop (mkF m 0 #[.val (.int (16 : Int32))] [])) t → Steps p.tables e below (s₁.setTop (entryFrame m #[(.int (16 : Int32))] 1)) t := fun t k => castTop (ef5 m (16 : Int32)) k
  obtain ⟨S_w_PRODUCE, E_w_PRODUCE, S_w_METADATA, E_w_METADATA, S_w_LIST_OFFSETS, E_w_LIST_OFFSETS, S_w_JOIN_GROUP, E_w_JOIN_GROUP, S_w_OFFSET_COMMIT, E_w_OFFSET_COMMIT, S_w_FETCH, E_w_FETCH, S_w_FIND_COORDINATOR, E_w_FIND_COORDINATOR, S_w_CREATE_TOPICS, E_w_CREATE_TOPICS, S_w_SYNC_GROUP, E_w_SYNC_GROUP, S_w_OFFSET_FETCH, E_w_OFFSET_FETCH, S_w_HEARTBEAT, E_w_HEARTBEAT, S_w_LEAVE_GROUP, E_w_LEAVE_GROUP, S_w_API_VERSIONS, E_w_API_VERSIONS, S_w_BY_ID, Ar_w_BY_ID, Sz_w_BY_ID, At_w_BY_ID_0, At_w_BY_ID_3, At_w_BY_ID_7, At_w_BY_ID_2, At_w_BY_ID_11, At_w_BY_ID_8, At_w_BY_ID_1, At_w_BY_ID_10, At_w_BY_ID_16, At_w_BY_ID_19, At_w_BY_ID_15, At_w_BY_ID_14, At_w_BY_ID_6, At_w_BY_ID_9, At_w_BY_ID_12, At_w_BY_ID_17, At_w_BY_ID_13, At_w_BY_ID_5, At_w_BY_ID_18, At_w_BY_ID_4, -⟩ := id HW
  obtain ⟨T1, X1, e1, st1⟩ := getS2 X0 hx hZ hown (host := "") (Or.inl (hw _ (List.mem_of_getElem? (i := 4) rfl))) Via.refl e0 S_w_BY_ID (g := (mkF m 5 #[.val (.int (16 : Int32))] [(.int (16 : Int32))])) rfl (hb hby d1_5)
  obtain ⟨T2, X2, e2, st2⟩ := getS2 X1 hx hZ hown (host := "") (Or.inl (hw _ (List.mem_of_getElem? (i := 4) rfl))) Via.refl e1 S_w_BY_ID (g := (mkF m 12 #[.val (.int (16 : Int32))] [])) rfl (hb hby d1_12)
  obtain ⟨fs, hr, hrun, hended, hW, hsame⟩ := X2.leave (v := some .null) (fun h => by rw [Bd.returns] at h; cases h)
  refine ⟨_, _, pre0 _ ?_, hrun, hended, _, _, rfl, ?_, ⟨_, rfl⟩, hW, hsame.mono (by decide) (by decide)⟩
  · show Steps p.tables e below (s₁.setTop (mkF m 0 #[.val (.int (16 : Int32))] [])) _
    refine XS.iloadN X0.here hx rfl (hb hby d1_0) rfl ?_
    show Steps p.tables e below (s₁.setTop (mkF m 1 #[.val (.int (16 : Int32))] [(.int (16 : Int32))])) _
    refine XS.ifNo X0.here hx rfl (hb hby d1_1) rfl ((if0 _ _).trans (flt (by decide : ¬ ((16 : Int32) < (0 : Int32)))).1) ?_
    show Steps p.tables e below (s₁.setTop (mkF m 4 #[.val (.int (16 : Int32))] [])) _
    refine XS.iloadN X0.here hx rfl (hb hby d1_4) rfl ?_
    show Steps p.tables e below (s₁.setTop (mkF m 5 #[.val (.int (16 : Int32))] [(.int (16 : Int32))])) _
    refine st1 _ ?_
    show Steps p.tables e below (T1.setTop (mkF m 8 #[.val (.int (16 : Int32))] [(.ref w_BY_ID), (.int (16 : Int32))])) _
    refine X1.arraylength hx (by rw [e1]; exact Ar_w_BY_ID.1) (State.isArrayOf_alike hZ.alike Ar_w_BY_ID.2.1) (g := (mkF m 8 #[.val (.int (16 : Int32))] [(.ref w_BY_ID), (.int (16 : Int32))])) rfl rfl (hb hby d1_8) _ ?_
    rw [Sz_w_BY_ID]
    show Steps p.tables e below (T1.setTop (mkF m 9 #[.val (.int (16 : Int32))] [(.int (20 : Int32)), (.int (16 : Int32))])) _
    refine XS.icmpNo X1.here hx rfl (hb hby d1_9) rfl (tlt (by decide : (16 : Int32) < (20 : Int32))).2.1 ?_
    show Steps p.tables e below (T1.setTop (mkF m 12 #[.val (.int (16 : Int32))] [])) _
    refine st2 _ ?_
    show Steps p.tables e below (T2.setTop (mkF m 15 #[.val (.int (16 : Int32))] [(.ref w_BY_ID)])) _
    refine XS.iloadN X2.here hx rfl (hb hby d1_15) rfl ?_
    show Steps p.tables e below (T2.setTop (mkF m 16 #[.val (.int (16 : Int32))] [(.int (16 : Int32)), (.ref w_BY_ID)])) _
    refine X2.aaload hx (j := (16 : Int32)) (v := .null) (by rw [e2]; exact Ar_w_BY_ID.1) (State.isArrayOf_alike hZ.alike Ar_w_BY_ID.2.1) rfl Ar_w_BY_ID.2.2 At_w_BY_ID_16.1 At_w_BY_ID_16.2 (g := (mkF m 16 #[.val (.int (16 : Int32))] [(.int (16 : Int32)), (.ref w_BY_ID)])) rfl rfl (hb hby d1_16) _ ?_
    show Steps p.tables e below (T2.setTop (mkF m 17 #[.val (.int (16 : Int32))] [.null])) _
    refine XS.goto X2.here hx rfl (pc0 := 17) (pc' := 21) rfl (hb hby d1_17) (by decide) (by decide) ?_
    show Steps p.tables e below (T2.setTop (mkF m 21 #[.val (.int (16 : Int32))] [.null])) _
    jvm_step X2.here [X2.here.top, hx, (hb hby d1_21), X2.method', Bd.returns, Value.isRef, FieldType.isReference]
    first | (intro acts; rw [hr _ acts rfl rfl rfl]) | rw [hr _ _ rfl rfl rfl]
    exact Steps.refl _
  · exact ⟨rfl, N0, e2⟩
def Q2_54 (Z : State) (w_PRODUCE : Addr) (w_METADATA : Addr) (w_LIST_OFFSETS : Addr) (w_JOIN_GROUP : Addr) (w_OFFSET_COMMIT : Addr) (w_FETCH : Addr) (w_FIND_COORDINATOR : Addr) (w_CREATE_TOPICS : Addr) (w_SYNC_GROUP : Addr) (w_OFFSET_FETCH : Addr) (w_HEARTBEAT : Addr) (w_LEAVE_GROUP : Addr) (w_API_VERSIONS : Addr) (w_BY_ID : Addr) (cl_w_BY_ID : Cell) (h0 : Heap) (n0 : Nat) (v : Option Value) (h : Heap) (L : List Loc) : Prop := v = some .null ∧ Fr n0 L ∧ h = h0
set_option maxRecDepth 65536 in
set_option maxHeartbeats 40000000 in
theorem rm2_54 (l : Launch) (Z : State) (a0 : Array Value) (hw : ∀ d ∈ tables_1, d.before a0 Z = true) (ws : List Jvm.Cond) (w_PRODUCE : Addr) (w_METADATA : Addr) (w_LIST_OFFSETS : Addr) (w_JOIN_GROUP : Addr) (w_OFFSET_COMMIT : Addr) (w_FETCH : Addr) (w_FIND_COORDINATOR : Addr) (w_CREATE_TOPICS : Addr) (w_SYNC_GROUP : Addr) (w_OFFSET_FETCH : Addr) (w_HEARTBEAT : Addr) (w_LEAVE_GROUP : Addr) (w_API_VERSIONS : Addr) (w_BY_ID : Addr) (cl_w_BY_ID : Cell) (h0 : Heap) (n0 : Nat) (Z0 : n0 ≤ h0.size) (HW : World Z h0 w_PRODUCE w_METADATA w_LIST_OFFSETS w_JOIN_GROUP w_OFFSET_COMMIT w_FETCH w_FIND_COORDINATOR w_CREATE_TOPICS w_SYNC_GROUP w_OFFSET_FETCH w_HEARTBEAT w_LEAVE_GROUP w_API_VERSIONS w_BY_ID cl_w_BY_ID) :
    MetFree l (⟨"com/example/melog/melog/protocol/ApiKeyForIdPinLaw", "expected", "(I)Lcom/example/melog/melog/protocol/ApiKey;"⟩ : MethodName) (head1 (Jvm.Cond.code (⟨"com/example/melog/melog/protocol/ApiKeyForIdPinLaw", "expected", "(I)Lcom/example/melog/melog/protocol/ApiKey;"⟩ : MethodName) method_2_code 1 (some (.object "com/example/melog/melog/protocol/ApiKey")) :: ws) ({ frames := 0, cells := 0, slots := 0, locals := 0 } : Room)) (fun a U => a = #[(.int (16 : Int32))] ∧ Z.Warmed39 U.vm ∧ U.heap = h0) (fun _ _ _ _ _ => True) (fun _ U o U' => ∃ v L, o = .returned v ∧ Q2_54 Z w_PRODUCE w_METADATA w_LIST_OFFSETS w_JOIN_GROUP w_OFFSET_COMMIT w_FETCH w_FIND_COORDINATOR w_CREATE_TOPICS w_SYNC_GROUP w_OFFSET_FETCH w_HEARTBEAT w_LEAVE_GROUP w_API_VERSIONS w_BY_ID cl_w_BY_ID h0 n0 v U'.heap L ∧ FrameEnd U o U' L ({ frames := 0, cells := 0, slots := 0, locals := 0 } : Room).cells ({ frames := 0, cells := 0, slots := 0, locals := 0 } : Room).slots) := by
  refine MetFree.of_bodySF (plainFor_of_name pn50) hisR ?_
  intro p e s m args below meth c s₁ Bd hml0 hP hK
  obtain ⟨rfl, hZ, hh⟩ := hP
  have hx := Bd.exec
  have hby := Bd.bytes
  have hml : c.maxLocals = 1 := hml0
  have hown : s.vm.findClass "com/example/melog/melog/protocol/ApiKeyForIdPinLaw" = some m.cls := findClass_of_methodNamed Bd.named
  have X0 : Stand p l e ({ frames := 0, cells := 0, slots := 0, locals := 0 } : Room) s m #[(.int (16 : Int32))] below meth c s₁ [] 0 0 := Stand.of_body Bd
  have e0 : s₁.heap = h0 := by rw [← hh, Bd.state]; rfl
  have N0 := Fr.nil n0
  have pre0 : ∀ t, Steps p.tables e below (s₁.setTop (mkF m 0 #[.val (.int (16 : Int32))] [])) t → Steps p.tables e below (s₁.setTop (entryFrame m #[(.int (16 : Int32))] 1)) t := fun t k => castTop (ef49 m (16 : Int32)) k
  obtain ⟨S_w_PRODUCE, E_w_PRODUCE, S_w_METADATA, E_w_METADATA, S_w_LIST_OFFSETS, E_w_LIST_OFFSETS, S_w_JOIN_GROUP, E_w_JOIN_GROUP, S_w_OFFSET_COMMIT, E_w_OFFSET_COMMIT, S_w_FETCH, E_w_FETCH, S_w_FIND_COORDINATOR, E_w_FIND_COORDINATOR, S_w_CREATE_TOPICS, E_w_CREATE_TOPICS, S_w_SYNC_GROUP, E_w_SYNC_GROUP, S_w_OFFSET_FETCH, E_w_OFFSET_FETCH, S_w_HEARTBEAT, E_w_HEARTBEAT, S_w_LEAVE_GROUP, E_w_LEAVE_GROUP, S_w_API_VERSIONS, E_w_API_VERSIONS, S_w_BY_ID, Ar_w_BY_ID, Sz_w_BY_ID, At_w_BY_ID_0, At_w_BY_ID_3, At_w_BY_ID_7, At_w_BY_ID_2, At_w_BY_ID_11, At_w_BY_ID_8, At_w_BY_ID_1, At_w_BY_ID_10, At_w_BY_ID_16, At_w_BY_ID_19, At_w_BY_ID_15, At_w_BY_ID_14, At_w_BY_ID_6, At_w_BY_ID_9, At_w_BY_ID_12, At_w_BY_ID_17, At_w_BY_ID_13, At_w_BY_ID_5, At_w_BY_ID_18, At_w_BY_ID_4, -⟩ := id HW
  obtain ⟨fs, hr, hrun, hended, hW, hsame⟩ := X0.leave (v := some .null) (fun h => by rw [Bd.returns] at h; cases h)
  refine ⟨_, _, pre0 _ ?_, hrun, hended, _, _, rfl, ?_, ⟨_, rfl⟩, hW, hsame.mono (by decide) (by decide)⟩
  · show Steps p.tables e below (s₁.setTop (mkF m 0 #[.val (.int (16 : Int32))] [])) _
    refine XS.iloadN X0.here hx rfl (hb hby d2_0) rfl ?_
    show Steps p.tables e below (s₁.setTop (mkF m 1 #[.val (.int (16 : Int32))] [(.int (16 : Int32))])) _
    refine XS.ifYes X0.here hx rfl (pc0 := 1) (pc' := 8) rfl (hb hby d2_1) rfl ((if0 _ _).trans (feq (by decide : ¬ ((16 : Int32) = (0 : Int32)))).2) (by decide) (by decide) ?_
    show Steps p.tables e below (s₁.setTop (mkF m 8 #[.val (.int (16 : Int32))] [])) _
    refine XS.iloadN X0.here hx rfl (hb hby d2_8) rfl ?_
    show Steps p.tables e below (s₁.setTop (mkF m 9 #[.val (.int (16 : Int32))] [(.int (16 : Int32))])) _
    refine XS.iconst X0.here hx rfl (hb hby d2_9) ?_
    show Steps p.tables e below (s₁.setTop (mkF m 10 #[.val (.int (16 : Int32))] [(.int (1 : Int32)), (.int (16 : Int32))])) _
    refine XS.icmpYes X0.here hx rfl (pc0 := 10) (pc' := 17) rfl (hb hby d2_10) rfl (feq (by decide : ¬ ((16 : Int32) = (1 : Int32)))).2 (by decide) (by decide) ?_
    show Steps p.tables e below (s₁.setTop (mkF m 17 #[.val (.int (16 : Int32))] [])) _
    refine XS.iloadN X0.here hx rfl (hb hby d2_17) rfl ?_
    show Steps p.tables e below (s₁.setTop (mkF m 18 #[.val (.int (16 : Int32))] [(.int (16 : Int32))])) _
    refine XS.iconst X0.here hx rfl (hb hby d2_18) ?_
    show Steps p.tables e below (s₁.setTop (mkF m 19 #[.val (.int (16 : Int32))] [(.int (2 : Int32)), (.int (16 : Int32))])) _
    refine XS.icmpYes X0.here hx rfl (pc0 := 19) (pc' := 26) rfl (hb hby d2_19) rfl (feq (by decide : ¬ ((16 : Int32) = (2 : Int32)))).2 (by decide) (by decide) ?_
    show Steps p.tables e below (s₁.setTop (mkF m 26 #[.val (.int (16 : Int32))] [])) _
    refine XS.iloadN X0.here hx rfl (hb hby d2_26) rfl ?_
    show Steps p.tables e below (s₁.setTop (mkF m 27 #[.val (.int (16 : Int32))] [(.int (16 : Int32))])) _
    refine XS.iconst X0.here hx rfl (hb hby d2_27) ?_
    show Steps p.tables e below (s₁.setTop (mkF m 28 #[.val (.int (16 : Int32))] [(.int (3 : Int32)), (.int (16 : Int32))])) _
    refine XS.icmpYes X0.here hx rfl (pc0 := 28) (pc' := 35) rfl (hb hby d2_28) rfl (feq (by decide : ¬ ((16 : Int32) = (3 : Int32)))).2 (by decide) (by decide) ?_
    show Steps p.tables e below (s₁.setTop (mkF m 35 #[.val (.int (16 : Int32))] [])) _
    refine XS.iloadN X0.here hx rfl (hb hby d2_35) rfl ?_
    show Steps p.tables e below (s₁.setTop (mkF m 36 #[.val (.int (16 : Int32))] [(.int (16 : Int32))])) _
    refine XS.bipush X0.here hx rfl (hb hby d2_36) ?_
    show Steps p.tables e below (s₁.setTop (mkF m 38 #[.val (.int (16 : Int32))] [(.int (8 : Int32)), (.int (16 : Int32))])) _
    refine XS.icmpYes X0.here hx rfl (pc0 := 38) (pc' := 45) rfl (hb hby d2_38) rfl (feq (by decide : ¬ ((16 : Int32) = (8 : Int32)))).2 (by decide) (by decide) ?_
    show Steps p.tables e below (s₁.setTop (mkF m 45 #[.val (.int (16 : Int32))] [])) _
    refine XS.iloadN X0.here hx rfl (hb hby d2_45) rfl ?_
    show Steps p.tables e below (s₁.setTop (mkF m 46 #[.val (.int (16 : Int32))] [(.int (16 : Int32))])) _
    refine XS.bipush X0.here hx rfl (hb hby d2_46) ?_
    show Steps p.tables e below (s₁.setTop (mkF m 48 #[.val (.int (16 : Int32))] [(.int (9 : Int32)), (.int (16 : Int32))])) _
    refine XS.icmpYes X0.here hx rfl (pc0 := 48) (pc' := 55) rfl (hb hby d2_48) rfl (feq (by decide : ¬ ((16 : Int32) = (9 : Int32)))).2 (by decide) (by decide) ?_
    show Steps p.tables e below (s₁.setTop (mkF m 55 #[.val (.int (16 : Int32))] [])) _
    refine XS.iloadN X0.here hx rfl (hb hby d2_55) rfl ?_
    show Steps p.tables e below (s₁.setTop (mkF m 56 #[.val (.int (16 : Int32))] [(.int (16 : Int32))])) _
    refine XS.bipush X0.here hx rfl (hb hby d2_56) ?_
    show Steps p.tables e below (s₁.setTop (mkF m 58 #[.val (.int (16 : Int32))] [(.int (10 : Int32)), (.int (16 : Int32))])) _
    refine XS.icmpYes X0.here hx rfl (pc0 := 58) (pc' := 65) rfl (hb hby d2_58) rfl (feq (by decide : ¬ ((16 : Int32) = (10 : Int32)))).2 (by decide) (by decide) ?_
    show Steps p.tables e below (s₁.setTop (mkF m 65 #[.val (.int (16 : Int32))] [])) _
    refine XS.iloadN X0.here hx rfl (hb hby d2_65) rfl ?_
    show Steps p.tables e below (s₁.setTop (mkF m 66 #[.val (.int (16 : Int32))] [(.int (16 : Int32))])) _
    refine XS.bipush X0.here hx rfl (hb hby d2_66) ?_
    show Steps p.tables e below (s₁.setTop (mkF m 68 #[.val (.int (16 : Int32))] [(.int (11 : Int32)), (.int (16 : Int32))])) _
    refine XS.icmpYes X0.here hx rfl (pc0 := 68) (pc' := 75) rfl (hb hby d2_68) rfl (feq (by decide : ¬ ((16 : Int32) = (11 : Int32)))).2 (by decide) (by decide) ?_
    show Steps p.tables e below (s₁.setTop (mkF m 75 #[.val (.int (16 : Int32))] [])) _
    refine XS.iloadN X0.here hx rfl (hb hby d2_75) rfl ?_
    show Steps p.tables e below (s₁.setTop (mkF m 76 #[.val (.int (16 : Int32))] [(.int (16 : Int32))])) _
    refine XS.bipush X0.here hx rfl (hb hby d2_76) ?_
    show Steps p.tables e below (s₁.setTop (mkF m 78 #[.val (.int (16 : Int32))] [(.int (12 : Int32)), (.int (16 : Int32))])) _
    refine XS.icmpYes X0.here hx rfl (pc0 := 78) (pc' := 85) rfl (hb hby d2_78) rfl (feq (by decide : ¬ ((16 : Int32) = (12 : Int32)))).2 (by decide) (by decide) ?_
    show Steps p.tables e below (s₁.setTop (mkF m 85 #[.val (.int (16 : Int32))] [])) _
    refine XS.iloadN X0.here hx rfl (hb hby d2_85) rfl ?_
    show Steps p.tables e below (s₁.setTop (mkF m 86 #[.val (.int (16 : Int32))] [(.int (16 : Int32))])) _
    refine XS.bipush X0.here hx rfl (hb hby d2_86) ?_
    show Steps p.tables e below (s₁.setTop (mkF m 88 #[.val (.int (16 : Int32))] [(.int (13 : Int32)), (.int (16 : Int32))])) _
    refine XS.icmpYes X0.here hx rfl (pc0 := 88) (pc' := 95) rfl (hb hby d2_88) rfl (feq (by decide : ¬ ((16 : Int32) = (13 : Int32)))).2 (by decide) (by decide) ?_
    show Steps p.tables e below (s₁.setTop (mkF m 95 #[.val (.int (16 : Int32))] [])) _
    refine XS.iloadN X0.here hx rfl (hb hby d2_95) rfl ?_
    show Steps p.tables e below (s₁.setTop (mkF m 96 #[.val (.int (16 : Int32))] [(.int (16 : Int32))])) _
    refine XS.bipush X0.here hx rfl (hb hby d2_96) ?_
    show Steps p.tables e below (s₁.setTop (mkF m 98 #[.val (.int (16 : Int32))] [(.int (14 : Int32)), (.int (16 : Int32))])) _
    refine XS.icmpYes X0.here hx rfl (pc0 := 98) (pc' := 105) rfl (hb hby d2_98) rfl (feq (by decide : ¬ ((16 : Int32) = (14 : Int32)))).2 (by decide) (by decide) ?_
    show Steps p.tables e below (s₁.setTop (mkF m 105 #[.val (.int (16 : Int32))] [])) _
    refine XS.iloadN X0.here hx rfl (hb hby d2_105) rfl ?_
    show Steps p.tables e below (s₁.setTop (mkF m 106 #[.val (.int (16 : Int32))] [(.int (16 : Int32))])) _
    refine XS.bipush X0.here hx rfl (hb hby d2_106) ?_
    show Steps p.tables e below (s₁.setTop (mkF m 108 #[.val (.int (16 : Int32))] [(.int (18 : Int32)), (.int (16 : Int32))])) _
    refine XS.icmpYes X0.here hx rfl (pc0 := 108) (pc' := 115) rfl (hb hby d2_108) rfl (feq (by decide : ¬ ((16 : Int32) = (18 : Int32)))).2 (by decide) (by decide) ?_
    show Steps p.tables e below (s₁.setTop (mkF m 115 #[.val (.int (16 : Int32))] [])) _
    refine XS.iloadN X0.here hx rfl (hb hby d2_115) rfl ?_
    show Steps p.tables e below (s₁.setTop (mkF m 116 #[.val (.int (16 : Int32))] [(.int (16 : Int32))])) _
    refine XS.bipush X0.here hx rfl (hb hby d2_116) ?_
    show Steps p.tables e below (s₁.setTop (mkF m 118 #[.val (.int (16 : Int32))] [(.int (19 : Int32)), (.int (16 : Int32))])) _
    refine XS.icmpYes X0.here hx rfl (pc0 := 118) (pc' := 125) rfl (hb hby d2_118) rfl (feq (by decide : ¬ ((16 : Int32) = (19 : Int32)))).2 (by decide) (by decide) ?_
    show Steps p.tables e below (s₁.setTop (mkF m 125 #[.val (.int (16 : Int32))] [])) _
    refine XS.aconstNull X0.here hx rfl (hb hby d2_125) ?_
    show Steps p.tables e below (s₁.setTop (mkF m 126 #[.val (.int (16 : Int32))] [.null])) _
    jvm_step X0.here [X0.here.top, hx, (hb hby d2_126), X0.method', Bd.returns, Value.isRef, FieldType.isReference]
    first | (intro acts; rw [hr _ acts rfl rfl rfl]) | rw [hr _ _ rfl rfl rfl]
    exact Steps.refl _
  · exact ⟨rfl, N0, e0⟩
set_option maxRecDepth 65536 in
set_option maxHeartbeats 40000000 in
theorem rm0_c16 (l : Launch) (Z : State) (a0 : Array Value) (hw : ∀ d ∈ tables_1, d.before a0 Z = true) (ws : List Jvm.Cond) (w_PRODUCE : Addr) (w_METADATA : Addr) (w_LIST_OFFSETS : Addr) (w_JOIN_GROUP : Addr) (w_OFFSET_COMMIT : Addr) (w_FETCH : Addr) (w_FIND_COORDINATOR : Addr) (w_CREATE_TOPICS : Addr) (w_SYNC_GROUP : Addr) (w_OFFSET_FETCH : Addr) (w_HEARTBEAT : Addr) (w_LEAVE_GROUP : Addr) (w_API_VERSIONS : Addr) (w_BY_ID : Addr) (cl_w_BY_ID : Cell) (p1 : Int32) (h0 : Heap) (n0 : Nat) (Z0 : n0 ≤ h0.size) (HW : World Z h0 w_PRODUCE w_METADATA w_LIST_OFFSETS w_JOIN_GROUP w_OFFSET_COMMIT w_FETCH w_FIND_COORDINATOR w_CREATE_TOPICS w_SYNC_GROUP w_OFFSET_FETCH w_HEARTBEAT w_LEAVE_GROUP w_API_VERSIONS w_BY_ID cl_w_BY_ID) (hk : (p1.toInt16.toInt32) = (16 : Int32)) :
    MetFree l x (head1 (Jvm.Cond.code x code maxLocals ret :: ws) room_1) (fun a U => a = #[(.int p1)] ∧ Z.Warmed39 U.vm ∧ U.heap = h0) (fun _ _ _ _ _ => True) (fun _ U o U' => ∃ v L, o = .returned v ∧ Q0 h0 n0 v U'.heap L ∧ FrameEnd U o U' L room_1.cells room_1.slots) := by
  refine MetFree.of_bodySF (plainFor_of_name pn50) hisR ?_
  intro p e s m args below meth c s₁ Bd hml0 hP hK
  obtain ⟨rfl, hZ, hh⟩ := hP
  have hx := Bd.exec
  have hby := Bd.bytes
  have hml : c.maxLocals = 3 := hml0
  have hown : s.vm.findClass "com/example/melog/melog/protocol/ApiKeyForIdPinLaw" = some m.cls := findClass_of_methodNamed Bd.named
  have X0 : Stand p l e room_1 s m #[(.int p1)] below meth c s₁ [] 0 0 := Stand.of_body Bd
  have e0 : s₁.heap = h0 := by rw [← hh, Bd.state]; rfl
  have N0 := Fr.nil n0
  have pre0 : ∀ t, Steps p.tables e below (s₁.setTop (mkF m 0 #[.val (.int p1), .unset, .unset] [])) t → Steps p.tables e below (s₁.setTop (entryFrame m #[(.int p1)] maxLocals)) t := fun t k => castTop (ef53 m p1) k
  obtain ⟨S_w_PRODUCE, E_w_PRODUCE, S_w_METADATA, E_w_METADATA, S_w_LIST_OFFSETS, E_w_LIST_OFFSETS, S_w_JOIN_GROUP, E_w_JOIN_GROUP, S_w_OFFSET_COMMIT, E_w_OFFSET_COMMIT, S_w_FETCH, E_w_FETCH, S_w_FIND_COORDINATOR, E_w_FIND_COORDINATOR, S_w_CREATE_TOPICS, E_w_CREATE_TOPICS, S_w_SYNC_GROUP, E_w_SYNC_GROUP, S_w_OFFSET_FETCH, E_w_OFFSET_FETCH, S_w_HEARTBEAT, E_w_HEARTBEAT, S_w_LEAVE_GROUP, E_w_LEAVE_GROUP, S_w_API_VERSIONS, E_w_API_VERSIONS, S_w_BY_ID, Ar_w_BY_ID, Sz_w_BY_ID, At_w_BY_ID_0, At_w_BY_ID_3, At_w_BY_ID_7, At_w_BY_ID_2, At_w_BY_ID_11, At_w_BY_ID_8, At_w_BY_ID_1, At_w_BY_ID_10, At_w_BY_ID_16, At_w_BY_ID_19, At_w_BY_ID_15, At_w_BY_ID_14, At_w_BY_ID_6, At_w_BY_ID_9, At_w_BY_ID_12, At_w_BY_ID_17, At_w_BY_ID_13, At_w_BY_ID_5, At_w_BY_ID_18, At_w_BY_ID_4, -⟩ := id HW
  obtain ⟨_, _, ⟨T1, L1, k1, n1⟩, -, X1, ⟨Lc1, hQ1, l1, y1, z1⟩, st1⟩ := Jvm.LawKit.callS X0 hx (y := (⟨"com/example/melog/melog/protocol/ApiKey", "forId", "(S)Lcom/example/melog/melog/protocol/ApiKey;"⟩ : MethodName)) hown (mvT hZ (hw _ (List.mem_of_getElem? (i := 0) rfl))) (mvT hZ (hw _ (List.mem_of_getElem? (i := 1) rfl))) (mvT hZ (hw _ (List.mem_of_getElem? (i := 2) rfl))) (mvT hZ (hw _ (List.mem_of_getElem? (i := 3) rfl))) (by decide) (backOf (W := 0) (rm1_53 l Z a0 hw [] w_PRODUCE w_METADATA w_LIST_OFFSETS w_JOIN_GROUP w_OFFSET_COMMIT w_FETCH w_FIND_COORDINATOR w_CREATE_TOPICS w_SYNC_GROUP w_OFFSET_FETCH w_HEARTBEAT w_LEAVE_GROUP w_API_VERSIONS w_BY_ID cl_w_BY_ID h0 n0 Z0 HW) hZ (hw _ (List.mem_of_getElem? (i := 3) rfl)) (hw _ (List.mem_of_getElem? (i := 2) rfl)) (by decide) (by decide)) (g := (mkF m 4 #[.val (.int p1), .val (.int (16 : Int32)), .unset] [(.int (16 : Int32))])) rfl (by rw [hml]; rfl) (argsL := [(.int (16 : Int32))]) (rest := []) (lenOf pd7 rfl) rfl (by show 2 * 0 + _ ≤ _; exact Nat.le_of_eq rfl) (hb hby at_4) (fun _ _ => ⟨rfl, e0, (by decide : 0 + 0 ≤ _), (by decide : 0 + 0 ≤ _)⟩)
  dsimp only [Pt.U, Pt.locs, Pt.cells, Pt.slots] at X1 l1 y1 z1 st1 hQ1
  subst l1 y1 z1
  obtain ⟨rfl, N1q, e1⟩ := hQ1
  have N1 := Fr.app N0 N1q
  obtain ⟨_, _, ⟨T2, L2, k2, n2⟩, -, X2, ⟨Lc2, hQ2, l2, y2, z2⟩, st2⟩ := Jvm.LawKit.callS X1 hx (y := (⟨"com/example/melog/melog/protocol/ApiKeyForIdPinLaw", "expected", "(I)Lcom/example/melog/melog/protocol/ApiKey;"⟩ : MethodName)) hown (mvT hZ (hw _ (List.mem_of_getElem? (i := 7) rfl))) (mvT hZ (hw _ (List.mem_of_getElem? (i := 8) rfl))) (mvT hZ (hw _ (List.mem_of_getElem? (i := 9) rfl))) (mvT hZ (hw _ (List.mem_of_getElem? (i := 10) rfl))) (by decide) (backOf (W := 1) (rm2_54 l Z a0 hw [] w_PRODUCE w_METADATA w_LIST_OFFSETS w_JOIN_GROUP w_OFFSET_COMMIT w_FETCH w_FIND_COORDINATOR w_CREATE_TOPICS w_SYNC_GROUP w_OFFSET_FETCH w_HEARTBEAT w_LEAVE_GROUP w_API_VERSIONS w_BY_ID cl_w_BY_ID h0 n0 Z0 HW) hZ (hw _ (List.mem_of_getElem? (i := 10) rfl)) (hw _ (List.mem_of_getElem? (i := 9) rfl)) (by decide) (by decide)) (g := (mkF m 10 #[.val (.int p1), .val (.int (16 : Int32)), .val .null] [(.int (16 : Int32)), .null])) rfl (by rw [hml]; rfl) (argsL := [(.int (16 : Int32))]) (rest := [.null]) (lenOf pd51 rfl) rfl (by show 2 * 0 + _ ≤ _; exact Nat.le_of_eq rfl) (hb hby at_10) (fun _ _ => ⟨rfl, e1, (by decide : 0 + 0 ≤ _), (by decide : 0 + 0 ≤ _)⟩)
  dsimp only [Pt.U, Pt.locs, Pt.cells, Pt.slots] at X2 l2 y2 z2 st2 hQ2
  subst l2 y2 z2
  obtain ⟨rfl, N2q, e2⟩ := hQ2
  have N2 := Fr.app N1 N2q
  obtain ⟨fs, hr, hrun, hended, hW, hsame⟩ := X2.leave (v := some (.int (1 : Int32))) (fun h => by rw [Bd.returns] at h; cases h)
  refine ⟨_, _, pre0 _ ?_, hrun, hended, _, _, rfl, ?_, ⟨_, rfl⟩, hW, hsame.mono (by decide) (by decide)⟩
  · show Steps p.tables e below (s₁.setTop (mkF m 0 #[.val (.int p1), .unset, .unset] [])) _
    refine XS.iloadN X0.here hx rfl (hb hby at_0) rfl ?_
    show Steps p.tables e below (s₁.setTop (mkF m 1 #[.val (.int p1), .unset, .unset] [(.int p1)])) _
    refine XS.i2s X0.here hx rfl (hb hby at_1) rfl ?_
    rw [hk]
    show Steps p.tables e below (s₁.setTop (mkF m 2 #[.val (.int p1), .unset, .unset] [(.int (16 : Int32))])) _
    refine XS.istoreN X0.here hx rfl (hb hby at_2) rfl (l' := #[.val (.int p1), .val (.int (16 : Int32)), .unset]) rfl ?_
    show Steps p.tables e below (s₁.setTop (mkF m 3 #[.val (.int p1), .val (.int (16 : Int32)), .unset] [])) _
    refine XS.iloadN X0.here hx rfl (hb hby at_3) rfl ?_
    show Steps p.tables e below (s₁.setTop (mkF m 4 #[.val (.int p1), .val (.int (16 : Int32)), .unset] [(.int (16 : Int32))])) _
    refine st1 _ ?_
    show Steps p.tables e below (T1.setTop (mkF m 7 #[.val (.int p1), .val (.int (16 : Int32)), .unset] [.null])) _
    refine XS.astoreN X1.here hx rfl (hb hby at_7) rfl rfl (l' := #[.val (.int p1), .val (.int (16 : Int32)), .val .null]) rfl ?_
    show Steps p.tables e below (T1.setTop (mkF m 8 #[.val (.int p1), .val (.int (16 : Int32)), .val .null] [])) _
    refine XS.aloadN X1.here hx rfl (hb hby at_8) rfl rfl ?_
    show Steps p.tables e below (T1.setTop (mkF m 9 #[.val (.int p1), .val (.int (16 : Int32)), .val .null] [.null])) _
    refine XS.iloadN X1.here hx rfl (hb hby at_9) rfl ?_
    show Steps p.tables e below (T1.setTop (mkF m 10 #[.val (.int p1), .val (.int (16 : Int32)), .val .null] [(.int (16 : Int32)), .null])) _
    refine st2 _ ?_
    show Steps p.tables e below (T2.setTop (mkF m 13 #[.val (.int p1), .val (.int (16 : Int32)), .val .null] [.null, .null])) _
    refine Jvm.RoadKit.acmp (g := (mkF m 13 #[.val (.int p1), .val (.int (16 : Int32)), .val .null] [.null, .null])) X2 hx rfl rfl rfl (pc0 := 13) (pc' := 16) (same := true) rfl (hb hby at_13) rfl (decide_eq_true rfl) (by decide) (by decide) ?_
    show Steps p.tables e below (T2.setTop (mkF m 16 #[.val (.int p1), .val (.int (16 : Int32)), .val .null] [])) _
    refine XS.iconst X2.here hx rfl (hb hby at_16) ?_
    show Steps p.tables e below (T2.setTop (mkF m 17 #[.val (.int p1), .val (.int (16 : Int32)), .val .null] [(.int (1 : Int32))])) _
    refine XS.goto X2.here hx rfl (pc0 := 17) (pc' := 21) rfl (hb hby at_17) (by decide) (by decide) ?_
    show Steps p.tables e below (T2.setTop (mkF m 21 #[.val (.int p1), .val (.int (16 : Int32)), .val .null] [(.int (1 : Int32))])) _
    exact retN X2 hx (t := .boolean) Bd.returns (by simp) (hb hby at_21) hr
  · exact ⟨rfl, N2⟩
def Q1_56 (Z : State) (w_PRODUCE : Addr) (w_METADATA : Addr) (w_LIST_OFFSETS : Addr) (w_JOIN_GROUP : Addr) (w_OFFSET_COMMIT : Addr) (w_FETCH : Addr) (w_FIND_COORDINATOR : Addr) (w_CREATE_TOPICS : Addr) (w_SYNC_GROUP : Addr) (w_OFFSET_FETCH : Addr) (w_HEARTBEAT : Addr) (w_LEAVE_GROUP : Addr) (w_API_VERSIONS : Addr) (w_BY_ID : Addr) (cl_w_BY_ID : Cell) (h0 : Heap) (n0 : Nat) (v : Option Value) (h : Heap) (L : List Loc) : Prop := v = some .null ∧ Fr n0 L ∧ h = h0
set_option maxRecDepth 65536 in
set_option maxHeartbeats 40000000 in
theorem rm1_56 (l : Launch) (Z : State) (a0 : Array Value) (hw : ∀ d ∈ tables_1, d.before a0 Z = true) (ws : List Jvm.Cond) (w_PRODUCE : Addr) (w_METADATA : Addr) (w_LIST_OFFSETS : Addr) (w_JOIN_GROUP : Addr) (w_OFFSET_COMMIT : Addr) (w_FETCH : Addr) (w_FIND_COORDINATOR : Addr) (w_CREATE_TOPICS : Addr) (w_SYNC_GROUP : Addr) (w_OFFSET_FETCH : Addr) (w_HEARTBEAT : Addr) (w_LEAVE_GROUP : Addr) (w_API_VERSIONS : Addr) (w_BY_ID : Addr) (cl_w_BY_ID : Cell) (h0 : Heap) (n0 : Nat) (Z0 : n0 ≤ h0.size) (HW : World Z h0 w_PRODUCE w_METADATA w_LIST_OFFSETS w_JOIN_GROUP w_OFFSET_COMMIT w_FETCH w_FIND_COORDINATOR w_CREATE_TOPICS w_SYNC_GROUP w_OFFSET_FETCH w_HEARTBEAT w_LEAVE_GROUP w_API_VERSIONS w_BY_ID cl_w_BY_ID) :
    MetFree l (⟨"com/example/melog/melog/protocol/ApiKey", "forId", "(S)Lcom/example/melog/melog/protocol/ApiKey;"⟩ : MethodName) (head1 (Jvm.Cond.code (⟨"com/example/melog/melog/protocol/ApiKey", "forId", "(S)Lcom/example/melog/melog/protocol/ApiKey;"⟩ : MethodName) prog_9_method_4_code 1 (some (.object "com/example/melog/melog/protocol/ApiKey")) :: ws) ({ frames := 0, cells := 0, slots := 0, locals := 0 } : Room)) (fun a U => a = #[(.int (17 : Int32))] ∧ Z.Warmed39 U.vm ∧ U.heap = h0) (fun _ _ _ _ _ => True) (fun _ U o U' => ∃ v L, o = .returned v ∧ Q1_56 Z w_PRODUCE w_METADATA w_LIST_OFFSETS w_JOIN_GROUP w_OFFSET_COMMIT w_FETCH w_FIND_COORDINATOR w_CREATE_TOPICS w_SYNC_GROUP w_OFFSET_FETCH w_HEARTBEAT w_LEAVE_GROUP w_API_VERSIONS w_BY_ID cl_w_BY_ID h0 n0 v U'.heap L ∧ FrameEnd U o U' L ({ frames := 0, cells := 0, slots := 0, locals := 0 } : Room).cells ({ frames := 0, cells := 0, slots := 0, locals := 0 } : Room).slots) := by
  refine MetFree.of_bodySF (plainFor_of_name pn6) hisR ?_
  intro p e s m args below meth c s₁ Bd hml0 hP hK
  obtain ⟨rfl, hZ, hh⟩ := hP
  have hx := Bd.exec
  have hby := Bd.bytes
  have hml : c.maxLocals = 1 := hml0
  have hown : s.vm.findClass "com/example/melog/melog/protocol/ApiKey" = some m.cls := findClass_of_methodNamed Bd.named
  have X0 : Stand p l e ({ frames := 0, cells := 0, slots := 0, locals := 0 } : Room) s m #[(.int (17 : Int32))] below meth c s₁ [] 0 0 := Stand.of_body Bd
  have e0 : s₁.heap = h0 := by rw [← hh, Bd.state]; rfl
  have N0 := Fr.nil n0
  have pre0 : ∀ t, Steps p.tables e below (s₁.setTop (mkF m 0 #[.val (.int (17 : Int32))] [])) t → Steps p.tables e below (s₁.setTop (entryFrame m #[(.int (17 : Int32))] 1)) t := fun t k => castTop (ef5 m (17 : Int32)) k
  obtain ⟨S_w_PRODUCE, E_w_PRODUCE, S_w_METADATA, E_w_METADATA, S_w_LIST_OFFSETS, E_w_LIST_OFFSETS, S_w_JOIN_GROUP, E_w_JOIN_GROUP, S_w_OFFSET_COMMIT, E_w_OFFSET_COMMIT, S_w_FETCH, E_w_FETCH, S_w_FIND_COORDINATOR, E_w_FIND_COORDINATOR, S_w_CREATE_TOPICS, E_w_CREATE_TOPICS, S_w_SYNC_GROUP, E_w_SYNC_GROUP, S_w_OFFSET_FETCH, E_w_OFFSET_FETCH, S_w_HEARTBEAT, E_w_HEARTBEAT, S_w_LEAVE_GROUP, E_w_LEAVE_GROUP, S_w_API_VERSIONS, E_w_API_VERSIONS, S_w_BY_ID, Ar_w_BY_ID, Sz_w_BY_ID, At_w_BY_ID_0, At_w_BY_ID_3, At_w_BY_ID_7, At_w_BY_ID_2, At_w_BY_ID_11, At_w_BY_ID_8, At_w_BY_ID_1, At_w_BY_ID_10, At_w_BY_ID_16, At_w_BY_ID_19, At_w_BY_ID_15, At_w_BY_ID_14, At_w_BY_ID_6, At_w_BY_ID_9, At_w_BY_ID_12, At_w_BY_ID_17, At_w_BY_ID_13, At_w_BY_ID_5, At_w_BY_ID_18, At_w_BY_ID_4, -⟩ := id HW
  obtain ⟨T1, X1, e1, st1⟩ := getS2 X0 hx hZ hown (host := "") (Or.inl (hw _ (List.mem_of_getElem? (i := 4) rfl))) Via.refl e0 S_w_BY_ID (g := (mkF m 5 #[.val (.int (17 : Int32))] [(.int (17 : Int32))])) rfl (hb hby d1_5)
  obtain ⟨T2, X2, e2, st2⟩ := getS2 X1 hx hZ hown (host := "") (Or.inl (hw _ (List.mem_of_getElem? (i := 4) rfl))) Via.refl e1 S_w_BY_ID (g := (mkF m 12 #[.val (.int (17 : Int32))] [])) rfl (hb hby d1_12)
  obtain ⟨fs, hr, hrun, hended, hW, hsame⟩ := X2.leave (v := some .null) (fun h => by rw [Bd.returns] at h; cases h)
  refine ⟨_, _, pre0 _ ?_, hrun, hended, _, _, rfl, ?_, ⟨_, rfl⟩, hW, hsame.mono (by decide) (by decide)⟩
  · show Steps p.tables e below (s₁.setTop (mkF m 0 #[.val (.int (17 : Int32))] [])) _
    refine XS.iloadN X0.here hx rfl (hb hby d1_0) rfl ?_
    show Steps p.tables e below (s₁.setTop (mkF m 1 #[.val (.int (17 : Int32))] [(.int (17 : Int32))])) _
    refine XS.ifNo X0.here hx rfl (hb hby d1_1) rfl ((if0 _ _).trans (flt (by decide : ¬ ((17 : Int32) < (0 : Int32)))).1) ?_
    show Steps p.tables e below (s₁.setTop (mkF m 4 #[.val (.int (17 : Int32))] [])) _
    refine XS.iloadN X0.here hx rfl (hb hby d1_4) rfl ?_
    show Steps p.tables e below (s₁.setTop (mkF m 5 #[.val (.int (17 : Int32))] [(.int (17 : Int32))])) _
    refine st1 _ ?_
    show Steps p.tables e below (T1.setTop (mkF m 8 #[.val (.int (17 : Int32))] [(.ref w_BY_ID), (.int (17 : Int32))])) _
    refine X1.arraylength hx (by rw [e1]; exact Ar_w_BY_ID.1) (State.isArrayOf_alike hZ.alike Ar_w_BY_ID.2.1) (g := (mkF m 8 #[.val (.int (17 : Int32))] [(.ref w_BY_ID), (.int (17 : Int32))])) rfl rfl (hb hby d1_8) _ ?_
    rw [Sz_w_BY_ID]
    show Steps p.tables e below (T1.setTop (mkF m 9 #[.val (.int (17 : Int32))] [(.int (20 : Int32)), (.int (17 : Int32))])) _
    refine XS.icmpNo X1.here hx rfl (hb hby d1_9) rfl (tlt (by decide : (17 : Int32) < (20 : Int32))).2.1 ?_
    show Steps p.tables e below (T1.setTop (mkF m 12 #[.val (.int (17 : Int32))] [])) _
    refine st2 _ ?_
    show Steps p.tables e below (T2.setTop (mkF m 15 #[.val (.int (17 : Int32))] [(.ref w_BY_ID)])) _
    refine XS.iloadN X2.here hx rfl (hb hby d1_15) rfl ?_
    show Steps p.tables e below (T2.setTop (mkF m 16 #[.val (.int (17 : Int32))] [(.int (17 : Int32)), (.ref w_BY_ID)])) _
    refine X2.aaload hx (j := (17 : Int32)) (v := .null) (by rw [e2]; exact Ar_w_BY_ID.1) (State.isArrayOf_alike hZ.alike Ar_w_BY_ID.2.1) rfl Ar_w_BY_ID.2.2 At_w_BY_ID_17.1 At_w_BY_ID_17.2 (g := (mkF m 16 #[.val (.int (17 : Int32))] [(.int (17 : Int32)), (.ref w_BY_ID)])) rfl rfl (hb hby d1_16) _ ?_
    show Steps p.tables e below (T2.setTop (mkF m 17 #[.val (.int (17 : Int32))] [.null])) _
    refine XS.goto X2.here hx rfl (pc0 := 17) (pc' := 21) rfl (hb hby d1_17) (by decide) (by decide) ?_
    show Steps p.tables e below (T2.setTop (mkF m 21 #[.val (.int (17 : Int32))] [.null])) _
    jvm_step X2.here [X2.here.top, hx, (hb hby d1_21), X2.method', Bd.returns, Value.isRef, FieldType.isReference]
    first | (intro acts; rw [hr _ acts rfl rfl rfl]) | rw [hr _ _ rfl rfl rfl]
    exact Steps.refl _
  · exact ⟨rfl, N0, e2⟩
def Q2_57 (Z : State) (w_PRODUCE : Addr) (w_METADATA : Addr) (w_LIST_OFFSETS : Addr) (w_JOIN_GROUP : Addr) (w_OFFSET_COMMIT : Addr) (w_FETCH : Addr) (w_FIND_COORDINATOR : Addr) (w_CREATE_TOPICS : Addr) (w_SYNC_GROUP : Addr) (w_OFFSET_FETCH : Addr) (w_HEARTBEAT : Addr) (w_LEAVE_GROUP : Addr) (w_API_VERSIONS : Addr) (w_BY_ID : Addr) (cl_w_BY_ID : Cell) (h0 : Heap) (n0 : Nat) (v : Option Value) (h : Heap) (L : List Loc) : Prop := v = some .null ∧ Fr n0 L ∧ h = h0
set_option maxRecDepth 65536 in
set_option maxHeartbeats 40000000 in
theorem rm2_57 (l : Launch) (Z : State) (a0 : Array Value) (hw : ∀ d ∈ tables_1, d.before a0 Z = true) (ws : List Jvm.Cond) (w_PRODUCE : Addr) (w_METADATA : Addr) (w_LIST_OFFSETS : Addr) (w_JOIN_GROUP : Addr) (w_OFFSET_COMMIT : Addr) (w_FETCH : Addr) (w_FIND_COORDINATOR : Addr) (w_CREATE_TOPICS : Addr) (w_SYNC_GROUP : Addr) (w_OFFSET_FETCH : Addr) (w_HEARTBEAT : Addr) (w_LEAVE_GROUP : Addr) (w_API_VERSIONS : Addr) (w_BY_ID : Addr) (cl_w_BY_ID : Cell) (h0 : Heap) (n0 : Nat) (Z0 : n0 ≤ h0.size) (HW : World Z h0 w_PRODUCE w_METADATA w_LIST_OFFSETS w_JOIN_GROUP w_OFFSET_COMMIT w_FETCH w_FIND_COORDINATOR w_CREATE_TOPICS w_SYNC_GROUP w_OFFSET_FETCH w_HEARTBEAT w_LEAVE_GROUP w_API_VERSIONS w_BY_ID cl_w_BY_ID) :
    MetFree l (⟨"com/example/melog/melog/protocol/ApiKeyForIdPinLaw", "expected", "(I)Lcom/example/melog/melog/protocol/ApiKey;"⟩ : MethodName) (head1 (Jvm.Cond.code (⟨"com/example/melog/melog/protocol/ApiKeyForIdPinLaw", "expected", "(I)Lcom/example/melog/melog/protocol/ApiKey;"⟩ : MethodName) method_2_code 1 (some (.object "com/example/melog/melog/protocol/ApiKey")) :: ws) ({ frames := 0, cells := 0, slots := 0, locals := 0 } : Room)) (fun a U => a = #[(.int (17 : Int32))] ∧ Z.Warmed39 U.vm ∧ U.heap = h0) (fun _ _ _ _ _ => True) (fun _ U o U' => ∃ v L, o = .returned v ∧ Q2_57 Z w_PRODUCE w_METADATA w_LIST_OFFSETS w_JOIN_GROUP w_OFFSET_COMMIT w_FETCH w_FIND_COORDINATOR w_CREATE_TOPICS w_SYNC_GROUP w_OFFSET_FETCH w_HEARTBEAT w_LEAVE_GROUP w_API_VERSIONS w_BY_ID cl_w_BY_ID h0 n0 v U'.heap L ∧ FrameEnd U o U' L ({ frames := 0, cells := 0, slots := 0, locals := 0 } : Room).cells ({ frames := 0, cells := 0, slots := 0, locals := 0 } : Room).slots) := by
  refine MetFree.of_bodySF (plainFor_of_name pn50) hisR ?_
  intro p e s m args below meth c s₁ Bd hml0 hP hK
  obtain ⟨rfl, hZ, hh⟩ := hP
  have hx := Bd.exec
  have hby := Bd.bytes
  have hml : c.maxLocals = 1 := hml0
  have hown : s.vm.findClass "com/example/melog/melog/protocol/ApiKeyForIdPinLaw" = some m.cls := findClass_of_methodNamed Bd.named
  have X0 : Stand p l e ({ frames := 0, cells := 0, slots := 0, locals := 0 } : Room) s m #[(.int (17 : Int32))] below meth c s₁ [] 0 0 := Stand.of_body Bd
  have e0 : s₁.heap = h0 := by rw [← hh, Bd.state]; rfl
  have N0 := Fr.nil n0
  have pre0 : ∀ t, Steps p.tables e below (s₁.setTop (mkF m 0 #[.val (.int (17 : Int32))] [])) t → Steps p.tables e below (s₁.setTop (entryFrame m #[(.int (17 : Int32))] 1)) t := fun t k => castTop (ef49 m (17 : Int32)) k
  obtain ⟨S_w_PRODUCE, E_w_PRODUCE, S_w_METADATA, E_w_METADATA, S_w_LIST_OFFSETS, E_w_LIST_OFFSETS, S_w_JOIN_GROUP, E_w_JOIN_GROUP, S_w_OFFSET_COMMIT, E_w_OFFSET_COMMIT, S_w_FETCH, E_w_FETCH, S_w_FIND_COORDINATOR, E_w_FIND_COORDINATOR, S_w_CREATE_TOPICS, E_w_CREATE_TOPICS, S_w_SYNC_GROUP, E_w_SYNC_GROUP, S_w_OFFSET_FETCH, E_w_OFFSET_FETCH, S_w_HEARTBEAT, E_w_HEARTBEAT, S_w_LEAVE_GROUP, E_w_LEAVE_GROUP, S_w_API_VERSIONS, E_w_API_VERSIONS, S_w_BY_ID, Ar_w_BY_ID, Sz_w_BY_ID, At_w_BY_ID_0, At_w_BY_ID_3, At_w_BY_ID_7, At_w_BY_ID_2, At_w_BY_ID_11, At_w_BY_ID_8, At_w_BY_ID_1, At_w_BY_ID_10, At_w_BY_ID_16, At_w_BY_ID_19, At_w_BY_ID_15, At_w_BY_ID_14, At_w_BY_ID_6, At_w_BY_ID_9, At_w_BY_ID_12, At_w_BY_ID_17, At_w_BY_ID_13, At_w_BY_ID_5, At_w_BY_ID_18, At_w_BY_ID_4, -⟩ := id HW
  obtain ⟨fs, hr, hrun, hended, hW, hsame⟩ := X0.leave (v := some .null) (fun h => by rw [Bd.returns] at h; cases h)
  refine ⟨_, _, pre0 _ ?_, hrun, hended, _, _, rfl, ?_, ⟨_, rfl⟩, hW, hsame.mono (by decide) (by decide)⟩
  · show Steps p.tables e below (s₁.setTop (mkF m 0 #[.val (.int (17 : Int32))] [])) _
    refine XS.iloadN X0.here hx rfl (hb hby d2_0) rfl ?_
    show Steps p.tables e below (s₁.setTop (mkF m 1 #[.val (.int (17 : Int32))] [(.int (17 : Int32))])) _
    refine XS.ifYes X0.here hx rfl (pc0 := 1) (pc' := 8) rfl (hb hby d2_1) rfl ((if0 _ _).trans (feq (by decide : ¬ ((17 : Int32) = (0 : Int32)))).2) (by decide) (by decide) ?_
    show Steps p.tables e below (s₁.setTop (mkF m 8 #[.val (.int (17 : Int32))] [])) _
    refine XS.iloadN X0.here hx rfl (hb hby d2_8) rfl ?_
    show Steps p.tables e below (s₁.setTop (mkF m 9 #[.val (.int (17 : Int32))] [(.int (17 : Int32))])) _
    refine XS.iconst X0.here hx rfl (hb hby d2_9) ?_
    show Steps p.tables e below (s₁.setTop (mkF m 10 #[.val (.int (17 : Int32))] [(.int (1 : Int32)), (.int (17 : Int32))])) _
    refine XS.icmpYes X0.here hx rfl (pc0 := 10) (pc' := 17) rfl (hb hby d2_10) rfl (feq (by decide : ¬ ((17 : Int32) = (1 : Int32)))).2 (by decide) (by decide) ?_
    show Steps p.tables e below (s₁.setTop (mkF m 17 #[.val (.int (17 : Int32))] [])) _
    refine XS.iloadN X0.here hx rfl (hb hby d2_17) rfl ?_
    show Steps p.tables e below (s₁.setTop (mkF m 18 #[.val (.int (17 : Int32))] [(.int (17 : Int32))])) _
    refine XS.iconst X0.here hx rfl (hb hby d2_18) ?_
    show Steps p.tables e below (s₁.setTop (mkF m 19 #[.val (.int (17 : Int32))] [(.int (2 : Int32)), (.int (17 : Int32))])) _
    refine XS.icmpYes X0.here hx rfl (pc0 := 19) (pc' := 26) rfl (hb hby d2_19) rfl (feq (by decide : ¬ ((17 : Int32) = (2 : Int32)))).2 (by decide) (by decide) ?_
    show Steps p.tables e below (s₁.setTop (mkF m 26 #[.val (.int (17 : Int32))] [])) _
    refine XS.iloadN X0.here hx rfl (hb hby d2_26) rfl ?_
    show Steps p.tables e below (s₁.setTop (mkF m 27 #[.val (.int (17 : Int32))] [(.int (17 : Int32))])) _
    refine XS.iconst X0.here hx rfl (hb hby d2_27) ?_
    show Steps p.tables e below (s₁.setTop (mkF m 28 #[.val (.int (17 : Int32))] [(.int (3 : Int32)), (.int (17 : Int32))])) _
    refine XS.icmpYes X0.here hx rfl (pc0 := 28) (pc' := 35) rfl (hb hby d2_28) rfl (feq (by decide : ¬ ((17 : Int32) = (3 : Int32)))).2 (by decide) (by decide) ?_
    show Steps p.tables e below (s₁.setTop (mkF m 35 #[.val (.int (17 : Int32))] [])) _
    refine XS.iloadN X0.here hx rfl (hb hby d2_35) rfl ?_
    show Steps p.tables e below (s₁.setTop (mkF m 36 #[.val (.int (17 : Int32))] [(.int (17 : Int32))])) _
    refine XS.bipush X0.here hx rfl (hb hby d2_36) ?_
    show Steps p.tables e below (s₁.setTop (mkF m 38 #[.val (.int (17 : Int32))] [(.int (8 : Int32)), (.int (17 : Int32))])) _
    refine XS.icmpYes X0.here hx rfl (pc0 := 38) (pc' := 45) rfl (hb hby d2_38) rfl (feq (by decide : ¬ ((17 : Int32) = (8 : Int32)))).2 (by decide) (by decide) ?_
    show Steps p.tables e below (s₁.setTop (mkF m 45 #[.val (.int (17 : Int32))] [])) _
    refine XS.iloadN X0.here hx rfl (hb hby d2_45) rfl ?_
    show Steps p.tables e below (s₁.setTop (mkF m 46 #[.val (.int (17 : Int32))] [(.int (17 : Int32))])) _
    refine XS.bipush X0.here hx rfl (hb hby d2_46) ?_
    show Steps p.tables e below (s₁.setTop (mkF m 48 #[.val (.int (17 : Int32))] [(.int (9 : Int32)), (.int (17 : Int32))])) _
    refine XS.icmpYes X0.here hx rfl (pc0 := 48) (pc' := 55) rfl (hb hby d2_48) rfl (feq (by decide : ¬ ((17 : Int32) = (9 : Int32)))).2 (by decide) (by decide) ?_
    show Steps p.tables e below (s₁.setTop (mkF m 55 #[.val (.int (17 : Int32))] [])) _
    refine XS.iloadN X0.here hx rfl (hb hby d2_55) rfl ?_
    show Steps p.tables e below (s₁.setTop (mkF m 56 #[.val (.int (17 : Int32))] [(.int (17 : Int32))])) _
    refine XS.bipush X0.here hx rfl (hb hby d2_56) ?_
    show Steps p.tables e below (s₁.setTop (mkF m 58 #[.val (.int (17 : Int32))] [(.int (10 : Int32)), (.int (17 : Int32))])) _
    refine XS.icmpYes X0.here hx rfl (pc0 := 58) (pc' := 65) rfl (hb hby d2_58) rfl (feq (by decide : ¬ ((17 : Int32) = (10 : Int32)))).2 (by decide) (by decide) ?_
    show Steps p.tables e below (s₁.setTop (mkF m 65 #[.val (.int (17 : Int32))] [])) _
    refine XS.iloadN X0.here hx rfl (hb hby d2_65) rfl ?_
    show Steps p.tables e below (s₁.setTop (mkF m 66 #[.val (.int (17 : Int32))] [(.int (17 : Int32))])) _
    refine XS.bipush X0.here hx rfl (hb hby d2_66) ?_
    show Steps p.tables e below (s₁.setTop (mkF m 68 #[.val (.int (17 : Int32))] [(.int (11 : Int32)), (.int (17 : Int32))])) _
    refine XS.icmpYes X0.here hx rfl (pc0 := 68) (pc' := 75) rfl (hb hby d2_68) rfl (feq (by decide : ¬ ((17 : Int32) = (11 : Int32)))).2 (by decide) (by decide) ?_
    show Steps p.tables e below (s₁.setTop (mkF m 75 #[.val (.int (17 : Int32))] [])) _
    refine XS.iloadN X0.here hx rfl (hb hby d2_75) rfl ?_
    show Steps p.tables e below (s₁.setTop (mkF m 76 #[.val (.int (17 : Int32))] [(.int (17 : Int32))])) _
    refine XS.bipush X0.here hx rfl (hb hby d2_76) ?_
    show Steps p.tables e below (s₁.setTop (mkF m 78 #[.val (.int (17 : Int32))] [(.int (12 : Int32)), (.int (17 : Int32))])) _
    refine XS.icmpYes X0.here hx rfl (pc0 := 78) (pc' := 85) rfl (hb hby d2_78) rfl (feq (by decide : ¬ ((17 : Int32) = (12 : Int32)))).2 (by decide) (by decide) ?_
    show Steps p.tables e below (s₁.setTop (mkF m 85 #[.val (.int (17 : Int32))] [])) _
    refine XS.iloadN X0.here hx rfl (hb hby d2_85) rfl ?_
    show Steps p.tables e below (s₁.setTop (mkF m 86 #[.val (.int (17 : Int32))] [(.int (17 : Int32))])) _
    refine XS.bipush X0.here hx rfl (hb hby d2_86) ?_
    show Steps p.tables e below (s₁.setTop (mkF m 88 #[.val (.int (17 : Int32))] [(.int (13 : Int32)), (.int (17 : Int32))])) _
    refine XS.icmpYes X0.here hx rfl (pc0 := 88) (pc' := 95) rfl (hb hby d2_88) rfl (feq (by decide : ¬ ((17 : Int32) = (13 : Int32)))).2 (by decide) (by decide) ?_
    show Steps p.tables e below (s₁.setTop (mkF m 95 #[.val (.int (17 : Int32))] [])) _
    refine XS.iloadN X0.here hx rfl (hb hby d2_95) rfl ?_
    show Steps p.tables e below (s₁.setTop (mkF m 96 #[.val (.int (17 : Int32))] [(.int (17 : Int32))])) _
    refine XS.bipush X0.here hx rfl (hb hby d2_96) ?_
    show Steps p.tables e below (s₁.setTop (mkF m 98 #[.val (.int (17 : Int32))] [(.int (14 : Int32)), (.int (17 : Int32))])) _
    refine XS.icmpYes X0.here hx rfl (pc0 := 98) (pc' := 105) rfl (hb hby d2_98) rfl (feq (by decide : ¬ ((17 : Int32) = (14 : Int32)))).2 (by decide) (by decide) ?_
    show Steps p.tables e below (s₁.setTop (mkF m 105 #[.val (.int (17 : Int32))] [])) _
    refine XS.iloadN X0.here hx rfl (hb hby d2_105) rfl ?_
    show Steps p.tables e below (s₁.setTop (mkF m 106 #[.val (.int (17 : Int32))] [(.int (17 : Int32))])) _
    refine XS.bipush X0.here hx rfl (hb hby d2_106) ?_
    show Steps p.tables e below (s₁.setTop (mkF m 108 #[.val (.int (17 : Int32))] [(.int (18 : Int32)), (.int (17 : Int32))])) _
    refine XS.icmpYes X0.here hx rfl (pc0 := 108) (pc' := 115) rfl (hb hby d2_108) rfl (feq (by decide : ¬ ((17 : Int32) = (18 : Int32)))).2 (by decide) (by decide) ?_
    show Steps p.tables e below (s₁.setTop (mkF m 115 #[.val (.int (17 : Int32))] [])) _
    refine XS.iloadN X0.here hx rfl (hb hby d2_115) rfl ?_
    show Steps p.tables e below (s₁.setTop (mkF m 116 #[.val (.int (17 : Int32))] [(.int (17 : Int32))])) _
    refine XS.bipush X0.here hx rfl (hb hby d2_116) ?_
    show Steps p.tables e below (s₁.setTop (mkF m 118 #[.val (.int (17 : Int32))] [(.int (19 : Int32)), (.int (17 : Int32))])) _
    refine XS.icmpYes X0.here hx rfl (pc0 := 118) (pc' := 125) rfl (hb hby d2_118) rfl (feq (by decide : ¬ ((17 : Int32) = (19 : Int32)))).2 (by decide) (by decide) ?_
    show Steps p.tables e below (s₁.setTop (mkF m 125 #[.val (.int (17 : Int32))] [])) _
    refine XS.aconstNull X0.here hx rfl (hb hby d2_125) ?_
    show Steps p.tables e below (s₁.setTop (mkF m 126 #[.val (.int (17 : Int32))] [.null])) _
    jvm_step X0.here [X0.here.top, hx, (hb hby d2_126), X0.method', Bd.returns, Value.isRef, FieldType.isReference]
    first | (intro acts; rw [hr _ acts rfl rfl rfl]) | rw [hr _ _ rfl rfl rfl]
    exact Steps.refl _
  · exact ⟨rfl, N0, e0⟩
set_option maxRecDepth 65536 in
set_option maxHeartbeats 40000000 in
theorem rm0_c17 (l : Launch) (Z : State) (a0 : Array Value) (hw : ∀ d ∈ tables_1, d.before a0 Z = true) (ws : List Jvm.Cond) (w_PRODUCE : Addr) (w_METADATA : Addr) (w_LIST_OFFSETS : Addr) (w_JOIN_GROUP : Addr) (w_OFFSET_COMMIT : Addr) (w_FETCH : Addr) (w_FIND_COORDINATOR : Addr) (w_CREATE_TOPICS : Addr) (w_SYNC_GROUP : Addr) (w_OFFSET_FETCH : Addr) (w_HEARTBEAT : Addr) (w_LEAVE_GROUP : Addr) (w_API_VERSIONS : Addr) (w_BY_ID : Addr) (cl_w_BY_ID : Cell) (p1 : Int32) (h0 : Heap) (n0 : Nat) (Z0 : n0 ≤ h0.size) (HW : World Z h0 w_PRODUCE w_METADATA w_LIST_OFFSETS w_JOIN_GROUP w_OFFSET_COMMIT w_FETCH w_FIND_COORDINATOR w_CREATE_TOPICS w_SYNC_GROUP w_OFFSET_FETCH w_HEARTBEAT w_LEAVE_GROUP w_API_VERSIONS w_BY_ID cl_w_BY_ID) (hk : (p1.toInt16.toInt32) = (17 : Int32)) :
    MetFree l x (head1 (Jvm.Cond.code x code maxLocals ret :: ws) room_1) (fun a U => a = #[(.int p1)] ∧ Z.Warmed39 U.vm ∧ U.heap = h0) (fun _ _ _ _ _ => True) (fun _ U o U' => ∃ v L, o = .returned v ∧ Q0 h0 n0 v U'.heap L ∧ FrameEnd U o U' L room_1.cells room_1.slots) := by
  refine MetFree.of_bodySF (plainFor_of_name pn50) hisR ?_
  intro p e s m args below meth c s₁ Bd hml0 hP hK
  obtain ⟨rfl, hZ, hh⟩ := hP
  have hx := Bd.exec
  have hby := Bd.bytes
  have hml : c.maxLocals = 3 := hml0
  have hown : s.vm.findClass "com/example/melog/melog/protocol/ApiKeyForIdPinLaw" = some m.cls := findClass_of_methodNamed Bd.named
  have X0 : Stand p l e room_1 s m #[(.int p1)] below meth c s₁ [] 0 0 := Stand.of_body Bd
  have e0 : s₁.heap = h0 := by rw [← hh, Bd.state]; rfl
  have N0 := Fr.nil n0
  have pre0 : ∀ t, Steps p.tables e below (s₁.setTop (mkF m 0 #[.val (.int p1), .unset, .unset] [])) t → Steps p.tables e below (s₁.setTop (entryFrame m #[(.int p1)] maxLocals)) t := fun t k => castTop (ef53 m p1) k
  obtain ⟨S_w_PRODUCE, E_w_PRODUCE, S_w_METADATA, E_w_METADATA, S_w_LIST_OFFSETS, E_w_LIST_OFFSETS, S_w_JOIN_GROUP, E_w_JOIN_GROUP, S_w_OFFSET_COMMIT, E_w_OFFSET_COMMIT, S_w_FETCH, E_w_FETCH, S_w_FIND_COORDINATOR, E_w_FIND_COORDINATOR, S_w_CREATE_TOPICS, E_w_CREATE_TOPICS, S_w_SYNC_GROUP, E_w_SYNC_GROUP, S_w_OFFSET_FETCH, E_w_OFFSET_FETCH, S_w_HEARTBEAT, E_w_HEARTBEAT, S_w_LEAVE_GROUP, E_w_LEAVE_GROUP, S_w_API_VERSIONS, E_w_API_VERSIONS, S_w_BY_ID, Ar_w_BY_ID, Sz_w_BY_ID, At_w_BY_ID_0, At_w_BY_ID_3, At_w_BY_ID_7, At_w_BY_ID_2, At_w_BY_ID_11, At_w_BY_ID_8, At_w_BY_ID_1, At_w_BY_ID_10, At_w_BY_ID_16, At_w_BY_ID_19, At_w_BY_ID_15, At_w_BY_ID_14, At_w_BY_ID_6, At_w_BY_ID_9, At_w_BY_ID_12, At_w_BY_ID_17, At_w_BY_ID_13, At_w_BY_ID_5, At_w_BY_ID_18, At_w_BY_ID_4, -⟩ := id HW
  obtain ⟨_, _, ⟨T1, L1, k1, n1⟩, -, X1, ⟨Lc1, hQ1, l1, y1, z1⟩, st1⟩ := Jvm.LawKit.callS X0 hx (y := (⟨"com/example/melog/melog/protocol/ApiKey", "forId", "(S)Lcom/example/melog/melog/protocol/ApiKey;"⟩ : MethodName)) hown (mvT hZ (hw _ (List.mem_of_getElem? (i := 0) rfl))) (mvT hZ (hw _ (List.mem_of_getElem? (i := 1) rfl))) (mvT hZ (hw _ (List.mem_of_getElem? (i := 2) rfl))) (mvT hZ (hw _ (List.mem_of_getElem? (i := 3) rfl))) (by decide) (backOf (W := 0) (rm1_56 l Z a0 hw [] w_PRODUCE w_METADATA w_LIST_OFFSETS w_JOIN_GROUP w_OFFSET_COMMIT w_FETCH w_FIND_COORDINATOR w_CREATE_TOPICS w_SYNC_GROUP w_OFFSET_FETCH w_HEARTBEAT w_LEAVE_GROUP w_API_VERSIONS w_BY_ID cl_w_BY_ID h0 n0 Z0 HW) hZ (hw _ (List.mem_of_getElem? (i := 3) rfl)) (hw _ (List.mem_of_getElem? (i := 2) rfl)) (by decide) (by decide)) (g := (mkF m 4 #[.val (.int p1), .val (.int (17 : Int32)), .unset] [(.int (17 : Int32))])) rfl (by rw [hml]; rfl) (argsL := [(.int (17 : Int32))]) (rest := []) (lenOf pd7 rfl) rfl (by show 2 * 0 + _ ≤ _; exact Nat.le_of_eq rfl) (hb hby at_4) (fun _ _ => ⟨rfl, e0, (by decide : 0 + 0 ≤ _), (by decide : 0 + 0 ≤ _)⟩)
  dsimp only [Pt.U, Pt.locs, Pt.cells, Pt.slots] at X1 l1 y1 z1 st1 hQ1
  subst l1 y1 z1
  obtain ⟨rfl, N1q, e1⟩ := hQ1
  have N1 := Fr.app N0 N1q
  obtain ⟨_, _, ⟨T2, L2, k2, n2⟩, -, X2, ⟨Lc2, hQ2, l2, y2, z2⟩, st2⟩ := Jvm.LawKit.callS X1 hx (y := (⟨"com/example/melog/melog/protocol/ApiKeyForIdPinLaw", "expected", "(I)Lcom/example/melog/melog/protocol/ApiKey;"⟩ : MethodName)) hown (mvT hZ (hw _ (List.mem_of_getElem? (i := 7) rfl))) (mvT hZ (hw _ (List.mem_of_getElem? (i := 8) rfl))) (mvT hZ (hw _ (List.mem_of_getElem? (i := 9) rfl))) (mvT hZ (hw _ (List.mem_of_getElem? (i := 10) rfl))) (by decide) (backOf (W := 1) (rm2_57 l Z a0 hw [] w_PRODUCE w_METADATA w_LIST_OFFSETS w_JOIN_GROUP w_OFFSET_COMMIT w_FETCH w_FIND_COORDINATOR w_CREATE_TOPICS w_SYNC_GROUP w_OFFSET_FETCH w_HEARTBEAT w_LEAVE_GROUP w_API_VERSIONS w_BY_ID cl_w_BY_ID h0 n0 Z0 HW) hZ (hw _ (List.mem_of_getElem? (i := 10) rfl)) (hw _ (List.mem_of_getElem? (i := 9) rfl)) (by decide) (by decide)) (g := (mkF m 10 #[.val (.int p1), .val (.int (17 : Int32)), .val .null] [(.int (17 : Int32)), .null])) rfl (by rw [hml]; rfl) (argsL := [(.int (17 : Int32))]) (rest := [.null]) (lenOf pd51 rfl) rfl (by show 2 * 0 + _ ≤ _; exact Nat.le_of_eq rfl) (hb hby at_10) (fun _ _ => ⟨rfl, e1, (by decide : 0 + 0 ≤ _), (by decide : 0 + 0 ≤ _)⟩)
  dsimp only [Pt.U, Pt.locs, Pt.cells, Pt.slots] at X2 l2 y2 z2 st2 hQ2
  subst l2 y2 z2
  obtain ⟨rfl, N2q, e2⟩ := hQ2
  have N2 := Fr.app N1 N2q
  obtain ⟨fs, hr, hrun, hended, hW, hsame⟩ := X2.leave (v := some (.int (1 : Int32))) (fun h => by rw [Bd.returns] at h; cases h)
  refine ⟨_, _, pre0 _ ?_, hrun, hended, _, _, rfl, ?_, ⟨_, rfl⟩, hW, hsame.mono (by decide) (by decide)⟩
  · show Steps p.tables e below (s₁.setTop (mkF m 0 #[.val (.int p1), .unset, .unset] [])) _
    refine XS.iloadN X0.here hx rfl (hb hby at_0) rfl ?_
    show Steps p.tables e below (s₁.setTop (mkF m 1 #[.val (.int p1), .unset, .unset] [(.int p1)])) _
    refine XS.i2s X0.here hx rfl (hb hby at_1) rfl ?_
    rw [hk]
    show Steps p.tables e below (s₁.setTop (mkF m 2 #[.val (.int p1), .unset, .unset] [(.int (17 : Int32))])) _
    refine XS.istoreN X0.here hx rfl (hb hby at_2) rfl (l' := #[.val (.int p1), .val (.int (17 : Int32)), .unset]) rfl ?_
    show Steps p.tables e below (s₁.setTop (mkF m 3 #[.val (.int p1), .val (.int (17 : Int32)), .unset] [])) _
    refine XS.iloadN X0.here hx rfl (hb hby at_3) rfl ?_
    show Steps p.tables e below (s₁.setTop (mkF m 4 #[.val (.int p1), .val (.int (17 : Int32)), .unset] [(.int (17 : Int32))])) _
    refine st1 _ ?_
    show Steps p.tables e below (T1.setTop (mkF m 7 #[.val (.int p1), .val (.int (17 : Int32)), .unset] [.null])) _
    refine XS.astoreN X1.here hx rfl (hb hby at_7) rfl rfl (l' := #[.val (.int p1), .val (.int (17 : Int32)), .val .null]) rfl ?_
    show Steps p.tables e below (T1.setTop (mkF m 8 #[.val (.int p1), .val (.int (17 : Int32)), .val .null] [])) _
    refine XS.aloadN X1.here hx rfl (hb hby at_8) rfl rfl ?_
    show Steps p.tables e below (T1.setTop (mkF m 9 #[.val (.int p1), .val (.int (17 : Int32)), .val .null] [.null])) _
    refine XS.iloadN X1.here hx rfl (hb hby at_9) rfl ?_
    show Steps p.tables e below (T1.setTop (mkF m 10 #[.val (.int p1), .val (.int (17 : Int32)), .val .null] [(.int (17 : Int32)), .null])) _
    refine st2 _ ?_
    show Steps p.tables e below (T2.setTop (mkF m 13 #[.val (.int p1), .val (.int (17 : Int32)), .val .null] [.null, .null])) _
    refine Jvm.RoadKit.acmp (g := (mkF m 13 #[.val (.int p1), .val (.int (17 : Int32)), .val .null] [.null, .null])) X2 hx rfl rfl rfl (pc0 := 13) (pc' := 16) (same := true) rfl (hb hby at_13) rfl (decide_eq_true rfl) (by decide) (by decide) ?_
    show Steps p.tables e below (T2.setTop (mkF m 16 #[.val (.int p1), .val (.int (17 : Int32)), .val .null] [])) _
    refine XS.iconst X2.here hx rfl (hb hby at_16) ?_
    show Steps p.tables e below (T2.setTop (mkF m 17 #[.val (.int p1), .val (.int (17 : Int32)), .val .null] [(.int (1 : Int32))])) _
    refine XS.goto X2.here hx rfl (pc0 := 17) (pc' := 21) rfl (hb hby at_17) (by decide) (by decide) ?_
    show Steps p.tables e below (T2.setTop (mkF m 21 #[.val (.int p1), .val (.int (17 : Int32)), .val .null] [(.int (1 : Int32))])) _
    exact retN X2 hx (t := .boolean) Bd.returns (by simp) (hb hby at_21) hr
  · exact ⟨rfl, N2⟩
def Q1_59 (Z : State) (w_PRODUCE : Addr) (w_METADATA : Addr) (w_LIST_OFFSETS : Addr) (w_JOIN_GROUP : Addr) (w_OFFSET_COMMIT : Addr) (w_FETCH : Addr) (w_FIND_COORDINATOR : Addr) (w_CREATE_TOPICS : Addr) (w_SYNC_GROUP : Addr) (w_OFFSET_FETCH : Addr) (w_HEARTBEAT : Addr) (w_LEAVE_GROUP : Addr) (w_API_VERSIONS : Addr) (w_BY_ID : Addr) (cl_w_BY_ID : Cell) (h0 : Heap) (n0 : Nat) (v : Option Value) (h : Heap) (L : List Loc) : Prop := v = some (.ref w_API_VERSIONS) ∧ Fr n0 L ∧ h = h0
set_option maxRecDepth 65536 in
set_option maxHeartbeats 40000000 in
theorem rm1_59 (l : Launch) (Z : State) (a0 : Array Value) (hw : ∀ d ∈ tables_1, d.before a0 Z = true) (ws : List Jvm.Cond) (w_PRODUCE : Addr) (w_METADATA : Addr) (w_LIST_OFFSETS : Addr) (w_JOIN_GROUP : Addr) (w_OFFSET_COMMIT : Addr) (w_FETCH : Addr) (w_FIND_COORDINATOR : Addr) (w_CREATE_TOPICS : Addr) (w_SYNC_GROUP : Addr) (w_OFFSET_FETCH : Addr) (w_HEARTBEAT : Addr) (w_LEAVE_GROUP : Addr) (w_API_VERSIONS : Addr) (w_BY_ID : Addr) (cl_w_BY_ID : Cell) (h0 : Heap) (n0 : Nat) (Z0 : n0 ≤ h0.size) (HW : World Z h0 w_PRODUCE w_METADATA w_LIST_OFFSETS w_JOIN_GROUP w_OFFSET_COMMIT w_FETCH w_FIND_COORDINATOR w_CREATE_TOPICS w_SYNC_GROUP w_OFFSET_FETCH w_HEARTBEAT w_LEAVE_GROUP w_API_VERSIONS w_BY_ID cl_w_BY_ID) :
    MetFree l (⟨"com/example/melog/melog/protocol/ApiKey", "forId", "(S)Lcom/example/melog/melog/protocol/ApiKey;"⟩ : MethodName) (head1 (Jvm.Cond.code (⟨"com/example/melog/melog/protocol/ApiKey", "forId", "(S)Lcom/example/melog/melog/protocol/ApiKey;"⟩ : MethodName) prog_9_method_4_code 1 (some (.object "com/example/melog/melog/protocol/ApiKey")) :: ws) ({ frames := 0, cells := 0, slots := 0, locals := 0 } : Room)) (fun a U => a = #[(.int (18 : Int32))] ∧ Z.Warmed39 U.vm ∧ U.heap = h0) (fun _ _ _ _ _ => True) (fun _ U o U' => ∃ v L, o = .returned v ∧ Q1_59 Z w_PRODUCE w_METADATA w_LIST_OFFSETS w_JOIN_GROUP w_OFFSET_COMMIT w_FETCH w_FIND_COORDINATOR w_CREATE_TOPICS w_SYNC_GROUP w_OFFSET_FETCH w_HEARTBEAT w_LEAVE_GROUP w_API_VERSIONS w_BY_ID cl_w_BY_ID h0 n0 v U'.heap L ∧ FrameEnd U o U' L ({ frames := 0, cells := 0, slots := 0, locals := 0 } : Room).cells ({ frames := 0, cells := 0, slots := 0, locals := 0 } : Room).slots) := by
  refine MetFree.of_bodySF (plainFor_of_name pn6) hisR ?_
  intro p e s m args below meth c s₁ Bd hml0 hP hK
  obtain ⟨rfl, hZ, hh⟩ := hP
  have hx := Bd.exec
  have hby := Bd.bytes
  have hml : c.maxLocals = 1 := hml0
  have hown : s.vm.findClass "com/example/melog/melog/protocol/ApiKey" = some m.cls := findClass_of_methodNamed Bd.named
  have X0 : Stand p l e ({ frames := 0, cells := 0, slots := 0, locals := 0 } : Room) s m #[(.int (18 : Int32))] below meth c s₁ [] 0 0 := Stand.of_body Bd
  have e0 : s₁.heap = h0 := by rw [← hh, Bd.state]; rfl
  have N0 := Fr.nil n0
  have pre0 : ∀ t, Steps p.tables e below (s₁.setTop (mkF m 0 #[.val (.int (18 : Int32))] [])) t → Steps p.tables e below (s₁.setTop (entryFrame m #[(.int (18 : Int32))] 1)) t := fun t k => castTop (ef5 m (18 : Int32)) k
  obtain ⟨S_w_PRODUCE, E_w_PRODUCE, S_w_METADATA, E_w_METADATA, S_w_LIST_OFFSETS, E_w_LIST_OFFSETS, S_w_JOIN_GROUP, E_w_JOIN_GROUP, S_w_OFFSET_COMMIT, E_w_OFFSET_COMMIT, S_w_FETCH, E_w_FETCH, S_w_FIND_COORDINATOR, E_w_FIND_COORDINATOR, S_w_CREATE_TOPICS, E_w_CREATE_TOPICS, S_w_SYNC_GROUP, E_w_SYNC_GROUP, S_w_OFFSET_FETCH, E_w_OFFSET_FETCH, S_w_HEARTBEAT, E_w_HEARTBEAT, S_w_LEAVE_GROUP, E_w_LEAVE_GROUP, S_w_API_VERSIONS, E_w_API_VERSIONS, S_w_BY_ID, Ar_w_BY_ID, Sz_w_BY_ID, At_w_BY_ID_0, At_w_BY_ID_3, At_w_BY_ID_7, At_w_BY_ID_2, At_w_BY_ID_11, At_w_BY_ID_8, At_w_BY_ID_1, At_w_BY_ID_10, At_w_BY_ID_16, At_w_BY_ID_19, At_w_BY_ID_15, At_w_BY_ID_14, At_w_BY_ID_6, At_w_BY_ID_9, At_w_BY_ID_12, At_w_BY_ID_17, At_w_BY_ID_13, At_w_BY_ID_5, At_w_BY_ID_18, At_w_BY_ID_4, -⟩ := id HW
  obtain ⟨T1, X1, e1, st1⟩ := getS2 X0 hx hZ hown (host := "") (Or.inl (hw _ (List.mem_of_getElem? (i := 4) rfl))) Via.refl e0 S_w_BY_ID (g := (mkF m 5 #[.val (.int (18 : Int32))] [(.int (18 : Int32))])) rfl (hb hby d1_5)
  obtain ⟨T2, X2, e2, st2⟩ := getS2 X1 hx hZ hown (host := "") (Or.inl (hw _ (List.mem_of_getElem? (i := 4) rfl))) Via.refl e1 S_w_BY_ID (g := (mkF m 12 #[.val (.int (18 : Int32))] [])) rfl (hb hby d1_12)
  obtain ⟨fs, hr, hrun, hended, hW, hsame⟩ := X2.leave (v := some (.ref w_API_VERSIONS)) (fun h => by rw [Bd.returns] at h; cases h)
  refine ⟨_, _, pre0 _ ?_, hrun, hended, _, _, rfl, ?_, ⟨_, rfl⟩, hW, hsame.mono (by decide) (by decide)⟩
  · show Steps p.tables e below (s₁.setTop (mkF m 0 #[.val (.int (18 : Int32))] [])) _
    refine XS.iloadN X0.here hx rfl (hb hby d1_0) rfl ?_
    show Steps p.tables e below (s₁.setTop (mkF m 1 #[.val (.int (18 : Int32))] [(.int (18 : Int32))])) _
    refine XS.ifNo X0.here hx rfl (hb hby d1_1) rfl ((if0 _ _).trans (flt (by decide : ¬ ((18 : Int32) < (0 : Int32)))).1) ?_
    show Steps p.tables e below (s₁.setTop (mkF m 4 #[.val (.int (18 : Int32))] [])) _
    refine XS.iloadN X0.here hx rfl (hb hby d1_4) rfl ?_
    show Steps p.tables e below (s₁.setTop (mkF m 5 #[.val (.int (18 : Int32))] [(.int (18 : Int32))])) _
    refine st1 _ ?_
    show Steps p.tables e below (T1.setTop (mkF m 8 #[.val (.int (18 : Int32))] [(.ref w_BY_ID), (.int (18 : Int32))])) _
    refine X1.arraylength hx (by rw [e1]; exact Ar_w_BY_ID.1) (State.isArrayOf_alike hZ.alike Ar_w_BY_ID.2.1) (g := (mkF m 8 #[.val (.int (18 : Int32))] [(.ref w_BY_ID), (.int (18 : Int32))])) rfl rfl (hb hby d1_8) _ ?_
    rw [Sz_w_BY_ID]
    show Steps p.tables e below (T1.setTop (mkF m 9 #[.val (.int (18 : Int32))] [(.int (20 : Int32)), (.int (18 : Int32))])) _
    refine XS.icmpNo X1.here hx rfl (hb hby d1_9) rfl (tlt (by decide : (18 : Int32) < (20 : Int32))).2.1 ?_
    show Steps p.tables e below (T1.setTop (mkF m 12 #[.val (.int (18 : Int32))] [])) _
    refine st2 _ ?_
    show Steps p.tables e below (T2.setTop (mkF m 15 #[.val (.int (18 : Int32))] [(.ref w_BY_ID)])) _
    refine XS.iloadN X2.here hx rfl (hb hby d1_15) rfl ?_
    show Steps p.tables e below (T2.setTop (mkF m 16 #[.val (.int (18 : Int32))] [(.int (18 : Int32)), (.ref w_BY_ID)])) _
    refine X2.aaload hx (j := (18 : Int32)) (v := (.ref w_API_VERSIONS)) (by rw [e2]; exact Ar_w_BY_ID.1) (State.isArrayOf_alike hZ.alike Ar_w_BY_ID.2.1) rfl Ar_w_BY_ID.2.2 At_w_BY_ID_18.1 At_w_BY_ID_18.2 (g := (mkF m 16 #[.val (.int (18 : Int32))] [(.int (18 : Int32)), (.ref w_BY_ID)])) rfl rfl (hb hby d1_16) _ ?_
    show Steps p.tables e below (T2.setTop (mkF m 17 #[.val (.int (18 : Int32))] [(.ref w_API_VERSIONS)])) _
    refine XS.goto X2.here hx rfl (pc0 := 17) (pc' := 21) rfl (hb hby d1_17) (by decide) (by decide) ?_
    show Steps p.tables e below (T2.setTop (mkF m 21 #[.val (.int (18 : Int32))] [(.ref w_API_VERSIONS)])) _
    jvm_step X2.here [X2.here.top, hx, (hb hby d1_21), X2.method', Bd.returns, Value.isRef, FieldType.isReference]
    first | (intro acts; rw [hr _ acts rfl rfl rfl]) | rw [hr _ _ rfl rfl rfl]
    exact Steps.refl _
  · exact ⟨rfl, N0, e2⟩
theorem d2_111 : decode method_2_code 111 = .ok (.getstatic 43, 3) := by decide +kernel
theorem d2_114 : decode method_2_code 114 = .ok (.areturn, 1) := by decide +kernel
def Q2_60 (Z : State) (w_PRODUCE : Addr) (w_METADATA : Addr) (w_LIST_OFFSETS : Addr) (w_JOIN_GROUP : Addr) (w_OFFSET_COMMIT : Addr) (w_FETCH : Addr) (w_FIND_COORDINATOR : Addr) (w_CREATE_TOPICS : Addr) (w_SYNC_GROUP : Addr) (w_OFFSET_FETCH : Addr) (w_HEARTBEAT : Addr) (w_LEAVE_GROUP : Addr) (w_API_VERSIONS : Addr) (w_BY_ID : Addr) (cl_w_BY_ID : Cell) (h0 : Heap) (n0 : Nat) (v : Option Value) (h : Heap) (L : List Loc) : Prop := v = some (.ref w_API_VERSIONS) ∧ Fr n0 L ∧ h = h0
set_option maxRecDepth 65536 in
set_option maxHeartbeats 40000000 in
theorem rm2_60 (l : Launch) (Z : State) (a0 : Array Value) (hw : ∀ d ∈ tables_1, d.before a0 Z = true) (ws : List Jvm.Cond) (w_PRODUCE : Addr) (w_METADATA : Addr) (w_LIST_OFFSETS : Addr) (w_JOIN_GROUP : Addr) (w_OFFSET_COMMIT : Addr) (w_FETCH : Addr) (w_FIND_COORDINATOR : Addr) (w_CREATE_TOPICS : Addr) (w_SYNC_GROUP : Addr) (w_OFFSET_FETCH : Addr) (w_HEARTBEAT : Addr) (w_LEAVE_GROUP : Addr) (w_API_VERSIONS : Addr) (w_BY_ID : Addr) (cl_w_BY_ID : Cell) (h0 : Heap) (n0 : Nat) (Z0 : n0 ≤ h0.size) (HW : World Z h0 w_PRODUCE w_METADATA w_LIST_OFFSETS w_JOIN_GROUP w_OFFSET_COMMIT w_FETCH w_FIND_COORDINATOR w_CREATE_TOPICS w_SYNC_GROUP w_OFFSET_FETCH w_HEARTBEAT w_LEAVE_GROUP w_API_VERSIONS w_BY_ID cl_w_BY_ID) :
    MetFree l (⟨"com/example/melog/melog/protocol/ApiKeyForIdPinLaw", "expected", "(I)Lcom/example/melog/melog/protocol/ApiKey;"⟩ : MethodName) (head1 (Jvm.Cond.code (⟨"com/example/melog/melog/protocol/ApiKeyForIdPinLaw", "expected", "(I)Lcom/example/melog/melog/protocol/ApiKey;"⟩ : MethodName) method_2_code 1 (some (.object "com/example/melog/melog/protocol/ApiKey")) :: ws) ({ frames := 0, cells := 0, slots := 0, locals := 0 } : Room)) (fun a U => a = #[(.int (18 : Int32))] ∧ Z.Warmed39 U.vm ∧ U.heap = h0) (fun _ _ _ _ _ => True) (fun _ U o U' => ∃ v L, o = .returned v ∧ Q2_60 Z w_PRODUCE w_METADATA w_LIST_OFFSETS w_JOIN_GROUP w_OFFSET_COMMIT w_FETCH w_FIND_COORDINATOR w_CREATE_TOPICS w_SYNC_GROUP w_OFFSET_FETCH w_HEARTBEAT w_LEAVE_GROUP w_API_VERSIONS w_BY_ID cl_w_BY_ID h0 n0 v U'.heap L ∧ FrameEnd U o U' L ({ frames := 0, cells := 0, slots := 0, locals := 0 } : Room).cells ({ frames := 0, cells := 0, slots := 0, locals := 0 } : Room).slots) := by
  refine MetFree.of_bodySF (plainFor_of_name pn50) hisR ?_
  intro p e s m args below meth c s₁ Bd hml0 hP hK
  obtain ⟨rfl, hZ, hh⟩ := hP
  have hx := Bd.exec
  have hby := Bd.bytes
  have hml : c.maxLocals = 1 := hml0
  have hown : s.vm.findClass "com/example/melog/melog/protocol/ApiKeyForIdPinLaw" = some m.cls := findClass_of_methodNamed Bd.named
  have X0 : Stand p l e ({ frames := 0, cells := 0, slots := 0, locals := 0 } : Room) s m #[(.int (18 : Int32))] below meth c s₁ [] 0 0 := Stand.of_body Bd
  have e0 : s₁.heap = h0 := by rw [← hh, Bd.state]; rfl
  have N0 := Fr.nil n0
  have pre0 : ∀ t, Steps p.tables e below (s₁.setTop (mkF m 0 #[.val (.int (18 : Int32))] [])) t → Steps p.tables e below (s₁.setTop (entryFrame m #[(.int (18 : Int32))] 1)) t := fun t k => castTop (ef49 m (18 : Int32)) k
  obtain ⟨S_w_PRODUCE, E_w_PRODUCE, S_w_METADATA, E_w_METADATA, S_w_LIST_OFFSETS, E_w_LIST_OFFSETS, S_w_JOIN_GROUP, E_w_JOIN_GROUP, S_w_OFFSET_COMMIT, E_w_OFFSET_COMMIT, S_w_FETCH, E_w_FETCH, S_w_FIND_COORDINATOR, E_w_FIND_COORDINATOR, S_w_CREATE_TOPICS, E_w_CREATE_TOPICS, S_w_SYNC_GROUP, E_w_SYNC_GROUP, S_w_OFFSET_FETCH, E_w_OFFSET_FETCH, S_w_HEARTBEAT, E_w_HEARTBEAT, S_w_LEAVE_GROUP, E_w_LEAVE_GROUP, S_w_API_VERSIONS, E_w_API_VERSIONS, S_w_BY_ID, Ar_w_BY_ID, Sz_w_BY_ID, At_w_BY_ID_0, At_w_BY_ID_3, At_w_BY_ID_7, At_w_BY_ID_2, At_w_BY_ID_11, At_w_BY_ID_8, At_w_BY_ID_1, At_w_BY_ID_10, At_w_BY_ID_16, At_w_BY_ID_19, At_w_BY_ID_15, At_w_BY_ID_14, At_w_BY_ID_6, At_w_BY_ID_9, At_w_BY_ID_12, At_w_BY_ID_17, At_w_BY_ID_13, At_w_BY_ID_5, At_w_BY_ID_18, At_w_BY_ID_4, -⟩ := id HW
  obtain ⟨T1, X1, e1, st1⟩ := getS2 X0 hx hZ hown (host := "") (Or.inl (hw _ (List.mem_of_getElem? (i := 35) rfl))) Via.refl e0 S_w_API_VERSIONS (g := (mkF m 111 #[.val (.int (18 : Int32))] [])) rfl (hb hby d2_111)
  obtain ⟨fs, hr, hrun, hended, hW, hsame⟩ := X1.leave (v := some (.ref w_API_VERSIONS)) (fun h => by rw [Bd.returns] at h; cases h)
  refine ⟨_, _, pre0 _ ?_, hrun, hended, _, _, rfl, ?_, ⟨_, rfl⟩, hW, hsame.mono (by decide) (by decide)⟩
  · show Steps p.tables e below (s₁.setTop (mkF m 0 #[.val (.int (18 : Int32))] [])) _
    refine XS.iloadN X0.here hx rfl (hb hby d2_0) rfl ?_
    show Steps p.tables e below (s₁.setTop (mkF m 1 #[.val (.int (18 : Int32))] [(.int (18 : Int32))])) _
    refine XS.ifYes X0.here hx rfl (pc0 := 1) (pc' := 8) rfl (hb hby d2_1) rfl ((if0 _ _).trans (feq (by decide : ¬ ((18 : Int32) = (0 : Int32)))).2) (by decide) (by decide) ?_
    show Steps p.tables e below (s₁.setTop (mkF m 8 #[.val (.int (18 : Int32))] [])) _
    refine XS.iloadN X0.here hx rfl (hb hby d2_8) rfl ?_
    show Steps p.tables e below (s₁.setTop (mkF m 9 #[.val (.int (18 : Int32))] [(.int (18 : Int32))])) _
    refine XS.iconst X0.here hx rfl (hb hby d2_9) ?_
    show Steps p.tables e below (s₁.setTop (mkF m 10 #[.val (.int (18 : Int32))] [(.int (1 : Int32)), (.int (18 : Int32))])) _
    refine XS.icmpYes X0.here hx rfl (pc0 := 10) (pc' := 17) rfl (hb hby d2_10) rfl (feq (by decide : ¬ ((18 : Int32) = (1 : Int32)))).2 (by decide) (by decide) ?_
    show Steps p.tables e below (s₁.setTop (mkF m 17 #[.val (.int (18 : Int32))] [])) _
    refine XS.iloadN X0.here hx rfl (hb hby d2_17) rfl ?_
    show Steps p.tables e below (s₁.setTop (mkF m 18 #[.val (.int (18 : Int32))] [(.int (18 : Int32))])) _
    refine XS.iconst X0.here hx rfl (hb hby d2_18) ?_
    show Steps p.tables e below (s₁.setTop (mkF m 19 #[.val (.int (18 : Int32))] [(.int (2 : Int32)), (.int (18 : Int32))])) _
    refine XS.icmpYes X0.here hx rfl (pc0 := 19) (pc' := 26) rfl (hb hby d2_19) rfl (feq (by decide : ¬ ((18 : Int32) = (2 : Int32)))).2 (by decide) (by decide) ?_
    show Steps p.tables e below (s₁.setTop (mkF m 26 #[.val (.int (18 : Int32))] [])) _
    refine XS.iloadN X0.here hx rfl (hb hby d2_26) rfl ?_
    show Steps p.tables e below (s₁.setTop (mkF m 27 #[.val (.int (18 : Int32))] [(.int (18 : Int32))])) _
    refine XS.iconst X0.here hx rfl (hb hby d2_27) ?_
    show Steps p.tables e below (s₁.setTop (mkF m 28 #[.val (.int (18 : Int32))] [(.int (3 : Int32)), (.int (18 : Int32))])) _
    refine XS.icmpYes X0.here hx rfl (pc0 := 28) (pc' := 35) rfl (hb hby d2_28) rfl (feq (by decide : ¬ ((18 : Int32) = (3 : Int32)))).2 (by decide) (by decide) ?_
    show Steps p.tables e below (s₁.setTop (mkF m 35 #[.val (.int (18 : Int32))] [])) _
    refine XS.iloadN X0.here hx rfl (hb hby d2_35) rfl ?_
    show Steps p.tables e below (s₁.setTop (mkF m 36 #[.val (.int (18 : Int32))] [(.int (18 : Int32))])) _
    refine XS.bipush X0.here hx rfl (hb hby d2_36) ?_
    show Steps p.tables e below (s₁.setTop (mkF m 38 #[.val (.int (18 : Int32))] [(.int (8 : Int32)), (.int (18 : Int32))])) _
    refine XS.icmpYes X0.here hx rfl (pc0 := 38) (pc' := 45) rfl (hb hby d2_38) rfl (feq (by decide : ¬ ((18 : Int32) = (8 : Int32)))).2 (by decide) (by decide) ?_
    show Steps p.tables e below (s₁.setTop (mkF m 45 #[.val (.int (18 : Int32))] [])) _
    refine XS.iloadN X0.here hx rfl (hb hby d2_45) rfl ?_
    show Steps p.tables e below (s₁.setTop (mkF m 46 #[.val (.int (18 : Int32))] [(.int (18 : Int32))])) _
    refine XS.bipush X0.here hx rfl (hb hby d2_46) ?_
    show Steps p.tables e below (s₁.setTop (mkF m 48 #[.val (.int (18 : Int32))] [(.int (9 : Int32)), (.int (18 : Int32))])) _
    refine XS.icmpYes X0.here hx rfl (pc0 := 48) (pc' := 55) rfl (hb hby d2_48) rfl (feq (by decide : ¬ ((18 : Int32) = (9 : Int32)))).2 (by decide) (by decide) ?_
    show Steps p.tables e below (s₁.setTop (mkF m 55 #[.val (.int (18 : Int32))] [])) _
    refine XS.iloadN X0.here hx rfl (hb hby d2_55) rfl ?_
    show Steps p.tables e below (s₁.setTop (mkF m 56 #[.val (.int (18 : Int32))] [(.int (18 : Int32))])) _
    refine XS.bipush X0.here hx rfl (hb hby d2_56) ?_
    show Steps p.tables e below (s₁.setTop (mkF m 58 #[.val (.int (18 : Int32))] [(.int (10 : Int32)), (.int (18 : Int32))])) _
    refine XS.icmpYes X0.here hx rfl (pc0 := 58) (pc' := 65) rfl (hb hby d2_58) rfl (feq (by decide : ¬ ((18 : Int32) = (10 : Int32)))).2 (by decide) (by decide) ?_
    show Steps p.tables e below (s₁.setTop (mkF m 65 #[.val (.int (18 : Int32))] [])) _
    refine XS.iloadN X0.here hx rfl (hb hby d2_65) rfl ?_
    show Steps p.tables e below (s₁.setTop (mkF m 66 #[.val (.int (18 : Int32))] [(.int (18 : Int32))])) _
    refine XS.bipush X0.here hx rfl (hb hby d2_66) ?_
    show Steps p.tables e below (s₁.setTop (mkF m 68 #[.val (.int (18 : Int32))] [(.int (11 : Int32)), (.int (18 : Int32))])) _
    refine XS.icmpYes X0.here hx rfl (pc0 := 68) (pc' := 75) rfl (hb hby d2_68) rfl (feq (by decide : ¬ ((18 : Int32) = (11 : Int32)))).2 (by decide) (by decide) ?_
    show Steps p.tables e below (s₁.setTop (mkF m 75 #[.val (.int (18 : Int32))] [])) _
    refine XS.iloadN X0.here hx rfl (hb hby d2_75) rfl ?_
    show Steps p.tables e below (s₁.setTop (mkF m 76 #[.val (.int (18 : Int32))] [(.int (18 : Int32))])) _
    refine XS.bipush X0.here hx rfl (hb hby d2_76) ?_
    show Steps p.tables e below (s₁.setTop (mkF m 78 #[.val (.int (18 : Int32))] [(.int (12 : Int32)), (.int (18 : Int32))])) _
    refine XS.icmpYes X0.here hx rfl (pc0 := 78) (pc' := 85) rfl (hb hby d2_78) rfl (feq (by decide : ¬ ((18 : Int32) = (12 : Int32)))).2 (by decide) (by decide) ?_
    show Steps p.tables e below (s₁.setTop (mkF m 85 #[.val (.int (18 : Int32))] [])) _
    refine XS.iloadN X0.here hx rfl (hb hby d2_85) rfl ?_
    show Steps p.tables e below (s₁.setTop (mkF m 86 #[.val (.int (18 : Int32))] [(.int (18 : Int32))])) _
    refine XS.bipush X0.here hx rfl (hb hby d2_86) ?_
    show Steps p.tables e below (s₁.setTop (mkF m 88 #[.val (.int (18 : Int32))] [(.int (13 : Int32)), (.int (18 : Int32))])) _
    refine XS.icmpYes X0.here hx rfl (pc0 := 88) (pc' := 95) rfl (hb hby d2_88) rfl (feq (by decide : ¬ ((18 : Int32) = (13 : Int32)))).2 (by decide) (by decide) ?_
    show Steps p.tables e below (s₁.setTop (mkF m 95 #[.val (.int (18 : Int32))] [])) _
    refine XS.iloadN X0.here hx rfl (hb hby d2_95) rfl ?_
    show Steps p.tables e below (s₁.setTop (mkF m 96 #[.val (.int (18 : Int32))] [(.int (18 : Int32))])) _
    refine XS.bipush X0.here hx rfl (hb hby d2_96) ?_
    show Steps p.tables e below (s₁.setTop (mkF m 98 #[.val (.int (18 : Int32))] [(.int (14 : Int32)), (.int (18 : Int32))])) _
    refine XS.icmpYes X0.here hx rfl (pc0 := 98) (pc' := 105) rfl (hb hby d2_98) rfl (feq (by decide : ¬ ((18 : Int32) = (14 : Int32)))).2 (by decide) (by decide) ?_
    show Steps p.tables e below (s₁.setTop (mkF m 105 #[.val (.int (18 : Int32))] [])) _
    refine XS.iloadN X0.here hx rfl (hb hby d2_105) rfl ?_
    show Steps p.tables e below (s₁.setTop (mkF m 106 #[.val (.int (18 : Int32))] [(.int (18 : Int32))])) _
    refine XS.bipush X0.here hx rfl (hb hby d2_106) ?_
    show Steps p.tables e below (s₁.setTop (mkF m 108 #[.val (.int (18 : Int32))] [(.int (18 : Int32)), (.int (18 : Int32))])) _
    refine XS.icmpNo X0.here hx rfl (hb hby d2_108) rfl (teq (by decide : (18 : Int32) = (18 : Int32))).2 ?_
    show Steps p.tables e below (s₁.setTop (mkF m 111 #[.val (.int (18 : Int32))] [])) _
    refine st1 _ ?_
    show Steps p.tables e below (T1.setTop (mkF m 114 #[.val (.int (18 : Int32))] [(.ref w_API_VERSIONS)])) _
    jvm_step X1.here [X1.here.top, hx, (hb hby d2_114), X1.method', Bd.returns, Value.isRef, FieldType.isReference]
    first | (intro acts; rw [hr _ acts rfl rfl rfl]) | rw [hr _ _ rfl rfl rfl]
    exact Steps.refl _
  · exact ⟨rfl, N0, e1⟩
set_option maxRecDepth 65536 in
set_option maxHeartbeats 40000000 in
theorem rm0_c18 (l : Launch) (Z : State) (a0 : Array Value) (hw : ∀ d ∈ tables_1, d.before a0 Z = true) (ws : List Jvm.Cond) (w_PRODUCE : Addr) (w_METADATA : Addr) (w_LIST_OFFSETS : Addr) (w_JOIN_GROUP : Addr) (w_OFFSET_COMMIT : Addr) (w_FETCH : Addr) (w_FIND_COORDINATOR : Addr) (w_CREATE_TOPICS : Addr) (w_SYNC_GROUP : Addr) (w_OFFSET_FETCH : Addr) (w_HEARTBEAT : Addr) (w_LEAVE_GROUP : Addr) (w_API_VERSIONS : Addr) (w_BY_ID : Addr) (cl_w_BY_ID : Cell) (p1 : Int32) (h0 : Heap) (n0 : Nat) (Z0 : n0 ≤ h0.size) (HW : World Z h0 w_PRODUCE w_METADATA w_LIST_OFFSETS w_JOIN_GROUP w_OFFSET_COMMIT w_FETCH w_FIND_COORDINATOR w_CREATE_TOPICS w_SYNC_GROUP w_OFFSET_FETCH w_HEARTBEAT w_LEAVE_GROUP w_API_VERSIONS w_BY_ID cl_w_BY_ID) (hk : (p1.toInt16.toInt32) = (18 : Int32)) :
    MetFree l x (head1 (Jvm.Cond.code x code maxLocals ret :: ws) room_1) (fun a U => a = #[(.int p1)] ∧ Z.Warmed39 U.vm ∧ U.heap = h0) (fun _ _ _ _ _ => True) (fun _ U o U' => ∃ v L, o = .returned v ∧ Q0 h0 n0 v U'.heap L ∧ FrameEnd U o U' L room_1.cells room_1.slots) := by
  refine MetFree.of_bodySF (plainFor_of_name pn50) hisR ?_
  intro p e s m args below meth c s₁ Bd hml0 hP hK
  obtain ⟨rfl, hZ, hh⟩ := hP
  have hx := Bd.exec
  have hby := Bd.bytes
  have hml : c.maxLocals = 3 := hml0
  have hown : s.vm.findClass "com/example/melog/melog/protocol/ApiKeyForIdPinLaw" = some m.cls := findClass_of_methodNamed Bd.named
  have X0 : Stand p l e room_1 s m #[(.int p1)] below meth c s₁ [] 0 0 := Stand.of_body Bd
  have e0 : s₁.heap = h0 := by rw [← hh, Bd.state]; rfl
  have N0 := Fr.nil n0
  have pre0 : ∀ t, Steps p.tables e below (s₁.setTop (mkF m 0 #[.val (.int p1), .unset, .unset] [])) t → Steps p.tables e below (s₁.setTop (entryFrame m #[(.int p1)] maxLocals)) t := fun t k => castTop (ef53 m p1) k
  obtain ⟨S_w_PRODUCE, E_w_PRODUCE, S_w_METADATA, E_w_METADATA, S_w_LIST_OFFSETS, E_w_LIST_OFFSETS, S_w_JOIN_GROUP, E_w_JOIN_GROUP, S_w_OFFSET_COMMIT, E_w_OFFSET_COMMIT, S_w_FETCH, E_w_FETCH, S_w_FIND_COORDINATOR, E_w_FIND_COORDINATOR, S_w_CREATE_TOPICS, E_w_CREATE_TOPICS, S_w_SYNC_GROUP, E_w_SYNC_GROUP, S_w_OFFSET_FETCH, E_w_OFFSET_FETCH, S_w_HEARTBEAT, E_w_HEARTBEAT, S_w_LEAVE_GROUP, E_w_LEAVE_GROUP, S_w_API_VERSIONS, E_w_API_VERSIONS, S_w_BY_ID, Ar_w_BY_ID, Sz_w_BY_ID, At_w_BY_ID_0, At_w_BY_ID_3, At_w_BY_ID_7, At_w_BY_ID_2, At_w_BY_ID_11, At_w_BY_ID_8, At_w_BY_ID_1, At_w_BY_ID_10, At_w_BY_ID_16, At_w_BY_ID_19, At_w_BY_ID_15, At_w_BY_ID_14, At_w_BY_ID_6, At_w_BY_ID_9, At_w_BY_ID_12, At_w_BY_ID_17, At_w_BY_ID_13, At_w_BY_ID_5, At_w_BY_ID_18, At_w_BY_ID_4, -⟩ := id HW
  obtain ⟨_, _, ⟨T1, L1, k1, n1⟩, -, X1, ⟨Lc1, hQ1, l1, y1, z1⟩, st1⟩ := Jvm.LawKit.callS X0 hx (y := (⟨"com/example/melog/melog/protocol/ApiKey", "forId", "(S)Lcom/example/melog/melog/protocol/ApiKey;"⟩ : MethodName)) hown (mvT hZ (hw _ (List.mem_of_getElem? (i := 0) rfl))) (mvT hZ (hw _ (List.mem_of_getElem? (i := 1) rfl))) (mvT hZ (hw _ (List.mem_of_getElem? (i := 2) rfl))) (mvT hZ (hw _ (List.mem_of_getElem? (i := 3) rfl))) (by decide) (backOf (W := 0) (rm1_59 l Z a0 hw [] w_PRODUCE w_METADATA w_LIST_OFFSETS w_JOIN_GROUP w_OFFSET_COMMIT w_FETCH w_FIND_COORDINATOR w_CREATE_TOPICS w_SYNC_GROUP w_OFFSET_FETCH w_HEARTBEAT w_LEAVE_GROUP w_API_VERSIONS w_BY_ID cl_w_BY_ID h0 n0 Z0 HW) hZ (hw _ (List.mem_of_getElem? (i := 3) rfl)) (hw _ (List.mem_of_getElem? (i := 2) rfl)) (by decide) (by decide)) (g := (mkF m 4 #[.val (.int p1), .val (.int (18 : Int32)), .unset] [(.int (18 : Int32))])) rfl (by rw [hml]; rfl) (argsL := [(.int (18 : Int32))]) (rest := []) (lenOf pd7 rfl) rfl (by show 2 * 0 + _ ≤ _; exact Nat.le_of_eq rfl) (hb hby at_4) (fun _ _ => ⟨rfl, e0, (by decide : 0 + 0 ≤ _), (by decide : 0 + 0 ≤ _)⟩)
  dsimp only [Pt.U, Pt.locs, Pt.cells, Pt.slots] at X1 l1 y1 z1 st1 hQ1
  subst l1 y1 z1
  obtain ⟨rfl, N1q, e1⟩ := hQ1
  have N1 := Fr.app N0 N1q
  obtain ⟨_, _, ⟨T2, L2, k2, n2⟩, -, X2, ⟨Lc2, hQ2, l2, y2, z2⟩, st2⟩ := Jvm.LawKit.callS X1 hx (y := (⟨"com/example/melog/melog/protocol/ApiKeyForIdPinLaw", "expected", "(I)Lcom/example/melog/melog/protocol/ApiKey;"⟩ : MethodName)) hown (mvT hZ (hw _ (List.mem_of_getElem? (i := 7) rfl))) (mvT hZ (hw _ (List.mem_of_getElem? (i := 8) rfl))) (mvT hZ (hw _ (List.mem_of_getElem? (i := 9) rfl))) (mvT hZ (hw _ (List.mem_of_getElem? (i := 10) rfl))) (by decide) (backOf (W := 1) (rm2_60 l Z a0 hw [] w_PRODUCE w_METADATA w_LIST_OFFSETS w_JOIN_GROUP w_OFFSET_COMMIT w_FETCH w_FIND_COORDINATOR w_CREATE_TOPICS w_SYNC_GROUP w_OFFSET_FETCH w_HEARTBEAT w_LEAVE_GROUP w_API_VERSIONS w_BY_ID cl_w_BY_ID h0 n0 Z0 HW) hZ (hw _ (List.mem_of_getElem? (i := 10) rfl)) (hw _ (List.mem_of_getElem? (i := 9) rfl)) (by decide) (by decide)) (g := (mkF m 10 #[.val (.int p1), .val (.int (18 : Int32)), .val (.ref w_API_VERSIONS)] [(.int (18 : Int32)), (.ref w_API_VERSIONS)])) rfl (by rw [hml]; rfl) (argsL := [(.int (18 : Int32))]) (rest := [(.ref w_API_VERSIONS)]) (lenOf pd51 rfl) rfl (by show 2 * 0 + _ ≤ _; exact Nat.le_of_eq rfl) (hb hby at_10) (fun _ _ => ⟨rfl, e1, (by decide : 0 + 0 ≤ _), (by decide : 0 + 0 ≤ _)⟩)
  dsimp only [Pt.U, Pt.locs, Pt.cells, Pt.slots] at X2 l2 y2 z2 st2 hQ2
  subst l2 y2 z2
  obtain ⟨rfl, N2q, e2⟩ := hQ2
  have N2 := Fr.app N1 N2q
  obtain ⟨fs, hr, hrun, hended, hW, hsame⟩ := X2.leave (v := some (.int (1 : Int32))) (fun h => by rw [Bd.returns] at h; cases h)
  refine ⟨_, _, pre0 _ ?_, hrun, hended, _, _, rfl, ?_, ⟨_, rfl⟩, hW, hsame.mono (by decide) (by decide)⟩
  · show Steps p.tables e below (s₁.setTop (mkF m 0 #[.val (.int p1), .unset, .unset] [])) _
    refine XS.iloadN X0.here hx rfl (hb hby at_0) rfl ?_
    show Steps p.tables e below (s₁.setTop (mkF m 1 #[.val (.int p1), .unset, .unset] [(.int p1)])) _
    refine XS.i2s X0.here hx rfl (hb hby at_1) rfl ?_
    rw [hk]
    show Steps p.tables e below (s₁.setTop (mkF m 2 #[.val (.int p1), .unset, .unset] [(.int (18 : Int32))])) _
    refine XS.istoreN X0.here hx rfl (hb hby at_2) rfl (l' := #[.val (.int p1), .val (.int (18 : Int32)), .unset]) rfl ?_
    show Steps p.tables e below (s₁.setTop (mkF m 3 #[.val (.int p1), .val (.int (18 : Int32)), .unset] [])) _
    refine XS.iloadN X0.here hx rfl (hb hby at_3) rfl ?_
    show Steps p.tables e below (s₁.setTop (mkF m 4 #[.val (.int p1), .val (.int (18 : Int32)), .unset] [(.int (18 : Int32))])) _
    refine st1 _ ?_
    show Steps p.tables e below (T1.setTop (mkF m 7 #[.val (.int p1), .val (.int (18 : Int32)), .unset] [(.ref w_API_VERSIONS)])) _
    refine XS.astoreN X1.here hx rfl (hb hby at_7) rfl rfl (l' := #[.val (.int p1), .val (.int (18 : Int32)), .val (.ref w_API_VERSIONS)]) rfl ?_
    show Steps p.tables e below (T1.setTop (mkF m 8 #[.val (.int p1), .val (.int (18 : Int32)), .val (.ref w_API_VERSIONS)] [])) _
    refine XS.aloadN X1.here hx rfl (hb hby at_8) rfl rfl ?_
    show Steps p.tables e below (T1.setTop (mkF m 9 #[.val (.int p1), .val (.int (18 : Int32)), .val (.ref w_API_VERSIONS)] [(.ref w_API_VERSIONS)])) _
    refine XS.iloadN X1.here hx rfl (hb hby at_9) rfl ?_
    show Steps p.tables e below (T1.setTop (mkF m 10 #[.val (.int p1), .val (.int (18 : Int32)), .val (.ref w_API_VERSIONS)] [(.int (18 : Int32)), (.ref w_API_VERSIONS)])) _
    refine st2 _ ?_
    show Steps p.tables e below (T2.setTop (mkF m 13 #[.val (.int p1), .val (.int (18 : Int32)), .val (.ref w_API_VERSIONS)] [(.ref w_API_VERSIONS), (.ref w_API_VERSIONS)])) _
    refine Jvm.RoadKit.acmp (g := (mkF m 13 #[.val (.int p1), .val (.int (18 : Int32)), .val (.ref w_API_VERSIONS)] [(.ref w_API_VERSIONS), (.ref w_API_VERSIONS)])) X2 hx rfl rfl rfl (pc0 := 13) (pc' := 16) (same := true) rfl (hb hby at_13) rfl (decide_eq_true rfl) (by decide) (by decide) ?_
    show Steps p.tables e below (T2.setTop (mkF m 16 #[.val (.int p1), .val (.int (18 : Int32)), .val (.ref w_API_VERSIONS)] [])) _
    refine XS.iconst X2.here hx rfl (hb hby at_16) ?_
    show Steps p.tables e below (T2.setTop (mkF m 17 #[.val (.int p1), .val (.int (18 : Int32)), .val (.ref w_API_VERSIONS)] [(.int (1 : Int32))])) _
    refine XS.goto X2.here hx rfl (pc0 := 17) (pc' := 21) rfl (hb hby at_17) (by decide) (by decide) ?_
    show Steps p.tables e below (T2.setTop (mkF m 21 #[.val (.int p1), .val (.int (18 : Int32)), .val (.ref w_API_VERSIONS)] [(.int (1 : Int32))])) _
    exact retN X2 hx (t := .boolean) Bd.returns (by simp) (hb hby at_21) hr
  · exact ⟨rfl, N2⟩
def Q1_62 (Z : State) (w_PRODUCE : Addr) (w_METADATA : Addr) (w_LIST_OFFSETS : Addr) (w_JOIN_GROUP : Addr) (w_OFFSET_COMMIT : Addr) (w_FETCH : Addr) (w_FIND_COORDINATOR : Addr) (w_CREATE_TOPICS : Addr) (w_SYNC_GROUP : Addr) (w_OFFSET_FETCH : Addr) (w_HEARTBEAT : Addr) (w_LEAVE_GROUP : Addr) (w_API_VERSIONS : Addr) (w_BY_ID : Addr) (cl_w_BY_ID : Cell) (h0 : Heap) (n0 : Nat) (v : Option Value) (h : Heap) (L : List Loc) : Prop := v = some (.ref w_CREATE_TOPICS) ∧ Fr n0 L ∧ h = h0
set_option maxRecDepth 65536 in
set_option maxHeartbeats 40000000 in
theorem rm1_62 (l : Launch) (Z : State) (a0 : Array Value) (hw : ∀ d ∈ tables_1, d.before a0 Z = true) (ws : List Jvm.Cond) (w_PRODUCE : Addr) (w_METADATA : Addr) (w_LIST_OFFSETS : Addr) (w_JOIN_GROUP : Addr) (w_OFFSET_COMMIT : Addr) (w_FETCH : Addr) (w_FIND_COORDINATOR : Addr) (w_CREATE_TOPICS : Addr) (w_SYNC_GROUP : Addr) (w_OFFSET_FETCH : Addr) (w_HEARTBEAT : Addr) (w_LEAVE_GROUP : Addr) (w_API_VERSIONS : Addr) (w_BY_ID : Addr) (cl_w_BY_ID : Cell) (h0 : Heap) (n0 : Nat) (Z0 : n0 ≤ h0.size) (HW : World Z h0 w_PRODUCE w_METADATA w_LIST_OFFSETS w_JOIN_GROUP w_OFFSET_COMMIT w_FETCH w_FIND_COORDINATOR w_CREATE_TOPICS w_SYNC_GROUP w_OFFSET_FETCH w_HEARTBEAT w_LEAVE_GROUP w_API_VERSIONS w_BY_ID cl_w_BY_ID) :
    MetFree l (⟨"com/example/melog/melog/protocol/ApiKey", "forId", "(S)Lcom/example/melog/melog/protocol/ApiKey;"⟩ : MethodName) (head1 (Jvm.Cond.code (⟨"com/example/melog/melog/protocol/ApiKey", "forId", "(S)Lcom/example/melog/melog/protocol/ApiKey;"⟩ : MethodName) prog_9_method_4_code 1 (some (.object "com/example/melog/melog/protocol/ApiKey")) :: ws) ({ frames := 0, cells := 0, slots := 0, locals := 0 } : Room)) (fun a U => a = #[(.int (19 : Int32))] ∧ Z.Warmed39 U.vm ∧ U.heap = h0) (fun _ _ _ _ _ => True) (fun _ U o U' => ∃ v L, o = .returned v ∧ Q1_62 Z w_PRODUCE w_METADATA w_LIST_OFFSETS w_JOIN_GROUP w_OFFSET_COMMIT w_FETCH w_FIND_COORDINATOR w_CREATE_TOPICS w_SYNC_GROUP w_OFFSET_FETCH w_HEARTBEAT w_LEAVE_GROUP w_API_VERSIONS w_BY_ID cl_w_BY_ID h0 n0 v U'.heap L ∧ FrameEnd U o U' L ({ frames := 0, cells := 0, slots := 0, locals := 0 } : Room).cells ({ frames := 0, cells := 0, slots := 0, locals := 0 } : Room).slots) := by
  refine MetFree.of_bodySF (plainFor_of_name pn6) hisR ?_
  intro p e s m args below meth c s₁ Bd hml0 hP hK
  obtain ⟨rfl, hZ, hh⟩ := hP
  have hx := Bd.exec
  have hby := Bd.bytes
  have hml : c.maxLocals = 1 := hml0
  have hown : s.vm.findClass "com/example/melog/melog/protocol/ApiKey" = some m.cls := findClass_of_methodNamed Bd.named
  have X0 : Stand p l e ({ frames := 0, cells := 0, slots := 0, locals := 0 } : Room) s m #[(.int (19 : Int32))] below meth c s₁ [] 0 0 := Stand.of_body Bd
  have e0 : s₁.heap = h0 := by rw [← hh, Bd.state]; rfl
  have N0 := Fr.nil n0
  have pre0 : ∀ t, Steps p.tables e below (s₁.setTop (mkF m 0 #[.val (.int (19 : Int32))] [])) t → Steps p.tables e below (s₁.setTop (entryFrame m #[(.int (19 : Int32))] 1)) t := fun t k => castTop (ef5 m (19 : Int32)) k
  obtain ⟨S_w_PRODUCE, E_w_PRODUCE, S_w_METADATA, E_w_METADATA, S_w_LIST_OFFSETS, E_w_LIST_OFFSETS, S_w_JOIN_GROUP, E_w_JOIN_GROUP, S_w_OFFSET_COMMIT, E_w_OFFSET_COMMIT, S_w_FETCH, E_w_FETCH, S_w_FIND_COORDINATOR, E_w_FIND_COORDINATOR, S_w_CREATE_TOPICS, E_w_CREATE_TOPICS, S_w_SYNC_GROUP, E_w_SYNC_GROUP, S_w_OFFSET_FETCH, E_w_OFFSET_FETCH, S_w_HEARTBEAT, E_w_HEARTBEAT, S_w_LEAVE_GROUP, E_w_LEAVE_GROUP, S_w_API_VERSIONS, E_w_API_VERSIONS, S_w_BY_ID, Ar_w_BY_ID, Sz_w_BY_ID, At_w_BY_ID_0, At_w_BY_ID_3, At_w_BY_ID_7, At_w_BY_ID_2, At_w_BY_ID_11, At_w_BY_ID_8, At_w_BY_ID_1, At_w_BY_ID_10, At_w_BY_ID_16, At_w_BY_ID_19, At_w_BY_ID_15, At_w_BY_ID_14, At_w_BY_ID_6, At_w_BY_ID_9, At_w_BY_ID_12, At_w_BY_ID_17, At_w_BY_ID_13, At_w_BY_ID_5, At_w_BY_ID_18, At_w_BY_ID_4, -⟩ := id HW
  obtain ⟨T1, X1, e1, st1⟩ := getS2 X0 hx hZ hown (host := "") (Or.inl (hw _ (List.mem_of_getElem? (i := 4) rfl))) Via.refl e0 S_w_BY_ID (g := (mkF m 5 #[.val (.int (19 : Int32))] [(.int (19 : Int32))])) rfl (hb hby d1_5)
  obtain ⟨T2, X2, e2, st2⟩ := getS2 X1 hx hZ hown (host := "") (Or.inl (hw _ (List.mem_of_getElem? (i := 4) rfl))) Via.refl e1 S_w_BY_ID (g := (mkF m 12 #[.val (.int (19 : Int32))] [])) rfl (hb hby d1_12)
  obtain ⟨fs, hr, hrun, hended, hW, hsame⟩ := X2.leave (v := some (.ref w_CREATE_TOPICS)) (fun h => by rw [Bd.returns] at h; cases h)
  refine ⟨_, _, pre0 _ ?_, hrun, hended, _, _, rfl, ?_, ⟨_, rfl⟩, hW, hsame.mono (by decide) (by decide)⟩
  · show Steps p.tables e below (s₁.setTop (mkF m 0 #[.val (.int (19 : Int32))] [])) _
    refine XS.iloadN X0.here hx rfl (hb hby d1_0) rfl ?_
    show Steps p.tables e below (s₁.setTop (mkF m 1 #[.val (.int (19 : Int32))] [(.int (19 : Int32))])) _
    refine XS.ifNo X0.here hx rfl (hb hby d1_1) rfl ((if0 _ _).trans (flt (by decide : ¬ ((19 : Int32) < (0 : Int32)))).1) ?_
    show Steps p.tables e below (s₁.setTop (mkF m 4 #[.val (.int (19 : Int32))] [])) _
    refine XS.iloadN X0.here hx rfl (hb hby d1_4) rfl ?_
    show Steps p.tables e below (s₁.setTop (mkF m 5 #[.val (.int (19 : Int32))] [(.int (19 : Int32))])) _
    refine st1 _ ?_
    show Steps p.tables e below (T1.setTop (mkF m 8 #[.val (.int (19 : Int32))] [(.ref w_BY_ID), (.int (19 : Int32))])) _
    refine X1.arraylength hx (by rw [e1]; exact Ar_w_BY_ID.1) (State.isArrayOf_alike hZ.alike Ar_w_BY_ID.2.1) (g := (mkF m 8 #[.val (.int (19 : Int32))] [(.ref w_BY_ID), (.int (19 : Int32))])) rfl rfl (hb hby d1_8) _ ?_
    rw [Sz_w_BY_ID]
    show Steps p.tables e below (T1.setTop (mkF m 9 #[.val (.int (19 : Int32))] [(.int (20 : Int32)), (.int (19 : Int32))])) _
    refine XS.icmpNo X1.here hx rfl (hb hby d1_9) rfl (tlt (by decide : (19 : Int32) < (20 : Int32))).2.1 ?_
    show Steps p.tables e below (T1.setTop (mkF m 12 #[.val (.int (19 : Int32))] [])) _
    refine st2 _ ?_
    show Steps p.tables e below (T2.setTop (mkF m 15 #[.val (.int (19 : Int32))] [(.ref w_BY_ID)])) _
    refine XS.iloadN X2.here hx rfl (hb hby d1_15) rfl ?_
    show Steps p.tables e below (T2.setTop (mkF m 16 #[.val (.int (19 : Int32))] [(.int (19 : Int32)), (.ref w_BY_ID)])) _
    refine X2.aaload hx (j := (19 : Int32)) (v := (.ref w_CREATE_TOPICS)) (by rw [e2]; exact Ar_w_BY_ID.1) (State.isArrayOf_alike hZ.alike Ar_w_BY_ID.2.1) rfl Ar_w_BY_ID.2.2 At_w_BY_ID_19.1 At_w_BY_ID_19.2 (g := (mkF m 16 #[.val (.int (19 : Int32))] [(.int (19 : Int32)), (.ref w_BY_ID)])) rfl rfl (hb hby d1_16) _ ?_
    show Steps p.tables e below (T2.setTop (mkF m 17 #[.val (.int (19 : Int32))] [(.ref w_CREATE_TOPICS)])) _
    refine XS.goto X2.here hx rfl (pc0 := 17) (pc' := 21) rfl (hb hby d1_17) (by decide) (by decide) ?_
    show Steps p.tables e below (T2.setTop (mkF m 21 #[.val (.int (19 : Int32))] [(.ref w_CREATE_TOPICS)])) _
    jvm_step X2.here [X2.here.top, hx, (hb hby d1_21), X2.method', Bd.returns, Value.isRef, FieldType.isReference]
    first | (intro acts; rw [hr _ acts rfl rfl rfl]) | rw [hr _ _ rfl rfl rfl]
    exact Steps.refl _
  · exact ⟨rfl, N0, e2⟩
theorem d2_121 : decode method_2_code 121 = .ok (.getstatic 46, 3) := by decide +kernel
theorem d2_124 : decode method_2_code 124 = .ok (.areturn, 1) := by decide +kernel
def Q2_63 (Z : State) (w_PRODUCE : Addr) (w_METADATA : Addr) (w_LIST_OFFSETS : Addr) (w_JOIN_GROUP : Addr) (w_OFFSET_COMMIT : Addr) (w_FETCH : Addr) (w_FIND_COORDINATOR : Addr) (w_CREATE_TOPICS : Addr) (w_SYNC_GROUP : Addr) (w_OFFSET_FETCH : Addr) (w_HEARTBEAT : Addr) (w_LEAVE_GROUP : Addr) (w_API_VERSIONS : Addr) (w_BY_ID : Addr) (cl_w_BY_ID : Cell) (h0 : Heap) (n0 : Nat) (v : Option Value) (h : Heap) (L : List Loc) : Prop := v = some (.ref w_CREATE_TOPICS) ∧ Fr n0 L ∧ h = h0
set_option maxRecDepth 65536 in
set_option maxHeartbeats 40000000 in
theorem rm2_63 (l : Launch) (Z : State) (a0 : Array Value) (hw : ∀ d ∈ tables_1, d.before a0 Z = true) (ws : List Jvm.Cond) (w_PRODUCE : Addr) (w_METADATA : Addr) (w_LIST_OFFSETS : Addr) (w_JOIN_GROUP : Addr) (w_OFFSET_COMMIT : Addr) (w_FETCH : Addr) (w_FIND_COORDINATOR : Addr) (w_CREATE_TOPICS : Addr) (w_SYNC_GROUP : Addr) (w_OFFSET_FETCH : Addr) (w_HEARTBEAT : Addr) (w_LEAVE_GROUP : Addr) (w_API_VERSIONS : Addr) (w_BY_ID : Addr) (cl_w_BY_ID : Cell) (h0 : Heap) (n0 : Nat) (Z0 : n0 ≤ h0.size) (HW : World Z h0 w_PRODUCE w_METADATA w_LIST_OFFSETS w_JOIN_GROUP w_OFFSET_COMMIT w_FETCH w_FIND_COORDINATOR w_CREATE_TOPICS w_SYNC_GROUP w_OFFSET_FETCH w_HEARTBEAT w_LEAVE_GROUP w_API_VERSIONS w_BY_ID cl_w_BY_ID) :
    MetFree l (⟨"com/example/melog/melog/protocol/ApiKeyForIdPinLaw", "expected", "(I)Lcom/example/melog/melog/protocol/ApiKey;"⟩ : MethodName) (head1 (Jvm.Cond.code (⟨"com/example/melog/melog/protocol/ApiKeyForIdPinLaw", "expected", "(I)Lcom/example/melog/melog/protocol/ApiKey;"⟩ : MethodName) method_2_code 1 (some (.object "com/example/melog/melog/protocol/ApiKey")) :: ws) ({ frames := 0, cells := 0, slots := 0, locals := 0 } : Room)) (fun a U => a = #[(.int (19 : Int32))] ∧ Z.Warmed39 U.vm ∧ U.heap = h0) (fun _ _ _ _ _ => True) (fun _ U o U' => ∃ v L, o = .returned v ∧ Q2_63 Z w_PRODUCE w_METADATA w_LIST_OFFSETS w_JOIN_GROUP w_OFFSET_COMMIT w_FETCH w_FIND_COORDINATOR w_CREATE_TOPICS w_SYNC_GROUP w_OFFSET_FETCH w_HEARTBEAT w_LEAVE_GROUP w_API_VERSIONS w_BY_ID cl_w_BY_ID h0 n0 v U'.heap L ∧ FrameEnd U o U' L ({ frames := 0, cells := 0, slots := 0, locals := 0 } : Room).cells ({ frames := 0, cells := 0, slots := 0, locals := 0 } : Room).slots) := by
  refine MetFree.of_bodySF (plainFor_of_name pn50) hisR ?_
  intro p e s m args below meth c s₁ Bd hml0 hP hK
  obtain ⟨rfl, hZ, hh⟩ := hP
  have hx := Bd.exec
  have hby := Bd.bytes
  have hml : c.maxLocals = 1 := hml0
  have hown : s.vm.findClass "com/example/melog/melog/protocol/ApiKeyForIdPinLaw" = some m.cls := findClass_of_methodNamed Bd.named
  have X0 : Stand p l e ({ frames := 0, cells := 0, slots := 0, locals := 0 } : Room) s m #[(.int (19 : Int32))] below meth c s₁ [] 0 0 := Stand.of_body Bd
  have e0 : s₁.heap = h0 := by rw [← hh, Bd.state]; rfl
  have N0 := Fr.nil n0
  have pre0 : ∀ t, Steps p.tables e below (s₁.setTop (mkF m 0 #[.val (.int (19 : Int32))] [])) t → Steps p.tables e below (s₁.setTop (entryFrame m #[(.int (19 : Int32))] 1)) t := fun t k => castTop (ef49 m (19 : Int32)) k
  obtain ⟨S_w_PRODUCE, E_w_PRODUCE, S_w_METADATA, E_w_METADATA, S_w_LIST_OFFSETS, E_w_LIST_OFFSETS, S_w_JOIN_GROUP, E_w_JOIN_GROUP, S_w_OFFSET_COMMIT, E_w_OFFSET_COMMIT, S_w_FETCH, E_w_FETCH, S_w_FIND_COORDINATOR, E_w_FIND_COORDINATOR, S_w_CREATE_TOPICS, E_w_CREATE_TOPICS, S_w_SYNC_GROUP, E_w_SYNC_GROUP, S_w_OFFSET_FETCH, E_w_OFFSET_FETCH, S_w_HEARTBEAT, E_w_HEARTBEAT, S_w_LEAVE_GROUP, E_w_LEAVE_GROUP, S_w_API_VERSIONS, E_w_API_VERSIONS, S_w_BY_ID, Ar_w_BY_ID, Sz_w_BY_ID, At_w_BY_ID_0, At_w_BY_ID_3, At_w_BY_ID_7, At_w_BY_ID_2, At_w_BY_ID_11, At_w_BY_ID_8, At_w_BY_ID_1, At_w_BY_ID_10, At_w_BY_ID_16, At_w_BY_ID_19, At_w_BY_ID_15, At_w_BY_ID_14, At_w_BY_ID_6, At_w_BY_ID_9, At_w_BY_ID_12, At_w_BY_ID_17, At_w_BY_ID_13, At_w_BY_ID_5, At_w_BY_ID_18, At_w_BY_ID_4, -⟩ := id HW
  obtain ⟨T1, X1, e1, st1⟩ := getS2 X0 hx hZ hown (host := "") (Or.inl (hw _ (List.mem_of_getElem? (i := 25) rfl))) Via.refl e0 S_w_CREATE_TOPICS (g := (mkF m 121 #[.val (.int (19 : Int32))] [])) rfl (hb hby d2_121)
  obtain ⟨fs, hr, hrun, hended, hW, hsame⟩ := X1.leave (v := some (.ref w_CREATE_TOPICS)) (fun h => by rw [Bd.returns] at h; cases h)
  refine ⟨_, _, pre0 _ ?_, hrun, hended, _, _, rfl, ?_, ⟨_, rfl⟩, hW, hsame.mono (by decide) (by decide)⟩
  · show Steps p.tables e below (s₁.setTop (mkF m 0 #[.val (.int (19 : Int32))] [])) _
    refine XS.iloadN X0.here hx rfl (hb hby d2_0) rfl ?_
    show Steps p.tables e below (s₁.setTop (mkF m 1 #[.val (.int (19 : Int32))] [(.int (19 : Int32))])) _
    refine XS.ifYes X0.here hx rfl (pc0 := 1) (pc' := 8) rfl (hb hby d2_1) rfl ((if0 _ _).trans (feq (by decide : ¬ ((19 : Int32) = (0 : Int32)))).2) (by decide) (by decide) ?_
    show Steps p.tables e below (s₁.setTop (mkF m 8 #[.val (.int (19 : Int32))] [])) _
    refine XS.iloadN X0.here hx rfl (hb hby d2_8) rfl ?_
    show Steps p.tables e below (s₁.setTop (mkF m 9 #[.val (.int (19 : Int32))] [(.int (19 : Int32))])) _
    refine XS.iconst X0.here hx rfl (hb hby d2_9) ?_
    show Steps p.tables e below (s₁.setTop (mkF m 10 #[.val (.int (19 : Int32))] [(.int (1 : Int32)), (.int (19 : Int32))])) _
    refine XS.icmpYes X0.here hx rfl (pc0 := 10) (pc' := 17) rfl (hb hby d2_10) rfl (feq (by decide : ¬ ((19 : Int32) = (1 : Int32)))).2 (by decide) (by decide) ?_
    show Steps p.tables e below (s₁.setTop (mkF m 17 #[.val (.int (19 : Int32))] [])) _
    refine XS.iloadN X0.here hx rfl (hb hby d2_17) rfl ?_
    show Steps p.tables e below (s₁.setTop (mkF m 18 #[.val (.int (19 : Int32))] [(.int (19 : Int32))])) _
    refine XS.iconst X0.here hx rfl (hb hby d2_18) ?_
    show Steps p.tables e below (s₁.setTop (mkF m 19 #[.val (.int (19 : Int32))] [(.int (2 : Int32)), (.int (19 : Int32))])) _
    refine XS.icmpYes X0.here hx rfl (pc0 := 19) (pc' := 26) rfl (hb hby d2_19) rfl (feq (by decide : ¬ ((19 : Int32) = (2 : Int32)))).2 (by decide) (by decide) ?_
    show Steps p.tables e below (s₁.setTop (mkF m 26 #[.val (.int (19 : Int32))] [])) _
    refine XS.iloadN X0.here hx rfl (hb hby d2_26) rfl ?_
    show Steps p.tables e below (s₁.setTop (mkF m 27 #[.val (.int (19 : Int32))] [(.int (19 : Int32))])) _
    refine XS.iconst X0.here hx rfl (hb hby d2_27) ?_
    show Steps p.tables e below (s₁.setTop (mkF m 28 #[.val (.int (19 : Int32))] [(.int (3 : Int32)), (.int (19 : Int32))])) _
    refine XS.icmpYes X0.here hx rfl (pc0 := 28) (pc' := 35) rfl (hb hby d2_28) rfl (feq (by decide : ¬ ((19 : Int32) = (3 : Int32)))).2 (by decide) (by decide) ?_
    show Steps p.tables e below (s₁.setTop (mkF m 35 #[.val (.int (19 : Int32))] [])) _
    refine XS.iloadN X0.here hx rfl (hb hby d2_35) rfl ?_
    show Steps p.tables e below (s₁.setTop (mkF m 36 #[.val (.int (19 : Int32))] [(.int (19 : Int32))])) _
    refine XS.bipush X0.here hx rfl (hb hby d2_36) ?_
    show Steps p.tables e below (s₁.setTop (mkF m 38 #[.val (.int (19 : Int32))] [(.int (8 : Int32)), (.int (19 : Int32))])) _
    refine XS.icmpYes X0.here hx rfl (pc0 := 38) (pc' := 45) rfl (hb hby d2_38) rfl (feq (by decide : ¬ ((19 : Int32) = (8 : Int32)))).2 (by decide) (by decide) ?_
    show Steps p.tables e below (s₁.setTop (mkF m 45 #[.val (.int (19 : Int32))] [])) _
    refine XS.iloadN X0.here hx rfl (hb hby d2_45) rfl ?_
    show Steps p.tables e below (s₁.setTop (mkF m 46 #[.val (.int (19 : Int32))] [(.int (19 : Int32))])) _
    refine XS.bipush X0.here hx rfl (hb hby d2_46) ?_
    show Steps p.tables e below (s₁.setTop (mkF m 48 #[.val (.int (19 : Int32))] [(.int (9 : Int32)), (.int (19 : Int32))])) _
    refine XS.icmpYes X0.here hx rfl (pc0 := 48) (pc' := 55) rfl (hb hby d2_48) rfl (feq (by decide : ¬ ((19 : Int32) = (9 : Int32)))).2 (by decide) (by decide) ?_
    show Steps p.tables e below (s₁.setTop (mkF m 55 #[.val (.int (19 : Int32))] [])) _
    refine XS.iloadN X0.here hx rfl (hb hby d2_55) rfl ?_
    show Steps p.tables e below (s₁.setTop (mkF m 56 #[.val (.int (19 : Int32))] [(.int (19 : Int32))])) _
    refine XS.bipush X0.here hx rfl (hb hby d2_56) ?_
    show Steps p.tables e below (s₁.setTop (mkF m 58 #[.val (.int (19 : Int32))] [(.int (10 : Int32)), (.int (19 : Int32))])) _
    refine XS.icmpYes X0.here hx rfl (pc0 := 58) (pc' := 65) rfl (hb hby d2_58) rfl (feq (by decide : ¬ ((19 : Int32) = (10 : Int32)))).2 (by decide) (by decide) ?_
    show Steps p.tables e below (s₁.setTop (mkF m 65 #[.val (.int (19 : Int32))] [])) _
    refine XS.iloadN X0.here hx rfl (hb hby d2_65) rfl ?_
    show Steps p.tables e below (s₁.setTop (mkF m 66 #[.val (.int (19 : Int32))] [(.int (19 : Int32))])) _
    refine XS.bipush X0.here hx rfl (hb hby d2_66) ?_
    show Steps p.tables e below (s₁.setTop (mkF m 68 #[.val (.int (19 : Int32))] [(.int (11 : Int32)), (.int (19 : Int32))])) _
    refine XS.icmpYes X0.here hx rfl (pc0 := 68) (pc' := 75) rfl (hb hby d2_68) rfl (feq (by decide : ¬ ((19 : Int32) = (11 : Int32)))).2 (by decide) (by decide) ?_
    show Steps p.tables e below (s₁.setTop (mkF m 75 #[.val (.int (19 : Int32))] [])) _
    refine XS.iloadN X0.here hx rfl (hb hby d2_75) rfl ?_
    show Steps p.tables e below (s₁.setTop (mkF m 76 #[.val (.int (19 : Int32))] [(.int (19 : Int32))])) _
    refine XS.bipush X0.here hx rfl (hb hby d2_76) ?_
    show Steps p.tables e below (s₁.setTop (mkF m 78 #[.val (.int (19 : Int32))] [(.int (12 : Int32)), (.int (19 : Int32))])) _
    refine XS.icmpYes X0.here hx rfl (pc0 := 78) (pc' := 85) rfl (hb hby d2_78) rfl (feq (by decide : ¬ ((19 : Int32) = (12 : Int32)))).2 (by decide) (by decide) ?_
    show Steps p.tables e below (s₁.setTop (mkF m 85 #[.val (.int (19 : Int32))] [])) _
    refine XS.iloadN X0.here hx rfl (hb hby d2_85) rfl ?_
    show Steps p.tables e below (s₁.setTop (mkF m 86 #[.val (.int (19 : Int32))] [(.int (19 : Int32))])) _
    refine XS.bipush X0.here hx rfl (hb hby d2_86) ?_
    show Steps p.tables e below (s₁.setTop (mkF m 88 #[.val (.int (19 : Int32))] [(.int (13 : Int32)), (.int (19 : Int32))])) _
    refine XS.icmpYes X0.here hx rfl (pc0 := 88) (pc' := 95) rfl (hb hby d2_88) rfl (feq (by decide : ¬ ((19 : Int32) = (13 : Int32)))).2 (by decide) (by decide) ?_
    show Steps p.tables e below (s₁.setTop (mkF m 95 #[.val (.int (19 : Int32))] [])) _
    refine XS.iloadN X0.here hx rfl (hb hby d2_95) rfl ?_
    show Steps p.tables e below (s₁.setTop (mkF m 96 #[.val (.int (19 : Int32))] [(.int (19 : Int32))])) _
    refine XS.bipush X0.here hx rfl (hb hby d2_96) ?_
    show Steps p.tables e below (s₁.setTop (mkF m 98 #[.val (.int (19 : Int32))] [(.int (14 : Int32)), (.int (19 : Int32))])) _
    refine XS.icmpYes X0.here hx rfl (pc0 := 98) (pc' := 105) rfl (hb hby d2_98) rfl (feq (by decide : ¬ ((19 : Int32) = (14 : Int32)))).2 (by decide) (by decide) ?_
    show Steps p.tables e below (s₁.setTop (mkF m 105 #[.val (.int (19 : Int32))] [])) _
    refine XS.iloadN X0.here hx rfl (hb hby d2_105) rfl ?_
    show Steps p.tables e below (s₁.setTop (mkF m 106 #[.val (.int (19 : Int32))] [(.int (19 : Int32))])) _
    refine XS.bipush X0.here hx rfl (hb hby d2_106) ?_
    show Steps p.tables e below (s₁.setTop (mkF m 108 #[.val (.int (19 : Int32))] [(.int (18 : Int32)), (.int (19 : Int32))])) _
    refine XS.icmpYes X0.here hx rfl (pc0 := 108) (pc' := 115) rfl (hb hby d2_108) rfl (feq (by decide : ¬ ((19 : Int32) = (18 : Int32)))).2 (by decide) (by decide) ?_
    show Steps p.tables e below (s₁.setTop (mkF m 115 #[.val (.int (19 : Int32))] [])) _
    refine XS.iloadN X0.here hx rfl (hb hby d2_115) rfl ?_
    show Steps p.tables e below (s₁.setTop (mkF m 116 #[.val (.int (19 : Int32))] [(.int (19 : Int32))])) _
    refine XS.bipush X0.here hx rfl (hb hby d2_116) ?_
    show Steps p.tables e below (s₁.setTop (mkF m 118 #[.val (.int (19 : Int32))] [(.int (19 : Int32)), (.int (19 : Int32))])) _
    refine XS.icmpNo X0.here hx rfl (hb hby d2_118) rfl (teq (by decide : (19 : Int32) = (19 : Int32))).2 ?_
    show Steps p.tables e below (s₁.setTop (mkF m 121 #[.val (.int (19 : Int32))] [])) _
    refine st1 _ ?_
    show Steps p.tables e below (T1.setTop (mkF m 124 #[.val (.int (19 : Int32))] [(.ref w_CREATE_TOPICS)])) _
    jvm_step X1.here [X1.here.top, hx, (hb hby d2_124), X1.method', Bd.returns, Value.isRef, FieldType.isReference]
    first | (intro acts; rw [hr _ acts rfl rfl rfl]) | rw [hr _ _ rfl rfl rfl]
    exact Steps.refl _
  · exact ⟨rfl, N0, e1⟩
set_option maxRecDepth 65536 in
set_option maxHeartbeats 40000000 in
theorem rm0_c19 (l : Launch) (Z : State) (a0 : Array Value) (hw : ∀ d ∈ tables_1, d.before a0 Z = true) (ws : List Jvm.Cond) (w_PRODUCE : Addr) (w_METADATA : Addr) (w_LIST_OFFSETS : Addr) (w_JOIN_GROUP : Addr) (w_OFFSET_COMMIT : Addr) (w_FETCH : Addr) (w_FIND_COORDINATOR : Addr) (w_CREATE_TOPICS : Addr) (w_SYNC_GROUP : Addr) (w_OFFSET_FETCH : Addr) (w_HEARTBEAT : Addr) (w_LEAVE_GROUP : Addr) (w_API_VERSIONS : Addr) (w_BY_ID : Addr) (cl_w_BY_ID : Cell) (p1 : Int32) (h0 : Heap) (n0 : Nat) (Z0 : n0 ≤ h0.size) (HW : World Z h0 w_PRODUCE w_METADATA w_LIST_OFFSETS w_JOIN_GROUP w_OFFSET_COMMIT w_FETCH w_FIND_COORDINATOR w_CREATE_TOPICS w_SYNC_GROUP w_OFFSET_FETCH w_HEARTBEAT w_LEAVE_GROUP w_API_VERSIONS w_BY_ID cl_w_BY_ID) (hk : (p1.toInt16.toInt32) = (19 : Int32)) :
    MetFree l x (head1 (Jvm.Cond.code x code maxLocals ret :: ws) room_1) (fun a U => a = #[(.int p1)] ∧ Z.Warmed39 U.vm ∧ U.heap = h0) (fun _ _ _ _ _ => True) (fun _ U o U' => ∃ v L, o = .returned v ∧ Q0 h0 n0 v U'.heap L ∧ FrameEnd U o U' L room_1.cells room_1.slots) := by
  refine MetFree.of_bodySF (plainFor_of_name pn50) hisR ?_
  intro p e s m args below meth c s₁ Bd hml0 hP hK
  obtain ⟨rfl, hZ, hh⟩ := hP
  have hx := Bd.exec
  have hby := Bd.bytes
  have hml : c.maxLocals = 3 := hml0
  have hown : s.vm.findClass "com/example/melog/melog/protocol/ApiKeyForIdPinLaw" = some m.cls := findClass_of_methodNamed Bd.named
  have X0 : Stand p l e room_1 s m #[(.int p1)] below meth c s₁ [] 0 0 := Stand.of_body Bd
  have e0 : s₁.heap = h0 := by rw [← hh, Bd.state]; rfl
  have N0 := Fr.nil n0
  have pre0 : ∀ t, Steps p.tables e below (s₁.setTop (mkF m 0 #[.val (.int p1), .unset, .unset] [])) t → Steps p.tables e below (s₁.setTop (entryFrame m #[(.int p1)] maxLocals)) t := fun t k => castTop (ef53 m p1) k
  obtain ⟨S_w_PRODUCE, E_w_PRODUCE, S_w_METADATA, E_w_METADATA, S_w_LIST_OFFSETS, E_w_LIST_OFFSETS, S_w_JOIN_GROUP, E_w_JOIN_GROUP, S_w_OFFSET_COMMIT, E_w_OFFSET_COMMIT, S_w_FETCH, E_w_FETCH, S_w_FIND_COORDINATOR, E_w_FIND_COORDINATOR, S_w_CREATE_TOPICS, E_w_CREATE_TOPICS, S_w_SYNC_GROUP, E_w_SYNC_GROUP, S_w_OFFSET_FETCH, E_w_OFFSET_FETCH, S_w_HEARTBEAT, E_w_HEARTBEAT, S_w_LEAVE_GROUP, E_w_LEAVE_GROUP, S_w_API_VERSIONS, E_w_API_VERSIONS, S_w_BY_ID, Ar_w_BY_ID, Sz_w_BY_ID, At_w_BY_ID_0, At_w_BY_ID_3, At_w_BY_ID_7, At_w_BY_ID_2, At_w_BY_ID_11, At_w_BY_ID_8, At_w_BY_ID_1, At_w_BY_ID_10, At_w_BY_ID_16, At_w_BY_ID_19, At_w_BY_ID_15, At_w_BY_ID_14, At_w_BY_ID_6, At_w_BY_ID_9, At_w_BY_ID_12, At_w_BY_ID_17, At_w_BY_ID_13, At_w_BY_ID_5, At_w_BY_ID_18, At_w_BY_ID_4, -⟩ := id HW
  obtain ⟨_, _, ⟨T1, L1, k1, n1⟩, -, X1, ⟨Lc1, hQ1, l1, y1, z1⟩, st1⟩ := Jvm.LawKit.callS X0 hx (y := (⟨"com/example/melog/melog/protocol/ApiKey", "forId", "(S)Lcom/example/melog/melog/protocol/ApiKey;"⟩ : MethodName)) hown (mvT hZ (hw _ (List.mem_of_getElem? (i := 0) rfl))) (mvT hZ (hw _ (List.mem_of_getElem? (i := 1) rfl))) (mvT hZ (hw _ (List.mem_of_getElem? (i := 2) rfl))) (mvT hZ (hw _ (List.mem_of_getElem? (i := 3) rfl))) (by decide) (backOf (W := 0) (rm1_62 l Z a0 hw [] w_PRODUCE w_METADATA w_LIST_OFFSETS w_JOIN_GROUP w_OFFSET_COMMIT w_FETCH w_FIND_COORDINATOR w_CREATE_TOPICS w_SYNC_GROUP w_OFFSET_FETCH w_HEARTBEAT w_LEAVE_GROUP w_API_VERSIONS w_BY_ID cl_w_BY_ID h0 n0 Z0 HW) hZ (hw _ (List.mem_of_getElem? (i := 3) rfl)) (hw _ (List.mem_of_getElem? (i := 2) rfl)) (by decide) (by decide)) (g := (mkF m 4 #[.val (.int p1), .val (.int (19 : Int32)), .unset] [(.int (19 : Int32))])) rfl (by rw [hml]; rfl) (argsL := [(.int (19 : Int32))]) (rest := []) (lenOf pd7 rfl) rfl (by show 2 * 0 + _ ≤ _; exact Nat.le_of_eq rfl) (hb hby at_4) (fun _ _ => ⟨rfl, e0, (by decide : 0 + 0 ≤ _), (by decide : 0 + 0 ≤ _)⟩)
  dsimp only [Pt.U, Pt.locs, Pt.cells, Pt.slots] at X1 l1 y1 z1 st1 hQ1
  subst l1 y1 z1
  obtain ⟨rfl, N1q, e1⟩ := hQ1
  have N1 := Fr.app N0 N1q
  obtain ⟨_, _, ⟨T2, L2, k2, n2⟩, -, X2, ⟨Lc2, hQ2, l2, y2, z2⟩, st2⟩ := Jvm.LawKit.callS X1 hx (y := (⟨"com/example/melog/melog/protocol/ApiKeyForIdPinLaw", "expected", "(I)Lcom/example/melog/melog/protocol/ApiKey;"⟩ : MethodName)) hown (mvT hZ (hw _ (List.mem_of_getElem? (i := 7) rfl))) (mvT hZ (hw _ (List.mem_of_getElem? (i := 8) rfl))) (mvT hZ (hw _ (List.mem_of_getElem? (i := 9) rfl))) (mvT hZ (hw _ (List.mem_of_getElem? (i := 10) rfl))) (by decide) (backOf (W := 1) (rm2_63 l Z a0 hw [] w_PRODUCE w_METADATA w_LIST_OFFSETS w_JOIN_GROUP w_OFFSET_COMMIT w_FETCH w_FIND_COORDINATOR w_CREATE_TOPICS w_SYNC_GROUP w_OFFSET_FETCH w_HEARTBEAT w_LEAVE_GROUP w_API_VERSIONS w_BY_ID cl_w_BY_ID h0 n0 Z0 HW) hZ (hw _ (List.mem_of_getElem? (i := 10) rfl)) (hw _ (List.mem_of_getElem? (i := 9) rfl)) (by decide) (by decide)) (g := (mkF m 10 #[.val (.int p1), .val (.int (19 : Int32)), .val (.ref w_CREATE_TOPICS)] [(.int (19 : Int32)), (.ref w_CREATE_TOPICS)])) rfl (by rw [hml]; rfl) (argsL := [(.int (19 : Int32))]) (rest := [(.ref w_CREATE_TOPICS)]) (lenOf pd51 rfl) rfl (by show 2 * 0 + _ ≤ _; exact Nat.le_of_eq rfl) (hb hby at_10) (fun _ _ => ⟨rfl, e1, (by decide : 0 + 0 ≤ _), (by decide : 0 + 0 ≤ _)⟩)
  dsimp only [Pt.U, Pt.locs, Pt.cells, Pt.slots] at X2 l2 y2 z2 st2 hQ2
  subst l2 y2 z2
  obtain ⟨rfl, N2q, e2⟩ := hQ2
  have N2 := Fr.app N1 N2q
  obtain ⟨fs, hr, hrun, hended, hW, hsame⟩ := X2.leave (v := some (.int (1 : Int32))) (fun h => by rw [Bd.returns] at h; cases h)
  refine ⟨_, _, pre0 _ ?_, hrun, hended, _, _, rfl, ?_, ⟨_, rfl⟩, hW, hsame.mono (by decide) (by decide)⟩
  · show Steps p.tables e below (s₁.setTop (mkF m 0 #[.val (.int p1), .unset, .unset] [])) _
    refine XS.iloadN X0.here hx rfl (hb hby at_0) rfl ?_
    show Steps p.tables e below (s₁.setTop (mkF m 1 #[.val (.int p1), .unset, .unset] [(.int p1)])) _
    refine XS.i2s X0.here hx rfl (hb hby at_1) rfl ?_
    rw [hk]
    show Steps p.tables e below (s₁.setTop (mkF m 2 #[.val (.int p1), .unset, .unset] [(.int (19 : Int32))])) _
    refine XS.istoreN X0.here hx rfl (hb hby at_2) rfl (l' := #[.val (.int p1), .val (.int (19 : Int32)), .unset]) rfl ?_
    show Steps p.tables e below (s₁.setTop (mkF m 3 #[.val (.int p1), .val (.int (19 : Int32)), .unset] [])) _
    refine XS.iloadN X0.here hx rfl (hb hby at_3) rfl ?_
    show Steps p.tables e below (s₁.setTop (mkF m 4 #[.val (.int p1), .val (.int (19 : Int32)), .unset] [(.int (19 : Int32))])) _
    refine st1 _ ?_
    show Steps p.tables e below (T1.setTop (mkF m 7 #[.val (.int p1), .val (.int (19 : Int32)), .unset] [(.ref w_CREATE_TOPICS)])) _
    refine XS.astoreN X1.here hx rfl (hb hby at_7) rfl rfl (l' := #[.val (.int p1), .val (.int (19 : Int32)), .val (.ref w_CREATE_TOPICS)]) rfl ?_
    show Steps p.tables e below (T1.setTop (mkF m 8 #[.val (.int p1), .val (.int (19 : Int32)), .val (.ref w_CREATE_TOPICS)] [])) _
    refine XS.aloadN X1.here hx rfl (hb hby at_8) rfl rfl ?_
    show Steps p.tables e below (T1.setTop (mkF m 9 #[.val (.int p1), .val (.int (19 : Int32)), .val (.ref w_CREATE_TOPICS)] [(.ref w_CREATE_TOPICS)])) _
    refine XS.iloadN X1.here hx rfl (hb hby at_9) rfl ?_
    show Steps p.tables e below (T1.setTop (mkF m 10 #[.val (.int p1), .val (.int (19 : Int32)), .val (.ref w_CREATE_TOPICS)] [(.int (19 : Int32)), (.ref w_CREATE_TOPICS)])) _
    refine st2 _ ?_
    show Steps p.tables e below (T2.setTop (mkF m 13 #[.val (.int p1), .val (.int (19 : Int32)), .val (.ref w_CREATE_TOPICS)] [(.ref w_CREATE_TOPICS), (.ref w_CREATE_TOPICS)])) _
    refine Jvm.RoadKit.acmp (g := (mkF m 13 #[.val (.int p1), .val (.int (19 : Int32)), .val (.ref w_CREATE_TOPICS)] [(.ref w_CREATE_TOPICS), (.ref w_CREATE_TOPICS)])) X2 hx rfl rfl rfl (pc0 := 13) (pc' := 16) (same := true) rfl (hb hby at_13) rfl (decide_eq_true rfl) (by decide) (by decide) ?_
    show Steps p.tables e below (T2.setTop (mkF m 16 #[.val (.int p1), .val (.int (19 : Int32)), .val (.ref w_CREATE_TOPICS)] [])) _
    refine XS.iconst X2.here hx rfl (hb hby at_16) ?_
    show Steps p.tables e below (T2.setTop (mkF m 17 #[.val (.int p1), .val (.int (19 : Int32)), .val (.ref w_CREATE_TOPICS)] [(.int (1 : Int32))])) _
    refine XS.goto X2.here hx rfl (pc0 := 17) (pc' := 21) rfl (hb hby at_17) (by decide) (by decide) ?_
    show Steps p.tables e below (T2.setTop (mkF m 21 #[.val (.int p1), .val (.int (19 : Int32)), .val (.ref w_CREATE_TOPICS)] [(.int (1 : Int32))])) _
    exact retN X2 hx (t := .boolean) Bd.returns (by simp) (hb hby at_21) hr
  · exact ⟨rfl, N2⟩
theorem rm0_all (l : Launch) (Z : State) (a0 : Array Value) (hw : ∀ d ∈ tables_1, d.before a0 Z = true) (ws : List Jvm.Cond) (w_PRODUCE : Addr) (w_METADATA : Addr) (w_LIST_OFFSETS : Addr) (w_JOIN_GROUP : Addr) (w_OFFSET_COMMIT : Addr) (w_FETCH : Addr) (w_FIND_COORDINATOR : Addr) (w_CREATE_TOPICS : Addr) (w_SYNC_GROUP : Addr) (w_OFFSET_FETCH : Addr) (w_HEARTBEAT : Addr) (w_LEAVE_GROUP : Addr) (w_API_VERSIONS : Addr) (w_BY_ID : Addr) (cl_w_BY_ID : Cell) (p1 : Int32) (h0 : Heap) (n0 : Nat) (Z0 : n0 ≤ h0.size) (HW : World Z h0 w_PRODUCE w_METADATA w_LIST_OFFSETS w_JOIN_GROUP w_OFFSET_COMMIT w_FETCH w_FIND_COORDINATOR w_CREATE_TOPICS w_SYNC_GROUP w_OFFSET_FETCH w_HEARTBEAT w_LEAVE_GROUP w_API_VERSIONS w_BY_ID cl_w_BY_ID) :
    MetFree l x (head1 (Jvm.Cond.code x code maxLocals ret :: ws) room_1) (fun a U => a = #[(.int p1)] ∧ Z.Warmed39 U.vm ∧ U.heap = h0) (fun _ _ _ _ _ => True) (fun _ U o U' => ∃ v L, o = .returned v ∧ Q0 h0 n0 v U'.heap L ∧ FrameEnd U o U' L room_1.cells room_1.slots) := by
  rcases own_sm p1.toInt16.toInt32 with hneg | hbig | hk | hk | hk | hk | hk | hk | hk | hk | hk | hk | hk | hk | hk | hk | hk | hk | hk | hk | hk | hk
  · skip
    exact rm0_n l Z a0 hw ws w_PRODUCE w_METADATA w_LIST_OFFSETS w_JOIN_GROUP w_OFFSET_COMMIT w_FETCH w_FIND_COORDINATOR w_CREATE_TOPICS w_SYNC_GROUP w_OFFSET_FETCH w_HEARTBEAT w_LEAVE_GROUP w_API_VERSIONS w_BY_ID cl_w_BY_ID p1 h0 n0 Z0 HW hneg
  · skip
    exact rm0_b l Z a0 hw ws w_PRODUCE w_METADATA w_LIST_OFFSETS w_JOIN_GROUP w_OFFSET_COMMIT w_FETCH w_FIND_COORDINATOR w_CREATE_TOPICS w_SYNC_GROUP w_OFFSET_FETCH w_HEARTBEAT w_LEAVE_GROUP w_API_VERSIONS w_BY_ID cl_w_BY_ID p1 h0 n0 Z0 HW hbig
  · skip
    exact rm0_c0 l Z a0 hw ws w_PRODUCE w_METADATA w_LIST_OFFSETS w_JOIN_GROUP w_OFFSET_COMMIT w_FETCH w_FIND_COORDINATOR w_CREATE_TOPICS w_SYNC_GROUP w_OFFSET_FETCH w_HEARTBEAT w_LEAVE_GROUP w_API_VERSIONS w_BY_ID cl_w_BY_ID p1 h0 n0 Z0 HW hk
  · skip
    exact rm0_c1 l Z a0 hw ws w_PRODUCE w_METADATA w_LIST_OFFSETS w_JOIN_GROUP w_OFFSET_COMMIT w_FETCH w_FIND_COORDINATOR w_CREATE_TOPICS w_SYNC_GROUP w_OFFSET_FETCH w_HEARTBEAT w_LEAVE_GROUP w_API_VERSIONS w_BY_ID cl_w_BY_ID p1 h0 n0 Z0 HW hk
  · skip
    exact rm0_c2 l Z a0 hw ws w_PRODUCE w_METADATA w_LIST_OFFSETS w_JOIN_GROUP w_OFFSET_COMMIT w_FETCH w_FIND_COORDINATOR w_CREATE_TOPICS w_SYNC_GROUP w_OFFSET_FETCH w_HEARTBEAT w_LEAVE_GROUP w_API_VERSIONS w_BY_ID cl_w_BY_ID p1 h0 n0 Z0 HW hk
  · skip
    exact rm0_c3 l Z a0 hw ws w_PRODUCE w_METADATA w_LIST_OFFSETS w_JOIN_GROUP w_OFFSET_COMMIT w_FETCH w_FIND_COORDINATOR w_CREATE_TOPICS w_SYNC_GROUP w_OFFSET_FETCH w_HEARTBEAT w_LEAVE_GROUP w_API_VERSIONS w_BY_ID cl_w_BY_ID p1 h0 n0 Z0 HW hk
  · skip
    exact rm0_c4 l Z a0 hw ws w_PRODUCE w_METADATA w_LIST_OFFSETS w_JOIN_GROUP w_OFFSET_COMMIT w_FETCH w_FIND_COORDINATOR w_CREATE_TOPICS w_SYNC_GROUP w_OFFSET_FETCH w_HEARTBEAT w_LEAVE_GROUP w_API_VERSIONS w_BY_ID cl_w_BY_ID p1 h0 n0 Z0 HW hk
  · skip
    exact rm0_c5 l Z a0 hw ws w_PRODUCE w_METADATA w_LIST_OFFSETS w_JOIN_GROUP w_OFFSET_COMMIT w_FETCH w_FIND_COORDINATOR w_CREATE_TOPICS w_SYNC_GROUP w_OFFSET_FETCH w_HEARTBEAT w_LEAVE_GROUP w_API_VERSIONS w_BY_ID cl_w_BY_ID p1 h0 n0 Z0 HW hk
  · skip
    exact rm0_c6 l Z a0 hw ws w_PRODUCE w_METADATA w_LIST_OFFSETS w_JOIN_GROUP w_OFFSET_COMMIT w_FETCH w_FIND_COORDINATOR w_CREATE_TOPICS w_SYNC_GROUP w_OFFSET_FETCH w_HEARTBEAT w_LEAVE_GROUP w_API_VERSIONS w_BY_ID cl_w_BY_ID p1 h0 n0 Z0 HW hk
  · skip
    exact rm0_c7 l Z a0 hw ws w_PRODUCE w_METADATA w_LIST_OFFSETS w_JOIN_GROUP w_OFFSET_COMMIT w_FETCH w_FIND_COORDINATOR w_CREATE_TOPICS w_SYNC_GROUP w_OFFSET_FETCH w_HEARTBEAT w_LEAVE_GROUP w_API_VERSIONS w_BY_ID cl_w_BY_ID p1 h0 n0 Z0 HW hk
  · skip
    exact rm0_c8 l Z a0 hw ws w_PRODUCE w_METADATA w_LIST_OFFSETS w_JOIN_GROUP w_OFFSET_COMMIT w_FETCH w_FIND_COORDINATOR w_CREATE_TOPICS w_SYNC_GROUP w_OFFSET_FETCH w_HEARTBEAT w_LEAVE_GROUP w_API_VERSIONS w_BY_ID cl_w_BY_ID p1 h0 n0 Z0 HW hk
  · skip
    exact rm0_c9 l Z a0 hw ws w_PRODUCE w_METADATA w_LIST_OFFSETS w_JOIN_GROUP w_OFFSET_COMMIT w_FETCH w_FIND_COORDINATOR w_CREATE_TOPICS w_SYNC_GROUP w_OFFSET_FETCH w_HEARTBEAT w_LEAVE_GROUP w_API_VERSIONS w_BY_ID cl_w_BY_ID p1 h0 n0 Z0 HW hk
  · skip
    exact rm0_c10 l Z a0 hw ws w_PRODUCE w_METADATA w_LIST_OFFSETS w_JOIN_GROUP w_OFFSET_COMMIT w_FETCH w_FIND_COORDINATOR w_CREATE_TOPICS w_SYNC_GROUP w_OFFSET_FETCH w_HEARTBEAT w_LEAVE_GROUP w_API_VERSIONS w_BY_ID cl_w_BY_ID p1 h0 n0 Z0 HW hk
  · skip
    exact rm0_c11 l Z a0 hw ws w_PRODUCE w_METADATA w_LIST_OFFSETS w_JOIN_GROUP w_OFFSET_COMMIT w_FETCH w_FIND_COORDINATOR w_CREATE_TOPICS w_SYNC_GROUP w_OFFSET_FETCH w_HEARTBEAT w_LEAVE_GROUP w_API_VERSIONS w_BY_ID cl_w_BY_ID p1 h0 n0 Z0 HW hk
  · skip
    exact rm0_c12 l Z a0 hw ws w_PRODUCE w_METADATA w_LIST_OFFSETS w_JOIN_GROUP w_OFFSET_COMMIT w_FETCH w_FIND_COORDINATOR w_CREATE_TOPICS w_SYNC_GROUP w_OFFSET_FETCH w_HEARTBEAT w_LEAVE_GROUP w_API_VERSIONS w_BY_ID cl_w_BY_ID p1 h0 n0 Z0 HW hk
  · skip
    exact rm0_c13 l Z a0 hw ws w_PRODUCE w_METADATA w_LIST_OFFSETS w_JOIN_GROUP w_OFFSET_COMMIT w_FETCH w_FIND_COORDINATOR w_CREATE_TOPICS w_SYNC_GROUP w_OFFSET_FETCH w_HEARTBEAT w_LEAVE_GROUP w_API_VERSIONS w_BY_ID cl_w_BY_ID p1 h0 n0 Z0 HW hk
  · skip
    exact rm0_c14 l Z a0 hw ws w_PRODUCE w_METADATA w_LIST_OFFSETS w_JOIN_GROUP w_OFFSET_COMMIT w_FETCH w_FIND_COORDINATOR w_CREATE_TOPICS w_SYNC_GROUP w_OFFSET_FETCH w_HEARTBEAT w_LEAVE_GROUP w_API_VERSIONS w_BY_ID cl_w_BY_ID p1 h0 n0 Z0 HW hk
  · skip
    exact rm0_c15 l Z a0 hw ws w_PRODUCE w_METADATA w_LIST_OFFSETS w_JOIN_GROUP w_OFFSET_COMMIT w_FETCH w_FIND_COORDINATOR w_CREATE_TOPICS w_SYNC_GROUP w_OFFSET_FETCH w_HEARTBEAT w_LEAVE_GROUP w_API_VERSIONS w_BY_ID cl_w_BY_ID p1 h0 n0 Z0 HW hk
  · skip
    exact rm0_c16 l Z a0 hw ws w_PRODUCE w_METADATA w_LIST_OFFSETS w_JOIN_GROUP w_OFFSET_COMMIT w_FETCH w_FIND_COORDINATOR w_CREATE_TOPICS w_SYNC_GROUP w_OFFSET_FETCH w_HEARTBEAT w_LEAVE_GROUP w_API_VERSIONS w_BY_ID cl_w_BY_ID p1 h0 n0 Z0 HW hk
  · skip
    exact rm0_c17 l Z a0 hw ws w_PRODUCE w_METADATA w_LIST_OFFSETS w_JOIN_GROUP w_OFFSET_COMMIT w_FETCH w_FIND_COORDINATOR w_CREATE_TOPICS w_SYNC_GROUP w_OFFSET_FETCH w_HEARTBEAT w_LEAVE_GROUP w_API_VERSIONS w_BY_ID cl_w_BY_ID p1 h0 n0 Z0 HW hk
  · skip
    exact rm0_c18 l Z a0 hw ws w_PRODUCE w_METADATA w_LIST_OFFSETS w_JOIN_GROUP w_OFFSET_COMMIT w_FETCH w_FIND_COORDINATOR w_CREATE_TOPICS w_SYNC_GROUP w_OFFSET_FETCH w_HEARTBEAT w_LEAVE_GROUP w_API_VERSIONS w_BY_ID cl_w_BY_ID p1 h0 n0 Z0 HW hk
  · skip
    exact rm0_c19 l Z a0 hw ws w_PRODUCE w_METADATA w_LIST_OFFSETS w_JOIN_GROUP w_OFFSET_COMMIT w_FETCH w_FIND_COORDINATOR w_CREATE_TOPICS w_SYNC_GROUP w_OFFSET_FETCH w_HEARTBEAT w_LEAVE_GROUP w_API_VERSIONS w_BY_ID cl_w_BY_ID p1 h0 n0 Z0 HW hk
set_option maxRecDepth 65536 in
set_option maxHeartbeats 40000000 in
theorem comes_1 {Post : Tables → Env → Array Value → State → Outcome → State → Prop} (hpost : ∀ tb e args s v u, (limb_1_1.after args s (.returned v) u = true ∧ limb_1_2.after args s (.returned v) u = true ∧ True) → FrameEnd s (.returned v) u (Jvm.fieldLocs frame_1_writes args s ++ Jvm.arrayLocs frame_1_arrays args s ++ Jvm.staticLocs frame_1_statics s) 0 0 → Post tb e args s (.returned v) u) :
    ArmFor flags0 classFile x code maxLocals ret World_1 tables_1 room_1 Calls_1 rest_1 Pre_1 Post := by
  intro l hfl _ _ p e ha hc hk s m args below hf hA hF happ hP
  obtain ⟨hcalls, hrest, hpre⟩ := hP
  obtain ⟨-, -, -, hnamed, -, -, -, hat⟩ := (Spec.applies_iff hf).mp happ
  obtain ⟨hg, hn⟩ := and_e (Cond.before_iff.mp (show (Jvm.Cond.and given_1 narrow_1).before args s = true from hpre))
  obtain ⟨hg1a, hg1b⟩ := and_e hg
  obtain ⟨w0, rfl⟩ : ∃ w0 : Value, args = #[w0] := by
    have hs : args.size = 1 := by simpa [Cond.value, given_1] using hg1a
    obtain ⟨L⟩ := args
    match L, hs with
    | [w0], _ => exact ⟨w0, rfl⟩
  have hw := fun d (hd : d ∈ tables_1) => atoms_spec (ws := Jvm.Cond.code x code maxLocals ret :: tables_1) hat d (List.mem_cons_of_mem _ hd)
  have hfit : Fit s := fun {y c} hc i hi => by
    obtain ⟨ha, rfl⟩ := Array.getElem?_eq_some_iff.mp hc
    have q := List.all_eq_true.mp ((Array.all_eq_true_iff_forall_mem.mp hF) _ (Array.getElem_mem ha)) i (List.mem_range.mpr hi)
    simpa [Array.getElem?_eq_getElem hi] using q
  obtain ⟨i0, ei0⟩ := is_v hg1b
  obtain rfl : w0 = (.int i0) := Option.some.inj ei0
  obtain ⟨hn1a, hn1b⟩ := and_e hn
  obtain ⟨hn2a, hn2b⟩ := and_e hn1b
  obtain ⟨hn3a, hn3b⟩ := and_e hn2b
  obtain ⟨hn4a, hn4b⟩ := and_e hn3b
  obtain ⟨hn5a, hn5b⟩ := and_e hn4b
  obtain ⟨hn6a, hn6b⟩ := and_e hn5b
  obtain ⟨hn7a, hn7b⟩ := and_e hn6b
  obtain ⟨hn8a, hn8b⟩ := and_e hn7b
  obtain ⟨hn9a, hn9b⟩ := and_e hn8b
  obtain ⟨hn10a, hn10b⟩ := and_e hn9b
  obtain ⟨hn11a, hn11b⟩ := and_e hn10b
  obtain ⟨hn12a, hn12b⟩ := and_e hn11b
  obtain ⟨hn13a, hn13b⟩ := and_e hn12b
  obtain ⟨hn14a, hn14b⟩ := and_e hn13b
  obtain ⟨hn15a, hn15b⟩ := and_e hn14b
  obtain ⟨hn16a, hn16b⟩ := and_e hn15b
  obtain ⟨hn17a, hn17b⟩ := and_e hn16b
  obtain ⟨hn18a, hn18b⟩ := and_e hn17b
  obtain ⟨hn19a, hn19b⟩ := and_e hn18b
  obtain ⟨hn20a, hn20b⟩ := and_e hn19b
  obtain ⟨hn21a, hn21b⟩ := and_e hn20b
  obtain ⟨hn22a, hn22b⟩ := and_e hn21b
  obtain ⟨hn23a, hn23b⟩ := and_e hn22b
  obtain ⟨hn24a, hn24b⟩ := and_e hn23b
  obtain ⟨hn25a, hn25b⟩ := and_e hn24b
  obtain ⟨hn26a, hn26b⟩ := and_e hn25b
  obtain ⟨hn27a, hn27b⟩ := and_e hn26b
  obtain ⟨hn28a, hn28b⟩ := and_e hn27b
  obtain ⟨hn29a, hn29b⟩ := and_e hn28b
  obtain ⟨hn30a, hn30b⟩ := and_e hn29b
  obtain ⟨hn31a, hn31b⟩ := and_e hn30b
  obtain ⟨hn32a, hn32b⟩ := and_e hn31b
  obtain ⟨hn33a, hn33b⟩ := and_e hn32b
  obtain ⟨hn34a, hn34b⟩ := and_e hn33b
  obtain ⟨w_PRODUCE, ev_w_PRODUCE⟩ := exa_v hn3a
  have S_w_PRODUCE := Sta.start ev_w_PRODUCE (Or.inr ⟨(hw _ (List.mem_of_getElem? (i := 2) rfl)), (hw _ (List.mem_of_getElem? (i := 6) rfl))⟩)
  have E_w_PRODUCE := Exa.start ev_w_PRODUCE hn3a
  obtain ⟨w_METADATA, ev_w_METADATA⟩ := exa_v hn5a
  have S_w_METADATA := Sta.start ev_w_METADATA (Or.inr ⟨(hw _ (List.mem_of_getElem? (i := 2) rfl)), (hw _ (List.mem_of_getElem? (i := 12) rfl))⟩)
  have E_w_METADATA := Exa.start ev_w_METADATA hn5a
  obtain ⟨w_LIST_OFFSETS, ev_w_LIST_OFFSETS⟩ := exa_v hn8a
  have S_w_LIST_OFFSETS := Sta.start ev_w_LIST_OFFSETS (Or.inr ⟨(hw _ (List.mem_of_getElem? (i := 2) rfl)), (hw _ (List.mem_of_getElem? (i := 14) rfl))⟩)
  have E_w_LIST_OFFSETS := Exa.start ev_w_LIST_OFFSETS hn8a
  obtain ⟨w_JOIN_GROUP, ev_w_JOIN_GROUP⟩ := exa_v hn10a
  have S_w_JOIN_GROUP := Sta.start ev_w_JOIN_GROUP (Or.inr ⟨(hw _ (List.mem_of_getElem? (i := 2) rfl)), (hw _ (List.mem_of_getElem? (i := 16) rfl))⟩)
  have E_w_JOIN_GROUP := Exa.start ev_w_JOIN_GROUP hn10a
  obtain ⟨w_OFFSET_COMMIT, ev_w_OFFSET_COMMIT⟩ := exa_v hn12a
  have S_w_OFFSET_COMMIT := Sta.start ev_w_OFFSET_COMMIT (Or.inr ⟨(hw _ (List.mem_of_getElem? (i := 2) rfl)), (hw _ (List.mem_of_getElem? (i := 18) rfl))⟩)
  have E_w_OFFSET_COMMIT := Exa.start ev_w_OFFSET_COMMIT hn12a
  obtain ⟨w_FETCH, ev_w_FETCH⟩ := exa_v hn14a
  have S_w_FETCH := Sta.start ev_w_FETCH (Or.inr ⟨(hw _ (List.mem_of_getElem? (i := 2) rfl)), (hw _ (List.mem_of_getElem? (i := 20) rfl))⟩)
  have E_w_FETCH := Exa.start ev_w_FETCH hn14a
  obtain ⟨w_FIND_COORDINATOR, ev_w_FIND_COORDINATOR⟩ := exa_v hn16a
  have S_w_FIND_COORDINATOR := Sta.start ev_w_FIND_COORDINATOR (Or.inr ⟨(hw _ (List.mem_of_getElem? (i := 2) rfl)), (hw _ (List.mem_of_getElem? (i := 22) rfl))⟩)
  have E_w_FIND_COORDINATOR := Exa.start ev_w_FIND_COORDINATOR hn16a
  obtain ⟨w_CREATE_TOPICS, ev_w_CREATE_TOPICS⟩ := exa_v hn19a
  have S_w_CREATE_TOPICS := Sta.start ev_w_CREATE_TOPICS (Or.inr ⟨(hw _ (List.mem_of_getElem? (i := 2) rfl)), (hw _ (List.mem_of_getElem? (i := 24) rfl))⟩)
  have E_w_CREATE_TOPICS := Exa.start ev_w_CREATE_TOPICS hn19a
  obtain ⟨w_SYNC_GROUP, ev_w_SYNC_GROUP⟩ := exa_v hn22a
  have S_w_SYNC_GROUP := Sta.start ev_w_SYNC_GROUP (Or.inr ⟨(hw _ (List.mem_of_getElem? (i := 2) rfl)), (hw _ (List.mem_of_getElem? (i := 26) rfl))⟩)
  have E_w_SYNC_GROUP := Exa.start ev_w_SYNC_GROUP hn22a
  obtain ⟨w_OFFSET_FETCH, ev_w_OFFSET_FETCH⟩ := exa_v hn25a
  have S_w_OFFSET_FETCH := Sta.start ev_w_OFFSET_FETCH (Or.inr ⟨(hw _ (List.mem_of_getElem? (i := 2) rfl)), (hw _ (List.mem_of_getElem? (i := 28) rfl))⟩)
  have E_w_OFFSET_FETCH := Exa.start ev_w_OFFSET_FETCH hn25a
  obtain ⟨w_HEARTBEAT, ev_w_HEARTBEAT⟩ := exa_v hn27a
  have S_w_HEARTBEAT := Sta.start ev_w_HEARTBEAT (Or.inr ⟨(hw _ (List.mem_of_getElem? (i := 2) rfl)), (hw _ (List.mem_of_getElem? (i := 30) rfl))⟩)
  have E_w_HEARTBEAT := Exa.start ev_w_HEARTBEAT hn27a
  obtain ⟨w_LEAVE_GROUP, ev_w_LEAVE_GROUP⟩ := exa_v hn30a
  have S_w_LEAVE_GROUP := Sta.start ev_w_LEAVE_GROUP (Or.inr ⟨(hw _ (List.mem_of_getElem? (i := 2) rfl)), (hw _ (List.mem_of_getElem? (i := 32) rfl))⟩)
  have E_w_LEAVE_GROUP := Exa.start ev_w_LEAVE_GROUP hn30a
  obtain ⟨w_API_VERSIONS, ev_w_API_VERSIONS⟩ := exa_v hn33a
  have S_w_API_VERSIONS := Sta.start ev_w_API_VERSIONS (Or.inr ⟨(hw _ (List.mem_of_getElem? (i := 2) rfl)), (hw _ (List.mem_of_getElem? (i := 34) rfl))⟩)
  have E_w_API_VERSIONS := Exa.start ev_w_API_VERSIONS hn33a
  obtain ⟨w_BY_ID, ev_w_BY_ID⟩ := arr_v hn1a
  have S_w_BY_ID := Sta.start ev_w_BY_ID (Or.inr ⟨(hw _ (List.mem_of_getElem? (i := 2) rfl)), (hw _ (List.mem_of_getElem? (i := 5) rfl))⟩)
  obtain ⟨cl_w_BY_ID, Ar_w_BY_ID⟩ := Arr.start ev_w_BY_ID hn1a
  have Sz_w_BY_ID := own_len (n := (20 : Int32)) hn2a ev_w_BY_ID Ar_w_BY_ID
  have At_w_BY_ID_0 := own_elem (j := (0 : Int32)) hn4a ev_w_BY_ID Ar_w_BY_ID ev_w_PRODUCE
  have At_w_BY_ID_3 := own_elem (j := (3 : Int32)) hn6a ev_w_BY_ID Ar_w_BY_ID ev_w_METADATA
  have At_w_BY_ID_7 := own_elem (j := (7 : Int32)) hn7a ev_w_BY_ID Ar_w_BY_ID rfl
  have At_w_BY_ID_2 := own_elem (j := (2 : Int32)) hn9a ev_w_BY_ID Ar_w_BY_ID ev_w_LIST_OFFSETS
  have At_w_BY_ID_11 := own_elem (j := (11 : Int32)) hn11a ev_w_BY_ID Ar_w_BY_ID ev_w_JOIN_GROUP
  have At_w_BY_ID_8 := own_elem (j := (8 : Int32)) hn13a ev_w_BY_ID Ar_w_BY_ID ev_w_OFFSET_COMMIT
  have At_w_BY_ID_1 := own_elem (j := (1 : Int32)) hn15a ev_w_BY_ID Ar_w_BY_ID ev_w_FETCH
  have At_w_BY_ID_10 := own_elem (j := (10 : Int32)) hn17a ev_w_BY_ID Ar_w_BY_ID ev_w_FIND_COORDINATOR
  have At_w_BY_ID_16 := own_elem (j := (16 : Int32)) hn18a ev_w_BY_ID Ar_w_BY_ID rfl
  have At_w_BY_ID_19 := own_elem (j := (19 : Int32)) hn20a ev_w_BY_ID Ar_w_BY_ID ev_w_CREATE_TOPICS
  have At_w_BY_ID_15 := own_elem (j := (15 : Int32)) hn21a ev_w_BY_ID Ar_w_BY_ID rfl
  have At_w_BY_ID_14 := own_elem (j := (14 : Int32)) hn23a ev_w_BY_ID Ar_w_BY_ID ev_w_SYNC_GROUP
  have At_w_BY_ID_6 := own_elem (j := (6 : Int32)) hn24a ev_w_BY_ID Ar_w_BY_ID rfl
  have At_w_BY_ID_9 := own_elem (j := (9 : Int32)) hn26a ev_w_BY_ID Ar_w_BY_ID ev_w_OFFSET_FETCH
  have At_w_BY_ID_12 := own_elem (j := (12 : Int32)) hn28a ev_w_BY_ID Ar_w_BY_ID ev_w_HEARTBEAT
  have At_w_BY_ID_17 := own_elem (j := (17 : Int32)) hn29a ev_w_BY_ID Ar_w_BY_ID rfl
  have At_w_BY_ID_13 := own_elem (j := (13 : Int32)) hn31a ev_w_BY_ID Ar_w_BY_ID ev_w_LEAVE_GROUP
  have At_w_BY_ID_5 := own_elem (j := (5 : Int32)) hn32a ev_w_BY_ID Ar_w_BY_ID rfl
  have At_w_BY_ID_18 := own_elem (j := (18 : Int32)) hn34a ev_w_BY_ID Ar_w_BY_ID ev_w_API_VERSIONS
  have At_w_BY_ID_4 := own_elem (j := (4 : Int32)) hn34b ev_w_BY_ID Ar_w_BY_ID rfl
  have HW : World s s.heap w_PRODUCE w_METADATA w_LIST_OFFSETS w_JOIN_GROUP w_OFFSET_COMMIT w_FETCH w_FIND_COORDINATOR w_CREATE_TOPICS w_SYNC_GROUP w_OFFSET_FETCH w_HEARTBEAT w_LEAVE_GROUP w_API_VERSIONS w_BY_ID cl_w_BY_ID := ⟨S_w_PRODUCE, E_w_PRODUCE, S_w_METADATA, E_w_METADATA, S_w_LIST_OFFSETS, E_w_LIST_OFFSETS, S_w_JOIN_GROUP, E_w_JOIN_GROUP, S_w_OFFSET_COMMIT, E_w_OFFSET_COMMIT, S_w_FETCH, E_w_FETCH, S_w_FIND_COORDINATOR, E_w_FIND_COORDINATOR, S_w_CREATE_TOPICS, E_w_CREATE_TOPICS, S_w_SYNC_GROUP, E_w_SYNC_GROUP, S_w_OFFSET_FETCH, E_w_OFFSET_FETCH, S_w_HEARTBEAT, E_w_HEARTBEAT, S_w_LEAVE_GROUP, E_w_LEAVE_GROUP, S_w_API_VERSIONS, E_w_API_VERSIONS, S_w_BY_ID, Ar_w_BY_ID, Sz_w_BY_ID, At_w_BY_ID_0, At_w_BY_ID_3, At_w_BY_ID_7, At_w_BY_ID_2, At_w_BY_ID_11, At_w_BY_ID_8, At_w_BY_ID_1, At_w_BY_ID_10, At_w_BY_ID_16, At_w_BY_ID_19, At_w_BY_ID_15, At_w_BY_ID_14, At_w_BY_ID_6, At_w_BY_ID_9, At_w_BY_ID_12, At_w_BY_ID_17, At_w_BY_ID_13, At_w_BY_ID_5, At_w_BY_ID_18, At_w_BY_ID_4, trivial⟩
  obtain ⟨n, o, h1, h2, h3, _, L, rfl, ⟨rfl, N⟩, hq⟩ := rm0_all l s _ hw tables_1 w_PRODUCE w_METADATA w_LIST_OFFSETS w_JOIN_GROUP w_OFFSET_COMMIT w_FETCH w_FIND_COORDINATOR w_CREATE_TOPICS w_SYNC_GROUP w_OFFSET_FETCH w_HEARTBEAT w_LEAVE_GROUP w_API_VERSIONS w_BY_ID cl_w_BY_ID i0 s.heap s.heap.size (Nat.le_refl _) HW p e ha hc hk s m _ below hf ((Spec.applies_iff_loose hf).mp happ).1 ⟨rfl, State.Warmed39.refl s, rfl⟩ trivial
  exact ⟨n, _, h1, h2, h3, hpost _ _ _ _ _ _ ⟨Cond.after_iff.mpr rfl, Cond.after_iff.mpr (eq_i res_at (Term.int_eval (1)) rfl), trivial⟩ ⟨hq.1, hq.2.1, (hq.2.2.sift fun y hy => Or.inr (N y hy)).mono (by decide) (by decide)⟩⟩
theorem main_1_1 : Claimed_1_1 := comes_1 fun _ _ _ _ _ _ h hF => ⟨h.1, hF⟩
theorem main_1_2 : Claimed_1_2 := comes_1 fun _ _ _ _ _ _ h hF => ⟨h.2.1, hF⟩
end Jvm.Pilot.@@N@@
namespace Jvm.Pilot.@@N@@
open Jvm Jvm.ClassFile Sem Op Lib Jvm.Free Jvm.Stand Jvm.Pilot.@@N@@.Jvm.D
/-! MADE BY PROGRAM (witnessworld.py) out of the Statement's table words and the real class files: 11 classes; the members and pool entries that the words name. The judged class is class 1, her method 2. -/
namespace start1
open Jvm.ClassFile
def u (s : String) : CpInfo := .utf8 (stringToUtf16 s)
/-- a pool by its gaps: so many unusable entries, then the entry; so many at the end -/
def gap : Nat → List CpInfo → List CpInfo
  | 0, r => r
  | n + 1, r => .unusable :: gap n r
def poolList (es : List (Nat × CpInfo)) (last : Nat) : List CpInfo := es.foldr (fun e r => gap e.1 (e.2 :: r)) (gap last [])
def pool (es : List (Nat × CpInfo)) (last : Nat) : Array CpInfo := ⟨poolList es last⟩
def fileOf (pool : Array CpInfo) (this : Nat) (attrs : Array Attribute := #[]) (ms : Array MethodInfo := #[]) (fl : Nat := 33) (sup : Nat := 0) (ifs : Array Nat := #[]) (fds : Array FieldInfo := #[]) : ClassFile where
  minorVersion := 0
  majorVersion := 65
  constantPool := pool
  accessFlags := fl
  thisClass := this
  superClass := sup
  interfaces := ifs
  fields := fds
  methods := ms
  attributes := attrs
def plain (name : String) (sup : Option ClassId) : Class where
  name := name
  kind := .ordinary
  loader := none
  accessFlags := 33
  super := sup
  interfaces := #[]
  cf := none
  fields := #[]
  methods := #[]
  instanceTypes := #[]
  staticTypes := #[]
  resolved := #[]
  callSites := []
  init := .initialized
  statics := none
  mirror := none

def pool0 : Array CpInfo := pool [(5, u "<init>"), (0, u "()V"), (1, .class_ 10), (1, u "java/lang/Object")] 113

def k0m0 : Method := { name := "<init>", desc := "()V", sig := { parameters := [], returnType := none }, accessFlags := 1, code := none }
/-- java/lang/Object -/
def k0 : Class := { plain "java/lang/Object" none with
  accessFlags := 33
  interfaces := #[]
  cf := some (fileOf pool0 8 #[] #[{ accessFlags := 1, nameIndex := 5, descriptorIndex := 6, attributes := #[] }] 33 0 #[] #[])
  fields := #[]
  methods := #[k0m0]
  instanceTypes := #[]
  staticTypes := #[]
  resolved := Array.replicate 124 none
  statics := none }

def pool1 : Array CpInfo := pool [(2, .class_ 4), (1, u "java/lang/Object"), (0, u "<init>"), (0, u "()V"), (0, .fieldref 8 9), (0, .class_ 10), (0, .nameAndType 11 12), (0, u "com/example/melog/melog/protocol/ApiKey"), (0, u "PRODUCE"), (0, u "Lcom/example/melog/melog/protocol/ApiKey;"), (0, .fieldref 8 14), (0, .nameAndType 15 12), (0, u "FETCH"), (0, .fieldref 8 17), (0, .nameAndType 18 12), (0, u "LIST_OFFSETS"), (0, .fieldref 8 20), (0, .nameAndType 21 12), (0, u "METADATA"), (0, .fieldref 8 23), (0, .nameAndType 24 12), (0, u "OFFSET_COMMIT"), (0, .fieldref 8 26), (0, .nameAndType 27 12), (0, u "OFFSET_FETCH"), (0, .fieldref 8 29), (0, .nameAndType 30 12), (0, u "FIND_COORDINATOR"), (0, .fieldref 8 32), (0, .nameAndType 33 12), (0, u "JOIN_GROUP"), (0, .fieldref 8 35), (0, .nameAndType 36 12), (0, u "HEARTBEAT"), (0, .fieldref 8 38), (0, .nameAndType 39 12), (0, u "LEAVE_GROUP"), (0, .fieldref 8 41), (0, .nameAndType 42 12), (0, u "SYNC_GROUP"), (0, .fieldref 8 44), (0, .nameAndType 45 12), (0, u "API_VERSIONS"), (0, .fieldref 8 47), (0, .nameAndType 48 12), (0, u "CREATE_TOPICS"), (0, .methodref 8 50), (0, .nameAndType 51 52), (0, u "forId"), (0, u "(S)Lcom/example/melog/melog/protocol/ApiKey;"), (0, .methodref 54 55), (0, .class_ 56), (0, .nameAndType 57 58), (0, u "com/example/melog/melog/protocol/ApiKeyForIdPinLaw"), (0, u "expected"), (0, u "(I)Lcom/example/melog/melog/protocol/ApiKey;"), (3, u "law"), (0, u "(I)Z")] 2

def k1m0 : Method := { name := "<init>", desc := "()V", sig := { parameters := [], returnType := none }, accessFlags := 1, code := none }
def k1c1 : Code := { maxStack := 2, maxLocals := 1, code := method_2_code, exceptionTable := #[], attributes := #[] }
def k1m1 : Method := { name := "expected", desc := "(I)Lcom/example/melog/melog/protocol/ApiKey;", sig := { parameters := [.int], returnType := some (.object "com/example/melog/melog/protocol/ApiKey") }, accessFlags := 10, code := some k1c1 }
def k1c2 : Code := { maxStack := 2, maxLocals := 3, code := code, exceptionTable := #[], attributes := #[] }
def k1m2 : Method := { name := "law", desc := "(I)Z", sig := { parameters := [.int], returnType := some .boolean }, accessFlags := 9, code := some k1c2 }
/-- com/example/melog/melog/protocol/ApiKeyForIdPinLaw -/
def k1 : Class := { plain "com/example/melog/melog/protocol/ApiKeyForIdPinLaw" (some 0) with
  accessFlags := 49
  interfaces := #[]
  cf := some (fileOf pool1 54 #[] #[{ accessFlags := 1, nameIndex := 5, descriptorIndex := 6, attributes := #[] }, { accessFlags := 10, nameIndex := 57, descriptorIndex := 58, attributes := #[] }, { accessFlags := 9, nameIndex := 62, descriptorIndex := 63, attributes := #[] }] 49 2 #[] #[])
  fields := #[]
  methods := #[k1m0, k1m1, k1m2]
  instanceTypes := #[]
  staticTypes := #[]
  resolved := Array.replicate 66 none
  statics := none }

def pool2 : Array CpInfo := pool [(1, .class_ 2), (0, u "java/lang/constant/Constable"), (0, .class_ 4), (0, u "java/lang/Object")] 6

/-- java/lang/constant/Constable -/
def k2 : Class := { plain "java/lang/constant/Constable" (some 0) with
  accessFlags := 1537
  interfaces := #[]
  cf := some (fileOf pool2 1 #[] #[] 1537 3 #[] #[])
  fields := #[]
  methods := #[]
  instanceTypes := #[]
  staticTypes := #[]
  resolved := Array.replicate 11 none
  statics := none }

def pool3 : Array CpInfo := pool [(1, .class_ 2), (0, u "java/lang/Comparable"), (0, .class_ 4), (0, u "java/lang/Object")] 7

/-- java/lang/Comparable -/
def k3 : Class := { plain "java/lang/Comparable" (some 0) with
  accessFlags := 1537
  interfaces := #[]
  cf := some (fileOf pool3 1 #[] #[] 1537 3 #[] #[])
  fields := #[]
  methods := #[]
  instanceTypes := #[]
  staticTypes := #[]
  resolved := Array.replicate 12 none
  statics := none }

def pool4 : Array CpInfo := pool [(1, .class_ 2), (0, u "java/io/Serializable"), (0, .class_ 4), (0, u "java/lang/Object")] 2

/-- java/io/Serializable -/
def k4 : Class := { plain "java/io/Serializable" (some 0) with
  accessFlags := 1537
  interfaces := #[]
  cf := some (fileOf pool4 1 #[] #[] 1537 3 #[] #[])
  fields := #[]
  methods := #[]
  instanceTypes := #[]
  staticTypes := #[]
  resolved := Array.replicate 7 none
  statics := none }

def pool5 : Array CpInfo := pool [(2, .class_ 4), (1, u "java/lang/Enum"), (0, u "name"), (0, u "Ljava/lang/String;"), (2, u "ordinal"), (0, u "I"), (1, .class_ 14), (1, u "java/lang/Object"), (4, u "hash"), (86, .class_ 108), (1, u "java/lang/Enum$EnumDesc"), (2, .class_ 112), (0, u "java/lang/constant/Constable"), (0, .class_ 114), (0, u "java/lang/Comparable"), (0, .class_ 116), (0, u "java/io/Serializable")] 87

/-- java/lang/Enum -/
def k5 : Class := { plain "java/lang/Enum" (some 0) with
  accessFlags := 1057
  interfaces := #[2, 3, 4]
  cf := some (fileOf pool5 2 #[.nestMembers #[106]] #[] 1057 12 #[111, 113, 115] #[{ accessFlags := 18, nameIndex := 5, descriptorIndex := 6, attributes := #[] }, { accessFlags := 18, nameIndex := 9, descriptorIndex := 10, attributes := #[] }, { accessFlags := 2, nameIndex := 19, descriptorIndex := 10, attributes := #[] }])
  fields := #[{ name := "name", type := (.object "java/lang/String"), accessFlags := 18, slot := 0, constantValue := 0 }, { name := "ordinal", type := .int, accessFlags := 18, slot := 1, constantValue := 0 }, { name := "hash", type := .int, accessFlags := 2, slot := 2, constantValue := 0 }]
  methods := #[]
  instanceTypes := #[(.object "java/lang/String"), .int, .int]
  staticTypes := #[]
  resolved := Array.replicate 204 none
  statics := none }

def pool6 : Array CpInfo := pool [(1, .class_ 2), (0, u "com/example/melog/melog/protocol/ApiKey"), (2, u "PRODUCE"), (0, u "Lcom/example/melog/melog/protocol/ApiKey;"), (2, u "FETCH"), (2, u "LIST_OFFSETS"), (2, u "METADATA"), (2, u "OFFSET_COMMIT"), (2, u "OFFSET_FETCH"), (2, u "FIND_COORDINATOR"), (2, u "JOIN_GROUP"), (2, u "HEARTBEAT"), (2, u "LEAVE_GROUP"), (2, u "SYNC_GROUP"), (2, u "API_VERSIONS"), (2, u "CREATE_TOPICS"), (2, u "$VALUES"), (0, u "[Lcom/example/melog/melog/protocol/ApiKey;"), (6, .class_ 55), (1, u "java/lang/Enum"), (8, u "id"), (0, u "S"), (2, u "minVersion"), (2, u "maxVersion"), (2, u "firstFlexibleVersion"), (0, .fieldref 1 76), (0, .nameAndType 77 46), (0, u "BY_ID"), (42, u "forId"), (0, u "(S)Lcom/example/melog/melog/protocol/ApiKey;")] 9

def k6c0 : Code := { maxStack := 2, maxLocals := 1, code := prog_9_method_4_code, exceptionTable := #[], attributes := #[] }
def k6m0 : Method := { name := "forId", desc := "(S)Lcom/example/melog/melog/protocol/ApiKey;", sig := { parameters := [.short], returnType := some (.object "com/example/melog/melog/protocol/ApiKey") }, accessFlags := 9, code := some k6c0 }
/-- com/example/melog/melog/protocol/ApiKey -/
def k6 : Class := { plain "com/example/melog/melog/protocol/ApiKey" (some 5) with
  accessFlags := 16433
  interfaces := #[]
  cf := some (fileOf pool6 1 #[] #[{ accessFlags := 9, nameIndex := 120, descriptorIndex := 121, attributes := #[] }] 16433 53 #[] #[{ accessFlags := 16409, nameIndex := 5, descriptorIndex := 6, attributes := #[] }, { accessFlags := 16409, nameIndex := 9, descriptorIndex := 6, attributes := #[] }, { accessFlags := 16409, nameIndex := 12, descriptorIndex := 6, attributes := #[] }, { accessFlags := 16409, nameIndex := 15, descriptorIndex := 6, attributes := #[] }, { accessFlags := 16409, nameIndex := 18, descriptorIndex := 6, attributes := #[] }, { accessFlags := 16409, nameIndex := 21, descriptorIndex := 6, attributes := #[] }, { accessFlags := 16409, nameIndex := 24, descriptorIndex := 6, attributes := #[] }, { accessFlags := 16409, nameIndex := 27, descriptorIndex := 6, attributes := #[] }, { accessFlags := 16409, nameIndex := 30, descriptorIndex := 6, attributes := #[] }, { accessFlags := 16409, nameIndex := 33, descriptorIndex := 6, attributes := #[] }, { accessFlags := 16409, nameIndex := 36, descriptorIndex := 6, attributes := #[] }, { accessFlags := 16409, nameIndex := 39, descriptorIndex := 6, attributes := #[] }, { accessFlags := 16409, nameIndex := 42, descriptorIndex := 6, attributes := #[] }, { accessFlags := 26, nameIndex := 77, descriptorIndex := 46, attributes := #[] }, { accessFlags := 18, nameIndex := 64, descriptorIndex := 65, attributes := #[] }, { accessFlags := 18, nameIndex := 68, descriptorIndex := 65, attributes := #[] }, { accessFlags := 18, nameIndex := 71, descriptorIndex := 65, attributes := #[] }, { accessFlags := 18, nameIndex := 74, descriptorIndex := 65, attributes := #[] }, { accessFlags := 4122, nameIndex := 45, descriptorIndex := 46, attributes := #[] }])
  fields := #[{ name := "PRODUCE", type := (.object "com/example/melog/melog/protocol/ApiKey"), accessFlags := 16409, slot := 0, constantValue := 0 }, { name := "FETCH", type := (.object "com/example/melog/melog/protocol/ApiKey"), accessFlags := 16409, slot := 1, constantValue := 0 }, { name := "LIST_OFFSETS", type := (.object "com/example/melog/melog/protocol/ApiKey"), accessFlags := 16409, slot := 2, constantValue := 0 }, { name := "METADATA", type := (.object "com/example/melog/melog/protocol/ApiKey"), accessFlags := 16409, slot := 3, constantValue := 0 }, { name := "OFFSET_COMMIT", type := (.object "com/example/melog/melog/protocol/ApiKey"), accessFlags := 16409, slot := 4, constantValue := 0 }, { name := "OFFSET_FETCH", type := (.object "com/example/melog/melog/protocol/ApiKey"), accessFlags := 16409, slot := 5, constantValue := 0 }, { name := "FIND_COORDINATOR", type := (.object "com/example/melog/melog/protocol/ApiKey"), accessFlags := 16409, slot := 6, constantValue := 0 }, { name := "JOIN_GROUP", type := (.object "com/example/melog/melog/protocol/ApiKey"), accessFlags := 16409, slot := 7, constantValue := 0 }, { name := "HEARTBEAT", type := (.object "com/example/melog/melog/protocol/ApiKey"), accessFlags := 16409, slot := 8, constantValue := 0 }, { name := "LEAVE_GROUP", type := (.object "com/example/melog/melog/protocol/ApiKey"), accessFlags := 16409, slot := 9, constantValue := 0 }, { name := "SYNC_GROUP", type := (.object "com/example/melog/melog/protocol/ApiKey"), accessFlags := 16409, slot := 10, constantValue := 0 }, { name := "API_VERSIONS", type := (.object "com/example/melog/melog/protocol/ApiKey"), accessFlags := 16409, slot := 11, constantValue := 0 }, { name := "CREATE_TOPICS", type := (.object "com/example/melog/melog/protocol/ApiKey"), accessFlags := 16409, slot := 12, constantValue := 0 }, { name := "BY_ID", type := (.array (.object "com/example/melog/melog/protocol/ApiKey")), accessFlags := 26, slot := 13, constantValue := 0 }, { name := "id", type := .short, accessFlags := 18, slot := 3, constantValue := 0 }, { name := "minVersion", type := .short, accessFlags := 18, slot := 4, constantValue := 0 }, { name := "maxVersion", type := .short, accessFlags := 18, slot := 5, constantValue := 0 }, { name := "firstFlexibleVersion", type := .short, accessFlags := 18, slot := 6, constantValue := 0 }, { name := "$VALUES", type := (.array (.object "com/example/melog/melog/protocol/ApiKey")), accessFlags := 4122, slot := 14, constantValue := 0 }]
  methods := #[k6m0]
  instanceTypes := #[(.object "java/lang/String"), .int, .int, .short, .short, .short, .short]
  staticTypes := #[(.object "com/example/melog/melog/protocol/ApiKey"), (.object "com/example/melog/melog/protocol/ApiKey"), (.object "com/example/melog/melog/protocol/ApiKey"), (.object "com/example/melog/melog/protocol/ApiKey"), (.object "com/example/melog/melog/protocol/ApiKey"), (.object "com/example/melog/melog/protocol/ApiKey"), (.object "com/example/melog/melog/protocol/ApiKey"), (.object "com/example/melog/melog/protocol/ApiKey"), (.object "com/example/melog/melog/protocol/ApiKey"), (.object "com/example/melog/melog/protocol/ApiKey"), (.object "com/example/melog/melog/protocol/ApiKey"), (.object "com/example/melog/melog/protocol/ApiKey"), (.object "com/example/melog/melog/protocol/ApiKey"), (.array (.object "com/example/melog/melog/protocol/ApiKey")), (.array (.object "com/example/melog/melog/protocol/ApiKey"))]
  resolved := Array.replicate 131 none
  statics := some 0 }

def pool7 : Array CpInfo := pool [(1, u "java/lang/Cloneable"), (0, .class_ 1), (0, u "java/lang/Object"), (0, .class_ 3)] 3

/-- java/lang/Cloneable -/
def k7 : Class := { plain "java/lang/Cloneable" (some 0) with
  accessFlags := 1537
  interfaces := #[]
  cf := some (fileOf pool7 2 #[] #[] 1537 4 #[] #[])
  fields := #[]
  methods := #[]
  instanceTypes := #[]
  staticTypes := #[]
  resolved := Array.replicate 8 none
  statics := none }

/-- the primitive byte -/
def k8 : Class := { plain "byte" none with kind := .primitive 'B', accessFlags := 0x411 }
/-- [B -/
def k9 : Class := { plain "[B" (some 0) with kind := .array 8 .byte, interfaces := #[7, 4], accessFlags := 1041 }

/-- [Lcom/example/melog/melog/protocol/ApiKey; -/
def k10 : Class := { plain "[Lcom/example/melog/melog/protocol/ApiKey;" (some 0) with kind := .array 6 (.object "com/example/melog/melog/protocol/ApiKey"), interfaces := #[7, 4], accessFlags := 1041 }

def heap : Heap := #[{ cls := 6, slots := #[.ref 2, .ref 7, .ref 4, .ref 3, .ref 6, .ref 11, .ref 8, .ref 5, .ref 12, .ref 13, .ref 10, .ref 14, .ref 9, .ref 1, .null], vm := .statics 6 },
  { cls := 10, slots := #[.ref 2, .ref 7, .ref 4, .ref 3, .null, .null, .null, .null, .ref 6, .ref 11, .ref 8, .ref 5, .ref 12, .ref 13, .ref 10, .null, .null, .null, .ref 14, .ref 9], vm := .none },
  { cls := 6, slots := #[.null, .int 0, .int 0, .int 0, .int 0, .int 0, .int 0], vm := .none },
  { cls := 6, slots := #[.null, .int 0, .int 0, .int 0, .int 0, .int 0, .int 0], vm := .none },
  { cls := 6, slots := #[.null, .int 0, .int 0, .int 0, .int 0, .int 0, .int 0], vm := .none },
  { cls := 6, slots := #[.null, .int 0, .int 0, .int 0, .int 0, .int 0, .int 0], vm := .none },
  { cls := 6, slots := #[.null, .int 0, .int 0, .int 0, .int 0, .int 0, .int 0], vm := .none },
  { cls := 6, slots := #[.null, .int 0, .int 0, .int 0, .int 0, .int 0, .int 0], vm := .none },
  { cls := 6, slots := #[.null, .int 0, .int 0, .int 0, .int 0, .int 0, .int 0], vm := .none },
  { cls := 6, slots := #[.null, .int 0, .int 0, .int 0, .int 0, .int 0, .int 0], vm := .none },
  { cls := 6, slots := #[.null, .int 0, .int 0, .int 0, .int 0, .int 0, .int 0], vm := .none },
  { cls := 6, slots := #[.null, .int 0, .int 0, .int 0, .int 0, .int 0, .int 0], vm := .none },
  { cls := 6, slots := #[.null, .int 0, .int 0, .int 0, .int 0, .int 0, .int 0], vm := .none },
  { cls := 6, slots := #[.null, .int 0, .int 0, .int 0, .int 0, .int 0, .int 0], vm := .none },
  { cls := 6, slots := #[.null, .int 0, .int 0, .int 0, .int 0, .int 0, .int 0], vm := .none }]
def classes : Array Class := #[k0, k1, k2, k3, k4, k5, k6, k7, k8, k9, k10]
def interned : List (Array UInt16 × Addr) := []
def slotsUsed : Nat := 126
def theMethod : MethodId := ⟨1, 2⟩
def args0 : Array Value := #[.int 5]
def aboutOver (below : List Frame) : State where
  vm := { classes := classes, interned := interned.toArray }
  heap := heap
  slotsUsed := slotsUsed
  threads := #[{ frames := .invoking theMethod args0 :: below }]
def below0 : List Frame := [.native { method := ⟨0, 0⟩, args := #[] }]
def about1 : State := aboutOver below0
def p0 : Program := .bare "" "" ""
def e0 : Env := launch0.env 0 0 0
theorem w_frames : about1.frames = Frame.invoking theMethod args0 :: below0 := rfl
set_option maxRecDepth 65536 in
theorem w_args : argsFit about1.vm theMethod args0 = true := by decide +kernel
set_option maxRecDepth 65536 in
theorem w_heap : heapFits about1 = true := by decide +kernel
set_option maxRecDepth 65536 in
theorem w_runnable : about1.curStatus? = some .runnable := by decide +kernel
set_option maxRecDepth 65536 in
theorem w_alone : about1.alone = true := by decide +kernel
set_option maxRecDepth 65536 in
theorem w_named : about1.methodNamed? x = some theMethod := by decide +kernel
set_option maxRecDepth 65536 in
theorem w_hears : about1.hears theMethod below0 = true := by decide +kernel
set_option maxRecDepth 65536 in
theorem w_ripe : about1.ripe theMethod args0 below0 = true := by decide +kernel
theorem w_running : about1.status = .running := rfl
set_option maxRecDepth 65536 in
theorem w_room : about1.hasRoom e0.platform room_1 = true :=
  launch0.hasRoom_least _ room_1 (by decide +kernel) (by decide +kernel) (by decide +kernel) (by decide +kernel) (by decide +kernel) (by decide +kernel)
theorem allAtoms_all (ts : List Jvm.Cond) (a : Array Jvm.Value) (st : Jvm.State) : (allAtoms ts).before a st = ts.all (fun c => c.before a st) := by
  induction ts with
  | nil => rfl
  | cons c t ih =>
    show (Jvm.Cond.and c (allAtoms t)).before a st = _
    rw [Jvm.Cond.before_and, ih, List.all_cons]
def words1 : List Jvm.Cond := Jvm.Cond.code x code maxLocals ret :: tables_1
/-- a 'code' word, met by the world's own term for the bytes: nothing is compared byte by byte -/
theorem code_word {y : MethodName} {bytes : ByteArray} {mx : Nat} {rt : Option FieldType} {a : Array Value} {s : State} {m : MethodId} {meth : Method} {c : Code} (h1 : s.methodNamed? y = some m) (h2 : s.vm.method? m = some meth) (h3 : meth.code = some c) (h4 : c.code = bytes)
    (h5 : (c.maxLocals == mx && c.exceptionTable.isEmpty && decide (c.maxStack ≤ mostOperands) && decide (meth.sig.returnType = rt) && !meth.locks && decide (parseMethodDescriptor y.desc = some meth.sig)) = true) : (Jvm.Cond.code y bytes mx rt).before a s = true := by
  simp only [Bool.and_eq_true, beq_iff_eq, Bool.not_eq_true', decide_eq_true_eq] at h5
  obtain ⟨⟨⟨⟨⟨g1, g2⟩, g3⟩, g4⟩, g5⟩, g6⟩ := h5
  simp [Cond.before, Cond.holds, Cond.value, h1, h2, h3, h4, g1, g2, g3, g4, g5, g6]
def isCode : Jvm.Cond → Bool
  | .code _ _ _ _ => true
  | _ => false
theorem all_split {L : List Jvm.Cond} {P : Jvm.Cond → Bool} (h1 : L.all (fun c => isCode c || P c) = true) (h2 : ∀ c ∈ L.filter isCode, P c = true) : L.all P = true := by
  refine List.all_eq_true.mpr fun c hc => ?_
  have h := List.all_eq_true.mp h1 c hc
  rcases Bool.eq_false_or_eq_true (isCode c) with hi | hi
  · exact h2 c (List.mem_filter.mpr ⟨hc, hi⟩)
  · simpa [hi] using h
set_option maxRecDepth 65536 in
theorem w_c0 : (Jvm.Cond.code x code maxLocals ret).before args0 about1 = true := code_word (m := ⟨1, 2⟩) (meth := k1m2) (c := k1c2) (by decide +kernel) rfl rfl rfl (by decide +kernel)
set_option maxRecDepth 65536 in
theorem w_c1 : (Jvm.Cond.code ({ cls := "com/example/melog/melog/protocol/ApiKey", name := "forId", desc := "(S)Lcom/example/melog/melog/protocol/ApiKey;" } : Jvm.MethodName) prog_9_method_4_code (1 : Nat) (Option.some (Jvm.ClassFile.FieldType.object "com/example/melog/melog/protocol/ApiKey"))).before args0 about1 = true := code_word (m := ⟨6, 0⟩) (meth := k6m0) (c := k6c0) (by decide +kernel) rfl rfl rfl (by decide +kernel)
set_option maxRecDepth 65536 in
theorem w_c2 : (Jvm.Cond.code ({ cls := "com/example/melog/melog/protocol/ApiKeyForIdPinLaw", name := "expected", desc := "(I)Lcom/example/melog/melog/protocol/ApiKey;" } : Jvm.MethodName) method_2_code (1 : Nat) (Option.some (Jvm.ClassFile.FieldType.object "com/example/melog/melog/protocol/ApiKey"))).before args0 about1 = true := code_word (m := ⟨1, 1⟩) (meth := k1m1) (c := k1c1) (by decide +kernel) rfl rfl rfl (by decide +kernel)
def codes1 : List Jvm.Cond := [Jvm.Cond.code x code maxLocals ret, Jvm.Cond.code ({ cls := "com/example/melog/melog/protocol/ApiKey", name := "forId", desc := "(S)Lcom/example/melog/melog/protocol/ApiKey;" } : Jvm.MethodName) prog_9_method_4_code (1 : Nat) (Option.some (Jvm.ClassFile.FieldType.object "com/example/melog/melog/protocol/ApiKey")), Jvm.Cond.code ({ cls := "com/example/melog/melog/protocol/ApiKeyForIdPinLaw", name := "expected", desc := "(I)Lcom/example/melog/melog/protocol/ApiKey;" } : Jvm.MethodName) method_2_code (1 : Nat) (Option.some (Jvm.ClassFile.FieldType.object "com/example/melog/melog/protocol/ApiKey"))]
set_option maxRecDepth 65536 in
theorem codes_eq : words1.filter isCode = codes1 := rfl
theorem w_codes : ∀ c ∈ words1.filter isCode, c.before args0 about1 = true := by
  rw [codes_eq]
  intro c hc
  simp only [codes1, List.mem_cons, List.not_mem_nil, or_false] at hc
  rcases hc with rfl | rfl | rfl
  · exact w_c0
  · exact w_c1
  · exact w_c2
set_option maxRecDepth 65536 in
theorem w_t1 : (words1.take 24).all (fun c => isCode c || c.before args0 about1) = true := by decide +kernel
set_option maxRecDepth 65536 in
theorem w_t2 : (words1.drop 24).all (fun c => isCode c || c.before args0 about1) = true := by decide +kernel
theorem w_tables : (allAtoms (Jvm.Cond.code x code maxLocals ret :: tables_1)).before args0 about1 = true := by
  rw [allAtoms_all]
  show words1.all (fun c => c.before args0 about1) = true
  refine all_split ?_ w_codes
  rw [← List.take_append_drop 24 words1, List.all_append, w_t1, w_t2]
  rfl
set_option maxRecDepth 65536 in
theorem w_case : (Jvm.Cond.and given_1 narrow_1).before args0 about1 = true := by decide +kernel
theorem w_applies : (headSpec (Jvm.Cond.code x code maxLocals ret :: tables_1) room_1).applies x e0.platform about1 = true :=
  (Spec.applies_iff w_frames).mpr ⟨w_running, w_runnable, w_alone, w_named, w_hears, w_ripe, w_room, w_tables⟩
theorem atStart : AtStart classFile x code maxLocals ret World_1 tables_1 room_1 Calls_1 rest_1 Pre_1 launch0 p0 e0 about1 theMethod args0 below0 :=
  ⟨lists_1, trivial, launch0.admits_env _ _ _, launch0.least_env, fairChoices_fair.cas, fairChoices_fair.clock, w_frames, w_args, w_heap, w_applies, trivial, trivial, w_case⟩
end start1
theorem witness_1 : WitnessClaimed_1 := ⟨start1.p0, start1.e0, start1.about1, start1.theMethod, start1.args0, start1.below0, start1.atStart⟩
end Jvm.Pilot.@@N@@
