import JvmDerived
import JvmDerived.Pilot.@@N@@Statement
import JvmDerived.Pilot.@@N@@Code
set_option linter.unusedVariables false
set_option linter.unusedSimpArgs false
@@BLOCK:NumsL.lean.txt@@
namespace Jvm.RoadKit
open Sem ClassFile Op Lib Jvm.Stand Jvm.Free Jvm.LawKit
section New
variable {p : Program} {l : Launch} {e : Env} {R : Room} {s : State} {m : MethodId} {args : Array Value} {below : List Frame} {meth : Method} {c : Code} {T : State} {locs : List Loc} {cells slots : Nat}
theorem retI (X : Stand p l e R s m args below meth c T locs cells slots) (hx : p.tables.exec = Jvm.exec) {pc : Nat} {Ls : Array Slot} {z : Int32} {rest : List Value} (hret : meth.sig.returnType = some .int) (hd : decode c.code pc = .ok (.ireturn, 1)) {fs : List Frame}
    (hl : ∀ (f : JFrame) (acts : List Action), f.method = m → f.locked = none → f.entered = [] → (doReturn e (T.setTop f) acts (some (.int z))).1 = T.setFrames fs) : Steps p.tables e below (T.setTop (mkF m pc Ls (.int z :: rest))) (T.setFrames fs) := by
  have hm' : T.vm.method? m = some meth := X.method'
  have hn : narrow .int (.int z) = .int z := rfl
  show Steps p.tables e below (T.setTop { method := m, pc := pc, locals := Ls, stack := _ :: rest, locked := none }) _
  jvm_step X.here [X.here.top, hx, hd, hm', hret, hn]
  first | (intro acts; rw [hl _ acts rfl rfl rfl]) | rw [hl _ _ rfl rfl rfl]
  exact Steps.refl _
end New
end Jvm.RoadKit
namespace Jvm.Pilot.@@N@@
open Jvm Jvm.ClassFile Sem Op Lib Jvm.Free Jvm.Stand Jvm.LawKit Jvm.RoadKit Bundle Jvm.Pilot.@@N@@.Jvm.D
theorem own_ext {h h' h'' : Heap} (A : Ext h h') (B : Ext h' h'') : Ext h h'' := ⟨Nat.le_trans A.1 B.1, fun a c q => B.2 a c (A.2 a c q)⟩
theorem own_fld {args : Array Value} {s : State} {t : Term} {C n d : String} {w : Addr} {k : Int32} (h : (Jvm.Cond.eq (.field t C n d) (.int k)).value args s none s [] = some true) (ev : t.eval args s none [] s = some (.ref w)) : Fld s s.heap w C n d (.int k) := by
  apply Fld.start
  have e := fld_at (C := C) (n := n) (dd := d) ev
  obtain ⟨x, y, e1, e2, k1, k2⟩ := cmp_v (Or.inl h)
  cases (show y = .int k from (Option.some.inj (e2.symm.trans rfl)))
  obtain ⟨z, rfl⟩ := k2
  have q := gotT (Cond.eq_ints e1 e2) h
  rw [← e, e1, q]
theorem own_fldR {args : Array Value} {s : State} {t u : Term} {C n d : String} {w b : Addr} (h : (Jvm.Cond.eq (.field t C n d) u).value args s none s [] = some true) (ev : t.eval args s none [] s = some (.ref w)) (eu : u.eval args s none [] s = some (.ref b)) : Fld s s.heap w C n d (.ref b) := by
  apply Fld.start
  have e := fld_at (C := C) (n := n) (dd := d) ev
  obtain ⟨x, y, e1, e2, k1, k2⟩ := cmp_v (Or.inl h)
  cases e2.symm.trans eu
  have q := gotT (eq_R e1 eu k2.2 rfl) h
  rw [← e, e1, q]
theorem own_ne {Z : State} {h : Heap} {a b : Addr} {C n d : String} {i j : Int32} (F : Fld Z h a C n d (.int i)) (G : Fld Z h b C n d (.int j)) (hn : ¬ (i = j)) : ¬ (a = b) := fun e => by
  subst e
  obtain ⟨c1, f1, k1, i1, g1, p1, p2, -, -, -, -, p7⟩ := F
  obtain ⟨c2, f2, k2, i2, g2, q1, q2, -, -, -, -, q7⟩ := G
  cases p1.symm.trans q1
  cases p2.symm.trans q2
  exact hn (Value.int.inj (Option.some.inj (p7.symm.trans q7)))
theorem own_n0 {Z : State} {n0 : Nat} {h : Heap} (O : Old Z n0 h) : n0 ≤ h.size := O.1 ▸ O.2.1
theorem own_inj {x y : Int32} (h : x.toInt = y.toInt) : x = y := Int32.toInt_inj.mp h
theorem own_rem (x : Int32) : ((x &&& (2147483647 : Int32)) % (13 : Int32)) = (0 : Int32) ∨ ((x &&& (2147483647 : Int32)) % (13 : Int32)) = (1 : Int32) ∨ ((x &&& (2147483647 : Int32)) % (13 : Int32)) = (2 : Int32) ∨ ((x &&& (2147483647 : Int32)) % (13 : Int32)) = (3 : Int32) ∨ ((x &&& (2147483647 : Int32)) % (13 : Int32)) = (4 : Int32) ∨ ((x &&& (2147483647 : Int32)) % (13 : Int32)) = (5 : Int32) ∨ ((x &&& (2147483647 : Int32)) % (13 : Int32)) = (6 : Int32) ∨ ((x &&& (2147483647 : Int32)) % (13 : Int32)) = (7 : Int32) ∨ ((x &&& (2147483647 : Int32)) % (13 : Int32)) = (8 : Int32) ∨ ((x &&& (2147483647 : Int32)) % (13 : Int32)) = (9 : Int32) ∨ ((x &&& (2147483647 : Int32)) % (13 : Int32)) = (10 : Int32) ∨ ((x &&& (2147483647 : Int32)) % (13 : Int32)) = (11 : Int32) ∨ ((x &&& (2147483647 : Int32)) % (13 : Int32)) = (12 : Int32) := by
  have e := Jvm.Kit.i32_mask x (2147483647 : Int32) (k := 31) (by decide) (by decide)
  have e2 := Jvm.Kit.i32_rem_nonneg (x := x &&& (2147483647 : Int32)) (y := (13 : Int32)) (by omega)
  have e3 : (13 : Int32).toInt = 13 := by decide
  rw [e3] at e2
  have h : ((x &&& (2147483647 : Int32)) % (13 : Int32)).toInt = 0 ∨ ((x &&& (2147483647 : Int32)) % (13 : Int32)).toInt = 1 ∨ ((x &&& (2147483647 : Int32)) % (13 : Int32)).toInt = 2 ∨ ((x &&& (2147483647 : Int32)) % (13 : Int32)).toInt = 3 ∨ ((x &&& (2147483647 : Int32)) % (13 : Int32)).toInt = 4 ∨ ((x &&& (2147483647 : Int32)) % (13 : Int32)).toInt = 5 ∨ ((x &&& (2147483647 : Int32)) % (13 : Int32)).toInt = 6 ∨ ((x &&& (2147483647 : Int32)) % (13 : Int32)).toInt = 7 ∨ ((x &&& (2147483647 : Int32)) % (13 : Int32)).toInt = 8 ∨ ((x &&& (2147483647 : Int32)) % (13 : Int32)).toInt = 9 ∨ ((x &&& (2147483647 : Int32)) % (13 : Int32)).toInt = 10 ∨ ((x &&& (2147483647 : Int32)) % (13 : Int32)).toInt = 11 ∨ ((x &&& (2147483647 : Int32)) % (13 : Int32)).toInt = 12 := by omega
  rcases h with h | h | h | h | h | h | h | h | h | h | h | h | h
  · exact Or.inl (own_inj (h.trans (by decide)))
  · exact Or.inr (Or.inl (own_inj (h.trans (by decide))))
  · exact Or.inr (Or.inr (Or.inl (own_inj (h.trans (by decide)))))
  · exact Or.inr (Or.inr (Or.inr (Or.inl (own_inj (h.trans (by decide))))))
  · exact Or.inr (Or.inr (Or.inr (Or.inr (Or.inl (own_inj (h.trans (by decide)))))))
  · exact Or.inr (Or.inr (Or.inr (Or.inr (Or.inr (Or.inl (own_inj (h.trans (by decide))))))))
  · exact Or.inr (Or.inr (Or.inr (Or.inr (Or.inr (Or.inr (Or.inl (own_inj (h.trans (by decide)))))))))
  · exact Or.inr (Or.inr (Or.inr (Or.inr (Or.inr (Or.inr (Or.inr (Or.inl (own_inj (h.trans (by decide))))))))))
  · exact Or.inr (Or.inr (Or.inr (Or.inr (Or.inr (Or.inr (Or.inr (Or.inr (Or.inl (own_inj (h.trans (by decide)))))))))))
  · exact Or.inr (Or.inr (Or.inr (Or.inr (Or.inr (Or.inr (Or.inr (Or.inr (Or.inr (Or.inl (own_inj (h.trans (by decide))))))))))))
  · exact Or.inr (Or.inr (Or.inr (Or.inr (Or.inr (Or.inr (Or.inr (Or.inr (Or.inr (Or.inr (Or.inl (own_inj (h.trans (by decide)))))))))))))
  · exact Or.inr (Or.inr (Or.inr (Or.inr (Or.inr (Or.inr (Or.inr (Or.inr (Or.inr (Or.inr (Or.inr (Or.inl (own_inj (h.trans (by decide))))))))))))))
  · exact Or.inr (Or.inr (Or.inr (Or.inr (Or.inr (Or.inr (Or.inr (Or.inr (Or.inr (Or.inr (Or.inr (Or.inr (own_inj (h.trans (by decide))))))))))))))
def World (Z : State) (w_PRODUCE : Addr) (w_FETCH : Addr) (w_OFFSET_COMMIT : Addr) (w_METADATA : Addr) (w_LEAVE_GROUP : Addr) (w_OFFSET_FETCH : Addr) (w_FIND_COORDINATOR : Addr) (w_HEARTBEAT : Addr) (w_CREATE_TOPICS : Addr) (w_LIST_OFFSETS : Addr) (w_SYNC_GROUP : Addr) (w_API_VERSIONS : Addr) (w_JOIN_GROUP : Addr) : Prop := Sta Z Z.heap "com/example/melog/melog/protocol/ApiKey" "PRODUCE" "Lcom/example/melog/melog/protocol/ApiKey;" (.ref w_PRODUCE) ∧ Exa Z Z.heap w_PRODUCE "com/example/melog/melog/protocol/ApiKey" ∧ Sta Z Z.heap "com/example/melog/melog/protocol/ApiKey" "FETCH" "Lcom/example/melog/melog/protocol/ApiKey;" (.ref w_FETCH) ∧ Exa Z Z.heap w_FETCH "com/example/melog/melog/protocol/ApiKey" ∧ Sta Z Z.heap "com/example/melog/melog/protocol/ApiKey" "OFFSET_COMMIT" "Lcom/example/melog/melog/protocol/ApiKey;" (.ref w_OFFSET_COMMIT) ∧ Exa Z Z.heap w_OFFSET_COMMIT "com/example/melog/melog/protocol/ApiKey" ∧ Sta Z Z.heap "com/example/melog/melog/protocol/ApiKey" "METADATA" "Lcom/example/melog/melog/protocol/ApiKey;" (.ref w_METADATA) ∧ Exa Z Z.heap w_METADATA "com/example/melog/melog/protocol/ApiKey" ∧ Sta Z Z.heap "com/example/melog/melog/protocol/ApiKey" "LEAVE_GROUP" "Lcom/example/melog/melog/protocol/ApiKey;" (.ref w_LEAVE_GROUP) ∧ Exa Z Z.heap w_LEAVE_GROUP "com/example/melog/melog/protocol/ApiKey" ∧ Sta Z Z.heap "com/example/melog/melog/protocol/ApiKey" "OFFSET_FETCH" "Lcom/example/melog/melog/protocol/ApiKey;" (.ref w_OFFSET_FETCH) ∧ Exa Z Z.heap w_OFFSET_FETCH "com/example/melog/melog/protocol/ApiKey" ∧ Sta Z Z.heap "com/example/melog/melog/protocol/ApiKey" "FIND_COORDINATOR" "Lcom/example/melog/melog/protocol/ApiKey;" (.ref w_FIND_COORDINATOR) ∧ Exa Z Z.heap w_FIND_COORDINATOR "com/example/melog/melog/protocol/ApiKey" ∧ Sta Z Z.heap "com/example/melog/melog/protocol/ApiKey" "HEARTBEAT" "Lcom/example/melog/melog/protocol/ApiKey;" (.ref w_HEARTBEAT) ∧ Exa Z Z.heap w_HEARTBEAT "com/example/melog/melog/protocol/ApiKey" ∧ Sta Z Z.heap "com/example/melog/melog/protocol/ApiKey" "CREATE_TOPICS" "Lcom/example/melog/melog/protocol/ApiKey;" (.ref w_CREATE_TOPICS) ∧ Exa Z Z.heap w_CREATE_TOPICS "com/example/melog/melog/protocol/ApiKey" ∧ Sta Z Z.heap "com/example/melog/melog/protocol/ApiKey" "LIST_OFFSETS" "Lcom/example/melog/melog/protocol/ApiKey;" (.ref w_LIST_OFFSETS) ∧ Exa Z Z.heap w_LIST_OFFSETS "com/example/melog/melog/protocol/ApiKey" ∧ Sta Z Z.heap "com/example/melog/melog/protocol/ApiKey" "SYNC_GROUP" "Lcom/example/melog/melog/protocol/ApiKey;" (.ref w_SYNC_GROUP) ∧ Exa Z Z.heap w_SYNC_GROUP "com/example/melog/melog/protocol/ApiKey" ∧ Sta Z Z.heap "com/example/melog/melog/protocol/ApiKey" "API_VERSIONS" "Lcom/example/melog/melog/protocol/ApiKey;" (.ref w_API_VERSIONS) ∧ Exa Z Z.heap w_API_VERSIONS "com/example/melog/melog/protocol/ApiKey" ∧ Sta Z Z.heap "com/example/melog/melog/protocol/ApiKey" "JOIN_GROUP" "Lcom/example/melog/melog/protocol/ApiKey;" (.ref w_JOIN_GROUP) ∧ Exa Z Z.heap w_JOIN_GROUP "com/example/melog/melog/protocol/ApiKey" ∧ Fld Z Z.heap w_PRODUCE "com/example/melog/melog/protocol/ApiKey" "minVersion" "S" (.int (0 : Int32)) ∧ Fld Z Z.heap w_PRODUCE "com/example/melog/melog/protocol/ApiKey" "maxVersion" "S" (.int (7 : Int32)) ∧ Fld Z Z.heap w_FETCH "com/example/melog/melog/protocol/ApiKey" "minVersion" "S" (.int (4 : Int32)) ∧ Fld Z Z.heap w_OFFSET_COMMIT "com/example/melog/melog/protocol/ApiKey" "minVersion" "S" (.int (2 : Int32)) ∧ Fld Z Z.heap w_OFFSET_COMMIT "com/example/melog/melog/protocol/ApiKey" "maxVersion" "S" (.int (7 : Int32)) ∧ Fld Z Z.heap w_METADATA "com/example/melog/melog/protocol/ApiKey" "minVersion" "S" (.int (0 : Int32)) ∧ Fld Z Z.heap w_LEAVE_GROUP "com/example/melog/melog/protocol/ApiKey" "minVersion" "S" (.int (0 : Int32)) ∧ Fld Z Z.heap w_LEAVE_GROUP "com/example/melog/melog/protocol/ApiKey" "maxVersion" "S" (.int (1 : Int32)) ∧ Fld Z Z.heap w_OFFSET_FETCH "com/example/melog/melog/protocol/ApiKey" "minVersion" "S" (.int (1 : Int32)) ∧ Fld Z Z.heap w_OFFSET_FETCH "com/example/melog/melog/protocol/ApiKey" "maxVersion" "S" (.int (5 : Int32)) ∧ Fld Z Z.heap w_FIND_COORDINATOR "com/example/melog/melog/protocol/ApiKey" "minVersion" "S" (.int (0 : Int32)) ∧ Fld Z Z.heap w_FIND_COORDINATOR "com/example/melog/melog/protocol/ApiKey" "maxVersion" "S" (.int (2 : Int32)) ∧ Fld Z Z.heap w_HEARTBEAT "com/example/melog/melog/protocol/ApiKey" "minVersion" "S" (.int (0 : Int32)) ∧ Fld Z Z.heap w_CREATE_TOPICS "com/example/melog/melog/protocol/ApiKey" "minVersion" "S" (.int (0 : Int32)) ∧ Fld Z Z.heap w_CREATE_TOPICS "com/example/melog/melog/protocol/ApiKey" "maxVersion" "S" (.int (4 : Int32)) ∧ Fld Z Z.heap w_LIST_OFFSETS "com/example/melog/melog/protocol/ApiKey" "minVersion" "S" (.int (1 : Int32)) ∧ Fld Z Z.heap w_LIST_OFFSETS "com/example/melog/melog/protocol/ApiKey" "maxVersion" "S" (.int (2 : Int32)) ∧ Fld Z Z.heap w_METADATA "com/example/melog/melog/protocol/ApiKey" "maxVersion" "S" (.int (4 : Int32)) ∧ Fld Z Z.heap w_HEARTBEAT "com/example/melog/melog/protocol/ApiKey" "maxVersion" "S" (.int (3 : Int32)) ∧ Fld Z Z.heap w_SYNC_GROUP "com/example/melog/melog/protocol/ApiKey" "minVersion" "S" (.int (0 : Int32)) ∧ Fld Z Z.heap w_API_VERSIONS "com/example/melog/melog/protocol/ApiKey" "minVersion" "S" (.int (0 : Int32)) ∧ Fld Z Z.heap w_API_VERSIONS "com/example/melog/melog/protocol/ApiKey" "maxVersion" "S" (.int (3 : Int32)) ∧ Fld Z Z.heap w_FETCH "com/example/melog/melog/protocol/ApiKey" "maxVersion" "S" (.int (11 : Int32)) ∧ Fld Z Z.heap w_SYNC_GROUP "com/example/melog/melog/protocol/ApiKey" "maxVersion" "S" (.int (3 : Int32)) ∧ Fld Z Z.heap w_JOIN_GROUP "com/example/melog/melog/protocol/ApiKey" "minVersion" "S" (.int (0 : Int32)) ∧ Fld Z Z.heap w_JOIN_GROUP "com/example/melog/melog/protocol/ApiKey" "maxVersion" "S" (.int (5 : Int32)) ∧ ¬ (w_PRODUCE = w_FETCH) ∧ ¬ (w_PRODUCE = w_OFFSET_COMMIT) ∧ ¬ (w_PRODUCE = w_METADATA) ∧ ¬ (w_PRODUCE = w_LEAVE_GROUP) ∧ ¬ (w_PRODUCE = w_OFFSET_FETCH) ∧ ¬ (w_PRODUCE = w_FIND_COORDINATOR) ∧ ¬ (w_PRODUCE = w_HEARTBEAT) ∧ ¬ (w_PRODUCE = w_CREATE_TOPICS) ∧ ¬ (w_PRODUCE = w_LIST_OFFSETS) ∧ ¬ (w_PRODUCE = w_SYNC_GROUP) ∧ ¬ (w_PRODUCE = w_API_VERSIONS) ∧ ¬ (w_PRODUCE = w_JOIN_GROUP) ∧ ¬ (w_FETCH = w_OFFSET_COMMIT) ∧ ¬ (w_FETCH = w_METADATA) ∧ ¬ (w_FETCH = w_LEAVE_GROUP) ∧ ¬ (w_FETCH = w_OFFSET_FETCH) ∧ ¬ (w_FETCH = w_FIND_COORDINATOR) ∧ ¬ (w_FETCH = w_HEARTBEAT) ∧ ¬ (w_FETCH = w_CREATE_TOPICS) ∧ ¬ (w_FETCH = w_LIST_OFFSETS) ∧ ¬ (w_FETCH = w_SYNC_GROUP) ∧ ¬ (w_FETCH = w_API_VERSIONS) ∧ ¬ (w_FETCH = w_JOIN_GROUP) ∧ ¬ (w_OFFSET_COMMIT = w_METADATA) ∧ ¬ (w_OFFSET_COMMIT = w_LEAVE_GROUP) ∧ ¬ (w_OFFSET_COMMIT = w_OFFSET_FETCH) ∧ ¬ (w_OFFSET_COMMIT = w_FIND_COORDINATOR) ∧ ¬ (w_OFFSET_COMMIT = w_HEARTBEAT) ∧ ¬ (w_OFFSET_COMMIT = w_CREATE_TOPICS) ∧ ¬ (w_OFFSET_COMMIT = w_LIST_OFFSETS) ∧ ¬ (w_OFFSET_COMMIT = w_SYNC_GROUP) ∧ ¬ (w_OFFSET_COMMIT = w_API_VERSIONS) ∧ ¬ (w_OFFSET_COMMIT = w_JOIN_GROUP) ∧ ¬ (w_METADATA = w_LEAVE_GROUP) ∧ ¬ (w_METADATA = w_OFFSET_FETCH) ∧ ¬ (w_METADATA = w_FIND_COORDINATOR) ∧ ¬ (w_METADATA = w_HEARTBEAT) ∧ ¬ (w_METADATA = w_LIST_OFFSETS) ∧ ¬ (w_METADATA = w_SYNC_GROUP) ∧ ¬ (w_METADATA = w_API_VERSIONS) ∧ ¬ (w_METADATA = w_JOIN_GROUP) ∧ ¬ (w_LEAVE_GROUP = w_OFFSET_FETCH) ∧ ¬ (w_LEAVE_GROUP = w_FIND_COORDINATOR) ∧ ¬ (w_LEAVE_GROUP = w_HEARTBEAT) ∧ ¬ (w_LEAVE_GROUP = w_CREATE_TOPICS) ∧ ¬ (w_LEAVE_GROUP = w_LIST_OFFSETS) ∧ ¬ (w_LEAVE_GROUP = w_SYNC_GROUP) ∧ ¬ (w_LEAVE_GROUP = w_API_VERSIONS) ∧ ¬ (w_LEAVE_GROUP = w_JOIN_GROUP) ∧ ¬ (w_OFFSET_FETCH = w_FIND_COORDINATOR) ∧ ¬ (w_OFFSET_FETCH = w_HEARTBEAT) ∧ ¬ (w_OFFSET_FETCH = w_CREATE_TOPICS) ∧ ¬ (w_OFFSET_FETCH = w_LIST_OFFSETS) ∧ ¬ (w_OFFSET_FETCH = w_SYNC_GROUP) ∧ ¬ (w_OFFSET_FETCH = w_API_VERSIONS) ∧ ¬ (w_OFFSET_FETCH = w_JOIN_GROUP) ∧ ¬ (w_FIND_COORDINATOR = w_HEARTBEAT) ∧ ¬ (w_FIND_COORDINATOR = w_CREATE_TOPICS) ∧ ¬ (w_FIND_COORDINATOR = w_LIST_OFFSETS) ∧ ¬ (w_FIND_COORDINATOR = w_SYNC_GROUP) ∧ ¬ (w_FIND_COORDINATOR = w_API_VERSIONS) ∧ ¬ (w_FIND_COORDINATOR = w_JOIN_GROUP) ∧ ¬ (w_HEARTBEAT = w_CREATE_TOPICS) ∧ ¬ (w_HEARTBEAT = w_LIST_OFFSETS) ∧ ¬ (w_HEARTBEAT = w_JOIN_GROUP) ∧ ¬ (w_CREATE_TOPICS = w_LIST_OFFSETS) ∧ ¬ (w_CREATE_TOPICS = w_SYNC_GROUP) ∧ ¬ (w_CREATE_TOPICS = w_API_VERSIONS) ∧ ¬ (w_CREATE_TOPICS = w_JOIN_GROUP) ∧ ¬ (w_LIST_OFFSETS = w_SYNC_GROUP) ∧ ¬ (w_LIST_OFFSETS = w_API_VERSIONS) ∧ ¬ (w_LIST_OFFSETS = w_JOIN_GROUP) ∧ ¬ (w_SYNC_GROUP = w_JOIN_GROUP) ∧ ¬ (w_API_VERSIONS = w_JOIN_GROUP) ∧ True
set_option maxRecDepth 65536 in
set_option maxHeartbeats 40000000 in
theorem seg0 {p : Program} {l : Launch} {e : Env} {s : State} {m : MethodId} {args : Array Value} {below : List Frame} {meth : Method} {c : Code} {T0 : State} {locs : List Loc} {Z : State} {a0 : Array Value} {h0 : Heap} {n0 : Nat} (w_PRODUCE : Addr) (w_FETCH : Addr) (w_OFFSET_COMMIT : Addr) (w_METADATA : Addr) (w_LEAVE_GROUP : Addr) (w_OFFSET_FETCH : Addr) (w_FIND_COORDINATOR : Addr) (w_HEARTBEAT : Addr) (w_CREATE_TOPICS : Addr) (w_LIST_OFFSETS : Addr) (w_SYNC_GROUP : Addr) (w_API_VERSIONS : Addr) (w_JOIN_GROUP : Addr) (p1 : Int32) (p2 : Int32)
    (X0 : Stand p l e room_1 s m args below meth c T0 locs 0 0) (hx : p.tables.exec = Jvm.exec) (hZ : Z.Warmed39 s.vm) (hw : ∀ d ∈ tables_1, d.before a0 Z = true) (hby : c.code = code) (hml : c.maxLocals = 8) (hown : s.vm.findClass "com/example/melog/melog/protocol/ApiKeyServesPinLaw" = some m.cls) (e0 : T0.heap = h0) (N0 : Fr n0 locs) (O0 : Old Z n0 h0) (HW : World Z w_PRODUCE w_FETCH w_OFFSET_COMMIT w_METADATA w_LEAVE_GROUP w_OFFSET_FETCH w_FIND_COORDINATOR w_HEARTBEAT w_CREATE_TOPICS w_LIST_OFFSETS w_SYNC_GROUP w_API_VERSIONS w_JOIN_GROUP) (hk : ((p1 &&& (2147483647 : Int32)) % (13 : Int32)) = (0 : Int32)) :
    ∃ (T' : State) (locs' : List Loc), Stand p l e room_1 s m args below meth c T' locs' 0 0 ∧ Fr n0 locs' ∧ T'.heap = h0 ∧ ∀ t, Steps p.tables e below (T'.setTop (mkF m 258 #[.val (.int p1), .val (.int p2), .val (.int (0 : Int32)), .val (.int (p2.toInt16.toInt32)), .val (.ref w_PRODUCE), .val (.int (0 : Int32)), .val (.int (7 : Int32)), .unset] [])) t → Steps p.tables e below (T0.setTop (mkF m 0 #[.val (.int p1), .val (.int p2), .unset, .unset, .unset, .unset, .unset, .unset] [])) t := by
  obtain ⟨S_w_PRODUCE, E_w_PRODUCE, S_w_FETCH, E_w_FETCH, S_w_OFFSET_COMMIT, E_w_OFFSET_COMMIT, S_w_METADATA, E_w_METADATA, S_w_LEAVE_GROUP, E_w_LEAVE_GROUP, S_w_OFFSET_FETCH, E_w_OFFSET_FETCH, S_w_FIND_COORDINATOR, E_w_FIND_COORDINATOR, S_w_HEARTBEAT, E_w_HEARTBEAT, S_w_CREATE_TOPICS, E_w_CREATE_TOPICS, S_w_LIST_OFFSETS, E_w_LIST_OFFSETS, S_w_SYNC_GROUP, E_w_SYNC_GROUP, S_w_API_VERSIONS, E_w_API_VERSIONS, S_w_JOIN_GROUP, E_w_JOIN_GROUP, F_minVersion_w_PRODUCE, F_maxVersion_w_PRODUCE, F_minVersion_w_FETCH, F_minVersion_w_OFFSET_COMMIT, F_maxVersion_w_OFFSET_COMMIT, F_minVersion_w_METADATA, F_minVersion_w_LEAVE_GROUP, F_maxVersion_w_LEAVE_GROUP, F_minVersion_w_OFFSET_FETCH, F_maxVersion_w_OFFSET_FETCH, F_minVersion_w_FIND_COORDINATOR, F_maxVersion_w_FIND_COORDINATOR, F_minVersion_w_HEARTBEAT, F_minVersion_w_CREATE_TOPICS, F_maxVersion_w_CREATE_TOPICS, F_minVersion_w_LIST_OFFSETS, F_maxVersion_w_LIST_OFFSETS, F_maxVersion_w_METADATA, F_maxVersion_w_HEARTBEAT, F_minVersion_w_SYNC_GROUP, F_minVersion_w_API_VERSIONS, F_maxVersion_w_API_VERSIONS, F_maxVersion_w_FETCH, F_maxVersion_w_SYNC_GROUP, F_minVersion_w_JOIN_GROUP, F_maxVersion_w_JOIN_GROUP, ne_w_PRODUCE_w_FETCH, ne_w_PRODUCE_w_OFFSET_COMMIT, ne_w_PRODUCE_w_METADATA, ne_w_PRODUCE_w_LEAVE_GROUP, ne_w_PRODUCE_w_OFFSET_FETCH, ne_w_PRODUCE_w_FIND_COORDINATOR, ne_w_PRODUCE_w_HEARTBEAT, ne_w_PRODUCE_w_CREATE_TOPICS, ne_w_PRODUCE_w_LIST_OFFSETS, ne_w_PRODUCE_w_SYNC_GROUP, ne_w_PRODUCE_w_API_VERSIONS, ne_w_PRODUCE_w_JOIN_GROUP, ne_w_FETCH_w_OFFSET_COMMIT, ne_w_FETCH_w_METADATA, ne_w_FETCH_w_LEAVE_GROUP, ne_w_FETCH_w_OFFSET_FETCH, ne_w_FETCH_w_FIND_COORDINATOR, ne_w_FETCH_w_HEARTBEAT, ne_w_FETCH_w_CREATE_TOPICS, ne_w_FETCH_w_LIST_OFFSETS, ne_w_FETCH_w_SYNC_GROUP, ne_w_FETCH_w_API_VERSIONS, ne_w_FETCH_w_JOIN_GROUP, ne_w_OFFSET_COMMIT_w_METADATA, ne_w_OFFSET_COMMIT_w_LEAVE_GROUP, ne_w_OFFSET_COMMIT_w_OFFSET_FETCH, ne_w_OFFSET_COMMIT_w_FIND_COORDINATOR, ne_w_OFFSET_COMMIT_w_HEARTBEAT, ne_w_OFFSET_COMMIT_w_CREATE_TOPICS, ne_w_OFFSET_COMMIT_w_LIST_OFFSETS, ne_w_OFFSET_COMMIT_w_SYNC_GROUP, ne_w_OFFSET_COMMIT_w_API_VERSIONS, ne_w_OFFSET_COMMIT_w_JOIN_GROUP, ne_w_METADATA_w_LEAVE_GROUP, ne_w_METADATA_w_OFFSET_FETCH, ne_w_METADATA_w_FIND_COORDINATOR, ne_w_METADATA_w_HEARTBEAT, ne_w_METADATA_w_LIST_OFFSETS, ne_w_METADATA_w_SYNC_GROUP, ne_w_METADATA_w_API_VERSIONS, ne_w_METADATA_w_JOIN_GROUP, ne_w_LEAVE_GROUP_w_OFFSET_FETCH, ne_w_LEAVE_GROUP_w_FIND_COORDINATOR, ne_w_LEAVE_GROUP_w_HEARTBEAT, ne_w_LEAVE_GROUP_w_CREATE_TOPICS, ne_w_LEAVE_GROUP_w_LIST_OFFSETS, ne_w_LEAVE_GROUP_w_SYNC_GROUP, ne_w_LEAVE_GROUP_w_API_VERSIONS, ne_w_LEAVE_GROUP_w_JOIN_GROUP, ne_w_OFFSET_FETCH_w_FIND_COORDINATOR, ne_w_OFFSET_FETCH_w_HEARTBEAT, ne_w_OFFSET_FETCH_w_CREATE_TOPICS, ne_w_OFFSET_FETCH_w_LIST_OFFSETS, ne_w_OFFSET_FETCH_w_SYNC_GROUP, ne_w_OFFSET_FETCH_w_API_VERSIONS, ne_w_OFFSET_FETCH_w_JOIN_GROUP, ne_w_FIND_COORDINATOR_w_HEARTBEAT, ne_w_FIND_COORDINATOR_w_CREATE_TOPICS, ne_w_FIND_COORDINATOR_w_LIST_OFFSETS, ne_w_FIND_COORDINATOR_w_SYNC_GROUP, ne_w_FIND_COORDINATOR_w_API_VERSIONS, ne_w_FIND_COORDINATOR_w_JOIN_GROUP, ne_w_HEARTBEAT_w_CREATE_TOPICS, ne_w_HEARTBEAT_w_LIST_OFFSETS, ne_w_HEARTBEAT_w_JOIN_GROUP, ne_w_CREATE_TOPICS_w_LIST_OFFSETS, ne_w_CREATE_TOPICS_w_SYNC_GROUP, ne_w_CREATE_TOPICS_w_API_VERSIONS, ne_w_CREATE_TOPICS_w_JOIN_GROUP, ne_w_LIST_OFFSETS_w_SYNC_GROUP, ne_w_LIST_OFFSETS_w_API_VERSIONS, ne_w_LIST_OFFSETS_w_JOIN_GROUP, ne_w_SYNC_GROUP_w_JOIN_GROUP, ne_w_API_VERSIONS_w_JOIN_GROUP, -⟩ := id HW
  obtain ⟨T1, X1, e1, st1⟩ := getS2 X0 hx hZ hown (host := "") (Or.inl (hw _ (List.mem_of_getElem? (i := 1) rfl))) Via.refl e0 (S_w_PRODUCE.ext O0.2) (g := (mkF m 15 #[.val (.int p1), .val (.int p2), .val (.int (0 : Int32)), .val (.int (p2.toInt16.toInt32)), .unset, .unset, .unset, .unset] [])) rfl (hb hby at_15)
  refine ⟨T1, _, X1, N0, e1, fun t kt => ?_⟩
  show Steps p.tables e below (T0.setTop (mkF m 0 #[.val (.int p1), .val (.int p2), .unset, .unset, .unset, .unset, .unset, .unset] [])) _
  refine XS.iloadN X0.here hx rfl (hb hby at_0) rfl ?_
  show Steps p.tables e below (T0.setTop (mkF m 1 #[.val (.int p1), .val (.int p2), .unset, .unset, .unset, .unset, .unset, .unset] [(.int p1)])) _
  refine X0.ldcInt hx hown (mvT hZ (hw _ (List.mem_of_getElem? (i := 0) rfl))) (g := (mkF m 1 #[.val (.int p1), .val (.int p2), .unset, .unset, .unset, .unset, .unset, .unset] [(.int p1)])) rfl (hb hby at_1) _ ?_
  show Steps p.tables e below (T0.setTop (mkF m 3 #[.val (.int p1), .val (.int p2), .unset, .unset, .unset, .unset, .unset, .unset] [(.int (2147483647 : Int32)), (.int p1)])) _
  refine XS.iand X0.here hx rfl (hb hby at_3) rfl ?_
  show Steps p.tables e below (T0.setTop (mkF m 4 #[.val (.int p1), .val (.int p2), .unset, .unset, .unset, .unset, .unset, .unset] [(.int (p1 &&& (2147483647 : Int32)))])) _
  refine XS.bipush X0.here hx rfl (hb hby at_4) ?_
  show Steps p.tables e below (T0.setTop (mkF m 6 #[.val (.int p1), .val (.int p2), .unset, .unset, .unset, .unset, .unset, .unset] [(.int (13 : Int32)), (.int (p1 &&& (2147483647 : Int32)))])) _
  refine iremM X0 hx rfl (hb hby at_6) rfl (by decide) ?_
  rw [hk]
  show Steps p.tables e below (T0.setTop (mkF m 7 #[.val (.int p1), .val (.int p2), .unset, .unset, .unset, .unset, .unset, .unset] [(.int (0 : Int32))])) _
  refine XS.istoreN X0.here hx rfl (hb hby at_7) rfl (l' := #[.val (.int p1), .val (.int p2), .val (.int (0 : Int32)), .unset, .unset, .unset, .unset, .unset]) rfl ?_
  show Steps p.tables e below (T0.setTop (mkF m 8 #[.val (.int p1), .val (.int p2), .val (.int (0 : Int32)), .unset, .unset, .unset, .unset, .unset] [])) _
  refine XS.iloadN X0.here hx rfl (hb hby at_8) rfl ?_
  show Steps p.tables e below (T0.setTop (mkF m 9 #[.val (.int p1), .val (.int p2), .val (.int (0 : Int32)), .unset, .unset, .unset, .unset, .unset] [(.int p2)])) _
  refine XS.i2s X0.here hx rfl (hb hby at_9) rfl ?_
  show Steps p.tables e below (T0.setTop (mkF m 10 #[.val (.int p1), .val (.int p2), .val (.int (0 : Int32)), .unset, .unset, .unset, .unset, .unset] [(.int (p2.toInt16.toInt32))])) _
  refine XS.istoreN X0.here hx rfl (hb hby at_10) rfl (l' := #[.val (.int p1), .val (.int p2), .val (.int (0 : Int32)), .val (.int (p2.toInt16.toInt32)), .unset, .unset, .unset, .unset]) rfl ?_
  show Steps p.tables e below (T0.setTop (mkF m 11 #[.val (.int p1), .val (.int p2), .val (.int (0 : Int32)), .val (.int (p2.toInt16.toInt32)), .unset, .unset, .unset, .unset] [])) _
  refine XS.iloadN X0.here hx rfl (hb hby at_11) rfl ?_
  show Steps p.tables e below (T0.setTop (mkF m 12 #[.val (.int p1), .val (.int p2), .val (.int (0 : Int32)), .val (.int (p2.toInt16.toInt32)), .unset, .unset, .unset, .unset] [(.int (0 : Int32))])) _
  refine XS.ifNo X0.here hx rfl (hb hby at_12) rfl ((if0 _ _).trans (teq (by decide : (0 : Int32) = (0 : Int32))).2) ?_
  show Steps p.tables e below (T0.setTop (mkF m 15 #[.val (.int p1), .val (.int p2), .val (.int (0 : Int32)), .val (.int (p2.toInt16.toInt32)), .unset, .unset, .unset, .unset] [])) _
  refine st1 _ ?_
  show Steps p.tables e below (T1.setTop (mkF m 18 #[.val (.int p1), .val (.int p2), .val (.int (0 : Int32)), .val (.int (p2.toInt16.toInt32)), .unset, .unset, .unset, .unset] [(.ref w_PRODUCE)])) _
  refine XS.astore X1.here hx rfl (hb hby at_18) rfl rfl (l' := #[.val (.int p1), .val (.int p2), .val (.int (0 : Int32)), .val (.int (p2.toInt16.toInt32)), .val (.ref w_PRODUCE), .unset, .unset, .unset]) rfl ?_
  show Steps p.tables e below (T1.setTop (mkF m 20 #[.val (.int p1), .val (.int p2), .val (.int (0 : Int32)), .val (.int (p2.toInt16.toInt32)), .val (.ref w_PRODUCE), .unset, .unset, .unset] [])) _
  refine XS.iconst X1.here hx rfl (hb hby at_20) ?_
  show Steps p.tables e below (T1.setTop (mkF m 21 #[.val (.int p1), .val (.int p2), .val (.int (0 : Int32)), .val (.int (p2.toInt16.toInt32)), .val (.ref w_PRODUCE), .unset, .unset, .unset] [(.int (0 : Int32))])) _
  refine XS.istore X1.here hx rfl (hb hby at_21) rfl (l' := #[.val (.int p1), .val (.int p2), .val (.int (0 : Int32)), .val (.int (p2.toInt16.toInt32)), .val (.ref w_PRODUCE), .val (.int (0 : Int32)), .unset, .unset]) rfl ?_
  show Steps p.tables e below (T1.setTop (mkF m 23 #[.val (.int p1), .val (.int p2), .val (.int (0 : Int32)), .val (.int (p2.toInt16.toInt32)), .val (.ref w_PRODUCE), .val (.int (0 : Int32)), .unset, .unset] [])) _
  refine XS.bipush X1.here hx rfl (hb hby at_23) ?_
  show Steps p.tables e below (T1.setTop (mkF m 25 #[.val (.int p1), .val (.int p2), .val (.int (0 : Int32)), .val (.int (p2.toInt16.toInt32)), .val (.ref w_PRODUCE), .val (.int (0 : Int32)), .unset, .unset] [(.int (7 : Int32))])) _
  refine XS.istore X1.here hx rfl (hb hby at_25) rfl (l' := #[.val (.int p1), .val (.int p2), .val (.int (0 : Int32)), .val (.int (p2.toInt16.toInt32)), .val (.ref w_PRODUCE), .val (.int (0 : Int32)), .val (.int (7 : Int32)), .unset]) rfl ?_
  show Steps p.tables e below (T1.setTop (mkF m 27 #[.val (.int p1), .val (.int p2), .val (.int (0 : Int32)), .val (.int (p2.toInt16.toInt32)), .val (.ref w_PRODUCE), .val (.int (0 : Int32)), .val (.int (7 : Int32)), .unset] [])) _
  refine XS.goto X1.here hx rfl (pc0 := 27) (pc' := 258) rfl (hb hby at_27) (by decide) (by decide) ?_
  show Steps p.tables e below (T1.setTop (mkF m 258 #[.val (.int p1), .val (.int p2), .val (.int (0 : Int32)), .val (.int (p2.toInt16.toInt32)), .val (.ref w_PRODUCE), .val (.int (0 : Int32)), .val (.int (7 : Int32)), .unset] [])) _
  exact kt
set_option maxRecDepth 65536 in
set_option maxHeartbeats 40000000 in
theorem seg1 {p : Program} {l : Launch} {e : Env} {s : State} {m : MethodId} {args : Array Value} {below : List Frame} {meth : Method} {c : Code} {T0 : State} {locs : List Loc} {Z : State} {a0 : Array Value} {h0 : Heap} {n0 : Nat} (w_PRODUCE : Addr) (w_FETCH : Addr) (w_OFFSET_COMMIT : Addr) (w_METADATA : Addr) (w_LEAVE_GROUP : Addr) (w_OFFSET_FETCH : Addr) (w_FIND_COORDINATOR : Addr) (w_HEARTBEAT : Addr) (w_CREATE_TOPICS : Addr) (w_LIST_OFFSETS : Addr) (w_SYNC_GROUP : Addr) (w_API_VERSIONS : Addr) (w_JOIN_GROUP : Addr) (p1 : Int32) (p2 : Int32)
    (X0 : Stand p l e room_1 s m args below meth c T0 locs 0 0) (hx : p.tables.exec = Jvm.exec) (hZ : Z.Warmed39 s.vm) (hw : ∀ d ∈ tables_1, d.before a0 Z = true) (hby : c.code = code) (hml : c.maxLocals = 8) (hown : s.vm.findClass "com/example/melog/melog/protocol/ApiKeyServesPinLaw" = some m.cls) (e0 : T0.heap = h0) (N0 : Fr n0 locs) (O0 : Old Z n0 h0) (HW : World Z w_PRODUCE w_FETCH w_OFFSET_COMMIT w_METADATA w_LEAVE_GROUP w_OFFSET_FETCH w_FIND_COORDINATOR w_HEARTBEAT w_CREATE_TOPICS w_LIST_OFFSETS w_SYNC_GROUP w_API_VERSIONS w_JOIN_GROUP) (hk : ((p1 &&& (2147483647 : Int32)) % (13 : Int32)) = (1 : Int32)) :
    ∃ (T' : State) (locs' : List Loc), Stand p l e room_1 s m args below meth c T' locs' 0 0 ∧ Fr n0 locs' ∧ T'.heap = h0 ∧ ∀ t, Steps p.tables e below (T'.setTop (mkF m 258 #[.val (.int p1), .val (.int p2), .val (.int (1 : Int32)), .val (.int (p2.toInt16.toInt32)), .val (.ref w_FETCH), .val (.int (4 : Int32)), .val (.int (11 : Int32)), .unset] [])) t → Steps p.tables e below (T0.setTop (mkF m 0 #[.val (.int p1), .val (.int p2), .unset, .unset, .unset, .unset, .unset, .unset] [])) t := by
  obtain ⟨S_w_PRODUCE, E_w_PRODUCE, S_w_FETCH, E_w_FETCH, S_w_OFFSET_COMMIT, E_w_OFFSET_COMMIT, S_w_METADATA, E_w_METADATA, S_w_LEAVE_GROUP, E_w_LEAVE_GROUP, S_w_OFFSET_FETCH, E_w_OFFSET_FETCH, S_w_FIND_COORDINATOR, E_w_FIND_COORDINATOR, S_w_HEARTBEAT, E_w_HEARTBEAT, S_w_CREATE_TOPICS, E_w_CREATE_TOPICS, S_w_LIST_OFFSETS, E_w_LIST_OFFSETS, S_w_SYNC_GROUP, E_w_SYNC_GROUP, S_w_API_VERSIONS, E_w_API_VERSIONS, S_w_JOIN_GROUP, E_w_JOIN_GROUP, F_minVersion_w_PRODUCE, F_maxVersion_w_PRODUCE, F_minVersion_w_FETCH, F_minVersion_w_OFFSET_COMMIT, F_maxVersion_w_OFFSET_COMMIT, F_minVersion_w_METADATA, F_minVersion_w_LEAVE_GROUP, F_maxVersion_w_LEAVE_GROUP, F_minVersion_w_OFFSET_FETCH, F_maxVersion_w_OFFSET_FETCH, F_minVersion_w_FIND_COORDINATOR, F_maxVersion_w_FIND_COORDINATOR, F_minVersion_w_HEARTBEAT, F_minVersion_w_CREATE_TOPICS, F_maxVersion_w_CREATE_TOPICS, F_minVersion_w_LIST_OFFSETS, F_maxVersion_w_LIST_OFFSETS, F_maxVersion_w_METADATA, F_maxVersion_w_HEARTBEAT, F_minVersion_w_SYNC_GROUP, F_minVersion_w_API_VERSIONS, F_maxVersion_w_API_VERSIONS, F_maxVersion_w_FETCH, F_maxVersion_w_SYNC_GROUP, F_minVersion_w_JOIN_GROUP, F_maxVersion_w_JOIN_GROUP, ne_w_PRODUCE_w_FETCH, ne_w_PRODUCE_w_OFFSET_COMMIT, ne_w_PRODUCE_w_METADATA, ne_w_PRODUCE_w_LEAVE_GROUP, ne_w_PRODUCE_w_OFFSET_FETCH, ne_w_PRODUCE_w_FIND_COORDINATOR, ne_w_PRODUCE_w_HEARTBEAT, ne_w_PRODUCE_w_CREATE_TOPICS, ne_w_PRODUCE_w_LIST_OFFSETS, ne_w_PRODUCE_w_SYNC_GROUP, ne_w_PRODUCE_w_API_VERSIONS, ne_w_PRODUCE_w_JOIN_GROUP, ne_w_FETCH_w_OFFSET_COMMIT, ne_w_FETCH_w_METADATA, ne_w_FETCH_w_LEAVE_GROUP, ne_w_FETCH_w_OFFSET_FETCH, ne_w_FETCH_w_FIND_COORDINATOR, ne_w_FETCH_w_HEARTBEAT, ne_w_FETCH_w_CREATE_TOPICS, ne_w_FETCH_w_LIST_OFFSETS, ne_w_FETCH_w_SYNC_GROUP, ne_w_FETCH_w_API_VERSIONS, ne_w_FETCH_w_JOIN_GROUP, ne_w_OFFSET_COMMIT_w_METADATA, ne_w_OFFSET_COMMIT_w_LEAVE_GROUP, ne_w_OFFSET_COMMIT_w_OFFSET_FETCH, ne_w_OFFSET_COMMIT_w_FIND_COORDINATOR, ne_w_OFFSET_COMMIT_w_HEARTBEAT, ne_w_OFFSET_COMMIT_w_CREATE_TOPICS, ne_w_OFFSET_COMMIT_w_LIST_OFFSETS, ne_w_OFFSET_COMMIT_w_SYNC_GROUP, ne_w_OFFSET_COMMIT_w_API_VERSIONS, ne_w_OFFSET_COMMIT_w_JOIN_GROUP, ne_w_METADATA_w_LEAVE_GROUP, ne_w_METADATA_w_OFFSET_FETCH, ne_w_METADATA_w_FIND_COORDINATOR, ne_w_METADATA_w_HEARTBEAT, ne_w_METADATA_w_LIST_OFFSETS, ne_w_METADATA_w_SYNC_GROUP, ne_w_METADATA_w_API_VERSIONS, ne_w_METADATA_w_JOIN_GROUP, ne_w_LEAVE_GROUP_w_OFFSET_FETCH, ne_w_LEAVE_GROUP_w_FIND_COORDINATOR, ne_w_LEAVE_GROUP_w_HEARTBEAT, ne_w_LEAVE_GROUP_w_CREATE_TOPICS, ne_w_LEAVE_GROUP_w_LIST_OFFSETS, ne_w_LEAVE_GROUP_w_SYNC_GROUP, ne_w_LEAVE_GROUP_w_API_VERSIONS, ne_w_LEAVE_GROUP_w_JOIN_GROUP, ne_w_OFFSET_FETCH_w_FIND_COORDINATOR, ne_w_OFFSET_FETCH_w_HEARTBEAT, ne_w_OFFSET_FETCH_w_CREATE_TOPICS, ne_w_OFFSET_FETCH_w_LIST_OFFSETS, ne_w_OFFSET_FETCH_w_SYNC_GROUP, ne_w_OFFSET_FETCH_w_API_VERSIONS, ne_w_OFFSET_FETCH_w_JOIN_GROUP, ne_w_FIND_COORDINATOR_w_HEARTBEAT, ne_w_FIND_COORDINATOR_w_CREATE_TOPICS, ne_w_FIND_COORDINATOR_w_LIST_OFFSETS, ne_w_FIND_COORDINATOR_w_SYNC_GROUP, ne_w_FIND_COORDINATOR_w_API_VERSIONS, ne_w_FIND_COORDINATOR_w_JOIN_GROUP, ne_w_HEARTBEAT_w_CREATE_TOPICS, ne_w_HEARTBEAT_w_LIST_OFFSETS, ne_w_HEARTBEAT_w_JOIN_GROUP, ne_w_CREATE_TOPICS_w_LIST_OFFSETS, ne_w_CREATE_TOPICS_w_SYNC_GROUP, ne_w_CREATE_TOPICS_w_API_VERSIONS, ne_w_CREATE_TOPICS_w_JOIN_GROUP, ne_w_LIST_OFFSETS_w_SYNC_GROUP, ne_w_LIST_OFFSETS_w_API_VERSIONS, ne_w_LIST_OFFSETS_w_JOIN_GROUP, ne_w_SYNC_GROUP_w_JOIN_GROUP, ne_w_API_VERSIONS_w_JOIN_GROUP, -⟩ := id HW
  obtain ⟨T1, X1, e1, st1⟩ := getS2 X0 hx hZ hown (host := "") (Or.inl (hw _ (List.mem_of_getElem? (i := 13) rfl))) Via.refl e0 (S_w_FETCH.ext O0.2) (g := (mkF m 35 #[.val (.int p1), .val (.int p2), .val (.int (1 : Int32)), .val (.int (p2.toInt16.toInt32)), .unset, .unset, .unset, .unset] [])) rfl (hb hby at_35)
  refine ⟨T1, _, X1, N0, e1, fun t kt => ?_⟩
  show Steps p.tables e below (T0.setTop (mkF m 0 #[.val (.int p1), .val (.int p2), .unset, .unset, .unset, .unset, .unset, .unset] [])) _
  refine XS.iloadN X0.here hx rfl (hb hby at_0) rfl ?_
  show Steps p.tables e below (T0.setTop (mkF m 1 #[.val (.int p1), .val (.int p2), .unset, .unset, .unset, .unset, .unset, .unset] [(.int p1)])) _
  refine X0.ldcInt hx hown (mvT hZ (hw _ (List.mem_of_getElem? (i := 0) rfl))) (g := (mkF m 1 #[.val (.int p1), .val (.int p2), .unset, .unset, .unset, .unset, .unset, .unset] [(.int p1)])) rfl (hb hby at_1) _ ?_
  show Steps p.tables e below (T0.setTop (mkF m 3 #[.val (.int p1), .val (.int p2), .unset, .unset, .unset, .unset, .unset, .unset] [(.int (2147483647 : Int32)), (.int p1)])) _
  refine XS.iand X0.here hx rfl (hb hby at_3) rfl ?_
  show Steps p.tables e below (T0.setTop (mkF m 4 #[.val (.int p1), .val (.int p2), .unset, .unset, .unset, .unset, .unset, .unset] [(.int (p1 &&& (2147483647 : Int32)))])) _
  refine XS.bipush X0.here hx rfl (hb hby at_4) ?_
  show Steps p.tables e below (T0.setTop (mkF m 6 #[.val (.int p1), .val (.int p2), .unset, .unset, .unset, .unset, .unset, .unset] [(.int (13 : Int32)), (.int (p1 &&& (2147483647 : Int32)))])) _
  refine iremM X0 hx rfl (hb hby at_6) rfl (by decide) ?_
  rw [hk]
  show Steps p.tables e below (T0.setTop (mkF m 7 #[.val (.int p1), .val (.int p2), .unset, .unset, .unset, .unset, .unset, .unset] [(.int (1 : Int32))])) _
  refine XS.istoreN X0.here hx rfl (hb hby at_7) rfl (l' := #[.val (.int p1), .val (.int p2), .val (.int (1 : Int32)), .unset, .unset, .unset, .unset, .unset]) rfl ?_
  show Steps p.tables e below (T0.setTop (mkF m 8 #[.val (.int p1), .val (.int p2), .val (.int (1 : Int32)), .unset, .unset, .unset, .unset, .unset] [])) _
  refine XS.iloadN X0.here hx rfl (hb hby at_8) rfl ?_
  show Steps p.tables e below (T0.setTop (mkF m 9 #[.val (.int p1), .val (.int p2), .val (.int (1 : Int32)), .unset, .unset, .unset, .unset, .unset] [(.int p2)])) _
  refine XS.i2s X0.here hx rfl (hb hby at_9) rfl ?_
  show Steps p.tables e below (T0.setTop (mkF m 10 #[.val (.int p1), .val (.int p2), .val (.int (1 : Int32)), .unset, .unset, .unset, .unset, .unset] [(.int (p2.toInt16.toInt32))])) _
  refine XS.istoreN X0.here hx rfl (hb hby at_10) rfl (l' := #[.val (.int p1), .val (.int p2), .val (.int (1 : Int32)), .val (.int (p2.toInt16.toInt32)), .unset, .unset, .unset, .unset]) rfl ?_
  show Steps p.tables e below (T0.setTop (mkF m 11 #[.val (.int p1), .val (.int p2), .val (.int (1 : Int32)), .val (.int (p2.toInt16.toInt32)), .unset, .unset, .unset, .unset] [])) _
  refine XS.iloadN X0.here hx rfl (hb hby at_11) rfl ?_
  show Steps p.tables e below (T0.setTop (mkF m 12 #[.val (.int p1), .val (.int p2), .val (.int (1 : Int32)), .val (.int (p2.toInt16.toInt32)), .unset, .unset, .unset, .unset] [(.int (1 : Int32))])) _
  refine XS.ifYes X0.here hx rfl (pc0 := 12) (pc' := 30) rfl (hb hby at_12) rfl ((if0 _ _).trans (feq (by decide : ¬ ((1 : Int32) = (0 : Int32)))).2) (by decide) (by decide) ?_
  show Steps p.tables e below (T0.setTop (mkF m 30 #[.val (.int p1), .val (.int p2), .val (.int (1 : Int32)), .val (.int (p2.toInt16.toInt32)), .unset, .unset, .unset, .unset] [])) _
  refine XS.iloadN X0.here hx rfl (hb hby at_30) rfl ?_
  show Steps p.tables e below (T0.setTop (mkF m 31 #[.val (.int p1), .val (.int p2), .val (.int (1 : Int32)), .val (.int (p2.toInt16.toInt32)), .unset, .unset, .unset, .unset] [(.int (1 : Int32))])) _
  refine XS.iconst X0.here hx rfl (hb hby at_31) ?_
  show Steps p.tables e below (T0.setTop (mkF m 32 #[.val (.int p1), .val (.int p2), .val (.int (1 : Int32)), .val (.int (p2.toInt16.toInt32)), .unset, .unset, .unset, .unset] [(.int (1 : Int32)), (.int (1 : Int32))])) _
  refine XS.icmpNo X0.here hx rfl (hb hby at_32) rfl (teq (by decide : (1 : Int32) = (1 : Int32))).2 ?_
  show Steps p.tables e below (T0.setTop (mkF m 35 #[.val (.int p1), .val (.int p2), .val (.int (1 : Int32)), .val (.int (p2.toInt16.toInt32)), .unset, .unset, .unset, .unset] [])) _
  refine st1 _ ?_
  show Steps p.tables e below (T1.setTop (mkF m 38 #[.val (.int p1), .val (.int p2), .val (.int (1 : Int32)), .val (.int (p2.toInt16.toInt32)), .unset, .unset, .unset, .unset] [(.ref w_FETCH)])) _
  refine XS.astore X1.here hx rfl (hb hby at_38) rfl rfl (l' := #[.val (.int p1), .val (.int p2), .val (.int (1 : Int32)), .val (.int (p2.toInt16.toInt32)), .val (.ref w_FETCH), .unset, .unset, .unset]) rfl ?_
  show Steps p.tables e below (T1.setTop (mkF m 40 #[.val (.int p1), .val (.int p2), .val (.int (1 : Int32)), .val (.int (p2.toInt16.toInt32)), .val (.ref w_FETCH), .unset, .unset, .unset] [])) _
  refine XS.iconst X1.here hx rfl (hb hby at_40) ?_
  show Steps p.tables e below (T1.setTop (mkF m 41 #[.val (.int p1), .val (.int p2), .val (.int (1 : Int32)), .val (.int (p2.toInt16.toInt32)), .val (.ref w_FETCH), .unset, .unset, .unset] [(.int (4 : Int32))])) _
  refine XS.istore X1.here hx rfl (hb hby at_41) rfl (l' := #[.val (.int p1), .val (.int p2), .val (.int (1 : Int32)), .val (.int (p2.toInt16.toInt32)), .val (.ref w_FETCH), .val (.int (4 : Int32)), .unset, .unset]) rfl ?_
  show Steps p.tables e below (T1.setTop (mkF m 43 #[.val (.int p1), .val (.int p2), .val (.int (1 : Int32)), .val (.int (p2.toInt16.toInt32)), .val (.ref w_FETCH), .val (.int (4 : Int32)), .unset, .unset] [])) _
  refine XS.bipush X1.here hx rfl (hb hby at_43) ?_
  show Steps p.tables e below (T1.setTop (mkF m 45 #[.val (.int p1), .val (.int p2), .val (.int (1 : Int32)), .val (.int (p2.toInt16.toInt32)), .val (.ref w_FETCH), .val (.int (4 : Int32)), .unset, .unset] [(.int (11 : Int32))])) _
  refine XS.istore X1.here hx rfl (hb hby at_45) rfl (l' := #[.val (.int p1), .val (.int p2), .val (.int (1 : Int32)), .val (.int (p2.toInt16.toInt32)), .val (.ref w_FETCH), .val (.int (4 : Int32)), .val (.int (11 : Int32)), .unset]) rfl ?_
  show Steps p.tables e below (T1.setTop (mkF m 47 #[.val (.int p1), .val (.int p2), .val (.int (1 : Int32)), .val (.int (p2.toInt16.toInt32)), .val (.ref w_FETCH), .val (.int (4 : Int32)), .val (.int (11 : Int32)), .unset] [])) _
  refine XS.goto X1.here hx rfl (pc0 := 47) (pc' := 258) rfl (hb hby at_47) (by decide) (by decide) ?_
  show Steps p.tables e below (T1.setTop (mkF m 258 #[.val (.int p1), .val (.int p2), .val (.int (1 : Int32)), .val (.int (p2.toInt16.toInt32)), .val (.ref w_FETCH), .val (.int (4 : Int32)), .val (.int (11 : Int32)), .unset] [])) _
  exact kt
set_option maxRecDepth 65536 in
set_option maxHeartbeats 40000000 in
theorem seg2 {p : Program} {l : Launch} {e : Env} {s : State} {m : MethodId} {args : Array Value} {below : List Frame} {meth : Method} {c : Code} {T0 : State} {locs : List Loc} {Z : State} {a0 : Array Value} {h0 : Heap} {n0 : Nat} (w_PRODUCE : Addr) (w_FETCH : Addr) (w_OFFSET_COMMIT : Addr) (w_METADATA : Addr) (w_LEAVE_GROUP : Addr) (w_OFFSET_FETCH : Addr) (w_FIND_COORDINATOR : Addr) (w_HEARTBEAT : Addr) (w_CREATE_TOPICS : Addr) (w_LIST_OFFSETS : Addr) (w_SYNC_GROUP : Addr) (w_API_VERSIONS : Addr) (w_JOIN_GROUP : Addr) (p1 : Int32) (p2 : Int32)
    (X0 : Stand p l e room_1 s m args below meth c T0 locs 0 0) (hx : p.tables.exec = Jvm.exec) (hZ : Z.Warmed39 s.vm) (hw : ∀ d ∈ tables_1, d.before a0 Z = true) (hby : c.code = code) (hml : c.maxLocals = 8) (hown : s.vm.findClass "com/example/melog/melog/protocol/ApiKeyServesPinLaw" = some m.cls) (e0 : T0.heap = h0) (N0 : Fr n0 locs) (O0 : Old Z n0 h0) (HW : World Z w_PRODUCE w_FETCH w_OFFSET_COMMIT w_METADATA w_LEAVE_GROUP w_OFFSET_FETCH w_FIND_COORDINATOR w_HEARTBEAT w_CREATE_TOPICS w_LIST_OFFSETS w_SYNC_GROUP w_API_VERSIONS w_JOIN_GROUP) (hk : ((p1 &&& (2147483647 : Int32)) % (13 : Int32)) = (2 : Int32)) :
    ∃ (T' : State) (locs' : List Loc), Stand p l e room_1 s m args below meth c T' locs' 0 0 ∧ Fr n0 locs' ∧ T'.heap = h0 ∧ ∀ t, Steps p.tables e below (T'.setTop (mkF m 258 #[.val (.int p1), .val (.int p2), .val (.int (2 : Int32)), .val (.int (p2.toInt16.toInt32)), .val (.ref w_LIST_OFFSETS), .val (.int (1 : Int32)), .val (.int (2 : Int32)), .unset] [])) t → Steps p.tables e below (T0.setTop (mkF m 0 #[.val (.int p1), .val (.int p2), .unset, .unset, .unset, .unset, .unset, .unset] [])) t := by
  obtain ⟨S_w_PRODUCE, E_w_PRODUCE, S_w_FETCH, E_w_FETCH, S_w_OFFSET_COMMIT, E_w_OFFSET_COMMIT, S_w_METADATA, E_w_METADATA, S_w_LEAVE_GROUP, E_w_LEAVE_GROUP, S_w_OFFSET_FETCH, E_w_OFFSET_FETCH, S_w_FIND_COORDINATOR, E_w_FIND_COORDINATOR, S_w_HEARTBEAT, E_w_HEARTBEAT, S_w_CREATE_TOPICS, E_w_CREATE_TOPICS, S_w_LIST_OFFSETS, E_w_LIST_OFFSETS, S_w_SYNC_GROUP, E_w_SYNC_GROUP, S_w_API_VERSIONS, E_w_API_VERSIONS, S_w_JOIN_GROUP, E_w_JOIN_GROUP, F_minVersion_w_PRODUCE, F_maxVersion_w_PRODUCE, F_minVersion_w_FETCH, F_minVersion_w_OFFSET_COMMIT, F_maxVersion_w_OFFSET_COMMIT, F_minVersion_w_METADATA, F_minVersion_w_LEAVE_GROUP, F_maxVersion_w_LEAVE_GROUP, F_minVersion_w_OFFSET_FETCH, F_maxVersion_w_OFFSET_FETCH, F_minVersion_w_FIND_COORDINATOR, F_maxVersion_w_FIND_COORDINATOR, F_minVersion_w_HEARTBEAT, F_minVersion_w_CREATE_TOPICS, F_maxVersion_w_CREATE_TOPICS, F_minVersion_w_LIST_OFFSETS, F_maxVersion_w_LIST_OFFSETS, F_maxVersion_w_METADATA, F_maxVersion_w_HEARTBEAT, F_minVersion_w_SYNC_GROUP, F_minVersion_w_API_VERSIONS, F_maxVersion_w_API_VERSIONS, F_maxVersion_w_FETCH, F_maxVersion_w_SYNC_GROUP, F_minVersion_w_JOIN_GROUP, F_maxVersion_w_JOIN_GROUP, ne_w_PRODUCE_w_FETCH, ne_w_PRODUCE_w_OFFSET_COMMIT, ne_w_PRODUCE_w_METADATA, ne_w_PRODUCE_w_LEAVE_GROUP, ne_w_PRODUCE_w_OFFSET_FETCH, ne_w_PRODUCE_w_FIND_COORDINATOR, ne_w_PRODUCE_w_HEARTBEAT, ne_w_PRODUCE_w_CREATE_TOPICS, ne_w_PRODUCE_w_LIST_OFFSETS, ne_w_PRODUCE_w_SYNC_GROUP, ne_w_PRODUCE_w_API_VERSIONS, ne_w_PRODUCE_w_JOIN_GROUP, ne_w_FETCH_w_OFFSET_COMMIT, ne_w_FETCH_w_METADATA, ne_w_FETCH_w_LEAVE_GROUP, ne_w_FETCH_w_OFFSET_FETCH, ne_w_FETCH_w_FIND_COORDINATOR, ne_w_FETCH_w_HEARTBEAT, ne_w_FETCH_w_CREATE_TOPICS, ne_w_FETCH_w_LIST_OFFSETS, ne_w_FETCH_w_SYNC_GROUP, ne_w_FETCH_w_API_VERSIONS, ne_w_FETCH_w_JOIN_GROUP, ne_w_OFFSET_COMMIT_w_METADATA, ne_w_OFFSET_COMMIT_w_LEAVE_GROUP, ne_w_OFFSET_COMMIT_w_OFFSET_FETCH, ne_w_OFFSET_COMMIT_w_FIND_COORDINATOR, ne_w_OFFSET_COMMIT_w_HEARTBEAT, ne_w_OFFSET_COMMIT_w_CREATE_TOPICS, ne_w_OFFSET_COMMIT_w_LIST_OFFSETS, ne_w_OFFSET_COMMIT_w_SYNC_GROUP, ne_w_OFFSET_COMMIT_w_API_VERSIONS, ne_w_OFFSET_COMMIT_w_JOIN_GROUP, ne_w_METADATA_w_LEAVE_GROUP, ne_w_METADATA_w_OFFSET_FETCH, ne_w_METADATA_w_FIND_COORDINATOR, ne_w_METADATA_w_HEARTBEAT, ne_w_METADATA_w_LIST_OFFSETS, ne_w_METADATA_w_SYNC_GROUP, ne_w_METADATA_w_API_VERSIONS, ne_w_METADATA_w_JOIN_GROUP, ne_w_LEAVE_GROUP_w_OFFSET_FETCH, ne_w_LEAVE_GROUP_w_FIND_COORDINATOR, ne_w_LEAVE_GROUP_w_HEARTBEAT, ne_w_LEAVE_GROUP_w_CREATE_TOPICS, ne_w_LEAVE_GROUP_w_LIST_OFFSETS, ne_w_LEAVE_GROUP_w_SYNC_GROUP, ne_w_LEAVE_GROUP_w_API_VERSIONS, ne_w_LEAVE_GROUP_w_JOIN_GROUP, ne_w_OFFSET_FETCH_w_FIND_COORDINATOR, ne_w_OFFSET_FETCH_w_HEARTBEAT, ne_w_OFFSET_FETCH_w_CREATE_TOPICS, ne_w_OFFSET_FETCH_w_LIST_OFFSETS, ne_w_OFFSET_FETCH_w_SYNC_GROUP, ne_w_OFFSET_FETCH_w_API_VERSIONS, ne_w_OFFSET_FETCH_w_JOIN_GROUP, ne_w_FIND_COORDINATOR_w_HEARTBEAT, ne_w_FIND_COORDINATOR_w_CREATE_TOPICS, ne_w_FIND_COORDINATOR_w_LIST_OFFSETS, ne_w_FIND_COORDINATOR_w_SYNC_GROUP, ne_w_FIND_COORDINATOR_w_API_VERSIONS, ne_w_FIND_COORDINATOR_w_JOIN_GROUP, ne_w_HEARTBEAT_w_CREATE_TOPICS, ne_w_HEARTBEAT_w_LIST_OFFSETS, ne_w_HEARTBEAT_w_JOIN_GROUP, ne_w_CREATE_TOPICS_w_LIST_OFFSETS, ne_w_CREATE_TOPICS_w_SYNC_GROUP, ne_w_CREATE_TOPICS_w_API_VERSIONS, ne_w_CREATE_TOPICS_w_JOIN_GROUP, ne_w_LIST_OFFSETS_w_SYNC_GROUP, ne_w_LIST_OFFSETS_w_API_VERSIONS, ne_w_LIST_OFFSETS_w_JOIN_GROUP, ne_w_SYNC_GROUP_w_JOIN_GROUP, ne_w_API_VERSIONS_w_JOIN_GROUP, -⟩ := id HW
  obtain ⟨T1, X1, e1, st1⟩ := getS2 X0 hx hZ hown (host := "") (Or.inl (hw _ (List.mem_of_getElem? (i := 29) rfl))) Via.refl e0 (S_w_LIST_OFFSETS.ext O0.2) (g := (mkF m 55 #[.val (.int p1), .val (.int p2), .val (.int (2 : Int32)), .val (.int (p2.toInt16.toInt32)), .unset, .unset, .unset, .unset] [])) rfl (hb hby at_55)
  refine ⟨T1, _, X1, N0, e1, fun t kt => ?_⟩
  show Steps p.tables e below (T0.setTop (mkF m 0 #[.val (.int p1), .val (.int p2), .unset, .unset, .unset, .unset, .unset, .unset] [])) _
  refine XS.iloadN X0.here hx rfl (hb hby at_0) rfl ?_
  show Steps p.tables e below (T0.setTop (mkF m 1 #[.val (.int p1), .val (.int p2), .unset, .unset, .unset, .unset, .unset, .unset] [(.int p1)])) _
  refine X0.ldcInt hx hown (mvT hZ (hw _ (List.mem_of_getElem? (i := 0) rfl))) (g := (mkF m 1 #[.val (.int p1), .val (.int p2), .unset, .unset, .unset, .unset, .unset, .unset] [(.int p1)])) rfl (hb hby at_1) _ ?_
  show Steps p.tables e below (T0.setTop (mkF m 3 #[.val (.int p1), .val (.int p2), .unset, .unset, .unset, .unset, .unset, .unset] [(.int (2147483647 : Int32)), (.int p1)])) _
  refine XS.iand X0.here hx rfl (hb hby at_3) rfl ?_
  show Steps p.tables e below (T0.setTop (mkF m 4 #[.val (.int p1), .val (.int p2), .unset, .unset, .unset, .unset, .unset, .unset] [(.int (p1 &&& (2147483647 : Int32)))])) _
  refine XS.bipush X0.here hx rfl (hb hby at_4) ?_
  show Steps p.tables e below (T0.setTop (mkF m 6 #[.val (.int p1), .val (.int p2), .unset, .unset, .unset, .unset, .unset, .unset] [(.int (13 : Int32)), (.int (p1 &&& (2147483647 : Int32)))])) _
  refine iremM X0 hx rfl (hb hby at_6) rfl (by decide) ?_
  rw [hk]
  show Steps p.tables e below (T0.setTop (mkF m 7 #[.val (.int p1), .val (.int p2), .unset, .unset, .unset, .unset, .unset, .unset] [(.int (2 : Int32))])) _
  refine XS.istoreN X0.here hx rfl (hb hby at_7) rfl (l' := #[.val (.int p1), .val (.int p2), .val (.int (2 : Int32)), .unset, .unset, .unset, .unset, .unset]) rfl ?_
  show Steps p.tables e below (T0.setTop (mkF m 8 #[.val (.int p1), .val (.int p2), .val (.int (2 : Int32)), .unset, .unset, .unset, .unset, .unset] [])) _
  refine XS.iloadN X0.here hx rfl (hb hby at_8) rfl ?_
  show Steps p.tables e below (T0.setTop (mkF m 9 #[.val (.int p1), .val (.int p2), .val (.int (2 : Int32)), .unset, .unset, .unset, .unset, .unset] [(.int p2)])) _
  refine XS.i2s X0.here hx rfl (hb hby at_9) rfl ?_
  show Steps p.tables e below (T0.setTop (mkF m 10 #[.val (.int p1), .val (.int p2), .val (.int (2 : Int32)), .unset, .unset, .unset, .unset, .unset] [(.int (p2.toInt16.toInt32))])) _
  refine XS.istoreN X0.here hx rfl (hb hby at_10) rfl (l' := #[.val (.int p1), .val (.int p2), .val (.int (2 : Int32)), .val (.int (p2.toInt16.toInt32)), .unset, .unset, .unset, .unset]) rfl ?_
  show Steps p.tables e below (T0.setTop (mkF m 11 #[.val (.int p1), .val (.int p2), .val (.int (2 : Int32)), .val (.int (p2.toInt16.toInt32)), .unset, .unset, .unset, .unset] [])) _
  refine XS.iloadN X0.here hx rfl (hb hby at_11) rfl ?_
  show Steps p.tables e below (T0.setTop (mkF m 12 #[.val (.int p1), .val (.int p2), .val (.int (2 : Int32)), .val (.int (p2.toInt16.toInt32)), .unset, .unset, .unset, .unset] [(.int (2 : Int32))])) _
  refine XS.ifYes X0.here hx rfl (pc0 := 12) (pc' := 30) rfl (hb hby at_12) rfl ((if0 _ _).trans (feq (by decide : ¬ ((2 : Int32) = (0 : Int32)))).2) (by decide) (by decide) ?_
  show Steps p.tables e below (T0.setTop (mkF m 30 #[.val (.int p1), .val (.int p2), .val (.int (2 : Int32)), .val (.int (p2.toInt16.toInt32)), .unset, .unset, .unset, .unset] [])) _
  refine XS.iloadN X0.here hx rfl (hb hby at_30) rfl ?_
  show Steps p.tables e below (T0.setTop (mkF m 31 #[.val (.int p1), .val (.int p2), .val (.int (2 : Int32)), .val (.int (p2.toInt16.toInt32)), .unset, .unset, .unset, .unset] [(.int (2 : Int32))])) _
  refine XS.iconst X0.here hx rfl (hb hby at_31) ?_
  show Steps p.tables e below (T0.setTop (mkF m 32 #[.val (.int p1), .val (.int p2), .val (.int (2 : Int32)), .val (.int (p2.toInt16.toInt32)), .unset, .unset, .unset, .unset] [(.int (1 : Int32)), (.int (2 : Int32))])) _
  refine XS.icmpYes X0.here hx rfl (pc0 := 32) (pc' := 50) rfl (hb hby at_32) rfl (feq (by decide : ¬ ((2 : Int32) = (1 : Int32)))).2 (by decide) (by decide) ?_
  show Steps p.tables e below (T0.setTop (mkF m 50 #[.val (.int p1), .val (.int p2), .val (.int (2 : Int32)), .val (.int (p2.toInt16.toInt32)), .unset, .unset, .unset, .unset] [])) _
  refine XS.iloadN X0.here hx rfl (hb hby at_50) rfl ?_
  show Steps p.tables e below (T0.setTop (mkF m 51 #[.val (.int p1), .val (.int p2), .val (.int (2 : Int32)), .val (.int (p2.toInt16.toInt32)), .unset, .unset, .unset, .unset] [(.int (2 : Int32))])) _
  refine XS.iconst X0.here hx rfl (hb hby at_51) ?_
  show Steps p.tables e below (T0.setTop (mkF m 52 #[.val (.int p1), .val (.int p2), .val (.int (2 : Int32)), .val (.int (p2.toInt16.toInt32)), .unset, .unset, .unset, .unset] [(.int (2 : Int32)), (.int (2 : Int32))])) _
  refine XS.icmpNo X0.here hx rfl (hb hby at_52) rfl (teq (by decide : (2 : Int32) = (2 : Int32))).2 ?_
  show Steps p.tables e below (T0.setTop (mkF m 55 #[.val (.int p1), .val (.int p2), .val (.int (2 : Int32)), .val (.int (p2.toInt16.toInt32)), .unset, .unset, .unset, .unset] [])) _
  refine st1 _ ?_
  show Steps p.tables e below (T1.setTop (mkF m 58 #[.val (.int p1), .val (.int p2), .val (.int (2 : Int32)), .val (.int (p2.toInt16.toInt32)), .unset, .unset, .unset, .unset] [(.ref w_LIST_OFFSETS)])) _
  refine XS.astore X1.here hx rfl (hb hby at_58) rfl rfl (l' := #[.val (.int p1), .val (.int p2), .val (.int (2 : Int32)), .val (.int (p2.toInt16.toInt32)), .val (.ref w_LIST_OFFSETS), .unset, .unset, .unset]) rfl ?_
  show Steps p.tables e below (T1.setTop (mkF m 60 #[.val (.int p1), .val (.int p2), .val (.int (2 : Int32)), .val (.int (p2.toInt16.toInt32)), .val (.ref w_LIST_OFFSETS), .unset, .unset, .unset] [])) _
  refine XS.iconst X1.here hx rfl (hb hby at_60) ?_
  show Steps p.tables e below (T1.setTop (mkF m 61 #[.val (.int p1), .val (.int p2), .val (.int (2 : Int32)), .val (.int (p2.toInt16.toInt32)), .val (.ref w_LIST_OFFSETS), .unset, .unset, .unset] [(.int (1 : Int32))])) _
  refine XS.istore X1.here hx rfl (hb hby at_61) rfl (l' := #[.val (.int p1), .val (.int p2), .val (.int (2 : Int32)), .val (.int (p2.toInt16.toInt32)), .val (.ref w_LIST_OFFSETS), .val (.int (1 : Int32)), .unset, .unset]) rfl ?_
  show Steps p.tables e below (T1.setTop (mkF m 63 #[.val (.int p1), .val (.int p2), .val (.int (2 : Int32)), .val (.int (p2.toInt16.toInt32)), .val (.ref w_LIST_OFFSETS), .val (.int (1 : Int32)), .unset, .unset] [])) _
  refine XS.iconst X1.here hx rfl (hb hby at_63) ?_
  show Steps p.tables e below (T1.setTop (mkF m 64 #[.val (.int p1), .val (.int p2), .val (.int (2 : Int32)), .val (.int (p2.toInt16.toInt32)), .val (.ref w_LIST_OFFSETS), .val (.int (1 : Int32)), .unset, .unset] [(.int (2 : Int32))])) _
  refine XS.istore X1.here hx rfl (hb hby at_64) rfl (l' := #[.val (.int p1), .val (.int p2), .val (.int (2 : Int32)), .val (.int (p2.toInt16.toInt32)), .val (.ref w_LIST_OFFSETS), .val (.int (1 : Int32)), .val (.int (2 : Int32)), .unset]) rfl ?_
  show Steps p.tables e below (T1.setTop (mkF m 66 #[.val (.int p1), .val (.int p2), .val (.int (2 : Int32)), .val (.int (p2.toInt16.toInt32)), .val (.ref w_LIST_OFFSETS), .val (.int (1 : Int32)), .val (.int (2 : Int32)), .unset] [])) _
  refine XS.goto X1.here hx rfl (pc0 := 66) (pc' := 258) rfl (hb hby at_66) (by decide) (by decide) ?_
  show Steps p.tables e below (T1.setTop (mkF m 258 #[.val (.int p1), .val (.int p2), .val (.int (2 : Int32)), .val (.int (p2.toInt16.toInt32)), .val (.ref w_LIST_OFFSETS), .val (.int (1 : Int32)), .val (.int (2 : Int32)), .unset] [])) _
  exact kt
set_option maxRecDepth 65536 in
set_option maxHeartbeats 40000000 in
theorem seg3 {p : Program} {l : Launch} {e : Env} {s : State} {m : MethodId} {args : Array Value} {below : List Frame} {meth : Method} {c : Code} {T0 : State} {locs : List Loc} {Z : State} {a0 : Array Value} {h0 : Heap} {n0 : Nat} (w_PRODUCE : Addr) (w_FETCH : Addr) (w_OFFSET_COMMIT : Addr) (w_METADATA : Addr) (w_LEAVE_GROUP : Addr) (w_OFFSET_FETCH : Addr) (w_FIND_COORDINATOR : Addr) (w_HEARTBEAT : Addr) (w_CREATE_TOPICS : Addr) (w_LIST_OFFSETS : Addr) (w_SYNC_GROUP : Addr) (w_API_VERSIONS : Addr) (w_JOIN_GROUP : Addr) (p1 : Int32) (p2 : Int32)
    (X0 : Stand p l e room_1 s m args below meth c T0 locs 0 0) (hx : p.tables.exec = Jvm.exec) (hZ : Z.Warmed39 s.vm) (hw : ∀ d ∈ tables_1, d.before a0 Z = true) (hby : c.code = code) (hml : c.maxLocals = 8) (hown : s.vm.findClass "com/example/melog/melog/protocol/ApiKeyServesPinLaw" = some m.cls) (e0 : T0.heap = h0) (N0 : Fr n0 locs) (O0 : Old Z n0 h0) (HW : World Z w_PRODUCE w_FETCH w_OFFSET_COMMIT w_METADATA w_LEAVE_GROUP w_OFFSET_FETCH w_FIND_COORDINATOR w_HEARTBEAT w_CREATE_TOPICS w_LIST_OFFSETS w_SYNC_GROUP w_API_VERSIONS w_JOIN_GROUP) (hk : ((p1 &&& (2147483647 : Int32)) % (13 : Int32)) = (3 : Int32)) :
    ∃ (T' : State) (locs' : List Loc), Stand p l e room_1 s m args below meth c T' locs' 0 0 ∧ Fr n0 locs' ∧ T'.heap = h0 ∧ ∀ t, Steps p.tables e below (T'.setTop (mkF m 258 #[.val (.int p1), .val (.int p2), .val (.int (3 : Int32)), .val (.int (p2.toInt16.toInt32)), .val (.ref w_METADATA), .val (.int (0 : Int32)), .val (.int (4 : Int32)), .unset] [])) t → Steps p.tables e below (T0.setTop (mkF m 0 #[.val (.int p1), .val (.int p2), .unset, .unset, .unset, .unset, .unset, .unset] [])) t := by
  obtain ⟨S_w_PRODUCE, E_w_PRODUCE, S_w_FETCH, E_w_FETCH, S_w_OFFSET_COMMIT, E_w_OFFSET_COMMIT, S_w_METADATA, E_w_METADATA, S_w_LEAVE_GROUP, E_w_LEAVE_GROUP, S_w_OFFSET_FETCH, E_w_OFFSET_FETCH, S_w_FIND_COORDINATOR, E_w_FIND_COORDINATOR, S_w_HEARTBEAT, E_w_HEARTBEAT, S_w_CREATE_TOPICS, E_w_CREATE_TOPICS, S_w_LIST_OFFSETS, E_w_LIST_OFFSETS, S_w_SYNC_GROUP, E_w_SYNC_GROUP, S_w_API_VERSIONS, E_w_API_VERSIONS, S_w_JOIN_GROUP, E_w_JOIN_GROUP, F_minVersion_w_PRODUCE, F_maxVersion_w_PRODUCE, F_minVersion_w_FETCH, F_minVersion_w_OFFSET_COMMIT, F_maxVersion_w_OFFSET_COMMIT, F_minVersion_w_METADATA, F_minVersion_w_LEAVE_GROUP, F_maxVersion_w_LEAVE_GROUP, F_minVersion_w_OFFSET_FETCH, F_maxVersion_w_OFFSET_FETCH, F_minVersion_w_FIND_COORDINATOR, F_maxVersion_w_FIND_COORDINATOR, F_minVersion_w_HEARTBEAT, F_minVersion_w_CREATE_TOPICS, F_maxVersion_w_CREATE_TOPICS, F_minVersion_w_LIST_OFFSETS, F_maxVersion_w_LIST_OFFSETS, F_maxVersion_w_METADATA, F_maxVersion_w_HEARTBEAT, F_minVersion_w_SYNC_GROUP, F_minVersion_w_API_VERSIONS, F_maxVersion_w_API_VERSIONS, F_maxVersion_w_FETCH, F_maxVersion_w_SYNC_GROUP, F_minVersion_w_JOIN_GROUP, F_maxVersion_w_JOIN_GROUP, ne_w_PRODUCE_w_FETCH, ne_w_PRODUCE_w_OFFSET_COMMIT, ne_w_PRODUCE_w_METADATA, ne_w_PRODUCE_w_LEAVE_GROUP, ne_w_PRODUCE_w_OFFSET_FETCH, ne_w_PRODUCE_w_FIND_COORDINATOR, ne_w_PRODUCE_w_HEARTBEAT, ne_w_PRODUCE_w_CREATE_TOPICS, ne_w_PRODUCE_w_LIST_OFFSETS, ne_w_PRODUCE_w_SYNC_GROUP, ne_w_PRODUCE_w_API_VERSIONS, ne_w_PRODUCE_w_JOIN_GROUP, ne_w_FETCH_w_OFFSET_COMMIT, ne_w_FETCH_w_METADATA, ne_w_FETCH_w_LEAVE_GROUP, ne_w_FETCH_w_OFFSET_FETCH, ne_w_FETCH_w_FIND_COORDINATOR, ne_w_FETCH_w_HEARTBEAT, ne_w_FETCH_w_CREATE_TOPICS, ne_w_FETCH_w_LIST_OFFSETS, ne_w_FETCH_w_SYNC_GROUP, ne_w_FETCH_w_API_VERSIONS, ne_w_FETCH_w_JOIN_GROUP, ne_w_OFFSET_COMMIT_w_METADATA, ne_w_OFFSET_COMMIT_w_LEAVE_GROUP, ne_w_OFFSET_COMMIT_w_OFFSET_FETCH, ne_w_OFFSET_COMMIT_w_FIND_COORDINATOR, ne_w_OFFSET_COMMIT_w_HEARTBEAT, ne_w_OFFSET_COMMIT_w_CREATE_TOPICS, ne_w_OFFSET_COMMIT_w_LIST_OFFSETS, ne_w_OFFSET_COMMIT_w_SYNC_GROUP, ne_w_OFFSET_COMMIT_w_API_VERSIONS, ne_w_OFFSET_COMMIT_w_JOIN_GROUP, ne_w_METADATA_w_LEAVE_GROUP, ne_w_METADATA_w_OFFSET_FETCH, ne_w_METADATA_w_FIND_COORDINATOR, ne_w_METADATA_w_HEARTBEAT, ne_w_METADATA_w_LIST_OFFSETS, ne_w_METADATA_w_SYNC_GROUP, ne_w_METADATA_w_API_VERSIONS, ne_w_METADATA_w_JOIN_GROUP, ne_w_LEAVE_GROUP_w_OFFSET_FETCH, ne_w_LEAVE_GROUP_w_FIND_COORDINATOR, ne_w_LEAVE_GROUP_w_HEARTBEAT, ne_w_LEAVE_GROUP_w_CREATE_TOPICS, ne_w_LEAVE_GROUP_w_LIST_OFFSETS, ne_w_LEAVE_GROUP_w_SYNC_GROUP, ne_w_LEAVE_GROUP_w_API_VERSIONS, ne_w_LEAVE_GROUP_w_JOIN_GROUP, ne_w_OFFSET_FETCH_w_FIND_COORDINATOR, ne_w_OFFSET_FETCH_w_HEARTBEAT, ne_w_OFFSET_FETCH_w_CREATE_TOPICS, ne_w_OFFSET_FETCH_w_LIST_OFFSETS, ne_w_OFFSET_FETCH_w_SYNC_GROUP, ne_w_OFFSET_FETCH_w_API_VERSIONS, ne_w_OFFSET_FETCH_w_JOIN_GROUP, ne_w_FIND_COORDINATOR_w_HEARTBEAT, ne_w_FIND_COORDINATOR_w_CREATE_TOPICS, ne_w_FIND_COORDINATOR_w_LIST_OFFSETS, ne_w_FIND_COORDINATOR_w_SYNC_GROUP, ne_w_FIND_COORDINATOR_w_API_VERSIONS, ne_w_FIND_COORDINATOR_w_JOIN_GROUP, ne_w_HEARTBEAT_w_CREATE_TOPICS, ne_w_HEARTBEAT_w_LIST_OFFSETS, ne_w_HEARTBEAT_w_JOIN_GROUP, ne_w_CREATE_TOPICS_w_LIST_OFFSETS, ne_w_CREATE_TOPICS_w_SYNC_GROUP, ne_w_CREATE_TOPICS_w_API_VERSIONS, ne_w_CREATE_TOPICS_w_JOIN_GROUP, ne_w_LIST_OFFSETS_w_SYNC_GROUP, ne_w_LIST_OFFSETS_w_API_VERSIONS, ne_w_LIST_OFFSETS_w_JOIN_GROUP, ne_w_SYNC_GROUP_w_JOIN_GROUP, ne_w_API_VERSIONS_w_JOIN_GROUP, -⟩ := id HW
  obtain ⟨T1, X1, e1, st1⟩ := getS2 X0 hx hZ hown (host := "") (Or.inl (hw _ (List.mem_of_getElem? (i := 17) rfl))) Via.refl e0 (S_w_METADATA.ext O0.2) (g := (mkF m 74 #[.val (.int p1), .val (.int p2), .val (.int (3 : Int32)), .val (.int (p2.toInt16.toInt32)), .unset, .unset, .unset, .unset] [])) rfl (hb hby at_74)
  refine ⟨T1, _, X1, N0, e1, fun t kt => ?_⟩
  show Steps p.tables e below (T0.setTop (mkF m 0 #[.val (.int p1), .val (.int p2), .unset, .unset, .unset, .unset, .unset, .unset] [])) _
  refine XS.iloadN X0.here hx rfl (hb hby at_0) rfl ?_
  show Steps p.tables e below (T0.setTop (mkF m 1 #[.val (.int p1), .val (.int p2), .unset, .unset, .unset, .unset, .unset, .unset] [(.int p1)])) _
  refine X0.ldcInt hx hown (mvT hZ (hw _ (List.mem_of_getElem? (i := 0) rfl))) (g := (mkF m 1 #[.val (.int p1), .val (.int p2), .unset, .unset, .unset, .unset, .unset, .unset] [(.int p1)])) rfl (hb hby at_1) _ ?_
  show Steps p.tables e below (T0.setTop (mkF m 3 #[.val (.int p1), .val (.int p2), .unset, .unset, .unset, .unset, .unset, .unset] [(.int (2147483647 : Int32)), (.int p1)])) _
  refine XS.iand X0.here hx rfl (hb hby at_3) rfl ?_
  show Steps p.tables e below (T0.setTop (mkF m 4 #[.val (.int p1), .val (.int p2), .unset, .unset, .unset, .unset, .unset, .unset] [(.int (p1 &&& (2147483647 : Int32)))])) _
  refine XS.bipush X0.here hx rfl (hb hby at_4) ?_
  show Steps p.tables e below (T0.setTop (mkF m 6 #[.val (.int p1), .val (.int p2), .unset, .unset, .unset, .unset, .unset, .unset] [(.int (13 : Int32)), (.int (p1 &&& (2147483647 : Int32)))])) _
  refine iremM X0 hx rfl (hb hby at_6) rfl (by decide) ?_
  rw [hk]
  show Steps p.tables e below (T0.setTop (mkF m 7 #[.val (.int p1), .val (.int p2), .unset, .unset, .unset, .unset, .unset, .unset] [(.int (3 : Int32))])) _
  refine XS.istoreN X0.here hx rfl (hb hby at_7) rfl (l' := #[.val (.int p1), .val (.int p2), .val (.int (3 : Int32)), .unset, .unset, .unset, .unset, .unset]) rfl ?_
  show Steps p.tables e below (T0.setTop (mkF m 8 #[.val (.int p1), .val (.int p2), .val (.int (3 : Int32)), .unset, .unset, .unset, .unset, .unset] [])) _
  refine XS.iloadN X0.here hx rfl (hb hby at_8) rfl ?_
  show Steps p.tables e below (T0.setTop (mkF m 9 #[.val (.int p1), .val (.int p2), .val (.int (3 : Int32)), .unset, .unset, .unset, .unset, .unset] [(.int p2)])) _
  refine XS.i2s X0.here hx rfl (hb hby at_9) rfl ?_
  show Steps p.tables e below (T0.setTop (mkF m 10 #[.val (.int p1), .val (.int p2), .val (.int (3 : Int32)), .unset, .unset, .unset, .unset, .unset] [(.int (p2.toInt16.toInt32))])) _
  refine XS.istoreN X0.here hx rfl (hb hby at_10) rfl (l' := #[.val (.int p1), .val (.int p2), .val (.int (3 : Int32)), .val (.int (p2.toInt16.toInt32)), .unset, .unset, .unset, .unset]) rfl ?_
  show Steps p.tables e below (T0.setTop (mkF m 11 #[.val (.int p1), .val (.int p2), .val (.int (3 : Int32)), .val (.int (p2.toInt16.toInt32)), .unset, .unset, .unset, .unset] [])) _
  refine XS.iloadN X0.here hx rfl (hb hby at_11) rfl ?_
  show Steps p.tables e below (T0.setTop (mkF m 12 #[.val (.int p1), .val (.int p2), .val (.int (3 : Int32)), .val (.int (p2.toInt16.toInt32)), .unset, .unset, .unset, .unset] [(.int (3 : Int32))])) _
  refine XS.ifYes X0.here hx rfl (pc0 := 12) (pc' := 30) rfl (hb hby at_12) rfl ((if0 _ _).trans (feq (by decide : ¬ ((3 : Int32) = (0 : Int32)))).2) (by decide) (by decide) ?_
  show Steps p.tables e below (T0.setTop (mkF m 30 #[.val (.int p1), .val (.int p2), .val (.int (3 : Int32)), .val (.int (p2.toInt16.toInt32)), .unset, .unset, .unset, .unset] [])) _
  refine XS.iloadN X0.here hx rfl (hb hby at_30) rfl ?_
  show Steps p.tables e below (T0.setTop (mkF m 31 #[.val (.int p1), .val (.int p2), .val (.int (3 : Int32)), .val (.int (p2.toInt16.toInt32)), .unset, .unset, .unset, .unset] [(.int (3 : Int32))])) _
  refine XS.iconst X0.here hx rfl (hb hby at_31) ?_
  show Steps p.tables e below (T0.setTop (mkF m 32 #[.val (.int p1), .val (.int p2), .val (.int (3 : Int32)), .val (.int (p2.toInt16.toInt32)), .unset, .unset, .unset, .unset] [(.int (1 : Int32)), (.int (3 : Int32))])) _
  refine XS.icmpYes X0.here hx rfl (pc0 := 32) (pc' := 50) rfl (hb hby at_32) rfl (feq (by decide : ¬ ((3 : Int32) = (1 : Int32)))).2 (by decide) (by decide) ?_
  show Steps p.tables e below (T0.setTop (mkF m 50 #[.val (.int p1), .val (.int p2), .val (.int (3 : Int32)), .val (.int (p2.toInt16.toInt32)), .unset, .unset, .unset, .unset] [])) _
  refine XS.iloadN X0.here hx rfl (hb hby at_50) rfl ?_
  show Steps p.tables e below (T0.setTop (mkF m 51 #[.val (.int p1), .val (.int p2), .val (.int (3 : Int32)), .val (.int (p2.toInt16.toInt32)), .unset, .unset, .unset, .unset] [(.int (3 : Int32))])) _
  refine XS.iconst X0.here hx rfl (hb hby at_51) ?_
  show Steps p.tables e below (T0.setTop (mkF m 52 #[.val (.int p1), .val (.int p2), .val (.int (3 : Int32)), .val (.int (p2.toInt16.toInt32)), .unset, .unset, .unset, .unset] [(.int (2 : Int32)), (.int (3 : Int32))])) _
  refine XS.icmpYes X0.here hx rfl (pc0 := 52) (pc' := 69) rfl (hb hby at_52) rfl (feq (by decide : ¬ ((3 : Int32) = (2 : Int32)))).2 (by decide) (by decide) ?_
  show Steps p.tables e below (T0.setTop (mkF m 69 #[.val (.int p1), .val (.int p2), .val (.int (3 : Int32)), .val (.int (p2.toInt16.toInt32)), .unset, .unset, .unset, .unset] [])) _
  refine XS.iloadN X0.here hx rfl (hb hby at_69) rfl ?_
  show Steps p.tables e below (T0.setTop (mkF m 70 #[.val (.int p1), .val (.int p2), .val (.int (3 : Int32)), .val (.int (p2.toInt16.toInt32)), .unset, .unset, .unset, .unset] [(.int (3 : Int32))])) _
  refine XS.iconst X0.here hx rfl (hb hby at_70) ?_
  show Steps p.tables e below (T0.setTop (mkF m 71 #[.val (.int p1), .val (.int p2), .val (.int (3 : Int32)), .val (.int (p2.toInt16.toInt32)), .unset, .unset, .unset, .unset] [(.int (3 : Int32)), (.int (3 : Int32))])) _
  refine XS.icmpNo X0.here hx rfl (hb hby at_71) rfl (teq (by decide : (3 : Int32) = (3 : Int32))).2 ?_
  show Steps p.tables e below (T0.setTop (mkF m 74 #[.val (.int p1), .val (.int p2), .val (.int (3 : Int32)), .val (.int (p2.toInt16.toInt32)), .unset, .unset, .unset, .unset] [])) _
  refine st1 _ ?_
  show Steps p.tables e below (T1.setTop (mkF m 77 #[.val (.int p1), .val (.int p2), .val (.int (3 : Int32)), .val (.int (p2.toInt16.toInt32)), .unset, .unset, .unset, .unset] [(.ref w_METADATA)])) _
  refine XS.astore X1.here hx rfl (hb hby at_77) rfl rfl (l' := #[.val (.int p1), .val (.int p2), .val (.int (3 : Int32)), .val (.int (p2.toInt16.toInt32)), .val (.ref w_METADATA), .unset, .unset, .unset]) rfl ?_
  show Steps p.tables e below (T1.setTop (mkF m 79 #[.val (.int p1), .val (.int p2), .val (.int (3 : Int32)), .val (.int (p2.toInt16.toInt32)), .val (.ref w_METADATA), .unset, .unset, .unset] [])) _
  refine XS.iconst X1.here hx rfl (hb hby at_79) ?_
  show Steps p.tables e below (T1.setTop (mkF m 80 #[.val (.int p1), .val (.int p2), .val (.int (3 : Int32)), .val (.int (p2.toInt16.toInt32)), .val (.ref w_METADATA), .unset, .unset, .unset] [(.int (0 : Int32))])) _
  refine XS.istore X1.here hx rfl (hb hby at_80) rfl (l' := #[.val (.int p1), .val (.int p2), .val (.int (3 : Int32)), .val (.int (p2.toInt16.toInt32)), .val (.ref w_METADATA), .val (.int (0 : Int32)), .unset, .unset]) rfl ?_
  show Steps p.tables e below (T1.setTop (mkF m 82 #[.val (.int p1), .val (.int p2), .val (.int (3 : Int32)), .val (.int (p2.toInt16.toInt32)), .val (.ref w_METADATA), .val (.int (0 : Int32)), .unset, .unset] [])) _
  refine XS.iconst X1.here hx rfl (hb hby at_82) ?_
  show Steps p.tables e below (T1.setTop (mkF m 83 #[.val (.int p1), .val (.int p2), .val (.int (3 : Int32)), .val (.int (p2.toInt16.toInt32)), .val (.ref w_METADATA), .val (.int (0 : Int32)), .unset, .unset] [(.int (4 : Int32))])) _
  refine XS.istore X1.here hx rfl (hb hby at_83) rfl (l' := #[.val (.int p1), .val (.int p2), .val (.int (3 : Int32)), .val (.int (p2.toInt16.toInt32)), .val (.ref w_METADATA), .val (.int (0 : Int32)), .val (.int (4 : Int32)), .unset]) rfl ?_
  show Steps p.tables e below (T1.setTop (mkF m 85 #[.val (.int p1), .val (.int p2), .val (.int (3 : Int32)), .val (.int (p2.toInt16.toInt32)), .val (.ref w_METADATA), .val (.int (0 : Int32)), .val (.int (4 : Int32)), .unset] [])) _
  refine XS.goto X1.here hx rfl (pc0 := 85) (pc' := 258) rfl (hb hby at_85) (by decide) (by decide) ?_
  show Steps p.tables e below (T1.setTop (mkF m 258 #[.val (.int p1), .val (.int p2), .val (.int (3 : Int32)), .val (.int (p2.toInt16.toInt32)), .val (.ref w_METADATA), .val (.int (0 : Int32)), .val (.int (4 : Int32)), .unset] [])) _
  exact kt
set_option maxRecDepth 65536 in
set_option maxHeartbeats 40000000 in
theorem seg4 {p : Program} {l : Launch} {e : Env} {s : State} {m : MethodId} {args : Array Value} {below : List Frame} {meth : Method} {c : Code} {T0 : State} {locs : List Loc} {Z : State} {a0 : Array Value} {h0 : Heap} {n0 : Nat} (w_PRODUCE : Addr) (w_FETCH : Addr) (w_OFFSET_COMMIT : Addr) (w_METADATA : Addr) (w_LEAVE_GROUP : Addr) (w_OFFSET_FETCH : Addr) (w_FIND_COORDINATOR : Addr) (w_HEARTBEAT : Addr) (w_CREATE_TOPICS : Addr) (w_LIST_OFFSETS : Addr) (w_SYNC_GROUP : Addr) (w_API_VERSIONS : Addr) (w_JOIN_GROUP : Addr) (p1 : Int32) (p2 : Int32)
    (X0 : Stand p l e room_1 s m args below meth c T0 locs 0 0) (hx : p.tables.exec = Jvm.exec) (hZ : Z.Warmed39 s.vm) (hw : ∀ d ∈ tables_1, d.before a0 Z = true) (hby : c.code = code) (hml : c.maxLocals = 8) (hown : s.vm.findClass "com/example/melog/melog/protocol/ApiKeyServesPinLaw" = some m.cls) (e0 : T0.heap = h0) (N0 : Fr n0 locs) (O0 : Old Z n0 h0) (HW : World Z w_PRODUCE w_FETCH w_OFFSET_COMMIT w_METADATA w_LEAVE_GROUP w_OFFSET_FETCH w_FIND_COORDINATOR w_HEARTBEAT w_CREATE_TOPICS w_LIST_OFFSETS w_SYNC_GROUP w_API_VERSIONS w_JOIN_GROUP) (hk : ((p1 &&& (2147483647 : Int32)) % (13 : Int32)) = (4 : Int32)) :
    ∃ (T' : State) (locs' : List Loc), Stand p l e room_1 s m args below meth c T' locs' 0 0 ∧ Fr n0 locs' ∧ T'.heap = h0 ∧ ∀ t, Steps p.tables e below (T'.setTop (mkF m 258 #[.val (.int p1), .val (.int p2), .val (.int (4 : Int32)), .val (.int (p2.toInt16.toInt32)), .val (.ref w_OFFSET_COMMIT), .val (.int (2 : Int32)), .val (.int (7 : Int32)), .unset] [])) t → Steps p.tables e below (T0.setTop (mkF m 0 #[.val (.int p1), .val (.int p2), .unset, .unset, .unset, .unset, .unset, .unset] [])) t := by
  obtain ⟨S_w_PRODUCE, E_w_PRODUCE, S_w_FETCH, E_w_FETCH, S_w_OFFSET_COMMIT, E_w_OFFSET_COMMIT, S_w_METADATA, E_w_METADATA, S_w_LEAVE_GROUP, E_w_LEAVE_GROUP, S_w_OFFSET_FETCH, E_w_OFFSET_FETCH, S_w_FIND_COORDINATOR, E_w_FIND_COORDINATOR, S_w_HEARTBEAT, E_w_HEARTBEAT, S_w_CREATE_TOPICS, E_w_CREATE_TOPICS, S_w_LIST_OFFSETS, E_w_LIST_OFFSETS, S_w_SYNC_GROUP, E_w_SYNC_GROUP, S_w_API_VERSIONS, E_w_API_VERSIONS, S_w_JOIN_GROUP, E_w_JOIN_GROUP, F_minVersion_w_PRODUCE, F_maxVersion_w_PRODUCE, F_minVersion_w_FETCH, F_minVersion_w_OFFSET_COMMIT, F_maxVersion_w_OFFSET_COMMIT, F_minVersion_w_METADATA, F_minVersion_w_LEAVE_GROUP, F_maxVersion_w_LEAVE_GROUP, F_minVersion_w_OFFSET_FETCH, F_maxVersion_w_OFFSET_FETCH, F_minVersion_w_FIND_COORDINATOR, F_maxVersion_w_FIND_COORDINATOR, F_minVersion_w_HEARTBEAT, F_minVersion_w_CREATE_TOPICS, F_maxVersion_w_CREATE_TOPICS, F_minVersion_w_LIST_OFFSETS, F_maxVersion_w_LIST_OFFSETS, F_maxVersion_w_METADATA, F_maxVersion_w_HEARTBEAT, F_minVersion_w_SYNC_GROUP, F_minVersion_w_API_VERSIONS, F_maxVersion_w_API_VERSIONS, F_maxVersion_w_FETCH, F_maxVersion_w_SYNC_GROUP, F_minVersion_w_JOIN_GROUP, F_maxVersion_w_JOIN_GROUP, ne_w_PRODUCE_w_FETCH, ne_w_PRODUCE_w_OFFSET_COMMIT, ne_w_PRODUCE_w_METADATA, ne_w_PRODUCE_w_LEAVE_GROUP, ne_w_PRODUCE_w_OFFSET_FETCH, ne_w_PRODUCE_w_FIND_COORDINATOR, ne_w_PRODUCE_w_HEARTBEAT, ne_w_PRODUCE_w_CREATE_TOPICS, ne_w_PRODUCE_w_LIST_OFFSETS, ne_w_PRODUCE_w_SYNC_GROUP, ne_w_PRODUCE_w_API_VERSIONS, ne_w_PRODUCE_w_JOIN_GROUP, ne_w_FETCH_w_OFFSET_COMMIT, ne_w_FETCH_w_METADATA, ne_w_FETCH_w_LEAVE_GROUP, ne_w_FETCH_w_OFFSET_FETCH, ne_w_FETCH_w_FIND_COORDINATOR, ne_w_FETCH_w_HEARTBEAT, ne_w_FETCH_w_CREATE_TOPICS, ne_w_FETCH_w_LIST_OFFSETS, ne_w_FETCH_w_SYNC_GROUP, ne_w_FETCH_w_API_VERSIONS, ne_w_FETCH_w_JOIN_GROUP, ne_w_OFFSET_COMMIT_w_METADATA, ne_w_OFFSET_COMMIT_w_LEAVE_GROUP, ne_w_OFFSET_COMMIT_w_OFFSET_FETCH, ne_w_OFFSET_COMMIT_w_FIND_COORDINATOR, ne_w_OFFSET_COMMIT_w_HEARTBEAT, ne_w_OFFSET_COMMIT_w_CREATE_TOPICS, ne_w_OFFSET_COMMIT_w_LIST_OFFSETS, ne_w_OFFSET_COMMIT_w_SYNC_GROUP, ne_w_OFFSET_COMMIT_w_API_VERSIONS, ne_w_OFFSET_COMMIT_w_JOIN_GROUP, ne_w_METADATA_w_LEAVE_GROUP, ne_w_METADATA_w_OFFSET_FETCH, ne_w_METADATA_w_FIND_COORDINATOR, ne_w_METADATA_w_HEARTBEAT, ne_w_METADATA_w_LIST_OFFSETS, ne_w_METADATA_w_SYNC_GROUP, ne_w_METADATA_w_API_VERSIONS, ne_w_METADATA_w_JOIN_GROUP, ne_w_LEAVE_GROUP_w_OFFSET_FETCH, ne_w_LEAVE_GROUP_w_FIND_COORDINATOR, ne_w_LEAVE_GROUP_w_HEARTBEAT, ne_w_LEAVE_GROUP_w_CREATE_TOPICS, ne_w_LEAVE_GROUP_w_LIST_OFFSETS, ne_w_LEAVE_GROUP_w_SYNC_GROUP, ne_w_LEAVE_GROUP_w_API_VERSIONS, ne_w_LEAVE_GROUP_w_JOIN_GROUP, ne_w_OFFSET_FETCH_w_FIND_COORDINATOR, ne_w_OFFSET_FETCH_w_HEARTBEAT, ne_w_OFFSET_FETCH_w_CREATE_TOPICS, ne_w_OFFSET_FETCH_w_LIST_OFFSETS, ne_w_OFFSET_FETCH_w_SYNC_GROUP, ne_w_OFFSET_FETCH_w_API_VERSIONS, ne_w_OFFSET_FETCH_w_JOIN_GROUP, ne_w_FIND_COORDINATOR_w_HEARTBEAT, ne_w_FIND_COORDINATOR_w_CREATE_TOPICS, ne_w_FIND_COORDINATOR_w_LIST_OFFSETS, ne_w_FIND_COORDINATOR_w_SYNC_GROUP, ne_w_FIND_COORDINATOR_w_API_VERSIONS, ne_w_FIND_COORDINATOR_w_JOIN_GROUP, ne_w_HEARTBEAT_w_CREATE_TOPICS, ne_w_HEARTBEAT_w_LIST_OFFSETS, ne_w_HEARTBEAT_w_JOIN_GROUP, ne_w_CREATE_TOPICS_w_LIST_OFFSETS, ne_w_CREATE_TOPICS_w_SYNC_GROUP, ne_w_CREATE_TOPICS_w_API_VERSIONS, ne_w_CREATE_TOPICS_w_JOIN_GROUP, ne_w_LIST_OFFSETS_w_SYNC_GROUP, ne_w_LIST_OFFSETS_w_API_VERSIONS, ne_w_LIST_OFFSETS_w_JOIN_GROUP, ne_w_SYNC_GROUP_w_JOIN_GROUP, ne_w_API_VERSIONS_w_JOIN_GROUP, -⟩ := id HW
  obtain ⟨T1, X1, e1, st1⟩ := getS2 X0 hx hZ hown (host := "") (Or.inl (hw _ (List.mem_of_getElem? (i := 15) rfl))) Via.refl e0 (S_w_OFFSET_COMMIT.ext O0.2) (g := (mkF m 93 #[.val (.int p1), .val (.int p2), .val (.int (4 : Int32)), .val (.int (p2.toInt16.toInt32)), .unset, .unset, .unset, .unset] [])) rfl (hb hby at_93)
  refine ⟨T1, _, X1, N0, e1, fun t kt => ?_⟩
  show Steps p.tables e below (T0.setTop (mkF m 0 #[.val (.int p1), .val (.int p2), .unset, .unset, .unset, .unset, .unset, .unset] [])) _
  refine XS.iloadN X0.here hx rfl (hb hby at_0) rfl ?_
  show Steps p.tables e below (T0.setTop (mkF m 1 #[.val (.int p1), .val (.int p2), .unset, .unset, .unset, .unset, .unset, .unset] [(.int p1)])) _
  refine X0.ldcInt hx hown (mvT hZ (hw _ (List.mem_of_getElem? (i := 0) rfl))) (g := (mkF m 1 #[.val (.int p1), .val (.int p2), .unset, .unset, .unset, .unset, .unset, .unset] [(.int p1)])) rfl (hb hby at_1) _ ?_
  show Steps p.tables e below (T0.setTop (mkF m 3 #[.val (.int p1), .val (.int p2), .unset, .unset, .unset, .unset, .unset, .unset] [(.int (2147483647 : Int32)), (.int p1)])) _
  refine XS.iand X0.here hx rfl (hb hby at_3) rfl ?_
  show Steps p.tables e below (T0.setTop (mkF m 4 #[.val (.int p1), .val (.int p2), .unset, .unset, .unset, .unset, .unset, .unset] [(.int (p1 &&& (2147483647 : Int32)))])) _
  refine XS.bipush X0.here hx rfl (hb hby at_4) ?_
  show Steps p.tables e below (T0.setTop (mkF m 6 #[.val (.int p1), .val (.int p2), .unset, .unset, .unset, .unset, .unset, .unset] [(.int (13 : Int32)), (.int (p1 &&& (2147483647 : Int32)))])) _
  refine iremM X0 hx rfl (hb hby at_6) rfl (by decide) ?_
  rw [hk]
  show Steps p.tables e below (T0.setTop (mkF m 7 #[.val (.int p1), .val (.int p2), .unset, .unset, .unset, .unset, .unset, .unset] [(.int (4 : Int32))])) _
  refine XS.istoreN X0.here hx rfl (hb hby at_7) rfl (l' := #[.val (.int p1), .val (.int p2), .val (.int (4 : Int32)), .unset, .unset, .unset, .unset, .unset]) rfl ?_
  show Steps p.tables e below (T0.setTop (mkF m 8 #[.val (.int p1), .val (.int p2), .val (.int (4 : Int32)), .unset, .unset, .unset, .unset, .unset] [])) _
  refine XS.iloadN X0.here hx rfl (hb hby at_8) rfl ?_
  show Steps p.tables e below (T0.setTop (mkF m 9 #[.val (.int p1), .val (.int p2), .val (.int (4 : Int32)), .unset, .unset, .unset, .unset, .unset] [(.int p2)])) _
  refine XS.i2s X0.here hx rfl (hb hby at_9) rfl ?_
  show Steps p.tables e below (T0.setTop (mkF m 10 #[.val (.int p1), .val (.int p2), .val (.int (4 : Int32)), .unset, .unset, .unset, .unset, .unset] [(.int (p2.toInt16.toInt32))])) _
  refine XS.istoreN X0.here hx rfl (hb hby at_10) rfl (l' := #[.val (.int p1), .val (.int p2), .val (.int (4 : Int32)), .val (.int (p2.toInt16.toInt32)), .unset, .unset, .unset, .unset]) rfl ?_
  show Steps p.tables e below (T0.setTop (mkF m 11 #[.val (.int p1), .val (.int p2), .val (.int (4 : Int32)), .val (.int (p2.toInt16.toInt32)), .unset, .unset, .unset, .unset] [])) _
  refine XS.iloadN X0.here hx rfl (hb hby at_11) rfl ?_
  show Steps p.tables e below (T0.setTop (mkF m 12 #[.val (.int p1), .val (.int p2), .val (.int (4 : Int32)), .val (.int (p2.toInt16.toInt32)), .unset, .unset, .unset, .unset] [(.int (4 : Int32))])) _
  refine XS.ifYes X0.here hx rfl (pc0 := 12) (pc' := 30) rfl (hb hby at_12) rfl ((if0 _ _).trans (feq (by decide : ¬ ((4 : Int32) = (0 : Int32)))).2) (by decide) (by decide) ?_
  show Steps p.tables e below (T0.setTop (mkF m 30 #[.val (.int p1), .val (.int p2), .val (.int (4 : Int32)), .val (.int (p2.toInt16.toInt32)), .unset, .unset, .unset, .unset] [])) _
  refine XS.iloadN X0.here hx rfl (hb hby at_30) rfl ?_
  show Steps p.tables e below (T0.setTop (mkF m 31 #[.val (.int p1), .val (.int p2), .val (.int (4 : Int32)), .val (.int (p2.toInt16.toInt32)), .unset, .unset, .unset, .unset] [(.int (4 : Int32))])) _
  refine XS.iconst X0.here hx rfl (hb hby at_31) ?_
  show Steps p.tables e below (T0.setTop (mkF m 32 #[.val (.int p1), .val (.int p2), .val (.int (4 : Int32)), .val (.int (p2.toInt16.toInt32)), .unset, .unset, .unset, .unset] [(.int (1 : Int32)), (.int (4 : Int32))])) _
  refine XS.icmpYes X0.here hx rfl (pc0 := 32) (pc' := 50) rfl (hb hby at_32) rfl (feq (by decide : ¬ ((4 : Int32) = (1 : Int32)))).2 (by decide) (by decide) ?_
  show Steps p.tables e below (T0.setTop (mkF m 50 #[.val (.int p1), .val (.int p2), .val (.int (4 : Int32)), .val (.int (p2.toInt16.toInt32)), .unset, .unset, .unset, .unset] [])) _
  refine XS.iloadN X0.here hx rfl (hb hby at_50) rfl ?_
  show Steps p.tables e below (T0.setTop (mkF m 51 #[.val (.int p1), .val (.int p2), .val (.int (4 : Int32)), .val (.int (p2.toInt16.toInt32)), .unset, .unset, .unset, .unset] [(.int (4 : Int32))])) _
  refine XS.iconst X0.here hx rfl (hb hby at_51) ?_
  show Steps p.tables e below (T0.setTop (mkF m 52 #[.val (.int p1), .val (.int p2), .val (.int (4 : Int32)), .val (.int (p2.toInt16.toInt32)), .unset, .unset, .unset, .unset] [(.int (2 : Int32)), (.int (4 : Int32))])) _
  refine XS.icmpYes X0.here hx rfl (pc0 := 52) (pc' := 69) rfl (hb hby at_52) rfl (feq (by decide : ¬ ((4 : Int32) = (2 : Int32)))).2 (by decide) (by decide) ?_
  show Steps p.tables e below (T0.setTop (mkF m 69 #[.val (.int p1), .val (.int p2), .val (.int (4 : Int32)), .val (.int (p2.toInt16.toInt32)), .unset, .unset, .unset, .unset] [])) _
  refine XS.iloadN X0.here hx rfl (hb hby at_69) rfl ?_
  show Steps p.tables e below (T0.setTop (mkF m 70 #[.val (.int p1), .val (.int p2), .val (.int (4 : Int32)), .val (.int (p2.toInt16.toInt32)), .unset, .unset, .unset, .unset] [(.int (4 : Int32))])) _
  refine XS.iconst X0.here hx rfl (hb hby at_70) ?_
  show Steps p.tables e below (T0.setTop (mkF m 71 #[.val (.int p1), .val (.int p2), .val (.int (4 : Int32)), .val (.int (p2.toInt16.toInt32)), .unset, .unset, .unset, .unset] [(.int (3 : Int32)), (.int (4 : Int32))])) _
  refine XS.icmpYes X0.here hx rfl (pc0 := 71) (pc' := 88) rfl (hb hby at_71) rfl (feq (by decide : ¬ ((4 : Int32) = (3 : Int32)))).2 (by decide) (by decide) ?_
  show Steps p.tables e below (T0.setTop (mkF m 88 #[.val (.int p1), .val (.int p2), .val (.int (4 : Int32)), .val (.int (p2.toInt16.toInt32)), .unset, .unset, .unset, .unset] [])) _
  refine XS.iloadN X0.here hx rfl (hb hby at_88) rfl ?_
  show Steps p.tables e below (T0.setTop (mkF m 89 #[.val (.int p1), .val (.int p2), .val (.int (4 : Int32)), .val (.int (p2.toInt16.toInt32)), .unset, .unset, .unset, .unset] [(.int (4 : Int32))])) _
  refine XS.iconst X0.here hx rfl (hb hby at_89) ?_
  show Steps p.tables e below (T0.setTop (mkF m 90 #[.val (.int p1), .val (.int p2), .val (.int (4 : Int32)), .val (.int (p2.toInt16.toInt32)), .unset, .unset, .unset, .unset] [(.int (4 : Int32)), (.int (4 : Int32))])) _
  refine XS.icmpNo X0.here hx rfl (hb hby at_90) rfl (teq (by decide : (4 : Int32) = (4 : Int32))).2 ?_
  show Steps p.tables e below (T0.setTop (mkF m 93 #[.val (.int p1), .val (.int p2), .val (.int (4 : Int32)), .val (.int (p2.toInt16.toInt32)), .unset, .unset, .unset, .unset] [])) _
  refine st1 _ ?_
  show Steps p.tables e below (T1.setTop (mkF m 96 #[.val (.int p1), .val (.int p2), .val (.int (4 : Int32)), .val (.int (p2.toInt16.toInt32)), .unset, .unset, .unset, .unset] [(.ref w_OFFSET_COMMIT)])) _
  refine XS.astore X1.here hx rfl (hb hby at_96) rfl rfl (l' := #[.val (.int p1), .val (.int p2), .val (.int (4 : Int32)), .val (.int (p2.toInt16.toInt32)), .val (.ref w_OFFSET_COMMIT), .unset, .unset, .unset]) rfl ?_
  show Steps p.tables e below (T1.setTop (mkF m 98 #[.val (.int p1), .val (.int p2), .val (.int (4 : Int32)), .val (.int (p2.toInt16.toInt32)), .val (.ref w_OFFSET_COMMIT), .unset, .unset, .unset] [])) _
  refine XS.iconst X1.here hx rfl (hb hby at_98) ?_
  show Steps p.tables e below (T1.setTop (mkF m 99 #[.val (.int p1), .val (.int p2), .val (.int (4 : Int32)), .val (.int (p2.toInt16.toInt32)), .val (.ref w_OFFSET_COMMIT), .unset, .unset, .unset] [(.int (2 : Int32))])) _
  refine XS.istore X1.here hx rfl (hb hby at_99) rfl (l' := #[.val (.int p1), .val (.int p2), .val (.int (4 : Int32)), .val (.int (p2.toInt16.toInt32)), .val (.ref w_OFFSET_COMMIT), .val (.int (2 : Int32)), .unset, .unset]) rfl ?_
  show Steps p.tables e below (T1.setTop (mkF m 101 #[.val (.int p1), .val (.int p2), .val (.int (4 : Int32)), .val (.int (p2.toInt16.toInt32)), .val (.ref w_OFFSET_COMMIT), .val (.int (2 : Int32)), .unset, .unset] [])) _
  refine XS.bipush X1.here hx rfl (hb hby at_101) ?_
  show Steps p.tables e below (T1.setTop (mkF m 103 #[.val (.int p1), .val (.int p2), .val (.int (4 : Int32)), .val (.int (p2.toInt16.toInt32)), .val (.ref w_OFFSET_COMMIT), .val (.int (2 : Int32)), .unset, .unset] [(.int (7 : Int32))])) _
  refine XS.istore X1.here hx rfl (hb hby at_103) rfl (l' := #[.val (.int p1), .val (.int p2), .val (.int (4 : Int32)), .val (.int (p2.toInt16.toInt32)), .val (.ref w_OFFSET_COMMIT), .val (.int (2 : Int32)), .val (.int (7 : Int32)), .unset]) rfl ?_
  show Steps p.tables e below (T1.setTop (mkF m 105 #[.val (.int p1), .val (.int p2), .val (.int (4 : Int32)), .val (.int (p2.toInt16.toInt32)), .val (.ref w_OFFSET_COMMIT), .val (.int (2 : Int32)), .val (.int (7 : Int32)), .unset] [])) _
  refine XS.goto X1.here hx rfl (pc0 := 105) (pc' := 258) rfl (hb hby at_105) (by decide) (by decide) ?_
  show Steps p.tables e below (T1.setTop (mkF m 258 #[.val (.int p1), .val (.int p2), .val (.int (4 : Int32)), .val (.int (p2.toInt16.toInt32)), .val (.ref w_OFFSET_COMMIT), .val (.int (2 : Int32)), .val (.int (7 : Int32)), .unset] [])) _
  exact kt
set_option maxRecDepth 65536 in
set_option maxHeartbeats 40000000 in
theorem seg5 {p : Program} {l : Launch} {e : Env} {s : State} {m : MethodId} {args : Array Value} {below : List Frame} {meth : Method} {c : Code} {T0 : State} {locs : List Loc} {Z : State} {a0 : Array Value} {h0 : Heap} {n0 : Nat} (w_PRODUCE : Addr) (w_FETCH : Addr) (w_OFFSET_COMMIT : Addr) (w_METADATA : Addr) (w_LEAVE_GROUP : Addr) (w_OFFSET_FETCH : Addr) (w_FIND_COORDINATOR : Addr) (w_HEARTBEAT : Addr) (w_CREATE_TOPICS : Addr) (w_LIST_OFFSETS : Addr) (w_SYNC_GROUP : Addr) (w_API_VERSIONS : Addr) (w_JOIN_GROUP : Addr) (p1 : Int32) (p2 : Int32)
    (X0 : Stand p l e room_1 s m args below meth c T0 locs 0 0) (hx : p.tables.exec = Jvm.exec) (hZ : Z.Warmed39 s.vm) (hw : ∀ d ∈ tables_1, d.before a0 Z = true) (hby : c.code = code) (hml : c.maxLocals = 8) (hown : s.vm.findClass "com/example/melog/melog/protocol/ApiKeyServesPinLaw" = some m.cls) (e0 : T0.heap = h0) (N0 : Fr n0 locs) (O0 : Old Z n0 h0) (HW : World Z w_PRODUCE w_FETCH w_OFFSET_COMMIT w_METADATA w_LEAVE_GROUP w_OFFSET_FETCH w_FIND_COORDINATOR w_HEARTBEAT w_CREATE_TOPICS w_LIST_OFFSETS w_SYNC_GROUP w_API_VERSIONS w_JOIN_GROUP) (hk : ((p1 &&& (2147483647 : Int32)) % (13 : Int32)) = (5 : Int32)) :
    ∃ (T' : State) (locs' : List Loc), Stand p l e room_1 s m args below meth c T' locs' 0 0 ∧ Fr n0 locs' ∧ T'.heap = h0 ∧ ∀ t, Steps p.tables e below (T'.setTop (mkF m 258 #[.val (.int p1), .val (.int p2), .val (.int (5 : Int32)), .val (.int (p2.toInt16.toInt32)), .val (.ref w_OFFSET_FETCH), .val (.int (1 : Int32)), .val (.int (5 : Int32)), .unset] [])) t → Steps p.tables e below (T0.setTop (mkF m 0 #[.val (.int p1), .val (.int p2), .unset, .unset, .unset, .unset, .unset, .unset] [])) t := by
  obtain ⟨S_w_PRODUCE, E_w_PRODUCE, S_w_FETCH, E_w_FETCH, S_w_OFFSET_COMMIT, E_w_OFFSET_COMMIT, S_w_METADATA, E_w_METADATA, S_w_LEAVE_GROUP, E_w_LEAVE_GROUP, S_w_OFFSET_FETCH, E_w_OFFSET_FETCH, S_w_FIND_COORDINATOR, E_w_FIND_COORDINATOR, S_w_HEARTBEAT, E_w_HEARTBEAT, S_w_CREATE_TOPICS, E_w_CREATE_TOPICS, S_w_LIST_OFFSETS, E_w_LIST_OFFSETS, S_w_SYNC_GROUP, E_w_SYNC_GROUP, S_w_API_VERSIONS, E_w_API_VERSIONS, S_w_JOIN_GROUP, E_w_JOIN_GROUP, F_minVersion_w_PRODUCE, F_maxVersion_w_PRODUCE, F_minVersion_w_FETCH, F_minVersion_w_OFFSET_COMMIT, F_maxVersion_w_OFFSET_COMMIT, F_minVersion_w_METADATA, F_minVersion_w_LEAVE_GROUP, F_maxVersion_w_LEAVE_GROUP, F_minVersion_w_OFFSET_FETCH, F_maxVersion_w_OFFSET_FETCH, F_minVersion_w_FIND_COORDINATOR, F_maxVersion_w_FIND_COORDINATOR, F_minVersion_w_HEARTBEAT, F_minVersion_w_CREATE_TOPICS, F_maxVersion_w_CREATE_TOPICS, F_minVersion_w_LIST_OFFSETS, F_maxVersion_w_LIST_OFFSETS, F_maxVersion_w_METADATA, F_maxVersion_w_HEARTBEAT, F_minVersion_w_SYNC_GROUP, F_minVersion_w_API_VERSIONS, F_maxVersion_w_API_VERSIONS, F_maxVersion_w_FETCH, F_maxVersion_w_SYNC_GROUP, F_minVersion_w_JOIN_GROUP, F_maxVersion_w_JOIN_GROUP, ne_w_PRODUCE_w_FETCH, ne_w_PRODUCE_w_OFFSET_COMMIT, ne_w_PRODUCE_w_METADATA, ne_w_PRODUCE_w_LEAVE_GROUP, ne_w_PRODUCE_w_OFFSET_FETCH, ne_w_PRODUCE_w_FIND_COORDINATOR, ne_w_PRODUCE_w_HEARTBEAT, ne_w_PRODUCE_w_CREATE_TOPICS, ne_w_PRODUCE_w_LIST_OFFSETS, ne_w_PRODUCE_w_SYNC_GROUP, ne_w_PRODUCE_w_API_VERSIONS, ne_w_PRODUCE_w_JOIN_GROUP, ne_w_FETCH_w_OFFSET_COMMIT, ne_w_FETCH_w_METADATA, ne_w_FETCH_w_LEAVE_GROUP, ne_w_FETCH_w_OFFSET_FETCH, ne_w_FETCH_w_FIND_COORDINATOR, ne_w_FETCH_w_HEARTBEAT, ne_w_FETCH_w_CREATE_TOPICS, ne_w_FETCH_w_LIST_OFFSETS, ne_w_FETCH_w_SYNC_GROUP, ne_w_FETCH_w_API_VERSIONS, ne_w_FETCH_w_JOIN_GROUP, ne_w_OFFSET_COMMIT_w_METADATA, ne_w_OFFSET_COMMIT_w_LEAVE_GROUP, ne_w_OFFSET_COMMIT_w_OFFSET_FETCH, ne_w_OFFSET_COMMIT_w_FIND_COORDINATOR, ne_w_OFFSET_COMMIT_w_HEARTBEAT, ne_w_OFFSET_COMMIT_w_CREATE_TOPICS, ne_w_OFFSET_COMMIT_w_LIST_OFFSETS, ne_w_OFFSET_COMMIT_w_SYNC_GROUP, ne_w_OFFSET_COMMIT_w_API_VERSIONS, ne_w_OFFSET_COMMIT_w_JOIN_GROUP, ne_w_METADATA_w_LEAVE_GROUP, ne_w_METADATA_w_OFFSET_FETCH, ne_w_METADATA_w_FIND_COORDINATOR, ne_w_METADATA_w_HEARTBEAT, ne_w_METADATA_w_LIST_OFFSETS, ne_w_METADATA_w_SYNC_GROUP, ne_w_METADATA_w_API_VERSIONS, ne_w_METADATA_w_JOIN_GROUP, ne_w_LEAVE_GROUP_w_OFFSET_FETCH, ne_w_LEAVE_GROUP_w_FIND_COORDINATOR, ne_w_LEAVE_GROUP_w_HEARTBEAT, ne_w_LEAVE_GROUP_w_CREATE_TOPICS, ne_w_LEAVE_GROUP_w_LIST_OFFSETS, ne_w_LEAVE_GROUP_w_SYNC_GROUP, ne_w_LEAVE_GROUP_w_API_VERSIONS, ne_w_LEAVE_GROUP_w_JOIN_GROUP, ne_w_OFFSET_FETCH_w_FIND_COORDINATOR, ne_w_OFFSET_FETCH_w_HEARTBEAT, ne_w_OFFSET_FETCH_w_CREATE_TOPICS, ne_w_OFFSET_FETCH_w_LIST_OFFSETS, ne_w_OFFSET_FETCH_w_SYNC_GROUP, ne_w_OFFSET_FETCH_w_API_VERSIONS, ne_w_OFFSET_FETCH_w_JOIN_GROUP, ne_w_FIND_COORDINATOR_w_HEARTBEAT, ne_w_FIND_COORDINATOR_w_CREATE_TOPICS, ne_w_FIND_COORDINATOR_w_LIST_OFFSETS, ne_w_FIND_COORDINATOR_w_SYNC_GROUP, ne_w_FIND_COORDINATOR_w_API_VERSIONS, ne_w_FIND_COORDINATOR_w_JOIN_GROUP, ne_w_HEARTBEAT_w_CREATE_TOPICS, ne_w_HEARTBEAT_w_LIST_OFFSETS, ne_w_HEARTBEAT_w_JOIN_GROUP, ne_w_CREATE_TOPICS_w_LIST_OFFSETS, ne_w_CREATE_TOPICS_w_SYNC_GROUP, ne_w_CREATE_TOPICS_w_API_VERSIONS, ne_w_CREATE_TOPICS_w_JOIN_GROUP, ne_w_LIST_OFFSETS_w_SYNC_GROUP, ne_w_LIST_OFFSETS_w_API_VERSIONS, ne_w_LIST_OFFSETS_w_JOIN_GROUP, ne_w_SYNC_GROUP_w_JOIN_GROUP, ne_w_API_VERSIONS_w_JOIN_GROUP, -⟩ := id HW
  obtain ⟨T1, X1, e1, st1⟩ := getS2 X0 hx hZ hown (host := "") (Or.inl (hw _ (List.mem_of_getElem? (i := 21) rfl))) Via.refl e0 (S_w_OFFSET_FETCH.ext O0.2) (g := (mkF m 113 #[.val (.int p1), .val (.int p2), .val (.int (5 : Int32)), .val (.int (p2.toInt16.toInt32)), .unset, .unset, .unset, .unset] [])) rfl (hb hby at_113)
  refine ⟨T1, _, X1, N0, e1, fun t kt => ?_⟩
  show Steps p.tables e below (T0.setTop (mkF m 0 #[.val (.int p1), .val (.int p2), .unset, .unset, .unset, .unset, .unset, .unset] [])) _
  refine XS.iloadN X0.here hx rfl (hb hby at_0) rfl ?_
  show Steps p.tables e below (T0.setTop (mkF m 1 #[.val (.int p1), .val (.int p2), .unset, .unset, .unset, .unset, .unset, .unset] [(.int p1)])) _
  refine X0.ldcInt hx hown (mvT hZ (hw _ (List.mem_of_getElem? (i := 0) rfl))) (g := (mkF m 1 #[.val (.int p1), .val (.int p2), .unset, .unset, .unset, .unset, .unset, .unset] [(.int p1)])) rfl (hb hby at_1) _ ?_
  show Steps p.tables e below (T0.setTop (mkF m 3 #[.val (.int p1), .val (.int p2), .unset, .unset, .unset, .unset, .unset, .unset] [(.int (2147483647 : Int32)), (.int p1)])) _
  refine XS.iand X0.here hx rfl (hb hby at_3) rfl ?_
  show Steps p.tables e below (T0.setTop (mkF m 4 #[.val (.int p1), .val (.int p2), .unset, .unset, .unset, .unset, .unset, .unset] [(.int (p1 &&& (2147483647 : Int32)))])) _
  refine XS.bipush X0.here hx rfl (hb hby at_4) ?_
  show Steps p.tables e below (T0.setTop (mkF m 6 #[.val (.int p1), .val (.int p2), .unset, .unset, .unset, .unset, .unset, .unset] [(.int (13 : Int32)), (.int (p1 &&& (2147483647 : Int32)))])) _
  refine iremM X0 hx rfl (hb hby at_6) rfl (by decide) ?_
  rw [hk]
  show Steps p.tables e below (T0.setTop (mkF m 7 #[.val (.int p1), .val (.int p2), .unset, .unset, .unset, .unset, .unset, .unset] [(.int (5 : Int32))])) _
  refine XS.istoreN X0.here hx rfl (hb hby at_7) rfl (l' := #[.val (.int p1), .val (.int p2), .val (.int (5 : Int32)), .unset, .unset, .unset, .unset, .unset]) rfl ?_
  show Steps p.tables e below (T0.setTop (mkF m 8 #[.val (.int p1), .val (.int p2), .val (.int (5 : Int32)), .unset, .unset, .unset, .unset, .unset] [])) _
  refine XS.iloadN X0.here hx rfl (hb hby at_8) rfl ?_
  show Steps p.tables e below (T0.setTop (mkF m 9 #[.val (.int p1), .val (.int p2), .val (.int (5 : Int32)), .unset, .unset, .unset, .unset, .unset] [(.int p2)])) _
  refine XS.i2s X0.here hx rfl (hb hby at_9) rfl ?_
  show Steps p.tables e below (T0.setTop (mkF m 10 #[.val (.int p1), .val (.int p2), .val (.int (5 : Int32)), .unset, .unset, .unset, .unset, .unset] [(.int (p2.toInt16.toInt32))])) _
  refine XS.istoreN X0.here hx rfl (hb hby at_10) rfl (l' := #[.val (.int p1), .val (.int p2), .val (.int (5 : Int32)), .val (.int (p2.toInt16.toInt32)), .unset, .unset, .unset, .unset]) rfl ?_
  show Steps p.tables e below (T0.setTop (mkF m 11 #[.val (.int p1), .val (.int p2), .val (.int (5 : Int32)), .val (.int (p2.toInt16.toInt32)), .unset, .unset, .unset, .unset] [])) _
  refine XS.iloadN X0.here hx rfl (hb hby at_11) rfl ?_
  show Steps p.tables e below (T0.setTop (mkF m 12 #[.val (.int p1), .val (.int p2), .val (.int (5 : Int32)), .val (.int (p2.toInt16.toInt32)), .unset, .unset, .unset, .unset] [(.int (5 : Int32))])) _
  refine XS.ifYes X0.here hx rfl (pc0 := 12) (pc' := 30) rfl (hb hby at_12) rfl ((if0 _ _).trans (feq (by decide : ¬ ((5 : Int32) = (0 : Int32)))).2) (by decide) (by decide) ?_
  show Steps p.tables e below (T0.setTop (mkF m 30 #[.val (.int p1), .val (.int p2), .val (.int (5 : Int32)), .val (.int (p2.toInt16.toInt32)), .unset, .unset, .unset, .unset] [])) _
  refine XS.iloadN X0.here hx rfl (hb hby at_30) rfl ?_
  show Steps p.tables e below (T0.setTop (mkF m 31 #[.val (.int p1), .val (.int p2), .val (.int (5 : Int32)), .val (.int (p2.toInt16.toInt32)), .unset, .unset, .unset, .unset] [(.int (5 : Int32))])) _
  refine XS.iconst X0.here hx rfl (hb hby at_31) ?_
  show Steps p.tables e below (T0.setTop (mkF m 32 #[.val (.int p1), .val (.int p2), .val (.int (5 : Int32)), .val (.int (p2.toInt16.toInt32)), .unset, .unset, .unset, .unset] [(.int (1 : Int32)), (.int (5 : Int32))])) _
  refine XS.icmpYes X0.here hx rfl (pc0 := 32) (pc' := 50) rfl (hb hby at_32) rfl (feq (by decide : ¬ ((5 : Int32) = (1 : Int32)))).2 (by decide) (by decide) ?_
  show Steps p.tables e below (T0.setTop (mkF m 50 #[.val (.int p1), .val (.int p2), .val (.int (5 : Int32)), .val (.int (p2.toInt16.toInt32)), .unset, .unset, .unset, .unset] [])) _
  refine XS.iloadN X0.here hx rfl (hb hby at_50) rfl ?_
  show Steps p.tables e below (T0.setTop (mkF m 51 #[.val (.int p1), .val (.int p2), .val (.int (5 : Int32)), .val (.int (p2.toInt16.toInt32)), .unset, .unset, .unset, .unset] [(.int (5 : Int32))])) _
  refine XS.iconst X0.here hx rfl (hb hby at_51) ?_
  show Steps p.tables e below (T0.setTop (mkF m 52 #[.val (.int p1), .val (.int p2), .val (.int (5 : Int32)), .val (.int (p2.toInt16.toInt32)), .unset, .unset, .unset, .unset] [(.int (2 : Int32)), (.int (5 : Int32))])) _
  refine XS.icmpYes X0.here hx rfl (pc0 := 52) (pc' := 69) rfl (hb hby at_52) rfl (feq (by decide : ¬ ((5 : Int32) = (2 : Int32)))).2 (by decide) (by decide) ?_
  show Steps p.tables e below (T0.setTop (mkF m 69 #[.val (.int p1), .val (.int p2), .val (.int (5 : Int32)), .val (.int (p2.toInt16.toInt32)), .unset, .unset, .unset, .unset] [])) _
  refine XS.iloadN X0.here hx rfl (hb hby at_69) rfl ?_
  show Steps p.tables e below (T0.setTop (mkF m 70 #[.val (.int p1), .val (.int p2), .val (.int (5 : Int32)), .val (.int (p2.toInt16.toInt32)), .unset, .unset, .unset, .unset] [(.int (5 : Int32))])) _
  refine XS.iconst X0.here hx rfl (hb hby at_70) ?_
  show Steps p.tables e below (T0.setTop (mkF m 71 #[.val (.int p1), .val (.int p2), .val (.int (5 : Int32)), .val (.int (p2.toInt16.toInt32)), .unset, .unset, .unset, .unset] [(.int (3 : Int32)), (.int (5 : Int32))])) _
  refine XS.icmpYes X0.here hx rfl (pc0 := 71) (pc' := 88) rfl (hb hby at_71) rfl (feq (by decide : ¬ ((5 : Int32) = (3 : Int32)))).2 (by decide) (by decide) ?_
  show Steps p.tables e below (T0.setTop (mkF m 88 #[.val (.int p1), .val (.int p2), .val (.int (5 : Int32)), .val (.int (p2.toInt16.toInt32)), .unset, .unset, .unset, .unset] [])) _
  refine XS.iloadN X0.here hx rfl (hb hby at_88) rfl ?_
  show Steps p.tables e below (T0.setTop (mkF m 89 #[.val (.int p1), .val (.int p2), .val (.int (5 : Int32)), .val (.int (p2.toInt16.toInt32)), .unset, .unset, .unset, .unset] [(.int (5 : Int32))])) _
  refine XS.iconst X0.here hx rfl (hb hby at_89) ?_
  show Steps p.tables e below (T0.setTop (mkF m 90 #[.val (.int p1), .val (.int p2), .val (.int (5 : Int32)), .val (.int (p2.toInt16.toInt32)), .unset, .unset, .unset, .unset] [(.int (4 : Int32)), (.int (5 : Int32))])) _
  refine XS.icmpYes X0.here hx rfl (pc0 := 90) (pc' := 108) rfl (hb hby at_90) rfl (feq (by decide : ¬ ((5 : Int32) = (4 : Int32)))).2 (by decide) (by decide) ?_
  show Steps p.tables e below (T0.setTop (mkF m 108 #[.val (.int p1), .val (.int p2), .val (.int (5 : Int32)), .val (.int (p2.toInt16.toInt32)), .unset, .unset, .unset, .unset] [])) _
  refine XS.iloadN X0.here hx rfl (hb hby at_108) rfl ?_
  show Steps p.tables e below (T0.setTop (mkF m 109 #[.val (.int p1), .val (.int p2), .val (.int (5 : Int32)), .val (.int (p2.toInt16.toInt32)), .unset, .unset, .unset, .unset] [(.int (5 : Int32))])) _
  refine XS.iconst X0.here hx rfl (hb hby at_109) ?_
  show Steps p.tables e below (T0.setTop (mkF m 110 #[.val (.int p1), .val (.int p2), .val (.int (5 : Int32)), .val (.int (p2.toInt16.toInt32)), .unset, .unset, .unset, .unset] [(.int (5 : Int32)), (.int (5 : Int32))])) _
  refine XS.icmpNo X0.here hx rfl (hb hby at_110) rfl (teq (by decide : (5 : Int32) = (5 : Int32))).2 ?_
  show Steps p.tables e below (T0.setTop (mkF m 113 #[.val (.int p1), .val (.int p2), .val (.int (5 : Int32)), .val (.int (p2.toInt16.toInt32)), .unset, .unset, .unset, .unset] [])) _
  refine st1 _ ?_
  show Steps p.tables e below (T1.setTop (mkF m 116 #[.val (.int p1), .val (.int p2), .val (.int (5 : Int32)), .val (.int (p2.toInt16.toInt32)), .unset, .unset, .unset, .unset] [(.ref w_OFFSET_FETCH)])) _
  refine XS.astore X1.here hx rfl (hb hby at_116) rfl rfl (l' := #[.val (.int p1), .val (.int p2), .val (.int (5 : Int32)), .val (.int (p2.toInt16.toInt32)), .val (.ref w_OFFSET_FETCH), .unset, .unset, .unset]) rfl ?_
  show Steps p.tables e below (T1.setTop (mkF m 118 #[.val (.int p1), .val (.int p2), .val (.int (5 : Int32)), .val (.int (p2.toInt16.toInt32)), .val (.ref w_OFFSET_FETCH), .unset, .unset, .unset] [])) _
  refine XS.iconst X1.here hx rfl (hb hby at_118) ?_
  show Steps p.tables e below (T1.setTop (mkF m 119 #[.val (.int p1), .val (.int p2), .val (.int (5 : Int32)), .val (.int (p2.toInt16.toInt32)), .val (.ref w_OFFSET_FETCH), .unset, .unset, .unset] [(.int (1 : Int32))])) _
  refine XS.istore X1.here hx rfl (hb hby at_119) rfl (l' := #[.val (.int p1), .val (.int p2), .val (.int (5 : Int32)), .val (.int (p2.toInt16.toInt32)), .val (.ref w_OFFSET_FETCH), .val (.int (1 : Int32)), .unset, .unset]) rfl ?_
  show Steps p.tables e below (T1.setTop (mkF m 121 #[.val (.int p1), .val (.int p2), .val (.int (5 : Int32)), .val (.int (p2.toInt16.toInt32)), .val (.ref w_OFFSET_FETCH), .val (.int (1 : Int32)), .unset, .unset] [])) _
  refine XS.iconst X1.here hx rfl (hb hby at_121) ?_
  show Steps p.tables e below (T1.setTop (mkF m 122 #[.val (.int p1), .val (.int p2), .val (.int (5 : Int32)), .val (.int (p2.toInt16.toInt32)), .val (.ref w_OFFSET_FETCH), .val (.int (1 : Int32)), .unset, .unset] [(.int (5 : Int32))])) _
  refine XS.istore X1.here hx rfl (hb hby at_122) rfl (l' := #[.val (.int p1), .val (.int p2), .val (.int (5 : Int32)), .val (.int (p2.toInt16.toInt32)), .val (.ref w_OFFSET_FETCH), .val (.int (1 : Int32)), .val (.int (5 : Int32)), .unset]) rfl ?_
  show Steps p.tables e below (T1.setTop (mkF m 124 #[.val (.int p1), .val (.int p2), .val (.int (5 : Int32)), .val (.int (p2.toInt16.toInt32)), .val (.ref w_OFFSET_FETCH), .val (.int (1 : Int32)), .val (.int (5 : Int32)), .unset] [])) _
  refine XS.goto X1.here hx rfl (pc0 := 124) (pc' := 258) rfl (hb hby at_124) (by decide) (by decide) ?_
  show Steps p.tables e below (T1.setTop (mkF m 258 #[.val (.int p1), .val (.int p2), .val (.int (5 : Int32)), .val (.int (p2.toInt16.toInt32)), .val (.ref w_OFFSET_FETCH), .val (.int (1 : Int32)), .val (.int (5 : Int32)), .unset] [])) _
  exact kt
set_option maxRecDepth 65536 in
set_option maxHeartbeats 40000000 in
theorem seg6 {p : Program} {l : Launch} {e : Env} {s : State} {m : MethodId} {args : Array Value} {below : List Frame} {meth : Method} {c : Code} {T0 : State} {locs : List Loc} {Z : State} {a0 : Array Value} {h0 : Heap} {n0 : Nat} (w_PRODUCE : Addr) (w_FETCH : Addr) (w_OFFSET_COMMIT : Addr) (w_METADATA : Addr) (w_LEAVE_GROUP : Addr) (w_OFFSET_FETCH : Addr) (w_FIND_COORDINATOR : Addr) (w_HEARTBEAT : Addr) (w_CREATE_TOPICS : Addr) (w_LIST_OFFSETS : Addr) (w_SYNC_GROUP : Addr) (w_API_VERSIONS : Addr) (w_JOIN_GROUP : Addr) (p1 : Int32) (p2 : Int32)
    (X0 : Stand p l e room_1 s m args below meth c T0 locs 0 0) (hx : p.tables.exec = Jvm.exec) (hZ : Z.Warmed39 s.vm) (hw : ∀ d ∈ tables_1, d.before a0 Z = true) (hby : c.code = code) (hml : c.maxLocals = 8) (hown : s.vm.findClass "com/example/melog/melog/protocol/ApiKeyServesPinLaw" = some m.cls) (e0 : T0.heap = h0) (N0 : Fr n0 locs) (O0 : Old Z n0 h0) (HW : World Z w_PRODUCE w_FETCH w_OFFSET_COMMIT w_METADATA w_LEAVE_GROUP w_OFFSET_FETCH w_FIND_COORDINATOR w_HEARTBEAT w_CREATE_TOPICS w_LIST_OFFSETS w_SYNC_GROUP w_API_VERSIONS w_JOIN_GROUP) (hk : ((p1 &&& (2147483647 : Int32)) % (13 : Int32)) = (6 : Int32)) :
    ∃ (T' : State) (locs' : List Loc), Stand p l e room_1 s m args below meth c T' locs' 0 0 ∧ Fr n0 locs' ∧ T'.heap = h0 ∧ ∀ t, Steps p.tables e below (T'.setTop (mkF m 258 #[.val (.int p1), .val (.int p2), .val (.int (6 : Int32)), .val (.int (p2.toInt16.toInt32)), .val (.ref w_FIND_COORDINATOR), .val (.int (0 : Int32)), .val (.int (2 : Int32)), .unset] [])) t → Steps p.tables e below (T0.setTop (mkF m 0 #[.val (.int p1), .val (.int p2), .unset, .unset, .unset, .unset, .unset, .unset] [])) t := by
  obtain ⟨S_w_PRODUCE, E_w_PRODUCE, S_w_FETCH, E_w_FETCH, S_w_OFFSET_COMMIT, E_w_OFFSET_COMMIT, S_w_METADATA, E_w_METADATA, S_w_LEAVE_GROUP, E_w_LEAVE_GROUP, S_w_OFFSET_FETCH, E_w_OFFSET_FETCH, S_w_FIND_COORDINATOR, E_w_FIND_COORDINATOR, S_w_HEARTBEAT, E_w_HEARTBEAT, S_w_CREATE_TOPICS, E_w_CREATE_TOPICS, S_w_LIST_OFFSETS, E_w_LIST_OFFSETS, S_w_SYNC_GROUP, E_w_SYNC_GROUP, S_w_API_VERSIONS, E_w_API_VERSIONS, S_w_JOIN_GROUP, E_w_JOIN_GROUP, F_minVersion_w_PRODUCE, F_maxVersion_w_PRODUCE, F_minVersion_w_FETCH, F_minVersion_w_OFFSET_COMMIT, F_maxVersion_w_OFFSET_COMMIT, F_minVersion_w_METADATA, F_minVersion_w_LEAVE_GROUP, F_maxVersion_w_LEAVE_GROUP, F_minVersion_w_OFFSET_FETCH, F_maxVersion_w_OFFSET_FETCH, F_minVersion_w_FIND_COORDINATOR, F_maxVersion_w_FIND_COORDINATOR, F_minVersion_w_HEARTBEAT, F_minVersion_w_CREATE_TOPICS, F_maxVersion_w_CREATE_TOPICS, F_minVersion_w_LIST_OFFSETS, F_maxVersion_w_LIST_OFFSETS, F_maxVersion_w_METADATA, F_maxVersion_w_HEARTBEAT, F_minVersion_w_SYNC_GROUP, F_minVersion_w_API_VERSIONS, F_maxVersion_w_API_VERSIONS, F_maxVersion_w_FETCH, F_maxVersion_w_SYNC_GROUP, F_minVersion_w_JOIN_GROUP, F_maxVersion_w_JOIN_GROUP, ne_w_PRODUCE_w_FETCH, ne_w_PRODUCE_w_OFFSET_COMMIT, ne_w_PRODUCE_w_METADATA, ne_w_PRODUCE_w_LEAVE_GROUP, ne_w_PRODUCE_w_OFFSET_FETCH, ne_w_PRODUCE_w_FIND_COORDINATOR, ne_w_PRODUCE_w_HEARTBEAT, ne_w_PRODUCE_w_CREATE_TOPICS, ne_w_PRODUCE_w_LIST_OFFSETS, ne_w_PRODUCE_w_SYNC_GROUP, ne_w_PRODUCE_w_API_VERSIONS, ne_w_PRODUCE_w_JOIN_GROUP, ne_w_FETCH_w_OFFSET_COMMIT, ne_w_FETCH_w_METADATA, ne_w_FETCH_w_LEAVE_GROUP, ne_w_FETCH_w_OFFSET_FETCH, ne_w_FETCH_w_FIND_COORDINATOR, ne_w_FETCH_w_HEARTBEAT, ne_w_FETCH_w_CREATE_TOPICS, ne_w_FETCH_w_LIST_OFFSETS, ne_w_FETCH_w_SYNC_GROUP, ne_w_FETCH_w_API_VERSIONS, ne_w_FETCH_w_JOIN_GROUP, ne_w_OFFSET_COMMIT_w_METADATA, ne_w_OFFSET_COMMIT_w_LEAVE_GROUP, ne_w_OFFSET_COMMIT_w_OFFSET_FETCH, ne_w_OFFSET_COMMIT_w_FIND_COORDINATOR, ne_w_OFFSET_COMMIT_w_HEARTBEAT, ne_w_OFFSET_COMMIT_w_CREATE_TOPICS, ne_w_OFFSET_COMMIT_w_LIST_OFFSETS, ne_w_OFFSET_COMMIT_w_SYNC_GROUP, ne_w_OFFSET_COMMIT_w_API_VERSIONS, ne_w_OFFSET_COMMIT_w_JOIN_GROUP, ne_w_METADATA_w_LEAVE_GROUP, ne_w_METADATA_w_OFFSET_FETCH, ne_w_METADATA_w_FIND_COORDINATOR, ne_w_METADATA_w_HEARTBEAT, ne_w_METADATA_w_LIST_OFFSETS, ne_w_METADATA_w_SYNC_GROUP, ne_w_METADATA_w_API_VERSIONS, ne_w_METADATA_w_JOIN_GROUP, ne_w_LEAVE_GROUP_w_OFFSET_FETCH, ne_w_LEAVE_GROUP_w_FIND_COORDINATOR, ne_w_LEAVE_GROUP_w_HEARTBEAT, ne_w_LEAVE_GROUP_w_CREATE_TOPICS, ne_w_LEAVE_GROUP_w_LIST_OFFSETS, ne_w_LEAVE_GROUP_w_SYNC_GROUP, ne_w_LEAVE_GROUP_w_API_VERSIONS, ne_w_LEAVE_GROUP_w_JOIN_GROUP, ne_w_OFFSET_FETCH_w_FIND_COORDINATOR, ne_w_OFFSET_FETCH_w_HEARTBEAT, ne_w_OFFSET_FETCH_w_CREATE_TOPICS, ne_w_OFFSET_FETCH_w_LIST_OFFSETS, ne_w_OFFSET_FETCH_w_SYNC_GROUP, ne_w_OFFSET_FETCH_w_API_VERSIONS, ne_w_OFFSET_FETCH_w_JOIN_GROUP, ne_w_FIND_COORDINATOR_w_HEARTBEAT, ne_w_FIND_COORDINATOR_w_CREATE_TOPICS, ne_w_FIND_COORDINATOR_w_LIST_OFFSETS, ne_w_FIND_COORDINATOR_w_SYNC_GROUP, ne_w_FIND_COORDINATOR_w_API_VERSIONS, ne_w_FIND_COORDINATOR_w_JOIN_GROUP, ne_w_HEARTBEAT_w_CREATE_TOPICS, ne_w_HEARTBEAT_w_LIST_OFFSETS, ne_w_HEARTBEAT_w_JOIN_GROUP, ne_w_CREATE_TOPICS_w_LIST_OFFSETS, ne_w_CREATE_TOPICS_w_SYNC_GROUP, ne_w_CREATE_TOPICS_w_API_VERSIONS, ne_w_CREATE_TOPICS_w_JOIN_GROUP, ne_w_LIST_OFFSETS_w_SYNC_GROUP, ne_w_LIST_OFFSETS_w_API_VERSIONS, ne_w_LIST_OFFSETS_w_JOIN_GROUP, ne_w_SYNC_GROUP_w_JOIN_GROUP, ne_w_API_VERSIONS_w_JOIN_GROUP, -⟩ := id HW
  obtain ⟨T1, X1, e1, st1⟩ := getS2 X0 hx hZ hown (host := "") (Or.inl (hw _ (List.mem_of_getElem? (i := 23) rfl))) Via.refl e0 (S_w_FIND_COORDINATOR.ext O0.2) (g := (mkF m 133 #[.val (.int p1), .val (.int p2), .val (.int (6 : Int32)), .val (.int (p2.toInt16.toInt32)), .unset, .unset, .unset, .unset] [])) rfl (hb hby at_133)
  refine ⟨T1, _, X1, N0, e1, fun t kt => ?_⟩
  show Steps p.tables e below (T0.setTop (mkF m 0 #[.val (.int p1), .val (.int p2), .unset, .unset, .unset, .unset, .unset, .unset] [])) _
  refine XS.iloadN X0.here hx rfl (hb hby at_0) rfl ?_
  show Steps p.tables e below (T0.setTop (mkF m 1 #[.val (.int p1), .val (.int p2), .unset, .unset, .unset, .unset, .unset, .unset] [(.int p1)])) _
  refine X0.ldcInt hx hown (mvT hZ (hw _ (List.mem_of_getElem? (i := 0) rfl))) (g := (mkF m 1 #[.val (.int p1), .val (.int p2), .unset, .unset, .unset, .unset, .unset, .unset] [(.int p1)])) rfl (hb hby at_1) _ ?_
  show Steps p.tables e below (T0.setTop (mkF m 3 #[.val (.int p1), .val (.int p2), .unset, .unset, .unset, .unset, .unset, .unset] [(.int (2147483647 : Int32)), (.int p1)])) _
  refine XS.iand X0.here hx rfl (hb hby at_3) rfl ?_
  show Steps p.tables e below (T0.setTop (mkF m 4 #[.val (.int p1), .val (.int p2), .unset, .unset, .unset, .unset, .unset, .unset] [(.int (p1 &&& (2147483647 : Int32)))])) _
  refine XS.bipush X0.here hx rfl (hb hby at_4) ?_
  show Steps p.tables e below (T0.setTop (mkF m 6 #[.val (.int p1), .val (.int p2), .unset, .unset, .unset, .unset, .unset, .unset] [(.int (13 : Int32)), (.int (p1 &&& (2147483647 : Int32)))])) _
  refine iremM X0 hx rfl (hb hby at_6) rfl (by decide) ?_
  rw [hk]
  show Steps p.tables e below (T0.setTop (mkF m 7 #[.val (.int p1), .val (.int p2), .unset, .unset, .unset, .unset, .unset, .unset] [(.int (6 : Int32))])) _
  refine XS.istoreN X0.here hx rfl (hb hby at_7) rfl (l' := #[.val (.int p1), .val (.int p2), .val (.int (6 : Int32)), .unset, .unset, .unset, .unset, .unset]) rfl ?_
  show Steps p.tables e below (T0.setTop (mkF m 8 #[.val (.int p1), .val (.int p2), .val (.int (6 : Int32)), .unset, .unset, .unset, .unset, .unset] [])) _
  refine XS.iloadN X0.here hx rfl (hb hby at_8) rfl ?_
  show Steps p.tables e below (T0.setTop (mkF m 9 #[.val (.int p1), .val (.int p2), .val (.int (6 : Int32)), .unset, .unset, .unset, .unset, .unset] [(.int p2)])) _
  refine XS.i2s X0.here hx rfl (hb hby at_9) rfl ?_
  show Steps p.tables e below (T0.setTop (mkF m 10 #[.val (.int p1), .val (.int p2), .val (.int (6 : Int32)), .unset, .unset, .unset, .unset, .unset] [(.int (p2.toInt16.toInt32))])) _
  refine XS.istoreN X0.here hx rfl (hb hby at_10) rfl (l' := #[.val (.int p1), .val (.int p2), .val (.int (6 : Int32)), .val (.int (p2.toInt16.toInt32)), .unset, .unset, .unset, .unset]) rfl ?_
  show Steps p.tables e below (T0.setTop (mkF m 11 #[.val (.int p1), .val (.int p2), .val (.int (6 : Int32)), .val (.int (p2.toInt16.toInt32)), .unset, .unset, .unset, .unset] [])) _
  refine XS.iloadN X0.here hx rfl (hb hby at_11) rfl ?_
  show Steps p.tables e below (T0.setTop (mkF m 12 #[.val (.int p1), .val (.int p2), .val (.int (6 : Int32)), .val (.int (p2.toInt16.toInt32)), .unset, .unset, .unset, .unset] [(.int (6 : Int32))])) _
  refine XS.ifYes X0.here hx rfl (pc0 := 12) (pc' := 30) rfl (hb hby at_12) rfl ((if0 _ _).trans (feq (by decide : ¬ ((6 : Int32) = (0 : Int32)))).2) (by decide) (by decide) ?_
  show Steps p.tables e below (T0.setTop (mkF m 30 #[.val (.int p1), .val (.int p2), .val (.int (6 : Int32)), .val (.int (p2.toInt16.toInt32)), .unset, .unset, .unset, .unset] [])) _
  refine XS.iloadN X0.here hx rfl (hb hby at_30) rfl ?_
  show Steps p.tables e below (T0.setTop (mkF m 31 #[.val (.int p1), .val (.int p2), .val (.int (6 : Int32)), .val (.int (p2.toInt16.toInt32)), .unset, .unset, .unset, .unset] [(.int (6 : Int32))])) _
  refine XS.iconst X0.here hx rfl (hb hby at_31) ?_
  show Steps p.tables e below (T0.setTop (mkF m 32 #[.val (.int p1), .val (.int p2), .val (.int (6 : Int32)), .val (.int (p2.toInt16.toInt32)), .unset, .unset, .unset, .unset] [(.int (1 : Int32)), (.int (6 : Int32))])) _
  refine XS.icmpYes X0.here hx rfl (pc0 := 32) (pc' := 50) rfl (hb hby at_32) rfl (feq (by decide : ¬ ((6 : Int32) = (1 : Int32)))).2 (by decide) (by decide) ?_
  show Steps p.tables e below (T0.setTop (mkF m 50 #[.val (.int p1), .val (.int p2), .val (.int (6 : Int32)), .val (.int (p2.toInt16.toInt32)), .unset, .unset, .unset, .unset] [])) _
  refine XS.iloadN X0.here hx rfl (hb hby at_50) rfl ?_
  show Steps p.tables e below (T0.setTop (mkF m 51 #[.val (.int p1), .val (.int p2), .val (.int (6 : Int32)), .val (.int (p2.toInt16.toInt32)), .unset, .unset, .unset, .unset] [(.int (6 : Int32))])) _
  refine XS.iconst X0.here hx rfl (hb hby at_51) ?_
  show Steps p.tables e below (T0.setTop (mkF m 52 #[.val (.int p1), .val (.int p2), .val (.int (6 : Int32)), .val (.int (p2.toInt16.toInt32)), .unset, .unset, .unset, .unset] [(.int (2 : Int32)), (.int (6 : Int32))])) _
  refine XS.icmpYes X0.here hx rfl (pc0 := 52) (pc' := 69) rfl (hb hby at_52) rfl (feq (by decide : ¬ ((6 : Int32) = (2 : Int32)))).2 (by decide) (by decide) ?_
  show Steps p.tables e below (T0.setTop (mkF m 69 #[.val (.int p1), .val (.int p2), .val (.int (6 : Int32)), .val (.int (p2.toInt16.toInt32)), .unset, .unset, .unset, .unset] [])) _
  refine XS.iloadN X0.here hx rfl (hb hby at_69) rfl ?_
  show Steps p.tables e below (T0.setTop (mkF m 70 #[.val (.int p1), .val (.int p2), .val (.int (6 : Int32)), .val (.int (p2.toInt16.toInt32)), .unset, .unset, .unset, .unset] [(.int (6 : Int32))])) _
  refine XS.iconst X0.here hx rfl (hb hby at_70) ?_
  show Steps p.tables e below (T0.setTop (mkF m 71 #[.val (.int p1), .val (.int p2), .val (.int (6 : Int32)), .val (.int (p2.toInt16.toInt32)), .unset, .unset, .unset, .unset] [(.int (3 : Int32)), (.int (6 : Int32))])) _
  refine XS.icmpYes X0.here hx rfl (pc0 := 71) (pc' := 88) rfl (hb hby at_71) rfl (feq (by decide : ¬ ((6 : Int32) = (3 : Int32)))).2 (by decide) (by decide) ?_
  show Steps p.tables e below (T0.setTop (mkF m 88 #[.val (.int p1), .val (.int p2), .val (.int (6 : Int32)), .val (.int (p2.toInt16.toInt32)), .unset, .unset, .unset, .unset] [])) _
  refine XS.iloadN X0.here hx rfl (hb hby at_88) rfl ?_
  show Steps p.tables e below (T0.setTop (mkF m 89 #[.val (.int p1), .val (.int p2), .val (.int (6 : Int32)), .val (.int (p2.toInt16.toInt32)), .unset, .unset, .unset, .unset] [(.int (6 : Int32))])) _
  refine XS.iconst X0.here hx rfl (hb hby at_89) ?_
  show Steps p.tables e below (T0.setTop (mkF m 90 #[.val (.int p1), .val (.int p2), .val (.int (6 : Int32)), .val (.int (p2.toInt16.toInt32)), .unset, .unset, .unset, .unset] [(.int (4 : Int32)), (.int (6 : Int32))])) _
  refine XS.icmpYes X0.here hx rfl (pc0 := 90) (pc' := 108) rfl (hb hby at_90) rfl (feq (by decide : ¬ ((6 : Int32) = (4 : Int32)))).2 (by decide) (by decide) ?_
  show Steps p.tables e below (T0.setTop (mkF m 108 #[.val (.int p1), .val (.int p2), .val (.int (6 : Int32)), .val (.int (p2.toInt16.toInt32)), .unset, .unset, .unset, .unset] [])) _
  refine XS.iloadN X0.here hx rfl (hb hby at_108) rfl ?_
  show Steps p.tables e below (T0.setTop (mkF m 109 #[.val (.int p1), .val (.int p2), .val (.int (6 : Int32)), .val (.int (p2.toInt16.toInt32)), .unset, .unset, .unset, .unset] [(.int (6 : Int32))])) _
  refine XS.iconst X0.here hx rfl (hb hby at_109) ?_
  show Steps p.tables e below (T0.setTop (mkF m 110 #[.val (.int p1), .val (.int p2), .val (.int (6 : Int32)), .val (.int (p2.toInt16.toInt32)), .unset, .unset, .unset, .unset] [(.int (5 : Int32)), (.int (6 : Int32))])) _
  refine XS.icmpYes X0.here hx rfl (pc0 := 110) (pc' := 127) rfl (hb hby at_110) rfl (feq (by decide : ¬ ((6 : Int32) = (5 : Int32)))).2 (by decide) (by decide) ?_
  show Steps p.tables e below (T0.setTop (mkF m 127 #[.val (.int p1), .val (.int p2), .val (.int (6 : Int32)), .val (.int (p2.toInt16.toInt32)), .unset, .unset, .unset, .unset] [])) _
  refine XS.iloadN X0.here hx rfl (hb hby at_127) rfl ?_
  show Steps p.tables e below (T0.setTop (mkF m 128 #[.val (.int p1), .val (.int p2), .val (.int (6 : Int32)), .val (.int (p2.toInt16.toInt32)), .unset, .unset, .unset, .unset] [(.int (6 : Int32))])) _
  refine XS.bipush X0.here hx rfl (hb hby at_128) ?_
  show Steps p.tables e below (T0.setTop (mkF m 130 #[.val (.int p1), .val (.int p2), .val (.int (6 : Int32)), .val (.int (p2.toInt16.toInt32)), .unset, .unset, .unset, .unset] [(.int (6 : Int32)), (.int (6 : Int32))])) _
  refine XS.icmpNo X0.here hx rfl (hb hby at_130) rfl (teq (by decide : (6 : Int32) = (6 : Int32))).2 ?_
  show Steps p.tables e below (T0.setTop (mkF m 133 #[.val (.int p1), .val (.int p2), .val (.int (6 : Int32)), .val (.int (p2.toInt16.toInt32)), .unset, .unset, .unset, .unset] [])) _
  refine st1 _ ?_
  show Steps p.tables e below (T1.setTop (mkF m 136 #[.val (.int p1), .val (.int p2), .val (.int (6 : Int32)), .val (.int (p2.toInt16.toInt32)), .unset, .unset, .unset, .unset] [(.ref w_FIND_COORDINATOR)])) _
  refine XS.astore X1.here hx rfl (hb hby at_136) rfl rfl (l' := #[.val (.int p1), .val (.int p2), .val (.int (6 : Int32)), .val (.int (p2.toInt16.toInt32)), .val (.ref w_FIND_COORDINATOR), .unset, .unset, .unset]) rfl ?_
  show Steps p.tables e below (T1.setTop (mkF m 138 #[.val (.int p1), .val (.int p2), .val (.int (6 : Int32)), .val (.int (p2.toInt16.toInt32)), .val (.ref w_FIND_COORDINATOR), .unset, .unset, .unset] [])) _
  refine XS.iconst X1.here hx rfl (hb hby at_138) ?_
  show Steps p.tables e below (T1.setTop (mkF m 139 #[.val (.int p1), .val (.int p2), .val (.int (6 : Int32)), .val (.int (p2.toInt16.toInt32)), .val (.ref w_FIND_COORDINATOR), .unset, .unset, .unset] [(.int (0 : Int32))])) _
  refine XS.istore X1.here hx rfl (hb hby at_139) rfl (l' := #[.val (.int p1), .val (.int p2), .val (.int (6 : Int32)), .val (.int (p2.toInt16.toInt32)), .val (.ref w_FIND_COORDINATOR), .val (.int (0 : Int32)), .unset, .unset]) rfl ?_
  show Steps p.tables e below (T1.setTop (mkF m 141 #[.val (.int p1), .val (.int p2), .val (.int (6 : Int32)), .val (.int (p2.toInt16.toInt32)), .val (.ref w_FIND_COORDINATOR), .val (.int (0 : Int32)), .unset, .unset] [])) _
  refine XS.iconst X1.here hx rfl (hb hby at_141) ?_
  show Steps p.tables e below (T1.setTop (mkF m 142 #[.val (.int p1), .val (.int p2), .val (.int (6 : Int32)), .val (.int (p2.toInt16.toInt32)), .val (.ref w_FIND_COORDINATOR), .val (.int (0 : Int32)), .unset, .unset] [(.int (2 : Int32))])) _
  refine XS.istore X1.here hx rfl (hb hby at_142) rfl (l' := #[.val (.int p1), .val (.int p2), .val (.int (6 : Int32)), .val (.int (p2.toInt16.toInt32)), .val (.ref w_FIND_COORDINATOR), .val (.int (0 : Int32)), .val (.int (2 : Int32)), .unset]) rfl ?_
  show Steps p.tables e below (T1.setTop (mkF m 144 #[.val (.int p1), .val (.int p2), .val (.int (6 : Int32)), .val (.int (p2.toInt16.toInt32)), .val (.ref w_FIND_COORDINATOR), .val (.int (0 : Int32)), .val (.int (2 : Int32)), .unset] [])) _
  refine XS.goto X1.here hx rfl (pc0 := 144) (pc' := 258) rfl (hb hby at_144) (by decide) (by decide) ?_
  show Steps p.tables e below (T1.setTop (mkF m 258 #[.val (.int p1), .val (.int p2), .val (.int (6 : Int32)), .val (.int (p2.toInt16.toInt32)), .val (.ref w_FIND_COORDINATOR), .val (.int (0 : Int32)), .val (.int (2 : Int32)), .unset] [])) _
  exact kt
set_option maxRecDepth 65536 in
set_option maxHeartbeats 40000000 in
theorem seg7 {p : Program} {l : Launch} {e : Env} {s : State} {m : MethodId} {args : Array Value} {below : List Frame} {meth : Method} {c : Code} {T0 : State} {locs : List Loc} {Z : State} {a0 : Array Value} {h0 : Heap} {n0 : Nat} (w_PRODUCE : Addr) (w_FETCH : Addr) (w_OFFSET_COMMIT : Addr) (w_METADATA : Addr) (w_LEAVE_GROUP : Addr) (w_OFFSET_FETCH : Addr) (w_FIND_COORDINATOR : Addr) (w_HEARTBEAT : Addr) (w_CREATE_TOPICS : Addr) (w_LIST_OFFSETS : Addr) (w_SYNC_GROUP : Addr) (w_API_VERSIONS : Addr) (w_JOIN_GROUP : Addr) (p1 : Int32) (p2 : Int32)
    (X0 : Stand p l e room_1 s m args below meth c T0 locs 0 0) (hx : p.tables.exec = Jvm.exec) (hZ : Z.Warmed39 s.vm) (hw : ∀ d ∈ tables_1, d.before a0 Z = true) (hby : c.code = code) (hml : c.maxLocals = 8) (hown : s.vm.findClass "com/example/melog/melog/protocol/ApiKeyServesPinLaw" = some m.cls) (e0 : T0.heap = h0) (N0 : Fr n0 locs) (O0 : Old Z n0 h0) (HW : World Z w_PRODUCE w_FETCH w_OFFSET_COMMIT w_METADATA w_LEAVE_GROUP w_OFFSET_FETCH w_FIND_COORDINATOR w_HEARTBEAT w_CREATE_TOPICS w_LIST_OFFSETS w_SYNC_GROUP w_API_VERSIONS w_JOIN_GROUP) (hk : ((p1 &&& (2147483647 : Int32)) % (13 : Int32)) = (7 : Int32)) :
    ∃ (T' : State) (locs' : List Loc), Stand p l e room_1 s m args below meth c T' locs' 0 0 ∧ Fr n0 locs' ∧ T'.heap = h0 ∧ ∀ t, Steps p.tables e below (T'.setTop (mkF m 258 #[.val (.int p1), .val (.int p2), .val (.int (7 : Int32)), .val (.int (p2.toInt16.toInt32)), .val (.ref w_JOIN_GROUP), .val (.int (0 : Int32)), .val (.int (5 : Int32)), .unset] [])) t → Steps p.tables e below (T0.setTop (mkF m 0 #[.val (.int p1), .val (.int p2), .unset, .unset, .unset, .unset, .unset, .unset] [])) t := by
  obtain ⟨S_w_PRODUCE, E_w_PRODUCE, S_w_FETCH, E_w_FETCH, S_w_OFFSET_COMMIT, E_w_OFFSET_COMMIT, S_w_METADATA, E_w_METADATA, S_w_LEAVE_GROUP, E_w_LEAVE_GROUP, S_w_OFFSET_FETCH, E_w_OFFSET_FETCH, S_w_FIND_COORDINATOR, E_w_FIND_COORDINATOR, S_w_HEARTBEAT, E_w_HEARTBEAT, S_w_CREATE_TOPICS, E_w_CREATE_TOPICS, S_w_LIST_OFFSETS, E_w_LIST_OFFSETS, S_w_SYNC_GROUP, E_w_SYNC_GROUP, S_w_API_VERSIONS, E_w_API_VERSIONS, S_w_JOIN_GROUP, E_w_JOIN_GROUP, F_minVersion_w_PRODUCE, F_maxVersion_w_PRODUCE, F_minVersion_w_FETCH, F_minVersion_w_OFFSET_COMMIT, F_maxVersion_w_OFFSET_COMMIT, F_minVersion_w_METADATA, F_minVersion_w_LEAVE_GROUP, F_maxVersion_w_LEAVE_GROUP, F_minVersion_w_OFFSET_FETCH, F_maxVersion_w_OFFSET_FETCH, F_minVersion_w_FIND_COORDINATOR, F_maxVersion_w_FIND_COORDINATOR, F_minVersion_w_HEARTBEAT, F_minVersion_w_CREATE_TOPICS, F_maxVersion_w_CREATE_TOPICS, F_minVersion_w_LIST_OFFSETS, F_maxVersion_w_LIST_OFFSETS, F_maxVersion_w_METADATA, F_maxVersion_w_HEARTBEAT, F_minVersion_w_SYNC_GROUP, F_minVersion_w_API_VERSIONS, F_maxVersion_w_API_VERSIONS, F_maxVersion_w_FETCH, F_maxVersion_w_SYNC_GROUP, F_minVersion_w_JOIN_GROUP, F_maxVersion_w_JOIN_GROUP, ne_w_PRODUCE_w_FETCH, ne_w_PRODUCE_w_OFFSET_COMMIT, ne_w_PRODUCE_w_METADATA, ne_w_PRODUCE_w_LEAVE_GROUP, ne_w_PRODUCE_w_OFFSET_FETCH, ne_w_PRODUCE_w_FIND_COORDINATOR, ne_w_PRODUCE_w_HEARTBEAT, ne_w_PRODUCE_w_CREATE_TOPICS, ne_w_PRODUCE_w_LIST_OFFSETS, ne_w_PRODUCE_w_SYNC_GROUP, ne_w_PRODUCE_w_API_VERSIONS, ne_w_PRODUCE_w_JOIN_GROUP, ne_w_FETCH_w_OFFSET_COMMIT, ne_w_FETCH_w_METADATA, ne_w_FETCH_w_LEAVE_GROUP, ne_w_FETCH_w_OFFSET_FETCH, ne_w_FETCH_w_FIND_COORDINATOR, ne_w_FETCH_w_HEARTBEAT, ne_w_FETCH_w_CREATE_TOPICS, ne_w_FETCH_w_LIST_OFFSETS, ne_w_FETCH_w_SYNC_GROUP, ne_w_FETCH_w_API_VERSIONS, ne_w_FETCH_w_JOIN_GROUP, ne_w_OFFSET_COMMIT_w_METADATA, ne_w_OFFSET_COMMIT_w_LEAVE_GROUP, ne_w_OFFSET_COMMIT_w_OFFSET_FETCH, ne_w_OFFSET_COMMIT_w_FIND_COORDINATOR, ne_w_OFFSET_COMMIT_w_HEARTBEAT, ne_w_OFFSET_COMMIT_w_CREATE_TOPICS, ne_w_OFFSET_COMMIT_w_LIST_OFFSETS, ne_w_OFFSET_COMMIT_w_SYNC_GROUP, ne_w_OFFSET_COMMIT_w_API_VERSIONS, ne_w_OFFSET_COMMIT_w_JOIN_GROUP, ne_w_METADATA_w_LEAVE_GROUP, ne_w_METADATA_w_OFFSET_FETCH, ne_w_METADATA_w_FIND_COORDINATOR, ne_w_METADATA_w_HEARTBEAT, ne_w_METADATA_w_LIST_OFFSETS, ne_w_METADATA_w_SYNC_GROUP, ne_w_METADATA_w_API_VERSIONS, ne_w_METADATA_w_JOIN_GROUP, ne_w_LEAVE_GROUP_w_OFFSET_FETCH, ne_w_LEAVE_GROUP_w_FIND_COORDINATOR, ne_w_LEAVE_GROUP_w_HEARTBEAT, ne_w_LEAVE_GROUP_w_CREATE_TOPICS, ne_w_LEAVE_GROUP_w_LIST_OFFSETS, ne_w_LEAVE_GROUP_w_SYNC_GROUP, ne_w_LEAVE_GROUP_w_API_VERSIONS, ne_w_LEAVE_GROUP_w_JOIN_GROUP, ne_w_OFFSET_FETCH_w_FIND_COORDINATOR, ne_w_OFFSET_FETCH_w_HEARTBEAT, ne_w_OFFSET_FETCH_w_CREATE_TOPICS, ne_w_OFFSET_FETCH_w_LIST_OFFSETS, ne_w_OFFSET_FETCH_w_SYNC_GROUP, ne_w_OFFSET_FETCH_w_API_VERSIONS, ne_w_OFFSET_FETCH_w_JOIN_GROUP, ne_w_FIND_COORDINATOR_w_HEARTBEAT, ne_w_FIND_COORDINATOR_w_CREATE_TOPICS, ne_w_FIND_COORDINATOR_w_LIST_OFFSETS, ne_w_FIND_COORDINATOR_w_SYNC_GROUP, ne_w_FIND_COORDINATOR_w_API_VERSIONS, ne_w_FIND_COORDINATOR_w_JOIN_GROUP, ne_w_HEARTBEAT_w_CREATE_TOPICS, ne_w_HEARTBEAT_w_LIST_OFFSETS, ne_w_HEARTBEAT_w_JOIN_GROUP, ne_w_CREATE_TOPICS_w_LIST_OFFSETS, ne_w_CREATE_TOPICS_w_SYNC_GROUP, ne_w_CREATE_TOPICS_w_API_VERSIONS, ne_w_CREATE_TOPICS_w_JOIN_GROUP, ne_w_LIST_OFFSETS_w_SYNC_GROUP, ne_w_LIST_OFFSETS_w_API_VERSIONS, ne_w_LIST_OFFSETS_w_JOIN_GROUP, ne_w_SYNC_GROUP_w_JOIN_GROUP, ne_w_API_VERSIONS_w_JOIN_GROUP, -⟩ := id HW
  obtain ⟨T1, X1, e1, st1⟩ := getS2 X0 hx hZ hown (host := "") (Or.inl (hw _ (List.mem_of_getElem? (i := 35) rfl))) Via.refl e0 (S_w_JOIN_GROUP.ext O0.2) (g := (mkF m 153 #[.val (.int p1), .val (.int p2), .val (.int (7 : Int32)), .val (.int (p2.toInt16.toInt32)), .unset, .unset, .unset, .unset] [])) rfl (hb hby at_153)
  refine ⟨T1, _, X1, N0, e1, fun t kt => ?_⟩
  show Steps p.tables e below (T0.setTop (mkF m 0 #[.val (.int p1), .val (.int p2), .unset, .unset, .unset, .unset, .unset, .unset] [])) _
  refine XS.iloadN X0.here hx rfl (hb hby at_0) rfl ?_
  show Steps p.tables e below (T0.setTop (mkF m 1 #[.val (.int p1), .val (.int p2), .unset, .unset, .unset, .unset, .unset, .unset] [(.int p1)])) _
  refine X0.ldcInt hx hown (mvT hZ (hw _ (List.mem_of_getElem? (i := 0) rfl))) (g := (mkF m 1 #[.val (.int p1), .val (.int p2), .unset, .unset, .unset, .unset, .unset, .unset] [(.int p1)])) rfl (hb hby at_1) _ ?_
  show Steps p.tables e below (T0.setTop (mkF m 3 #[.val (.int p1), .val (.int p2), .unset, .unset, .unset, .unset, .unset, .unset] [(.int (2147483647 : Int32)), (.int p1)])) _
  refine XS.iand X0.here hx rfl (hb hby at_3) rfl ?_
  show Steps p.tables e below (T0.setTop (mkF m 4 #[.val (.int p1), .val (.int p2), .unset, .unset, .unset, .unset, .unset, .unset] [(.int (p1 &&& (2147483647 : Int32)))])) _
  refine XS.bipush X0.here hx rfl (hb hby at_4) ?_
  show Steps p.tables e below (T0.setTop (mkF m 6 #[.val (.int p1), .val (.int p2), .unset, .unset, .unset, .unset, .unset, .unset] [(.int (13 : Int32)), (.int (p1 &&& (2147483647 : Int32)))])) _
  refine iremM X0 hx rfl (hb hby at_6) rfl (by decide) ?_
  rw [hk]
  show Steps p.tables e below (T0.setTop (mkF m 7 #[.val (.int p1), .val (.int p2), .unset, .unset, .unset, .unset, .unset, .unset] [(.int (7 : Int32))])) _
  refine XS.istoreN X0.here hx rfl (hb hby at_7) rfl (l' := #[.val (.int p1), .val (.int p2), .val (.int (7 : Int32)), .unset, .unset, .unset, .unset, .unset]) rfl ?_
  show Steps p.tables e below (T0.setTop (mkF m 8 #[.val (.int p1), .val (.int p2), .val (.int (7 : Int32)), .unset, .unset, .unset, .unset, .unset] [])) _
  refine XS.iloadN X0.here hx rfl (hb hby at_8) rfl ?_
  show Steps p.tables e below (T0.setTop (mkF m 9 #[.val (.int p1), .val (.int p2), .val (.int (7 : Int32)), .unset, .unset, .unset, .unset, .unset] [(.int p2)])) _
  refine XS.i2s X0.here hx rfl (hb hby at_9) rfl ?_
  show Steps p.tables e below (T0.setTop (mkF m 10 #[.val (.int p1), .val (.int p2), .val (.int (7 : Int32)), .unset, .unset, .unset, .unset, .unset] [(.int (p2.toInt16.toInt32))])) _
  refine XS.istoreN X0.here hx rfl (hb hby at_10) rfl (l' := #[.val (.int p1), .val (.int p2), .val (.int (7 : Int32)), .val (.int (p2.toInt16.toInt32)), .unset, .unset, .unset, .unset]) rfl ?_
  show Steps p.tables e below (T0.setTop (mkF m 11 #[.val (.int p1), .val (.int p2), .val (.int (7 : Int32)), .val (.int (p2.toInt16.toInt32)), .unset, .unset, .unset, .unset] [])) _
  refine XS.iloadN X0.here hx rfl (hb hby at_11) rfl ?_
  show Steps p.tables e below (T0.setTop (mkF m 12 #[.val (.int p1), .val (.int p2), .val (.int (7 : Int32)), .val (.int (p2.toInt16.toInt32)), .unset, .unset, .unset, .unset] [(.int (7 : Int32))])) _
  refine XS.ifYes X0.here hx rfl (pc0 := 12) (pc' := 30) rfl (hb hby at_12) rfl ((if0 _ _).trans (feq (by decide : ¬ ((7 : Int32) = (0 : Int32)))).2) (by decide) (by decide) ?_
  show Steps p.tables e below (T0.setTop (mkF m 30 #[.val (.int p1), .val (.int p2), .val (.int (7 : Int32)), .val (.int (p2.toInt16.toInt32)), .unset, .unset, .unset, .unset] [])) _
  refine XS.iloadN X0.here hx rfl (hb hby at_30) rfl ?_
  show Steps p.tables e below (T0.setTop (mkF m 31 #[.val (.int p1), .val (.int p2), .val (.int (7 : Int32)), .val (.int (p2.toInt16.toInt32)), .unset, .unset, .unset, .unset] [(.int (7 : Int32))])) _
  refine XS.iconst X0.here hx rfl (hb hby at_31) ?_
  show Steps p.tables e below (T0.setTop (mkF m 32 #[.val (.int p1), .val (.int p2), .val (.int (7 : Int32)), .val (.int (p2.toInt16.toInt32)), .unset, .unset, .unset, .unset] [(.int (1 : Int32)), (.int (7 : Int32))])) _
  refine XS.icmpYes X0.here hx rfl (pc0 := 32) (pc' := 50) rfl (hb hby at_32) rfl (feq (by decide : ¬ ((7 : Int32) = (1 : Int32)))).2 (by decide) (by decide) ?_
  show Steps p.tables e below (T0.setTop (mkF m 50 #[.val (.int p1), .val (.int p2), .val (.int (7 : Int32)), .val (.int (p2.toInt16.toInt32)), .unset, .unset, .unset, .unset] [])) _
  refine XS.iloadN X0.here hx rfl (hb hby at_50) rfl ?_
  show Steps p.tables e below (T0.setTop (mkF m 51 #[.val (.int p1), .val (.int p2), .val (.int (7 : Int32)), .val (.int (p2.toInt16.toInt32)), .unset, .unset, .unset, .unset] [(.int (7 : Int32))])) _
  refine XS.iconst X0.here hx rfl (hb hby at_51) ?_
  show Steps p.tables e below (T0.setTop (mkF m 52 #[.val (.int p1), .val (.int p2), .val (.int (7 : Int32)), .val (.int (p2.toInt16.toInt32)), .unset, .unset, .unset, .unset] [(.int (2 : Int32)), (.int (7 : Int32))])) _
  refine XS.icmpYes X0.here hx rfl (pc0 := 52) (pc' := 69) rfl (hb hby at_52) rfl (feq (by decide : ¬ ((7 : Int32) = (2 : Int32)))).2 (by decide) (by decide) ?_
  show Steps p.tables e below (T0.setTop (mkF m 69 #[.val (.int p1), .val (.int p2), .val (.int (7 : Int32)), .val (.int (p2.toInt16.toInt32)), .unset, .unset, .unset, .unset] [])) _
  refine XS.iloadN X0.here hx rfl (hb hby at_69) rfl ?_
  show Steps p.tables e below (T0.setTop (mkF m 70 #[.val (.int p1), .val (.int p2), .val (.int (7 : Int32)), .val (.int (p2.toInt16.toInt32)), .unset, .unset, .unset, .unset] [(.int (7 : Int32))])) _
  refine XS.iconst X0.here hx rfl (hb hby at_70) ?_
  show Steps p.tables e below (T0.setTop (mkF m 71 #[.val (.int p1), .val (.int p2), .val (.int (7 : Int32)), .val (.int (p2.toInt16.toInt32)), .unset, .unset, .unset, .unset] [(.int (3 : Int32)), (.int (7 : Int32))])) _
  refine XS.icmpYes X0.here hx rfl (pc0 := 71) (pc' := 88) rfl (hb hby at_71) rfl (feq (by decide : ¬ ((7 : Int32) = (3 : Int32)))).2 (by decide) (by decide) ?_
  show Steps p.tables e below (T0.setTop (mkF m 88 #[.val (.int p1), .val (.int p2), .val (.int (7 : Int32)), .val (.int (p2.toInt16.toInt32)), .unset, .unset, .unset, .unset] [])) _
  refine XS.iloadN X0.here hx rfl (hb hby at_88) rfl ?_
  show Steps p.tables e below (T0.setTop (mkF m 89 #[.val (.int p1), .val (.int p2), .val (.int (7 : Int32)), .val (.int (p2.toInt16.toInt32)), .unset, .unset, .unset, .unset] [(.int (7 : Int32))])) _
  refine XS.iconst X0.here hx rfl (hb hby at_89) ?_
  show Steps p.tables e below (T0.setTop (mkF m 90 #[.val (.int p1), .val (.int p2), .val (.int (7 : Int32)), .val (.int (p2.toInt16.toInt32)), .unset, .unset, .unset, .unset] [(.int (4 : Int32)), (.int (7 : Int32))])) _
  refine XS.icmpYes X0.here hx rfl (pc0 := 90) (pc' := 108) rfl (hb hby at_90) rfl (feq (by decide : ¬ ((7 : Int32) = (4 : Int32)))).2 (by decide) (by decide) ?_
  show Steps p.tables e below (T0.setTop (mkF m 108 #[.val (.int p1), .val (.int p2), .val (.int (7 : Int32)), .val (.int (p2.toInt16.toInt32)), .unset, .unset, .unset, .unset] [])) _
  refine XS.iloadN X0.here hx rfl (hb hby at_108) rfl ?_
  show Steps p.tables e below (T0.setTop (mkF m 109 #[.val (.int p1), .val (.int p2), .val (.int (7 : Int32)), .val (.int (p2.toInt16.toInt32)), .unset, .unset, .unset, .unset] [(.int (7 : Int32))])) _
  refine XS.iconst X0.here hx rfl (hb hby at_109) ?_
  show Steps p.tables e below (T0.setTop (mkF m 110 #[.val (.int p1), .val (.int p2), .val (.int (7 : Int32)), .val (.int (p2.toInt16.toInt32)), .unset, .unset, .unset, .unset] [(.int (5 : Int32)), (.int (7 : Int32))])) _
  refine XS.icmpYes X0.here hx rfl (pc0 := 110) (pc' := 127) rfl (hb hby at_110) rfl (feq (by decide : ¬ ((7 : Int32) = (5 : Int32)))).2 (by decide) (by decide) ?_
  show Steps p.tables e below (T0.setTop (mkF m 127 #[.val (.int p1), .val (.int p2), .val (.int (7 : Int32)), .val (.int (p2.toInt16.toInt32)), .unset, .unset, .unset, .unset] [])) _
  refine XS.iloadN X0.here hx rfl (hb hby at_127) rfl ?_
  show Steps p.tables e below (T0.setTop (mkF m 128 #[.val (.int p1), .val (.int p2), .val (.int (7 : Int32)), .val (.int (p2.toInt16.toInt32)), .unset, .unset, .unset, .unset] [(.int (7 : Int32))])) _
  refine XS.bipush X0.here hx rfl (hb hby at_128) ?_
  show Steps p.tables e below (T0.setTop (mkF m 130 #[.val (.int p1), .val (.int p2), .val (.int (7 : Int32)), .val (.int (p2.toInt16.toInt32)), .unset, .unset, .unset, .unset] [(.int (6 : Int32)), (.int (7 : Int32))])) _
  refine XS.icmpYes X0.here hx rfl (pc0 := 130) (pc' := 147) rfl (hb hby at_130) rfl (feq (by decide : ¬ ((7 : Int32) = (6 : Int32)))).2 (by decide) (by decide) ?_
  show Steps p.tables e below (T0.setTop (mkF m 147 #[.val (.int p1), .val (.int p2), .val (.int (7 : Int32)), .val (.int (p2.toInt16.toInt32)), .unset, .unset, .unset, .unset] [])) _
  refine XS.iloadN X0.here hx rfl (hb hby at_147) rfl ?_
  show Steps p.tables e below (T0.setTop (mkF m 148 #[.val (.int p1), .val (.int p2), .val (.int (7 : Int32)), .val (.int (p2.toInt16.toInt32)), .unset, .unset, .unset, .unset] [(.int (7 : Int32))])) _
  refine XS.bipush X0.here hx rfl (hb hby at_148) ?_
  show Steps p.tables e below (T0.setTop (mkF m 150 #[.val (.int p1), .val (.int p2), .val (.int (7 : Int32)), .val (.int (p2.toInt16.toInt32)), .unset, .unset, .unset, .unset] [(.int (7 : Int32)), (.int (7 : Int32))])) _
  refine XS.icmpNo X0.here hx rfl (hb hby at_150) rfl (teq (by decide : (7 : Int32) = (7 : Int32))).2 ?_
  show Steps p.tables e below (T0.setTop (mkF m 153 #[.val (.int p1), .val (.int p2), .val (.int (7 : Int32)), .val (.int (p2.toInt16.toInt32)), .unset, .unset, .unset, .unset] [])) _
  refine st1 _ ?_
  show Steps p.tables e below (T1.setTop (mkF m 156 #[.val (.int p1), .val (.int p2), .val (.int (7 : Int32)), .val (.int (p2.toInt16.toInt32)), .unset, .unset, .unset, .unset] [(.ref w_JOIN_GROUP)])) _
  refine XS.astore X1.here hx rfl (hb hby at_156) rfl rfl (l' := #[.val (.int p1), .val (.int p2), .val (.int (7 : Int32)), .val (.int (p2.toInt16.toInt32)), .val (.ref w_JOIN_GROUP), .unset, .unset, .unset]) rfl ?_
  show Steps p.tables e below (T1.setTop (mkF m 158 #[.val (.int p1), .val (.int p2), .val (.int (7 : Int32)), .val (.int (p2.toInt16.toInt32)), .val (.ref w_JOIN_GROUP), .unset, .unset, .unset] [])) _
  refine XS.iconst X1.here hx rfl (hb hby at_158) ?_
  show Steps p.tables e below (T1.setTop (mkF m 159 #[.val (.int p1), .val (.int p2), .val (.int (7 : Int32)), .val (.int (p2.toInt16.toInt32)), .val (.ref w_JOIN_GROUP), .unset, .unset, .unset] [(.int (0 : Int32))])) _
  refine XS.istore X1.here hx rfl (hb hby at_159) rfl (l' := #[.val (.int p1), .val (.int p2), .val (.int (7 : Int32)), .val (.int (p2.toInt16.toInt32)), .val (.ref w_JOIN_GROUP), .val (.int (0 : Int32)), .unset, .unset]) rfl ?_
  show Steps p.tables e below (T1.setTop (mkF m 161 #[.val (.int p1), .val (.int p2), .val (.int (7 : Int32)), .val (.int (p2.toInt16.toInt32)), .val (.ref w_JOIN_GROUP), .val (.int (0 : Int32)), .unset, .unset] [])) _
  refine XS.iconst X1.here hx rfl (hb hby at_161) ?_
  show Steps p.tables e below (T1.setTop (mkF m 162 #[.val (.int p1), .val (.int p2), .val (.int (7 : Int32)), .val (.int (p2.toInt16.toInt32)), .val (.ref w_JOIN_GROUP), .val (.int (0 : Int32)), .unset, .unset] [(.int (5 : Int32))])) _
  refine XS.istore X1.here hx rfl (hb hby at_162) rfl (l' := #[.val (.int p1), .val (.int p2), .val (.int (7 : Int32)), .val (.int (p2.toInt16.toInt32)), .val (.ref w_JOIN_GROUP), .val (.int (0 : Int32)), .val (.int (5 : Int32)), .unset]) rfl ?_
  show Steps p.tables e below (T1.setTop (mkF m 164 #[.val (.int p1), .val (.int p2), .val (.int (7 : Int32)), .val (.int (p2.toInt16.toInt32)), .val (.ref w_JOIN_GROUP), .val (.int (0 : Int32)), .val (.int (5 : Int32)), .unset] [])) _
  refine XS.goto X1.here hx rfl (pc0 := 164) (pc' := 258) rfl (hb hby at_164) (by decide) (by decide) ?_
  show Steps p.tables e below (T1.setTop (mkF m 258 #[.val (.int p1), .val (.int p2), .val (.int (7 : Int32)), .val (.int (p2.toInt16.toInt32)), .val (.ref w_JOIN_GROUP), .val (.int (0 : Int32)), .val (.int (5 : Int32)), .unset] [])) _
  exact kt
set_option maxRecDepth 65536 in
set_option maxHeartbeats 40000000 in
theorem seg8 {p : Program} {l : Launch} {e : Env} {s : State} {m : MethodId} {args : Array Value} {below : List Frame} {meth : Method} {c : Code} {T0 : State} {locs : List Loc} {Z : State} {a0 : Array Value} {h0 : Heap} {n0 : Nat} (w_PRODUCE : Addr) (w_FETCH : Addr) (w_OFFSET_COMMIT : Addr) (w_METADATA : Addr) (w_LEAVE_GROUP : Addr) (w_OFFSET_FETCH : Addr) (w_FIND_COORDINATOR : Addr) (w_HEARTBEAT : Addr) (w_CREATE_TOPICS : Addr) (w_LIST_OFFSETS : Addr) (w_SYNC_GROUP : Addr) (w_API_VERSIONS : Addr) (w_JOIN_GROUP : Addr) (p1 : Int32) (p2 : Int32)
    (X0 : Stand p l e room_1 s m args below meth c T0 locs 0 0) (hx : p.tables.exec = Jvm.exec) (hZ : Z.Warmed39 s.vm) (hw : ∀ d ∈ tables_1, d.before a0 Z = true) (hby : c.code = code) (hml : c.maxLocals = 8) (hown : s.vm.findClass "com/example/melog/melog/protocol/ApiKeyServesPinLaw" = some m.cls) (e0 : T0.heap = h0) (N0 : Fr n0 locs) (O0 : Old Z n0 h0) (HW : World Z w_PRODUCE w_FETCH w_OFFSET_COMMIT w_METADATA w_LEAVE_GROUP w_OFFSET_FETCH w_FIND_COORDINATOR w_HEARTBEAT w_CREATE_TOPICS w_LIST_OFFSETS w_SYNC_GROUP w_API_VERSIONS w_JOIN_GROUP) (hk : ((p1 &&& (2147483647 : Int32)) % (13 : Int32)) = (8 : Int32)) :
    ∃ (T' : State) (locs' : List Loc), Stand p l e room_1 s m args below meth c T' locs' 0 0 ∧ Fr n0 locs' ∧ T'.heap = h0 ∧ ∀ t, Steps p.tables e below (T'.setTop (mkF m 258 #[.val (.int p1), .val (.int p2), .val (.int (8 : Int32)), .val (.int (p2.toInt16.toInt32)), .val (.ref w_HEARTBEAT), .val (.int (0 : Int32)), .val (.int (3 : Int32)), .unset] [])) t → Steps p.tables e below (T0.setTop (mkF m 0 #[.val (.int p1), .val (.int p2), .unset, .unset, .unset, .unset, .unset, .unset] [])) t := by
  obtain ⟨S_w_PRODUCE, E_w_PRODUCE, S_w_FETCH, E_w_FETCH, S_w_OFFSET_COMMIT, E_w_OFFSET_COMMIT, S_w_METADATA, E_w_METADATA, S_w_LEAVE_GROUP, E_w_LEAVE_GROUP, S_w_OFFSET_FETCH, E_w_OFFSET_FETCH, S_w_FIND_COORDINATOR, E_w_FIND_COORDINATOR, S_w_HEARTBEAT, E_w_HEARTBEAT, S_w_CREATE_TOPICS, E_w_CREATE_TOPICS, S_w_LIST_OFFSETS, E_w_LIST_OFFSETS, S_w_SYNC_GROUP, E_w_SYNC_GROUP, S_w_API_VERSIONS, E_w_API_VERSIONS, S_w_JOIN_GROUP, E_w_JOIN_GROUP, F_minVersion_w_PRODUCE, F_maxVersion_w_PRODUCE, F_minVersion_w_FETCH, F_minVersion_w_OFFSET_COMMIT, F_maxVersion_w_OFFSET_COMMIT, F_minVersion_w_METADATA, F_minVersion_w_LEAVE_GROUP, F_maxVersion_w_LEAVE_GROUP, F_minVersion_w_OFFSET_FETCH, F_maxVersion_w_OFFSET_FETCH, F_minVersion_w_FIND_COORDINATOR, F_maxVersion_w_FIND_COORDINATOR, F_minVersion_w_HEARTBEAT, F_minVersion_w_CREATE_TOPICS, F_maxVersion_w_CREATE_TOPICS, F_minVersion_w_LIST_OFFSETS, F_maxVersion_w_LIST_OFFSETS, F_maxVersion_w_METADATA, F_maxVersion_w_HEARTBEAT, F_minVersion_w_SYNC_GROUP, F_minVersion_w_API_VERSIONS, F_maxVersion_w_API_VERSIONS, F_maxVersion_w_FETCH, F_maxVersion_w_SYNC_GROUP, F_minVersion_w_JOIN_GROUP, F_maxVersion_w_JOIN_GROUP, ne_w_PRODUCE_w_FETCH, ne_w_PRODUCE_w_OFFSET_COMMIT, ne_w_PRODUCE_w_METADATA, ne_w_PRODUCE_w_LEAVE_GROUP, ne_w_PRODUCE_w_OFFSET_FETCH, ne_w_PRODUCE_w_FIND_COORDINATOR, ne_w_PRODUCE_w_HEARTBEAT, ne_w_PRODUCE_w_CREATE_TOPICS, ne_w_PRODUCE_w_LIST_OFFSETS, ne_w_PRODUCE_w_SYNC_GROUP, ne_w_PRODUCE_w_API_VERSIONS, ne_w_PRODUCE_w_JOIN_GROUP, ne_w_FETCH_w_OFFSET_COMMIT, ne_w_FETCH_w_METADATA, ne_w_FETCH_w_LEAVE_GROUP, ne_w_FETCH_w_OFFSET_FETCH, ne_w_FETCH_w_FIND_COORDINATOR, ne_w_FETCH_w_HEARTBEAT, ne_w_FETCH_w_CREATE_TOPICS, ne_w_FETCH_w_LIST_OFFSETS, ne_w_FETCH_w_SYNC_GROUP, ne_w_FETCH_w_API_VERSIONS, ne_w_FETCH_w_JOIN_GROUP, ne_w_OFFSET_COMMIT_w_METADATA, ne_w_OFFSET_COMMIT_w_LEAVE_GROUP, ne_w_OFFSET_COMMIT_w_OFFSET_FETCH, ne_w_OFFSET_COMMIT_w_FIND_COORDINATOR, ne_w_OFFSET_COMMIT_w_HEARTBEAT, ne_w_OFFSET_COMMIT_w_CREATE_TOPICS, ne_w_OFFSET_COMMIT_w_LIST_OFFSETS, ne_w_OFFSET_COMMIT_w_SYNC_GROUP, ne_w_OFFSET_COMMIT_w_API_VERSIONS, ne_w_OFFSET_COMMIT_w_JOIN_GROUP, ne_w_METADATA_w_LEAVE_GROUP, ne_w_METADATA_w_OFFSET_FETCH, ne_w_METADATA_w_FIND_COORDINATOR, ne_w_METADATA_w_HEARTBEAT, ne_w_METADATA_w_LIST_OFFSETS, ne_w_METADATA_w_SYNC_GROUP, ne_w_METADATA_w_API_VERSIONS, ne_w_METADATA_w_JOIN_GROUP, ne_w_LEAVE_GROUP_w_OFFSET_FETCH, ne_w_LEAVE_GROUP_w_FIND_COORDINATOR, ne_w_LEAVE_GROUP_w_HEARTBEAT, ne_w_LEAVE_GROUP_w_CREATE_TOPICS, ne_w_LEAVE_GROUP_w_LIST_OFFSETS, ne_w_LEAVE_GROUP_w_SYNC_GROUP, ne_w_LEAVE_GROUP_w_API_VERSIONS, ne_w_LEAVE_GROUP_w_JOIN_GROUP, ne_w_OFFSET_FETCH_w_FIND_COORDINATOR, ne_w_OFFSET_FETCH_w_HEARTBEAT, ne_w_OFFSET_FETCH_w_CREATE_TOPICS, ne_w_OFFSET_FETCH_w_LIST_OFFSETS, ne_w_OFFSET_FETCH_w_SYNC_GROUP, ne_w_OFFSET_FETCH_w_API_VERSIONS, ne_w_OFFSET_FETCH_w_JOIN_GROUP, ne_w_FIND_COORDINATOR_w_HEARTBEAT, ne_w_FIND_COORDINATOR_w_CREATE_TOPICS, ne_w_FIND_COORDINATOR_w_LIST_OFFSETS, ne_w_FIND_COORDINATOR_w_SYNC_GROUP, ne_w_FIND_COORDINATOR_w_API_VERSIONS, ne_w_FIND_COORDINATOR_w_JOIN_GROUP, ne_w_HEARTBEAT_w_CREATE_TOPICS, ne_w_HEARTBEAT_w_LIST_OFFSETS, ne_w_HEARTBEAT_w_JOIN_GROUP, ne_w_CREATE_TOPICS_w_LIST_OFFSETS, ne_w_CREATE_TOPICS_w_SYNC_GROUP, ne_w_CREATE_TOPICS_w_API_VERSIONS, ne_w_CREATE_TOPICS_w_JOIN_GROUP, ne_w_LIST_OFFSETS_w_SYNC_GROUP, ne_w_LIST_OFFSETS_w_API_VERSIONS, ne_w_LIST_OFFSETS_w_JOIN_GROUP, ne_w_SYNC_GROUP_w_JOIN_GROUP, ne_w_API_VERSIONS_w_JOIN_GROUP, -⟩ := id HW
  obtain ⟨T1, X1, e1, st1⟩ := getS2 X0 hx hZ hown (host := "") (Or.inl (hw _ (List.mem_of_getElem? (i := 25) rfl))) Via.refl e0 (S_w_HEARTBEAT.ext O0.2) (g := (mkF m 173 #[.val (.int p1), .val (.int p2), .val (.int (8 : Int32)), .val (.int (p2.toInt16.toInt32)), .unset, .unset, .unset, .unset] [])) rfl (hb hby at_173)
  refine ⟨T1, _, X1, N0, e1, fun t kt => ?_⟩
  show Steps p.tables e below (T0.setTop (mkF m 0 #[.val (.int p1), .val (.int p2), .unset, .unset, .unset, .unset, .unset, .unset] [])) _
  refine XS.iloadN X0.here hx rfl (hb hby at_0) rfl ?_
  show Steps p.tables e below (T0.setTop (mkF m 1 #[.val (.int p1), .val (.int p2), .unset, .unset, .unset, .unset, .unset, .unset] [(.int p1)])) _
  refine X0.ldcInt hx hown (mvT hZ (hw _ (List.mem_of_getElem? (i := 0) rfl))) (g := (mkF m 1 #[.val (.int p1), .val (.int p2), .unset, .unset, .unset, .unset, .unset, .unset] [(.int p1)])) rfl (hb hby at_1) _ ?_
  show Steps p.tables e below (T0.setTop (mkF m 3 #[.val (.int p1), .val (.int p2), .unset, .unset, .unset, .unset, .unset, .unset] [(.int (2147483647 : Int32)), (.int p1)])) _
  refine XS.iand X0.here hx rfl (hb hby at_3) rfl ?_
  show Steps p.tables e below (T0.setTop (mkF m 4 #[.val (.int p1), .val (.int p2), .unset, .unset, .unset, .unset, .unset, .unset] [(.int (p1 &&& (2147483647 : Int32)))])) _
  refine XS.bipush X0.here hx rfl (hb hby at_4) ?_
  show Steps p.tables e below (T0.setTop (mkF m 6 #[.val (.int p1), .val (.int p2), .unset, .unset, .unset, .unset, .unset, .unset] [(.int (13 : Int32)), (.int (p1 &&& (2147483647 : Int32)))])) _
  refine iremM X0 hx rfl (hb hby at_6) rfl (by decide) ?_
  rw [hk]
  show Steps p.tables e below (T0.setTop (mkF m 7 #[.val (.int p1), .val (.int p2), .unset, .unset, .unset, .unset, .unset, .unset] [(.int (8 : Int32))])) _
  refine XS.istoreN X0.here hx rfl (hb hby at_7) rfl (l' := #[.val (.int p1), .val (.int p2), .val (.int (8 : Int32)), .unset, .unset, .unset, .unset, .unset]) rfl ?_
  show Steps p.tables e below (T0.setTop (mkF m 8 #[.val (.int p1), .val (.int p2), .val (.int (8 : Int32)), .unset, .unset, .unset, .unset, .unset] [])) _
  refine XS.iloadN X0.here hx rfl (hb hby at_8) rfl ?_
  show Steps p.tables e below (T0.setTop (mkF m 9 #[.val (.int p1), .val (.int p2), .val (.int (8 : Int32)), .unset, .unset, .unset, .unset, .unset] [(.int p2)])) _
  refine XS.i2s X0.here hx rfl (hb hby at_9) rfl ?_
  show Steps p.tables e below (T0.setTop (mkF m 10 #[.val (.int p1), .val (.int p2), .val (.int (8 : Int32)), .unset, .unset, .unset, .unset, .unset] [(.int (p2.toInt16.toInt32))])) _
  refine XS.istoreN X0.here hx rfl (hb hby at_10) rfl (l' := #[.val (.int p1), .val (.int p2), .val (.int (8 : Int32)), .val (.int (p2.toInt16.toInt32)), .unset, .unset, .unset, .unset]) rfl ?_
  show Steps p.tables e below (T0.setTop (mkF m 11 #[.val (.int p1), .val (.int p2), .val (.int (8 : Int32)), .val (.int (p2.toInt16.toInt32)), .unset, .unset, .unset, .unset] [])) _
  refine XS.iloadN X0.here hx rfl (hb hby at_11) rfl ?_
  show Steps p.tables e below (T0.setTop (mkF m 12 #[.val (.int p1), .val (.int p2), .val (.int (8 : Int32)), .val (.int (p2.toInt16.toInt32)), .unset, .unset, .unset, .unset] [(.int (8 : Int32))])) _
  refine XS.ifYes X0.here hx rfl (pc0 := 12) (pc' := 30) rfl (hb hby at_12) rfl ((if0 _ _).trans (feq (by decide : ¬ ((8 : Int32) = (0 : Int32)))).2) (by decide) (by decide) ?_
  show Steps p.tables e below (T0.setTop (mkF m 30 #[.val (.int p1), .val (.int p2), .val (.int (8 : Int32)), .val (.int (p2.toInt16.toInt32)), .unset, .unset, .unset, .unset] [])) _
  refine XS.iloadN X0.here hx rfl (hb hby at_30) rfl ?_
  show Steps p.tables e below (T0.setTop (mkF m 31 #[.val (.int p1), .val (.int p2), .val (.int (8 : Int32)), .val (.int (p2.toInt16.toInt32)), .unset, .unset, .unset, .unset] [(.int (8 : Int32))])) _
  refine XS.iconst X0.here hx rfl (hb hby at_31) ?_
  show Steps p.tables e below (T0.setTop (mkF m 32 #[.val (.int p1), .val (.int p2), .val (.int (8 : Int32)), .val (.int (p2.toInt16.toInt32)), .unset, .unset, .unset, .unset] [(.int (1 : Int32)), (.int (8 : Int32))])) _
  refine XS.icmpYes X0.here hx rfl (pc0 := 32) (pc' := 50) rfl (hb hby at_32) rfl (feq (by decide : ¬ ((8 : Int32) = (1 : Int32)))).2 (by decide) (by decide) ?_
  show Steps p.tables e below (T0.setTop (mkF m 50 #[.val (.int p1), .val (.int p2), .val (.int (8 : Int32)), .val (.int (p2.toInt16.toInt32)), .unset, .unset, .unset, .unset] [])) _
  refine XS.iloadN X0.here hx rfl (hb hby at_50) rfl ?_
  show Steps p.tables e below (T0.setTop (mkF m 51 #[.val (.int p1), .val (.int p2), .val (.int (8 : Int32)), .val (.int (p2.toInt16.toInt32)), .unset, .unset, .unset, .unset] [(.int (8 : Int32))])) _
  refine XS.iconst X0.here hx rfl (hb hby at_51) ?_
  show Steps p.tables e below (T0.setTop (mkF m 52 #[.val (.int p1), .val (.int p2), .val (.int (8 : Int32)), .val (.int (p2.toInt16.toInt32)), .unset, .unset, .unset, .unset] [(.int (2 : Int32)), (.int (8 : Int32))])) _
  refine XS.icmpYes X0.here hx rfl (pc0 := 52) (pc' := 69) rfl (hb hby at_52) rfl (feq (by decide : ¬ ((8 : Int32) = (2 : Int32)))).2 (by decide) (by decide) ?_
  show Steps p.tables e below (T0.setTop (mkF m 69 #[.val (.int p1), .val (.int p2), .val (.int (8 : Int32)), .val (.int (p2.toInt16.toInt32)), .unset, .unset, .unset, .unset] [])) _
  refine XS.iloadN X0.here hx rfl (hb hby at_69) rfl ?_
  show Steps p.tables e below (T0.setTop (mkF m 70 #[.val (.int p1), .val (.int p2), .val (.int (8 : Int32)), .val (.int (p2.toInt16.toInt32)), .unset, .unset, .unset, .unset] [(.int (8 : Int32))])) _
  refine XS.iconst X0.here hx rfl (hb hby at_70) ?_
  show Steps p.tables e below (T0.setTop (mkF m 71 #[.val (.int p1), .val (.int p2), .val (.int (8 : Int32)), .val (.int (p2.toInt16.toInt32)), .unset, .unset, .unset, .unset] [(.int (3 : Int32)), (.int (8 : Int32))])) _
  refine XS.icmpYes X0.here hx rfl (pc0 := 71) (pc' := 88) rfl (hb hby at_71) rfl (feq (by decide : ¬ ((8 : Int32) = (3 : Int32)))).2 (by decide) (by decide) ?_
  show Steps p.tables e below (T0.setTop (mkF m 88 #[.val (.int p1), .val (.int p2), .val (.int (8 : Int32)), .val (.int (p2.toInt16.toInt32)), .unset, .unset, .unset, .unset] [])) _
  refine XS.iloadN X0.here hx rfl (hb hby at_88) rfl ?_
  show Steps p.tables e below (T0.setTop (mkF m 89 #[.val (.int p1), .val (.int p2), .val (.int (8 : Int32)), .val (.int (p2.toInt16.toInt32)), .unset, .unset, .unset, .unset] [(.int (8 : Int32))])) _
  refine XS.iconst X0.here hx rfl (hb hby at_89) ?_
  show Steps p.tables e below (T0.setTop (mkF m 90 #[.val (.int p1), .val (.int p2), .val (.int (8 : Int32)), .val (.int (p2.toInt16.toInt32)), .unset, .unset, .unset, .unset] [(.int (4 : Int32)), (.int (8 : Int32))])) _
  refine XS.icmpYes X0.here hx rfl (pc0 := 90) (pc' := 108) rfl (hb hby at_90) rfl (feq (by decide : ¬ ((8 : Int32) = (4 : Int32)))).2 (by decide) (by decide) ?_
  show Steps p.tables e below (T0.setTop (mkF m 108 #[.val (.int p1), .val (.int p2), .val (.int (8 : Int32)), .val (.int (p2.toInt16.toInt32)), .unset, .unset, .unset, .unset] [])) _
  refine XS.iloadN X0.here hx rfl (hb hby at_108) rfl ?_
  show Steps p.tables e below (T0.setTop (mkF m 109 #[.val (.int p1), .val (.int p2), .val (.int (8 : Int32)), .val (.int (p2.toInt16.toInt32)), .unset, .unset, .unset, .unset] [(.int (8 : Int32))])) _
  refine XS.iconst X0.here hx rfl (hb hby at_109) ?_
  show Steps p.tables e below (T0.setTop (mkF m 110 #[.val (.int p1), .val (.int p2), .val (.int (8 : Int32)), .val (.int (p2.toInt16.toInt32)), .unset, .unset, .unset, .unset] [(.int (5 : Int32)), (.int (8 : Int32))])) _
  refine XS.icmpYes X0.here hx rfl (pc0 := 110) (pc' := 127) rfl (hb hby at_110) rfl (feq (by decide : ¬ ((8 : Int32) = (5 : Int32)))).2 (by decide) (by decide) ?_
  show Steps p.tables e below (T0.setTop (mkF m 127 #[.val (.int p1), .val (.int p2), .val (.int (8 : Int32)), .val (.int (p2.toInt16.toInt32)), .unset, .unset, .unset, .unset] [])) _
  refine XS.iloadN X0.here hx rfl (hb hby at_127) rfl ?_
  show Steps p.tables e below (T0.setTop (mkF m 128 #[.val (.int p1), .val (.int p2), .val (.int (8 : Int32)), .val (.int (p2.toInt16.toInt32)), .unset, .unset, .unset, .unset] [(.int (8 : Int32))])) _
  refine XS.bipush X0.here hx rfl (hb hby at_128) ?_
  show Steps p.tables e below (T0.setTop (mkF m 130 #[.val (.int p1), .val (.int p2), .val (.int (8 : Int32)), .val (.int (p2.toInt16.toInt32)), .unset, .unset, .unset, .unset] [(.int (6 : Int32)), (.int (8 : Int32))])) _
  refine XS.icmpYes X0.here hx rfl (pc0 := 130) (pc' := 147) rfl (hb hby at_130) rfl (feq (by decide : ¬ ((8 : Int32) = (6 : Int32)))).2 (by decide) (by decide) ?_
  show Steps p.tables e below (T0.setTop (mkF m 147 #[.val (.int p1), .val (.int p2), .val (.int (8 : Int32)), .val (.int (p2.toInt16.toInt32)), .unset, .unset, .unset, .unset] [])) _
  refine XS.iloadN X0.here hx rfl (hb hby at_147) rfl ?_
  show Steps p.tables e below (T0.setTop (mkF m 148 #[.val (.int p1), .val (.int p2), .val (.int (8 : Int32)), .val (.int (p2.toInt16.toInt32)), .unset, .unset, .unset, .unset] [(.int (8 : Int32))])) _
  refine XS.bipush X0.here hx rfl (hb hby at_148) ?_
  show Steps p.tables e below (T0.setTop (mkF m 150 #[.val (.int p1), .val (.int p2), .val (.int (8 : Int32)), .val (.int (p2.toInt16.toInt32)), .unset, .unset, .unset, .unset] [(.int (7 : Int32)), (.int (8 : Int32))])) _
  refine XS.icmpYes X0.here hx rfl (pc0 := 150) (pc' := 167) rfl (hb hby at_150) rfl (feq (by decide : ¬ ((8 : Int32) = (7 : Int32)))).2 (by decide) (by decide) ?_
  show Steps p.tables e below (T0.setTop (mkF m 167 #[.val (.int p1), .val (.int p2), .val (.int (8 : Int32)), .val (.int (p2.toInt16.toInt32)), .unset, .unset, .unset, .unset] [])) _
  refine XS.iloadN X0.here hx rfl (hb hby at_167) rfl ?_
  show Steps p.tables e below (T0.setTop (mkF m 168 #[.val (.int p1), .val (.int p2), .val (.int (8 : Int32)), .val (.int (p2.toInt16.toInt32)), .unset, .unset, .unset, .unset] [(.int (8 : Int32))])) _
  refine XS.bipush X0.here hx rfl (hb hby at_168) ?_
  show Steps p.tables e below (T0.setTop (mkF m 170 #[.val (.int p1), .val (.int p2), .val (.int (8 : Int32)), .val (.int (p2.toInt16.toInt32)), .unset, .unset, .unset, .unset] [(.int (8 : Int32)), (.int (8 : Int32))])) _
  refine XS.icmpNo X0.here hx rfl (hb hby at_170) rfl (teq (by decide : (8 : Int32) = (8 : Int32))).2 ?_
  show Steps p.tables e below (T0.setTop (mkF m 173 #[.val (.int p1), .val (.int p2), .val (.int (8 : Int32)), .val (.int (p2.toInt16.toInt32)), .unset, .unset, .unset, .unset] [])) _
  refine st1 _ ?_
  show Steps p.tables e below (T1.setTop (mkF m 176 #[.val (.int p1), .val (.int p2), .val (.int (8 : Int32)), .val (.int (p2.toInt16.toInt32)), .unset, .unset, .unset, .unset] [(.ref w_HEARTBEAT)])) _
  refine XS.astore X1.here hx rfl (hb hby at_176) rfl rfl (l' := #[.val (.int p1), .val (.int p2), .val (.int (8 : Int32)), .val (.int (p2.toInt16.toInt32)), .val (.ref w_HEARTBEAT), .unset, .unset, .unset]) rfl ?_
  show Steps p.tables e below (T1.setTop (mkF m 178 #[.val (.int p1), .val (.int p2), .val (.int (8 : Int32)), .val (.int (p2.toInt16.toInt32)), .val (.ref w_HEARTBEAT), .unset, .unset, .unset] [])) _
  refine XS.iconst X1.here hx rfl (hb hby at_178) ?_
  show Steps p.tables e below (T1.setTop (mkF m 179 #[.val (.int p1), .val (.int p2), .val (.int (8 : Int32)), .val (.int (p2.toInt16.toInt32)), .val (.ref w_HEARTBEAT), .unset, .unset, .unset] [(.int (0 : Int32))])) _
  refine XS.istore X1.here hx rfl (hb hby at_179) rfl (l' := #[.val (.int p1), .val (.int p2), .val (.int (8 : Int32)), .val (.int (p2.toInt16.toInt32)), .val (.ref w_HEARTBEAT), .val (.int (0 : Int32)), .unset, .unset]) rfl ?_
  show Steps p.tables e below (T1.setTop (mkF m 181 #[.val (.int p1), .val (.int p2), .val (.int (8 : Int32)), .val (.int (p2.toInt16.toInt32)), .val (.ref w_HEARTBEAT), .val (.int (0 : Int32)), .unset, .unset] [])) _
  refine XS.iconst X1.here hx rfl (hb hby at_181) ?_
  show Steps p.tables e below (T1.setTop (mkF m 182 #[.val (.int p1), .val (.int p2), .val (.int (8 : Int32)), .val (.int (p2.toInt16.toInt32)), .val (.ref w_HEARTBEAT), .val (.int (0 : Int32)), .unset, .unset] [(.int (3 : Int32))])) _
  refine XS.istore X1.here hx rfl (hb hby at_182) rfl (l' := #[.val (.int p1), .val (.int p2), .val (.int (8 : Int32)), .val (.int (p2.toInt16.toInt32)), .val (.ref w_HEARTBEAT), .val (.int (0 : Int32)), .val (.int (3 : Int32)), .unset]) rfl ?_
  show Steps p.tables e below (T1.setTop (mkF m 184 #[.val (.int p1), .val (.int p2), .val (.int (8 : Int32)), .val (.int (p2.toInt16.toInt32)), .val (.ref w_HEARTBEAT), .val (.int (0 : Int32)), .val (.int (3 : Int32)), .unset] [])) _
  refine XS.goto X1.here hx rfl (pc0 := 184) (pc' := 258) rfl (hb hby at_184) (by decide) (by decide) ?_
  show Steps p.tables e below (T1.setTop (mkF m 258 #[.val (.int p1), .val (.int p2), .val (.int (8 : Int32)), .val (.int (p2.toInt16.toInt32)), .val (.ref w_HEARTBEAT), .val (.int (0 : Int32)), .val (.int (3 : Int32)), .unset] [])) _
  exact kt
set_option maxRecDepth 65536 in
set_option maxHeartbeats 40000000 in
theorem seg9 {p : Program} {l : Launch} {e : Env} {s : State} {m : MethodId} {args : Array Value} {below : List Frame} {meth : Method} {c : Code} {T0 : State} {locs : List Loc} {Z : State} {a0 : Array Value} {h0 : Heap} {n0 : Nat} (w_PRODUCE : Addr) (w_FETCH : Addr) (w_OFFSET_COMMIT : Addr) (w_METADATA : Addr) (w_LEAVE_GROUP : Addr) (w_OFFSET_FETCH : Addr) (w_FIND_COORDINATOR : Addr) (w_HEARTBEAT : Addr) (w_CREATE_TOPICS : Addr) (w_LIST_OFFSETS : Addr) (w_SYNC_GROUP : Addr) (w_API_VERSIONS : Addr) (w_JOIN_GROUP : Addr) (p1 : Int32) (p2 : Int32)
    (X0 : Stand p l e room_1 s m args below meth c T0 locs 0 0) (hx : p.tables.exec = Jvm.exec) (hZ : Z.Warmed39 s.vm) (hw : ∀ d ∈ tables_1, d.before a0 Z = true) (hby : c.code = code) (hml : c.maxLocals = 8) (hown : s.vm.findClass "com/example/melog/melog/protocol/ApiKeyServesPinLaw" = some m.cls) (e0 : T0.heap = h0) (N0 : Fr n0 locs) (O0 : Old Z n0 h0) (HW : World Z w_PRODUCE w_FETCH w_OFFSET_COMMIT w_METADATA w_LEAVE_GROUP w_OFFSET_FETCH w_FIND_COORDINATOR w_HEARTBEAT w_CREATE_TOPICS w_LIST_OFFSETS w_SYNC_GROUP w_API_VERSIONS w_JOIN_GROUP) (hk : ((p1 &&& (2147483647 : Int32)) % (13 : Int32)) = (9 : Int32)) :
    ∃ (T' : State) (locs' : List Loc), Stand p l e room_1 s m args below meth c T' locs' 0 0 ∧ Fr n0 locs' ∧ T'.heap = h0 ∧ ∀ t, Steps p.tables e below (T'.setTop (mkF m 258 #[.val (.int p1), .val (.int p2), .val (.int (9 : Int32)), .val (.int (p2.toInt16.toInt32)), .val (.ref w_LEAVE_GROUP), .val (.int (0 : Int32)), .val (.int (1 : Int32)), .unset] [])) t → Steps p.tables e below (T0.setTop (mkF m 0 #[.val (.int p1), .val (.int p2), .unset, .unset, .unset, .unset, .unset, .unset] [])) t := by
  obtain ⟨S_w_PRODUCE, E_w_PRODUCE, S_w_FETCH, E_w_FETCH, S_w_OFFSET_COMMIT, E_w_OFFSET_COMMIT, S_w_METADATA, E_w_METADATA, S_w_LEAVE_GROUP, E_w_LEAVE_GROUP, S_w_OFFSET_FETCH, E_w_OFFSET_FETCH, S_w_FIND_COORDINATOR, E_w_FIND_COORDINATOR, S_w_HEARTBEAT, E_w_HEARTBEAT, S_w_CREATE_TOPICS, E_w_CREATE_TOPICS, S_w_LIST_OFFSETS, E_w_LIST_OFFSETS, S_w_SYNC_GROUP, E_w_SYNC_GROUP, S_w_API_VERSIONS, E_w_API_VERSIONS, S_w_JOIN_GROUP, E_w_JOIN_GROUP, F_minVersion_w_PRODUCE, F_maxVersion_w_PRODUCE, F_minVersion_w_FETCH, F_minVersion_w_OFFSET_COMMIT, F_maxVersion_w_OFFSET_COMMIT, F_minVersion_w_METADATA, F_minVersion_w_LEAVE_GROUP, F_maxVersion_w_LEAVE_GROUP, F_minVersion_w_OFFSET_FETCH, F_maxVersion_w_OFFSET_FETCH, F_minVersion_w_FIND_COORDINATOR, F_maxVersion_w_FIND_COORDINATOR, F_minVersion_w_HEARTBEAT, F_minVersion_w_CREATE_TOPICS, F_maxVersion_w_CREATE_TOPICS, F_minVersion_w_LIST_OFFSETS, F_maxVersion_w_LIST_OFFSETS, F_maxVersion_w_METADATA, F_maxVersion_w_HEARTBEAT, F_minVersion_w_SYNC_GROUP, F_minVersion_w_API_VERSIONS, F_maxVersion_w_API_VERSIONS, F_maxVersion_w_FETCH, F_maxVersion_w_SYNC_GROUP, F_minVersion_w_JOIN_GROUP, F_maxVersion_w_JOIN_GROUP, ne_w_PRODUCE_w_FETCH, ne_w_PRODUCE_w_OFFSET_COMMIT, ne_w_PRODUCE_w_METADATA, ne_w_PRODUCE_w_LEAVE_GROUP, ne_w_PRODUCE_w_OFFSET_FETCH, ne_w_PRODUCE_w_FIND_COORDINATOR, ne_w_PRODUCE_w_HEARTBEAT, ne_w_PRODUCE_w_CREATE_TOPICS, ne_w_PRODUCE_w_LIST_OFFSETS, ne_w_PRODUCE_w_SYNC_GROUP, ne_w_PRODUCE_w_API_VERSIONS, ne_w_PRODUCE_w_JOIN_GROUP, ne_w_FETCH_w_OFFSET_COMMIT, ne_w_FETCH_w_METADATA, ne_w_FETCH_w_LEAVE_GROUP, ne_w_FETCH_w_OFFSET_FETCH, ne_w_FETCH_w_FIND_COORDINATOR, ne_w_FETCH_w_HEARTBEAT, ne_w_FETCH_w_CREATE_TOPICS, ne_w_FETCH_w_LIST_OFFSETS, ne_w_FETCH_w_SYNC_GROUP, ne_w_FETCH_w_API_VERSIONS, ne_w_FETCH_w_JOIN_GROUP, ne_w_OFFSET_COMMIT_w_METADATA, ne_w_OFFSET_COMMIT_w_LEAVE_GROUP, ne_w_OFFSET_COMMIT_w_OFFSET_FETCH, ne_w_OFFSET_COMMIT_w_FIND_COORDINATOR, ne_w_OFFSET_COMMIT_w_HEARTBEAT, ne_w_OFFSET_COMMIT_w_CREATE_TOPICS, ne_w_OFFSET_COMMIT_w_LIST_OFFSETS, ne_w_OFFSET_COMMIT_w_SYNC_GROUP, ne_w_OFFSET_COMMIT_w_API_VERSIONS, ne_w_OFFSET_COMMIT_w_JOIN_GROUP, ne_w_METADATA_w_LEAVE_GROUP, ne_w_METADATA_w_OFFSET_FETCH, ne_w_METADATA_w_FIND_COORDINATOR, ne_w_METADATA_w_HEARTBEAT, ne_w_METADATA_w_LIST_OFFSETS, ne_w_METADATA_w_SYNC_GROUP, ne_w_METADATA_w_API_VERSIONS, ne_w_METADATA_w_JOIN_GROUP, ne_w_LEAVE_GROUP_w_OFFSET_FETCH, ne_w_LEAVE_GROUP_w_FIND_COORDINATOR, ne_w_LEAVE_GROUP_w_HEARTBEAT, ne_w_LEAVE_GROUP_w_CREATE_TOPICS, ne_w_LEAVE_GROUP_w_LIST_OFFSETS, ne_w_LEAVE_GROUP_w_SYNC_GROUP, ne_w_LEAVE_GROUP_w_API_VERSIONS, ne_w_LEAVE_GROUP_w_JOIN_GROUP, ne_w_OFFSET_FETCH_w_FIND_COORDINATOR, ne_w_OFFSET_FETCH_w_HEARTBEAT, ne_w_OFFSET_FETCH_w_CREATE_TOPICS, ne_w_OFFSET_FETCH_w_LIST_OFFSETS, ne_w_OFFSET_FETCH_w_SYNC_GROUP, ne_w_OFFSET_FETCH_w_API_VERSIONS, ne_w_OFFSET_FETCH_w_JOIN_GROUP, ne_w_FIND_COORDINATOR_w_HEARTBEAT, ne_w_FIND_COORDINATOR_w_CREATE_TOPICS, ne_w_FIND_COORDINATOR_w_LIST_OFFSETS, ne_w_FIND_COORDINATOR_w_SYNC_GROUP, ne_w_FIND_COORDINATOR_w_API_VERSIONS, ne_w_FIND_COORDINATOR_w_JOIN_GROUP, ne_w_HEARTBEAT_w_CREATE_TOPICS, ne_w_HEARTBEAT_w_LIST_OFFSETS, ne_w_HEARTBEAT_w_JOIN_GROUP, ne_w_CREATE_TOPICS_w_LIST_OFFSETS, ne_w_CREATE_TOPICS_w_SYNC_GROUP, ne_w_CREATE_TOPICS_w_API_VERSIONS, ne_w_CREATE_TOPICS_w_JOIN_GROUP, ne_w_LIST_OFFSETS_w_SYNC_GROUP, ne_w_LIST_OFFSETS_w_API_VERSIONS, ne_w_LIST_OFFSETS_w_JOIN_GROUP, ne_w_SYNC_GROUP_w_JOIN_GROUP, ne_w_API_VERSIONS_w_JOIN_GROUP, -⟩ := id HW
  obtain ⟨T1, X1, e1, st1⟩ := getS2 X0 hx hZ hown (host := "") (Or.inl (hw _ (List.mem_of_getElem? (i := 19) rfl))) Via.refl e0 (S_w_LEAVE_GROUP.ext O0.2) (g := (mkF m 193 #[.val (.int p1), .val (.int p2), .val (.int (9 : Int32)), .val (.int (p2.toInt16.toInt32)), .unset, .unset, .unset, .unset] [])) rfl (hb hby at_193)
  refine ⟨T1, _, X1, N0, e1, fun t kt => ?_⟩
  show Steps p.tables e below (T0.setTop (mkF m 0 #[.val (.int p1), .val (.int p2), .unset, .unset, .unset, .unset, .unset, .unset] [])) _
  refine XS.iloadN X0.here hx rfl (hb hby at_0) rfl ?_
  show Steps p.tables e below (T0.setTop (mkF m 1 #[.val (.int p1), .val (.int p2), .unset, .unset, .unset, .unset, .unset, .unset] [(.int p1)])) _
  refine X0.ldcInt hx hown (mvT hZ (hw _ (List.mem_of_getElem? (i := 0) rfl))) (g := (mkF m 1 #[.val (.int p1), .val (.int p2), .unset, .unset, .unset, .unset, .unset, .unset] [(.int p1)])) rfl (hb hby at_1) _ ?_
  show Steps p.tables e below (T0.setTop (mkF m 3 #[.val (.int p1), .val (.int p2), .unset, .unset, .unset, .unset, .unset, .unset] [(.int (2147483647 : Int32)), (.int p1)])) _
  refine XS.iand X0.here hx rfl (hb hby at_3) rfl ?_
  show Steps p.tables e below (T0.setTop (mkF m 4 #[.val (.int p1), .val (.int p2), .unset, .unset, .unset, .unset, .unset, .unset] [(.int (p1 &&& (2147483647 : Int32)))])) _
  refine XS.bipush X0.here hx rfl (hb hby at_4) ?_
  show Steps p.tables e below (T0.setTop (mkF m 6 #[.val (.int p1), .val (.int p2), .unset, .unset, .unset, .unset, .unset, .unset] [(.int (13 : Int32)), (.int (p1 &&& (2147483647 : Int32)))])) _
  refine iremM X0 hx rfl (hb hby at_6) rfl (by decide) ?_
  rw [hk]
  show Steps p.tables e below (T0.setTop (mkF m 7 #[.val (.int p1), .val (.int p2), .unset, .unset, .unset, .unset, .unset, .unset] [(.int (9 : Int32))])) _
  refine XS.istoreN X0.here hx rfl (hb hby at_7) rfl (l' := #[.val (.int p1), .val (.int p2), .val (.int (9 : Int32)), .unset, .unset, .unset, .unset, .unset]) rfl ?_
  show Steps p.tables e below (T0.setTop (mkF m 8 #[.val (.int p1), .val (.int p2), .val (.int (9 : Int32)), .unset, .unset, .unset, .unset, .unset] [])) _
  refine XS.iloadN X0.here hx rfl (hb hby at_8) rfl ?_
  show Steps p.tables e below (T0.setTop (mkF m 9 #[.val (.int p1), .val (.int p2), .val (.int (9 : Int32)), .unset, .unset, .unset, .unset, .unset] [(.int p2)])) _
  refine XS.i2s X0.here hx rfl (hb hby at_9) rfl ?_
  show Steps p.tables e below (T0.setTop (mkF m 10 #[.val (.int p1), .val (.int p2), .val (.int (9 : Int32)), .unset, .unset, .unset, .unset, .unset] [(.int (p2.toInt16.toInt32))])) _
  refine XS.istoreN X0.here hx rfl (hb hby at_10) rfl (l' := #[.val (.int p1), .val (.int p2), .val (.int (9 : Int32)), .val (.int (p2.toInt16.toInt32)), .unset, .unset, .unset, .unset]) rfl ?_
  show Steps p.tables e below (T0.setTop (mkF m 11 #[.val (.int p1), .val (.int p2), .val (.int (9 : Int32)), .val (.int (p2.toInt16.toInt32)), .unset, .unset, .unset, .unset] [])) _
  refine XS.iloadN X0.here hx rfl (hb hby at_11) rfl ?_
  show Steps p.tables e below (T0.setTop (mkF m 12 #[.val (.int p1), .val (.int p2), .val (.int (9 : Int32)), .val (.int (p2.toInt16.toInt32)), .unset, .unset, .unset, .unset] [(.int (9 : Int32))])) _
  refine XS.ifYes X0.here hx rfl (pc0 := 12) (pc' := 30) rfl (hb hby at_12) rfl ((if0 _ _).trans (feq (by decide : ¬ ((9 : Int32) = (0 : Int32)))).2) (by decide) (by decide) ?_
  show Steps p.tables e below (T0.setTop (mkF m 30 #[.val (.int p1), .val (.int p2), .val (.int (9 : Int32)), .val (.int (p2.toInt16.toInt32)), .unset, .unset, .unset, .unset] [])) _
  refine XS.iloadN X0.here hx rfl (hb hby at_30) rfl ?_
  show Steps p.tables e below (T0.setTop (mkF m 31 #[.val (.int p1), .val (.int p2), .val (.int (9 : Int32)), .val (.int (p2.toInt16.toInt32)), .unset, .unset, .unset, .unset] [(.int (9 : Int32))])) _
  refine XS.iconst X0.here hx rfl (hb hby at_31) ?_
  show Steps p.tables e below (T0.setTop (mkF m 32 #[.val (.int p1), .val (.int p2), .val (.int (9 : Int32)), .val (.int (p2.toInt16.toInt32)), .unset, .unset, .unset, .unset] [(.int (1 : Int32)), (.int (9 : Int32))])) _
  refine XS.icmpYes X0.here hx rfl (pc0 := 32) (pc' := 50) rfl (hb hby at_32) rfl (feq (by decide : ¬ ((9 : Int32) = (1 : Int32)))).2 (by decide) (by decide) ?_
  show Steps p.tables e below (T0.setTop (mkF m 50 #[.val (.int p1), .val (.int p2), .val (.int (9 : Int32)), .val (.int (p2.toInt16.toInt32)), .unset, .unset, .unset, .unset] [])) _
  refine XS.iloadN X0.here hx rfl (hb hby at_50) rfl ?_
  show Steps p.tables e below (T0.setTop (mkF m 51 #[.val (.int p1), .val (.int p2), .val (.int (9 : Int32)), .val (.int (p2.toInt16.toInt32)), .unset, .unset, .unset, .unset] [(.int (9 : Int32))])) _
  refine XS.iconst X0.here hx rfl (hb hby at_51) ?_
  show Steps p.tables e below (T0.setTop (mkF m 52 #[.val (.int p1), .val (.int p2), .val (.int (9 : Int32)), .val (.int (p2.toInt16.toInt32)), .unset, .unset, .unset, .unset] [(.int (2 : Int32)), (.int (9 : Int32))])) _
  refine XS.icmpYes X0.here hx rfl (pc0 := 52) (pc' := 69) rfl (hb hby at_52) rfl (feq (by decide : ¬ ((9 : Int32) = (2 : Int32)))).2 (by decide) (by decide) ?_
  show Steps p.tables e below (T0.setTop (mkF m 69 #[.val (.int p1), .val (.int p2), .val (.int (9 : Int32)), .val (.int (p2.toInt16.toInt32)), .unset, .unset, .unset, .unset] [])) _
  refine XS.iloadN X0.here hx rfl (hb hby at_69) rfl ?_
  show Steps p.tables e below (T0.setTop (mkF m 70 #[.val (.int p1), .val (.int p2), .val (.int (9 : Int32)), .val (.int (p2.toInt16.toInt32)), .unset, .unset, .unset, .unset] [(.int (9 : Int32))])) _
  refine XS.iconst X0.here hx rfl (hb hby at_70) ?_
  show Steps p.tables e below (T0.setTop (mkF m 71 #[.val (.int p1), .val (.int p2), .val (.int (9 : Int32)), .val (.int (p2.toInt16.toInt32)), .unset, .unset, .unset, .unset] [(.int (3 : Int32)), (.int (9 : Int32))])) _
  refine XS.icmpYes X0.here hx rfl (pc0 := 71) (pc' := 88) rfl (hb hby at_71) rfl (feq (by decide : ¬ ((9 : Int32) = (3 : Int32)))).2 (by decide) (by decide) ?_
  show Steps p.tables e below (T0.setTop (mkF m 88 #[.val (.int p1), .val (.int p2), .val (.int (9 : Int32)), .val (.int (p2.toInt16.toInt32)), .unset, .unset, .unset, .unset] [])) _
  refine XS.iloadN X0.here hx rfl (hb hby at_88) rfl ?_
  show Steps p.tables e below (T0.setTop (mkF m 89 #[.val (.int p1), .val (.int p2), .val (.int (9 : Int32)), .val (.int (p2.toInt16.toInt32)), .unset, .unset, .unset, .unset] [(.int (9 : Int32))])) _
  refine XS.iconst X0.here hx rfl (hb hby at_89) ?_
  show Steps p.tables e below (T0.setTop (mkF m 90 #[.val (.int p1), .val (.int p2), .val (.int (9 : Int32)), .val (.int (p2.toInt16.toInt32)), .unset, .unset, .unset, .unset] [(.int (4 : Int32)), (.int (9 : Int32))])) _
  refine XS.icmpYes X0.here hx rfl (pc0 := 90) (pc' := 108) rfl (hb hby at_90) rfl (feq (by decide : ¬ ((9 : Int32) = (4 : Int32)))).2 (by decide) (by decide) ?_
  show Steps p.tables e below (T0.setTop (mkF m 108 #[.val (.int p1), .val (.int p2), .val (.int (9 : Int32)), .val (.int (p2.toInt16.toInt32)), .unset, .unset, .unset, .unset] [])) _
  refine XS.iloadN X0.here hx rfl (hb hby at_108) rfl ?_
  show Steps p.tables e below (T0.setTop (mkF m 109 #[.val (.int p1), .val (.int p2), .val (.int (9 : Int32)), .val (.int (p2.toInt16.toInt32)), .unset, .unset, .unset, .unset] [(.int (9 : Int32))])) _
  refine XS.iconst X0.here hx rfl (hb hby at_109) ?_
  show Steps p.tables e below (T0.setTop (mkF m 110 #[.val (.int p1), .val (.int p2), .val (.int (9 : Int32)), .val (.int (p2.toInt16.toInt32)), .unset, .unset, .unset, .unset] [(.int (5 : Int32)), (.int (9 : Int32))])) _
  refine XS.icmpYes X0.here hx rfl (pc0 := 110) (pc' := 127) rfl (hb hby at_110) rfl (feq (by decide : ¬ ((9 : Int32) = (5 : Int32)))).2 (by decide) (by decide) ?_
  show Steps p.tables e below (T0.setTop (mkF m 127 #[.val (.int p1), .val (.int p2), .val (.int (9 : Int32)), .val (.int (p2.toInt16.toInt32)), .unset, .unset, .unset, .unset] [])) _
  refine XS.iloadN X0.here hx rfl (hb hby at_127) rfl ?_
  show Steps p.tables e below (T0.setTop (mkF m 128 #[.val (.int p1), .val (.int p2), .val (.int (9 : Int32)), .val (.int (p2.toInt16.toInt32)), .unset, .unset, .unset, .unset] [(.int (9 : Int32))])) _
  refine XS.bipush X0.here hx rfl (hb hby at_128) ?_
  show Steps p.tables e below (T0.setTop (mkF m 130 #[.val (.int p1), .val (.int p2), .val (.int (9 : Int32)), .val (.int (p2.toInt16.toInt32)), .unset, .unset, .unset, .unset] [(.int (6 : Int32)), (.int (9 : Int32))])) _
  refine XS.icmpYes X0.here hx rfl (pc0 := 130) (pc' := 147) rfl (hb hby at_130) rfl (feq (by decide : ¬ ((9 : Int32) = (6 : Int32)))).2 (by decide) (by decide) ?_
  show Steps p.tables e below (T0.setTop (mkF m 147 #[.val (.int p1), .val (.int p2), .val (.int (9 : Int32)), .val (.int (p2.toInt16.toInt32)), .unset, .unset, .unset, .unset] [])) _
  refine XS.iloadN X0.here hx rfl (hb hby at_147) rfl ?_
  show Steps p.tables e below (T0.setTop (mkF m 148 #[.val (.int p1), .val (.int p2), .val (.int (9 : Int32)), .val (.int (p2.toInt16.toInt32)), .unset, .unset, .unset, .unset] [(.int (9 : Int32))])) _
  refine XS.bipush X0.here hx rfl (hb hby at_148) ?_
  show Steps p.tables e below (T0.setTop (mkF m 150 #[.val (.int p1), .val (.int p2), .val (.int (9 : Int32)), .val (.int (p2.toInt16.toInt32)), .unset, .unset, .unset, .unset] [(.int (7 : Int32)), (.int (9 : Int32))])) _
  refine XS.icmpYes X0.here hx rfl (pc0 := 150) (pc' := 167) rfl (hb hby at_150) rfl (feq (by decide : ¬ ((9 : Int32) = (7 : Int32)))).2 (by decide) (by decide) ?_
  show Steps p.tables e below (T0.setTop (mkF m 167 #[.val (.int p1), .val (.int p2), .val (.int (9 : Int32)), .val (.int (p2.toInt16.toInt32)), .unset, .unset, .unset, .unset] [])) _
  refine XS.iloadN X0.here hx rfl (hb hby at_167) rfl ?_
  show Steps p.tables e below (T0.setTop (mkF m 168 #[.val (.int p1), .val (.int p2), .val (.int (9 : Int32)), .val (.int (p2.toInt16.toInt32)), .unset, .unset, .unset, .unset] [(.int (9 : Int32))])) _
  refine XS.bipush X0.here hx rfl (hb hby at_168) ?_
  show Steps p.tables e below (T0.setTop (mkF m 170 #[.val (.int p1), .val (.int p2), .val (.int (9 : Int32)), .val (.int (p2.toInt16.toInt32)), .unset, .unset, .unset, .unset] [(.int (8 : Int32)), (.int (9 : Int32))])) _
  refine XS.icmpYes X0.here hx rfl (pc0 := 170) (pc' := 187) rfl (hb hby at_170) rfl (feq (by decide : ¬ ((9 : Int32) = (8 : Int32)))).2 (by decide) (by decide) ?_
  show Steps p.tables e below (T0.setTop (mkF m 187 #[.val (.int p1), .val (.int p2), .val (.int (9 : Int32)), .val (.int (p2.toInt16.toInt32)), .unset, .unset, .unset, .unset] [])) _
  refine XS.iloadN X0.here hx rfl (hb hby at_187) rfl ?_
  show Steps p.tables e below (T0.setTop (mkF m 188 #[.val (.int p1), .val (.int p2), .val (.int (9 : Int32)), .val (.int (p2.toInt16.toInt32)), .unset, .unset, .unset, .unset] [(.int (9 : Int32))])) _
  refine XS.bipush X0.here hx rfl (hb hby at_188) ?_
  show Steps p.tables e below (T0.setTop (mkF m 190 #[.val (.int p1), .val (.int p2), .val (.int (9 : Int32)), .val (.int (p2.toInt16.toInt32)), .unset, .unset, .unset, .unset] [(.int (9 : Int32)), (.int (9 : Int32))])) _
  refine XS.icmpNo X0.here hx rfl (hb hby at_190) rfl (teq (by decide : (9 : Int32) = (9 : Int32))).2 ?_
  show Steps p.tables e below (T0.setTop (mkF m 193 #[.val (.int p1), .val (.int p2), .val (.int (9 : Int32)), .val (.int (p2.toInt16.toInt32)), .unset, .unset, .unset, .unset] [])) _
  refine st1 _ ?_
  show Steps p.tables e below (T1.setTop (mkF m 196 #[.val (.int p1), .val (.int p2), .val (.int (9 : Int32)), .val (.int (p2.toInt16.toInt32)), .unset, .unset, .unset, .unset] [(.ref w_LEAVE_GROUP)])) _
  refine XS.astore X1.here hx rfl (hb hby at_196) rfl rfl (l' := #[.val (.int p1), .val (.int p2), .val (.int (9 : Int32)), .val (.int (p2.toInt16.toInt32)), .val (.ref w_LEAVE_GROUP), .unset, .unset, .unset]) rfl ?_
  show Steps p.tables e below (T1.setTop (mkF m 198 #[.val (.int p1), .val (.int p2), .val (.int (9 : Int32)), .val (.int (p2.toInt16.toInt32)), .val (.ref w_LEAVE_GROUP), .unset, .unset, .unset] [])) _
  refine XS.iconst X1.here hx rfl (hb hby at_198) ?_
  show Steps p.tables e below (T1.setTop (mkF m 199 #[.val (.int p1), .val (.int p2), .val (.int (9 : Int32)), .val (.int (p2.toInt16.toInt32)), .val (.ref w_LEAVE_GROUP), .unset, .unset, .unset] [(.int (0 : Int32))])) _
  refine XS.istore X1.here hx rfl (hb hby at_199) rfl (l' := #[.val (.int p1), .val (.int p2), .val (.int (9 : Int32)), .val (.int (p2.toInt16.toInt32)), .val (.ref w_LEAVE_GROUP), .val (.int (0 : Int32)), .unset, .unset]) rfl ?_
  show Steps p.tables e below (T1.setTop (mkF m 201 #[.val (.int p1), .val (.int p2), .val (.int (9 : Int32)), .val (.int (p2.toInt16.toInt32)), .val (.ref w_LEAVE_GROUP), .val (.int (0 : Int32)), .unset, .unset] [])) _
  refine XS.iconst X1.here hx rfl (hb hby at_201) ?_
  show Steps p.tables e below (T1.setTop (mkF m 202 #[.val (.int p1), .val (.int p2), .val (.int (9 : Int32)), .val (.int (p2.toInt16.toInt32)), .val (.ref w_LEAVE_GROUP), .val (.int (0 : Int32)), .unset, .unset] [(.int (1 : Int32))])) _
  refine XS.istore X1.here hx rfl (hb hby at_202) rfl (l' := #[.val (.int p1), .val (.int p2), .val (.int (9 : Int32)), .val (.int (p2.toInt16.toInt32)), .val (.ref w_LEAVE_GROUP), .val (.int (0 : Int32)), .val (.int (1 : Int32)), .unset]) rfl ?_
  show Steps p.tables e below (T1.setTop (mkF m 204 #[.val (.int p1), .val (.int p2), .val (.int (9 : Int32)), .val (.int (p2.toInt16.toInt32)), .val (.ref w_LEAVE_GROUP), .val (.int (0 : Int32)), .val (.int (1 : Int32)), .unset] [])) _
  refine XS.goto X1.here hx rfl (pc0 := 204) (pc' := 258) rfl (hb hby at_204) (by decide) (by decide) ?_
  show Steps p.tables e below (T1.setTop (mkF m 258 #[.val (.int p1), .val (.int p2), .val (.int (9 : Int32)), .val (.int (p2.toInt16.toInt32)), .val (.ref w_LEAVE_GROUP), .val (.int (0 : Int32)), .val (.int (1 : Int32)), .unset] [])) _
  exact kt
set_option maxRecDepth 65536 in
set_option maxHeartbeats 40000000 in
theorem seg10 {p : Program} {l : Launch} {e : Env} {s : State} {m : MethodId} {args : Array Value} {below : List Frame} {meth : Method} {c : Code} {T0 : State} {locs : List Loc} {Z : State} {a0 : Array Value} {h0 : Heap} {n0 : Nat} (w_PRODUCE : Addr) (w_FETCH : Addr) (w_OFFSET_COMMIT : Addr) (w_METADATA : Addr) (w_LEAVE_GROUP : Addr) (w_OFFSET_FETCH : Addr) (w_FIND_COORDINATOR : Addr) (w_HEARTBEAT : Addr) (w_CREATE_TOPICS : Addr) (w_LIST_OFFSETS : Addr) (w_SYNC_GROUP : Addr) (w_API_VERSIONS : Addr) (w_JOIN_GROUP : Addr) (p1 : Int32) (p2 : Int32)
    (X0 : Stand p l e room_1 s m args below meth c T0 locs 0 0) (hx : p.tables.exec = Jvm.exec) (hZ : Z.Warmed39 s.vm) (hw : ∀ d ∈ tables_1, d.before a0 Z = true) (hby : c.code = code) (hml : c.maxLocals = 8) (hown : s.vm.findClass "com/example/melog/melog/protocol/ApiKeyServesPinLaw" = some m.cls) (e0 : T0.heap = h0) (N0 : Fr n0 locs) (O0 : Old Z n0 h0) (HW : World Z w_PRODUCE w_FETCH w_OFFSET_COMMIT w_METADATA w_LEAVE_GROUP w_OFFSET_FETCH w_FIND_COORDINATOR w_HEARTBEAT w_CREATE_TOPICS w_LIST_OFFSETS w_SYNC_GROUP w_API_VERSIONS w_JOIN_GROUP) (hk : ((p1 &&& (2147483647 : Int32)) % (13 : Int32)) = (10 : Int32)) :
    ∃ (T' : State) (locs' : List Loc), Stand p l e room_1 s m args below meth c T' locs' 0 0 ∧ Fr n0 locs' ∧ T'.heap = h0 ∧ ∀ t, Steps p.tables e below (T'.setTop (mkF m 258 #[.val (.int p1), .val (.int p2), .val (.int (10 : Int32)), .val (.int (p2.toInt16.toInt32)), .val (.ref w_SYNC_GROUP), .val (.int (0 : Int32)), .val (.int (3 : Int32)), .unset] [])) t → Steps p.tables e below (T0.setTop (mkF m 0 #[.val (.int p1), .val (.int p2), .unset, .unset, .unset, .unset, .unset, .unset] [])) t := by
  obtain ⟨S_w_PRODUCE, E_w_PRODUCE, S_w_FETCH, E_w_FETCH, S_w_OFFSET_COMMIT, E_w_OFFSET_COMMIT, S_w_METADATA, E_w_METADATA, S_w_LEAVE_GROUP, E_w_LEAVE_GROUP, S_w_OFFSET_FETCH, E_w_OFFSET_FETCH, S_w_FIND_COORDINATOR, E_w_FIND_COORDINATOR, S_w_HEARTBEAT, E_w_HEARTBEAT, S_w_CREATE_TOPICS, E_w_CREATE_TOPICS, S_w_LIST_OFFSETS, E_w_LIST_OFFSETS, S_w_SYNC_GROUP, E_w_SYNC_GROUP, S_w_API_VERSIONS, E_w_API_VERSIONS, S_w_JOIN_GROUP, E_w_JOIN_GROUP, F_minVersion_w_PRODUCE, F_maxVersion_w_PRODUCE, F_minVersion_w_FETCH, F_minVersion_w_OFFSET_COMMIT, F_maxVersion_w_OFFSET_COMMIT, F_minVersion_w_METADATA, F_minVersion_w_LEAVE_GROUP, F_maxVersion_w_LEAVE_GROUP, F_minVersion_w_OFFSET_FETCH, F_maxVersion_w_OFFSET_FETCH, F_minVersion_w_FIND_COORDINATOR, F_maxVersion_w_FIND_COORDINATOR, F_minVersion_w_HEARTBEAT, F_minVersion_w_CREATE_TOPICS, F_maxVersion_w_CREATE_TOPICS, F_minVersion_w_LIST_OFFSETS, F_maxVersion_w_LIST_OFFSETS, F_maxVersion_w_METADATA, F_maxVersion_w_HEARTBEAT, F_minVersion_w_SYNC_GROUP, F_minVersion_w_API_VERSIONS, F_maxVersion_w_API_VERSIONS, F_maxVersion_w_FETCH, F_maxVersion_w_SYNC_GROUP, F_minVersion_w_JOIN_GROUP, F_maxVersion_w_JOIN_GROUP, ne_w_PRODUCE_w_FETCH, ne_w_PRODUCE_w_OFFSET_COMMIT, ne_w_PRODUCE_w_METADATA, ne_w_PRODUCE_w_LEAVE_GROUP, ne_w_PRODUCE_w_OFFSET_FETCH, ne_w_PRODUCE_w_FIND_COORDINATOR, ne_w_PRODUCE_w_HEARTBEAT, ne_w_PRODUCE_w_CREATE_TOPICS, ne_w_PRODUCE_w_LIST_OFFSETS, ne_w_PRODUCE_w_SYNC_GROUP, ne_w_PRODUCE_w_API_VERSIONS, ne_w_PRODUCE_w_JOIN_GROUP, ne_w_FETCH_w_OFFSET_COMMIT, ne_w_FETCH_w_METADATA, ne_w_FETCH_w_LEAVE_GROUP, ne_w_FETCH_w_OFFSET_FETCH, ne_w_FETCH_w_FIND_COORDINATOR, ne_w_FETCH_w_HEARTBEAT, ne_w_FETCH_w_CREATE_TOPICS, ne_w_FETCH_w_LIST_OFFSETS, ne_w_FETCH_w_SYNC_GROUP, ne_w_FETCH_w_API_VERSIONS, ne_w_FETCH_w_JOIN_GROUP, ne_w_OFFSET_COMMIT_w_METADATA, ne_w_OFFSET_COMMIT_w_LEAVE_GROUP, ne_w_OFFSET_COMMIT_w_OFFSET_FETCH, ne_w_OFFSET_COMMIT_w_FIND_COORDINATOR, ne_w_OFFSET_COMMIT_w_HEARTBEAT, ne_w_OFFSET_COMMIT_w_CREATE_TOPICS, ne_w_OFFSET_COMMIT_w_LIST_OFFSETS, ne_w_OFFSET_COMMIT_w_SYNC_GROUP, ne_w_OFFSET_COMMIT_w_API_VERSIONS, ne_w_OFFSET_COMMIT_w_JOIN_GROUP, ne_w_METADATA_w_LEAVE_GROUP, ne_w_METADATA_w_OFFSET_FETCH, ne_w_METADATA_w_FIND_COORDINATOR, ne_w_METADATA_w_HEARTBEAT, ne_w_METADATA_w_LIST_OFFSETS, ne_w_METADATA_w_SYNC_GROUP, ne_w_METADATA_w_API_VERSIONS, ne_w_METADATA_w_JOIN_GROUP, ne_w_LEAVE_GROUP_w_OFFSET_FETCH, ne_w_LEAVE_GROUP_w_FIND_COORDINATOR, ne_w_LEAVE_GROUP_w_HEARTBEAT, ne_w_LEAVE_GROUP_w_CREATE_TOPICS, ne_w_LEAVE_GROUP_w_LIST_OFFSETS, ne_w_LEAVE_GROUP_w_SYNC_GROUP, ne_w_LEAVE_GROUP_w_API_VERSIONS, ne_w_LEAVE_GROUP_w_JOIN_GROUP, ne_w_OFFSET_FETCH_w_FIND_COORDINATOR, ne_w_OFFSET_FETCH_w_HEARTBEAT, ne_w_OFFSET_FETCH_w_CREATE_TOPICS, ne_w_OFFSET_FETCH_w_LIST_OFFSETS, ne_w_OFFSET_FETCH_w_SYNC_GROUP, ne_w_OFFSET_FETCH_w_API_VERSIONS, ne_w_OFFSET_FETCH_w_JOIN_GROUP, ne_w_FIND_COORDINATOR_w_HEARTBEAT, ne_w_FIND_COORDINATOR_w_CREATE_TOPICS, ne_w_FIND_COORDINATOR_w_LIST_OFFSETS, ne_w_FIND_COORDINATOR_w_SYNC_GROUP, ne_w_FIND_COORDINATOR_w_API_VERSIONS, ne_w_FIND_COORDINATOR_w_JOIN_GROUP, ne_w_HEARTBEAT_w_CREATE_TOPICS, ne_w_HEARTBEAT_w_LIST_OFFSETS, ne_w_HEARTBEAT_w_JOIN_GROUP, ne_w_CREATE_TOPICS_w_LIST_OFFSETS, ne_w_CREATE_TOPICS_w_SYNC_GROUP, ne_w_CREATE_TOPICS_w_API_VERSIONS, ne_w_CREATE_TOPICS_w_JOIN_GROUP, ne_w_LIST_OFFSETS_w_SYNC_GROUP, ne_w_LIST_OFFSETS_w_API_VERSIONS, ne_w_LIST_OFFSETS_w_JOIN_GROUP, ne_w_SYNC_GROUP_w_JOIN_GROUP, ne_w_API_VERSIONS_w_JOIN_GROUP, -⟩ := id HW
  obtain ⟨T1, X1, e1, st1⟩ := getS2 X0 hx hZ hown (host := "") (Or.inl (hw _ (List.mem_of_getElem? (i := 31) rfl))) Via.refl e0 (S_w_SYNC_GROUP.ext O0.2) (g := (mkF m 213 #[.val (.int p1), .val (.int p2), .val (.int (10 : Int32)), .val (.int (p2.toInt16.toInt32)), .unset, .unset, .unset, .unset] [])) rfl (hb hby at_213)
  refine ⟨T1, _, X1, N0, e1, fun t kt => ?_⟩
  show Steps p.tables e below (T0.setTop (mkF m 0 #[.val (.int p1), .val (.int p2), .unset, .unset, .unset, .unset, .unset, .unset] [])) _
  refine XS.iloadN X0.here hx rfl (hb hby at_0) rfl ?_
  show Steps p.tables e below (T0.setTop (mkF m 1 #[.val (.int p1), .val (.int p2), .unset, .unset, .unset, .unset, .unset, .unset] [(.int p1)])) _
  refine X0.ldcInt hx hown (mvT hZ (hw _ (List.mem_of_getElem? (i := 0) rfl))) (g := (mkF m 1 #[.val (.int p1), .val (.int p2), .unset, .unset, .unset, .unset, .unset, .unset] [(.int p1)])) rfl (hb hby at_1) _ ?_
  show Steps p.tables e below (T0.setTop (mkF m 3 #[.val (.int p1), .val (.int p2), .unset, .unset, .unset, .unset, .unset, .unset] [(.int (2147483647 : Int32)), (.int p1)])) _
  refine XS.iand X0.here hx rfl (hb hby at_3) rfl ?_
  show Steps p.tables e below (T0.setTop (mkF m 4 #[.val (.int p1), .val (.int p2), .unset, .unset, .unset, .unset, .unset, .unset] [(.int (p1 &&& (2147483647 : Int32)))])) _
  refine XS.bipush X0.here hx rfl (hb hby at_4) ?_
  show Steps p.tables e below (T0.setTop (mkF m 6 #[.val (.int p1), .val (.int p2), .unset, .unset, .unset, .unset, .unset, .unset] [(.int (13 : Int32)), (.int (p1 &&& (2147483647 : Int32)))])) _
  refine iremM X0 hx rfl (hb hby at_6) rfl (by decide) ?_
  rw [hk]
  show Steps p.tables e below (T0.setTop (mkF m 7 #[.val (.int p1), .val (.int p2), .unset, .unset, .unset, .unset, .unset, .unset] [(.int (10 : Int32))])) _
  refine XS.istoreN X0.here hx rfl (hb hby at_7) rfl (l' := #[.val (.int p1), .val (.int p2), .val (.int (10 : Int32)), .unset, .unset, .unset, .unset, .unset]) rfl ?_
  show Steps p.tables e below (T0.setTop (mkF m 8 #[.val (.int p1), .val (.int p2), .val (.int (10 : Int32)), .unset, .unset, .unset, .unset, .unset] [])) _
  refine XS.iloadN X0.here hx rfl (hb hby at_8) rfl ?_
  show Steps p.tables e below (T0.setTop (mkF m 9 #[.val (.int p1), .val (.int p2), .val (.int (10 : Int32)), .unset, .unset, .unset, .unset, .unset] [(.int p2)])) _
  refine XS.i2s X0.here hx rfl (hb hby at_9) rfl ?_
  show Steps p.tables e below (T0.setTop (mkF m 10 #[.val (.int p1), .val (.int p2), .val (.int (10 : Int32)), .unset, .unset, .unset, .unset, .unset] [(.int (p2.toInt16.toInt32))])) _
  refine XS.istoreN X0.here hx rfl (hb hby at_10) rfl (l' := #[.val (.int p1), .val (.int p2), .val (.int (10 : Int32)), .val (.int (p2.toInt16.toInt32)), .unset, .unset, .unset, .unset]) rfl ?_
  show Steps p.tables e below (T0.setTop (mkF m 11 #[.val (.int p1), .val (.int p2), .val (.int (10 : Int32)), .val (.int (p2.toInt16.toInt32)), .unset, .unset, .unset, .unset] [])) _
  refine XS.iloadN X0.here hx rfl (hb hby at_11) rfl ?_
  show Steps p.tables e below (T0.setTop (mkF m 12 #[.val (.int p1), .val (.int p2), .val (.int (10 : Int32)), .val (.int (p2.toInt16.toInt32)), .unset, .unset, .unset, .unset] [(.int (10 : Int32))])) _
  refine XS.ifYes X0.here hx rfl (pc0 := 12) (pc' := 30) rfl (hb hby at_12) rfl ((if0 _ _).trans (feq (by decide : ¬ ((10 : Int32) = (0 : Int32)))).2) (by decide) (by decide) ?_
  show Steps p.tables e below (T0.setTop (mkF m 30 #[.val (.int p1), .val (.int p2), .val (.int (10 : Int32)), .val (.int (p2.toInt16.toInt32)), .unset, .unset, .unset, .unset] [])) _
  refine XS.iloadN X0.here hx rfl (hb hby at_30) rfl ?_
  show Steps p.tables e below (T0.setTop (mkF m 31 #[.val (.int p1), .val (.int p2), .val (.int (10 : Int32)), .val (.int (p2.toInt16.toInt32)), .unset, .unset, .unset, .unset] [(.int (10 : Int32))])) _
  refine XS.iconst X0.here hx rfl (hb hby at_31) ?_
  show Steps p.tables e below (T0.setTop (mkF m 32 #[.val (.int p1), .val (.int p2), .val (.int (10 : Int32)), .val (.int (p2.toInt16.toInt32)), .unset, .unset, .unset, .unset] [(.int (1 : Int32)), (.int (10 : Int32))])) _
  refine XS.icmpYes X0.here hx rfl (pc0 := 32) (pc' := 50) rfl (hb hby at_32) rfl (feq (by decide : ¬ ((10 : Int32) = (1 : Int32)))).2 (by decide) (by decide) ?_
  show Steps p.tables e below (T0.setTop (mkF m 50 #[.val (.int p1), .val (.int p2), .val (.int (10 : Int32)), .val (.int (p2.toInt16.toInt32)), .unset, .unset, .unset, .unset] [])) _
  refine XS.iloadN X0.here hx rfl (hb hby at_50) rfl ?_
  show Steps p.tables e below (T0.setTop (mkF m 51 #[.val (.int p1), .val (.int p2), .val (.int (10 : Int32)), .val (.int (p2.toInt16.toInt32)), .unset, .unset, .unset, .unset] [(.int (10 : Int32))])) _
  refine XS.iconst X0.here hx rfl (hb hby at_51) ?_
  show Steps p.tables e below (T0.setTop (mkF m 52 #[.val (.int p1), .val (.int p2), .val (.int (10 : Int32)), .val (.int (p2.toInt16.toInt32)), .unset, .unset, .unset, .unset] [(.int (2 : Int32)), (.int (10 : Int32))])) _
  refine XS.icmpYes X0.here hx rfl (pc0 := 52) (pc' := 69) rfl (hb hby at_52) rfl (feq (by decide : ¬ ((10 : Int32) = (2 : Int32)))).2 (by decide) (by decide) ?_
  show Steps p.tables e below (T0.setTop (mkF m 69 #[.val (.int p1), .val (.int p2), .val (.int (10 : Int32)), .val (.int (p2.toInt16.toInt32)), .unset, .unset, .unset, .unset] [])) _
  refine XS.iloadN X0.here hx rfl (hb hby at_69) rfl ?_
  show Steps p.tables e below (T0.setTop (mkF m 70 #[.val (.int p1), .val (.int p2), .val (.int (10 : Int32)), .val (.int (p2.toInt16.toInt32)), .unset, .unset, .unset, .unset] [(.int (10 : Int32))])) _
  refine XS.iconst X0.here hx rfl (hb hby at_70) ?_
  show Steps p.tables e below (T0.setTop (mkF m 71 #[.val (.int p1), .val (.int p2), .val (.int (10 : Int32)), .val (.int (p2.toInt16.toInt32)), .unset, .unset, .unset, .unset] [(.int (3 : Int32)), (.int (10 : Int32))])) _
  refine XS.icmpYes X0.here hx rfl (pc0 := 71) (pc' := 88) rfl (hb hby at_71) rfl (feq (by decide : ¬ ((10 : Int32) = (3 : Int32)))).2 (by decide) (by decide) ?_
  show Steps p.tables e below (T0.setTop (mkF m 88 #[.val (.int p1), .val (.int p2), .val (.int (10 : Int32)), .val (.int (p2.toInt16.toInt32)), .unset, .unset, .unset, .unset] [])) _
  refine XS.iloadN X0.here hx rfl (hb hby at_88) rfl ?_
  show Steps p.tables e below (T0.setTop (mkF m 89 #[.val (.int p1), .val (.int p2), .val (.int (10 : Int32)), .val (.int (p2.toInt16.toInt32)), .unset, .unset, .unset, .unset] [(.int (10 : Int32))])) _
  refine XS.iconst X0.here hx rfl (hb hby at_89) ?_
  show Steps p.tables e below (T0.setTop (mkF m 90 #[.val (.int p1), .val (.int p2), .val (.int (10 : Int32)), .val (.int (p2.toInt16.toInt32)), .unset, .unset, .unset, .unset] [(.int (4 : Int32)), (.int (10 : Int32))])) _
  refine XS.icmpYes X0.here hx rfl (pc0 := 90) (pc' := 108) rfl (hb hby at_90) rfl (feq (by decide : ¬ ((10 : Int32) = (4 : Int32)))).2 (by decide) (by decide) ?_
  show Steps p.tables e below (T0.setTop (mkF m 108 #[.val (.int p1), .val (.int p2), .val (.int (10 : Int32)), .val (.int (p2.toInt16.toInt32)), .unset, .unset, .unset, .unset] [])) _
  refine XS.iloadN X0.here hx rfl (hb hby at_108) rfl ?_
  show Steps p.tables e below (T0.setTop (mkF m 109 #[.val (.int p1), .val (.int p2), .val (.int (10 : Int32)), .val (.int (p2.toInt16.toInt32)), .unset, .unset, .unset, .unset] [(.int (10 : Int32))])) _
  refine XS.iconst X0.here hx rfl (hb hby at_109) ?_
  show Steps p.tables e below (T0.setTop (mkF m 110 #[.val (.int p1), .val (.int p2), .val (.int (10 : Int32)), .val (.int (p2.toInt16.toInt32)), .unset, .unset, .unset, .unset] [(.int (5 : Int32)), (.int (10 : Int32))])) _
  refine XS.icmpYes X0.here hx rfl (pc0 := 110) (pc' := 127) rfl (hb hby at_110) rfl (feq (by decide : ¬ ((10 : Int32) = (5 : Int32)))).2 (by decide) (by decide) ?_
  show Steps p.tables e below (T0.setTop (mkF m 127 #[.val (.int p1), .val (.int p2), .val (.int (10 : Int32)), .val (.int (p2.toInt16.toInt32)), .unset, .unset, .unset, .unset] [])) _
  refine XS.iloadN X0.here hx rfl (hb hby at_127) rfl ?_
  show Steps p.tables e below (T0.setTop (mkF m 128 #[.val (.int p1), .val (.int p2), .val (.int (10 : Int32)), .val (.int (p2.toInt16.toInt32)), .unset, .unset, .unset, .unset] [(.int (10 : Int32))])) _
  refine XS.bipush X0.here hx rfl (hb hby at_128) ?_
  show Steps p.tables e below (T0.setTop (mkF m 130 #[.val (.int p1), .val (.int p2), .val (.int (10 : Int32)), .val (.int (p2.toInt16.toInt32)), .unset, .unset, .unset, .unset] [(.int (6 : Int32)), (.int (10 : Int32))])) _
  refine XS.icmpYes X0.here hx rfl (pc0 := 130) (pc' := 147) rfl (hb hby at_130) rfl (feq (by decide : ¬ ((10 : Int32) = (6 : Int32)))).2 (by decide) (by decide) ?_
  show Steps p.tables e below (T0.setTop (mkF m 147 #[.val (.int p1), .val (.int p2), .val (.int (10 : Int32)), .val (.int (p2.toInt16.toInt32)), .unset, .unset, .unset, .unset] [])) _
  refine XS.iloadN X0.here hx rfl (hb hby at_147) rfl ?_
  show Steps p.tables e below (T0.setTop (mkF m 148 #[.val (.int p1), .val (.int p2), .val (.int (10 : Int32)), .val (.int (p2.toInt16.toInt32)), .unset, .unset, .unset, .unset] [(.int (10 : Int32))])) _
  refine XS.bipush X0.here hx rfl (hb hby at_148) ?_
  show Steps p.tables e below (T0.setTop (mkF m 150 #[.val (.int p1), .val (.int p2), .val (.int (10 : Int32)), .val (.int (p2.toInt16.toInt32)), .unset, .unset, .unset, .unset] [(.int (7 : Int32)), (.int (10 : Int32))])) _
  refine XS.icmpYes X0.here hx rfl (pc0 := 150) (pc' := 167) rfl (hb hby at_150) rfl (feq (by decide : ¬ ((10 : Int32) = (7 : Int32)))).2 (by decide) (by decide) ?_
  show Steps p.tables e below (T0.setTop (mkF m 167 #[.val (.int p1), .val (.int p2), .val (.int (10 : Int32)), .val (.int (p2.toInt16.toInt32)), .unset, .unset, .unset, .unset] [])) _
  refine XS.iloadN X0.here hx rfl (hb hby at_167) rfl ?_
  show Steps p.tables e below (T0.setTop (mkF m 168 #[.val (.int p1), .val (.int p2), .val (.int (10 : Int32)), .val (.int (p2.toInt16.toInt32)), .unset, .unset, .unset, .unset] [(.int (10 : Int32))])) _
  refine XS.bipush X0.here hx rfl (hb hby at_168) ?_
  show Steps p.tables e below (T0.setTop (mkF m 170 #[.val (.int p1), .val (.int p2), .val (.int (10 : Int32)), .val (.int (p2.toInt16.toInt32)), .unset, .unset, .unset, .unset] [(.int (8 : Int32)), (.int (10 : Int32))])) _
  refine XS.icmpYes X0.here hx rfl (pc0 := 170) (pc' := 187) rfl (hb hby at_170) rfl (feq (by decide : ¬ ((10 : Int32) = (8 : Int32)))).2 (by decide) (by decide) ?_
  show Steps p.tables e below (T0.setTop (mkF m 187 #[.val (.int p1), .val (.int p2), .val (.int (10 : Int32)), .val (.int (p2.toInt16.toInt32)), .unset, .unset, .unset, .unset] [])) _
  refine XS.iloadN X0.here hx rfl (hb hby at_187) rfl ?_
  show Steps p.tables e below (T0.setTop (mkF m 188 #[.val (.int p1), .val (.int p2), .val (.int (10 : Int32)), .val (.int (p2.toInt16.toInt32)), .unset, .unset, .unset, .unset] [(.int (10 : Int32))])) _
  refine XS.bipush X0.here hx rfl (hb hby at_188) ?_
  show Steps p.tables e below (T0.setTop (mkF m 190 #[.val (.int p1), .val (.int p2), .val (.int (10 : Int32)), .val (.int (p2.toInt16.toInt32)), .unset, .unset, .unset, .unset] [(.int (9 : Int32)), (.int (10 : Int32))])) _
  refine XS.icmpYes X0.here hx rfl (pc0 := 190) (pc' := 207) rfl (hb hby at_190) rfl (feq (by decide : ¬ ((10 : Int32) = (9 : Int32)))).2 (by decide) (by decide) ?_
  show Steps p.tables e below (T0.setTop (mkF m 207 #[.val (.int p1), .val (.int p2), .val (.int (10 : Int32)), .val (.int (p2.toInt16.toInt32)), .unset, .unset, .unset, .unset] [])) _
  refine XS.iloadN X0.here hx rfl (hb hby at_207) rfl ?_
  show Steps p.tables e below (T0.setTop (mkF m 208 #[.val (.int p1), .val (.int p2), .val (.int (10 : Int32)), .val (.int (p2.toInt16.toInt32)), .unset, .unset, .unset, .unset] [(.int (10 : Int32))])) _
  refine XS.bipush X0.here hx rfl (hb hby at_208) ?_
  show Steps p.tables e below (T0.setTop (mkF m 210 #[.val (.int p1), .val (.int p2), .val (.int (10 : Int32)), .val (.int (p2.toInt16.toInt32)), .unset, .unset, .unset, .unset] [(.int (10 : Int32)), (.int (10 : Int32))])) _
  refine XS.icmpNo X0.here hx rfl (hb hby at_210) rfl (teq (by decide : (10 : Int32) = (10 : Int32))).2 ?_
  show Steps p.tables e below (T0.setTop (mkF m 213 #[.val (.int p1), .val (.int p2), .val (.int (10 : Int32)), .val (.int (p2.toInt16.toInt32)), .unset, .unset, .unset, .unset] [])) _
  refine st1 _ ?_
  show Steps p.tables e below (T1.setTop (mkF m 216 #[.val (.int p1), .val (.int p2), .val (.int (10 : Int32)), .val (.int (p2.toInt16.toInt32)), .unset, .unset, .unset, .unset] [(.ref w_SYNC_GROUP)])) _
  refine XS.astore X1.here hx rfl (hb hby at_216) rfl rfl (l' := #[.val (.int p1), .val (.int p2), .val (.int (10 : Int32)), .val (.int (p2.toInt16.toInt32)), .val (.ref w_SYNC_GROUP), .unset, .unset, .unset]) rfl ?_
  show Steps p.tables e below (T1.setTop (mkF m 218 #[.val (.int p1), .val (.int p2), .val (.int (10 : Int32)), .val (.int (p2.toInt16.toInt32)), .val (.ref w_SYNC_GROUP), .unset, .unset, .unset] [])) _
  refine XS.iconst X1.here hx rfl (hb hby at_218) ?_
  show Steps p.tables e below (T1.setTop (mkF m 219 #[.val (.int p1), .val (.int p2), .val (.int (10 : Int32)), .val (.int (p2.toInt16.toInt32)), .val (.ref w_SYNC_GROUP), .unset, .unset, .unset] [(.int (0 : Int32))])) _
  refine XS.istore X1.here hx rfl (hb hby at_219) rfl (l' := #[.val (.int p1), .val (.int p2), .val (.int (10 : Int32)), .val (.int (p2.toInt16.toInt32)), .val (.ref w_SYNC_GROUP), .val (.int (0 : Int32)), .unset, .unset]) rfl ?_
  show Steps p.tables e below (T1.setTop (mkF m 221 #[.val (.int p1), .val (.int p2), .val (.int (10 : Int32)), .val (.int (p2.toInt16.toInt32)), .val (.ref w_SYNC_GROUP), .val (.int (0 : Int32)), .unset, .unset] [])) _
  refine XS.iconst X1.here hx rfl (hb hby at_221) ?_
  show Steps p.tables e below (T1.setTop (mkF m 222 #[.val (.int p1), .val (.int p2), .val (.int (10 : Int32)), .val (.int (p2.toInt16.toInt32)), .val (.ref w_SYNC_GROUP), .val (.int (0 : Int32)), .unset, .unset] [(.int (3 : Int32))])) _
  refine XS.istore X1.here hx rfl (hb hby at_222) rfl (l' := #[.val (.int p1), .val (.int p2), .val (.int (10 : Int32)), .val (.int (p2.toInt16.toInt32)), .val (.ref w_SYNC_GROUP), .val (.int (0 : Int32)), .val (.int (3 : Int32)), .unset]) rfl ?_
  show Steps p.tables e below (T1.setTop (mkF m 224 #[.val (.int p1), .val (.int p2), .val (.int (10 : Int32)), .val (.int (p2.toInt16.toInt32)), .val (.ref w_SYNC_GROUP), .val (.int (0 : Int32)), .val (.int (3 : Int32)), .unset] [])) _
  refine XS.goto X1.here hx rfl (pc0 := 224) (pc' := 258) rfl (hb hby at_224) (by decide) (by decide) ?_
  show Steps p.tables e below (T1.setTop (mkF m 258 #[.val (.int p1), .val (.int p2), .val (.int (10 : Int32)), .val (.int (p2.toInt16.toInt32)), .val (.ref w_SYNC_GROUP), .val (.int (0 : Int32)), .val (.int (3 : Int32)), .unset] [])) _
  exact kt
set_option maxRecDepth 65536 in
set_option maxHeartbeats 40000000 in
theorem seg11 {p : Program} {l : Launch} {e : Env} {s : State} {m : MethodId} {args : Array Value} {below : List Frame} {meth : Method} {c : Code} {T0 : State} {locs : List Loc} {Z : State} {a0 : Array Value} {h0 : Heap} {n0 : Nat} (w_PRODUCE : Addr) (w_FETCH : Addr) (w_OFFSET_COMMIT : Addr) (w_METADATA : Addr) (w_LEAVE_GROUP : Addr) (w_OFFSET_FETCH : Addr) (w_FIND_COORDINATOR : Addr) (w_HEARTBEAT : Addr) (w_CREATE_TOPICS : Addr) (w_LIST_OFFSETS : Addr) (w_SYNC_GROUP : Addr) (w_API_VERSIONS : Addr) (w_JOIN_GROUP : Addr) (p1 : Int32) (p2 : Int32)
    (X0 : Stand p l e room_1 s m args below meth c T0 locs 0 0) (hx : p.tables.exec = Jvm.exec) (hZ : Z.Warmed39 s.vm) (hw : ∀ d ∈ tables_1, d.before a0 Z = true) (hby : c.code = code) (hml : c.maxLocals = 8) (hown : s.vm.findClass "com/example/melog/melog/protocol/ApiKeyServesPinLaw" = some m.cls) (e0 : T0.heap = h0) (N0 : Fr n0 locs) (O0 : Old Z n0 h0) (HW : World Z w_PRODUCE w_FETCH w_OFFSET_COMMIT w_METADATA w_LEAVE_GROUP w_OFFSET_FETCH w_FIND_COORDINATOR w_HEARTBEAT w_CREATE_TOPICS w_LIST_OFFSETS w_SYNC_GROUP w_API_VERSIONS w_JOIN_GROUP) (hk : ((p1 &&& (2147483647 : Int32)) % (13 : Int32)) = (11 : Int32)) :
    ∃ (T' : State) (locs' : List Loc), Stand p l e room_1 s m args below meth c T' locs' 0 0 ∧ Fr n0 locs' ∧ T'.heap = h0 ∧ ∀ t, Steps p.tables e below (T'.setTop (mkF m 258 #[.val (.int p1), .val (.int p2), .val (.int (11 : Int32)), .val (.int (p2.toInt16.toInt32)), .val (.ref w_API_VERSIONS), .val (.int (0 : Int32)), .val (.int (3 : Int32)), .unset] [])) t → Steps p.tables e below (T0.setTop (mkF m 0 #[.val (.int p1), .val (.int p2), .unset, .unset, .unset, .unset, .unset, .unset] [])) t := by
  obtain ⟨S_w_PRODUCE, E_w_PRODUCE, S_w_FETCH, E_w_FETCH, S_w_OFFSET_COMMIT, E_w_OFFSET_COMMIT, S_w_METADATA, E_w_METADATA, S_w_LEAVE_GROUP, E_w_LEAVE_GROUP, S_w_OFFSET_FETCH, E_w_OFFSET_FETCH, S_w_FIND_COORDINATOR, E_w_FIND_COORDINATOR, S_w_HEARTBEAT, E_w_HEARTBEAT, S_w_CREATE_TOPICS, E_w_CREATE_TOPICS, S_w_LIST_OFFSETS, E_w_LIST_OFFSETS, S_w_SYNC_GROUP, E_w_SYNC_GROUP, S_w_API_VERSIONS, E_w_API_VERSIONS, S_w_JOIN_GROUP, E_w_JOIN_GROUP, F_minVersion_w_PRODUCE, F_maxVersion_w_PRODUCE, F_minVersion_w_FETCH, F_minVersion_w_OFFSET_COMMIT, F_maxVersion_w_OFFSET_COMMIT, F_minVersion_w_METADATA, F_minVersion_w_LEAVE_GROUP, F_maxVersion_w_LEAVE_GROUP, F_minVersion_w_OFFSET_FETCH, F_maxVersion_w_OFFSET_FETCH, F_minVersion_w_FIND_COORDINATOR, F_maxVersion_w_FIND_COORDINATOR, F_minVersion_w_HEARTBEAT, F_minVersion_w_CREATE_TOPICS, F_maxVersion_w_CREATE_TOPICS, F_minVersion_w_LIST_OFFSETS, F_maxVersion_w_LIST_OFFSETS, F_maxVersion_w_METADATA, F_maxVersion_w_HEARTBEAT, F_minVersion_w_SYNC_GROUP, F_minVersion_w_API_VERSIONS, F_maxVersion_w_API_VERSIONS, F_maxVersion_w_FETCH, F_maxVersion_w_SYNC_GROUP, F_minVersion_w_JOIN_GROUP, F_maxVersion_w_JOIN_GROUP, ne_w_PRODUCE_w_FETCH, ne_w_PRODUCE_w_OFFSET_COMMIT, ne_w_PRODUCE_w_METADATA, ne_w_PRODUCE_w_LEAVE_GROUP, ne_w_PRODUCE_w_OFFSET_FETCH, ne_w_PRODUCE_w_FIND_COORDINATOR, ne_w_PRODUCE_w_HEARTBEAT, ne_w_PRODUCE_w_CREATE_TOPICS, ne_w_PRODUCE_w_LIST_OFFSETS, ne_w_PRODUCE_w_SYNC_GROUP, ne_w_PRODUCE_w_API_VERSIONS, ne_w_PRODUCE_w_JOIN_GROUP, ne_w_FETCH_w_OFFSET_COMMIT, ne_w_FETCH_w_METADATA, ne_w_FETCH_w_LEAVE_GROUP, ne_w_FETCH_w_OFFSET_FETCH, ne_w_FETCH_w_FIND_COORDINATOR, ne_w_FETCH_w_HEARTBEAT, ne_w_FETCH_w_CREATE_TOPICS, ne_w_FETCH_w_LIST_OFFSETS, ne_w_FETCH_w_SYNC_GROUP, ne_w_FETCH_w_API_VERSIONS, ne_w_FETCH_w_JOIN_GROUP, ne_w_OFFSET_COMMIT_w_METADATA, ne_w_OFFSET_COMMIT_w_LEAVE_GROUP, ne_w_OFFSET_COMMIT_w_OFFSET_FETCH, ne_w_OFFSET_COMMIT_w_FIND_COORDINATOR, ne_w_OFFSET_COMMIT_w_HEARTBEAT, ne_w_OFFSET_COMMIT_w_CREATE_TOPICS, ne_w_OFFSET_COMMIT_w_LIST_OFFSETS, ne_w_OFFSET_COMMIT_w_SYNC_GROUP, ne_w_OFFSET_COMMIT_w_API_VERSIONS, ne_w_OFFSET_COMMIT_w_JOIN_GROUP, ne_w_METADATA_w_LEAVE_GROUP, ne_w_METADATA_w_OFFSET_FETCH, ne_w_METADATA_w_FIND_COORDINATOR, ne_w_METADATA_w_HEARTBEAT, ne_w_METADATA_w_LIST_OFFSETS, ne_w_METADATA_w_SYNC_GROUP, ne_w_METADATA_w_API_VERSIONS, ne_w_METADATA_w_JOIN_GROUP, ne_w_LEAVE_GROUP_w_OFFSET_FETCH, ne_w_LEAVE_GROUP_w_FIND_COORDINATOR, ne_w_LEAVE_GROUP_w_HEARTBEAT, ne_w_LEAVE_GROUP_w_CREATE_TOPICS, ne_w_LEAVE_GROUP_w_LIST_OFFSETS, ne_w_LEAVE_GROUP_w_SYNC_GROUP, ne_w_LEAVE_GROUP_w_API_VERSIONS, ne_w_LEAVE_GROUP_w_JOIN_GROUP, ne_w_OFFSET_FETCH_w_FIND_COORDINATOR, ne_w_OFFSET_FETCH_w_HEARTBEAT, ne_w_OFFSET_FETCH_w_CREATE_TOPICS, ne_w_OFFSET_FETCH_w_LIST_OFFSETS, ne_w_OFFSET_FETCH_w_SYNC_GROUP, ne_w_OFFSET_FETCH_w_API_VERSIONS, ne_w_OFFSET_FETCH_w_JOIN_GROUP, ne_w_FIND_COORDINATOR_w_HEARTBEAT, ne_w_FIND_COORDINATOR_w_CREATE_TOPICS, ne_w_FIND_COORDINATOR_w_LIST_OFFSETS, ne_w_FIND_COORDINATOR_w_SYNC_GROUP, ne_w_FIND_COORDINATOR_w_API_VERSIONS, ne_w_FIND_COORDINATOR_w_JOIN_GROUP, ne_w_HEARTBEAT_w_CREATE_TOPICS, ne_w_HEARTBEAT_w_LIST_OFFSETS, ne_w_HEARTBEAT_w_JOIN_GROUP, ne_w_CREATE_TOPICS_w_LIST_OFFSETS, ne_w_CREATE_TOPICS_w_SYNC_GROUP, ne_w_CREATE_TOPICS_w_API_VERSIONS, ne_w_CREATE_TOPICS_w_JOIN_GROUP, ne_w_LIST_OFFSETS_w_SYNC_GROUP, ne_w_LIST_OFFSETS_w_API_VERSIONS, ne_w_LIST_OFFSETS_w_JOIN_GROUP, ne_w_SYNC_GROUP_w_JOIN_GROUP, ne_w_API_VERSIONS_w_JOIN_GROUP, -⟩ := id HW
  obtain ⟨T1, X1, e1, st1⟩ := getS2 X0 hx hZ hown (host := "") (Or.inl (hw _ (List.mem_of_getElem? (i := 33) rfl))) Via.refl e0 (S_w_API_VERSIONS.ext O0.2) (g := (mkF m 233 #[.val (.int p1), .val (.int p2), .val (.int (11 : Int32)), .val (.int (p2.toInt16.toInt32)), .unset, .unset, .unset, .unset] [])) rfl (hb hby at_233)
  refine ⟨T1, _, X1, N0, e1, fun t kt => ?_⟩
  show Steps p.tables e below (T0.setTop (mkF m 0 #[.val (.int p1), .val (.int p2), .unset, .unset, .unset, .unset, .unset, .unset] [])) _
  refine XS.iloadN X0.here hx rfl (hb hby at_0) rfl ?_
  show Steps p.tables e below (T0.setTop (mkF m 1 #[.val (.int p1), .val (.int p2), .unset, .unset, .unset, .unset, .unset, .unset] [(.int p1)])) _
  refine X0.ldcInt hx hown (mvT hZ (hw _ (List.mem_of_getElem? (i := 0) rfl))) (g := (mkF m 1 #[.val (.int p1), .val (.int p2), .unset, .unset, .unset, .unset, .unset, .unset] [(.int p1)])) rfl (hb hby at_1) _ ?_
  show Steps p.tables e below (T0.setTop (mkF m 3 #[.val (.int p1), .val (.int p2), .unset, .unset, .unset, .unset, .unset, .unset] [(.int (2147483647 : Int32)), (.int p1)])) _
  refine XS.iand X0.here hx rfl (hb hby at_3) rfl ?_
  show Steps p.tables e below (T0.setTop (mkF m 4 #[.val (.int p1), .val (.int p2), .unset, .unset, .unset, .unset, .unset, .unset] [(.int (p1 &&& (2147483647 : Int32)))])) _
  refine XS.bipush X0.here hx rfl (hb hby at_4) ?_
  show Steps p.tables e below (T0.setTop (mkF m 6 #[.val (.int p1), .val (.int p2), .unset, .unset, .unset, .unset, .unset, .unset] [(.int (13 : Int32)), (.int (p1 &&& (2147483647 : Int32)))])) _
  refine iremM X0 hx rfl (hb hby at_6) rfl (by decide) ?_
  rw [hk]
  show Steps p.tables e below (T0.setTop (mkF m 7 #[.val (.int p1), .val (.int p2), .unset, .unset, .unset, .unset, .unset, .unset] [(.int (11 : Int32))])) _
  refine XS.istoreN X0.here hx rfl (hb hby at_7) rfl (l' := #[.val (.int p1), .val (.int p2), .val (.int (11 : Int32)), .unset, .unset, .unset, .unset, .unset]) rfl ?_
  show Steps p.tables e below (T0.setTop (mkF m 8 #[.val (.int p1), .val (.int p2), .val (.int (11 : Int32)), .unset, .unset, .unset, .unset, .unset] [])) _
  refine XS.iloadN X0.here hx rfl (hb hby at_8) rfl ?_
  show Steps p.tables e below (T0.setTop (mkF m 9 #[.val (.int p1), .val (.int p2), .val (.int (11 : Int32)), .unset, .unset, .unset, .unset, .unset] [(.int p2)])) _
  refine XS.i2s X0.here hx rfl (hb hby at_9) rfl ?_
  show Steps p.tables e below (T0.setTop (mkF m 10 #[.val (.int p1), .val (.int p2), .val (.int (11 : Int32)), .unset, .unset, .unset, .unset, .unset] [(.int (p2.toInt16.toInt32))])) _
  refine XS.istoreN X0.here hx rfl (hb hby at_10) rfl (l' := #[.val (.int p1), .val (.int p2), .val (.int (11 : Int32)), .val (.int (p2.toInt16.toInt32)), .unset, .unset, .unset, .unset]) rfl ?_
  show Steps p.tables e below (T0.setTop (mkF m 11 #[.val (.int p1), .val (.int p2), .val (.int (11 : Int32)), .val (.int (p2.toInt16.toInt32)), .unset, .unset, .unset, .unset] [])) _
  refine XS.iloadN X0.here hx rfl (hb hby at_11) rfl ?_
  show Steps p.tables e below (T0.setTop (mkF m 12 #[.val (.int p1), .val (.int p2), .val (.int (11 : Int32)), .val (.int (p2.toInt16.toInt32)), .unset, .unset, .unset, .unset] [(.int (11 : Int32))])) _
  refine XS.ifYes X0.here hx rfl (pc0 := 12) (pc' := 30) rfl (hb hby at_12) rfl ((if0 _ _).trans (feq (by decide : ¬ ((11 : Int32) = (0 : Int32)))).2) (by decide) (by decide) ?_
  show Steps p.tables e below (T0.setTop (mkF m 30 #[.val (.int p1), .val (.int p2), .val (.int (11 : Int32)), .val (.int (p2.toInt16.toInt32)), .unset, .unset, .unset, .unset] [])) _
  refine XS.iloadN X0.here hx rfl (hb hby at_30) rfl ?_
  show Steps p.tables e below (T0.setTop (mkF m 31 #[.val (.int p1), .val (.int p2), .val (.int (11 : Int32)), .val (.int (p2.toInt16.toInt32)), .unset, .unset, .unset, .unset] [(.int (11 : Int32))])) _
  refine XS.iconst X0.here hx rfl (hb hby at_31) ?_
  show Steps p.tables e below (T0.setTop (mkF m 32 #[.val (.int p1), .val (.int p2), .val (.int (11 : Int32)), .val (.int (p2.toInt16.toInt32)), .unset, .unset, .unset, .unset] [(.int (1 : Int32)), (.int (11 : Int32))])) _
  refine XS.icmpYes X0.here hx rfl (pc0 := 32) (pc' := 50) rfl (hb hby at_32) rfl (feq (by decide : ¬ ((11 : Int32) = (1 : Int32)))).2 (by decide) (by decide) ?_
  show Steps p.tables e below (T0.setTop (mkF m 50 #[.val (.int p1), .val (.int p2), .val (.int (11 : Int32)), .val (.int (p2.toInt16.toInt32)), .unset, .unset, .unset, .unset] [])) _
  refine XS.iloadN X0.here hx rfl (hb hby at_50) rfl ?_
  show Steps p.tables e below (T0.setTop (mkF m 51 #[.val (.int p1), .val (.int p2), .val (.int (11 : Int32)), .val (.int (p2.toInt16.toInt32)), .unset, .unset, .unset, .unset] [(.int (11 : Int32))])) _
  refine XS.iconst X0.here hx rfl (hb hby at_51) ?_
  show Steps p.tables e below (T0.setTop (mkF m 52 #[.val (.int p1), .val (.int p2), .val (.int (11 : Int32)), .val (.int (p2.toInt16.toInt32)), .unset, .unset, .unset, .unset] [(.int (2 : Int32)), (.int (11 : Int32))])) _
  refine XS.icmpYes X0.here hx rfl (pc0 := 52) (pc' := 69) rfl (hb hby at_52) rfl (feq (by decide : ¬ ((11 : Int32) = (2 : Int32)))).2 (by decide) (by decide) ?_
  show Steps p.tables e below (T0.setTop (mkF m 69 #[.val (.int p1), .val (.int p2), .val (.int (11 : Int32)), .val (.int (p2.toInt16.toInt32)), .unset, .unset, .unset, .unset] [])) _
  refine XS.iloadN X0.here hx rfl (hb hby at_69) rfl ?_
  show Steps p.tables e below (T0.setTop (mkF m 70 #[.val (.int p1), .val (.int p2), .val (.int (11 : Int32)), .val (.int (p2.toInt16.toInt32)), .unset, .unset, .unset, .unset] [(.int (11 : Int32))])) _
  refine XS.iconst X0.here hx rfl (hb hby at_70) ?_
  show Steps p.tables e below (T0.setTop (mkF m 71 #[.val (.int p1), .val (.int p2), .val (.int (11 : Int32)), .val (.int (p2.toInt16.toInt32)), .unset, .unset, .unset, .unset] [(.int (3 : Int32)), (.int (11 : Int32))])) _
  refine XS.icmpYes X0.here hx rfl (pc0 := 71) (pc' := 88) rfl (hb hby at_71) rfl (feq (by decide : ¬ ((11 : Int32) = (3 : Int32)))).2 (by decide) (by decide) ?_
  show Steps p.tables e below (T0.setTop (mkF m 88 #[.val (.int p1), .val (.int p2), .val (.int (11 : Int32)), .val (.int (p2.toInt16.toInt32)), .unset, .unset, .unset, .unset] [])) _
  refine XS.iloadN X0.here hx rfl (hb hby at_88) rfl ?_
  show Steps p.tables e below (T0.setTop (mkF m 89 #[.val (.int p1), .val (.int p2), .val (.int (11 : Int32)), .val (.int (p2.toInt16.toInt32)), .unset, .unset, .unset, .unset] [(.int (11 : Int32))])) _
  refine XS.iconst X0.here hx rfl (hb hby at_89) ?_
  show Steps p.tables e below (T0.setTop (mkF m 90 #[.val (.int p1), .val (.int p2), .val (.int (11 : Int32)), .val (.int (p2.toInt16.toInt32)), .unset, .unset, .unset, .unset] [(.int (4 : Int32)), (.int (11 : Int32))])) _
  refine XS.icmpYes X0.here hx rfl (pc0 := 90) (pc' := 108) rfl (hb hby at_90) rfl (feq (by decide : ¬ ((11 : Int32) = (4 : Int32)))).2 (by decide) (by decide) ?_
  show Steps p.tables e below (T0.setTop (mkF m 108 #[.val (.int p1), .val (.int p2), .val (.int (11 : Int32)), .val (.int (p2.toInt16.toInt32)), .unset, .unset, .unset, .unset] [])) _
  refine XS.iloadN X0.here hx rfl (hb hby at_108) rfl ?_
  show Steps p.tables e below (T0.setTop (mkF m 109 #[.val (.int p1), .val (.int p2), .val (.int (11 : Int32)), .val (.int (p2.toInt16.toInt32)), .unset, .unset, .unset, .unset] [(.int (11 : Int32))])) _
  refine XS.iconst X0.here hx rfl (hb hby at_109) ?_
  show Steps p.tables e below (T0.setTop (mkF m 110 #[.val (.int p1), .val (.int p2), .val (.int (11 : Int32)), .val (.int (p2.toInt16.toInt32)), .unset, .unset, .unset, .unset] [(.int (5 : Int32)), (.int (11 : Int32))])) _
  refine XS.icmpYes X0.here hx rfl (pc0 := 110) (pc' := 127) rfl (hb hby at_110) rfl (feq (by decide : ¬ ((11 : Int32) = (5 : Int32)))).2 (by decide) (by decide) ?_
  show Steps p.tables e below (T0.setTop (mkF m 127 #[.val (.int p1), .val (.int p2), .val (.int (11 : Int32)), .val (.int (p2.toInt16.toInt32)), .unset, .unset, .unset, .unset] [])) _
  refine XS.iloadN X0.here hx rfl (hb hby at_127) rfl ?_
  show Steps p.tables e below (T0.setTop (mkF m 128 #[.val (.int p1), .val (.int p2), .val (.int (11 : Int32)), .val (.int (p2.toInt16.toInt32)), .unset, .unset, .unset, .unset] [(.int (11 : Int32))])) _
  refine XS.bipush X0.here hx rfl (hb hby at_128) ?_
  show Steps p.tables e below (T0.setTop (mkF m 130 #[.val (.int p1), .val (.int p2), .val (.int (11 : Int32)), .val (.int (p2.toInt16.toInt32)), .unset, .unset, .unset, .unset] [(.int (6 : Int32)), (.int (11 : Int32))])) _
  refine XS.icmpYes X0.here hx rfl (pc0 := 130) (pc' := 147) rfl (hb hby at_130) rfl (feq (by decide : ¬ ((11 : Int32) = (6 : Int32)))).2 (by decide) (by decide) ?_
  show Steps p.tables e below (T0.setTop (mkF m 147 #[.val (.int p1), .val (.int p2), .val (.int (11 : Int32)), .val (.int (p2.toInt16.toInt32)), .unset, .unset, .unset, .unset] [])) _
  refine XS.iloadN X0.here hx rfl (hb hby at_147) rfl ?_
  show Steps p.tables e below (T0.setTop (mkF m 148 #[.val (.int p1), .val (.int p2), .val (.int (11 : Int32)), .val (.int (p2.toInt16.toInt32)), .unset, .unset, .unset, .unset] [(.int (11 : Int32))])) _
  refine XS.bipush X0.here hx rfl (hb hby at_148) ?_
  show Steps p.tables e below (T0.setTop (mkF m 150 #[.val (.int p1), .val (.int p2), .val (.int (11 : Int32)), .val (.int (p2.toInt16.toInt32)), .unset, .unset, .unset, .unset] [(.int (7 : Int32)), (.int (11 : Int32))])) _
  refine XS.icmpYes X0.here hx rfl (pc0 := 150) (pc' := 167) rfl (hb hby at_150) rfl (feq (by decide : ¬ ((11 : Int32) = (7 : Int32)))).2 (by decide) (by decide) ?_
  show Steps p.tables e below (T0.setTop (mkF m 167 #[.val (.int p1), .val (.int p2), .val (.int (11 : Int32)), .val (.int (p2.toInt16.toInt32)), .unset, .unset, .unset, .unset] [])) _
  refine XS.iloadN X0.here hx rfl (hb hby at_167) rfl ?_
  show Steps p.tables e below (T0.setTop (mkF m 168 #[.val (.int p1), .val (.int p2), .val (.int (11 : Int32)), .val (.int (p2.toInt16.toInt32)), .unset, .unset, .unset, .unset] [(.int (11 : Int32))])) _
  refine XS.bipush X0.here hx rfl (hb hby at_168) ?_
  show Steps p.tables e below (T0.setTop (mkF m 170 #[.val (.int p1), .val (.int p2), .val (.int (11 : Int32)), .val (.int (p2.toInt16.toInt32)), .unset, .unset, .unset, .unset] [(.int (8 : Int32)), (.int (11 : Int32))])) _
  refine XS.icmpYes X0.here hx rfl (pc0 := 170) (pc' := 187) rfl (hb hby at_170) rfl (feq (by decide : ¬ ((11 : Int32) = (8 : Int32)))).2 (by decide) (by decide) ?_
  show Steps p.tables e below (T0.setTop (mkF m 187 #[.val (.int p1), .val (.int p2), .val (.int (11 : Int32)), .val (.int (p2.toInt16.toInt32)), .unset, .unset, .unset, .unset] [])) _
  refine XS.iloadN X0.here hx rfl (hb hby at_187) rfl ?_
  show Steps p.tables e below (T0.setTop (mkF m 188 #[.val (.int p1), .val (.int p2), .val (.int (11 : Int32)), .val (.int (p2.toInt16.toInt32)), .unset, .unset, .unset, .unset] [(.int (11 : Int32))])) _
  refine XS.bipush X0.here hx rfl (hb hby at_188) ?_
  show Steps p.tables e below (T0.setTop (mkF m 190 #[.val (.int p1), .val (.int p2), .val (.int (11 : Int32)), .val (.int (p2.toInt16.toInt32)), .unset, .unset, .unset, .unset] [(.int (9 : Int32)), (.int (11 : Int32))])) _
  refine XS.icmpYes X0.here hx rfl (pc0 := 190) (pc' := 207) rfl (hb hby at_190) rfl (feq (by decide : ¬ ((11 : Int32) = (9 : Int32)))).2 (by decide) (by decide) ?_
  show Steps p.tables e below (T0.setTop (mkF m 207 #[.val (.int p1), .val (.int p2), .val (.int (11 : Int32)), .val (.int (p2.toInt16.toInt32)), .unset, .unset, .unset, .unset] [])) _
  refine XS.iloadN X0.here hx rfl (hb hby at_207) rfl ?_
  show Steps p.tables e below (T0.setTop (mkF m 208 #[.val (.int p1), .val (.int p2), .val (.int (11 : Int32)), .val (.int (p2.toInt16.toInt32)), .unset, .unset, .unset, .unset] [(.int (11 : Int32))])) _
  refine XS.bipush X0.here hx rfl (hb hby at_208) ?_
  show Steps p.tables e below (T0.setTop (mkF m 210 #[.val (.int p1), .val (.int p2), .val (.int (11 : Int32)), .val (.int (p2.toInt16.toInt32)), .unset, .unset, .unset, .unset] [(.int (10 : Int32)), (.int (11 : Int32))])) _
  refine XS.icmpYes X0.here hx rfl (pc0 := 210) (pc' := 227) rfl (hb hby at_210) rfl (feq (by decide : ¬ ((11 : Int32) = (10 : Int32)))).2 (by decide) (by decide) ?_
  show Steps p.tables e below (T0.setTop (mkF m 227 #[.val (.int p1), .val (.int p2), .val (.int (11 : Int32)), .val (.int (p2.toInt16.toInt32)), .unset, .unset, .unset, .unset] [])) _
  refine XS.iloadN X0.here hx rfl (hb hby at_227) rfl ?_
  show Steps p.tables e below (T0.setTop (mkF m 228 #[.val (.int p1), .val (.int p2), .val (.int (11 : Int32)), .val (.int (p2.toInt16.toInt32)), .unset, .unset, .unset, .unset] [(.int (11 : Int32))])) _
  refine XS.bipush X0.here hx rfl (hb hby at_228) ?_
  show Steps p.tables e below (T0.setTop (mkF m 230 #[.val (.int p1), .val (.int p2), .val (.int (11 : Int32)), .val (.int (p2.toInt16.toInt32)), .unset, .unset, .unset, .unset] [(.int (11 : Int32)), (.int (11 : Int32))])) _
  refine XS.icmpNo X0.here hx rfl (hb hby at_230) rfl (teq (by decide : (11 : Int32) = (11 : Int32))).2 ?_
  show Steps p.tables e below (T0.setTop (mkF m 233 #[.val (.int p1), .val (.int p2), .val (.int (11 : Int32)), .val (.int (p2.toInt16.toInt32)), .unset, .unset, .unset, .unset] [])) _
  refine st1 _ ?_
  show Steps p.tables e below (T1.setTop (mkF m 236 #[.val (.int p1), .val (.int p2), .val (.int (11 : Int32)), .val (.int (p2.toInt16.toInt32)), .unset, .unset, .unset, .unset] [(.ref w_API_VERSIONS)])) _
  refine XS.astore X1.here hx rfl (hb hby at_236) rfl rfl (l' := #[.val (.int p1), .val (.int p2), .val (.int (11 : Int32)), .val (.int (p2.toInt16.toInt32)), .val (.ref w_API_VERSIONS), .unset, .unset, .unset]) rfl ?_
  show Steps p.tables e below (T1.setTop (mkF m 238 #[.val (.int p1), .val (.int p2), .val (.int (11 : Int32)), .val (.int (p2.toInt16.toInt32)), .val (.ref w_API_VERSIONS), .unset, .unset, .unset] [])) _
  refine XS.iconst X1.here hx rfl (hb hby at_238) ?_
  show Steps p.tables e below (T1.setTop (mkF m 239 #[.val (.int p1), .val (.int p2), .val (.int (11 : Int32)), .val (.int (p2.toInt16.toInt32)), .val (.ref w_API_VERSIONS), .unset, .unset, .unset] [(.int (0 : Int32))])) _
  refine XS.istore X1.here hx rfl (hb hby at_239) rfl (l' := #[.val (.int p1), .val (.int p2), .val (.int (11 : Int32)), .val (.int (p2.toInt16.toInt32)), .val (.ref w_API_VERSIONS), .val (.int (0 : Int32)), .unset, .unset]) rfl ?_
  show Steps p.tables e below (T1.setTop (mkF m 241 #[.val (.int p1), .val (.int p2), .val (.int (11 : Int32)), .val (.int (p2.toInt16.toInt32)), .val (.ref w_API_VERSIONS), .val (.int (0 : Int32)), .unset, .unset] [])) _
  refine XS.iconst X1.here hx rfl (hb hby at_241) ?_
  show Steps p.tables e below (T1.setTop (mkF m 242 #[.val (.int p1), .val (.int p2), .val (.int (11 : Int32)), .val (.int (p2.toInt16.toInt32)), .val (.ref w_API_VERSIONS), .val (.int (0 : Int32)), .unset, .unset] [(.int (3 : Int32))])) _
  refine XS.istore X1.here hx rfl (hb hby at_242) rfl (l' := #[.val (.int p1), .val (.int p2), .val (.int (11 : Int32)), .val (.int (p2.toInt16.toInt32)), .val (.ref w_API_VERSIONS), .val (.int (0 : Int32)), .val (.int (3 : Int32)), .unset]) rfl ?_
  show Steps p.tables e below (T1.setTop (mkF m 244 #[.val (.int p1), .val (.int p2), .val (.int (11 : Int32)), .val (.int (p2.toInt16.toInt32)), .val (.ref w_API_VERSIONS), .val (.int (0 : Int32)), .val (.int (3 : Int32)), .unset] [])) _
  refine XS.goto X1.here hx rfl (pc0 := 244) (pc' := 258) rfl (hb hby at_244) (by decide) (by decide) ?_
  show Steps p.tables e below (T1.setTop (mkF m 258 #[.val (.int p1), .val (.int p2), .val (.int (11 : Int32)), .val (.int (p2.toInt16.toInt32)), .val (.ref w_API_VERSIONS), .val (.int (0 : Int32)), .val (.int (3 : Int32)), .unset] [])) _
  exact kt
set_option maxRecDepth 65536 in
set_option maxHeartbeats 40000000 in
theorem seg12 {p : Program} {l : Launch} {e : Env} {s : State} {m : MethodId} {args : Array Value} {below : List Frame} {meth : Method} {c : Code} {T0 : State} {locs : List Loc} {Z : State} {a0 : Array Value} {h0 : Heap} {n0 : Nat} (w_PRODUCE : Addr) (w_FETCH : Addr) (w_OFFSET_COMMIT : Addr) (w_METADATA : Addr) (w_LEAVE_GROUP : Addr) (w_OFFSET_FETCH : Addr) (w_FIND_COORDINATOR : Addr) (w_HEARTBEAT : Addr) (w_CREATE_TOPICS : Addr) (w_LIST_OFFSETS : Addr) (w_SYNC_GROUP : Addr) (w_API_VERSIONS : Addr) (w_JOIN_GROUP : Addr) (p1 : Int32) (p2 : Int32)
    (X0 : Stand p l e room_1 s m args below meth c T0 locs 0 0) (hx : p.tables.exec = Jvm.exec) (hZ : Z.Warmed39 s.vm) (hw : ∀ d ∈ tables_1, d.before a0 Z = true) (hby : c.code = code) (hml : c.maxLocals = 8) (hown : s.vm.findClass "com/example/melog/melog/protocol/ApiKeyServesPinLaw" = some m.cls) (e0 : T0.heap = h0) (N0 : Fr n0 locs) (O0 : Old Z n0 h0) (HW : World Z w_PRODUCE w_FETCH w_OFFSET_COMMIT w_METADATA w_LEAVE_GROUP w_OFFSET_FETCH w_FIND_COORDINATOR w_HEARTBEAT w_CREATE_TOPICS w_LIST_OFFSETS w_SYNC_GROUP w_API_VERSIONS w_JOIN_GROUP) (hk : ((p1 &&& (2147483647 : Int32)) % (13 : Int32)) = (12 : Int32)) :
    ∃ (T' : State) (locs' : List Loc), Stand p l e room_1 s m args below meth c T' locs' 0 0 ∧ Fr n0 locs' ∧ T'.heap = h0 ∧ ∀ t, Steps p.tables e below (T'.setTop (mkF m 258 #[.val (.int p1), .val (.int p2), .val (.int (12 : Int32)), .val (.int (p2.toInt16.toInt32)), .val (.ref w_CREATE_TOPICS), .val (.int (0 : Int32)), .val (.int (4 : Int32)), .unset] [])) t → Steps p.tables e below (T0.setTop (mkF m 0 #[.val (.int p1), .val (.int p2), .unset, .unset, .unset, .unset, .unset, .unset] [])) t := by
  obtain ⟨S_w_PRODUCE, E_w_PRODUCE, S_w_FETCH, E_w_FETCH, S_w_OFFSET_COMMIT, E_w_OFFSET_COMMIT, S_w_METADATA, E_w_METADATA, S_w_LEAVE_GROUP, E_w_LEAVE_GROUP, S_w_OFFSET_FETCH, E_w_OFFSET_FETCH, S_w_FIND_COORDINATOR, E_w_FIND_COORDINATOR, S_w_HEARTBEAT, E_w_HEARTBEAT, S_w_CREATE_TOPICS, E_w_CREATE_TOPICS, S_w_LIST_OFFSETS, E_w_LIST_OFFSETS, S_w_SYNC_GROUP, E_w_SYNC_GROUP, S_w_API_VERSIONS, E_w_API_VERSIONS, S_w_JOIN_GROUP, E_w_JOIN_GROUP, F_minVersion_w_PRODUCE, F_maxVersion_w_PRODUCE, F_minVersion_w_FETCH, F_minVersion_w_OFFSET_COMMIT, F_maxVersion_w_OFFSET_COMMIT, F_minVersion_w_METADATA, F_minVersion_w_LEAVE_GROUP, F_maxVersion_w_LEAVE_GROUP, F_minVersion_w_OFFSET_FETCH, F_maxVersion_w_OFFSET_FETCH, F_minVersion_w_FIND_COORDINATOR, F_maxVersion_w_FIND_COORDINATOR, F_minVersion_w_HEARTBEAT, F_minVersion_w_CREATE_TOPICS, F_maxVersion_w_CREATE_TOPICS, F_minVersion_w_LIST_OFFSETS, F_maxVersion_w_LIST_OFFSETS, F_maxVersion_w_METADATA, F_maxVersion_w_HEARTBEAT, F_minVersion_w_SYNC_GROUP, F_minVersion_w_API_VERSIONS, F_maxVersion_w_API_VERSIONS, F_maxVersion_w_FETCH, F_maxVersion_w_SYNC_GROUP, F_minVersion_w_JOIN_GROUP, F_maxVersion_w_JOIN_GROUP, ne_w_PRODUCE_w_FETCH, ne_w_PRODUCE_w_OFFSET_COMMIT, ne_w_PRODUCE_w_METADATA, ne_w_PRODUCE_w_LEAVE_GROUP, ne_w_PRODUCE_w_OFFSET_FETCH, ne_w_PRODUCE_w_FIND_COORDINATOR, ne_w_PRODUCE_w_HEARTBEAT, ne_w_PRODUCE_w_CREATE_TOPICS, ne_w_PRODUCE_w_LIST_OFFSETS, ne_w_PRODUCE_w_SYNC_GROUP, ne_w_PRODUCE_w_API_VERSIONS, ne_w_PRODUCE_w_JOIN_GROUP, ne_w_FETCH_w_OFFSET_COMMIT, ne_w_FETCH_w_METADATA, ne_w_FETCH_w_LEAVE_GROUP, ne_w_FETCH_w_OFFSET_FETCH, ne_w_FETCH_w_FIND_COORDINATOR, ne_w_FETCH_w_HEARTBEAT, ne_w_FETCH_w_CREATE_TOPICS, ne_w_FETCH_w_LIST_OFFSETS, ne_w_FETCH_w_SYNC_GROUP, ne_w_FETCH_w_API_VERSIONS, ne_w_FETCH_w_JOIN_GROUP, ne_w_OFFSET_COMMIT_w_METADATA, ne_w_OFFSET_COMMIT_w_LEAVE_GROUP, ne_w_OFFSET_COMMIT_w_OFFSET_FETCH, ne_w_OFFSET_COMMIT_w_FIND_COORDINATOR, ne_w_OFFSET_COMMIT_w_HEARTBEAT, ne_w_OFFSET_COMMIT_w_CREATE_TOPICS, ne_w_OFFSET_COMMIT_w_LIST_OFFSETS, ne_w_OFFSET_COMMIT_w_SYNC_GROUP, ne_w_OFFSET_COMMIT_w_API_VERSIONS, ne_w_OFFSET_COMMIT_w_JOIN_GROUP, ne_w_METADATA_w_LEAVE_GROUP, ne_w_METADATA_w_OFFSET_FETCH, ne_w_METADATA_w_FIND_COORDINATOR, ne_w_METADATA_w_HEARTBEAT, ne_w_METADATA_w_LIST_OFFSETS, ne_w_METADATA_w_SYNC_GROUP, ne_w_METADATA_w_API_VERSIONS, ne_w_METADATA_w_JOIN_GROUP, ne_w_LEAVE_GROUP_w_OFFSET_FETCH, ne_w_LEAVE_GROUP_w_FIND_COORDINATOR, ne_w_LEAVE_GROUP_w_HEARTBEAT, ne_w_LEAVE_GROUP_w_CREATE_TOPICS, ne_w_LEAVE_GROUP_w_LIST_OFFSETS, ne_w_LEAVE_GROUP_w_SYNC_GROUP, ne_w_LEAVE_GROUP_w_API_VERSIONS, ne_w_LEAVE_GROUP_w_JOIN_GROUP, ne_w_OFFSET_FETCH_w_FIND_COORDINATOR, ne_w_OFFSET_FETCH_w_HEARTBEAT, ne_w_OFFSET_FETCH_w_CREATE_TOPICS, ne_w_OFFSET_FETCH_w_LIST_OFFSETS, ne_w_OFFSET_FETCH_w_SYNC_GROUP, ne_w_OFFSET_FETCH_w_API_VERSIONS, ne_w_OFFSET_FETCH_w_JOIN_GROUP, ne_w_FIND_COORDINATOR_w_HEARTBEAT, ne_w_FIND_COORDINATOR_w_CREATE_TOPICS, ne_w_FIND_COORDINATOR_w_LIST_OFFSETS, ne_w_FIND_COORDINATOR_w_SYNC_GROUP, ne_w_FIND_COORDINATOR_w_API_VERSIONS, ne_w_FIND_COORDINATOR_w_JOIN_GROUP, ne_w_HEARTBEAT_w_CREATE_TOPICS, ne_w_HEARTBEAT_w_LIST_OFFSETS, ne_w_HEARTBEAT_w_JOIN_GROUP, ne_w_CREATE_TOPICS_w_LIST_OFFSETS, ne_w_CREATE_TOPICS_w_SYNC_GROUP, ne_w_CREATE_TOPICS_w_API_VERSIONS, ne_w_CREATE_TOPICS_w_JOIN_GROUP, ne_w_LIST_OFFSETS_w_SYNC_GROUP, ne_w_LIST_OFFSETS_w_API_VERSIONS, ne_w_LIST_OFFSETS_w_JOIN_GROUP, ne_w_SYNC_GROUP_w_JOIN_GROUP, ne_w_API_VERSIONS_w_JOIN_GROUP, -⟩ := id HW
  obtain ⟨T1, X1, e1, st1⟩ := getS2 X0 hx hZ hown (host := "") (Or.inl (hw _ (List.mem_of_getElem? (i := 27) rfl))) Via.refl e0 (S_w_CREATE_TOPICS.ext O0.2) (g := (mkF m 247 #[.val (.int p1), .val (.int p2), .val (.int (12 : Int32)), .val (.int (p2.toInt16.toInt32)), .unset, .unset, .unset, .unset] [])) rfl (hb hby at_247)
  refine ⟨T1, _, X1, N0, e1, fun t kt => ?_⟩
  show Steps p.tables e below (T0.setTop (mkF m 0 #[.val (.int p1), .val (.int p2), .unset, .unset, .unset, .unset, .unset, .unset] [])) _
  refine XS.iloadN X0.here hx rfl (hb hby at_0) rfl ?_
  show Steps p.tables e below (T0.setTop (mkF m 1 #[.val (.int p1), .val (.int p2), .unset, .unset, .unset, .unset, .unset, .unset] [(.int p1)])) _
  refine X0.ldcInt hx hown (mvT hZ (hw _ (List.mem_of_getElem? (i := 0) rfl))) (g := (mkF m 1 #[.val (.int p1), .val (.int p2), .unset, .unset, .unset, .unset, .unset, .unset] [(.int p1)])) rfl (hb hby at_1) _ ?_
  show Steps p.tables e below (T0.setTop (mkF m 3 #[.val (.int p1), .val (.int p2), .unset, .unset, .unset, .unset, .unset, .unset] [(.int (2147483647 : Int32)), (.int p1)])) _
  refine XS.iand X0.here hx rfl (hb hby at_3) rfl ?_
  show Steps p.tables e below (T0.setTop (mkF m 4 #[.val (.int p1), .val (.int p2), .unset, .unset, .unset, .unset, .unset, .unset] [(.int (p1 &&& (2147483647 : Int32)))])) _
  refine XS.bipush X0.here hx rfl (hb hby at_4) ?_
  show Steps p.tables e below (T0.setTop (mkF m 6 #[.val (.int p1), .val (.int p2), .unset, .unset, .unset, .unset, .unset, .unset] [(.int (13 : Int32)), (.int (p1 &&& (2147483647 : Int32)))])) _
  refine iremM X0 hx rfl (hb hby at_6) rfl (by decide) ?_
  rw [hk]
  show Steps p.tables e below (T0.setTop (mkF m 7 #[.val (.int p1), .val (.int p2), .unset, .unset, .unset, .unset, .unset, .unset] [(.int (12 : Int32))])) _
  refine XS.istoreN X0.here hx rfl (hb hby at_7) rfl (l' := #[.val (.int p1), .val (.int p2), .val (.int (12 : Int32)), .unset, .unset, .unset, .unset, .unset]) rfl ?_
  show Steps p.tables e below (T0.setTop (mkF m 8 #[.val (.int p1), .val (.int p2), .val (.int (12 : Int32)), .unset, .unset, .unset, .unset, .unset] [])) _
  refine XS.iloadN X0.here hx rfl (hb hby at_8) rfl ?_
  show Steps p.tables e below (T0.setTop (mkF m 9 #[.val (.int p1), .val (.int p2), .val (.int (12 : Int32)), .unset, .unset, .unset, .unset, .unset] [(.int p2)])) _
  refine XS.i2s X0.here hx rfl (hb hby at_9) rfl ?_
  show Steps p.tables e below (T0.setTop (mkF m 10 #[.val (.int p1), .val (.int p2), .val (.int (12 : Int32)), .unset, .unset, .unset, .unset, .unset] [(.int (p2.toInt16.toInt32))])) _
  refine XS.istoreN X0.here hx rfl (hb hby at_10) rfl (l' := #[.val (.int p1), .val (.int p2), .val (.int (12 : Int32)), .val (.int (p2.toInt16.toInt32)), .unset, .unset, .unset, .unset]) rfl ?_
  show Steps p.tables e below (T0.setTop (mkF m 11 #[.val (.int p1), .val (.int p2), .val (.int (12 : Int32)), .val (.int (p2.toInt16.toInt32)), .unset, .unset, .unset, .unset] [])) _
  refine XS.iloadN X0.here hx rfl (hb hby at_11) rfl ?_
  show Steps p.tables e below (T0.setTop (mkF m 12 #[.val (.int p1), .val (.int p2), .val (.int (12 : Int32)), .val (.int (p2.toInt16.toInt32)), .unset, .unset, .unset, .unset] [(.int (12 : Int32))])) _
  refine XS.ifYes X0.here hx rfl (pc0 := 12) (pc' := 30) rfl (hb hby at_12) rfl ((if0 _ _).trans (feq (by decide : ¬ ((12 : Int32) = (0 : Int32)))).2) (by decide) (by decide) ?_
  show Steps p.tables e below (T0.setTop (mkF m 30 #[.val (.int p1), .val (.int p2), .val (.int (12 : Int32)), .val (.int (p2.toInt16.toInt32)), .unset, .unset, .unset, .unset] [])) _
  refine XS.iloadN X0.here hx rfl (hb hby at_30) rfl ?_
  show Steps p.tables e below (T0.setTop (mkF m 31 #[.val (.int p1), .val (.int p2), .val (.int (12 : Int32)), .val (.int (p2.toInt16.toInt32)), .unset, .unset, .unset, .unset] [(.int (12 : Int32))])) _
  refine XS.iconst X0.here hx rfl (hb hby at_31) ?_
  show Steps p.tables e below (T0.setTop (mkF m 32 #[.val (.int p1), .val (.int p2), .val (.int (12 : Int32)), .val (.int (p2.toInt16.toInt32)), .unset, .unset, .unset, .unset] [(.int (1 : Int32)), (.int (12 : Int32))])) _
  refine XS.icmpYes X0.here hx rfl (pc0 := 32) (pc' := 50) rfl (hb hby at_32) rfl (feq (by decide : ¬ ((12 : Int32) = (1 : Int32)))).2 (by decide) (by decide) ?_
  show Steps p.tables e below (T0.setTop (mkF m 50 #[.val (.int p1), .val (.int p2), .val (.int (12 : Int32)), .val (.int (p2.toInt16.toInt32)), .unset, .unset, .unset, .unset] [])) _
  refine XS.iloadN X0.here hx rfl (hb hby at_50) rfl ?_
  show Steps p.tables e below (T0.setTop (mkF m 51 #[.val (.int p1), .val (.int p2), .val (.int (12 : Int32)), .val (.int (p2.toInt16.toInt32)), .unset, .unset, .unset, .unset] [(.int (12 : Int32))])) _
  refine XS.iconst X0.here hx rfl (hb hby at_51) ?_
  show Steps p.tables e below (T0.setTop (mkF m 52 #[.val (.int p1), .val (.int p2), .val (.int (12 : Int32)), .val (.int (p2.toInt16.toInt32)), .unset, .unset, .unset, .unset] [(.int (2 : Int32)), (.int (12 : Int32))])) _
  refine XS.icmpYes X0.here hx rfl (pc0 := 52) (pc' := 69) rfl (hb hby at_52) rfl (feq (by decide : ¬ ((12 : Int32) = (2 : Int32)))).2 (by decide) (by decide) ?_
  show Steps p.tables e below (T0.setTop (mkF m 69 #[.val (.int p1), .val (.int p2), .val (.int (12 : Int32)), .val (.int (p2.toInt16.toInt32)), .unset, .unset, .unset, .unset] [])) _
  refine XS.iloadN X0.here hx rfl (hb hby at_69) rfl ?_
  show Steps p.tables e below (T0.setTop (mkF m 70 #[.val (.int p1), .val (.int p2), .val (.int (12 : Int32)), .val (.int (p2.toInt16.toInt32)), .unset, .unset, .unset, .unset] [(.int (12 : Int32))])) _
  refine XS.iconst X0.here hx rfl (hb hby at_70) ?_
  show Steps p.tables e below (T0.setTop (mkF m 71 #[.val (.int p1), .val (.int p2), .val (.int (12 : Int32)), .val (.int (p2.toInt16.toInt32)), .unset, .unset, .unset, .unset] [(.int (3 : Int32)), (.int (12 : Int32))])) _
  refine XS.icmpYes X0.here hx rfl (pc0 := 71) (pc' := 88) rfl (hb hby at_71) rfl (feq (by decide : ¬ ((12 : Int32) = (3 : Int32)))).2 (by decide) (by decide) ?_
  show Steps p.tables e below (T0.setTop (mkF m 88 #[.val (.int p1), .val (.int p2), .val (.int (12 : Int32)), .val (.int (p2.toInt16.toInt32)), .unset, .unset, .unset, .unset] [])) _
  refine XS.iloadN X0.here hx rfl (hb hby at_88) rfl ?_
  show Steps p.tables e below (T0.setTop (mkF m 89 #[.val (.int p1), .val (.int p2), .val (.int (12 : Int32)), .val (.int (p2.toInt16.toInt32)), .unset, .unset, .unset, .unset] [(.int (12 : Int32))])) _
  refine XS.iconst X0.here hx rfl (hb hby at_89) ?_
  show Steps p.tables e below (T0.setTop (mkF m 90 #[.val (.int p1), .val (.int p2), .val (.int (12 : Int32)), .val (.int (p2.toInt16.toInt32)), .unset, .unset, .unset, .unset] [(.int (4 : Int32)), (.int (12 : Int32))])) _
  refine XS.icmpYes X0.here hx rfl (pc0 := 90) (pc' := 108) rfl (hb hby at_90) rfl (feq (by decide : ¬ ((12 : Int32) = (4 : Int32)))).2 (by decide) (by decide) ?_
  show Steps p.tables e below (T0.setTop (mkF m 108 #[.val (.int p1), .val (.int p2), .val (.int (12 : Int32)), .val (.int (p2.toInt16.toInt32)), .unset, .unset, .unset, .unset] [])) _
  refine XS.iloadN X0.here hx rfl (hb hby at_108) rfl ?_
  show Steps p.tables e below (T0.setTop (mkF m 109 #[.val (.int p1), .val (.int p2), .val (.int (12 : Int32)), .val (.int (p2.toInt16.toInt32)), .unset, .unset, .unset, .unset] [(.int (12 : Int32))])) _
  refine XS.iconst X0.here hx rfl (hb hby at_109) ?_
  show Steps p.tables e below (T0.setTop (mkF m 110 #[.val (.int p1), .val (.int p2), .val (.int (12 : Int32)), .val (.int (p2.toInt16.toInt32)), .unset, .unset, .unset, .unset] [(.int (5 : Int32)), (.int (12 : Int32))])) _
  refine XS.icmpYes X0.here hx rfl (pc0 := 110) (pc' := 127) rfl (hb hby at_110) rfl (feq (by decide : ¬ ((12 : Int32) = (5 : Int32)))).2 (by decide) (by decide) ?_
  show Steps p.tables e below (T0.setTop (mkF m 127 #[.val (.int p1), .val (.int p2), .val (.int (12 : Int32)), .val (.int (p2.toInt16.toInt32)), .unset, .unset, .unset, .unset] [])) _
  refine XS.iloadN X0.here hx rfl (hb hby at_127) rfl ?_
  show Steps p.tables e below (T0.setTop (mkF m 128 #[.val (.int p1), .val (.int p2), .val (.int (12 : Int32)), .val (.int (p2.toInt16.toInt32)), .unset, .unset, .unset, .unset] [(.int (12 : Int32))])) _
  refine XS.bipush X0.here hx rfl (hb hby at_128) ?_
  show Steps p.tables e below (T0.setTop (mkF m 130 #[.val (.int p1), .val (.int p2), .val (.int (12 : Int32)), .val (.int (p2.toInt16.toInt32)), .unset, .unset, .unset, .unset] [(.int (6 : Int32)), (.int (12 : Int32))])) _
  refine XS.icmpYes X0.here hx rfl (pc0 := 130) (pc' := 147) rfl (hb hby at_130) rfl (feq (by decide : ¬ ((12 : Int32) = (6 : Int32)))).2 (by decide) (by decide) ?_
  show Steps p.tables e below (T0.setTop (mkF m 147 #[.val (.int p1), .val (.int p2), .val (.int (12 : Int32)), .val (.int (p2.toInt16.toInt32)), .unset, .unset, .unset, .unset] [])) _
  refine XS.iloadN X0.here hx rfl (hb hby at_147) rfl ?_
  show Steps p.tables e below (T0.setTop (mkF m 148 #[.val (.int p1), .val (.int p2), .val (.int (12 : Int32)), .val (.int (p2.toInt16.toInt32)), .unset, .unset, .unset, .unset] [(.int (12 : Int32))])) _
  refine XS.bipush X0.here hx rfl (hb hby at_148) ?_
  show Steps p.tables e below (T0.setTop (mkF m 150 #[.val (.int p1), .val (.int p2), .val (.int (12 : Int32)), .val (.int (p2.toInt16.toInt32)), .unset, .unset, .unset, .unset] [(.int (7 : Int32)), (.int (12 : Int32))])) _
  refine XS.icmpYes X0.here hx rfl (pc0 := 150) (pc' := 167) rfl (hb hby at_150) rfl (feq (by decide : ¬ ((12 : Int32) = (7 : Int32)))).2 (by decide) (by decide) ?_
  show Steps p.tables e below (T0.setTop (mkF m 167 #[.val (.int p1), .val (.int p2), .val (.int (12 : Int32)), .val (.int (p2.toInt16.toInt32)), .unset, .unset, .unset, .unset] [])) _
  refine XS.iloadN X0.here hx rfl (hb hby at_167) rfl ?_
  show Steps p.tables e below (T0.setTop (mkF m 168 #[.val (.int p1), .val (.int p2), .val (.int (12 : Int32)), .val (.int (p2.toInt16.toInt32)), .unset, .unset, .unset, .unset] [(.int (12 : Int32))])) _
  refine XS.bipush X0.here hx rfl (hb hby at_168) ?_
  show Steps p.tables e below (T0.setTop (mkF m 170 #[.val (.int p1), .val (.int p2), .val (.int (12 : Int32)), .val (.int (p2.toInt16.toInt32)), .unset, .unset, .unset, .unset] [(.int (8 : Int32)), (.int (12 : Int32))])) _
  refine XS.icmpYes X0.here hx rfl (pc0 := 170) (pc' := 187) rfl (hb hby at_170) rfl (feq (by decide : ¬ ((12 : Int32) = (8 : Int32)))).2 (by decide) (by decide) ?_
  show Steps p.tables e below (T0.setTop (mkF m 187 #[.val (.int p1), .val (.int p2), .val (.int (12 : Int32)), .val (.int (p2.toInt16.toInt32)), .unset, .unset, .unset, .unset] [])) _
  refine XS.iloadN X0.here hx rfl (hb hby at_187) rfl ?_
  show Steps p.tables e below (T0.setTop (mkF m 188 #[.val (.int p1), .val (.int p2), .val (.int (12 : Int32)), .val (.int (p2.toInt16.toInt32)), .unset, .unset, .unset, .unset] [(.int (12 : Int32))])) _
  refine XS.bipush X0.here hx rfl (hb hby at_188) ?_
  show Steps p.tables e below (T0.setTop (mkF m 190 #[.val (.int p1), .val (.int p2), .val (.int (12 : Int32)), .val (.int (p2.toInt16.toInt32)), .unset, .unset, .unset, .unset] [(.int (9 : Int32)), (.int (12 : Int32))])) _
  refine XS.icmpYes X0.here hx rfl (pc0 := 190) (pc' := 207) rfl (hb hby at_190) rfl (feq (by decide : ¬ ((12 : Int32) = (9 : Int32)))).2 (by decide) (by decide) ?_
  show Steps p.tables e below (T0.setTop (mkF m 207 #[.val (.int p1), .val (.int p2), .val (.int (12 : Int32)), .val (.int (p2.toInt16.toInt32)), .unset, .unset, .unset, .unset] [])) _
  refine XS.iloadN X0.here hx rfl (hb hby at_207) rfl ?_
  show Steps p.tables e below (T0.setTop (mkF m 208 #[.val (.int p1), .val (.int p2), .val (.int (12 : Int32)), .val (.int (p2.toInt16.toInt32)), .unset, .unset, .unset, .unset] [(.int (12 : Int32))])) _
  refine XS.bipush X0.here hx rfl (hb hby at_208) ?_
  show Steps p.tables e below (T0.setTop (mkF m 210 #[.val (.int p1), .val (.int p2), .val (.int (12 : Int32)), .val (.int (p2.toInt16.toInt32)), .unset, .unset, .unset, .unset] [(.int (10 : Int32)), (.int (12 : Int32))])) _
  refine XS.icmpYes X0.here hx rfl (pc0 := 210) (pc' := 227) rfl (hb hby at_210) rfl (feq (by decide : ¬ ((12 : Int32) = (10 : Int32)))).2 (by decide) (by decide) ?_
  show Steps p.tables e below (T0.setTop (mkF m 227 #[.val (.int p1), .val (.int p2), .val (.int (12 : Int32)), .val (.int (p2.toInt16.toInt32)), .unset, .unset, .unset, .unset] [])) _
  refine XS.iloadN X0.here hx rfl (hb hby at_227) rfl ?_
  show Steps p.tables e below (T0.setTop (mkF m 228 #[.val (.int p1), .val (.int p2), .val (.int (12 : Int32)), .val (.int (p2.toInt16.toInt32)), .unset, .unset, .unset, .unset] [(.int (12 : Int32))])) _
  refine XS.bipush X0.here hx rfl (hb hby at_228) ?_
  show Steps p.tables e below (T0.setTop (mkF m 230 #[.val (.int p1), .val (.int p2), .val (.int (12 : Int32)), .val (.int (p2.toInt16.toInt32)), .unset, .unset, .unset, .unset] [(.int (11 : Int32)), (.int (12 : Int32))])) _
  refine XS.icmpYes X0.here hx rfl (pc0 := 230) (pc' := 247) rfl (hb hby at_230) rfl (feq (by decide : ¬ ((12 : Int32) = (11 : Int32)))).2 (by decide) (by decide) ?_
  show Steps p.tables e below (T0.setTop (mkF m 247 #[.val (.int p1), .val (.int p2), .val (.int (12 : Int32)), .val (.int (p2.toInt16.toInt32)), .unset, .unset, .unset, .unset] [])) _
  refine st1 _ ?_
  show Steps p.tables e below (T1.setTop (mkF m 250 #[.val (.int p1), .val (.int p2), .val (.int (12 : Int32)), .val (.int (p2.toInt16.toInt32)), .unset, .unset, .unset, .unset] [(.ref w_CREATE_TOPICS)])) _
  refine XS.astore X1.here hx rfl (hb hby at_250) rfl rfl (l' := #[.val (.int p1), .val (.int p2), .val (.int (12 : Int32)), .val (.int (p2.toInt16.toInt32)), .val (.ref w_CREATE_TOPICS), .unset, .unset, .unset]) rfl ?_
  show Steps p.tables e below (T1.setTop (mkF m 252 #[.val (.int p1), .val (.int p2), .val (.int (12 : Int32)), .val (.int (p2.toInt16.toInt32)), .val (.ref w_CREATE_TOPICS), .unset, .unset, .unset] [])) _
  refine XS.iconst X1.here hx rfl (hb hby at_252) ?_
  show Steps p.tables e below (T1.setTop (mkF m 253 #[.val (.int p1), .val (.int p2), .val (.int (12 : Int32)), .val (.int (p2.toInt16.toInt32)), .val (.ref w_CREATE_TOPICS), .unset, .unset, .unset] [(.int (0 : Int32))])) _
  refine XS.istore X1.here hx rfl (hb hby at_253) rfl (l' := #[.val (.int p1), .val (.int p2), .val (.int (12 : Int32)), .val (.int (p2.toInt16.toInt32)), .val (.ref w_CREATE_TOPICS), .val (.int (0 : Int32)), .unset, .unset]) rfl ?_
  show Steps p.tables e below (T1.setTop (mkF m 255 #[.val (.int p1), .val (.int p2), .val (.int (12 : Int32)), .val (.int (p2.toInt16.toInt32)), .val (.ref w_CREATE_TOPICS), .val (.int (0 : Int32)), .unset, .unset] [])) _
  refine XS.iconst X1.here hx rfl (hb hby at_255) ?_
  show Steps p.tables e below (T1.setTop (mkF m 256 #[.val (.int p1), .val (.int p2), .val (.int (12 : Int32)), .val (.int (p2.toInt16.toInt32)), .val (.ref w_CREATE_TOPICS), .val (.int (0 : Int32)), .unset, .unset] [(.int (4 : Int32))])) _
  refine XS.istore X1.here hx rfl (hb hby at_256) rfl (l' := #[.val (.int p1), .val (.int p2), .val (.int (12 : Int32)), .val (.int (p2.toInt16.toInt32)), .val (.ref w_CREATE_TOPICS), .val (.int (0 : Int32)), .val (.int (4 : Int32)), .unset]) rfl ?_
  show Steps p.tables e below (T1.setTop (mkF m 258 #[.val (.int p1), .val (.int p2), .val (.int (12 : Int32)), .val (.int (p2.toInt16.toInt32)), .val (.ref w_CREATE_TOPICS), .val (.int (0 : Int32)), .val (.int (4 : Int32)), .unset] [])) _
  exact kt
theorem d1_0 : decode prog_9_method_8_code 0 = .ok (.iload_n 1, 1) := by decide +kernel
theorem d1_1 : decode prog_9_method_8_code 1 = .ok (.aload_n 0, 1) := by decide +kernel
theorem d1_2 : decode prog_9_method_8_code 2 = .ok (.getfield 66, 3) := by decide +kernel
theorem d1_5 : decode prog_9_method_8_code 5 = .ok (.if_icmp .lt 15, 3) := by decide +kernel
theorem d1_20 : decode prog_9_method_8_code 20 = .ok (.iconst 0, 1) := by decide +kernel
theorem d1_21 : decode prog_9_method_8_code 21 = .ok (.ireturn, 1) := by decide +kernel
theorem ef20 (m : MethodId) (x0 : Addr) (x1 : Int32) : entryFrame m #[(.ref x0), (.int x1)] 2 = mkF m 0 #[.val (.ref x0), .val (.int x1)] [] := by first | (simp [entryFrame, mkF, argsToLocals, Value.category]; done) | rfl
theorem pn21 : plainName "com/example/melog/melog/protocol/ApiKey" = true := by first | (simp [plainName, overriddenIn]; done) | decide +kernel
def Q1_13 (Z : State) (ob0 : Addr) (q0 : Int32) (q1 : Int32) (q2 : Int32) (h0 : Heap) (n0 : Nat) (v : Option Value) (h : Heap) (L : List Loc) : Prop := v = some (.int (0 : Int32)) ∧ Fr n0 L ∧ h = h0
set_option maxRecDepth 65536 in
set_option maxHeartbeats 40000000 in
theorem rm1_13 (l : Launch) (Z : State) (a0 : Array Value) (hw : ∀ d ∈ tables_1, d.before a0 Z = true) (ws : List Jvm.Cond) (ob0 : Addr) (q0 : Int32) (q1 : Int32) (q2 : Int32) (h0 : Heap) (n0 : Nat) (Z0 : n0 ≤ h0.size) (O0 : Old Z n0 h0) (PE_ob0 : Exa Z h0 ob0 "com/example/melog/melog/protocol/ApiKey") (PF_ob0_minVersion : Fld Z h0 ob0 "com/example/melog/melog/protocol/ApiKey" "minVersion" "S" (.int q1)) (PF_ob0_maxVersion : Fld Z h0 ob0 "com/example/melog/melog/protocol/ApiKey" "maxVersion" "S" (.int q2)) (hd0 : q0 < q1) :
    MetFree l (⟨"com/example/melog/melog/protocol/ApiKey", "serves", "(S)Z"⟩ : MethodName) (head1 (Jvm.Cond.code (⟨"com/example/melog/melog/protocol/ApiKey", "serves", "(S)Z"⟩ : MethodName) prog_9_method_8_code 2 (some .boolean) :: ws) ({ frames := 0, cells := 0, slots := 0, locals := 0 } : Room)) (fun a U => a = #[(.ref ob0), (.int q0)] ∧ Z.Warmed39 U.vm ∧ U.heap = h0) (fun _ _ _ _ _ => True) (fun _ U o U' => ∃ v L, o = .returned v ∧ Q1_13 Z  ob0 q0 q1 q2 h0 n0 v U'.heap L ∧ FrameEnd U o U' L ({ frames := 0, cells := 0, slots := 0, locals := 0 } : Room).cells ({ frames := 0, cells := 0, slots := 0, locals := 0 } : Room).slots) := by
  refine MetFree.of_bodySF (plainFor_of_name pn21) hisR ?_
  intro p e s m args below meth c s₁ Bd hml0 hP hK
  obtain ⟨rfl, hZ, hh⟩ := hP
  have hx := Bd.exec
  have hby := Bd.bytes
  have hml : c.maxLocals = 2 := hml0
  have hown : s.vm.findClass "com/example/melog/melog/protocol/ApiKey" = some m.cls := findClass_of_methodNamed Bd.named
  have hnm := (name_of_methodNamed Bd.named Bd.method).1
  have X0 : Stand p l e ({ frames := 0, cells := 0, slots := 0, locals := 0 } : Room) s m #[(.ref ob0), (.int q0)] below meth c s₁ [] 0 0 := Stand.of_body Bd
  have e0 : s₁.heap = h0 := by rw [← hh, Bd.state]; rfl
  have N0 := Fr.nil n0
  have pre0 : ∀ t, Steps p.tables e below (s₁.setTop (mkF m 0 #[.val (.ref ob0), .val (.int q0)] [])) t → Steps p.tables e below (s₁.setTop (entryFrame m #[(.ref ob0), (.int q0)] 2)) t := fun t k => castTop (ef20 m ob0 q0) k
  obtain ⟨T1, X1, e1, st1⟩ := getF X0 hx hZ hown (host := "") (Or.inl (hw _ (List.mem_of_getElem? (i := 9) rfl))) Via.refl e0 PF_ob0_minVersion (g := (mkF m 2 #[.val (.ref ob0), .val (.int q0)] [(.ref ob0), (.int q0)])) rfl rfl (hb hby d1_2)
  obtain ⟨fs, hr, hrun, hended, hW, hsame⟩ := X1.leave (v := some (.int (0 : Int32))) (fun h => by rw [Bd.returns] at h; cases h)
  refine ⟨_, _, pre0 _ ?_, hrun, hended, _, _, rfl, ?_, ⟨_, rfl⟩, hW, hsame.mono (by decide) (by decide)⟩
  · show Steps p.tables e below (s₁.setTop (mkF m 0 #[.val (.ref ob0), .val (.int q0)] [])) _
    refine XS.iloadN X0.here hx rfl (hb hby d1_0) rfl ?_
    show Steps p.tables e below (s₁.setTop (mkF m 1 #[.val (.ref ob0), .val (.int q0)] [(.int q0)])) _
    refine XS.aloadN X0.here hx rfl (hb hby d1_1) rfl rfl ?_
    show Steps p.tables e below (s₁.setTop (mkF m 2 #[.val (.ref ob0), .val (.int q0)] [(.ref ob0), (.int q0)])) _
    refine st1 _ ?_
    show Steps p.tables e below (T1.setTop (mkF m 5 #[.val (.ref ob0), .val (.int q0)] [(.int q1), (.int q0)])) _
    refine XS.icmpYes X1.here hx rfl (pc0 := 5) (pc' := 20) rfl (hb hby d1_5) rfl (tlt hd0).1 (by decide) (by decide) ?_
    show Steps p.tables e below (T1.setTop (mkF m 20 #[.val (.ref ob0), .val (.int q0)] [])) _
    refine XS.iconst X1.here hx rfl (hb hby d1_20) ?_
    show Steps p.tables e below (T1.setTop (mkF m 21 #[.val (.ref ob0), .val (.int q0)] [(.int (0 : Int32))])) _
    exact retN X1 hx (t := .boolean) Bd.returns (by simp) (hb hby d1_21) hr
  · exact ⟨rfl, N0, e1⟩
theorem pd22 : parseMethodDescriptor "(S)Z" = some ⟨[.short], some .boolean⟩ := by decide +kernel
theorem d1_8 : decode prog_9_method_8_code 8 = .ok (.iload_n 1, 1) := by decide +kernel
theorem d1_9 : decode prog_9_method_8_code 9 = .ok (.aload_n 0, 1) := by decide +kernel
theorem d1_10 : decode prog_9_method_8_code 10 = .ok (.getfield 69, 3) := by decide +kernel
theorem d1_13 : decode prog_9_method_8_code 13 = .ok (.if_icmp .gt 7, 3) := by decide +kernel
def Q1_14 (Z : State) (ob0 : Addr) (q0 : Int32) (q1 : Int32) (q2 : Int32) (h0 : Heap) (n0 : Nat) (v : Option Value) (h : Heap) (L : List Loc) : Prop := v = some (.int (0 : Int32)) ∧ Fr n0 L ∧ h = h0
set_option maxRecDepth 65536 in
set_option maxHeartbeats 40000000 in
theorem rm1_14 (l : Launch) (Z : State) (a0 : Array Value) (hw : ∀ d ∈ tables_1, d.before a0 Z = true) (ws : List Jvm.Cond) (ob0 : Addr) (q0 : Int32) (q1 : Int32) (q2 : Int32) (h0 : Heap) (n0 : Nat) (Z0 : n0 ≤ h0.size) (O0 : Old Z n0 h0) (PE_ob0 : Exa Z h0 ob0 "com/example/melog/melog/protocol/ApiKey") (PF_ob0_minVersion : Fld Z h0 ob0 "com/example/melog/melog/protocol/ApiKey" "minVersion" "S" (.int q1)) (PF_ob0_maxVersion : Fld Z h0 ob0 "com/example/melog/melog/protocol/ApiKey" "maxVersion" "S" (.int q2)) (hd0 : ¬ (q0 < q1)) (hd1 : q2 < q0) :
    MetFree l (⟨"com/example/melog/melog/protocol/ApiKey", "serves", "(S)Z"⟩ : MethodName) (head1 (Jvm.Cond.code (⟨"com/example/melog/melog/protocol/ApiKey", "serves", "(S)Z"⟩ : MethodName) prog_9_method_8_code 2 (some .boolean) :: ws) ({ frames := 0, cells := 0, slots := 0, locals := 0 } : Room)) (fun a U => a = #[(.ref ob0), (.int q0)] ∧ Z.Warmed39 U.vm ∧ U.heap = h0) (fun _ _ _ _ _ => True) (fun _ U o U' => ∃ v L, o = .returned v ∧ Q1_14 Z  ob0 q0 q1 q2 h0 n0 v U'.heap L ∧ FrameEnd U o U' L ({ frames := 0, cells := 0, slots := 0, locals := 0 } : Room).cells ({ frames := 0, cells := 0, slots := 0, locals := 0 } : Room).slots) := by
  refine MetFree.of_bodySF (plainFor_of_name pn21) hisR ?_
  intro p e s m args below meth c s₁ Bd hml0 hP hK
  obtain ⟨rfl, hZ, hh⟩ := hP
  have hx := Bd.exec
  have hby := Bd.bytes
  have hml : c.maxLocals = 2 := hml0
  have hown : s.vm.findClass "com/example/melog/melog/protocol/ApiKey" = some m.cls := findClass_of_methodNamed Bd.named
  have hnm := (name_of_methodNamed Bd.named Bd.method).1
  have X0 : Stand p l e ({ frames := 0, cells := 0, slots := 0, locals := 0 } : Room) s m #[(.ref ob0), (.int q0)] below meth c s₁ [] 0 0 := Stand.of_body Bd
  have e0 : s₁.heap = h0 := by rw [← hh, Bd.state]; rfl
  have N0 := Fr.nil n0
  have pre0 : ∀ t, Steps p.tables e below (s₁.setTop (mkF m 0 #[.val (.ref ob0), .val (.int q0)] [])) t → Steps p.tables e below (s₁.setTop (entryFrame m #[(.ref ob0), (.int q0)] 2)) t := fun t k => castTop (ef20 m ob0 q0) k
  obtain ⟨T1, X1, e1, st1⟩ := getF X0 hx hZ hown (host := "") (Or.inl (hw _ (List.mem_of_getElem? (i := 9) rfl))) Via.refl e0 PF_ob0_minVersion (g := (mkF m 2 #[.val (.ref ob0), .val (.int q0)] [(.ref ob0), (.int q0)])) rfl rfl (hb hby d1_2)
  obtain ⟨T2, X2, e2, st2⟩ := getF X1 hx hZ hown (host := "") (Or.inl (hw _ (List.mem_of_getElem? (i := 11) rfl))) Via.refl e1 PF_ob0_maxVersion (g := (mkF m 10 #[.val (.ref ob0), .val (.int q0)] [(.ref ob0), (.int q0)])) rfl rfl (hb hby d1_10)
  obtain ⟨fs, hr, hrun, hended, hW, hsame⟩ := X2.leave (v := some (.int (0 : Int32))) (fun h => by rw [Bd.returns] at h; cases h)
  refine ⟨_, _, pre0 _ ?_, hrun, hended, _, _, rfl, ?_, ⟨_, rfl⟩, hW, hsame.mono (by decide) (by decide)⟩
  · show Steps p.tables e below (s₁.setTop (mkF m 0 #[.val (.ref ob0), .val (.int q0)] [])) _
    refine XS.iloadN X0.here hx rfl (hb hby d1_0) rfl ?_
    show Steps p.tables e below (s₁.setTop (mkF m 1 #[.val (.ref ob0), .val (.int q0)] [(.int q0)])) _
    refine XS.aloadN X0.here hx rfl (hb hby d1_1) rfl rfl ?_
    show Steps p.tables e below (s₁.setTop (mkF m 2 #[.val (.ref ob0), .val (.int q0)] [(.ref ob0), (.int q0)])) _
    refine st1 _ ?_
    show Steps p.tables e below (T1.setTop (mkF m 5 #[.val (.ref ob0), .val (.int q0)] [(.int q1), (.int q0)])) _
    refine XS.icmpNo X1.here hx rfl (hb hby d1_5) rfl (flt hd0).1 ?_
    show Steps p.tables e below (T1.setTop (mkF m 8 #[.val (.ref ob0), .val (.int q0)] [])) _
    refine XS.iloadN X1.here hx rfl (hb hby d1_8) rfl ?_
    show Steps p.tables e below (T1.setTop (mkF m 9 #[.val (.ref ob0), .val (.int q0)] [(.int q0)])) _
    refine XS.aloadN X1.here hx rfl (hb hby d1_9) rfl rfl ?_
    show Steps p.tables e below (T1.setTop (mkF m 10 #[.val (.ref ob0), .val (.int q0)] [(.ref ob0), (.int q0)])) _
    refine st2 _ ?_
    show Steps p.tables e below (T2.setTop (mkF m 13 #[.val (.ref ob0), .val (.int q0)] [(.int q2), (.int q0)])) _
    refine XS.icmpYes X2.here hx rfl (pc0 := 13) (pc' := 20) rfl (hb hby d1_13) rfl (tlt hd1).2.2.1 (by decide) (by decide) ?_
    show Steps p.tables e below (T2.setTop (mkF m 20 #[.val (.ref ob0), .val (.int q0)] [])) _
    refine XS.iconst X2.here hx rfl (hb hby d1_20) ?_
    show Steps p.tables e below (T2.setTop (mkF m 21 #[.val (.ref ob0), .val (.int q0)] [(.int (0 : Int32))])) _
    exact retN X2 hx (t := .boolean) Bd.returns (by simp) (hb hby d1_21) hr
  · exact ⟨rfl, N0, e2⟩
theorem d1_16 : decode prog_9_method_8_code 16 = .ok (.iconst 1, 1) := by decide +kernel
theorem d1_17 : decode prog_9_method_8_code 17 = .ok (.goto 4, 3) := by decide +kernel
def Q1_15 (Z : State) (ob0 : Addr) (q0 : Int32) (q1 : Int32) (q2 : Int32) (h0 : Heap) (n0 : Nat) (v : Option Value) (h : Heap) (L : List Loc) : Prop := v = some (.int (1 : Int32)) ∧ Fr n0 L ∧ h = h0
set_option maxRecDepth 65536 in
set_option maxHeartbeats 40000000 in
theorem rm1_15 (l : Launch) (Z : State) (a0 : Array Value) (hw : ∀ d ∈ tables_1, d.before a0 Z = true) (ws : List Jvm.Cond) (ob0 : Addr) (q0 : Int32) (q1 : Int32) (q2 : Int32) (h0 : Heap) (n0 : Nat) (Z0 : n0 ≤ h0.size) (O0 : Old Z n0 h0) (PE_ob0 : Exa Z h0 ob0 "com/example/melog/melog/protocol/ApiKey") (PF_ob0_minVersion : Fld Z h0 ob0 "com/example/melog/melog/protocol/ApiKey" "minVersion" "S" (.int q1)) (PF_ob0_maxVersion : Fld Z h0 ob0 "com/example/melog/melog/protocol/ApiKey" "maxVersion" "S" (.int q2)) (hd0 : ¬ (q0 < q1)) (hd1 : ¬ (q2 < q0)) :
    MetFree l (⟨"com/example/melog/melog/protocol/ApiKey", "serves", "(S)Z"⟩ : MethodName) (head1 (Jvm.Cond.code (⟨"com/example/melog/melog/protocol/ApiKey", "serves", "(S)Z"⟩ : MethodName) prog_9_method_8_code 2 (some .boolean) :: ws) ({ frames := 0, cells := 0, slots := 0, locals := 0 } : Room)) (fun a U => a = #[(.ref ob0), (.int q0)] ∧ Z.Warmed39 U.vm ∧ U.heap = h0) (fun _ _ _ _ _ => True) (fun _ U o U' => ∃ v L, o = .returned v ∧ Q1_15 Z  ob0 q0 q1 q2 h0 n0 v U'.heap L ∧ FrameEnd U o U' L ({ frames := 0, cells := 0, slots := 0, locals := 0 } : Room).cells ({ frames := 0, cells := 0, slots := 0, locals := 0 } : Room).slots) := by
  refine MetFree.of_bodySF (plainFor_of_name pn21) hisR ?_
  intro p e s m args below meth c s₁ Bd hml0 hP hK
  obtain ⟨rfl, hZ, hh⟩ := hP
  have hx := Bd.exec
  have hby := Bd.bytes
  have hml : c.maxLocals = 2 := hml0
  have hown : s.vm.findClass "com/example/melog/melog/protocol/ApiKey" = some m.cls := findClass_of_methodNamed Bd.named
  have hnm := (name_of_methodNamed Bd.named Bd.method).1
  have X0 : Stand p l e ({ frames := 0, cells := 0, slots := 0, locals := 0 } : Room) s m #[(.ref ob0), (.int q0)] below meth c s₁ [] 0 0 := Stand.of_body Bd
  have e0 : s₁.heap = h0 := by rw [← hh, Bd.state]; rfl
  have N0 := Fr.nil n0
  have pre0 : ∀ t, Steps p.tables e below (s₁.setTop (mkF m 0 #[.val (.ref ob0), .val (.int q0)] [])) t → Steps p.tables e below (s₁.setTop (entryFrame m #[(.ref ob0), (.int q0)] 2)) t := fun t k => castTop (ef20 m ob0 q0) k
  obtain ⟨T1, X1, e1, st1⟩ := getF X0 hx hZ hown (host := "") (Or.inl (hw _ (List.mem_of_getElem? (i := 9) rfl))) Via.refl e0 PF_ob0_minVersion (g := (mkF m 2 #[.val (.ref ob0), .val (.int q0)] [(.ref ob0), (.int q0)])) rfl rfl (hb hby d1_2)
  obtain ⟨T2, X2, e2, st2⟩ := getF X1 hx hZ hown (host := "") (Or.inl (hw _ (List.mem_of_getElem? (i := 11) rfl))) Via.refl e1 PF_ob0_maxVersion (g := (mkF m 10 #[.val (.ref ob0), .val (.int q0)] [(.ref ob0), (.int q0)])) rfl rfl (hb hby d1_10)
  obtain ⟨fs, hr, hrun, hended, hW, hsame⟩ := X2.leave (v := some (.int (1 : Int32))) (fun h => by rw [Bd.returns] at h; cases h)
  refine ⟨_, _, pre0 _ ?_, hrun, hended, _, _, rfl, ?_, ⟨_, rfl⟩, hW, hsame.mono (by decide) (by decide)⟩
  · show Steps p.tables e below (s₁.setTop (mkF m 0 #[.val (.ref ob0), .val (.int q0)] [])) _
    refine XS.iloadN X0.here hx rfl (hb hby d1_0) rfl ?_
    show Steps p.tables e below (s₁.setTop (mkF m 1 #[.val (.ref ob0), .val (.int q0)] [(.int q0)])) _
    refine XS.aloadN X0.here hx rfl (hb hby d1_1) rfl rfl ?_
    show Steps p.tables e below (s₁.setTop (mkF m 2 #[.val (.ref ob0), .val (.int q0)] [(.ref ob0), (.int q0)])) _
    refine st1 _ ?_
    show Steps p.tables e below (T1.setTop (mkF m 5 #[.val (.ref ob0), .val (.int q0)] [(.int q1), (.int q0)])) _
    refine XS.icmpNo X1.here hx rfl (hb hby d1_5) rfl (flt hd0).1 ?_
    show Steps p.tables e below (T1.setTop (mkF m 8 #[.val (.ref ob0), .val (.int q0)] [])) _
    refine XS.iloadN X1.here hx rfl (hb hby d1_8) rfl ?_
    show Steps p.tables e below (T1.setTop (mkF m 9 #[.val (.ref ob0), .val (.int q0)] [(.int q0)])) _
    refine XS.aloadN X1.here hx rfl (hb hby d1_9) rfl rfl ?_
    show Steps p.tables e below (T1.setTop (mkF m 10 #[.val (.ref ob0), .val (.int q0)] [(.ref ob0), (.int q0)])) _
    refine st2 _ ?_
    show Steps p.tables e below (T2.setTop (mkF m 13 #[.val (.ref ob0), .val (.int q0)] [(.int q2), (.int q0)])) _
    refine XS.icmpNo X2.here hx rfl (hb hby d1_13) rfl (flt hd1).2.2.1 ?_
    show Steps p.tables e below (T2.setTop (mkF m 16 #[.val (.ref ob0), .val (.int q0)] [])) _
    refine XS.iconst X2.here hx rfl (hb hby d1_16) ?_
    show Steps p.tables e below (T2.setTop (mkF m 17 #[.val (.ref ob0), .val (.int q0)] [(.int (1 : Int32))])) _
    refine XS.goto X2.here hx rfl (pc0 := 17) (pc' := 21) rfl (hb hby d1_17) (by decide) (by decide) ?_
    show Steps p.tables e below (T2.setTop (mkF m 21 #[.val (.ref ob0), .val (.int q0)] [(.int (1 : Int32))])) _
    exact retN X2 hx (t := .boolean) Bd.returns (by simp) (hb hby d1_21) hr
  · exact ⟨rfl, N0, e2⟩
def Q0 (h0 : Heap) (n0 : Nat) (v : Option Value) (h : Heap) (L : List Loc) : Prop := v = some (.int (1 : Int32)) ∧ Fr n0 L
set_option maxRecDepth 65536 in
set_option maxHeartbeats 40000000 in
theorem fin {p : Program} {l : Launch} {e : Env} {s : State} {m : MethodId} {args : Array Value} {below : List Frame} {meth : Method} {c : Code} {T0 : State} {locs : List Loc} {Z : State} {a0 : Array Value} {h0 : Heap} {n0 : Nat} (p1 : Int32) (p2 : Int32) (kk : Int32) (vv : Int32) (ob : Addr) (lo : Int32) (hi : Int32)
    (X0 : Stand p l e room_1 s m args below meth c T0 locs 0 0) (hx : p.tables.exec = Jvm.exec) (hZ : Z.Warmed39 s.vm) (hw : ∀ d ∈ tables_1, d.before a0 Z = true) (hby : c.code = code) (hml : c.maxLocals = 8) (hown : s.vm.findClass "com/example/melog/melog/protocol/ApiKeyServesPinLaw" = some m.cls) (e0 : T0.heap = h0) (N0 : Fr n0 locs) (O0 : Old Z n0 h0) (PE_ob : Exa Z h0 ob "com/example/melog/melog/protocol/ApiKey") (PF_ob_minVersion : Fld Z h0 ob "com/example/melog/melog/protocol/ApiKey" "minVersion" "S" (.int lo)) (PF_ob_maxVersion : Fld Z h0 ob "com/example/melog/melog/protocol/ApiKey" "maxVersion" "S" (.int hi)) (hret : meth.sig.returnType = some .boolean) (hlk : meth.locks = false) {entry : State} (pre0 : ∀ t, Steps p.tables e below (T0.setTop (mkF m 258 #[.val (.int p1), .val (.int p2), .val (.int kk), .val (.int vv), .val (.ref ob), .val (.int lo), .val (.int hi), .unset] [])) t → Steps p.tables e below entry t) :
    ∃ s₂ o, Steps p.tables e below entry s₂ ∧ s₂.status = .running ∧ Ended s₂ below o ∧ ∃ v L, o = .returned v ∧ Q0 h0 n0 v s₂.heap L ∧ FrameEnd s o s₂ L room_1.cells room_1.slots := by
  have c1 : ∀ t, Steps p.tables e below (T0.setTop (mkF m 261 #[.val (.int p1), .val (.int p2), .val (.int kk), .val (.int vv), .val (.ref ob), .val (.int lo), .val (.int hi), .unset] [(.int lo), (.int vv)])) t → Steps p.tables e below entry t := fun t kt => pre0 _ (by
    show Steps p.tables e below (T0.setTop (mkF m 258 #[.val (.int p1), .val (.int p2), .val (.int kk), .val (.int vv), .val (.ref ob), .val (.int lo), .val (.int hi), .unset] [])) _
    refine XS.iloadN X0.here hx rfl (hb hby at_258) rfl ?_
    show Steps p.tables e below (T0.setTop (mkF m 259 #[.val (.int p1), .val (.int p2), .val (.int kk), .val (.int vv), .val (.ref ob), .val (.int lo), .val (.int hi), .unset] [(.int vv)])) _
    refine XS.iload X0.here hx rfl (hb hby at_259) rfl ?_
    show Steps p.tables e below (T0.setTop (mkF m 261 #[.val (.int p1), .val (.int p2), .val (.int kk), .val (.int vv), .val (.ref ob), .val (.int lo), .val (.int hi), .unset] [(.int lo), (.int vv)])) _
    exact kt)
  by_cases hd0 : vv < lo
  · skip
    obtain ⟨cq2, kq2, q2a, q2b, q2c⟩ := isOf hZ e0 PE_ob
    obtain ⟨_, _, ⟨T2, L2, k2, n2⟩, -, X2, ⟨Lc2, hQ2, l2, y2, z2⟩, st2⟩ := X0.virtualBack hx (y := (⟨"com/example/melog/melog/protocol/ApiKey", "serves", "(S)Z"⟩ : MethodName)) (z := (⟨"com/example/melog/melog/protocol/ApiKey", "serves", "(S)Z"⟩ : MethodName)) hown (mvT hZ (hw _ (List.mem_of_getElem? (i := 4) rfl))) (mvT hZ (hw _ (List.mem_of_getElem? (i := 5) rfl))) (notFace_of_selects (args := #[]) (mvT hZ (hw _ (List.mem_of_getElem? (i := 7) rfl)))) (mvT hZ (hw _ (List.mem_of_getElem? (i := 7) rfl))) (mvT hZ (hw _ (List.mem_of_getElem? (i := 6) rfl))) (by decide) (backOf (W := 0) (rm1_13 l Z a0 hw []  ob vv lo hi h0 n0 (own_n0 O0) O0 PE_ob PF_ob_minVersion PF_ob_maxVersion hd0) hZ (hw _ (List.mem_of_getElem? (i := 8) rfl)) (hw _ (List.mem_of_getElem? (i := 2) rfl)) (by decide) (by decide)) q2a q2c (g := (mkF m 280 #[.val (.int p1), .val (.int p2), .val (.int kk), .val (.int vv), .val (.ref ob), .val (.int lo), .val (.int hi), .val (.int (0 : Int32))] [(.int vv), (.ref ob)])) rfl (by rw [hml]; rfl) (Steps.refl _) (argsL := [(.int vv)]) (rest := []) (lenOf pd22 rfl) rfl (by show 2 * 0 + _ ≤ _; exact Nat.le_of_eq rfl) (hb hby at_280) (fun _ _ => ⟨rfl, e0, (by decide : 0 + 0 ≤ _), (by decide : 0 + 0 ≤ _)⟩)
    dsimp only [Pt.U, Pt.locs, Pt.cells, Pt.slots] at X2 l2 y2 z2 st2 hQ2
    subst l2 y2 z2
    obtain ⟨rfl, N2q, e2⟩ := hQ2
    have N2 := Fr.app N0 N2q
    obtain ⟨fs, hr, hrun, hended, hW, hsame⟩ := X2.leave (v := some (.int (1 : Int32))) (fun h => by rw [hret] at h; cases h) hlk
    refine ⟨_, _, c1 _ ?_, hrun, hended, _, _, rfl, ?_, ⟨_, rfl⟩, hW, hsame.mono (by decide) (by decide)⟩
    · show Steps p.tables e below (T0.setTop (mkF m 261 #[.val (.int p1), .val (.int p2), .val (.int kk), .val (.int vv), .val (.ref ob), .val (.int lo), .val (.int hi), .unset] [(.int lo), (.int vv)])) _
      refine XS.icmpYes X0.here hx rfl (pc0 := 261) (pc' := 274) rfl (hb hby at_261) rfl (tlt hd0).1 (by decide) (by decide) ?_
      show Steps p.tables e below (T0.setTop (mkF m 274 #[.val (.int p1), .val (.int p2), .val (.int kk), .val (.int vv), .val (.ref ob), .val (.int lo), .val (.int hi), .unset] [])) _
      refine XS.iconst X0.here hx rfl (hb hby at_274) ?_
      show Steps p.tables e below (T0.setTop (mkF m 275 #[.val (.int p1), .val (.int p2), .val (.int kk), .val (.int vv), .val (.ref ob), .val (.int lo), .val (.int hi), .unset] [(.int (0 : Int32))])) _
      refine XS.istore X0.here hx rfl (hb hby at_275) rfl (l' := #[.val (.int p1), .val (.int p2), .val (.int kk), .val (.int vv), .val (.ref ob), .val (.int lo), .val (.int hi), .val (.int (0 : Int32))]) rfl ?_
      show Steps p.tables e below (T0.setTop (mkF m 277 #[.val (.int p1), .val (.int p2), .val (.int kk), .val (.int vv), .val (.ref ob), .val (.int lo), .val (.int hi), .val (.int (0 : Int32))] [])) _
      refine XS.aload X0.here hx rfl (hb hby at_277) rfl rfl ?_
      show Steps p.tables e below (T0.setTop (mkF m 279 #[.val (.int p1), .val (.int p2), .val (.int kk), .val (.int vv), .val (.ref ob), .val (.int lo), .val (.int hi), .val (.int (0 : Int32))] [(.ref ob)])) _
      refine XS.iloadN X0.here hx rfl (hb hby at_279) rfl ?_
      show Steps p.tables e below (T0.setTop (mkF m 280 #[.val (.int p1), .val (.int p2), .val (.int kk), .val (.int vv), .val (.ref ob), .val (.int lo), .val (.int hi), .val (.int (0 : Int32))] [(.int vv), (.ref ob)])) _
      refine st2.trans ?_
      show Steps p.tables e below (T2.setTop (mkF m 283 #[.val (.int p1), .val (.int p2), .val (.int kk), .val (.int vv), .val (.ref ob), .val (.int lo), .val (.int hi), .val (.int (0 : Int32))] [(.int (0 : Int32))])) _
      refine XS.iload X2.here hx rfl (hb hby at_283) rfl ?_
      show Steps p.tables e below (T2.setTop (mkF m 285 #[.val (.int p1), .val (.int p2), .val (.int kk), .val (.int vv), .val (.ref ob), .val (.int lo), .val (.int hi), .val (.int (0 : Int32))] [(.int (0 : Int32)), (.int (0 : Int32))])) _
      refine XS.icmpNo X2.here hx rfl (hb hby at_285) rfl (teq (by decide : (0 : Int32) = (0 : Int32))).2 ?_
      show Steps p.tables e below (T2.setTop (mkF m 288 #[.val (.int p1), .val (.int p2), .val (.int kk), .val (.int vv), .val (.ref ob), .val (.int lo), .val (.int hi), .val (.int (0 : Int32))] [])) _
      refine XS.iconst X2.here hx rfl (hb hby at_288) ?_
      show Steps p.tables e below (T2.setTop (mkF m 289 #[.val (.int p1), .val (.int p2), .val (.int kk), .val (.int vv), .val (.ref ob), .val (.int lo), .val (.int hi), .val (.int (0 : Int32))] [(.int (1 : Int32))])) _
      refine XS.goto X2.here hx rfl (pc0 := 289) (pc' := 293) rfl (hb hby at_289) (by decide) (by decide) ?_
      show Steps p.tables e below (T2.setTop (mkF m 293 #[.val (.int p1), .val (.int p2), .val (.int kk), .val (.int vv), .val (.ref ob), .val (.int lo), .val (.int hi), .val (.int (0 : Int32))] [(.int (1 : Int32))])) _
      exact retN X2 hx (t := .boolean) hret (by simp) (hb hby at_293) hr
    · exact ⟨rfl, N2⟩
  · skip
    have c2 : ∀ t, Steps p.tables e below (T0.setTop (mkF m 267 #[.val (.int p1), .val (.int p2), .val (.int kk), .val (.int vv), .val (.ref ob), .val (.int lo), .val (.int hi), .unset] [(.int hi), (.int vv)])) t → Steps p.tables e below entry t := fun t kt => c1 _ (by
      show Steps p.tables e below (T0.setTop (mkF m 261 #[.val (.int p1), .val (.int p2), .val (.int kk), .val (.int vv), .val (.ref ob), .val (.int lo), .val (.int hi), .unset] [(.int lo), (.int vv)])) _
      refine XS.icmpNo X0.here hx rfl (hb hby at_261) rfl (flt hd0).1 ?_
      show Steps p.tables e below (T0.setTop (mkF m 264 #[.val (.int p1), .val (.int p2), .val (.int kk), .val (.int vv), .val (.ref ob), .val (.int lo), .val (.int hi), .unset] [])) _
      refine XS.iloadN X0.here hx rfl (hb hby at_264) rfl ?_
      show Steps p.tables e below (T0.setTop (mkF m 265 #[.val (.int p1), .val (.int p2), .val (.int kk), .val (.int vv), .val (.ref ob), .val (.int lo), .val (.int hi), .unset] [(.int vv)])) _
      refine XS.iload X0.here hx rfl (hb hby at_265) rfl ?_
      show Steps p.tables e below (T0.setTop (mkF m 267 #[.val (.int p1), .val (.int p2), .val (.int kk), .val (.int vv), .val (.ref ob), .val (.int lo), .val (.int hi), .unset] [(.int hi), (.int vv)])) _
      exact kt)
    by_cases hd1 : hi < vv
    · skip
      obtain ⟨cq3, kq3, q3a, q3b, q3c⟩ := isOf hZ e0 PE_ob
      obtain ⟨_, _, ⟨T3, L3, k3, n3⟩, -, X3, ⟨Lc3, hQ3, l3, y3, z3⟩, st3⟩ := X0.virtualBack hx (y := (⟨"com/example/melog/melog/protocol/ApiKey", "serves", "(S)Z"⟩ : MethodName)) (z := (⟨"com/example/melog/melog/protocol/ApiKey", "serves", "(S)Z"⟩ : MethodName)) hown (mvT hZ (hw _ (List.mem_of_getElem? (i := 4) rfl))) (mvT hZ (hw _ (List.mem_of_getElem? (i := 5) rfl))) (notFace_of_selects (args := #[]) (mvT hZ (hw _ (List.mem_of_getElem? (i := 7) rfl)))) (mvT hZ (hw _ (List.mem_of_getElem? (i := 7) rfl))) (mvT hZ (hw _ (List.mem_of_getElem? (i := 6) rfl))) (by decide) (backOf (W := 0) (rm1_14 l Z a0 hw []  ob vv lo hi h0 n0 (own_n0 O0) O0 PE_ob PF_ob_minVersion PF_ob_maxVersion hd0 hd1) hZ (hw _ (List.mem_of_getElem? (i := 8) rfl)) (hw _ (List.mem_of_getElem? (i := 2) rfl)) (by decide) (by decide)) q3a q3c (g := (mkF m 280 #[.val (.int p1), .val (.int p2), .val (.int kk), .val (.int vv), .val (.ref ob), .val (.int lo), .val (.int hi), .val (.int (0 : Int32))] [(.int vv), (.ref ob)])) rfl (by rw [hml]; rfl) (Steps.refl _) (argsL := [(.int vv)]) (rest := []) (lenOf pd22 rfl) rfl (by show 2 * 0 + _ ≤ _; exact Nat.le_of_eq rfl) (hb hby at_280) (fun _ _ => ⟨rfl, e0, (by decide : 0 + 0 ≤ _), (by decide : 0 + 0 ≤ _)⟩)
      dsimp only [Pt.U, Pt.locs, Pt.cells, Pt.slots] at X3 l3 y3 z3 st3 hQ3
      subst l3 y3 z3
      obtain ⟨rfl, N3q, e3⟩ := hQ3
      have N3 := Fr.app N0 N3q
      obtain ⟨fs, hr, hrun, hended, hW, hsame⟩ := X3.leave (v := some (.int (1 : Int32))) (fun h => by rw [hret] at h; cases h) hlk
      refine ⟨_, _, c2 _ ?_, hrun, hended, _, _, rfl, ?_, ⟨_, rfl⟩, hW, hsame.mono (by decide) (by decide)⟩
      · show Steps p.tables e below (T0.setTop (mkF m 267 #[.val (.int p1), .val (.int p2), .val (.int kk), .val (.int vv), .val (.ref ob), .val (.int lo), .val (.int hi), .unset] [(.int hi), (.int vv)])) _
        refine XS.icmpYes X0.here hx rfl (pc0 := 267) (pc' := 274) rfl (hb hby at_267) rfl (tlt hd1).2.2.1 (by decide) (by decide) ?_
        show Steps p.tables e below (T0.setTop (mkF m 274 #[.val (.int p1), .val (.int p2), .val (.int kk), .val (.int vv), .val (.ref ob), .val (.int lo), .val (.int hi), .unset] [])) _
        refine XS.iconst X0.here hx rfl (hb hby at_274) ?_
        show Steps p.tables e below (T0.setTop (mkF m 275 #[.val (.int p1), .val (.int p2), .val (.int kk), .val (.int vv), .val (.ref ob), .val (.int lo), .val (.int hi), .unset] [(.int (0 : Int32))])) _
        refine XS.istore X0.here hx rfl (hb hby at_275) rfl (l' := #[.val (.int p1), .val (.int p2), .val (.int kk), .val (.int vv), .val (.ref ob), .val (.int lo), .val (.int hi), .val (.int (0 : Int32))]) rfl ?_
        show Steps p.tables e below (T0.setTop (mkF m 277 #[.val (.int p1), .val (.int p2), .val (.int kk), .val (.int vv), .val (.ref ob), .val (.int lo), .val (.int hi), .val (.int (0 : Int32))] [])) _
        refine XS.aload X0.here hx rfl (hb hby at_277) rfl rfl ?_
        show Steps p.tables e below (T0.setTop (mkF m 279 #[.val (.int p1), .val (.int p2), .val (.int kk), .val (.int vv), .val (.ref ob), .val (.int lo), .val (.int hi), .val (.int (0 : Int32))] [(.ref ob)])) _
        refine XS.iloadN X0.here hx rfl (hb hby at_279) rfl ?_
        show Steps p.tables e below (T0.setTop (mkF m 280 #[.val (.int p1), .val (.int p2), .val (.int kk), .val (.int vv), .val (.ref ob), .val (.int lo), .val (.int hi), .val (.int (0 : Int32))] [(.int vv), (.ref ob)])) _
        refine st3.trans ?_
        show Steps p.tables e below (T3.setTop (mkF m 283 #[.val (.int p1), .val (.int p2), .val (.int kk), .val (.int vv), .val (.ref ob), .val (.int lo), .val (.int hi), .val (.int (0 : Int32))] [(.int (0 : Int32))])) _
        refine XS.iload X3.here hx rfl (hb hby at_283) rfl ?_
        show Steps p.tables e below (T3.setTop (mkF m 285 #[.val (.int p1), .val (.int p2), .val (.int kk), .val (.int vv), .val (.ref ob), .val (.int lo), .val (.int hi), .val (.int (0 : Int32))] [(.int (0 : Int32)), (.int (0 : Int32))])) _
        refine XS.icmpNo X3.here hx rfl (hb hby at_285) rfl (teq (by decide : (0 : Int32) = (0 : Int32))).2 ?_
        show Steps p.tables e below (T3.setTop (mkF m 288 #[.val (.int p1), .val (.int p2), .val (.int kk), .val (.int vv), .val (.ref ob), .val (.int lo), .val (.int hi), .val (.int (0 : Int32))] [])) _
        refine XS.iconst X3.here hx rfl (hb hby at_288) ?_
        show Steps p.tables e below (T3.setTop (mkF m 289 #[.val (.int p1), .val (.int p2), .val (.int kk), .val (.int vv), .val (.ref ob), .val (.int lo), .val (.int hi), .val (.int (0 : Int32))] [(.int (1 : Int32))])) _
        refine XS.goto X3.here hx rfl (pc0 := 289) (pc' := 293) rfl (hb hby at_289) (by decide) (by decide) ?_
        show Steps p.tables e below (T3.setTop (mkF m 293 #[.val (.int p1), .val (.int p2), .val (.int kk), .val (.int vv), .val (.ref ob), .val (.int lo), .val (.int hi), .val (.int (0 : Int32))] [(.int (1 : Int32))])) _
        exact retN X3 hx (t := .boolean) hret (by simp) (hb hby at_293) hr
      · exact ⟨rfl, N3⟩
    · skip
      obtain ⟨cq3, kq3, q3a, q3b, q3c⟩ := isOf hZ e0 PE_ob
      obtain ⟨_, _, ⟨T3, L3, k3, n3⟩, -, X3, ⟨Lc3, hQ3, l3, y3, z3⟩, st3⟩ := X0.virtualBack hx (y := (⟨"com/example/melog/melog/protocol/ApiKey", "serves", "(S)Z"⟩ : MethodName)) (z := (⟨"com/example/melog/melog/protocol/ApiKey", "serves", "(S)Z"⟩ : MethodName)) hown (mvT hZ (hw _ (List.mem_of_getElem? (i := 4) rfl))) (mvT hZ (hw _ (List.mem_of_getElem? (i := 5) rfl))) (notFace_of_selects (args := #[]) (mvT hZ (hw _ (List.mem_of_getElem? (i := 7) rfl)))) (mvT hZ (hw _ (List.mem_of_getElem? (i := 7) rfl))) (mvT hZ (hw _ (List.mem_of_getElem? (i := 6) rfl))) (by decide) (backOf (W := 0) (rm1_15 l Z a0 hw []  ob vv lo hi h0 n0 (own_n0 O0) O0 PE_ob PF_ob_minVersion PF_ob_maxVersion hd0 hd1) hZ (hw _ (List.mem_of_getElem? (i := 8) rfl)) (hw _ (List.mem_of_getElem? (i := 2) rfl)) (by decide) (by decide)) q3a q3c (g := (mkF m 280 #[.val (.int p1), .val (.int p2), .val (.int kk), .val (.int vv), .val (.ref ob), .val (.int lo), .val (.int hi), .val (.int (1 : Int32))] [(.int vv), (.ref ob)])) rfl (by rw [hml]; rfl) (Steps.refl _) (argsL := [(.int vv)]) (rest := []) (lenOf pd22 rfl) rfl (by show 2 * 0 + _ ≤ _; exact Nat.le_of_eq rfl) (hb hby at_280) (fun _ _ => ⟨rfl, e0, (by decide : 0 + 0 ≤ _), (by decide : 0 + 0 ≤ _)⟩)
      dsimp only [Pt.U, Pt.locs, Pt.cells, Pt.slots] at X3 l3 y3 z3 st3 hQ3
      subst l3 y3 z3
      obtain ⟨rfl, N3q, e3⟩ := hQ3
      have N3 := Fr.app N0 N3q
      obtain ⟨fs, hr, hrun, hended, hW, hsame⟩ := X3.leave (v := some (.int (1 : Int32))) (fun h => by rw [hret] at h; cases h) hlk
      refine ⟨_, _, c2 _ ?_, hrun, hended, _, _, rfl, ?_, ⟨_, rfl⟩, hW, hsame.mono (by decide) (by decide)⟩
      · show Steps p.tables e below (T0.setTop (mkF m 267 #[.val (.int p1), .val (.int p2), .val (.int kk), .val (.int vv), .val (.ref ob), .val (.int lo), .val (.int hi), .unset] [(.int hi), (.int vv)])) _
        refine XS.icmpNo X0.here hx rfl (hb hby at_267) rfl (flt hd1).2.2.1 ?_
        show Steps p.tables e below (T0.setTop (mkF m 270 #[.val (.int p1), .val (.int p2), .val (.int kk), .val (.int vv), .val (.ref ob), .val (.int lo), .val (.int hi), .unset] [])) _
        refine XS.iconst X0.here hx rfl (hb hby at_270) ?_
        show Steps p.tables e below (T0.setTop (mkF m 271 #[.val (.int p1), .val (.int p2), .val (.int kk), .val (.int vv), .val (.ref ob), .val (.int lo), .val (.int hi), .unset] [(.int (1 : Int32))])) _
        refine XS.goto X0.here hx rfl (pc0 := 271) (pc' := 275) rfl (hb hby at_271) (by decide) (by decide) ?_
        show Steps p.tables e below (T0.setTop (mkF m 275 #[.val (.int p1), .val (.int p2), .val (.int kk), .val (.int vv), .val (.ref ob), .val (.int lo), .val (.int hi), .unset] [(.int (1 : Int32))])) _
        refine XS.istore X0.here hx rfl (hb hby at_275) rfl (l' := #[.val (.int p1), .val (.int p2), .val (.int kk), .val (.int vv), .val (.ref ob), .val (.int lo), .val (.int hi), .val (.int (1 : Int32))]) rfl ?_
        show Steps p.tables e below (T0.setTop (mkF m 277 #[.val (.int p1), .val (.int p2), .val (.int kk), .val (.int vv), .val (.ref ob), .val (.int lo), .val (.int hi), .val (.int (1 : Int32))] [])) _
        refine XS.aload X0.here hx rfl (hb hby at_277) rfl rfl ?_
        show Steps p.tables e below (T0.setTop (mkF m 279 #[.val (.int p1), .val (.int p2), .val (.int kk), .val (.int vv), .val (.ref ob), .val (.int lo), .val (.int hi), .val (.int (1 : Int32))] [(.ref ob)])) _
        refine XS.iloadN X0.here hx rfl (hb hby at_279) rfl ?_
        show Steps p.tables e below (T0.setTop (mkF m 280 #[.val (.int p1), .val (.int p2), .val (.int kk), .val (.int vv), .val (.ref ob), .val (.int lo), .val (.int hi), .val (.int (1 : Int32))] [(.int vv), (.ref ob)])) _
        refine st3.trans ?_
        show Steps p.tables e below (T3.setTop (mkF m 283 #[.val (.int p1), .val (.int p2), .val (.int kk), .val (.int vv), .val (.ref ob), .val (.int lo), .val (.int hi), .val (.int (1 : Int32))] [(.int (1 : Int32))])) _
        refine XS.iload X3.here hx rfl (hb hby at_283) rfl ?_
        show Steps p.tables e below (T3.setTop (mkF m 285 #[.val (.int p1), .val (.int p2), .val (.int kk), .val (.int vv), .val (.ref ob), .val (.int lo), .val (.int hi), .val (.int (1 : Int32))] [(.int (1 : Int32)), (.int (1 : Int32))])) _
        refine XS.icmpNo X3.here hx rfl (hb hby at_285) rfl (teq (by decide : (1 : Int32) = (1 : Int32))).2 ?_
        show Steps p.tables e below (T3.setTop (mkF m 288 #[.val (.int p1), .val (.int p2), .val (.int kk), .val (.int vv), .val (.ref ob), .val (.int lo), .val (.int hi), .val (.int (1 : Int32))] [])) _
        refine XS.iconst X3.here hx rfl (hb hby at_288) ?_
        show Steps p.tables e below (T3.setTop (mkF m 289 #[.val (.int p1), .val (.int p2), .val (.int kk), .val (.int vv), .val (.ref ob), .val (.int lo), .val (.int hi), .val (.int (1 : Int32))] [(.int (1 : Int32))])) _
        refine XS.goto X3.here hx rfl (pc0 := 289) (pc' := 293) rfl (hb hby at_289) (by decide) (by decide) ?_
        show Steps p.tables e below (T3.setTop (mkF m 293 #[.val (.int p1), .val (.int p2), .val (.int kk), .val (.int vv), .val (.ref ob), .val (.int lo), .val (.int hi), .val (.int (1 : Int32))] [(.int (1 : Int32))])) _
        exact retN X3 hx (t := .boolean) hret (by simp) (hb hby at_293) hr
      · exact ⟨rfl, N3⟩
theorem efL (m : MethodId) (x0 x1 : Int32) : entryFrame m #[(.int x0), (.int x1)] maxLocals = mkF m 0 #[.val (.int x0), .val (.int x1), .unset, .unset, .unset, .unset, .unset, .unset] [] := by first | (simp [entryFrame, mkF, argsToLocals, Value.category, maxLocals]; done) | rfl
theorem pn34 : plainName "com/example/melog/melog/protocol/ApiKeyServesPinLaw" = true := by first | (simp [plainName, overriddenIn]; done) | decide +kernel
set_option maxRecDepth 65536 in
set_option maxHeartbeats 40000000 in
theorem rm0_all (l : Launch) (Z : State) (a0 : Array Value) (hw : ∀ d ∈ tables_1, d.before a0 Z = true) (ws : List Jvm.Cond) (w_PRODUCE : Addr) (w_FETCH : Addr) (w_OFFSET_COMMIT : Addr) (w_METADATA : Addr) (w_LEAVE_GROUP : Addr) (w_OFFSET_FETCH : Addr) (w_FIND_COORDINATOR : Addr) (w_HEARTBEAT : Addr) (w_CREATE_TOPICS : Addr) (w_LIST_OFFSETS : Addr) (w_SYNC_GROUP : Addr) (w_API_VERSIONS : Addr) (w_JOIN_GROUP : Addr) (p1 p2 : Int32) (h0 : Heap) (n0 : Nat) (Z0 : n0 ≤ h0.size) (O0 : Old Z n0 h0) (HW : World Z w_PRODUCE w_FETCH w_OFFSET_COMMIT w_METADATA w_LEAVE_GROUP w_OFFSET_FETCH w_FIND_COORDINATOR w_HEARTBEAT w_CREATE_TOPICS w_LIST_OFFSETS w_SYNC_GROUP w_API_VERSIONS w_JOIN_GROUP) :
    MetFree l x (head1 (Jvm.Cond.code x code maxLocals ret :: ws) room_1) (fun a U => a = #[(.int p1), (.int p2)] ∧ Z.Warmed39 U.vm ∧ U.heap = h0) (fun _ _ _ _ _ => True) (fun _ U o U' => ∃ v L, o = .returned v ∧ Q0 h0 n0 v U'.heap L ∧ FrameEnd U o U' L room_1.cells room_1.slots) := by
  refine MetFree.of_bodySF (plainFor_of_name pn34) hisR ?_
  intro p e s m args below meth c s₁ Bd hml0 hP hK
  obtain ⟨rfl, hZ, hh⟩ := hP
  have hx := Bd.exec
  have hby := Bd.bytes
  have hml : c.maxLocals = 8 := hml0
  have hown : s.vm.findClass "com/example/melog/melog/protocol/ApiKeyServesPinLaw" = some m.cls := findClass_of_methodNamed Bd.named
  have X0 : Stand p l e room_1 s m #[(.int p1), (.int p2)] below meth c s₁ [] 0 0 := Stand.of_body Bd
  have e0 : s₁.heap = h0 := by rw [← hh, Bd.state]; rfl
  have hlk : meth.locks = false := BodyLoose.notSynchronized Bd
  rcases own_rem p1 with hk | hk | hk | hk | hk | hk | hk | hk | hk | hk | hk | hk | hk
  · obtain ⟨T1, L1, X1, N1, e1, c1⟩ := seg0 w_PRODUCE w_FETCH w_OFFSET_COMMIT w_METADATA w_LEAVE_GROUP w_OFFSET_FETCH w_FIND_COORDINATOR w_HEARTBEAT w_CREATE_TOPICS w_LIST_OFFSETS w_SYNC_GROUP w_API_VERSIONS w_JOIN_GROUP p1 p2 X0 hx hZ hw hby hml hown e0 (Fr.nil n0) O0 HW hk
    obtain ⟨S_w_PRODUCE, E_w_PRODUCE, S_w_FETCH, E_w_FETCH, S_w_OFFSET_COMMIT, E_w_OFFSET_COMMIT, S_w_METADATA, E_w_METADATA, S_w_LEAVE_GROUP, E_w_LEAVE_GROUP, S_w_OFFSET_FETCH, E_w_OFFSET_FETCH, S_w_FIND_COORDINATOR, E_w_FIND_COORDINATOR, S_w_HEARTBEAT, E_w_HEARTBEAT, S_w_CREATE_TOPICS, E_w_CREATE_TOPICS, S_w_LIST_OFFSETS, E_w_LIST_OFFSETS, S_w_SYNC_GROUP, E_w_SYNC_GROUP, S_w_API_VERSIONS, E_w_API_VERSIONS, S_w_JOIN_GROUP, E_w_JOIN_GROUP, F_minVersion_w_PRODUCE, F_maxVersion_w_PRODUCE, F_minVersion_w_FETCH, F_minVersion_w_OFFSET_COMMIT, F_maxVersion_w_OFFSET_COMMIT, F_minVersion_w_METADATA, F_minVersion_w_LEAVE_GROUP, F_maxVersion_w_LEAVE_GROUP, F_minVersion_w_OFFSET_FETCH, F_maxVersion_w_OFFSET_FETCH, F_minVersion_w_FIND_COORDINATOR, F_maxVersion_w_FIND_COORDINATOR, F_minVersion_w_HEARTBEAT, F_minVersion_w_CREATE_TOPICS, F_maxVersion_w_CREATE_TOPICS, F_minVersion_w_LIST_OFFSETS, F_maxVersion_w_LIST_OFFSETS, F_maxVersion_w_METADATA, F_maxVersion_w_HEARTBEAT, F_minVersion_w_SYNC_GROUP, F_minVersion_w_API_VERSIONS, F_maxVersion_w_API_VERSIONS, F_maxVersion_w_FETCH, F_maxVersion_w_SYNC_GROUP, F_minVersion_w_JOIN_GROUP, F_maxVersion_w_JOIN_GROUP, ne_w_PRODUCE_w_FETCH, ne_w_PRODUCE_w_OFFSET_COMMIT, ne_w_PRODUCE_w_METADATA, ne_w_PRODUCE_w_LEAVE_GROUP, ne_w_PRODUCE_w_OFFSET_FETCH, ne_w_PRODUCE_w_FIND_COORDINATOR, ne_w_PRODUCE_w_HEARTBEAT, ne_w_PRODUCE_w_CREATE_TOPICS, ne_w_PRODUCE_w_LIST_OFFSETS, ne_w_PRODUCE_w_SYNC_GROUP, ne_w_PRODUCE_w_API_VERSIONS, ne_w_PRODUCE_w_JOIN_GROUP, ne_w_FETCH_w_OFFSET_COMMIT, ne_w_FETCH_w_METADATA, ne_w_FETCH_w_LEAVE_GROUP, ne_w_FETCH_w_OFFSET_FETCH, ne_w_FETCH_w_FIND_COORDINATOR, ne_w_FETCH_w_HEARTBEAT, ne_w_FETCH_w_CREATE_TOPICS, ne_w_FETCH_w_LIST_OFFSETS, ne_w_FETCH_w_SYNC_GROUP, ne_w_FETCH_w_API_VERSIONS, ne_w_FETCH_w_JOIN_GROUP, ne_w_OFFSET_COMMIT_w_METADATA, ne_w_OFFSET_COMMIT_w_LEAVE_GROUP, ne_w_OFFSET_COMMIT_w_OFFSET_FETCH, ne_w_OFFSET_COMMIT_w_FIND_COORDINATOR, ne_w_OFFSET_COMMIT_w_HEARTBEAT, ne_w_OFFSET_COMMIT_w_CREATE_TOPICS, ne_w_OFFSET_COMMIT_w_LIST_OFFSETS, ne_w_OFFSET_COMMIT_w_SYNC_GROUP, ne_w_OFFSET_COMMIT_w_API_VERSIONS, ne_w_OFFSET_COMMIT_w_JOIN_GROUP, ne_w_METADATA_w_LEAVE_GROUP, ne_w_METADATA_w_OFFSET_FETCH, ne_w_METADATA_w_FIND_COORDINATOR, ne_w_METADATA_w_HEARTBEAT, ne_w_METADATA_w_LIST_OFFSETS, ne_w_METADATA_w_SYNC_GROUP, ne_w_METADATA_w_API_VERSIONS, ne_w_METADATA_w_JOIN_GROUP, ne_w_LEAVE_GROUP_w_OFFSET_FETCH, ne_w_LEAVE_GROUP_w_FIND_COORDINATOR, ne_w_LEAVE_GROUP_w_HEARTBEAT, ne_w_LEAVE_GROUP_w_CREATE_TOPICS, ne_w_LEAVE_GROUP_w_LIST_OFFSETS, ne_w_LEAVE_GROUP_w_SYNC_GROUP, ne_w_LEAVE_GROUP_w_API_VERSIONS, ne_w_LEAVE_GROUP_w_JOIN_GROUP, ne_w_OFFSET_FETCH_w_FIND_COORDINATOR, ne_w_OFFSET_FETCH_w_HEARTBEAT, ne_w_OFFSET_FETCH_w_CREATE_TOPICS, ne_w_OFFSET_FETCH_w_LIST_OFFSETS, ne_w_OFFSET_FETCH_w_SYNC_GROUP, ne_w_OFFSET_FETCH_w_API_VERSIONS, ne_w_OFFSET_FETCH_w_JOIN_GROUP, ne_w_FIND_COORDINATOR_w_HEARTBEAT, ne_w_FIND_COORDINATOR_w_CREATE_TOPICS, ne_w_FIND_COORDINATOR_w_LIST_OFFSETS, ne_w_FIND_COORDINATOR_w_SYNC_GROUP, ne_w_FIND_COORDINATOR_w_API_VERSIONS, ne_w_FIND_COORDINATOR_w_JOIN_GROUP, ne_w_HEARTBEAT_w_CREATE_TOPICS, ne_w_HEARTBEAT_w_LIST_OFFSETS, ne_w_HEARTBEAT_w_JOIN_GROUP, ne_w_CREATE_TOPICS_w_LIST_OFFSETS, ne_w_CREATE_TOPICS_w_SYNC_GROUP, ne_w_CREATE_TOPICS_w_API_VERSIONS, ne_w_CREATE_TOPICS_w_JOIN_GROUP, ne_w_LIST_OFFSETS_w_SYNC_GROUP, ne_w_LIST_OFFSETS_w_API_VERSIONS, ne_w_LIST_OFFSETS_w_JOIN_GROUP, ne_w_SYNC_GROUP_w_JOIN_GROUP, ne_w_API_VERSIONS_w_JOIN_GROUP, -⟩ := id HW
    exact fin p1 p2 (0 : Int32) (p2.toInt16.toInt32) w_PRODUCE (0 : Int32) (7 : Int32) X1 hx hZ hw hby hml hown e1 N1 O0 (E_w_PRODUCE.ext O0.2) (F_minVersion_w_PRODUCE.ext O0.2) (F_maxVersion_w_PRODUCE.ext O0.2) Bd.returns hlk (fun t k => castTop (efL m p1 p2) (c1 t k))
  · obtain ⟨T1, L1, X1, N1, e1, c1⟩ := seg1 w_PRODUCE w_FETCH w_OFFSET_COMMIT w_METADATA w_LEAVE_GROUP w_OFFSET_FETCH w_FIND_COORDINATOR w_HEARTBEAT w_CREATE_TOPICS w_LIST_OFFSETS w_SYNC_GROUP w_API_VERSIONS w_JOIN_GROUP p1 p2 X0 hx hZ hw hby hml hown e0 (Fr.nil n0) O0 HW hk
    obtain ⟨S_w_PRODUCE, E_w_PRODUCE, S_w_FETCH, E_w_FETCH, S_w_OFFSET_COMMIT, E_w_OFFSET_COMMIT, S_w_METADATA, E_w_METADATA, S_w_LEAVE_GROUP, E_w_LEAVE_GROUP, S_w_OFFSET_FETCH, E_w_OFFSET_FETCH, S_w_FIND_COORDINATOR, E_w_FIND_COORDINATOR, S_w_HEARTBEAT, E_w_HEARTBEAT, S_w_CREATE_TOPICS, E_w_CREATE_TOPICS, S_w_LIST_OFFSETS, E_w_LIST_OFFSETS, S_w_SYNC_GROUP, E_w_SYNC_GROUP, S_w_API_VERSIONS, E_w_API_VERSIONS, S_w_JOIN_GROUP, E_w_JOIN_GROUP, F_minVersion_w_PRODUCE, F_maxVersion_w_PRODUCE, F_minVersion_w_FETCH, F_minVersion_w_OFFSET_COMMIT, F_maxVersion_w_OFFSET_COMMIT, F_minVersion_w_METADATA, F_minVersion_w_LEAVE_GROUP, F_maxVersion_w_LEAVE_GROUP, F_minVersion_w_OFFSET_FETCH, F_maxVersion_w_OFFSET_FETCH, F_minVersion_w_FIND_COORDINATOR, F_maxVersion_w_FIND_COORDINATOR, F_minVersion_w_HEARTBEAT, F_minVersion_w_CREATE_TOPICS, F_maxVersion_w_CREATE_TOPICS, F_minVersion_w_LIST_OFFSETS, F_maxVersion_w_LIST_OFFSETS, F_maxVersion_w_METADATA, F_maxVersion_w_HEARTBEAT, F_minVersion_w_SYNC_GROUP, F_minVersion_w_API_VERSIONS, F_maxVersion_w_API_VERSIONS, F_maxVersion_w_FETCH, F_maxVersion_w_SYNC_GROUP, F_minVersion_w_JOIN_GROUP, F_maxVersion_w_JOIN_GROUP, ne_w_PRODUCE_w_FETCH, ne_w_PRODUCE_w_OFFSET_COMMIT, ne_w_PRODUCE_w_METADATA, ne_w_PRODUCE_w_LEAVE_GROUP, ne_w_PRODUCE_w_OFFSET_FETCH, ne_w_PRODUCE_w_FIND_COORDINATOR, ne_w_PRODUCE_w_HEARTBEAT, ne_w_PRODUCE_w_CREATE_TOPICS, ne_w_PRODUCE_w_LIST_OFFSETS, ne_w_PRODUCE_w_SYNC_GROUP, ne_w_PRODUCE_w_API_VERSIONS, ne_w_PRODUCE_w_JOIN_GROUP, ne_w_FETCH_w_OFFSET_COMMIT, ne_w_FETCH_w_METADATA, ne_w_FETCH_w_LEAVE_GROUP, ne_w_FETCH_w_OFFSET_FETCH, ne_w_FETCH_w_FIND_COORDINATOR, ne_w_FETCH_w_HEARTBEAT, ne_w_FETCH_w_CREATE_TOPICS, ne_w_FETCH_w_LIST_OFFSETS, ne_w_FETCH_w_SYNC_GROUP, ne_w_FETCH_w_API_VERSIONS, ne_w_FETCH_w_JOIN_GROUP, ne_w_OFFSET_COMMIT_w_METADATA, ne_w_OFFSET_COMMIT_w_LEAVE_GROUP, ne_w_OFFSET_COMMIT_w_OFFSET_FETCH, ne_w_OFFSET_COMMIT_w_FIND_COORDINATOR, ne_w_OFFSET_COMMIT_w_HEARTBEAT, ne_w_OFFSET_COMMIT_w_CREATE_TOPICS, ne_w_OFFSET_COMMIT_w_LIST_OFFSETS, ne_w_OFFSET_COMMIT_w_SYNC_GROUP, ne_w_OFFSET_COMMIT_w_API_VERSIONS, ne_w_OFFSET_COMMIT_w_JOIN_GROUP, ne_w_METADATA_w_LEAVE_GROUP, ne_w_METADATA_w_OFFSET_FETCH, ne_w_METADATA_w_FIND_COORDINATOR, ne_w_METADATA_w_HEARTBEAT, ne_w_METADATA_w_LIST_OFFSETS, ne_w_METADATA_w_SYNC_GROUP, ne_w_METADATA_w_API_VERSIONS, ne_w_METADATA_w_JOIN_GROUP, ne_w_LEAVE_GROUP_w_OFFSET_FETCH, ne_w_LEAVE_GROUP_w_FIND_COORDINATOR, ne_w_LEAVE_GROUP_w_HEARTBEAT, ne_w_LEAVE_GROUP_w_CREATE_TOPICS, ne_w_LEAVE_GROUP_w_LIST_OFFSETS, ne_w_LEAVE_GROUP_w_SYNC_GROUP, ne_w_LEAVE_GROUP_w_API_VERSIONS, ne_w_LEAVE_GROUP_w_JOIN_GROUP, ne_w_OFFSET_FETCH_w_FIND_COORDINATOR, ne_w_OFFSET_FETCH_w_HEARTBEAT, ne_w_OFFSET_FETCH_w_CREATE_TOPICS, ne_w_OFFSET_FETCH_w_LIST_OFFSETS, ne_w_OFFSET_FETCH_w_SYNC_GROUP, ne_w_OFFSET_FETCH_w_API_VERSIONS, ne_w_OFFSET_FETCH_w_JOIN_GROUP, ne_w_FIND_COORDINATOR_w_HEARTBEAT, ne_w_FIND_COORDINATOR_w_CREATE_TOPICS, ne_w_FIND_COORDINATOR_w_LIST_OFFSETS, ne_w_FIND_COORDINATOR_w_SYNC_GROUP, ne_w_FIND_COORDINATOR_w_API_VERSIONS, ne_w_FIND_COORDINATOR_w_JOIN_GROUP, ne_w_HEARTBEAT_w_CREATE_TOPICS, ne_w_HEARTBEAT_w_LIST_OFFSETS, ne_w_HEARTBEAT_w_JOIN_GROUP, ne_w_CREATE_TOPICS_w_LIST_OFFSETS, ne_w_CREATE_TOPICS_w_SYNC_GROUP, ne_w_CREATE_TOPICS_w_API_VERSIONS, ne_w_CREATE_TOPICS_w_JOIN_GROUP, ne_w_LIST_OFFSETS_w_SYNC_GROUP, ne_w_LIST_OFFSETS_w_API_VERSIONS, ne_w_LIST_OFFSETS_w_JOIN_GROUP, ne_w_SYNC_GROUP_w_JOIN_GROUP, ne_w_API_VERSIONS_w_JOIN_GROUP, -⟩ := id HW
    exact fin p1 p2 (1 : Int32) (p2.toInt16.toInt32) w_FETCH (4 : Int32) (11 : Int32) X1 hx hZ hw hby hml hown e1 N1 O0 (E_w_FETCH.ext O0.2) (F_minVersion_w_FETCH.ext O0.2) (F_maxVersion_w_FETCH.ext O0.2) Bd.returns hlk (fun t k => castTop (efL m p1 p2) (c1 t k))
  · obtain ⟨T1, L1, X1, N1, e1, c1⟩ := seg2 w_PRODUCE w_FETCH w_OFFSET_COMMIT w_METADATA w_LEAVE_GROUP w_OFFSET_FETCH w_FIND_COORDINATOR w_HEARTBEAT w_CREATE_TOPICS w_LIST_OFFSETS w_SYNC_GROUP w_API_VERSIONS w_JOIN_GROUP p1 p2 X0 hx hZ hw hby hml hown e0 (Fr.nil n0) O0 HW hk
    obtain ⟨S_w_PRODUCE, E_w_PRODUCE, S_w_FETCH, E_w_FETCH, S_w_OFFSET_COMMIT, E_w_OFFSET_COMMIT, S_w_METADATA, E_w_METADATA, S_w_LEAVE_GROUP, E_w_LEAVE_GROUP, S_w_OFFSET_FETCH, E_w_OFFSET_FETCH, S_w_FIND_COORDINATOR, E_w_FIND_COORDINATOR, S_w_HEARTBEAT, E_w_HEARTBEAT, S_w_CREATE_TOPICS, E_w_CREATE_TOPICS, S_w_LIST_OFFSETS, E_w_LIST_OFFSETS, S_w_SYNC_GROUP, E_w_SYNC_GROUP, S_w_API_VERSIONS, E_w_API_VERSIONS, S_w_JOIN_GROUP, E_w_JOIN_GROUP, F_minVersion_w_PRODUCE, F_maxVersion_w_PRODUCE, F_minVersion_w_FETCH, F_minVersion_w_OFFSET_COMMIT, F_maxVersion_w_OFFSET_COMMIT, F_minVersion_w_METADATA, F_minVersion_w_LEAVE_GROUP, F_maxVersion_w_LEAVE_GROUP, F_minVersion_w_OFFSET_FETCH, F_maxVersion_w_OFFSET_FETCH, F_minVersion_w_FIND_COORDINATOR, F_maxVersion_w_FIND_COORDINATOR, F_minVersion_w_HEARTBEAT, F_minVersion_w_CREATE_TOPICS, F_maxVersion_w_CREATE_TOPICS, F_minVersion_w_LIST_OFFSETS, F_maxVersion_w_LIST_OFFSETS, F_maxVersion_w_METADATA, F_maxVersion_w_HEARTBEAT, F_minVersion_w_SYNC_GROUP, F_minVersion_w_API_VERSIONS, F_maxVersion_w_API_VERSIONS, F_maxVersion_w_FETCH, F_maxVersion_w_SYNC_GROUP, F_minVersion_w_JOIN_GROUP, F_maxVersion_w_JOIN_GROUP, ne_w_PRODUCE_w_FETCH, ne_w_PRODUCE_w_OFFSET_COMMIT, ne_w_PRODUCE_w_METADATA, ne_w_PRODUCE_w_LEAVE_GROUP, ne_w_PRODUCE_w_OFFSET_FETCH, ne_w_PRODUCE_w_FIND_COORDINATOR, ne_w_PRODUCE_w_HEARTBEAT, ne_w_PRODUCE_w_CREATE_TOPICS, ne_w_PRODUCE_w_LIST_OFFSETS, ne_w_PRODUCE_w_SYNC_GROUP, ne_w_PRODUCE_w_API_VERSIONS, ne_w_PRODUCE_w_JOIN_GROUP, ne_w_FETCH_w_OFFSET_COMMIT, ne_w_FETCH_w_METADATA, ne_w_FETCH_w_LEAVE_GROUP, ne_w_FETCH_w_OFFSET_FETCH, ne_w_FETCH_w_FIND_COORDINATOR, ne_w_FETCH_w_HEARTBEAT, ne_w_FETCH_w_CREATE_TOPICS, ne_w_FETCH_w_LIST_OFFSETS, ne_w_FETCH_w_SYNC_GROUP, ne_w_FETCH_w_API_VERSIONS, ne_w_FETCH_w_JOIN_GROUP, ne_w_OFFSET_COMMIT_w_METADATA, ne_w_OFFSET_COMMIT_w_LEAVE_GROUP, ne_w_OFFSET_COMMIT_w_OFFSET_FETCH, ne_w_OFFSET_COMMIT_w_FIND_COORDINATOR, ne_w_OFFSET_COMMIT_w_HEARTBEAT, ne_w_OFFSET_COMMIT_w_CREATE_TOPICS, ne_w_OFFSET_COMMIT_w_LIST_OFFSETS, ne_w_OFFSET_COMMIT_w_SYNC_GROUP, ne_w_OFFSET_COMMIT_w_API_VERSIONS, ne_w_OFFSET_COMMIT_w_JOIN_GROUP, ne_w_METADATA_w_LEAVE_GROUP, ne_w_METADATA_w_OFFSET_FETCH, ne_w_METADATA_w_FIND_COORDINATOR, ne_w_METADATA_w_HEARTBEAT, ne_w_METADATA_w_LIST_OFFSETS, ne_w_METADATA_w_SYNC_GROUP, ne_w_METADATA_w_API_VERSIONS, ne_w_METADATA_w_JOIN_GROUP, ne_w_LEAVE_GROUP_w_OFFSET_FETCH, ne_w_LEAVE_GROUP_w_FIND_COORDINATOR, ne_w_LEAVE_GROUP_w_HEARTBEAT, ne_w_LEAVE_GROUP_w_CREATE_TOPICS, ne_w_LEAVE_GROUP_w_LIST_OFFSETS, ne_w_LEAVE_GROUP_w_SYNC_GROUP, ne_w_LEAVE_GROUP_w_API_VERSIONS, ne_w_LEAVE_GROUP_w_JOIN_GROUP, ne_w_OFFSET_FETCH_w_FIND_COORDINATOR, ne_w_OFFSET_FETCH_w_HEARTBEAT, ne_w_OFFSET_FETCH_w_CREATE_TOPICS, ne_w_OFFSET_FETCH_w_LIST_OFFSETS, ne_w_OFFSET_FETCH_w_SYNC_GROUP, ne_w_OFFSET_FETCH_w_API_VERSIONS, ne_w_OFFSET_FETCH_w_JOIN_GROUP, ne_w_FIND_COORDINATOR_w_HEARTBEAT, ne_w_FIND_COORDINATOR_w_CREATE_TOPICS, ne_w_FIND_COORDINATOR_w_LIST_OFFSETS, ne_w_FIND_COORDINATOR_w_SYNC_GROUP, ne_w_FIND_COORDINATOR_w_API_VERSIONS, ne_w_FIND_COORDINATOR_w_JOIN_GROUP, ne_w_HEARTBEAT_w_CREATE_TOPICS, ne_w_HEARTBEAT_w_LIST_OFFSETS, ne_w_HEARTBEAT_w_JOIN_GROUP, ne_w_CREATE_TOPICS_w_LIST_OFFSETS, ne_w_CREATE_TOPICS_w_SYNC_GROUP, ne_w_CREATE_TOPICS_w_API_VERSIONS, ne_w_CREATE_TOPICS_w_JOIN_GROUP, ne_w_LIST_OFFSETS_w_SYNC_GROUP, ne_w_LIST_OFFSETS_w_API_VERSIONS, ne_w_LIST_OFFSETS_w_JOIN_GROUP, ne_w_SYNC_GROUP_w_JOIN_GROUP, ne_w_API_VERSIONS_w_JOIN_GROUP, -⟩ := id HW
    exact fin p1 p2 (2 : Int32) (p2.toInt16.toInt32) w_LIST_OFFSETS (1 : Int32) (2 : Int32) X1 hx hZ hw hby hml hown e1 N1 O0 (E_w_LIST_OFFSETS.ext O0.2) (F_minVersion_w_LIST_OFFSETS.ext O0.2) (F_maxVersion_w_LIST_OFFSETS.ext O0.2) Bd.returns hlk (fun t k => castTop (efL m p1 p2) (c1 t k))
  · obtain ⟨T1, L1, X1, N1, e1, c1⟩ := seg3 w_PRODUCE w_FETCH w_OFFSET_COMMIT w_METADATA w_LEAVE_GROUP w_OFFSET_FETCH w_FIND_COORDINATOR w_HEARTBEAT w_CREATE_TOPICS w_LIST_OFFSETS w_SYNC_GROUP w_API_VERSIONS w_JOIN_GROUP p1 p2 X0 hx hZ hw hby hml hown e0 (Fr.nil n0) O0 HW hk
    obtain ⟨S_w_PRODUCE, E_w_PRODUCE, S_w_FETCH, E_w_FETCH, S_w_OFFSET_COMMIT, E_w_OFFSET_COMMIT, S_w_METADATA, E_w_METADATA, S_w_LEAVE_GROUP, E_w_LEAVE_GROUP, S_w_OFFSET_FETCH, E_w_OFFSET_FETCH, S_w_FIND_COORDINATOR, E_w_FIND_COORDINATOR, S_w_HEARTBEAT, E_w_HEARTBEAT, S_w_CREATE_TOPICS, E_w_CREATE_TOPICS, S_w_LIST_OFFSETS, E_w_LIST_OFFSETS, S_w_SYNC_GROUP, E_w_SYNC_GROUP, S_w_API_VERSIONS, E_w_API_VERSIONS, S_w_JOIN_GROUP, E_w_JOIN_GROUP, F_minVersion_w_PRODUCE, F_maxVersion_w_PRODUCE, F_minVersion_w_FETCH, F_minVersion_w_OFFSET_COMMIT, F_maxVersion_w_OFFSET_COMMIT, F_minVersion_w_METADATA, F_minVersion_w_LEAVE_GROUP, F_maxVersion_w_LEAVE_GROUP, F_minVersion_w_OFFSET_FETCH, F_maxVersion_w_OFFSET_FETCH, F_minVersion_w_FIND_COORDINATOR, F_maxVersion_w_FIND_COORDINATOR, F_minVersion_w_HEARTBEAT, F_minVersion_w_CREATE_TOPICS, F_maxVersion_w_CREATE_TOPICS, F_minVersion_w_LIST_OFFSETS, F_maxVersion_w_LIST_OFFSETS, F_maxVersion_w_METADATA, F_maxVersion_w_HEARTBEAT, F_minVersion_w_SYNC_GROUP, F_minVersion_w_API_VERSIONS, F_maxVersion_w_API_VERSIONS, F_maxVersion_w_FETCH, F_maxVersion_w_SYNC_GROUP, F_minVersion_w_JOIN_GROUP, F_maxVersion_w_JOIN_GROUP, ne_w_PRODUCE_w_FETCH, ne_w_PRODUCE_w_OFFSET_COMMIT, ne_w_PRODUCE_w_METADATA, ne_w_PRODUCE_w_LEAVE_GROUP, ne_w_PRODUCE_w_OFFSET_FETCH, ne_w_PRODUCE_w_FIND_COORDINATOR, ne_w_PRODUCE_w_HEARTBEAT, ne_w_PRODUCE_w_CREATE_TOPICS, ne_w_PRODUCE_w_LIST_OFFSETS, ne_w_PRODUCE_w_SYNC_GROUP, ne_w_PRODUCE_w_API_VERSIONS, ne_w_PRODUCE_w_JOIN_GROUP, ne_w_FETCH_w_OFFSET_COMMIT, ne_w_FETCH_w_METADATA, ne_w_FETCH_w_LEAVE_GROUP, ne_w_FETCH_w_OFFSET_FETCH, ne_w_FETCH_w_FIND_COORDINATOR, ne_w_FETCH_w_HEARTBEAT, ne_w_FETCH_w_CREATE_TOPICS, ne_w_FETCH_w_LIST_OFFSETS, ne_w_FETCH_w_SYNC_GROUP, ne_w_FETCH_w_API_VERSIONS, ne_w_FETCH_w_JOIN_GROUP, ne_w_OFFSET_COMMIT_w_METADATA, ne_w_OFFSET_COMMIT_w_LEAVE_GROUP, ne_w_OFFSET_COMMIT_w_OFFSET_FETCH, ne_w_OFFSET_COMMIT_w_FIND_COORDINATOR, ne_w_OFFSET_COMMIT_w_HEARTBEAT, ne_w_OFFSET_COMMIT_w_CREATE_TOPICS, ne_w_OFFSET_COMMIT_w_LIST_OFFSETS, ne_w_OFFSET_COMMIT_w_SYNC_GROUP, ne_w_OFFSET_COMMIT_w_API_VERSIONS, ne_w_OFFSET_COMMIT_w_JOIN_GROUP, ne_w_METADATA_w_LEAVE_GROUP, ne_w_METADATA_w_OFFSET_FETCH, ne_w_METADATA_w_FIND_COORDINATOR, ne_w_METADATA_w_HEARTBEAT, ne_w_METADATA_w_LIST_OFFSETS, ne_w_METADATA_w_SYNC_GROUP, ne_w_METADATA_w_API_VERSIONS, ne_w_METADATA_w_JOIN_GROUP, ne_w_LEAVE_GROUP_w_OFFSET_FETCH, ne_w_LEAVE_GROUP_w_FIND_COORDINATOR, ne_w_LEAVE_GROUP_w_HEARTBEAT, ne_w_LEAVE_GROUP_w_CREATE_TOPICS, ne_w_LEAVE_GROUP_w_LIST_OFFSETS, ne_w_LEAVE_GROUP_w_SYNC_GROUP, ne_w_LEAVE_GROUP_w_API_VERSIONS, ne_w_LEAVE_GROUP_w_JOIN_GROUP, ne_w_OFFSET_FETCH_w_FIND_COORDINATOR, ne_w_OFFSET_FETCH_w_HEARTBEAT, ne_w_OFFSET_FETCH_w_CREATE_TOPICS, ne_w_OFFSET_FETCH_w_LIST_OFFSETS, ne_w_OFFSET_FETCH_w_SYNC_GROUP, ne_w_OFFSET_FETCH_w_API_VERSIONS, ne_w_OFFSET_FETCH_w_JOIN_GROUP, ne_w_FIND_COORDINATOR_w_HEARTBEAT, ne_w_FIND_COORDINATOR_w_CREATE_TOPICS, ne_w_FIND_COORDINATOR_w_LIST_OFFSETS, ne_w_FIND_COORDINATOR_w_SYNC_GROUP, ne_w_FIND_COORDINATOR_w_API_VERSIONS, ne_w_FIND_COORDINATOR_w_JOIN_GROUP, ne_w_HEARTBEAT_w_CREATE_TOPICS, ne_w_HEARTBEAT_w_LIST_OFFSETS, ne_w_HEARTBEAT_w_JOIN_GROUP, ne_w_CREATE_TOPICS_w_LIST_OFFSETS, ne_w_CREATE_TOPICS_w_SYNC_GROUP, ne_w_CREATE_TOPICS_w_API_VERSIONS, ne_w_CREATE_TOPICS_w_JOIN_GROUP, ne_w_LIST_OFFSETS_w_SYNC_GROUP, ne_w_LIST_OFFSETS_w_API_VERSIONS, ne_w_LIST_OFFSETS_w_JOIN_GROUP, ne_w_SYNC_GROUP_w_JOIN_GROUP, ne_w_API_VERSIONS_w_JOIN_GROUP, -⟩ := id HW
    exact fin p1 p2 (3 : Int32) (p2.toInt16.toInt32) w_METADATA (0 : Int32) (4 : Int32) X1 hx hZ hw hby hml hown e1 N1 O0 (E_w_METADATA.ext O0.2) (F_minVersion_w_METADATA.ext O0.2) (F_maxVersion_w_METADATA.ext O0.2) Bd.returns hlk (fun t k => castTop (efL m p1 p2) (c1 t k))
  · obtain ⟨T1, L1, X1, N1, e1, c1⟩ := seg4 w_PRODUCE w_FETCH w_OFFSET_COMMIT w_METADATA w_LEAVE_GROUP w_OFFSET_FETCH w_FIND_COORDINATOR w_HEARTBEAT w_CREATE_TOPICS w_LIST_OFFSETS w_SYNC_GROUP w_API_VERSIONS w_JOIN_GROUP p1 p2 X0 hx hZ hw hby hml hown e0 (Fr.nil n0) O0 HW hk
    obtain ⟨S_w_PRODUCE, E_w_PRODUCE, S_w_FETCH, E_w_FETCH, S_w_OFFSET_COMMIT, E_w_OFFSET_COMMIT, S_w_METADATA, E_w_METADATA, S_w_LEAVE_GROUP, E_w_LEAVE_GROUP, S_w_OFFSET_FETCH, E_w_OFFSET_FETCH, S_w_FIND_COORDINATOR, E_w_FIND_COORDINATOR, S_w_HEARTBEAT, E_w_HEARTBEAT, S_w_CREATE_TOPICS, E_w_CREATE_TOPICS, S_w_LIST_OFFSETS, E_w_LIST_OFFSETS, S_w_SYNC_GROUP, E_w_SYNC_GROUP, S_w_API_VERSIONS, E_w_API_VERSIONS, S_w_JOIN_GROUP, E_w_JOIN_GROUP, F_minVersion_w_PRODUCE, F_maxVersion_w_PRODUCE, F_minVersion_w_FETCH, F_minVersion_w_OFFSET_COMMIT, F_maxVersion_w_OFFSET_COMMIT, F_minVersion_w_METADATA, F_minVersion_w_LEAVE_GROUP, F_maxVersion_w_LEAVE_GROUP, F_minVersion_w_OFFSET_FETCH, F_maxVersion_w_OFFSET_FETCH, F_minVersion_w_FIND_COORDINATOR, F_maxVersion_w_FIND_COORDINATOR, F_minVersion_w_HEARTBEAT, F_minVersion_w_CREATE_TOPICS, F_maxVersion_w_CREATE_TOPICS, F_minVersion_w_LIST_OFFSETS, F_maxVersion_w_LIST_OFFSETS, F_maxVersion_w_METADATA, F_maxVersion_w_HEARTBEAT, F_minVersion_w_SYNC_GROUP, F_minVersion_w_API_VERSIONS, F_maxVersion_w_API_VERSIONS, F_maxVersion_w_FETCH, F_maxVersion_w_SYNC_GROUP, F_minVersion_w_JOIN_GROUP, F_maxVersion_w_JOIN_GROUP, ne_w_PRODUCE_w_FETCH, ne_w_PRODUCE_w_OFFSET_COMMIT, ne_w_PRODUCE_w_METADATA, ne_w_PRODUCE_w_LEAVE_GROUP, ne_w_PRODUCE_w_OFFSET_FETCH, ne_w_PRODUCE_w_FIND_COORDINATOR, ne_w_PRODUCE_w_HEARTBEAT, ne_w_PRODUCE_w_CREATE_TOPICS, ne_w_PRODUCE_w_LIST_OFFSETS, ne_w_PRODUCE_w_SYNC_GROUP, ne_w_PRODUCE_w_API_VERSIONS, ne_w_PRODUCE_w_JOIN_GROUP, ne_w_FETCH_w_OFFSET_COMMIT, ne_w_FETCH_w_METADATA, ne_w_FETCH_w_LEAVE_GROUP, ne_w_FETCH_w_OFFSET_FETCH, ne_w_FETCH_w_FIND_COORDINATOR, ne_w_FETCH_w_HEARTBEAT, ne_w_FETCH_w_CREATE_TOPICS, ne_w_FETCH_w_LIST_OFFSETS, ne_w_FETCH_w_SYNC_GROUP, ne_w_FETCH_w_API_VERSIONS, ne_w_FETCH_w_JOIN_GROUP, ne_w_OFFSET_COMMIT_w_METADATA, ne_w_OFFSET_COMMIT_w_LEAVE_GROUP, ne_w_OFFSET_COMMIT_w_OFFSET_FETCH, ne_w_OFFSET_COMMIT_w_FIND_COORDINATOR, ne_w_OFFSET_COMMIT_w_HEARTBEAT, ne_w_OFFSET_COMMIT_w_CREATE_TOPICS, ne_w_OFFSET_COMMIT_w_LIST_OFFSETS, ne_w_OFFSET_COMMIT_w_SYNC_GROUP, ne_w_OFFSET_COMMIT_w_API_VERSIONS, ne_w_OFFSET_COMMIT_w_JOIN_GROUP, ne_w_METADATA_w_LEAVE_GROUP, ne_w_METADATA_w_OFFSET_FETCH, ne_w_METADATA_w_FIND_COORDINATOR, ne_w_METADATA_w_HEARTBEAT, ne_w_METADATA_w_LIST_OFFSETS, ne_w_METADATA_w_SYNC_GROUP, ne_w_METADATA_w_API_VERSIONS, ne_w_METADATA_w_JOIN_GROUP, ne_w_LEAVE_GROUP_w_OFFSET_FETCH, ne_w_LEAVE_GROUP_w_FIND_COORDINATOR, ne_w_LEAVE_GROUP_w_HEARTBEAT, ne_w_LEAVE_GROUP_w_CREATE_TOPICS, ne_w_LEAVE_GROUP_w_LIST_OFFSETS, ne_w_LEAVE_GROUP_w_SYNC_GROUP, ne_w_LEAVE_GROUP_w_API_VERSIONS, ne_w_LEAVE_GROUP_w_JOIN_GROUP, ne_w_OFFSET_FETCH_w_FIND_COORDINATOR, ne_w_OFFSET_FETCH_w_HEARTBEAT, ne_w_OFFSET_FETCH_w_CREATE_TOPICS, ne_w_OFFSET_FETCH_w_LIST_OFFSETS, ne_w_OFFSET_FETCH_w_SYNC_GROUP, ne_w_OFFSET_FETCH_w_API_VERSIONS, ne_w_OFFSET_FETCH_w_JOIN_GROUP, ne_w_FIND_COORDINATOR_w_HEARTBEAT, ne_w_FIND_COORDINATOR_w_CREATE_TOPICS, ne_w_FIND_COORDINATOR_w_LIST_OFFSETS, ne_w_FIND_COORDINATOR_w_SYNC_GROUP, ne_w_FIND_COORDINATOR_w_API_VERSIONS, ne_w_FIND_COORDINATOR_w_JOIN_GROUP, ne_w_HEARTBEAT_w_CREATE_TOPICS, ne_w_HEARTBEAT_w_LIST_OFFSETS, ne_w_HEARTBEAT_w_JOIN_GROUP, ne_w_CREATE_TOPICS_w_LIST_OFFSETS, ne_w_CREATE_TOPICS_w_SYNC_GROUP, ne_w_CREATE_TOPICS_w_API_VERSIONS, ne_w_CREATE_TOPICS_w_JOIN_GROUP, ne_w_LIST_OFFSETS_w_SYNC_GROUP, ne_w_LIST_OFFSETS_w_API_VERSIONS, ne_w_LIST_OFFSETS_w_JOIN_GROUP, ne_w_SYNC_GROUP_w_JOIN_GROUP, ne_w_API_VERSIONS_w_JOIN_GROUP, -⟩ := id HW
    exact fin p1 p2 (4 : Int32) (p2.toInt16.toInt32) w_OFFSET_COMMIT (2 : Int32) (7 : Int32) X1 hx hZ hw hby hml hown e1 N1 O0 (E_w_OFFSET_COMMIT.ext O0.2) (F_minVersion_w_OFFSET_COMMIT.ext O0.2) (F_maxVersion_w_OFFSET_COMMIT.ext O0.2) Bd.returns hlk (fun t k => castTop (efL m p1 p2) (c1 t k))
  · obtain ⟨T1, L1, X1, N1, e1, c1⟩ := seg5 w_PRODUCE w_FETCH w_OFFSET_COMMIT w_METADATA w_LEAVE_GROUP w_OFFSET_FETCH w_FIND_COORDINATOR w_HEARTBEAT w_CREATE_TOPICS w_LIST_OFFSETS w_SYNC_GROUP w_API_VERSIONS w_JOIN_GROUP p1 p2 X0 hx hZ hw hby hml hown e0 (Fr.nil n0) O0 HW hk
    obtain ⟨S_w_PRODUCE, E_w_PRODUCE, S_w_FETCH, E_w_FETCH, S_w_OFFSET_COMMIT, E_w_OFFSET_COMMIT, S_w_METADATA, E_w_METADATA, S_w_LEAVE_GROUP, E_w_LEAVE_GROUP, S_w_OFFSET_FETCH, E_w_OFFSET_FETCH, S_w_FIND_COORDINATOR, E_w_FIND_COORDINATOR, S_w_HEARTBEAT, E_w_HEARTBEAT, S_w_CREATE_TOPICS, E_w_CREATE_TOPICS, S_w_LIST_OFFSETS, E_w_LIST_OFFSETS, S_w_SYNC_GROUP, E_w_SYNC_GROUP, S_w_API_VERSIONS, E_w_API_VERSIONS, S_w_JOIN_GROUP, E_w_JOIN_GROUP, F_minVersion_w_PRODUCE, F_maxVersion_w_PRODUCE, F_minVersion_w_FETCH, F_minVersion_w_OFFSET_COMMIT, F_maxVersion_w_OFFSET_COMMIT, F_minVersion_w_METADATA, F_minVersion_w_LEAVE_GROUP, F_maxVersion_w_LEAVE_GROUP, F_minVersion_w_OFFSET_FETCH, F_maxVersion_w_OFFSET_FETCH, F_minVersion_w_FIND_COORDINATOR, F_maxVersion_w_FIND_COORDINATOR, F_minVersion_w_HEARTBEAT, F_minVersion_w_CREATE_TOPICS, F_maxVersion_w_CREATE_TOPICS, F_minVersion_w_LIST_OFFSETS, F_maxVersion_w_LIST_OFFSETS, F_maxVersion_w_METADATA, F_maxVersion_w_HEARTBEAT, F_minVersion_w_SYNC_GROUP, F_minVersion_w_API_VERSIONS, F_maxVersion_w_API_VERSIONS, F_maxVersion_w_FETCH, F_maxVersion_w_SYNC_GROUP, F_minVersion_w_JOIN_GROUP, F_maxVersion_w_JOIN_GROUP, ne_w_PRODUCE_w_FETCH, ne_w_PRODUCE_w_OFFSET_COMMIT, ne_w_PRODUCE_w_METADATA, ne_w_PRODUCE_w_LEAVE_GROUP, ne_w_PRODUCE_w_OFFSET_FETCH, ne_w_PRODUCE_w_FIND_COORDINATOR, ne_w_PRODUCE_w_HEARTBEAT, ne_w_PRODUCE_w_CREATE_TOPICS, ne_w_PRODUCE_w_LIST_OFFSETS, ne_w_PRODUCE_w_SYNC_GROUP, ne_w_PRODUCE_w_API_VERSIONS, ne_w_PRODUCE_w_JOIN_GROUP, ne_w_FETCH_w_OFFSET_COMMIT, ne_w_FETCH_w_METADATA, ne_w_FETCH_w_LEAVE_GROUP, ne_w_FETCH_w_OFFSET_FETCH, ne_w_FETCH_w_FIND_COORDINATOR, ne_w_FETCH_w_HEARTBEAT, ne_w_FETCH_w_CREATE_TOPICS, ne_w_FETCH_w_LIST_OFFSETS, ne_w_FETCH_w_SYNC_GROUP, ne_w_FETCH_w_API_VERSIONS, ne_w_FETCH_w_JOIN_GROUP, ne_w_OFFSET_COMMIT_w_METADATA, ne_w_OFFSET_COMMIT_w_LEAVE_GROUP, ne_w_OFFSET_COMMIT_w_OFFSET_FETCH, ne_w_OFFSET_COMMIT_w_FIND_COORDINATOR, ne_w_OFFSET_COMMIT_w_HEARTBEAT, ne_w_OFFSET_COMMIT_w_CREATE_TOPICS, ne_w_OFFSET_COMMIT_w_LIST_OFFSETS, ne_w_OFFSET_COMMIT_w_SYNC_GROUP, ne_w_OFFSET_COMMIT_w_API_VERSIONS, ne_w_OFFSET_COMMIT_w_JOIN_GROUP, ne_w_METADATA_w_LEAVE_GROUP, ne_w_METADATA_w_OFFSET_FETCH, ne_w_METADATA_w_FIND_COORDINATOR, ne_w_METADATA_w_HEARTBEAT, ne_w_METADATA_w_LIST_OFFSETS, ne_w_METADATA_w_SYNC_GROUP, ne_w_METADATA_w_API_VERSIONS, ne_w_METADATA_w_JOIN_GROUP, ne_w_LEAVE_GROUP_w_OFFSET_FETCH, ne_w_LEAVE_GROUP_w_FIND_COORDINATOR, ne_w_LEAVE_GROUP_w_HEARTBEAT, ne_w_LEAVE_GROUP_w_CREATE_TOPICS, ne_w_LEAVE_GROUP_w_LIST_OFFSETS, ne_w_LEAVE_GROUP_w_SYNC_GROUP, ne_w_LEAVE_GROUP_w_API_VERSIONS, ne_w_LEAVE_GROUP_w_JOIN_GROUP, ne_w_OFFSET_FETCH_w_FIND_COORDINATOR, ne_w_OFFSET_FETCH_w_HEARTBEAT, ne_w_OFFSET_FETCH_w_CREATE_TOPICS, ne_w_OFFSET_FETCH_w_LIST_OFFSETS, ne_w_OFFSET_FETCH_w_SYNC_GROUP, ne_w_OFFSET_FETCH_w_API_VERSIONS, ne_w_OFFSET_FETCH_w_JOIN_GROUP, ne_w_FIND_COORDINATOR_w_HEARTBEAT, ne_w_FIND_COORDINATOR_w_CREATE_TOPICS, ne_w_FIND_COORDINATOR_w_LIST_OFFSETS, ne_w_FIND_COORDINATOR_w_SYNC_GROUP, ne_w_FIND_COORDINATOR_w_API_VERSIONS, ne_w_FIND_COORDINATOR_w_JOIN_GROUP, ne_w_HEARTBEAT_w_CREATE_TOPICS, ne_w_HEARTBEAT_w_LIST_OFFSETS, ne_w_HEARTBEAT_w_JOIN_GROUP, ne_w_CREATE_TOPICS_w_LIST_OFFSETS, ne_w_CREATE_TOPICS_w_SYNC_GROUP, ne_w_CREATE_TOPICS_w_API_VERSIONS, ne_w_CREATE_TOPICS_w_JOIN_GROUP, ne_w_LIST_OFFSETS_w_SYNC_GROUP, ne_w_LIST_OFFSETS_w_API_VERSIONS, ne_w_LIST_OFFSETS_w_JOIN_GROUP, ne_w_SYNC_GROUP_w_JOIN_GROUP, ne_w_API_VERSIONS_w_JOIN_GROUP, -⟩ := id HW
    exact fin p1 p2 (5 : Int32) (p2.toInt16.toInt32) w_OFFSET_FETCH (1 : Int32) (5 : Int32) X1 hx hZ hw hby hml hown e1 N1 O0 (E_w_OFFSET_FETCH.ext O0.2) (F_minVersion_w_OFFSET_FETCH.ext O0.2) (F_maxVersion_w_OFFSET_FETCH.ext O0.2) Bd.returns hlk (fun t k => castTop (efL m p1 p2) (c1 t k))
  · obtain ⟨T1, L1, X1, N1, e1, c1⟩ := seg6 w_PRODUCE w_FETCH w_OFFSET_COMMIT w_METADATA w_LEAVE_GROUP w_OFFSET_FETCH w_FIND_COORDINATOR w_HEARTBEAT w_CREATE_TOPICS w_LIST_OFFSETS w_SYNC_GROUP w_API_VERSIONS w_JOIN_GROUP p1 p2 X0 hx hZ hw hby hml hown e0 (Fr.nil n0) O0 HW hk
    obtain ⟨S_w_PRODUCE, E_w_PRODUCE, S_w_FETCH, E_w_FETCH, S_w_OFFSET_COMMIT, E_w_OFFSET_COMMIT, S_w_METADATA, E_w_METADATA, S_w_LEAVE_GROUP, E_w_LEAVE_GROUP, S_w_OFFSET_FETCH, E_w_OFFSET_FETCH, S_w_FIND_COORDINATOR, E_w_FIND_COORDINATOR, S_w_HEARTBEAT, E_w_HEARTBEAT, S_w_CREATE_TOPICS, E_w_CREATE_TOPICS, S_w_LIST_OFFSETS, E_w_LIST_OFFSETS, S_w_SYNC_GROUP, E_w_SYNC_GROUP, S_w_API_VERSIONS, E_w_API_VERSIONS, S_w_JOIN_GROUP, E_w_JOIN_GROUP, F_minVersion_w_PRODUCE, F_maxVersion_w_PRODUCE, F_minVersion_w_FETCH, F_minVersion_w_OFFSET_COMMIT, F_maxVersion_w_OFFSET_COMMIT, F_minVersion_w_METADATA, F_minVersion_w_LEAVE_GROUP, F_maxVersion_w_LEAVE_GROUP, F_minVersion_w_OFFSET_FETCH, F_maxVersion_w_OFFSET_FETCH, F_minVersion_w_FIND_COORDINATOR, F_maxVersion_w_FIND_COORDINATOR, F_minVersion_w_HEARTBEAT, F_minVersion_w_CREATE_TOPICS, F_maxVersion_w_CREATE_TOPICS, F_minVersion_w_LIST_OFFSETS, F_maxVersion_w_LIST_OFFSETS, F_maxVersion_w_METADATA, F_maxVersion_w_HEARTBEAT, F_minVersion_w_SYNC_GROUP, F_minVersion_w_API_VERSIONS, F_maxVersion_w_API_VERSIONS, F_maxVersion_w_FETCH, F_maxVersion_w_SYNC_GROUP, F_minVersion_w_JOIN_GROUP, F_maxVersion_w_JOIN_GROUP, ne_w_PRODUCE_w_FETCH, ne_w_PRODUCE_w_OFFSET_COMMIT, ne_w_PRODUCE_w_METADATA, ne_w_PRODUCE_w_LEAVE_GROUP, ne_w_PRODUCE_w_OFFSET_FETCH, ne_w_PRODUCE_w_FIND_COORDINATOR, ne_w_PRODUCE_w_HEARTBEAT, ne_w_PRODUCE_w_CREATE_TOPICS, ne_w_PRODUCE_w_LIST_OFFSETS, ne_w_PRODUCE_w_SYNC_GROUP, ne_w_PRODUCE_w_API_VERSIONS, ne_w_PRODUCE_w_JOIN_GROUP, ne_w_FETCH_w_OFFSET_COMMIT, ne_w_FETCH_w_METADATA, ne_w_FETCH_w_LEAVE_GROUP, ne_w_FETCH_w_OFFSET_FETCH, ne_w_FETCH_w_FIND_COORDINATOR, ne_w_FETCH_w_HEARTBEAT, ne_w_FETCH_w_CREATE_TOPICS, ne_w_FETCH_w_LIST_OFFSETS, ne_w_FETCH_w_SYNC_GROUP, ne_w_FETCH_w_API_VERSIONS, ne_w_FETCH_w_JOIN_GROUP, ne_w_OFFSET_COMMIT_w_METADATA, ne_w_OFFSET_COMMIT_w_LEAVE_GROUP, ne_w_OFFSET_COMMIT_w_OFFSET_FETCH, ne_w_OFFSET_COMMIT_w_FIND_COORDINATOR, ne_w_OFFSET_COMMIT_w_HEARTBEAT, ne_w_OFFSET_COMMIT_w_CREATE_TOPICS, ne_w_OFFSET_COMMIT_w_LIST_OFFSETS, ne_w_OFFSET_COMMIT_w_SYNC_GROUP, ne_w_OFFSET_COMMIT_w_API_VERSIONS, ne_w_OFFSET_COMMIT_w_JOIN_GROUP, ne_w_METADATA_w_LEAVE_GROUP, ne_w_METADATA_w_OFFSET_FETCH, ne_w_METADATA_w_FIND_COORDINATOR, ne_w_METADATA_w_HEARTBEAT, ne_w_METADATA_w_LIST_OFFSETS, ne_w_METADATA_w_SYNC_GROUP, ne_w_METADATA_w_API_VERSIONS, ne_w_METADATA_w_JOIN_GROUP, ne_w_LEAVE_GROUP_w_OFFSET_FETCH, ne_w_LEAVE_GROUP_w_FIND_COORDINATOR, ne_w_LEAVE_GROUP_w_HEARTBEAT, ne_w_LEAVE_GROUP_w_CREATE_TOPICS, ne_w_LEAVE_GROUP_w_LIST_OFFSETS, ne_w_LEAVE_GROUP_w_SYNC_GROUP, ne_w_LEAVE_GROUP_w_API_VERSIONS, ne_w_LEAVE_GROUP_w_JOIN_GROUP, ne_w_OFFSET_FETCH_w_FIND_COORDINATOR, ne_w_OFFSET_FETCH_w_HEARTBEAT, ne_w_OFFSET_FETCH_w_CREATE_TOPICS, ne_w_OFFSET_FETCH_w_LIST_OFFSETS, ne_w_OFFSET_FETCH_w_SYNC_GROUP, ne_w_OFFSET_FETCH_w_API_VERSIONS, ne_w_OFFSET_FETCH_w_JOIN_GROUP, ne_w_FIND_COORDINATOR_w_HEARTBEAT, ne_w_FIND_COORDINATOR_w_CREATE_TOPICS, ne_w_FIND_COORDINATOR_w_LIST_OFFSETS, ne_w_FIND_COORDINATOR_w_SYNC_GROUP, ne_w_FIND_COORDINATOR_w_API_VERSIONS, ne_w_FIND_COORDINATOR_w_JOIN_GROUP, ne_w_HEARTBEAT_w_CREATE_TOPICS, ne_w_HEARTBEAT_w_LIST_OFFSETS, ne_w_HEARTBEAT_w_JOIN_GROUP, ne_w_CREATE_TOPICS_w_LIST_OFFSETS, ne_w_CREATE_TOPICS_w_SYNC_GROUP, ne_w_CREATE_TOPICS_w_API_VERSIONS, ne_w_CREATE_TOPICS_w_JOIN_GROUP, ne_w_LIST_OFFSETS_w_SYNC_GROUP, ne_w_LIST_OFFSETS_w_API_VERSIONS, ne_w_LIST_OFFSETS_w_JOIN_GROUP, ne_w_SYNC_GROUP_w_JOIN_GROUP, ne_w_API_VERSIONS_w_JOIN_GROUP, -⟩ := id HW
    exact fin p1 p2 (6 : Int32) (p2.toInt16.toInt32) w_FIND_COORDINATOR (0 : Int32) (2 : Int32) X1 hx hZ hw hby hml hown e1 N1 O0 (E_w_FIND_COORDINATOR.ext O0.2) (F_minVersion_w_FIND_COORDINATOR.ext O0.2) (F_maxVersion_w_FIND_COORDINATOR.ext O0.2) Bd.returns hlk (fun t k => castTop (efL m p1 p2) (c1 t k))
  · obtain ⟨T1, L1, X1, N1, e1, c1⟩ := seg7 w_PRODUCE w_FETCH w_OFFSET_COMMIT w_METADATA w_LEAVE_GROUP w_OFFSET_FETCH w_FIND_COORDINATOR w_HEARTBEAT w_CREATE_TOPICS w_LIST_OFFSETS w_SYNC_GROUP w_API_VERSIONS w_JOIN_GROUP p1 p2 X0 hx hZ hw hby hml hown e0 (Fr.nil n0) O0 HW hk
    obtain ⟨S_w_PRODUCE, E_w_PRODUCE, S_w_FETCH, E_w_FETCH, S_w_OFFSET_COMMIT, E_w_OFFSET_COMMIT, S_w_METADATA, E_w_METADATA, S_w_LEAVE_GROUP, E_w_LEAVE_GROUP, S_w_OFFSET_FETCH, E_w_OFFSET_FETCH, S_w_FIND_COORDINATOR, E_w_FIND_COORDINATOR, S_w_HEARTBEAT, E_w_HEARTBEAT, S_w_CREATE_TOPICS, E_w_CREATE_TOPICS, S_w_LIST_OFFSETS, E_w_LIST_OFFSETS, S_w_SYNC_GROUP, E_w_SYNC_GROUP, S_w_API_VERSIONS, E_w_API_VERSIONS, S_w_JOIN_GROUP, E_w_JOIN_GROUP, F_minVersion_w_PRODUCE, F_maxVersion_w_PRODUCE, F_minVersion_w_FETCH, F_minVersion_w_OFFSET_COMMIT, F_maxVersion_w_OFFSET_COMMIT, F_minVersion_w_METADATA, F_minVersion_w_LEAVE_GROUP, F_maxVersion_w_LEAVE_GROUP, F_minVersion_w_OFFSET_FETCH, F_maxVersion_w_OFFSET_FETCH, F_minVersion_w_FIND_COORDINATOR, F_maxVersion_w_FIND_COORDINATOR, F_minVersion_w_HEARTBEAT, F_minVersion_w_CREATE_TOPICS, F_maxVersion_w_CREATE_TOPICS, F_minVersion_w_LIST_OFFSETS, F_maxVersion_w_LIST_OFFSETS, F_maxVersion_w_METADATA, F_maxVersion_w_HEARTBEAT, F_minVersion_w_SYNC_GROUP, F_minVersion_w_API_VERSIONS, F_maxVersion_w_API_VERSIONS, F_maxVersion_w_FETCH, F_maxVersion_w_SYNC_GROUP, F_minVersion_w_JOIN_GROUP, F_maxVersion_w_JOIN_GROUP, ne_w_PRODUCE_w_FETCH, ne_w_PRODUCE_w_OFFSET_COMMIT, ne_w_PRODUCE_w_METADATA, ne_w_PRODUCE_w_LEAVE_GROUP, ne_w_PRODUCE_w_OFFSET_FETCH, ne_w_PRODUCE_w_FIND_COORDINATOR, ne_w_PRODUCE_w_HEARTBEAT, ne_w_PRODUCE_w_CREATE_TOPICS, ne_w_PRODUCE_w_LIST_OFFSETS, ne_w_PRODUCE_w_SYNC_GROUP, ne_w_PRODUCE_w_API_VERSIONS, ne_w_PRODUCE_w_JOIN_GROUP, ne_w_FETCH_w_OFFSET_COMMIT, ne_w_FETCH_w_METADATA, ne_w_FETCH_w_LEAVE_GROUP, ne_w_FETCH_w_OFFSET_FETCH, ne_w_FETCH_w_FIND_COORDINATOR, ne_w_FETCH_w_HEARTBEAT, ne_w_FETCH_w_CREATE_TOPICS, ne_w_FETCH_w_LIST_OFFSETS, ne_w_FETCH_w_SYNC_GROUP, ne_w_FETCH_w_API_VERSIONS, ne_w_FETCH_w_JOIN_GROUP, ne_w_OFFSET_COMMIT_w_METADATA, ne_w_OFFSET_COMMIT_w_LEAVE_GROUP, ne_w_OFFSET_COMMIT_w_OFFSET_FETCH, ne_w_OFFSET_COMMIT_w_FIND_COORDINATOR, ne_w_OFFSET_COMMIT_w_HEARTBEAT, ne_w_OFFSET_COMMIT_w_CREATE_TOPICS, ne_w_OFFSET_COMMIT_w_LIST_OFFSETS, ne_w_OFFSET_COMMIT_w_SYNC_GROUP, ne_w_OFFSET_COMMIT_w_API_VERSIONS, ne_w_OFFSET_COMMIT_w_JOIN_GROUP, ne_w_METADATA_w_LEAVE_GROUP, ne_w_METADATA_w_OFFSET_FETCH, ne_w_METADATA_w_FIND_COORDINATOR, ne_w_METADATA_w_HEARTBEAT, ne_w_METADATA_w_LIST_OFFSETS, ne_w_METADATA_w_SYNC_GROUP, ne_w_METADATA_w_API_VERSIONS, ne_w_METADATA_w_JOIN_GROUP, ne_w_LEAVE_GROUP_w_OFFSET_FETCH, ne_w_LEAVE_GROUP_w_FIND_COORDINATOR, ne_w_LEAVE_GROUP_w_HEARTBEAT, ne_w_LEAVE_GROUP_w_CREATE_TOPICS, ne_w_LEAVE_GROUP_w_LIST_OFFSETS, ne_w_LEAVE_GROUP_w_SYNC_GROUP, ne_w_LEAVE_GROUP_w_API_VERSIONS, ne_w_LEAVE_GROUP_w_JOIN_GROUP, ne_w_OFFSET_FETCH_w_FIND_COORDINATOR, ne_w_OFFSET_FETCH_w_HEARTBEAT, ne_w_OFFSET_FETCH_w_CREATE_TOPICS, ne_w_OFFSET_FETCH_w_LIST_OFFSETS, ne_w_OFFSET_FETCH_w_SYNC_GROUP, ne_w_OFFSET_FETCH_w_API_VERSIONS, ne_w_OFFSET_FETCH_w_JOIN_GROUP, ne_w_FIND_COORDINATOR_w_HEARTBEAT, ne_w_FIND_COORDINATOR_w_CREATE_TOPICS, ne_w_FIND_COORDINATOR_w_LIST_OFFSETS, ne_w_FIND_COORDINATOR_w_SYNC_GROUP, ne_w_FIND_COORDINATOR_w_API_VERSIONS, ne_w_FIND_COORDINATOR_w_JOIN_GROUP, ne_w_HEARTBEAT_w_CREATE_TOPICS, ne_w_HEARTBEAT_w_LIST_OFFSETS, ne_w_HEARTBEAT_w_JOIN_GROUP, ne_w_CREATE_TOPICS_w_LIST_OFFSETS, ne_w_CREATE_TOPICS_w_SYNC_GROUP, ne_w_CREATE_TOPICS_w_API_VERSIONS, ne_w_CREATE_TOPICS_w_JOIN_GROUP, ne_w_LIST_OFFSETS_w_SYNC_GROUP, ne_w_LIST_OFFSETS_w_API_VERSIONS, ne_w_LIST_OFFSETS_w_JOIN_GROUP, ne_w_SYNC_GROUP_w_JOIN_GROUP, ne_w_API_VERSIONS_w_JOIN_GROUP, -⟩ := id HW
    exact fin p1 p2 (7 : Int32) (p2.toInt16.toInt32) w_JOIN_GROUP (0 : Int32) (5 : Int32) X1 hx hZ hw hby hml hown e1 N1 O0 (E_w_JOIN_GROUP.ext O0.2) (F_minVersion_w_JOIN_GROUP.ext O0.2) (F_maxVersion_w_JOIN_GROUP.ext O0.2) Bd.returns hlk (fun t k => castTop (efL m p1 p2) (c1 t k))
  · obtain ⟨T1, L1, X1, N1, e1, c1⟩ := seg8 w_PRODUCE w_FETCH w_OFFSET_COMMIT w_METADATA w_LEAVE_GROUP w_OFFSET_FETCH w_FIND_COORDINATOR w_HEARTBEAT w_CREATE_TOPICS w_LIST_OFFSETS w_SYNC_GROUP w_API_VERSIONS w_JOIN_GROUP p1 p2 X0 hx hZ hw hby hml hown e0 (Fr.nil n0) O0 HW hk
    obtain ⟨S_w_PRODUCE, E_w_PRODUCE, S_w_FETCH, E_w_FETCH, S_w_OFFSET_COMMIT, E_w_OFFSET_COMMIT, S_w_METADATA, E_w_METADATA, S_w_LEAVE_GROUP, E_w_LEAVE_GROUP, S_w_OFFSET_FETCH, E_w_OFFSET_FETCH, S_w_FIND_COORDINATOR, E_w_FIND_COORDINATOR, S_w_HEARTBEAT, E_w_HEARTBEAT, S_w_CREATE_TOPICS, E_w_CREATE_TOPICS, S_w_LIST_OFFSETS, E_w_LIST_OFFSETS, S_w_SYNC_GROUP, E_w_SYNC_GROUP, S_w_API_VERSIONS, E_w_API_VERSIONS, S_w_JOIN_GROUP, E_w_JOIN_GROUP, F_minVersion_w_PRODUCE, F_maxVersion_w_PRODUCE, F_minVersion_w_FETCH, F_minVersion_w_OFFSET_COMMIT, F_maxVersion_w_OFFSET_COMMIT, F_minVersion_w_METADATA, F_minVersion_w_LEAVE_GROUP, F_maxVersion_w_LEAVE_GROUP, F_minVersion_w_OFFSET_FETCH, F_maxVersion_w_OFFSET_FETCH, F_minVersion_w_FIND_COORDINATOR, F_maxVersion_w_FIND_COORDINATOR, F_minVersion_w_HEARTBEAT, F_minVersion_w_CREATE_TOPICS, F_maxVersion_w_CREATE_TOPICS, F_minVersion_w_LIST_OFFSETS, F_maxVersion_w_LIST_OFFSETS, F_maxVersion_w_METADATA, F_maxVersion_w_HEARTBEAT, F_minVersion_w_SYNC_GROUP, F_minVersion_w_API_VERSIONS, F_maxVersion_w_API_VERSIONS, F_maxVersion_w_FETCH, F_maxVersion_w_SYNC_GROUP, F_minVersion_w_JOIN_GROUP, F_maxVersion_w_JOIN_GROUP, ne_w_PRODUCE_w_FETCH, ne_w_PRODUCE_w_OFFSET_COMMIT, ne_w_PRODUCE_w_METADATA, ne_w_PRODUCE_w_LEAVE_GROUP, ne_w_PRODUCE_w_OFFSET_FETCH, ne_w_PRODUCE_w_FIND_COORDINATOR, ne_w_PRODUCE_w_HEARTBEAT, ne_w_PRODUCE_w_CREATE_TOPICS, ne_w_PRODUCE_w_LIST_OFFSETS, ne_w_PRODUCE_w_SYNC_GROUP, ne_w_PRODUCE_w_API_VERSIONS, ne_w_PRODUCE_w_JOIN_GROUP, ne_w_FETCH_w_OFFSET_COMMIT, ne_w_FETCH_w_METADATA, ne_w_FETCH_w_LEAVE_GROUP, ne_w_FETCH_w_OFFSET_FETCH, ne_w_FETCH_w_FIND_COORDINATOR, ne_w_FETCH_w_HEARTBEAT, ne_w_FETCH_w_CREATE_TOPICS, ne_w_FETCH_w_LIST_OFFSETS, ne_w_FETCH_w_SYNC_GROUP, ne_w_FETCH_w_API_VERSIONS, ne_w_FETCH_w_JOIN_GROUP, ne_w_OFFSET_COMMIT_w_METADATA, ne_w_OFFSET_COMMIT_w_LEAVE_GROUP, ne_w_OFFSET_COMMIT_w_OFFSET_FETCH, ne_w_OFFSET_COMMIT_w_FIND_COORDINATOR, ne_w_OFFSET_COMMIT_w_HEARTBEAT, ne_w_OFFSET_COMMIT_w_CREATE_TOPICS, ne_w_OFFSET_COMMIT_w_LIST_OFFSETS, ne_w_OFFSET_COMMIT_w_SYNC_GROUP, ne_w_OFFSET_COMMIT_w_API_VERSIONS, ne_w_OFFSET_COMMIT_w_JOIN_GROUP, ne_w_METADATA_w_LEAVE_GROUP, ne_w_METADATA_w_OFFSET_FETCH, ne_w_METADATA_w_FIND_COORDINATOR, ne_w_METADATA_w_HEARTBEAT, ne_w_METADATA_w_LIST_OFFSETS, ne_w_METADATA_w_SYNC_GROUP, ne_w_METADATA_w_API_VERSIONS, ne_w_METADATA_w_JOIN_GROUP, ne_w_LEAVE_GROUP_w_OFFSET_FETCH, ne_w_LEAVE_GROUP_w_FIND_COORDINATOR, ne_w_LEAVE_GROUP_w_HEARTBEAT, ne_w_LEAVE_GROUP_w_CREATE_TOPICS, ne_w_LEAVE_GROUP_w_LIST_OFFSETS, ne_w_LEAVE_GROUP_w_SYNC_GROUP, ne_w_LEAVE_GROUP_w_API_VERSIONS, ne_w_LEAVE_GROUP_w_JOIN_GROUP, ne_w_OFFSET_FETCH_w_FIND_COORDINATOR, ne_w_OFFSET_FETCH_w_HEARTBEAT, ne_w_OFFSET_FETCH_w_CREATE_TOPICS, ne_w_OFFSET_FETCH_w_LIST_OFFSETS, ne_w_OFFSET_FETCH_w_SYNC_GROUP, ne_w_OFFSET_FETCH_w_API_VERSIONS, ne_w_OFFSET_FETCH_w_JOIN_GROUP, ne_w_FIND_COORDINATOR_w_HEARTBEAT, ne_w_FIND_COORDINATOR_w_CREATE_TOPICS, ne_w_FIND_COORDINATOR_w_LIST_OFFSETS, ne_w_FIND_COORDINATOR_w_SYNC_GROUP, ne_w_FIND_COORDINATOR_w_API_VERSIONS, ne_w_FIND_COORDINATOR_w_JOIN_GROUP, ne_w_HEARTBEAT_w_CREATE_TOPICS, ne_w_HEARTBEAT_w_LIST_OFFSETS, ne_w_HEARTBEAT_w_JOIN_GROUP, ne_w_CREATE_TOPICS_w_LIST_OFFSETS, ne_w_CREATE_TOPICS_w_SYNC_GROUP, ne_w_CREATE_TOPICS_w_API_VERSIONS, ne_w_CREATE_TOPICS_w_JOIN_GROUP, ne_w_LIST_OFFSETS_w_SYNC_GROUP, ne_w_LIST_OFFSETS_w_API_VERSIONS, ne_w_LIST_OFFSETS_w_JOIN_GROUP, ne_w_SYNC_GROUP_w_JOIN_GROUP, ne_w_API_VERSIONS_w_JOIN_GROUP, -⟩ := id HW
    exact fin p1 p2 (8 : Int32) (p2.toInt16.toInt32) w_HEARTBEAT (0 : Int32) (3 : Int32) X1 hx hZ hw hby hml hown e1 N1 O0 (E_w_HEARTBEAT.ext O0.2) (F_minVersion_w_HEARTBEAT.ext O0.2) (F_maxVersion_w_HEARTBEAT.ext O0.2) Bd.returns hlk (fun t k => castTop (efL m p1 p2) (c1 t k))
  · obtain ⟨T1, L1, X1, N1, e1, c1⟩ := seg9 w_PRODUCE w_FETCH w_OFFSET_COMMIT w_METADATA w_LEAVE_GROUP w_OFFSET_FETCH w_FIND_COORDINATOR w_HEARTBEAT w_CREATE_TOPICS w_LIST_OFFSETS w_SYNC_GROUP w_API_VERSIONS w_JOIN_GROUP p1 p2 X0 hx hZ hw hby hml hown e0 (Fr.nil n0) O0 HW hk
    obtain ⟨S_w_PRODUCE, E_w_PRODUCE, S_w_FETCH, E_w_FETCH, S_w_OFFSET_COMMIT, E_w_OFFSET_COMMIT, S_w_METADATA, E_w_METADATA, S_w_LEAVE_GROUP, E_w_LEAVE_GROUP, S_w_OFFSET_FETCH, E_w_OFFSET_FETCH, S_w_FIND_COORDINATOR, E_w_FIND_COORDINATOR, S_w_HEARTBEAT, E_w_HEARTBEAT, S_w_CREATE_TOPICS, E_w_CREATE_TOPICS, S_w_LIST_OFFSETS, E_w_LIST_OFFSETS, S_w_SYNC_GROUP, E_w_SYNC_GROUP, S_w_API_VERSIONS, E_w_API_VERSIONS, S_w_JOIN_GROUP, E_w_JOIN_GROUP, F_minVersion_w_PRODUCE, F_maxVersion_w_PRODUCE, F_minVersion_w_FETCH, F_minVersion_w_OFFSET_COMMIT, F_maxVersion_w_OFFSET_COMMIT, F_minVersion_w_METADATA, F_minVersion_w_LEAVE_GROUP, F_maxVersion_w_LEAVE_GROUP, F_minVersion_w_OFFSET_FETCH, F_maxVersion_w_OFFSET_FETCH, F_minVersion_w_FIND_COORDINATOR, F_maxVersion_w_FIND_COORDINATOR, F_minVersion_w_HEARTBEAT, F_minVersion_w_CREATE_TOPICS, F_maxVersion_w_CREATE_TOPICS, F_minVersion_w_LIST_OFFSETS, F_maxVersion_w_LIST_OFFSETS, F_maxVersion_w_METADATA, F_maxVersion_w_HEARTBEAT, F_minVersion_w_SYNC_GROUP, F_minVersion_w_API_VERSIONS, F_maxVersion_w_API_VERSIONS, F_maxVersion_w_FETCH, F_maxVersion_w_SYNC_GROUP, F_minVersion_w_JOIN_GROUP, F_maxVersion_w_JOIN_GROUP, ne_w_PRODUCE_w_FETCH, ne_w_PRODUCE_w_OFFSET_COMMIT, ne_w_PRODUCE_w_METADATA, ne_w_PRODUCE_w_LEAVE_GROUP, ne_w_PRODUCE_w_OFFSET_FETCH, ne_w_PRODUCE_w_FIND_COORDINATOR, ne_w_PRODUCE_w_HEARTBEAT, ne_w_PRODUCE_w_CREATE_TOPICS, ne_w_PRODUCE_w_LIST_OFFSETS, ne_w_PRODUCE_w_SYNC_GROUP, ne_w_PRODUCE_w_API_VERSIONS, ne_w_PRODUCE_w_JOIN_GROUP, ne_w_FETCH_w_OFFSET_COMMIT, ne_w_FETCH_w_METADATA, ne_w_FETCH_w_LEAVE_GROUP, ne_w_FETCH_w_OFFSET_FETCH, ne_w_FETCH_w_FIND_COORDINATOR, ne_w_FETCH_w_HEARTBEAT, ne_w_FETCH_w_CREATE_TOPICS, ne_w_FETCH_w_LIST_OFFSETS, ne_w_FETCH_w_SYNC_GROUP, ne_w_FETCH_w_API_VERSIONS, ne_w_FETCH_w_JOIN_GROUP, ne_w_OFFSET_COMMIT_w_METADATA, ne_w_OFFSET_COMMIT_w_LEAVE_GROUP, ne_w_OFFSET_COMMIT_w_OFFSET_FETCH, ne_w_OFFSET_COMMIT_w_FIND_COORDINATOR, ne_w_OFFSET_COMMIT_w_HEARTBEAT, ne_w_OFFSET_COMMIT_w_CREATE_TOPICS, ne_w_OFFSET_COMMIT_w_LIST_OFFSETS, ne_w_OFFSET_COMMIT_w_SYNC_GROUP, ne_w_OFFSET_COMMIT_w_API_VERSIONS, ne_w_OFFSET_COMMIT_w_JOIN_GROUP, ne_w_METADATA_w_LEAVE_GROUP, ne_w_METADATA_w_OFFSET_FETCH, ne_w_METADATA_w_FIND_COORDINATOR, ne_w_METADATA_w_HEARTBEAT, ne_w_METADATA_w_LIST_OFFSETS, ne_w_METADATA_w_SYNC_GROUP, ne_w_METADATA_w_API_VERSIONS, ne_w_METADATA_w_JOIN_GROUP, ne_w_LEAVE_GROUP_w_OFFSET_FETCH, ne_w_LEAVE_GROUP_w_FIND_COORDINATOR, ne_w_LEAVE_GROUP_w_HEARTBEAT, ne_w_LEAVE_GROUP_w_CREATE_TOPICS, ne_w_LEAVE_GROUP_w_LIST_OFFSETS, ne_w_LEAVE_GROUP_w_SYNC_GROUP, ne_w_LEAVE_GROUP_w_API_VERSIONS, ne_w_LEAVE_GROUP_w_JOIN_GROUP, ne_w_OFFSET_FETCH_w_FIND_COORDINATOR, ne_w_OFFSET_FETCH_w_HEARTBEAT, ne_w_OFFSET_FETCH_w_CREATE_TOPICS, ne_w_OFFSET_FETCH_w_LIST_OFFSETS, ne_w_OFFSET_FETCH_w_SYNC_GROUP, ne_w_OFFSET_FETCH_w_API_VERSIONS, ne_w_OFFSET_FETCH_w_JOIN_GROUP, ne_w_FIND_COORDINATOR_w_HEARTBEAT, ne_w_FIND_COORDINATOR_w_CREATE_TOPICS, ne_w_FIND_COORDINATOR_w_LIST_OFFSETS, ne_w_FIND_COORDINATOR_w_SYNC_GROUP, ne_w_FIND_COORDINATOR_w_API_VERSIONS, ne_w_FIND_COORDINATOR_w_JOIN_GROUP, ne_w_HEARTBEAT_w_CREATE_TOPICS, ne_w_HEARTBEAT_w_LIST_OFFSETS, ne_w_HEARTBEAT_w_JOIN_GROUP, ne_w_CREATE_TOPICS_w_LIST_OFFSETS, ne_w_CREATE_TOPICS_w_SYNC_GROUP, ne_w_CREATE_TOPICS_w_API_VERSIONS, ne_w_CREATE_TOPICS_w_JOIN_GROUP, ne_w_LIST_OFFSETS_w_SYNC_GROUP, ne_w_LIST_OFFSETS_w_API_VERSIONS, ne_w_LIST_OFFSETS_w_JOIN_GROUP, ne_w_SYNC_GROUP_w_JOIN_GROUP, ne_w_API_VERSIONS_w_JOIN_GROUP, -⟩ := id HW
    exact fin p1 p2 (9 : Int32) (p2.toInt16.toInt32) w_LEAVE_GROUP (0 : Int32) (1 : Int32) X1 hx hZ hw hby hml hown e1 N1 O0 (E_w_LEAVE_GROUP.ext O0.2) (F_minVersion_w_LEAVE_GROUP.ext O0.2) (F_maxVersion_w_LEAVE_GROUP.ext O0.2) Bd.returns hlk (fun t k => castTop (efL m p1 p2) (c1 t k))
  · obtain ⟨T1, L1, X1, N1, e1, c1⟩ := seg10 w_PRODUCE w_FETCH w_OFFSET_COMMIT w_METADATA w_LEAVE_GROUP w_OFFSET_FETCH w_FIND_COORDINATOR w_HEARTBEAT w_CREATE_TOPICS w_LIST_OFFSETS w_SYNC_GROUP w_API_VERSIONS w_JOIN_GROUP p1 p2 X0 hx hZ hw hby hml hown e0 (Fr.nil n0) O0 HW hk
    obtain ⟨S_w_PRODUCE, E_w_PRODUCE, S_w_FETCH, E_w_FETCH, S_w_OFFSET_COMMIT, E_w_OFFSET_COMMIT, S_w_METADATA, E_w_METADATA, S_w_LEAVE_GROUP, E_w_LEAVE_GROUP, S_w_OFFSET_FETCH, E_w_OFFSET_FETCH, S_w_FIND_COORDINATOR, E_w_FIND_COORDINATOR, S_w_HEARTBEAT, E_w_HEARTBEAT, S_w_CREATE_TOPICS, E_w_CREATE_TOPICS, S_w_LIST_OFFSETS, E_w_LIST_OFFSETS, S_w_SYNC_GROUP, E_w_SYNC_GROUP, S_w_API_VERSIONS, E_w_API_VERSIONS, S_w_JOIN_GROUP, E_w_JOIN_GROUP, F_minVersion_w_PRODUCE, F_maxVersion_w_PRODUCE, F_minVersion_w_FETCH, F_minVersion_w_OFFSET_COMMIT, F_maxVersion_w_OFFSET_COMMIT, F_minVersion_w_METADATA, F_minVersion_w_LEAVE_GROUP, F_maxVersion_w_LEAVE_GROUP, F_minVersion_w_OFFSET_FETCH, F_maxVersion_w_OFFSET_FETCH, F_minVersion_w_FIND_COORDINATOR, F_maxVersion_w_FIND_COORDINATOR, F_minVersion_w_HEARTBEAT, F_minVersion_w_CREATE_TOPICS, F_maxVersion_w_CREATE_TOPICS, F_minVersion_w_LIST_OFFSETS, F_maxVersion_w_LIST_OFFSETS, F_maxVersion_w_METADATA, F_maxVersion_w_HEARTBEAT, F_minVersion_w_SYNC_GROUP, F_minVersion_w_API_VERSIONS, F_maxVersion_w_API_VERSIONS, F_maxVersion_w_FETCH, F_maxVersion_w_SYNC_GROUP, F_minVersion_w_JOIN_GROUP, F_maxVersion_w_JOIN_GROUP, ne_w_PRODUCE_w_FETCH, ne_w_PRODUCE_w_OFFSET_COMMIT, ne_w_PRODUCE_w_METADATA, ne_w_PRODUCE_w_LEAVE_GROUP, ne_w_PRODUCE_w_OFFSET_FETCH, ne_w_PRODUCE_w_FIND_COORDINATOR, ne_w_PRODUCE_w_HEARTBEAT, ne_w_PRODUCE_w_CREATE_TOPICS, ne_w_PRODUCE_w_LIST_OFFSETS, ne_w_PRODUCE_w_SYNC_GROUP, ne_w_PRODUCE_w_API_VERSIONS, ne_w_PRODUCE_w_JOIN_GROUP, ne_w_FETCH_w_OFFSET_COMMIT, ne_w_FETCH_w_METADATA, ne_w_FETCH_w_LEAVE_GROUP, ne_w_FETCH_w_OFFSET_FETCH, ne_w_FETCH_w_FIND_COORDINATOR, ne_w_FETCH_w_HEARTBEAT, ne_w_FETCH_w_CREATE_TOPICS, ne_w_FETCH_w_LIST_OFFSETS, ne_w_FETCH_w_SYNC_GROUP, ne_w_FETCH_w_API_VERSIONS, ne_w_FETCH_w_JOIN_GROUP, ne_w_OFFSET_COMMIT_w_METADATA, ne_w_OFFSET_COMMIT_w_LEAVE_GROUP, ne_w_OFFSET_COMMIT_w_OFFSET_FETCH, ne_w_OFFSET_COMMIT_w_FIND_COORDINATOR, ne_w_OFFSET_COMMIT_w_HEARTBEAT, ne_w_OFFSET_COMMIT_w_CREATE_TOPICS, ne_w_OFFSET_COMMIT_w_LIST_OFFSETS, ne_w_OFFSET_COMMIT_w_SYNC_GROUP, ne_w_OFFSET_COMMIT_w_API_VERSIONS, ne_w_OFFSET_COMMIT_w_JOIN_GROUP, ne_w_METADATA_w_LEAVE_GROUP, ne_w_METADATA_w_OFFSET_FETCH, ne_w_METADATA_w_FIND_COORDINATOR, ne_w_METADATA_w_HEARTBEAT, ne_w_METADATA_w_LIST_OFFSETS, ne_w_METADATA_w_SYNC_GROUP, ne_w_METADATA_w_API_VERSIONS, ne_w_METADATA_w_JOIN_GROUP, ne_w_LEAVE_GROUP_w_OFFSET_FETCH, ne_w_LEAVE_GROUP_w_FIND_COORDINATOR, ne_w_LEAVE_GROUP_w_HEARTBEAT, ne_w_LEAVE_GROUP_w_CREATE_TOPICS, ne_w_LEAVE_GROUP_w_LIST_OFFSETS, ne_w_LEAVE_GROUP_w_SYNC_GROUP, ne_w_LEAVE_GROUP_w_API_VERSIONS, ne_w_LEAVE_GROUP_w_JOIN_GROUP, ne_w_OFFSET_FETCH_w_FIND_COORDINATOR, ne_w_OFFSET_FETCH_w_HEARTBEAT, ne_w_OFFSET_FETCH_w_CREATE_TOPICS, ne_w_OFFSET_FETCH_w_LIST_OFFSETS, ne_w_OFFSET_FETCH_w_SYNC_GROUP, ne_w_OFFSET_FETCH_w_API_VERSIONS, ne_w_OFFSET_FETCH_w_JOIN_GROUP, ne_w_FIND_COORDINATOR_w_HEARTBEAT, ne_w_FIND_COORDINATOR_w_CREATE_TOPICS, ne_w_FIND_COORDINATOR_w_LIST_OFFSETS, ne_w_FIND_COORDINATOR_w_SYNC_GROUP, ne_w_FIND_COORDINATOR_w_API_VERSIONS, ne_w_FIND_COORDINATOR_w_JOIN_GROUP, ne_w_HEARTBEAT_w_CREATE_TOPICS, ne_w_HEARTBEAT_w_LIST_OFFSETS, ne_w_HEARTBEAT_w_JOIN_GROUP, ne_w_CREATE_TOPICS_w_LIST_OFFSETS, ne_w_CREATE_TOPICS_w_SYNC_GROUP, ne_w_CREATE_TOPICS_w_API_VERSIONS, ne_w_CREATE_TOPICS_w_JOIN_GROUP, ne_w_LIST_OFFSETS_w_SYNC_GROUP, ne_w_LIST_OFFSETS_w_API_VERSIONS, ne_w_LIST_OFFSETS_w_JOIN_GROUP, ne_w_SYNC_GROUP_w_JOIN_GROUP, ne_w_API_VERSIONS_w_JOIN_GROUP, -⟩ := id HW
    exact fin p1 p2 (10 : Int32) (p2.toInt16.toInt32) w_SYNC_GROUP (0 : Int32) (3 : Int32) X1 hx hZ hw hby hml hown e1 N1 O0 (E_w_SYNC_GROUP.ext O0.2) (F_minVersion_w_SYNC_GROUP.ext O0.2) (F_maxVersion_w_SYNC_GROUP.ext O0.2) Bd.returns hlk (fun t k => castTop (efL m p1 p2) (c1 t k))
  · obtain ⟨T1, L1, X1, N1, e1, c1⟩ := seg11 w_PRODUCE w_FETCH w_OFFSET_COMMIT w_METADATA w_LEAVE_GROUP w_OFFSET_FETCH w_FIND_COORDINATOR w_HEARTBEAT w_CREATE_TOPICS w_LIST_OFFSETS w_SYNC_GROUP w_API_VERSIONS w_JOIN_GROUP p1 p2 X0 hx hZ hw hby hml hown e0 (Fr.nil n0) O0 HW hk
    obtain ⟨S_w_PRODUCE, E_w_PRODUCE, S_w_FETCH, E_w_FETCH, S_w_OFFSET_COMMIT, E_w_OFFSET_COMMIT, S_w_METADATA, E_w_METADATA, S_w_LEAVE_GROUP, E_w_LEAVE_GROUP, S_w_OFFSET_FETCH, E_w_OFFSET_FETCH, S_w_FIND_COORDINATOR, E_w_FIND_COORDINATOR, S_w_HEARTBEAT, E_w_HEARTBEAT, S_w_CREATE_TOPICS, E_w_CREATE_TOPICS, S_w_LIST_OFFSETS, E_w_LIST_OFFSETS, S_w_SYNC_GROUP, E_w_SYNC_GROUP, S_w_API_VERSIONS, E_w_API_VERSIONS, S_w_JOIN_GROUP, E_w_JOIN_GROUP, F_minVersion_w_PRODUCE, F_maxVersion_w_PRODUCE, F_minVersion_w_FETCH, F_minVersion_w_OFFSET_COMMIT, F_maxVersion_w_OFFSET_COMMIT, F_minVersion_w_METADATA, F_minVersion_w_LEAVE_GROUP, F_maxVersion_w_LEAVE_GROUP, F_minVersion_w_OFFSET_FETCH, F_maxVersion_w_OFFSET_FETCH, F_minVersion_w_FIND_COORDINATOR, F_maxVersion_w_FIND_COORDINATOR, F_minVersion_w_HEARTBEAT, F_minVersion_w_CREATE_TOPICS, F_maxVersion_w_CREATE_TOPICS, F_minVersion_w_LIST_OFFSETS, F_maxVersion_w_LIST_OFFSETS, F_maxVersion_w_METADATA, F_maxVersion_w_HEARTBEAT, F_minVersion_w_SYNC_GROUP, F_minVersion_w_API_VERSIONS, F_maxVersion_w_API_VERSIONS, F_maxVersion_w_FETCH, F_maxVersion_w_SYNC_GROUP, F_minVersion_w_JOIN_GROUP, F_maxVersion_w_JOIN_GROUP, ne_w_PRODUCE_w_FETCH, ne_w_PRODUCE_w_OFFSET_COMMIT, ne_w_PRODUCE_w_METADATA, ne_w_PRODUCE_w_LEAVE_GROUP, ne_w_PRODUCE_w_OFFSET_FETCH, ne_w_PRODUCE_w_FIND_COORDINATOR, ne_w_PRODUCE_w_HEARTBEAT, ne_w_PRODUCE_w_CREATE_TOPICS, ne_w_PRODUCE_w_LIST_OFFSETS, ne_w_PRODUCE_w_SYNC_GROUP, ne_w_PRODUCE_w_API_VERSIONS, ne_w_PRODUCE_w_JOIN_GROUP, ne_w_FETCH_w_OFFSET_COMMIT, ne_w_FETCH_w_METADATA, ne_w_FETCH_w_LEAVE_GROUP, ne_w_FETCH_w_OFFSET_FETCH, ne_w_FETCH_w_FIND_COORDINATOR, ne_w_FETCH_w_HEARTBEAT, ne_w_FETCH_w_CREATE_TOPICS, ne_w_FETCH_w_LIST_OFFSETS, ne_w_FETCH_w_SYNC_GROUP, ne_w_FETCH_w_API_VERSIONS, ne_w_FETCH_w_JOIN_GROUP, ne_w_OFFSET_COMMIT_w_METADATA, ne_w_OFFSET_COMMIT_w_LEAVE_GROUP, ne_w_OFFSET_COMMIT_w_OFFSET_FETCH, ne_w_OFFSET_COMMIT_w_FIND_COORDINATOR, ne_w_OFFSET_COMMIT_w_HEARTBEAT, ne_w_OFFSET_COMMIT_w_CREATE_TOPICS, ne_w_OFFSET_COMMIT_w_LIST_OFFSETS, ne_w_OFFSET_COMMIT_w_SYNC_GROUP, ne_w_OFFSET_COMMIT_w_API_VERSIONS, ne_w_OFFSET_COMMIT_w_JOIN_GROUP, ne_w_METADATA_w_LEAVE_GROUP, ne_w_METADATA_w_OFFSET_FETCH, ne_w_METADATA_w_FIND_COORDINATOR, ne_w_METADATA_w_HEARTBEAT, ne_w_METADATA_w_LIST_OFFSETS, ne_w_METADATA_w_SYNC_GROUP, ne_w_METADATA_w_API_VERSIONS, ne_w_METADATA_w_JOIN_GROUP, ne_w_LEAVE_GROUP_w_OFFSET_FETCH, ne_w_LEAVE_GROUP_w_FIND_COORDINATOR, ne_w_LEAVE_GROUP_w_HEARTBEAT, ne_w_LEAVE_GROUP_w_CREATE_TOPICS, ne_w_LEAVE_GROUP_w_LIST_OFFSETS, ne_w_LEAVE_GROUP_w_SYNC_GROUP, ne_w_LEAVE_GROUP_w_API_VERSIONS, ne_w_LEAVE_GROUP_w_JOIN_GROUP, ne_w_OFFSET_FETCH_w_FIND_COORDINATOR, ne_w_OFFSET_FETCH_w_HEARTBEAT, ne_w_OFFSET_FETCH_w_CREATE_TOPICS, ne_w_OFFSET_FETCH_w_LIST_OFFSETS, ne_w_OFFSET_FETCH_w_SYNC_GROUP, ne_w_OFFSET_FETCH_w_API_VERSIONS, ne_w_OFFSET_FETCH_w_JOIN_GROUP, ne_w_FIND_COORDINATOR_w_HEARTBEAT, ne_w_FIND_COORDINATOR_w_CREATE_TOPICS, ne_w_FIND_COORDINATOR_w_LIST_OFFSETS, ne_w_FIND_COORDINATOR_w_SYNC_GROUP, ne_w_FIND_COORDINATOR_w_API_VERSIONS, ne_w_FIND_COORDINATOR_w_JOIN_GROUP, ne_w_HEARTBEAT_w_CREATE_TOPICS, ne_w_HEARTBEAT_w_LIST_OFFSETS, ne_w_HEARTBEAT_w_JOIN_GROUP, ne_w_CREATE_TOPICS_w_LIST_OFFSETS, ne_w_CREATE_TOPICS_w_SYNC_GROUP, ne_w_CREATE_TOPICS_w_API_VERSIONS, ne_w_CREATE_TOPICS_w_JOIN_GROUP, ne_w_LIST_OFFSETS_w_SYNC_GROUP, ne_w_LIST_OFFSETS_w_API_VERSIONS, ne_w_LIST_OFFSETS_w_JOIN_GROUP, ne_w_SYNC_GROUP_w_JOIN_GROUP, ne_w_API_VERSIONS_w_JOIN_GROUP, -⟩ := id HW
    exact fin p1 p2 (11 : Int32) (p2.toInt16.toInt32) w_API_VERSIONS (0 : Int32) (3 : Int32) X1 hx hZ hw hby hml hown e1 N1 O0 (E_w_API_VERSIONS.ext O0.2) (F_minVersion_w_API_VERSIONS.ext O0.2) (F_maxVersion_w_API_VERSIONS.ext O0.2) Bd.returns hlk (fun t k => castTop (efL m p1 p2) (c1 t k))
  · obtain ⟨T1, L1, X1, N1, e1, c1⟩ := seg12 w_PRODUCE w_FETCH w_OFFSET_COMMIT w_METADATA w_LEAVE_GROUP w_OFFSET_FETCH w_FIND_COORDINATOR w_HEARTBEAT w_CREATE_TOPICS w_LIST_OFFSETS w_SYNC_GROUP w_API_VERSIONS w_JOIN_GROUP p1 p2 X0 hx hZ hw hby hml hown e0 (Fr.nil n0) O0 HW hk
    obtain ⟨S_w_PRODUCE, E_w_PRODUCE, S_w_FETCH, E_w_FETCH, S_w_OFFSET_COMMIT, E_w_OFFSET_COMMIT, S_w_METADATA, E_w_METADATA, S_w_LEAVE_GROUP, E_w_LEAVE_GROUP, S_w_OFFSET_FETCH, E_w_OFFSET_FETCH, S_w_FIND_COORDINATOR, E_w_FIND_COORDINATOR, S_w_HEARTBEAT, E_w_HEARTBEAT, S_w_CREATE_TOPICS, E_w_CREATE_TOPICS, S_w_LIST_OFFSETS, E_w_LIST_OFFSETS, S_w_SYNC_GROUP, E_w_SYNC_GROUP, S_w_API_VERSIONS, E_w_API_VERSIONS, S_w_JOIN_GROUP, E_w_JOIN_GROUP, F_minVersion_w_PRODUCE, F_maxVersion_w_PRODUCE, F_minVersion_w_FETCH, F_minVersion_w_OFFSET_COMMIT, F_maxVersion_w_OFFSET_COMMIT, F_minVersion_w_METADATA, F_minVersion_w_LEAVE_GROUP, F_maxVersion_w_LEAVE_GROUP, F_minVersion_w_OFFSET_FETCH, F_maxVersion_w_OFFSET_FETCH, F_minVersion_w_FIND_COORDINATOR, F_maxVersion_w_FIND_COORDINATOR, F_minVersion_w_HEARTBEAT, F_minVersion_w_CREATE_TOPICS, F_maxVersion_w_CREATE_TOPICS, F_minVersion_w_LIST_OFFSETS, F_maxVersion_w_LIST_OFFSETS, F_maxVersion_w_METADATA, F_maxVersion_w_HEARTBEAT, F_minVersion_w_SYNC_GROUP, F_minVersion_w_API_VERSIONS, F_maxVersion_w_API_VERSIONS, F_maxVersion_w_FETCH, F_maxVersion_w_SYNC_GROUP, F_minVersion_w_JOIN_GROUP, F_maxVersion_w_JOIN_GROUP, ne_w_PRODUCE_w_FETCH, ne_w_PRODUCE_w_OFFSET_COMMIT, ne_w_PRODUCE_w_METADATA, ne_w_PRODUCE_w_LEAVE_GROUP, ne_w_PRODUCE_w_OFFSET_FETCH, ne_w_PRODUCE_w_FIND_COORDINATOR, ne_w_PRODUCE_w_HEARTBEAT, ne_w_PRODUCE_w_CREATE_TOPICS, ne_w_PRODUCE_w_LIST_OFFSETS, ne_w_PRODUCE_w_SYNC_GROUP, ne_w_PRODUCE_w_API_VERSIONS, ne_w_PRODUCE_w_JOIN_GROUP, ne_w_FETCH_w_OFFSET_COMMIT, ne_w_FETCH_w_METADATA, ne_w_FETCH_w_LEAVE_GROUP, ne_w_FETCH_w_OFFSET_FETCH, ne_w_FETCH_w_FIND_COORDINATOR, ne_w_FETCH_w_HEARTBEAT, ne_w_FETCH_w_CREATE_TOPICS, ne_w_FETCH_w_LIST_OFFSETS, ne_w_FETCH_w_SYNC_GROUP, ne_w_FETCH_w_API_VERSIONS, ne_w_FETCH_w_JOIN_GROUP, ne_w_OFFSET_COMMIT_w_METADATA, ne_w_OFFSET_COMMIT_w_LEAVE_GROUP, ne_w_OFFSET_COMMIT_w_OFFSET_FETCH, ne_w_OFFSET_COMMIT_w_FIND_COORDINATOR, ne_w_OFFSET_COMMIT_w_HEARTBEAT, ne_w_OFFSET_COMMIT_w_CREATE_TOPICS, ne_w_OFFSET_COMMIT_w_LIST_OFFSETS, ne_w_OFFSET_COMMIT_w_SYNC_GROUP, ne_w_OFFSET_COMMIT_w_API_VERSIONS, ne_w_OFFSET_COMMIT_w_JOIN_GROUP, ne_w_METADATA_w_LEAVE_GROUP, ne_w_METADATA_w_OFFSET_FETCH, ne_w_METADATA_w_FIND_COORDINATOR, ne_w_METADATA_w_HEARTBEAT, ne_w_METADATA_w_LIST_OFFSETS, ne_w_METADATA_w_SYNC_GROUP, ne_w_METADATA_w_API_VERSIONS, ne_w_METADATA_w_JOIN_GROUP, ne_w_LEAVE_GROUP_w_OFFSET_FETCH, ne_w_LEAVE_GROUP_w_FIND_COORDINATOR, ne_w_LEAVE_GROUP_w_HEARTBEAT, ne_w_LEAVE_GROUP_w_CREATE_TOPICS, ne_w_LEAVE_GROUP_w_LIST_OFFSETS, ne_w_LEAVE_GROUP_w_SYNC_GROUP, ne_w_LEAVE_GROUP_w_API_VERSIONS, ne_w_LEAVE_GROUP_w_JOIN_GROUP, ne_w_OFFSET_FETCH_w_FIND_COORDINATOR, ne_w_OFFSET_FETCH_w_HEARTBEAT, ne_w_OFFSET_FETCH_w_CREATE_TOPICS, ne_w_OFFSET_FETCH_w_LIST_OFFSETS, ne_w_OFFSET_FETCH_w_SYNC_GROUP, ne_w_OFFSET_FETCH_w_API_VERSIONS, ne_w_OFFSET_FETCH_w_JOIN_GROUP, ne_w_FIND_COORDINATOR_w_HEARTBEAT, ne_w_FIND_COORDINATOR_w_CREATE_TOPICS, ne_w_FIND_COORDINATOR_w_LIST_OFFSETS, ne_w_FIND_COORDINATOR_w_SYNC_GROUP, ne_w_FIND_COORDINATOR_w_API_VERSIONS, ne_w_FIND_COORDINATOR_w_JOIN_GROUP, ne_w_HEARTBEAT_w_CREATE_TOPICS, ne_w_HEARTBEAT_w_LIST_OFFSETS, ne_w_HEARTBEAT_w_JOIN_GROUP, ne_w_CREATE_TOPICS_w_LIST_OFFSETS, ne_w_CREATE_TOPICS_w_SYNC_GROUP, ne_w_CREATE_TOPICS_w_API_VERSIONS, ne_w_CREATE_TOPICS_w_JOIN_GROUP, ne_w_LIST_OFFSETS_w_SYNC_GROUP, ne_w_LIST_OFFSETS_w_API_VERSIONS, ne_w_LIST_OFFSETS_w_JOIN_GROUP, ne_w_SYNC_GROUP_w_JOIN_GROUP, ne_w_API_VERSIONS_w_JOIN_GROUP, -⟩ := id HW
    exact fin p1 p2 (12 : Int32) (p2.toInt16.toInt32) w_CREATE_TOPICS (0 : Int32) (4 : Int32) X1 hx hZ hw hby hml hown e1 N1 O0 (E_w_CREATE_TOPICS.ext O0.2) (F_minVersion_w_CREATE_TOPICS.ext O0.2) (F_maxVersion_w_CREATE_TOPICS.ext O0.2) Bd.returns hlk (fun t k => castTop (efL m p1 p2) (c1 t k))
set_option maxRecDepth 65536 in
set_option maxHeartbeats 40000000 in
theorem comes_1 {Post : Tables → Env → Array Value → State → Outcome → State → Prop} (hpost : ∀ tb e args s v u, (limb_1_1.after args s (.returned v) u = true ∧ limb_1_2.after args s (.returned v) u = true ∧ True) → FrameEnd s (.returned v) u (Jvm.fieldLocs frame_1_writes args s ++ Jvm.arrayLocs frame_1_arrays args s ++ Jvm.staticLocs frame_1_statics s) 0 0 → Post tb e args s (.returned v) u) :
    ArmFor flags0 classFile x code maxLocals ret World_1 tables_1 room_1 Calls_1 rest_1 Pre_1 Post := by
  intro l hfl _ _ p e ha hc hk s m args below hf hA hF happ hP
  obtain ⟨hcalls, hrest, hpre⟩ := hP
  obtain ⟨-, -, -, hnamed, -, -, -, hat⟩ := (Spec.applies_iff hf).mp happ
  obtain ⟨hg, hn⟩ := and_e (Cond.before_iff.mp (show (Jvm.Cond.and given_1 narrow_1).before args s = true from hpre))
  obtain ⟨hg1a, hg1b⟩ := and_e hg
  obtain ⟨hg2a, hg2b⟩ := and_e hg1b
  obtain ⟨w0, w1, rfl⟩ : ∃ w0 w1 : Value, args = #[w0, w1] := by
    have hs : args.size = 2 := by simpa [Cond.value, given_1] using hg1a
    obtain ⟨L⟩ := args
    match L, hs with
    | [w0, w1], _ => exact ⟨w0, w1, rfl⟩
  have hw := fun d (hd : d ∈ tables_1) => atoms_spec (ws := Jvm.Cond.code x code maxLocals ret :: tables_1) hat d (List.mem_cons_of_mem _ hd)
  have hfit : Fit s := fun {y c} hc i hi => by
    obtain ⟨ha, rfl⟩ := Array.getElem?_eq_some_iff.mp hc
    have q := List.all_eq_true.mp ((Array.all_eq_true_iff_forall_mem.mp hF) _ (Array.getElem_mem ha)) i (List.mem_range.mpr hi)
    simpa [Array.getElem?_eq_getElem hi] using q
  obtain ⟨i0, ei0⟩ := is_v hg2a
  obtain rfl : w0 = (.int i0) := Option.some.inj ei0
  obtain ⟨i1, ei1⟩ := is_v hg2b
  obtain rfl : w1 = (.int i1) := Option.some.inj ei1
  obtain ⟨hn1a, hn1b⟩ := and_e hn
  obtain ⟨hn2a, hn2b⟩ := and_e hn1b
  obtain ⟨hn3a, hn3b⟩ := and_e hn2b
  obtain ⟨hn4a, hn4b⟩ := and_e hn3b
  obtain ⟨hn5a, hn5b⟩ := and_e hn4b
  obtain ⟨hn6a, hn6b⟩ := and_e hn5b
  obtain ⟨hn7a, hn7b⟩ := and_e hn6b
  obtain ⟨hn8a, hn8b⟩ := and_e hn7b
  obtain ⟨hn9a, hn9b⟩ := and_e hn8b
  obtain ⟨hn10a, hn10b⟩ := and_e hn9b
  obtain ⟨hn11a, hn11b⟩ := and_e hn10b
  obtain ⟨hn12a, hn12b⟩ := and_e hn11b
  obtain ⟨hn13a, hn13b⟩ := and_e hn12b
  obtain ⟨hn14a, hn14b⟩ := and_e hn13b
  obtain ⟨hn15a, hn15b⟩ := and_e hn14b
  obtain ⟨hn16a, hn16b⟩ := and_e hn15b
  obtain ⟨hn17a, hn17b⟩ := and_e hn16b
  obtain ⟨hn18a, hn18b⟩ := and_e hn17b
  obtain ⟨hn19a, hn19b⟩ := and_e hn18b
  obtain ⟨hn20a, hn20b⟩ := and_e hn19b
  obtain ⟨hn21a, hn21b⟩ := and_e hn20b
  obtain ⟨hn22a, hn22b⟩ := and_e hn21b
  obtain ⟨hn23a, hn23b⟩ := and_e hn22b
  obtain ⟨hn24a, hn24b⟩ := and_e hn23b
  obtain ⟨hn25a, hn25b⟩ := and_e hn24b
  obtain ⟨hn26a, hn26b⟩ := and_e hn25b
  obtain ⟨hn27a, hn27b⟩ := and_e hn26b
  obtain ⟨hn28a, hn28b⟩ := and_e hn27b
  obtain ⟨hn29a, hn29b⟩ := and_e hn28b
  obtain ⟨hn30a, hn30b⟩ := and_e hn29b
  obtain ⟨hn31a, hn31b⟩ := and_e hn30b
  obtain ⟨hn32a, hn32b⟩ := and_e hn31b
  obtain ⟨hn33a, hn33b⟩ := and_e hn32b
  obtain ⟨hn34a, hn34b⟩ := and_e hn33b
  obtain ⟨hn35a, hn35b⟩ := and_e hn34b
  obtain ⟨hn36a, hn36b⟩ := and_e hn35b
  obtain ⟨hn37a, hn37b⟩ := and_e hn36b
  obtain ⟨hn38a, hn38b⟩ := and_e hn37b
  obtain ⟨w_PRODUCE, ev_w_PRODUCE⟩ := exa_v hn1a
  have S_w_PRODUCE := Sta.start ev_w_PRODUCE (Or.inr ⟨(hw _ (List.mem_of_getElem? (i := 2) rfl)), (hw _ (List.mem_of_getElem? (i := 3) rfl))⟩)
  have E_w_PRODUCE := Exa.start ev_w_PRODUCE hn1a
  obtain ⟨w_FETCH, ev_w_FETCH⟩ := exa_v hn4a
  have S_w_FETCH := Sta.start ev_w_FETCH (Or.inr ⟨(hw _ (List.mem_of_getElem? (i := 2) rfl)), (hw _ (List.mem_of_getElem? (i := 14) rfl))⟩)
  have E_w_FETCH := Exa.start ev_w_FETCH hn4a
  obtain ⟨w_OFFSET_COMMIT, ev_w_OFFSET_COMMIT⟩ := exa_v hn6a
  have S_w_OFFSET_COMMIT := Sta.start ev_w_OFFSET_COMMIT (Or.inr ⟨(hw _ (List.mem_of_getElem? (i := 2) rfl)), (hw _ (List.mem_of_getElem? (i := 16) rfl))⟩)
  have E_w_OFFSET_COMMIT := Exa.start ev_w_OFFSET_COMMIT hn6a
  obtain ⟨w_METADATA, ev_w_METADATA⟩ := exa_v hn9a
  have S_w_METADATA := Sta.start ev_w_METADATA (Or.inr ⟨(hw _ (List.mem_of_getElem? (i := 2) rfl)), (hw _ (List.mem_of_getElem? (i := 18) rfl))⟩)
  have E_w_METADATA := Exa.start ev_w_METADATA hn9a
  obtain ⟨w_LEAVE_GROUP, ev_w_LEAVE_GROUP⟩ := exa_v hn11a
  have S_w_LEAVE_GROUP := Sta.start ev_w_LEAVE_GROUP (Or.inr ⟨(hw _ (List.mem_of_getElem? (i := 2) rfl)), (hw _ (List.mem_of_getElem? (i := 20) rfl))⟩)
  have E_w_LEAVE_GROUP := Exa.start ev_w_LEAVE_GROUP hn11a
  obtain ⟨w_OFFSET_FETCH, ev_w_OFFSET_FETCH⟩ := exa_v hn14a
  have S_w_OFFSET_FETCH := Sta.start ev_w_OFFSET_FETCH (Or.inr ⟨(hw _ (List.mem_of_getElem? (i := 2) rfl)), (hw _ (List.mem_of_getElem? (i := 22) rfl))⟩)
  have E_w_OFFSET_FETCH := Exa.start ev_w_OFFSET_FETCH hn14a
  obtain ⟨w_FIND_COORDINATOR, ev_w_FIND_COORDINATOR⟩ := exa_v hn17a
  have S_w_FIND_COORDINATOR := Sta.start ev_w_FIND_COORDINATOR (Or.inr ⟨(hw _ (List.mem_of_getElem? (i := 2) rfl)), (hw _ (List.mem_of_getElem? (i := 24) rfl))⟩)
  have E_w_FIND_COORDINATOR := Exa.start ev_w_FIND_COORDINATOR hn17a
  obtain ⟨w_HEARTBEAT, ev_w_HEARTBEAT⟩ := exa_v hn20a
  have S_w_HEARTBEAT := Sta.start ev_w_HEARTBEAT (Or.inr ⟨(hw _ (List.mem_of_getElem? (i := 2) rfl)), (hw _ (List.mem_of_getElem? (i := 26) rfl))⟩)
  have E_w_HEARTBEAT := Exa.start ev_w_HEARTBEAT hn20a
  obtain ⟨w_CREATE_TOPICS, ev_w_CREATE_TOPICS⟩ := exa_v hn22a
  have S_w_CREATE_TOPICS := Sta.start ev_w_CREATE_TOPICS (Or.inr ⟨(hw _ (List.mem_of_getElem? (i := 2) rfl)), (hw _ (List.mem_of_getElem? (i := 28) rfl))⟩)
  have E_w_CREATE_TOPICS := Exa.start ev_w_CREATE_TOPICS hn22a
  obtain ⟨w_LIST_OFFSETS, ev_w_LIST_OFFSETS⟩ := exa_v hn25a
  have S_w_LIST_OFFSETS := Sta.start ev_w_LIST_OFFSETS (Or.inr ⟨(hw _ (List.mem_of_getElem? (i := 2) rfl)), (hw _ (List.mem_of_getElem? (i := 30) rfl))⟩)
  have E_w_LIST_OFFSETS := Exa.start ev_w_LIST_OFFSETS hn25a
  obtain ⟨w_SYNC_GROUP, ev_w_SYNC_GROUP⟩ := exa_v hn30a
  have S_w_SYNC_GROUP := Sta.start ev_w_SYNC_GROUP (Or.inr ⟨(hw _ (List.mem_of_getElem? (i := 2) rfl)), (hw _ (List.mem_of_getElem? (i := 32) rfl))⟩)
  have E_w_SYNC_GROUP := Exa.start ev_w_SYNC_GROUP hn30a
  obtain ⟨w_API_VERSIONS, ev_w_API_VERSIONS⟩ := exa_v hn32a
  have S_w_API_VERSIONS := Sta.start ev_w_API_VERSIONS (Or.inr ⟨(hw _ (List.mem_of_getElem? (i := 2) rfl)), (hw _ (List.mem_of_getElem? (i := 34) rfl))⟩)
  have E_w_API_VERSIONS := Exa.start ev_w_API_VERSIONS hn32a
  obtain ⟨w_JOIN_GROUP, ev_w_JOIN_GROUP⟩ := exa_v hn37a
  have S_w_JOIN_GROUP := Sta.start ev_w_JOIN_GROUP (Or.inr ⟨(hw _ (List.mem_of_getElem? (i := 2) rfl)), (hw _ (List.mem_of_getElem? (i := 36) rfl))⟩)
  have E_w_JOIN_GROUP := Exa.start ev_w_JOIN_GROUP hn37a
  have F_minVersion_w_PRODUCE := own_fld (k := (0 : Int32)) hn2a ev_w_PRODUCE
  have F_maxVersion_w_PRODUCE := own_fld (k := (7 : Int32)) hn3a ev_w_PRODUCE
  have F_minVersion_w_FETCH := own_fld (k := (4 : Int32)) hn5a ev_w_FETCH
  have F_minVersion_w_OFFSET_COMMIT := own_fld (k := (2 : Int32)) hn7a ev_w_OFFSET_COMMIT
  have F_maxVersion_w_OFFSET_COMMIT := own_fld (k := (7 : Int32)) hn8a ev_w_OFFSET_COMMIT
  have F_minVersion_w_METADATA := own_fld (k := (0 : Int32)) hn10a ev_w_METADATA
  have F_minVersion_w_LEAVE_GROUP := own_fld (k := (0 : Int32)) hn12a ev_w_LEAVE_GROUP
  have F_maxVersion_w_LEAVE_GROUP := own_fld (k := (1 : Int32)) hn13a ev_w_LEAVE_GROUP
  have F_minVersion_w_OFFSET_FETCH := own_fld (k := (1 : Int32)) hn15a ev_w_OFFSET_FETCH
  have F_maxVersion_w_OFFSET_FETCH := own_fld (k := (5 : Int32)) hn16a ev_w_OFFSET_FETCH
  have F_minVersion_w_FIND_COORDINATOR := own_fld (k := (0 : Int32)) hn18a ev_w_FIND_COORDINATOR
  have F_maxVersion_w_FIND_COORDINATOR := own_fld (k := (2 : Int32)) hn19a ev_w_FIND_COORDINATOR
  have F_minVersion_w_HEARTBEAT := own_fld (k := (0 : Int32)) hn21a ev_w_HEARTBEAT
  have F_minVersion_w_CREATE_TOPICS := own_fld (k := (0 : Int32)) hn23a ev_w_CREATE_TOPICS
  have F_maxVersion_w_CREATE_TOPICS := own_fld (k := (4 : Int32)) hn24a ev_w_CREATE_TOPICS
  have F_minVersion_w_LIST_OFFSETS := own_fld (k := (1 : Int32)) hn26a ev_w_LIST_OFFSETS
  have F_maxVersion_w_LIST_OFFSETS := own_fld (k := (2 : Int32)) hn27a ev_w_LIST_OFFSETS
  have F_maxVersion_w_METADATA := own_fld (k := (4 : Int32)) hn28a ev_w_METADATA
  have F_maxVersion_w_HEARTBEAT := own_fld (k := (3 : Int32)) hn29a ev_w_HEARTBEAT
  have F_minVersion_w_SYNC_GROUP := own_fld (k := (0 : Int32)) hn31a ev_w_SYNC_GROUP
  have F_minVersion_w_API_VERSIONS := own_fld (k := (0 : Int32)) hn33a ev_w_API_VERSIONS
  have F_maxVersion_w_API_VERSIONS := own_fld (k := (3 : Int32)) hn34a ev_w_API_VERSIONS
  have F_maxVersion_w_FETCH := own_fld (k := (11 : Int32)) hn35a ev_w_FETCH
  have F_maxVersion_w_SYNC_GROUP := own_fld (k := (3 : Int32)) hn36a ev_w_SYNC_GROUP
  have F_minVersion_w_JOIN_GROUP := own_fld (k := (0 : Int32)) hn38a ev_w_JOIN_GROUP
  have F_maxVersion_w_JOIN_GROUP := own_fld (k := (5 : Int32)) hn38b ev_w_JOIN_GROUP
  have ne_w_PRODUCE_w_FETCH : ¬ (w_PRODUCE = w_FETCH) := own_ne F_minVersion_w_PRODUCE F_minVersion_w_FETCH (by decide)
  have ne_w_PRODUCE_w_OFFSET_COMMIT : ¬ (w_PRODUCE = w_OFFSET_COMMIT) := own_ne F_minVersion_w_PRODUCE F_minVersion_w_OFFSET_COMMIT (by decide)
  have ne_w_PRODUCE_w_METADATA : ¬ (w_PRODUCE = w_METADATA) := own_ne F_maxVersion_w_PRODUCE F_maxVersion_w_METADATA (by decide)
  have ne_w_PRODUCE_w_LEAVE_GROUP : ¬ (w_PRODUCE = w_LEAVE_GROUP) := own_ne F_maxVersion_w_PRODUCE F_maxVersion_w_LEAVE_GROUP (by decide)
  have ne_w_PRODUCE_w_OFFSET_FETCH : ¬ (w_PRODUCE = w_OFFSET_FETCH) := own_ne F_minVersion_w_PRODUCE F_minVersion_w_OFFSET_FETCH (by decide)
  have ne_w_PRODUCE_w_FIND_COORDINATOR : ¬ (w_PRODUCE = w_FIND_COORDINATOR) := own_ne F_maxVersion_w_PRODUCE F_maxVersion_w_FIND_COORDINATOR (by decide)
  have ne_w_PRODUCE_w_HEARTBEAT : ¬ (w_PRODUCE = w_HEARTBEAT) := own_ne F_maxVersion_w_PRODUCE F_maxVersion_w_HEARTBEAT (by decide)
  have ne_w_PRODUCE_w_CREATE_TOPICS : ¬ (w_PRODUCE = w_CREATE_TOPICS) := own_ne F_maxVersion_w_PRODUCE F_maxVersion_w_CREATE_TOPICS (by decide)
  have ne_w_PRODUCE_w_LIST_OFFSETS : ¬ (w_PRODUCE = w_LIST_OFFSETS) := own_ne F_minVersion_w_PRODUCE F_minVersion_w_LIST_OFFSETS (by decide)
  have ne_w_PRODUCE_w_SYNC_GROUP : ¬ (w_PRODUCE = w_SYNC_GROUP) := own_ne F_maxVersion_w_PRODUCE F_maxVersion_w_SYNC_GROUP (by decide)
  have ne_w_PRODUCE_w_API_VERSIONS : ¬ (w_PRODUCE = w_API_VERSIONS) := own_ne F_maxVersion_w_PRODUCE F_maxVersion_w_API_VERSIONS (by decide)
  have ne_w_PRODUCE_w_JOIN_GROUP : ¬ (w_PRODUCE = w_JOIN_GROUP) := own_ne F_maxVersion_w_PRODUCE F_maxVersion_w_JOIN_GROUP (by decide)
  have ne_w_FETCH_w_OFFSET_COMMIT : ¬ (w_FETCH = w_OFFSET_COMMIT) := own_ne F_minVersion_w_FETCH F_minVersion_w_OFFSET_COMMIT (by decide)
  have ne_w_FETCH_w_METADATA : ¬ (w_FETCH = w_METADATA) := own_ne F_minVersion_w_FETCH F_minVersion_w_METADATA (by decide)
  have ne_w_FETCH_w_LEAVE_GROUP : ¬ (w_FETCH = w_LEAVE_GROUP) := own_ne F_minVersion_w_FETCH F_minVersion_w_LEAVE_GROUP (by decide)
  have ne_w_FETCH_w_OFFSET_FETCH : ¬ (w_FETCH = w_OFFSET_FETCH) := own_ne F_minVersion_w_FETCH F_minVersion_w_OFFSET_FETCH (by decide)
  have ne_w_FETCH_w_FIND_COORDINATOR : ¬ (w_FETCH = w_FIND_COORDINATOR) := own_ne F_minVersion_w_FETCH F_minVersion_w_FIND_COORDINATOR (by decide)
  have ne_w_FETCH_w_HEARTBEAT : ¬ (w_FETCH = w_HEARTBEAT) := own_ne F_minVersion_w_FETCH F_minVersion_w_HEARTBEAT (by decide)
  have ne_w_FETCH_w_CREATE_TOPICS : ¬ (w_FETCH = w_CREATE_TOPICS) := own_ne F_minVersion_w_FETCH F_minVersion_w_CREATE_TOPICS (by decide)
  have ne_w_FETCH_w_LIST_OFFSETS : ¬ (w_FETCH = w_LIST_OFFSETS) := own_ne F_minVersion_w_FETCH F_minVersion_w_LIST_OFFSETS (by decide)
  have ne_w_FETCH_w_SYNC_GROUP : ¬ (w_FETCH = w_SYNC_GROUP) := own_ne F_minVersion_w_FETCH F_minVersion_w_SYNC_GROUP (by decide)
  have ne_w_FETCH_w_API_VERSIONS : ¬ (w_FETCH = w_API_VERSIONS) := own_ne F_minVersion_w_FETCH F_minVersion_w_API_VERSIONS (by decide)
  have ne_w_FETCH_w_JOIN_GROUP : ¬ (w_FETCH = w_JOIN_GROUP) := own_ne F_minVersion_w_FETCH F_minVersion_w_JOIN_GROUP (by decide)
  have ne_w_OFFSET_COMMIT_w_METADATA : ¬ (w_OFFSET_COMMIT = w_METADATA) := own_ne F_minVersion_w_OFFSET_COMMIT F_minVersion_w_METADATA (by decide)
  have ne_w_OFFSET_COMMIT_w_LEAVE_GROUP : ¬ (w_OFFSET_COMMIT = w_LEAVE_GROUP) := own_ne F_minVersion_w_OFFSET_COMMIT F_minVersion_w_LEAVE_GROUP (by decide)
  have ne_w_OFFSET_COMMIT_w_OFFSET_FETCH : ¬ (w_OFFSET_COMMIT = w_OFFSET_FETCH) := own_ne F_minVersion_w_OFFSET_COMMIT F_minVersion_w_OFFSET_FETCH (by decide)
  have ne_w_OFFSET_COMMIT_w_FIND_COORDINATOR : ¬ (w_OFFSET_COMMIT = w_FIND_COORDINATOR) := own_ne F_minVersion_w_OFFSET_COMMIT F_minVersion_w_FIND_COORDINATOR (by decide)
  have ne_w_OFFSET_COMMIT_w_HEARTBEAT : ¬ (w_OFFSET_COMMIT = w_HEARTBEAT) := own_ne F_minVersion_w_OFFSET_COMMIT F_minVersion_w_HEARTBEAT (by decide)
  have ne_w_OFFSET_COMMIT_w_CREATE_TOPICS : ¬ (w_OFFSET_COMMIT = w_CREATE_TOPICS) := own_ne F_minVersion_w_OFFSET_COMMIT F_minVersion_w_CREATE_TOPICS (by decide)
  have ne_w_OFFSET_COMMIT_w_LIST_OFFSETS : ¬ (w_OFFSET_COMMIT = w_LIST_OFFSETS) := own_ne F_minVersion_w_OFFSET_COMMIT F_minVersion_w_LIST_OFFSETS (by decide)
  have ne_w_OFFSET_COMMIT_w_SYNC_GROUP : ¬ (w_OFFSET_COMMIT = w_SYNC_GROUP) := own_ne F_minVersion_w_OFFSET_COMMIT F_minVersion_w_SYNC_GROUP (by decide)
  have ne_w_OFFSET_COMMIT_w_API_VERSIONS : ¬ (w_OFFSET_COMMIT = w_API_VERSIONS) := own_ne F_minVersion_w_OFFSET_COMMIT F_minVersion_w_API_VERSIONS (by decide)
  have ne_w_OFFSET_COMMIT_w_JOIN_GROUP : ¬ (w_OFFSET_COMMIT = w_JOIN_GROUP) := own_ne F_minVersion_w_OFFSET_COMMIT F_minVersion_w_JOIN_GROUP (by decide)
  have ne_w_METADATA_w_LEAVE_GROUP : ¬ (w_METADATA = w_LEAVE_GROUP) := own_ne F_maxVersion_w_METADATA F_maxVersion_w_LEAVE_GROUP (by decide)
  have ne_w_METADATA_w_OFFSET_FETCH : ¬ (w_METADATA = w_OFFSET_FETCH) := own_ne F_minVersion_w_METADATA F_minVersion_w_OFFSET_FETCH (by decide)
  have ne_w_METADATA_w_FIND_COORDINATOR : ¬ (w_METADATA = w_FIND_COORDINATOR) := own_ne F_maxVersion_w_METADATA F_maxVersion_w_FIND_COORDINATOR (by decide)
  have ne_w_METADATA_w_HEARTBEAT : ¬ (w_METADATA = w_HEARTBEAT) := own_ne F_maxVersion_w_METADATA F_maxVersion_w_HEARTBEAT (by decide)
  have ne_w_METADATA_w_LIST_OFFSETS : ¬ (w_METADATA = w_LIST_OFFSETS) := own_ne F_minVersion_w_METADATA F_minVersion_w_LIST_OFFSETS (by decide)
  have ne_w_METADATA_w_SYNC_GROUP : ¬ (w_METADATA = w_SYNC_GROUP) := own_ne F_maxVersion_w_METADATA F_maxVersion_w_SYNC_GROUP (by decide)
  have ne_w_METADATA_w_API_VERSIONS : ¬ (w_METADATA = w_API_VERSIONS) := own_ne F_maxVersion_w_METADATA F_maxVersion_w_API_VERSIONS (by decide)
  have ne_w_METADATA_w_JOIN_GROUP : ¬ (w_METADATA = w_JOIN_GROUP) := own_ne F_maxVersion_w_METADATA F_maxVersion_w_JOIN_GROUP (by decide)
  have ne_w_LEAVE_GROUP_w_OFFSET_FETCH : ¬ (w_LEAVE_GROUP = w_OFFSET_FETCH) := own_ne F_minVersion_w_LEAVE_GROUP F_minVersion_w_OFFSET_FETCH (by decide)
  have ne_w_LEAVE_GROUP_w_FIND_COORDINATOR : ¬ (w_LEAVE_GROUP = w_FIND_COORDINATOR) := own_ne F_maxVersion_w_LEAVE_GROUP F_maxVersion_w_FIND_COORDINATOR (by decide)
  have ne_w_LEAVE_GROUP_w_HEARTBEAT : ¬ (w_LEAVE_GROUP = w_HEARTBEAT) := own_ne F_maxVersion_w_LEAVE_GROUP F_maxVersion_w_HEARTBEAT (by decide)
  have ne_w_LEAVE_GROUP_w_CREATE_TOPICS : ¬ (w_LEAVE_GROUP = w_CREATE_TOPICS) := own_ne F_maxVersion_w_LEAVE_GROUP F_maxVersion_w_CREATE_TOPICS (by decide)
  have ne_w_LEAVE_GROUP_w_LIST_OFFSETS : ¬ (w_LEAVE_GROUP = w_LIST_OFFSETS) := own_ne F_minVersion_w_LEAVE_GROUP F_minVersion_w_LIST_OFFSETS (by decide)
  have ne_w_LEAVE_GROUP_w_SYNC_GROUP : ¬ (w_LEAVE_GROUP = w_SYNC_GROUP) := own_ne F_maxVersion_w_LEAVE_GROUP F_maxVersion_w_SYNC_GROUP (by decide)
  have ne_w_LEAVE_GROUP_w_API_VERSIONS : ¬ (w_LEAVE_GROUP = w_API_VERSIONS) := own_ne F_maxVersion_w_LEAVE_GROUP F_maxVersion_w_API_VERSIONS (by decide)
  have ne_w_LEAVE_GROUP_w_JOIN_GROUP : ¬ (w_LEAVE_GROUP = w_JOIN_GROUP) := own_ne F_maxVersion_w_LEAVE_GROUP F_maxVersion_w_JOIN_GROUP (by decide)
  have ne_w_OFFSET_FETCH_w_FIND_COORDINATOR : ¬ (w_OFFSET_FETCH = w_FIND_COORDINATOR) := own_ne F_minVersion_w_OFFSET_FETCH F_minVersion_w_FIND_COORDINATOR (by decide)
  have ne_w_OFFSET_FETCH_w_HEARTBEAT : ¬ (w_OFFSET_FETCH = w_HEARTBEAT) := own_ne F_minVersion_w_OFFSET_FETCH F_minVersion_w_HEARTBEAT (by decide)
  have ne_w_OFFSET_FETCH_w_CREATE_TOPICS : ¬ (w_OFFSET_FETCH = w_CREATE_TOPICS) := own_ne F_minVersion_w_OFFSET_FETCH F_minVersion_w_CREATE_TOPICS (by decide)
  have ne_w_OFFSET_FETCH_w_LIST_OFFSETS : ¬ (w_OFFSET_FETCH = w_LIST_OFFSETS) := own_ne F_maxVersion_w_OFFSET_FETCH F_maxVersion_w_LIST_OFFSETS (by decide)
  have ne_w_OFFSET_FETCH_w_SYNC_GROUP : ¬ (w_OFFSET_FETCH = w_SYNC_GROUP) := own_ne F_minVersion_w_OFFSET_FETCH F_minVersion_w_SYNC_GROUP (by decide)
  have ne_w_OFFSET_FETCH_w_API_VERSIONS : ¬ (w_OFFSET_FETCH = w_API_VERSIONS) := own_ne F_minVersion_w_OFFSET_FETCH F_minVersion_w_API_VERSIONS (by decide)
  have ne_w_OFFSET_FETCH_w_JOIN_GROUP : ¬ (w_OFFSET_FETCH = w_JOIN_GROUP) := own_ne F_minVersion_w_OFFSET_FETCH F_minVersion_w_JOIN_GROUP (by decide)
  have ne_w_FIND_COORDINATOR_w_HEARTBEAT : ¬ (w_FIND_COORDINATOR = w_HEARTBEAT) := own_ne F_maxVersion_w_FIND_COORDINATOR F_maxVersion_w_HEARTBEAT (by decide)
  have ne_w_FIND_COORDINATOR_w_CREATE_TOPICS : ¬ (w_FIND_COORDINATOR = w_CREATE_TOPICS) := own_ne F_maxVersion_w_FIND_COORDINATOR F_maxVersion_w_CREATE_TOPICS (by decide)
  have ne_w_FIND_COORDINATOR_w_LIST_OFFSETS : ¬ (w_FIND_COORDINATOR = w_LIST_OFFSETS) := own_ne F_minVersion_w_FIND_COORDINATOR F_minVersion_w_LIST_OFFSETS (by decide)
  have ne_w_FIND_COORDINATOR_w_SYNC_GROUP : ¬ (w_FIND_COORDINATOR = w_SYNC_GROUP) := own_ne F_maxVersion_w_FIND_COORDINATOR F_maxVersion_w_SYNC_GROUP (by decide)
  have ne_w_FIND_COORDINATOR_w_API_VERSIONS : ¬ (w_FIND_COORDINATOR = w_API_VERSIONS) := own_ne F_maxVersion_w_FIND_COORDINATOR F_maxVersion_w_API_VERSIONS (by decide)
  have ne_w_FIND_COORDINATOR_w_JOIN_GROUP : ¬ (w_FIND_COORDINATOR = w_JOIN_GROUP) := own_ne F_maxVersion_w_FIND_COORDINATOR F_maxVersion_w_JOIN_GROUP (by decide)
  have ne_w_HEARTBEAT_w_CREATE_TOPICS : ¬ (w_HEARTBEAT = w_CREATE_TOPICS) := own_ne F_maxVersion_w_HEARTBEAT F_maxVersion_w_CREATE_TOPICS (by decide)
  have ne_w_HEARTBEAT_w_LIST_OFFSETS : ¬ (w_HEARTBEAT = w_LIST_OFFSETS) := own_ne F_minVersion_w_HEARTBEAT F_minVersion_w_LIST_OFFSETS (by decide)
  have ne_w_HEARTBEAT_w_JOIN_GROUP : ¬ (w_HEARTBEAT = w_JOIN_GROUP) := own_ne F_maxVersion_w_HEARTBEAT F_maxVersion_w_JOIN_GROUP (by decide)
  have ne_w_CREATE_TOPICS_w_LIST_OFFSETS : ¬ (w_CREATE_TOPICS = w_LIST_OFFSETS) := own_ne F_minVersion_w_CREATE_TOPICS F_minVersion_w_LIST_OFFSETS (by decide)
  have ne_w_CREATE_TOPICS_w_SYNC_GROUP : ¬ (w_CREATE_TOPICS = w_SYNC_GROUP) := own_ne F_maxVersion_w_CREATE_TOPICS F_maxVersion_w_SYNC_GROUP (by decide)
  have ne_w_CREATE_TOPICS_w_API_VERSIONS : ¬ (w_CREATE_TOPICS = w_API_VERSIONS) := own_ne F_maxVersion_w_CREATE_TOPICS F_maxVersion_w_API_VERSIONS (by decide)
  have ne_w_CREATE_TOPICS_w_JOIN_GROUP : ¬ (w_CREATE_TOPICS = w_JOIN_GROUP) := own_ne F_maxVersion_w_CREATE_TOPICS F_maxVersion_w_JOIN_GROUP (by decide)
  have ne_w_LIST_OFFSETS_w_SYNC_GROUP : ¬ (w_LIST_OFFSETS = w_SYNC_GROUP) := own_ne F_minVersion_w_LIST_OFFSETS F_minVersion_w_SYNC_GROUP (by decide)
  have ne_w_LIST_OFFSETS_w_API_VERSIONS : ¬ (w_LIST_OFFSETS = w_API_VERSIONS) := own_ne F_minVersion_w_LIST_OFFSETS F_minVersion_w_API_VERSIONS (by decide)
  have ne_w_LIST_OFFSETS_w_JOIN_GROUP : ¬ (w_LIST_OFFSETS = w_JOIN_GROUP) := own_ne F_minVersion_w_LIST_OFFSETS F_minVersion_w_JOIN_GROUP (by decide)
  have ne_w_SYNC_GROUP_w_JOIN_GROUP : ¬ (w_SYNC_GROUP = w_JOIN_GROUP) := own_ne F_maxVersion_w_SYNC_GROUP F_maxVersion_w_JOIN_GROUP (by decide)
  have ne_w_API_VERSIONS_w_JOIN_GROUP : ¬ (w_API_VERSIONS = w_JOIN_GROUP) := own_ne F_maxVersion_w_API_VERSIONS F_maxVersion_w_JOIN_GROUP (by decide)
  have HW : World s w_PRODUCE w_FETCH w_OFFSET_COMMIT w_METADATA w_LEAVE_GROUP w_OFFSET_FETCH w_FIND_COORDINATOR w_HEARTBEAT w_CREATE_TOPICS w_LIST_OFFSETS w_SYNC_GROUP w_API_VERSIONS w_JOIN_GROUP := ⟨S_w_PRODUCE, E_w_PRODUCE, S_w_FETCH, E_w_FETCH, S_w_OFFSET_COMMIT, E_w_OFFSET_COMMIT, S_w_METADATA, E_w_METADATA, S_w_LEAVE_GROUP, E_w_LEAVE_GROUP, S_w_OFFSET_FETCH, E_w_OFFSET_FETCH, S_w_FIND_COORDINATOR, E_w_FIND_COORDINATOR, S_w_HEARTBEAT, E_w_HEARTBEAT, S_w_CREATE_TOPICS, E_w_CREATE_TOPICS, S_w_LIST_OFFSETS, E_w_LIST_OFFSETS, S_w_SYNC_GROUP, E_w_SYNC_GROUP, S_w_API_VERSIONS, E_w_API_VERSIONS, S_w_JOIN_GROUP, E_w_JOIN_GROUP, F_minVersion_w_PRODUCE, F_maxVersion_w_PRODUCE, F_minVersion_w_FETCH, F_minVersion_w_OFFSET_COMMIT, F_maxVersion_w_OFFSET_COMMIT, F_minVersion_w_METADATA, F_minVersion_w_LEAVE_GROUP, F_maxVersion_w_LEAVE_GROUP, F_minVersion_w_OFFSET_FETCH, F_maxVersion_w_OFFSET_FETCH, F_minVersion_w_FIND_COORDINATOR, F_maxVersion_w_FIND_COORDINATOR, F_minVersion_w_HEARTBEAT, F_minVersion_w_CREATE_TOPICS, F_maxVersion_w_CREATE_TOPICS, F_minVersion_w_LIST_OFFSETS, F_maxVersion_w_LIST_OFFSETS, F_maxVersion_w_METADATA, F_maxVersion_w_HEARTBEAT, F_minVersion_w_SYNC_GROUP, F_minVersion_w_API_VERSIONS, F_maxVersion_w_API_VERSIONS, F_maxVersion_w_FETCH, F_maxVersion_w_SYNC_GROUP, F_minVersion_w_JOIN_GROUP, F_maxVersion_w_JOIN_GROUP, ne_w_PRODUCE_w_FETCH, ne_w_PRODUCE_w_OFFSET_COMMIT, ne_w_PRODUCE_w_METADATA, ne_w_PRODUCE_w_LEAVE_GROUP, ne_w_PRODUCE_w_OFFSET_FETCH, ne_w_PRODUCE_w_FIND_COORDINATOR, ne_w_PRODUCE_w_HEARTBEAT, ne_w_PRODUCE_w_CREATE_TOPICS, ne_w_PRODUCE_w_LIST_OFFSETS, ne_w_PRODUCE_w_SYNC_GROUP, ne_w_PRODUCE_w_API_VERSIONS, ne_w_PRODUCE_w_JOIN_GROUP, ne_w_FETCH_w_OFFSET_COMMIT, ne_w_FETCH_w_METADATA, ne_w_FETCH_w_LEAVE_GROUP, ne_w_FETCH_w_OFFSET_FETCH, ne_w_FETCH_w_FIND_COORDINATOR, ne_w_FETCH_w_HEARTBEAT, ne_w_FETCH_w_CREATE_TOPICS, ne_w_FETCH_w_LIST_OFFSETS, ne_w_FETCH_w_SYNC_GROUP, ne_w_FETCH_w_API_VERSIONS, ne_w_FETCH_w_JOIN_GROUP, ne_w_OFFSET_COMMIT_w_METADATA, ne_w_OFFSET_COMMIT_w_LEAVE_GROUP, ne_w_OFFSET_COMMIT_w_OFFSET_FETCH, ne_w_OFFSET_COMMIT_w_FIND_COORDINATOR, ne_w_OFFSET_COMMIT_w_HEARTBEAT, ne_w_OFFSET_COMMIT_w_CREATE_TOPICS, ne_w_OFFSET_COMMIT_w_LIST_OFFSETS, ne_w_OFFSET_COMMIT_w_SYNC_GROUP, ne_w_OFFSET_COMMIT_w_API_VERSIONS, ne_w_OFFSET_COMMIT_w_JOIN_GROUP, ne_w_METADATA_w_LEAVE_GROUP, ne_w_METADATA_w_OFFSET_FETCH, ne_w_METADATA_w_FIND_COORDINATOR, ne_w_METADATA_w_HEARTBEAT, ne_w_METADATA_w_LIST_OFFSETS, ne_w_METADATA_w_SYNC_GROUP, ne_w_METADATA_w_API_VERSIONS, ne_w_METADATA_w_JOIN_GROUP, ne_w_LEAVE_GROUP_w_OFFSET_FETCH, ne_w_LEAVE_GROUP_w_FIND_COORDINATOR, ne_w_LEAVE_GROUP_w_HEARTBEAT, ne_w_LEAVE_GROUP_w_CREATE_TOPICS, ne_w_LEAVE_GROUP_w_LIST_OFFSETS, ne_w_LEAVE_GROUP_w_SYNC_GROUP, ne_w_LEAVE_GROUP_w_API_VERSIONS, ne_w_LEAVE_GROUP_w_JOIN_GROUP, ne_w_OFFSET_FETCH_w_FIND_COORDINATOR, ne_w_OFFSET_FETCH_w_HEARTBEAT, ne_w_OFFSET_FETCH_w_CREATE_TOPICS, ne_w_OFFSET_FETCH_w_LIST_OFFSETS, ne_w_OFFSET_FETCH_w_SYNC_GROUP, ne_w_OFFSET_FETCH_w_API_VERSIONS, ne_w_OFFSET_FETCH_w_JOIN_GROUP, ne_w_FIND_COORDINATOR_w_HEARTBEAT, ne_w_FIND_COORDINATOR_w_CREATE_TOPICS, ne_w_FIND_COORDINATOR_w_LIST_OFFSETS, ne_w_FIND_COORDINATOR_w_SYNC_GROUP, ne_w_FIND_COORDINATOR_w_API_VERSIONS, ne_w_FIND_COORDINATOR_w_JOIN_GROUP, ne_w_HEARTBEAT_w_CREATE_TOPICS, ne_w_HEARTBEAT_w_LIST_OFFSETS, ne_w_HEARTBEAT_w_JOIN_GROUP, ne_w_CREATE_TOPICS_w_LIST_OFFSETS, ne_w_CREATE_TOPICS_w_SYNC_GROUP, ne_w_CREATE_TOPICS_w_API_VERSIONS, ne_w_CREATE_TOPICS_w_JOIN_GROUP, ne_w_LIST_OFFSETS_w_SYNC_GROUP, ne_w_LIST_OFFSETS_w_API_VERSIONS, ne_w_LIST_OFFSETS_w_JOIN_GROUP, ne_w_SYNC_GROUP_w_JOIN_GROUP, ne_w_API_VERSIONS_w_JOIN_GROUP, trivial⟩
  obtain ⟨n, o, h1, h2, h3, _, L, rfl, ⟨rfl, N⟩, hq⟩ := rm0_all l s _ hw tables_1 w_PRODUCE w_FETCH w_OFFSET_COMMIT w_METADATA w_LEAVE_GROUP w_OFFSET_FETCH w_FIND_COORDINATOR w_HEARTBEAT w_CREATE_TOPICS w_LIST_OFFSETS w_SYNC_GROUP w_API_VERSIONS w_JOIN_GROUP i0 i1 s.heap s.heap.size (Nat.le_refl _) (Old.start s) HW p e ha hc hk s m _ below hf ((Spec.applies_iff_loose hf).mp happ).1 ⟨rfl, State.Warmed39.refl s, rfl⟩ trivial
  exact ⟨n, _, h1, h2, h3, hpost _ _ _ _ _ _ ⟨Cond.after_iff.mpr rfl, Cond.after_iff.mpr (eq_i res_at (Term.int_eval (1)) rfl), trivial⟩ ⟨hq.1, hq.2.1, (hq.2.2.sift fun y hy => Or.inr (N y hy)).mono (by decide) (by decide)⟩⟩
theorem main_1_1 : Claimed_1_1 := comes_1 fun _ _ _ _ _ _ h hF => ⟨h.1, hF⟩
theorem main_1_2 : Claimed_1_2 := comes_1 fun _ _ _ _ _ _ h hF => ⟨h.2.1, hF⟩
end Jvm.Pilot.@@N@@
namespace Jvm.Pilot.@@N@@
open Jvm Jvm.ClassFile Sem Op Lib Jvm.Free Jvm.Stand Jvm.Pilot.@@N@@.Jvm.D
/-! MADE BY PROGRAM (witnessworld.py) out of the Statement's table words and the real class files: 12 classes; the members and pool entries that the words name. The judged class is class 1, her method 1. -/
namespace start1
open Jvm.ClassFile
def u (s : String) : CpInfo := .utf8 (stringToUtf16 s)
/-- a pool by its gaps: so many unusable entries, then the entry; so many at the end -/
def gap : Nat → List CpInfo → List CpInfo
  | 0, r => r
  | n + 1, r => .unusable :: gap n r
def poolList (es : List (Nat × CpInfo)) (last : Nat) : List CpInfo := es.foldr (fun e r => gap e.1 (e.2 :: r)) (gap last [])
def pool (es : List (Nat × CpInfo)) (last : Nat) : Array CpInfo := ⟨poolList es last⟩
def fileOf (pool : Array CpInfo) (this : Nat) (attrs : Array Attribute := #[]) (ms : Array MethodInfo := #[]) (fl : Nat := 33) (sup : Nat := 0) (ifs : Array Nat := #[]) (fds : Array FieldInfo := #[]) : ClassFile where
  minorVersion := 0
  majorVersion := 65
  constantPool := pool
  accessFlags := fl
  thisClass := this
  superClass := sup
  interfaces := ifs
  fields := fds
  methods := ms
  attributes := attrs
def plain (name : String) (sup : Option ClassId) : Class where
  name := name
  kind := .ordinary
  loader := none
  accessFlags := 33
  super := sup
  interfaces := #[]
  cf := none
  fields := #[]
  methods := #[]
  instanceTypes := #[]
  staticTypes := #[]
  resolved := #[]
  callSites := []
  init := .initialized
  statics := none
  mirror := none

def pool0 : Array CpInfo := pool [(5, u "<init>"), (0, u "()V"), (1, .class_ 10), (1, u "java/lang/Object")] 113

def k0m0 : Method := { name := "<init>", desc := "()V", sig := { parameters := [], returnType := none }, accessFlags := 1, code := none }
/-- java/lang/Object -/
def k0 : Class := { plain "java/lang/Object" none with
  accessFlags := 33
  interfaces := #[]
  cf := some (fileOf pool0 8 #[] #[{ accessFlags := 1, nameIndex := 5, descriptorIndex := 6, attributes := #[] }] 33 0 #[] #[])
  fields := #[]
  methods := #[k0m0]
  instanceTypes := #[]
  staticTypes := #[]
  resolved := Array.replicate 124 none
  statics := none }

def pool1 : Array CpInfo := pool [(2, .class_ 4), (1, u "java/lang/Object"), (0, u "<init>"), (0, u "()V"), (0, .integer 2147483647), (0, .fieldref 9 10), (0, .class_ 11), (0, .nameAndType 12 13), (0, u "com/example/melog/melog/protocol/ApiKey"), (0, u "PRODUCE"), (0, u "Lcom/example/melog/melog/protocol/ApiKey;"), (0, .fieldref 9 15), (0, .nameAndType 16 13), (0, u "FETCH"), (0, .fieldref 9 18), (0, .nameAndType 19 13), (0, u "LIST_OFFSETS"), (0, .fieldref 9 21), (0, .nameAndType 22 13), (0, u "METADATA"), (0, .fieldref 9 24), (0, .nameAndType 25 13), (0, u "OFFSET_COMMIT"), (0, .fieldref 9 27), (0, .nameAndType 28 13), (0, u "OFFSET_FETCH"), (0, .fieldref 9 30), (0, .nameAndType 31 13), (0, u "FIND_COORDINATOR"), (0, .fieldref 9 33), (0, .nameAndType 34 13), (0, u "JOIN_GROUP"), (0, .fieldref 9 36), (0, .nameAndType 37 13), (0, u "HEARTBEAT"), (0, .fieldref 9 39), (0, .nameAndType 40 13), (0, u "LEAVE_GROUP"), (0, .fieldref 9 42), (0, .nameAndType 43 13), (0, u "SYNC_GROUP"), (0, .fieldref 9 45), (0, .nameAndType 46 13), (0, u "API_VERSIONS"), (0, .fieldref 9 48), (0, .nameAndType 49 13), (0, u "CREATE_TOPICS"), (0, .methodref 9 51), (0, .nameAndType 52 53), (0, u "serves"), (0, u "(S)Z"), (0, .class_ 55), (0, u "com/example/melog/melog/protocol/ApiKeyServesPinLaw"), (2, u "law"), (0, u "(II)Z")] 3

def k1m0 : Method := { name := "<init>", desc := "()V", sig := { parameters := [], returnType := none }, accessFlags := 1, code := none }
def k1c1 : Code := { maxStack := 2, maxLocals := 8, code := code, exceptionTable := #[], attributes := #[] }
def k1m1 : Method := { name := "law", desc := "(II)Z", sig := { parameters := [.int, .int], returnType := some .boolean }, accessFlags := 9, code := some k1c1 }
/-- com/example/melog/melog/protocol/ApiKeyServesPinLaw -/
def k1 : Class := { plain "com/example/melog/melog/protocol/ApiKeyServesPinLaw" (some 0) with
  accessFlags := 49
  interfaces := #[]
  cf := some (fileOf pool1 54 #[] #[{ accessFlags := 1, nameIndex := 5, descriptorIndex := 6, attributes := #[] }, { accessFlags := 9, nameIndex := 58, descriptorIndex := 59, attributes := #[] }] 49 2 #[] #[])
  fields := #[]
  methods := #[k1m0, k1m1]
  instanceTypes := #[]
  staticTypes := #[]
  resolved := Array.replicate 63 none
  statics := none }

def pool2 : Array CpInfo := pool [(1, .class_ 2), (0, u "java/lang/constant/Constable"), (0, .class_ 4), (0, u "java/lang/Object")] 6

/-- java/lang/constant/Constable -/
def k2 : Class := { plain "java/lang/constant/Constable" (some 0) with
  accessFlags := 1537
  interfaces := #[]
  cf := some (fileOf pool2 1 #[] #[] 1537 3 #[] #[])
  fields := #[]
  methods := #[]
  instanceTypes := #[]
  staticTypes := #[]
  resolved := Array.replicate 11 none
  statics := none }

def pool3 : Array CpInfo := pool [(1, .class_ 2), (0, u "java/lang/Comparable"), (0, .class_ 4), (0, u "java/lang/Object")] 7

/-- java/lang/Comparable -/
def k3 : Class := { plain "java/lang/Comparable" (some 0) with
  accessFlags := 1537
  interfaces := #[]
  cf := some (fileOf pool3 1 #[] #[] 1537 3 #[] #[])
  fields := #[]
  methods := #[]
  instanceTypes := #[]
  staticTypes := #[]
  resolved := Array.replicate 12 none
  statics := none }

def pool4 : Array CpInfo := pool [(1, .class_ 2), (0, u "java/io/Serializable"), (0, .class_ 4), (0, u "java/lang/Object")] 2

/-- java/io/Serializable -/
def k4 : Class := { plain "java/io/Serializable" (some 0) with
  accessFlags := 1537
  interfaces := #[]
  cf := some (fileOf pool4 1 #[] #[] 1537 3 #[] #[])
  fields := #[]
  methods := #[]
  instanceTypes := #[]
  staticTypes := #[]
  resolved := Array.replicate 7 none
  statics := none }

def pool5 : Array CpInfo := pool [(2, .class_ 4), (1, u "java/lang/Enum"), (0, u "name"), (0, u "Ljava/lang/String;"), (2, u "ordinal"), (0, u "I"), (1, .class_ 14), (1, u "java/lang/Object"), (4, u "hash"), (86, .class_ 108), (1, u "java/lang/Enum$EnumDesc"), (2, .class_ 112), (0, u "java/lang/constant/Constable"), (0, .class_ 114), (0, u "java/lang/Comparable"), (0, .class_ 116), (0, u "java/io/Serializable")] 87

/-- java/lang/Enum -/
def k5 : Class := { plain "java/lang/Enum" (some 0) with
  accessFlags := 1057
  interfaces := #[2, 3, 4]
  cf := some (fileOf pool5 2 #[.nestMembers #[106]] #[] 1057 12 #[111, 113, 115] #[{ accessFlags := 18, nameIndex := 5, descriptorIndex := 6, attributes := #[] }, { accessFlags := 18, nameIndex := 9, descriptorIndex := 10, attributes := #[] }, { accessFlags := 2, nameIndex := 19, descriptorIndex := 10, attributes := #[] }])
  fields := #[{ name := "name", type := (.object "java/lang/String"), accessFlags := 18, slot := 0, constantValue := 0 }, { name := "ordinal", type := .int, accessFlags := 18, slot := 1, constantValue := 0 }, { name := "hash", type := .int, accessFlags := 2, slot := 2, constantValue := 0 }]
  methods := #[]
  instanceTypes := #[(.object "java/lang/String"), .int, .int]
  staticTypes := #[]
  resolved := Array.replicate 204 none
  statics := none }

def pool6 : Array CpInfo := pool [(1, .class_ 2), (0, u "com/example/melog/melog/protocol/ApiKey"), (2, u "PRODUCE"), (0, u "Lcom/example/melog/melog/protocol/ApiKey;"), (2, u "FETCH"), (2, u "LIST_OFFSETS"), (2, u "METADATA"), (2, u "OFFSET_COMMIT"), (2, u "OFFSET_FETCH"), (2, u "FIND_COORDINATOR"), (2, u "JOIN_GROUP"), (2, u "HEARTBEAT"), (2, u "LEAVE_GROUP"), (2, u "SYNC_GROUP"), (2, u "API_VERSIONS"), (2, u "CREATE_TOPICS"), (2, u "$VALUES"), (0, u "[Lcom/example/melog/melog/protocol/ApiKey;"), (6, .class_ 55), (1, u "java/lang/Enum"), (8, u "id"), (0, u "S"), (0, .fieldref 1 67), (0, .nameAndType 68 65), (0, u "minVersion"), (0, .fieldref 1 70), (0, .nameAndType 71 65), (0, u "maxVersion"), (2, u "firstFlexibleVersion"), (2, u "BY_ID"), (3, u "(S)Z"), (42, u "serves")] 6

def k6c0 : Code := { maxStack := 2, maxLocals := 2, code := prog_9_method_8_code, exceptionTable := #[], attributes := #[] }
def k6m0 : Method := { name := "serves", desc := "(S)Z", sig := { parameters := [.short], returnType := some .boolean }, accessFlags := 1, code := some k6c0 }
/-- com/example/melog/melog/protocol/ApiKey -/
def k6 : Class := { plain "com/example/melog/melog/protocol/ApiKey" (some 5) with
  accessFlags := 16433
  interfaces := #[]
  cf := some (fileOf pool6 1 #[] #[{ accessFlags := 1, nameIndex := 124, descriptorIndex := 81, attributes := #[] }] 16433 53 #[] #[{ accessFlags := 16409, nameIndex := 5, descriptorIndex := 6, attributes := #[] }, { accessFlags := 16409, nameIndex := 9, descriptorIndex := 6, attributes := #[] }, { accessFlags := 16409, nameIndex := 12, descriptorIndex := 6, attributes := #[] }, { accessFlags := 16409, nameIndex := 15, descriptorIndex := 6, attributes := #[] }, { accessFlags := 16409, nameIndex := 18, descriptorIndex := 6, attributes := #[] }, { accessFlags := 16409, nameIndex := 21, descriptorIndex := 6, attributes := #[] }, { accessFlags := 16409, nameIndex := 24, descriptorIndex := 6, attributes := #[] }, { accessFlags := 16409, nameIndex := 27, descriptorIndex := 6, attributes := #[] }, { accessFlags := 16409, nameIndex := 30, descriptorIndex := 6, attributes := #[] }, { accessFlags := 16409, nameIndex := 33, descriptorIndex := 6, attributes := #[] }, { accessFlags := 16409, nameIndex := 36, descriptorIndex := 6, attributes := #[] }, { accessFlags := 16409, nameIndex := 39, descriptorIndex := 6, attributes := #[] }, { accessFlags := 16409, nameIndex := 42, descriptorIndex := 6, attributes := #[] }, { accessFlags := 26, nameIndex := 77, descriptorIndex := 46, attributes := #[] }, { accessFlags := 18, nameIndex := 64, descriptorIndex := 65, attributes := #[] }, { accessFlags := 18, nameIndex := 68, descriptorIndex := 65, attributes := #[] }, { accessFlags := 18, nameIndex := 71, descriptorIndex := 65, attributes := #[] }, { accessFlags := 18, nameIndex := 74, descriptorIndex := 65, attributes := #[] }, { accessFlags := 4122, nameIndex := 45, descriptorIndex := 46, attributes := #[] }])
  fields := #[{ name := "PRODUCE", type := (.object "com/example/melog/melog/protocol/ApiKey"), accessFlags := 16409, slot := 0, constantValue := 0 }, { name := "FETCH", type := (.object "com/example/melog/melog/protocol/ApiKey"), accessFlags := 16409, slot := 1, constantValue := 0 }, { name := "LIST_OFFSETS", type := (.object "com/example/melog/melog/protocol/ApiKey"), accessFlags := 16409, slot := 2, constantValue := 0 }, { name := "METADATA", type := (.object "com/example/melog/melog/protocol/ApiKey"), accessFlags := 16409, slot := 3, constantValue := 0 }, { name := "OFFSET_COMMIT", type := (.object "com/example/melog/melog/protocol/ApiKey"), accessFlags := 16409, slot := 4, constantValue := 0 }, { name := "OFFSET_FETCH", type := (.object "com/example/melog/melog/protocol/ApiKey"), accessFlags := 16409, slot := 5, constantValue := 0 }, { name := "FIND_COORDINATOR", type := (.object "com/example/melog/melog/protocol/ApiKey"), accessFlags := 16409, slot := 6, constantValue := 0 }, { name := "JOIN_GROUP", type := (.object "com/example/melog/melog/protocol/ApiKey"), accessFlags := 16409, slot := 7, constantValue := 0 }, { name := "HEARTBEAT", type := (.object "com/example/melog/melog/protocol/ApiKey"), accessFlags := 16409, slot := 8, constantValue := 0 }, { name := "LEAVE_GROUP", type := (.object "com/example/melog/melog/protocol/ApiKey"), accessFlags := 16409, slot := 9, constantValue := 0 }, { name := "SYNC_GROUP", type := (.object "com/example/melog/melog/protocol/ApiKey"), accessFlags := 16409, slot := 10, constantValue := 0 }, { name := "API_VERSIONS", type := (.object "com/example/melog/melog/protocol/ApiKey"), accessFlags := 16409, slot := 11, constantValue := 0 }, { name := "CREATE_TOPICS", type := (.object "com/example/melog/melog/protocol/ApiKey"), accessFlags := 16409, slot := 12, constantValue := 0 }, { name := "BY_ID", type := (.array (.object "com/example/melog/melog/protocol/ApiKey")), accessFlags := 26, slot := 13, constantValue := 0 }, { name := "id", type := .short, accessFlags := 18, slot := 3, constantValue := 0 }, { name := "minVersion", type := .short, accessFlags := 18, slot := 4, constantValue := 0 }, { name := "maxVersion", type := .short, accessFlags := 18, slot := 5, constantValue := 0 }, { name := "firstFlexibleVersion", type := .short, accessFlags := 18, slot := 6, constantValue := 0 }, { name := "$VALUES", type := (.array (.object "com/example/melog/melog/protocol/ApiKey")), accessFlags := 4122, slot := 14, constantValue := 0 }]
  methods := #[k6m0]
  instanceTypes := #[(.object "java/lang/String"), .int, .int, .short, .short, .short, .short]
  staticTypes := #[(.object "com/example/melog/melog/protocol/ApiKey"), (.object "com/example/melog/melog/protocol/ApiKey"), (.object "com/example/melog/melog/protocol/ApiKey"), (.object "com/example/melog/melog/protocol/ApiKey"), (.object "com/example/melog/melog/protocol/ApiKey"), (.object "com/example/melog/melog/protocol/ApiKey"), (.object "com/example/melog/melog/protocol/ApiKey"), (.object "com/example/melog/melog/protocol/ApiKey"), (.object "com/example/melog/melog/protocol/ApiKey"), (.object "com/example/melog/melog/protocol/ApiKey"), (.object "com/example/melog/melog/protocol/ApiKey"), (.object "com/example/melog/melog/protocol/ApiKey"), (.object "com/example/melog/melog/protocol/ApiKey"), (.array (.object "com/example/melog/melog/protocol/ApiKey")), (.array (.object "com/example/melog/melog/protocol/ApiKey"))]
  resolved := Array.replicate 131 none
  statics := some 0 }

def pool7 : Array CpInfo := pool [(1, u "java/lang/Cloneable"), (0, .class_ 1), (0, u "java/lang/Object"), (0, .class_ 3)] 3

/-- java/lang/Cloneable -/
def k7 : Class := { plain "java/lang/Cloneable" (some 0) with
  accessFlags := 1537
  interfaces := #[]
  cf := some (fileOf pool7 2 #[] #[] 1537 4 #[] #[])
  fields := #[]
  methods := #[]
  instanceTypes := #[]
  staticTypes := #[]
  resolved := Array.replicate 8 none
  statics := none }

/-- the primitive byte -/
def k8 : Class := { plain "byte" none with kind := .primitive 'B', accessFlags := 0x411 }
/-- [B -/
def k9 : Class := { plain "[B" (some 0) with kind := .array 8 .byte, interfaces := #[7, 4], accessFlags := 1041 }

/-- the primitive int -/
def k10 : Class := { plain "int" none with kind := .primitive 'I', accessFlags := 0x411 }
/-- [I -/
def k11 : Class := { plain "[I" (some 0) with kind := .array 10 .int, interfaces := #[7, 4], accessFlags := 1041 }

def heap : Heap := #[{ cls := 6, slots := #[.ref 1, .ref 2, .ref 10, .ref 4, .ref 3, .ref 6, .ref 7, .ref 13, .ref 8, .ref 5, .ref 11, .ref 12, .ref 9, .null, .null], vm := .statics 6 },
  { cls := 6, slots := #[.null, .int 0, .int 0, .int 0, .int 0, .int 7, .int 0], vm := .none },
  { cls := 6, slots := #[.null, .int 0, .int 0, .int 0, .int 4, .int 11, .int 0], vm := .none },
  { cls := 6, slots := #[.null, .int 0, .int 0, .int 0, .int 2, .int 7, .int 0], vm := .none },
  { cls := 6, slots := #[.null, .int 0, .int 0, .int 0, .int 0, .int 4, .int 0], vm := .none },
  { cls := 6, slots := #[.null, .int 0, .int 0, .int 0, .int 0, .int 1, .int 0], vm := .none },
  { cls := 6, slots := #[.null, .int 0, .int 0, .int 0, .int 1, .int 5, .int 0], vm := .none },
  { cls := 6, slots := #[.null, .int 0, .int 0, .int 0, .int 0, .int 2, .int 0], vm := .none },
  { cls := 6, slots := #[.null, .int 0, .int 0, .int 0, .int 0, .int 3, .int 0], vm := .none },
  { cls := 6, slots := #[.null, .int 0, .int 0, .int 0, .int 0, .int 4, .int 0], vm := .none },
  { cls := 6, slots := #[.null, .int 0, .int 0, .int 0, .int 1, .int 2, .int 0], vm := .none },
  { cls := 6, slots := #[.null, .int 0, .int 0, .int 0, .int 0, .int 3, .int 0], vm := .none },
  { cls := 6, slots := #[.null, .int 0, .int 0, .int 0, .int 0, .int 3, .int 0], vm := .none },
  { cls := 6, slots := #[.null, .int 0, .int 0, .int 0, .int 0, .int 5, .int 0], vm := .none }]
def classes : Array Class := #[k0, k1, k2, k3, k4, k5, k6, k7, k8, k9, k10, k11]
def interned : List (Array UInt16 × Addr) := []
def slotsUsed : Nat := 106
def theMethod : MethodId := ⟨1, 1⟩
def args0 : Array Value := #[.int 5, .int 3]
def aboutOver (below : List Frame) : State where
  vm := { classes := classes, interned := interned.toArray }
  heap := heap
  slotsUsed := slotsUsed
  threads := #[{ frames := .invoking theMethod args0 :: below }]
def below0 : List Frame := [.native { method := ⟨0, 0⟩, args := #[] }]
def about1 : State := aboutOver below0
def p0 : Program := .bare "" "" ""
def e0 : Env := launch0.env 0 0 0
theorem w_frames : about1.frames = Frame.invoking theMethod args0 :: below0 := rfl
set_option maxRecDepth 65536 in
theorem w_args : argsFit about1.vm theMethod args0 = true := by decide +kernel
set_option maxRecDepth 65536 in
theorem w_heap : heapFits about1 = true := by decide +kernel
set_option maxRecDepth 65536 in
theorem w_runnable : about1.curStatus? = some .runnable := by decide +kernel
set_option maxRecDepth 65536 in
theorem w_alone : about1.alone = true := by decide +kernel
set_option maxRecDepth 65536 in
theorem w_named : about1.methodNamed? x = some theMethod := by decide +kernel
set_option maxRecDepth 65536 in
theorem w_hears : about1.hears theMethod below0 = true := by decide +kernel
set_option maxRecDepth 65536 in
theorem w_ripe : about1.ripe theMethod args0 below0 = true := by decide +kernel
theorem w_running : about1.status = .running := rfl
set_option maxRecDepth 65536 in
theorem w_room : about1.hasRoom e0.platform room_1 = true :=
  launch0.hasRoom_least _ room_1 (by decide +kernel) (by decide +kernel) (by decide +kernel) (by decide +kernel) (by decide +kernel) (by decide +kernel)
theorem allAtoms_all (ts : List Jvm.Cond) (a : Array Jvm.Value) (st : Jvm.State) : (allAtoms ts).before a st = ts.all (fun c => c.before a st) := by
  induction ts with
  | nil => rfl
  | cons c t ih =>
    show (Jvm.Cond.and c (allAtoms t)).before a st = _
    rw [Jvm.Cond.before_and, ih, List.all_cons]
def words1 : List Jvm.Cond := Jvm.Cond.code x code maxLocals ret :: tables_1
/-- a 'code' word, met by the world's own term for the bytes: nothing is compared byte by byte -/
theorem code_word {y : MethodName} {bytes : ByteArray} {mx : Nat} {rt : Option FieldType} {a : Array Value} {s : State} {m : MethodId} {meth : Method} {c : Code} (h1 : s.methodNamed? y = some m) (h2 : s.vm.method? m = some meth) (h3 : meth.code = some c) (h4 : c.code = bytes)
    (h5 : (c.maxLocals == mx && c.exceptionTable.isEmpty && decide (c.maxStack ≤ mostOperands) && decide (meth.sig.returnType = rt) && !meth.locks && decide (parseMethodDescriptor y.desc = some meth.sig)) = true) : (Jvm.Cond.code y bytes mx rt).before a s = true := by
  simp only [Bool.and_eq_true, beq_iff_eq, Bool.not_eq_true', decide_eq_true_eq] at h5
  obtain ⟨⟨⟨⟨⟨g1, g2⟩, g3⟩, g4⟩, g5⟩, g6⟩ := h5
  simp [Cond.before, Cond.holds, Cond.value, h1, h2, h3, h4, g1, g2, g3, g4, g5, g6]
def isCode : Jvm.Cond → Bool
  | .code _ _ _ _ => true
  | _ => false
theorem all_split {L : List Jvm.Cond} {P : Jvm.Cond → Bool} (h1 : L.all (fun c => isCode c || P c) = true) (h2 : ∀ c ∈ L.filter isCode, P c = true) : L.all P = true := by
  refine List.all_eq_true.mpr fun c hc => ?_
  have h := List.all_eq_true.mp h1 c hc
  rcases Bool.eq_false_or_eq_true (isCode c) with hi | hi
  · exact h2 c (List.mem_filter.mpr ⟨hc, hi⟩)
  · simpa [hi] using h
set_option maxRecDepth 65536 in
theorem w_c0 : (Jvm.Cond.code x code maxLocals ret).before args0 about1 = true := code_word (m := ⟨1, 1⟩) (meth := k1m1) (c := k1c1) (by decide +kernel) rfl rfl rfl (by decide +kernel)
set_option maxRecDepth 65536 in
theorem w_c1 : (Jvm.Cond.code ({ cls := "com/example/melog/melog/protocol/ApiKey", name := "serves", desc := "(S)Z" } : Jvm.MethodName) prog_9_method_8_code (2 : Nat) (Option.some Jvm.ClassFile.FieldType.boolean)).before args0 about1 = true := code_word (m := ⟨6, 0⟩) (meth := k6m0) (c := k6c0) (by decide +kernel) rfl rfl rfl (by decide +kernel)
def codes1 : List Jvm.Cond := [Jvm.Cond.code x code maxLocals ret, Jvm.Cond.code ({ cls := "com/example/melog/melog/protocol/ApiKey", name := "serves", desc := "(S)Z" } : Jvm.MethodName) prog_9_method_8_code (2 : Nat) (Option.some Jvm.ClassFile.FieldType.boolean)]
set_option maxRecDepth 65536 in
theorem codes_eq : words1.filter isCode = codes1 := rfl
theorem w_codes : ∀ c ∈ words1.filter isCode, c.before args0 about1 = true := by
  rw [codes_eq]
  intro c hc
  simp only [codes1, List.mem_cons, List.not_mem_nil, or_false] at hc
  rcases hc with rfl | rfl
  · exact w_c0
  · exact w_c1
set_option maxRecDepth 65536 in
theorem w_t1 : (words1.take 24).all (fun c => isCode c || c.before args0 about1) = true := by decide +kernel
set_option maxRecDepth 65536 in
theorem w_t2 : (words1.drop 24).all (fun c => isCode c || c.before args0 about1) = true := by decide +kernel
theorem w_tables : (allAtoms (Jvm.Cond.code x code maxLocals ret :: tables_1)).before args0 about1 = true := by
  rw [allAtoms_all]
  show words1.all (fun c => c.before args0 about1) = true
  refine all_split ?_ w_codes
  rw [← List.take_append_drop 24 words1, List.all_append, w_t1, w_t2]
  rfl
set_option maxRecDepth 65536 in
theorem w_case : (Jvm.Cond.and given_1 narrow_1).before args0 about1 = true := by decide +kernel
theorem w_applies : (headSpec (Jvm.Cond.code x code maxLocals ret :: tables_1) room_1).applies x e0.platform about1 = true :=
  (Spec.applies_iff w_frames).mpr ⟨w_running, w_runnable, w_alone, w_named, w_hears, w_ripe, w_room, w_tables⟩
theorem atStart : AtStart classFile x code maxLocals ret World_1 tables_1 room_1 Calls_1 rest_1 Pre_1 launch0 p0 e0 about1 theMethod args0 below0 :=
  ⟨lists_1, trivial, launch0.admits_env _ _ _, launch0.least_env, fairChoices_fair.cas, fairChoices_fair.clock, w_frames, w_args, w_heap, w_applies, trivial, trivial, w_case⟩
end start1
theorem witness_1 : WitnessClaimed_1 := ⟨start1.p0, start1.e0, start1.about1, start1.theMethod, start1.args0, start1.below0, start1.atStart⟩
end Jvm.Pilot.@@N@@
