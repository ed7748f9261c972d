import JvmDerived
import JvmDerived.Pilot.@@N@@Statement
import JvmDerived.Pilot.@@N@@Code
set_option linter.unusedVariables false
set_option linter.unusedSimpArgs false
namespace Jvm.RoadKit
open Sem ClassFile Op Lib Jvm.Stand Jvm.Free Jvm.LawKit
section New
variable {p : Program} {l : Launch} {e : Env} {R : Room} {s : State} {m : MethodId} {args : Array Value} {below : List Frame} {meth : Method} {c : Code} {T : State} {locs : List Loc} {cells slots : Nat}
theorem retI (X : Stand p l e R s m args below meth c T locs cells slots) (hx : p.tables.exec = Jvm.exec) {pc : Nat} {Ls : Array Slot} {z : Int32} {rest : List Value} (hret : meth.sig.returnType = some .int) (hd : decode c.code pc = .ok (.ireturn, 1)) {fs : List Frame}
    (hl : ∀ (f : JFrame) (acts : List Action), f.method = m → f.locked = none → f.entered = [] → (doReturn e (T.setTop f) acts (some (.int z))).1 = T.setFrames fs) : Steps p.tables e below (T.setTop (mkF m pc Ls (.int z :: rest))) (T.setFrames fs) := by
  have hm' : T.vm.method? m = some meth := X.method'
  have hn : narrow .int (.int z) = .int z := rfl
  show Steps p.tables e below (T.setTop { method := m, pc := pc, locals := Ls, stack := _ :: rest, locked := none }) _
  jvm_step X.here [X.here.top, hx, hd, hm', hret, hn]
  first | (intro acts; rw [hl _ acts rfl rfl rfl]) | rw [hl _ _ rfl rfl rfl]
  exact Steps.refl _
end New
end Jvm.RoadKit
namespace Jvm.Pilot.@@N@@
open Jvm Jvm.ClassFile Sem Op Lib Jvm.Free Jvm.Stand Jvm.LawKit Jvm.RoadKit Bundle Jvm.Pilot.@@N@@.Jvm.D
def own_Ends (p : Program) (e : Env) (below : List Frame) (T : State) (g : JFrame) (P : Outcome → State → Prop) : Prop := ∃ s₂ o, Steps p.tables e below (T.setTop g) s₂ ∧ s₂.status = .running ∧ Ended s₂ below o ∧ P o s₂
theorem own_go {p : Program} {e : Env} {below : List Frame} {T T' : State} {g g' : JFrame} {P : Outcome → State → Prop} (h : ∀ t, Steps p.tables e below (T'.setTop g') t → Steps p.tables e below (T.setTop g) t) (k : own_Ends p e below T' g' P) : own_Ends p e below T g P := by
  obtain ⟨a, o, q, r⟩ := k
  exact ⟨a, o, h _ q, r⟩
def own_Len (Z : State) (h : Heap) (a : Addr) (ty : FieldType) (n : Int32) : Prop := ∃ c : Cell, Arr Z h a c ty ∧ c.slots.size = n.toNatClampNeg ∧ ¬ n < 0
theorem own_Len.lt {Z : State} {h : Heap} {a : Addr} {ty : FieldType} {n : Int32} (F : own_Len Z h a ty n) : a < h.size := by obtain ⟨c, A, -⟩ := F; exact A.lt
theorem own_Len.ext {Z : State} {h h' : Heap} {a : Addr} {ty : FieldType} {n : Int32} (F : own_Len Z h a ty n) (E : Ext h h') : own_Len Z h' a ty n := by obtain ⟨c, A, r⟩ := F; exact ⟨c, A.ext E, r⟩
theorem own_Len.other {Z : State} {h h' : Heap} {a b : Addr} {ty : FieldType} {n : Int32} {sl : Nat} {v : Value} (F : own_Len Z h b ty n) (W : Wr h h' a sl v) (q : b ≠ a) : own_Len Z h' b ty n := by obtain ⟨c, A, r⟩ := F; exact ⟨c, A.other W q, r⟩
theorem own_Len.same {Z : State} {h h' : Heap} {a : Addr} {ty : FieldType} {n : Int32} {sl : Nat} {v : Value} (F : own_Len Z h a ty n) (W : Wr h h' a sl v) : own_Len Z h' a ty n := by obtain ⟨c, A, r1, r2⟩ := F; exact ⟨_, A.same W, by rw [sz_set]; exact r1, r2⟩
theorem own_Len.keep {Z : State} {h h' : Heap} {a : Addr} {ty : FieldType} {n : Int32} {ws : List Addr} (F : own_Len Z h a ty n) (K : Keep h h' ws) (q : a ∉ ws) : own_Len Z h' a ty n := by obtain ⟨c, A, r⟩ := F; exact ⟨c, ⟨K.2.1 a c A.1 q, A.2⟩, r⟩
theorem own_as {p : Program} {e : Env} {below : List Frame} {T : State} {g g' : JFrame} {P : Outcome → State → Prop} (h : g = g') (k : own_Ends p e below T g' P) : own_Ends p e below T g P := h ▸ k
def own_within (en by_ : Int64) (le : Int32) (lb : Int64) : Int32 := if le.toInt64 < en then 0 else if lb < by_ then 0 else 1

theorem own_z : (0 : Int32).toInt = 0 := by decide
theorem own_z6 : (0 : Int64).toInt = 0 := by decide
theorem own_n (x : Int32) : 0 ≤ (x &&& (15 : Int32)).toInt ∧ (x &&& (15 : Int32)).toInt ≤ 15 := by
  have h := c_mask x 15 4 (by decide) (by decide)
  omega
theorem own_neg {n : Int32} (h : 0 ≤ n.toInt ∧ n.toInt ≤ 15) : ¬ n < 0 := by rw [Int32.lt_iff_toInt_lt, own_z]; omega
theorem own_cap {n : Int32} (h : 0 ≤ n.toInt ∧ n.toInt ≤ 15) : n.toNatClampNeg ≤ 15 := by
  have := nat_of (own_neg h)
  omega
theorem own_two {a b : Int32} (ha : 0 ≤ a.toInt ∧ a.toInt ≤ 15) (hb : 0 ≤ b.toInt ∧ b.toInt ≤ 15) : (a + b).toInt64 = a.toInt64 + b.toInt64 := by
  apply Int64.toInt_inj.mp
  have h1 := c_iadd a b
  have h2 := c_ladd a.toInt64 b.toInt64
  have r1 := rng32 (a + b)
  have r2 := rng64 (a.toInt64 + b.toInt64)
  have e1 := c_i2l a
  have e2 := c_i2l b
  have e3 := c_i2l (a + b)
  omega
theorem own_lone (a : Int32) : (a + (0 : Int32)).toInt64 = a.toInt64 := by rw [Int32.add_zero]
theorem own_b2 {a b : Int32} (ha : 0 ≤ a.toInt ∧ a.toInt ≤ 15) (hb : 0 ≤ b.toInt ∧ b.toInt ≤ 15) : 0 ≤ (a.toInt64 + b.toInt64).toInt ∧ (a.toInt64 + b.toInt64).toInt ≤ 30 := by
  have h2 := c_ladd a.toInt64 b.toInt64
  have r2 := rng64 (a.toInt64 + b.toInt64)
  have e1 := c_i2l a
  have e2 := c_i2l b
  omega
theorem own_b1 {a : Int32} (ha : 0 ≤ a.toInt ∧ a.toInt ≤ 15) : 0 ≤ (a.toInt64).toInt ∧ (a.toInt64).toInt ≤ 30 := by
  have e1 := c_i2l a
  omega
theorem own_bt {a b : Int64} (ha : 0 ≤ a.toInt ∧ a.toInt ≤ 30) (hb : 0 ≤ b.toInt ∧ b.toInt ≤ 30) : 0 ≤ (a + b).toInt ∧ (a + b).toInt ≤ 60 := by
  have h2 := c_ladd a b
  have r2 := rng64 (a + b)
  omega
theorem own_tot {A B t1 t2 t : Int64} (gt : t1 + t2 = t) (hA : A = t1) (hB : B = t2) : (((0 : Int64) + A) + B) = t := by rw [Int64.zero_add, hA, hB, gt]
theorem own_w1 (t : Int64) : ¬ own_within 2 t 2 t = 0 := by
  have h : ¬ (2 : Int32).toInt64 < (2 : Int64) := by decide
  have h2 : ¬ t < t := by rw [Int64.lt_iff_toInt_lt]; omega
  unfold own_within
  rw [if_neg h, if_neg h2]
  decide
theorem own_w2 (t : Int64) : own_within 2 t 1 9223372036854775807 = 0 := by
  have h : (1 : Int32).toInt64 < (2 : Int64) := by decide
  unfold own_within
  rw [if_pos h]
theorem own_w3 {t : Int64} (ht : 0 ≤ t.toInt ∧ t.toInt ≤ 60) : own_within 2 t 2 (t - (1 : Int64)) = 0 := by
  have h : ¬ (2 : Int32).toInt64 < (2 : Int64) := by decide
  have h2 : (t - (1 : Int64)) < t := by
    have h1 := c_lsub t 1
    have r := rng64 (t - 1)
    have e : (1 : Int64).toInt = 1 := by decide
    rw [Int64.lt_iff_toInt_lt]
    omega
  unfold own_within
  rw [if_neg h, if_pos h2]
theorem d1_0 : decode prog_3_method_1_code 0 = .ok (.aload_n 0, 1) := by decide +kernel
theorem d1_1 : decode prog_3_method_1_code 1 = .ok (.invokespecial 1, 3) := by decide +kernel
theorem d1_4 : decode prog_3_method_1_code 4 = .ok (.return_, 1) := by decide +kernel
theorem pn_1 : plainName "com/example/wedge/wedge/Batch$Size" = true := by first | (simp [plainName, overriddenIn]; done) | decide +kernel
theorem ef_1 (m : MethodId) (o : Addr) : entryFrame m #[(.ref o)] 1 = mkF m 0 #[.val (.ref o)] [] := by first | (simp [entryFrame, mkF, argsToLocals, Value.category]; done) | rfl
def Q_rmSInit (Z : State) (o : Addr) (h0 : Heap) (n0 : Nat) (v : Option Value) (h : Heap) (L : List Loc) : Prop := v = none ∧ Fr n0 L ∧ h = h0
set_option maxRecDepth 65536 in
set_option maxHeartbeats 40000000 in
theorem rmSInit (l : Launch) (Z : State) (a0 : Array Value) (hw : ∀ d ∈ tables_1, d.before a0 Z = true) (ws : List Jvm.Cond) (o : Addr) (h0 : Heap) (n0 : Nat) (Z0 : n0 ≤ h0.size) :
    MetFree l (⟨"com/example/wedge/wedge/Batch$Size", "<init>", "()V"⟩ : MethodName) (head1 (Jvm.Cond.code (⟨"com/example/wedge/wedge/Batch$Size", "<init>", "()V"⟩ : MethodName) prog_3_method_1_code 1 none :: ws) ({ frames := 1, cells := 0, slots := 0, locals := 12 } : Room)) (fun aa U => aa = #[(.ref o)] ∧ Z.Warmed39 U.vm ∧ U.heap = h0) (fun _ _ _ _ _ => True) (fun _ U ou U' => ∃ v L, ou = .returned v ∧ Q_rmSInit Z o h0 n0 v U'.heap L ∧ FrameEnd U ou U' L ({ frames := 1, cells := 0, slots := 0, locals := 12 } : Room).cells ({ frames := 1, cells := 0, slots := 0, locals := 12 } : Room).slots) := by
  refine MetFree.of_bodySF (plainFor_of_name pn_1) hisR ?_
  intro p e s m args below meth c s₁ Bd hml0 hP hK
  obtain ⟨rfl, hZ, hh⟩ := hP
  have hx := Bd.exec
  have hby := Bd.bytes
  have hml : c.maxLocals = 1 := hml0
  have hown : s.vm.findClass "com/example/wedge/wedge/Batch$Size" = some m.cls := findClass_of_methodNamed Bd.named
  have hnm := (name_of_methodNamed Bd.named Bd.method).1
  have X0 : Stand p l e ({ frames := 1, cells := 0, slots := 0, locals := 12 } : Room) s m #[(.ref o)] below meth c s₁ [] 0 0 := Stand.of_body Bd
  have e0 : s₁.heap = h0 := by rw [← hh, Bd.state]; rfl
  have N0 := Fr.nil n0
  have K0 := Keep.refl h0 []
  refine own_as (ef_1 m o) ?_
  show own_Ends p e below s₁ (mkF m 0 #[.val (.ref o)] []) _
  refine own_go (fun _ => XS.aloadN X0.here hx rfl (hb hby d1_0) rfl rfl) ?_
  show own_Ends p e below s₁ (mkF m 1 #[.val (.ref o)] [(.ref o)]) _
  obtain ⟨T1, X1, e1, st1⟩ := initO X0 hx hZ hown (hw _ (List.mem_of_getElem? (i := 7) rfl)) (hw _ (List.mem_of_getElem? (i := 8) rfl)) (hw _ (List.mem_of_getElem? (i := 9) rfl)) e0 (g := (mkF m 1 #[.val (.ref o)] [(.ref o)])) rfl (by rw [hml]; rfl) rfl (hb hby d1_1) (by decide) (W := 0) (by show 2 * 0 + _ ≤ _; exact Nat.le_of_eq rfl) (by decide)
  refine own_go st1 ?_
  show own_Ends p e below T1 (mkF m 4 #[.val (.ref o)] []) _
  obtain ⟨fs, hr, hrun, hended, hW, hsame⟩ := X1.leave (v := none) (fun _ => rfl)
  refine ⟨_, _, X1.returnOut hx Bd.returns (hb hby d1_4) hr, hrun, hended, _, _, rfl, ?_, ⟨_, rfl⟩, hW, hsame.mono (by decide) (by decide)⟩
  show Q_rmSInit Z o h0 n0 _ T1.heap _
  rw [e1]
  exact ⟨rfl, N0, rfl⟩
theorem d5_0 : decode jdk_30_method_1_code 0 = .ok (.aload_n 0, 1) := by decide +kernel
theorem d5_1 : decode jdk_30_method_1_code 1 = .ok (.invokespecial 1, 3) := by decide +kernel
theorem d5_4 : decode jdk_30_method_1_code 4 = .ok (.return_, 1) := by decide +kernel
theorem pn_5 : plainName "java/lang/Record" = true := by first | (simp [plainName, overriddenIn]; done) | decide +kernel
theorem ef_5 (m : MethodId) (a0 : Addr) : entryFrame m #[(.ref a0)] 1 = mkF m 0 #[.val (.ref a0)] [] := by first | (simp [entryFrame, mkF, argsToLocals, Value.category]; done) | rfl
def Q_rmRec (Z : State) (a0 : Addr) (h0 : Heap) (n0 : Nat) (v : Option Value) (h : Heap) (L : List Loc) : Prop := v = none ∧ Fr n0 L ∧ h = h0
set_option maxRecDepth 65536 in
set_option maxHeartbeats 40000000 in
theorem rmRec (l : Launch) (Z : State) (a0 : Array Value) (hw : ∀ d ∈ tables_1, d.before a0 Z = true) (ws : List Jvm.Cond) (a0 : Addr) (h0 : Heap) (n0 : Nat) (Z0 : n0 ≤ h0.size) :
    MetFree l (⟨"java/lang/Record", "<init>", "()V"⟩ : MethodName) (head1 (Jvm.Cond.code (⟨"java/lang/Record", "<init>", "()V"⟩ : MethodName) jdk_30_method_1_code 1 none :: ws) ({ frames := 1, cells := 0, slots := 0, locals := 12 } : Room)) (fun aa U => aa = #[(.ref a0)] ∧ Z.Warmed39 U.vm ∧ U.heap = h0) (fun _ _ _ _ _ => True) (fun _ U ou U' => ∃ v L, ou = .returned v ∧ Q_rmRec Z a0 h0 n0 v U'.heap L ∧ FrameEnd U ou U' L ({ frames := 1, cells := 0, slots := 0, locals := 12 } : Room).cells ({ frames := 1, cells := 0, slots := 0, locals := 12 } : Room).slots) := by
  refine MetFree.of_bodySF (plainFor_of_name pn_5) hisR ?_
  intro p e s m args below meth c s₁ Bd hml0 hP hK
  obtain ⟨rfl, hZ, hh⟩ := hP
  have hx := Bd.exec
  have hby := Bd.bytes
  have hml : c.maxLocals = 1 := hml0
  have hown : s.vm.findClass "java/lang/Record" = some m.cls := findClass_of_methodNamed Bd.named
  have hnm := (name_of_methodNamed Bd.named Bd.method).1
  have X0 : Stand p l e ({ frames := 1, cells := 0, slots := 0, locals := 12 } : Room) s m #[(.ref a0)] below meth c s₁ [] 0 0 := Stand.of_body Bd
  have e0 : s₁.heap = h0 := by rw [← hh, Bd.state]; rfl
  have N0 := Fr.nil n0
  have K0 := Keep.refl h0 []
  refine own_as (ef_5 m a0) ?_
  show own_Ends p e below s₁ (mkF m 0 #[.val (.ref a0)] []) _
  refine own_go (fun _ => XS.aloadN X0.here hx rfl (hb hby d5_0) rfl rfl) ?_
  show own_Ends p e below s₁ (mkF m 1 #[.val (.ref a0)] [(.ref a0)]) _
  obtain ⟨T1, X1, e1, st1⟩ := initO X0 hx hZ hown (hw _ (List.mem_of_getElem? (i := 30) rfl)) (hw _ (List.mem_of_getElem? (i := 8) rfl)) (hw _ (List.mem_of_getElem? (i := 9) rfl)) e0 (g := (mkF m 1 #[.val (.ref a0)] [(.ref a0)])) rfl (by rw [hml]; rfl) rfl (hb hby d5_1) (by decide) (W := 0) (by show 2 * 0 + _ ≤ _; exact Nat.le_of_eq rfl) (by decide)
  refine own_go st1 ?_
  show own_Ends p e below T1 (mkF m 4 #[.val (.ref a0)] []) _
  obtain ⟨fs, hr, hrun, hended, hW, hsame⟩ := X1.leave (v := none) (fun _ => rfl)
  refine ⟨_, _, X1.returnOut hx Bd.returns (hb hby d5_4) hr, hrun, hended, _, _, rfl, ?_, ⟨_, rfl⟩, hW, hsame.mono (by decide) (by decide)⟩
  show Q_rmRec Z a0 h0 n0 _ T1.heap _
  rw [e1]
  exact ⟨rfl, N0, rfl⟩
theorem d4_0 : decode prog_2_method_1_code 0 = .ok (.aload_n 0, 1) := by decide +kernel
theorem d4_1 : decode prog_2_method_1_code 1 = .ok (.invokespecial 1, 3) := by decide +kernel
theorem d4_4 : decode prog_2_method_1_code 4 = .ok (.aload_n 0, 1) := by decide +kernel
theorem d4_5 : decode prog_2_method_1_code 5 = .ok (.iload_n 1, 1) := by decide +kernel
theorem d4_6 : decode prog_2_method_1_code 6 = .ok (.putfield 7, 3) := by decide +kernel
theorem d4_9 : decode prog_2_method_1_code 9 = .ok (.aload_n 0, 1) := by decide +kernel
theorem d4_10 : decode prog_2_method_1_code 10 = .ok (.lload_n 2, 1) := by decide +kernel
theorem d4_11 : decode prog_2_method_1_code 11 = .ok (.putfield 13, 3) := by decide +kernel
theorem d4_14 : decode prog_2_method_1_code 14 = .ok (.return_, 1) := by decide +kernel
theorem pn_4 : plainName "com/example/wedge/wedge/Batch$Limit" = true := by first | (simp [plainName, overriddenIn]; done) | decide +kernel
theorem ef_4 (m : MethodId) (o : Addr) (p1 : Int32) (q2 : Int64) : entryFrame m #[(.ref o), (.int p1), (.long q2)] 4 = mkF m 0 #[.val (.ref o), .val (.int p1), .val (.long q2), .second] [] := by first | (simp [entryFrame, mkF, argsToLocals, Value.category]; done) | rfl
def Q_rmLInit (Z : State) (o : Addr) (p1 : Int32) (q2 : Int64) (h0 : Heap) (n0 : Nat) (v : Option Value) (h : Heap) (L : List Loc) : Prop := v = none ∧ Fr n0 L ∧ Keep h0 h [o] ∧ Exa Z h o "com/example/wedge/wedge/Batch$Limit" ∧ Fld Z h o "com/example/wedge/wedge/Batch$Limit" "entries" "I" (.int p1) ∧ Fld Z h o "com/example/wedge/wedge/Batch$Limit" "bytes" "J" (.long q2)
theorem pd_0 : parseMethodDescriptor "()V" = some ⟨[], none⟩ := by decide +kernel
set_option maxRecDepth 65536 in
set_option maxHeartbeats 40000000 in
theorem rmLInit (l : Launch) (Z : State) (a0 : Array Value) (hw : ∀ d ∈ tables_1, d.before a0 Z = true) (ws : List Jvm.Cond) (o : Addr) (p1 : Int32) (q2 : Int64) (h0 : Heap) (n0 : Nat) (Z0 : n0 ≤ h0.size) (E_o : Exa Z h0 o "com/example/wedge/wedge/Batch$Limit") (F_o_entries : Fld Z h0 o "com/example/wedge/wedge/Batch$Limit" "entries" "I" (.int (0 : Int32))) (F_o_bytes : Fld Z h0 o "com/example/wedge/wedge/Batch$Limit" "bytes" "J" (.long (0 : Int64))) (g_o : n0 ≤ o) :
    MetFree l (⟨"com/example/wedge/wedge/Batch$Limit", "<init>", "(IJ)V"⟩ : MethodName) (head1 (Jvm.Cond.code (⟨"com/example/wedge/wedge/Batch$Limit", "<init>", "(IJ)V"⟩ : MethodName) prog_2_method_1_code 4 none :: ws) ({ frames := 2, cells := 0, slots := 0, locals := 24 } : Room)) (fun aa U => aa = #[(.ref o), (.int p1), (.long q2)] ∧ Z.Warmed39 U.vm ∧ U.heap = h0) (fun _ _ _ _ _ => True) (fun _ U ou U' => ∃ v L, ou = .returned v ∧ Q_rmLInit Z o p1 q2 h0 n0 v U'.heap L ∧ FrameEnd U ou U' L ({ frames := 2, cells := 0, slots := 0, locals := 24 } : Room).cells ({ frames := 2, cells := 0, slots := 0, locals := 24 } : Room).slots) := by
  refine MetFree.of_bodySF (plainFor_of_name pn_4) hisR ?_
  intro p e s m args below meth c s₁ Bd hml0 hP hK
  obtain ⟨rfl, hZ, hh⟩ := hP
  have hx := Bd.exec
  have hby := Bd.bytes
  have hml : c.maxLocals = 4 := hml0
  have hown : s.vm.findClass "com/example/wedge/wedge/Batch$Limit" = some m.cls := findClass_of_methodNamed Bd.named
  have hnm := (name_of_methodNamed Bd.named Bd.method).1
  have X0 : Stand p l e ({ frames := 2, cells := 0, slots := 0, locals := 24 } : Room) s m #[(.ref o), (.int p1), (.long q2)] below meth c s₁ [] 0 0 := Stand.of_body Bd
  have e0 : s₁.heap = h0 := by rw [← hh, Bd.state]; rfl
  have N0 := Fr.nil n0
  have K0 := Keep.refl h0 [o]
  refine own_as (ef_4 m o p1 q2) ?_
  show own_Ends p e below s₁ (mkF m 0 #[.val (.ref o), .val (.int p1), .val (.long q2), .second] []) _
  refine own_go (fun _ => XS.aloadN X0.here hx rfl (hb hby d4_0) rfl rfl) ?_
  show own_Ends p e below s₁ (mkF m 1 #[.val (.ref o), .val (.int p1), .val (.long q2), .second] [(.ref o)]) _
  obtain ⟨_, _, ⟨T1, L1, k1, n1⟩, -, X1, ⟨Lc1, hQ1, l1, y1, z1⟩, st1⟩ := X0.specialBack hx (y := (⟨"java/lang/Record", "<init>", "()V"⟩ : MethodName)) rfl hown (mvT hZ (hw _ (List.mem_of_getElem? (i := 25) rfl))) (mvT hZ (hw _ (List.mem_of_getElem? (i := 26) rfl))) (mvT hZ (hw _ (List.mem_of_getElem? (i := 29) rfl))) (by decide) (backOf (W := 0) (rmRec l Z a0 hw [] o  h0 n0 Z0 ) hZ (hw _ (List.mem_of_getElem? (i := 29) rfl)) (hw _ (List.mem_of_getElem? (i := 28) rfl)) (by decide) (by decide)) (g := (mkF m 1 #[.val (.ref o), .val (.int p1), .val (.long q2), .second] [(.ref o)])) rfl (by rw [hml]; rfl) (Steps.refl _) (a := o) (argsL := []) (rest := []) (lenOf pd_0 rfl) rfl (by show 2 * 0 + _ ≤ _; exact Nat.le_of_eq rfl) (hb hby d4_1) (fun _ _ => ⟨rfl, e0, (by decide : 0 + 0 ≤ _), (by decide : 0 + 0 ≤ _)⟩)
  dsimp only [Pt.U, Pt.locs, Pt.cells, Pt.slots] at X1 l1 y1 z1 st1 hQ1
  subst l1 y1 z1
  refine own_go (fun _ k => st1.trans k) ?_
  obtain ⟨rfl, N1q, eh1⟩ := hQ1
  have N1 := Fr.app N0 N1q
  show own_Ends p e below T1 (mkF m 4 #[.val (.ref o), .val (.int p1), .val (.long q2), .second] []) _
  refine own_go (fun _ => XS.aloadN X1.here hx rfl (hb hby d4_4) rfl rfl) ?_
  show own_Ends p e below T1 (mkF m 5 #[.val (.ref o), .val (.int p1), .val (.long q2), .second] [(.ref o)]) _
  refine own_go (fun _ => XS.iloadN X1.here hx rfl (hb hby d4_5) rfl) ?_
  show own_Ends p e below T1 (mkF m 6 #[.val (.ref o), .val (.int p1), .val (.long q2), .second] [(.int p1), (.ref o)]) _
  obtain ⟨T2, h2, X2, e2, W2, st2⟩ := putF X1 hx hZ hown (host := "") (Or.inl (hw _ (List.mem_of_getElem? (i := 31) rfl))) Via.refl eh1 F_o_entries E_o (Or.inr ⟨(hw _ (List.mem_of_getElem? (i := 32) rfl)), rfl, hnm⟩) (hw _ (List.mem_of_getElem? (i := 20) rfl)) (ty := .int) (by decide) rfl rfl (g := (mkF m 6 #[.val (.ref o), .val (.int p1), .val (.long q2), .second] [(.int p1), (.ref o)])) rfl rfl (hb hby d4_6)
  refine own_go st2 ?_
  replace F_o_entries := F_o_entries.same W2
  replace E_o := E_o.wr W2
  replace F_o_bytes := F_o_bytes.other W2 (Or.inr (slot_ne (Or.inr (hw _ (List.mem_of_getElem? (i := 34) rfl))) (Or.inr (hw _ (List.mem_of_getElem? (i := 32) rfl))) (by decide) (t := .long) (t' := .int) (by decide) (by decide)))
  have N2 := Fr.snoc X2 N1 g_o
  have K2 := K0.wr W2 (Or.inl (List.mem_of_getElem? (i := 0) rfl))
  have Z2 : n0 ≤ h2.size := Nat.le_trans Z0 K2.1
  show own_Ends p e below T2 (mkF m 9 #[.val (.ref o), .val (.int p1), .val (.long q2), .second] []) _
  refine own_go (fun _ => XS.aloadN X2.here hx rfl (hb hby d4_9) rfl rfl) ?_
  show own_Ends p e below T2 (mkF m 10 #[.val (.ref o), .val (.int p1), .val (.long q2), .second] [(.ref o)]) _
  refine own_go (fun _ => XS.lloadN X2.here hx rfl (hb hby d4_10) rfl) ?_
  show own_Ends p e below T2 (mkF m 11 #[.val (.ref o), .val (.int p1), .val (.long q2), .second] [(.long q2), (.ref o)]) _
  obtain ⟨T3, h3, X3, e3, W3, st3⟩ := putF X2 hx hZ hown (host := "") (Or.inl (hw _ (List.mem_of_getElem? (i := 33) rfl))) Via.refl e2 F_o_bytes E_o (Or.inr ⟨(hw _ (List.mem_of_getElem? (i := 34) rfl)), rfl, hnm⟩) (hw _ (List.mem_of_getElem? (i := 20) rfl)) (ty := .long) (by decide) rfl rfl (g := (mkF m 11 #[.val (.ref o), .val (.int p1), .val (.long q2), .second] [(.long q2), (.ref o)])) rfl rfl (hb hby d4_11)
  refine own_go st3 ?_
  replace F_o_bytes := F_o_bytes.same W3
  replace E_o := E_o.wr W3
  replace F_o_entries := F_o_entries.other W3 (Or.inr (slot_ne (Or.inr (hw _ (List.mem_of_getElem? (i := 32) rfl))) (Or.inr (hw _ (List.mem_of_getElem? (i := 34) rfl))) (by decide) (t := .int) (t' := .long) (by decide) (by decide)))
  have N3 := Fr.snoc X3 N2 g_o
  have K3 := K2.wr W3 (Or.inl (List.mem_of_getElem? (i := 0) rfl))
  have Z3 : n0 ≤ h3.size := Nat.le_trans Z0 K3.1
  show own_Ends p e below T3 (mkF m 14 #[.val (.ref o), .val (.int p1), .val (.long q2), .second] []) _
  obtain ⟨fs, hr, hrun, hended, hW, hsame⟩ := X3.leave (v := none) (fun _ => rfl)
  refine ⟨_, _, X3.returnOut hx Bd.returns (hb hby d4_14) hr, hrun, hended, _, _, rfl, ?_, ⟨_, rfl⟩, hW, hsame.mono (by decide) (by decide)⟩
  show Q_rmLInit Z o p1 q2 h0 n0 _ T3.heap _
  rw [e3]
  exact ⟨rfl, N3, K3, E_o, F_o_entries, F_o_bytes⟩
theorem d7_0 : decode prog_2_method_5_code 0 = .ok (.aload_n 0, 1) := by decide +kernel
theorem d7_1 : decode prog_2_method_5_code 1 = .ok (.getfield 7, 3) := by decide +kernel
theorem d7_4 : decode prog_2_method_5_code 4 = .ok (.ireturn, 1) := by decide +kernel
theorem pn_7 : plainName "com/example/wedge/wedge/Batch$Limit" = true := by first | (simp [plainName, overriddenIn]; done) | decide +kernel
theorem ef_7 (m : MethodId) (o : Addr) : entryFrame m #[(.ref o)] 1 = mkF m 0 #[.val (.ref o)] [] := by first | (simp [entryFrame, mkF, argsToLocals, Value.category]; done) | rfl
def Q_rmG_entries (Z : State) (o : Addr) (u : Int32) (h0 : Heap) (n0 : Nat) (v : Option Value) (h : Heap) (L : List Loc) : Prop := v = some (.int u) ∧ Fr n0 L ∧ h = h0
set_option maxRecDepth 65536 in
set_option maxHeartbeats 40000000 in
theorem rmG_entries (l : Launch) (Z : State) (a0 : Array Value) (hw : ∀ d ∈ tables_1, d.before a0 Z = true) (ws : List Jvm.Cond) (o : Addr) (u : Int32) (h0 : Heap) (n0 : Nat) (Z0 : n0 ≤ h0.size) (F_o_entries : Fld Z h0 o "com/example/wedge/wedge/Batch$Limit" "entries" "I" (.int u)) :
    MetFree l (⟨"com/example/wedge/wedge/Batch$Limit", "entries", "()I"⟩ : MethodName) (head1 (Jvm.Cond.code (⟨"com/example/wedge/wedge/Batch$Limit", "entries", "()I"⟩ : MethodName) prog_2_method_5_code 1 (some .int) :: ws) ({ frames := 0, cells := 0, slots := 0, locals := 0 } : Room)) (fun aa U => aa = #[(.ref o)] ∧ Z.Warmed39 U.vm ∧ U.heap = h0) (fun _ _ _ _ _ => True) (fun _ U ou U' => ∃ v L, ou = .returned v ∧ Q_rmG_entries Z o u h0 n0 v U'.heap L ∧ FrameEnd U ou U' L ({ frames := 0, cells := 0, slots := 0, locals := 0 } : Room).cells ({ frames := 0, cells := 0, slots := 0, locals := 0 } : Room).slots) := by
  refine MetFree.of_bodySF (plainFor_of_name pn_7) hisR ?_
  intro p e s m args below meth c s₁ Bd hml0 hP hK
  obtain ⟨rfl, hZ, hh⟩ := hP
  have hx := Bd.exec
  have hby := Bd.bytes
  have hml : c.maxLocals = 1 := hml0
  have hown : s.vm.findClass "com/example/wedge/wedge/Batch$Limit" = some m.cls := findClass_of_methodNamed Bd.named
  have hnm := (name_of_methodNamed Bd.named Bd.method).1
  have X0 : Stand p l e ({ frames := 0, cells := 0, slots := 0, locals := 0 } : Room) s m #[(.ref o)] below meth c s₁ [] 0 0 := Stand.of_body Bd
  have e0 : s₁.heap = h0 := by rw [← hh, Bd.state]; rfl
  have N0 := Fr.nil n0
  have K0 := Keep.refl h0 []
  refine own_as (ef_7 m o) ?_
  show own_Ends p e below s₁ (mkF m 0 #[.val (.ref o)] []) _
  refine own_go (fun _ => XS.aloadN X0.here hx rfl (hb hby d7_0) rfl rfl) ?_
  show own_Ends p e below s₁ (mkF m 1 #[.val (.ref o)] [(.ref o)]) _
  obtain ⟨T1, X1, e1, st1⟩ := getF X0 hx hZ hown (host := "") (Or.inl (hw _ (List.mem_of_getElem? (i := 31) rfl))) Via.refl e0 F_o_entries (g := (mkF m 1 #[.val (.ref o)] [(.ref o)])) rfl rfl (hb hby d7_1)
  refine own_go st1 ?_
  show own_Ends p e below T1 (mkF m 4 #[.val (.ref o)] [(.int u)]) _
  obtain ⟨fs, hr, hrun, hended, hW, hsame⟩ := X1.leave (v := some (.int u)) (fun h => by rw [Bd.returns] at h; cases h)
  refine ⟨_, _, retI X1 hx Bd.returns (hb hby d7_4) hr, hrun, hended, _, _, rfl, ?_, ⟨_, rfl⟩, hW, hsame.mono (by decide) (by decide)⟩
  show Q_rmG_entries Z o u h0 n0 _ T1.heap _
  rw [e1]
  exact ⟨by rfl, N0, rfl⟩
theorem d8_0 : decode prog_2_method_6_code 0 = .ok (.aload_n 0, 1) := by decide +kernel
theorem d8_1 : decode prog_2_method_6_code 1 = .ok (.getfield 13, 3) := by decide +kernel
theorem d8_4 : decode prog_2_method_6_code 4 = .ok (.lreturn, 1) := by decide +kernel
theorem pn_8 : plainName "com/example/wedge/wedge/Batch$Limit" = true := by first | (simp [plainName, overriddenIn]; done) | decide +kernel
theorem ef_8 (m : MethodId) (o : Addr) : entryFrame m #[(.ref o)] 1 = mkF m 0 #[.val (.ref o)] [] := by first | (simp [entryFrame, mkF, argsToLocals, Value.category]; done) | rfl
def Q_rmG_bytes (Z : State) (o : Addr) (u : Int64) (h0 : Heap) (n0 : Nat) (v : Option Value) (h : Heap) (L : List Loc) : Prop := v = some (.long u) ∧ Fr n0 L ∧ h = h0
set_option maxRecDepth 65536 in
set_option maxHeartbeats 40000000 in
theorem rmG_bytes (l : Launch) (Z : State) (a0 : Array Value) (hw : ∀ d ∈ tables_1, d.before a0 Z = true) (ws : List Jvm.Cond) (o : Addr) (u : Int64) (h0 : Heap) (n0 : Nat) (Z0 : n0 ≤ h0.size) (F_o_bytes : Fld Z h0 o "com/example/wedge/wedge/Batch$Limit" "bytes" "J" (.long u)) :
    MetFree l (⟨"com/example/wedge/wedge/Batch$Limit", "bytes", "()J"⟩ : MethodName) (head1 (Jvm.Cond.code (⟨"com/example/wedge/wedge/Batch$Limit", "bytes", "()J"⟩ : MethodName) prog_2_method_6_code 1 (some .long) :: ws) ({ frames := 0, cells := 0, slots := 0, locals := 0 } : Room)) (fun aa U => aa = #[(.ref o)] ∧ Z.Warmed39 U.vm ∧ U.heap = h0) (fun _ _ _ _ _ => True) (fun _ U ou U' => ∃ v L, ou = .returned v ∧ Q_rmG_bytes Z o u h0 n0 v U'.heap L ∧ FrameEnd U ou U' L ({ frames := 0, cells := 0, slots := 0, locals := 0 } : Room).cells ({ frames := 0, cells := 0, slots := 0, locals := 0 } : Room).slots) := by
  refine MetFree.of_bodySF (plainFor_of_name pn_8) hisR ?_
  intro p e s m args below meth c s₁ Bd hml0 hP hK
  obtain ⟨rfl, hZ, hh⟩ := hP
  have hx := Bd.exec
  have hby := Bd.bytes
  have hml : c.maxLocals = 1 := hml0
  have hown : s.vm.findClass "com/example/wedge/wedge/Batch$Limit" = some m.cls := findClass_of_methodNamed Bd.named
  have hnm := (name_of_methodNamed Bd.named Bd.method).1
  have X0 : Stand p l e ({ frames := 0, cells := 0, slots := 0, locals := 0 } : Room) s m #[(.ref o)] below meth c s₁ [] 0 0 := Stand.of_body Bd
  have e0 : s₁.heap = h0 := by rw [← hh, Bd.state]; rfl
  have N0 := Fr.nil n0
  have K0 := Keep.refl h0 []
  refine own_as (ef_8 m o) ?_
  show own_Ends p e below s₁ (mkF m 0 #[.val (.ref o)] []) _
  refine own_go (fun _ => XS.aloadN X0.here hx rfl (hb hby d8_0) rfl rfl) ?_
  show own_Ends p e below s₁ (mkF m 1 #[.val (.ref o)] [(.ref o)]) _
  obtain ⟨T1, X1, e1, st1⟩ := getF X0 hx hZ hown (host := "") (Or.inl (hw _ (List.mem_of_getElem? (i := 33) rfl))) Via.refl e0 F_o_bytes (g := (mkF m 1 #[.val (.ref o)] [(.ref o)])) rfl rfl (hb hby d8_1)
  refine own_go st1 ?_
  show own_Ends p e below T1 (mkF m 4 #[.val (.ref o)] [(.long u)]) _
  obtain ⟨fs, hr, hrun, hended, hW, hsame⟩ := X1.leave (v := some (.long u)) (fun h => by rw [Bd.returns] at h; cases h)
  refine ⟨_, _, retOut X1 hx Bd.returns rfl (Or.inr (Or.inl ⟨rfl, rfl, _, rfl⟩)) (hb hby d8_4) hr, hrun, hended, _, _, rfl, ?_, ⟨_, rfl⟩, hW, hsame.mono (by decide) (by decide)⟩
  show Q_rmG_bytes Z o u h0 n0 _ T1.heap _
  rw [e1]
  exact ⟨by rfl, N0, rfl⟩
theorem d6_0 : decode prog_3_method_4_code 0 = .ok (.aload_n 0, 1) := by decide +kernel
theorem d6_1 : decode prog_3_method_4_code 1 = .ok (.getfield 7, 3) := by decide +kernel
theorem d6_4 : decode prog_3_method_4_code 4 = .ok (.aload_n 1, 1) := by decide +kernel
theorem d6_5 : decode prog_3_method_4_code 5 = .ok (.invokevirtual 16, 3) := by decide +kernel
theorem d6_8 : decode prog_3_method_4_code 8 = .ok (.i2l, 1) := by decide +kernel
theorem d6_9 : decode prog_3_method_4_code 9 = .ok (.lcmp, 1) := by decide +kernel
theorem d6_10 : decode prog_3_method_4_code 10 = .ok (.ifCond .gt 19, 3) := by decide +kernel
theorem d6_13 : decode prog_3_method_4_code 13 = .ok (.aload_n 0, 1) := by decide +kernel
theorem d6_14 : decode prog_3_method_4_code 14 = .ok (.getfield 13, 3) := by decide +kernel
theorem d6_17 : decode prog_3_method_4_code 17 = .ok (.aload_n 1, 1) := by decide +kernel
theorem d6_18 : decode prog_3_method_4_code 18 = .ok (.invokevirtual 21, 3) := by decide +kernel
theorem d6_21 : decode prog_3_method_4_code 21 = .ok (.lcmp, 1) := by decide +kernel
theorem d6_22 : decode prog_3_method_4_code 22 = .ok (.ifCond .gt 7, 3) := by decide +kernel
theorem d6_25 : decode prog_3_method_4_code 25 = .ok (.iconst 1, 1) := by decide +kernel
theorem d6_26 : decode prog_3_method_4_code 26 = .ok (.goto 4, 3) := by decide +kernel
theorem d6_29 : decode prog_3_method_4_code 29 = .ok (.iconst 0, 1) := by decide +kernel
theorem d6_30 : decode prog_3_method_4_code 30 = .ok (.ireturn, 1) := by decide +kernel
theorem pn_6 : plainName "com/example/wedge/wedge/Batch$Size" = true := by first | (simp [plainName, overriddenIn]; done) | decide +kernel
theorem ef_6 (m : MethodId) (o : Addr) (a : Addr) : entryFrame m #[(.ref o), (.ref a)] 2 = mkF m 0 #[.val (.ref o), .val (.ref a)] [] := by first | (simp [entryFrame, mkF, argsToLocals, Value.category]; done) | rfl
def Q_rmWithin (Z : State) (o : Addr) (a : Addr) (en : Int64) (by_ : Int64) (le : Int32) (lb : Int64) (h0 : Heap) (n0 : Nat) (v : Option Value) (h : Heap) (L : List Loc) : Prop := v = some (.int (own_within en by_ le lb)) ∧ Fr n0 L ∧ h = h0
theorem pd_1 : parseMethodDescriptor "()I" = some ⟨[], some .int⟩ := by decide +kernel
theorem pd_2 : parseMethodDescriptor "()J" = some ⟨[], some .long⟩ := by decide +kernel
set_option maxRecDepth 65536 in
set_option maxHeartbeats 40000000 in
theorem rmWithin (l : Launch) (Z : State) (a0 : Array Value) (hw : ∀ d ∈ tables_1, d.before a0 Z = true) (ws : List Jvm.Cond) (o : Addr) (a : Addr) (en : Int64) (by_ : Int64) (le : Int32) (lb : Int64) (h0 : Heap) (n0 : Nat) (Z0 : n0 ≤ h0.size) (F_o_entries : Fld Z h0 o "com/example/wedge/wedge/Batch$Size" "entries" "J" (.long en)) (F_o_bytes : Fld Z h0 o "com/example/wedge/wedge/Batch$Size" "bytes" "J" (.long by_)) (E_a : Exa Z h0 a "com/example/wedge/wedge/Batch$Limit") (F_a_entries : Fld Z h0 a "com/example/wedge/wedge/Batch$Limit" "entries" "I" (.int le)) (F_a_bytes : Fld Z h0 a "com/example/wedge/wedge/Batch$Limit" "bytes" "J" (.long lb)) :
    MetFree l (⟨"com/example/wedge/wedge/Batch$Size", "within", "(Lcom/example/wedge/wedge/Batch$Limit;)Z"⟩ : MethodName) (head1 (Jvm.Cond.code (⟨"com/example/wedge/wedge/Batch$Size", "within", "(Lcom/example/wedge/wedge/Batch$Limit;)Z"⟩ : MethodName) prog_3_method_4_code 2 (some .boolean) :: ws) ({ frames := 1, cells := 0, slots := 0, locals := 14 } : Room)) (fun aa U => aa = #[(.ref o), (.ref a)] ∧ Z.Warmed39 U.vm ∧ U.heap = h0) (fun _ _ _ _ _ => True) (fun _ U ou U' => ∃ v L, ou = .returned v ∧ Q_rmWithin Z o a en by_ le lb h0 n0 v U'.heap L ∧ FrameEnd U ou U' L ({ frames := 1, cells := 0, slots := 0, locals := 14 } : Room).cells ({ frames := 1, cells := 0, slots := 0, locals := 14 } : Room).slots) := by
  refine MetFree.of_bodySF (plainFor_of_name pn_6) hisR ?_
  intro p e s m args below meth c s₁ Bd hml0 hP hK
  obtain ⟨rfl, hZ, hh⟩ := hP
  have hx := Bd.exec
  have hby := Bd.bytes
  have hml : c.maxLocals = 2 := hml0
  have hown : s.vm.findClass "com/example/wedge/wedge/Batch$Size" = some m.cls := findClass_of_methodNamed Bd.named
  have hnm := (name_of_methodNamed Bd.named Bd.method).1
  have X0 : Stand p l e ({ frames := 1, cells := 0, slots := 0, locals := 14 } : Room) s m #[(.ref o), (.ref a)] below meth c s₁ [] 0 0 := Stand.of_body Bd
  have e0 : s₁.heap = h0 := by rw [← hh, Bd.state]; rfl
  have N0 := Fr.nil n0
  have K0 := Keep.refl h0 []
  refine own_as (ef_6 m o a) ?_
  show own_Ends p e below s₁ (mkF m 0 #[.val (.ref o), .val (.ref a)] []) _
  refine own_go (fun _ => XS.aloadN X0.here hx rfl (hb hby d6_0) rfl rfl) ?_
  show own_Ends p e below s₁ (mkF m 1 #[.val (.ref o), .val (.ref a)] [(.ref o)]) _
  obtain ⟨T1, X1, e1, st1⟩ := getF X0 hx hZ hown (host := "") (Or.inl (hw _ (List.mem_of_getElem? (i := 15) rfl))) Via.refl e0 F_o_entries (g := (mkF m 1 #[.val (.ref o), .val (.ref a)] [(.ref o)])) rfl rfl (hb hby d6_1)
  refine own_go st1 ?_
  show own_Ends p e below T1 (mkF m 4 #[.val (.ref o), .val (.ref a)] [(.long en)]) _
  refine own_go (fun _ => XS.aloadN X1.here hx rfl (hb hby d6_4) rfl rfl) ?_
  show own_Ends p e below T1 (mkF m 5 #[.val (.ref o), .val (.ref a)] [(.ref a), (.long en)]) _
  obtain ⟨cq2, kq2, q2a, q2b, q2c⟩ := isOf hZ e1 E_a
  obtain ⟨_, _, ⟨T2, L2, k2, n2⟩, -, X2, ⟨Lc2, hQ2, l2, y2, z2⟩, st2⟩ := X1.virtualBack hx (y := (⟨"com/example/wedge/wedge/Batch$Limit", "entries", "()I"⟩ : MethodName)) (z := (⟨"com/example/wedge/wedge/Batch$Limit", "entries", "()I"⟩ : MethodName)) hown (mvT hZ (hw _ (List.mem_of_getElem? (i := 40) rfl))) (mvT hZ (hw _ (List.mem_of_getElem? (i := 41) rfl))) (notFace_of_selects (args := #[]) (mvT hZ (hw _ (List.mem_of_getElem? (i := 43) rfl)))) (mvT hZ (hw _ (List.mem_of_getElem? (i := 43) rfl))) (mvT hZ (hw _ (List.mem_of_getElem? (i := 42) rfl))) (by decide) (backOf (W := 2) (rmG_entries l Z a0 hw [] a le h0 n0 Z0 F_a_entries) hZ (hw _ (List.mem_of_getElem? (i := 44) rfl)) (hw _ (List.mem_of_getElem? (i := 21) rfl)) (by decide) (by decide)) q2a q2c (g := (mkF m 5 #[.val (.ref o), .val (.ref a)] [(.ref a), (.long en)])) rfl (by rw [hml]; rfl) (Steps.refl _) (argsL := []) (rest := [(.long en)]) (lenOf pd_1 rfl) rfl (by show 2 * 0 + _ ≤ _; exact Nat.le_of_eq rfl) (hb hby d6_5) (fun _ _ => ⟨rfl, e1, (by decide : 0 + 0 ≤ _), (by decide : 0 + 0 ≤ _)⟩)
  dsimp only [Pt.U, Pt.locs, Pt.cells, Pt.slots] at X2 l2 y2 z2 st2 hQ2
  subst l2 y2 z2
  refine own_go (fun _ k => st2.trans k) ?_
  obtain ⟨rfl, N2q, eh2⟩ := hQ2
  have N2 := Fr.app N0 N2q
  show own_Ends p e below T2 (mkF m 8 #[.val (.ref o), .val (.ref a)] [(.int le), (.long en)]) _
  refine own_go (fun _ => XS.i2l X2.here hx rfl (hb hby d6_8) rfl) ?_
  show own_Ends p e below T2 (mkF m 9 #[.val (.ref o), .val (.ref a)] [(.long (le.toInt64)), (.long en)]) _
  refine own_go (fun _ => XS.lcmp X2.here hx rfl (hb hby d6_9) rfl) ?_
  show own_Ends p e below T2 (mkF m 10 #[.val (.ref o), .val (.ref a)] [(.int (lcmpW en (le.toInt64)))]) _
  by_cases hc10 : (le.toInt64) < en
  · refine own_go (fun _ => XS.ifYes X2.here hx rfl (pc0 := 10) (pc' := 29) rfl (hb hby d6_10) rfl ((if0 _ _).trans (tlt ((lw_gt en (le.toInt64)).mpr hc10)).2.2.1) (by decide) (by decide)) ?_
    show own_Ends p e below T2 (mkF m 29 #[.val (.ref o), .val (.ref a)] []) _
    refine own_go (fun _ => XS.iconst X2.here hx rfl (hb hby d6_29)) ?_
    show own_Ends p e below T2 (mkF m 30 #[.val (.ref o), .val (.ref a)] [(.int (0 : Int32))]) _
    obtain ⟨fs, hr, hrun, hended, hW, hsame⟩ := X2.leave (v := some (.int (0 : Int32))) (fun h => by rw [Bd.returns] at h; cases h)
    refine ⟨_, _, retN X2 hx (t := .boolean) Bd.returns (by simp) (hb hby d6_30) hr, hrun, hended, _, _, rfl, ?_, ⟨_, rfl⟩, hW, hsame.mono (by decide) (by decide)⟩
    show Q_rmWithin Z o a en by_ le lb h0 n0 _ T2.heap _
    rw [eh2]
    exact ⟨by unfold own_within; rw [if_pos hc10], N2, rfl⟩
  · refine own_go (fun _ => XS.ifNo X2.here hx rfl (hb hby d6_10) rfl ((if0 _ _).trans (flt (fun q => hc10 ((lw_gt en (le.toInt64)).mp q))).2.2.1)) ?_
    show own_Ends p e below T2 (mkF m 13 #[.val (.ref o), .val (.ref a)] []) _
    refine own_go (fun _ => XS.aloadN X2.here hx rfl (hb hby d6_13) rfl rfl) ?_
    show own_Ends p e below T2 (mkF m 14 #[.val (.ref o), .val (.ref a)] [(.ref o)]) _
    obtain ⟨T3, X3, e3, st3⟩ := getF X2 hx hZ hown (host := "") (Or.inl (hw _ (List.mem_of_getElem? (i := 17) rfl))) Via.refl eh2 F_o_bytes (g := (mkF m 14 #[.val (.ref o), .val (.ref a)] [(.ref o)])) rfl rfl (hb hby d6_14)
    refine own_go st3 ?_
    show own_Ends p e below T3 (mkF m 17 #[.val (.ref o), .val (.ref a)] [(.long by_)]) _
    refine own_go (fun _ => XS.aloadN X3.here hx rfl (hb hby d6_17) rfl rfl) ?_
    show own_Ends p e below T3 (mkF m 18 #[.val (.ref o), .val (.ref a)] [(.ref a), (.long by_)]) _
    obtain ⟨cq4, kq4, q4a, q4b, q4c⟩ := isOf hZ e3 E_a
    obtain ⟨_, _, ⟨T4, L4, k4, n4⟩, -, X4, ⟨Lc4, hQ4, l4, y4, z4⟩, st4⟩ := X3.virtualBack hx (y := (⟨"com/example/wedge/wedge/Batch$Limit", "bytes", "()J"⟩ : MethodName)) (z := (⟨"com/example/wedge/wedge/Batch$Limit", "bytes", "()J"⟩ : MethodName)) hown (mvT hZ (hw _ (List.mem_of_getElem? (i := 45) rfl))) (mvT hZ (hw _ (List.mem_of_getElem? (i := 46) rfl))) (notFace_of_selects (args := #[]) (mvT hZ (hw _ (List.mem_of_getElem? (i := 48) rfl)))) (mvT hZ (hw _ (List.mem_of_getElem? (i := 48) rfl))) (mvT hZ (hw _ (List.mem_of_getElem? (i := 47) rfl))) (by decide) (backOf (W := 2) (rmG_bytes l Z a0 hw [] a lb h0 n0 Z0 F_a_bytes) hZ (hw _ (List.mem_of_getElem? (i := 49) rfl)) (hw _ (List.mem_of_getElem? (i := 21) rfl)) (by decide) (by decide)) q4a q4c (g := (mkF m 18 #[.val (.ref o), .val (.ref a)] [(.ref a), (.long by_)])) rfl (by rw [hml]; rfl) (Steps.refl _) (argsL := []) (rest := [(.long by_)]) (lenOf pd_2 rfl) rfl (by show 2 * 0 + _ ≤ _; exact Nat.le_of_eq rfl) (hb hby d6_18) (fun _ _ => ⟨rfl, e3, (by decide : 0 + 0 ≤ _), (by decide : 0 + 0 ≤ _)⟩)
    dsimp only [Pt.U, Pt.locs, Pt.cells, Pt.slots] at X4 l4 y4 z4 st4 hQ4
    subst l4 y4 z4
    refine own_go (fun _ k => st4.trans k) ?_
    obtain ⟨rfl, N4q, eh4⟩ := hQ4
    have N4 := Fr.app N2 N4q
    show own_Ends p e below T4 (mkF m 21 #[.val (.ref o), .val (.ref a)] [(.long lb), (.long by_)]) _
    refine own_go (fun _ => XS.lcmp X4.here hx rfl (hb hby d6_21) rfl) ?_
    show own_Ends p e below T4 (mkF m 22 #[.val (.ref o), .val (.ref a)] [(.int (lcmpW by_ lb))]) _
    by_cases hc22 : lb < by_
    · refine own_go (fun _ => XS.ifYes X4.here hx rfl (pc0 := 22) (pc' := 29) rfl (hb hby d6_22) rfl ((if0 _ _).trans (tlt ((lw_gt by_ lb).mpr hc22)).2.2.1) (by decide) (by decide)) ?_
      show own_Ends p e below T4 (mkF m 29 #[.val (.ref o), .val (.ref a)] []) _
      refine own_go (fun _ => XS.iconst X4.here hx rfl (hb hby d6_29)) ?_
      show own_Ends p e below T4 (mkF m 30 #[.val (.ref o), .val (.ref a)] [(.int (0 : Int32))]) _
      obtain ⟨fs, hr, hrun, hended, hW, hsame⟩ := X4.leave (v := some (.int (0 : Int32))) (fun h => by rw [Bd.returns] at h; cases h)
      refine ⟨_, _, retN X4 hx (t := .boolean) Bd.returns (by simp) (hb hby d6_30) hr, hrun, hended, _, _, rfl, ?_, ⟨_, rfl⟩, hW, hsame.mono (by decide) (by decide)⟩
      show Q_rmWithin Z o a en by_ le lb h0 n0 _ T4.heap _
      rw [eh4]
      exact ⟨by unfold own_within; rw [if_neg hc10, if_pos hc22], N4, rfl⟩
    · refine own_go (fun _ => XS.ifNo X4.here hx rfl (hb hby d6_22) rfl ((if0 _ _).trans (flt (fun q => hc22 ((lw_gt by_ lb).mp q))).2.2.1)) ?_
      show own_Ends p e below T4 (mkF m 25 #[.val (.ref o), .val (.ref a)] []) _
      refine own_go (fun _ => XS.iconst X4.here hx rfl (hb hby d6_25)) ?_
      show own_Ends p e below T4 (mkF m 26 #[.val (.ref o), .val (.ref a)] [(.int (1 : Int32))]) _
      refine own_go (fun _ => XS.goto X4.here hx rfl (pc0 := 26) (pc' := 30) rfl (hb hby d6_26) (by decide) (by decide)) ?_
      show own_Ends p e below T4 (mkF m 30 #[.val (.ref o), .val (.ref a)] [(.int (1 : Int32))]) _
      obtain ⟨fs, hr, hrun, hended, hW, hsame⟩ := X4.leave (v := some (.int (1 : Int32))) (fun h => by rw [Bd.returns] at h; cases h)
      refine ⟨_, _, retN X4 hx (t := .boolean) Bd.returns (by simp) (hb hby d6_30) hr, hrun, hended, _, _, rfl, ?_, ⟨_, rfl⟩, hW, hsame.mono (by decide) (by decide)⟩
      show Q_rmWithin Z o a en by_ le lb h0 n0 _ T4.heap _
      rw [eh4]
      exact ⟨by unfold own_within; rw [if_neg hc10, if_neg hc22], N4, rfl⟩
theorem d3_0 : decode prog_3_method_2_code 0 = .ok (.aload_n 0, 1) := by decide +kernel
theorem d3_1 : decode prog_3_method_2_code 1 = .ok (.dup, 1) := by decide +kernel
theorem d3_2 : decode prog_3_method_2_code 2 = .ok (.getfield 7, 3) := by decide +kernel
theorem d3_5 : decode prog_3_method_2_code 5 = .ok (.lconst 1, 1) := by decide +kernel
theorem d3_6 : decode prog_3_method_2_code 6 = .ok (.ladd, 1) := by decide +kernel
theorem d3_7 : decode prog_3_method_2_code 7 = .ok (.putfield 7, 3) := by decide +kernel
theorem d3_10 : decode prog_3_method_2_code 10 = .ok (.aload_n 0, 1) := by decide +kernel
theorem d3_11 : decode prog_3_method_2_code 11 = .ok (.dup, 1) := by decide +kernel
theorem d3_12 : decode prog_3_method_2_code 12 = .ok (.getfield 13, 3) := by decide +kernel
theorem d3_15 : decode prog_3_method_2_code 15 = .ok (.aload_n 1, 1) := by decide +kernel
theorem d3_16 : decode prog_3_method_2_code 16 = .ok (.arraylength, 1) := by decide +kernel
theorem d3_17 : decode prog_3_method_2_code 17 = .ok (.aload_n 2, 1) := by decide +kernel
theorem d3_18 : decode prog_3_method_2_code 18 = .ok (.ifnonnull 7, 3) := by decide +kernel
theorem d3_21 : decode prog_3_method_2_code 21 = .ok (.iconst 0, 1) := by decide +kernel
theorem d3_22 : decode prog_3_method_2_code 22 = .ok (.goto 5, 3) := by decide +kernel
theorem d3_25 : decode prog_3_method_2_code 25 = .ok (.aload_n 2, 1) := by decide +kernel
theorem d3_26 : decode prog_3_method_2_code 26 = .ok (.arraylength, 1) := by decide +kernel
theorem d3_27 : decode prog_3_method_2_code 27 = .ok (.iadd, 1) := by decide +kernel
theorem d3_28 : decode prog_3_method_2_code 28 = .ok (.i2l, 1) := by decide +kernel
theorem d3_29 : decode prog_3_method_2_code 29 = .ok (.ladd, 1) := by decide +kernel
theorem d3_30 : decode prog_3_method_2_code 30 = .ok (.putfield 13, 3) := by decide +kernel
theorem d3_33 : decode prog_3_method_2_code 33 = .ok (.return_, 1) := by decide +kernel
theorem pn_3 : plainName "com/example/wedge/wedge/Batch$Size" = true := by first | (simp [plainName, overriddenIn]; done) | decide +kernel
theorem ef_3n (m : MethodId) (o : Addr) (a : Addr) : entryFrame m #[(.ref o), (.ref a), .null] 3 = mkF m 0 #[.val (.ref o), .val (.ref a), .val .null] [] := by first | (simp [entryFrame, mkF, argsToLocals, Value.category]; done) | rfl
def Q_rmAddn (Z : State) (o : Addr) (a : Addr) (en : Int64) (by_ : Int64) (n_a : Int32) (h0 : Heap) (n0 : Nat) (v : Option Value) (h : Heap) (L : List Loc) : Prop := v = none ∧ Fr n0 L ∧ Keep h0 h [o] ∧ Exa Z h o "com/example/wedge/wedge/Batch$Size" ∧ Fld Z h o "com/example/wedge/wedge/Batch$Size" "entries" "J" (.long (en + (1 : Int64))) ∧ Fld Z h o "com/example/wedge/wedge/Batch$Size" "bytes" "J" (.long (by_ + ((n_a + (0 : Int32)).toInt64)))
set_option maxRecDepth 65536 in
set_option maxHeartbeats 40000000 in
theorem rmAddn (l : Launch) (Z : State) (a0 : Array Value) (hw : ∀ d ∈ tables_1, d.before a0 Z = true) (ws : List Jvm.Cond) (o : Addr) (a : Addr) (en : Int64) (by_ : Int64) (n_a : Int32) (h0 : Heap) (n0 : Nat) (Z0 : n0 ≤ h0.size) (E_o : Exa Z h0 o "com/example/wedge/wedge/Batch$Size") (F_o_entries : Fld Z h0 o "com/example/wedge/wedge/Batch$Size" "entries" "J" (.long en)) (F_o_bytes : Fld Z h0 o "com/example/wedge/wedge/Batch$Size" "bytes" "J" (.long by_)) (g_o : n0 ≤ o) (B_a : own_Len Z h0 a .byte n_a) (ne_a_o : a ≠ o) :
    MetFree l (⟨"com/example/wedge/wedge/Batch$Size", "add", "([B[B)V"⟩ : MethodName) (head1 (Jvm.Cond.code (⟨"com/example/wedge/wedge/Batch$Size", "add", "([B[B)V"⟩ : MethodName) prog_3_method_2_code 3 none :: ws) ({ frames := 0, cells := 0, slots := 0, locals := 0 } : Room)) (fun aa U => aa = #[(.ref o), (.ref a), .null] ∧ Z.Warmed39 U.vm ∧ U.heap = h0) (fun _ _ _ _ _ => True) (fun _ U ou U' => ∃ v L, ou = .returned v ∧ Q_rmAddn Z o a en by_ n_a h0 n0 v U'.heap L ∧ FrameEnd U ou U' L ({ frames := 0, cells := 0, slots := 0, locals := 0 } : Room).cells ({ frames := 0, cells := 0, slots := 0, locals := 0 } : Room).slots) := by
  refine MetFree.of_bodySF (plainFor_of_name pn_3) hisR ?_
  intro p e s m args below meth c s₁ Bd hml0 hP hK
  obtain ⟨rfl, hZ, hh⟩ := hP
  have hx := Bd.exec
  have hby := Bd.bytes
  have hml : c.maxLocals = 3 := hml0
  have hown : s.vm.findClass "com/example/wedge/wedge/Batch$Size" = some m.cls := findClass_of_methodNamed Bd.named
  have hnm := (name_of_methodNamed Bd.named Bd.method).1
  have X0 : Stand p l e ({ frames := 0, cells := 0, slots := 0, locals := 0 } : Room) s m #[(.ref o), (.ref a), .null] below meth c s₁ [] 0 0 := Stand.of_body Bd
  have e0 : s₁.heap = h0 := by rw [← hh, Bd.state]; rfl
  have N0 := Fr.nil n0
  have K0 := Keep.refl h0 [o]
  refine own_as (ef_3n m o a) ?_
  show own_Ends p e below s₁ (mkF m 0 #[.val (.ref o), .val (.ref a), .val .null] []) _
  refine own_go (fun _ => XS.aloadN X0.here hx rfl (hb hby d3_0) rfl rfl) ?_
  show own_Ends p e below s₁ (mkF m 1 #[.val (.ref o), .val (.ref a), .val .null] [(.ref o)]) _
  refine own_go (fun _ => XS.dup X0.here hx rfl (hb hby d3_1) rfl rfl) ?_
  show own_Ends p e below s₁ (mkF m 2 #[.val (.ref o), .val (.ref a), .val .null] [(.ref o), (.ref o)]) _
  obtain ⟨T1, X1, e1, st1⟩ := getF X0 hx hZ hown (host := "") (Or.inl (hw _ (List.mem_of_getElem? (i := 15) rfl))) Via.refl e0 F_o_entries (g := (mkF m 2 #[.val (.ref o), .val (.ref a), .val .null] [(.ref o), (.ref o)])) rfl rfl (hb hby d3_2)
  refine own_go st1 ?_
  show own_Ends p e below T1 (mkF m 5 #[.val (.ref o), .val (.ref a), .val .null] [(.long en), (.ref o)]) _
  refine own_go (fun _ => XS.lconst X1.here hx rfl (hb hby d3_5)) ?_
  show own_Ends p e below T1 (mkF m 6 #[.val (.ref o), .val (.ref a), .val .null] [(.long (1 : Int64)), (.long en), (.ref o)]) _
  refine own_go (fun _ => XS.ladd X1.here hx rfl (hb hby d3_6) rfl) ?_
  show own_Ends p e below T1 (mkF m 7 #[.val (.ref o), .val (.ref a), .val .null] [(.long (en + (1 : Int64))), (.ref o)]) _
  obtain ⟨T2, h2, X2, e2, W2, st2⟩ := putF X1 hx hZ hown (host := "") (Or.inl (hw _ (List.mem_of_getElem? (i := 15) rfl))) Via.refl e1 F_o_entries E_o (Or.inl (hw _ (List.mem_of_getElem? (i := 16) rfl))) (hw _ (List.mem_of_getElem? (i := 2) rfl)) (ty := .long) (by decide) rfl rfl (g := (mkF m 7 #[.val (.ref o), .val (.ref a), .val .null] [(.long (en + (1 : Int64))), (.ref o)])) rfl rfl (hb hby d3_7)
  refine own_go st2 ?_
  replace F_o_entries := F_o_entries.same W2
  replace E_o := E_o.wr W2
  replace F_o_bytes := F_o_bytes.other W2 (Or.inr (slot_ne (Or.inl (hw _ (List.mem_of_getElem? (i := 18) rfl))) (Or.inl (hw _ (List.mem_of_getElem? (i := 16) rfl))) (by decide) (t := .long) (t' := .long) (by decide) (by decide)))
  replace B_a := B_a.other W2 ne_a_o
  have N2 := Fr.snoc X2 N0 g_o
  have K2 := K0.wr W2 (Or.inl (List.mem_of_getElem? (i := 0) rfl))
  have Z2 : n0 ≤ h2.size := Nat.le_trans Z0 K2.1
  show own_Ends p e below T2 (mkF m 10 #[.val (.ref o), .val (.ref a), .val .null] []) _
  refine own_go (fun _ => XS.aloadN X2.here hx rfl (hb hby d3_10) rfl rfl) ?_
  show own_Ends p e below T2 (mkF m 11 #[.val (.ref o), .val (.ref a), .val .null] [(.ref o)]) _
  refine own_go (fun _ => XS.dup X2.here hx rfl (hb hby d3_11) rfl rfl) ?_
  show own_Ends p e below T2 (mkF m 12 #[.val (.ref o), .val (.ref a), .val .null] [(.ref o), (.ref o)]) _
  obtain ⟨T3, X3, e3, st3⟩ := getF X2 hx hZ hown (host := "") (Or.inl (hw _ (List.mem_of_getElem? (i := 17) rfl))) Via.refl e2 F_o_bytes (g := (mkF m 12 #[.val (.ref o), .val (.ref a), .val .null] [(.ref o), (.ref o)])) rfl rfl (hb hby d3_12)
  refine own_go st3 ?_
  show own_Ends p e below T3 (mkF m 15 #[.val (.ref o), .val (.ref a), .val .null] [(.long by_), (.ref o)]) _
  refine own_go (fun _ => XS.aloadN X3.here hx rfl (hb hby d3_15) rfl rfl) ?_
  show own_Ends p e below T3 (mkF m 16 #[.val (.ref o), .val (.ref a), .val .null] [(.ref a), (.long by_), (.ref o)]) _
  obtain ⟨cl_4, Ar_4, S_4, M_4⟩ := id B_a
  refine own_go (X3.arraylength hx (by rw [e3]; exact Ar_4.1) (State.isArrayOf_alike hZ.alike Ar_4.2.1) (g := (mkF m 16 #[.val (.ref o), .val (.ref a), .val .null] [(.ref a), (.long by_), (.ref o)])) rfl rfl (hb hby d3_16)) ?_
  rw [len_of S_4 M_4]
  show own_Ends p e below T3 (mkF m 17 #[.val (.ref o), .val (.ref a), .val .null] [(.int n_a), (.long by_), (.ref o)]) _
  refine own_go (fun _ => XS.aloadN X3.here hx rfl (hb hby d3_17) rfl rfl) ?_
  show own_Ends p e below T3 (mkF m 18 #[.val (.ref o), .val (.ref a), .val .null] [.null, (.int n_a), (.long by_), (.ref o)]) _
  refine own_go (fun _ => XS.ifnonnullNo X3.here hx rfl (hb hby d3_18) rfl) ?_
  show own_Ends p e below T3 (mkF m 21 #[.val (.ref o), .val (.ref a), .val .null] [(.int n_a), (.long by_), (.ref o)]) _
  refine own_go (fun _ => XS.iconst X3.here hx rfl (hb hby d3_21)) ?_
  show own_Ends p e below T3 (mkF m 22 #[.val (.ref o), .val (.ref a), .val .null] [(.int (0 : Int32)), (.int n_a), (.long by_), (.ref o)]) _
  refine own_go (fun _ => XS.goto X3.here hx rfl (pc0 := 22) (pc' := 27) rfl (hb hby d3_22) (by decide) (by decide)) ?_
  show own_Ends p e below T3 (mkF m 27 #[.val (.ref o), .val (.ref a), .val .null] [(.int (0 : Int32)), (.int n_a), (.long by_), (.ref o)]) _
  refine own_go (fun _ => XS.iadd X3.here hx rfl (hb hby d3_27) rfl) ?_
  show own_Ends p e below T3 (mkF m 28 #[.val (.ref o), .val (.ref a), .val .null] [(.int (n_a + (0 : Int32))), (.long by_), (.ref o)]) _
  refine own_go (fun _ => XS.i2l X3.here hx rfl (hb hby d3_28) rfl) ?_
  show own_Ends p e below T3 (mkF m 29 #[.val (.ref o), .val (.ref a), .val .null] [(.long ((n_a + (0 : Int32)).toInt64)), (.long by_), (.ref o)]) _
  refine own_go (fun _ => XS.ladd X3.here hx rfl (hb hby d3_29) rfl) ?_
  show own_Ends p e below T3 (mkF m 30 #[.val (.ref o), .val (.ref a), .val .null] [(.long (by_ + ((n_a + (0 : Int32)).toInt64))), (.ref o)]) _
  obtain ⟨T5, h5, X5, e5, W5, st5⟩ := putF X3 hx hZ hown (host := "") (Or.inl (hw _ (List.mem_of_getElem? (i := 17) rfl))) Via.refl e3 F_o_bytes E_o (Or.inl (hw _ (List.mem_of_getElem? (i := 18) rfl))) (hw _ (List.mem_of_getElem? (i := 2) rfl)) (ty := .long) (by decide) rfl rfl (g := (mkF m 30 #[.val (.ref o), .val (.ref a), .val .null] [(.long (by_ + ((n_a + (0 : Int32)).toInt64))), (.ref o)])) rfl rfl (hb hby d3_30)
  refine own_go st5 ?_
  replace F_o_bytes := F_o_bytes.same W5
  replace E_o := E_o.wr W5
  replace F_o_entries := F_o_entries.other W5 (Or.inr (slot_ne (Or.inl (hw _ (List.mem_of_getElem? (i := 16) rfl))) (Or.inl (hw _ (List.mem_of_getElem? (i := 18) rfl))) (by decide) (t := .long) (t' := .long) (by decide) (by decide)))
  replace B_a := B_a.other W5 ne_a_o
  have N5 := Fr.snoc X5 N2 g_o
  have K5 := K2.wr W5 (Or.inl (List.mem_of_getElem? (i := 0) rfl))
  have Z5 : n0 ≤ h5.size := Nat.le_trans Z0 K5.1
  show own_Ends p e below T5 (mkF m 33 #[.val (.ref o), .val (.ref a), .val .null] []) _
  obtain ⟨fs, hr, hrun, hended, hW, hsame⟩ := X5.leave (v := none) (fun _ => rfl)
  refine ⟨_, _, X5.returnOut hx Bd.returns (hb hby d3_33) hr, hrun, hended, _, _, rfl, ?_, ⟨_, rfl⟩, hW, hsame.mono (by decide) (by decide)⟩
  show Q_rmAddn Z o a en by_ n_a h0 n0 _ T5.heap _
  rw [e5]
  exact ⟨rfl, N5, K5, E_o, F_o_entries, F_o_bytes⟩
theorem ef_3r (m : MethodId) (o : Addr) (a : Addr) (b : Addr) : entryFrame m #[(.ref o), (.ref a), (.ref b)] 3 = mkF m 0 #[.val (.ref o), .val (.ref a), .val (.ref b)] [] := by first | (simp [entryFrame, mkF, argsToLocals, Value.category]; done) | rfl
def Q_rmAddr (Z : State) (o : Addr) (a : Addr) (b : Addr) (en : Int64) (by_ : Int64) (n_a : Int32) (n_b : Int32) (h0 : Heap) (n0 : Nat) (v : Option Value) (h : Heap) (L : List Loc) : Prop := v = none ∧ Fr n0 L ∧ Keep h0 h [o] ∧ Exa Z h o "com/example/wedge/wedge/Batch$Size" ∧ Fld Z h o "com/example/wedge/wedge/Batch$Size" "entries" "J" (.long (en + (1 : Int64))) ∧ Fld Z h o "com/example/wedge/wedge/Batch$Size" "bytes" "J" (.long (by_ + ((n_a + n_b).toInt64)))
set_option maxRecDepth 65536 in
set_option maxHeartbeats 40000000 in
theorem rmAddr (l : Launch) (Z : State) (a0 : Array Value) (hw : ∀ d ∈ tables_1, d.before a0 Z = true) (ws : List Jvm.Cond) (o : Addr) (a : Addr) (b : Addr) (en : Int64) (by_ : Int64) (n_a : Int32) (n_b : Int32) (h0 : Heap) (n0 : Nat) (Z0 : n0 ≤ h0.size) (E_o : Exa Z h0 o "com/example/wedge/wedge/Batch$Size") (F_o_entries : Fld Z h0 o "com/example/wedge/wedge/Batch$Size" "entries" "J" (.long en)) (F_o_bytes : Fld Z h0 o "com/example/wedge/wedge/Batch$Size" "bytes" "J" (.long by_)) (g_o : n0 ≤ o) (B_a : own_Len Z h0 a .byte n_a) (B_b : own_Len Z h0 b .byte n_b) (ne_a_o : a ≠ o) (ne_b_o : b ≠ o) :
    MetFree l (⟨"com/example/wedge/wedge/Batch$Size", "add", "([B[B)V"⟩ : MethodName) (head1 (Jvm.Cond.code (⟨"com/example/wedge/wedge/Batch$Size", "add", "([B[B)V"⟩ : MethodName) prog_3_method_2_code 3 none :: ws) ({ frames := 0, cells := 0, slots := 0, locals := 0 } : Room)) (fun aa U => aa = #[(.ref o), (.ref a), (.ref b)] ∧ Z.Warmed39 U.vm ∧ U.heap = h0) (fun _ _ _ _ _ => True) (fun _ U ou U' => ∃ v L, ou = .returned v ∧ Q_rmAddr Z o a b en by_ n_a n_b h0 n0 v U'.heap L ∧ FrameEnd U ou U' L ({ frames := 0, cells := 0, slots := 0, locals := 0 } : Room).cells ({ frames := 0, cells := 0, slots := 0, locals := 0 } : Room).slots) := by
  refine MetFree.of_bodySF (plainFor_of_name pn_3) hisR ?_
  intro p e s m args below meth c s₁ Bd hml0 hP hK
  obtain ⟨rfl, hZ, hh⟩ := hP
  have hx := Bd.exec
  have hby := Bd.bytes
  have hml : c.maxLocals = 3 := hml0
  have hown : s.vm.findClass "com/example/wedge/wedge/Batch$Size" = some m.cls := findClass_of_methodNamed Bd.named
  have hnm := (name_of_methodNamed Bd.named Bd.method).1
  have X0 : Stand p l e ({ frames := 0, cells := 0, slots := 0, locals := 0 } : Room) s m #[(.ref o), (.ref a), (.ref b)] below meth c s₁ [] 0 0 := Stand.of_body Bd
  have e0 : s₁.heap = h0 := by rw [← hh, Bd.state]; rfl
  have N0 := Fr.nil n0
  have K0 := Keep.refl h0 [o]
  refine own_as (ef_3r m o a b) ?_
  show own_Ends p e below s₁ (mkF m 0 #[.val (.ref o), .val (.ref a), .val (.ref b)] []) _
  refine own_go (fun _ => XS.aloadN X0.here hx rfl (hb hby d3_0) rfl rfl) ?_
  show own_Ends p e below s₁ (mkF m 1 #[.val (.ref o), .val (.ref a), .val (.ref b)] [(.ref o)]) _
  refine own_go (fun _ => XS.dup X0.here hx rfl (hb hby d3_1) rfl rfl) ?_
  show own_Ends p e below s₁ (mkF m 2 #[.val (.ref o), .val (.ref a), .val (.ref b)] [(.ref o), (.ref o)]) _
  obtain ⟨T1, X1, e1, st1⟩ := getF X0 hx hZ hown (host := "") (Or.inl (hw _ (List.mem_of_getElem? (i := 15) rfl))) Via.refl e0 F_o_entries (g := (mkF m 2 #[.val (.ref o), .val (.ref a), .val (.ref b)] [(.ref o), (.ref o)])) rfl rfl (hb hby d3_2)
  refine own_go st1 ?_
  show own_Ends p e below T1 (mkF m 5 #[.val (.ref o), .val (.ref a), .val (.ref b)] [(.long en), (.ref o)]) _
  refine own_go (fun _ => XS.lconst X1.here hx rfl (hb hby d3_5)) ?_
  show own_Ends p e below T1 (mkF m 6 #[.val (.ref o), .val (.ref a), .val (.ref b)] [(.long (1 : Int64)), (.long en), (.ref o)]) _
  refine own_go (fun _ => XS.ladd X1.here hx rfl (hb hby d3_6) rfl) ?_
  show own_Ends p e below T1 (mkF m 7 #[.val (.ref o), .val (.ref a), .val (.ref b)] [(.long (en + (1 : Int64))), (.ref o)]) _
  obtain ⟨T2, h2, X2, e2, W2, st2⟩ := putF X1 hx hZ hown (host := "") (Or.inl (hw _ (List.mem_of_getElem? (i := 15) rfl))) Via.refl e1 F_o_entries E_o (Or.inl (hw _ (List.mem_of_getElem? (i := 16) rfl))) (hw _ (List.mem_of_getElem? (i := 2) rfl)) (ty := .long) (by decide) rfl rfl (g := (mkF m 7 #[.val (.ref o), .val (.ref a), .val (.ref b)] [(.long (en + (1 : Int64))), (.ref o)])) rfl rfl (hb hby d3_7)
  refine own_go st2 ?_
  replace F_o_entries := F_o_entries.same W2
  replace E_o := E_o.wr W2
  replace F_o_bytes := F_o_bytes.other W2 (Or.inr (slot_ne (Or.inl (hw _ (List.mem_of_getElem? (i := 18) rfl))) (Or.inl (hw _ (List.mem_of_getElem? (i := 16) rfl))) (by decide) (t := .long) (t' := .long) (by decide) (by decide)))
  replace B_a := B_a.other W2 ne_a_o
  replace B_b := B_b.other W2 ne_b_o
  have N2 := Fr.snoc X2 N0 g_o
  have K2 := K0.wr W2 (Or.inl (List.mem_of_getElem? (i := 0) rfl))
  have Z2 : n0 ≤ h2.size := Nat.le_trans Z0 K2.1
  show own_Ends p e below T2 (mkF m 10 #[.val (.ref o), .val (.ref a), .val (.ref b)] []) _
  refine own_go (fun _ => XS.aloadN X2.here hx rfl (hb hby d3_10) rfl rfl) ?_
  show own_Ends p e below T2 (mkF m 11 #[.val (.ref o), .val (.ref a), .val (.ref b)] [(.ref o)]) _
  refine own_go (fun _ => XS.dup X2.here hx rfl (hb hby d3_11) rfl rfl) ?_
  show own_Ends p e below T2 (mkF m 12 #[.val (.ref o), .val (.ref a), .val (.ref b)] [(.ref o), (.ref o)]) _
  obtain ⟨T3, X3, e3, st3⟩ := getF X2 hx hZ hown (host := "") (Or.inl (hw _ (List.mem_of_getElem? (i := 17) rfl))) Via.refl e2 F_o_bytes (g := (mkF m 12 #[.val (.ref o), .val (.ref a), .val (.ref b)] [(.ref o), (.ref o)])) rfl rfl (hb hby d3_12)
  refine own_go st3 ?_
  show own_Ends p e below T3 (mkF m 15 #[.val (.ref o), .val (.ref a), .val (.ref b)] [(.long by_), (.ref o)]) _
  refine own_go (fun _ => XS.aloadN X3.here hx rfl (hb hby d3_15) rfl rfl) ?_
  show own_Ends p e below T3 (mkF m 16 #[.val (.ref o), .val (.ref a), .val (.ref b)] [(.ref a), (.long by_), (.ref o)]) _
  obtain ⟨cl_4, Ar_4, S_4, M_4⟩ := id B_a
  refine own_go (X3.arraylength hx (by rw [e3]; exact Ar_4.1) (State.isArrayOf_alike hZ.alike Ar_4.2.1) (g := (mkF m 16 #[.val (.ref o), .val (.ref a), .val (.ref b)] [(.ref a), (.long by_), (.ref o)])) rfl rfl (hb hby d3_16)) ?_
  rw [len_of S_4 M_4]
  show own_Ends p e below T3 (mkF m 17 #[.val (.ref o), .val (.ref a), .val (.ref b)] [(.int n_a), (.long by_), (.ref o)]) _
  refine own_go (fun _ => XS.aloadN X3.here hx rfl (hb hby d3_17) rfl rfl) ?_
  show own_Ends p e below T3 (mkF m 18 #[.val (.ref o), .val (.ref a), .val (.ref b)] [(.ref b), (.int n_a), (.long by_), (.ref o)]) _
  refine own_go (fun _ => XS.ifnonnullYes X3.here hx rfl (pc0 := 18) (pc' := 25) rfl (hb hby d3_18) rfl (by decide) (by decide)) ?_
  show own_Ends p e below T3 (mkF m 25 #[.val (.ref o), .val (.ref a), .val (.ref b)] [(.int n_a), (.long by_), (.ref o)]) _
  refine own_go (fun _ => XS.aloadN X3.here hx rfl (hb hby d3_25) rfl rfl) ?_
  show own_Ends p e below T3 (mkF m 26 #[.val (.ref o), .val (.ref a), .val (.ref b)] [(.ref b), (.int n_a), (.long by_), (.ref o)]) _
  obtain ⟨cl_5, Ar_5, S_5, M_5⟩ := id B_b
  refine own_go (X3.arraylength hx (by rw [e3]; exact Ar_5.1) (State.isArrayOf_alike hZ.alike Ar_5.2.1) (g := (mkF m 26 #[.val (.ref o), .val (.ref a), .val (.ref b)] [(.ref b), (.int n_a), (.long by_), (.ref o)])) rfl rfl (hb hby d3_26)) ?_
  rw [len_of S_5 M_5]
  show own_Ends p e below T3 (mkF m 27 #[.val (.ref o), .val (.ref a), .val (.ref b)] [(.int n_b), (.int n_a), (.long by_), (.ref o)]) _
  refine own_go (fun _ => XS.iadd X3.here hx rfl (hb hby d3_27) rfl) ?_
  show own_Ends p e below T3 (mkF m 28 #[.val (.ref o), .val (.ref a), .val (.ref b)] [(.int (n_a + n_b)), (.long by_), (.ref o)]) _
  refine own_go (fun _ => XS.i2l X3.here hx rfl (hb hby d3_28) rfl) ?_
  show own_Ends p e below T3 (mkF m 29 #[.val (.ref o), .val (.ref a), .val (.ref b)] [(.long ((n_a + n_b).toInt64)), (.long by_), (.ref o)]) _
  refine own_go (fun _ => XS.ladd X3.here hx rfl (hb hby d3_29) rfl) ?_
  show own_Ends p e below T3 (mkF m 30 #[.val (.ref o), .val (.ref a), .val (.ref b)] [(.long (by_ + ((n_a + n_b).toInt64))), (.ref o)]) _
  obtain ⟨T6, h6, X6, e6, W6, st6⟩ := putF X3 hx hZ hown (host := "") (Or.inl (hw _ (List.mem_of_getElem? (i := 17) rfl))) Via.refl e3 F_o_bytes E_o (Or.inl (hw _ (List.mem_of_getElem? (i := 18) rfl))) (hw _ (List.mem_of_getElem? (i := 2) rfl)) (ty := .long) (by decide) rfl rfl (g := (mkF m 30 #[.val (.ref o), .val (.ref a), .val (.ref b)] [(.long (by_ + ((n_a + n_b).toInt64))), (.ref o)])) rfl rfl (hb hby d3_30)
  refine own_go st6 ?_
  replace F_o_bytes := F_o_bytes.same W6
  replace E_o := E_o.wr W6
  replace F_o_entries := F_o_entries.other W6 (Or.inr (slot_ne (Or.inl (hw _ (List.mem_of_getElem? (i := 16) rfl))) (Or.inl (hw _ (List.mem_of_getElem? (i := 18) rfl))) (by decide) (t := .long) (t' := .long) (by decide) (by decide)))
  replace B_a := B_a.other W6 ne_a_o
  replace B_b := B_b.other W6 ne_b_o
  have N6 := Fr.snoc X6 N2 g_o
  have K6 := K2.wr W6 (Or.inl (List.mem_of_getElem? (i := 0) rfl))
  have Z6 : n0 ≤ h6.size := Nat.le_trans Z0 K6.1
  show own_Ends p e below T6 (mkF m 33 #[.val (.ref o), .val (.ref a), .val (.ref b)] []) _
  obtain ⟨fs, hr, hrun, hended, hW, hsame⟩ := X6.leave (v := none) (fun _ => rfl)
  refine ⟨_, _, X6.returnOut hx Bd.returns (hb hby d3_33) hr, hrun, hended, _, _, rfl, ?_, ⟨_, rfl⟩, hW, hsame.mono (by decide) (by decide)⟩
  show Q_rmAddr Z o a b en by_ n_a n_b h0 n0 _ T6.heap _
  rw [e6]
  exact ⟨rfl, N6, K6, E_o, F_o_entries, F_o_bytes⟩
theorem pn_0 : plainName "com/example/wedge/wedge/SizeAddPinLaw" = true := by first | (simp [plainName, overriddenIn]; done) | decide +kernel
theorem ef_0 (m : MethodId) (p0 : Int32) (p1 : Int32) (p2 : Int32) (p3 : Int32) (p4 : Int32) : entryFrame m #[(.int p0), (.int p1), (.int p2), (.int p3), (.int p4)] maxLocals = mkF m 0 #[.val (.int p0), .val (.int p1), .val (.int p2), .val (.int p3), .val (.int p4), .unset, .unset, .unset, .unset, .unset, .unset, .unset, .unset, .unset, .unset, .unset, .unset, .unset, .unset, .unset, .unset, .unset, .unset, .unset, .unset] [] := by first | (simp [entryFrame, mkF, argsToLocals, Value.category, maxLocals]; done) | rfl
def Q_rm0 (Z : State) (p0 : Int32) (p1 : Int32) (p2 : Int32) (p3 : Int32) (p4 : Int32) (h0 : Heap) (n0 : Nat) (v : Option Value) (h : Heap) (L : List Loc) : Prop := v = some (.int 1) ∧ Fr n0 L
theorem pd_3 : parseMethodDescriptor "([B[B)V" = some ⟨[(.array .byte), (.array .byte)], none⟩ := by decide +kernel
theorem pd_4 : parseMethodDescriptor "(IJ)V" = some ⟨[.int, .long], none⟩ := by decide +kernel
theorem pd_5 : parseMethodDescriptor "(Lcom/example/wedge/wedge/Batch$Limit;)Z" = some ⟨[(.object "com/example/wedge/wedge/Batch$Limit")], some .boolean⟩ := by decide +kernel
set_option maxRecDepth 65536 in
set_option maxHeartbeats 40000000 in
theorem rm0 (l : Launch) (Z : State) (a0 : Array Value) (hw : ∀ d ∈ tables_1, d.before a0 Z = true) (ws : List Jvm.Cond) (p0 : Int32) (p1 : Int32) (p2 : Int32) (p3 : Int32) (p4 : Int32) (h0 : Heap) (n0 : Nat) (Z0 : n0 ≤ h0.size) :
    MetFree l x (head1 (Jvm.Cond.code x code maxLocals ret :: ws) room_1) (fun aa U => aa = #[(.int p0), (.int p1), (.int p2), (.int p3), (.int p4)] ∧ Z.Warmed39 U.vm ∧ U.heap = h0) (fun _ _ _ _ _ => True) (fun _ U ou U' => ∃ v L, ou = .returned v ∧ Q_rm0 Z p0 p1 p2 p3 p4 h0 n0 v U'.heap L ∧ FrameEnd U ou U' L room_1.cells room_1.slots) := by
  refine MetFree.of_bodySF (plainFor_of_name pn_0) hisR ?_
  intro p e s m args below meth c s₁ Bd hml0 hP hK
  obtain ⟨rfl, hZ, hh⟩ := hP
  have hx := Bd.exec
  have hby := Bd.bytes
  have hml : c.maxLocals = 25 := hml0
  have hown : s.vm.findClass "com/example/wedge/wedge/SizeAddPinLaw" = some m.cls := findClass_of_methodNamed Bd.named
  have hnm := (name_of_methodNamed Bd.named Bd.method).1
  have X0 : Stand p l e room_1 s m #[(.int p0), (.int p1), (.int p2), (.int p3), (.int p4)] below meth c s₁ [] 0 0 := Stand.of_body Bd
  have e0 : s₁.heap = h0 := by rw [← hh, Bd.state]; rfl
  have N0 := Fr.nil n0
  have K0 := Keep.refl h0 []
  refine own_as (ef_0 m p0 p1 p2 p3 p4) ?_
  show own_Ends p e below s₁ (mkF m 0 #[.val (.int p0), .val (.int p1), .val (.int p2), .val (.int p3), .val (.int p4), .unset, .unset, .unset, .unset, .unset, .unset, .unset, .unset, .unset, .unset, .unset, .unset, .unset, .unset, .unset, .unset, .unset, .unset, .unset, .unset] []) _
  refine own_go (fun _ => XS.iloadN X0.here hx rfl (hb hby at_0) rfl) ?_
  show own_Ends p e below s₁ (mkF m 1 #[.val (.int p0), .val (.int p1), .val (.int p2), .val (.int p3), .val (.int p4), .unset, .unset, .unset, .unset, .unset, .unset, .unset, .unset, .unset, .unset, .unset, .unset, .unset, .unset, .unset, .unset, .unset, .unset, .unset, .unset] [(.int p0)]) _
  refine own_go (fun _ => XS.bipush X0.here hx rfl (hb hby at_1)) ?_
  show own_Ends p e below s₁ (mkF m 3 #[.val (.int p0), .val (.int p1), .val (.int p2), .val (.int p3), .val (.int p4), .unset, .unset, .unset, .unset, .unset, .unset, .unset, .unset, .unset, .unset, .unset, .unset, .unset, .unset, .unset, .unset, .unset, .unset, .unset, .unset] [(.int (15 : Int32)), (.int p0)]) _
  refine own_go (fun _ => XS.iand X0.here hx rfl (hb hby at_3) rfl) ?_
  show own_Ends p e below s₁ (mkF m 4 #[.val (.int p0), .val (.int p1), .val (.int p2), .val (.int p3), .val (.int p4), .unset, .unset, .unset, .unset, .unset, .unset, .unset, .unset, .unset, .unset, .unset, .unset, .unset, .unset, .unset, .unset, .unset, .unset, .unset, .unset] [(.int (p0 &&& (15 : Int32)))]) _
  refine own_go (fun _ => XS.istore X0.here hx rfl (hb hby at_4) rfl (l' := #[.val (.int p0), .val (.int p1), .val (.int p2), .val (.int p3), .val (.int p4), .val (.int (p0 &&& (15 : Int32))), .unset, .unset, .unset, .unset, .unset, .unset, .unset, .unset, .unset, .unset, .unset, .unset, .unset, .unset, .unset, .unset, .unset, .unset, .unset]) rfl) ?_
  show own_Ends p e below s₁ (mkF m 6 #[.val (.int p0), .val (.int p1), .val (.int p2), .val (.int p3), .val (.int p4), .val (.int (p0 &&& (15 : Int32))), .unset, .unset, .unset, .unset, .unset, .unset, .unset, .unset, .unset, .unset, .unset, .unset, .unset, .unset, .unset, .unset, .unset, .unset, .unset] []) _
  have hka := own_n p0
  generalize gka : (p0 &&& (15 : Int32)) = ka at hka ⊢
  refine own_go (fun _ => XS.iloadN X0.here hx rfl (hb hby at_6) rfl) ?_
  show own_Ends p e below s₁ (mkF m 7 #[.val (.int p0), .val (.int p1), .val (.int p2), .val (.int p3), .val (.int p4), .val (.int ka), .unset, .unset, .unset, .unset, .unset, .unset, .unset, .unset, .unset, .unset, .unset, .unset, .unset, .unset, .unset, .unset, .unset, .unset, .unset] [(.int p1)]) _
  refine own_go (fun _ => XS.bipush X0.here hx rfl (hb hby at_7)) ?_
  show own_Ends p e below s₁ (mkF m 9 #[.val (.int p0), .val (.int p1), .val (.int p2), .val (.int p3), .val (.int p4), .val (.int ka), .unset, .unset, .unset, .unset, .unset, .unset, .unset, .unset, .unset, .unset, .unset, .unset, .unset, .unset, .unset, .unset, .unset, .unset, .unset] [(.int (15 : Int32)), (.int p1)]) _
  refine own_go (fun _ => XS.iand X0.here hx rfl (hb hby at_9) rfl) ?_
  show own_Ends p e below s₁ (mkF m 10 #[.val (.int p0), .val (.int p1), .val (.int p2), .val (.int p3), .val (.int p4), .val (.int ka), .unset, .unset, .unset, .unset, .unset, .unset, .unset, .unset, .unset, .unset, .unset, .unset, .unset, .unset, .unset, .unset, .unset, .unset, .unset] [(.int (p1 &&& (15 : Int32)))]) _
  refine own_go (fun _ => XS.istore X0.here hx rfl (hb hby at_10) rfl (l' := #[.val (.int p0), .val (.int p1), .val (.int p2), .val (.int p3), .val (.int p4), .val (.int ka), .val (.int (p1 &&& (15 : Int32))), .unset, .unset, .unset, .unset, .unset, .unset, .unset, .unset, .unset, .unset, .unset, .unset, .unset, .unset, .unset, .unset, .unset, .unset]) rfl) ?_
  show own_Ends p e below s₁ (mkF m 12 #[.val (.int p0), .val (.int p1), .val (.int p2), .val (.int p3), .val (.int p4), .val (.int ka), .val (.int (p1 &&& (15 : Int32))), .unset, .unset, .unset, .unset, .unset, .unset, .unset, .unset, .unset, .unset, .unset, .unset, .unset, .unset, .unset, .unset, .unset, .unset] []) _
  have hva := own_n p1
  generalize gva : (p1 &&& (15 : Int32)) = va at hva ⊢
  refine own_go (fun _ => XS.iloadN X0.here hx rfl (hb hby at_12) rfl) ?_
  show own_Ends p e below s₁ (mkF m 13 #[.val (.int p0), .val (.int p1), .val (.int p2), .val (.int p3), .val (.int p4), .val (.int ka), .val (.int va), .unset, .unset, .unset, .unset, .unset, .unset, .unset, .unset, .unset, .unset, .unset, .unset, .unset, .unset, .unset, .unset, .unset, .unset] [(.int p2)]) _
  refine own_go (fun _ => XS.bipush X0.here hx rfl (hb hby at_13)) ?_
  show own_Ends p e below s₁ (mkF m 15 #[.val (.int p0), .val (.int p1), .val (.int p2), .val (.int p3), .val (.int p4), .val (.int ka), .val (.int va), .unset, .unset, .unset, .unset, .unset, .unset, .unset, .unset, .unset, .unset, .unset, .unset, .unset, .unset, .unset, .unset, .unset, .unset] [(.int (15 : Int32)), (.int p2)]) _
  refine own_go (fun _ => XS.iand X0.here hx rfl (hb hby at_15) rfl) ?_
  show own_Ends p e below s₁ (mkF m 16 #[.val (.int p0), .val (.int p1), .val (.int p2), .val (.int p3), .val (.int p4), .val (.int ka), .val (.int va), .unset, .unset, .unset, .unset, .unset, .unset, .unset, .unset, .unset, .unset, .unset, .unset, .unset, .unset, .unset, .unset, .unset, .unset] [(.int (p2 &&& (15 : Int32)))]) _
  refine own_go (fun _ => XS.istore X0.here hx rfl (hb hby at_16) rfl (l' := #[.val (.int p0), .val (.int p1), .val (.int p2), .val (.int p3), .val (.int p4), .val (.int ka), .val (.int va), .val (.int (p2 &&& (15 : Int32))), .unset, .unset, .unset, .unset, .unset, .unset, .unset, .unset, .unset, .unset, .unset, .unset, .unset, .unset, .unset, .unset, .unset]) rfl) ?_
  show own_Ends p e below s₁ (mkF m 18 #[.val (.int p0), .val (.int p1), .val (.int p2), .val (.int p3), .val (.int p4), .val (.int ka), .val (.int va), .val (.int (p2 &&& (15 : Int32))), .unset, .unset, .unset, .unset, .unset, .unset, .unset, .unset, .unset, .unset, .unset, .unset, .unset, .unset, .unset, .unset, .unset] []) _
  have hkb := own_n p2
  generalize gkb : (p2 &&& (15 : Int32)) = kb at hkb ⊢
  refine own_go (fun _ => XS.iloadN X0.here hx rfl (hb hby at_18) rfl) ?_
  show own_Ends p e below s₁ (mkF m 19 #[.val (.int p0), .val (.int p1), .val (.int p2), .val (.int p3), .val (.int p4), .val (.int ka), .val (.int va), .val (.int kb), .unset, .unset, .unset, .unset, .unset, .unset, .unset, .unset, .unset, .unset, .unset, .unset, .unset, .unset, .unset, .unset, .unset] [(.int p3)]) _
  refine own_go (fun _ => XS.bipush X0.here hx rfl (hb hby at_19)) ?_
  show own_Ends p e below s₁ (mkF m 21 #[.val (.int p0), .val (.int p1), .val (.int p2), .val (.int p3), .val (.int p4), .val (.int ka), .val (.int va), .val (.int kb), .unset, .unset, .unset, .unset, .unset, .unset, .unset, .unset, .unset, .unset, .unset, .unset, .unset, .unset, .unset, .unset, .unset] [(.int (15 : Int32)), (.int p3)]) _
  refine own_go (fun _ => XS.iand X0.here hx rfl (hb hby at_21) rfl) ?_
  show own_Ends p e below s₁ (mkF m 22 #[.val (.int p0), .val (.int p1), .val (.int p2), .val (.int p3), .val (.int p4), .val (.int ka), .val (.int va), .val (.int kb), .unset, .unset, .unset, .unset, .unset, .unset, .unset, .unset, .unset, .unset, .unset, .unset, .unset, .unset, .unset, .unset, .unset] [(.int (p3 &&& (15 : Int32)))]) _
  refine own_go (fun _ => XS.istore X0.here hx rfl (hb hby at_22) rfl (l' := #[.val (.int p0), .val (.int p1), .val (.int p2), .val (.int p3), .val (.int p4), .val (.int ka), .val (.int va), .val (.int kb), .val (.int (p3 &&& (15 : Int32))), .unset, .unset, .unset, .unset, .unset, .unset, .unset, .unset, .unset, .unset, .unset, .unset, .unset, .unset, .unset, .unset]) rfl) ?_
  show own_Ends p e below s₁ (mkF m 24 #[.val (.int p0), .val (.int p1), .val (.int p2), .val (.int p3), .val (.int p4), .val (.int ka), .val (.int va), .val (.int kb), .val (.int (p3 &&& (15 : Int32))), .unset, .unset, .unset, .unset, .unset, .unset, .unset, .unset, .unset, .unset, .unset, .unset, .unset, .unset, .unset, .unset] []) _
  have hvb := own_n p3
  generalize gvb : (p3 &&& (15 : Int32)) = vb at hvb ⊢
  refine own_go (fun _ => XS.iload X0.here hx rfl (hb hby at_24) rfl) ?_
  show own_Ends p e below s₁ (mkF m 26 #[.val (.int p0), .val (.int p1), .val (.int p2), .val (.int p3), .val (.int p4), .val (.int ka), .val (.int va), .val (.int kb), .val (.int vb), .unset, .unset, .unset, .unset, .unset, .unset, .unset, .unset, .unset, .unset, .unset, .unset, .unset, .unset, .unset, .unset] [(.int p4)]) _
  refine own_go (fun _ => XS.iconst X0.here hx rfl (hb hby at_26)) ?_
  show own_Ends p e below s₁ (mkF m 27 #[.val (.int p0), .val (.int p1), .val (.int p2), .val (.int p3), .val (.int p4), .val (.int ka), .val (.int va), .val (.int kb), .val (.int vb), .unset, .unset, .unset, .unset, .unset, .unset, .unset, .unset, .unset, .unset, .unset, .unset, .unset, .unset, .unset, .unset] [(.int (1 : Int32)), (.int p4)]) _
  refine own_go (fun _ => XS.iand X0.here hx rfl (hb hby at_27) rfl) ?_
  show own_Ends p e below s₁ (mkF m 28 #[.val (.int p0), .val (.int p1), .val (.int p2), .val (.int p3), .val (.int p4), .val (.int ka), .val (.int va), .val (.int kb), .val (.int vb), .unset, .unset, .unset, .unset, .unset, .unset, .unset, .unset, .unset, .unset, .unset, .unset, .unset, .unset, .unset, .unset] [(.int (p4 &&& (1 : Int32)))]) _
  by_cases hc28 : (p4 &&& (1 : Int32)) = (0 : Int32)
  · refine own_go (fun _ => XS.ifYes X0.here hx rfl (pc0 := 28) (pc' := 35) rfl (hb hby at_28) rfl ((if0 _ _).trans (teq hc28).1) (by decide) (by decide)) ?_
    show own_Ends p e below s₁ (mkF m 35 #[.val (.int p0), .val (.int p1), .val (.int p2), .val (.int p3), .val (.int p4), .val (.int ka), .val (.int va), .val (.int kb), .val (.int vb), .unset, .unset, .unset, .unset, .unset, .unset, .unset, .unset, .unset, .unset, .unset, .unset, .unset, .unset, .unset, .unset] []) _
    refine own_go (fun _ => XS.iconst X0.here hx rfl (hb hby at_35)) ?_
    show own_Ends p e below s₁ (mkF m 36 #[.val (.int p0), .val (.int p1), .val (.int p2), .val (.int p3), .val (.int p4), .val (.int ka), .val (.int va), .val (.int kb), .val (.int vb), .unset, .unset, .unset, .unset, .unset, .unset, .unset, .unset, .unset, .unset, .unset, .unset, .unset, .unset, .unset, .unset] [(.int (0 : Int32))]) _
    refine own_go (fun _ => XS.istore X0.here hx rfl (hb hby at_36) rfl (l' := #[.val (.int p0), .val (.int p1), .val (.int p2), .val (.int p3), .val (.int p4), .val (.int ka), .val (.int va), .val (.int kb), .val (.int vb), .val (.int (0 : Int32)), .unset, .unset, .unset, .unset, .unset, .unset, .unset, .unset, .unset, .unset, .unset, .unset, .unset, .unset, .unset]) rfl) ?_
    show own_Ends p e below s₁ (mkF m 38 #[.val (.int p0), .val (.int p1), .val (.int p2), .val (.int p3), .val (.int p4), .val (.int ka), .val (.int va), .val (.int kb), .val (.int vb), .val (.int (0 : Int32)), .unset, .unset, .unset, .unset, .unset, .unset, .unset, .unset, .unset, .unset, .unset, .unset, .unset, .unset, .unset] []) _
    refine own_go (fun _ => XS.iload X0.here hx rfl (hb hby at_38) rfl) ?_
    show own_Ends p e below s₁ (mkF m 40 #[.val (.int p0), .val (.int p1), .val (.int p2), .val (.int p3), .val (.int p4), .val (.int ka), .val (.int va), .val (.int kb), .val (.int vb), .val (.int (0 : Int32)), .unset, .unset, .unset, .unset, .unset, .unset, .unset, .unset, .unset, .unset, .unset, .unset, .unset, .unset, .unset] [(.int p4)]) _
    refine own_go (fun _ => XS.iconst X0.here hx rfl (hb hby at_40)) ?_
    show own_Ends p e below s₁ (mkF m 41 #[.val (.int p0), .val (.int p1), .val (.int p2), .val (.int p3), .val (.int p4), .val (.int ka), .val (.int va), .val (.int kb), .val (.int vb), .val (.int (0 : Int32)), .unset, .unset, .unset, .unset, .unset, .unset, .unset, .unset, .unset, .unset, .unset, .unset, .unset, .unset, .unset] [(.int (2 : Int32)), (.int p4)]) _
    refine own_go (fun _ => XS.iand X0.here hx rfl (hb hby at_41) rfl) ?_
    show own_Ends p e below s₁ (mkF m 42 #[.val (.int p0), .val (.int p1), .val (.int p2), .val (.int p3), .val (.int p4), .val (.int ka), .val (.int va), .val (.int kb), .val (.int vb), .val (.int (0 : Int32)), .unset, .unset, .unset, .unset, .unset, .unset, .unset, .unset, .unset, .unset, .unset, .unset, .unset, .unset, .unset] [(.int (p4 &&& (2 : Int32)))]) _
    by_cases hc42 : (p4 &&& (2 : Int32)) = (0 : Int32)
    · refine own_go (fun _ => XS.ifYes X0.here hx rfl (pc0 := 42) (pc' := 49) rfl (hb hby at_42) rfl ((if0 _ _).trans (teq hc42).1) (by decide) (by decide)) ?_
      show own_Ends p e below s₁ (mkF m 49 #[.val (.int p0), .val (.int p1), .val (.int p2), .val (.int p3), .val (.int p4), .val (.int ka), .val (.int va), .val (.int kb), .val (.int vb), .val (.int (0 : Int32)), .unset, .unset, .unset, .unset, .unset, .unset, .unset, .unset, .unset, .unset, .unset, .unset, .unset, .unset, .unset] []) _
      refine own_go (fun _ => XS.iconst X0.here hx rfl (hb hby at_49)) ?_
      show own_Ends p e below s₁ (mkF m 50 #[.val (.int p0), .val (.int p1), .val (.int p2), .val (.int p3), .val (.int p4), .val (.int ka), .val (.int va), .val (.int kb), .val (.int vb), .val (.int (0 : Int32)), .unset, .unset, .unset, .unset, .unset, .unset, .unset, .unset, .unset, .unset, .unset, .unset, .unset, .unset, .unset] [(.int (0 : Int32))]) _
      refine own_go (fun _ => XS.istore X0.here hx rfl (hb hby at_50) rfl (l' := #[.val (.int p0), .val (.int p1), .val (.int p2), .val (.int p3), .val (.int p4), .val (.int ka), .val (.int va), .val (.int kb), .val (.int vb), .val (.int (0 : Int32)), .val (.int (0 : Int32)), .unset, .unset, .unset, .unset, .unset, .unset, .unset, .unset, .unset, .unset, .unset, .unset, .unset, .unset]) rfl) ?_
      show own_Ends p e below s₁ (mkF m 52 #[.val (.int p0), .val (.int p1), .val (.int p2), .val (.int p3), .val (.int p4), .val (.int ka), .val (.int va), .val (.int kb), .val (.int vb), .val (.int (0 : Int32)), .val (.int (0 : Int32)), .unset, .unset, .unset, .unset, .unset, .unset, .unset, .unset, .unset, .unset, .unset, .unset, .unset, .unset] []) _
      refine own_go (fun _ => XS.iload X0.here hx rfl (hb hby at_52) rfl) ?_
      show own_Ends p e below s₁ (mkF m 54 #[.val (.int p0), .val (.int p1), .val (.int p2), .val (.int p3), .val (.int p4), .val (.int ka), .val (.int va), .val (.int kb), .val (.int vb), .val (.int (0 : Int32)), .val (.int (0 : Int32)), .unset, .unset, .unset, .unset, .unset, .unset, .unset, .unset, .unset, .unset, .unset, .unset, .unset, .unset] [(.int ka)]) _
      obtain ⟨T1, h1, k1, X1, e1, E1, A1, st1⟩ := newP X0 hx hZ (hw _ (List.mem_of_getElem? (i := 0) rfl)) e0 (g := (mkF m 54 #[.val (.int p0), .val (.int p1), .val (.int p2), .val (.int p3), .val (.int p4), .val (.int ka), .val (.int va), .val (.int kb), .val (.int vb), .val (.int (0 : Int32)), .val (.int (0 : Int32)), .unset, .unset, .unset, .unset, .unset, .unset, .unset, .unset, .unset, .unset, .unset, .unset, .unset, .unset] [(.int ka)])) rfl (hb hby at_54) rfl (own_neg hka) (cap := 15) (own_cap hka) (by decide) (by decide) (by decide)
      obtain ⟨b1, g1⟩ : ∃ z, z = h0.size := ⟨_, rfl⟩
      rw [← g1] at A1 st1
      refine own_go st1 ?_
      have g_b1 : n0 ≤ b1 := Nat.le_trans Z0 (Nat.le_of_eq g1.symm)
      have sz_b1 : h0.size ≤ b1 := Nat.le_trans K0.1 (Nat.le_of_eq g1.symm)
      have K1 := K0.ext E1
      have Z1 : n0 ≤ h1.size := Nat.le_trans Z0 K1.1
      have B_b1 : own_Len Z h1 b1 .byte ka := ⟨_, A1, sz_new _ _ _, (own_neg hka)⟩
      show own_Ends p e below T1 (mkF m 56 #[.val (.int p0), .val (.int p1), .val (.int p2), .val (.int p3), .val (.int p4), .val (.int ka), .val (.int va), .val (.int kb), .val (.int vb), .val (.int (0 : Int32)), .val (.int (0 : Int32)), .unset, .unset, .unset, .unset, .unset, .unset, .unset, .unset, .unset, .unset, .unset, .unset, .unset, .unset] [(.ref b1)]) _
      refine own_go (fun _ => XS.astore X1.here hx rfl (hb hby at_56) rfl rfl (l' := #[.val (.int p0), .val (.int p1), .val (.int p2), .val (.int p3), .val (.int p4), .val (.int ka), .val (.int va), .val (.int kb), .val (.int vb), .val (.int (0 : Int32)), .val (.int (0 : Int32)), .val (.ref b1), .unset, .unset, .unset, .unset, .unset, .unset, .unset, .unset, .unset, .unset, .unset, .unset, .unset]) rfl) ?_
      show own_Ends p e below T1 (mkF m 58 #[.val (.int p0), .val (.int p1), .val (.int p2), .val (.int p3), .val (.int p4), .val (.int ka), .val (.int va), .val (.int kb), .val (.int vb), .val (.int (0 : Int32)), .val (.int (0 : Int32)), .val (.ref b1), .unset, .unset, .unset, .unset, .unset, .unset, .unset, .unset, .unset, .unset, .unset, .unset, .unset] []) _
      refine own_go (fun _ => XS.iload X1.here hx rfl (hb hby at_58) rfl) ?_
      show own_Ends p e below T1 (mkF m 60 #[.val (.int p0), .val (.int p1), .val (.int p2), .val (.int p3), .val (.int p4), .val (.int ka), .val (.int va), .val (.int kb), .val (.int vb), .val (.int (0 : Int32)), .val (.int (0 : Int32)), .val (.ref b1), .unset, .unset, .unset, .unset, .unset, .unset, .unset, .unset, .unset, .unset, .unset, .unset, .unset] [(.int kb)]) _
      obtain ⟨T2, h2, k2, X2, e2, E2, A2, st2⟩ := newP X1 hx hZ (hw _ (List.mem_of_getElem? (i := 0) rfl)) e1 (g := (mkF m 60 #[.val (.int p0), .val (.int p1), .val (.int p2), .val (.int p3), .val (.int p4), .val (.int ka), .val (.int va), .val (.int kb), .val (.int vb), .val (.int (0 : Int32)), .val (.int (0 : Int32)), .val (.ref b1), .unset, .unset, .unset, .unset, .unset, .unset, .unset, .unset, .unset, .unset, .unset, .unset, .unset] [(.int kb)])) rfl (hb hby at_60) rfl (own_neg hkb) (cap := 15) (own_cap hkb) (by decide) (by decide) (by decide)
      obtain ⟨b2, g2⟩ : ∃ z, z = h1.size := ⟨_, rfl⟩
      rw [← g2] at A2 st2
      refine own_go st2 ?_
      have g_b2 : n0 ≤ b2 := Nat.le_trans Z1 (Nat.le_of_eq g2.symm)
      have sz_b2 : h0.size ≤ b2 := Nat.le_trans K1.1 (Nat.le_of_eq g2.symm)
      have ne_b1_b2 : b1 ≠ b2 := Nat.ne_of_lt (Nat.lt_of_lt_of_le B_b1.lt (Nat.le_of_eq g2.symm))
      replace B_b1 := B_b1.ext E2
      have K2 := K1.ext E2
      have Z2 : n0 ≤ h2.size := Nat.le_trans Z0 K2.1
      have B_b2 : own_Len Z h2 b2 .byte kb := ⟨_, A2, sz_new _ _ _, (own_neg hkb)⟩
      show own_Ends p e below T2 (mkF m 62 #[.val (.int p0), .val (.int p1), .val (.int p2), .val (.int p3), .val (.int p4), .val (.int ka), .val (.int va), .val (.int kb), .val (.int vb), .val (.int (0 : Int32)), .val (.int (0 : Int32)), .val (.ref b1), .unset, .unset, .unset, .unset, .unset, .unset, .unset, .unset, .unset, .unset, .unset, .unset, .unset] [(.ref b2)]) _
      refine own_go (fun _ => XS.astore X2.here hx rfl (hb hby at_62) rfl rfl (l' := #[.val (.int p0), .val (.int p1), .val (.int p2), .val (.int p3), .val (.int p4), .val (.int ka), .val (.int va), .val (.int kb), .val (.int vb), .val (.int (0 : Int32)), .val (.int (0 : Int32)), .val (.ref b1), .val (.ref b2), .unset, .unset, .unset, .unset, .unset, .unset, .unset, .unset, .unset, .unset, .unset, .unset]) rfl) ?_
      show own_Ends p e below T2 (mkF m 64 #[.val (.int p0), .val (.int p1), .val (.int p2), .val (.int p3), .val (.int p4), .val (.int ka), .val (.int va), .val (.int kb), .val (.int vb), .val (.int (0 : Int32)), .val (.int (0 : Int32)), .val (.ref b1), .val (.ref b2), .unset, .unset, .unset, .unset, .unset, .unset, .unset, .unset, .unset, .unset, .unset, .unset] []) _
      refine own_go (fun _ => XS.iload X2.here hx rfl (hb hby at_64) rfl) ?_
      show own_Ends p e below T2 (mkF m 66 #[.val (.int p0), .val (.int p1), .val (.int p2), .val (.int p3), .val (.int p4), .val (.int ka), .val (.int va), .val (.int kb), .val (.int vb), .val (.int (0 : Int32)), .val (.int (0 : Int32)), .val (.ref b1), .val (.ref b2), .unset, .unset, .unset, .unset, .unset, .unset, .unset, .unset, .unset, .unset, .unset, .unset] [(.int (0 : Int32))]) _
      refine own_go (fun _ => XS.ifYes X2.here hx rfl (pc0 := 66) (pc' := 73) rfl (hb hby at_66) rfl ((if0 _ _).trans (teq (show (0 : Int32) = (0 : Int32) from by decide)).1) (by decide) (by decide)) ?_
      show own_Ends p e below T2 (mkF m 73 #[.val (.int p0), .val (.int p1), .val (.int p2), .val (.int p3), .val (.int p4), .val (.int ka), .val (.int va), .val (.int kb), .val (.int vb), .val (.int (0 : Int32)), .val (.int (0 : Int32)), .val (.ref b1), .val (.ref b2), .unset, .unset, .unset, .unset, .unset, .unset, .unset, .unset, .unset, .unset, .unset, .unset] []) _
      refine own_go (fun _ => XS.iload X2.here hx rfl (hb hby at_73) rfl) ?_
      show own_Ends p e below T2 (mkF m 75 #[.val (.int p0), .val (.int p1), .val (.int p2), .val (.int p3), .val (.int p4), .val (.int ka), .val (.int va), .val (.int kb), .val (.int vb), .val (.int (0 : Int32)), .val (.int (0 : Int32)), .val (.ref b1), .val (.ref b2), .unset, .unset, .unset, .unset, .unset, .unset, .unset, .unset, .unset, .unset, .unset, .unset] [(.int va)]) _
      obtain ⟨T3, h3, k3, X3, e3, E3, A3, st3⟩ := newP X2 hx hZ (hw _ (List.mem_of_getElem? (i := 0) rfl)) e2 (g := (mkF m 75 #[.val (.int p0), .val (.int p1), .val (.int p2), .val (.int p3), .val (.int p4), .val (.int ka), .val (.int va), .val (.int kb), .val (.int vb), .val (.int (0 : Int32)), .val (.int (0 : Int32)), .val (.ref b1), .val (.ref b2), .unset, .unset, .unset, .unset, .unset, .unset, .unset, .unset, .unset, .unset, .unset, .unset] [(.int va)])) rfl (hb hby at_75) rfl (own_neg hva) (cap := 15) (own_cap hva) (by decide) (by decide) (by decide)
      obtain ⟨b3, g3⟩ : ∃ z, z = h2.size := ⟨_, rfl⟩
      rw [← g3] at A3 st3
      refine own_go st3 ?_
      have g_b3 : n0 ≤ b3 := Nat.le_trans Z2 (Nat.le_of_eq g3.symm)
      have sz_b3 : h0.size ≤ b3 := Nat.le_trans K2.1 (Nat.le_of_eq g3.symm)
      have ne_b1_b3 : b1 ≠ b3 := Nat.ne_of_lt (Nat.lt_of_lt_of_le B_b1.lt (Nat.le_of_eq g3.symm))
      have ne_b2_b3 : b2 ≠ b3 := Nat.ne_of_lt (Nat.lt_of_lt_of_le B_b2.lt (Nat.le_of_eq g3.symm))
      replace B_b1 := B_b1.ext E3
      replace B_b2 := B_b2.ext E3
      have K3 := K2.ext E3
      have Z3 : n0 ≤ h3.size := Nat.le_trans Z0 K3.1
      have B_b3 : own_Len Z h3 b3 .byte va := ⟨_, A3, sz_new _ _ _, (own_neg hva)⟩
      show own_Ends p e below T3 (mkF m 77 #[.val (.int p0), .val (.int p1), .val (.int p2), .val (.int p3), .val (.int p4), .val (.int ka), .val (.int va), .val (.int kb), .val (.int vb), .val (.int (0 : Int32)), .val (.int (0 : Int32)), .val (.ref b1), .val (.ref b2), .unset, .unset, .unset, .unset, .unset, .unset, .unset, .unset, .unset, .unset, .unset, .unset] [(.ref b3)]) _
      refine own_go (fun _ => XS.astore X3.here hx rfl (hb hby at_77) rfl rfl (l' := #[.val (.int p0), .val (.int p1), .val (.int p2), .val (.int p3), .val (.int p4), .val (.int ka), .val (.int va), .val (.int kb), .val (.int vb), .val (.int (0 : Int32)), .val (.int (0 : Int32)), .val (.ref b1), .val (.ref b2), .val (.ref b3), .unset, .unset, .unset, .unset, .unset, .unset, .unset, .unset, .unset, .unset, .unset]) rfl) ?_
      show own_Ends p e below T3 (mkF m 79 #[.val (.int p0), .val (.int p1), .val (.int p2), .val (.int p3), .val (.int p4), .val (.int ka), .val (.int va), .val (.int kb), .val (.int vb), .val (.int (0 : Int32)), .val (.int (0 : Int32)), .val (.ref b1), .val (.ref b2), .val (.ref b3), .unset, .unset, .unset, .unset, .unset, .unset, .unset, .unset, .unset, .unset, .unset] []) _
      refine own_go (fun _ => XS.iload X3.here hx rfl (hb hby at_79) rfl) ?_
      show own_Ends p e below T3 (mkF m 81 #[.val (.int p0), .val (.int p1), .val (.int p2), .val (.int p3), .val (.int p4), .val (.int ka), .val (.int va), .val (.int kb), .val (.int vb), .val (.int (0 : Int32)), .val (.int (0 : Int32)), .val (.ref b1), .val (.ref b2), .val (.ref b3), .unset, .unset, .unset, .unset, .unset, .unset, .unset, .unset, .unset, .unset, .unset] [(.int (0 : Int32))]) _
      refine own_go (fun _ => XS.ifYes X3.here hx rfl (pc0 := 81) (pc' := 88) rfl (hb hby at_81) rfl ((if0 _ _).trans (teq (show (0 : Int32) = (0 : Int32) from by decide)).1) (by decide) (by decide)) ?_
      show own_Ends p e below T3 (mkF m 88 #[.val (.int p0), .val (.int p1), .val (.int p2), .val (.int p3), .val (.int p4), .val (.int ka), .val (.int va), .val (.int kb), .val (.int vb), .val (.int (0 : Int32)), .val (.int (0 : Int32)), .val (.ref b1), .val (.ref b2), .val (.ref b3), .unset, .unset, .unset, .unset, .unset, .unset, .unset, .unset, .unset, .unset, .unset] []) _
      refine own_go (fun _ => XS.iload X3.here hx rfl (hb hby at_88) rfl) ?_
      show own_Ends p e below T3 (mkF m 90 #[.val (.int p0), .val (.int p1), .val (.int p2), .val (.int p3), .val (.int p4), .val (.int ka), .val (.int va), .val (.int kb), .val (.int vb), .val (.int (0 : Int32)), .val (.int (0 : Int32)), .val (.ref b1), .val (.ref b2), .val (.ref b3), .unset, .unset, .unset, .unset, .unset, .unset, .unset, .unset, .unset, .unset, .unset] [(.int vb)]) _
      obtain ⟨T4, h4, k4, X4, e4, E4, A4, st4⟩ := newP X3 hx hZ (hw _ (List.mem_of_getElem? (i := 0) rfl)) e3 (g := (mkF m 90 #[.val (.int p0), .val (.int p1), .val (.int p2), .val (.int p3), .val (.int p4), .val (.int ka), .val (.int va), .val (.int kb), .val (.int vb), .val (.int (0 : Int32)), .val (.int (0 : Int32)), .val (.ref b1), .val (.ref b2), .val (.ref b3), .unset, .unset, .unset, .unset, .unset, .unset, .unset, .unset, .unset, .unset, .unset] [(.int vb)])) rfl (hb hby at_90) rfl (own_neg hvb) (cap := 15) (own_cap hvb) (by decide) (by decide) (by decide)
      obtain ⟨b4, g4⟩ : ∃ z, z = h3.size := ⟨_, rfl⟩
      rw [← g4] at A4 st4
      refine own_go st4 ?_
      have g_b4 : n0 ≤ b4 := Nat.le_trans Z3 (Nat.le_of_eq g4.symm)
      have sz_b4 : h0.size ≤ b4 := Nat.le_trans K3.1 (Nat.le_of_eq g4.symm)
      have ne_b1_b4 : b1 ≠ b4 := Nat.ne_of_lt (Nat.lt_of_lt_of_le B_b1.lt (Nat.le_of_eq g4.symm))
      have ne_b2_b4 : b2 ≠ b4 := Nat.ne_of_lt (Nat.lt_of_lt_of_le B_b2.lt (Nat.le_of_eq g4.symm))
      have ne_b3_b4 : b3 ≠ b4 := Nat.ne_of_lt (Nat.lt_of_lt_of_le B_b3.lt (Nat.le_of_eq g4.symm))
      replace B_b1 := B_b1.ext E4
      replace B_b2 := B_b2.ext E4
      replace B_b3 := B_b3.ext E4
      have K4 := K3.ext E4
      have Z4 : n0 ≤ h4.size := Nat.le_trans Z0 K4.1
      have B_b4 : own_Len Z h4 b4 .byte vb := ⟨_, A4, sz_new _ _ _, (own_neg hvb)⟩
      show own_Ends p e below T4 (mkF m 92 #[.val (.int p0), .val (.int p1), .val (.int p2), .val (.int p3), .val (.int p4), .val (.int ka), .val (.int va), .val (.int kb), .val (.int vb), .val (.int (0 : Int32)), .val (.int (0 : Int32)), .val (.ref b1), .val (.ref b2), .val (.ref b3), .unset, .unset, .unset, .unset, .unset, .unset, .unset, .unset, .unset, .unset, .unset] [(.ref b4)]) _
      refine own_go (fun _ => XS.astore X4.here hx rfl (hb hby at_92) rfl rfl (l' := #[.val (.int p0), .val (.int p1), .val (.int p2), .val (.int p3), .val (.int p4), .val (.int ka), .val (.int va), .val (.int kb), .val (.int vb), .val (.int (0 : Int32)), .val (.int (0 : Int32)), .val (.ref b1), .val (.ref b2), .val (.ref b3), .val (.ref b4), .unset, .unset, .unset, .unset, .unset, .unset, .unset, .unset, .unset, .unset]) rfl) ?_
      show own_Ends p e below T4 (mkF m 94 #[.val (.int p0), .val (.int p1), .val (.int p2), .val (.int p3), .val (.int p4), .val (.int ka), .val (.int va), .val (.int kb), .val (.int vb), .val (.int (0 : Int32)), .val (.int (0 : Int32)), .val (.ref b1), .val (.ref b2), .val (.ref b3), .val (.ref b4), .unset, .unset, .unset, .unset, .unset, .unset, .unset, .unset, .unset, .unset] []) _
      refine own_go (fun _ => XS.iload X4.here hx rfl (hb hby at_94) rfl) ?_
      show own_Ends p e below T4 (mkF m 96 #[.val (.int p0), .val (.int p1), .val (.int p2), .val (.int p3), .val (.int p4), .val (.int ka), .val (.int va), .val (.int kb), .val (.int vb), .val (.int (0 : Int32)), .val (.int (0 : Int32)), .val (.ref b1), .val (.ref b2), .val (.ref b3), .val (.ref b4), .unset, .unset, .unset, .unset, .unset, .unset, .unset, .unset, .unset, .unset] [(.int (0 : Int32))]) _
      refine own_go (fun _ => XS.ifYes X4.here hx rfl (pc0 := 96) (pc' := 105) rfl (hb hby at_96) rfl ((if0 _ _).trans (teq (show (0 : Int32) = (0 : Int32) from by decide)).1) (by decide) (by decide)) ?_
      show own_Ends p e below T4 (mkF m 105 #[.val (.int p0), .val (.int p1), .val (.int p2), .val (.int p3), .val (.int p4), .val (.int ka), .val (.int va), .val (.int kb), .val (.int vb), .val (.int (0 : Int32)), .val (.int (0 : Int32)), .val (.ref b1), .val (.ref b2), .val (.ref b3), .val (.ref b4), .unset, .unset, .unset, .unset, .unset, .unset, .unset, .unset, .unset, .unset] []) _
      refine own_go (fun _ => XS.iload X4.here hx rfl (hb hby at_105) rfl) ?_
      show own_Ends p e below T4 (mkF m 107 #[.val (.int p0), .val (.int p1), .val (.int p2), .val (.int p3), .val (.int p4), .val (.int ka), .val (.int va), .val (.int kb), .val (.int vb), .val (.int (0 : Int32)), .val (.int (0 : Int32)), .val (.ref b1), .val (.ref b2), .val (.ref b3), .val (.ref b4), .unset, .unset, .unset, .unset, .unset, .unset, .unset, .unset, .unset, .unset] [(.int ka)]) _
      refine own_go (fun _ => XS.i2l X4.here hx rfl (hb hby at_107) rfl) ?_
      show own_Ends p e below T4 (mkF m 108 #[.val (.int p0), .val (.int p1), .val (.int p2), .val (.int p3), .val (.int p4), .val (.int ka), .val (.int va), .val (.int kb), .val (.int vb), .val (.int (0 : Int32)), .val (.int (0 : Int32)), .val (.ref b1), .val (.ref b2), .val (.ref b3), .val (.ref b4), .unset, .unset, .unset, .unset, .unset, .unset, .unset, .unset, .unset, .unset] [(.long (ka.toInt64))]) _
      refine own_go (fun _ => XS.iload X4.here hx rfl (hb hby at_108) rfl) ?_
      show own_Ends p e below T4 (mkF m 110 #[.val (.int p0), .val (.int p1), .val (.int p2), .val (.int p3), .val (.int p4), .val (.int ka), .val (.int va), .val (.int kb), .val (.int vb), .val (.int (0 : Int32)), .val (.int (0 : Int32)), .val (.ref b1), .val (.ref b2), .val (.ref b3), .val (.ref b4), .unset, .unset, .unset, .unset, .unset, .unset, .unset, .unset, .unset, .unset] [(.int va), (.long (ka.toInt64))]) _
      refine own_go (fun _ => XS.i2l X4.here hx rfl (hb hby at_110) rfl) ?_
      show own_Ends p e below T4 (mkF m 111 #[.val (.int p0), .val (.int p1), .val (.int p2), .val (.int p3), .val (.int p4), .val (.int ka), .val (.int va), .val (.int kb), .val (.int vb), .val (.int (0 : Int32)), .val (.int (0 : Int32)), .val (.ref b1), .val (.ref b2), .val (.ref b3), .val (.ref b4), .unset, .unset, .unset, .unset, .unset, .unset, .unset, .unset, .unset, .unset] [(.long (va.toInt64)), (.long (ka.toInt64))]) _
      refine own_go (fun _ => XS.ladd X4.here hx rfl (hb hby at_111) rfl) ?_
      show own_Ends p e below T4 (mkF m 112 #[.val (.int p0), .val (.int p1), .val (.int p2), .val (.int p3), .val (.int p4), .val (.int ka), .val (.int va), .val (.int kb), .val (.int vb), .val (.int (0 : Int32)), .val (.int (0 : Int32)), .val (.ref b1), .val (.ref b2), .val (.ref b3), .val (.ref b4), .unset, .unset, .unset, .unset, .unset, .unset, .unset, .unset, .unset, .unset] [(.long ((ka.toInt64) + (va.toInt64)))]) _
      refine own_go (fun _ => XS.lstore X4.here hx rfl (hb hby at_112) rfl (l' := #[.val (.int p0), .val (.int p1), .val (.int p2), .val (.int p3), .val (.int p4), .val (.int ka), .val (.int va), .val (.int kb), .val (.int vb), .val (.int (0 : Int32)), .val (.int (0 : Int32)), .val (.ref b1), .val (.ref b2), .val (.ref b3), .val (.ref b4), .val (.long ((ka.toInt64) + (va.toInt64))), .second, .unset, .unset, .unset, .unset, .unset, .unset, .unset, .unset]) rfl) ?_
      show own_Ends p e below T4 (mkF m 114 #[.val (.int p0), .val (.int p1), .val (.int p2), .val (.int p3), .val (.int p4), .val (.int ka), .val (.int va), .val (.int kb), .val (.int vb), .val (.int (0 : Int32)), .val (.int (0 : Int32)), .val (.ref b1), .val (.ref b2), .val (.ref b3), .val (.ref b4), .val (.long ((ka.toInt64) + (va.toInt64))), .second, .unset, .unset, .unset, .unset, .unset, .unset, .unset, .unset] []) _
      refine own_go (fun _ => XS.iload X4.here hx rfl (hb hby at_114) rfl) ?_
      show own_Ends p e below T4 (mkF m 116 #[.val (.int p0), .val (.int p1), .val (.int p2), .val (.int p3), .val (.int p4), .val (.int ka), .val (.int va), .val (.int kb), .val (.int vb), .val (.int (0 : Int32)), .val (.int (0 : Int32)), .val (.ref b1), .val (.ref b2), .val (.ref b3), .val (.ref b4), .val (.long ((ka.toInt64) + (va.toInt64))), .second, .unset, .unset, .unset, .unset, .unset, .unset, .unset, .unset] [(.int (0 : Int32))]) _
      refine own_go (fun _ => XS.ifYes X4.here hx rfl (pc0 := 116) (pc' := 125) rfl (hb hby at_116) rfl ((if0 _ _).trans (teq (show (0 : Int32) = (0 : Int32) from by decide)).1) (by decide) (by decide)) ?_
      show own_Ends p e below T4 (mkF m 125 #[.val (.int p0), .val (.int p1), .val (.int p2), .val (.int p3), .val (.int p4), .val (.int ka), .val (.int va), .val (.int kb), .val (.int vb), .val (.int (0 : Int32)), .val (.int (0 : Int32)), .val (.ref b1), .val (.ref b2), .val (.ref b3), .val (.ref b4), .val (.long ((ka.toInt64) + (va.toInt64))), .second, .unset, .unset, .unset, .unset, .unset, .unset, .unset, .unset] []) _
      refine own_go (fun _ => XS.iload X4.here hx rfl (hb hby at_125) rfl) ?_
      show own_Ends p e below T4 (mkF m 127 #[.val (.int p0), .val (.int p1), .val (.int p2), .val (.int p3), .val (.int p4), .val (.int ka), .val (.int va), .val (.int kb), .val (.int vb), .val (.int (0 : Int32)), .val (.int (0 : Int32)), .val (.ref b1), .val (.ref b2), .val (.ref b3), .val (.ref b4), .val (.long ((ka.toInt64) + (va.toInt64))), .second, .unset, .unset, .unset, .unset, .unset, .unset, .unset, .unset] [(.int kb)]) _
      refine own_go (fun _ => XS.i2l X4.here hx rfl (hb hby at_127) rfl) ?_
      show own_Ends p e below T4 (mkF m 128 #[.val (.int p0), .val (.int p1), .val (.int p2), .val (.int p3), .val (.int p4), .val (.int ka), .val (.int va), .val (.int kb), .val (.int vb), .val (.int (0 : Int32)), .val (.int (0 : Int32)), .val (.ref b1), .val (.ref b2), .val (.ref b3), .val (.ref b4), .val (.long ((ka.toInt64) + (va.toInt64))), .second, .unset, .unset, .unset, .unset, .unset, .unset, .unset, .unset] [(.long (kb.toInt64))]) _
      refine own_go (fun _ => XS.iload X4.here hx rfl (hb hby at_128) rfl) ?_
      show own_Ends p e below T4 (mkF m 130 #[.val (.int p0), .val (.int p1), .val (.int p2), .val (.int p3), .val (.int p4), .val (.int ka), .val (.int va), .val (.int kb), .val (.int vb), .val (.int (0 : Int32)), .val (.int (0 : Int32)), .val (.ref b1), .val (.ref b2), .val (.ref b3), .val (.ref b4), .val (.long ((ka.toInt64) + (va.toInt64))), .second, .unset, .unset, .unset, .unset, .unset, .unset, .unset, .unset] [(.int vb), (.long (kb.toInt64))]) _
      refine own_go (fun _ => XS.i2l X4.here hx rfl (hb hby at_130) rfl) ?_
      show own_Ends p e below T4 (mkF m 131 #[.val (.int p0), .val (.int p1), .val (.int p2), .val (.int p3), .val (.int p4), .val (.int ka), .val (.int va), .val (.int kb), .val (.int vb), .val (.int (0 : Int32)), .val (.int (0 : Int32)), .val (.ref b1), .val (.ref b2), .val (.ref b3), .val (.ref b4), .val (.long ((ka.toInt64) + (va.toInt64))), .second, .unset, .unset, .unset, .unset, .unset, .unset, .unset, .unset] [(.long (vb.toInt64)), (.long (kb.toInt64))]) _
      refine own_go (fun _ => XS.ladd X4.here hx rfl (hb hby at_131) rfl) ?_
      show own_Ends p e below T4 (mkF m 132 #[.val (.int p0), .val (.int p1), .val (.int p2), .val (.int p3), .val (.int p4), .val (.int ka), .val (.int va), .val (.int kb), .val (.int vb), .val (.int (0 : Int32)), .val (.int (0 : Int32)), .val (.ref b1), .val (.ref b2), .val (.ref b3), .val (.ref b4), .val (.long ((ka.toInt64) + (va.toInt64))), .second, .unset, .unset, .unset, .unset, .unset, .unset, .unset, .unset] [(.long ((kb.toInt64) + (vb.toInt64)))]) _
      refine own_go (fun _ => XS.lstore X4.here hx rfl (hb hby at_132) rfl (l' := #[.val (.int p0), .val (.int p1), .val (.int p2), .val (.int p3), .val (.int p4), .val (.int ka), .val (.int va), .val (.int kb), .val (.int vb), .val (.int (0 : Int32)), .val (.int (0 : Int32)), .val (.ref b1), .val (.ref b2), .val (.ref b3), .val (.ref b4), .val (.long ((ka.toInt64) + (va.toInt64))), .second, .val (.long ((kb.toInt64) + (vb.toInt64))), .second, .unset, .unset, .unset, .unset, .unset, .unset]) rfl) ?_
      show own_Ends p e below T4 (mkF m 134 #[.val (.int p0), .val (.int p1), .val (.int p2), .val (.int p3), .val (.int p4), .val (.int ka), .val (.int va), .val (.int kb), .val (.int vb), .val (.int (0 : Int32)), .val (.int (0 : Int32)), .val (.ref b1), .val (.ref b2), .val (.ref b3), .val (.ref b4), .val (.long ((ka.toInt64) + (va.toInt64))), .second, .val (.long ((kb.toInt64) + (vb.toInt64))), .second, .unset, .unset, .unset, .unset, .unset, .unset] []) _
      refine own_go (fun _ => XS.lload X4.here hx rfl (hb hby at_134) rfl) ?_
      show own_Ends p e below T4 (mkF m 136 #[.val (.int p0), .val (.int p1), .val (.int p2), .val (.int p3), .val (.int p4), .val (.int ka), .val (.int va), .val (.int kb), .val (.int vb), .val (.int (0 : Int32)), .val (.int (0 : Int32)), .val (.ref b1), .val (.ref b2), .val (.ref b3), .val (.ref b4), .val (.long ((ka.toInt64) + (va.toInt64))), .second, .val (.long ((kb.toInt64) + (vb.toInt64))), .second, .unset, .unset, .unset, .unset, .unset, .unset] [(.long ((ka.toInt64) + (va.toInt64)))]) _
      refine own_go (fun _ => XS.lload X4.here hx rfl (hb hby at_136) rfl) ?_
      show own_Ends p e below T4 (mkF m 138 #[.val (.int p0), .val (.int p1), .val (.int p2), .val (.int p3), .val (.int p4), .val (.int ka), .val (.int va), .val (.int kb), .val (.int vb), .val (.int (0 : Int32)), .val (.int (0 : Int32)), .val (.ref b1), .val (.ref b2), .val (.ref b3), .val (.ref b4), .val (.long ((ka.toInt64) + (va.toInt64))), .second, .val (.long ((kb.toInt64) + (vb.toInt64))), .second, .unset, .unset, .unset, .unset, .unset, .unset] [(.long ((kb.toInt64) + (vb.toInt64))), (.long ((ka.toInt64) + (va.toInt64)))]) _
      refine own_go (fun _ => XS.ladd X4.here hx rfl (hb hby at_138) rfl) ?_
      show own_Ends p e below T4 (mkF m 139 #[.val (.int p0), .val (.int p1), .val (.int p2), .val (.int p3), .val (.int p4), .val (.int ka), .val (.int va), .val (.int kb), .val (.int vb), .val (.int (0 : Int32)), .val (.int (0 : Int32)), .val (.ref b1), .val (.ref b2), .val (.ref b3), .val (.ref b4), .val (.long ((ka.toInt64) + (va.toInt64))), .second, .val (.long ((kb.toInt64) + (vb.toInt64))), .second, .unset, .unset, .unset, .unset, .unset, .unset] [(.long (((ka.toInt64) + (va.toInt64)) + ((kb.toInt64) + (vb.toInt64))))]) _
      refine own_go (fun _ => XS.lstore X4.here hx rfl (hb hby at_139) rfl (l' := #[.val (.int p0), .val (.int p1), .val (.int p2), .val (.int p3), .val (.int p4), .val (.int ka), .val (.int va), .val (.int kb), .val (.int vb), .val (.int (0 : Int32)), .val (.int (0 : Int32)), .val (.ref b1), .val (.ref b2), .val (.ref b3), .val (.ref b4), .val (.long ((ka.toInt64) + (va.toInt64))), .second, .val (.long ((kb.toInt64) + (vb.toInt64))), .second, .val (.long (((ka.toInt64) + (va.toInt64)) + ((kb.toInt64) + (vb.toInt64)))), .second, .unset, .unset, .unset, .unset]) rfl) ?_
      show own_Ends p e below T4 (mkF m 141 #[.val (.int p0), .val (.int p1), .val (.int p2), .val (.int p3), .val (.int p4), .val (.int ka), .val (.int va), .val (.int kb), .val (.int vb), .val (.int (0 : Int32)), .val (.int (0 : Int32)), .val (.ref b1), .val (.ref b2), .val (.ref b3), .val (.ref b4), .val (.long ((ka.toInt64) + (va.toInt64))), .second, .val (.long ((kb.toInt64) + (vb.toInt64))), .second, .val (.long (((ka.toInt64) + (va.toInt64)) + ((kb.toInt64) + (vb.toInt64)))), .second, .unset, .unset, .unset, .unset] []) _
      have ht := own_bt (own_b2 hka hva) (own_b2 hkb hvb)
      generalize gt : (((ka.toInt64) + (va.toInt64)) + ((kb.toInt64) + (vb.toInt64))) = t at ht ⊢
      obtain ⟨T5, h5, X5, e5, E5, A5, D5, -, st5⟩ := newO X4 hx hZ hown (hw _ (List.mem_of_getElem? (i := 1) rfl)) (hw _ (List.mem_of_getElem? (i := 2) rfl)) (hw _ (List.mem_of_getElem? (i := 3) rfl)) e4 (g := (mkF m 141 #[.val (.int p0), .val (.int p1), .val (.int p2), .val (.int p3), .val (.int p4), .val (.int ka), .val (.int va), .val (.int kb), .val (.int vb), .val (.int (0 : Int32)), .val (.int (0 : Int32)), .val (.ref b1), .val (.ref b2), .val (.ref b3), .val (.ref b4), .val (.long ((ka.toInt64) + (va.toInt64))), .second, .val (.long ((kb.toInt64) + (vb.toInt64))), .second, .val (.long t), .second, .unset, .unset, .unset, .unset] [])) rfl (hb hby at_141) (by decide) (by decide)
      obtain ⟨b5, g5⟩ : ∃ z, z = h4.size := ⟨_, rfl⟩
      rw [← g5] at A5 D5 st5
      refine own_go st5 ?_
      have g_b5 : n0 ≤ b5 := Nat.le_trans Z4 (Nat.le_of_eq g5.symm)
      have sz_b5 : h0.size ≤ b5 := Nat.le_trans K4.1 (Nat.le_of_eq g5.symm)
      have ne_b1_b5 : b1 ≠ b5 := Nat.ne_of_lt (Nat.lt_of_lt_of_le B_b1.lt (Nat.le_of_eq g5.symm))
      have ne_b2_b5 : b2 ≠ b5 := Nat.ne_of_lt (Nat.lt_of_lt_of_le B_b2.lt (Nat.le_of_eq g5.symm))
      have ne_b3_b5 : b3 ≠ b5 := Nat.ne_of_lt (Nat.lt_of_lt_of_le B_b3.lt (Nat.le_of_eq g5.symm))
      have ne_b4_b5 : b4 ≠ b5 := Nat.ne_of_lt (Nat.lt_of_lt_of_le B_b4.lt (Nat.le_of_eq g5.symm))
      replace B_b1 := B_b1.ext E5
      replace B_b2 := B_b2.ext E5
      replace B_b3 := B_b3.ext E5
      replace B_b4 := B_b4.ext E5
      have K5 := K4.ext E5
      have Z5 : n0 ≤ h5.size := Nat.le_trans Z0 K5.1
      have F_b5_entries : Fld Z h5 b5 "com/example/wedge/wedge/Batch$Size" "entries" "J" (.long (0 : Int64)) := D5 (Or.inl (hw _ (List.mem_of_getElem? (i := 16) rfl))) (ty := .long) (by decide)
      have F_b5_bytes : Fld Z h5 b5 "com/example/wedge/wedge/Batch$Size" "bytes" "J" (.long (0 : Int64)) := D5 (Or.inl (hw _ (List.mem_of_getElem? (i := 18) rfl))) (ty := .long) (by decide)
      show own_Ends p e below T5 (mkF m 144 #[.val (.int p0), .val (.int p1), .val (.int p2), .val (.int p3), .val (.int p4), .val (.int ka), .val (.int va), .val (.int kb), .val (.int vb), .val (.int (0 : Int32)), .val (.int (0 : Int32)), .val (.ref b1), .val (.ref b2), .val (.ref b3), .val (.ref b4), .val (.long ((ka.toInt64) + (va.toInt64))), .second, .val (.long ((kb.toInt64) + (vb.toInt64))), .second, .val (.long t), .second, .unset, .unset, .unset, .unset] [(.ref b5)]) _
      refine own_go (fun _ => XS.dup X5.here hx rfl (hb hby at_144) rfl rfl) ?_
      show own_Ends p e below T5 (mkF m 145 #[.val (.int p0), .val (.int p1), .val (.int p2), .val (.int p3), .val (.int p4), .val (.int ka), .val (.int va), .val (.int kb), .val (.int vb), .val (.int (0 : Int32)), .val (.int (0 : Int32)), .val (.ref b1), .val (.ref b2), .val (.ref b3), .val (.ref b4), .val (.long ((ka.toInt64) + (va.toInt64))), .second, .val (.long ((kb.toInt64) + (vb.toInt64))), .second, .val (.long t), .second, .unset, .unset, .unset, .unset] [(.ref b5), (.ref b5)]) _
      obtain ⟨_, _, ⟨T6, L6, k6, n6⟩, -, X6, ⟨Lc6, hQ6, l6, y6, z6⟩, st6⟩ := X5.specialBack hx (y := (⟨"com/example/wedge/wedge/Batch$Size", "<init>", "()V"⟩ : MethodName)) rfl hown (mvT hZ (hw _ (List.mem_of_getElem? (i := 4) rfl))) (mvT hZ (hw _ (List.mem_of_getElem? (i := 5) rfl))) (mvT hZ (hw _ (List.mem_of_getElem? (i := 6) rfl))) (by decide) (backOf (W := 1) (rmSInit l Z a0 hw [] b5  h5 n0 Z5 ) hZ (hw _ (List.mem_of_getElem? (i := 6) rfl)) (hw _ (List.mem_of_getElem? (i := 3) rfl)) (by decide) (by decide)) (g := (mkF m 145 #[.val (.int p0), .val (.int p1), .val (.int p2), .val (.int p3), .val (.int p4), .val (.int ka), .val (.int va), .val (.int kb), .val (.int vb), .val (.int (0 : Int32)), .val (.int (0 : Int32)), .val (.ref b1), .val (.ref b2), .val (.ref b3), .val (.ref b4), .val (.long ((ka.toInt64) + (va.toInt64))), .second, .val (.long ((kb.toInt64) + (vb.toInt64))), .second, .val (.long t), .second, .unset, .unset, .unset, .unset] [(.ref b5), (.ref b5)])) rfl (by rw [hml]; rfl) (Steps.refl _) (a := b5) (argsL := []) (rest := [(.ref b5)]) (lenOf pd_0 rfl) rfl (by show 2 * 0 + _ ≤ _; exact Nat.le_of_eq rfl) (hb hby at_145) (fun _ _ => ⟨rfl, e5, (by decide : 5 + 0 ≤ _), (by decide : 62 + 0 ≤ _)⟩)
      dsimp only [Pt.U, Pt.locs, Pt.cells, Pt.slots] at X6 l6 y6 z6 st6 hQ6
      subst l6 y6 z6
      refine own_go (fun _ k => st6.trans k) ?_
      obtain ⟨rfl, N6q, eh6⟩ := hQ6
      have N6 := Fr.app N0 N6q
      show own_Ends p e below T6 (mkF m 148 #[.val (.int p0), .val (.int p1), .val (.int p2), .val (.int p3), .val (.int p4), .val (.int ka), .val (.int va), .val (.int kb), .val (.int vb), .val (.int (0 : Int32)), .val (.int (0 : Int32)), .val (.ref b1), .val (.ref b2), .val (.ref b3), .val (.ref b4), .val (.long ((ka.toInt64) + (va.toInt64))), .second, .val (.long ((kb.toInt64) + (vb.toInt64))), .second, .val (.long t), .second, .unset, .unset, .unset, .unset] [(.ref b5)]) _
      refine own_go (fun _ => XS.astore X6.here hx rfl (hb hby at_148) rfl rfl (l' := #[.val (.int p0), .val (.int p1), .val (.int p2), .val (.int p3), .val (.int p4), .val (.int ka), .val (.int va), .val (.int kb), .val (.int vb), .val (.int (0 : Int32)), .val (.int (0 : Int32)), .val (.ref b1), .val (.ref b2), .val (.ref b3), .val (.ref b4), .val (.long ((ka.toInt64) + (va.toInt64))), .second, .val (.long ((kb.toInt64) + (vb.toInt64))), .second, .val (.long t), .second, .val (.ref b5), .unset, .unset, .unset]) rfl) ?_
      show own_Ends p e below T6 (mkF m 150 #[.val (.int p0), .val (.int p1), .val (.int p2), .val (.int p3), .val (.int p4), .val (.int ka), .val (.int va), .val (.int kb), .val (.int vb), .val (.int (0 : Int32)), .val (.int (0 : Int32)), .val (.ref b1), .val (.ref b2), .val (.ref b3), .val (.ref b4), .val (.long ((ka.toInt64) + (va.toInt64))), .second, .val (.long ((kb.toInt64) + (vb.toInt64))), .second, .val (.long t), .second, .val (.ref b5), .unset, .unset, .unset] []) _
      refine own_go (fun _ => XS.aload X6.here hx rfl (hb hby at_150) rfl rfl) ?_
      show own_Ends p e below T6 (mkF m 152 #[.val (.int p0), .val (.int p1), .val (.int p2), .val (.int p3), .val (.int p4), .val (.int ka), .val (.int va), .val (.int kb), .val (.int vb), .val (.int (0 : Int32)), .val (.int (0 : Int32)), .val (.ref b1), .val (.ref b2), .val (.ref b3), .val (.ref b4), .val (.long ((ka.toInt64) + (va.toInt64))), .second, .val (.long ((kb.toInt64) + (vb.toInt64))), .second, .val (.long t), .second, .val (.ref b5), .unset, .unset, .unset] [(.ref b5)]) _
      refine own_go (fun _ => XS.aload X6.here hx rfl (hb hby at_152) rfl rfl) ?_
      show own_Ends p e below T6 (mkF m 154 #[.val (.int p0), .val (.int p1), .val (.int p2), .val (.int p3), .val (.int p4), .val (.int ka), .val (.int va), .val (.int kb), .val (.int vb), .val (.int (0 : Int32)), .val (.int (0 : Int32)), .val (.ref b1), .val (.ref b2), .val (.ref b3), .val (.ref b4), .val (.long ((ka.toInt64) + (va.toInt64))), .second, .val (.long ((kb.toInt64) + (vb.toInt64))), .second, .val (.long t), .second, .val (.ref b5), .unset, .unset, .unset] [(.ref b1), (.ref b5)]) _
      refine own_go (fun _ => XS.aload X6.here hx rfl (hb hby at_154) rfl rfl) ?_
      show own_Ends p e below T6 (mkF m 156 #[.val (.int p0), .val (.int p1), .val (.int p2), .val (.int p3), .val (.int p4), .val (.int ka), .val (.int va), .val (.int kb), .val (.int vb), .val (.int (0 : Int32)), .val (.int (0 : Int32)), .val (.ref b1), .val (.ref b2), .val (.ref b3), .val (.ref b4), .val (.long ((ka.toInt64) + (va.toInt64))), .second, .val (.long ((kb.toInt64) + (vb.toInt64))), .second, .val (.long t), .second, .val (.ref b5), .unset, .unset, .unset] [(.ref b3), (.ref b1), (.ref b5)]) _
      obtain ⟨cq7, kq7, q7a, q7b, q7c⟩ := isOf hZ eh6 A5
      obtain ⟨_, _, ⟨T7, L7, k7, n7⟩, -, X7, ⟨Lc7, hQ7, l7, y7, z7⟩, st7⟩ := X6.virtualBack hx (y := (⟨"com/example/wedge/wedge/Batch$Size", "add", "([B[B)V"⟩ : MethodName)) (z := (⟨"com/example/wedge/wedge/Batch$Size", "add", "([B[B)V"⟩ : MethodName)) hown (mvT hZ (hw _ (List.mem_of_getElem? (i := 10) rfl))) (mvT hZ (hw _ (List.mem_of_getElem? (i := 11) rfl))) (notFace_of_selects (args := #[]) (mvT hZ (hw _ (List.mem_of_getElem? (i := 13) rfl)))) (mvT hZ (hw _ (List.mem_of_getElem? (i := 13) rfl))) (mvT hZ (hw _ (List.mem_of_getElem? (i := 12) rfl))) (by decide) (backOf (W := 0) (rmAddr l Z a0 hw [] b5 b1 b3 ((0 : Int64)) ((0 : Int64)) ka va h5 n0 Z5 A5 F_b5_entries F_b5_bytes g_b5 B_b1 B_b3 ne_b1_b5 ne_b3_b5) hZ (hw _ (List.mem_of_getElem? (i := 14) rfl)) (hw _ (List.mem_of_getElem? (i := 3) rfl)) (by decide) (by decide)) q7a q7c (g := (mkF m 156 #[.val (.int p0), .val (.int p1), .val (.int p2), .val (.int p3), .val (.int p4), .val (.int ka), .val (.int va), .val (.int kb), .val (.int vb), .val (.int (0 : Int32)), .val (.int (0 : Int32)), .val (.ref b1), .val (.ref b2), .val (.ref b3), .val (.ref b4), .val (.long ((ka.toInt64) + (va.toInt64))), .second, .val (.long ((kb.toInt64) + (vb.toInt64))), .second, .val (.long t), .second, .val (.ref b5), .unset, .unset, .unset] [(.ref b3), (.ref b1), (.ref b5)])) rfl (by rw [hml]; rfl) (Steps.refl _) (argsL := [(.ref b1), (.ref b3)]) (rest := []) (lenOf pd_3 rfl) rfl (by show 2 * 0 + _ ≤ _; exact Nat.le_of_eq rfl) (hb hby at_156) (fun _ _ => ⟨rfl, eh6, (by decide : 5 + 0 ≤ _), (by decide : 62 + 0 ≤ _)⟩)
      dsimp only [Pt.U, Pt.locs, Pt.cells, Pt.slots] at X7 l7 y7 z7 st7 hQ7
      subst l7 y7 z7
      refine own_go (fun _ k => st7.trans k) ?_
      obtain ⟨rfl, N7q, Kq7, Eq7, F7_entries, F7_bytes⟩ := hQ7
      replace B_b1 := B_b1.keep Kq7 (ninS ne_b1_b5 nin0)
      replace B_b2 := B_b2.keep Kq7 (ninS ne_b2_b5 nin0)
      replace B_b3 := B_b3.keep Kq7 (ninS ne_b3_b5 nin0)
      replace B_b4 := B_b4.keep Kq7 (ninS ne_b4_b5 nin0)
      replace A5 := A5.keep Kq7
      have K7 := K5.trans Kq7 (allS (Or.inr sz_b5) all0)
      have Z7 : n0 ≤ T7.heap.size := Nat.le_trans Z0 K7.1
      clear Eq7
      have N7 := Fr.app N6 N7q
      show own_Ends p e below T7 (mkF m 159 #[.val (.int p0), .val (.int p1), .val (.int p2), .val (.int p3), .val (.int p4), .val (.int ka), .val (.int va), .val (.int kb), .val (.int vb), .val (.int (0 : Int32)), .val (.int (0 : Int32)), .val (.ref b1), .val (.ref b2), .val (.ref b3), .val (.ref b4), .val (.long ((ka.toInt64) + (va.toInt64))), .second, .val (.long ((kb.toInt64) + (vb.toInt64))), .second, .val (.long t), .second, .val (.ref b5), .unset, .unset, .unset] []) _
      refine own_go (fun _ => XS.aload X7.here hx rfl (hb hby at_159) rfl rfl) ?_
      show own_Ends p e below T7 (mkF m 161 #[.val (.int p0), .val (.int p1), .val (.int p2), .val (.int p3), .val (.int p4), .val (.int ka), .val (.int va), .val (.int kb), .val (.int vb), .val (.int (0 : Int32)), .val (.int (0 : Int32)), .val (.ref b1), .val (.ref b2), .val (.ref b3), .val (.ref b4), .val (.long ((ka.toInt64) + (va.toInt64))), .second, .val (.long ((kb.toInt64) + (vb.toInt64))), .second, .val (.long t), .second, .val (.ref b5), .unset, .unset, .unset] [(.ref b5)]) _
      refine own_go (fun _ => XS.aload X7.here hx rfl (hb hby at_161) rfl rfl) ?_
      show own_Ends p e below T7 (mkF m 163 #[.val (.int p0), .val (.int p1), .val (.int p2), .val (.int p3), .val (.int p4), .val (.int ka), .val (.int va), .val (.int kb), .val (.int vb), .val (.int (0 : Int32)), .val (.int (0 : Int32)), .val (.ref b1), .val (.ref b2), .val (.ref b3), .val (.ref b4), .val (.long ((ka.toInt64) + (va.toInt64))), .second, .val (.long ((kb.toInt64) + (vb.toInt64))), .second, .val (.long t), .second, .val (.ref b5), .unset, .unset, .unset] [(.ref b2), (.ref b5)]) _
      refine own_go (fun _ => XS.aload X7.here hx rfl (hb hby at_163) rfl rfl) ?_
      show own_Ends p e below T7 (mkF m 165 #[.val (.int p0), .val (.int p1), .val (.int p2), .val (.int p3), .val (.int p4), .val (.int ka), .val (.int va), .val (.int kb), .val (.int vb), .val (.int (0 : Int32)), .val (.int (0 : Int32)), .val (.ref b1), .val (.ref b2), .val (.ref b3), .val (.ref b4), .val (.long ((ka.toInt64) + (va.toInt64))), .second, .val (.long ((kb.toInt64) + (vb.toInt64))), .second, .val (.long t), .second, .val (.ref b5), .unset, .unset, .unset] [(.ref b4), (.ref b2), (.ref b5)]) _
      obtain ⟨cq8, kq8, q8a, q8b, q8c⟩ := isOf hZ rfl A5
      obtain ⟨_, _, ⟨T8, L8, k8, n8⟩, -, X8, ⟨Lc8, hQ8, l8, y8, z8⟩, st8⟩ := X7.virtualBack hx (y := (⟨"com/example/wedge/wedge/Batch$Size", "add", "([B[B)V"⟩ : MethodName)) (z := (⟨"com/example/wedge/wedge/Batch$Size", "add", "([B[B)V"⟩ : MethodName)) hown (mvT hZ (hw _ (List.mem_of_getElem? (i := 10) rfl))) (mvT hZ (hw _ (List.mem_of_getElem? (i := 11) rfl))) (notFace_of_selects (args := #[]) (mvT hZ (hw _ (List.mem_of_getElem? (i := 13) rfl)))) (mvT hZ (hw _ (List.mem_of_getElem? (i := 13) rfl))) (mvT hZ (hw _ (List.mem_of_getElem? (i := 12) rfl))) (by decide) (backOf (W := 0) (rmAddr l Z a0 hw [] b5 b2 b4 (((0 : Int64) + (1 : Int64))) (((0 : Int64) + ((ka + va).toInt64))) kb vb (T7.heap) n0 Z7 A5 F7_entries F7_bytes g_b5 B_b2 B_b4 ne_b2_b5 ne_b4_b5) hZ (hw _ (List.mem_of_getElem? (i := 14) rfl)) (hw _ (List.mem_of_getElem? (i := 3) rfl)) (by decide) (by decide)) q8a q8c (g := (mkF m 165 #[.val (.int p0), .val (.int p1), .val (.int p2), .val (.int p3), .val (.int p4), .val (.int ka), .val (.int va), .val (.int kb), .val (.int vb), .val (.int (0 : Int32)), .val (.int (0 : Int32)), .val (.ref b1), .val (.ref b2), .val (.ref b3), .val (.ref b4), .val (.long ((ka.toInt64) + (va.toInt64))), .second, .val (.long ((kb.toInt64) + (vb.toInt64))), .second, .val (.long t), .second, .val (.ref b5), .unset, .unset, .unset] [(.ref b4), (.ref b2), (.ref b5)])) rfl (by rw [hml]; rfl) (Steps.refl _) (argsL := [(.ref b2), (.ref b4)]) (rest := []) (lenOf pd_3 rfl) rfl (by show 2 * 0 + _ ≤ _; exact Nat.le_of_eq rfl) (hb hby at_165) (fun _ _ => ⟨rfl, rfl, (by decide : 5 + 0 ≤ _), (by decide : 62 + 0 ≤ _)⟩)
      dsimp only [Pt.U, Pt.locs, Pt.cells, Pt.slots] at X8 l8 y8 z8 st8 hQ8
      subst l8 y8 z8
      refine own_go (fun _ k => st8.trans k) ?_
      obtain ⟨rfl, N8q, Kq8, Eq8, F8_entries, F8_bytes⟩ := hQ8
      replace B_b1 := B_b1.keep Kq8 (ninS ne_b1_b5 nin0)
      replace B_b2 := B_b2.keep Kq8 (ninS ne_b2_b5 nin0)
      replace B_b3 := B_b3.keep Kq8 (ninS ne_b3_b5 nin0)
      replace B_b4 := B_b4.keep Kq8 (ninS ne_b4_b5 nin0)
      replace A5 := A5.keep Kq8
      have K8 := K7.trans Kq8 (allS (Or.inr sz_b5) all0)
      have Z8 : n0 ≤ T8.heap.size := Nat.le_trans Z0 K8.1
      clear Eq8
      have N8 := Fr.app N7 N8q
      show own_Ends p e below T8 (mkF m 168 #[.val (.int p0), .val (.int p1), .val (.int p2), .val (.int p3), .val (.int p4), .val (.int ka), .val (.int va), .val (.int kb), .val (.int vb), .val (.int (0 : Int32)), .val (.int (0 : Int32)), .val (.ref b1), .val (.ref b2), .val (.ref b3), .val (.ref b4), .val (.long ((ka.toInt64) + (va.toInt64))), .second, .val (.long ((kb.toInt64) + (vb.toInt64))), .second, .val (.long t), .second, .val (.ref b5), .unset, .unset, .unset] []) _
      have hen : (((0 : Int64) + (1 : Int64)) + (1 : Int64)) = (2 : Int64) := by decide
      rw [hen] at F8_entries
      have hbyt : (((0 : Int64) + ((ka + va).toInt64)) + ((kb + vb).toInt64)) = t := own_tot gt (own_two hka hva) (own_two hkb hvb)
      rw [hbyt] at F8_bytes
      refine own_go (fun _ => XS.aload X8.here hx rfl (hb hby at_168) rfl rfl) ?_
      show own_Ends p e below T8 (mkF m 170 #[.val (.int p0), .val (.int p1), .val (.int p2), .val (.int p3), .val (.int p4), .val (.int ka), .val (.int va), .val (.int kb), .val (.int vb), .val (.int (0 : Int32)), .val (.int (0 : Int32)), .val (.ref b1), .val (.ref b2), .val (.ref b3), .val (.ref b4), .val (.long ((ka.toInt64) + (va.toInt64))), .second, .val (.long ((kb.toInt64) + (vb.toInt64))), .second, .val (.long t), .second, .val (.ref b5), .unset, .unset, .unset] [(.ref b5)]) _
      obtain ⟨T9, h9, X9, e9, E9, A9, D9, -, st9⟩ := newO X8 hx hZ hown (hw _ (List.mem_of_getElem? (i := 19) rfl)) (hw _ (List.mem_of_getElem? (i := 20) rfl)) (hw _ (List.mem_of_getElem? (i := 21) rfl)) rfl (g := (mkF m 170 #[.val (.int p0), .val (.int p1), .val (.int p2), .val (.int p3), .val (.int p4), .val (.int ka), .val (.int va), .val (.int kb), .val (.int vb), .val (.int (0 : Int32)), .val (.int (0 : Int32)), .val (.ref b1), .val (.ref b2), .val (.ref b3), .val (.ref b4), .val (.long ((ka.toInt64) + (va.toInt64))), .second, .val (.long ((kb.toInt64) + (vb.toInt64))), .second, .val (.long t), .second, .val (.ref b5), .unset, .unset, .unset] [(.ref b5)])) rfl (hb hby at_170) (by decide) (by decide)
      obtain ⟨b9, g9⟩ : ∃ z, z = T8.heap.size := ⟨_, rfl⟩
      rw [← g9] at A9 D9 st9
      refine own_go st9 ?_
      have g_b9 : n0 ≤ b9 := Nat.le_trans Z8 (Nat.le_of_eq g9.symm)
      have sz_b9 : h0.size ≤ b9 := Nat.le_trans K8.1 (Nat.le_of_eq g9.symm)
      have ne_b1_b9 : b1 ≠ b9 := Nat.ne_of_lt (Nat.lt_of_lt_of_le B_b1.lt (Nat.le_of_eq g9.symm))
      have ne_b2_b9 : b2 ≠ b9 := Nat.ne_of_lt (Nat.lt_of_lt_of_le B_b2.lt (Nat.le_of_eq g9.symm))
      have ne_b3_b9 : b3 ≠ b9 := Nat.ne_of_lt (Nat.lt_of_lt_of_le B_b3.lt (Nat.le_of_eq g9.symm))
      have ne_b4_b9 : b4 ≠ b9 := Nat.ne_of_lt (Nat.lt_of_lt_of_le B_b4.lt (Nat.le_of_eq g9.symm))
      have ne_b5_b9 : b5 ≠ b9 := Nat.ne_of_lt (Nat.lt_of_lt_of_le A5.lt (Nat.le_of_eq g9.symm))
      replace B_b1 := B_b1.ext E9
      replace B_b2 := B_b2.ext E9
      replace B_b3 := B_b3.ext E9
      replace B_b4 := B_b4.ext E9
      replace A5 := A5.ext E9
      replace F8_entries := F8_entries.ext E9
      replace F8_bytes := F8_bytes.ext E9
      have K9 := K8.ext E9
      have Z9 : n0 ≤ h9.size := Nat.le_trans Z0 K9.1
      have F_b9_entries : Fld Z h9 b9 "com/example/wedge/wedge/Batch$Limit" "entries" "I" (.int (0 : Int32)) := D9 (Or.inr (hw _ (List.mem_of_getElem? (i := 32) rfl))) (ty := .int) (by decide)
      have F_b9_bytes : Fld Z h9 b9 "com/example/wedge/wedge/Batch$Limit" "bytes" "J" (.long (0 : Int64)) := D9 (Or.inr (hw _ (List.mem_of_getElem? (i := 34) rfl))) (ty := .long) (by decide)
      show own_Ends p e below T9 (mkF m 173 #[.val (.int p0), .val (.int p1), .val (.int p2), .val (.int p3), .val (.int p4), .val (.int ka), .val (.int va), .val (.int kb), .val (.int vb), .val (.int (0 : Int32)), .val (.int (0 : Int32)), .val (.ref b1), .val (.ref b2), .val (.ref b3), .val (.ref b4), .val (.long ((ka.toInt64) + (va.toInt64))), .second, .val (.long ((kb.toInt64) + (vb.toInt64))), .second, .val (.long t), .second, .val (.ref b5), .unset, .unset, .unset] [(.ref b9), (.ref b5)]) _
      refine own_go (fun _ => XS.dup X9.here hx rfl (hb hby at_173) rfl rfl) ?_
      show own_Ends p e below T9 (mkF m 174 #[.val (.int p0), .val (.int p1), .val (.int p2), .val (.int p3), .val (.int p4), .val (.int ka), .val (.int va), .val (.int kb), .val (.int vb), .val (.int (0 : Int32)), .val (.int (0 : Int32)), .val (.ref b1), .val (.ref b2), .val (.ref b3), .val (.ref b4), .val (.long ((ka.toInt64) + (va.toInt64))), .second, .val (.long ((kb.toInt64) + (vb.toInt64))), .second, .val (.long t), .second, .val (.ref b5), .unset, .unset, .unset] [(.ref b9), (.ref b9), (.ref b5)]) _
      refine own_go (fun _ => XS.iconst X9.here hx rfl (hb hby at_174)) ?_
      show own_Ends p e below T9 (mkF m 175 #[.val (.int p0), .val (.int p1), .val (.int p2), .val (.int p3), .val (.int p4), .val (.int ka), .val (.int va), .val (.int kb), .val (.int vb), .val (.int (0 : Int32)), .val (.int (0 : Int32)), .val (.ref b1), .val (.ref b2), .val (.ref b3), .val (.ref b4), .val (.long ((ka.toInt64) + (va.toInt64))), .second, .val (.long ((kb.toInt64) + (vb.toInt64))), .second, .val (.long t), .second, .val (.ref b5), .unset, .unset, .unset] [(.int (2 : Int32)), (.ref b9), (.ref b9), (.ref b5)]) _
      refine own_go (fun _ => XS.lload X9.here hx rfl (hb hby at_175) rfl) ?_
      show own_Ends p e below T9 (mkF m 177 #[.val (.int p0), .val (.int p1), .val (.int p2), .val (.int p3), .val (.int p4), .val (.int ka), .val (.int va), .val (.int kb), .val (.int vb), .val (.int (0 : Int32)), .val (.int (0 : Int32)), .val (.ref b1), .val (.ref b2), .val (.ref b3), .val (.ref b4), .val (.long ((ka.toInt64) + (va.toInt64))), .second, .val (.long ((kb.toInt64) + (vb.toInt64))), .second, .val (.long t), .second, .val (.ref b5), .unset, .unset, .unset] [(.long t), (.int (2 : Int32)), (.ref b9), (.ref b9), (.ref b5)]) _
      obtain ⟨_, _, ⟨T10, L10, k10, n10⟩, -, X10, ⟨Lc10, hQ10, l10, y10, z10⟩, st10⟩ := X9.specialBack hx (y := (⟨"com/example/wedge/wedge/Batch$Limit", "<init>", "(IJ)V"⟩ : MethodName)) rfl hown (mvT hZ (hw _ (List.mem_of_getElem? (i := 22) rfl))) (mvT hZ (hw _ (List.mem_of_getElem? (i := 23) rfl))) (mvT hZ (hw _ (List.mem_of_getElem? (i := 24) rfl))) (by decide) (backOf (W := 2) (rmLInit l Z a0 hw [] b9 ((2 : Int32)) t  h9 n0 Z9 A9 F_b9_entries F_b9_bytes g_b9) hZ (hw _ (List.mem_of_getElem? (i := 24) rfl)) (hw _ (List.mem_of_getElem? (i := 21) rfl)) (by decide) (by decide)) (g := (mkF m 177 #[.val (.int p0), .val (.int p1), .val (.int p2), .val (.int p3), .val (.int p4), .val (.int ka), .val (.int va), .val (.int kb), .val (.int vb), .val (.int (0 : Int32)), .val (.int (0 : Int32)), .val (.ref b1), .val (.ref b2), .val (.ref b3), .val (.ref b4), .val (.long ((ka.toInt64) + (va.toInt64))), .second, .val (.long ((kb.toInt64) + (vb.toInt64))), .second, .val (.long t), .second, .val (.ref b5), .unset, .unset, .unset] [(.long t), (.int (2 : Int32)), (.ref b9), (.ref b9), (.ref b5)])) rfl (by rw [hml]; rfl) (Steps.refl _) (a := b9) (argsL := [(.int (2 : Int32)), (.long t)]) (rest := [(.ref b9), (.ref b5)]) (lenOf pd_4 rfl) rfl (by show 2 * 0 + _ ≤ _; exact Nat.le_of_eq rfl) (hb hby at_177) (fun _ _ => ⟨rfl, e9, (by decide : 6 + 0 ≤ _), (by decide : 64 + 0 ≤ _)⟩)
      dsimp only [Pt.U, Pt.locs, Pt.cells, Pt.slots] at X10 l10 y10 z10 st10 hQ10
      subst l10 y10 z10
      refine own_go (fun _ k => st10.trans k) ?_
      obtain ⟨rfl, N10q, Kq10, Eq10, F10_entries, F10_bytes⟩ := hQ10
      replace B_b1 := B_b1.keep Kq10 (ninS ne_b1_b9 nin0)
      replace B_b2 := B_b2.keep Kq10 (ninS ne_b2_b9 nin0)
      replace B_b3 := B_b3.keep Kq10 (ninS ne_b3_b9 nin0)
      replace B_b4 := B_b4.keep Kq10 (ninS ne_b4_b9 nin0)
      replace A5 := A5.keep Kq10
      replace F8_entries := F8_entries.keep Kq10 (ninS ne_b5_b9 nin0)
      replace F8_bytes := F8_bytes.keep Kq10 (ninS ne_b5_b9 nin0)
      replace A9 := A9.keep Kq10
      have K10 := K9.trans Kq10 (allS (Or.inr sz_b9) all0)
      have Z10 : n0 ≤ T10.heap.size := Nat.le_trans Z0 K10.1
      clear Eq10
      have N10 := Fr.app N8 N10q
      show own_Ends p e below T10 (mkF m 180 #[.val (.int p0), .val (.int p1), .val (.int p2), .val (.int p3), .val (.int p4), .val (.int ka), .val (.int va), .val (.int kb), .val (.int vb), .val (.int (0 : Int32)), .val (.int (0 : Int32)), .val (.ref b1), .val (.ref b2), .val (.ref b3), .val (.ref b4), .val (.long ((ka.toInt64) + (va.toInt64))), .second, .val (.long ((kb.toInt64) + (vb.toInt64))), .second, .val (.long t), .second, .val (.ref b5), .unset, .unset, .unset] [(.ref b9), (.ref b5)]) _
      obtain ⟨cq11, kq11, q11a, q11b, q11c⟩ := isOf hZ rfl A5
      obtain ⟨_, _, ⟨T11, L11, k11, n11⟩, -, X11, ⟨Lc11, hQ11, l11, y11, z11⟩, st11⟩ := X10.virtualBack hx (y := (⟨"com/example/wedge/wedge/Batch$Size", "within", "(Lcom/example/wedge/wedge/Batch$Limit;)Z"⟩ : MethodName)) (z := (⟨"com/example/wedge/wedge/Batch$Size", "within", "(Lcom/example/wedge/wedge/Batch$Limit;)Z"⟩ : MethodName)) hown (mvT hZ (hw _ (List.mem_of_getElem? (i := 35) rfl))) (mvT hZ (hw _ (List.mem_of_getElem? (i := 36) rfl))) (notFace_of_selects (args := #[]) (mvT hZ (hw _ (List.mem_of_getElem? (i := 38) rfl)))) (mvT hZ (hw _ (List.mem_of_getElem? (i := 38) rfl))) (mvT hZ (hw _ (List.mem_of_getElem? (i := 37) rfl))) (by decide) (backOf (W := 0) (rmWithin l Z a0 hw [] b5 b9 ((2 : Int64)) t ((2 : Int32)) t (T10.heap) n0 Z10 F8_entries F8_bytes A9 F10_entries F10_bytes) hZ (hw _ (List.mem_of_getElem? (i := 39) rfl)) (hw _ (List.mem_of_getElem? (i := 3) rfl)) (by decide) (by decide)) q11a q11c (g := (mkF m 180 #[.val (.int p0), .val (.int p1), .val (.int p2), .val (.int p3), .val (.int p4), .val (.int ka), .val (.int va), .val (.int kb), .val (.int vb), .val (.int (0 : Int32)), .val (.int (0 : Int32)), .val (.ref b1), .val (.ref b2), .val (.ref b3), .val (.ref b4), .val (.long ((ka.toInt64) + (va.toInt64))), .second, .val (.long ((kb.toInt64) + (vb.toInt64))), .second, .val (.long t), .second, .val (.ref b5), .unset, .unset, .unset] [(.ref b9), (.ref b5)])) rfl (by rw [hml]; rfl) (Steps.refl _) (argsL := [(.ref b9)]) (rest := []) (lenOf pd_5 rfl) rfl (by show 2 * 0 + _ ≤ _; exact Nat.le_of_eq rfl) (hb hby at_180) (fun _ _ => ⟨rfl, rfl, (by decide : 6 + 0 ≤ _), (by decide : 64 + 0 ≤ _)⟩)
      dsimp only [Pt.U, Pt.locs, Pt.cells, Pt.slots] at X11 l11 y11 z11 st11 hQ11
      subst l11 y11 z11
      refine own_go (fun _ k => st11.trans k) ?_
      obtain ⟨rfl, N11q, eh11⟩ := hQ11
      have N11 := Fr.app N10 N11q
      show own_Ends p e below T11 (mkF m 183 #[.val (.int p0), .val (.int p1), .val (.int p2), .val (.int p3), .val (.int p4), .val (.int ka), .val (.int va), .val (.int kb), .val (.int vb), .val (.int (0 : Int32)), .val (.int (0 : Int32)), .val (.ref b1), .val (.ref b2), .val (.ref b3), .val (.ref b4), .val (.long ((ka.toInt64) + (va.toInt64))), .second, .val (.long ((kb.toInt64) + (vb.toInt64))), .second, .val (.long t), .second, .val (.ref b5), .unset, .unset, .unset] [(.int (own_within ((2 : Int64)) t ((2 : Int32)) t))]) _
      refine own_go (fun _ => XS.istore X11.here hx rfl (hb hby at_183) rfl (l' := #[.val (.int p0), .val (.int p1), .val (.int p2), .val (.int p3), .val (.int p4), .val (.int ka), .val (.int va), .val (.int kb), .val (.int vb), .val (.int (0 : Int32)), .val (.int (0 : Int32)), .val (.ref b1), .val (.ref b2), .val (.ref b3), .val (.ref b4), .val (.long ((ka.toInt64) + (va.toInt64))), .second, .val (.long ((kb.toInt64) + (vb.toInt64))), .second, .val (.long t), .second, .val (.ref b5), .val (.int (own_within ((2 : Int64)) t ((2 : Int32)) t)), .unset, .unset]) rfl) ?_
      show own_Ends p e below T11 (mkF m 185 #[.val (.int p0), .val (.int p1), .val (.int p2), .val (.int p3), .val (.int p4), .val (.int ka), .val (.int va), .val (.int kb), .val (.int vb), .val (.int (0 : Int32)), .val (.int (0 : Int32)), .val (.ref b1), .val (.ref b2), .val (.ref b3), .val (.ref b4), .val (.long ((ka.toInt64) + (va.toInt64))), .second, .val (.long ((kb.toInt64) + (vb.toInt64))), .second, .val (.long t), .second, .val (.ref b5), .val (.int (own_within ((2 : Int64)) t ((2 : Int32)) t)), .unset, .unset] []) _
      refine own_go (fun _ => XS.aload X11.here hx rfl (hb hby at_185) rfl rfl) ?_
      show own_Ends p e below T11 (mkF m 187 #[.val (.int p0), .val (.int p1), .val (.int p2), .val (.int p3), .val (.int p4), .val (.int ka), .val (.int va), .val (.int kb), .val (.int vb), .val (.int (0 : Int32)), .val (.int (0 : Int32)), .val (.ref b1), .val (.ref b2), .val (.ref b3), .val (.ref b4), .val (.long ((ka.toInt64) + (va.toInt64))), .second, .val (.long ((kb.toInt64) + (vb.toInt64))), .second, .val (.long t), .second, .val (.ref b5), .val (.int (own_within ((2 : Int64)) t ((2 : Int32)) t)), .unset, .unset] [(.ref b5)]) _
      obtain ⟨T12, h12, X12, e12, E12, A12, D12, -, st12⟩ := newO X11 hx hZ hown (hw _ (List.mem_of_getElem? (i := 19) rfl)) (hw _ (List.mem_of_getElem? (i := 20) rfl)) (hw _ (List.mem_of_getElem? (i := 21) rfl)) eh11 (g := (mkF m 187 #[.val (.int p0), .val (.int p1), .val (.int p2), .val (.int p3), .val (.int p4), .val (.int ka), .val (.int va), .val (.int kb), .val (.int vb), .val (.int (0 : Int32)), .val (.int (0 : Int32)), .val (.ref b1), .val (.ref b2), .val (.ref b3), .val (.ref b4), .val (.long ((ka.toInt64) + (va.toInt64))), .second, .val (.long ((kb.toInt64) + (vb.toInt64))), .second, .val (.long t), .second, .val (.ref b5), .val (.int (own_within ((2 : Int64)) t ((2 : Int32)) t)), .unset, .unset] [(.ref b5)])) rfl (hb hby at_187) (by decide) (by decide)
      obtain ⟨b12, g12⟩ : ∃ z, z = T10.heap.size := ⟨_, rfl⟩
      rw [← g12] at A12 D12 st12
      refine own_go st12 ?_
      have g_b12 : n0 ≤ b12 := Nat.le_trans Z10 (Nat.le_of_eq g12.symm)
      have sz_b12 : h0.size ≤ b12 := Nat.le_trans K10.1 (Nat.le_of_eq g12.symm)
      have ne_b1_b12 : b1 ≠ b12 := Nat.ne_of_lt (Nat.lt_of_lt_of_le B_b1.lt (Nat.le_of_eq g12.symm))
      have ne_b2_b12 : b2 ≠ b12 := Nat.ne_of_lt (Nat.lt_of_lt_of_le B_b2.lt (Nat.le_of_eq g12.symm))
      have ne_b3_b12 : b3 ≠ b12 := Nat.ne_of_lt (Nat.lt_of_lt_of_le B_b3.lt (Nat.le_of_eq g12.symm))
      have ne_b4_b12 : b4 ≠ b12 := Nat.ne_of_lt (Nat.lt_of_lt_of_le B_b4.lt (Nat.le_of_eq g12.symm))
      have ne_b5_b12 : b5 ≠ b12 := Nat.ne_of_lt (Nat.lt_of_lt_of_le A5.lt (Nat.le_of_eq g12.symm))
      have ne_b9_b12 : b9 ≠ b12 := Nat.ne_of_lt (Nat.lt_of_lt_of_le A9.lt (Nat.le_of_eq g12.symm))
      replace B_b1 := B_b1.ext E12
      replace B_b2 := B_b2.ext E12
      replace B_b3 := B_b3.ext E12
      replace B_b4 := B_b4.ext E12
      replace A5 := A5.ext E12
      replace F8_entries := F8_entries.ext E12
      replace F8_bytes := F8_bytes.ext E12
      replace A9 := A9.ext E12
      replace F10_entries := F10_entries.ext E12
      replace F10_bytes := F10_bytes.ext E12
      have K12 := K10.ext E12
      have Z12 : n0 ≤ h12.size := Nat.le_trans Z0 K12.1
      have F_b12_entries : Fld Z h12 b12 "com/example/wedge/wedge/Batch$Limit" "entries" "I" (.int (0 : Int32)) := D12 (Or.inr (hw _ (List.mem_of_getElem? (i := 32) rfl))) (ty := .int) (by decide)
      have F_b12_bytes : Fld Z h12 b12 "com/example/wedge/wedge/Batch$Limit" "bytes" "J" (.long (0 : Int64)) := D12 (Or.inr (hw _ (List.mem_of_getElem? (i := 34) rfl))) (ty := .long) (by decide)
      show own_Ends p e below T12 (mkF m 190 #[.val (.int p0), .val (.int p1), .val (.int p2), .val (.int p3), .val (.int p4), .val (.int ka), .val (.int va), .val (.int kb), .val (.int vb), .val (.int (0 : Int32)), .val (.int (0 : Int32)), .val (.ref b1), .val (.ref b2), .val (.ref b3), .val (.ref b4), .val (.long ((ka.toInt64) + (va.toInt64))), .second, .val (.long ((kb.toInt64) + (vb.toInt64))), .second, .val (.long t), .second, .val (.ref b5), .val (.int (own_within ((2 : Int64)) t ((2 : Int32)) t)), .unset, .unset] [(.ref b12), (.ref b5)]) _
      refine own_go (fun _ => XS.dup X12.here hx rfl (hb hby at_190) rfl rfl) ?_
      show own_Ends p e below T12 (mkF m 191 #[.val (.int p0), .val (.int p1), .val (.int p2), .val (.int p3), .val (.int p4), .val (.int ka), .val (.int va), .val (.int kb), .val (.int vb), .val (.int (0 : Int32)), .val (.int (0 : Int32)), .val (.ref b1), .val (.ref b2), .val (.ref b3), .val (.ref b4), .val (.long ((ka.toInt64) + (va.toInt64))), .second, .val (.long ((kb.toInt64) + (vb.toInt64))), .second, .val (.long t), .second, .val (.ref b5), .val (.int (own_within ((2 : Int64)) t ((2 : Int32)) t)), .unset, .unset] [(.ref b12), (.ref b12), (.ref b5)]) _
      refine own_go (fun _ => XS.iconst X12.here hx rfl (hb hby at_191)) ?_
      show own_Ends p e below T12 (mkF m 192 #[.val (.int p0), .val (.int p1), .val (.int p2), .val (.int p3), .val (.int p4), .val (.int ka), .val (.int va), .val (.int kb), .val (.int vb), .val (.int (0 : Int32)), .val (.int (0 : Int32)), .val (.ref b1), .val (.ref b2), .val (.ref b3), .val (.ref b4), .val (.long ((ka.toInt64) + (va.toInt64))), .second, .val (.long ((kb.toInt64) + (vb.toInt64))), .second, .val (.long t), .second, .val (.ref b5), .val (.int (own_within ((2 : Int64)) t ((2 : Int32)) t)), .unset, .unset] [(.int (1 : Int32)), (.ref b12), (.ref b12), (.ref b5)]) _
      refine own_go (X12.ldc2Long hx hown (mvT hZ (hw _ (List.mem_of_getElem? (i := 50) rfl))) (g := (mkF m 192 #[.val (.int p0), .val (.int p1), .val (.int p2), .val (.int p3), .val (.int p4), .val (.int ka), .val (.int va), .val (.int kb), .val (.int vb), .val (.int (0 : Int32)), .val (.int (0 : Int32)), .val (.ref b1), .val (.ref b2), .val (.ref b3), .val (.ref b4), .val (.long ((ka.toInt64) + (va.toInt64))), .second, .val (.long ((kb.toInt64) + (vb.toInt64))), .second, .val (.long t), .second, .val (.ref b5), .val (.int (own_within ((2 : Int64)) t ((2 : Int32)) t)), .unset, .unset] [(.int (1 : Int32)), (.ref b12), (.ref b12), (.ref b5)])) rfl (hb hby at_192)) ?_
      show own_Ends p e below T12 (mkF m 195 #[.val (.int p0), .val (.int p1), .val (.int p2), .val (.int p3), .val (.int p4), .val (.int ka), .val (.int va), .val (.int kb), .val (.int vb), .val (.int (0 : Int32)), .val (.int (0 : Int32)), .val (.ref b1), .val (.ref b2), .val (.ref b3), .val (.ref b4), .val (.long ((ka.toInt64) + (va.toInt64))), .second, .val (.long ((kb.toInt64) + (vb.toInt64))), .second, .val (.long t), .second, .val (.ref b5), .val (.int (own_within ((2 : Int64)) t ((2 : Int32)) t)), .unset, .unset] [(.long (9223372036854775807 : Int64)), (.int (1 : Int32)), (.ref b12), (.ref b12), (.ref b5)]) _
      obtain ⟨_, _, ⟨T13, L13, k13, n13⟩, -, X13, ⟨Lc13, hQ13, l13, y13, z13⟩, st13⟩ := X12.specialBack hx (y := (⟨"com/example/wedge/wedge/Batch$Limit", "<init>", "(IJ)V"⟩ : MethodName)) rfl hown (mvT hZ (hw _ (List.mem_of_getElem? (i := 22) rfl))) (mvT hZ (hw _ (List.mem_of_getElem? (i := 23) rfl))) (mvT hZ (hw _ (List.mem_of_getElem? (i := 24) rfl))) (by decide) (backOf (W := 2) (rmLInit l Z a0 hw [] b12 ((1 : Int32)) ((9223372036854775807 : Int64))  h12 n0 Z12 A12 F_b12_entries F_b12_bytes g_b12) hZ (hw _ (List.mem_of_getElem? (i := 24) rfl)) (hw _ (List.mem_of_getElem? (i := 21) rfl)) (by decide) (by decide)) (g := (mkF m 195 #[.val (.int p0), .val (.int p1), .val (.int p2), .val (.int p3), .val (.int p4), .val (.int ka), .val (.int va), .val (.int kb), .val (.int vb), .val (.int (0 : Int32)), .val (.int (0 : Int32)), .val (.ref b1), .val (.ref b2), .val (.ref b3), .val (.ref b4), .val (.long ((ka.toInt64) + (va.toInt64))), .second, .val (.long ((kb.toInt64) + (vb.toInt64))), .second, .val (.long t), .second, .val (.ref b5), .val (.int (own_within ((2 : Int64)) t ((2 : Int32)) t)), .unset, .unset] [(.long (9223372036854775807 : Int64)), (.int (1 : Int32)), (.ref b12), (.ref b12), (.ref b5)])) rfl (by rw [hml]; rfl) (Steps.refl _) (a := b12) (argsL := [(.int (1 : Int32)), (.long (9223372036854775807 : Int64))]) (rest := [(.ref b12), (.ref b5)]) (lenOf pd_4 rfl) rfl (by show 2 * 0 + _ ≤ _; exact Nat.le_of_eq rfl) (hb hby at_195) (fun _ _ => ⟨rfl, e12, (by decide : 7 + 0 ≤ _), (by decide : 66 + 0 ≤ _)⟩)
      dsimp only [Pt.U, Pt.locs, Pt.cells, Pt.slots] at X13 l13 y13 z13 st13 hQ13
      subst l13 y13 z13
      refine own_go (fun _ k => st13.trans k) ?_
      obtain ⟨rfl, N13q, Kq13, Eq13, F13_entries, F13_bytes⟩ := hQ13
      replace B_b1 := B_b1.keep Kq13 (ninS ne_b1_b12 nin0)
      replace B_b2 := B_b2.keep Kq13 (ninS ne_b2_b12 nin0)
      replace B_b3 := B_b3.keep Kq13 (ninS ne_b3_b12 nin0)
      replace B_b4 := B_b4.keep Kq13 (ninS ne_b4_b12 nin0)
      replace A5 := A5.keep Kq13
      replace F8_entries := F8_entries.keep Kq13 (ninS ne_b5_b12 nin0)
      replace F8_bytes := F8_bytes.keep Kq13 (ninS ne_b5_b12 nin0)
      replace A9 := A9.keep Kq13
      replace F10_entries := F10_entries.keep Kq13 (ninS ne_b9_b12 nin0)
      replace F10_bytes := F10_bytes.keep Kq13 (ninS ne_b9_b12 nin0)
      replace A12 := A12.keep Kq13
      have K13 := K12.trans Kq13 (allS (Or.inr sz_b12) all0)
      have Z13 : n0 ≤ T13.heap.size := Nat.le_trans Z0 K13.1
      clear Eq13
      have N13 := Fr.app N11 N13q
      show own_Ends p e below T13 (mkF m 198 #[.val (.int p0), .val (.int p1), .val (.int p2), .val (.int p3), .val (.int p4), .val (.int ka), .val (.int va), .val (.int kb), .val (.int vb), .val (.int (0 : Int32)), .val (.int (0 : Int32)), .val (.ref b1), .val (.ref b2), .val (.ref b3), .val (.ref b4), .val (.long ((ka.toInt64) + (va.toInt64))), .second, .val (.long ((kb.toInt64) + (vb.toInt64))), .second, .val (.long t), .second, .val (.ref b5), .val (.int (own_within ((2 : Int64)) t ((2 : Int32)) t)), .unset, .unset] [(.ref b12), (.ref b5)]) _
      obtain ⟨cq14, kq14, q14a, q14b, q14c⟩ := isOf hZ rfl A5
      obtain ⟨_, _, ⟨T14, L14, k14, n14⟩, -, X14, ⟨Lc14, hQ14, l14, y14, z14⟩, st14⟩ := X13.virtualBack hx (y := (⟨"com/example/wedge/wedge/Batch$Size", "within", "(Lcom/example/wedge/wedge/Batch$Limit;)Z"⟩ : MethodName)) (z := (⟨"com/example/wedge/wedge/Batch$Size", "within", "(Lcom/example/wedge/wedge/Batch$Limit;)Z"⟩ : MethodName)) hown (mvT hZ (hw _ (List.mem_of_getElem? (i := 35) rfl))) (mvT hZ (hw _ (List.mem_of_getElem? (i := 36) rfl))) (notFace_of_selects (args := #[]) (mvT hZ (hw _ (List.mem_of_getElem? (i := 38) rfl)))) (mvT hZ (hw _ (List.mem_of_getElem? (i := 38) rfl))) (mvT hZ (hw _ (List.mem_of_getElem? (i := 37) rfl))) (by decide) (backOf (W := 0) (rmWithin l Z a0 hw [] b5 b12 ((2 : Int64)) t ((1 : Int32)) ((9223372036854775807 : Int64)) (T13.heap) n0 Z13 F8_entries F8_bytes A12 F13_entries F13_bytes) hZ (hw _ (List.mem_of_getElem? (i := 39) rfl)) (hw _ (List.mem_of_getElem? (i := 3) rfl)) (by decide) (by decide)) q14a q14c (g := (mkF m 198 #[.val (.int p0), .val (.int p1), .val (.int p2), .val (.int p3), .val (.int p4), .val (.int ka), .val (.int va), .val (.int kb), .val (.int vb), .val (.int (0 : Int32)), .val (.int (0 : Int32)), .val (.ref b1), .val (.ref b2), .val (.ref b3), .val (.ref b4), .val (.long ((ka.toInt64) + (va.toInt64))), .second, .val (.long ((kb.toInt64) + (vb.toInt64))), .second, .val (.long t), .second, .val (.ref b5), .val (.int (own_within ((2 : Int64)) t ((2 : Int32)) t)), .unset, .unset] [(.ref b12), (.ref b5)])) rfl (by rw [hml]; rfl) (Steps.refl _) (argsL := [(.ref b12)]) (rest := []) (lenOf pd_5 rfl) rfl (by show 2 * 0 + _ ≤ _; exact Nat.le_of_eq rfl) (hb hby at_198) (fun _ _ => ⟨rfl, rfl, (by decide : 7 + 0 ≤ _), (by decide : 66 + 0 ≤ _)⟩)
      dsimp only [Pt.U, Pt.locs, Pt.cells, Pt.slots] at X14 l14 y14 z14 st14 hQ14
      subst l14 y14 z14
      refine own_go (fun _ k => st14.trans k) ?_
      obtain ⟨rfl, N14q, eh14⟩ := hQ14
      have N14 := Fr.app N13 N14q
      show own_Ends p e below T14 (mkF m 201 #[.val (.int p0), .val (.int p1), .val (.int p2), .val (.int p3), .val (.int p4), .val (.int ka), .val (.int va), .val (.int kb), .val (.int vb), .val (.int (0 : Int32)), .val (.int (0 : Int32)), .val (.ref b1), .val (.ref b2), .val (.ref b3), .val (.ref b4), .val (.long ((ka.toInt64) + (va.toInt64))), .second, .val (.long ((kb.toInt64) + (vb.toInt64))), .second, .val (.long t), .second, .val (.ref b5), .val (.int (own_within ((2 : Int64)) t ((2 : Int32)) t)), .unset, .unset] [(.int (own_within ((2 : Int64)) t ((1 : Int32)) ((9223372036854775807 : Int64))))]) _
      refine own_go (fun _ => XS.istore X14.here hx rfl (hb hby at_201) rfl (l' := #[.val (.int p0), .val (.int p1), .val (.int p2), .val (.int p3), .val (.int p4), .val (.int ka), .val (.int va), .val (.int kb), .val (.int vb), .val (.int (0 : Int32)), .val (.int (0 : Int32)), .val (.ref b1), .val (.ref b2), .val (.ref b3), .val (.ref b4), .val (.long ((ka.toInt64) + (va.toInt64))), .second, .val (.long ((kb.toInt64) + (vb.toInt64))), .second, .val (.long t), .second, .val (.ref b5), .val (.int (own_within ((2 : Int64)) t ((2 : Int32)) t)), .val (.int (own_within ((2 : Int64)) t ((1 : Int32)) ((9223372036854775807 : Int64)))), .unset]) rfl) ?_
      show own_Ends p e below T14 (mkF m 203 #[.val (.int p0), .val (.int p1), .val (.int p2), .val (.int p3), .val (.int p4), .val (.int ka), .val (.int va), .val (.int kb), .val (.int vb), .val (.int (0 : Int32)), .val (.int (0 : Int32)), .val (.ref b1), .val (.ref b2), .val (.ref b3), .val (.ref b4), .val (.long ((ka.toInt64) + (va.toInt64))), .second, .val (.long ((kb.toInt64) + (vb.toInt64))), .second, .val (.long t), .second, .val (.ref b5), .val (.int (own_within ((2 : Int64)) t ((2 : Int32)) t)), .val (.int (own_within ((2 : Int64)) t ((1 : Int32)) ((9223372036854775807 : Int64)))), .unset] []) _
      refine own_go (fun _ => XS.aload X14.here hx rfl (hb hby at_203) rfl rfl) ?_
      show own_Ends p e below T14 (mkF m 205 #[.val (.int p0), .val (.int p1), .val (.int p2), .val (.int p3), .val (.int p4), .val (.int ka), .val (.int va), .val (.int kb), .val (.int vb), .val (.int (0 : Int32)), .val (.int (0 : Int32)), .val (.ref b1), .val (.ref b2), .val (.ref b3), .val (.ref b4), .val (.long ((ka.toInt64) + (va.toInt64))), .second, .val (.long ((kb.toInt64) + (vb.toInt64))), .second, .val (.long t), .second, .val (.ref b5), .val (.int (own_within ((2 : Int64)) t ((2 : Int32)) t)), .val (.int (own_within ((2 : Int64)) t ((1 : Int32)) ((9223372036854775807 : Int64)))), .unset] [(.ref b5)]) _
      obtain ⟨T15, h15, X15, e15, E15, A15, D15, -, st15⟩ := newO X14 hx hZ hown (hw _ (List.mem_of_getElem? (i := 19) rfl)) (hw _ (List.mem_of_getElem? (i := 20) rfl)) (hw _ (List.mem_of_getElem? (i := 21) rfl)) eh14 (g := (mkF m 205 #[.val (.int p0), .val (.int p1), .val (.int p2), .val (.int p3), .val (.int p4), .val (.int ka), .val (.int va), .val (.int kb), .val (.int vb), .val (.int (0 : Int32)), .val (.int (0 : Int32)), .val (.ref b1), .val (.ref b2), .val (.ref b3), .val (.ref b4), .val (.long ((ka.toInt64) + (va.toInt64))), .second, .val (.long ((kb.toInt64) + (vb.toInt64))), .second, .val (.long t), .second, .val (.ref b5), .val (.int (own_within ((2 : Int64)) t ((2 : Int32)) t)), .val (.int (own_within ((2 : Int64)) t ((1 : Int32)) ((9223372036854775807 : Int64)))), .unset] [(.ref b5)])) rfl (hb hby at_205) (by decide) (by decide)
      obtain ⟨b15, g15⟩ : ∃ z, z = T13.heap.size := ⟨_, rfl⟩
      rw [← g15] at A15 D15 st15
      refine own_go st15 ?_
      have g_b15 : n0 ≤ b15 := Nat.le_trans Z13 (Nat.le_of_eq g15.symm)
      have sz_b15 : h0.size ≤ b15 := Nat.le_trans K13.1 (Nat.le_of_eq g15.symm)
      have ne_b1_b15 : b1 ≠ b15 := Nat.ne_of_lt (Nat.lt_of_lt_of_le B_b1.lt (Nat.le_of_eq g15.symm))
      have ne_b2_b15 : b2 ≠ b15 := Nat.ne_of_lt (Nat.lt_of_lt_of_le B_b2.lt (Nat.le_of_eq g15.symm))
      have ne_b3_b15 : b3 ≠ b15 := Nat.ne_of_lt (Nat.lt_of_lt_of_le B_b3.lt (Nat.le_of_eq g15.symm))
      have ne_b4_b15 : b4 ≠ b15 := Nat.ne_of_lt (Nat.lt_of_lt_of_le B_b4.lt (Nat.le_of_eq g15.symm))
      have ne_b5_b15 : b5 ≠ b15 := Nat.ne_of_lt (Nat.lt_of_lt_of_le A5.lt (Nat.le_of_eq g15.symm))
      have ne_b9_b15 : b9 ≠ b15 := Nat.ne_of_lt (Nat.lt_of_lt_of_le A9.lt (Nat.le_of_eq g15.symm))
      have ne_b12_b15 : b12 ≠ b15 := Nat.ne_of_lt (Nat.lt_of_lt_of_le A12.lt (Nat.le_of_eq g15.symm))
      replace B_b1 := B_b1.ext E15
      replace B_b2 := B_b2.ext E15
      replace B_b3 := B_b3.ext E15
      replace B_b4 := B_b4.ext E15
      replace A5 := A5.ext E15
      replace F8_entries := F8_entries.ext E15
      replace F8_bytes := F8_bytes.ext E15
      replace A9 := A9.ext E15
      replace F10_entries := F10_entries.ext E15
      replace F10_bytes := F10_bytes.ext E15
      replace A12 := A12.ext E15
      replace F13_entries := F13_entries.ext E15
      replace F13_bytes := F13_bytes.ext E15
      have K15 := K13.ext E15
      have Z15 : n0 ≤ h15.size := Nat.le_trans Z0 K15.1
      have F_b15_entries : Fld Z h15 b15 "com/example/wedge/wedge/Batch$Limit" "entries" "I" (.int (0 : Int32)) := D15 (Or.inr (hw _ (List.mem_of_getElem? (i := 32) rfl))) (ty := .int) (by decide)
      have F_b15_bytes : Fld Z h15 b15 "com/example/wedge/wedge/Batch$Limit" "bytes" "J" (.long (0 : Int64)) := D15 (Or.inr (hw _ (List.mem_of_getElem? (i := 34) rfl))) (ty := .long) (by decide)
      show own_Ends p e below T15 (mkF m 208 #[.val (.int p0), .val (.int p1), .val (.int p2), .val (.int p3), .val (.int p4), .val (.int ka), .val (.int va), .val (.int kb), .val (.int vb), .val (.int (0 : Int32)), .val (.int (0 : Int32)), .val (.ref b1), .val (.ref b2), .val (.ref b3), .val (.ref b4), .val (.long ((ka.toInt64) + (va.toInt64))), .second, .val (.long ((kb.toInt64) + (vb.toInt64))), .second, .val (.long t), .second, .val (.ref b5), .val (.int (own_within ((2 : Int64)) t ((2 : Int32)) t)), .val (.int (own_within ((2 : Int64)) t ((1 : Int32)) ((9223372036854775807 : Int64)))), .unset] [(.ref b15), (.ref b5)]) _
      refine own_go (fun _ => XS.dup X15.here hx rfl (hb hby at_208) rfl rfl) ?_
      show own_Ends p e below T15 (mkF m 209 #[.val (.int p0), .val (.int p1), .val (.int p2), .val (.int p3), .val (.int p4), .val (.int ka), .val (.int va), .val (.int kb), .val (.int vb), .val (.int (0 : Int32)), .val (.int (0 : Int32)), .val (.ref b1), .val (.ref b2), .val (.ref b3), .val (.ref b4), .val (.long ((ka.toInt64) + (va.toInt64))), .second, .val (.long ((kb.toInt64) + (vb.toInt64))), .second, .val (.long t), .second, .val (.ref b5), .val (.int (own_within ((2 : Int64)) t ((2 : Int32)) t)), .val (.int (own_within ((2 : Int64)) t ((1 : Int32)) ((9223372036854775807 : Int64)))), .unset] [(.ref b15), (.ref b15), (.ref b5)]) _
      refine own_go (fun _ => XS.iconst X15.here hx rfl (hb hby at_209)) ?_
      show own_Ends p e below T15 (mkF m 210 #[.val (.int p0), .val (.int p1), .val (.int p2), .val (.int p3), .val (.int p4), .val (.int ka), .val (.int va), .val (.int kb), .val (.int vb), .val (.int (0 : Int32)), .val (.int (0 : Int32)), .val (.ref b1), .val (.ref b2), .val (.ref b3), .val (.ref b4), .val (.long ((ka.toInt64) + (va.toInt64))), .second, .val (.long ((kb.toInt64) + (vb.toInt64))), .second, .val (.long t), .second, .val (.ref b5), .val (.int (own_within ((2 : Int64)) t ((2 : Int32)) t)), .val (.int (own_within ((2 : Int64)) t ((1 : Int32)) ((9223372036854775807 : Int64)))), .unset] [(.int (2 : Int32)), (.ref b15), (.ref b15), (.ref b5)]) _
      refine own_go (fun _ => XS.lload X15.here hx rfl (hb hby at_210) rfl) ?_
      show own_Ends p e below T15 (mkF m 212 #[.val (.int p0), .val (.int p1), .val (.int p2), .val (.int p3), .val (.int p4), .val (.int ka), .val (.int va), .val (.int kb), .val (.int vb), .val (.int (0 : Int32)), .val (.int (0 : Int32)), .val (.ref b1), .val (.ref b2), .val (.ref b3), .val (.ref b4), .val (.long ((ka.toInt64) + (va.toInt64))), .second, .val (.long ((kb.toInt64) + (vb.toInt64))), .second, .val (.long t), .second, .val (.ref b5), .val (.int (own_within ((2 : Int64)) t ((2 : Int32)) t)), .val (.int (own_within ((2 : Int64)) t ((1 : Int32)) ((9223372036854775807 : Int64)))), .unset] [(.long t), (.int (2 : Int32)), (.ref b15), (.ref b15), (.ref b5)]) _
      refine own_go (fun _ => XS.lconst X15.here hx rfl (hb hby at_212)) ?_
      show own_Ends p e below T15 (mkF m 213 #[.val (.int p0), .val (.int p1), .val (.int p2), .val (.int p3), .val (.int p4), .val (.int ka), .val (.int va), .val (.int kb), .val (.int vb), .val (.int (0 : Int32)), .val (.int (0 : Int32)), .val (.ref b1), .val (.ref b2), .val (.ref b3), .val (.ref b4), .val (.long ((ka.toInt64) + (va.toInt64))), .second, .val (.long ((kb.toInt64) + (vb.toInt64))), .second, .val (.long t), .second, .val (.ref b5), .val (.int (own_within ((2 : Int64)) t ((2 : Int32)) t)), .val (.int (own_within ((2 : Int64)) t ((1 : Int32)) ((9223372036854775807 : Int64)))), .unset] [(.long (1 : Int64)), (.long t), (.int (2 : Int32)), (.ref b15), (.ref b15), (.ref b5)]) _
      refine own_go (fun _ => XS.lsub X15.here hx rfl (hb hby at_213) rfl) ?_
      show own_Ends p e below T15 (mkF m 214 #[.val (.int p0), .val (.int p1), .val (.int p2), .val (.int p3), .val (.int p4), .val (.int ka), .val (.int va), .val (.int kb), .val (.int vb), .val (.int (0 : Int32)), .val (.int (0 : Int32)), .val (.ref b1), .val (.ref b2), .val (.ref b3), .val (.ref b4), .val (.long ((ka.toInt64) + (va.toInt64))), .second, .val (.long ((kb.toInt64) + (vb.toInt64))), .second, .val (.long t), .second, .val (.ref b5), .val (.int (own_within ((2 : Int64)) t ((2 : Int32)) t)), .val (.int (own_within ((2 : Int64)) t ((1 : Int32)) ((9223372036854775807 : Int64)))), .unset] [(.long (t - (1 : Int64))), (.int (2 : Int32)), (.ref b15), (.ref b15), (.ref b5)]) _
      obtain ⟨_, _, ⟨T16, L16, k16, n16⟩, -, X16, ⟨Lc16, hQ16, l16, y16, z16⟩, st16⟩ := X15.specialBack hx (y := (⟨"com/example/wedge/wedge/Batch$Limit", "<init>", "(IJ)V"⟩ : MethodName)) rfl hown (mvT hZ (hw _ (List.mem_of_getElem? (i := 22) rfl))) (mvT hZ (hw _ (List.mem_of_getElem? (i := 23) rfl))) (mvT hZ (hw _ (List.mem_of_getElem? (i := 24) rfl))) (by decide) (backOf (W := 2) (rmLInit l Z a0 hw [] b15 ((2 : Int32)) ((t - (1 : Int64)))  h15 n0 Z15 A15 F_b15_entries F_b15_bytes g_b15) hZ (hw _ (List.mem_of_getElem? (i := 24) rfl)) (hw _ (List.mem_of_getElem? (i := 21) rfl)) (by decide) (by decide)) (g := (mkF m 214 #[.val (.int p0), .val (.int p1), .val (.int p2), .val (.int p3), .val (.int p4), .val (.int ka), .val (.int va), .val (.int kb), .val (.int vb), .val (.int (0 : Int32)), .val (.int (0 : Int32)), .val (.ref b1), .val (.ref b2), .val (.ref b3), .val (.ref b4), .val (.long ((ka.toInt64) + (va.toInt64))), .second, .val (.long ((kb.toInt64) + (vb.toInt64))), .second, .val (.long t), .second, .val (.ref b5), .val (.int (own_within ((2 : Int64)) t ((2 : Int32)) t)), .val (.int (own_within ((2 : Int64)) t ((1 : Int32)) ((9223372036854775807 : Int64)))), .unset] [(.long (t - (1 : Int64))), (.int (2 : Int32)), (.ref b15), (.ref b15), (.ref b5)])) rfl (by rw [hml]; rfl) (Steps.refl _) (a := b15) (argsL := [(.int (2 : Int32)), (.long (t - (1 : Int64)))]) (rest := [(.ref b15), (.ref b5)]) (lenOf pd_4 rfl) rfl (by show 2 * 0 + _ ≤ _; exact Nat.le_of_eq rfl) (hb hby at_214) (fun _ _ => ⟨rfl, e15, (by decide : 8 + 0 ≤ _), (by decide : 68 + 0 ≤ _)⟩)
      dsimp only [Pt.U, Pt.locs, Pt.cells, Pt.slots] at X16 l16 y16 z16 st16 hQ16
      subst l16 y16 z16
      refine own_go (fun _ k => st16.trans k) ?_
      obtain ⟨rfl, N16q, Kq16, Eq16, F16_entries, F16_bytes⟩ := hQ16
      replace B_b1 := B_b1.keep Kq16 (ninS ne_b1_b15 nin0)
      replace B_b2 := B_b2.keep Kq16 (ninS ne_b2_b15 nin0)
      replace B_b3 := B_b3.keep Kq16 (ninS ne_b3_b15 nin0)
      replace B_b4 := B_b4.keep Kq16 (ninS ne_b4_b15 nin0)
      replace A5 := A5.keep Kq16
      replace F8_entries := F8_entries.keep Kq16 (ninS ne_b5_b15 nin0)
      replace F8_bytes := F8_bytes.keep Kq16 (ninS ne_b5_b15 nin0)
      replace A9 := A9.keep Kq16
      replace F10_entries := F10_entries.keep Kq16 (ninS ne_b9_b15 nin0)
      replace F10_bytes := F10_bytes.keep Kq16 (ninS ne_b9_b15 nin0)
      replace A12 := A12.keep Kq16
      replace F13_entries := F13_entries.keep Kq16 (ninS ne_b12_b15 nin0)
      replace F13_bytes := F13_bytes.keep Kq16 (ninS ne_b12_b15 nin0)
      replace A15 := A15.keep Kq16
      have K16 := K15.trans Kq16 (allS (Or.inr sz_b15) all0)
      have Z16 : n0 ≤ T16.heap.size := Nat.le_trans Z0 K16.1
      clear Eq16
      have N16 := Fr.app N14 N16q
      show own_Ends p e below T16 (mkF m 217 #[.val (.int p0), .val (.int p1), .val (.int p2), .val (.int p3), .val (.int p4), .val (.int ka), .val (.int va), .val (.int kb), .val (.int vb), .val (.int (0 : Int32)), .val (.int (0 : Int32)), .val (.ref b1), .val (.ref b2), .val (.ref b3), .val (.ref b4), .val (.long ((ka.toInt64) + (va.toInt64))), .second, .val (.long ((kb.toInt64) + (vb.toInt64))), .second, .val (.long t), .second, .val (.ref b5), .val (.int (own_within ((2 : Int64)) t ((2 : Int32)) t)), .val (.int (own_within ((2 : Int64)) t ((1 : Int32)) ((9223372036854775807 : Int64)))), .unset] [(.ref b15), (.ref b5)]) _
      obtain ⟨cq17, kq17, q17a, q17b, q17c⟩ := isOf hZ rfl A5
      obtain ⟨_, _, ⟨T17, L17, k17, n17⟩, -, X17, ⟨Lc17, hQ17, l17, y17, z17⟩, st17⟩ := X16.virtualBack hx (y := (⟨"com/example/wedge/wedge/Batch$Size", "within", "(Lcom/example/wedge/wedge/Batch$Limit;)Z"⟩ : MethodName)) (z := (⟨"com/example/wedge/wedge/Batch$Size", "within", "(Lcom/example/wedge/wedge/Batch$Limit;)Z"⟩ : MethodName)) hown (mvT hZ (hw _ (List.mem_of_getElem? (i := 35) rfl))) (mvT hZ (hw _ (List.mem_of_getElem? (i := 36) rfl))) (notFace_of_selects (args := #[]) (mvT hZ (hw _ (List.mem_of_getElem? (i := 38) rfl)))) (mvT hZ (hw _ (List.mem_of_getElem? (i := 38) rfl))) (mvT hZ (hw _ (List.mem_of_getElem? (i := 37) rfl))) (by decide) (backOf (W := 0) (rmWithin l Z a0 hw [] b5 b15 ((2 : Int64)) t ((2 : Int32)) ((t - (1 : Int64))) (T16.heap) n0 Z16 F8_entries F8_bytes A15 F16_entries F16_bytes) hZ (hw _ (List.mem_of_getElem? (i := 39) rfl)) (hw _ (List.mem_of_getElem? (i := 3) rfl)) (by decide) (by decide)) q17a q17c (g := (mkF m 217 #[.val (.int p0), .val (.int p1), .val (.int p2), .val (.int p3), .val (.int p4), .val (.int ka), .val (.int va), .val (.int kb), .val (.int vb), .val (.int (0 : Int32)), .val (.int (0 : Int32)), .val (.ref b1), .val (.ref b2), .val (.ref b3), .val (.ref b4), .val (.long ((ka.toInt64) + (va.toInt64))), .second, .val (.long ((kb.toInt64) + (vb.toInt64))), .second, .val (.long t), .second, .val (.ref b5), .val (.int (own_within ((2 : Int64)) t ((2 : Int32)) t)), .val (.int (own_within ((2 : Int64)) t ((1 : Int32)) ((9223372036854775807 : Int64)))), .unset] [(.ref b15), (.ref b5)])) rfl (by rw [hml]; rfl) (Steps.refl _) (argsL := [(.ref b15)]) (rest := []) (lenOf pd_5 rfl) rfl (by show 2 * 0 + _ ≤ _; exact Nat.le_of_eq rfl) (hb hby at_217) (fun _ _ => ⟨rfl, rfl, (by decide : 8 + 0 ≤ _), (by decide : 68 + 0 ≤ _)⟩)
      dsimp only [Pt.U, Pt.locs, Pt.cells, Pt.slots] at X17 l17 y17 z17 st17 hQ17
      subst l17 y17 z17
      refine own_go (fun _ k => st17.trans k) ?_
      obtain ⟨rfl, N17q, eh17⟩ := hQ17
      have N17 := Fr.app N16 N17q
      show own_Ends p e below T17 (mkF m 220 #[.val (.int p0), .val (.int p1), .val (.int p2), .val (.int p3), .val (.int p4), .val (.int ka), .val (.int va), .val (.int kb), .val (.int vb), .val (.int (0 : Int32)), .val (.int (0 : Int32)), .val (.ref b1), .val (.ref b2), .val (.ref b3), .val (.ref b4), .val (.long ((ka.toInt64) + (va.toInt64))), .second, .val (.long ((kb.toInt64) + (vb.toInt64))), .second, .val (.long t), .second, .val (.ref b5), .val (.int (own_within ((2 : Int64)) t ((2 : Int32)) t)), .val (.int (own_within ((2 : Int64)) t ((1 : Int32)) ((9223372036854775807 : Int64)))), .unset] [(.int (own_within ((2 : Int64)) t ((2 : Int32)) ((t - (1 : Int64)))))]) _
      refine own_go (fun _ => XS.istore X17.here hx rfl (hb hby at_220) rfl (l' := #[.val (.int p0), .val (.int p1), .val (.int p2), .val (.int p3), .val (.int p4), .val (.int ka), .val (.int va), .val (.int kb), .val (.int vb), .val (.int (0 : Int32)), .val (.int (0 : Int32)), .val (.ref b1), .val (.ref b2), .val (.ref b3), .val (.ref b4), .val (.long ((ka.toInt64) + (va.toInt64))), .second, .val (.long ((kb.toInt64) + (vb.toInt64))), .second, .val (.long t), .second, .val (.ref b5), .val (.int (own_within ((2 : Int64)) t ((2 : Int32)) t)), .val (.int (own_within ((2 : Int64)) t ((1 : Int32)) ((9223372036854775807 : Int64)))), .val (.int (own_within ((2 : Int64)) t ((2 : Int32)) ((t - (1 : Int64)))))]) rfl) ?_
      show own_Ends p e below T17 (mkF m 222 #[.val (.int p0), .val (.int p1), .val (.int p2), .val (.int p3), .val (.int p4), .val (.int ka), .val (.int va), .val (.int kb), .val (.int vb), .val (.int (0 : Int32)), .val (.int (0 : Int32)), .val (.ref b1), .val (.ref b2), .val (.ref b3), .val (.ref b4), .val (.long ((ka.toInt64) + (va.toInt64))), .second, .val (.long ((kb.toInt64) + (vb.toInt64))), .second, .val (.long t), .second, .val (.ref b5), .val (.int (own_within ((2 : Int64)) t ((2 : Int32)) t)), .val (.int (own_within ((2 : Int64)) t ((1 : Int32)) ((9223372036854775807 : Int64)))), .val (.int (own_within ((2 : Int64)) t ((2 : Int32)) ((t - (1 : Int64)))))] []) _
      refine own_go (fun _ => XS.iload X17.here hx rfl (hb hby at_222) rfl) ?_
      show own_Ends p e below T17 (mkF m 224 #[.val (.int p0), .val (.int p1), .val (.int p2), .val (.int p3), .val (.int p4), .val (.int ka), .val (.int va), .val (.int kb), .val (.int vb), .val (.int (0 : Int32)), .val (.int (0 : Int32)), .val (.ref b1), .val (.ref b2), .val (.ref b3), .val (.ref b4), .val (.long ((ka.toInt64) + (va.toInt64))), .second, .val (.long ((kb.toInt64) + (vb.toInt64))), .second, .val (.long t), .second, .val (.ref b5), .val (.int (own_within ((2 : Int64)) t ((2 : Int32)) t)), .val (.int (own_within ((2 : Int64)) t ((1 : Int32)) ((9223372036854775807 : Int64)))), .val (.int (own_within ((2 : Int64)) t ((2 : Int32)) ((t - (1 : Int64)))))] [(.int (own_within ((2 : Int64)) t ((2 : Int32)) t))]) _
      refine own_go (fun _ => XS.ifNo X17.here hx rfl (hb hby at_224) rfl ((if0 _ _).trans (feq (show ¬ ((own_within ((2 : Int64)) t ((2 : Int32)) t) = (0 : Int32)) from own_w1 _)).1)) ?_
      show own_Ends p e below T17 (mkF m 227 #[.val (.int p0), .val (.int p1), .val (.int p2), .val (.int p3), .val (.int p4), .val (.int ka), .val (.int va), .val (.int kb), .val (.int vb), .val (.int (0 : Int32)), .val (.int (0 : Int32)), .val (.ref b1), .val (.ref b2), .val (.ref b3), .val (.ref b4), .val (.long ((ka.toInt64) + (va.toInt64))), .second, .val (.long ((kb.toInt64) + (vb.toInt64))), .second, .val (.long t), .second, .val (.ref b5), .val (.int (own_within ((2 : Int64)) t ((2 : Int32)) t)), .val (.int (own_within ((2 : Int64)) t ((1 : Int32)) ((9223372036854775807 : Int64)))), .val (.int (own_within ((2 : Int64)) t ((2 : Int32)) ((t - (1 : Int64)))))] []) _
      refine own_go (fun _ => XS.iload X17.here hx rfl (hb hby at_227) rfl) ?_
      show own_Ends p e below T17 (mkF m 229 #[.val (.int p0), .val (.int p1), .val (.int p2), .val (.int p3), .val (.int p4), .val (.int ka), .val (.int va), .val (.int kb), .val (.int vb), .val (.int (0 : Int32)), .val (.int (0 : Int32)), .val (.ref b1), .val (.ref b2), .val (.ref b3), .val (.ref b4), .val (.long ((ka.toInt64) + (va.toInt64))), .second, .val (.long ((kb.toInt64) + (vb.toInt64))), .second, .val (.long t), .second, .val (.ref b5), .val (.int (own_within ((2 : Int64)) t ((2 : Int32)) t)), .val (.int (own_within ((2 : Int64)) t ((1 : Int32)) ((9223372036854775807 : Int64)))), .val (.int (own_within ((2 : Int64)) t ((2 : Int32)) ((t - (1 : Int64)))))] [(.int (own_within ((2 : Int64)) t ((1 : Int32)) ((9223372036854775807 : Int64))))]) _
      refine own_go (fun _ => XS.ifNo X17.here hx rfl (hb hby at_229) rfl ((if0 _ _).trans (teq (show (own_within ((2 : Int64)) t ((1 : Int32)) ((9223372036854775807 : Int64))) = (0 : Int32) from own_w2 _)).2)) ?_
      show own_Ends p e below T17 (mkF m 232 #[.val (.int p0), .val (.int p1), .val (.int p2), .val (.int p3), .val (.int p4), .val (.int ka), .val (.int va), .val (.int kb), .val (.int vb), .val (.int (0 : Int32)), .val (.int (0 : Int32)), .val (.ref b1), .val (.ref b2), .val (.ref b3), .val (.ref b4), .val (.long ((ka.toInt64) + (va.toInt64))), .second, .val (.long ((kb.toInt64) + (vb.toInt64))), .second, .val (.long t), .second, .val (.ref b5), .val (.int (own_within ((2 : Int64)) t ((2 : Int32)) t)), .val (.int (own_within ((2 : Int64)) t ((1 : Int32)) ((9223372036854775807 : Int64)))), .val (.int (own_within ((2 : Int64)) t ((2 : Int32)) ((t - (1 : Int64)))))] []) _
      refine own_go (fun _ => XS.iload X17.here hx rfl (hb hby at_232) rfl) ?_
      show own_Ends p e below T17 (mkF m 234 #[.val (.int p0), .val (.int p1), .val (.int p2), .val (.int p3), .val (.int p4), .val (.int ka), .val (.int va), .val (.int kb), .val (.int vb), .val (.int (0 : Int32)), .val (.int (0 : Int32)), .val (.ref b1), .val (.ref b2), .val (.ref b3), .val (.ref b4), .val (.long ((ka.toInt64) + (va.toInt64))), .second, .val (.long ((kb.toInt64) + (vb.toInt64))), .second, .val (.long t), .second, .val (.ref b5), .val (.int (own_within ((2 : Int64)) t ((2 : Int32)) t)), .val (.int (own_within ((2 : Int64)) t ((1 : Int32)) ((9223372036854775807 : Int64)))), .val (.int (own_within ((2 : Int64)) t ((2 : Int32)) ((t - (1 : Int64)))))] [(.int (own_within ((2 : Int64)) t ((2 : Int32)) ((t - (1 : Int64)))))]) _
      refine own_go (fun _ => XS.ifNo X17.here hx rfl (hb hby at_234) rfl ((if0 _ _).trans (teq (show (own_within ((2 : Int64)) t ((2 : Int32)) ((t - (1 : Int64)))) = (0 : Int32) from own_w3 ht)).2)) ?_
      show own_Ends p e below T17 (mkF m 237 #[.val (.int p0), .val (.int p1), .val (.int p2), .val (.int p3), .val (.int p4), .val (.int ka), .val (.int va), .val (.int kb), .val (.int vb), .val (.int (0 : Int32)), .val (.int (0 : Int32)), .val (.ref b1), .val (.ref b2), .val (.ref b3), .val (.ref b4), .val (.long ((ka.toInt64) + (va.toInt64))), .second, .val (.long ((kb.toInt64) + (vb.toInt64))), .second, .val (.long t), .second, .val (.ref b5), .val (.int (own_within ((2 : Int64)) t ((2 : Int32)) t)), .val (.int (own_within ((2 : Int64)) t ((1 : Int32)) ((9223372036854775807 : Int64)))), .val (.int (own_within ((2 : Int64)) t ((2 : Int32)) ((t - (1 : Int64)))))] []) _
      refine own_go (fun _ => XS.iconst X17.here hx rfl (hb hby at_237)) ?_
      show own_Ends p e below T17 (mkF m 238 #[.val (.int p0), .val (.int p1), .val (.int p2), .val (.int p3), .val (.int p4), .val (.int ka), .val (.int va), .val (.int kb), .val (.int vb), .val (.int (0 : Int32)), .val (.int (0 : Int32)), .val (.ref b1), .val (.ref b2), .val (.ref b3), .val (.ref b4), .val (.long ((ka.toInt64) + (va.toInt64))), .second, .val (.long ((kb.toInt64) + (vb.toInt64))), .second, .val (.long t), .second, .val (.ref b5), .val (.int (own_within ((2 : Int64)) t ((2 : Int32)) t)), .val (.int (own_within ((2 : Int64)) t ((1 : Int32)) ((9223372036854775807 : Int64)))), .val (.int (own_within ((2 : Int64)) t ((2 : Int32)) ((t - (1 : Int64)))))] [(.int (1 : Int32))]) _
      refine own_go (fun _ => XS.goto X17.here hx rfl (pc0 := 238) (pc' := 242) rfl (hb hby at_238) (by decide) (by decide)) ?_
      show own_Ends p e below T17 (mkF m 242 #[.val (.int p0), .val (.int p1), .val (.int p2), .val (.int p3), .val (.int p4), .val (.int ka), .val (.int va), .val (.int kb), .val (.int vb), .val (.int (0 : Int32)), .val (.int (0 : Int32)), .val (.ref b1), .val (.ref b2), .val (.ref b3), .val (.ref b4), .val (.long ((ka.toInt64) + (va.toInt64))), .second, .val (.long ((kb.toInt64) + (vb.toInt64))), .second, .val (.long t), .second, .val (.ref b5), .val (.int (own_within ((2 : Int64)) t ((2 : Int32)) t)), .val (.int (own_within ((2 : Int64)) t ((1 : Int32)) ((9223372036854775807 : Int64)))), .val (.int (own_within ((2 : Int64)) t ((2 : Int32)) ((t - (1 : Int64)))))] [(.int (1 : Int32))]) _
      obtain ⟨fs, hr, hrun, hended, hW, hsame⟩ := X17.leave (v := some (.int (1 : Int32))) (fun h => by rw [Bd.returns] at h; cases h)
      refine ⟨_, _, retN X17 hx (t := .boolean) Bd.returns (by simp) (hb hby at_242) hr, hrun, hended, _, _, rfl, ?_, ⟨_, rfl⟩, hW, hsame.mono (by decide) (by decide)⟩
      show Q_rm0 Z p0 p1 p2 p3 p4 h0 n0 _ T17.heap _
      rw [eh17]
      exact ⟨rfl, N17⟩
    · refine own_go (fun _ => XS.ifNo X0.here hx rfl (hb hby at_42) rfl ((if0 _ _).trans (feq hc42).1)) ?_
      show own_Ends p e below s₁ (mkF m 45 #[.val (.int p0), .val (.int p1), .val (.int p2), .val (.int p3), .val (.int p4), .val (.int ka), .val (.int va), .val (.int kb), .val (.int vb), .val (.int (0 : Int32)), .unset, .unset, .unset, .unset, .unset, .unset, .unset, .unset, .unset, .unset, .unset, .unset, .unset, .unset, .unset] []) _
      refine own_go (fun _ => XS.iconst X0.here hx rfl (hb hby at_45)) ?_
      show own_Ends p e below s₁ (mkF m 46 #[.val (.int p0), .val (.int p1), .val (.int p2), .val (.int p3), .val (.int p4), .val (.int ka), .val (.int va), .val (.int kb), .val (.int vb), .val (.int (0 : Int32)), .unset, .unset, .unset, .unset, .unset, .unset, .unset, .unset, .unset, .unset, .unset, .unset, .unset, .unset, .unset] [(.int (1 : Int32))]) _
      refine own_go (fun _ => XS.goto X0.here hx rfl (pc0 := 46) (pc' := 50) rfl (hb hby at_46) (by decide) (by decide)) ?_
      show own_Ends p e below s₁ (mkF m 50 #[.val (.int p0), .val (.int p1), .val (.int p2), .val (.int p3), .val (.int p4), .val (.int ka), .val (.int va), .val (.int kb), .val (.int vb), .val (.int (0 : Int32)), .unset, .unset, .unset, .unset, .unset, .unset, .unset, .unset, .unset, .unset, .unset, .unset, .unset, .unset, .unset] [(.int (1 : Int32))]) _
      refine own_go (fun _ => XS.istore X0.here hx rfl (hb hby at_50) rfl (l' := #[.val (.int p0), .val (.int p1), .val (.int p2), .val (.int p3), .val (.int p4), .val (.int ka), .val (.int va), .val (.int kb), .val (.int vb), .val (.int (0 : Int32)), .val (.int (1 : Int32)), .unset, .unset, .unset, .unset, .unset, .unset, .unset, .unset, .unset, .unset, .unset, .unset, .unset, .unset]) rfl) ?_
      show own_Ends p e below s₁ (mkF m 52 #[.val (.int p0), .val (.int p1), .val (.int p2), .val (.int p3), .val (.int p4), .val (.int ka), .val (.int va), .val (.int kb), .val (.int vb), .val (.int (0 : Int32)), .val (.int (1 : Int32)), .unset, .unset, .unset, .unset, .unset, .unset, .unset, .unset, .unset, .unset, .unset, .unset, .unset, .unset] []) _
      refine own_go (fun _ => XS.iload X0.here hx rfl (hb hby at_52) rfl) ?_
      show own_Ends p e below s₁ (mkF m 54 #[.val (.int p0), .val (.int p1), .val (.int p2), .val (.int p3), .val (.int p4), .val (.int ka), .val (.int va), .val (.int kb), .val (.int vb), .val (.int (0 : Int32)), .val (.int (1 : Int32)), .unset, .unset, .unset, .unset, .unset, .unset, .unset, .unset, .unset, .unset, .unset, .unset, .unset, .unset] [(.int ka)]) _
      obtain ⟨T18, h18, k18, X18, e18, E18, A18, st18⟩ := newP X0 hx hZ (hw _ (List.mem_of_getElem? (i := 0) rfl)) e0 (g := (mkF m 54 #[.val (.int p0), .val (.int p1), .val (.int p2), .val (.int p3), .val (.int p4), .val (.int ka), .val (.int va), .val (.int kb), .val (.int vb), .val (.int (0 : Int32)), .val (.int (1 : Int32)), .unset, .unset, .unset, .unset, .unset, .unset, .unset, .unset, .unset, .unset, .unset, .unset, .unset, .unset] [(.int ka)])) rfl (hb hby at_54) rfl (own_neg hka) (cap := 15) (own_cap hka) (by decide) (by decide) (by decide)
      obtain ⟨b18, g18⟩ : ∃ z, z = h0.size := ⟨_, rfl⟩
      rw [← g18] at A18 st18
      refine own_go st18 ?_
      have g_b18 : n0 ≤ b18 := Nat.le_trans Z0 (Nat.le_of_eq g18.symm)
      have sz_b18 : h0.size ≤ b18 := Nat.le_trans K0.1 (Nat.le_of_eq g18.symm)
      have K18 := K0.ext E18
      have Z18 : n0 ≤ h18.size := Nat.le_trans Z0 K18.1
      have B_b18 : own_Len Z h18 b18 .byte ka := ⟨_, A18, sz_new _ _ _, (own_neg hka)⟩
      show own_Ends p e below T18 (mkF m 56 #[.val (.int p0), .val (.int p1), .val (.int p2), .val (.int p3), .val (.int p4), .val (.int ka), .val (.int va), .val (.int kb), .val (.int vb), .val (.int (0 : Int32)), .val (.int (1 : Int32)), .unset, .unset, .unset, .unset, .unset, .unset, .unset, .unset, .unset, .unset, .unset, .unset, .unset, .unset] [(.ref b18)]) _
      refine own_go (fun _ => XS.astore X18.here hx rfl (hb hby at_56) rfl rfl (l' := #[.val (.int p0), .val (.int p1), .val (.int p2), .val (.int p3), .val (.int p4), .val (.int ka), .val (.int va), .val (.int kb), .val (.int vb), .val (.int (0 : Int32)), .val (.int (1 : Int32)), .val (.ref b18), .unset, .unset, .unset, .unset, .unset, .unset, .unset, .unset, .unset, .unset, .unset, .unset, .unset]) rfl) ?_
      show own_Ends p e below T18 (mkF m 58 #[.val (.int p0), .val (.int p1), .val (.int p2), .val (.int p3), .val (.int p4), .val (.int ka), .val (.int va), .val (.int kb), .val (.int vb), .val (.int (0 : Int32)), .val (.int (1 : Int32)), .val (.ref b18), .unset, .unset, .unset, .unset, .unset, .unset, .unset, .unset, .unset, .unset, .unset, .unset, .unset] []) _
      refine own_go (fun _ => XS.iload X18.here hx rfl (hb hby at_58) rfl) ?_
      show own_Ends p e below T18 (mkF m 60 #[.val (.int p0), .val (.int p1), .val (.int p2), .val (.int p3), .val (.int p4), .val (.int ka), .val (.int va), .val (.int kb), .val (.int vb), .val (.int (0 : Int32)), .val (.int (1 : Int32)), .val (.ref b18), .unset, .unset, .unset, .unset, .unset, .unset, .unset, .unset, .unset, .unset, .unset, .unset, .unset] [(.int kb)]) _
      obtain ⟨T19, h19, k19, X19, e19, E19, A19, st19⟩ := newP X18 hx hZ (hw _ (List.mem_of_getElem? (i := 0) rfl)) e18 (g := (mkF m 60 #[.val (.int p0), .val (.int p1), .val (.int p2), .val (.int p3), .val (.int p4), .val (.int ka), .val (.int va), .val (.int kb), .val (.int vb), .val (.int (0 : Int32)), .val (.int (1 : Int32)), .val (.ref b18), .unset, .unset, .unset, .unset, .unset, .unset, .unset, .unset, .unset, .unset, .unset, .unset, .unset] [(.int kb)])) rfl (hb hby at_60) rfl (own_neg hkb) (cap := 15) (own_cap hkb) (by decide) (by decide) (by decide)
      obtain ⟨b19, g19⟩ : ∃ z, z = h18.size := ⟨_, rfl⟩
      rw [← g19] at A19 st19
      refine own_go st19 ?_
      have g_b19 : n0 ≤ b19 := Nat.le_trans Z18 (Nat.le_of_eq g19.symm)
      have sz_b19 : h0.size ≤ b19 := Nat.le_trans K18.1 (Nat.le_of_eq g19.symm)
      have ne_b18_b19 : b18 ≠ b19 := Nat.ne_of_lt (Nat.lt_of_lt_of_le B_b18.lt (Nat.le_of_eq g19.symm))
      replace B_b18 := B_b18.ext E19
      have K19 := K18.ext E19
      have Z19 : n0 ≤ h19.size := Nat.le_trans Z0 K19.1
      have B_b19 : own_Len Z h19 b19 .byte kb := ⟨_, A19, sz_new _ _ _, (own_neg hkb)⟩
      show own_Ends p e below T19 (mkF m 62 #[.val (.int p0), .val (.int p1), .val (.int p2), .val (.int p3), .val (.int p4), .val (.int ka), .val (.int va), .val (.int kb), .val (.int vb), .val (.int (0 : Int32)), .val (.int (1 : Int32)), .val (.ref b18), .unset, .unset, .unset, .unset, .unset, .unset, .unset, .unset, .unset, .unset, .unset, .unset, .unset] [(.ref b19)]) _
      refine own_go (fun _ => XS.astore X19.here hx rfl (hb hby at_62) rfl rfl (l' := #[.val (.int p0), .val (.int p1), .val (.int p2), .val (.int p3), .val (.int p4), .val (.int ka), .val (.int va), .val (.int kb), .val (.int vb), .val (.int (0 : Int32)), .val (.int (1 : Int32)), .val (.ref b18), .val (.ref b19), .unset, .unset, .unset, .unset, .unset, .unset, .unset, .unset, .unset, .unset, .unset, .unset]) rfl) ?_
      show own_Ends p e below T19 (mkF m 64 #[.val (.int p0), .val (.int p1), .val (.int p2), .val (.int p3), .val (.int p4), .val (.int ka), .val (.int va), .val (.int kb), .val (.int vb), .val (.int (0 : Int32)), .val (.int (1 : Int32)), .val (.ref b18), .val (.ref b19), .unset, .unset, .unset, .unset, .unset, .unset, .unset, .unset, .unset, .unset, .unset, .unset] []) _
      refine own_go (fun _ => XS.iload X19.here hx rfl (hb hby at_64) rfl) ?_
      show own_Ends p e below T19 (mkF m 66 #[.val (.int p0), .val (.int p1), .val (.int p2), .val (.int p3), .val (.int p4), .val (.int ka), .val (.int va), .val (.int kb), .val (.int vb), .val (.int (0 : Int32)), .val (.int (1 : Int32)), .val (.ref b18), .val (.ref b19), .unset, .unset, .unset, .unset, .unset, .unset, .unset, .unset, .unset, .unset, .unset, .unset] [(.int (0 : Int32))]) _
      refine own_go (fun _ => XS.ifYes X19.here hx rfl (pc0 := 66) (pc' := 73) rfl (hb hby at_66) rfl ((if0 _ _).trans (teq (show (0 : Int32) = (0 : Int32) from by decide)).1) (by decide) (by decide)) ?_
      show own_Ends p e below T19 (mkF m 73 #[.val (.int p0), .val (.int p1), .val (.int p2), .val (.int p3), .val (.int p4), .val (.int ka), .val (.int va), .val (.int kb), .val (.int vb), .val (.int (0 : Int32)), .val (.int (1 : Int32)), .val (.ref b18), .val (.ref b19), .unset, .unset, .unset, .unset, .unset, .unset, .unset, .unset, .unset, .unset, .unset, .unset] []) _
      refine own_go (fun _ => XS.iload X19.here hx rfl (hb hby at_73) rfl) ?_
      show own_Ends p e below T19 (mkF m 75 #[.val (.int p0), .val (.int p1), .val (.int p2), .val (.int p3), .val (.int p4), .val (.int ka), .val (.int va), .val (.int kb), .val (.int vb), .val (.int (0 : Int32)), .val (.int (1 : Int32)), .val (.ref b18), .val (.ref b19), .unset, .unset, .unset, .unset, .unset, .unset, .unset, .unset, .unset, .unset, .unset, .unset] [(.int va)]) _
      obtain ⟨T20, h20, k20, X20, e20, E20, A20, st20⟩ := newP X19 hx hZ (hw _ (List.mem_of_getElem? (i := 0) rfl)) e19 (g := (mkF m 75 #[.val (.int p0), .val (.int p1), .val (.int p2), .val (.int p3), .val (.int p4), .val (.int ka), .val (.int va), .val (.int kb), .val (.int vb), .val (.int (0 : Int32)), .val (.int (1 : Int32)), .val (.ref b18), .val (.ref b19), .unset, .unset, .unset, .unset, .unset, .unset, .unset, .unset, .unset, .unset, .unset, .unset] [(.int va)])) rfl (hb hby at_75) rfl (own_neg hva) (cap := 15) (own_cap hva) (by decide) (by decide) (by decide)
      obtain ⟨b20, g20⟩ : ∃ z, z = h19.size := ⟨_, rfl⟩
      rw [← g20] at A20 st20
      refine own_go st20 ?_
      have g_b20 : n0 ≤ b20 := Nat.le_trans Z19 (Nat.le_of_eq g20.symm)
      have sz_b20 : h0.size ≤ b20 := Nat.le_trans K19.1 (Nat.le_of_eq g20.symm)
      have ne_b18_b20 : b18 ≠ b20 := Nat.ne_of_lt (Nat.lt_of_lt_of_le B_b18.lt (Nat.le_of_eq g20.symm))
      have ne_b19_b20 : b19 ≠ b20 := Nat.ne_of_lt (Nat.lt_of_lt_of_le B_b19.lt (Nat.le_of_eq g20.symm))
      replace B_b18 := B_b18.ext E20
      replace B_b19 := B_b19.ext E20
      have K20 := K19.ext E20
      have Z20 : n0 ≤ h20.size := Nat.le_trans Z0 K20.1
      have B_b20 : own_Len Z h20 b20 .byte va := ⟨_, A20, sz_new _ _ _, (own_neg hva)⟩
      show own_Ends p e below T20 (mkF m 77 #[.val (.int p0), .val (.int p1), .val (.int p2), .val (.int p3), .val (.int p4), .val (.int ka), .val (.int va), .val (.int kb), .val (.int vb), .val (.int (0 : Int32)), .val (.int (1 : Int32)), .val (.ref b18), .val (.ref b19), .unset, .unset, .unset, .unset, .unset, .unset, .unset, .unset, .unset, .unset, .unset, .unset] [(.ref b20)]) _
      refine own_go (fun _ => XS.astore X20.here hx rfl (hb hby at_77) rfl rfl (l' := #[.val (.int p0), .val (.int p1), .val (.int p2), .val (.int p3), .val (.int p4), .val (.int ka), .val (.int va), .val (.int kb), .val (.int vb), .val (.int (0 : Int32)), .val (.int (1 : Int32)), .val (.ref b18), .val (.ref b19), .val (.ref b20), .unset, .unset, .unset, .unset, .unset, .unset, .unset, .unset, .unset, .unset, .unset]) rfl) ?_
      show own_Ends p e below T20 (mkF m 79 #[.val (.int p0), .val (.int p1), .val (.int p2), .val (.int p3), .val (.int p4), .val (.int ka), .val (.int va), .val (.int kb), .val (.int vb), .val (.int (0 : Int32)), .val (.int (1 : Int32)), .val (.ref b18), .val (.ref b19), .val (.ref b20), .unset, .unset, .unset, .unset, .unset, .unset, .unset, .unset, .unset, .unset, .unset] []) _
      refine own_go (fun _ => XS.iload X20.here hx rfl (hb hby at_79) rfl) ?_
      show own_Ends p e below T20 (mkF m 81 #[.val (.int p0), .val (.int p1), .val (.int p2), .val (.int p3), .val (.int p4), .val (.int ka), .val (.int va), .val (.int kb), .val (.int vb), .val (.int (0 : Int32)), .val (.int (1 : Int32)), .val (.ref b18), .val (.ref b19), .val (.ref b20), .unset, .unset, .unset, .unset, .unset, .unset, .unset, .unset, .unset, .unset, .unset] [(.int (1 : Int32))]) _
      refine own_go (fun _ => XS.ifNo X20.here hx rfl (hb hby at_81) rfl ((if0 _ _).trans (feq (show ¬ ((1 : Int32) = (0 : Int32)) from by decide)).1)) ?_
      show own_Ends p e below T20 (mkF m 84 #[.val (.int p0), .val (.int p1), .val (.int p2), .val (.int p3), .val (.int p4), .val (.int ka), .val (.int va), .val (.int kb), .val (.int vb), .val (.int (0 : Int32)), .val (.int (1 : Int32)), .val (.ref b18), .val (.ref b19), .val (.ref b20), .unset, .unset, .unset, .unset, .unset, .unset, .unset, .unset, .unset, .unset, .unset] []) _
      refine own_go (fun _ => XS.aconstNull X20.here hx rfl (hb hby at_84)) ?_
      show own_Ends p e below T20 (mkF m 85 #[.val (.int p0), .val (.int p1), .val (.int p2), .val (.int p3), .val (.int p4), .val (.int ka), .val (.int va), .val (.int kb), .val (.int vb), .val (.int (0 : Int32)), .val (.int (1 : Int32)), .val (.ref b18), .val (.ref b19), .val (.ref b20), .unset, .unset, .unset, .unset, .unset, .unset, .unset, .unset, .unset, .unset, .unset] [.null]) _
      refine own_go (fun _ => XS.goto X20.here hx rfl (pc0 := 85) (pc' := 92) rfl (hb hby at_85) (by decide) (by decide)) ?_
      show own_Ends p e below T20 (mkF m 92 #[.val (.int p0), .val (.int p1), .val (.int p2), .val (.int p3), .val (.int p4), .val (.int ka), .val (.int va), .val (.int kb), .val (.int vb), .val (.int (0 : Int32)), .val (.int (1 : Int32)), .val (.ref b18), .val (.ref b19), .val (.ref b20), .unset, .unset, .unset, .unset, .unset, .unset, .unset, .unset, .unset, .unset, .unset] [.null]) _
      refine own_go (fun _ => XS.astore X20.here hx rfl (hb hby at_92) rfl rfl (l' := #[.val (.int p0), .val (.int p1), .val (.int p2), .val (.int p3), .val (.int p4), .val (.int ka), .val (.int va), .val (.int kb), .val (.int vb), .val (.int (0 : Int32)), .val (.int (1 : Int32)), .val (.ref b18), .val (.ref b19), .val (.ref b20), .val .null, .unset, .unset, .unset, .unset, .unset, .unset, .unset, .unset, .unset, .unset]) rfl) ?_
      show own_Ends p e below T20 (mkF m 94 #[.val (.int p0), .val (.int p1), .val (.int p2), .val (.int p3), .val (.int p4), .val (.int ka), .val (.int va), .val (.int kb), .val (.int vb), .val (.int (0 : Int32)), .val (.int (1 : Int32)), .val (.ref b18), .val (.ref b19), .val (.ref b20), .val .null, .unset, .unset, .unset, .unset, .unset, .unset, .unset, .unset, .unset, .unset] []) _
      refine own_go (fun _ => XS.iload X20.here hx rfl (hb hby at_94) rfl) ?_
      show own_Ends p e below T20 (mkF m 96 #[.val (.int p0), .val (.int p1), .val (.int p2), .val (.int p3), .val (.int p4), .val (.int ka), .val (.int va), .val (.int kb), .val (.int vb), .val (.int (0 : Int32)), .val (.int (1 : Int32)), .val (.ref b18), .val (.ref b19), .val (.ref b20), .val .null, .unset, .unset, .unset, .unset, .unset, .unset, .unset, .unset, .unset, .unset] [(.int (0 : Int32))]) _
      refine own_go (fun _ => XS.ifYes X20.here hx rfl (pc0 := 96) (pc' := 105) rfl (hb hby at_96) rfl ((if0 _ _).trans (teq (show (0 : Int32) = (0 : Int32) from by decide)).1) (by decide) (by decide)) ?_
      show own_Ends p e below T20 (mkF m 105 #[.val (.int p0), .val (.int p1), .val (.int p2), .val (.int p3), .val (.int p4), .val (.int ka), .val (.int va), .val (.int kb), .val (.int vb), .val (.int (0 : Int32)), .val (.int (1 : Int32)), .val (.ref b18), .val (.ref b19), .val (.ref b20), .val .null, .unset, .unset, .unset, .unset, .unset, .unset, .unset, .unset, .unset, .unset] []) _
      refine own_go (fun _ => XS.iload X20.here hx rfl (hb hby at_105) rfl) ?_
      show own_Ends p e below T20 (mkF m 107 #[.val (.int p0), .val (.int p1), .val (.int p2), .val (.int p3), .val (.int p4), .val (.int ka), .val (.int va), .val (.int kb), .val (.int vb), .val (.int (0 : Int32)), .val (.int (1 : Int32)), .val (.ref b18), .val (.ref b19), .val (.ref b20), .val .null, .unset, .unset, .unset, .unset, .unset, .unset, .unset, .unset, .unset, .unset] [(.int ka)]) _
      refine own_go (fun _ => XS.i2l X20.here hx rfl (hb hby at_107) rfl) ?_
      show own_Ends p e below T20 (mkF m 108 #[.val (.int p0), .val (.int p1), .val (.int p2), .val (.int p3), .val (.int p4), .val (.int ka), .val (.int va), .val (.int kb), .val (.int vb), .val (.int (0 : Int32)), .val (.int (1 : Int32)), .val (.ref b18), .val (.ref b19), .val (.ref b20), .val .null, .unset, .unset, .unset, .unset, .unset, .unset, .unset, .unset, .unset, .unset] [(.long (ka.toInt64))]) _
      refine own_go (fun _ => XS.iload X20.here hx rfl (hb hby at_108) rfl) ?_
      show own_Ends p e below T20 (mkF m 110 #[.val (.int p0), .val (.int p1), .val (.int p2), .val (.int p3), .val (.int p4), .val (.int ka), .val (.int va), .val (.int kb), .val (.int vb), .val (.int (0 : Int32)), .val (.int (1 : Int32)), .val (.ref b18), .val (.ref b19), .val (.ref b20), .val .null, .unset, .unset, .unset, .unset, .unset, .unset, .unset, .unset, .unset, .unset] [(.int va), (.long (ka.toInt64))]) _
      refine own_go (fun _ => XS.i2l X20.here hx rfl (hb hby at_110) rfl) ?_
      show own_Ends p e below T20 (mkF m 111 #[.val (.int p0), .val (.int p1), .val (.int p2), .val (.int p3), .val (.int p4), .val (.int ka), .val (.int va), .val (.int kb), .val (.int vb), .val (.int (0 : Int32)), .val (.int (1 : Int32)), .val (.ref b18), .val (.ref b19), .val (.ref b20), .val .null, .unset, .unset, .unset, .unset, .unset, .unset, .unset, .unset, .unset, .unset] [(.long (va.toInt64)), (.long (ka.toInt64))]) _
      refine own_go (fun _ => XS.ladd X20.here hx rfl (hb hby at_111) rfl) ?_
      show own_Ends p e below T20 (mkF m 112 #[.val (.int p0), .val (.int p1), .val (.int p2), .val (.int p3), .val (.int p4), .val (.int ka), .val (.int va), .val (.int kb), .val (.int vb), .val (.int (0 : Int32)), .val (.int (1 : Int32)), .val (.ref b18), .val (.ref b19), .val (.ref b20), .val .null, .unset, .unset, .unset, .unset, .unset, .unset, .unset, .unset, .unset, .unset] [(.long ((ka.toInt64) + (va.toInt64)))]) _
      refine own_go (fun _ => XS.lstore X20.here hx rfl (hb hby at_112) rfl (l' := #[.val (.int p0), .val (.int p1), .val (.int p2), .val (.int p3), .val (.int p4), .val (.int ka), .val (.int va), .val (.int kb), .val (.int vb), .val (.int (0 : Int32)), .val (.int (1 : Int32)), .val (.ref b18), .val (.ref b19), .val (.ref b20), .val .null, .val (.long ((ka.toInt64) + (va.toInt64))), .second, .unset, .unset, .unset, .unset, .unset, .unset, .unset, .unset]) rfl) ?_
      show own_Ends p e below T20 (mkF m 114 #[.val (.int p0), .val (.int p1), .val (.int p2), .val (.int p3), .val (.int p4), .val (.int ka), .val (.int va), .val (.int kb), .val (.int vb), .val (.int (0 : Int32)), .val (.int (1 : Int32)), .val (.ref b18), .val (.ref b19), .val (.ref b20), .val .null, .val (.long ((ka.toInt64) + (va.toInt64))), .second, .unset, .unset, .unset, .unset, .unset, .unset, .unset, .unset] []) _
      refine own_go (fun _ => XS.iload X20.here hx rfl (hb hby at_114) rfl) ?_
      show own_Ends p e below T20 (mkF m 116 #[.val (.int p0), .val (.int p1), .val (.int p2), .val (.int p3), .val (.int p4), .val (.int ka), .val (.int va), .val (.int kb), .val (.int vb), .val (.int (0 : Int32)), .val (.int (1 : Int32)), .val (.ref b18), .val (.ref b19), .val (.ref b20), .val .null, .val (.long ((ka.toInt64) + (va.toInt64))), .second, .unset, .unset, .unset, .unset, .unset, .unset, .unset, .unset] [(.int (1 : Int32))]) _
      refine own_go (fun _ => XS.ifNo X20.here hx rfl (hb hby at_116) rfl ((if0 _ _).trans (feq (show ¬ ((1 : Int32) = (0 : Int32)) from by decide)).1)) ?_
      show own_Ends p e below T20 (mkF m 119 #[.val (.int p0), .val (.int p1), .val (.int p2), .val (.int p3), .val (.int p4), .val (.int ka), .val (.int va), .val (.int kb), .val (.int vb), .val (.int (0 : Int32)), .val (.int (1 : Int32)), .val (.ref b18), .val (.ref b19), .val (.ref b20), .val .null, .val (.long ((ka.toInt64) + (va.toInt64))), .second, .unset, .unset, .unset, .unset, .unset, .unset, .unset, .unset] []) _
      refine own_go (fun _ => XS.iload X20.here hx rfl (hb hby at_119) rfl) ?_
      show own_Ends p e below T20 (mkF m 121 #[.val (.int p0), .val (.int p1), .val (.int p2), .val (.int p3), .val (.int p4), .val (.int ka), .val (.int va), .val (.int kb), .val (.int vb), .val (.int (0 : Int32)), .val (.int (1 : Int32)), .val (.ref b18), .val (.ref b19), .val (.ref b20), .val .null, .val (.long ((ka.toInt64) + (va.toInt64))), .second, .unset, .unset, .unset, .unset, .unset, .unset, .unset, .unset] [(.int kb)]) _
      refine own_go (fun _ => XS.i2l X20.here hx rfl (hb hby at_121) rfl) ?_
      show own_Ends p e below T20 (mkF m 122 #[.val (.int p0), .val (.int p1), .val (.int p2), .val (.int p3), .val (.int p4), .val (.int ka), .val (.int va), .val (.int kb), .val (.int vb), .val (.int (0 : Int32)), .val (.int (1 : Int32)), .val (.ref b18), .val (.ref b19), .val (.ref b20), .val .null, .val (.long ((ka.toInt64) + (va.toInt64))), .second, .unset, .unset, .unset, .unset, .unset, .unset, .unset, .unset] [(.long (kb.toInt64))]) _
      refine own_go (fun _ => XS.goto X20.here hx rfl (pc0 := 122) (pc' := 132) rfl (hb hby at_122) (by decide) (by decide)) ?_
      show own_Ends p e below T20 (mkF m 132 #[.val (.int p0), .val (.int p1), .val (.int p2), .val (.int p3), .val (.int p4), .val (.int ka), .val (.int va), .val (.int kb), .val (.int vb), .val (.int (0 : Int32)), .val (.int (1 : Int32)), .val (.ref b18), .val (.ref b19), .val (.ref b20), .val .null, .val (.long ((ka.toInt64) + (va.toInt64))), .second, .unset, .unset, .unset, .unset, .unset, .unset, .unset, .unset] [(.long (kb.toInt64))]) _
      refine own_go (fun _ => XS.lstore X20.here hx rfl (hb hby at_132) rfl (l' := #[.val (.int p0), .val (.int p1), .val (.int p2), .val (.int p3), .val (.int p4), .val (.int ka), .val (.int va), .val (.int kb), .val (.int vb), .val (.int (0 : Int32)), .val (.int (1 : Int32)), .val (.ref b18), .val (.ref b19), .val (.ref b20), .val .null, .val (.long ((ka.toInt64) + (va.toInt64))), .second, .val (.long (kb.toInt64)), .second, .unset, .unset, .unset, .unset, .unset, .unset]) rfl) ?_
      show own_Ends p e below T20 (mkF m 134 #[.val (.int p0), .val (.int p1), .val (.int p2), .val (.int p3), .val (.int p4), .val (.int ka), .val (.int va), .val (.int kb), .val (.int vb), .val (.int (0 : Int32)), .val (.int (1 : Int32)), .val (.ref b18), .val (.ref b19), .val (.ref b20), .val .null, .val (.long ((ka.toInt64) + (va.toInt64))), .second, .val (.long (kb.toInt64)), .second, .unset, .unset, .unset, .unset, .unset, .unset] []) _
      refine own_go (fun _ => XS.lload X20.here hx rfl (hb hby at_134) rfl) ?_
      show own_Ends p e below T20 (mkF m 136 #[.val (.int p0), .val (.int p1), .val (.int p2), .val (.int p3), .val (.int p4), .val (.int ka), .val (.int va), .val (.int kb), .val (.int vb), .val (.int (0 : Int32)), .val (.int (1 : Int32)), .val (.ref b18), .val (.ref b19), .val (.ref b20), .val .null, .val (.long ((ka.toInt64) + (va.toInt64))), .second, .val (.long (kb.toInt64)), .second, .unset, .unset, .unset, .unset, .unset, .unset] [(.long ((ka.toInt64) + (va.toInt64)))]) _
      refine own_go (fun _ => XS.lload X20.here hx rfl (hb hby at_136) rfl) ?_
      show own_Ends p e below T20 (mkF m 138 #[.val (.int p0), .val (.int p1), .val (.int p2), .val (.int p3), .val (.int p4), .val (.int ka), .val (.int va), .val (.int kb), .val (.int vb), .val (.int (0 : Int32)), .val (.int (1 : Int32)), .val (.ref b18), .val (.ref b19), .val (.ref b20), .val .null, .val (.long ((ka.toInt64) + (va.toInt64))), .second, .val (.long (kb.toInt64)), .second, .unset, .unset, .unset, .unset, .unset, .unset] [(.long (kb.toInt64)), (.long ((ka.toInt64) + (va.toInt64)))]) _
      refine own_go (fun _ => XS.ladd X20.here hx rfl (hb hby at_138) rfl) ?_
      show own_Ends p e below T20 (mkF m 139 #[.val (.int p0), .val (.int p1), .val (.int p2), .val (.int p3), .val (.int p4), .val (.int ka), .val (.int va), .val (.int kb), .val (.int vb), .val (.int (0 : Int32)), .val (.int (1 : Int32)), .val (.ref b18), .val (.ref b19), .val (.ref b20), .val .null, .val (.long ((ka.toInt64) + (va.toInt64))), .second, .val (.long (kb.toInt64)), .second, .unset, .unset, .unset, .unset, .unset, .unset] [(.long (((ka.toInt64) + (va.toInt64)) + (kb.toInt64)))]) _
      refine own_go (fun _ => XS.lstore X20.here hx rfl (hb hby at_139) rfl (l' := #[.val (.int p0), .val (.int p1), .val (.int p2), .val (.int p3), .val (.int p4), .val (.int ka), .val (.int va), .val (.int kb), .val (.int vb), .val (.int (0 : Int32)), .val (.int (1 : Int32)), .val (.ref b18), .val (.ref b19), .val (.ref b20), .val .null, .val (.long ((ka.toInt64) + (va.toInt64))), .second, .val (.long (kb.toInt64)), .second, .val (.long (((ka.toInt64) + (va.toInt64)) + (kb.toInt64))), .second, .unset, .unset, .unset, .unset]) rfl) ?_
      show own_Ends p e below T20 (mkF m 141 #[.val (.int p0), .val (.int p1), .val (.int p2), .val (.int p3), .val (.int p4), .val (.int ka), .val (.int va), .val (.int kb), .val (.int vb), .val (.int (0 : Int32)), .val (.int (1 : Int32)), .val (.ref b18), .val (.ref b19), .val (.ref b20), .val .null, .val (.long ((ka.toInt64) + (va.toInt64))), .second, .val (.long (kb.toInt64)), .second, .val (.long (((ka.toInt64) + (va.toInt64)) + (kb.toInt64))), .second, .unset, .unset, .unset, .unset] []) _
      have ht := own_bt (own_b2 hka hva) (own_b1 hkb)
      generalize gt : (((ka.toInt64) + (va.toInt64)) + (kb.toInt64)) = t at ht ⊢
      obtain ⟨T21, h21, X21, e21, E21, A21, D21, -, st21⟩ := newO X20 hx hZ hown (hw _ (List.mem_of_getElem? (i := 1) rfl)) (hw _ (List.mem_of_getElem? (i := 2) rfl)) (hw _ (List.mem_of_getElem? (i := 3) rfl)) e20 (g := (mkF m 141 #[.val (.int p0), .val (.int p1), .val (.int p2), .val (.int p3), .val (.int p4), .val (.int ka), .val (.int va), .val (.int kb), .val (.int vb), .val (.int (0 : Int32)), .val (.int (1 : Int32)), .val (.ref b18), .val (.ref b19), .val (.ref b20), .val .null, .val (.long ((ka.toInt64) + (va.toInt64))), .second, .val (.long (kb.toInt64)), .second, .val (.long t), .second, .unset, .unset, .unset, .unset] [])) rfl (hb hby at_141) (by decide) (by decide)
      obtain ⟨b21, g21⟩ : ∃ z, z = h20.size := ⟨_, rfl⟩
      rw [← g21] at A21 D21 st21
      refine own_go st21 ?_
      have g_b21 : n0 ≤ b21 := Nat.le_trans Z20 (Nat.le_of_eq g21.symm)
      have sz_b21 : h0.size ≤ b21 := Nat.le_trans K20.1 (Nat.le_of_eq g21.symm)
      have ne_b18_b21 : b18 ≠ b21 := Nat.ne_of_lt (Nat.lt_of_lt_of_le B_b18.lt (Nat.le_of_eq g21.symm))
      have ne_b19_b21 : b19 ≠ b21 := Nat.ne_of_lt (Nat.lt_of_lt_of_le B_b19.lt (Nat.le_of_eq g21.symm))
      have ne_b20_b21 : b20 ≠ b21 := Nat.ne_of_lt (Nat.lt_of_lt_of_le B_b20.lt (Nat.le_of_eq g21.symm))
      replace B_b18 := B_b18.ext E21
      replace B_b19 := B_b19.ext E21
      replace B_b20 := B_b20.ext E21
      have K21 := K20.ext E21
      have Z21 : n0 ≤ h21.size := Nat.le_trans Z0 K21.1
      have F_b21_entries : Fld Z h21 b21 "com/example/wedge/wedge/Batch$Size" "entries" "J" (.long (0 : Int64)) := D21 (Or.inl (hw _ (List.mem_of_getElem? (i := 16) rfl))) (ty := .long) (by decide)
      have F_b21_bytes : Fld Z h21 b21 "com/example/wedge/wedge/Batch$Size" "bytes" "J" (.long (0 : Int64)) := D21 (Or.inl (hw _ (List.mem_of_getElem? (i := 18) rfl))) (ty := .long) (by decide)
      show own_Ends p e below T21 (mkF m 144 #[.val (.int p0), .val (.int p1), .val (.int p2), .val (.int p3), .val (.int p4), .val (.int ka), .val (.int va), .val (.int kb), .val (.int vb), .val (.int (0 : Int32)), .val (.int (1 : Int32)), .val (.ref b18), .val (.ref b19), .val (.ref b20), .val .null, .val (.long ((ka.toInt64) + (va.toInt64))), .second, .val (.long (kb.toInt64)), .second, .val (.long t), .second, .unset, .unset, .unset, .unset] [(.ref b21)]) _
      refine own_go (fun _ => XS.dup X21.here hx rfl (hb hby at_144) rfl rfl) ?_
      show own_Ends p e below T21 (mkF m 145 #[.val (.int p0), .val (.int p1), .val (.int p2), .val (.int p3), .val (.int p4), .val (.int ka), .val (.int va), .val (.int kb), .val (.int vb), .val (.int (0 : Int32)), .val (.int (1 : Int32)), .val (.ref b18), .val (.ref b19), .val (.ref b20), .val .null, .val (.long ((ka.toInt64) + (va.toInt64))), .second, .val (.long (kb.toInt64)), .second, .val (.long t), .second, .unset, .unset, .unset, .unset] [(.ref b21), (.ref b21)]) _
      obtain ⟨_, _, ⟨T22, L22, k22, n22⟩, -, X22, ⟨Lc22, hQ22, l22, y22, z22⟩, st22⟩ := X21.specialBack hx (y := (⟨"com/example/wedge/wedge/Batch$Size", "<init>", "()V"⟩ : MethodName)) rfl hown (mvT hZ (hw _ (List.mem_of_getElem? (i := 4) rfl))) (mvT hZ (hw _ (List.mem_of_getElem? (i := 5) rfl))) (mvT hZ (hw _ (List.mem_of_getElem? (i := 6) rfl))) (by decide) (backOf (W := 1) (rmSInit l Z a0 hw [] b21  h21 n0 Z21 ) hZ (hw _ (List.mem_of_getElem? (i := 6) rfl)) (hw _ (List.mem_of_getElem? (i := 3) rfl)) (by decide) (by decide)) (g := (mkF m 145 #[.val (.int p0), .val (.int p1), .val (.int p2), .val (.int p3), .val (.int p4), .val (.int ka), .val (.int va), .val (.int kb), .val (.int vb), .val (.int (0 : Int32)), .val (.int (1 : Int32)), .val (.ref b18), .val (.ref b19), .val (.ref b20), .val .null, .val (.long ((ka.toInt64) + (va.toInt64))), .second, .val (.long (kb.toInt64)), .second, .val (.long t), .second, .unset, .unset, .unset, .unset] [(.ref b21), (.ref b21)])) rfl (by rw [hml]; rfl) (Steps.refl _) (a := b21) (argsL := []) (rest := [(.ref b21)]) (lenOf pd_0 rfl) rfl (by show 2 * 0 + _ ≤ _; exact Nat.le_of_eq rfl) (hb hby at_145) (fun _ _ => ⟨rfl, e21, (by decide : 4 + 0 ≤ _), (by decide : 47 + 0 ≤ _)⟩)
      dsimp only [Pt.U, Pt.locs, Pt.cells, Pt.slots] at X22 l22 y22 z22 st22 hQ22
      subst l22 y22 z22
      refine own_go (fun _ k => st22.trans k) ?_
      obtain ⟨rfl, N22q, eh22⟩ := hQ22
      have N22 := Fr.app N0 N22q
      show own_Ends p e below T22 (mkF m 148 #[.val (.int p0), .val (.int p1), .val (.int p2), .val (.int p3), .val (.int p4), .val (.int ka), .val (.int va), .val (.int kb), .val (.int vb), .val (.int (0 : Int32)), .val (.int (1 : Int32)), .val (.ref b18), .val (.ref b19), .val (.ref b20), .val .null, .val (.long ((ka.toInt64) + (va.toInt64))), .second, .val (.long (kb.toInt64)), .second, .val (.long t), .second, .unset, .unset, .unset, .unset] [(.ref b21)]) _
      refine own_go (fun _ => XS.astore X22.here hx rfl (hb hby at_148) rfl rfl (l' := #[.val (.int p0), .val (.int p1), .val (.int p2), .val (.int p3), .val (.int p4), .val (.int ka), .val (.int va), .val (.int kb), .val (.int vb), .val (.int (0 : Int32)), .val (.int (1 : Int32)), .val (.ref b18), .val (.ref b19), .val (.ref b20), .val .null, .val (.long ((ka.toInt64) + (va.toInt64))), .second, .val (.long (kb.toInt64)), .second, .val (.long t), .second, .val (.ref b21), .unset, .unset, .unset]) rfl) ?_
      show own_Ends p e below T22 (mkF m 150 #[.val (.int p0), .val (.int p1), .val (.int p2), .val (.int p3), .val (.int p4), .val (.int ka), .val (.int va), .val (.int kb), .val (.int vb), .val (.int (0 : Int32)), .val (.int (1 : Int32)), .val (.ref b18), .val (.ref b19), .val (.ref b20), .val .null, .val (.long ((ka.toInt64) + (va.toInt64))), .second, .val (.long (kb.toInt64)), .second, .val (.long t), .second, .val (.ref b21), .unset, .unset, .unset] []) _
      refine own_go (fun _ => XS.aload X22.here hx rfl (hb hby at_150) rfl rfl) ?_
      show own_Ends p e below T22 (mkF m 152 #[.val (.int p0), .val (.int p1), .val (.int p2), .val (.int p3), .val (.int p4), .val (.int ka), .val (.int va), .val (.int kb), .val (.int vb), .val (.int (0 : Int32)), .val (.int (1 : Int32)), .val (.ref b18), .val (.ref b19), .val (.ref b20), .val .null, .val (.long ((ka.toInt64) + (va.toInt64))), .second, .val (.long (kb.toInt64)), .second, .val (.long t), .second, .val (.ref b21), .unset, .unset, .unset] [(.ref b21)]) _
      refine own_go (fun _ => XS.aload X22.here hx rfl (hb hby at_152) rfl rfl) ?_
      show own_Ends p e below T22 (mkF m 154 #[.val (.int p0), .val (.int p1), .val (.int p2), .val (.int p3), .val (.int p4), .val (.int ka), .val (.int va), .val (.int kb), .val (.int vb), .val (.int (0 : Int32)), .val (.int (1 : Int32)), .val (.ref b18), .val (.ref b19), .val (.ref b20), .val .null, .val (.long ((ka.toInt64) + (va.toInt64))), .second, .val (.long (kb.toInt64)), .second, .val (.long t), .second, .val (.ref b21), .unset, .unset, .unset] [(.ref b18), (.ref b21)]) _
      refine own_go (fun _ => XS.aload X22.here hx rfl (hb hby at_154) rfl rfl) ?_
      show own_Ends p e below T22 (mkF m 156 #[.val (.int p0), .val (.int p1), .val (.int p2), .val (.int p3), .val (.int p4), .val (.int ka), .val (.int va), .val (.int kb), .val (.int vb), .val (.int (0 : Int32)), .val (.int (1 : Int32)), .val (.ref b18), .val (.ref b19), .val (.ref b20), .val .null, .val (.long ((ka.toInt64) + (va.toInt64))), .second, .val (.long (kb.toInt64)), .second, .val (.long t), .second, .val (.ref b21), .unset, .unset, .unset] [(.ref b20), (.ref b18), (.ref b21)]) _
      obtain ⟨cq23, kq23, q23a, q23b, q23c⟩ := isOf hZ eh22 A21
      obtain ⟨_, _, ⟨T23, L23, k23, n23⟩, -, X23, ⟨Lc23, hQ23, l23, y23, z23⟩, st23⟩ := X22.virtualBack hx (y := (⟨"com/example/wedge/wedge/Batch$Size", "add", "([B[B)V"⟩ : MethodName)) (z := (⟨"com/example/wedge/wedge/Batch$Size", "add", "([B[B)V"⟩ : MethodName)) hown (mvT hZ (hw _ (List.mem_of_getElem? (i := 10) rfl))) (mvT hZ (hw _ (List.mem_of_getElem? (i := 11) rfl))) (notFace_of_selects (args := #[]) (mvT hZ (hw _ (List.mem_of_getElem? (i := 13) rfl)))) (mvT hZ (hw _ (List.mem_of_getElem? (i := 13) rfl))) (mvT hZ (hw _ (List.mem_of_getElem? (i := 12) rfl))) (by decide) (backOf (W := 0) (rmAddr l Z a0 hw [] b21 b18 b20 ((0 : Int64)) ((0 : Int64)) ka va h21 n0 Z21 A21 F_b21_entries F_b21_bytes g_b21 B_b18 B_b20 ne_b18_b21 ne_b20_b21) hZ (hw _ (List.mem_of_getElem? (i := 14) rfl)) (hw _ (List.mem_of_getElem? (i := 3) rfl)) (by decide) (by decide)) q23a q23c (g := (mkF m 156 #[.val (.int p0), .val (.int p1), .val (.int p2), .val (.int p3), .val (.int p4), .val (.int ka), .val (.int va), .val (.int kb), .val (.int vb), .val (.int (0 : Int32)), .val (.int (1 : Int32)), .val (.ref b18), .val (.ref b19), .val (.ref b20), .val .null, .val (.long ((ka.toInt64) + (va.toInt64))), .second, .val (.long (kb.toInt64)), .second, .val (.long t), .second, .val (.ref b21), .unset, .unset, .unset] [(.ref b20), (.ref b18), (.ref b21)])) rfl (by rw [hml]; rfl) (Steps.refl _) (argsL := [(.ref b18), (.ref b20)]) (rest := []) (lenOf pd_3 rfl) rfl (by show 2 * 0 + _ ≤ _; exact Nat.le_of_eq rfl) (hb hby at_156) (fun _ _ => ⟨rfl, eh22, (by decide : 4 + 0 ≤ _), (by decide : 47 + 0 ≤ _)⟩)
      dsimp only [Pt.U, Pt.locs, Pt.cells, Pt.slots] at X23 l23 y23 z23 st23 hQ23
      subst l23 y23 z23
      refine own_go (fun _ k => st23.trans k) ?_
      obtain ⟨rfl, N23q, Kq23, Eq23, F23_entries, F23_bytes⟩ := hQ23
      replace B_b18 := B_b18.keep Kq23 (ninS ne_b18_b21 nin0)
      replace B_b19 := B_b19.keep Kq23 (ninS ne_b19_b21 nin0)
      replace B_b20 := B_b20.keep Kq23 (ninS ne_b20_b21 nin0)
      replace A21 := A21.keep Kq23
      have K23 := K21.trans Kq23 (allS (Or.inr sz_b21) all0)
      have Z23 : n0 ≤ T23.heap.size := Nat.le_trans Z0 K23.1
      clear Eq23
      have N23 := Fr.app N22 N23q
      show own_Ends p e below T23 (mkF m 159 #[.val (.int p0), .val (.int p1), .val (.int p2), .val (.int p3), .val (.int p4), .val (.int ka), .val (.int va), .val (.int kb), .val (.int vb), .val (.int (0 : Int32)), .val (.int (1 : Int32)), .val (.ref b18), .val (.ref b19), .val (.ref b20), .val .null, .val (.long ((ka.toInt64) + (va.toInt64))), .second, .val (.long (kb.toInt64)), .second, .val (.long t), .second, .val (.ref b21), .unset, .unset, .unset] []) _
      refine own_go (fun _ => XS.aload X23.here hx rfl (hb hby at_159) rfl rfl) ?_
      show own_Ends p e below T23 (mkF m 161 #[.val (.int p0), .val (.int p1), .val (.int p2), .val (.int p3), .val (.int p4), .val (.int ka), .val (.int va), .val (.int kb), .val (.int vb), .val (.int (0 : Int32)), .val (.int (1 : Int32)), .val (.ref b18), .val (.ref b19), .val (.ref b20), .val .null, .val (.long ((ka.toInt64) + (va.toInt64))), .second, .val (.long (kb.toInt64)), .second, .val (.long t), .second, .val (.ref b21), .unset, .unset, .unset] [(.ref b21)]) _
      refine own_go (fun _ => XS.aload X23.here hx rfl (hb hby at_161) rfl rfl) ?_
      show own_Ends p e below T23 (mkF m 163 #[.val (.int p0), .val (.int p1), .val (.int p2), .val (.int p3), .val (.int p4), .val (.int ka), .val (.int va), .val (.int kb), .val (.int vb), .val (.int (0 : Int32)), .val (.int (1 : Int32)), .val (.ref b18), .val (.ref b19), .val (.ref b20), .val .null, .val (.long ((ka.toInt64) + (va.toInt64))), .second, .val (.long (kb.toInt64)), .second, .val (.long t), .second, .val (.ref b21), .unset, .unset, .unset] [(.ref b19), (.ref b21)]) _
      refine own_go (fun _ => XS.aload X23.here hx rfl (hb hby at_163) rfl rfl) ?_
      show own_Ends p e below T23 (mkF m 165 #[.val (.int p0), .val (.int p1), .val (.int p2), .val (.int p3), .val (.int p4), .val (.int ka), .val (.int va), .val (.int kb), .val (.int vb), .val (.int (0 : Int32)), .val (.int (1 : Int32)), .val (.ref b18), .val (.ref b19), .val (.ref b20), .val .null, .val (.long ((ka.toInt64) + (va.toInt64))), .second, .val (.long (kb.toInt64)), .second, .val (.long t), .second, .val (.ref b21), .unset, .unset, .unset] [.null, (.ref b19), (.ref b21)]) _
      obtain ⟨cq24, kq24, q24a, q24b, q24c⟩ := isOf hZ rfl A21
      obtain ⟨_, _, ⟨T24, L24, k24, n24⟩, -, X24, ⟨Lc24, hQ24, l24, y24, z24⟩, st24⟩ := X23.virtualBack hx (y := (⟨"com/example/wedge/wedge/Batch$Size", "add", "([B[B)V"⟩ : MethodName)) (z := (⟨"com/example/wedge/wedge/Batch$Size", "add", "([B[B)V"⟩ : MethodName)) hown (mvT hZ (hw _ (List.mem_of_getElem? (i := 10) rfl))) (mvT hZ (hw _ (List.mem_of_getElem? (i := 11) rfl))) (notFace_of_selects (args := #[]) (mvT hZ (hw _ (List.mem_of_getElem? (i := 13) rfl)))) (mvT hZ (hw _ (List.mem_of_getElem? (i := 13) rfl))) (mvT hZ (hw _ (List.mem_of_getElem? (i := 12) rfl))) (by decide) (backOf (W := 0) (rmAddn l Z a0 hw [] b21 b19 (((0 : Int64) + (1 : Int64))) (((0 : Int64) + ((ka + va).toInt64))) kb (T23.heap) n0 Z23 A21 F23_entries F23_bytes g_b21 B_b19 ne_b19_b21) hZ (hw _ (List.mem_of_getElem? (i := 14) rfl)) (hw _ (List.mem_of_getElem? (i := 3) rfl)) (by decide) (by decide)) q24a q24c (g := (mkF m 165 #[.val (.int p0), .val (.int p1), .val (.int p2), .val (.int p3), .val (.int p4), .val (.int ka), .val (.int va), .val (.int kb), .val (.int vb), .val (.int (0 : Int32)), .val (.int (1 : Int32)), .val (.ref b18), .val (.ref b19), .val (.ref b20), .val .null, .val (.long ((ka.toInt64) + (va.toInt64))), .second, .val (.long (kb.toInt64)), .second, .val (.long t), .second, .val (.ref b21), .unset, .unset, .unset] [.null, (.ref b19), (.ref b21)])) rfl (by rw [hml]; rfl) (Steps.refl _) (argsL := [(.ref b19), .null]) (rest := []) (lenOf pd_3 rfl) rfl (by show 2 * 0 + _ ≤ _; exact Nat.le_of_eq rfl) (hb hby at_165) (fun _ _ => ⟨rfl, rfl, (by decide : 4 + 0 ≤ _), (by decide : 47 + 0 ≤ _)⟩)
      dsimp only [Pt.U, Pt.locs, Pt.cells, Pt.slots] at X24 l24 y24 z24 st24 hQ24
      subst l24 y24 z24
      refine own_go (fun _ k => st24.trans k) ?_
      obtain ⟨rfl, N24q, Kq24, Eq24, F24_entries, F24_bytes⟩ := hQ24
      replace B_b18 := B_b18.keep Kq24 (ninS ne_b18_b21 nin0)
      replace B_b19 := B_b19.keep Kq24 (ninS ne_b19_b21 nin0)
      replace B_b20 := B_b20.keep Kq24 (ninS ne_b20_b21 nin0)
      replace A21 := A21.keep Kq24
      have K24 := K23.trans Kq24 (allS (Or.inr sz_b21) all0)
      have Z24 : n0 ≤ T24.heap.size := Nat.le_trans Z0 K24.1
      clear Eq24
      have N24 := Fr.app N23 N24q
      show own_Ends p e below T24 (mkF m 168 #[.val (.int p0), .val (.int p1), .val (.int p2), .val (.int p3), .val (.int p4), .val (.int ka), .val (.int va), .val (.int kb), .val (.int vb), .val (.int (0 : Int32)), .val (.int (1 : Int32)), .val (.ref b18), .val (.ref b19), .val (.ref b20), .val .null, .val (.long ((ka.toInt64) + (va.toInt64))), .second, .val (.long (kb.toInt64)), .second, .val (.long t), .second, .val (.ref b21), .unset, .unset, .unset] []) _
      have hen : (((0 : Int64) + (1 : Int64)) + (1 : Int64)) = (2 : Int64) := by decide
      rw [hen] at F24_entries
      have hbyt : (((0 : Int64) + ((ka + va).toInt64)) + ((kb + (0 : Int32)).toInt64)) = t := own_tot gt (own_two hka hva) (own_lone _)
      rw [hbyt] at F24_bytes
      refine own_go (fun _ => XS.aload X24.here hx rfl (hb hby at_168) rfl rfl) ?_
      show own_Ends p e below T24 (mkF m 170 #[.val (.int p0), .val (.int p1), .val (.int p2), .val (.int p3), .val (.int p4), .val (.int ka), .val (.int va), .val (.int kb), .val (.int vb), .val (.int (0 : Int32)), .val (.int (1 : Int32)), .val (.ref b18), .val (.ref b19), .val (.ref b20), .val .null, .val (.long ((ka.toInt64) + (va.toInt64))), .second, .val (.long (kb.toInt64)), .second, .val (.long t), .second, .val (.ref b21), .unset, .unset, .unset] [(.ref b21)]) _
      obtain ⟨T25, h25, X25, e25, E25, A25, D25, -, st25⟩ := newO X24 hx hZ hown (hw _ (List.mem_of_getElem? (i := 19) rfl)) (hw _ (List.mem_of_getElem? (i := 20) rfl)) (hw _ (List.mem_of_getElem? (i := 21) rfl)) rfl (g := (mkF m 170 #[.val (.int p0), .val (.int p1), .val (.int p2), .val (.int p3), .val (.int p4), .val (.int ka), .val (.int va), .val (.int kb), .val (.int vb), .val (.int (0 : Int32)), .val (.int (1 : Int32)), .val (.ref b18), .val (.ref b19), .val (.ref b20), .val .null, .val (.long ((ka.toInt64) + (va.toInt64))), .second, .val (.long (kb.toInt64)), .second, .val (.long t), .second, .val (.ref b21), .unset, .unset, .unset] [(.ref b21)])) rfl (hb hby at_170) (by decide) (by decide)
      obtain ⟨b25, g25⟩ : ∃ z, z = T24.heap.size := ⟨_, rfl⟩
      rw [← g25] at A25 D25 st25
      refine own_go st25 ?_
      have g_b25 : n0 ≤ b25 := Nat.le_trans Z24 (Nat.le_of_eq g25.symm)
      have sz_b25 : h0.size ≤ b25 := Nat.le_trans K24.1 (Nat.le_of_eq g25.symm)
      have ne_b18_b25 : b18 ≠ b25 := Nat.ne_of_lt (Nat.lt_of_lt_of_le B_b18.lt (Nat.le_of_eq g25.symm))
      have ne_b19_b25 : b19 ≠ b25 := Nat.ne_of_lt (Nat.lt_of_lt_of_le B_b19.lt (Nat.le_of_eq g25.symm))
      have ne_b20_b25 : b20 ≠ b25 := Nat.ne_of_lt (Nat.lt_of_lt_of_le B_b20.lt (Nat.le_of_eq g25.symm))
      have ne_b21_b25 : b21 ≠ b25 := Nat.ne_of_lt (Nat.lt_of_lt_of_le A21.lt (Nat.le_of_eq g25.symm))
      replace B_b18 := B_b18.ext E25
      replace B_b19 := B_b19.ext E25
      replace B_b20 := B_b20.ext E25
      replace A21 := A21.ext E25
      replace F24_entries := F24_entries.ext E25
      replace F24_bytes := F24_bytes.ext E25
      have K25 := K24.ext E25
      have Z25 : n0 ≤ h25.size := Nat.le_trans Z0 K25.1
      have F_b25_entries : Fld Z h25 b25 "com/example/wedge/wedge/Batch$Limit" "entries" "I" (.int (0 : Int32)) := D25 (Or.inr (hw _ (List.mem_of_getElem? (i := 32) rfl))) (ty := .int) (by decide)
      have F_b25_bytes : Fld Z h25 b25 "com/example/wedge/wedge/Batch$Limit" "bytes" "J" (.long (0 : Int64)) := D25 (Or.inr (hw _ (List.mem_of_getElem? (i := 34) rfl))) (ty := .long) (by decide)
      show own_Ends p e below T25 (mkF m 173 #[.val (.int p0), .val (.int p1), .val (.int p2), .val (.int p3), .val (.int p4), .val (.int ka), .val (.int va), .val (.int kb), .val (.int vb), .val (.int (0 : Int32)), .val (.int (1 : Int32)), .val (.ref b18), .val (.ref b19), .val (.ref b20), .val .null, .val (.long ((ka.toInt64) + (va.toInt64))), .second, .val (.long (kb.toInt64)), .second, .val (.long t), .second, .val (.ref b21), .unset, .unset, .unset] [(.ref b25), (.ref b21)]) _
      refine own_go (fun _ => XS.dup X25.here hx rfl (hb hby at_173) rfl rfl) ?_
      show own_Ends p e below T25 (mkF m 174 #[.val (.int p0), .val (.int p1), .val (.int p2), .val (.int p3), .val (.int p4), .val (.int ka), .val (.int va), .val (.int kb), .val (.int vb), .val (.int (0 : Int32)), .val (.int (1 : Int32)), .val (.ref b18), .val (.ref b19), .val (.ref b20), .val .null, .val (.long ((ka.toInt64) + (va.toInt64))), .second, .val (.long (kb.toInt64)), .second, .val (.long t), .second, .val (.ref b21), .unset, .unset, .unset] [(.ref b25), (.ref b25), (.ref b21)]) _
      refine own_go (fun _ => XS.iconst X25.here hx rfl (hb hby at_174)) ?_
      show own_Ends p e below T25 (mkF m 175 #[.val (.int p0), .val (.int p1), .val (.int p2), .val (.int p3), .val (.int p4), .val (.int ka), .val (.int va), .val (.int kb), .val (.int vb), .val (.int (0 : Int32)), .val (.int (1 : Int32)), .val (.ref b18), .val (.ref b19), .val (.ref b20), .val .null, .val (.long ((ka.toInt64) + (va.toInt64))), .second, .val (.long (kb.toInt64)), .second, .val (.long t), .second, .val (.ref b21), .unset, .unset, .unset] [(.int (2 : Int32)), (.ref b25), (.ref b25), (.ref b21)]) _
      refine own_go (fun _ => XS.lload X25.here hx rfl (hb hby at_175) rfl) ?_
      show own_Ends p e below T25 (mkF m 177 #[.val (.int p0), .val (.int p1), .val (.int p2), .val (.int p3), .val (.int p4), .val (.int ka), .val (.int va), .val (.int kb), .val (.int vb), .val (.int (0 : Int32)), .val (.int (1 : Int32)), .val (.ref b18), .val (.ref b19), .val (.ref b20), .val .null, .val (.long ((ka.toInt64) + (va.toInt64))), .second, .val (.long (kb.toInt64)), .second, .val (.long t), .second, .val (.ref b21), .unset, .unset, .unset] [(.long t), (.int (2 : Int32)), (.ref b25), (.ref b25), (.ref b21)]) _
      obtain ⟨_, _, ⟨T26, L26, k26, n26⟩, -, X26, ⟨Lc26, hQ26, l26, y26, z26⟩, st26⟩ := X25.specialBack hx (y := (⟨"com/example/wedge/wedge/Batch$Limit", "<init>", "(IJ)V"⟩ : MethodName)) rfl hown (mvT hZ (hw _ (List.mem_of_getElem? (i := 22) rfl))) (mvT hZ (hw _ (List.mem_of_getElem? (i := 23) rfl))) (mvT hZ (hw _ (List.mem_of_getElem? (i := 24) rfl))) (by decide) (backOf (W := 2) (rmLInit l Z a0 hw [] b25 ((2 : Int32)) t  h25 n0 Z25 A25 F_b25_entries F_b25_bytes g_b25) hZ (hw _ (List.mem_of_getElem? (i := 24) rfl)) (hw _ (List.mem_of_getElem? (i := 21) rfl)) (by decide) (by decide)) (g := (mkF m 177 #[.val (.int p0), .val (.int p1), .val (.int p2), .val (.int p3), .val (.int p4), .val (.int ka), .val (.int va), .val (.int kb), .val (.int vb), .val (.int (0 : Int32)), .val (.int (1 : Int32)), .val (.ref b18), .val (.ref b19), .val (.ref b20), .val .null, .val (.long ((ka.toInt64) + (va.toInt64))), .second, .val (.long (kb.toInt64)), .second, .val (.long t), .second, .val (.ref b21), .unset, .unset, .unset] [(.long t), (.int (2 : Int32)), (.ref b25), (.ref b25), (.ref b21)])) rfl (by rw [hml]; rfl) (Steps.refl _) (a := b25) (argsL := [(.int (2 : Int32)), (.long t)]) (rest := [(.ref b25), (.ref b21)]) (lenOf pd_4 rfl) rfl (by show 2 * 0 + _ ≤ _; exact Nat.le_of_eq rfl) (hb hby at_177) (fun _ _ => ⟨rfl, e25, (by decide : 5 + 0 ≤ _), (by decide : 49 + 0 ≤ _)⟩)
      dsimp only [Pt.U, Pt.locs, Pt.cells, Pt.slots] at X26 l26 y26 z26 st26 hQ26
      subst l26 y26 z26
      refine own_go (fun _ k => st26.trans k) ?_
      obtain ⟨rfl, N26q, Kq26, Eq26, F26_entries, F26_bytes⟩ := hQ26
      replace B_b18 := B_b18.keep Kq26 (ninS ne_b18_b25 nin0)
      replace B_b19 := B_b19.keep Kq26 (ninS ne_b19_b25 nin0)
      replace B_b20 := B_b20.keep Kq26 (ninS ne_b20_b25 nin0)
      replace A21 := A21.keep Kq26
      replace F24_entries := F24_entries.keep Kq26 (ninS ne_b21_b25 nin0)
      replace F24_bytes := F24_bytes.keep Kq26 (ninS ne_b21_b25 nin0)
      replace A25 := A25.keep Kq26
      have K26 := K25.trans Kq26 (allS (Or.inr sz_b25) all0)
      have Z26 : n0 ≤ T26.heap.size := Nat.le_trans Z0 K26.1
      clear Eq26
      have N26 := Fr.app N24 N26q
      show own_Ends p e below T26 (mkF m 180 #[.val (.int p0), .val (.int p1), .val (.int p2), .val (.int p3), .val (.int p4), .val (.int ka), .val (.int va), .val (.int kb), .val (.int vb), .val (.int (0 : Int32)), .val (.int (1 : Int32)), .val (.ref b18), .val (.ref b19), .val (.ref b20), .val .null, .val (.long ((ka.toInt64) + (va.toInt64))), .second, .val (.long (kb.toInt64)), .second, .val (.long t), .second, .val (.ref b21), .unset, .unset, .unset] [(.ref b25), (.ref b21)]) _
      obtain ⟨cq27, kq27, q27a, q27b, q27c⟩ := isOf hZ rfl A21
      obtain ⟨_, _, ⟨T27, L27, k27, n27⟩, -, X27, ⟨Lc27, hQ27, l27, y27, z27⟩, st27⟩ := X26.virtualBack hx (y := (⟨"com/example/wedge/wedge/Batch$Size", "within", "(Lcom/example/wedge/wedge/Batch$Limit;)Z"⟩ : MethodName)) (z := (⟨"com/example/wedge/wedge/Batch$Size", "within", "(Lcom/example/wedge/wedge/Batch$Limit;)Z"⟩ : MethodName)) hown (mvT hZ (hw _ (List.mem_of_getElem? (i := 35) rfl))) (mvT hZ (hw _ (List.mem_of_getElem? (i := 36) rfl))) (notFace_of_selects (args := #[]) (mvT hZ (hw _ (List.mem_of_getElem? (i := 38) rfl)))) (mvT hZ (hw _ (List.mem_of_getElem? (i := 38) rfl))) (mvT hZ (hw _ (List.mem_of_getElem? (i := 37) rfl))) (by decide) (backOf (W := 0) (rmWithin l Z a0 hw [] b21 b25 ((2 : Int64)) t ((2 : Int32)) t (T26.heap) n0 Z26 F24_entries F24_bytes A25 F26_entries F26_bytes) hZ (hw _ (List.mem_of_getElem? (i := 39) rfl)) (hw _ (List.mem_of_getElem? (i := 3) rfl)) (by decide) (by decide)) q27a q27c (g := (mkF m 180 #[.val (.int p0), .val (.int p1), .val (.int p2), .val (.int p3), .val (.int p4), .val (.int ka), .val (.int va), .val (.int kb), .val (.int vb), .val (.int (0 : Int32)), .val (.int (1 : Int32)), .val (.ref b18), .val (.ref b19), .val (.ref b20), .val .null, .val (.long ((ka.toInt64) + (va.toInt64))), .second, .val (.long (kb.toInt64)), .second, .val (.long t), .second, .val (.ref b21), .unset, .unset, .unset] [(.ref b25), (.ref b21)])) rfl (by rw [hml]; rfl) (Steps.refl _) (argsL := [(.ref b25)]) (rest := []) (lenOf pd_5 rfl) rfl (by show 2 * 0 + _ ≤ _; exact Nat.le_of_eq rfl) (hb hby at_180) (fun _ _ => ⟨rfl, rfl, (by decide : 5 + 0 ≤ _), (by decide : 49 + 0 ≤ _)⟩)
      dsimp only [Pt.U, Pt.locs, Pt.cells, Pt.slots] at X27 l27 y27 z27 st27 hQ27
      subst l27 y27 z27
      refine own_go (fun _ k => st27.trans k) ?_
      obtain ⟨rfl, N27q, eh27⟩ := hQ27
      have N27 := Fr.app N26 N27q
      show own_Ends p e below T27 (mkF m 183 #[.val (.int p0), .val (.int p1), .val (.int p2), .val (.int p3), .val (.int p4), .val (.int ka), .val (.int va), .val (.int kb), .val (.int vb), .val (.int (0 : Int32)), .val (.int (1 : Int32)), .val (.ref b18), .val (.ref b19), .val (.ref b20), .val .null, .val (.long ((ka.toInt64) + (va.toInt64))), .second, .val (.long (kb.toInt64)), .second, .val (.long t), .second, .val (.ref b21), .unset, .unset, .unset] [(.int (own_within ((2 : Int64)) t ((2 : Int32)) t))]) _
      refine own_go (fun _ => XS.istore X27.here hx rfl (hb hby at_183) rfl (l' := #[.val (.int p0), .val (.int p1), .val (.int p2), .val (.int p3), .val (.int p4), .val (.int ka), .val (.int va), .val (.int kb), .val (.int vb), .val (.int (0 : Int32)), .val (.int (1 : Int32)), .val (.ref b18), .val (.ref b19), .val (.ref b20), .val .null, .val (.long ((ka.toInt64) + (va.toInt64))), .second, .val (.long (kb.toInt64)), .second, .val (.long t), .second, .val (.ref b21), .val (.int (own_within ((2 : Int64)) t ((2 : Int32)) t)), .unset, .unset]) rfl) ?_
      show own_Ends p e below T27 (mkF m 185 #[.val (.int p0), .val (.int p1), .val (.int p2), .val (.int p3), .val (.int p4), .val (.int ka), .val (.int va), .val (.int kb), .val (.int vb), .val (.int (0 : Int32)), .val (.int (1 : Int32)), .val (.ref b18), .val (.ref b19), .val (.ref b20), .val .null, .val (.long ((ka.toInt64) + (va.toInt64))), .second, .val (.long (kb.toInt64)), .second, .val (.long t), .second, .val (.ref b21), .val (.int (own_within ((2 : Int64)) t ((2 : Int32)) t)), .unset, .unset] []) _
      refine own_go (fun _ => XS.aload X27.here hx rfl (hb hby at_185) rfl rfl) ?_
      show own_Ends p e below T27 (mkF m 187 #[.val (.int p0), .val (.int p1), .val (.int p2), .val (.int p3), .val (.int p4), .val (.int ka), .val (.int va), .val (.int kb), .val (.int vb), .val (.int (0 : Int32)), .val (.int (1 : Int32)), .val (.ref b18), .val (.ref b19), .val (.ref b20), .val .null, .val (.long ((ka.toInt64) + (va.toInt64))), .second, .val (.long (kb.toInt64)), .second, .val (.long t), .second, .val (.ref b21), .val (.int (own_within ((2 : Int64)) t ((2 : Int32)) t)), .unset, .unset] [(.ref b21)]) _
      obtain ⟨T28, h28, X28, e28, E28, A28, D28, -, st28⟩ := newO X27 hx hZ hown (hw _ (List.mem_of_getElem? (i := 19) rfl)) (hw _ (List.mem_of_getElem? (i := 20) rfl)) (hw _ (List.mem_of_getElem? (i := 21) rfl)) eh27 (g := (mkF m 187 #[.val (.int p0), .val (.int p1), .val (.int p2), .val (.int p3), .val (.int p4), .val (.int ka), .val (.int va), .val (.int kb), .val (.int vb), .val (.int (0 : Int32)), .val (.int (1 : Int32)), .val (.ref b18), .val (.ref b19), .val (.ref b20), .val .null, .val (.long ((ka.toInt64) + (va.toInt64))), .second, .val (.long (kb.toInt64)), .second, .val (.long t), .second, .val (.ref b21), .val (.int (own_within ((2 : Int64)) t ((2 : Int32)) t)), .unset, .unset] [(.ref b21)])) rfl (hb hby at_187) (by decide) (by decide)
      obtain ⟨b28, g28⟩ : ∃ z, z = T26.heap.size := ⟨_, rfl⟩
      rw [← g28] at A28 D28 st28
      refine own_go st28 ?_
      have g_b28 : n0 ≤ b28 := Nat.le_trans Z26 (Nat.le_of_eq g28.symm)
      have sz_b28 : h0.size ≤ b28 := Nat.le_trans K26.1 (Nat.le_of_eq g28.symm)
      have ne_b18_b28 : b18 ≠ b28 := Nat.ne_of_lt (Nat.lt_of_lt_of_le B_b18.lt (Nat.le_of_eq g28.symm))
      have ne_b19_b28 : b19 ≠ b28 := Nat.ne_of_lt (Nat.lt_of_lt_of_le B_b19.lt (Nat.le_of_eq g28.symm))
      have ne_b20_b28 : b20 ≠ b28 := Nat.ne_of_lt (Nat.lt_of_lt_of_le B_b20.lt (Nat.le_of_eq g28.symm))
      have ne_b21_b28 : b21 ≠ b28 := Nat.ne_of_lt (Nat.lt_of_lt_of_le A21.lt (Nat.le_of_eq g28.symm))
      have ne_b25_b28 : b25 ≠ b28 := Nat.ne_of_lt (Nat.lt_of_lt_of_le A25.lt (Nat.le_of_eq g28.symm))
      replace B_b18 := B_b18.ext E28
      replace B_b19 := B_b19.ext E28
      replace B_b20 := B_b20.ext E28
      replace A21 := A21.ext E28
      replace F24_entries := F24_entries.ext E28
      replace F24_bytes := F24_bytes.ext E28
      replace A25 := A25.ext E28
      replace F26_entries := F26_entries.ext E28
      replace F26_bytes := F26_bytes.ext E28
      have K28 := K26.ext E28
      have Z28 : n0 ≤ h28.size := Nat.le_trans Z0 K28.1
      have F_b28_entries : Fld Z h28 b28 "com/example/wedge/wedge/Batch$Limit" "entries" "I" (.int (0 : Int32)) := D28 (Or.inr (hw _ (List.mem_of_getElem? (i := 32) rfl))) (ty := .int) (by decide)
      have F_b28_bytes : Fld Z h28 b28 "com/example/wedge/wedge/Batch$Limit" "bytes" "J" (.long (0 : Int64)) := D28 (Or.inr (hw _ (List.mem_of_getElem? (i := 34) rfl))) (ty := .long) (by decide)
      show own_Ends p e below T28 (mkF m 190 #[.val (.int p0), .val (.int p1), .val (.int p2), .val (.int p3), .val (.int p4), .val (.int ka), .val (.int va), .val (.int kb), .val (.int vb), .val (.int (0 : Int32)), .val (.int (1 : Int32)), .val (.ref b18), .val (.ref b19), .val (.ref b20), .val .null, .val (.long ((ka.toInt64) + (va.toInt64))), .second, .val (.long (kb.toInt64)), .second, .val (.long t), .second, .val (.ref b21), .val (.int (own_within ((2 : Int64)) t ((2 : Int32)) t)), .unset, .unset] [(.ref b28), (.ref b21)]) _
      refine own_go (fun _ => XS.dup X28.here hx rfl (hb hby at_190) rfl rfl) ?_
      show own_Ends p e below T28 (mkF m 191 #[.val (.int p0), .val (.int p1), .val (.int p2), .val (.int p3), .val (.int p4), .val (.int ka), .val (.int va), .val (.int kb), .val (.int vb), .val (.int (0 : Int32)), .val (.int (1 : Int32)), .val (.ref b18), .val (.ref b19), .val (.ref b20), .val .null, .val (.long ((ka.toInt64) + (va.toInt64))), .second, .val (.long (kb.toInt64)), .second, .val (.long t), .second, .val (.ref b21), .val (.int (own_within ((2 : Int64)) t ((2 : Int32)) t)), .unset, .unset] [(.ref b28), (.ref b28), (.ref b21)]) _
      refine own_go (fun _ => XS.iconst X28.here hx rfl (hb hby at_191)) ?_
      show own_Ends p e below T28 (mkF m 192 #[.val (.int p0), .val (.int p1), .val (.int p2), .val (.int p3), .val (.int p4), .val (.int ka), .val (.int va), .val (.int kb), .val (.int vb), .val (.int (0 : Int32)), .val (.int (1 : Int32)), .val (.ref b18), .val (.ref b19), .val (.ref b20), .val .null, .val (.long ((ka.toInt64) + (va.toInt64))), .second, .val (.long (kb.toInt64)), .second, .val (.long t), .second, .val (.ref b21), .val (.int (own_within ((2 : Int64)) t ((2 : Int32)) t)), .unset, .unset] [(.int (1 : Int32)), (.ref b28), (.ref b28), (.ref b21)]) _
      refine own_go (X28.ldc2Long hx hown (mvT hZ (hw _ (List.mem_of_getElem? (i := 50) rfl))) (g := (mkF m 192 #[.val (.int p0), .val (.int p1), .val (.int p2), .val (.int p3), .val (.int p4), .val (.int ka), .val (.int va), .val (.int kb), .val (.int vb), .val (.int (0 : Int32)), .val (.int (1 : Int32)), .val (.ref b18), .val (.ref b19), .val (.ref b20), .val .null, .val (.long ((ka.toInt64) + (va.toInt64))), .second, .val (.long (kb.toInt64)), .second, .val (.long t), .second, .val (.ref b21), .val (.int (own_within ((2 : Int64)) t ((2 : Int32)) t)), .unset, .unset] [(.int (1 : Int32)), (.ref b28), (.ref b28), (.ref b21)])) rfl (hb hby at_192)) ?_
      show own_Ends p e below T28 (mkF m 195 #[.val (.int p0), .val (.int p1), .val (.int p2), .val (.int p3), .val (.int p4), .val (.int ka), .val (.int va), .val (.int kb), .val (.int vb), .val (.int (0 : Int32)), .val (.int (1 : Int32)), .val (.ref b18), .val (.ref b19), .val (.ref b20), .val .null, .val (.long ((ka.toInt64) + (va.toInt64))), .second, .val (.long (kb.toInt64)), .second, .val (.long t), .second, .val (.ref b21), .val (.int (own_within ((2 : Int64)) t ((2 : Int32)) t)), .unset, .unset] [(.long (9223372036854775807 : Int64)), (.int (1 : Int32)), (.ref b28), (.ref b28), (.ref b21)]) _
      obtain ⟨_, _, ⟨T29, L29, k29, n29⟩, -, X29, ⟨Lc29, hQ29, l29, y29, z29⟩, st29⟩ := X28.specialBack hx (y := (⟨"com/example/wedge/wedge/Batch$Limit", "<init>", "(IJ)V"⟩ : MethodName)) rfl hown (mvT hZ (hw _ (List.mem_of_getElem? (i := 22) rfl))) (mvT hZ (hw _ (List.mem_of_getElem? (i := 23) rfl))) (mvT hZ (hw _ (List.mem_of_getElem? (i := 24) rfl))) (by decide) (backOf (W := 2) (rmLInit l Z a0 hw [] b28 ((1 : Int32)) ((9223372036854775807 : Int64))  h28 n0 Z28 A28 F_b28_entries F_b28_bytes g_b28) hZ (hw _ (List.mem_of_getElem? (i := 24) rfl)) (hw _ (List.mem_of_getElem? (i := 21) rfl)) (by decide) (by decide)) (g := (mkF m 195 #[.val (.int p0), .val (.int p1), .val (.int p2), .val (.int p3), .val (.int p4), .val (.int ka), .val (.int va), .val (.int kb), .val (.int vb), .val (.int (0 : Int32)), .val (.int (1 : Int32)), .val (.ref b18), .val (.ref b19), .val (.ref b20), .val .null, .val (.long ((ka.toInt64) + (va.toInt64))), .second, .val (.long (kb.toInt64)), .second, .val (.long t), .second, .val (.ref b21), .val (.int (own_within ((2 : Int64)) t ((2 : Int32)) t)), .unset, .unset] [(.long (9223372036854775807 : Int64)), (.int (1 : Int32)), (.ref b28), (.ref b28), (.ref b21)])) rfl (by rw [hml]; rfl) (Steps.refl _) (a := b28) (argsL := [(.int (1 : Int32)), (.long (9223372036854775807 : Int64))]) (rest := [(.ref b28), (.ref b21)]) (lenOf pd_4 rfl) rfl (by show 2 * 0 + _ ≤ _; exact Nat.le_of_eq rfl) (hb hby at_195) (fun _ _ => ⟨rfl, e28, (by decide : 6 + 0 ≤ _), (by decide : 51 + 0 ≤ _)⟩)
      dsimp only [Pt.U, Pt.locs, Pt.cells, Pt.slots] at X29 l29 y29 z29 st29 hQ29
      subst l29 y29 z29
      refine own_go (fun _ k => st29.trans k) ?_
      obtain ⟨rfl, N29q, Kq29, Eq29, F29_entries, F29_bytes⟩ := hQ29
      replace B_b18 := B_b18.keep Kq29 (ninS ne_b18_b28 nin0)
      replace B_b19 := B_b19.keep Kq29 (ninS ne_b19_b28 nin0)
      replace B_b20 := B_b20.keep Kq29 (ninS ne_b20_b28 nin0)
      replace A21 := A21.keep Kq29
      replace F24_entries := F24_entries.keep Kq29 (ninS ne_b21_b28 nin0)
      replace F24_bytes := F24_bytes.keep Kq29 (ninS ne_b21_b28 nin0)
      replace A25 := A25.keep Kq29
      replace F26_entries := F26_entries.keep Kq29 (ninS ne_b25_b28 nin0)
      replace F26_bytes := F26_bytes.keep Kq29 (ninS ne_b25_b28 nin0)
      replace A28 := A28.keep Kq29
      have K29 := K28.trans Kq29 (allS (Or.inr sz_b28) all0)
      have Z29 : n0 ≤ T29.heap.size := Nat.le_trans Z0 K29.1
      clear Eq29
      have N29 := Fr.app N27 N29q
      show own_Ends p e below T29 (mkF m 198 #[.val (.int p0), .val (.int p1), .val (.int p2), .val (.int p3), .val (.int p4), .val (.int ka), .val (.int va), .val (.int kb), .val (.int vb), .val (.int (0 : Int32)), .val (.int (1 : Int32)), .val (.ref b18), .val (.ref b19), .val (.ref b20), .val .null, .val (.long ((ka.toInt64) + (va.toInt64))), .second, .val (.long (kb.toInt64)), .second, .val (.long t), .second, .val (.ref b21), .val (.int (own_within ((2 : Int64)) t ((2 : Int32)) t)), .unset, .unset] [(.ref b28), (.ref b21)]) _
      obtain ⟨cq30, kq30, q30a, q30b, q30c⟩ := isOf hZ rfl A21
      obtain ⟨_, _, ⟨T30, L30, k30, n30⟩, -, X30, ⟨Lc30, hQ30, l30, y30, z30⟩, st30⟩ := X29.virtualBack hx (y := (⟨"com/example/wedge/wedge/Batch$Size", "within", "(Lcom/example/wedge/wedge/Batch$Limit;)Z"⟩ : MethodName)) (z := (⟨"com/example/wedge/wedge/Batch$Size", "within", "(Lcom/example/wedge/wedge/Batch$Limit;)Z"⟩ : MethodName)) hown (mvT hZ (hw _ (List.mem_of_getElem? (i := 35) rfl))) (mvT hZ (hw _ (List.mem_of_getElem? (i := 36) rfl))) (notFace_of_selects (args := #[]) (mvT hZ (hw _ (List.mem_of_getElem? (i := 38) rfl)))) (mvT hZ (hw _ (List.mem_of_getElem? (i := 38) rfl))) (mvT hZ (hw _ (List.mem_of_getElem? (i := 37) rfl))) (by decide) (backOf (W := 0) (rmWithin l Z a0 hw [] b21 b28 ((2 : Int64)) t ((1 : Int32)) ((9223372036854775807 : Int64)) (T29.heap) n0 Z29 F24_entries F24_bytes A28 F29_entries F29_bytes) hZ (hw _ (List.mem_of_getElem? (i := 39) rfl)) (hw _ (List.mem_of_getElem? (i := 3) rfl)) (by decide) (by decide)) q30a q30c (g := (mkF m 198 #[.val (.int p0), .val (.int p1), .val (.int p2), .val (.int p3), .val (.int p4), .val (.int ka), .val (.int va), .val (.int kb), .val (.int vb), .val (.int (0 : Int32)), .val (.int (1 : Int32)), .val (.ref b18), .val (.ref b19), .val (.ref b20), .val .null, .val (.long ((ka.toInt64) + (va.toInt64))), .second, .val (.long (kb.toInt64)), .second, .val (.long t), .second, .val (.ref b21), .val (.int (own_within ((2 : Int64)) t ((2 : Int32)) t)), .unset, .unset] [(.ref b28), (.ref b21)])) rfl (by rw [hml]; rfl) (Steps.refl _) (argsL := [(.ref b28)]) (rest := []) (lenOf pd_5 rfl) rfl (by show 2 * 0 + _ ≤ _; exact Nat.le_of_eq rfl) (hb hby at_198) (fun _ _ => ⟨rfl, rfl, (by decide : 6 + 0 ≤ _), (by decide : 51 + 0 ≤ _)⟩)
      dsimp only [Pt.U, Pt.locs, Pt.cells, Pt.slots] at X30 l30 y30 z30 st30 hQ30
      subst l30 y30 z30
      refine own_go (fun _ k => st30.trans k) ?_
      obtain ⟨rfl, N30q, eh30⟩ := hQ30
      have N30 := Fr.app N29 N30q
      show own_Ends p e below T30 (mkF m 201 #[.val (.int p0), .val (.int p1), .val (.int p2), .val (.int p3), .val (.int p4), .val (.int ka), .val (.int va), .val (.int kb), .val (.int vb), .val (.int (0 : Int32)), .val (.int (1 : Int32)), .val (.ref b18), .val (.ref b19), .val (.ref b20), .val .null, .val (.long ((ka.toInt64) + (va.toInt64))), .second, .val (.long (kb.toInt64)), .second, .val (.long t), .second, .val (.ref b21), .val (.int (own_within ((2 : Int64)) t ((2 : Int32)) t)), .unset, .unset] [(.int (own_within ((2 : Int64)) t ((1 : Int32)) ((9223372036854775807 : Int64))))]) _
      refine own_go (fun _ => XS.istore X30.here hx rfl (hb hby at_201) rfl (l' := #[.val (.int p0), .val (.int p1), .val (.int p2), .val (.int p3), .val (.int p4), .val (.int ka), .val (.int va), .val (.int kb), .val (.int vb), .val (.int (0 : Int32)), .val (.int (1 : Int32)), .val (.ref b18), .val (.ref b19), .val (.ref b20), .val .null, .val (.long ((ka.toInt64) + (va.toInt64))), .second, .val (.long (kb.toInt64)), .second, .val (.long t), .second, .val (.ref b21), .val (.int (own_within ((2 : Int64)) t ((2 : Int32)) t)), .val (.int (own_within ((2 : Int64)) t ((1 : Int32)) ((9223372036854775807 : Int64)))), .unset]) rfl) ?_
      show own_Ends p e below T30 (mkF m 203 #[.val (.int p0), .val (.int p1), .val (.int p2), .val (.int p3), .val (.int p4), .val (.int ka), .val (.int va), .val (.int kb), .val (.int vb), .val (.int (0 : Int32)), .val (.int (1 : Int32)), .val (.ref b18), .val (.ref b19), .val (.ref b20), .val .null, .val (.long ((ka.toInt64) + (va.toInt64))), .second, .val (.long (kb.toInt64)), .second, .val (.long t), .second, .val (.ref b21), .val (.int (own_within ((2 : Int64)) t ((2 : Int32)) t)), .val (.int (own_within ((2 : Int64)) t ((1 : Int32)) ((9223372036854775807 : Int64)))), .unset] []) _
      refine own_go (fun _ => XS.aload X30.here hx rfl (hb hby at_203) rfl rfl) ?_
      show own_Ends p e below T30 (mkF m 205 #[.val (.int p0), .val (.int p1), .val (.int p2), .val (.int p3), .val (.int p4), .val (.int ka), .val (.int va), .val (.int kb), .val (.int vb), .val (.int (0 : Int32)), .val (.int (1 : Int32)), .val (.ref b18), .val (.ref b19), .val (.ref b20), .val .null, .val (.long ((ka.toInt64) + (va.toInt64))), .second, .val (.long (kb.toInt64)), .second, .val (.long t), .second, .val (.ref b21), .val (.int (own_within ((2 : Int64)) t ((2 : Int32)) t)), .val (.int (own_within ((2 : Int64)) t ((1 : Int32)) ((9223372036854775807 : Int64)))), .unset] [(.ref b21)]) _
      obtain ⟨T31, h31, X31, e31, E31, A31, D31, -, st31⟩ := newO X30 hx hZ hown (hw _ (List.mem_of_getElem? (i := 19) rfl)) (hw _ (List.mem_of_getElem? (i := 20) rfl)) (hw _ (List.mem_of_getElem? (i := 21) rfl)) eh30 (g := (mkF m 205 #[.val (.int p0), .val (.int p1), .val (.int p2), .val (.int p3), .val (.int p4), .val (.int ka), .val (.int va), .val (.int kb), .val (.int vb), .val (.int (0 : Int32)), .val (.int (1 : Int32)), .val (.ref b18), .val (.ref b19), .val (.ref b20), .val .null, .val (.long ((ka.toInt64) + (va.toInt64))), .second, .val (.long (kb.toInt64)), .second, .val (.long t), .second, .val (.ref b21), .val (.int (own_within ((2 : Int64)) t ((2 : Int32)) t)), .val (.int (own_within ((2 : Int64)) t ((1 : Int32)) ((9223372036854775807 : Int64)))), .unset] [(.ref b21)])) rfl (hb hby at_205) (by decide) (by decide)
      obtain ⟨b31, g31⟩ : ∃ z, z = T29.heap.size := ⟨_, rfl⟩
      rw [← g31] at A31 D31 st31
      refine own_go st31 ?_
      have g_b31 : n0 ≤ b31 := Nat.le_trans Z29 (Nat.le_of_eq g31.symm)
      have sz_b31 : h0.size ≤ b31 := Nat.le_trans K29.1 (Nat.le_of_eq g31.symm)
      have ne_b18_b31 : b18 ≠ b31 := Nat.ne_of_lt (Nat.lt_of_lt_of_le B_b18.lt (Nat.le_of_eq g31.symm))
      have ne_b19_b31 : b19 ≠ b31 := Nat.ne_of_lt (Nat.lt_of_lt_of_le B_b19.lt (Nat.le_of_eq g31.symm))
      have ne_b20_b31 : b20 ≠ b31 := Nat.ne_of_lt (Nat.lt_of_lt_of_le B_b20.lt (Nat.le_of_eq g31.symm))
      have ne_b21_b31 : b21 ≠ b31 := Nat.ne_of_lt (Nat.lt_of_lt_of_le A21.lt (Nat.le_of_eq g31.symm))
      have ne_b25_b31 : b25 ≠ b31 := Nat.ne_of_lt (Nat.lt_of_lt_of_le A25.lt (Nat.le_of_eq g31.symm))
      have ne_b28_b31 : b28 ≠ b31 := Nat.ne_of_lt (Nat.lt_of_lt_of_le A28.lt (Nat.le_of_eq g31.symm))
      replace B_b18 := B_b18.ext E31
      replace B_b19 := B_b19.ext E31
      replace B_b20 := B_b20.ext E31
      replace A21 := A21.ext E31
      replace F24_entries := F24_entries.ext E31
      replace F24_bytes := F24_bytes.ext E31
      replace A25 := A25.ext E31
      replace F26_entries := F26_entries.ext E31
      replace F26_bytes := F26_bytes.ext E31
      replace A28 := A28.ext E31
      replace F29_entries := F29_entries.ext E31
      replace F29_bytes := F29_bytes.ext E31
      have K31 := K29.ext E31
      have Z31 : n0 ≤ h31.size := Nat.le_trans Z0 K31.1
      have F_b31_entries : Fld Z h31 b31 "com/example/wedge/wedge/Batch$Limit" "entries" "I" (.int (0 : Int32)) := D31 (Or.inr (hw _ (List.mem_of_getElem? (i := 32) rfl))) (ty := .int) (by decide)
      have F_b31_bytes : Fld Z h31 b31 "com/example/wedge/wedge/Batch$Limit" "bytes" "J" (.long (0 : Int64)) := D31 (Or.inr (hw _ (List.mem_of_getElem? (i := 34) rfl))) (ty := .long) (by decide)
      show own_Ends p e below T31 (mkF m 208 #[.val (.int p0), .val (.int p1), .val (.int p2), .val (.int p3), .val (.int p4), .val (.int ka), .val (.int va), .val (.int kb), .val (.int vb), .val (.int (0 : Int32)), .val (.int (1 : Int32)), .val (.ref b18), .val (.ref b19), .val (.ref b20), .val .null, .val (.long ((ka.toInt64) + (va.toInt64))), .second, .val (.long (kb.toInt64)), .second, .val (.long t), .second, .val (.ref b21), .val (.int (own_within ((2 : Int64)) t ((2 : Int32)) t)), .val (.int (own_within ((2 : Int64)) t ((1 : Int32)) ((9223372036854775807 : Int64)))), .unset] [(.ref b31), (.ref b21)]) _
      refine own_go (fun _ => XS.dup X31.here hx rfl (hb hby at_208) rfl rfl) ?_
      show own_Ends p e below T31 (mkF m 209 #[.val (.int p0), .val (.int p1), .val (.int p2), .val (.int p3), .val (.int p4), .val (.int ka), .val (.int va), .val (.int kb), .val (.int vb), .val (.int (0 : Int32)), .val (.int (1 : Int32)), .val (.ref b18), .val (.ref b19), .val (.ref b20), .val .null, .val (.long ((ka.toInt64) + (va.toInt64))), .second, .val (.long (kb.toInt64)), .second, .val (.long t), .second, .val (.ref b21), .val (.int (own_within ((2 : Int64)) t ((2 : Int32)) t)), .val (.int (own_within ((2 : Int64)) t ((1 : Int32)) ((9223372036854775807 : Int64)))), .unset] [(.ref b31), (.ref b31), (.ref b21)]) _
      refine own_go (fun _ => XS.iconst X31.here hx rfl (hb hby at_209)) ?_
      show own_Ends p e below T31 (mkF m 210 #[.val (.int p0), .val (.int p1), .val (.int p2), .val (.int p3), .val (.int p4), .val (.int ka), .val (.int va), .val (.int kb), .val (.int vb), .val (.int (0 : Int32)), .val (.int (1 : Int32)), .val (.ref b18), .val (.ref b19), .val (.ref b20), .val .null, .val (.long ((ka.toInt64) + (va.toInt64))), .second, .val (.long (kb.toInt64)), .second, .val (.long t), .second, .val (.ref b21), .val (.int (own_within ((2 : Int64)) t ((2 : Int32)) t)), .val (.int (own_within ((2 : Int64)) t ((1 : Int32)) ((9223372036854775807 : Int64)))), .unset] [(.int (2 : Int32)), (.ref b31), (.ref b31), (.ref b21)]) _
      refine own_go (fun _ => XS.lload X31.here hx rfl (hb hby at_210) rfl) ?_
      show own_Ends p e below T31 (mkF m 212 #[.val (.int p0), .val (.int p1), .val (.int p2), .val (.int p3), .val (.int p4), .val (.int ka), .val (.int va), .val (.int kb), .val (.int vb), .val (.int (0 : Int32)), .val (.int (1 : Int32)), .val (.ref b18), .val (.ref b19), .val (.ref b20), .val .null, .val (.long ((ka.toInt64) + (va.toInt64))), .second, .val (.long (kb.toInt64)), .second, .val (.long t), .second, .val (.ref b21), .val (.int (own_within ((2 : Int64)) t ((2 : Int32)) t)), .val (.int (own_within ((2 : Int64)) t ((1 : Int32)) ((9223372036854775807 : Int64)))), .unset] [(.long t), (.int (2 : Int32)), (.ref b31), (.ref b31), (.ref b21)]) _
      refine own_go (fun _ => XS.lconst X31.here hx rfl (hb hby at_212)) ?_
      show own_Ends p e below T31 (mkF m 213 #[.val (.int p0), .val (.int p1), .val (.int p2), .val (.int p3), .val (.int p4), .val (.int ka), .val (.int va), .val (.int kb), .val (.int vb), .val (.int (0 : Int32)), .val (.int (1 : Int32)), .val (.ref b18), .val (.ref b19), .val (.ref b20), .val .null, .val (.long ((ka.toInt64) + (va.toInt64))), .second, .val (.long (kb.toInt64)), .second, .val (.long t), .second, .val (.ref b21), .val (.int (own_within ((2 : Int64)) t ((2 : Int32)) t)), .val (.int (own_within ((2 : Int64)) t ((1 : Int32)) ((9223372036854775807 : Int64)))), .unset] [(.long (1 : Int64)), (.long t), (.int (2 : Int32)), (.ref b31), (.ref b31), (.ref b21)]) _
      refine own_go (fun _ => XS.lsub X31.here hx rfl (hb hby at_213) rfl) ?_
      show own_Ends p e below T31 (mkF m 214 #[.val (.int p0), .val (.int p1), .val (.int p2), .val (.int p3), .val (.int p4), .val (.int ka), .val (.int va), .val (.int kb), .val (.int vb), .val (.int (0 : Int32)), .val (.int (1 : Int32)), .val (.ref b18), .val (.ref b19), .val (.ref b20), .val .null, .val (.long ((ka.toInt64) + (va.toInt64))), .second, .val (.long (kb.toInt64)), .second, .val (.long t), .second, .val (.ref b21), .val (.int (own_within ((2 : Int64)) t ((2 : Int32)) t)), .val (.int (own_within ((2 : Int64)) t ((1 : Int32)) ((9223372036854775807 : Int64)))), .unset] [(.long (t - (1 : Int64))), (.int (2 : Int32)), (.ref b31), (.ref b31), (.ref b21)]) _
      obtain ⟨_, _, ⟨T32, L32, k32, n32⟩, -, X32, ⟨Lc32, hQ32, l32, y32, z32⟩, st32⟩ := X31.specialBack hx (y := (⟨"com/example/wedge/wedge/Batch$Limit", "<init>", "(IJ)V"⟩ : MethodName)) rfl hown (mvT hZ (hw _ (List.mem_of_getElem? (i := 22) rfl))) (mvT hZ (hw _ (List.mem_of_getElem? (i := 23) rfl))) (mvT hZ (hw _ (List.mem_of_getElem? (i := 24) rfl))) (by decide) (backOf (W := 2) (rmLInit l Z a0 hw [] b31 ((2 : Int32)) ((t - (1 : Int64)))  h31 n0 Z31 A31 F_b31_entries F_b31_bytes g_b31) hZ (hw _ (List.mem_of_getElem? (i := 24) rfl)) (hw _ (List.mem_of_getElem? (i := 21) rfl)) (by decide) (by decide)) (g := (mkF m 214 #[.val (.int p0), .val (.int p1), .val (.int p2), .val (.int p3), .val (.int p4), .val (.int ka), .val (.int va), .val (.int kb), .val (.int vb), .val (.int (0 : Int32)), .val (.int (1 : Int32)), .val (.ref b18), .val (.ref b19), .val (.ref b20), .val .null, .val (.long ((ka.toInt64) + (va.toInt64))), .second, .val (.long (kb.toInt64)), .second, .val (.long t), .second, .val (.ref b21), .val (.int (own_within ((2 : Int64)) t ((2 : Int32)) t)), .val (.int (own_within ((2 : Int64)) t ((1 : Int32)) ((9223372036854775807 : Int64)))), .unset] [(.long (t - (1 : Int64))), (.int (2 : Int32)), (.ref b31), (.ref b31), (.ref b21)])) rfl (by rw [hml]; rfl) (Steps.refl _) (a := b31) (argsL := [(.int (2 : Int32)), (.long (t - (1 : Int64)))]) (rest := [(.ref b31), (.ref b21)]) (lenOf pd_4 rfl) rfl (by show 2 * 0 + _ ≤ _; exact Nat.le_of_eq rfl) (hb hby at_214) (fun _ _ => ⟨rfl, e31, (by decide : 7 + 0 ≤ _), (by decide : 53 + 0 ≤ _)⟩)
      dsimp only [Pt.U, Pt.locs, Pt.cells, Pt.slots] at X32 l32 y32 z32 st32 hQ32
      subst l32 y32 z32
      refine own_go (fun _ k => st32.trans k) ?_
      obtain ⟨rfl, N32q, Kq32, Eq32, F32_entries, F32_bytes⟩ := hQ32
      replace B_b18 := B_b18.keep Kq32 (ninS ne_b18_b31 nin0)
      replace B_b19 := B_b19.keep Kq32 (ninS ne_b19_b31 nin0)
      replace B_b20 := B_b20.keep Kq32 (ninS ne_b20_b31 nin0)
      replace A21 := A21.keep Kq32
      replace F24_entries := F24_entries.keep Kq32 (ninS ne_b21_b31 nin0)
      replace F24_bytes := F24_bytes.keep Kq32 (ninS ne_b21_b31 nin0)
      replace A25 := A25.keep Kq32
      replace F26_entries := F26_entries.keep Kq32 (ninS ne_b25_b31 nin0)
      replace F26_bytes := F26_bytes.keep Kq32 (ninS ne_b25_b31 nin0)
      replace A28 := A28.keep Kq32
      replace F29_entries := F29_entries.keep Kq32 (ninS ne_b28_b31 nin0)
      replace F29_bytes := F29_bytes.keep Kq32 (ninS ne_b28_b31 nin0)
      replace A31 := A31.keep Kq32
      have K32 := K31.trans Kq32 (allS (Or.inr sz_b31) all0)
      have Z32 : n0 ≤ T32.heap.size := Nat.le_trans Z0 K32.1
      clear Eq32
      have N32 := Fr.app N30 N32q
      show own_Ends p e below T32 (mkF m 217 #[.val (.int p0), .val (.int p1), .val (.int p2), .val (.int p3), .val (.int p4), .val (.int ka), .val (.int va), .val (.int kb), .val (.int vb), .val (.int (0 : Int32)), .val (.int (1 : Int32)), .val (.ref b18), .val (.ref b19), .val (.ref b20), .val .null, .val (.long ((ka.toInt64) + (va.toInt64))), .second, .val (.long (kb.toInt64)), .second, .val (.long t), .second, .val (.ref b21), .val (.int (own_within ((2 : Int64)) t ((2 : Int32)) t)), .val (.int (own_within ((2 : Int64)) t ((1 : Int32)) ((9223372036854775807 : Int64)))), .unset] [(.ref b31), (.ref b21)]) _
      obtain ⟨cq33, kq33, q33a, q33b, q33c⟩ := isOf hZ rfl A21
      obtain ⟨_, _, ⟨T33, L33, k33, n33⟩, -, X33, ⟨Lc33, hQ33, l33, y33, z33⟩, st33⟩ := X32.virtualBack hx (y := (⟨"com/example/wedge/wedge/Batch$Size", "within", "(Lcom/example/wedge/wedge/Batch$Limit;)Z"⟩ : MethodName)) (z := (⟨"com/example/wedge/wedge/Batch$Size", "within", "(Lcom/example/wedge/wedge/Batch$Limit;)Z"⟩ : MethodName)) hown (mvT hZ (hw _ (List.mem_of_getElem? (i := 35) rfl))) (mvT hZ (hw _ (List.mem_of_getElem? (i := 36) rfl))) (notFace_of_selects (args := #[]) (mvT hZ (hw _ (List.mem_of_getElem? (i := 38) rfl)))) (mvT hZ (hw _ (List.mem_of_getElem? (i := 38) rfl))) (mvT hZ (hw _ (List.mem_of_getElem? (i := 37) rfl))) (by decide) (backOf (W := 0) (rmWithin l Z a0 hw [] b21 b31 ((2 : Int64)) t ((2 : Int32)) ((t - (1 : Int64))) (T32.heap) n0 Z32 F24_entries F24_bytes A31 F32_entries F32_bytes) hZ (hw _ (List.mem_of_getElem? (i := 39) rfl)) (hw _ (List.mem_of_getElem? (i := 3) rfl)) (by decide) (by decide)) q33a q33c (g := (mkF m 217 #[.val (.int p0), .val (.int p1), .val (.int p2), .val (.int p3), .val (.int p4), .val (.int ka), .val (.int va), .val (.int kb), .val (.int vb), .val (.int (0 : Int32)), .val (.int (1 : Int32)), .val (.ref b18), .val (.ref b19), .val (.ref b20), .val .null, .val (.long ((ka.toInt64) + (va.toInt64))), .second, .val (.long (kb.toInt64)), .second, .val (.long t), .second, .val (.ref b21), .val (.int (own_within ((2 : Int64)) t ((2 : Int32)) t)), .val (.int (own_within ((2 : Int64)) t ((1 : Int32)) ((9223372036854775807 : Int64)))), .unset] [(.ref b31), (.ref b21)])) rfl (by rw [hml]; rfl) (Steps.refl _) (argsL := [(.ref b31)]) (rest := []) (lenOf pd_5 rfl) rfl (by show 2 * 0 + _ ≤ _; exact Nat.le_of_eq rfl) (hb hby at_217) (fun _ _ => ⟨rfl, rfl, (by decide : 7 + 0 ≤ _), (by decide : 53 + 0 ≤ _)⟩)
      dsimp only [Pt.U, Pt.locs, Pt.cells, Pt.slots] at X33 l33 y33 z33 st33 hQ33
      subst l33 y33 z33
      refine own_go (fun _ k => st33.trans k) ?_
      obtain ⟨rfl, N33q, eh33⟩ := hQ33
      have N33 := Fr.app N32 N33q
      show own_Ends p e below T33 (mkF m 220 #[.val (.int p0), .val (.int p1), .val (.int p2), .val (.int p3), .val (.int p4), .val (.int ka), .val (.int va), .val (.int kb), .val (.int vb), .val (.int (0 : Int32)), .val (.int (1 : Int32)), .val (.ref b18), .val (.ref b19), .val (.ref b20), .val .null, .val (.long ((ka.toInt64) + (va.toInt64))), .second, .val (.long (kb.toInt64)), .second, .val (.long t), .second, .val (.ref b21), .val (.int (own_within ((2 : Int64)) t ((2 : Int32)) t)), .val (.int (own_within ((2 : Int64)) t ((1 : Int32)) ((9223372036854775807 : Int64)))), .unset] [(.int (own_within ((2 : Int64)) t ((2 : Int32)) ((t - (1 : Int64)))))]) _
      refine own_go (fun _ => XS.istore X33.here hx rfl (hb hby at_220) rfl (l' := #[.val (.int p0), .val (.int p1), .val (.int p2), .val (.int p3), .val (.int p4), .val (.int ka), .val (.int va), .val (.int kb), .val (.int vb), .val (.int (0 : Int32)), .val (.int (1 : Int32)), .val (.ref b18), .val (.ref b19), .val (.ref b20), .val .null, .val (.long ((ka.toInt64) + (va.toInt64))), .second, .val (.long (kb.toInt64)), .second, .val (.long t), .second, .val (.ref b21), .val (.int (own_within ((2 : Int64)) t ((2 : Int32)) t)), .val (.int (own_within ((2 : Int64)) t ((1 : Int32)) ((9223372036854775807 : Int64)))), .val (.int (own_within ((2 : Int64)) t ((2 : Int32)) ((t - (1 : Int64)))))]) rfl) ?_
      show own_Ends p e below T33 (mkF m 222 #[.val (.int p0), .val (.int p1), .val (.int p2), .val (.int p3), .val (.int p4), .val (.int ka), .val (.int va), .val (.int kb), .val (.int vb), .val (.int (0 : Int32)), .val (.int (1 : Int32)), .val (.ref b18), .val (.ref b19), .val (.ref b20), .val .null, .val (.long ((ka.toInt64) + (va.toInt64))), .second, .val (.long (kb.toInt64)), .second, .val (.long t), .second, .val (.ref b21), .val (.int (own_within ((2 : Int64)) t ((2 : Int32)) t)), .val (.int (own_within ((2 : Int64)) t ((1 : Int32)) ((9223372036854775807 : Int64)))), .val (.int (own_within ((2 : Int64)) t ((2 : Int32)) ((t - (1 : Int64)))))] []) _
      refine own_go (fun _ => XS.iload X33.here hx rfl (hb hby at_222) rfl) ?_
      show own_Ends p e below T33 (mkF m 224 #[.val (.int p0), .val (.int p1), .val (.int p2), .val (.int p3), .val (.int p4), .val (.int ka), .val (.int va), .val (.int kb), .val (.int vb), .val (.int (0 : Int32)), .val (.int (1 : Int32)), .val (.ref b18), .val (.ref b19), .val (.ref b20), .val .null, .val (.long ((ka.toInt64) + (va.toInt64))), .second, .val (.long (kb.toInt64)), .second, .val (.long t), .second, .val (.ref b21), .val (.int (own_within ((2 : Int64)) t ((2 : Int32)) t)), .val (.int (own_within ((2 : Int64)) t ((1 : Int32)) ((9223372036854775807 : Int64)))), .val (.int (own_within ((2 : Int64)) t ((2 : Int32)) ((t - (1 : Int64)))))] [(.int (own_within ((2 : Int64)) t ((2 : Int32)) t))]) _
      refine own_go (fun _ => XS.ifNo X33.here hx rfl (hb hby at_224) rfl ((if0 _ _).trans (feq (show ¬ ((own_within ((2 : Int64)) t ((2 : Int32)) t) = (0 : Int32)) from own_w1 _)).1)) ?_
      show own_Ends p e below T33 (mkF m 227 #[.val (.int p0), .val (.int p1), .val (.int p2), .val (.int p3), .val (.int p4), .val (.int ka), .val (.int va), .val (.int kb), .val (.int vb), .val (.int (0 : Int32)), .val (.int (1 : Int32)), .val (.ref b18), .val (.ref b19), .val (.ref b20), .val .null, .val (.long ((ka.toInt64) + (va.toInt64))), .second, .val (.long (kb.toInt64)), .second, .val (.long t), .second, .val (.ref b21), .val (.int (own_within ((2 : Int64)) t ((2 : Int32)) t)), .val (.int (own_within ((2 : Int64)) t ((1 : Int32)) ((9223372036854775807 : Int64)))), .val (.int (own_within ((2 : Int64)) t ((2 : Int32)) ((t - (1 : Int64)))))] []) _
      refine own_go (fun _ => XS.iload X33.here hx rfl (hb hby at_227) rfl) ?_
      show own_Ends p e below T33 (mkF m 229 #[.val (.int p0), .val (.int p1), .val (.int p2), .val (.int p3), .val (.int p4), .val (.int ka), .val (.int va), .val (.int kb), .val (.int vb), .val (.int (0 : Int32)), .val (.int (1 : Int32)), .val (.ref b18), .val (.ref b19), .val (.ref b20), .val .null, .val (.long ((ka.toInt64) + (va.toInt64))), .second, .val (.long (kb.toInt64)), .second, .val (.long t), .second, .val (.ref b21), .val (.int (own_within ((2 : Int64)) t ((2 : Int32)) t)), .val (.int (own_within ((2 : Int64)) t ((1 : Int32)) ((9223372036854775807 : Int64)))), .val (.int (own_within ((2 : Int64)) t ((2 : Int32)) ((t - (1 : Int64)))))] [(.int (own_within ((2 : Int64)) t ((1 : Int32)) ((9223372036854775807 : Int64))))]) _
      refine own_go (fun _ => XS.ifNo X33.here hx rfl (hb hby at_229) rfl ((if0 _ _).trans (teq (show (own_within ((2 : Int64)) t ((1 : Int32)) ((9223372036854775807 : Int64))) = (0 : Int32) from own_w2 _)).2)) ?_
      show own_Ends p e below T33 (mkF m 232 #[.val (.int p0), .val (.int p1), .val (.int p2), .val (.int p3), .val (.int p4), .val (.int ka), .val (.int va), .val (.int kb), .val (.int vb), .val (.int (0 : Int32)), .val (.int (1 : Int32)), .val (.ref b18), .val (.ref b19), .val (.ref b20), .val .null, .val (.long ((ka.toInt64) + (va.toInt64))), .second, .val (.long (kb.toInt64)), .second, .val (.long t), .second, .val (.ref b21), .val (.int (own_within ((2 : Int64)) t ((2 : Int32)) t)), .val (.int (own_within ((2 : Int64)) t ((1 : Int32)) ((9223372036854775807 : Int64)))), .val (.int (own_within ((2 : Int64)) t ((2 : Int32)) ((t - (1 : Int64)))))] []) _
      refine own_go (fun _ => XS.iload X33.here hx rfl (hb hby at_232) rfl) ?_
      show own_Ends p e below T33 (mkF m 234 #[.val (.int p0), .val (.int p1), .val (.int p2), .val (.int p3), .val (.int p4), .val (.int ka), .val (.int va), .val (.int kb), .val (.int vb), .val (.int (0 : Int32)), .val (.int (1 : Int32)), .val (.ref b18), .val (.ref b19), .val (.ref b20), .val .null, .val (.long ((ka.toInt64) + (va.toInt64))), .second, .val (.long (kb.toInt64)), .second, .val (.long t), .second, .val (.ref b21), .val (.int (own_within ((2 : Int64)) t ((2 : Int32)) t)), .val (.int (own_within ((2 : Int64)) t ((1 : Int32)) ((9223372036854775807 : Int64)))), .val (.int (own_within ((2 : Int64)) t ((2 : Int32)) ((t - (1 : Int64)))))] [(.int (own_within ((2 : Int64)) t ((2 : Int32)) ((t - (1 : Int64)))))]) _
      refine own_go (fun _ => XS.ifNo X33.here hx rfl (hb hby at_234) rfl ((if0 _ _).trans (teq (show (own_within ((2 : Int64)) t ((2 : Int32)) ((t - (1 : Int64)))) = (0 : Int32) from own_w3 ht)).2)) ?_
      show own_Ends p e below T33 (mkF m 237 #[.val (.int p0), .val (.int p1), .val (.int p2), .val (.int p3), .val (.int p4), .val (.int ka), .val (.int va), .val (.int kb), .val (.int vb), .val (.int (0 : Int32)), .val (.int (1 : Int32)), .val (.ref b18), .val (.ref b19), .val (.ref b20), .val .null, .val (.long ((ka.toInt64) + (va.toInt64))), .second, .val (.long (kb.toInt64)), .second, .val (.long t), .second, .val (.ref b21), .val (.int (own_within ((2 : Int64)) t ((2 : Int32)) t)), .val (.int (own_within ((2 : Int64)) t ((1 : Int32)) ((9223372036854775807 : Int64)))), .val (.int (own_within ((2 : Int64)) t ((2 : Int32)) ((t - (1 : Int64)))))] []) _
      refine own_go (fun _ => XS.iconst X33.here hx rfl (hb hby at_237)) ?_
      show own_Ends p e below T33 (mkF m 238 #[.val (.int p0), .val (.int p1), .val (.int p2), .val (.int p3), .val (.int p4), .val (.int ka), .val (.int va), .val (.int kb), .val (.int vb), .val (.int (0 : Int32)), .val (.int (1 : Int32)), .val (.ref b18), .val (.ref b19), .val (.ref b20), .val .null, .val (.long ((ka.toInt64) + (va.toInt64))), .second, .val (.long (kb.toInt64)), .second, .val (.long t), .second, .val (.ref b21), .val (.int (own_within ((2 : Int64)) t ((2 : Int32)) t)), .val (.int (own_within ((2 : Int64)) t ((1 : Int32)) ((9223372036854775807 : Int64)))), .val (.int (own_within ((2 : Int64)) t ((2 : Int32)) ((t - (1 : Int64)))))] [(.int (1 : Int32))]) _
      refine own_go (fun _ => XS.goto X33.here hx rfl (pc0 := 238) (pc' := 242) rfl (hb hby at_238) (by decide) (by decide)) ?_
      show own_Ends p e below T33 (mkF m 242 #[.val (.int p0), .val (.int p1), .val (.int p2), .val (.int p3), .val (.int p4), .val (.int ka), .val (.int va), .val (.int kb), .val (.int vb), .val (.int (0 : Int32)), .val (.int (1 : Int32)), .val (.ref b18), .val (.ref b19), .val (.ref b20), .val .null, .val (.long ((ka.toInt64) + (va.toInt64))), .second, .val (.long (kb.toInt64)), .second, .val (.long t), .second, .val (.ref b21), .val (.int (own_within ((2 : Int64)) t ((2 : Int32)) t)), .val (.int (own_within ((2 : Int64)) t ((1 : Int32)) ((9223372036854775807 : Int64)))), .val (.int (own_within ((2 : Int64)) t ((2 : Int32)) ((t - (1 : Int64)))))] [(.int (1 : Int32))]) _
      obtain ⟨fs, hr, hrun, hended, hW, hsame⟩ := X33.leave (v := some (.int (1 : Int32))) (fun h => by rw [Bd.returns] at h; cases h)
      refine ⟨_, _, retN X33 hx (t := .boolean) Bd.returns (by simp) (hb hby at_242) hr, hrun, hended, _, _, rfl, ?_, ⟨_, rfl⟩, hW, hsame.mono (by decide) (by decide)⟩
      show Q_rm0 Z p0 p1 p2 p3 p4 h0 n0 _ T33.heap _
      rw [eh33]
      exact ⟨rfl, N33⟩
  · refine own_go (fun _ => XS.ifNo X0.here hx rfl (hb hby at_28) rfl ((if0 _ _).trans (feq hc28).1)) ?_
    show own_Ends p e below s₁ (mkF m 31 #[.val (.int p0), .val (.int p1), .val (.int p2), .val (.int p3), .val (.int p4), .val (.int ka), .val (.int va), .val (.int kb), .val (.int vb), .unset, .unset, .unset, .unset, .unset, .unset, .unset, .unset, .unset, .unset, .unset, .unset, .unset, .unset, .unset, .unset] []) _
    refine own_go (fun _ => XS.iconst X0.here hx rfl (hb hby at_31)) ?_
    show own_Ends p e below s₁ (mkF m 32 #[.val (.int p0), .val (.int p1), .val (.int p2), .val (.int p3), .val (.int p4), .val (.int ka), .val (.int va), .val (.int kb), .val (.int vb), .unset, .unset, .unset, .unset, .unset, .unset, .unset, .unset, .unset, .unset, .unset, .unset, .unset, .unset, .unset, .unset] [(.int (1 : Int32))]) _
    refine own_go (fun _ => XS.goto X0.here hx rfl (pc0 := 32) (pc' := 36) rfl (hb hby at_32) (by decide) (by decide)) ?_
    show own_Ends p e below s₁ (mkF m 36 #[.val (.int p0), .val (.int p1), .val (.int p2), .val (.int p3), .val (.int p4), .val (.int ka), .val (.int va), .val (.int kb), .val (.int vb), .unset, .unset, .unset, .unset, .unset, .unset, .unset, .unset, .unset, .unset, .unset, .unset, .unset, .unset, .unset, .unset] [(.int (1 : Int32))]) _
    refine own_go (fun _ => XS.istore X0.here hx rfl (hb hby at_36) rfl (l' := #[.val (.int p0), .val (.int p1), .val (.int p2), .val (.int p3), .val (.int p4), .val (.int ka), .val (.int va), .val (.int kb), .val (.int vb), .val (.int (1 : Int32)), .unset, .unset, .unset, .unset, .unset, .unset, .unset, .unset, .unset, .unset, .unset, .unset, .unset, .unset, .unset]) rfl) ?_
    show own_Ends p e below s₁ (mkF m 38 #[.val (.int p0), .val (.int p1), .val (.int p2), .val (.int p3), .val (.int p4), .val (.int ka), .val (.int va), .val (.int kb), .val (.int vb), .val (.int (1 : Int32)), .unset, .unset, .unset, .unset, .unset, .unset, .unset, .unset, .unset, .unset, .unset, .unset, .unset, .unset, .unset] []) _
    refine own_go (fun _ => XS.iload X0.here hx rfl (hb hby at_38) rfl) ?_
    show own_Ends p e below s₁ (mkF m 40 #[.val (.int p0), .val (.int p1), .val (.int p2), .val (.int p3), .val (.int p4), .val (.int ka), .val (.int va), .val (.int kb), .val (.int vb), .val (.int (1 : Int32)), .unset, .unset, .unset, .unset, .unset, .unset, .unset, .unset, .unset, .unset, .unset, .unset, .unset, .unset, .unset] [(.int p4)]) _
    refine own_go (fun _ => XS.iconst X0.here hx rfl (hb hby at_40)) ?_
    show own_Ends p e below s₁ (mkF m 41 #[.val (.int p0), .val (.int p1), .val (.int p2), .val (.int p3), .val (.int p4), .val (.int ka), .val (.int va), .val (.int kb), .val (.int vb), .val (.int (1 : Int32)), .unset, .unset, .unset, .unset, .unset, .unset, .unset, .unset, .unset, .unset, .unset, .unset, .unset, .unset, .unset] [(.int (2 : Int32)), (.int p4)]) _
    refine own_go (fun _ => XS.iand X0.here hx rfl (hb hby at_41) rfl) ?_
    show own_Ends p e below s₁ (mkF m 42 #[.val (.int p0), .val (.int p1), .val (.int p2), .val (.int p3), .val (.int p4), .val (.int ka), .val (.int va), .val (.int kb), .val (.int vb), .val (.int (1 : Int32)), .unset, .unset, .unset, .unset, .unset, .unset, .unset, .unset, .unset, .unset, .unset, .unset, .unset, .unset, .unset] [(.int (p4 &&& (2 : Int32)))]) _
    by_cases hc42 : (p4 &&& (2 : Int32)) = (0 : Int32)
    · refine own_go (fun _ => XS.ifYes X0.here hx rfl (pc0 := 42) (pc' := 49) rfl (hb hby at_42) rfl ((if0 _ _).trans (teq hc42).1) (by decide) (by decide)) ?_
      show own_Ends p e below s₁ (mkF m 49 #[.val (.int p0), .val (.int p1), .val (.int p2), .val (.int p3), .val (.int p4), .val (.int ka), .val (.int va), .val (.int kb), .val (.int vb), .val (.int (1 : Int32)), .unset, .unset, .unset, .unset, .unset, .unset, .unset, .unset, .unset, .unset, .unset, .unset, .unset, .unset, .unset] []) _
      refine own_go (fun _ => XS.iconst X0.here hx rfl (hb hby at_49)) ?_
      show own_Ends p e below s₁ (mkF m 50 #[.val (.int p0), .val (.int p1), .val (.int p2), .val (.int p3), .val (.int p4), .val (.int ka), .val (.int va), .val (.int kb), .val (.int vb), .val (.int (1 : Int32)), .unset, .unset, .unset, .unset, .unset, .unset, .unset, .unset, .unset, .unset, .unset, .unset, .unset, .unset, .unset] [(.int (0 : Int32))]) _
      refine own_go (fun _ => XS.istore X0.here hx rfl (hb hby at_50) rfl (l' := #[.val (.int p0), .val (.int p1), .val (.int p2), .val (.int p3), .val (.int p4), .val (.int ka), .val (.int va), .val (.int kb), .val (.int vb), .val (.int (1 : Int32)), .val (.int (0 : Int32)), .unset, .unset, .unset, .unset, .unset, .unset, .unset, .unset, .unset, .unset, .unset, .unset, .unset, .unset]) rfl) ?_
      show own_Ends p e below s₁ (mkF m 52 #[.val (.int p0), .val (.int p1), .val (.int p2), .val (.int p3), .val (.int p4), .val (.int ka), .val (.int va), .val (.int kb), .val (.int vb), .val (.int (1 : Int32)), .val (.int (0 : Int32)), .unset, .unset, .unset, .unset, .unset, .unset, .unset, .unset, .unset, .unset, .unset, .unset, .unset, .unset] []) _
      refine own_go (fun _ => XS.iload X0.here hx rfl (hb hby at_52) rfl) ?_
      show own_Ends p e below s₁ (mkF m 54 #[.val (.int p0), .val (.int p1), .val (.int p2), .val (.int p3), .val (.int p4), .val (.int ka), .val (.int va), .val (.int kb), .val (.int vb), .val (.int (1 : Int32)), .val (.int (0 : Int32)), .unset, .unset, .unset, .unset, .unset, .unset, .unset, .unset, .unset, .unset, .unset, .unset, .unset, .unset] [(.int ka)]) _
      obtain ⟨T34, h34, k34, X34, e34, E34, A34, st34⟩ := newP X0 hx hZ (hw _ (List.mem_of_getElem? (i := 0) rfl)) e0 (g := (mkF m 54 #[.val (.int p0), .val (.int p1), .val (.int p2), .val (.int p3), .val (.int p4), .val (.int ka), .val (.int va), .val (.int kb), .val (.int vb), .val (.int (1 : Int32)), .val (.int (0 : Int32)), .unset, .unset, .unset, .unset, .unset, .unset, .unset, .unset, .unset, .unset, .unset, .unset, .unset, .unset] [(.int ka)])) rfl (hb hby at_54) rfl (own_neg hka) (cap := 15) (own_cap hka) (by decide) (by decide) (by decide)
      obtain ⟨b34, g34⟩ : ∃ z, z = h0.size := ⟨_, rfl⟩
      rw [← g34] at A34 st34
      refine own_go st34 ?_
      have g_b34 : n0 ≤ b34 := Nat.le_trans Z0 (Nat.le_of_eq g34.symm)
      have sz_b34 : h0.size ≤ b34 := Nat.le_trans K0.1 (Nat.le_of_eq g34.symm)
      have K34 := K0.ext E34
      have Z34 : n0 ≤ h34.size := Nat.le_trans Z0 K34.1
      have B_b34 : own_Len Z h34 b34 .byte ka := ⟨_, A34, sz_new _ _ _, (own_neg hka)⟩
      show own_Ends p e below T34 (mkF m 56 #[.val (.int p0), .val (.int p1), .val (.int p2), .val (.int p3), .val (.int p4), .val (.int ka), .val (.int va), .val (.int kb), .val (.int vb), .val (.int (1 : Int32)), .val (.int (0 : Int32)), .unset, .unset, .unset, .unset, .unset, .unset, .unset, .unset, .unset, .unset, .unset, .unset, .unset, .unset] [(.ref b34)]) _
      refine own_go (fun _ => XS.astore X34.here hx rfl (hb hby at_56) rfl rfl (l' := #[.val (.int p0), .val (.int p1), .val (.int p2), .val (.int p3), .val (.int p4), .val (.int ka), .val (.int va), .val (.int kb), .val (.int vb), .val (.int (1 : Int32)), .val (.int (0 : Int32)), .val (.ref b34), .unset, .unset, .unset, .unset, .unset, .unset, .unset, .unset, .unset, .unset, .unset, .unset, .unset]) rfl) ?_
      show own_Ends p e below T34 (mkF m 58 #[.val (.int p0), .val (.int p1), .val (.int p2), .val (.int p3), .val (.int p4), .val (.int ka), .val (.int va), .val (.int kb), .val (.int vb), .val (.int (1 : Int32)), .val (.int (0 : Int32)), .val (.ref b34), .unset, .unset, .unset, .unset, .unset, .unset, .unset, .unset, .unset, .unset, .unset, .unset, .unset] []) _
      refine own_go (fun _ => XS.iload X34.here hx rfl (hb hby at_58) rfl) ?_
      show own_Ends p e below T34 (mkF m 60 #[.val (.int p0), .val (.int p1), .val (.int p2), .val (.int p3), .val (.int p4), .val (.int ka), .val (.int va), .val (.int kb), .val (.int vb), .val (.int (1 : Int32)), .val (.int (0 : Int32)), .val (.ref b34), .unset, .unset, .unset, .unset, .unset, .unset, .unset, .unset, .unset, .unset, .unset, .unset, .unset] [(.int kb)]) _
      obtain ⟨T35, h35, k35, X35, e35, E35, A35, st35⟩ := newP X34 hx hZ (hw _ (List.mem_of_getElem? (i := 0) rfl)) e34 (g := (mkF m 60 #[.val (.int p0), .val (.int p1), .val (.int p2), .val (.int p3), .val (.int p4), .val (.int ka), .val (.int va), .val (.int kb), .val (.int vb), .val (.int (1 : Int32)), .val (.int (0 : Int32)), .val (.ref b34), .unset, .unset, .unset, .unset, .unset, .unset, .unset, .unset, .unset, .unset, .unset, .unset, .unset] [(.int kb)])) rfl (hb hby at_60) rfl (own_neg hkb) (cap := 15) (own_cap hkb) (by decide) (by decide) (by decide)
      obtain ⟨b35, g35⟩ : ∃ z, z = h34.size := ⟨_, rfl⟩
      rw [← g35] at A35 st35
      refine own_go st35 ?_
      have g_b35 : n0 ≤ b35 := Nat.le_trans Z34 (Nat.le_of_eq g35.symm)
      have sz_b35 : h0.size ≤ b35 := Nat.le_trans K34.1 (Nat.le_of_eq g35.symm)
      have ne_b34_b35 : b34 ≠ b35 := Nat.ne_of_lt (Nat.lt_of_lt_of_le B_b34.lt (Nat.le_of_eq g35.symm))
      replace B_b34 := B_b34.ext E35
      have K35 := K34.ext E35
      have Z35 : n0 ≤ h35.size := Nat.le_trans Z0 K35.1
      have B_b35 : own_Len Z h35 b35 .byte kb := ⟨_, A35, sz_new _ _ _, (own_neg hkb)⟩
      show own_Ends p e below T35 (mkF m 62 #[.val (.int p0), .val (.int p1), .val (.int p2), .val (.int p3), .val (.int p4), .val (.int ka), .val (.int va), .val (.int kb), .val (.int vb), .val (.int (1 : Int32)), .val (.int (0 : Int32)), .val (.ref b34), .unset, .unset, .unset, .unset, .unset, .unset, .unset, .unset, .unset, .unset, .unset, .unset, .unset] [(.ref b35)]) _
      refine own_go (fun _ => XS.astore X35.here hx rfl (hb hby at_62) rfl rfl (l' := #[.val (.int p0), .val (.int p1), .val (.int p2), .val (.int p3), .val (.int p4), .val (.int ka), .val (.int va), .val (.int kb), .val (.int vb), .val (.int (1 : Int32)), .val (.int (0 : Int32)), .val (.ref b34), .val (.ref b35), .unset, .unset, .unset, .unset, .unset, .unset, .unset, .unset, .unset, .unset, .unset, .unset]) rfl) ?_
      show own_Ends p e below T35 (mkF m 64 #[.val (.int p0), .val (.int p1), .val (.int p2), .val (.int p3), .val (.int p4), .val (.int ka), .val (.int va), .val (.int kb), .val (.int vb), .val (.int (1 : Int32)), .val (.int (0 : Int32)), .val (.ref b34), .val (.ref b35), .unset, .unset, .unset, .unset, .unset, .unset, .unset, .unset, .unset, .unset, .unset, .unset] []) _
      refine own_go (fun _ => XS.iload X35.here hx rfl (hb hby at_64) rfl) ?_
      show own_Ends p e below T35 (mkF m 66 #[.val (.int p0), .val (.int p1), .val (.int p2), .val (.int p3), .val (.int p4), .val (.int ka), .val (.int va), .val (.int kb), .val (.int vb), .val (.int (1 : Int32)), .val (.int (0 : Int32)), .val (.ref b34), .val (.ref b35), .unset, .unset, .unset, .unset, .unset, .unset, .unset, .unset, .unset, .unset, .unset, .unset] [(.int (1 : Int32))]) _
      refine own_go (fun _ => XS.ifNo X35.here hx rfl (hb hby at_66) rfl ((if0 _ _).trans (feq (show ¬ ((1 : Int32) = (0 : Int32)) from by decide)).1)) ?_
      show own_Ends p e below T35 (mkF m 69 #[.val (.int p0), .val (.int p1), .val (.int p2), .val (.int p3), .val (.int p4), .val (.int ka), .val (.int va), .val (.int kb), .val (.int vb), .val (.int (1 : Int32)), .val (.int (0 : Int32)), .val (.ref b34), .val (.ref b35), .unset, .unset, .unset, .unset, .unset, .unset, .unset, .unset, .unset, .unset, .unset, .unset] []) _
      refine own_go (fun _ => XS.aconstNull X35.here hx rfl (hb hby at_69)) ?_
      show own_Ends p e below T35 (mkF m 70 #[.val (.int p0), .val (.int p1), .val (.int p2), .val (.int p3), .val (.int p4), .val (.int ka), .val (.int va), .val (.int kb), .val (.int vb), .val (.int (1 : Int32)), .val (.int (0 : Int32)), .val (.ref b34), .val (.ref b35), .unset, .unset, .unset, .unset, .unset, .unset, .unset, .unset, .unset, .unset, .unset, .unset] [.null]) _
      refine own_go (fun _ => XS.goto X35.here hx rfl (pc0 := 70) (pc' := 77) rfl (hb hby at_70) (by decide) (by decide)) ?_
      show own_Ends p e below T35 (mkF m 77 #[.val (.int p0), .val (.int p1), .val (.int p2), .val (.int p3), .val (.int p4), .val (.int ka), .val (.int va), .val (.int kb), .val (.int vb), .val (.int (1 : Int32)), .val (.int (0 : Int32)), .val (.ref b34), .val (.ref b35), .unset, .unset, .unset, .unset, .unset, .unset, .unset, .unset, .unset, .unset, .unset, .unset] [.null]) _
      refine own_go (fun _ => XS.astore X35.here hx rfl (hb hby at_77) rfl rfl (l' := #[.val (.int p0), .val (.int p1), .val (.int p2), .val (.int p3), .val (.int p4), .val (.int ka), .val (.int va), .val (.int kb), .val (.int vb), .val (.int (1 : Int32)), .val (.int (0 : Int32)), .val (.ref b34), .val (.ref b35), .val .null, .unset, .unset, .unset, .unset, .unset, .unset, .unset, .unset, .unset, .unset, .unset]) rfl) ?_
      show own_Ends p e below T35 (mkF m 79 #[.val (.int p0), .val (.int p1), .val (.int p2), .val (.int p3), .val (.int p4), .val (.int ka), .val (.int va), .val (.int kb), .val (.int vb), .val (.int (1 : Int32)), .val (.int (0 : Int32)), .val (.ref b34), .val (.ref b35), .val .null, .unset, .unset, .unset, .unset, .unset, .unset, .unset, .unset, .unset, .unset, .unset] []) _
      refine own_go (fun _ => XS.iload X35.here hx rfl (hb hby at_79) rfl) ?_
      show own_Ends p e below T35 (mkF m 81 #[.val (.int p0), .val (.int p1), .val (.int p2), .val (.int p3), .val (.int p4), .val (.int ka), .val (.int va), .val (.int kb), .val (.int vb), .val (.int (1 : Int32)), .val (.int (0 : Int32)), .val (.ref b34), .val (.ref b35), .val .null, .unset, .unset, .unset, .unset, .unset, .unset, .unset, .unset, .unset, .unset, .unset] [(.int (0 : Int32))]) _
      refine own_go (fun _ => XS.ifYes X35.here hx rfl (pc0 := 81) (pc' := 88) rfl (hb hby at_81) rfl ((if0 _ _).trans (teq (show (0 : Int32) = (0 : Int32) from by decide)).1) (by decide) (by decide)) ?_
      show own_Ends p e below T35 (mkF m 88 #[.val (.int p0), .val (.int p1), .val (.int p2), .val (.int p3), .val (.int p4), .val (.int ka), .val (.int va), .val (.int kb), .val (.int vb), .val (.int (1 : Int32)), .val (.int (0 : Int32)), .val (.ref b34), .val (.ref b35), .val .null, .unset, .unset, .unset, .unset, .unset, .unset, .unset, .unset, .unset, .unset, .unset] []) _
      refine own_go (fun _ => XS.iload X35.here hx rfl (hb hby at_88) rfl) ?_
      show own_Ends p e below T35 (mkF m 90 #[.val (.int p0), .val (.int p1), .val (.int p2), .val (.int p3), .val (.int p4), .val (.int ka), .val (.int va), .val (.int kb), .val (.int vb), .val (.int (1 : Int32)), .val (.int (0 : Int32)), .val (.ref b34), .val (.ref b35), .val .null, .unset, .unset, .unset, .unset, .unset, .unset, .unset, .unset, .unset, .unset, .unset] [(.int vb)]) _
      obtain ⟨T36, h36, k36, X36, e36, E36, A36, st36⟩ := newP X35 hx hZ (hw _ (List.mem_of_getElem? (i := 0) rfl)) e35 (g := (mkF m 90 #[.val (.int p0), .val (.int p1), .val (.int p2), .val (.int p3), .val (.int p4), .val (.int ka), .val (.int va), .val (.int kb), .val (.int vb), .val (.int (1 : Int32)), .val (.int (0 : Int32)), .val (.ref b34), .val (.ref b35), .val .null, .unset, .unset, .unset, .unset, .unset, .unset, .unset, .unset, .unset, .unset, .unset] [(.int vb)])) rfl (hb hby at_90) rfl (own_neg hvb) (cap := 15) (own_cap hvb) (by decide) (by decide) (by decide)
      obtain ⟨b36, g36⟩ : ∃ z, z = h35.size := ⟨_, rfl⟩
      rw [← g36] at A36 st36
      refine own_go st36 ?_
      have g_b36 : n0 ≤ b36 := Nat.le_trans Z35 (Nat.le_of_eq g36.symm)
      have sz_b36 : h0.size ≤ b36 := Nat.le_trans K35.1 (Nat.le_of_eq g36.symm)
      have ne_b34_b36 : b34 ≠ b36 := Nat.ne_of_lt (Nat.lt_of_lt_of_le B_b34.lt (Nat.le_of_eq g36.symm))
      have ne_b35_b36 : b35 ≠ b36 := Nat.ne_of_lt (Nat.lt_of_lt_of_le B_b35.lt (Nat.le_of_eq g36.symm))
      replace B_b34 := B_b34.ext E36
      replace B_b35 := B_b35.ext E36
      have K36 := K35.ext E36
      have Z36 : n0 ≤ h36.size := Nat.le_trans Z0 K36.1
      have B_b36 : own_Len Z h36 b36 .byte vb := ⟨_, A36, sz_new _ _ _, (own_neg hvb)⟩
      show own_Ends p e below T36 (mkF m 92 #[.val (.int p0), .val (.int p1), .val (.int p2), .val (.int p3), .val (.int p4), .val (.int ka), .val (.int va), .val (.int kb), .val (.int vb), .val (.int (1 : Int32)), .val (.int (0 : Int32)), .val (.ref b34), .val (.ref b35), .val .null, .unset, .unset, .unset, .unset, .unset, .unset, .unset, .unset, .unset, .unset, .unset] [(.ref b36)]) _
      refine own_go (fun _ => XS.astore X36.here hx rfl (hb hby at_92) rfl rfl (l' := #[.val (.int p0), .val (.int p1), .val (.int p2), .val (.int p3), .val (.int p4), .val (.int ka), .val (.int va), .val (.int kb), .val (.int vb), .val (.int (1 : Int32)), .val (.int (0 : Int32)), .val (.ref b34), .val (.ref b35), .val .null, .val (.ref b36), .unset, .unset, .unset, .unset, .unset, .unset, .unset, .unset, .unset, .unset]) rfl) ?_
      show own_Ends p e below T36 (mkF m 94 #[.val (.int p0), .val (.int p1), .val (.int p2), .val (.int p3), .val (.int p4), .val (.int ka), .val (.int va), .val (.int kb), .val (.int vb), .val (.int (1 : Int32)), .val (.int (0 : Int32)), .val (.ref b34), .val (.ref b35), .val .null, .val (.ref b36), .unset, .unset, .unset, .unset, .unset, .unset, .unset, .unset, .unset, .unset] []) _
      refine own_go (fun _ => XS.iload X36.here hx rfl (hb hby at_94) rfl) ?_
      show own_Ends p e below T36 (mkF m 96 #[.val (.int p0), .val (.int p1), .val (.int p2), .val (.int p3), .val (.int p4), .val (.int ka), .val (.int va), .val (.int kb), .val (.int vb), .val (.int (1 : Int32)), .val (.int (0 : Int32)), .val (.ref b34), .val (.ref b35), .val .null, .val (.ref b36), .unset, .unset, .unset, .unset, .unset, .unset, .unset, .unset, .unset, .unset] [(.int (1 : Int32))]) _
      refine own_go (fun _ => XS.ifNo X36.here hx rfl (hb hby at_96) rfl ((if0 _ _).trans (feq (show ¬ ((1 : Int32) = (0 : Int32)) from by decide)).1)) ?_
      show own_Ends p e below T36 (mkF m 99 #[.val (.int p0), .val (.int p1), .val (.int p2), .val (.int p3), .val (.int p4), .val (.int ka), .val (.int va), .val (.int kb), .val (.int vb), .val (.int (1 : Int32)), .val (.int (0 : Int32)), .val (.ref b34), .val (.ref b35), .val .null, .val (.ref b36), .unset, .unset, .unset, .unset, .unset, .unset, .unset, .unset, .unset, .unset] []) _
      refine own_go (fun _ => XS.iload X36.here hx rfl (hb hby at_99) rfl) ?_
      show own_Ends p e below T36 (mkF m 101 #[.val (.int p0), .val (.int p1), .val (.int p2), .val (.int p3), .val (.int p4), .val (.int ka), .val (.int va), .val (.int kb), .val (.int vb), .val (.int (1 : Int32)), .val (.int (0 : Int32)), .val (.ref b34), .val (.ref b35), .val .null, .val (.ref b36), .unset, .unset, .unset, .unset, .unset, .unset, .unset, .unset, .unset, .unset] [(.int ka)]) _
      refine own_go (fun _ => XS.i2l X36.here hx rfl (hb hby at_101) rfl) ?_
      show own_Ends p e below T36 (mkF m 102 #[.val (.int p0), .val (.int p1), .val (.int p2), .val (.int p3), .val (.int p4), .val (.int ka), .val (.int va), .val (.int kb), .val (.int vb), .val (.int (1 : Int32)), .val (.int (0 : Int32)), .val (.ref b34), .val (.ref b35), .val .null, .val (.ref b36), .unset, .unset, .unset, .unset, .unset, .unset, .unset, .unset, .unset, .unset] [(.long (ka.toInt64))]) _
      refine own_go (fun _ => XS.goto X36.here hx rfl (pc0 := 102) (pc' := 112) rfl (hb hby at_102) (by decide) (by decide)) ?_
      show own_Ends p e below T36 (mkF m 112 #[.val (.int p0), .val (.int p1), .val (.int p2), .val (.int p3), .val (.int p4), .val (.int ka), .val (.int va), .val (.int kb), .val (.int vb), .val (.int (1 : Int32)), .val (.int (0 : Int32)), .val (.ref b34), .val (.ref b35), .val .null, .val (.ref b36), .unset, .unset, .unset, .unset, .unset, .unset, .unset, .unset, .unset, .unset] [(.long (ka.toInt64))]) _
      refine own_go (fun _ => XS.lstore X36.here hx rfl (hb hby at_112) rfl (l' := #[.val (.int p0), .val (.int p1), .val (.int p2), .val (.int p3), .val (.int p4), .val (.int ka), .val (.int va), .val (.int kb), .val (.int vb), .val (.int (1 : Int32)), .val (.int (0 : Int32)), .val (.ref b34), .val (.ref b35), .val .null, .val (.ref b36), .val (.long (ka.toInt64)), .second, .unset, .unset, .unset, .unset, .unset, .unset, .unset, .unset]) rfl) ?_
      show own_Ends p e below T36 (mkF m 114 #[.val (.int p0), .val (.int p1), .val (.int p2), .val (.int p3), .val (.int p4), .val (.int ka), .val (.int va), .val (.int kb), .val (.int vb), .val (.int (1 : Int32)), .val (.int (0 : Int32)), .val (.ref b34), .val (.ref b35), .val .null, .val (.ref b36), .val (.long (ka.toInt64)), .second, .unset, .unset, .unset, .unset, .unset, .unset, .unset, .unset] []) _
      refine own_go (fun _ => XS.iload X36.here hx rfl (hb hby at_114) rfl) ?_
      show own_Ends p e below T36 (mkF m 116 #[.val (.int p0), .val (.int p1), .val (.int p2), .val (.int p3), .val (.int p4), .val (.int ka), .val (.int va), .val (.int kb), .val (.int vb), .val (.int (1 : Int32)), .val (.int (0 : Int32)), .val (.ref b34), .val (.ref b35), .val .null, .val (.ref b36), .val (.long (ka.toInt64)), .second, .unset, .unset, .unset, .unset, .unset, .unset, .unset, .unset] [(.int (0 : Int32))]) _
      refine own_go (fun _ => XS.ifYes X36.here hx rfl (pc0 := 116) (pc' := 125) rfl (hb hby at_116) rfl ((if0 _ _).trans (teq (show (0 : Int32) = (0 : Int32) from by decide)).1) (by decide) (by decide)) ?_
      show own_Ends p e below T36 (mkF m 125 #[.val (.int p0), .val (.int p1), .val (.int p2), .val (.int p3), .val (.int p4), .val (.int ka), .val (.int va), .val (.int kb), .val (.int vb), .val (.int (1 : Int32)), .val (.int (0 : Int32)), .val (.ref b34), .val (.ref b35), .val .null, .val (.ref b36), .val (.long (ka.toInt64)), .second, .unset, .unset, .unset, .unset, .unset, .unset, .unset, .unset] []) _
      refine own_go (fun _ => XS.iload X36.here hx rfl (hb hby at_125) rfl) ?_
      show own_Ends p e below T36 (mkF m 127 #[.val (.int p0), .val (.int p1), .val (.int p2), .val (.int p3), .val (.int p4), .val (.int ka), .val (.int va), .val (.int kb), .val (.int vb), .val (.int (1 : Int32)), .val (.int (0 : Int32)), .val (.ref b34), .val (.ref b35), .val .null, .val (.ref b36), .val (.long (ka.toInt64)), .second, .unset, .unset, .unset, .unset, .unset, .unset, .unset, .unset] [(.int kb)]) _
      refine own_go (fun _ => XS.i2l X36.here hx rfl (hb hby at_127) rfl) ?_
      show own_Ends p e below T36 (mkF m 128 #[.val (.int p0), .val (.int p1), .val (.int p2), .val (.int p3), .val (.int p4), .val (.int ka), .val (.int va), .val (.int kb), .val (.int vb), .val (.int (1 : Int32)), .val (.int (0 : Int32)), .val (.ref b34), .val (.ref b35), .val .null, .val (.ref b36), .val (.long (ka.toInt64)), .second, .unset, .unset, .unset, .unset, .unset, .unset, .unset, .unset] [(.long (kb.toInt64))]) _
      refine own_go (fun _ => XS.iload X36.here hx rfl (hb hby at_128) rfl) ?_
      show own_Ends p e below T36 (mkF m 130 #[.val (.int p0), .val (.int p1), .val (.int p2), .val (.int p3), .val (.int p4), .val (.int ka), .val (.int va), .val (.int kb), .val (.int vb), .val (.int (1 : Int32)), .val (.int (0 : Int32)), .val (.ref b34), .val (.ref b35), .val .null, .val (.ref b36), .val (.long (ka.toInt64)), .second, .unset, .unset, .unset, .unset, .unset, .unset, .unset, .unset] [(.int vb), (.long (kb.toInt64))]) _
      refine own_go (fun _ => XS.i2l X36.here hx rfl (hb hby at_130) rfl) ?_
      show own_Ends p e below T36 (mkF m 131 #[.val (.int p0), .val (.int p1), .val (.int p2), .val (.int p3), .val (.int p4), .val (.int ka), .val (.int va), .val (.int kb), .val (.int vb), .val (.int (1 : Int32)), .val (.int (0 : Int32)), .val (.ref b34), .val (.ref b35), .val .null, .val (.ref b36), .val (.long (ka.toInt64)), .second, .unset, .unset, .unset, .unset, .unset, .unset, .unset, .unset] [(.long (vb.toInt64)), (.long (kb.toInt64))]) _
      refine own_go (fun _ => XS.ladd X36.here hx rfl (hb hby at_131) rfl) ?_
      show own_Ends p e below T36 (mkF m 132 #[.val (.int p0), .val (.int p1), .val (.int p2), .val (.int p3), .val (.int p4), .val (.int ka), .val (.int va), .val (.int kb), .val (.int vb), .val (.int (1 : Int32)), .val (.int (0 : Int32)), .val (.ref b34), .val (.ref b35), .val .null, .val (.ref b36), .val (.long (ka.toInt64)), .second, .unset, .unset, .unset, .unset, .unset, .unset, .unset, .unset] [(.long ((kb.toInt64) + (vb.toInt64)))]) _
      refine own_go (fun _ => XS.lstore X36.here hx rfl (hb hby at_132) rfl (l' := #[.val (.int p0), .val (.int p1), .val (.int p2), .val (.int p3), .val (.int p4), .val (.int ka), .val (.int va), .val (.int kb), .val (.int vb), .val (.int (1 : Int32)), .val (.int (0 : Int32)), .val (.ref b34), .val (.ref b35), .val .null, .val (.ref b36), .val (.long (ka.toInt64)), .second, .val (.long ((kb.toInt64) + (vb.toInt64))), .second, .unset, .unset, .unset, .unset, .unset, .unset]) rfl) ?_
      show own_Ends p e below T36 (mkF m 134 #[.val (.int p0), .val (.int p1), .val (.int p2), .val (.int p3), .val (.int p4), .val (.int ka), .val (.int va), .val (.int kb), .val (.int vb), .val (.int (1 : Int32)), .val (.int (0 : Int32)), .val (.ref b34), .val (.ref b35), .val .null, .val (.ref b36), .val (.long (ka.toInt64)), .second, .val (.long ((kb.toInt64) + (vb.toInt64))), .second, .unset, .unset, .unset, .unset, .unset, .unset] []) _
      refine own_go (fun _ => XS.lload X36.here hx rfl (hb hby at_134) rfl) ?_
      show own_Ends p e below T36 (mkF m 136 #[.val (.int p0), .val (.int p1), .val (.int p2), .val (.int p3), .val (.int p4), .val (.int ka), .val (.int va), .val (.int kb), .val (.int vb), .val (.int (1 : Int32)), .val (.int (0 : Int32)), .val (.ref b34), .val (.ref b35), .val .null, .val (.ref b36), .val (.long (ka.toInt64)), .second, .val (.long ((kb.toInt64) + (vb.toInt64))), .second, .unset, .unset, .unset, .unset, .unset, .unset] [(.long (ka.toInt64))]) _
      refine own_go (fun _ => XS.lload X36.here hx rfl (hb hby at_136) rfl) ?_
      show own_Ends p e below T36 (mkF m 138 #[.val (.int p0), .val (.int p1), .val (.int p2), .val (.int p3), .val (.int p4), .val (.int ka), .val (.int va), .val (.int kb), .val (.int vb), .val (.int (1 : Int32)), .val (.int (0 : Int32)), .val (.ref b34), .val (.ref b35), .val .null, .val (.ref b36), .val (.long (ka.toInt64)), .second, .val (.long ((kb.toInt64) + (vb.toInt64))), .second, .unset, .unset, .unset, .unset, .unset, .unset] [(.long ((kb.toInt64) + (vb.toInt64))), (.long (ka.toInt64))]) _
      refine own_go (fun _ => XS.ladd X36.here hx rfl (hb hby at_138) rfl) ?_
      show own_Ends p e below T36 (mkF m 139 #[.val (.int p0), .val (.int p1), .val (.int p2), .val (.int p3), .val (.int p4), .val (.int ka), .val (.int va), .val (.int kb), .val (.int vb), .val (.int (1 : Int32)), .val (.int (0 : Int32)), .val (.ref b34), .val (.ref b35), .val .null, .val (.ref b36), .val (.long (ka.toInt64)), .second, .val (.long ((kb.toInt64) + (vb.toInt64))), .second, .unset, .unset, .unset, .unset, .unset, .unset] [(.long ((ka.toInt64) + ((kb.toInt64) + (vb.toInt64))))]) _
      refine own_go (fun _ => XS.lstore X36.here hx rfl (hb hby at_139) rfl (l' := #[.val (.int p0), .val (.int p1), .val (.int p2), .val (.int p3), .val (.int p4), .val (.int ka), .val (.int va), .val (.int kb), .val (.int vb), .val (.int (1 : Int32)), .val (.int (0 : Int32)), .val (.ref b34), .val (.ref b35), .val .null, .val (.ref b36), .val (.long (ka.toInt64)), .second, .val (.long ((kb.toInt64) + (vb.toInt64))), .second, .val (.long ((ka.toInt64) + ((kb.toInt64) + (vb.toInt64)))), .second, .unset, .unset, .unset, .unset]) rfl) ?_
      show own_Ends p e below T36 (mkF m 141 #[.val (.int p0), .val (.int p1), .val (.int p2), .val (.int p3), .val (.int p4), .val (.int ka), .val (.int va), .val (.int kb), .val (.int vb), .val (.int (1 : Int32)), .val (.int (0 : Int32)), .val (.ref b34), .val (.ref b35), .val .null, .val (.ref b36), .val (.long (ka.toInt64)), .second, .val (.long ((kb.toInt64) + (vb.toInt64))), .second, .val (.long ((ka.toInt64) + ((kb.toInt64) + (vb.toInt64)))), .second, .unset, .unset, .unset, .unset] []) _
      have ht := own_bt (own_b1 hka) (own_b2 hkb hvb)
      generalize gt : ((ka.toInt64) + ((kb.toInt64) + (vb.toInt64))) = t at ht ⊢
      obtain ⟨T37, h37, X37, e37, E37, A37, D37, -, st37⟩ := newO X36 hx hZ hown (hw _ (List.mem_of_getElem? (i := 1) rfl)) (hw _ (List.mem_of_getElem? (i := 2) rfl)) (hw _ (List.mem_of_getElem? (i := 3) rfl)) e36 (g := (mkF m 141 #[.val (.int p0), .val (.int p1), .val (.int p2), .val (.int p3), .val (.int p4), .val (.int ka), .val (.int va), .val (.int kb), .val (.int vb), .val (.int (1 : Int32)), .val (.int (0 : Int32)), .val (.ref b34), .val (.ref b35), .val .null, .val (.ref b36), .val (.long (ka.toInt64)), .second, .val (.long ((kb.toInt64) + (vb.toInt64))), .second, .val (.long t), .second, .unset, .unset, .unset, .unset] [])) rfl (hb hby at_141) (by decide) (by decide)
      obtain ⟨b37, g37⟩ : ∃ z, z = h36.size := ⟨_, rfl⟩
      rw [← g37] at A37 D37 st37
      refine own_go st37 ?_
      have g_b37 : n0 ≤ b37 := Nat.le_trans Z36 (Nat.le_of_eq g37.symm)
      have sz_b37 : h0.size ≤ b37 := Nat.le_trans K36.1 (Nat.le_of_eq g37.symm)
      have ne_b34_b37 : b34 ≠ b37 := Nat.ne_of_lt (Nat.lt_of_lt_of_le B_b34.lt (Nat.le_of_eq g37.symm))
      have ne_b35_b37 : b35 ≠ b37 := Nat.ne_of_lt (Nat.lt_of_lt_of_le B_b35.lt (Nat.le_of_eq g37.symm))
      have ne_b36_b37 : b36 ≠ b37 := Nat.ne_of_lt (Nat.lt_of_lt_of_le B_b36.lt (Nat.le_of_eq g37.symm))
      replace B_b34 := B_b34.ext E37
      replace B_b35 := B_b35.ext E37
      replace B_b36 := B_b36.ext E37
      have K37 := K36.ext E37
      have Z37 : n0 ≤ h37.size := Nat.le_trans Z0 K37.1
      have F_b37_entries : Fld Z h37 b37 "com/example/wedge/wedge/Batch$Size" "entries" "J" (.long (0 : Int64)) := D37 (Or.inl (hw _ (List.mem_of_getElem? (i := 16) rfl))) (ty := .long) (by decide)
      have F_b37_bytes : Fld Z h37 b37 "com/example/wedge/wedge/Batch$Size" "bytes" "J" (.long (0 : Int64)) := D37 (Or.inl (hw _ (List.mem_of_getElem? (i := 18) rfl))) (ty := .long) (by decide)
      show own_Ends p e below T37 (mkF m 144 #[.val (.int p0), .val (.int p1), .val (.int p2), .val (.int p3), .val (.int p4), .val (.int ka), .val (.int va), .val (.int kb), .val (.int vb), .val (.int (1 : Int32)), .val (.int (0 : Int32)), .val (.ref b34), .val (.ref b35), .val .null, .val (.ref b36), .val (.long (ka.toInt64)), .second, .val (.long ((kb.toInt64) + (vb.toInt64))), .second, .val (.long t), .second, .unset, .unset, .unset, .unset] [(.ref b37)]) _
      refine own_go (fun _ => XS.dup X37.here hx rfl (hb hby at_144) rfl rfl) ?_
      show own_Ends p e below T37 (mkF m 145 #[.val (.int p0), .val (.int p1), .val (.int p2), .val (.int p3), .val (.int p4), .val (.int ka), .val (.int va), .val (.int kb), .val (.int vb), .val (.int (1 : Int32)), .val (.int (0 : Int32)), .val (.ref b34), .val (.ref b35), .val .null, .val (.ref b36), .val (.long (ka.toInt64)), .second, .val (.long ((kb.toInt64) + (vb.toInt64))), .second, .val (.long t), .second, .unset, .unset, .unset, .unset] [(.ref b37), (.ref b37)]) _
      obtain ⟨_, _, ⟨T38, L38, k38, n38⟩, -, X38, ⟨Lc38, hQ38, l38, y38, z38⟩, st38⟩ := X37.specialBack hx (y := (⟨"com/example/wedge/wedge/Batch$Size", "<init>", "()V"⟩ : MethodName)) rfl hown (mvT hZ (hw _ (List.mem_of_getElem? (i := 4) rfl))) (mvT hZ (hw _ (List.mem_of_getElem? (i := 5) rfl))) (mvT hZ (hw _ (List.mem_of_getElem? (i := 6) rfl))) (by decide) (backOf (W := 1) (rmSInit l Z a0 hw [] b37  h37 n0 Z37 ) hZ (hw _ (List.mem_of_getElem? (i := 6) rfl)) (hw _ (List.mem_of_getElem? (i := 3) rfl)) (by decide) (by decide)) (g := (mkF m 145 #[.val (.int p0), .val (.int p1), .val (.int p2), .val (.int p3), .val (.int p4), .val (.int ka), .val (.int va), .val (.int kb), .val (.int vb), .val (.int (1 : Int32)), .val (.int (0 : Int32)), .val (.ref b34), .val (.ref b35), .val .null, .val (.ref b36), .val (.long (ka.toInt64)), .second, .val (.long ((kb.toInt64) + (vb.toInt64))), .second, .val (.long t), .second, .unset, .unset, .unset, .unset] [(.ref b37), (.ref b37)])) rfl (by rw [hml]; rfl) (Steps.refl _) (a := b37) (argsL := []) (rest := [(.ref b37)]) (lenOf pd_0 rfl) rfl (by show 2 * 0 + _ ≤ _; exact Nat.le_of_eq rfl) (hb hby at_145) (fun _ _ => ⟨rfl, e37, (by decide : 4 + 0 ≤ _), (by decide : 47 + 0 ≤ _)⟩)
      dsimp only [Pt.U, Pt.locs, Pt.cells, Pt.slots] at X38 l38 y38 z38 st38 hQ38
      subst l38 y38 z38
      refine own_go (fun _ k => st38.trans k) ?_
      obtain ⟨rfl, N38q, eh38⟩ := hQ38
      have N38 := Fr.app N0 N38q
      show own_Ends p e below T38 (mkF m 148 #[.val (.int p0), .val (.int p1), .val (.int p2), .val (.int p3), .val (.int p4), .val (.int ka), .val (.int va), .val (.int kb), .val (.int vb), .val (.int (1 : Int32)), .val (.int (0 : Int32)), .val (.ref b34), .val (.ref b35), .val .null, .val (.ref b36), .val (.long (ka.toInt64)), .second, .val (.long ((kb.toInt64) + (vb.toInt64))), .second, .val (.long t), .second, .unset, .unset, .unset, .unset] [(.ref b37)]) _
      refine own_go (fun _ => XS.astore X38.here hx rfl (hb hby at_148) rfl rfl (l' := #[.val (.int p0), .val (.int p1), .val (.int p2), .val (.int p3), .val (.int p4), .val (.int ka), .val (.int va), .val (.int kb), .val (.int vb), .val (.int (1 : Int32)), .val (.int (0 : Int32)), .val (.ref b34), .val (.ref b35), .val .null, .val (.ref b36), .val (.long (ka.toInt64)), .second, .val (.long ((kb.toInt64) + (vb.toInt64))), .second, .val (.long t), .second, .val (.ref b37), .unset, .unset, .unset]) rfl) ?_
      show own_Ends p e below T38 (mkF m 150 #[.val (.int p0), .val (.int p1), .val (.int p2), .val (.int p3), .val (.int p4), .val (.int ka), .val (.int va), .val (.int kb), .val (.int vb), .val (.int (1 : Int32)), .val (.int (0 : Int32)), .val (.ref b34), .val (.ref b35), .val .null, .val (.ref b36), .val (.long (ka.toInt64)), .second, .val (.long ((kb.toInt64) + (vb.toInt64))), .second, .val (.long t), .second, .val (.ref b37), .unset, .unset, .unset] []) _
      refine own_go (fun _ => XS.aload X38.here hx rfl (hb hby at_150) rfl rfl) ?_
      show own_Ends p e below T38 (mkF m 152 #[.val (.int p0), .val (.int p1), .val (.int p2), .val (.int p3), .val (.int p4), .val (.int ka), .val (.int va), .val (.int kb), .val (.int vb), .val (.int (1 : Int32)), .val (.int (0 : Int32)), .val (.ref b34), .val (.ref b35), .val .null, .val (.ref b36), .val (.long (ka.toInt64)), .second, .val (.long ((kb.toInt64) + (vb.toInt64))), .second, .val (.long t), .second, .val (.ref b37), .unset, .unset, .unset] [(.ref b37)]) _
      refine own_go (fun _ => XS.aload X38.here hx rfl (hb hby at_152) rfl rfl) ?_
      show own_Ends p e below T38 (mkF m 154 #[.val (.int p0), .val (.int p1), .val (.int p2), .val (.int p3), .val (.int p4), .val (.int ka), .val (.int va), .val (.int kb), .val (.int vb), .val (.int (1 : Int32)), .val (.int (0 : Int32)), .val (.ref b34), .val (.ref b35), .val .null, .val (.ref b36), .val (.long (ka.toInt64)), .second, .val (.long ((kb.toInt64) + (vb.toInt64))), .second, .val (.long t), .second, .val (.ref b37), .unset, .unset, .unset] [(.ref b34), (.ref b37)]) _
      refine own_go (fun _ => XS.aload X38.here hx rfl (hb hby at_154) rfl rfl) ?_
      show own_Ends p e below T38 (mkF m 156 #[.val (.int p0), .val (.int p1), .val (.int p2), .val (.int p3), .val (.int p4), .val (.int ka), .val (.int va), .val (.int kb), .val (.int vb), .val (.int (1 : Int32)), .val (.int (0 : Int32)), .val (.ref b34), .val (.ref b35), .val .null, .val (.ref b36), .val (.long (ka.toInt64)), .second, .val (.long ((kb.toInt64) + (vb.toInt64))), .second, .val (.long t), .second, .val (.ref b37), .unset, .unset, .unset] [.null, (.ref b34), (.ref b37)]) _
      obtain ⟨cq39, kq39, q39a, q39b, q39c⟩ := isOf hZ eh38 A37
      obtain ⟨_, _, ⟨T39, L39, k39, n39⟩, -, X39, ⟨Lc39, hQ39, l39, y39, z39⟩, st39⟩ := X38.virtualBack hx (y := (⟨"com/example/wedge/wedge/Batch$Size", "add", "([B[B)V"⟩ : MethodName)) (z := (⟨"com/example/wedge/wedge/Batch$Size", "add", "([B[B)V"⟩ : MethodName)) hown (mvT hZ (hw _ (List.mem_of_getElem? (i := 10) rfl))) (mvT hZ (hw _ (List.mem_of_getElem? (i := 11) rfl))) (notFace_of_selects (args := #[]) (mvT hZ (hw _ (List.mem_of_getElem? (i := 13) rfl)))) (mvT hZ (hw _ (List.mem_of_getElem? (i := 13) rfl))) (mvT hZ (hw _ (List.mem_of_getElem? (i := 12) rfl))) (by decide) (backOf (W := 0) (rmAddn l Z a0 hw [] b37 b34 ((0 : Int64)) ((0 : Int64)) ka h37 n0 Z37 A37 F_b37_entries F_b37_bytes g_b37 B_b34 ne_b34_b37) hZ (hw _ (List.mem_of_getElem? (i := 14) rfl)) (hw _ (List.mem_of_getElem? (i := 3) rfl)) (by decide) (by decide)) q39a q39c (g := (mkF m 156 #[.val (.int p0), .val (.int p1), .val (.int p2), .val (.int p3), .val (.int p4), .val (.int ka), .val (.int va), .val (.int kb), .val (.int vb), .val (.int (1 : Int32)), .val (.int (0 : Int32)), .val (.ref b34), .val (.ref b35), .val .null, .val (.ref b36), .val (.long (ka.toInt64)), .second, .val (.long ((kb.toInt64) + (vb.toInt64))), .second, .val (.long t), .second, .val (.ref b37), .unset, .unset, .unset] [.null, (.ref b34), (.ref b37)])) rfl (by rw [hml]; rfl) (Steps.refl _) (argsL := [(.ref b34), .null]) (rest := []) (lenOf pd_3 rfl) rfl (by show 2 * 0 + _ ≤ _; exact Nat.le_of_eq rfl) (hb hby at_156) (fun _ _ => ⟨rfl, eh38, (by decide : 4 + 0 ≤ _), (by decide : 47 + 0 ≤ _)⟩)
      dsimp only [Pt.U, Pt.locs, Pt.cells, Pt.slots] at X39 l39 y39 z39 st39 hQ39
      subst l39 y39 z39
      refine own_go (fun _ k => st39.trans k) ?_
      obtain ⟨rfl, N39q, Kq39, Eq39, F39_entries, F39_bytes⟩ := hQ39
      replace B_b34 := B_b34.keep Kq39 (ninS ne_b34_b37 nin0)
      replace B_b35 := B_b35.keep Kq39 (ninS ne_b35_b37 nin0)
      replace B_b36 := B_b36.keep Kq39 (ninS ne_b36_b37 nin0)
      replace A37 := A37.keep Kq39
      have K39 := K37.trans Kq39 (allS (Or.inr sz_b37) all0)
      have Z39 : n0 ≤ T39.heap.size := Nat.le_trans Z0 K39.1
      clear Eq39
      have N39 := Fr.app N38 N39q
      show own_Ends p e below T39 (mkF m 159 #[.val (.int p0), .val (.int p1), .val (.int p2), .val (.int p3), .val (.int p4), .val (.int ka), .val (.int va), .val (.int kb), .val (.int vb), .val (.int (1 : Int32)), .val (.int (0 : Int32)), .val (.ref b34), .val (.ref b35), .val .null, .val (.ref b36), .val (.long (ka.toInt64)), .second, .val (.long ((kb.toInt64) + (vb.toInt64))), .second, .val (.long t), .second, .val (.ref b37), .unset, .unset, .unset] []) _
      refine own_go (fun _ => XS.aload X39.here hx rfl (hb hby at_159) rfl rfl) ?_
      show own_Ends p e below T39 (mkF m 161 #[.val (.int p0), .val (.int p1), .val (.int p2), .val (.int p3), .val (.int p4), .val (.int ka), .val (.int va), .val (.int kb), .val (.int vb), .val (.int (1 : Int32)), .val (.int (0 : Int32)), .val (.ref b34), .val (.ref b35), .val .null, .val (.ref b36), .val (.long (ka.toInt64)), .second, .val (.long ((kb.toInt64) + (vb.toInt64))), .second, .val (.long t), .second, .val (.ref b37), .unset, .unset, .unset] [(.ref b37)]) _
      refine own_go (fun _ => XS.aload X39.here hx rfl (hb hby at_161) rfl rfl) ?_
      show own_Ends p e below T39 (mkF m 163 #[.val (.int p0), .val (.int p1), .val (.int p2), .val (.int p3), .val (.int p4), .val (.int ka), .val (.int va), .val (.int kb), .val (.int vb), .val (.int (1 : Int32)), .val (.int (0 : Int32)), .val (.ref b34), .val (.ref b35), .val .null, .val (.ref b36), .val (.long (ka.toInt64)), .second, .val (.long ((kb.toInt64) + (vb.toInt64))), .second, .val (.long t), .second, .val (.ref b37), .unset, .unset, .unset] [(.ref b35), (.ref b37)]) _
      refine own_go (fun _ => XS.aload X39.here hx rfl (hb hby at_163) rfl rfl) ?_
      show own_Ends p e below T39 (mkF m 165 #[.val (.int p0), .val (.int p1), .val (.int p2), .val (.int p3), .val (.int p4), .val (.int ka), .val (.int va), .val (.int kb), .val (.int vb), .val (.int (1 : Int32)), .val (.int (0 : Int32)), .val (.ref b34), .val (.ref b35), .val .null, .val (.ref b36), .val (.long (ka.toInt64)), .second, .val (.long ((kb.toInt64) + (vb.toInt64))), .second, .val (.long t), .second, .val (.ref b37), .unset, .unset, .unset] [(.ref b36), (.ref b35), (.ref b37)]) _
      obtain ⟨cq40, kq40, q40a, q40b, q40c⟩ := isOf hZ rfl A37
      obtain ⟨_, _, ⟨T40, L40, k40, n40⟩, -, X40, ⟨Lc40, hQ40, l40, y40, z40⟩, st40⟩ := X39.virtualBack hx (y := (⟨"com/example/wedge/wedge/Batch$Size", "add", "([B[B)V"⟩ : MethodName)) (z := (⟨"com/example/wedge/wedge/Batch$Size", "add", "([B[B)V"⟩ : MethodName)) hown (mvT hZ (hw _ (List.mem_of_getElem? (i := 10) rfl))) (mvT hZ (hw _ (List.mem_of_getElem? (i := 11) rfl))) (notFace_of_selects (args := #[]) (mvT hZ (hw _ (List.mem_of_getElem? (i := 13) rfl)))) (mvT hZ (hw _ (List.mem_of_getElem? (i := 13) rfl))) (mvT hZ (hw _ (List.mem_of_getElem? (i := 12) rfl))) (by decide) (backOf (W := 0) (rmAddr l Z a0 hw [] b37 b35 b36 (((0 : Int64) + (1 : Int64))) (((0 : Int64) + ((ka + (0 : Int32)).toInt64))) kb vb (T39.heap) n0 Z39 A37 F39_entries F39_bytes g_b37 B_b35 B_b36 ne_b35_b37 ne_b36_b37) hZ (hw _ (List.mem_of_getElem? (i := 14) rfl)) (hw _ (List.mem_of_getElem? (i := 3) rfl)) (by decide) (by decide)) q40a q40c (g := (mkF m 165 #[.val (.int p0), .val (.int p1), .val (.int p2), .val (.int p3), .val (.int p4), .val (.int ka), .val (.int va), .val (.int kb), .val (.int vb), .val (.int (1 : Int32)), .val (.int (0 : Int32)), .val (.ref b34), .val (.ref b35), .val .null, .val (.ref b36), .val (.long (ka.toInt64)), .second, .val (.long ((kb.toInt64) + (vb.toInt64))), .second, .val (.long t), .second, .val (.ref b37), .unset, .unset, .unset] [(.ref b36), (.ref b35), (.ref b37)])) rfl (by rw [hml]; rfl) (Steps.refl _) (argsL := [(.ref b35), (.ref b36)]) (rest := []) (lenOf pd_3 rfl) rfl (by show 2 * 0 + _ ≤ _; exact Nat.le_of_eq rfl) (hb hby at_165) (fun _ _ => ⟨rfl, rfl, (by decide : 4 + 0 ≤ _), (by decide : 47 + 0 ≤ _)⟩)
      dsimp only [Pt.U, Pt.locs, Pt.cells, Pt.slots] at X40 l40 y40 z40 st40 hQ40
      subst l40 y40 z40
      refine own_go (fun _ k => st40.trans k) ?_
      obtain ⟨rfl, N40q, Kq40, Eq40, F40_entries, F40_bytes⟩ := hQ40
      replace B_b34 := B_b34.keep Kq40 (ninS ne_b34_b37 nin0)
      replace B_b35 := B_b35.keep Kq40 (ninS ne_b35_b37 nin0)
      replace B_b36 := B_b36.keep Kq40 (ninS ne_b36_b37 nin0)
      replace A37 := A37.keep Kq40
      have K40 := K39.trans Kq40 (allS (Or.inr sz_b37) all0)
      have Z40 : n0 ≤ T40.heap.size := Nat.le_trans Z0 K40.1
      clear Eq40
      have N40 := Fr.app N39 N40q
      show own_Ends p e below T40 (mkF m 168 #[.val (.int p0), .val (.int p1), .val (.int p2), .val (.int p3), .val (.int p4), .val (.int ka), .val (.int va), .val (.int kb), .val (.int vb), .val (.int (1 : Int32)), .val (.int (0 : Int32)), .val (.ref b34), .val (.ref b35), .val .null, .val (.ref b36), .val (.long (ka.toInt64)), .second, .val (.long ((kb.toInt64) + (vb.toInt64))), .second, .val (.long t), .second, .val (.ref b37), .unset, .unset, .unset] []) _
      have hen : (((0 : Int64) + (1 : Int64)) + (1 : Int64)) = (2 : Int64) := by decide
      rw [hen] at F40_entries
      have hbyt : (((0 : Int64) + ((ka + (0 : Int32)).toInt64)) + ((kb + vb).toInt64)) = t := own_tot gt (own_lone _) (own_two hkb hvb)
      rw [hbyt] at F40_bytes
      refine own_go (fun _ => XS.aload X40.here hx rfl (hb hby at_168) rfl rfl) ?_
      show own_Ends p e below T40 (mkF m 170 #[.val (.int p0), .val (.int p1), .val (.int p2), .val (.int p3), .val (.int p4), .val (.int ka), .val (.int va), .val (.int kb), .val (.int vb), .val (.int (1 : Int32)), .val (.int (0 : Int32)), .val (.ref b34), .val (.ref b35), .val .null, .val (.ref b36), .val (.long (ka.toInt64)), .second, .val (.long ((kb.toInt64) + (vb.toInt64))), .second, .val (.long t), .second, .val (.ref b37), .unset, .unset, .unset] [(.ref b37)]) _
      obtain ⟨T41, h41, X41, e41, E41, A41, D41, -, st41⟩ := newO X40 hx hZ hown (hw _ (List.mem_of_getElem? (i := 19) rfl)) (hw _ (List.mem_of_getElem? (i := 20) rfl)) (hw _ (List.mem_of_getElem? (i := 21) rfl)) rfl (g := (mkF m 170 #[.val (.int p0), .val (.int p1), .val (.int p2), .val (.int p3), .val (.int p4), .val (.int ka), .val (.int va), .val (.int kb), .val (.int vb), .val (.int (1 : Int32)), .val (.int (0 : Int32)), .val (.ref b34), .val (.ref b35), .val .null, .val (.ref b36), .val (.long (ka.toInt64)), .second, .val (.long ((kb.toInt64) + (vb.toInt64))), .second, .val (.long t), .second, .val (.ref b37), .unset, .unset, .unset] [(.ref b37)])) rfl (hb hby at_170) (by decide) (by decide)
      obtain ⟨b41, g41⟩ : ∃ z, z = T40.heap.size := ⟨_, rfl⟩
      rw [← g41] at A41 D41 st41
      refine own_go st41 ?_
      have g_b41 : n0 ≤ b41 := Nat.le_trans Z40 (Nat.le_of_eq g41.symm)
      have sz_b41 : h0.size ≤ b41 := Nat.le_trans K40.1 (Nat.le_of_eq g41.symm)
      have ne_b34_b41 : b34 ≠ b41 := Nat.ne_of_lt (Nat.lt_of_lt_of_le B_b34.lt (Nat.le_of_eq g41.symm))
      have ne_b35_b41 : b35 ≠ b41 := Nat.ne_of_lt (Nat.lt_of_lt_of_le B_b35.lt (Nat.le_of_eq g41.symm))
      have ne_b36_b41 : b36 ≠ b41 := Nat.ne_of_lt (Nat.lt_of_lt_of_le B_b36.lt (Nat.le_of_eq g41.symm))
      have ne_b37_b41 : b37 ≠ b41 := Nat.ne_of_lt (Nat.lt_of_lt_of_le A37.lt (Nat.le_of_eq g41.symm))
      replace B_b34 := B_b34.ext E41
      replace B_b35 := B_b35.ext E41
      replace B_b36 := B_b36.ext E41
      replace A37 := A37.ext E41
      replace F40_entries := F40_entries.ext E41
      replace F40_bytes := F40_bytes.ext E41
      have K41 := K40.ext E41
      have Z41 : n0 ≤ h41.size := Nat.le_trans Z0 K41.1
      have F_b41_entries : Fld Z h41 b41 "com/example/wedge/wedge/Batch$Limit" "entries" "I" (.int (0 : Int32)) := D41 (Or.inr (hw _ (List.mem_of_getElem? (i := 32) rfl))) (ty := .int) (by decide)
      have F_b41_bytes : Fld Z h41 b41 "com/example/wedge/wedge/Batch$Limit" "bytes" "J" (.long (0 : Int64)) := D41 (Or.inr (hw _ (List.mem_of_getElem? (i := 34) rfl))) (ty := .long) (by decide)
      show own_Ends p e below T41 (mkF m 173 #[.val (.int p0), .val (.int p1), .val (.int p2), .val (.int p3), .val (.int p4), .val (.int ka), .val (.int va), .val (.int kb), .val (.int vb), .val (.int (1 : Int32)), .val (.int (0 : Int32)), .val (.ref b34), .val (.ref b35), .val .null, .val (.ref b36), .val (.long (ka.toInt64)), .second, .val (.long ((kb.toInt64) + (vb.toInt64))), .second, .val (.long t), .second, .val (.ref b37), .unset, .unset, .unset] [(.ref b41), (.ref b37)]) _
      refine own_go (fun _ => XS.dup X41.here hx rfl (hb hby at_173) rfl rfl) ?_
      show own_Ends p e below T41 (mkF m 174 #[.val (.int p0), .val (.int p1), .val (.int p2), .val (.int p3), .val (.int p4), .val (.int ka), .val (.int va), .val (.int kb), .val (.int vb), .val (.int (1 : Int32)), .val (.int (0 : Int32)), .val (.ref b34), .val (.ref b35), .val .null, .val (.ref b36), .val (.long (ka.toInt64)), .second, .val (.long ((kb.toInt64) + (vb.toInt64))), .second, .val (.long t), .second, .val (.ref b37), .unset, .unset, .unset] [(.ref b41), (.ref b41), (.ref b37)]) _
      refine own_go (fun _ => XS.iconst X41.here hx rfl (hb hby at_174)) ?_
      show own_Ends p e below T41 (mkF m 175 #[.val (.int p0), .val (.int p1), .val (.int p2), .val (.int p3), .val (.int p4), .val (.int ka), .val (.int va), .val (.int kb), .val (.int vb), .val (.int (1 : Int32)), .val (.int (0 : Int32)), .val (.ref b34), .val (.ref b35), .val .null, .val (.ref b36), .val (.long (ka.toInt64)), .second, .val (.long ((kb.toInt64) + (vb.toInt64))), .second, .val (.long t), .second, .val (.ref b37), .unset, .unset, .unset] [(.int (2 : Int32)), (.ref b41), (.ref b41), (.ref b37)]) _
      refine own_go (fun _ => XS.lload X41.here hx rfl (hb hby at_175) rfl) ?_
      show own_Ends p e below T41 (mkF m 177 #[.val (.int p0), .val (.int p1), .val (.int p2), .val (.int p3), .val (.int p4), .val (.int ka), .val (.int va), .val (.int kb), .val (.int vb), .val (.int (1 : Int32)), .val (.int (0 : Int32)), .val (.ref b34), .val (.ref b35), .val .null, .val (.ref b36), .val (.long (ka.toInt64)), .second, .val (.long ((kb.toInt64) + (vb.toInt64))), .second, .val (.long t), .second, .val (.ref b37), .unset, .unset, .unset] [(.long t), (.int (2 : Int32)), (.ref b41), (.ref b41), (.ref b37)]) _
      obtain ⟨_, _, ⟨T42, L42, k42, n42⟩, -, X42, ⟨Lc42, hQ42, l42, y42, z42⟩, st42⟩ := X41.specialBack hx (y := (⟨"com/example/wedge/wedge/Batch$Limit", "<init>", "(IJ)V"⟩ : MethodName)) rfl hown (mvT hZ (hw _ (List.mem_of_getElem? (i := 22) rfl))) (mvT hZ (hw _ (List.mem_of_getElem? (i := 23) rfl))) (mvT hZ (hw _ (List.mem_of_getElem? (i := 24) rfl))) (by decide) (backOf (W := 2) (rmLInit l Z a0 hw [] b41 ((2 : Int32)) t  h41 n0 Z41 A41 F_b41_entries F_b41_bytes g_b41) hZ (hw _ (List.mem_of_getElem? (i := 24) rfl)) (hw _ (List.mem_of_getElem? (i := 21) rfl)) (by decide) (by decide)) (g := (mkF m 177 #[.val (.int p0), .val (.int p1), .val (.int p2), .val (.int p3), .val (.int p4), .val (.int ka), .val (.int va), .val (.int kb), .val (.int vb), .val (.int (1 : Int32)), .val (.int (0 : Int32)), .val (.ref b34), .val (.ref b35), .val .null, .val (.ref b36), .val (.long (ka.toInt64)), .second, .val (.long ((kb.toInt64) + (vb.toInt64))), .second, .val (.long t), .second, .val (.ref b37), .unset, .unset, .unset] [(.long t), (.int (2 : Int32)), (.ref b41), (.ref b41), (.ref b37)])) rfl (by rw [hml]; rfl) (Steps.refl _) (a := b41) (argsL := [(.int (2 : Int32)), (.long t)]) (rest := [(.ref b41), (.ref b37)]) (lenOf pd_4 rfl) rfl (by show 2 * 0 + _ ≤ _; exact Nat.le_of_eq rfl) (hb hby at_177) (fun _ _ => ⟨rfl, e41, (by decide : 5 + 0 ≤ _), (by decide : 49 + 0 ≤ _)⟩)
      dsimp only [Pt.U, Pt.locs, Pt.cells, Pt.slots] at X42 l42 y42 z42 st42 hQ42
      subst l42 y42 z42
      refine own_go (fun _ k => st42.trans k) ?_
      obtain ⟨rfl, N42q, Kq42, Eq42, F42_entries, F42_bytes⟩ := hQ42
      replace B_b34 := B_b34.keep Kq42 (ninS ne_b34_b41 nin0)
      replace B_b35 := B_b35.keep Kq42 (ninS ne_b35_b41 nin0)
      replace B_b36 := B_b36.keep Kq42 (ninS ne_b36_b41 nin0)
      replace A37 := A37.keep Kq42
      replace F40_entries := F40_entries.keep Kq42 (ninS ne_b37_b41 nin0)
      replace F40_bytes := F40_bytes.keep Kq42 (ninS ne_b37_b41 nin0)
      replace A41 := A41.keep Kq42
      have K42 := K41.trans Kq42 (allS (Or.inr sz_b41) all0)
      have Z42 : n0 ≤ T42.heap.size := Nat.le_trans Z0 K42.1
      clear Eq42
      have N42 := Fr.app N40 N42q
      show own_Ends p e below T42 (mkF m 180 #[.val (.int p0), .val (.int p1), .val (.int p2), .val (.int p3), .val (.int p4), .val (.int ka), .val (.int va), .val (.int kb), .val (.int vb), .val (.int (1 : Int32)), .val (.int (0 : Int32)), .val (.ref b34), .val (.ref b35), .val .null, .val (.ref b36), .val (.long (ka.toInt64)), .second, .val (.long ((kb.toInt64) + (vb.toInt64))), .second, .val (.long t), .second, .val (.ref b37), .unset, .unset, .unset] [(.ref b41), (.ref b37)]) _
      obtain ⟨cq43, kq43, q43a, q43b, q43c⟩ := isOf hZ rfl A37
      obtain ⟨_, _, ⟨T43, L43, k43, n43⟩, -, X43, ⟨Lc43, hQ43, l43, y43, z43⟩, st43⟩ := X42.virtualBack hx (y := (⟨"com/example/wedge/wedge/Batch$Size", "within", "(Lcom/example/wedge/wedge/Batch$Limit;)Z"⟩ : MethodName)) (z := (⟨"com/example/wedge/wedge/Batch$Size", "within", "(Lcom/example/wedge/wedge/Batch$Limit;)Z"⟩ : MethodName)) hown (mvT hZ (hw _ (List.mem_of_getElem? (i := 35) rfl))) (mvT hZ (hw _ (List.mem_of_getElem? (i := 36) rfl))) (notFace_of_selects (args := #[]) (mvT hZ (hw _ (List.mem_of_getElem? (i := 38) rfl)))) (mvT hZ (hw _ (List.mem_of_getElem? (i := 38) rfl))) (mvT hZ (hw _ (List.mem_of_getElem? (i := 37) rfl))) (by decide) (backOf (W := 0) (rmWithin l Z a0 hw [] b37 b41 ((2 : Int64)) t ((2 : Int32)) t (T42.heap) n0 Z42 F40_entries F40_bytes A41 F42_entries F42_bytes) hZ (hw _ (List.mem_of_getElem? (i := 39) rfl)) (hw _ (List.mem_of_getElem? (i := 3) rfl)) (by decide) (by decide)) q43a q43c (g := (mkF m 180 #[.val (.int p0), .val (.int p1), .val (.int p2), .val (.int p3), .val (.int p4), .val (.int ka), .val (.int va), .val (.int kb), .val (.int vb), .val (.int (1 : Int32)), .val (.int (0 : Int32)), .val (.ref b34), .val (.ref b35), .val .null, .val (.ref b36), .val (.long (ka.toInt64)), .second, .val (.long ((kb.toInt64) + (vb.toInt64))), .second, .val (.long t), .second, .val (.ref b37), .unset, .unset, .unset] [(.ref b41), (.ref b37)])) rfl (by rw [hml]; rfl) (Steps.refl _) (argsL := [(.ref b41)]) (rest := []) (lenOf pd_5 rfl) rfl (by show 2 * 0 + _ ≤ _; exact Nat.le_of_eq rfl) (hb hby at_180) (fun _ _ => ⟨rfl, rfl, (by decide : 5 + 0 ≤ _), (by decide : 49 + 0 ≤ _)⟩)
      dsimp only [Pt.U, Pt.locs, Pt.cells, Pt.slots] at X43 l43 y43 z43 st43 hQ43
      subst l43 y43 z43
      refine own_go (fun _ k => st43.trans k) ?_
      obtain ⟨rfl, N43q, eh43⟩ := hQ43
      have N43 := Fr.app N42 N43q
      show own_Ends p e below T43 (mkF m 183 #[.val (.int p0), .val (.int p1), .val (.int p2), .val (.int p3), .val (.int p4), .val (.int ka), .val (.int va), .val (.int kb), .val (.int vb), .val (.int (1 : Int32)), .val (.int (0 : Int32)), .val (.ref b34), .val (.ref b35), .val .null, .val (.ref b36), .val (.long (ka.toInt64)), .second, .val (.long ((kb.toInt64) + (vb.toInt64))), .second, .val (.long t), .second, .val (.ref b37), .unset, .unset, .unset] [(.int (own_within ((2 : Int64)) t ((2 : Int32)) t))]) _
      refine own_go (fun _ => XS.istore X43.here hx rfl (hb hby at_183) rfl (l' := #[.val (.int p0), .val (.int p1), .val (.int p2), .val (.int p3), .val (.int p4), .val (.int ka), .val (.int va), .val (.int kb), .val (.int vb), .val (.int (1 : Int32)), .val (.int (0 : Int32)), .val (.ref b34), .val (.ref b35), .val .null, .val (.ref b36), .val (.long (ka.toInt64)), .second, .val (.long ((kb.toInt64) + (vb.toInt64))), .second, .val (.long t), .second, .val (.ref b37), .val (.int (own_within ((2 : Int64)) t ((2 : Int32)) t)), .unset, .unset]) rfl) ?_
      show own_Ends p e below T43 (mkF m 185 #[.val (.int p0), .val (.int p1), .val (.int p2), .val (.int p3), .val (.int p4), .val (.int ka), .val (.int va), .val (.int kb), .val (.int vb), .val (.int (1 : Int32)), .val (.int (0 : Int32)), .val (.ref b34), .val (.ref b35), .val .null, .val (.ref b36), .val (.long (ka.toInt64)), .second, .val (.long ((kb.toInt64) + (vb.toInt64))), .second, .val (.long t), .second, .val (.ref b37), .val (.int (own_within ((2 : Int64)) t ((2 : Int32)) t)), .unset, .unset] []) _
      refine own_go (fun _ => XS.aload X43.here hx rfl (hb hby at_185) rfl rfl) ?_
      show own_Ends p e below T43 (mkF m 187 #[.val (.int p0), .val (.int p1), .val (.int p2), .val (.int p3), .val (.int p4), .val (.int ka), .val (.int va), .val (.int kb), .val (.int vb), .val (.int (1 : Int32)), .val (.int (0 : Int32)), .val (.ref b34), .val (.ref b35), .val .null, .val (.ref b36), .val (.long (ka.toInt64)), .second, .val (.long ((kb.toInt64) + (vb.toInt64))), .second, .val (.long t), .second, .val (.ref b37), .val (.int (own_within ((2 : Int64)) t ((2 : Int32)) t)), .unset, .unset] [(.ref b37)]) _
      obtain ⟨T44, h44, X44, e44, E44, A44, D44, -, st44⟩ := newO X43 hx hZ hown (hw _ (List.mem_of_getElem? (i := 19) rfl)) (hw _ (List.mem_of_getElem? (i := 20) rfl)) (hw _ (List.mem_of_getElem? (i := 21) rfl)) eh43 (g := (mkF m 187 #[.val (.int p0), .val (.int p1), .val (.int p2), .val (.int p3), .val (.int p4), .val (.int ka), .val (.int va), .val (.int kb), .val (.int vb), .val (.int (1 : Int32)), .val (.int (0 : Int32)), .val (.ref b34), .val (.ref b35), .val .null, .val (.ref b36), .val (.long (ka.toInt64)), .second, .val (.long ((kb.toInt64) + (vb.toInt64))), .second, .val (.long t), .second, .val (.ref b37), .val (.int (own_within ((2 : Int64)) t ((2 : Int32)) t)), .unset, .unset] [(.ref b37)])) rfl (hb hby at_187) (by decide) (by decide)
      obtain ⟨b44, g44⟩ : ∃ z, z = T42.heap.size := ⟨_, rfl⟩
      rw [← g44] at A44 D44 st44
      refine own_go st44 ?_
      have g_b44 : n0 ≤ b44 := Nat.le_trans Z42 (Nat.le_of_eq g44.symm)
      have sz_b44 : h0.size ≤ b44 := Nat.le_trans K42.1 (Nat.le_of_eq g44.symm)
      have ne_b34_b44 : b34 ≠ b44 := Nat.ne_of_lt (Nat.lt_of_lt_of_le B_b34.lt (Nat.le_of_eq g44.symm))
      have ne_b35_b44 : b35 ≠ b44 := Nat.ne_of_lt (Nat.lt_of_lt_of_le B_b35.lt (Nat.le_of_eq g44.symm))
      have ne_b36_b44 : b36 ≠ b44 := Nat.ne_of_lt (Nat.lt_of_lt_of_le B_b36.lt (Nat.le_of_eq g44.symm))
      have ne_b37_b44 : b37 ≠ b44 := Nat.ne_of_lt (Nat.lt_of_lt_of_le A37.lt (Nat.le_of_eq g44.symm))
      have ne_b41_b44 : b41 ≠ b44 := Nat.ne_of_lt (Nat.lt_of_lt_of_le A41.lt (Nat.le_of_eq g44.symm))
      replace B_b34 := B_b34.ext E44
      replace B_b35 := B_b35.ext E44
      replace B_b36 := B_b36.ext E44
      replace A37 := A37.ext E44
      replace F40_entries := F40_entries.ext E44
      replace F40_bytes := F40_bytes.ext E44
      replace A41 := A41.ext E44
      replace F42_entries := F42_entries.ext E44
      replace F42_bytes := F42_bytes.ext E44
      have K44 := K42.ext E44
      have Z44 : n0 ≤ h44.size := Nat.le_trans Z0 K44.1
      have F_b44_entries : Fld Z h44 b44 "com/example/wedge/wedge/Batch$Limit" "entries" "I" (.int (0 : Int32)) := D44 (Or.inr (hw _ (List.mem_of_getElem? (i := 32) rfl))) (ty := .int) (by decide)
      have F_b44_bytes : Fld Z h44 b44 "com/example/wedge/wedge/Batch$Limit" "bytes" "J" (.long (0 : Int64)) := D44 (Or.inr (hw _ (List.mem_of_getElem? (i := 34) rfl))) (ty := .long) (by decide)
      show own_Ends p e below T44 (mkF m 190 #[.val (.int p0), .val (.int p1), .val (.int p2), .val (.int p3), .val (.int p4), .val (.int ka), .val (.int va), .val (.int kb), .val (.int vb), .val (.int (1 : Int32)), .val (.int (0 : Int32)), .val (.ref b34), .val (.ref b35), .val .null, .val (.ref b36), .val (.long (ka.toInt64)), .second, .val (.long ((kb.toInt64) + (vb.toInt64))), .second, .val (.long t), .second, .val (.ref b37), .val (.int (own_within ((2 : Int64)) t ((2 : Int32)) t)), .unset, .unset] [(.ref b44), (.ref b37)]) _
      refine own_go (fun _ => XS.dup X44.here hx rfl (hb hby at_190) rfl rfl) ?_
      show own_Ends p e below T44 (mkF m 191 #[.val (.int p0), .val (.int p1), .val (.int p2), .val (.int p3), .val (.int p4), .val (.int ka), .val (.int va), .val (.int kb), .val (.int vb), .val (.int (1 : Int32)), .val (.int (0 : Int32)), .val (.ref b34), .val (.ref b35), .val .null, .val (.ref b36), .val (.long (ka.toInt64)), .second, .val (.long ((kb.toInt64) + (vb.toInt64))), .second, .val (.long t), .second, .val (.ref b37), .val (.int (own_within ((2 : Int64)) t ((2 : Int32)) t)), .unset, .unset] [(.ref b44), (.ref b44), (.ref b37)]) _
      refine own_go (fun _ => XS.iconst X44.here hx rfl (hb hby at_191)) ?_
      show own_Ends p e below T44 (mkF m 192 #[.val (.int p0), .val (.int p1), .val (.int p2), .val (.int p3), .val (.int p4), .val (.int ka), .val (.int va), .val (.int kb), .val (.int vb), .val (.int (1 : Int32)), .val (.int (0 : Int32)), .val (.ref b34), .val (.ref b35), .val .null, .val (.ref b36), .val (.long (ka.toInt64)), .second, .val (.long ((kb.toInt64) + (vb.toInt64))), .second, .val (.long t), .second, .val (.ref b37), .val (.int (own_within ((2 : Int64)) t ((2 : Int32)) t)), .unset, .unset] [(.int (1 : Int32)), (.ref b44), (.ref b44), (.ref b37)]) _
      refine own_go (X44.ldc2Long hx hown (mvT hZ (hw _ (List.mem_of_getElem? (i := 50) rfl))) (g := (mkF m 192 #[.val (.int p0), .val (.int p1), .val (.int p2), .val (.int p3), .val (.int p4), .val (.int ka), .val (.int va), .val (.int kb), .val (.int vb), .val (.int (1 : Int32)), .val (.int (0 : Int32)), .val (.ref b34), .val (.ref b35), .val .null, .val (.ref b36), .val (.long (ka.toInt64)), .second, .val (.long ((kb.toInt64) + (vb.toInt64))), .second, .val (.long t), .second, .val (.ref b37), .val (.int (own_within ((2 : Int64)) t ((2 : Int32)) t)), .unset, .unset] [(.int (1 : Int32)), (.ref b44), (.ref b44), (.ref b37)])) rfl (hb hby at_192)) ?_
      show own_Ends p e below T44 (mkF m 195 #[.val (.int p0), .val (.int p1), .val (.int p2), .val (.int p3), .val (.int p4), .val (.int ka), .val (.int va), .val (.int kb), .val (.int vb), .val (.int (1 : Int32)), .val (.int (0 : Int32)), .val (.ref b34), .val (.ref b35), .val .null, .val (.ref b36), .val (.long (ka.toInt64)), .second, .val (.long ((kb.toInt64) + (vb.toInt64))), .second, .val (.long t), .second, .val (.ref b37), .val (.int (own_within ((2 : Int64)) t ((2 : Int32)) t)), .unset, .unset] [(.long (9223372036854775807 : Int64)), (.int (1 : Int32)), (.ref b44), (.ref b44), (.ref b37)]) _
      obtain ⟨_, _, ⟨T45, L45, k45, n45⟩, -, X45, ⟨Lc45, hQ45, l45, y45, z45⟩, st45⟩ := X44.specialBack hx (y := (⟨"com/example/wedge/wedge/Batch$Limit", "<init>", "(IJ)V"⟩ : MethodName)) rfl hown (mvT hZ (hw _ (List.mem_of_getElem? (i := 22) rfl))) (mvT hZ (hw _ (List.mem_of_getElem? (i := 23) rfl))) (mvT hZ (hw _ (List.mem_of_getElem? (i := 24) rfl))) (by decide) (backOf (W := 2) (rmLInit l Z a0 hw [] b44 ((1 : Int32)) ((9223372036854775807 : Int64))  h44 n0 Z44 A44 F_b44_entries F_b44_bytes g_b44) hZ (hw _ (List.mem_of_getElem? (i := 24) rfl)) (hw _ (List.mem_of_getElem? (i := 21) rfl)) (by decide) (by decide)) (g := (mkF m 195 #[.val (.int p0), .val (.int p1), .val (.int p2), .val (.int p3), .val (.int p4), .val (.int ka), .val (.int va), .val (.int kb), .val (.int vb), .val (.int (1 : Int32)), .val (.int (0 : Int32)), .val (.ref b34), .val (.ref b35), .val .null, .val (.ref b36), .val (.long (ka.toInt64)), .second, .val (.long ((kb.toInt64) + (vb.toInt64))), .second, .val (.long t), .second, .val (.ref b37), .val (.int (own_within ((2 : Int64)) t ((2 : Int32)) t)), .unset, .unset] [(.long (9223372036854775807 : Int64)), (.int (1 : Int32)), (.ref b44), (.ref b44), (.ref b37)])) rfl (by rw [hml]; rfl) (Steps.refl _) (a := b44) (argsL := [(.int (1 : Int32)), (.long (9223372036854775807 : Int64))]) (rest := [(.ref b44), (.ref b37)]) (lenOf pd_4 rfl) rfl (by show 2 * 0 + _ ≤ _; exact Nat.le_of_eq rfl) (hb hby at_195) (fun _ _ => ⟨rfl, e44, (by decide : 6 + 0 ≤ _), (by decide : 51 + 0 ≤ _)⟩)
      dsimp only [Pt.U, Pt.locs, Pt.cells, Pt.slots] at X45 l45 y45 z45 st45 hQ45
      subst l45 y45 z45
      refine own_go (fun _ k => st45.trans k) ?_
      obtain ⟨rfl, N45q, Kq45, Eq45, F45_entries, F45_bytes⟩ := hQ45
      replace B_b34 := B_b34.keep Kq45 (ninS ne_b34_b44 nin0)
      replace B_b35 := B_b35.keep Kq45 (ninS ne_b35_b44 nin0)
      replace B_b36 := B_b36.keep Kq45 (ninS ne_b36_b44 nin0)
      replace A37 := A37.keep Kq45
      replace F40_entries := F40_entries.keep Kq45 (ninS ne_b37_b44 nin0)
      replace F40_bytes := F40_bytes.keep Kq45 (ninS ne_b37_b44 nin0)
      replace A41 := A41.keep Kq45
      replace F42_entries := F42_entries.keep Kq45 (ninS ne_b41_b44 nin0)
      replace F42_bytes := F42_bytes.keep Kq45 (ninS ne_b41_b44 nin0)
      replace A44 := A44.keep Kq45
      have K45 := K44.trans Kq45 (allS (Or.inr sz_b44) all0)
      have Z45 : n0 ≤ T45.heap.size := Nat.le_trans Z0 K45.1
      clear Eq45
      have N45 := Fr.app N43 N45q
      show own_Ends p e below T45 (mkF m 198 #[.val (.int p0), .val (.int p1), .val (.int p2), .val (.int p3), .val (.int p4), .val (.int ka), .val (.int va), .val (.int kb), .val (.int vb), .val (.int (1 : Int32)), .val (.int (0 : Int32)), .val (.ref b34), .val (.ref b35), .val .null, .val (.ref b36), .val (.long (ka.toInt64)), .second, .val (.long ((kb.toInt64) + (vb.toInt64))), .second, .val (.long t), .second, .val (.ref b37), .val (.int (own_within ((2 : Int64)) t ((2 : Int32)) t)), .unset, .unset] [(.ref b44), (.ref b37)]) _
      obtain ⟨cq46, kq46, q46a, q46b, q46c⟩ := isOf hZ rfl A37
      obtain ⟨_, _, ⟨T46, L46, k46, n46⟩, -, X46, ⟨Lc46, hQ46, l46, y46, z46⟩, st46⟩ := X45.virtualBack hx (y := (⟨"com/example/wedge/wedge/Batch$Size", "within", "(Lcom/example/wedge/wedge/Batch$Limit;)Z"⟩ : MethodName)) (z := (⟨"com/example/wedge/wedge/Batch$Size", "within", "(Lcom/example/wedge/wedge/Batch$Limit;)Z"⟩ : MethodName)) hown (mvT hZ (hw _ (List.mem_of_getElem? (i := 35) rfl))) (mvT hZ (hw _ (List.mem_of_getElem? (i := 36) rfl))) (notFace_of_selects (args := #[]) (mvT hZ (hw _ (List.mem_of_getElem? (i := 38) rfl)))) (mvT hZ (hw _ (List.mem_of_getElem? (i := 38) rfl))) (mvT hZ (hw _ (List.mem_of_getElem? (i := 37) rfl))) (by decide) (backOf (W := 0) (rmWithin l Z a0 hw [] b37 b44 ((2 : Int64)) t ((1 : Int32)) ((9223372036854775807 : Int64)) (T45.heap) n0 Z45 F40_entries F40_bytes A44 F45_entries F45_bytes) hZ (hw _ (List.mem_of_getElem? (i := 39) rfl)) (hw _ (List.mem_of_getElem? (i := 3) rfl)) (by decide) (by decide)) q46a q46c (g := (mkF m 198 #[.val (.int p0), .val (.int p1), .val (.int p2), .val (.int p3), .val (.int p4), .val (.int ka), .val (.int va), .val (.int kb), .val (.int vb), .val (.int (1 : Int32)), .val (.int (0 : Int32)), .val (.ref b34), .val (.ref b35), .val .null, .val (.ref b36), .val (.long (ka.toInt64)), .second, .val (.long ((kb.toInt64) + (vb.toInt64))), .second, .val (.long t), .second, .val (.ref b37), .val (.int (own_within ((2 : Int64)) t ((2 : Int32)) t)), .unset, .unset] [(.ref b44), (.ref b37)])) rfl (by rw [hml]; rfl) (Steps.refl _) (argsL := [(.ref b44)]) (rest := []) (lenOf pd_5 rfl) rfl (by show 2 * 0 + _ ≤ _; exact Nat.le_of_eq rfl) (hb hby at_198) (fun _ _ => ⟨rfl, rfl, (by decide : 6 + 0 ≤ _), (by decide : 51 + 0 ≤ _)⟩)
      dsimp only [Pt.U, Pt.locs, Pt.cells, Pt.slots] at X46 l46 y46 z46 st46 hQ46
      subst l46 y46 z46
      refine own_go (fun _ k => st46.trans k) ?_
      obtain ⟨rfl, N46q, eh46⟩ := hQ46
      have N46 := Fr.app N45 N46q
      show own_Ends p e below T46 (mkF m 201 #[.val (.int p0), .val (.int p1), .val (.int p2), .val (.int p3), .val (.int p4), .val (.int ka), .val (.int va), .val (.int kb), .val (.int vb), .val (.int (1 : Int32)), .val (.int (0 : Int32)), .val (.ref b34), .val (.ref b35), .val .null, .val (.ref b36), .val (.long (ka.toInt64)), .second, .val (.long ((kb.toInt64) + (vb.toInt64))), .second, .val (.long t), .second, .val (.ref b37), .val (.int (own_within ((2 : Int64)) t ((2 : Int32)) t)), .unset, .unset] [(.int (own_within ((2 : Int64)) t ((1 : Int32)) ((9223372036854775807 : Int64))))]) _
      refine own_go (fun _ => XS.istore X46.here hx rfl (hb hby at_201) rfl (l' := #[.val (.int p0), .val (.int p1), .val (.int p2), .val (.int p3), .val (.int p4), .val (.int ka), .val (.int va), .val (.int kb), .val (.int vb), .val (.int (1 : Int32)), .val (.int (0 : Int32)), .val (.ref b34), .val (.ref b35), .val .null, .val (.ref b36), .val (.long (ka.toInt64)), .second, .val (.long ((kb.toInt64) + (vb.toInt64))), .second, .val (.long t), .second, .val (.ref b37), .val (.int (own_within ((2 : Int64)) t ((2 : Int32)) t)), .val (.int (own_within ((2 : Int64)) t ((1 : Int32)) ((9223372036854775807 : Int64)))), .unset]) rfl) ?_
      show own_Ends p e below T46 (mkF m 203 #[.val (.int p0), .val (.int p1), .val (.int p2), .val (.int p3), .val (.int p4), .val (.int ka), .val (.int va), .val (.int kb), .val (.int vb), .val (.int (1 : Int32)), .val (.int (0 : Int32)), .val (.ref b34), .val (.ref b35), .val .null, .val (.ref b36), .val (.long (ka.toInt64)), .second, .val (.long ((kb.toInt64) + (vb.toInt64))), .second, .val (.long t), .second, .val (.ref b37), .val (.int (own_within ((2 : Int64)) t ((2 : Int32)) t)), .val (.int (own_within ((2 : Int64)) t ((1 : Int32)) ((9223372036854775807 : Int64)))), .unset] []) _
      refine own_go (fun _ => XS.aload X46.here hx rfl (hb hby at_203) rfl rfl) ?_
      show own_Ends p e below T46 (mkF m 205 #[.val (.int p0), .val (.int p1), .val (.int p2), .val (.int p3), .val (.int p4), .val (.int ka), .val (.int va), .val (.int kb), .val (.int vb), .val (.int (1 : Int32)), .val (.int (0 : Int32)), .val (.ref b34), .val (.ref b35), .val .null, .val (.ref b36), .val (.long (ka.toInt64)), .second, .val (.long ((kb.toInt64) + (vb.toInt64))), .second, .val (.long t), .second, .val (.ref b37), .val (.int (own_within ((2 : Int64)) t ((2 : Int32)) t)), .val (.int (own_within ((2 : Int64)) t ((1 : Int32)) ((9223372036854775807 : Int64)))), .unset] [(.ref b37)]) _
      obtain ⟨T47, h47, X47, e47, E47, A47, D47, -, st47⟩ := newO X46 hx hZ hown (hw _ (List.mem_of_getElem? (i := 19) rfl)) (hw _ (List.mem_of_getElem? (i := 20) rfl)) (hw _ (List.mem_of_getElem? (i := 21) rfl)) eh46 (g := (mkF m 205 #[.val (.int p0), .val (.int p1), .val (.int p2), .val (.int p3), .val (.int p4), .val (.int ka), .val (.int va), .val (.int kb), .val (.int vb), .val (.int (1 : Int32)), .val (.int (0 : Int32)), .val (.ref b34), .val (.ref b35), .val .null, .val (.ref b36), .val (.long (ka.toInt64)), .second, .val (.long ((kb.toInt64) + (vb.toInt64))), .second, .val (.long t), .second, .val (.ref b37), .val (.int (own_within ((2 : Int64)) t ((2 : Int32)) t)), .val (.int (own_within ((2 : Int64)) t ((1 : Int32)) ((9223372036854775807 : Int64)))), .unset] [(.ref b37)])) rfl (hb hby at_205) (by decide) (by decide)
      obtain ⟨b47, g47⟩ : ∃ z, z = T45.heap.size := ⟨_, rfl⟩
      rw [← g47] at A47 D47 st47
      refine own_go st47 ?_
      have g_b47 : n0 ≤ b47 := Nat.le_trans Z45 (Nat.le_of_eq g47.symm)
      have sz_b47 : h0.size ≤ b47 := Nat.le_trans K45.1 (Nat.le_of_eq g47.symm)
      have ne_b34_b47 : b34 ≠ b47 := Nat.ne_of_lt (Nat.lt_of_lt_of_le B_b34.lt (Nat.le_of_eq g47.symm))
      have ne_b35_b47 : b35 ≠ b47 := Nat.ne_of_lt (Nat.lt_of_lt_of_le B_b35.lt (Nat.le_of_eq g47.symm))
      have ne_b36_b47 : b36 ≠ b47 := Nat.ne_of_lt (Nat.lt_of_lt_of_le B_b36.lt (Nat.le_of_eq g47.symm))
      have ne_b37_b47 : b37 ≠ b47 := Nat.ne_of_lt (Nat.lt_of_lt_of_le A37.lt (Nat.le_of_eq g47.symm))
      have ne_b41_b47 : b41 ≠ b47 := Nat.ne_of_lt (Nat.lt_of_lt_of_le A41.lt (Nat.le_of_eq g47.symm))
      have ne_b44_b47 : b44 ≠ b47 := Nat.ne_of_lt (Nat.lt_of_lt_of_le A44.lt (Nat.le_of_eq g47.symm))
      replace B_b34 := B_b34.ext E47
      replace B_b35 := B_b35.ext E47
      replace B_b36 := B_b36.ext E47
      replace A37 := A37.ext E47
      replace F40_entries := F40_entries.ext E47
      replace F40_bytes := F40_bytes.ext E47
      replace A41 := A41.ext E47
      replace F42_entries := F42_entries.ext E47
      replace F42_bytes := F42_bytes.ext E47
      replace A44 := A44.ext E47
      replace F45_entries := F45_entries.ext E47
      replace F45_bytes := F45_bytes.ext E47
      have K47 := K45.ext E47
      have Z47 : n0 ≤ h47.size := Nat.le_trans Z0 K47.1
      have F_b47_entries : Fld Z h47 b47 "com/example/wedge/wedge/Batch$Limit" "entries" "I" (.int (0 : Int32)) := D47 (Or.inr (hw _ (List.mem_of_getElem? (i := 32) rfl))) (ty := .int) (by decide)
      have F_b47_bytes : Fld Z h47 b47 "com/example/wedge/wedge/Batch$Limit" "bytes" "J" (.long (0 : Int64)) := D47 (Or.inr (hw _ (List.mem_of_getElem? (i := 34) rfl))) (ty := .long) (by decide)
      show own_Ends p e below T47 (mkF m 208 #[.val (.int p0), .val (.int p1), .val (.int p2), .val (.int p3), .val (.int p4), .val (.int ka), .val (.int va), .val (.int kb), .val (.int vb), .val (.int (1 : Int32)), .val (.int (0 : Int32)), .val (.ref b34), .val (.ref b35), .val .null, .val (.ref b36), .val (.long (ka.toInt64)), .second, .val (.long ((kb.toInt64) + (vb.toInt64))), .second, .val (.long t), .second, .val (.ref b37), .val (.int (own_within ((2 : Int64)) t ((2 : Int32)) t)), .val (.int (own_within ((2 : Int64)) t ((1 : Int32)) ((9223372036854775807 : Int64)))), .unset] [(.ref b47), (.ref b37)]) _
      refine own_go (fun _ => XS.dup X47.here hx rfl (hb hby at_208) rfl rfl) ?_
      show own_Ends p e below T47 (mkF m 209 #[.val (.int p0), .val (.int p1), .val (.int p2), .val (.int p3), .val (.int p4), .val (.int ka), .val (.int va), .val (.int kb), .val (.int vb), .val (.int (1 : Int32)), .val (.int (0 : Int32)), .val (.ref b34), .val (.ref b35), .val .null, .val (.ref b36), .val (.long (ka.toInt64)), .second, .val (.long ((kb.toInt64) + (vb.toInt64))), .second, .val (.long t), .second, .val (.ref b37), .val (.int (own_within ((2 : Int64)) t ((2 : Int32)) t)), .val (.int (own_within ((2 : Int64)) t ((1 : Int32)) ((9223372036854775807 : Int64)))), .unset] [(.ref b47), (.ref b47), (.ref b37)]) _
      refine own_go (fun _ => XS.iconst X47.here hx rfl (hb hby at_209)) ?_
      show own_Ends p e below T47 (mkF m 210 #[.val (.int p0), .val (.int p1), .val (.int p2), .val (.int p3), .val (.int p4), .val (.int ka), .val (.int va), .val (.int kb), .val (.int vb), .val (.int (1 : Int32)), .val (.int (0 : Int32)), .val (.ref b34), .val (.ref b35), .val .null, .val (.ref b36), .val (.long (ka.toInt64)), .second, .val (.long ((kb.toInt64) + (vb.toInt64))), .second, .val (.long t), .second, .val (.ref b37), .val (.int (own_within ((2 : Int64)) t ((2 : Int32)) t)), .val (.int (own_within ((2 : Int64)) t ((1 : Int32)) ((9223372036854775807 : Int64)))), .unset] [(.int (2 : Int32)), (.ref b47), (.ref b47), (.ref b37)]) _
      refine own_go (fun _ => XS.lload X47.here hx rfl (hb hby at_210) rfl) ?_
      show own_Ends p e below T47 (mkF m 212 #[.val (.int p0), .val (.int p1), .val (.int p2), .val (.int p3), .val (.int p4), .val (.int ka), .val (.int va), .val (.int kb), .val (.int vb), .val (.int (1 : Int32)), .val (.int (0 : Int32)), .val (.ref b34), .val (.ref b35), .val .null, .val (.ref b36), .val (.long (ka.toInt64)), .second, .val (.long ((kb.toInt64) + (vb.toInt64))), .second, .val (.long t), .second, .val (.ref b37), .val (.int (own_within ((2 : Int64)) t ((2 : Int32)) t)), .val (.int (own_within ((2 : Int64)) t ((1 : Int32)) ((9223372036854775807 : Int64)))), .unset] [(.long t), (.int (2 : Int32)), (.ref b47), (.ref b47), (.ref b37)]) _
      refine own_go (fun _ => XS.lconst X47.here hx rfl (hb hby at_212)) ?_
      show own_Ends p e below T47 (mkF m 213 #[.val (.int p0), .val (.int p1), .val (.int p2), .val (.int p3), .val (.int p4), .val (.int ka), .val (.int va), .val (.int kb), .val (.int vb), .val (.int (1 : Int32)), .val (.int (0 : Int32)), .val (.ref b34), .val (.ref b35), .val .null, .val (.ref b36), .val (.long (ka.toInt64)), .second, .val (.long ((kb.toInt64) + (vb.toInt64))), .second, .val (.long t), .second, .val (.ref b37), .val (.int (own_within ((2 : Int64)) t ((2 : Int32)) t)), .val (.int (own_within ((2 : Int64)) t ((1 : Int32)) ((9223372036854775807 : Int64)))), .unset] [(.long (1 : Int64)), (.long t), (.int (2 : Int32)), (.ref b47), (.ref b47), (.ref b37)]) _
      refine own_go (fun _ => XS.lsub X47.here hx rfl (hb hby at_213) rfl) ?_
      show own_Ends p e below T47 (mkF m 214 #[.val (.int p0), .val (.int p1), .val (.int p2), .val (.int p3), .val (.int p4), .val (.int ka), .val (.int va), .val (.int kb), .val (.int vb), .val (.int (1 : Int32)), .val (.int (0 : Int32)), .val (.ref b34), .val (.ref b35), .val .null, .val (.ref b36), .val (.long (ka.toInt64)), .second, .val (.long ((kb.toInt64) + (vb.toInt64))), .second, .val (.long t), .second, .val (.ref b37), .val (.int (own_within ((2 : Int64)) t ((2 : Int32)) t)), .val (.int (own_within ((2 : Int64)) t ((1 : Int32)) ((9223372036854775807 : Int64)))), .unset] [(.long (t - (1 : Int64))), (.int (2 : Int32)), (.ref b47), (.ref b47), (.ref b37)]) _
      obtain ⟨_, _, ⟨T48, L48, k48, n48⟩, -, X48, ⟨Lc48, hQ48, l48, y48, z48⟩, st48⟩ := X47.specialBack hx (y := (⟨"com/example/wedge/wedge/Batch$Limit", "<init>", "(IJ)V"⟩ : MethodName)) rfl hown (mvT hZ (hw _ (List.mem_of_getElem? (i := 22) rfl))) (mvT hZ (hw _ (List.mem_of_getElem? (i := 23) rfl))) (mvT hZ (hw _ (List.mem_of_getElem? (i := 24) rfl))) (by decide) (backOf (W := 2) (rmLInit l Z a0 hw [] b47 ((2 : Int32)) ((t - (1 : Int64)))  h47 n0 Z47 A47 F_b47_entries F_b47_bytes g_b47) hZ (hw _ (List.mem_of_getElem? (i := 24) rfl)) (hw _ (List.mem_of_getElem? (i := 21) rfl)) (by decide) (by decide)) (g := (mkF m 214 #[.val (.int p0), .val (.int p1), .val (.int p2), .val (.int p3), .val (.int p4), .val (.int ka), .val (.int va), .val (.int kb), .val (.int vb), .val (.int (1 : Int32)), .val (.int (0 : Int32)), .val (.ref b34), .val (.ref b35), .val .null, .val (.ref b36), .val (.long (ka.toInt64)), .second, .val (.long ((kb.toInt64) + (vb.toInt64))), .second, .val (.long t), .second, .val (.ref b37), .val (.int (own_within ((2 : Int64)) t ((2 : Int32)) t)), .val (.int (own_within ((2 : Int64)) t ((1 : Int32)) ((9223372036854775807 : Int64)))), .unset] [(.long (t - (1 : Int64))), (.int (2 : Int32)), (.ref b47), (.ref b47), (.ref b37)])) rfl (by rw [hml]; rfl) (Steps.refl _) (a := b47) (argsL := [(.int (2 : Int32)), (.long (t - (1 : Int64)))]) (rest := [(.ref b47), (.ref b37)]) (lenOf pd_4 rfl) rfl (by show 2 * 0 + _ ≤ _; exact Nat.le_of_eq rfl) (hb hby at_214) (fun _ _ => ⟨rfl, e47, (by decide : 7 + 0 ≤ _), (by decide : 53 + 0 ≤ _)⟩)
      dsimp only [Pt.U, Pt.locs, Pt.cells, Pt.slots] at X48 l48 y48 z48 st48 hQ48
      subst l48 y48 z48
      refine own_go (fun _ k => st48.trans k) ?_
      obtain ⟨rfl, N48q, Kq48, Eq48, F48_entries, F48_bytes⟩ := hQ48
      replace B_b34 := B_b34.keep Kq48 (ninS ne_b34_b47 nin0)
      replace B_b35 := B_b35.keep Kq48 (ninS ne_b35_b47 nin0)
      replace B_b36 := B_b36.keep Kq48 (ninS ne_b36_b47 nin0)
      replace A37 := A37.keep Kq48
      replace F40_entries := F40_entries.keep Kq48 (ninS ne_b37_b47 nin0)
      replace F40_bytes := F40_bytes.keep Kq48 (ninS ne_b37_b47 nin0)
      replace A41 := A41.keep Kq48
      replace F42_entries := F42_entries.keep Kq48 (ninS ne_b41_b47 nin0)
      replace F42_bytes := F42_bytes.keep Kq48 (ninS ne_b41_b47 nin0)
      replace A44 := A44.keep Kq48
      replace F45_entries := F45_entries.keep Kq48 (ninS ne_b44_b47 nin0)
      replace F45_bytes := F45_bytes.keep Kq48 (ninS ne_b44_b47 nin0)
      replace A47 := A47.keep Kq48
      have K48 := K47.trans Kq48 (allS (Or.inr sz_b47) all0)
      have Z48 : n0 ≤ T48.heap.size := Nat.le_trans Z0 K48.1
      clear Eq48
      have N48 := Fr.app N46 N48q
      show own_Ends p e below T48 (mkF m 217 #[.val (.int p0), .val (.int p1), .val (.int p2), .val (.int p3), .val (.int p4), .val (.int ka), .val (.int va), .val (.int kb), .val (.int vb), .val (.int (1 : Int32)), .val (.int (0 : Int32)), .val (.ref b34), .val (.ref b35), .val .null, .val (.ref b36), .val (.long (ka.toInt64)), .second, .val (.long ((kb.toInt64) + (vb.toInt64))), .second, .val (.long t), .second, .val (.ref b37), .val (.int (own_within ((2 : Int64)) t ((2 : Int32)) t)), .val (.int (own_within ((2 : Int64)) t ((1 : Int32)) ((9223372036854775807 : Int64)))), .unset] [(.ref b47), (.ref b37)]) _
      obtain ⟨cq49, kq49, q49a, q49b, q49c⟩ := isOf hZ rfl A37
      obtain ⟨_, _, ⟨T49, L49, k49, n49⟩, -, X49, ⟨Lc49, hQ49, l49, y49, z49⟩, st49⟩ := X48.virtualBack hx (y := (⟨"com/example/wedge/wedge/Batch$Size", "within", "(Lcom/example/wedge/wedge/Batch$Limit;)Z"⟩ : MethodName)) (z := (⟨"com/example/wedge/wedge/Batch$Size", "within", "(Lcom/example/wedge/wedge/Batch$Limit;)Z"⟩ : MethodName)) hown (mvT hZ (hw _ (List.mem_of_getElem? (i := 35) rfl))) (mvT hZ (hw _ (List.mem_of_getElem? (i := 36) rfl))) (notFace_of_selects (args := #[]) (mvT hZ (hw _ (List.mem_of_getElem? (i := 38) rfl)))) (mvT hZ (hw _ (List.mem_of_getElem? (i := 38) rfl))) (mvT hZ (hw _ (List.mem_of_getElem? (i := 37) rfl))) (by decide) (backOf (W := 0) (rmWithin l Z a0 hw [] b37 b47 ((2 : Int64)) t ((2 : Int32)) ((t - (1 : Int64))) (T48.heap) n0 Z48 F40_entries F40_bytes A47 F48_entries F48_bytes) hZ (hw _ (List.mem_of_getElem? (i := 39) rfl)) (hw _ (List.mem_of_getElem? (i := 3) rfl)) (by decide) (by decide)) q49a q49c (g := (mkF m 217 #[.val (.int p0), .val (.int p1), .val (.int p2), .val (.int p3), .val (.int p4), .val (.int ka), .val (.int va), .val (.int kb), .val (.int vb), .val (.int (1 : Int32)), .val (.int (0 : Int32)), .val (.ref b34), .val (.ref b35), .val .null, .val (.ref b36), .val (.long (ka.toInt64)), .second, .val (.long ((kb.toInt64) + (vb.toInt64))), .second, .val (.long t), .second, .val (.ref b37), .val (.int (own_within ((2 : Int64)) t ((2 : Int32)) t)), .val (.int (own_within ((2 : Int64)) t ((1 : Int32)) ((9223372036854775807 : Int64)))), .unset] [(.ref b47), (.ref b37)])) rfl (by rw [hml]; rfl) (Steps.refl _) (argsL := [(.ref b47)]) (rest := []) (lenOf pd_5 rfl) rfl (by show 2 * 0 + _ ≤ _; exact Nat.le_of_eq rfl) (hb hby at_217) (fun _ _ => ⟨rfl, rfl, (by decide : 7 + 0 ≤ _), (by decide : 53 + 0 ≤ _)⟩)
      dsimp only [Pt.U, Pt.locs, Pt.cells, Pt.slots] at X49 l49 y49 z49 st49 hQ49
      subst l49 y49 z49
      refine own_go (fun _ k => st49.trans k) ?_
      obtain ⟨rfl, N49q, eh49⟩ := hQ49
      have N49 := Fr.app N48 N49q
      show own_Ends p e below T49 (mkF m 220 #[.val (.int p0), .val (.int p1), .val (.int p2), .val (.int p3), .val (.int p4), .val (.int ka), .val (.int va), .val (.int kb), .val (.int vb), .val (.int (1 : Int32)), .val (.int (0 : Int32)), .val (.ref b34), .val (.ref b35), .val .null, .val (.ref b36), .val (.long (ka.toInt64)), .second, .val (.long ((kb.toInt64) + (vb.toInt64))), .second, .val (.long t), .second, .val (.ref b37), .val (.int (own_within ((2 : Int64)) t ((2 : Int32)) t)), .val (.int (own_within ((2 : Int64)) t ((1 : Int32)) ((9223372036854775807 : Int64)))), .unset] [(.int (own_within ((2 : Int64)) t ((2 : Int32)) ((t - (1 : Int64)))))]) _
      refine own_go (fun _ => XS.istore X49.here hx rfl (hb hby at_220) rfl (l' := #[.val (.int p0), .val (.int p1), .val (.int p2), .val (.int p3), .val (.int p4), .val (.int ka), .val (.int va), .val (.int kb), .val (.int vb), .val (.int (1 : Int32)), .val (.int (0 : Int32)), .val (.ref b34), .val (.ref b35), .val .null, .val (.ref b36), .val (.long (ka.toInt64)), .second, .val (.long ((kb.toInt64) + (vb.toInt64))), .second, .val (.long t), .second, .val (.ref b37), .val (.int (own_within ((2 : Int64)) t ((2 : Int32)) t)), .val (.int (own_within ((2 : Int64)) t ((1 : Int32)) ((9223372036854775807 : Int64)))), .val (.int (own_within ((2 : Int64)) t ((2 : Int32)) ((t - (1 : Int64)))))]) rfl) ?_
      show own_Ends p e below T49 (mkF m 222 #[.val (.int p0), .val (.int p1), .val (.int p2), .val (.int p3), .val (.int p4), .val (.int ka), .val (.int va), .val (.int kb), .val (.int vb), .val (.int (1 : Int32)), .val (.int (0 : Int32)), .val (.ref b34), .val (.ref b35), .val .null, .val (.ref b36), .val (.long (ka.toInt64)), .second, .val (.long ((kb.toInt64) + (vb.toInt64))), .second, .val (.long t), .second, .val (.ref b37), .val (.int (own_within ((2 : Int64)) t ((2 : Int32)) t)), .val (.int (own_within ((2 : Int64)) t ((1 : Int32)) ((9223372036854775807 : Int64)))), .val (.int (own_within ((2 : Int64)) t ((2 : Int32)) ((t - (1 : Int64)))))] []) _
      refine own_go (fun _ => XS.iload X49.here hx rfl (hb hby at_222) rfl) ?_
      show own_Ends p e below T49 (mkF m 224 #[.val (.int p0), .val (.int p1), .val (.int p2), .val (.int p3), .val (.int p4), .val (.int ka), .val (.int va), .val (.int kb), .val (.int vb), .val (.int (1 : Int32)), .val (.int (0 : Int32)), .val (.ref b34), .val (.ref b35), .val .null, .val (.ref b36), .val (.long (ka.toInt64)), .second, .val (.long ((kb.toInt64) + (vb.toInt64))), .second, .val (.long t), .second, .val (.ref b37), .val (.int (own_within ((2 : Int64)) t ((2 : Int32)) t)), .val (.int (own_within ((2 : Int64)) t ((1 : Int32)) ((9223372036854775807 : Int64)))), .val (.int (own_within ((2 : Int64)) t ((2 : Int32)) ((t - (1 : Int64)))))] [(.int (own_within ((2 : Int64)) t ((2 : Int32)) t))]) _
      refine own_go (fun _ => XS.ifNo X49.here hx rfl (hb hby at_224) rfl ((if0 _ _).trans (feq (show ¬ ((own_within ((2 : Int64)) t ((2 : Int32)) t) = (0 : Int32)) from own_w1 _)).1)) ?_
      show own_Ends p e below T49 (mkF m 227 #[.val (.int p0), .val (.int p1), .val (.int p2), .val (.int p3), .val (.int p4), .val (.int ka), .val (.int va), .val (.int kb), .val (.int vb), .val (.int (1 : Int32)), .val (.int (0 : Int32)), .val (.ref b34), .val (.ref b35), .val .null, .val (.ref b36), .val (.long (ka.toInt64)), .second, .val (.long ((kb.toInt64) + (vb.toInt64))), .second, .val (.long t), .second, .val (.ref b37), .val (.int (own_within ((2 : Int64)) t ((2 : Int32)) t)), .val (.int (own_within ((2 : Int64)) t ((1 : Int32)) ((9223372036854775807 : Int64)))), .val (.int (own_within ((2 : Int64)) t ((2 : Int32)) ((t - (1 : Int64)))))] []) _
      refine own_go (fun _ => XS.iload X49.here hx rfl (hb hby at_227) rfl) ?_
      show own_Ends p e below T49 (mkF m 229 #[.val (.int p0), .val (.int p1), .val (.int p2), .val (.int p3), .val (.int p4), .val (.int ka), .val (.int va), .val (.int kb), .val (.int vb), .val (.int (1 : Int32)), .val (.int (0 : Int32)), .val (.ref b34), .val (.ref b35), .val .null, .val (.ref b36), .val (.long (ka.toInt64)), .second, .val (.long ((kb.toInt64) + (vb.toInt64))), .second, .val (.long t), .second, .val (.ref b37), .val (.int (own_within ((2 : Int64)) t ((2 : Int32)) t)), .val (.int (own_within ((2 : Int64)) t ((1 : Int32)) ((9223372036854775807 : Int64)))), .val (.int (own_within ((2 : Int64)) t ((2 : Int32)) ((t - (1 : Int64)))))] [(.int (own_within ((2 : Int64)) t ((1 : Int32)) ((9223372036854775807 : Int64))))]) _
      refine own_go (fun _ => XS.ifNo X49.here hx rfl (hb hby at_229) rfl ((if0 _ _).trans (teq (show (own_within ((2 : Int64)) t ((1 : Int32)) ((9223372036854775807 : Int64))) = (0 : Int32) from own_w2 _)).2)) ?_
      show own_Ends p e below T49 (mkF m 232 #[.val (.int p0), .val (.int p1), .val (.int p2), .val (.int p3), .val (.int p4), .val (.int ka), .val (.int va), .val (.int kb), .val (.int vb), .val (.int (1 : Int32)), .val (.int (0 : Int32)), .val (.ref b34), .val (.ref b35), .val .null, .val (.ref b36), .val (.long (ka.toInt64)), .second, .val (.long ((kb.toInt64) + (vb.toInt64))), .second, .val (.long t), .second, .val (.ref b37), .val (.int (own_within ((2 : Int64)) t ((2 : Int32)) t)), .val (.int (own_within ((2 : Int64)) t ((1 : Int32)) ((9223372036854775807 : Int64)))), .val (.int (own_within ((2 : Int64)) t ((2 : Int32)) ((t - (1 : Int64)))))] []) _
      refine own_go (fun _ => XS.iload X49.here hx rfl (hb hby at_232) rfl) ?_
      show own_Ends p e below T49 (mkF m 234 #[.val (.int p0), .val (.int p1), .val (.int p2), .val (.int p3), .val (.int p4), .val (.int ka), .val (.int va), .val (.int kb), .val (.int vb), .val (.int (1 : Int32)), .val (.int (0 : Int32)), .val (.ref b34), .val (.ref b35), .val .null, .val (.ref b36), .val (.long (ka.toInt64)), .second, .val (.long ((kb.toInt64) + (vb.toInt64))), .second, .val (.long t), .second, .val (.ref b37), .val (.int (own_within ((2 : Int64)) t ((2 : Int32)) t)), .val (.int (own_within ((2 : Int64)) t ((1 : Int32)) ((9223372036854775807 : Int64)))), .val (.int (own_within ((2 : Int64)) t ((2 : Int32)) ((t - (1 : Int64)))))] [(.int (own_within ((2 : Int64)) t ((2 : Int32)) ((t - (1 : Int64)))))]) _
      refine own_go (fun _ => XS.ifNo X49.here hx rfl (hb hby at_234) rfl ((if0 _ _).trans (teq (show (own_within ((2 : Int64)) t ((2 : Int32)) ((t - (1 : Int64)))) = (0 : Int32) from own_w3 ht)).2)) ?_
      show own_Ends p e below T49 (mkF m 237 #[.val (.int p0), .val (.int p1), .val (.int p2), .val (.int p3), .val (.int p4), .val (.int ka), .val (.int va), .val (.int kb), .val (.int vb), .val (.int (1 : Int32)), .val (.int (0 : Int32)), .val (.ref b34), .val (.ref b35), .val .null, .val (.ref b36), .val (.long (ka.toInt64)), .second, .val (.long ((kb.toInt64) + (vb.toInt64))), .second, .val (.long t), .second, .val (.ref b37), .val (.int (own_within ((2 : Int64)) t ((2 : Int32)) t)), .val (.int (own_within ((2 : Int64)) t ((1 : Int32)) ((9223372036854775807 : Int64)))), .val (.int (own_within ((2 : Int64)) t ((2 : Int32)) ((t - (1 : Int64)))))] []) _
      refine own_go (fun _ => XS.iconst X49.here hx rfl (hb hby at_237)) ?_
      show own_Ends p e below T49 (mkF m 238 #[.val (.int p0), .val (.int p1), .val (.int p2), .val (.int p3), .val (.int p4), .val (.int ka), .val (.int va), .val (.int kb), .val (.int vb), .val (.int (1 : Int32)), .val (.int (0 : Int32)), .val (.ref b34), .val (.ref b35), .val .null, .val (.ref b36), .val (.long (ka.toInt64)), .second, .val (.long ((kb.toInt64) + (vb.toInt64))), .second, .val (.long t), .second, .val (.ref b37), .val (.int (own_within ((2 : Int64)) t ((2 : Int32)) t)), .val (.int (own_within ((2 : Int64)) t ((1 : Int32)) ((9223372036854775807 : Int64)))), .val (.int (own_within ((2 : Int64)) t ((2 : Int32)) ((t - (1 : Int64)))))] [(.int (1 : Int32))]) _
      refine own_go (fun _ => XS.goto X49.here hx rfl (pc0 := 238) (pc' := 242) rfl (hb hby at_238) (by decide) (by decide)) ?_
      show own_Ends p e below T49 (mkF m 242 #[.val (.int p0), .val (.int p1), .val (.int p2), .val (.int p3), .val (.int p4), .val (.int ka), .val (.int va), .val (.int kb), .val (.int vb), .val (.int (1 : Int32)), .val (.int (0 : Int32)), .val (.ref b34), .val (.ref b35), .val .null, .val (.ref b36), .val (.long (ka.toInt64)), .second, .val (.long ((kb.toInt64) + (vb.toInt64))), .second, .val (.long t), .second, .val (.ref b37), .val (.int (own_within ((2 : Int64)) t ((2 : Int32)) t)), .val (.int (own_within ((2 : Int64)) t ((1 : Int32)) ((9223372036854775807 : Int64)))), .val (.int (own_within ((2 : Int64)) t ((2 : Int32)) ((t - (1 : Int64)))))] [(.int (1 : Int32))]) _
      obtain ⟨fs, hr, hrun, hended, hW, hsame⟩ := X49.leave (v := some (.int (1 : Int32))) (fun h => by rw [Bd.returns] at h; cases h)
      refine ⟨_, _, retN X49 hx (t := .boolean) Bd.returns (by simp) (hb hby at_242) hr, hrun, hended, _, _, rfl, ?_, ⟨_, rfl⟩, hW, hsame.mono (by decide) (by decide)⟩
      show Q_rm0 Z p0 p1 p2 p3 p4 h0 n0 _ T49.heap _
      rw [eh49]
      exact ⟨rfl, N49⟩
    · refine own_go (fun _ => XS.ifNo X0.here hx rfl (hb hby at_42) rfl ((if0 _ _).trans (feq hc42).1)) ?_
      show own_Ends p e below s₁ (mkF m 45 #[.val (.int p0), .val (.int p1), .val (.int p2), .val (.int p3), .val (.int p4), .val (.int ka), .val (.int va), .val (.int kb), .val (.int vb), .val (.int (1 : Int32)), .unset, .unset, .unset, .unset, .unset, .unset, .unset, .unset, .unset, .unset, .unset, .unset, .unset, .unset, .unset] []) _
      refine own_go (fun _ => XS.iconst X0.here hx rfl (hb hby at_45)) ?_
      show own_Ends p e below s₁ (mkF m 46 #[.val (.int p0), .val (.int p1), .val (.int p2), .val (.int p3), .val (.int p4), .val (.int ka), .val (.int va), .val (.int kb), .val (.int vb), .val (.int (1 : Int32)), .unset, .unset, .unset, .unset, .unset, .unset, .unset, .unset, .unset, .unset, .unset, .unset, .unset, .unset, .unset] [(.int (1 : Int32))]) _
      refine own_go (fun _ => XS.goto X0.here hx rfl (pc0 := 46) (pc' := 50) rfl (hb hby at_46) (by decide) (by decide)) ?_
      show own_Ends p e below s₁ (mkF m 50 #[.val (.int p0), .val (.int p1), .val (.int p2), .val (.int p3), .val (.int p4), .val (.int ka), .val (.int va), .val (.int kb), .val (.int vb), .val (.int (1 : Int32)), .unset, .unset, .unset, .unset, .unset, .unset, .unset, .unset, .unset, .unset, .unset, .unset, .unset, .unset, .unset] [(.int (1 : Int32))]) _
      refine own_go (fun _ => XS.istore X0.here hx rfl (hb hby at_50) rfl (l' := #[.val (.int p0), .val (.int p1), .val (.int p2), .val (.int p3), .val (.int p4), .val (.int ka), .val (.int va), .val (.int kb), .val (.int vb), .val (.int (1 : Int32)), .val (.int (1 : Int32)), .unset, .unset, .unset, .unset, .unset, .unset, .unset, .unset, .unset, .unset, .unset, .unset, .unset, .unset]) rfl) ?_
      show own_Ends p e below s₁ (mkF m 52 #[.val (.int p0), .val (.int p1), .val (.int p2), .val (.int p3), .val (.int p4), .val (.int ka), .val (.int va), .val (.int kb), .val (.int vb), .val (.int (1 : Int32)), .val (.int (1 : Int32)), .unset, .unset, .unset, .unset, .unset, .unset, .unset, .unset, .unset, .unset, .unset, .unset, .unset, .unset] []) _
      refine own_go (fun _ => XS.iload X0.here hx rfl (hb hby at_52) rfl) ?_
      show own_Ends p e below s₁ (mkF m 54 #[.val (.int p0), .val (.int p1), .val (.int p2), .val (.int p3), .val (.int p4), .val (.int ka), .val (.int va), .val (.int kb), .val (.int vb), .val (.int (1 : Int32)), .val (.int (1 : Int32)), .unset, .unset, .unset, .unset, .unset, .unset, .unset, .unset, .unset, .unset, .unset, .unset, .unset, .unset] [(.int ka)]) _
      obtain ⟨T50, h50, k50, X50, e50, E50, A50, st50⟩ := newP X0 hx hZ (hw _ (List.mem_of_getElem? (i := 0) rfl)) e0 (g := (mkF m 54 #[.val (.int p0), .val (.int p1), .val (.int p2), .val (.int p3), .val (.int p4), .val (.int ka), .val (.int va), .val (.int kb), .val (.int vb), .val (.int (1 : Int32)), .val (.int (1 : Int32)), .unset, .unset, .unset, .unset, .unset, .unset, .unset, .unset, .unset, .unset, .unset, .unset, .unset, .unset] [(.int ka)])) rfl (hb hby at_54) rfl (own_neg hka) (cap := 15) (own_cap hka) (by decide) (by decide) (by decide)
      obtain ⟨b50, g50⟩ : ∃ z, z = h0.size := ⟨_, rfl⟩
      rw [← g50] at A50 st50
      refine own_go st50 ?_
      have g_b50 : n0 ≤ b50 := Nat.le_trans Z0 (Nat.le_of_eq g50.symm)
      have sz_b50 : h0.size ≤ b50 := Nat.le_trans K0.1 (Nat.le_of_eq g50.symm)
      have K50 := K0.ext E50
      have Z50 : n0 ≤ h50.size := Nat.le_trans Z0 K50.1
      have B_b50 : own_Len Z h50 b50 .byte ka := ⟨_, A50, sz_new _ _ _, (own_neg hka)⟩
      show own_Ends p e below T50 (mkF m 56 #[.val (.int p0), .val (.int p1), .val (.int p2), .val (.int p3), .val (.int p4), .val (.int ka), .val (.int va), .val (.int kb), .val (.int vb), .val (.int (1 : Int32)), .val (.int (1 : Int32)), .unset, .unset, .unset, .unset, .unset, .unset, .unset, .unset, .unset, .unset, .unset, .unset, .unset, .unset] [(.ref b50)]) _
      refine own_go (fun _ => XS.astore X50.here hx rfl (hb hby at_56) rfl rfl (l' := #[.val (.int p0), .val (.int p1), .val (.int p2), .val (.int p3), .val (.int p4), .val (.int ka), .val (.int va), .val (.int kb), .val (.int vb), .val (.int (1 : Int32)), .val (.int (1 : Int32)), .val (.ref b50), .unset, .unset, .unset, .unset, .unset, .unset, .unset, .unset, .unset, .unset, .unset, .unset, .unset]) rfl) ?_
      show own_Ends p e below T50 (mkF m 58 #[.val (.int p0), .val (.int p1), .val (.int p2), .val (.int p3), .val (.int p4), .val (.int ka), .val (.int va), .val (.int kb), .val (.int vb), .val (.int (1 : Int32)), .val (.int (1 : Int32)), .val (.ref b50), .unset, .unset, .unset, .unset, .unset, .unset, .unset, .unset, .unset, .unset, .unset, .unset, .unset] []) _
      refine own_go (fun _ => XS.iload X50.here hx rfl (hb hby at_58) rfl) ?_
      show own_Ends p e below T50 (mkF m 60 #[.val (.int p0), .val (.int p1), .val (.int p2), .val (.int p3), .val (.int p4), .val (.int ka), .val (.int va), .val (.int kb), .val (.int vb), .val (.int (1 : Int32)), .val (.int (1 : Int32)), .val (.ref b50), .unset, .unset, .unset, .unset, .unset, .unset, .unset, .unset, .unset, .unset, .unset, .unset, .unset] [(.int kb)]) _
      obtain ⟨T51, h51, k51, X51, e51, E51, A51, st51⟩ := newP X50 hx hZ (hw _ (List.mem_of_getElem? (i := 0) rfl)) e50 (g := (mkF m 60 #[.val (.int p0), .val (.int p1), .val (.int p2), .val (.int p3), .val (.int p4), .val (.int ka), .val (.int va), .val (.int kb), .val (.int vb), .val (.int (1 : Int32)), .val (.int (1 : Int32)), .val (.ref b50), .unset, .unset, .unset, .unset, .unset, .unset, .unset, .unset, .unset, .unset, .unset, .unset, .unset] [(.int kb)])) rfl (hb hby at_60) rfl (own_neg hkb) (cap := 15) (own_cap hkb) (by decide) (by decide) (by decide)
      obtain ⟨b51, g51⟩ : ∃ z, z = h50.size := ⟨_, rfl⟩
      rw [← g51] at A51 st51
      refine own_go st51 ?_
      have g_b51 : n0 ≤ b51 := Nat.le_trans Z50 (Nat.le_of_eq g51.symm)
      have sz_b51 : h0.size ≤ b51 := Nat.le_trans K50.1 (Nat.le_of_eq g51.symm)
      have ne_b50_b51 : b50 ≠ b51 := Nat.ne_of_lt (Nat.lt_of_lt_of_le B_b50.lt (Nat.le_of_eq g51.symm))
      replace B_b50 := B_b50.ext E51
      have K51 := K50.ext E51
      have Z51 : n0 ≤ h51.size := Nat.le_trans Z0 K51.1
      have B_b51 : own_Len Z h51 b51 .byte kb := ⟨_, A51, sz_new _ _ _, (own_neg hkb)⟩
      show own_Ends p e below T51 (mkF m 62 #[.val (.int p0), .val (.int p1), .val (.int p2), .val (.int p3), .val (.int p4), .val (.int ka), .val (.int va), .val (.int kb), .val (.int vb), .val (.int (1 : Int32)), .val (.int (1 : Int32)), .val (.ref b50), .unset, .unset, .unset, .unset, .unset, .unset, .unset, .unset, .unset, .unset, .unset, .unset, .unset] [(.ref b51)]) _
      refine own_go (fun _ => XS.astore X51.here hx rfl (hb hby at_62) rfl rfl (l' := #[.val (.int p0), .val (.int p1), .val (.int p2), .val (.int p3), .val (.int p4), .val (.int ka), .val (.int va), .val (.int kb), .val (.int vb), .val (.int (1 : Int32)), .val (.int (1 : Int32)), .val (.ref b50), .val (.ref b51), .unset, .unset, .unset, .unset, .unset, .unset, .unset, .unset, .unset, .unset, .unset, .unset]) rfl) ?_
      show own_Ends p e below T51 (mkF m 64 #[.val (.int p0), .val (.int p1), .val (.int p2), .val (.int p3), .val (.int p4), .val (.int ka), .val (.int va), .val (.int kb), .val (.int vb), .val (.int (1 : Int32)), .val (.int (1 : Int32)), .val (.ref b50), .val (.ref b51), .unset, .unset, .unset, .unset, .unset, .unset, .unset, .unset, .unset, .unset, .unset, .unset] []) _
      refine own_go (fun _ => XS.iload X51.here hx rfl (hb hby at_64) rfl) ?_
      show own_Ends p e below T51 (mkF m 66 #[.val (.int p0), .val (.int p1), .val (.int p2), .val (.int p3), .val (.int p4), .val (.int ka), .val (.int va), .val (.int kb), .val (.int vb), .val (.int (1 : Int32)), .val (.int (1 : Int32)), .val (.ref b50), .val (.ref b51), .unset, .unset, .unset, .unset, .unset, .unset, .unset, .unset, .unset, .unset, .unset, .unset] [(.int (1 : Int32))]) _
      refine own_go (fun _ => XS.ifNo X51.here hx rfl (hb hby at_66) rfl ((if0 _ _).trans (feq (show ¬ ((1 : Int32) = (0 : Int32)) from by decide)).1)) ?_
      show own_Ends p e below T51 (mkF m 69 #[.val (.int p0), .val (.int p1), .val (.int p2), .val (.int p3), .val (.int p4), .val (.int ka), .val (.int va), .val (.int kb), .val (.int vb), .val (.int (1 : Int32)), .val (.int (1 : Int32)), .val (.ref b50), .val (.ref b51), .unset, .unset, .unset, .unset, .unset, .unset, .unset, .unset, .unset, .unset, .unset, .unset] []) _
      refine own_go (fun _ => XS.aconstNull X51.here hx rfl (hb hby at_69)) ?_
      show own_Ends p e below T51 (mkF m 70 #[.val (.int p0), .val (.int p1), .val (.int p2), .val (.int p3), .val (.int p4), .val (.int ka), .val (.int va), .val (.int kb), .val (.int vb), .val (.int (1 : Int32)), .val (.int (1 : Int32)), .val (.ref b50), .val (.ref b51), .unset, .unset, .unset, .unset, .unset, .unset, .unset, .unset, .unset, .unset, .unset, .unset] [.null]) _
      refine own_go (fun _ => XS.goto X51.here hx rfl (pc0 := 70) (pc' := 77) rfl (hb hby at_70) (by decide) (by decide)) ?_
      show own_Ends p e below T51 (mkF m 77 #[.val (.int p0), .val (.int p1), .val (.int p2), .val (.int p3), .val (.int p4), .val (.int ka), .val (.int va), .val (.int kb), .val (.int vb), .val (.int (1 : Int32)), .val (.int (1 : Int32)), .val (.ref b50), .val (.ref b51), .unset, .unset, .unset, .unset, .unset, .unset, .unset, .unset, .unset, .unset, .unset, .unset] [.null]) _
      refine own_go (fun _ => XS.astore X51.here hx rfl (hb hby at_77) rfl rfl (l' := #[.val (.int p0), .val (.int p1), .val (.int p2), .val (.int p3), .val (.int p4), .val (.int ka), .val (.int va), .val (.int kb), .val (.int vb), .val (.int (1 : Int32)), .val (.int (1 : Int32)), .val (.ref b50), .val (.ref b51), .val .null, .unset, .unset, .unset, .unset, .unset, .unset, .unset, .unset, .unset, .unset, .unset]) rfl) ?_
      show own_Ends p e below T51 (mkF m 79 #[.val (.int p0), .val (.int p1), .val (.int p2), .val (.int p3), .val (.int p4), .val (.int ka), .val (.int va), .val (.int kb), .val (.int vb), .val (.int (1 : Int32)), .val (.int (1 : Int32)), .val (.ref b50), .val (.ref b51), .val .null, .unset, .unset, .unset, .unset, .unset, .unset, .unset, .unset, .unset, .unset, .unset] []) _
      refine own_go (fun _ => XS.iload X51.here hx rfl (hb hby at_79) rfl) ?_
      show own_Ends p e below T51 (mkF m 81 #[.val (.int p0), .val (.int p1), .val (.int p2), .val (.int p3), .val (.int p4), .val (.int ka), .val (.int va), .val (.int kb), .val (.int vb), .val (.int (1 : Int32)), .val (.int (1 : Int32)), .val (.ref b50), .val (.ref b51), .val .null, .unset, .unset, .unset, .unset, .unset, .unset, .unset, .unset, .unset, .unset, .unset] [(.int (1 : Int32))]) _
      refine own_go (fun _ => XS.ifNo X51.here hx rfl (hb hby at_81) rfl ((if0 _ _).trans (feq (show ¬ ((1 : Int32) = (0 : Int32)) from by decide)).1)) ?_
      show own_Ends p e below T51 (mkF m 84 #[.val (.int p0), .val (.int p1), .val (.int p2), .val (.int p3), .val (.int p4), .val (.int ka), .val (.int va), .val (.int kb), .val (.int vb), .val (.int (1 : Int32)), .val (.int (1 : Int32)), .val (.ref b50), .val (.ref b51), .val .null, .unset, .unset, .unset, .unset, .unset, .unset, .unset, .unset, .unset, .unset, .unset] []) _
      refine own_go (fun _ => XS.aconstNull X51.here hx rfl (hb hby at_84)) ?_
      show own_Ends p e below T51 (mkF m 85 #[.val (.int p0), .val (.int p1), .val (.int p2), .val (.int p3), .val (.int p4), .val (.int ka), .val (.int va), .val (.int kb), .val (.int vb), .val (.int (1 : Int32)), .val (.int (1 : Int32)), .val (.ref b50), .val (.ref b51), .val .null, .unset, .unset, .unset, .unset, .unset, .unset, .unset, .unset, .unset, .unset, .unset] [.null]) _
      refine own_go (fun _ => XS.goto X51.here hx rfl (pc0 := 85) (pc' := 92) rfl (hb hby at_85) (by decide) (by decide)) ?_
      show own_Ends p e below T51 (mkF m 92 #[.val (.int p0), .val (.int p1), .val (.int p2), .val (.int p3), .val (.int p4), .val (.int ka), .val (.int va), .val (.int kb), .val (.int vb), .val (.int (1 : Int32)), .val (.int (1 : Int32)), .val (.ref b50), .val (.ref b51), .val .null, .unset, .unset, .unset, .unset, .unset, .unset, .unset, .unset, .unset, .unset, .unset] [.null]) _
      refine own_go (fun _ => XS.astore X51.here hx rfl (hb hby at_92) rfl rfl (l' := #[.val (.int p0), .val (.int p1), .val (.int p2), .val (.int p3), .val (.int p4), .val (.int ka), .val (.int va), .val (.int kb), .val (.int vb), .val (.int (1 : Int32)), .val (.int (1 : Int32)), .val (.ref b50), .val (.ref b51), .val .null, .val .null, .unset, .unset, .unset, .unset, .unset, .unset, .unset, .unset, .unset, .unset]) rfl) ?_
      show own_Ends p e below T51 (mkF m 94 #[.val (.int p0), .val (.int p1), .val (.int p2), .val (.int p3), .val (.int p4), .val (.int ka), .val (.int va), .val (.int kb), .val (.int vb), .val (.int (1 : Int32)), .val (.int (1 : Int32)), .val (.ref b50), .val (.ref b51), .val .null, .val .null, .unset, .unset, .unset, .unset, .unset, .unset, .unset, .unset, .unset, .unset] []) _
      refine own_go (fun _ => XS.iload X51.here hx rfl (hb hby at_94) rfl) ?_
      show own_Ends p e below T51 (mkF m 96 #[.val (.int p0), .val (.int p1), .val (.int p2), .val (.int p3), .val (.int p4), .val (.int ka), .val (.int va), .val (.int kb), .val (.int vb), .val (.int (1 : Int32)), .val (.int (1 : Int32)), .val (.ref b50), .val (.ref b51), .val .null, .val .null, .unset, .unset, .unset, .unset, .unset, .unset, .unset, .unset, .unset, .unset] [(.int (1 : Int32))]) _
      refine own_go (fun _ => XS.ifNo X51.here hx rfl (hb hby at_96) rfl ((if0 _ _).trans (feq (show ¬ ((1 : Int32) = (0 : Int32)) from by decide)).1)) ?_
      show own_Ends p e below T51 (mkF m 99 #[.val (.int p0), .val (.int p1), .val (.int p2), .val (.int p3), .val (.int p4), .val (.int ka), .val (.int va), .val (.int kb), .val (.int vb), .val (.int (1 : Int32)), .val (.int (1 : Int32)), .val (.ref b50), .val (.ref b51), .val .null, .val .null, .unset, .unset, .unset, .unset, .unset, .unset, .unset, .unset, .unset, .unset] []) _
      refine own_go (fun _ => XS.iload X51.here hx rfl (hb hby at_99) rfl) ?_
      show own_Ends p e below T51 (mkF m 101 #[.val (.int p0), .val (.int p1), .val (.int p2), .val (.int p3), .val (.int p4), .val (.int ka), .val (.int va), .val (.int kb), .val (.int vb), .val (.int (1 : Int32)), .val (.int (1 : Int32)), .val (.ref b50), .val (.ref b51), .val .null, .val .null, .unset, .unset, .unset, .unset, .unset, .unset, .unset, .unset, .unset, .unset] [(.int ka)]) _
      refine own_go (fun _ => XS.i2l X51.here hx rfl (hb hby at_101) rfl) ?_
      show own_Ends p e below T51 (mkF m 102 #[.val (.int p0), .val (.int p1), .val (.int p2), .val (.int p3), .val (.int p4), .val (.int ka), .val (.int va), .val (.int kb), .val (.int vb), .val (.int (1 : Int32)), .val (.int (1 : Int32)), .val (.ref b50), .val (.ref b51), .val .null, .val .null, .unset, .unset, .unset, .unset, .unset, .unset, .unset, .unset, .unset, .unset] [(.long (ka.toInt64))]) _
      refine own_go (fun _ => XS.goto X51.here hx rfl (pc0 := 102) (pc' := 112) rfl (hb hby at_102) (by decide) (by decide)) ?_
      show own_Ends p e below T51 (mkF m 112 #[.val (.int p0), .val (.int p1), .val (.int p2), .val (.int p3), .val (.int p4), .val (.int ka), .val (.int va), .val (.int kb), .val (.int vb), .val (.int (1 : Int32)), .val (.int (1 : Int32)), .val (.ref b50), .val (.ref b51), .val .null, .val .null, .unset, .unset, .unset, .unset, .unset, .unset, .unset, .unset, .unset, .unset] [(.long (ka.toInt64))]) _
      refine own_go (fun _ => XS.lstore X51.here hx rfl (hb hby at_112) rfl (l' := #[.val (.int p0), .val (.int p1), .val (.int p2), .val (.int p3), .val (.int p4), .val (.int ka), .val (.int va), .val (.int kb), .val (.int vb), .val (.int (1 : Int32)), .val (.int (1 : Int32)), .val (.ref b50), .val (.ref b51), .val .null, .val .null, .val (.long (ka.toInt64)), .second, .unset, .unset, .unset, .unset, .unset, .unset, .unset, .unset]) rfl) ?_
      show own_Ends p e below T51 (mkF m 114 #[.val (.int p0), .val (.int p1), .val (.int p2), .val (.int p3), .val (.int p4), .val (.int ka), .val (.int va), .val (.int kb), .val (.int vb), .val (.int (1 : Int32)), .val (.int (1 : Int32)), .val (.ref b50), .val (.ref b51), .val .null, .val .null, .val (.long (ka.toInt64)), .second, .unset, .unset, .unset, .unset, .unset, .unset, .unset, .unset] []) _
      refine own_go (fun _ => XS.iload X51.here hx rfl (hb hby at_114) rfl) ?_
      show own_Ends p e below T51 (mkF m 116 #[.val (.int p0), .val (.int p1), .val (.int p2), .val (.int p3), .val (.int p4), .val (.int ka), .val (.int va), .val (.int kb), .val (.int vb), .val (.int (1 : Int32)), .val (.int (1 : Int32)), .val (.ref b50), .val (.ref b51), .val .null, .val .null, .val (.long (ka.toInt64)), .second, .unset, .unset, .unset, .unset, .unset, .unset, .unset, .unset] [(.int (1 : Int32))]) _
      refine own_go (fun _ => XS.ifNo X51.here hx rfl (hb hby at_116) rfl ((if0 _ _).trans (feq (show ¬ ((1 : Int32) = (0 : Int32)) from by decide)).1)) ?_
      show own_Ends p e below T51 (mkF m 119 #[.val (.int p0), .val (.int p1), .val (.int p2), .val (.int p3), .val (.int p4), .val (.int ka), .val (.int va), .val (.int kb), .val (.int vb), .val (.int (1 : Int32)), .val (.int (1 : Int32)), .val (.ref b50), .val (.ref b51), .val .null, .val .null, .val (.long (ka.toInt64)), .second, .unset, .unset, .unset, .unset, .unset, .unset, .unset, .unset] []) _
      refine own_go (fun _ => XS.iload X51.here hx rfl (hb hby at_119) rfl) ?_
      show own_Ends p e below T51 (mkF m 121 #[.val (.int p0), .val (.int p1), .val (.int p2), .val (.int p3), .val (.int p4), .val (.int ka), .val (.int va), .val (.int kb), .val (.int vb), .val (.int (1 : Int32)), .val (.int (1 : Int32)), .val (.ref b50), .val (.ref b51), .val .null, .val .null, .val (.long (ka.toInt64)), .second, .unset, .unset, .unset, .unset, .unset, .unset, .unset, .unset] [(.int kb)]) _
      refine own_go (fun _ => XS.i2l X51.here hx rfl (hb hby at_121) rfl) ?_
      show own_Ends p e below T51 (mkF m 122 #[.val (.int p0), .val (.int p1), .val (.int p2), .val (.int p3), .val (.int p4), .val (.int ka), .val (.int va), .val (.int kb), .val (.int vb), .val (.int (1 : Int32)), .val (.int (1 : Int32)), .val (.ref b50), .val (.ref b51), .val .null, .val .null, .val (.long (ka.toInt64)), .second, .unset, .unset, .unset, .unset, .unset, .unset, .unset, .unset] [(.long (kb.toInt64))]) _
      refine own_go (fun _ => XS.goto X51.here hx rfl (pc0 := 122) (pc' := 132) rfl (hb hby at_122) (by decide) (by decide)) ?_
      show own_Ends p e below T51 (mkF m 132 #[.val (.int p0), .val (.int p1), .val (.int p2), .val (.int p3), .val (.int p4), .val (.int ka), .val (.int va), .val (.int kb), .val (.int vb), .val (.int (1 : Int32)), .val (.int (1 : Int32)), .val (.ref b50), .val (.ref b51), .val .null, .val .null, .val (.long (ka.toInt64)), .second, .unset, .unset, .unset, .unset, .unset, .unset, .unset, .unset] [(.long (kb.toInt64))]) _
      refine own_go (fun _ => XS.lstore X51.here hx rfl (hb hby at_132) rfl (l' := #[.val (.int p0), .val (.int p1), .val (.int p2), .val (.int p3), .val (.int p4), .val (.int ka), .val (.int va), .val (.int kb), .val (.int vb), .val (.int (1 : Int32)), .val (.int (1 : Int32)), .val (.ref b50), .val (.ref b51), .val .null, .val .null, .val (.long (ka.toInt64)), .second, .val (.long (kb.toInt64)), .second, .unset, .unset, .unset, .unset, .unset, .unset]) rfl) ?_
      show own_Ends p e below T51 (mkF m 134 #[.val (.int p0), .val (.int p1), .val (.int p2), .val (.int p3), .val (.int p4), .val (.int ka), .val (.int va), .val (.int kb), .val (.int vb), .val (.int (1 : Int32)), .val (.int (1 : Int32)), .val (.ref b50), .val (.ref b51), .val .null, .val .null, .val (.long (ka.toInt64)), .second, .val (.long (kb.toInt64)), .second, .unset, .unset, .unset, .unset, .unset, .unset] []) _
      refine own_go (fun _ => XS.lload X51.here hx rfl (hb hby at_134) rfl) ?_
      show own_Ends p e below T51 (mkF m 136 #[.val (.int p0), .val (.int p1), .val (.int p2), .val (.int p3), .val (.int p4), .val (.int ka), .val (.int va), .val (.int kb), .val (.int vb), .val (.int (1 : Int32)), .val (.int (1 : Int32)), .val (.ref b50), .val (.ref b51), .val .null, .val .null, .val (.long (ka.toInt64)), .second, .val (.long (kb.toInt64)), .second, .unset, .unset, .unset, .unset, .unset, .unset] [(.long (ka.toInt64))]) _
      refine own_go (fun _ => XS.lload X51.here hx rfl (hb hby at_136) rfl) ?_
      show own_Ends p e below T51 (mkF m 138 #[.val (.int p0), .val (.int p1), .val (.int p2), .val (.int p3), .val (.int p4), .val (.int ka), .val (.int va), .val (.int kb), .val (.int vb), .val (.int (1 : Int32)), .val (.int (1 : Int32)), .val (.ref b50), .val (.ref b51), .val .null, .val .null, .val (.long (ka.toInt64)), .second, .val (.long (kb.toInt64)), .second, .unset, .unset, .unset, .unset, .unset, .unset] [(.long (kb.toInt64)), (.long (ka.toInt64))]) _
      refine own_go (fun _ => XS.ladd X51.here hx rfl (hb hby at_138) rfl) ?_
      show own_Ends p e below T51 (mkF m 139 #[.val (.int p0), .val (.int p1), .val (.int p2), .val (.int p3), .val (.int p4), .val (.int ka), .val (.int va), .val (.int kb), .val (.int vb), .val (.int (1 : Int32)), .val (.int (1 : Int32)), .val (.ref b50), .val (.ref b51), .val .null, .val .null, .val (.long (ka.toInt64)), .second, .val (.long (kb.toInt64)), .second, .unset, .unset, .unset, .unset, .unset, .unset] [(.long ((ka.toInt64) + (kb.toInt64)))]) _
      refine own_go (fun _ => XS.lstore X51.here hx rfl (hb hby at_139) rfl (l' := #[.val (.int p0), .val (.int p1), .val (.int p2), .val (.int p3), .val (.int p4), .val (.int ka), .val (.int va), .val (.int kb), .val (.int vb), .val (.int (1 : Int32)), .val (.int (1 : Int32)), .val (.ref b50), .val (.ref b51), .val .null, .val .null, .val (.long (ka.toInt64)), .second, .val (.long (kb.toInt64)), .second, .val (.long ((ka.toInt64) + (kb.toInt64))), .second, .unset, .unset, .unset, .unset]) rfl) ?_
      show own_Ends p e below T51 (mkF m 141 #[.val (.int p0), .val (.int p1), .val (.int p2), .val (.int p3), .val (.int p4), .val (.int ka), .val (.int va), .val (.int kb), .val (.int vb), .val (.int (1 : Int32)), .val (.int (1 : Int32)), .val (.ref b50), .val (.ref b51), .val .null, .val .null, .val (.long (ka.toInt64)), .second, .val (.long (kb.toInt64)), .second, .val (.long ((ka.toInt64) + (kb.toInt64))), .second, .unset, .unset, .unset, .unset] []) _
      have ht := own_bt (own_b1 hka) (own_b1 hkb)
      generalize gt : ((ka.toInt64) + (kb.toInt64)) = t at ht ⊢
      obtain ⟨T52, h52, X52, e52, E52, A52, D52, -, st52⟩ := newO X51 hx hZ hown (hw _ (List.mem_of_getElem? (i := 1) rfl)) (hw _ (List.mem_of_getElem? (i := 2) rfl)) (hw _ (List.mem_of_getElem? (i := 3) rfl)) e51 (g := (mkF m 141 #[.val (.int p0), .val (.int p1), .val (.int p2), .val (.int p3), .val (.int p4), .val (.int ka), .val (.int va), .val (.int kb), .val (.int vb), .val (.int (1 : Int32)), .val (.int (1 : Int32)), .val (.ref b50), .val (.ref b51), .val .null, .val .null, .val (.long (ka.toInt64)), .second, .val (.long (kb.toInt64)), .second, .val (.long t), .second, .unset, .unset, .unset, .unset] [])) rfl (hb hby at_141) (by decide) (by decide)
      obtain ⟨b52, g52⟩ : ∃ z, z = h51.size := ⟨_, rfl⟩
      rw [← g52] at A52 D52 st52
      refine own_go st52 ?_
      have g_b52 : n0 ≤ b52 := Nat.le_trans Z51 (Nat.le_of_eq g52.symm)
      have sz_b52 : h0.size ≤ b52 := Nat.le_trans K51.1 (Nat.le_of_eq g52.symm)
      have ne_b50_b52 : b50 ≠ b52 := Nat.ne_of_lt (Nat.lt_of_lt_of_le B_b50.lt (Nat.le_of_eq g52.symm))
      have ne_b51_b52 : b51 ≠ b52 := Nat.ne_of_lt (Nat.lt_of_lt_of_le B_b51.lt (Nat.le_of_eq g52.symm))
      replace B_b50 := B_b50.ext E52
      replace B_b51 := B_b51.ext E52
      have K52 := K51.ext E52
      have Z52 : n0 ≤ h52.size := Nat.le_trans Z0 K52.1
      have F_b52_entries : Fld Z h52 b52 "com/example/wedge/wedge/Batch$Size" "entries" "J" (.long (0 : Int64)) := D52 (Or.inl (hw _ (List.mem_of_getElem? (i := 16) rfl))) (ty := .long) (by decide)
      have F_b52_bytes : Fld Z h52 b52 "com/example/wedge/wedge/Batch$Size" "bytes" "J" (.long (0 : Int64)) := D52 (Or.inl (hw _ (List.mem_of_getElem? (i := 18) rfl))) (ty := .long) (by decide)
      show own_Ends p e below T52 (mkF m 144 #[.val (.int p0), .val (.int p1), .val (.int p2), .val (.int p3), .val (.int p4), .val (.int ka), .val (.int va), .val (.int kb), .val (.int vb), .val (.int (1 : Int32)), .val (.int (1 : Int32)), .val (.ref b50), .val (.ref b51), .val .null, .val .null, .val (.long (ka.toInt64)), .second, .val (.long (kb.toInt64)), .second, .val (.long t), .second, .unset, .unset, .unset, .unset] [(.ref b52)]) _
      refine own_go (fun _ => XS.dup X52.here hx rfl (hb hby at_144) rfl rfl) ?_
      show own_Ends p e below T52 (mkF m 145 #[.val (.int p0), .val (.int p1), .val (.int p2), .val (.int p3), .val (.int p4), .val (.int ka), .val (.int va), .val (.int kb), .val (.int vb), .val (.int (1 : Int32)), .val (.int (1 : Int32)), .val (.ref b50), .val (.ref b51), .val .null, .val .null, .val (.long (ka.toInt64)), .second, .val (.long (kb.toInt64)), .second, .val (.long t), .second, .unset, .unset, .unset, .unset] [(.ref b52), (.ref b52)]) _
      obtain ⟨_, _, ⟨T53, L53, k53, n53⟩, -, X53, ⟨Lc53, hQ53, l53, y53, z53⟩, st53⟩ := X52.specialBack hx (y := (⟨"com/example/wedge/wedge/Batch$Size", "<init>", "()V"⟩ : MethodName)) rfl hown (mvT hZ (hw _ (List.mem_of_getElem? (i := 4) rfl))) (mvT hZ (hw _ (List.mem_of_getElem? (i := 5) rfl))) (mvT hZ (hw _ (List.mem_of_getElem? (i := 6) rfl))) (by decide) (backOf (W := 1) (rmSInit l Z a0 hw [] b52  h52 n0 Z52 ) hZ (hw _ (List.mem_of_getElem? (i := 6) rfl)) (hw _ (List.mem_of_getElem? (i := 3) rfl)) (by decide) (by decide)) (g := (mkF m 145 #[.val (.int p0), .val (.int p1), .val (.int p2), .val (.int p3), .val (.int p4), .val (.int ka), .val (.int va), .val (.int kb), .val (.int vb), .val (.int (1 : Int32)), .val (.int (1 : Int32)), .val (.ref b50), .val (.ref b51), .val .null, .val .null, .val (.long (ka.toInt64)), .second, .val (.long (kb.toInt64)), .second, .val (.long t), .second, .unset, .unset, .unset, .unset] [(.ref b52), (.ref b52)])) rfl (by rw [hml]; rfl) (Steps.refl _) (a := b52) (argsL := []) (rest := [(.ref b52)]) (lenOf pd_0 rfl) rfl (by show 2 * 0 + _ ≤ _; exact Nat.le_of_eq rfl) (hb hby at_145) (fun _ _ => ⟨rfl, e52, (by decide : 3 + 0 ≤ _), (by decide : 32 + 0 ≤ _)⟩)
      dsimp only [Pt.U, Pt.locs, Pt.cells, Pt.slots] at X53 l53 y53 z53 st53 hQ53
      subst l53 y53 z53
      refine own_go (fun _ k => st53.trans k) ?_
      obtain ⟨rfl, N53q, eh53⟩ := hQ53
      have N53 := Fr.app N0 N53q
      show own_Ends p e below T53 (mkF m 148 #[.val (.int p0), .val (.int p1), .val (.int p2), .val (.int p3), .val (.int p4), .val (.int ka), .val (.int va), .val (.int kb), .val (.int vb), .val (.int (1 : Int32)), .val (.int (1 : Int32)), .val (.ref b50), .val (.ref b51), .val .null, .val .null, .val (.long (ka.toInt64)), .second, .val (.long (kb.toInt64)), .second, .val (.long t), .second, .unset, .unset, .unset, .unset] [(.ref b52)]) _
      refine own_go (fun _ => XS.astore X53.here hx rfl (hb hby at_148) rfl rfl (l' := #[.val (.int p0), .val (.int p1), .val (.int p2), .val (.int p3), .val (.int p4), .val (.int ka), .val (.int va), .val (.int kb), .val (.int vb), .val (.int (1 : Int32)), .val (.int (1 : Int32)), .val (.ref b50), .val (.ref b51), .val .null, .val .null, .val (.long (ka.toInt64)), .second, .val (.long (kb.toInt64)), .second, .val (.long t), .second, .val (.ref b52), .unset, .unset, .unset]) rfl) ?_
      show own_Ends p e below T53 (mkF m 150 #[.val (.int p0), .val (.int p1), .val (.int p2), .val (.int p3), .val (.int p4), .val (.int ka), .val (.int va), .val (.int kb), .val (.int vb), .val (.int (1 : Int32)), .val (.int (1 : Int32)), .val (.ref b50), .val (.ref b51), .val .null, .val .null, .val (.long (ka.toInt64)), .second, .val (.long (kb.toInt64)), .second, .val (.long t), .second, .val (.ref b52), .unset, .unset, .unset] []) _
      refine own_go (fun _ => XS.aload X53.here hx rfl (hb hby at_150) rfl rfl) ?_
      show own_Ends p e below T53 (mkF m 152 #[.val (.int p0), .val (.int p1), .val (.int p2), .val (.int p3), .val (.int p4), .val (.int ka), .val (.int va), .val (.int kb), .val (.int vb), .val (.int (1 : Int32)), .val (.int (1 : Int32)), .val (.ref b50), .val (.ref b51), .val .null, .val .null, .val (.long (ka.toInt64)), .second, .val (.long (kb.toInt64)), .second, .val (.long t), .second, .val (.ref b52), .unset, .unset, .unset] [(.ref b52)]) _
      refine own_go (fun _ => XS.aload X53.here hx rfl (hb hby at_152) rfl rfl) ?_
      show own_Ends p e below T53 (mkF m 154 #[.val (.int p0), .val (.int p1), .val (.int p2), .val (.int p3), .val (.int p4), .val (.int ka), .val (.int va), .val (.int kb), .val (.int vb), .val (.int (1 : Int32)), .val (.int (1 : Int32)), .val (.ref b50), .val (.ref b51), .val .null, .val .null, .val (.long (ka.toInt64)), .second, .val (.long (kb.toInt64)), .second, .val (.long t), .second, .val (.ref b52), .unset, .unset, .unset] [(.ref b50), (.ref b52)]) _
      refine own_go (fun _ => XS.aload X53.here hx rfl (hb hby at_154) rfl rfl) ?_
      show own_Ends p e below T53 (mkF m 156 #[.val (.int p0), .val (.int p1), .val (.int p2), .val (.int p3), .val (.int p4), .val (.int ka), .val (.int va), .val (.int kb), .val (.int vb), .val (.int (1 : Int32)), .val (.int (1 : Int32)), .val (.ref b50), .val (.ref b51), .val .null, .val .null, .val (.long (ka.toInt64)), .second, .val (.long (kb.toInt64)), .second, .val (.long t), .second, .val (.ref b52), .unset, .unset, .unset] [.null, (.ref b50), (.ref b52)]) _
      obtain ⟨cq54, kq54, q54a, q54b, q54c⟩ := isOf hZ eh53 A52
      obtain ⟨_, _, ⟨T54, L54, k54, n54⟩, -, X54, ⟨Lc54, hQ54, l54, y54, z54⟩, st54⟩ := X53.virtualBack hx (y := (⟨"com/example/wedge/wedge/Batch$Size", "add", "([B[B)V"⟩ : MethodName)) (z := (⟨"com/example/wedge/wedge/Batch$Size", "add", "([B[B)V"⟩ : MethodName)) hown (mvT hZ (hw _ (List.mem_of_getElem? (i := 10) rfl))) (mvT hZ (hw _ (List.mem_of_getElem? (i := 11) rfl))) (notFace_of_selects (args := #[]) (mvT hZ (hw _ (List.mem_of_getElem? (i := 13) rfl)))) (mvT hZ (hw _ (List.mem_of_getElem? (i := 13) rfl))) (mvT hZ (hw _ (List.mem_of_getElem? (i := 12) rfl))) (by decide) (backOf (W := 0) (rmAddn l Z a0 hw [] b52 b50 ((0 : Int64)) ((0 : Int64)) ka h52 n0 Z52 A52 F_b52_entries F_b52_bytes g_b52 B_b50 ne_b50_b52) hZ (hw _ (List.mem_of_getElem? (i := 14) rfl)) (hw _ (List.mem_of_getElem? (i := 3) rfl)) (by decide) (by decide)) q54a q54c (g := (mkF m 156 #[.val (.int p0), .val (.int p1), .val (.int p2), .val (.int p3), .val (.int p4), .val (.int ka), .val (.int va), .val (.int kb), .val (.int vb), .val (.int (1 : Int32)), .val (.int (1 : Int32)), .val (.ref b50), .val (.ref b51), .val .null, .val .null, .val (.long (ka.toInt64)), .second, .val (.long (kb.toInt64)), .second, .val (.long t), .second, .val (.ref b52), .unset, .unset, .unset] [.null, (.ref b50), (.ref b52)])) rfl (by rw [hml]; rfl) (Steps.refl _) (argsL := [(.ref b50), .null]) (rest := []) (lenOf pd_3 rfl) rfl (by show 2 * 0 + _ ≤ _; exact Nat.le_of_eq rfl) (hb hby at_156) (fun _ _ => ⟨rfl, eh53, (by decide : 3 + 0 ≤ _), (by decide : 32 + 0 ≤ _)⟩)
      dsimp only [Pt.U, Pt.locs, Pt.cells, Pt.slots] at X54 l54 y54 z54 st54 hQ54
      subst l54 y54 z54
      refine own_go (fun _ k => st54.trans k) ?_
      obtain ⟨rfl, N54q, Kq54, Eq54, F54_entries, F54_bytes⟩ := hQ54
      replace B_b50 := B_b50.keep Kq54 (ninS ne_b50_b52 nin0)
      replace B_b51 := B_b51.keep Kq54 (ninS ne_b51_b52 nin0)
      replace A52 := A52.keep Kq54
      have K54 := K52.trans Kq54 (allS (Or.inr sz_b52) all0)
      have Z54 : n0 ≤ T54.heap.size := Nat.le_trans Z0 K54.1
      clear Eq54
      have N54 := Fr.app N53 N54q
      show own_Ends p e below T54 (mkF m 159 #[.val (.int p0), .val (.int p1), .val (.int p2), .val (.int p3), .val (.int p4), .val (.int ka), .val (.int va), .val (.int kb), .val (.int vb), .val (.int (1 : Int32)), .val (.int (1 : Int32)), .val (.ref b50), .val (.ref b51), .val .null, .val .null, .val (.long (ka.toInt64)), .second, .val (.long (kb.toInt64)), .second, .val (.long t), .second, .val (.ref b52), .unset, .unset, .unset] []) _
      refine own_go (fun _ => XS.aload X54.here hx rfl (hb hby at_159) rfl rfl) ?_
      show own_Ends p e below T54 (mkF m 161 #[.val (.int p0), .val (.int p1), .val (.int p2), .val (.int p3), .val (.int p4), .val (.int ka), .val (.int va), .val (.int kb), .val (.int vb), .val (.int (1 : Int32)), .val (.int (1 : Int32)), .val (.ref b50), .val (.ref b51), .val .null, .val .null, .val (.long (ka.toInt64)), .second, .val (.long (kb.toInt64)), .second, .val (.long t), .second, .val (.ref b52), .unset, .unset, .unset] [(.ref b52)]) _
      refine own_go (fun _ => XS.aload X54.here hx rfl (hb hby at_161) rfl rfl) ?_
      show own_Ends p e below T54 (mkF m 163 #[.val (.int p0), .val (.int p1), .val (.int p2), .val (.int p3), .val (.int p4), .val (.int ka), .val (.int va), .val (.int kb), .val (.int vb), .val (.int (1 : Int32)), .val (.int (1 : Int32)), .val (.ref b50), .val (.ref b51), .val .null, .val .null, .val (.long (ka.toInt64)), .second, .val (.long (kb.toInt64)), .second, .val (.long t), .second, .val (.ref b52), .unset, .unset, .unset] [(.ref b51), (.ref b52)]) _
      refine own_go (fun _ => XS.aload X54.here hx rfl (hb hby at_163) rfl rfl) ?_
      show own_Ends p e below T54 (mkF m 165 #[.val (.int p0), .val (.int p1), .val (.int p2), .val (.int p3), .val (.int p4), .val (.int ka), .val (.int va), .val (.int kb), .val (.int vb), .val (.int (1 : Int32)), .val (.int (1 : Int32)), .val (.ref b50), .val (.ref b51), .val .null, .val .null, .val (.long (ka.toInt64)), .second, .val (.long (kb.toInt64)), .second, .val (.long t), .second, .val (.ref b52), .unset, .unset, .unset] [.null, (.ref b51), (.ref b52)]) _
      obtain ⟨cq55, kq55, q55a, q55b, q55c⟩ := isOf hZ rfl A52
      obtain ⟨_, _, ⟨T55, L55, k55, n55⟩, -, X55, ⟨Lc55, hQ55, l55, y55, z55⟩, st55⟩ := X54.virtualBack hx (y := (⟨"com/example/wedge/wedge/Batch$Size", "add", "([B[B)V"⟩ : MethodName)) (z := (⟨"com/example/wedge/wedge/Batch$Size", "add", "([B[B)V"⟩ : MethodName)) hown (mvT hZ (hw _ (List.mem_of_getElem? (i := 10) rfl))) (mvT hZ (hw _ (List.mem_of_getElem? (i := 11) rfl))) (notFace_of_selects (args := #[]) (mvT hZ (hw _ (List.mem_of_getElem? (i := 13) rfl)))) (mvT hZ (hw _ (List.mem_of_getElem? (i := 13) rfl))) (mvT hZ (hw _ (List.mem_of_getElem? (i := 12) rfl))) (by decide) (backOf (W := 0) (rmAddn l Z a0 hw [] b52 b51 (((0 : Int64) + (1 : Int64))) (((0 : Int64) + ((ka + (0 : Int32)).toInt64))) kb (T54.heap) n0 Z54 A52 F54_entries F54_bytes g_b52 B_b51 ne_b51_b52) hZ (hw _ (List.mem_of_getElem? (i := 14) rfl)) (hw _ (List.mem_of_getElem? (i := 3) rfl)) (by decide) (by decide)) q55a q55c (g := (mkF m 165 #[.val (.int p0), .val (.int p1), .val (.int p2), .val (.int p3), .val (.int p4), .val (.int ka), .val (.int va), .val (.int kb), .val (.int vb), .val (.int (1 : Int32)), .val (.int (1 : Int32)), .val (.ref b50), .val (.ref b51), .val .null, .val .null, .val (.long (ka.toInt64)), .second, .val (.long (kb.toInt64)), .second, .val (.long t), .second, .val (.ref b52), .unset, .unset, .unset] [.null, (.ref b51), (.ref b52)])) rfl (by rw [hml]; rfl) (Steps.refl _) (argsL := [(.ref b51), .null]) (rest := []) (lenOf pd_3 rfl) rfl (by show 2 * 0 + _ ≤ _; exact Nat.le_of_eq rfl) (hb hby at_165) (fun _ _ => ⟨rfl, rfl, (by decide : 3 + 0 ≤ _), (by decide : 32 + 0 ≤ _)⟩)
      dsimp only [Pt.U, Pt.locs, Pt.cells, Pt.slots] at X55 l55 y55 z55 st55 hQ55
      subst l55 y55 z55
      refine own_go (fun _ k => st55.trans k) ?_
      obtain ⟨rfl, N55q, Kq55, Eq55, F55_entries, F55_bytes⟩ := hQ55
      replace B_b50 := B_b50.keep Kq55 (ninS ne_b50_b52 nin0)
      replace B_b51 := B_b51.keep Kq55 (ninS ne_b51_b52 nin0)
      replace A52 := A52.keep Kq55
      have K55 := K54.trans Kq55 (allS (Or.inr sz_b52) all0)
      have Z55 : n0 ≤ T55.heap.size := Nat.le_trans Z0 K55.1
      clear Eq55
      have N55 := Fr.app N54 N55q
      show own_Ends p e below T55 (mkF m 168 #[.val (.int p0), .val (.int p1), .val (.int p2), .val (.int p3), .val (.int p4), .val (.int ka), .val (.int va), .val (.int kb), .val (.int vb), .val (.int (1 : Int32)), .val (.int (1 : Int32)), .val (.ref b50), .val (.ref b51), .val .null, .val .null, .val (.long (ka.toInt64)), .second, .val (.long (kb.toInt64)), .second, .val (.long t), .second, .val (.ref b52), .unset, .unset, .unset] []) _
      have hen : (((0 : Int64) + (1 : Int64)) + (1 : Int64)) = (2 : Int64) := by decide
      rw [hen] at F55_entries
      have hbyt : (((0 : Int64) + ((ka + (0 : Int32)).toInt64)) + ((kb + (0 : Int32)).toInt64)) = t := own_tot gt (own_lone _) (own_lone _)
      rw [hbyt] at F55_bytes
      refine own_go (fun _ => XS.aload X55.here hx rfl (hb hby at_168) rfl rfl) ?_
      show own_Ends p e below T55 (mkF m 170 #[.val (.int p0), .val (.int p1), .val (.int p2), .val (.int p3), .val (.int p4), .val (.int ka), .val (.int va), .val (.int kb), .val (.int vb), .val (.int (1 : Int32)), .val (.int (1 : Int32)), .val (.ref b50), .val (.ref b51), .val .null, .val .null, .val (.long (ka.toInt64)), .second, .val (.long (kb.toInt64)), .second, .val (.long t), .second, .val (.ref b52), .unset, .unset, .unset] [(.ref b52)]) _
      obtain ⟨T56, h56, X56, e56, E56, A56, D56, -, st56⟩ := newO X55 hx hZ hown (hw _ (List.mem_of_getElem? (i := 19) rfl)) (hw _ (List.mem_of_getElem? (i := 20) rfl)) (hw _ (List.mem_of_getElem? (i := 21) rfl)) rfl (g := (mkF m 170 #[.val (.int p0), .val (.int p1), .val (.int p2), .val (.int p3), .val (.int p4), .val (.int ka), .val (.int va), .val (.int kb), .val (.int vb), .val (.int (1 : Int32)), .val (.int (1 : Int32)), .val (.ref b50), .val (.ref b51), .val .null, .val .null, .val (.long (ka.toInt64)), .second, .val (.long (kb.toInt64)), .second, .val (.long t), .second, .val (.ref b52), .unset, .unset, .unset] [(.ref b52)])) rfl (hb hby at_170) (by decide) (by decide)
      obtain ⟨b56, g56⟩ : ∃ z, z = T55.heap.size := ⟨_, rfl⟩
      rw [← g56] at A56 D56 st56
      refine own_go st56 ?_
      have g_b56 : n0 ≤ b56 := Nat.le_trans Z55 (Nat.le_of_eq g56.symm)
      have sz_b56 : h0.size ≤ b56 := Nat.le_trans K55.1 (Nat.le_of_eq g56.symm)
      have ne_b50_b56 : b50 ≠ b56 := Nat.ne_of_lt (Nat.lt_of_lt_of_le B_b50.lt (Nat.le_of_eq g56.symm))
      have ne_b51_b56 : b51 ≠ b56 := Nat.ne_of_lt (Nat.lt_of_lt_of_le B_b51.lt (Nat.le_of_eq g56.symm))
      have ne_b52_b56 : b52 ≠ b56 := Nat.ne_of_lt (Nat.lt_of_lt_of_le A52.lt (Nat.le_of_eq g56.symm))
      replace B_b50 := B_b50.ext E56
      replace B_b51 := B_b51.ext E56
      replace A52 := A52.ext E56
      replace F55_entries := F55_entries.ext E56
      replace F55_bytes := F55_bytes.ext E56
      have K56 := K55.ext E56
      have Z56 : n0 ≤ h56.size := Nat.le_trans Z0 K56.1
      have F_b56_entries : Fld Z h56 b56 "com/example/wedge/wedge/Batch$Limit" "entries" "I" (.int (0 : Int32)) := D56 (Or.inr (hw _ (List.mem_of_getElem? (i := 32) rfl))) (ty := .int) (by decide)
      have F_b56_bytes : Fld Z h56 b56 "com/example/wedge/wedge/Batch$Limit" "bytes" "J" (.long (0 : Int64)) := D56 (Or.inr (hw _ (List.mem_of_getElem? (i := 34) rfl))) (ty := .long) (by decide)
      show own_Ends p e below T56 (mkF m 173 #[.val (.int p0), .val (.int p1), .val (.int p2), .val (.int p3), .val (.int p4), .val (.int ka), .val (.int va), .val (.int kb), .val (.int vb), .val (.int (1 : Int32)), .val (.int (1 : Int32)), .val (.ref b50), .val (.ref b51), .val .null, .val .null, .val (.long (ka.toInt64)), .second, .val (.long (kb.toInt64)), .second, .val (.long t), .second, .val (.ref b52), .unset, .unset, .unset] [(.ref b56), (.ref b52)]) _
      refine own_go (fun _ => XS.dup X56.here hx rfl (hb hby at_173) rfl rfl) ?_
      show own_Ends p e below T56 (mkF m 174 #[.val (.int p0), .val (.int p1), .val (.int p2), .val (.int p3), .val (.int p4), .val (.int ka), .val (.int va), .val (.int kb), .val (.int vb), .val (.int (1 : Int32)), .val (.int (1 : Int32)), .val (.ref b50), .val (.ref b51), .val .null, .val .null, .val (.long (ka.toInt64)), .second, .val (.long (kb.toInt64)), .second, .val (.long t), .second, .val (.ref b52), .unset, .unset, .unset] [(.ref b56), (.ref b56), (.ref b52)]) _
      refine own_go (fun _ => XS.iconst X56.here hx rfl (hb hby at_174)) ?_
      show own_Ends p e below T56 (mkF m 175 #[.val (.int p0), .val (.int p1), .val (.int p2), .val (.int p3), .val (.int p4), .val (.int ka), .val (.int va), .val (.int kb), .val (.int vb), .val (.int (1 : Int32)), .val (.int (1 : Int32)), .val (.ref b50), .val (.ref b51), .val .null, .val .null, .val (.long (ka.toInt64)), .second, .val (.long (kb.toInt64)), .second, .val (.long t), .second, .val (.ref b52), .unset, .unset, .unset] [(.int (2 : Int32)), (.ref b56), (.ref b56), (.ref b52)]) _
      refine own_go (fun _ => XS.lload X56.here hx rfl (hb hby at_175) rfl) ?_
      show own_Ends p e below T56 (mkF m 177 #[.val (.int p0), .val (.int p1), .val (.int p2), .val (.int p3), .val (.int p4), .val (.int ka), .val (.int va), .val (.int kb), .val (.int vb), .val (.int (1 : Int32)), .val (.int (1 : Int32)), .val (.ref b50), .val (.ref b51), .val .null, .val .null, .val (.long (ka.toInt64)), .second, .val (.long (kb.toInt64)), .second, .val (.long t), .second, .val (.ref b52), .unset, .unset, .unset] [(.long t), (.int (2 : Int32)), (.ref b56), (.ref b56), (.ref b52)]) _
      obtain ⟨_, _, ⟨T57, L57, k57, n57⟩, -, X57, ⟨Lc57, hQ57, l57, y57, z57⟩, st57⟩ := X56.specialBack hx (y := (⟨"com/example/wedge/wedge/Batch$Limit", "<init>", "(IJ)V"⟩ : MethodName)) rfl hown (mvT hZ (hw _ (List.mem_of_getElem? (i := 22) rfl))) (mvT hZ (hw _ (List.mem_of_getElem? (i := 23) rfl))) (mvT hZ (hw _ (List.mem_of_getElem? (i := 24) rfl))) (by decide) (backOf (W := 2) (rmLInit l Z a0 hw [] b56 ((2 : Int32)) t  h56 n0 Z56 A56 F_b56_entries F_b56_bytes g_b56) hZ (hw _ (List.mem_of_getElem? (i := 24) rfl)) (hw _ (List.mem_of_getElem? (i := 21) rfl)) (by decide) (by decide)) (g := (mkF m 177 #[.val (.int p0), .val (.int p1), .val (.int p2), .val (.int p3), .val (.int p4), .val (.int ka), .val (.int va), .val (.int kb), .val (.int vb), .val (.int (1 : Int32)), .val (.int (1 : Int32)), .val (.ref b50), .val (.ref b51), .val .null, .val .null, .val (.long (ka.toInt64)), .second, .val (.long (kb.toInt64)), .second, .val (.long t), .second, .val (.ref b52), .unset, .unset, .unset] [(.long t), (.int (2 : Int32)), (.ref b56), (.ref b56), (.ref b52)])) rfl (by rw [hml]; rfl) (Steps.refl _) (a := b56) (argsL := [(.int (2 : Int32)), (.long t)]) (rest := [(.ref b56), (.ref b52)]) (lenOf pd_4 rfl) rfl (by show 2 * 0 + _ ≤ _; exact Nat.le_of_eq rfl) (hb hby at_177) (fun _ _ => ⟨rfl, e56, (by decide : 4 + 0 ≤ _), (by decide : 34 + 0 ≤ _)⟩)
      dsimp only [Pt.U, Pt.locs, Pt.cells, Pt.slots] at X57 l57 y57 z57 st57 hQ57
      subst l57 y57 z57
      refine own_go (fun _ k => st57.trans k) ?_
      obtain ⟨rfl, N57q, Kq57, Eq57, F57_entries, F57_bytes⟩ := hQ57
      replace B_b50 := B_b50.keep Kq57 (ninS ne_b50_b56 nin0)
      replace B_b51 := B_b51.keep Kq57 (ninS ne_b51_b56 nin0)
      replace A52 := A52.keep Kq57
      replace F55_entries := F55_entries.keep Kq57 (ninS ne_b52_b56 nin0)
      replace F55_bytes := F55_bytes.keep Kq57 (ninS ne_b52_b56 nin0)
      replace A56 := A56.keep Kq57
      have K57 := K56.trans Kq57 (allS (Or.inr sz_b56) all0)
      have Z57 : n0 ≤ T57.heap.size := Nat.le_trans Z0 K57.1
      clear Eq57
      have N57 := Fr.app N55 N57q
      show own_Ends p e below T57 (mkF m 180 #[.val (.int p0), .val (.int p1), .val (.int p2), .val (.int p3), .val (.int p4), .val (.int ka), .val (.int va), .val (.int kb), .val (.int vb), .val (.int (1 : Int32)), .val (.int (1 : Int32)), .val (.ref b50), .val (.ref b51), .val .null, .val .null, .val (.long (ka.toInt64)), .second, .val (.long (kb.toInt64)), .second, .val (.long t), .second, .val (.ref b52), .unset, .unset, .unset] [(.ref b56), (.ref b52)]) _
      obtain ⟨cq58, kq58, q58a, q58b, q58c⟩ := isOf hZ rfl A52
      obtain ⟨_, _, ⟨T58, L58, k58, n58⟩, -, X58, ⟨Lc58, hQ58, l58, y58, z58⟩, st58⟩ := X57.virtualBack hx (y := (⟨"com/example/wedge/wedge/Batch$Size", "within", "(Lcom/example/wedge/wedge/Batch$Limit;)Z"⟩ : MethodName)) (z := (⟨"com/example/wedge/wedge/Batch$Size", "within", "(Lcom/example/wedge/wedge/Batch$Limit;)Z"⟩ : MethodName)) hown (mvT hZ (hw _ (List.mem_of_getElem? (i := 35) rfl))) (mvT hZ (hw _ (List.mem_of_getElem? (i := 36) rfl))) (notFace_of_selects (args := #[]) (mvT hZ (hw _ (List.mem_of_getElem? (i := 38) rfl)))) (mvT hZ (hw _ (List.mem_of_getElem? (i := 38) rfl))) (mvT hZ (hw _ (List.mem_of_getElem? (i := 37) rfl))) (by decide) (backOf (W := 0) (rmWithin l Z a0 hw [] b52 b56 ((2 : Int64)) t ((2 : Int32)) t (T57.heap) n0 Z57 F55_entries F55_bytes A56 F57_entries F57_bytes) hZ (hw _ (List.mem_of_getElem? (i := 39) rfl)) (hw _ (List.mem_of_getElem? (i := 3) rfl)) (by decide) (by decide)) q58a q58c (g := (mkF m 180 #[.val (.int p0), .val (.int p1), .val (.int p2), .val (.int p3), .val (.int p4), .val (.int ka), .val (.int va), .val (.int kb), .val (.int vb), .val (.int (1 : Int32)), .val (.int (1 : Int32)), .val (.ref b50), .val (.ref b51), .val .null, .val .null, .val (.long (ka.toInt64)), .second, .val (.long (kb.toInt64)), .second, .val (.long t), .second, .val (.ref b52), .unset, .unset, .unset] [(.ref b56), (.ref b52)])) rfl (by rw [hml]; rfl) (Steps.refl _) (argsL := [(.ref b56)]) (rest := []) (lenOf pd_5 rfl) rfl (by show 2 * 0 + _ ≤ _; exact Nat.le_of_eq rfl) (hb hby at_180) (fun _ _ => ⟨rfl, rfl, (by decide : 4 + 0 ≤ _), (by decide : 34 + 0 ≤ _)⟩)
      dsimp only [Pt.U, Pt.locs, Pt.cells, Pt.slots] at X58 l58 y58 z58 st58 hQ58
      subst l58 y58 z58
      refine own_go (fun _ k => st58.trans k) ?_
      obtain ⟨rfl, N58q, eh58⟩ := hQ58
      have N58 := Fr.app N57 N58q
      show own_Ends p e below T58 (mkF m 183 #[.val (.int p0), .val (.int p1), .val (.int p2), .val (.int p3), .val (.int p4), .val (.int ka), .val (.int va), .val (.int kb), .val (.int vb), .val (.int (1 : Int32)), .val (.int (1 : Int32)), .val (.ref b50), .val (.ref b51), .val .null, .val .null, .val (.long (ka.toInt64)), .second, .val (.long (kb.toInt64)), .second, .val (.long t), .second, .val (.ref b52), .unset, .unset, .unset] [(.int (own_within ((2 : Int64)) t ((2 : Int32)) t))]) _
      refine own_go (fun _ => XS.istore X58.here hx rfl (hb hby at_183) rfl (l' := #[.val (.int p0), .val (.int p1), .val (.int p2), .val (.int p3), .val (.int p4), .val (.int ka), .val (.int va), .val (.int kb), .val (.int vb), .val (.int (1 : Int32)), .val (.int (1 : Int32)), .val (.ref b50), .val (.ref b51), .val .null, .val .null, .val (.long (ka.toInt64)), .second, .val (.long (kb.toInt64)), .second, .val (.long t), .second, .val (.ref b52), .val (.int (own_within ((2 : Int64)) t ((2 : Int32)) t)), .unset, .unset]) rfl) ?_
      show own_Ends p e below T58 (mkF m 185 #[.val (.int p0), .val (.int p1), .val (.int p2), .val (.int p3), .val (.int p4), .val (.int ka), .val (.int va), .val (.int kb), .val (.int vb), .val (.int (1 : Int32)), .val (.int (1 : Int32)), .val (.ref b50), .val (.ref b51), .val .null, .val .null, .val (.long (ka.toInt64)), .second, .val (.long (kb.toInt64)), .second, .val (.long t), .second, .val (.ref b52), .val (.int (own_within ((2 : Int64)) t ((2 : Int32)) t)), .unset, .unset] []) _
      refine own_go (fun _ => XS.aload X58.here hx rfl (hb hby at_185) rfl rfl) ?_
      show own_Ends p e below T58 (mkF m 187 #[.val (.int p0), .val (.int p1), .val (.int p2), .val (.int p3), .val (.int p4), .val (.int ka), .val (.int va), .val (.int kb), .val (.int vb), .val (.int (1 : Int32)), .val (.int (1 : Int32)), .val (.ref b50), .val (.ref b51), .val .null, .val .null, .val (.long (ka.toInt64)), .second, .val (.long (kb.toInt64)), .second, .val (.long t), .second, .val (.ref b52), .val (.int (own_within ((2 : Int64)) t ((2 : Int32)) t)), .unset, .unset] [(.ref b52)]) _
      obtain ⟨T59, h59, X59, e59, E59, A59, D59, -, st59⟩ := newO X58 hx hZ hown (hw _ (List.mem_of_getElem? (i := 19) rfl)) (hw _ (List.mem_of_getElem? (i := 20) rfl)) (hw _ (List.mem_of_getElem? (i := 21) rfl)) eh58 (g := (mkF m 187 #[.val (.int p0), .val (.int p1), .val (.int p2), .val (.int p3), .val (.int p4), .val (.int ka), .val (.int va), .val (.int kb), .val (.int vb), .val (.int (1 : Int32)), .val (.int (1 : Int32)), .val (.ref b50), .val (.ref b51), .val .null, .val .null, .val (.long (ka.toInt64)), .second, .val (.long (kb.toInt64)), .second, .val (.long t), .second, .val (.ref b52), .val (.int (own_within ((2 : Int64)) t ((2 : Int32)) t)), .unset, .unset] [(.ref b52)])) rfl (hb hby at_187) (by decide) (by decide)
      obtain ⟨b59, g59⟩ : ∃ z, z = T57.heap.size := ⟨_, rfl⟩
      rw [← g59] at A59 D59 st59
      refine own_go st59 ?_
      have g_b59 : n0 ≤ b59 := Nat.le_trans Z57 (Nat.le_of_eq g59.symm)
      have sz_b59 : h0.size ≤ b59 := Nat.le_trans K57.1 (Nat.le_of_eq g59.symm)
      have ne_b50_b59 : b50 ≠ b59 := Nat.ne_of_lt (Nat.lt_of_lt_of_le B_b50.lt (Nat.le_of_eq g59.symm))
      have ne_b51_b59 : b51 ≠ b59 := Nat.ne_of_lt (Nat.lt_of_lt_of_le B_b51.lt (Nat.le_of_eq g59.symm))
      have ne_b52_b59 : b52 ≠ b59 := Nat.ne_of_lt (Nat.lt_of_lt_of_le A52.lt (Nat.le_of_eq g59.symm))
      have ne_b56_b59 : b56 ≠ b59 := Nat.ne_of_lt (Nat.lt_of_lt_of_le A56.lt (Nat.le_of_eq g59.symm))
      replace B_b50 := B_b50.ext E59
      replace B_b51 := B_b51.ext E59
      replace A52 := A52.ext E59
      replace F55_entries := F55_entries.ext E59
      replace F55_bytes := F55_bytes.ext E59
      replace A56 := A56.ext E59
      replace F57_entries := F57_entries.ext E59
      replace F57_bytes := F57_bytes.ext E59
      have K59 := K57.ext E59
      have Z59 : n0 ≤ h59.size := Nat.le_trans Z0 K59.1
      have F_b59_entries : Fld Z h59 b59 "com/example/wedge/wedge/Batch$Limit" "entries" "I" (.int (0 : Int32)) := D59 (Or.inr (hw _ (List.mem_of_getElem? (i := 32) rfl))) (ty := .int) (by decide)
      have F_b59_bytes : Fld Z h59 b59 "com/example/wedge/wedge/Batch$Limit" "bytes" "J" (.long (0 : Int64)) := D59 (Or.inr (hw _ (List.mem_of_getElem? (i := 34) rfl))) (ty := .long) (by decide)
      show own_Ends p e below T59 (mkF m 190 #[.val (.int p0), .val (.int p1), .val (.int p2), .val (.int p3), .val (.int p4), .val (.int ka), .val (.int va), .val (.int kb), .val (.int vb), .val (.int (1 : Int32)), .val (.int (1 : Int32)), .val (.ref b50), .val (.ref b51), .val .null, .val .null, .val (.long (ka.toInt64)), .second, .val (.long (kb.toInt64)), .second, .val (.long t), .second, .val (.ref b52), .val (.int (own_within ((2 : Int64)) t ((2 : Int32)) t)), .unset, .unset] [(.ref b59), (.ref b52)]) _
      refine own_go (fun _ => XS.dup X59.here hx rfl (hb hby at_190) rfl rfl) ?_
      show own_Ends p e below T59 (mkF m 191 #[.val (.int p0), .val (.int p1), .val (.int p2), .val (.int p3), .val (.int p4), .val (.int ka), .val (.int va), .val (.int kb), .val (.int vb), .val (.int (1 : Int32)), .val (.int (1 : Int32)), .val (.ref b50), .val (.ref b51), .val .null, .val .null, .val (.long (ka.toInt64)), .second, .val (.long (kb.toInt64)), .second, .val (.long t), .second, .val (.ref b52), .val (.int (own_within ((2 : Int64)) t ((2 : Int32)) t)), .unset, .unset] [(.ref b59), (.ref b59), (.ref b52)]) _
      refine own_go (fun _ => XS.iconst X59.here hx rfl (hb hby at_191)) ?_
      show own_Ends p e below T59 (mkF m 192 #[.val (.int p0), .val (.int p1), .val (.int p2), .val (.int p3), .val (.int p4), .val (.int ka), .val (.int va), .val (.int kb), .val (.int vb), .val (.int (1 : Int32)), .val (.int (1 : Int32)), .val (.ref b50), .val (.ref b51), .val .null, .val .null, .val (.long (ka.toInt64)), .second, .val (.long (kb.toInt64)), .second, .val (.long t), .second, .val (.ref b52), .val (.int (own_within ((2 : Int64)) t ((2 : Int32)) t)), .unset, .unset] [(.int (1 : Int32)), (.ref b59), (.ref b59), (.ref b52)]) _
      refine own_go (X59.ldc2Long hx hown (mvT hZ (hw _ (List.mem_of_getElem? (i := 50) rfl))) (g := (mkF m 192 #[.val (.int p0), .val (.int p1), .val (.int p2), .val (.int p3), .val (.int p4), .val (.int ka), .val (.int va), .val (.int kb), .val (.int vb), .val (.int (1 : Int32)), .val (.int (1 : Int32)), .val (.ref b50), .val (.ref b51), .val .null, .val .null, .val (.long (ka.toInt64)), .second, .val (.long (kb.toInt64)), .second, .val (.long t), .second, .val (.ref b52), .val (.int (own_within ((2 : Int64)) t ((2 : Int32)) t)), .unset, .unset] [(.int (1 : Int32)), (.ref b59), (.ref b59), (.ref b52)])) rfl (hb hby at_192)) ?_
      show own_Ends p e below T59 (mkF m 195 #[.val (.int p0), .val (.int p1), .val (.int p2), .val (.int p3), .val (.int p4), .val (.int ka), .val (.int va), .val (.int kb), .val (.int vb), .val (.int (1 : Int32)), .val (.int (1 : Int32)), .val (.ref b50), .val (.ref b51), .val .null, .val .null, .val (.long (ka.toInt64)), .second, .val (.long (kb.toInt64)), .second, .val (.long t), .second, .val (.ref b52), .val (.int (own_within ((2 : Int64)) t ((2 : Int32)) t)), .unset, .unset] [(.long (9223372036854775807 : Int64)), (.int (1 : Int32)), (.ref b59), (.ref b59), (.ref b52)]) _
      obtain ⟨_, _, ⟨T60, L60, k60, n60⟩, -, X60, ⟨Lc60, hQ60, l60, y60, z60⟩, st60⟩ := X59.specialBack hx (y := (⟨"com/example/wedge/wedge/Batch$Limit", "<init>", "(IJ)V"⟩ : MethodName)) rfl hown (mvT hZ (hw _ (List.mem_of_getElem? (i := 22) rfl))) (mvT hZ (hw _ (List.mem_of_getElem? (i := 23) rfl))) (mvT hZ (hw _ (List.mem_of_getElem? (i := 24) rfl))) (by decide) (backOf (W := 2) (rmLInit l Z a0 hw [] b59 ((1 : Int32)) ((9223372036854775807 : Int64))  h59 n0 Z59 A59 F_b59_entries F_b59_bytes g_b59) hZ (hw _ (List.mem_of_getElem? (i := 24) rfl)) (hw _ (List.mem_of_getElem? (i := 21) rfl)) (by decide) (by decide)) (g := (mkF m 195 #[.val (.int p0), .val (.int p1), .val (.int p2), .val (.int p3), .val (.int p4), .val (.int ka), .val (.int va), .val (.int kb), .val (.int vb), .val (.int (1 : Int32)), .val (.int (1 : Int32)), .val (.ref b50), .val (.ref b51), .val .null, .val .null, .val (.long (ka.toInt64)), .second, .val (.long (kb.toInt64)), .second, .val (.long t), .second, .val (.ref b52), .val (.int (own_within ((2 : Int64)) t ((2 : Int32)) t)), .unset, .unset] [(.long (9223372036854775807 : Int64)), (.int (1 : Int32)), (.ref b59), (.ref b59), (.ref b52)])) rfl (by rw [hml]; rfl) (Steps.refl _) (a := b59) (argsL := [(.int (1 : Int32)), (.long (9223372036854775807 : Int64))]) (rest := [(.ref b59), (.ref b52)]) (lenOf pd_4 rfl) rfl (by show 2 * 0 + _ ≤ _; exact Nat.le_of_eq rfl) (hb hby at_195) (fun _ _ => ⟨rfl, e59, (by decide : 5 + 0 ≤ _), (by decide : 36 + 0 ≤ _)⟩)
      dsimp only [Pt.U, Pt.locs, Pt.cells, Pt.slots] at X60 l60 y60 z60 st60 hQ60
      subst l60 y60 z60
      refine own_go (fun _ k => st60.trans k) ?_
      obtain ⟨rfl, N60q, Kq60, Eq60, F60_entries, F60_bytes⟩ := hQ60
      replace B_b50 := B_b50.keep Kq60 (ninS ne_b50_b59 nin0)
      replace B_b51 := B_b51.keep Kq60 (ninS ne_b51_b59 nin0)
      replace A52 := A52.keep Kq60
      replace F55_entries := F55_entries.keep Kq60 (ninS ne_b52_b59 nin0)
      replace F55_bytes := F55_bytes.keep Kq60 (ninS ne_b52_b59 nin0)
      replace A56 := A56.keep Kq60
      replace F57_entries := F57_entries.keep Kq60 (ninS ne_b56_b59 nin0)
      replace F57_bytes := F57_bytes.keep Kq60 (ninS ne_b56_b59 nin0)
      replace A59 := A59.keep Kq60
      have K60 := K59.trans Kq60 (allS (Or.inr sz_b59) all0)
      have Z60 : n0 ≤ T60.heap.size := Nat.le_trans Z0 K60.1
      clear Eq60
      have N60 := Fr.app N58 N60q
      show own_Ends p e below T60 (mkF m 198 #[.val (.int p0), .val (.int p1), .val (.int p2), .val (.int p3), .val (.int p4), .val (.int ka), .val (.int va), .val (.int kb), .val (.int vb), .val (.int (1 : Int32)), .val (.int (1 : Int32)), .val (.ref b50), .val (.ref b51), .val .null, .val .null, .val (.long (ka.toInt64)), .second, .val (.long (kb.toInt64)), .second, .val (.long t), .second, .val (.ref b52), .val (.int (own_within ((2 : Int64)) t ((2 : Int32)) t)), .unset, .unset] [(.ref b59), (.ref b52)]) _
      obtain ⟨cq61, kq61, q61a, q61b, q61c⟩ := isOf hZ rfl A52
      obtain ⟨_, _, ⟨T61, L61, k61, n61⟩, -, X61, ⟨Lc61, hQ61, l61, y61, z61⟩, st61⟩ := X60.virtualBack hx (y := (⟨"com/example/wedge/wedge/Batch$Size", "within", "(Lcom/example/wedge/wedge/Batch$Limit;)Z"⟩ : MethodName)) (z := (⟨"com/example/wedge/wedge/Batch$Size", "within", "(Lcom/example/wedge/wedge/Batch$Limit;)Z"⟩ : MethodName)) hown (mvT hZ (hw _ (List.mem_of_getElem? (i := 35) rfl))) (mvT hZ (hw _ (List.mem_of_getElem? (i := 36) rfl))) (notFace_of_selects (args := #[]) (mvT hZ (hw _ (List.mem_of_getElem? (i := 38) rfl)))) (mvT hZ (hw _ (List.mem_of_getElem? (i := 38) rfl))) (mvT hZ (hw _ (List.mem_of_getElem? (i := 37) rfl))) (by decide) (backOf (W := 0) (rmWithin l Z a0 hw [] b52 b59 ((2 : Int64)) t ((1 : Int32)) ((9223372036854775807 : Int64)) (T60.heap) n0 Z60 F55_entries F55_bytes A59 F60_entries F60_bytes) hZ (hw _ (List.mem_of_getElem? (i := 39) rfl)) (hw _ (List.mem_of_getElem? (i := 3) rfl)) (by decide) (by decide)) q61a q61c (g := (mkF m 198 #[.val (.int p0), .val (.int p1), .val (.int p2), .val (.int p3), .val (.int p4), .val (.int ka), .val (.int va), .val (.int kb), .val (.int vb), .val (.int (1 : Int32)), .val (.int (1 : Int32)), .val (.ref b50), .val (.ref b51), .val .null, .val .null, .val (.long (ka.toInt64)), .second, .val (.long (kb.toInt64)), .second, .val (.long t), .second, .val (.ref b52), .val (.int (own_within ((2 : Int64)) t ((2 : Int32)) t)), .unset, .unset] [(.ref b59), (.ref b52)])) rfl (by rw [hml]; rfl) (Steps.refl _) (argsL := [(.ref b59)]) (rest := []) (lenOf pd_5 rfl) rfl (by show 2 * 0 + _ ≤ _; exact Nat.le_of_eq rfl) (hb hby at_198) (fun _ _ => ⟨rfl, rfl, (by decide : 5 + 0 ≤ _), (by decide : 36 + 0 ≤ _)⟩)
      dsimp only [Pt.U, Pt.locs, Pt.cells, Pt.slots] at X61 l61 y61 z61 st61 hQ61
      subst l61 y61 z61
      refine own_go (fun _ k => st61.trans k) ?_
      obtain ⟨rfl, N61q, eh61⟩ := hQ61
      have N61 := Fr.app N60 N61q
      show own_Ends p e below T61 (mkF m 201 #[.val (.int p0), .val (.int p1), .val (.int p2), .val (.int p3), .val (.int p4), .val (.int ka), .val (.int va), .val (.int kb), .val (.int vb), .val (.int (1 : Int32)), .val (.int (1 : Int32)), .val (.ref b50), .val (.ref b51), .val .null, .val .null, .val (.long (ka.toInt64)), .second, .val (.long (kb.toInt64)), .second, .val (.long t), .second, .val (.ref b52), .val (.int (own_within ((2 : Int64)) t ((2 : Int32)) t)), .unset, .unset] [(.int (own_within ((2 : Int64)) t ((1 : Int32)) ((9223372036854775807 : Int64))))]) _
      refine own_go (fun _ => XS.istore X61.here hx rfl (hb hby at_201) rfl (l' := #[.val (.int p0), .val (.int p1), .val (.int p2), .val (.int p3), .val (.int p4), .val (.int ka), .val (.int va), .val (.int kb), .val (.int vb), .val (.int (1 : Int32)), .val (.int (1 : Int32)), .val (.ref b50), .val (.ref b51), .val .null, .val .null, .val (.long (ka.toInt64)), .second, .val (.long (kb.toInt64)), .second, .val (.long t), .second, .val (.ref b52), .val (.int (own_within ((2 : Int64)) t ((2 : Int32)) t)), .val (.int (own_within ((2 : Int64)) t ((1 : Int32)) ((9223372036854775807 : Int64)))), .unset]) rfl) ?_
      show own_Ends p e below T61 (mkF m 203 #[.val (.int p0), .val (.int p1), .val (.int p2), .val (.int p3), .val (.int p4), .val (.int ka), .val (.int va), .val (.int kb), .val (.int vb), .val (.int (1 : Int32)), .val (.int (1 : Int32)), .val (.ref b50), .val (.ref b51), .val .null, .val .null, .val (.long (ka.toInt64)), .second, .val (.long (kb.toInt64)), .second, .val (.long t), .second, .val (.ref b52), .val (.int (own_within ((2 : Int64)) t ((2 : Int32)) t)), .val (.int (own_within ((2 : Int64)) t ((1 : Int32)) ((9223372036854775807 : Int64)))), .unset] []) _
      refine own_go (fun _ => XS.aload X61.here hx rfl (hb hby at_203) rfl rfl) ?_
      show own_Ends p e below T61 (mkF m 205 #[.val (.int p0), .val (.int p1), .val (.int p2), .val (.int p3), .val (.int p4), .val (.int ka), .val (.int va), .val (.int kb), .val (.int vb), .val (.int (1 : Int32)), .val (.int (1 : Int32)), .val (.ref b50), .val (.ref b51), .val .null, .val .null, .val (.long (ka.toInt64)), .second, .val (.long (kb.toInt64)), .second, .val (.long t), .second, .val (.ref b52), .val (.int (own_within ((2 : Int64)) t ((2 : Int32)) t)), .val (.int (own_within ((2 : Int64)) t ((1 : Int32)) ((9223372036854775807 : Int64)))), .unset] [(.ref b52)]) _
      obtain ⟨T62, h62, X62, e62, E62, A62, D62, -, st62⟩ := newO X61 hx hZ hown (hw _ (List.mem_of_getElem? (i := 19) rfl)) (hw _ (List.mem_of_getElem? (i := 20) rfl)) (hw _ (List.mem_of_getElem? (i := 21) rfl)) eh61 (g := (mkF m 205 #[.val (.int p0), .val (.int p1), .val (.int p2), .val (.int p3), .val (.int p4), .val (.int ka), .val (.int va), .val (.int kb), .val (.int vb), .val (.int (1 : Int32)), .val (.int (1 : Int32)), .val (.ref b50), .val (.ref b51), .val .null, .val .null, .val (.long (ka.toInt64)), .second, .val (.long (kb.toInt64)), .second, .val (.long t), .second, .val (.ref b52), .val (.int (own_within ((2 : Int64)) t ((2 : Int32)) t)), .val (.int (own_within ((2 : Int64)) t ((1 : Int32)) ((9223372036854775807 : Int64)))), .unset] [(.ref b52)])) rfl (hb hby at_205) (by decide) (by decide)
      obtain ⟨b62, g62⟩ : ∃ z, z = T60.heap.size := ⟨_, rfl⟩
      rw [← g62] at A62 D62 st62
      refine own_go st62 ?_
      have g_b62 : n0 ≤ b62 := Nat.le_trans Z60 (Nat.le_of_eq g62.symm)
      have sz_b62 : h0.size ≤ b62 := Nat.le_trans K60.1 (Nat.le_of_eq g62.symm)
      have ne_b50_b62 : b50 ≠ b62 := Nat.ne_of_lt (Nat.lt_of_lt_of_le B_b50.lt (Nat.le_of_eq g62.symm))
      have ne_b51_b62 : b51 ≠ b62 := Nat.ne_of_lt (Nat.lt_of_lt_of_le B_b51.lt (Nat.le_of_eq g62.symm))
      have ne_b52_b62 : b52 ≠ b62 := Nat.ne_of_lt (Nat.lt_of_lt_of_le A52.lt (Nat.le_of_eq g62.symm))
      have ne_b56_b62 : b56 ≠ b62 := Nat.ne_of_lt (Nat.lt_of_lt_of_le A56.lt (Nat.le_of_eq g62.symm))
      have ne_b59_b62 : b59 ≠ b62 := Nat.ne_of_lt (Nat.lt_of_lt_of_le A59.lt (Nat.le_of_eq g62.symm))
      replace B_b50 := B_b50.ext E62
      replace B_b51 := B_b51.ext E62
      replace A52 := A52.ext E62
      replace F55_entries := F55_entries.ext E62
      replace F55_bytes := F55_bytes.ext E62
      replace A56 := A56.ext E62
      replace F57_entries := F57_entries.ext E62
      replace F57_bytes := F57_bytes.ext E62
      replace A59 := A59.ext E62
      replace F60_entries := F60_entries.ext E62
      replace F60_bytes := F60_bytes.ext E62
      have K62 := K60.ext E62
      have Z62 : n0 ≤ h62.size := Nat.le_trans Z0 K62.1
      have F_b62_entries : Fld Z h62 b62 "com/example/wedge/wedge/Batch$Limit" "entries" "I" (.int (0 : Int32)) := D62 (Or.inr (hw _ (List.mem_of_getElem? (i := 32) rfl))) (ty := .int) (by decide)
      have F_b62_bytes : Fld Z h62 b62 "com/example/wedge/wedge/Batch$Limit" "bytes" "J" (.long (0 : Int64)) := D62 (Or.inr (hw _ (List.mem_of_getElem? (i := 34) rfl))) (ty := .long) (by decide)
      show own_Ends p e below T62 (mkF m 208 #[.val (.int p0), .val (.int p1), .val (.int p2), .val (.int p3), .val (.int p4), .val (.int ka), .val (.int va), .val (.int kb), .val (.int vb), .val (.int (1 : Int32)), .val (.int (1 : Int32)), .val (.ref b50), .val (.ref b51), .val .null, .val .null, .val (.long (ka.toInt64)), .second, .val (.long (kb.toInt64)), .second, .val (.long t), .second, .val (.ref b52), .val (.int (own_within ((2 : Int64)) t ((2 : Int32)) t)), .val (.int (own_within ((2 : Int64)) t ((1 : Int32)) ((9223372036854775807 : Int64)))), .unset] [(.ref b62), (.ref b52)]) _
      refine own_go (fun _ => XS.dup X62.here hx rfl (hb hby at_208) rfl rfl) ?_
      show own_Ends p e below T62 (mkF m 209 #[.val (.int p0), .val (.int p1), .val (.int p2), .val (.int p3), .val (.int p4), .val (.int ka), .val (.int va), .val (.int kb), .val (.int vb), .val (.int (1 : Int32)), .val (.int (1 : Int32)), .val (.ref b50), .val (.ref b51), .val .null, .val .null, .val (.long (ka.toInt64)), .second, .val (.long (kb.toInt64)), .second, .val (.long t), .second, .val (.ref b52), .val (.int (own_within ((2 : Int64)) t ((2 : Int32)) t)), .val (.int (own_within ((2 : Int64)) t ((1 : Int32)) ((9223372036854775807 : Int64)))), .unset] [(.ref b62), (.ref b62), (.ref b52)]) _
      refine own_go (fun _ => XS.iconst X62.here hx rfl (hb hby at_209)) ?_
      show own_Ends p e below T62 (mkF m 210 #[.val (.int p0), .val (.int p1), .val (.int p2), .val (.int p3), .val (.int p4), .val (.int ka), .val (.int va), .val (.int kb), .val (.int vb), .val (.int (1 : Int32)), .val (.int (1 : Int32)), .val (.ref b50), .val (.ref b51), .val .null, .val .null, .val (.long (ka.toInt64)), .second, .val (.long (kb.toInt64)), .second, .val (.long t), .second, .val (.ref b52), .val (.int (own_within ((2 : Int64)) t ((2 : Int32)) t)), .val (.int (own_within ((2 : Int64)) t ((1 : Int32)) ((9223372036854775807 : Int64)))), .unset] [(.int (2 : Int32)), (.ref b62), (.ref b62), (.ref b52)]) _
      refine own_go (fun _ => XS.lload X62.here hx rfl (hb hby at_210) rfl) ?_
      show own_Ends p e below T62 (mkF m 212 #[.val (.int p0), .val (.int p1), .val (.int p2), .val (.int p3), .val (.int p4), .val (.int ka), .val (.int va), .val (.int kb), .val (.int vb), .val (.int (1 : Int32)), .val (.int (1 : Int32)), .val (.ref b50), .val (.ref b51), .val .null, .val .null, .val (.long (ka.toInt64)), .second, .val (.long (kb.toInt64)), .second, .val (.long t), .second, .val (.ref b52), .val (.int (own_within ((2 : Int64)) t ((2 : Int32)) t)), .val (.int (own_within ((2 : Int64)) t ((1 : Int32)) ((9223372036854775807 : Int64)))), .unset] [(.long t), (.int (2 : Int32)), (.ref b62), (.ref b62), (.ref b52)]) _
      refine own_go (fun _ => XS.lconst X62.here hx rfl (hb hby at_212)) ?_
      show own_Ends p e below T62 (mkF m 213 #[.val (.int p0), .val (.int p1), .val (.int p2), .val (.int p3), .val (.int p4), .val (.int ka), .val (.int va), .val (.int kb), .val (.int vb), .val (.int (1 : Int32)), .val (.int (1 : Int32)), .val (.ref b50), .val (.ref b51), .val .null, .val .null, .val (.long (ka.toInt64)), .second, .val (.long (kb.toInt64)), .second, .val (.long t), .second, .val (.ref b52), .val (.int (own_within ((2 : Int64)) t ((2 : Int32)) t)), .val (.int (own_within ((2 : Int64)) t ((1 : Int32)) ((9223372036854775807 : Int64)))), .unset] [(.long (1 : Int64)), (.long t), (.int (2 : Int32)), (.ref b62), (.ref b62), (.ref b52)]) _
      refine own_go (fun _ => XS.lsub X62.here hx rfl (hb hby at_213) rfl) ?_
      show own_Ends p e below T62 (mkF m 214 #[.val (.int p0), .val (.int p1), .val (.int p2), .val (.int p3), .val (.int p4), .val (.int ka), .val (.int va), .val (.int kb), .val (.int vb), .val (.int (1 : Int32)), .val (.int (1 : Int32)), .val (.ref b50), .val (.ref b51), .val .null, .val .null, .val (.long (ka.toInt64)), .second, .val (.long (kb.toInt64)), .second, .val (.long t), .second, .val (.ref b52), .val (.int (own_within ((2 : Int64)) t ((2 : Int32)) t)), .val (.int (own_within ((2 : Int64)) t ((1 : Int32)) ((9223372036854775807 : Int64)))), .unset] [(.long (t - (1 : Int64))), (.int (2 : Int32)), (.ref b62), (.ref b62), (.ref b52)]) _
      obtain ⟨_, _, ⟨T63, L63, k63, n63⟩, -, X63, ⟨Lc63, hQ63, l63, y63, z63⟩, st63⟩ := X62.specialBack hx (y := (⟨"com/example/wedge/wedge/Batch$Limit", "<init>", "(IJ)V"⟩ : MethodName)) rfl hown (mvT hZ (hw _ (List.mem_of_getElem? (i := 22) rfl))) (mvT hZ (hw _ (List.mem_of_getElem? (i := 23) rfl))) (mvT hZ (hw _ (List.mem_of_getElem? (i := 24) rfl))) (by decide) (backOf (W := 2) (rmLInit l Z a0 hw [] b62 ((2 : Int32)) ((t - (1 : Int64)))  h62 n0 Z62 A62 F_b62_entries F_b62_bytes g_b62) hZ (hw _ (List.mem_of_getElem? (i := 24) rfl)) (hw _ (List.mem_of_getElem? (i := 21) rfl)) (by decide) (by decide)) (g := (mkF m 214 #[.val (.int p0), .val (.int p1), .val (.int p2), .val (.int p3), .val (.int p4), .val (.int ka), .val (.int va), .val (.int kb), .val (.int vb), .val (.int (1 : Int32)), .val (.int (1 : Int32)), .val (.ref b50), .val (.ref b51), .val .null, .val .null, .val (.long (ka.toInt64)), .second, .val (.long (kb.toInt64)), .second, .val (.long t), .second, .val (.ref b52), .val (.int (own_within ((2 : Int64)) t ((2 : Int32)) t)), .val (.int (own_within ((2 : Int64)) t ((1 : Int32)) ((9223372036854775807 : Int64)))), .unset] [(.long (t - (1 : Int64))), (.int (2 : Int32)), (.ref b62), (.ref b62), (.ref b52)])) rfl (by rw [hml]; rfl) (Steps.refl _) (a := b62) (argsL := [(.int (2 : Int32)), (.long (t - (1 : Int64)))]) (rest := [(.ref b62), (.ref b52)]) (lenOf pd_4 rfl) rfl (by show 2 * 0 + _ ≤ _; exact Nat.le_of_eq rfl) (hb hby at_214) (fun _ _ => ⟨rfl, e62, (by decide : 6 + 0 ≤ _), (by decide : 38 + 0 ≤ _)⟩)
      dsimp only [Pt.U, Pt.locs, Pt.cells, Pt.slots] at X63 l63 y63 z63 st63 hQ63
      subst l63 y63 z63
      refine own_go (fun _ k => st63.trans k) ?_
      obtain ⟨rfl, N63q, Kq63, Eq63, F63_entries, F63_bytes⟩ := hQ63
      replace B_b50 := B_b50.keep Kq63 (ninS ne_b50_b62 nin0)
      replace B_b51 := B_b51.keep Kq63 (ninS ne_b51_b62 nin0)
      replace A52 := A52.keep Kq63
      replace F55_entries := F55_entries.keep Kq63 (ninS ne_b52_b62 nin0)
      replace F55_bytes := F55_bytes.keep Kq63 (ninS ne_b52_b62 nin0)
      replace A56 := A56.keep Kq63
      replace F57_entries := F57_entries.keep Kq63 (ninS ne_b56_b62 nin0)
      replace F57_bytes := F57_bytes.keep Kq63 (ninS ne_b56_b62 nin0)
      replace A59 := A59.keep Kq63
      replace F60_entries := F60_entries.keep Kq63 (ninS ne_b59_b62 nin0)
      replace F60_bytes := F60_bytes.keep Kq63 (ninS ne_b59_b62 nin0)
      replace A62 := A62.keep Kq63
      have K63 := K62.trans Kq63 (allS (Or.inr sz_b62) all0)
      have Z63 : n0 ≤ T63.heap.size := Nat.le_trans Z0 K63.1
      clear Eq63
      have N63 := Fr.app N61 N63q
      show own_Ends p e below T63 (mkF m 217 #[.val (.int p0), .val (.int p1), .val (.int p2), .val (.int p3), .val (.int p4), .val (.int ka), .val (.int va), .val (.int kb), .val (.int vb), .val (.int (1 : Int32)), .val (.int (1 : Int32)), .val (.ref b50), .val (.ref b51), .val .null, .val .null, .val (.long (ka.toInt64)), .second, .val (.long (kb.toInt64)), .second, .val (.long t), .second, .val (.ref b52), .val (.int (own_within ((2 : Int64)) t ((2 : Int32)) t)), .val (.int (own_within ((2 : Int64)) t ((1 : Int32)) ((9223372036854775807 : Int64)))), .unset] [(.ref b62), (.ref b52)]) _
      obtain ⟨cq64, kq64, q64a, q64b, q64c⟩ := isOf hZ rfl A52
      obtain ⟨_, _, ⟨T64, L64, k64, n64⟩, -, X64, ⟨Lc64, hQ64, l64, y64, z64⟩, st64⟩ := X63.virtualBack hx (y := (⟨"com/example/wedge/wedge/Batch$Size", "within", "(Lcom/example/wedge/wedge/Batch$Limit;)Z"⟩ : MethodName)) (z := (⟨"com/example/wedge/wedge/Batch$Size", "within", "(Lcom/example/wedge/wedge/Batch$Limit;)Z"⟩ : MethodName)) hown (mvT hZ (hw _ (List.mem_of_getElem? (i := 35) rfl))) (mvT hZ (hw _ (List.mem_of_getElem? (i := 36) rfl))) (notFace_of_selects (args := #[]) (mvT hZ (hw _ (List.mem_of_getElem? (i := 38) rfl)))) (mvT hZ (hw _ (List.mem_of_getElem? (i := 38) rfl))) (mvT hZ (hw _ (List.mem_of_getElem? (i := 37) rfl))) (by decide) (backOf (W := 0) (rmWithin l Z a0 hw [] b52 b62 ((2 : Int64)) t ((2 : Int32)) ((t - (1 : Int64))) (T63.heap) n0 Z63 F55_entries F55_bytes A62 F63_entries F63_bytes) hZ (hw _ (List.mem_of_getElem? (i := 39) rfl)) (hw _ (List.mem_of_getElem? (i := 3) rfl)) (by decide) (by decide)) q64a q64c (g := (mkF m 217 #[.val (.int p0), .val (.int p1), .val (.int p2), .val (.int p3), .val (.int p4), .val (.int ka), .val (.int va), .val (.int kb), .val (.int vb), .val (.int (1 : Int32)), .val (.int (1 : Int32)), .val (.ref b50), .val (.ref b51), .val .null, .val .null, .val (.long (ka.toInt64)), .second, .val (.long (kb.toInt64)), .second, .val (.long t), .second, .val (.ref b52), .val (.int (own_within ((2 : Int64)) t ((2 : Int32)) t)), .val (.int (own_within ((2 : Int64)) t ((1 : Int32)) ((9223372036854775807 : Int64)))), .unset] [(.ref b62), (.ref b52)])) rfl (by rw [hml]; rfl) (Steps.refl _) (argsL := [(.ref b62)]) (rest := []) (lenOf pd_5 rfl) rfl (by show 2 * 0 + _ ≤ _; exact Nat.le_of_eq rfl) (hb hby at_217) (fun _ _ => ⟨rfl, rfl, (by decide : 6 + 0 ≤ _), (by decide : 38 + 0 ≤ _)⟩)
      dsimp only [Pt.U, Pt.locs, Pt.cells, Pt.slots] at X64 l64 y64 z64 st64 hQ64
      subst l64 y64 z64
      refine own_go (fun _ k => st64.trans k) ?_
      obtain ⟨rfl, N64q, eh64⟩ := hQ64
      have N64 := Fr.app N63 N64q
      show own_Ends p e below T64 (mkF m 220 #[.val (.int p0), .val (.int p1), .val (.int p2), .val (.int p3), .val (.int p4), .val (.int ka), .val (.int va), .val (.int kb), .val (.int vb), .val (.int (1 : Int32)), .val (.int (1 : Int32)), .val (.ref b50), .val (.ref b51), .val .null, .val .null, .val (.long (ka.toInt64)), .second, .val (.long (kb.toInt64)), .second, .val (.long t), .second, .val (.ref b52), .val (.int (own_within ((2 : Int64)) t ((2 : Int32)) t)), .val (.int (own_within ((2 : Int64)) t ((1 : Int32)) ((9223372036854775807 : Int64)))), .unset] [(.int (own_within ((2 : Int64)) t ((2 : Int32)) ((t - (1 : Int64)))))]) _
      refine own_go (fun _ => XS.istore X64.here hx rfl (hb hby at_220) rfl (l' := #[.val (.int p0), .val (.int p1), .val (.int p2), .val (.int p3), .val (.int p4), .val (.int ka), .val (.int va), .val (.int kb), .val (.int vb), .val (.int (1 : Int32)), .val (.int (1 : Int32)), .val (.ref b50), .val (.ref b51), .val .null, .val .null, .val (.long (ka.toInt64)), .second, .val (.long (kb.toInt64)), .second, .val (.long t), .second, .val (.ref b52), .val (.int (own_within ((2 : Int64)) t ((2 : Int32)) t)), .val (.int (own_within ((2 : Int64)) t ((1 : Int32)) ((9223372036854775807 : Int64)))), .val (.int (own_within ((2 : Int64)) t ((2 : Int32)) ((t - (1 : Int64)))))]) rfl) ?_
      show own_Ends p e below T64 (mkF m 222 #[.val (.int p0), .val (.int p1), .val (.int p2), .val (.int p3), .val (.int p4), .val (.int ka), .val (.int va), .val (.int kb), .val (.int vb), .val (.int (1 : Int32)), .val (.int (1 : Int32)), .val (.ref b50), .val (.ref b51), .val .null, .val .null, .val (.long (ka.toInt64)), .second, .val (.long (kb.toInt64)), .second, .val (.long t), .second, .val (.ref b52), .val (.int (own_within ((2 : Int64)) t ((2 : Int32)) t)), .val (.int (own_within ((2 : Int64)) t ((1 : Int32)) ((9223372036854775807 : Int64)))), .val (.int (own_within ((2 : Int64)) t ((2 : Int32)) ((t - (1 : Int64)))))] []) _
      refine own_go (fun _ => XS.iload X64.here hx rfl (hb hby at_222) rfl) ?_
      show own_Ends p e below T64 (mkF m 224 #[.val (.int p0), .val (.int p1), .val (.int p2), .val (.int p3), .val (.int p4), .val (.int ka), .val (.int va), .val (.int kb), .val (.int vb), .val (.int (1 : Int32)), .val (.int (1 : Int32)), .val (.ref b50), .val (.ref b51), .val .null, .val .null, .val (.long (ka.toInt64)), .second, .val (.long (kb.toInt64)), .second, .val (.long t), .second, .val (.ref b52), .val (.int (own_within ((2 : Int64)) t ((2 : Int32)) t)), .val (.int (own_within ((2 : Int64)) t ((1 : Int32)) ((9223372036854775807 : Int64)))), .val (.int (own_within ((2 : Int64)) t ((2 : Int32)) ((t - (1 : Int64)))))] [(.int (own_within ((2 : Int64)) t ((2 : Int32)) t))]) _
      refine own_go (fun _ => XS.ifNo X64.here hx rfl (hb hby at_224) rfl ((if0 _ _).trans (feq (show ¬ ((own_within ((2 : Int64)) t ((2 : Int32)) t) = (0 : Int32)) from own_w1 _)).1)) ?_
      show own_Ends p e below T64 (mkF m 227 #[.val (.int p0), .val (.int p1), .val (.int p2), .val (.int p3), .val (.int p4), .val (.int ka), .val (.int va), .val (.int kb), .val (.int vb), .val (.int (1 : Int32)), .val (.int (1 : Int32)), .val (.ref b50), .val (.ref b51), .val .null, .val .null, .val (.long (ka.toInt64)), .second, .val (.long (kb.toInt64)), .second, .val (.long t), .second, .val (.ref b52), .val (.int (own_within ((2 : Int64)) t ((2 : Int32)) t)), .val (.int (own_within ((2 : Int64)) t ((1 : Int32)) ((9223372036854775807 : Int64)))), .val (.int (own_within ((2 : Int64)) t ((2 : Int32)) ((t - (1 : Int64)))))] []) _
      refine own_go (fun _ => XS.iload X64.here hx rfl (hb hby at_227) rfl) ?_
      show own_Ends p e below T64 (mkF m 229 #[.val (.int p0), .val (.int p1), .val (.int p2), .val (.int p3), .val (.int p4), .val (.int ka), .val (.int va), .val (.int kb), .val (.int vb), .val (.int (1 : Int32)), .val (.int (1 : Int32)), .val (.ref b50), .val (.ref b51), .val .null, .val .null, .val (.long (ka.toInt64)), .second, .val (.long (kb.toInt64)), .second, .val (.long t), .second, .val (.ref b52), .val (.int (own_within ((2 : Int64)) t ((2 : Int32)) t)), .val (.int (own_within ((2 : Int64)) t ((1 : Int32)) ((9223372036854775807 : Int64)))), .val (.int (own_within ((2 : Int64)) t ((2 : Int32)) ((t - (1 : Int64)))))] [(.int (own_within ((2 : Int64)) t ((1 : Int32)) ((9223372036854775807 : Int64))))]) _
      refine own_go (fun _ => XS.ifNo X64.here hx rfl (hb hby at_229) rfl ((if0 _ _).trans (teq (show (own_within ((2 : Int64)) t ((1 : Int32)) ((9223372036854775807 : Int64))) = (0 : Int32) from own_w2 _)).2)) ?_
      show own_Ends p e below T64 (mkF m 232 #[.val (.int p0), .val (.int p1), .val (.int p2), .val (.int p3), .val (.int p4), .val (.int ka), .val (.int va), .val (.int kb), .val (.int vb), .val (.int (1 : Int32)), .val (.int (1 : Int32)), .val (.ref b50), .val (.ref b51), .val .null, .val .null, .val (.long (ka.toInt64)), .second, .val (.long (kb.toInt64)), .second, .val (.long t), .second, .val (.ref b52), .val (.int (own_within ((2 : Int64)) t ((2 : Int32)) t)), .val (.int (own_within ((2 : Int64)) t ((1 : Int32)) ((9223372036854775807 : Int64)))), .val (.int (own_within ((2 : Int64)) t ((2 : Int32)) ((t - (1 : Int64)))))] []) _
      refine own_go (fun _ => XS.iload X64.here hx rfl (hb hby at_232) rfl) ?_
      show own_Ends p e below T64 (mkF m 234 #[.val (.int p0), .val (.int p1), .val (.int p2), .val (.int p3), .val (.int p4), .val (.int ka), .val (.int va), .val (.int kb), .val (.int vb), .val (.int (1 : Int32)), .val (.int (1 : Int32)), .val (.ref b50), .val (.ref b51), .val .null, .val .null, .val (.long (ka.toInt64)), .second, .val (.long (kb.toInt64)), .second, .val (.long t), .second, .val (.ref b52), .val (.int (own_within ((2 : Int64)) t ((2 : Int32)) t)), .val (.int (own_within ((2 : Int64)) t ((1 : Int32)) ((9223372036854775807 : Int64)))), .val (.int (own_within ((2 : Int64)) t ((2 : Int32)) ((t - (1 : Int64)))))] [(.int (own_within ((2 : Int64)) t ((2 : Int32)) ((t - (1 : Int64)))))]) _
      refine own_go (fun _ => XS.ifNo X64.here hx rfl (hb hby at_234) rfl ((if0 _ _).trans (teq (show (own_within ((2 : Int64)) t ((2 : Int32)) ((t - (1 : Int64)))) = (0 : Int32) from own_w3 ht)).2)) ?_
      show own_Ends p e below T64 (mkF m 237 #[.val (.int p0), .val (.int p1), .val (.int p2), .val (.int p3), .val (.int p4), .val (.int ka), .val (.int va), .val (.int kb), .val (.int vb), .val (.int (1 : Int32)), .val (.int (1 : Int32)), .val (.ref b50), .val (.ref b51), .val .null, .val .null, .val (.long (ka.toInt64)), .second, .val (.long (kb.toInt64)), .second, .val (.long t), .second, .val (.ref b52), .val (.int (own_within ((2 : Int64)) t ((2 : Int32)) t)), .val (.int (own_within ((2 : Int64)) t ((1 : Int32)) ((9223372036854775807 : Int64)))), .val (.int (own_within ((2 : Int64)) t ((2 : Int32)) ((t - (1 : Int64)))))] []) _
      refine own_go (fun _ => XS.iconst X64.here hx rfl (hb hby at_237)) ?_
      show own_Ends p e below T64 (mkF m 238 #[.val (.int p0), .val (.int p1), .val (.int p2), .val (.int p3), .val (.int p4), .val (.int ka), .val (.int va), .val (.int kb), .val (.int vb), .val (.int (1 : Int32)), .val (.int (1 : Int32)), .val (.ref b50), .val (.ref b51), .val .null, .val .null, .val (.long (ka.toInt64)), .second, .val (.long (kb.toInt64)), .second, .val (.long t), .second, .val (.ref b52), .val (.int (own_within ((2 : Int64)) t ((2 : Int32)) t)), .val (.int (own_within ((2 : Int64)) t ((1 : Int32)) ((9223372036854775807 : Int64)))), .val (.int (own_within ((2 : Int64)) t ((2 : Int32)) ((t - (1 : Int64)))))] [(.int (1 : Int32))]) _
      refine own_go (fun _ => XS.goto X64.here hx rfl (pc0 := 238) (pc' := 242) rfl (hb hby at_238) (by decide) (by decide)) ?_
      show own_Ends p e below T64 (mkF m 242 #[.val (.int p0), .val (.int p1), .val (.int p2), .val (.int p3), .val (.int p4), .val (.int ka), .val (.int va), .val (.int kb), .val (.int vb), .val (.int (1 : Int32)), .val (.int (1 : Int32)), .val (.ref b50), .val (.ref b51), .val .null, .val .null, .val (.long (ka.toInt64)), .second, .val (.long (kb.toInt64)), .second, .val (.long t), .second, .val (.ref b52), .val (.int (own_within ((2 : Int64)) t ((2 : Int32)) t)), .val (.int (own_within ((2 : Int64)) t ((1 : Int32)) ((9223372036854775807 : Int64)))), .val (.int (own_within ((2 : Int64)) t ((2 : Int32)) ((t - (1 : Int64)))))] [(.int (1 : Int32))]) _
      obtain ⟨fs, hr, hrun, hended, hW, hsame⟩ := X64.leave (v := some (.int (1 : Int32))) (fun h => by rw [Bd.returns] at h; cases h)
      refine ⟨_, _, retN X64 hx (t := .boolean) Bd.returns (by simp) (hb hby at_242) hr, hrun, hended, _, _, rfl, ?_, ⟨_, rfl⟩, hW, hsame.mono (by decide) (by decide)⟩
      show Q_rm0 Z p0 p1 p2 p3 p4 h0 n0 _ T64.heap _
      rw [eh64]
      exact ⟨rfl, N64⟩
set_option maxRecDepth 65536 in
set_option maxHeartbeats 40000000 in
theorem comes_1 {Post : Tables → Env → Array Value → State → Outcome → State → Prop} (hpost : ∀ tb e args s v u, (limb_1_1.after args s (.returned v) u = true ∧ limb_1_2.after args s (.returned v) u = true ∧ True) → FrameEnd s (.returned v) u (Jvm.fieldLocs frame_1_writes args s ++ Jvm.arrayLocs frame_1_arrays args s ++ Jvm.staticLocs frame_1_statics s) 24 192 → Post tb e args s (.returned v) u) :
    ArmFor flags0 classFile x code maxLocals ret World_1 tables_1 room_1 Calls_1 rest_1 Pre_1 Post := by
  intro l hfl _ _ p e ha hc hk s m args below hf hA hF happ hP
  obtain ⟨hcalls, hrest, hpre⟩ := hP
  obtain ⟨-, -, -, hnamed, -, -, -, hat⟩ := (Spec.applies_iff hf).mp happ
  obtain ⟨hg, hn⟩ := and_e (Cond.before_iff.mp (show (Jvm.Cond.and given_1 narrow_1).before args s = true from hpre))
  obtain ⟨gv1, gv2⟩ := and_e hg
  obtain ⟨gv3, gv4⟩ := and_e gv2
  obtain ⟨gv5, gv6⟩ := and_e gv4
  obtain ⟨gv7, gv8⟩ := and_e gv6
  obtain ⟨gv9, gv10⟩ := and_e gv8
  obtain ⟨w0, w1, w2, w3, w4, rfl⟩ : ∃ w0 w1 w2 w3 w4 : Value, args = #[w0, w1, w2, w3, w4] := by
    have hs : args.size = 5 := by simpa [Cond.value, given_1] using gv1
    obtain ⟨L⟩ := args
    match L, hs with
    | [w0, w1, w2, w3, w4], _ => exact ⟨w0, w1, w2, w3, w4, rfl⟩
  have hw := fun d (hd : d ∈ tables_1) => atoms_spec (ws := Jvm.Cond.code x code maxLocals ret :: tables_1) hat d (List.mem_cons_of_mem _ hd)
  obtain ⟨i0, ei0⟩ := is_v gv3
  obtain rfl : w0 = (.int i0) := Option.some.inj ei0
  obtain ⟨i1, ei1⟩ := is_v gv5
  obtain rfl : w1 = (.int i1) := Option.some.inj ei1
  obtain ⟨i2, ei2⟩ := is_v gv7
  obtain rfl : w2 = (.int i2) := Option.some.inj ei2
  obtain ⟨i3, ei3⟩ := is_v gv9
  obtain rfl : w3 = (.int i3) := Option.some.inj ei3
  obtain ⟨i4, ei4⟩ := is_v gv10
  obtain rfl : w4 = (.int i4) := Option.some.inj ei4
  obtain ⟨n, o, h1, h2, h3, _, L, rfl, ⟨rfl, N⟩, hq⟩ := rm0 l s _ hw tables_1 i0 i1 i2 i3 i4 s.heap s.heap.size (Nat.le_refl _) p e ha hc hk s m _ below hf ((Spec.applies_iff_loose hf).mp happ).1 ⟨rfl, State.Warmed39.refl s, rfl⟩ trivial
  refine ⟨n, _, h1, h2, h3, hpost _ _ _ _ _ _ ⟨Cond.after_iff.mpr rfl, Cond.after_iff.mpr (eq_i res_at (Term.int_eval (1)) rfl), trivial⟩ ⟨hq.1, hq.2.1, (hq.2.2.sift fun y hy => Or.inr (N y hy)).mono (by decide) (by decide)⟩⟩
theorem main_1_1 : Claimed_1_1 := comes_1 fun _ _ _ _ _ _ h hF => ⟨h.1, hF⟩
theorem main_1_2 : Claimed_1_2 := comes_1 fun _ _ _ _ _ _ h hF => ⟨h.2.1, hF⟩
end Jvm.Pilot.@@N@@
namespace Jvm.Pilot.@@N@@
open Jvm Jvm.ClassFile Sem Op Lib Jvm.Free Jvm.Stand Jvm.Pilot.@@N@@.Jvm.D
/-! MADE BY PROGRAM (witnessworld.py) out of the Statement's table words and the real class files: 11 classes; the members and pool entries that the words name. The judged class is class 1, her method 1. -/
namespace start1
open Jvm.ClassFile
def u (s : String) : CpInfo := .utf8 (stringToUtf16 s)
/-- a pool by its gaps: so many unusable entries, then the entry; so many at the end -/
def gap : Nat → List CpInfo → List CpInfo
  | 0, r => r
  | n + 1, r => .unusable :: gap n r
def poolList (es : List (Nat × CpInfo)) (last : Nat) : List CpInfo := es.foldr (fun e r => gap e.1 (e.2 :: r)) (gap last [])
def pool (es : List (Nat × CpInfo)) (last : Nat) : Array CpInfo := ⟨poolList es last⟩
def fileOf (pool : Array CpInfo) (this : Nat) (attrs : Array Attribute := #[]) (ms : Array MethodInfo := #[]) (fl : Nat := 33) (sup : Nat := 0) (ifs : Array Nat := #[]) (fds : Array FieldInfo := #[]) : ClassFile where
  minorVersion := 0
  majorVersion := 65
  constantPool := pool
  accessFlags := fl
  thisClass := this
  superClass := sup
  interfaces := ifs
  fields := fds
  methods := ms
  attributes := attrs
def plain (name : String) (sup : Option ClassId) : Class where
  name := name
  kind := .ordinary
  loader := none
  accessFlags := 33
  super := sup
  interfaces := #[]
  cf := none
  fields := #[]
  methods := #[]
  instanceTypes := #[]
  staticTypes := #[]
  resolved := #[]
  callSites := []
  init := .initialized
  statics := none
  mirror := none

def pool0 : Array CpInfo := pool [(5, u "<init>"), (0, u "()V"), (1, .class_ 10), (1, u "java/lang/Object")] 113

def k0c0 : Code := { maxStack := 0, maxLocals := 1, code := object_method_1_code, exceptionTable := #[], attributes := #[] }
def k0m0 : Method := { name := "<init>", desc := "()V", sig := { parameters := [], returnType := none }, accessFlags := 1, code := some k0c0 }
/-- java/lang/Object -/
def k0 : Class := { plain "java/lang/Object" none with
  accessFlags := 33
  interfaces := #[]
  cf := some (fileOf pool0 8 #[] #[{ accessFlags := 1, nameIndex := 5, descriptorIndex := 6, attributes := #[] }] 33 0 #[] #[])
  fields := #[]
  methods := #[k0m0]
  instanceTypes := #[]
  staticTypes := #[]
  resolved := Array.replicate 124 none
  statics := none }

def pool1 : Array CpInfo := pool [(2, .class_ 4), (0, .nameAndType 5 6), (0, u "java/lang/Object"), (0, u "<init>"), (0, u "()V"), (0, .class_ 8), (0, u "com/example/wedge/wedge/Batch$Size"), (0, .methodref 7 3), (0, .methodref 7 11), (0, .nameAndType 12 13), (0, u "add"), (0, u "([B[B)V"), (0, .class_ 15), (0, u "com/example/wedge/wedge/Batch$Limit"), (0, .methodref 14 17), (0, .nameAndType 5 18), (0, u "(IJ)V"), (0, .methodref 7 20), (0, .nameAndType 21 22), (0, u "within"), (0, u "(Lcom/example/wedge/wedge/Batch$Limit;)Z"), (2, .long 9223372036854775807), (1, .class_ 28), (0, u "com/example/wedge/wedge/SizeAddPinLaw"), (2, u "law"), (0, u "(IIIII)Z")] 10

def k1m0 : Method := { name := "<init>", desc := "()V", sig := { parameters := [], returnType := none }, accessFlags := 1, code := none }
def k1c1 : Code := { maxStack := 8, maxLocals := 25, code := code, exceptionTable := #[], attributes := #[] }
def k1m1 : Method := { name := "law", desc := "(IIIII)Z", sig := { parameters := [.int, .int, .int, .int, .int], returnType := some .boolean }, accessFlags := 9, code := some k1c1 }
/-- com/example/wedge/wedge/SizeAddPinLaw -/
def k1 : Class := { plain "com/example/wedge/wedge/SizeAddPinLaw" (some 0) with
  accessFlags := 49
  interfaces := #[]
  cf := some (fileOf pool1 27 #[] #[{ accessFlags := 1, nameIndex := 5, descriptorIndex := 6, attributes := #[] }, { accessFlags := 9, nameIndex := 31, descriptorIndex := 32, attributes := #[] }] 49 2 #[] #[])
  fields := #[]
  methods := #[k1m0, k1m1]
  instanceTypes := #[]
  staticTypes := #[]
  resolved := Array.replicate 43 none
  statics := none }

def pool2 : Array CpInfo := pool [(1, .methodref 2 3), (0, .class_ 4), (0, .nameAndType 5 6), (0, u "java/lang/Object"), (0, u "<init>"), (0, u "()V"), (0, .fieldref 8 9), (0, .class_ 10), (0, .nameAndType 11 12), (0, u "com/example/wedge/wedge/Batch$Size"), (0, u "entries"), (0, u "J"), (0, .fieldref 8 14), (0, .nameAndType 15 12), (0, u "bytes"), (0, .methodref 17 18), (0, .class_ 19), (0, .nameAndType 11 20), (0, u "com/example/wedge/wedge/Batch$Limit"), (0, u "()I"), (0, .methodref 17 22), (0, .nameAndType 15 23), (0, u "()J"), (2, u "add"), (0, u "([B[B)V"), (5, u "within"), (0, u "(Lcom/example/wedge/wedge/Batch$Limit;)Z"), (3, .class_ 39), (0, u "com/example/wedge/wedge/Batch")] 3

def k2c0 : Code := { maxStack := 1, maxLocals := 1, code := prog_3_method_1_code, exceptionTable := #[], attributes := #[] }
def k2m0 : Method := { name := "<init>", desc := "()V", sig := { parameters := [], returnType := none }, accessFlags := 0, code := some k2c0 }
def k2c1 : Code := { maxStack := 5, maxLocals := 3, code := prog_3_method_2_code, exceptionTable := #[], attributes := #[] }
def k2m1 : Method := { name := "add", desc := "([B[B)V", sig := { parameters := [(.array .byte), (.array .byte)], returnType := none }, accessFlags := 0, code := some k2c1 }
def k2c2 : Code := { maxStack := 4, maxLocals := 2, code := prog_3_method_4_code, exceptionTable := #[], attributes := #[] }
def k2m2 : Method := { name := "within", desc := "(Lcom/example/wedge/wedge/Batch$Limit;)Z", sig := { parameters := [(.object "com/example/wedge/wedge/Batch$Limit")], returnType := some .boolean }, accessFlags := 0, code := some k2c2 }
/-- com/example/wedge/wedge/Batch$Size -/
def k2 : Class := { plain "com/example/wedge/wedge/Batch$Size" (some 0) with
  accessFlags := 48
  interfaces := #[]
  cf := some (fileOf pool2 8 #[.nestHost 38] #[{ accessFlags := 0, nameIndex := 5, descriptorIndex := 6, attributes := #[] }, { accessFlags := 0, nameIndex := 26, descriptorIndex := 27, attributes := #[] }, { accessFlags := 0, nameIndex := 33, descriptorIndex := 34, attributes := #[] }] 48 2 #[] #[{ accessFlags := 2, nameIndex := 11, descriptorIndex := 12, attributes := #[] }, { accessFlags := 2, nameIndex := 15, descriptorIndex := 12, attributes := #[] }])
  fields := #[{ name := "entries", type := .long, accessFlags := 2, slot := 0, constantValue := 0 }, { name := "bytes", type := .long, accessFlags := 2, slot := 1, constantValue := 0 }]
  methods := #[k2m0, k2m1, k2m2]
  instanceTypes := #[.long, .long]
  staticTypes := #[]
  resolved := Array.replicate 43 none
  statics := none }

def pool3 : Array CpInfo := pool [(1, .methodref 2 3), (0, .class_ 4), (0, .nameAndType 5 6), (0, u "java/lang/Object"), (0, u "<init>"), (0, u "()V"), (0, .class_ 8), (0, u "java/lang/Record")] 13

def k3c0 : Code := { maxStack := 1, maxLocals := 1, code := jdk_30_method_1_code, exceptionTable := #[], attributes := #[] }
def k3m0 : Method := { name := "<init>", desc := "()V", sig := { parameters := [], returnType := none }, accessFlags := 4, code := some k3c0 }
/-- java/lang/Record -/
def k3 : Class := { plain "java/lang/Record" (some 0) with
  accessFlags := 1057
  interfaces := #[]
  cf := some (fileOf pool3 7 #[] #[{ accessFlags := 4, nameIndex := 5, descriptorIndex := 6, attributes := #[] }] 1057 2 #[] #[])
  fields := #[]
  methods := #[k3m0]
  instanceTypes := #[]
  staticTypes := #[]
  resolved := Array.replicate 22 none
  statics := none }

def pool4 : Array CpInfo := pool [(1, .methodref 2 3), (0, .class_ 4), (0, .nameAndType 5 6), (0, u "java/lang/Record"), (0, u "<init>"), (0, u "()V"), (0, .fieldref 8 9), (0, .class_ 10), (0, .nameAndType 11 12), (0, u "com/example/wedge/wedge/Batch$Limit"), (0, u "entries"), (0, u "I"), (0, .fieldref 8 14), (0, .nameAndType 15 16), (0, u "bytes"), (0, u "J"), (21, u "(IJ)V"), (2, u "NONE"), (0, u "Lcom/example/wedge/wedge/Batch$Limit;"), (4, u "()I"), (1, u "()J"), (4, .class_ 55), (0, u "com/example/wedge/wedge/Batch")] 20

def k4c0 : Code := { maxStack := 3, maxLocals := 4, code := prog_2_method_1_code, exceptionTable := #[], attributes := #[] }
def k4m0 : Method := { name := "<init>", desc := "(IJ)V", sig := { parameters := [.int, .long], returnType := none }, accessFlags := 1, code := some k4c0 }
def k4c1 : Code := { maxStack := 1, maxLocals := 1, code := prog_2_method_5_code, exceptionTable := #[], attributes := #[] }
def k4m1 : Method := { name := "entries", desc := "()I", sig := { parameters := [], returnType := some .int }, accessFlags := 1, code := some k4c1 }
def k4c2 : Code := { maxStack := 2, maxLocals := 1, code := prog_2_method_6_code, exceptionTable := #[], attributes := #[] }
def k4m2 : Method := { name := "bytes", desc := "()J", sig := { parameters := [], returnType := some .long }, accessFlags := 1, code := some k4c2 }
/-- com/example/wedge/wedge/Batch$Limit -/
def k4 : Class := { plain "com/example/wedge/wedge/Batch$Limit" (some 3) with
  accessFlags := 49
  interfaces := #[]
  cf := some (fileOf pool4 8 #[.nestHost 54] #[{ accessFlags := 1, nameIndex := 5, descriptorIndex := 38, attributes := #[] }, { accessFlags := 1, nameIndex := 11, descriptorIndex := 47, attributes := #[] }, { accessFlags := 1, nameIndex := 15, descriptorIndex := 49, attributes := #[] }] 49 2 #[] #[{ accessFlags := 18, nameIndex := 11, descriptorIndex := 12, attributes := #[] }, { accessFlags := 18, nameIndex := 15, descriptorIndex := 16, attributes := #[] }, { accessFlags := 25, nameIndex := 41, descriptorIndex := 42, attributes := #[] }])
  fields := #[{ name := "entries", type := .int, accessFlags := 18, slot := 0, constantValue := 0 }, { name := "bytes", type := .long, accessFlags := 18, slot := 1, constantValue := 0 }, { name := "NONE", type := (.object "com/example/wedge/wedge/Batch$Limit"), accessFlags := 25, slot := 0, constantValue := 0 }]
  methods := #[k4m0, k4m1, k4m2]
  instanceTypes := #[.int, .long]
  staticTypes := #[(.object "com/example/wedge/wedge/Batch$Limit")]
  resolved := Array.replicate 76 none
  statics := none }

def pool5 : Array CpInfo := pool [(1, u "java/lang/Cloneable"), (0, .class_ 1), (0, u "java/lang/Object"), (0, .class_ 3)] 3

/-- java/lang/Cloneable -/
def k5 : Class := { plain "java/lang/Cloneable" (some 0) with
  accessFlags := 1537
  interfaces := #[]
  cf := some (fileOf pool5 2 #[] #[] 1537 4 #[] #[])
  fields := #[]
  methods := #[]
  instanceTypes := #[]
  staticTypes := #[]
  resolved := Array.replicate 8 none
  statics := none }

def pool6 : Array CpInfo := pool [(1, u "java/io/Serializable"), (0, .class_ 1), (0, u "java/lang/Object"), (0, .class_ 3)] 3

/-- java/io/Serializable -/
def k6 : Class := { plain "java/io/Serializable" (some 0) with
  accessFlags := 1537
  interfaces := #[]
  cf := some (fileOf pool6 2 #[] #[] 1537 4 #[] #[])
  fields := #[]
  methods := #[]
  instanceTypes := #[]
  staticTypes := #[]
  resolved := Array.replicate 8 none
  statics := none }

/-- the primitive byte -/
def k7 : Class := { plain "byte" none with kind := .primitive 'B', accessFlags := 0x411 }
/-- [B -/
def k8 : Class := { plain "[B" (some 0) with kind := .array 7 .byte, interfaces := #[5, 6], accessFlags := 1041 }

/-- the primitive int -/
def k9 : Class := { plain "int" none with kind := .primitive 'I', accessFlags := 0x411 }
/-- [I -/
def k10 : Class := { plain "[I" (some 0) with kind := .array 9 .int, interfaces := #[5, 6], accessFlags := 1041 }

def heap : Heap := #[]
def classes : Array Class := #[k0, k1, k2, k3, k4, k5, k6, k7, k8, k9, k10]
def interned : List (Array UInt16 × Addr) := []
def slotsUsed : Nat := 0
def theMethod : MethodId := ⟨1, 1⟩
def args0 : Array Value := #[.int 5, .int 7, .int 3, .int 4, .int 2]
def aboutOver (below : List Frame) : State where
  vm := { classes := classes, interned := interned.toArray }
  heap := heap
  slotsUsed := slotsUsed
  threads := #[{ frames := .invoking theMethod args0 :: below }]
def below0 : List Frame := [.native { method := ⟨0, 0⟩, args := #[] }]
def about1 : State := aboutOver below0
def p0 : Program := .bare "" "" ""
def e0 : Env := launch0.env 0 0 0
theorem w_frames : about1.frames = Frame.invoking theMethod args0 :: below0 := rfl
set_option maxRecDepth 65536 in
theorem w_args : argsFit about1.vm theMethod args0 = true := by decide +kernel
set_option maxRecDepth 65536 in
theorem w_heap : heapFits about1 = true := by decide +kernel
set_option maxRecDepth 65536 in
theorem w_runnable : about1.curStatus? = some .runnable := by decide +kernel
set_option maxRecDepth 65536 in
theorem w_alone : about1.alone = true := by decide +kernel
set_option maxRecDepth 65536 in
theorem w_named : about1.methodNamed? x = some theMethod := by decide +kernel
set_option maxRecDepth 65536 in
theorem w_hears : about1.hears theMethod below0 = true := by decide +kernel
set_option maxRecDepth 65536 in
theorem w_ripe : about1.ripe theMethod args0 below0 = true := by decide +kernel
theorem w_running : about1.status = .running := rfl
set_option maxRecDepth 65536 in
theorem w_room : about1.hasRoom e0.platform room_1 = true :=
  launch0.hasRoom_least _ room_1 (by decide +kernel) (by decide +kernel) (by decide +kernel) (by decide +kernel) (by decide +kernel) (by decide +kernel)
theorem allAtoms_all (ts : List Jvm.Cond) (a : Array Jvm.Value) (st : Jvm.State) : (allAtoms ts).before a st = ts.all (fun c => c.before a st) := by
  induction ts with
  | nil => rfl
  | cons c t ih =>
    show (Jvm.Cond.and c (allAtoms t)).before a st = _
    rw [Jvm.Cond.before_and, ih, List.all_cons]
def words1 : List Jvm.Cond := Jvm.Cond.code x code maxLocals ret :: tables_1
/-- a 'code' word, met by the world's own term for the bytes: nothing is compared byte by byte -/
theorem code_word {y : MethodName} {bytes : ByteArray} {mx : Nat} {rt : Option FieldType} {a : Array Value} {s : State} {m : MethodId} {meth : Method} {c : Code} (h1 : s.methodNamed? y = some m) (h2 : s.vm.method? m = some meth) (h3 : meth.code = some c) (h4 : c.code = bytes)
    (h5 : (c.maxLocals == mx && c.exceptionTable.isEmpty && decide (c.maxStack ≤ mostOperands) && decide (meth.sig.returnType = rt) && !meth.locks && decide (parseMethodDescriptor y.desc = some meth.sig)) = true) : (Jvm.Cond.code y bytes mx rt).before a s = true := by
  simp only [Bool.and_eq_true, beq_iff_eq, Bool.not_eq_true', decide_eq_true_eq] at h5
  obtain ⟨⟨⟨⟨⟨g1, g2⟩, g3⟩, g4⟩, g5⟩, g6⟩ := h5
  simp [Cond.before, Cond.holds, Cond.value, h1, h2, h3, h4, g1, g2, g3, g4, g5, g6]
def isCode : Jvm.Cond → Bool
  | .code _ _ _ _ => true
  | _ => false
theorem all_split {L : List Jvm.Cond} {P : Jvm.Cond → Bool} (h1 : L.all (fun c => isCode c || P c) = true) (h2 : ∀ c ∈ L.filter isCode, P c = true) : L.all P = true := by
  refine List.all_eq_true.mpr fun c hc => ?_
  have h := List.all_eq_true.mp h1 c hc
  rcases Bool.eq_false_or_eq_true (isCode c) with hi | hi
  · exact h2 c (List.mem_filter.mpr ⟨hc, hi⟩)
  · simpa [hi] using h
set_option maxRecDepth 65536 in
theorem w_c0 : (Jvm.Cond.code x code maxLocals ret).before args0 about1 = true := code_word (m := ⟨1, 1⟩) (meth := k1m1) (c := k1c1) (by decide +kernel) rfl rfl rfl (by decide +kernel)
set_option maxRecDepth 65536 in
theorem w_c1 : (Jvm.Cond.code ({ cls := "com/example/wedge/wedge/Batch$Size", name := "<init>", desc := "()V" } : Jvm.MethodName) prog_3_method_1_code (1 : Nat) (Option.none : Option Jvm.ClassFile.FieldType)).before args0 about1 = true := code_word (m := ⟨2, 0⟩) (meth := k2m0) (c := k2c0) (by decide +kernel) rfl rfl rfl (by decide +kernel)
set_option maxRecDepth 65536 in
theorem w_c2 : (Jvm.Cond.code ({ cls := "java/lang/Object", name := "<init>", desc := "()V" } : Jvm.MethodName) object_method_1_code (1 : Nat) (Option.none : Option Jvm.ClassFile.FieldType)).before args0 about1 = true := code_word (m := ⟨0, 0⟩) (meth := k0m0) (c := k0c0) (by decide +kernel) rfl rfl rfl (by decide +kernel)
set_option maxRecDepth 65536 in
theorem w_c3 : (Jvm.Cond.code ({ cls := "com/example/wedge/wedge/Batch$Size", name := "add", desc := "([B[B)V" } : Jvm.MethodName) prog_3_method_2_code (3 : Nat) (Option.none : Option Jvm.ClassFile.FieldType)).before args0 about1 = true := code_word (m := ⟨2, 1⟩) (meth := k2m1) (c := k2c1) (by decide +kernel) rfl rfl rfl (by decide +kernel)
set_option maxRecDepth 65536 in
theorem w_c4 : (Jvm.Cond.code ({ cls := "com/example/wedge/wedge/Batch$Limit", name := "<init>", desc := "(IJ)V" } : Jvm.MethodName) prog_2_method_1_code (4 : Nat) (Option.none : Option Jvm.ClassFile.FieldType)).before args0 about1 = true := code_word (m := ⟨4, 0⟩) (meth := k4m0) (c := k4c0) (by decide +kernel) rfl rfl rfl (by decide +kernel)
set_option maxRecDepth 65536 in
theorem w_c5 : (Jvm.Cond.code ({ cls := "java/lang/Record", name := "<init>", desc := "()V" } : Jvm.MethodName) jdk_30_method_1_code (1 : Nat) (Option.none : Option Jvm.ClassFile.FieldType)).before args0 about1 = true := code_word (m := ⟨3, 0⟩) (meth := k3m0) (c := k3c0) (by decide +kernel) rfl rfl rfl (by decide +kernel)
set_option maxRecDepth 65536 in
theorem w_c6 : (Jvm.Cond.code ({ cls := "com/example/wedge/wedge/Batch$Size", name := "within", desc := "(Lcom/example/wedge/wedge/Batch$Limit;)Z" } : Jvm.MethodName) prog_3_method_4_code (2 : Nat) (Option.some Jvm.ClassFile.FieldType.boolean)).before args0 about1 = true := code_word (m := ⟨2, 2⟩) (meth := k2m2) (c := k2c2) (by decide +kernel) rfl rfl rfl (by decide +kernel)
set_option maxRecDepth 65536 in
theorem w_c7 : (Jvm.Cond.code ({ cls := "com/example/wedge/wedge/Batch$Limit", name := "entries", desc := "()I" } : Jvm.MethodName) prog_2_method_5_code (1 : Nat) (Option.some Jvm.ClassFile.FieldType.int)).before args0 about1 = true := code_word (m := ⟨4, 1⟩) (meth := k4m1) (c := k4c1) (by decide +kernel) rfl rfl rfl (by decide +kernel)
set_option maxRecDepth 65536 in
theorem w_c8 : (Jvm.Cond.code ({ cls := "com/example/wedge/wedge/Batch$Limit", name := "bytes", desc := "()J" } : Jvm.MethodName) prog_2_method_6_code (1 : Nat) (Option.some Jvm.ClassFile.FieldType.long)).before args0 about1 = true := code_word (m := ⟨4, 2⟩) (meth := k4m2) (c := k4c2) (by decide +kernel) rfl rfl rfl (by decide +kernel)
def codes1 : List Jvm.Cond := [Jvm.Cond.code x code maxLocals ret, Jvm.Cond.code ({ cls := "com/example/wedge/wedge/Batch$Size", name := "<init>", desc := "()V" } : Jvm.MethodName) prog_3_method_1_code (1 : Nat) (Option.none : Option Jvm.ClassFile.FieldType), Jvm.Cond.code ({ cls := "java/lang/Object", name := "<init>", desc := "()V" } : Jvm.MethodName) object_method_1_code (1 : Nat) (Option.none : Option Jvm.ClassFile.FieldType), Jvm.Cond.code ({ cls := "com/example/wedge/wedge/Batch$Size", name := "add", desc := "([B[B)V" } : Jvm.MethodName) prog_3_method_2_code (3 : Nat) (Option.none : Option Jvm.ClassFile.FieldType), Jvm.Cond.code ({ cls := "com/example/wedge/wedge/Batch$Limit", name := "<init>", desc := "(IJ)V" } : Jvm.MethodName) prog_2_method_1_code (4 : Nat) (Option.none : Option Jvm.ClassFile.FieldType), Jvm.Cond.code ({ cls := "java/lang/Record", name := "<init>", desc := "()V" } : Jvm.MethodName) jdk_30_method_1_code (1 : Nat) (Option.none : Option Jvm.ClassFile.FieldType), Jvm.Cond.code ({ cls := "com/example/wedge/wedge/Batch$Size", name := "within", desc := "(Lcom/example/wedge/wedge/Batch$Limit;)Z" } : Jvm.MethodName) prog_3_method_4_code (2 : Nat) (Option.some Jvm.ClassFile.FieldType.boolean), Jvm.Cond.code ({ cls := "com/example/wedge/wedge/Batch$Limit", name := "entries", desc := "()I" } : Jvm.MethodName) prog_2_method_5_code (1 : Nat) (Option.some Jvm.ClassFile.FieldType.int), Jvm.Cond.code ({ cls := "com/example/wedge/wedge/Batch$Limit", name := "bytes", desc := "()J" } : Jvm.MethodName) prog_2_method_6_code (1 : Nat) (Option.some Jvm.ClassFile.FieldType.long)]
set_option maxRecDepth 65536 in
theorem codes_eq : words1.filter isCode = codes1 := rfl
theorem w_codes : ∀ c ∈ words1.filter isCode, c.before args0 about1 = true := by
  rw [codes_eq]
  intro c hc
  simp only [codes1, List.mem_cons, List.not_mem_nil, or_false] at hc
  rcases hc with rfl | rfl | rfl | rfl | rfl | rfl | rfl | rfl | rfl
  · exact w_c0
  · exact w_c1
  · exact w_c2
  · exact w_c3
  · exact w_c4
  · exact w_c5
  · exact w_c6
  · exact w_c7
  · exact w_c8
set_option maxRecDepth 65536 in
theorem w_t1 : (words1.take 24).all (fun c => isCode c || c.before args0 about1) = true := by decide +kernel
set_option maxRecDepth 65536 in
theorem w_t2 : ((words1.drop 24).take 24).all (fun c => isCode c || c.before args0 about1) = true := by decide +kernel
set_option maxRecDepth 65536 in
theorem w_t3 : ((words1.drop 24).drop 24).all (fun c => isCode c || c.before args0 about1) = true := by decide +kernel
theorem w_tables : (allAtoms (Jvm.Cond.code x code maxLocals ret :: tables_1)).before args0 about1 = true := by
  rw [allAtoms_all]
  show words1.all (fun c => c.before args0 about1) = true
  refine all_split ?_ w_codes
  rw [← List.take_append_drop 24 words1, List.all_append, w_t1, ← List.take_append_drop 24 (words1.drop 24), List.all_append, w_t2, w_t3]
  rfl
set_option maxRecDepth 65536 in
theorem w_case : (Jvm.Cond.and given_1 narrow_1).before args0 about1 = true := by decide +kernel
theorem w_applies : (headSpec (Jvm.Cond.code x code maxLocals ret :: tables_1) room_1).applies x e0.platform about1 = true :=
  (Spec.applies_iff w_frames).mpr ⟨w_running, w_runnable, w_alone, w_named, w_hears, w_ripe, w_room, w_tables⟩
theorem atStart : AtStart classFile x code maxLocals ret World_1 tables_1 room_1 Calls_1 rest_1 Pre_1 launch0 p0 e0 about1 theMethod args0 below0 :=
  ⟨lists_1, trivial, launch0.admits_env _ _ _, launch0.least_env, fairChoices_fair.cas, fairChoices_fair.clock, w_frames, w_args, w_heap, w_applies, trivial, trivial, w_case⟩
end start1
theorem witness_1 : WitnessClaimed_1 := ⟨start1.p0, start1.e0, start1.about1, start1.theMethod, start1.args0, start1.below0, start1.atStart⟩
end Jvm.Pilot.@@N@@
