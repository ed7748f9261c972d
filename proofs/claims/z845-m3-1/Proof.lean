import JvmDerived
import JvmDerived.Pilot.@@N@@Statement
import JvmDerived.Pilot.@@N@@Code
set_option linter.unusedVariables false
set_option linter.unusedSimpArgs false
namespace Jvm.RoadKit
open Sem ClassFile Op Lib Jvm.Stand Jvm.Free Jvm.LawKit
section New
variable {p : Program} {l : Launch} {e : Env} {R : Room} {s : State} {m : MethodId} {args : Array Value} {below : List Frame} {meth : Method} {c : Code} {T : State} {locs : List Loc} {cells slots : Nat}
theorem retI (X : Stand p l e R s m args below meth c T locs cells slots) (hx : p.tables.exec = Jvm.exec) {pc : Nat} {Ls : Array Slot} {z : Int32} {rest : List Value} (hret : meth.sig.returnType = some .int) (hd : decode c.code pc = .ok (.ireturn, 1)) {fs : List Frame}
    (hl : ∀ (f : JFrame) (acts : List Action), f.method = m → f.locked = none → f.entered = [] → (doReturn e (T.setTop f) acts (some (.int z))).1 = T.setFrames fs) : Steps p.tables e below (T.setTop (mkF m pc Ls (.int z :: rest))) (T.setFrames fs) := by
  have hm' : T.vm.method? m = some meth := X.method'
  have hn : narrow .int (.int z) = .int z := rfl
  show Steps p.tables e below (T.setTop { method := m, pc := pc, locals := Ls, stack := _ :: rest, locked := none }) _
  jvm_step X.here [X.here.top, hx, hd, hm', hret, hn]
  first | (intro acts; rw [hl _ acts rfl rfl rfl]) | rw [hl _ _ rfl rfl rfl]
  exact Steps.refl _
end New
end Jvm.RoadKit
namespace Jvm.Pilot.@@N@@
open Jvm Jvm.ClassFile Sem Op Lib Jvm.Free Jvm.Stand Jvm.LawKit Jvm.RoadKit Bundle Jvm.Pilot.@@N@@.Jvm.D
def own_Ends (p : Program) (e : Env) (below : List Frame) (T : State) (g : JFrame) (P : Outcome → State → Prop) : Prop := ∃ s₂ o, Steps p.tables e below (T.setTop g) s₂ ∧ s₂.status = .running ∧ Ended s₂ below o ∧ P o s₂
theorem own_go {p : Program} {e : Env} {below : List Frame} {T T' : State} {g g' : JFrame} {P : Outcome → State → Prop} (h : ∀ t, Steps p.tables e below (T'.setTop g') t → Steps p.tables e below (T.setTop g) t) (k : own_Ends p e below T' g' P) : own_Ends p e below T g P := by
  obtain ⟨a, o, q, r⟩ := k
  exact ⟨a, o, h _ q, r⟩
def own_Len (Z : State) (h : Heap) (a : Addr) (ty : FieldType) (n : Int32) : Prop := ∃ c : Cell, Arr Z h a c ty ∧ c.slots.size = n.toNatClampNeg ∧ ¬ n < 0
theorem own_Len.lt {Z : State} {h : Heap} {a : Addr} {ty : FieldType} {n : Int32} (F : own_Len Z h a ty n) : a < h.size := by obtain ⟨c, A, -⟩ := F; exact A.lt
theorem own_Len.ext {Z : State} {h h' : Heap} {a : Addr} {ty : FieldType} {n : Int32} (F : own_Len Z h a ty n) (E : Ext h h') : own_Len Z h' a ty n := by obtain ⟨c, A, r⟩ := F; exact ⟨c, A.ext E, r⟩
theorem own_Len.other {Z : State} {h h' : Heap} {a b : Addr} {ty : FieldType} {n : Int32} {sl : Nat} {v : Value} (F : own_Len Z h b ty n) (W : Wr h h' a sl v) (q : b ≠ a) : own_Len Z h' b ty n := by obtain ⟨c, A, r⟩ := F; exact ⟨c, A.other W q, r⟩
theorem own_Len.same {Z : State} {h h' : Heap} {a : Addr} {ty : FieldType} {n : Int32} {sl : Nat} {v : Value} (F : own_Len Z h a ty n) (W : Wr h h' a sl v) : own_Len Z h' a ty n := by obtain ⟨c, A, r1, r2⟩ := F; exact ⟨_, A.same W, by rw [sz_set]; exact r1, r2⟩
theorem own_Len.keep {Z : State} {h h' : Heap} {a : Addr} {ty : FieldType} {n : Int32} {ws : List Addr} (F : own_Len Z h a ty n) (K : Keep h h' ws) (q : a ∉ ws) : own_Len Z h' a ty n := by obtain ⟨c, A, r⟩ := F; exact ⟨c, ⟨K.2.1 a c A.1 q, A.2⟩, r⟩
theorem own_as {p : Program} {e : Env} {below : List Frame} {T : State} {g g' : JFrame} {P : Outcome → State → Prop} (h : g = g') (k : own_Ends p e below T g' P) : own_Ends p e below T g P := h ▸ k
def own_within (en by_ : Int64) (le : Int32) (lb : Int64) : Int32 := if le.toInt64 < en then 0 else if lb < by_ then 0 else 1

theorem own_lt {a b c : Int32} (h : a < b) (q : b < c) : a < c := by rw [Int32.lt_iff_toInt_lt] at *; omega
theorem own_n (x : Int32) : 0 ≤ (x &&& (3 : Int32)).toInt ∧ (x &&& (3 : Int32)).toInt ≤ 3 := by
  have h := c_mask x 3 2 (by decide) (by decide)
  omega
theorem own_k0 {n : Int32} (h : 0 ≤ n.toInt ∧ n.toInt ≤ 3) (h1 : n < (1 : Int32)) : n = (0 : Int32) := by
  rw [Int32.lt_iff_toInt_lt, show (1 : Int32).toInt = 1 by decide] at h1
  exact Int32.toInt_inj.mp (by rw [show (0 : Int32).toInt = 0 by decide]; omega)
theorem own_k1 {n : Int32} (h : 0 ≤ n.toInt ∧ n.toInt ≤ 3) (h0 : ¬ n < (1 : Int32)) (h1 : n < (2 : Int32)) : n = (1 : Int32) := by
  rw [Int32.lt_iff_toInt_lt, show (1 : Int32).toInt = 1 by decide] at h0
  rw [Int32.lt_iff_toInt_lt, show (2 : Int32).toInt = 2 by decide] at h1
  exact Int32.toInt_inj.mp (by rw [show (1 : Int32).toInt = 1 by decide]; omega)
theorem own_k2 {n : Int32} (h : 0 ≤ n.toInt ∧ n.toInt ≤ 3) (h0 : ¬ n < (2 : Int32)) (h1 : n < (3 : Int32)) : n = (2 : Int32) := by
  rw [Int32.lt_iff_toInt_lt, show (2 : Int32).toInt = 2 by decide] at h0
  rw [Int32.lt_iff_toInt_lt, show (3 : Int32).toInt = 3 by decide] at h1
  exact Int32.toInt_inj.mp (by rw [show (2 : Int32).toInt = 2 by decide]; omega)
theorem own_k3 {n : Int32} (h : 0 ≤ n.toInt ∧ n.toInt ≤ 3) (h0 : ¬ n < (3 : Int32)) : n = (3 : Int32) := by
  rw [Int32.lt_iff_toInt_lt, show (3 : Int32).toInt = 3 by decide] at h0
  exact Int32.toInt_inj.mp (by rw [show (3 : Int32).toInt = 3 by decide]; omega)
theorem d1_0 : decode prog_3_method_1_code 0 = .ok (.aload_n 0, 1) := by decide +kernel
theorem d1_1 : decode prog_3_method_1_code 1 = .ok (.invokespecial 1, 3) := by decide +kernel
theorem d1_4 : decode prog_3_method_1_code 4 = .ok (.return_, 1) := by decide +kernel
theorem pn_1 : plainName "com/example/wedge/wedge/Batch$Size" = true := by first | (simp [plainName, overriddenIn]; done) | decide +kernel
theorem ef_1 (m : MethodId) (o : Addr) : entryFrame m #[(.ref o)] 1 = mkF m 0 #[.val (.ref o)] [] := by first | (simp [entryFrame, mkF, argsToLocals, Value.category]; done) | rfl
def Q_rmSInit (Z : State) (o : Addr) (h0 : Heap) (n0 : Nat) (v : Option Value) (h : Heap) (L : List Loc) : Prop := v = none ∧ Fr n0 L ∧ h = h0
set_option maxRecDepth 65536 in
set_option maxHeartbeats 40000000 in
theorem rmSInit (l : Launch) (Z : State) (a0 : Array Value) (hw : ∀ d ∈ tables_1, d.before a0 Z = true) (ws : List Jvm.Cond) (o : Addr) (h0 : Heap) (n0 : Nat) (Z0 : n0 ≤ h0.size) :
    MetFree l (⟨"com/example/wedge/wedge/Batch$Size", "<init>", "()V"⟩ : MethodName) (head1 (Jvm.Cond.code (⟨"com/example/wedge/wedge/Batch$Size", "<init>", "()V"⟩ : MethodName) prog_3_method_1_code 1 none :: ws) ({ frames := 1, cells := 0, slots := 0, locals := 12 } : Room)) (fun aa U => aa = #[(.ref o)] ∧ Z.Warmed39 U.vm ∧ U.heap = h0) (fun _ _ _ _ _ => True) (fun _ U ou U' => ∃ v L, ou = .returned v ∧ Q_rmSInit Z o h0 n0 v U'.heap L ∧ FrameEnd U ou U' L ({ frames := 1, cells := 0, slots := 0, locals := 12 } : Room).cells ({ frames := 1, cells := 0, slots := 0, locals := 12 } : Room).slots) := by
  refine MetFree.of_bodySF (plainFor_of_name pn_1) hisR ?_
  intro p e s m args below meth c s₁ Bd hml0 hP hK
  obtain ⟨rfl, hZ, hh⟩ := hP
  have hx := Bd.exec
  have hby := Bd.bytes
  have hml : c.maxLocals = 1 := hml0
  have hown : s.vm.findClass "com/example/wedge/wedge/Batch$Size" = some m.cls := findClass_of_methodNamed Bd.named
  have hnm := (name_of_methodNamed Bd.named Bd.method).1
  have X0 : Stand p l e ({ frames := 1, cells := 0, slots := 0, locals := 12 } : Room) s m #[(.ref o)] below meth c s₁ [] 0 0 := Stand.of_body Bd
  have e0 : s₁.heap = h0 := by rw [← hh, Bd.state]; rfl
  have N0 := Fr.nil n0
  have K0 := Keep.refl h0 []
  refine own_as (ef_1 m o) ?_
  show own_Ends p e below s₁ (mkF m 0 #[.val (.ref o)] []) _
  refine own_go (fun _ => XS.aloadN X0.here hx rfl (hb hby d1_0) rfl rfl) ?_
  show own_Ends p e below s₁ (mkF m 1 #[.val (.ref o)] [(.ref o)]) _
  obtain ⟨T1, X1, e1, st1⟩ := initO X0 hx hZ hown (hw _ (List.mem_of_getElem? (i := 6) rfl)) (hw _ (List.mem_of_getElem? (i := 7) rfl)) (hw _ (List.mem_of_getElem? (i := 8) rfl)) e0 (g := (mkF m 1 #[.val (.ref o)] [(.ref o)])) rfl (by rw [hml]; rfl) rfl (hb hby d1_1) (by decide) (W := 0) (by show 2 * 0 + _ ≤ _; exact Nat.le_of_eq rfl) (by decide)
  refine own_go st1 ?_
  show own_Ends p e below T1 (mkF m 4 #[.val (.ref o)] []) _
  obtain ⟨fs, hr, hrun, hended, hW, hsame⟩ := X1.leave (v := none) (fun _ => rfl)
  refine ⟨_, _, X1.returnOut hx Bd.returns (hb hby d1_4) hr, hrun, hended, _, _, rfl, ?_, ⟨_, rfl⟩, hW, hsame.mono (by decide) (by decide)⟩
  show Q_rmSInit Z o h0 n0 _ T1.heap _
  rw [e1]
  exact ⟨rfl, N0, rfl⟩
theorem d5_0 : decode jdk_30_method_1_code 0 = .ok (.aload_n 0, 1) := by decide +kernel
theorem d5_1 : decode jdk_30_method_1_code 1 = .ok (.invokespecial 1, 3) := by decide +kernel
theorem d5_4 : decode jdk_30_method_1_code 4 = .ok (.return_, 1) := by decide +kernel
theorem pn_5 : plainName "java/lang/Record" = true := by first | (simp [plainName, overriddenIn]; done) | decide +kernel
theorem ef_5 (m : MethodId) (a0 : Addr) : entryFrame m #[(.ref a0)] 1 = mkF m 0 #[.val (.ref a0)] [] := by first | (simp [entryFrame, mkF, argsToLocals, Value.category]; done) | rfl
def Q_rmRec (Z : State) (a0 : Addr) (h0 : Heap) (n0 : Nat) (v : Option Value) (h : Heap) (L : List Loc) : Prop := v = none ∧ Fr n0 L ∧ h = h0
set_option maxRecDepth 65536 in
set_option maxHeartbeats 40000000 in
theorem rmRec (l : Launch) (Z : State) (a0 : Array Value) (hw : ∀ d ∈ tables_1, d.before a0 Z = true) (ws : List Jvm.Cond) (a0 : Addr) (h0 : Heap) (n0 : Nat) (Z0 : n0 ≤ h0.size) :
    MetFree l (⟨"java/lang/Record", "<init>", "()V"⟩ : MethodName) (head1 (Jvm.Cond.code (⟨"java/lang/Record", "<init>", "()V"⟩ : MethodName) jdk_30_method_1_code 1 none :: ws) ({ frames := 1, cells := 0, slots := 0, locals := 12 } : Room)) (fun aa U => aa = #[(.ref a0)] ∧ Z.Warmed39 U.vm ∧ U.heap = h0) (fun _ _ _ _ _ => True) (fun _ U ou U' => ∃ v L, ou = .returned v ∧ Q_rmRec Z a0 h0 n0 v U'.heap L ∧ FrameEnd U ou U' L ({ frames := 1, cells := 0, slots := 0, locals := 12 } : Room).cells ({ frames := 1, cells := 0, slots := 0, locals := 12 } : Room).slots) := by
  refine MetFree.of_bodySF (plainFor_of_name pn_5) hisR ?_
  intro p e s m args below meth c s₁ Bd hml0 hP hK
  obtain ⟨rfl, hZ, hh⟩ := hP
  have hx := Bd.exec
  have hby := Bd.bytes
  have hml : c.maxLocals = 1 := hml0
  have hown : s.vm.findClass "java/lang/Record" = some m.cls := findClass_of_methodNamed Bd.named
  have hnm := (name_of_methodNamed Bd.named Bd.method).1
  have X0 : Stand p l e ({ frames := 1, cells := 0, slots := 0, locals := 12 } : Room) s m #[(.ref a0)] below meth c s₁ [] 0 0 := Stand.of_body Bd
  have e0 : s₁.heap = h0 := by rw [← hh, Bd.state]; rfl
  have N0 := Fr.nil n0
  have K0 := Keep.refl h0 []
  refine own_as (ef_5 m a0) ?_
  show own_Ends p e below s₁ (mkF m 0 #[.val (.ref a0)] []) _
  refine own_go (fun _ => XS.aloadN X0.here hx rfl (hb hby d5_0) rfl rfl) ?_
  show own_Ends p e below s₁ (mkF m 1 #[.val (.ref a0)] [(.ref a0)]) _
  obtain ⟨T1, X1, e1, st1⟩ := initO X0 hx hZ hown (hw _ (List.mem_of_getElem? (i := 28) rfl)) (hw _ (List.mem_of_getElem? (i := 7) rfl)) (hw _ (List.mem_of_getElem? (i := 8) rfl)) e0 (g := (mkF m 1 #[.val (.ref a0)] [(.ref a0)])) rfl (by rw [hml]; rfl) rfl (hb hby d5_1) (by decide) (W := 0) (by show 2 * 0 + _ ≤ _; exact Nat.le_of_eq rfl) (by decide)
  refine own_go st1 ?_
  show own_Ends p e below T1 (mkF m 4 #[.val (.ref a0)] []) _
  obtain ⟨fs, hr, hrun, hended, hW, hsame⟩ := X1.leave (v := none) (fun _ => rfl)
  refine ⟨_, _, X1.returnOut hx Bd.returns (hb hby d5_4) hr, hrun, hended, _, _, rfl, ?_, ⟨_, rfl⟩, hW, hsame.mono (by decide) (by decide)⟩
  show Q_rmRec Z a0 h0 n0 _ T1.heap _
  rw [e1]
  exact ⟨rfl, N0, rfl⟩
theorem d4_0 : decode prog_2_method_1_code 0 = .ok (.aload_n 0, 1) := by decide +kernel
theorem d4_1 : decode prog_2_method_1_code 1 = .ok (.invokespecial 1, 3) := by decide +kernel
theorem d4_4 : decode prog_2_method_1_code 4 = .ok (.aload_n 0, 1) := by decide +kernel
theorem d4_5 : decode prog_2_method_1_code 5 = .ok (.iload_n 1, 1) := by decide +kernel
theorem d4_6 : decode prog_2_method_1_code 6 = .ok (.putfield 7, 3) := by decide +kernel
theorem d4_9 : decode prog_2_method_1_code 9 = .ok (.aload_n 0, 1) := by decide +kernel
theorem d4_10 : decode prog_2_method_1_code 10 = .ok (.lload_n 2, 1) := by decide +kernel
theorem d4_11 : decode prog_2_method_1_code 11 = .ok (.putfield 13, 3) := by decide +kernel
theorem d4_14 : decode prog_2_method_1_code 14 = .ok (.return_, 1) := by decide +kernel
theorem pn_4 : plainName "com/example/wedge/wedge/Batch$Limit" = true := by first | (simp [plainName, overriddenIn]; done) | decide +kernel
theorem ef_4 (m : MethodId) (o : Addr) (p1 : Int32) (q2 : Int64) : entryFrame m #[(.ref o), (.int p1), (.long q2)] 4 = mkF m 0 #[.val (.ref o), .val (.int p1), .val (.long q2), .second] [] := by first | (simp [entryFrame, mkF, argsToLocals, Value.category]; done) | rfl
def Q_rmLInit (Z : State) (o : Addr) (p1 : Int32) (q2 : Int64) (h0 : Heap) (n0 : Nat) (v : Option Value) (h : Heap) (L : List Loc) : Prop := v = none ∧ Fr n0 L ∧ Keep h0 h [o] ∧ Exa Z h o "com/example/wedge/wedge/Batch$Limit" ∧ Fld Z h o "com/example/wedge/wedge/Batch$Limit" "entries" "I" (.int p1) ∧ Fld Z h o "com/example/wedge/wedge/Batch$Limit" "bytes" "J" (.long q2)
theorem pd_0 : parseMethodDescriptor "()V" = some ⟨[], none⟩ := by decide +kernel
set_option maxRecDepth 65536 in
set_option maxHeartbeats 40000000 in
theorem rmLInit (l : Launch) (Z : State) (a0 : Array Value) (hw : ∀ d ∈ tables_1, d.before a0 Z = true) (ws : List Jvm.Cond) (o : Addr) (p1 : Int32) (q2 : Int64) (h0 : Heap) (n0 : Nat) (Z0 : n0 ≤ h0.size) (E_o : Exa Z h0 o "com/example/wedge/wedge/Batch$Limit") (F_o_entries : Fld Z h0 o "com/example/wedge/wedge/Batch$Limit" "entries" "I" (.int (0 : Int32))) (F_o_bytes : Fld Z h0 o "com/example/wedge/wedge/Batch$Limit" "bytes" "J" (.long (0 : Int64))) (g_o : n0 ≤ o) :
    MetFree l (⟨"com/example/wedge/wedge/Batch$Limit", "<init>", "(IJ)V"⟩ : MethodName) (head1 (Jvm.Cond.code (⟨"com/example/wedge/wedge/Batch$Limit", "<init>", "(IJ)V"⟩ : MethodName) prog_2_method_1_code 4 none :: ws) ({ frames := 2, cells := 0, slots := 0, locals := 24 } : Room)) (fun aa U => aa = #[(.ref o), (.int p1), (.long q2)] ∧ Z.Warmed39 U.vm ∧ U.heap = h0) (fun _ _ _ _ _ => True) (fun _ U ou U' => ∃ v L, ou = .returned v ∧ Q_rmLInit Z o p1 q2 h0 n0 v U'.heap L ∧ FrameEnd U ou U' L ({ frames := 2, cells := 0, slots := 0, locals := 24 } : Room).cells ({ frames := 2, cells := 0, slots := 0, locals := 24 } : Room).slots) := by
  refine MetFree.of_bodySF (plainFor_of_name pn_4) hisR ?_
  intro p e s m args below meth c s₁ Bd hml0 hP hK
  obtain ⟨rfl, hZ, hh⟩ := hP
  have hx := Bd.exec
  have hby := Bd.bytes
  have hml : c.maxLocals = 4 := hml0
  have hown : s.vm.findClass "com/example/wedge/wedge/Batch$Limit" = some m.cls := findClass_of_methodNamed Bd.named
  have hnm := (name_of_methodNamed Bd.named Bd.method).1
  have X0 : Stand p l e ({ frames := 2, cells := 0, slots := 0, locals := 24 } : Room) s m #[(.ref o), (.int p1), (.long q2)] below meth c s₁ [] 0 0 := Stand.of_body Bd
  have e0 : s₁.heap = h0 := by rw [← hh, Bd.state]; rfl
  have N0 := Fr.nil n0
  have K0 := Keep.refl h0 [o]
  refine own_as (ef_4 m o p1 q2) ?_
  show own_Ends p e below s₁ (mkF m 0 #[.val (.ref o), .val (.int p1), .val (.long q2), .second] []) _
  refine own_go (fun _ => XS.aloadN X0.here hx rfl (hb hby d4_0) rfl rfl) ?_
  show own_Ends p e below s₁ (mkF m 1 #[.val (.ref o), .val (.int p1), .val (.long q2), .second] [(.ref o)]) _
  obtain ⟨_, _, ⟨T1, L1, k1, n1⟩, -, X1, ⟨Lc1, hQ1, l1, y1, z1⟩, st1⟩ := X0.specialBack hx (y := (⟨"java/lang/Record", "<init>", "()V"⟩ : MethodName)) rfl hown (mvT hZ (hw _ (List.mem_of_getElem? (i := 23) rfl))) (mvT hZ (hw _ (List.mem_of_getElem? (i := 24) rfl))) (mvT hZ (hw _ (List.mem_of_getElem? (i := 27) rfl))) (by decide) (backOf (W := 0) (rmRec l Z a0 hw [] o  h0 n0 Z0 ) hZ (hw _ (List.mem_of_getElem? (i := 27) rfl)) (hw _ (List.mem_of_getElem? (i := 26) rfl)) (by decide) (by decide)) (g := (mkF m 1 #[.val (.ref o), .val (.int p1), .val (.long q2), .second] [(.ref o)])) rfl (by rw [hml]; rfl) (Steps.refl _) (a := o) (argsL := []) (rest := []) (lenOf pd_0 rfl) rfl (by show 2 * 0 + _ ≤ _; exact Nat.le_of_eq rfl) (hb hby d4_1) (fun _ _ => ⟨rfl, e0, (by decide : 0 + 0 ≤ _), (by decide : 0 + 0 ≤ _)⟩)
  dsimp only [Pt.U, Pt.locs, Pt.cells, Pt.slots] at X1 l1 y1 z1 st1 hQ1
  subst l1 y1 z1
  refine own_go (fun _ k => st1.trans k) ?_
  obtain ⟨rfl, N1q, eh1⟩ := hQ1
  have N1 := Fr.app N0 N1q
  show own_Ends p e below T1 (mkF m 4 #[.val (.ref o), .val (.int p1), .val (.long q2), .second] []) _
  refine own_go (fun _ => XS.aloadN X1.here hx rfl (hb hby d4_4) rfl rfl) ?_
  show own_Ends p e below T1 (mkF m 5 #[.val (.ref o), .val (.int p1), .val (.long q2), .second] [(.ref o)]) _
  refine own_go (fun _ => XS.iloadN X1.here hx rfl (hb hby d4_5) rfl) ?_
  show own_Ends p e below T1 (mkF m 6 #[.val (.ref o), .val (.int p1), .val (.long q2), .second] [(.int p1), (.ref o)]) _
  obtain ⟨T2, h2, X2, e2, W2, st2⟩ := putF X1 hx hZ hown (host := "") (Or.inl (hw _ (List.mem_of_getElem? (i := 29) rfl))) Via.refl eh1 F_o_entries E_o (Or.inr ⟨(hw _ (List.mem_of_getElem? (i := 30) rfl)), rfl, hnm⟩) (hw _ (List.mem_of_getElem? (i := 18) rfl)) (ty := .int) (by decide) rfl rfl (g := (mkF m 6 #[.val (.ref o), .val (.int p1), .val (.long q2), .second] [(.int p1), (.ref o)])) rfl rfl (hb hby d4_6)
  refine own_go st2 ?_
  replace F_o_entries := F_o_entries.same W2
  replace E_o := E_o.wr W2
  replace F_o_bytes := F_o_bytes.other W2 (Or.inr (slot_ne (Or.inr (hw _ (List.mem_of_getElem? (i := 32) rfl))) (Or.inr (hw _ (List.mem_of_getElem? (i := 30) rfl))) (by decide) (t := .long) (t' := .int) (by decide) (by decide)))
  have N2 := Fr.snoc X2 N1 g_o
  have K2 := K0.wr W2 (Or.inl (List.mem_of_getElem? (i := 0) rfl))
  have Z2 : n0 ≤ h2.size := Nat.le_trans Z0 K2.1
  show own_Ends p e below T2 (mkF m 9 #[.val (.ref o), .val (.int p1), .val (.long q2), .second] []) _
  refine own_go (fun _ => XS.aloadN X2.here hx rfl (hb hby d4_9) rfl rfl) ?_
  show own_Ends p e below T2 (mkF m 10 #[.val (.ref o), .val (.int p1), .val (.long q2), .second] [(.ref o)]) _
  refine own_go (fun _ => XS.lloadN X2.here hx rfl (hb hby d4_10) rfl) ?_
  show own_Ends p e below T2 (mkF m 11 #[.val (.ref o), .val (.int p1), .val (.long q2), .second] [(.long q2), (.ref o)]) _
  obtain ⟨T3, h3, X3, e3, W3, st3⟩ := putF X2 hx hZ hown (host := "") (Or.inl (hw _ (List.mem_of_getElem? (i := 31) rfl))) Via.refl e2 F_o_bytes E_o (Or.inr ⟨(hw _ (List.mem_of_getElem? (i := 32) rfl)), rfl, hnm⟩) (hw _ (List.mem_of_getElem? (i := 18) rfl)) (ty := .long) (by decide) rfl rfl (g := (mkF m 11 #[.val (.ref o), .val (.int p1), .val (.long q2), .second] [(.long q2), (.ref o)])) rfl rfl (hb hby d4_11)
  refine own_go st3 ?_
  replace F_o_bytes := F_o_bytes.same W3
  replace E_o := E_o.wr W3
  replace F_o_entries := F_o_entries.other W3 (Or.inr (slot_ne (Or.inr (hw _ (List.mem_of_getElem? (i := 30) rfl))) (Or.inr (hw _ (List.mem_of_getElem? (i := 32) rfl))) (by decide) (t := .int) (t' := .long) (by decide) (by decide)))
  have N3 := Fr.snoc X3 N2 g_o
  have K3 := K2.wr W3 (Or.inl (List.mem_of_getElem? (i := 0) rfl))
  have Z3 : n0 ≤ h3.size := Nat.le_trans Z0 K3.1
  show own_Ends p e below T3 (mkF m 14 #[.val (.ref o), .val (.int p1), .val (.long q2), .second] []) _
  obtain ⟨fs, hr, hrun, hended, hW, hsame⟩ := X3.leave (v := none) (fun _ => rfl)
  refine ⟨_, _, X3.returnOut hx Bd.returns (hb hby d4_14) hr, hrun, hended, _, _, rfl, ?_, ⟨_, rfl⟩, hW, hsame.mono (by decide) (by decide)⟩
  show Q_rmLInit Z o p1 q2 h0 n0 _ T3.heap _
  rw [e3]
  exact ⟨rfl, N3, K3, E_o, F_o_entries, F_o_bytes⟩
theorem d7_0 : decode prog_2_method_5_code 0 = .ok (.aload_n 0, 1) := by decide +kernel
theorem d7_1 : decode prog_2_method_5_code 1 = .ok (.getfield 7, 3) := by decide +kernel
theorem d7_4 : decode prog_2_method_5_code 4 = .ok (.ireturn, 1) := by decide +kernel
theorem pn_7 : plainName "com/example/wedge/wedge/Batch$Limit" = true := by first | (simp [plainName, overriddenIn]; done) | decide +kernel
theorem ef_7 (m : MethodId) (o : Addr) : entryFrame m #[(.ref o)] 1 = mkF m 0 #[.val (.ref o)] [] := by first | (simp [entryFrame, mkF, argsToLocals, Value.category]; done) | rfl
def Q_rmG_entries (Z : State) (o : Addr) (u : Int32) (h0 : Heap) (n0 : Nat) (v : Option Value) (h : Heap) (L : List Loc) : Prop := v = some (.int u) ∧ Fr n0 L ∧ h = h0
set_option maxRecDepth 65536 in
set_option maxHeartbeats 40000000 in
theorem rmG_entries (l : Launch) (Z : State) (a0 : Array Value) (hw : ∀ d ∈ tables_1, d.before a0 Z = true) (ws : List Jvm.Cond) (o : Addr) (u : Int32) (h0 : Heap) (n0 : Nat) (Z0 : n0 ≤ h0.size) (F_o_entries : Fld Z h0 o "com/example/wedge/wedge/Batch$Limit" "entries" "I" (.int u)) :
    MetFree l (⟨"com/example/wedge/wedge/Batch$Limit", "entries", "()I"⟩ : MethodName) (head1 (Jvm.Cond.code (⟨"com/example/wedge/wedge/Batch$Limit", "entries", "()I"⟩ : MethodName) prog_2_method_5_code 1 (some .int) :: ws) ({ frames := 0, cells := 0, slots := 0, locals := 0 } : Room)) (fun aa U => aa = #[(.ref o)] ∧ Z.Warmed39 U.vm ∧ U.heap = h0) (fun _ _ _ _ _ => True) (fun _ U ou U' => ∃ v L, ou = .returned v ∧ Q_rmG_entries Z o u h0 n0 v U'.heap L ∧ FrameEnd U ou U' L ({ frames := 0, cells := 0, slots := 0, locals := 0 } : Room).cells ({ frames := 0, cells := 0, slots := 0, locals := 0 } : Room).slots) := by
  refine MetFree.of_bodySF (plainFor_of_name pn_7) hisR ?_
  intro p e s m args below meth c s₁ Bd hml0 hP hK
  obtain ⟨rfl, hZ, hh⟩ := hP
  have hx := Bd.exec
  have hby := Bd.bytes
  have hml : c.maxLocals = 1 := hml0
  have hown : s.vm.findClass "com/example/wedge/wedge/Batch$Limit" = some m.cls := findClass_of_methodNamed Bd.named
  have hnm := (name_of_methodNamed Bd.named Bd.method).1
  have X0 : Stand p l e ({ frames := 0, cells := 0, slots := 0, locals := 0 } : Room) s m #[(.ref o)] below meth c s₁ [] 0 0 := Stand.of_body Bd
  have e0 : s₁.heap = h0 := by rw [← hh, Bd.state]; rfl
  have N0 := Fr.nil n0
  have K0 := Keep.refl h0 []
  refine own_as (ef_7 m o) ?_
  show own_Ends p e below s₁ (mkF m 0 #[.val (.ref o)] []) _
  refine own_go (fun _ => XS.aloadN X0.here hx rfl (hb hby d7_0) rfl rfl) ?_
  show own_Ends p e below s₁ (mkF m 1 #[.val (.ref o)] [(.ref o)]) _
  obtain ⟨T1, X1, e1, st1⟩ := getF X0 hx hZ hown (host := "") (Or.inl (hw _ (List.mem_of_getElem? (i := 29) rfl))) Via.refl e0 F_o_entries (g := (mkF m 1 #[.val (.ref o)] [(.ref o)])) rfl rfl (hb hby d7_1)
  refine own_go st1 ?_
  show own_Ends p e below T1 (mkF m 4 #[.val (.ref o)] [(.int u)]) _
  obtain ⟨fs, hr, hrun, hended, hW, hsame⟩ := X1.leave (v := some (.int u)) (fun h => by rw [Bd.returns] at h; cases h)
  refine ⟨_, _, retI X1 hx Bd.returns (hb hby d7_4) hr, hrun, hended, _, _, rfl, ?_, ⟨_, rfl⟩, hW, hsame.mono (by decide) (by decide)⟩
  show Q_rmG_entries Z o u h0 n0 _ T1.heap _
  rw [e1]
  exact ⟨by rfl, N0, rfl⟩
theorem d8_0 : decode prog_2_method_6_code 0 = .ok (.aload_n 0, 1) := by decide +kernel
theorem d8_1 : decode prog_2_method_6_code 1 = .ok (.getfield 13, 3) := by decide +kernel
theorem d8_4 : decode prog_2_method_6_code 4 = .ok (.lreturn, 1) := by decide +kernel
theorem pn_8 : plainName "com/example/wedge/wedge/Batch$Limit" = true := by first | (simp [plainName, overriddenIn]; done) | decide +kernel
theorem ef_8 (m : MethodId) (o : Addr) : entryFrame m #[(.ref o)] 1 = mkF m 0 #[.val (.ref o)] [] := by first | (simp [entryFrame, mkF, argsToLocals, Value.category]; done) | rfl
def Q_rmG_bytes (Z : State) (o : Addr) (u : Int64) (h0 : Heap) (n0 : Nat) (v : Option Value) (h : Heap) (L : List Loc) : Prop := v = some (.long u) ∧ Fr n0 L ∧ h = h0
set_option maxRecDepth 65536 in
set_option maxHeartbeats 40000000 in
theorem rmG_bytes (l : Launch) (Z : State) (a0 : Array Value) (hw : ∀ d ∈ tables_1, d.before a0 Z = true) (ws : List Jvm.Cond) (o : Addr) (u : Int64) (h0 : Heap) (n0 : Nat) (Z0 : n0 ≤ h0.size) (F_o_bytes : Fld Z h0 o "com/example/wedge/wedge/Batch$Limit" "bytes" "J" (.long u)) :
    MetFree l (⟨"com/example/wedge/wedge/Batch$Limit", "bytes", "()J"⟩ : MethodName) (head1 (Jvm.Cond.code (⟨"com/example/wedge/wedge/Batch$Limit", "bytes", "()J"⟩ : MethodName) prog_2_method_6_code 1 (some .long) :: ws) ({ frames := 0, cells := 0, slots := 0, locals := 0 } : Room)) (fun aa U => aa = #[(.ref o)] ∧ Z.Warmed39 U.vm ∧ U.heap = h0) (fun _ _ _ _ _ => True) (fun _ U ou U' => ∃ v L, ou = .returned v ∧ Q_rmG_bytes Z o u h0 n0 v U'.heap L ∧ FrameEnd U ou U' L ({ frames := 0, cells := 0, slots := 0, locals := 0 } : Room).cells ({ frames := 0, cells := 0, slots := 0, locals := 0 } : Room).slots) := by
  refine MetFree.of_bodySF (plainFor_of_name pn_8) hisR ?_
  intro p e s m args below meth c s₁ Bd hml0 hP hK
  obtain ⟨rfl, hZ, hh⟩ := hP
  have hx := Bd.exec
  have hby := Bd.bytes
  have hml : c.maxLocals = 1 := hml0
  have hown : s.vm.findClass "com/example/wedge/wedge/Batch$Limit" = some m.cls := findClass_of_methodNamed Bd.named
  have hnm := (name_of_methodNamed Bd.named Bd.method).1
  have X0 : Stand p l e ({ frames := 0, cells := 0, slots := 0, locals := 0 } : Room) s m #[(.ref o)] below meth c s₁ [] 0 0 := Stand.of_body Bd
  have e0 : s₁.heap = h0 := by rw [← hh, Bd.state]; rfl
  have N0 := Fr.nil n0
  have K0 := Keep.refl h0 []
  refine own_as (ef_8 m o) ?_
  show own_Ends p e below s₁ (mkF m 0 #[.val (.ref o)] []) _
  refine own_go (fun _ => XS.aloadN X0.here hx rfl (hb hby d8_0) rfl rfl) ?_
  show own_Ends p e below s₁ (mkF m 1 #[.val (.ref o)] [(.ref o)]) _
  obtain ⟨T1, X1, e1, st1⟩ := getF X0 hx hZ hown (host := "") (Or.inl (hw _ (List.mem_of_getElem? (i := 31) rfl))) Via.refl e0 F_o_bytes (g := (mkF m 1 #[.val (.ref o)] [(.ref o)])) rfl rfl (hb hby d8_1)
  refine own_go st1 ?_
  show own_Ends p e below T1 (mkF m 4 #[.val (.ref o)] [(.long u)]) _
  obtain ⟨fs, hr, hrun, hended, hW, hsame⟩ := X1.leave (v := some (.long u)) (fun h => by rw [Bd.returns] at h; cases h)
  refine ⟨_, _, retOut X1 hx Bd.returns rfl (Or.inr (Or.inl ⟨rfl, rfl, _, rfl⟩)) (hb hby d8_4) hr, hrun, hended, _, _, rfl, ?_, ⟨_, rfl⟩, hW, hsame.mono (by decide) (by decide)⟩
  show Q_rmG_bytes Z o u h0 n0 _ T1.heap _
  rw [e1]
  exact ⟨by rfl, N0, rfl⟩
theorem d6_0 : decode prog_3_method_4_code 0 = .ok (.aload_n 0, 1) := by decide +kernel
theorem d6_1 : decode prog_3_method_4_code 1 = .ok (.getfield 7, 3) := by decide +kernel
theorem d6_4 : decode prog_3_method_4_code 4 = .ok (.aload_n 1, 1) := by decide +kernel
theorem d6_5 : decode prog_3_method_4_code 5 = .ok (.invokevirtual 16, 3) := by decide +kernel
theorem d6_8 : decode prog_3_method_4_code 8 = .ok (.i2l, 1) := by decide +kernel
theorem d6_9 : decode prog_3_method_4_code 9 = .ok (.lcmp, 1) := by decide +kernel
theorem d6_10 : decode prog_3_method_4_code 10 = .ok (.ifCond .gt 19, 3) := by decide +kernel
theorem d6_13 : decode prog_3_method_4_code 13 = .ok (.aload_n 0, 1) := by decide +kernel
theorem d6_14 : decode prog_3_method_4_code 14 = .ok (.getfield 13, 3) := by decide +kernel
theorem d6_17 : decode prog_3_method_4_code 17 = .ok (.aload_n 1, 1) := by decide +kernel
theorem d6_18 : decode prog_3_method_4_code 18 = .ok (.invokevirtual 21, 3) := by decide +kernel
theorem d6_21 : decode prog_3_method_4_code 21 = .ok (.lcmp, 1) := by decide +kernel
theorem d6_22 : decode prog_3_method_4_code 22 = .ok (.ifCond .gt 7, 3) := by decide +kernel
theorem d6_25 : decode prog_3_method_4_code 25 = .ok (.iconst 1, 1) := by decide +kernel
theorem d6_26 : decode prog_3_method_4_code 26 = .ok (.goto 4, 3) := by decide +kernel
theorem d6_29 : decode prog_3_method_4_code 29 = .ok (.iconst 0, 1) := by decide +kernel
theorem d6_30 : decode prog_3_method_4_code 30 = .ok (.ireturn, 1) := by decide +kernel
theorem pn_6 : plainName "com/example/wedge/wedge/Batch$Size" = true := by first | (simp [plainName, overriddenIn]; done) | decide +kernel
theorem ef_6 (m : MethodId) (o : Addr) (a : Addr) : entryFrame m #[(.ref o), (.ref a)] 2 = mkF m 0 #[.val (.ref o), .val (.ref a)] [] := by first | (simp [entryFrame, mkF, argsToLocals, Value.category]; done) | rfl
def Q_rmWithin (Z : State) (o : Addr) (a : Addr) (en : Int64) (by_ : Int64) (le : Int32) (lb : Int64) (h0 : Heap) (n0 : Nat) (v : Option Value) (h : Heap) (L : List Loc) : Prop := v = some (.int (own_within en by_ le lb)) ∧ Fr n0 L ∧ h = h0
theorem pd_1 : parseMethodDescriptor "()I" = some ⟨[], some .int⟩ := by decide +kernel
theorem pd_2 : parseMethodDescriptor "()J" = some ⟨[], some .long⟩ := by decide +kernel
set_option maxRecDepth 65536 in
set_option maxHeartbeats 40000000 in
theorem rmWithin (l : Launch) (Z : State) (a0 : Array Value) (hw : ∀ d ∈ tables_1, d.before a0 Z = true) (ws : List Jvm.Cond) (o : Addr) (a : Addr) (en : Int64) (by_ : Int64) (le : Int32) (lb : Int64) (h0 : Heap) (n0 : Nat) (Z0 : n0 ≤ h0.size) (F_o_entries : Fld Z h0 o "com/example/wedge/wedge/Batch$Size" "entries" "J" (.long en)) (F_o_bytes : Fld Z h0 o "com/example/wedge/wedge/Batch$Size" "bytes" "J" (.long by_)) (E_a : Exa Z h0 a "com/example/wedge/wedge/Batch$Limit") (F_a_entries : Fld Z h0 a "com/example/wedge/wedge/Batch$Limit" "entries" "I" (.int le)) (F_a_bytes : Fld Z h0 a "com/example/wedge/wedge/Batch$Limit" "bytes" "J" (.long lb)) :
    MetFree l (⟨"com/example/wedge/wedge/Batch$Size", "within", "(Lcom/example/wedge/wedge/Batch$Limit;)Z"⟩ : MethodName) (head1 (Jvm.Cond.code (⟨"com/example/wedge/wedge/Batch$Size", "within", "(Lcom/example/wedge/wedge/Batch$Limit;)Z"⟩ : MethodName) prog_3_method_4_code 2 (some .boolean) :: ws) ({ frames := 1, cells := 0, slots := 0, locals := 14 } : Room)) (fun aa U => aa = #[(.ref o), (.ref a)] ∧ Z.Warmed39 U.vm ∧ U.heap = h0) (fun _ _ _ _ _ => True) (fun _ U ou U' => ∃ v L, ou = .returned v ∧ Q_rmWithin Z o a en by_ le lb h0 n0 v U'.heap L ∧ FrameEnd U ou U' L ({ frames := 1, cells := 0, slots := 0, locals := 14 } : Room).cells ({ frames := 1, cells := 0, slots := 0, locals := 14 } : Room).slots) := by
  refine MetFree.of_bodySF (plainFor_of_name pn_6) hisR ?_
  intro p e s m args below meth c s₁ Bd hml0 hP hK
  obtain ⟨rfl, hZ, hh⟩ := hP
  have hx := Bd.exec
  have hby := Bd.bytes
  have hml : c.maxLocals = 2 := hml0
  have hown : s.vm.findClass "com/example/wedge/wedge/Batch$Size" = some m.cls := findClass_of_methodNamed Bd.named
  have hnm := (name_of_methodNamed Bd.named Bd.method).1
  have X0 : Stand p l e ({ frames := 1, cells := 0, slots := 0, locals := 14 } : Room) s m #[(.ref o), (.ref a)] below meth c s₁ [] 0 0 := Stand.of_body Bd
  have e0 : s₁.heap = h0 := by rw [← hh, Bd.state]; rfl
  have N0 := Fr.nil n0
  have K0 := Keep.refl h0 []
  refine own_as (ef_6 m o a) ?_
  show own_Ends p e below s₁ (mkF m 0 #[.val (.ref o), .val (.ref a)] []) _
  refine own_go (fun _ => XS.aloadN X0.here hx rfl (hb hby d6_0) rfl rfl) ?_
  show own_Ends p e below s₁ (mkF m 1 #[.val (.ref o), .val (.ref a)] [(.ref o)]) _
  obtain ⟨T1, X1, e1, st1⟩ := getF X0 hx hZ hown (host := "") (Or.inl (hw _ (List.mem_of_getElem? (i := 38) rfl))) Via.refl e0 F_o_entries (g := (mkF m 1 #[.val (.ref o), .val (.ref a)] [(.ref o)])) rfl rfl (hb hby d6_1)
  refine own_go st1 ?_
  show own_Ends p e below T1 (mkF m 4 #[.val (.ref o), .val (.ref a)] [(.long en)]) _
  refine own_go (fun _ => XS.aloadN X1.here hx rfl (hb hby d6_4) rfl rfl) ?_
  show own_Ends p e below T1 (mkF m 5 #[.val (.ref o), .val (.ref a)] [(.ref a), (.long en)]) _
  obtain ⟨cq2, kq2, q2a, q2b, q2c⟩ := isOf hZ e1 E_a
  obtain ⟨_, _, ⟨T2, L2, k2, n2⟩, -, X2, ⟨Lc2, hQ2, l2, y2, z2⟩, st2⟩ := X1.virtualBack hx (y := (⟨"com/example/wedge/wedge/Batch$Limit", "entries", "()I"⟩ : MethodName)) (z := (⟨"com/example/wedge/wedge/Batch$Limit", "entries", "()I"⟩ : MethodName)) hown (mvT hZ (hw _ (List.mem_of_getElem? (i := 40) rfl))) (mvT hZ (hw _ (List.mem_of_getElem? (i := 41) rfl))) (notFace_of_selects (args := #[]) (mvT hZ (hw _ (List.mem_of_getElem? (i := 43) rfl)))) (mvT hZ (hw _ (List.mem_of_getElem? (i := 43) rfl))) (mvT hZ (hw _ (List.mem_of_getElem? (i := 42) rfl))) (by decide) (backOf (W := 2) (rmG_entries l Z a0 hw [] a le h0 n0 Z0 F_a_entries) hZ (hw _ (List.mem_of_getElem? (i := 44) rfl)) (hw _ (List.mem_of_getElem? (i := 19) rfl)) (by decide) (by decide)) q2a q2c (g := (mkF m 5 #[.val (.ref o), .val (.ref a)] [(.ref a), (.long en)])) rfl (by rw [hml]; rfl) (Steps.refl _) (argsL := []) (rest := [(.long en)]) (lenOf pd_1 rfl) rfl (by show 2 * 0 + _ ≤ _; exact Nat.le_of_eq rfl) (hb hby d6_5) (fun _ _ => ⟨rfl, e1, (by decide : 0 + 0 ≤ _), (by decide : 0 + 0 ≤ _)⟩)
  dsimp only [Pt.U, Pt.locs, Pt.cells, Pt.slots] at X2 l2 y2 z2 st2 hQ2
  subst l2 y2 z2
  refine own_go (fun _ k => st2.trans k) ?_
  obtain ⟨rfl, N2q, eh2⟩ := hQ2
  have N2 := Fr.app N0 N2q
  show own_Ends p e below T2 (mkF m 8 #[.val (.ref o), .val (.ref a)] [(.int le), (.long en)]) _
  refine own_go (fun _ => XS.i2l X2.here hx rfl (hb hby d6_8) rfl) ?_
  show own_Ends p e below T2 (mkF m 9 #[.val (.ref o), .val (.ref a)] [(.long (le.toInt64)), (.long en)]) _
  refine own_go (fun _ => XS.lcmp X2.here hx rfl (hb hby d6_9) rfl) ?_
  show own_Ends p e below T2 (mkF m 10 #[.val (.ref o), .val (.ref a)] [(.int (lcmpW en (le.toInt64)))]) _
  by_cases hc10 : (le.toInt64) < en
  · refine own_go (fun _ => XS.ifYes X2.here hx rfl (pc0 := 10) (pc' := 29) rfl (hb hby d6_10) rfl ((if0 _ _).trans (tlt ((lw_gt en (le.toInt64)).mpr hc10)).2.2.1) (by decide) (by decide)) ?_
    show own_Ends p e below T2 (mkF m 29 #[.val (.ref o), .val (.ref a)] []) _
    refine own_go (fun _ => XS.iconst X2.here hx rfl (hb hby d6_29)) ?_
    show own_Ends p e below T2 (mkF m 30 #[.val (.ref o), .val (.ref a)] [(.int (0 : Int32))]) _
    obtain ⟨fs, hr, hrun, hended, hW, hsame⟩ := X2.leave (v := some (.int (0 : Int32))) (fun h => by rw [Bd.returns] at h; cases h)
    refine ⟨_, _, retN X2 hx (t := .boolean) Bd.returns (by simp) (hb hby d6_30) hr, hrun, hended, _, _, rfl, ?_, ⟨_, rfl⟩, hW, hsame.mono (by decide) (by decide)⟩
    show Q_rmWithin Z o a en by_ le lb h0 n0 _ T2.heap _
    rw [eh2]
    exact ⟨by unfold own_within; rw [if_pos hc10], N2, rfl⟩
  · refine own_go (fun _ => XS.ifNo X2.here hx rfl (hb hby d6_10) rfl ((if0 _ _).trans (flt (fun q => hc10 ((lw_gt en (le.toInt64)).mp q))).2.2.1)) ?_
    show own_Ends p e below T2 (mkF m 13 #[.val (.ref o), .val (.ref a)] []) _
    refine own_go (fun _ => XS.aloadN X2.here hx rfl (hb hby d6_13) rfl rfl) ?_
    show own_Ends p e below T2 (mkF m 14 #[.val (.ref o), .val (.ref a)] [(.ref o)]) _
    obtain ⟨T3, X3, e3, st3⟩ := getF X2 hx hZ hown (host := "") (Or.inl (hw _ (List.mem_of_getElem? (i := 15) rfl))) Via.refl eh2 F_o_bytes (g := (mkF m 14 #[.val (.ref o), .val (.ref a)] [(.ref o)])) rfl rfl (hb hby d6_14)
    refine own_go st3 ?_
    show own_Ends p e below T3 (mkF m 17 #[.val (.ref o), .val (.ref a)] [(.long by_)]) _
    refine own_go (fun _ => XS.aloadN X3.here hx rfl (hb hby d6_17) rfl rfl) ?_
    show own_Ends p e below T3 (mkF m 18 #[.val (.ref o), .val (.ref a)] [(.ref a), (.long by_)]) _
    obtain ⟨cq4, kq4, q4a, q4b, q4c⟩ := isOf hZ e3 E_a
    obtain ⟨_, _, ⟨T4, L4, k4, n4⟩, -, X4, ⟨Lc4, hQ4, l4, y4, z4⟩, st4⟩ := X3.virtualBack hx (y := (⟨"com/example/wedge/wedge/Batch$Limit", "bytes", "()J"⟩ : MethodName)) (z := (⟨"com/example/wedge/wedge/Batch$Limit", "bytes", "()J"⟩ : MethodName)) hown (mvT hZ (hw _ (List.mem_of_getElem? (i := 45) rfl))) (mvT hZ (hw _ (List.mem_of_getElem? (i := 46) rfl))) (notFace_of_selects (args := #[]) (mvT hZ (hw _ (List.mem_of_getElem? (i := 48) rfl)))) (mvT hZ (hw _ (List.mem_of_getElem? (i := 48) rfl))) (mvT hZ (hw _ (List.mem_of_getElem? (i := 47) rfl))) (by decide) (backOf (W := 2) (rmG_bytes l Z a0 hw [] a lb h0 n0 Z0 F_a_bytes) hZ (hw _ (List.mem_of_getElem? (i := 49) rfl)) (hw _ (List.mem_of_getElem? (i := 19) rfl)) (by decide) (by decide)) q4a q4c (g := (mkF m 18 #[.val (.ref o), .val (.ref a)] [(.ref a), (.long by_)])) rfl (by rw [hml]; rfl) (Steps.refl _) (argsL := []) (rest := [(.long by_)]) (lenOf pd_2 rfl) rfl (by show 2 * 0 + _ ≤ _; exact Nat.le_of_eq rfl) (hb hby d6_18) (fun _ _ => ⟨rfl, e3, (by decide : 0 + 0 ≤ _), (by decide : 0 + 0 ≤ _)⟩)
    dsimp only [Pt.U, Pt.locs, Pt.cells, Pt.slots] at X4 l4 y4 z4 st4 hQ4
    subst l4 y4 z4
    refine own_go (fun _ k => st4.trans k) ?_
    obtain ⟨rfl, N4q, eh4⟩ := hQ4
    have N4 := Fr.app N2 N4q
    show own_Ends p e below T4 (mkF m 21 #[.val (.ref o), .val (.ref a)] [(.long lb), (.long by_)]) _
    refine own_go (fun _ => XS.lcmp X4.here hx rfl (hb hby d6_21) rfl) ?_
    show own_Ends p e below T4 (mkF m 22 #[.val (.ref o), .val (.ref a)] [(.int (lcmpW by_ lb))]) _
    by_cases hc22 : lb < by_
    · refine own_go (fun _ => XS.ifYes X4.here hx rfl (pc0 := 22) (pc' := 29) rfl (hb hby d6_22) rfl ((if0 _ _).trans (tlt ((lw_gt by_ lb).mpr hc22)).2.2.1) (by decide) (by decide)) ?_
      show own_Ends p e below T4 (mkF m 29 #[.val (.ref o), .val (.ref a)] []) _
      refine own_go (fun _ => XS.iconst X4.here hx rfl (hb hby d6_29)) ?_
      show own_Ends p e below T4 (mkF m 30 #[.val (.ref o), .val (.ref a)] [(.int (0 : Int32))]) _
      obtain ⟨fs, hr, hrun, hended, hW, hsame⟩ := X4.leave (v := some (.int (0 : Int32))) (fun h => by rw [Bd.returns] at h; cases h)
      refine ⟨_, _, retN X4 hx (t := .boolean) Bd.returns (by simp) (hb hby d6_30) hr, hrun, hended, _, _, rfl, ?_, ⟨_, rfl⟩, hW, hsame.mono (by decide) (by decide)⟩
      show Q_rmWithin Z o a en by_ le lb h0 n0 _ T4.heap _
      rw [eh4]
      exact ⟨by unfold own_within; rw [if_neg hc10, if_pos hc22], N4, rfl⟩
    · refine own_go (fun _ => XS.ifNo X4.here hx rfl (hb hby d6_22) rfl ((if0 _ _).trans (flt (fun q => hc22 ((lw_gt by_ lb).mp q))).2.2.1)) ?_
      show own_Ends p e below T4 (mkF m 25 #[.val (.ref o), .val (.ref a)] []) _
      refine own_go (fun _ => XS.iconst X4.here hx rfl (hb hby d6_25)) ?_
      show own_Ends p e below T4 (mkF m 26 #[.val (.ref o), .val (.ref a)] [(.int (1 : Int32))]) _
      refine own_go (fun _ => XS.goto X4.here hx rfl (pc0 := 26) (pc' := 30) rfl (hb hby d6_26) (by decide) (by decide)) ?_
      show own_Ends p e below T4 (mkF m 30 #[.val (.ref o), .val (.ref a)] [(.int (1 : Int32))]) _
      obtain ⟨fs, hr, hrun, hended, hW, hsame⟩ := X4.leave (v := some (.int (1 : Int32))) (fun h => by rw [Bd.returns] at h; cases h)
      refine ⟨_, _, retN X4 hx (t := .boolean) Bd.returns (by simp) (hb hby d6_30) hr, hrun, hended, _, _, rfl, ?_, ⟨_, rfl⟩, hW, hsame.mono (by decide) (by decide)⟩
      show Q_rmWithin Z o a en by_ le lb h0 n0 _ T4.heap _
      rw [eh4]
      exact ⟨by unfold own_within; rw [if_neg hc10, if_neg hc22], N4, rfl⟩
theorem d3_0 : decode prog_3_method_3_code 0 = .ok (.aload_n 0, 1) := by decide +kernel
theorem d3_1 : decode prog_3_method_3_code 1 = .ok (.dup, 1) := by decide +kernel
theorem d3_2 : decode prog_3_method_3_code 2 = .ok (.getfield 13, 3) := by decide +kernel
theorem d3_5 : decode prog_3_method_3_code 5 = .ok (.lload_n 1, 1) := by decide +kernel
theorem d3_6 : decode prog_3_method_3_code 6 = .ok (.ladd, 1) := by decide +kernel
theorem d3_7 : decode prog_3_method_3_code 7 = .ok (.putfield 13, 3) := by decide +kernel
theorem d3_10 : decode prog_3_method_3_code 10 = .ok (.return_, 1) := by decide +kernel
theorem pn_3 : plainName "com/example/wedge/wedge/Batch$Size" = true := by first | (simp [plainName, overriddenIn]; done) | decide +kernel
theorem ef_3 (m : MethodId) (o : Addr) (q1 : Int64) : entryFrame m #[(.ref o), (.long q1)] 3 = mkF m 0 #[.val (.ref o), .val (.long q1), .second] [] := by first | (simp [entryFrame, mkF, argsToLocals, Value.category]; done) | rfl
def Q_rmGrow (Z : State) (o : Addr) (q1 : Int64) (en : Int64) (by_ : Int64) (h0 : Heap) (n0 : Nat) (v : Option Value) (h : Heap) (L : List Loc) : Prop := v = none ∧ Fr n0 L ∧ Keep h0 h [o] ∧ Exa Z h o "com/example/wedge/wedge/Batch$Size" ∧ Fld Z h o "com/example/wedge/wedge/Batch$Size" "entries" "J" (.long en) ∧ Fld Z h o "com/example/wedge/wedge/Batch$Size" "bytes" "J" (.long (by_ + q1))
set_option maxRecDepth 65536 in
set_option maxHeartbeats 40000000 in
theorem rmGrow (l : Launch) (Z : State) (a0 : Array Value) (hw : ∀ d ∈ tables_1, d.before a0 Z = true) (ws : List Jvm.Cond) (o : Addr) (q1 : Int64) (en : Int64) (by_ : Int64) (h0 : Heap) (n0 : Nat) (Z0 : n0 ≤ h0.size) (E_o : Exa Z h0 o "com/example/wedge/wedge/Batch$Size") (F_o_entries : Fld Z h0 o "com/example/wedge/wedge/Batch$Size" "entries" "J" (.long en)) (F_o_bytes : Fld Z h0 o "com/example/wedge/wedge/Batch$Size" "bytes" "J" (.long by_)) (g_o : n0 ≤ o) :
    MetFree l (⟨"com/example/wedge/wedge/Batch$Size", "grow", "(J)V"⟩ : MethodName) (head1 (Jvm.Cond.code (⟨"com/example/wedge/wedge/Batch$Size", "grow", "(J)V"⟩ : MethodName) prog_3_method_3_code 3 none :: ws) ({ frames := 0, cells := 0, slots := 0, locals := 0 } : Room)) (fun aa U => aa = #[(.ref o), (.long q1)] ∧ Z.Warmed39 U.vm ∧ U.heap = h0) (fun _ _ _ _ _ => True) (fun _ U ou U' => ∃ v L, ou = .returned v ∧ Q_rmGrow Z o q1 en by_ h0 n0 v U'.heap L ∧ FrameEnd U ou U' L ({ frames := 0, cells := 0, slots := 0, locals := 0 } : Room).cells ({ frames := 0, cells := 0, slots := 0, locals := 0 } : Room).slots) := by
  refine MetFree.of_bodySF (plainFor_of_name pn_3) hisR ?_
  intro p e s m args below meth c s₁ Bd hml0 hP hK
  obtain ⟨rfl, hZ, hh⟩ := hP
  have hx := Bd.exec
  have hby := Bd.bytes
  have hml : c.maxLocals = 3 := hml0
  have hown : s.vm.findClass "com/example/wedge/wedge/Batch$Size" = some m.cls := findClass_of_methodNamed Bd.named
  have hnm := (name_of_methodNamed Bd.named Bd.method).1
  have X0 : Stand p l e ({ frames := 0, cells := 0, slots := 0, locals := 0 } : Room) s m #[(.ref o), (.long q1)] below meth c s₁ [] 0 0 := Stand.of_body Bd
  have e0 : s₁.heap = h0 := by rw [← hh, Bd.state]; rfl
  have N0 := Fr.nil n0
  have K0 := Keep.refl h0 [o]
  refine own_as (ef_3 m o q1) ?_
  show own_Ends p e below s₁ (mkF m 0 #[.val (.ref o), .val (.long q1), .second] []) _
  refine own_go (fun _ => XS.aloadN X0.here hx rfl (hb hby d3_0) rfl rfl) ?_
  show own_Ends p e below s₁ (mkF m 1 #[.val (.ref o), .val (.long q1), .second] [(.ref o)]) _
  refine own_go (fun _ => XS.dup X0.here hx rfl (hb hby d3_1) rfl rfl) ?_
  show own_Ends p e below s₁ (mkF m 2 #[.val (.ref o), .val (.long q1), .second] [(.ref o), (.ref o)]) _
  obtain ⟨T1, X1, e1, st1⟩ := getF X0 hx hZ hown (host := "") (Or.inl (hw _ (List.mem_of_getElem? (i := 15) rfl))) Via.refl e0 F_o_bytes (g := (mkF m 2 #[.val (.ref o), .val (.long q1), .second] [(.ref o), (.ref o)])) rfl rfl (hb hby d3_2)
  refine own_go st1 ?_
  show own_Ends p e below T1 (mkF m 5 #[.val (.ref o), .val (.long q1), .second] [(.long by_), (.ref o)]) _
  refine own_go (fun _ => XS.lloadN X1.here hx rfl (hb hby d3_5) rfl) ?_
  show own_Ends p e below T1 (mkF m 6 #[.val (.ref o), .val (.long q1), .second] [(.long q1), (.long by_), (.ref o)]) _
  refine own_go (fun _ => XS.ladd X1.here hx rfl (hb hby d3_6) rfl) ?_
  show own_Ends p e below T1 (mkF m 7 #[.val (.ref o), .val (.long q1), .second] [(.long (by_ + q1)), (.ref o)]) _
  obtain ⟨T2, h2, X2, e2, W2, st2⟩ := putF X1 hx hZ hown (host := "") (Or.inl (hw _ (List.mem_of_getElem? (i := 15) rfl))) Via.refl e1 F_o_bytes E_o (Or.inl (hw _ (List.mem_of_getElem? (i := 16) rfl))) (hw _ (List.mem_of_getElem? (i := 1) rfl)) (ty := .long) (by decide) rfl rfl (g := (mkF m 7 #[.val (.ref o), .val (.long q1), .second] [(.long (by_ + q1)), (.ref o)])) rfl rfl (hb hby d3_7)
  refine own_go st2 ?_
  replace F_o_bytes := F_o_bytes.same W2
  replace E_o := E_o.wr W2
  replace F_o_entries := F_o_entries.other W2 (Or.inr (slot_ne (Or.inl (hw _ (List.mem_of_getElem? (i := 39) rfl))) (Or.inl (hw _ (List.mem_of_getElem? (i := 16) rfl))) (by decide) (t := .long) (t' := .long) (by decide) (by decide)))
  have N2 := Fr.snoc X2 N0 g_o
  have K2 := K0.wr W2 (Or.inl (List.mem_of_getElem? (i := 0) rfl))
  have Z2 : n0 ≤ h2.size := Nat.le_trans Z0 K2.1
  show own_Ends p e below T2 (mkF m 10 #[.val (.ref o), .val (.long q1), .second] []) _
  obtain ⟨fs, hr, hrun, hended, hW, hsame⟩ := X2.leave (v := none) (fun _ => rfl)
  refine ⟨_, _, X2.returnOut hx Bd.returns (hb hby d3_10) hr, hrun, hended, _, _, rfl, ?_, ⟨_, rfl⟩, hW, hsame.mono (by decide) (by decide)⟩
  show Q_rmGrow Z o q1 en by_ h0 n0 _ T2.heap _
  rw [e2]
  exact ⟨rfl, N2, K2, E_o, F_o_entries, F_o_bytes⟩
theorem d9_0 : decode prog_3_method_2_code 0 = .ok (.aload_n 0, 1) := by decide +kernel
theorem d9_1 : decode prog_3_method_2_code 1 = .ok (.dup, 1) := by decide +kernel
theorem d9_2 : decode prog_3_method_2_code 2 = .ok (.getfield 7, 3) := by decide +kernel
theorem d9_5 : decode prog_3_method_2_code 5 = .ok (.lconst 1, 1) := by decide +kernel
theorem d9_6 : decode prog_3_method_2_code 6 = .ok (.ladd, 1) := by decide +kernel
theorem d9_7 : decode prog_3_method_2_code 7 = .ok (.putfield 7, 3) := by decide +kernel
theorem d9_10 : decode prog_3_method_2_code 10 = .ok (.aload_n 0, 1) := by decide +kernel
theorem d9_11 : decode prog_3_method_2_code 11 = .ok (.dup, 1) := by decide +kernel
theorem d9_12 : decode prog_3_method_2_code 12 = .ok (.getfield 13, 3) := by decide +kernel
theorem d9_15 : decode prog_3_method_2_code 15 = .ok (.aload_n 1, 1) := by decide +kernel
theorem d9_16 : decode prog_3_method_2_code 16 = .ok (.arraylength, 1) := by decide +kernel
theorem d9_17 : decode prog_3_method_2_code 17 = .ok (.aload_n 2, 1) := by decide +kernel
theorem d9_18 : decode prog_3_method_2_code 18 = .ok (.ifnonnull 7, 3) := by decide +kernel
theorem d9_21 : decode prog_3_method_2_code 21 = .ok (.iconst 0, 1) := by decide +kernel
theorem d9_22 : decode prog_3_method_2_code 22 = .ok (.goto 5, 3) := by decide +kernel
theorem d9_25 : decode prog_3_method_2_code 25 = .ok (.aload_n 2, 1) := by decide +kernel
theorem d9_26 : decode prog_3_method_2_code 26 = .ok (.arraylength, 1) := by decide +kernel
theorem d9_27 : decode prog_3_method_2_code 27 = .ok (.iadd, 1) := by decide +kernel
theorem d9_28 : decode prog_3_method_2_code 28 = .ok (.i2l, 1) := by decide +kernel
theorem d9_29 : decode prog_3_method_2_code 29 = .ok (.ladd, 1) := by decide +kernel
theorem d9_30 : decode prog_3_method_2_code 30 = .ok (.putfield 13, 3) := by decide +kernel
theorem d9_33 : decode prog_3_method_2_code 33 = .ok (.return_, 1) := by decide +kernel
theorem pn_9 : plainName "com/example/wedge/wedge/Batch$Size" = true := by first | (simp [plainName, overriddenIn]; done) | decide +kernel
theorem ef_9n (m : MethodId) (o : Addr) (a : Addr) : entryFrame m #[(.ref o), (.ref a), .null] 3 = mkF m 0 #[.val (.ref o), .val (.ref a), .val .null] [] := by first | (simp [entryFrame, mkF, argsToLocals, Value.category]; done) | rfl
def Q_rmAddn (Z : State) (o : Addr) (a : Addr) (en : Int64) (by_ : Int64) (n_a : Int32) (h0 : Heap) (n0 : Nat) (v : Option Value) (h : Heap) (L : List Loc) : Prop := v = none ∧ Fr n0 L ∧ Keep h0 h [o] ∧ Exa Z h o "com/example/wedge/wedge/Batch$Size" ∧ Fld Z h o "com/example/wedge/wedge/Batch$Size" "entries" "J" (.long (en + (1 : Int64))) ∧ Fld Z h o "com/example/wedge/wedge/Batch$Size" "bytes" "J" (.long (by_ + ((n_a + (0 : Int32)).toInt64)))
set_option maxRecDepth 65536 in
set_option maxHeartbeats 40000000 in
theorem rmAddn (l : Launch) (Z : State) (a0 : Array Value) (hw : ∀ d ∈ tables_1, d.before a0 Z = true) (ws : List Jvm.Cond) (o : Addr) (a : Addr) (en : Int64) (by_ : Int64) (n_a : Int32) (h0 : Heap) (n0 : Nat) (Z0 : n0 ≤ h0.size) (E_o : Exa Z h0 o "com/example/wedge/wedge/Batch$Size") (F_o_entries : Fld Z h0 o "com/example/wedge/wedge/Batch$Size" "entries" "J" (.long en)) (F_o_bytes : Fld Z h0 o "com/example/wedge/wedge/Batch$Size" "bytes" "J" (.long by_)) (g_o : n0 ≤ o) (B_a : own_Len Z h0 a .byte n_a) (ne_a_o : a ≠ o) :
    MetFree l (⟨"com/example/wedge/wedge/Batch$Size", "add", "([B[B)V"⟩ : MethodName) (head1 (Jvm.Cond.code (⟨"com/example/wedge/wedge/Batch$Size", "add", "([B[B)V"⟩ : MethodName) prog_3_method_2_code 3 none :: ws) ({ frames := 0, cells := 0, slots := 0, locals := 0 } : Room)) (fun aa U => aa = #[(.ref o), (.ref a), .null] ∧ Z.Warmed39 U.vm ∧ U.heap = h0) (fun _ _ _ _ _ => True) (fun _ U ou U' => ∃ v L, ou = .returned v ∧ Q_rmAddn Z o a en by_ n_a h0 n0 v U'.heap L ∧ FrameEnd U ou U' L ({ frames := 0, cells := 0, slots := 0, locals := 0 } : Room).cells ({ frames := 0, cells := 0, slots := 0, locals := 0 } : Room).slots) := by
  refine MetFree.of_bodySF (plainFor_of_name pn_9) hisR ?_
  intro p e s m args below meth c s₁ Bd hml0 hP hK
  obtain ⟨rfl, hZ, hh⟩ := hP
  have hx := Bd.exec
  have hby := Bd.bytes
  have hml : c.maxLocals = 3 := hml0
  have hown : s.vm.findClass "com/example/wedge/wedge/Batch$Size" = some m.cls := findClass_of_methodNamed Bd.named
  have hnm := (name_of_methodNamed Bd.named Bd.method).1
  have X0 : Stand p l e ({ frames := 0, cells := 0, slots := 0, locals := 0 } : Room) s m #[(.ref o), (.ref a), .null] below meth c s₁ [] 0 0 := Stand.of_body Bd
  have e0 : s₁.heap = h0 := by rw [← hh, Bd.state]; rfl
  have N0 := Fr.nil n0
  have K0 := Keep.refl h0 [o]
  refine own_as (ef_9n m o a) ?_
  show own_Ends p e below s₁ (mkF m 0 #[.val (.ref o), .val (.ref a), .val .null] []) _
  refine own_go (fun _ => XS.aloadN X0.here hx rfl (hb hby d9_0) rfl rfl) ?_
  show own_Ends p e below s₁ (mkF m 1 #[.val (.ref o), .val (.ref a), .val .null] [(.ref o)]) _
  refine own_go (fun _ => XS.dup X0.here hx rfl (hb hby d9_1) rfl rfl) ?_
  show own_Ends p e below s₁ (mkF m 2 #[.val (.ref o), .val (.ref a), .val .null] [(.ref o), (.ref o)]) _
  obtain ⟨T1, X1, e1, st1⟩ := getF X0 hx hZ hown (host := "") (Or.inl (hw _ (List.mem_of_getElem? (i := 38) rfl))) Via.refl e0 F_o_entries (g := (mkF m 2 #[.val (.ref o), .val (.ref a), .val .null] [(.ref o), (.ref o)])) rfl rfl (hb hby d9_2)
  refine own_go st1 ?_
  show own_Ends p e below T1 (mkF m 5 #[.val (.ref o), .val (.ref a), .val .null] [(.long en), (.ref o)]) _
  refine own_go (fun _ => XS.lconst X1.here hx rfl (hb hby d9_5)) ?_
  show own_Ends p e below T1 (mkF m 6 #[.val (.ref o), .val (.ref a), .val .null] [(.long (1 : Int64)), (.long en), (.ref o)]) _
  refine own_go (fun _ => XS.ladd X1.here hx rfl (hb hby d9_6) rfl) ?_
  show own_Ends p e below T1 (mkF m 7 #[.val (.ref o), .val (.ref a), .val .null] [(.long (en + (1 : Int64))), (.ref o)]) _
  obtain ⟨T2, h2, X2, e2, W2, st2⟩ := putF X1 hx hZ hown (host := "") (Or.inl (hw _ (List.mem_of_getElem? (i := 38) rfl))) Via.refl e1 F_o_entries E_o (Or.inl (hw _ (List.mem_of_getElem? (i := 39) rfl))) (hw _ (List.mem_of_getElem? (i := 1) rfl)) (ty := .long) (by decide) rfl rfl (g := (mkF m 7 #[.val (.ref o), .val (.ref a), .val .null] [(.long (en + (1 : Int64))), (.ref o)])) rfl rfl (hb hby d9_7)
  refine own_go st2 ?_
  replace F_o_entries := F_o_entries.same W2
  replace E_o := E_o.wr W2
  replace F_o_bytes := F_o_bytes.other W2 (Or.inr (slot_ne (Or.inl (hw _ (List.mem_of_getElem? (i := 16) rfl))) (Or.inl (hw _ (List.mem_of_getElem? (i := 39) rfl))) (by decide) (t := .long) (t' := .long) (by decide) (by decide)))
  replace B_a := B_a.other W2 ne_a_o
  have N2 := Fr.snoc X2 N0 g_o
  have K2 := K0.wr W2 (Or.inl (List.mem_of_getElem? (i := 0) rfl))
  have Z2 : n0 ≤ h2.size := Nat.le_trans Z0 K2.1
  show own_Ends p e below T2 (mkF m 10 #[.val (.ref o), .val (.ref a), .val .null] []) _
  refine own_go (fun _ => XS.aloadN X2.here hx rfl (hb hby d9_10) rfl rfl) ?_
  show own_Ends p e below T2 (mkF m 11 #[.val (.ref o), .val (.ref a), .val .null] [(.ref o)]) _
  refine own_go (fun _ => XS.dup X2.here hx rfl (hb hby d9_11) rfl rfl) ?_
  show own_Ends p e below T2 (mkF m 12 #[.val (.ref o), .val (.ref a), .val .null] [(.ref o), (.ref o)]) _
  obtain ⟨T3, X3, e3, st3⟩ := getF X2 hx hZ hown (host := "") (Or.inl (hw _ (List.mem_of_getElem? (i := 15) rfl))) Via.refl e2 F_o_bytes (g := (mkF m 12 #[.val (.ref o), .val (.ref a), .val .null] [(.ref o), (.ref o)])) rfl rfl (hb hby d9_12)
  refine own_go st3 ?_
  show own_Ends p e below T3 (mkF m 15 #[.val (.ref o), .val (.ref a), .val .null] [(.long by_), (.ref o)]) _
  refine own_go (fun _ => XS.aloadN X3.here hx rfl (hb hby d9_15) rfl rfl) ?_
  show own_Ends p e below T3 (mkF m 16 #[.val (.ref o), .val (.ref a), .val .null] [(.ref a), (.long by_), (.ref o)]) _
  obtain ⟨cl_4, Ar_4, S_4, M_4⟩ := id B_a
  refine own_go (X3.arraylength hx (by rw [e3]; exact Ar_4.1) (State.isArrayOf_alike hZ.alike Ar_4.2.1) (g := (mkF m 16 #[.val (.ref o), .val (.ref a), .val .null] [(.ref a), (.long by_), (.ref o)])) rfl rfl (hb hby d9_16)) ?_
  rw [len_of S_4 M_4]
  show own_Ends p e below T3 (mkF m 17 #[.val (.ref o), .val (.ref a), .val .null] [(.int n_a), (.long by_), (.ref o)]) _
  refine own_go (fun _ => XS.aloadN X3.here hx rfl (hb hby d9_17) rfl rfl) ?_
  show own_Ends p e below T3 (mkF m 18 #[.val (.ref o), .val (.ref a), .val .null] [.null, (.int n_a), (.long by_), (.ref o)]) _
  refine own_go (fun _ => XS.ifnonnullNo X3.here hx rfl (hb hby d9_18) rfl) ?_
  show own_Ends p e below T3 (mkF m 21 #[.val (.ref o), .val (.ref a), .val .null] [(.int n_a), (.long by_), (.ref o)]) _
  refine own_go (fun _ => XS.iconst X3.here hx rfl (hb hby d9_21)) ?_
  show own_Ends p e below T3 (mkF m 22 #[.val (.ref o), .val (.ref a), .val .null] [(.int (0 : Int32)), (.int n_a), (.long by_), (.ref o)]) _
  refine own_go (fun _ => XS.goto X3.here hx rfl (pc0 := 22) (pc' := 27) rfl (hb hby d9_22) (by decide) (by decide)) ?_
  show own_Ends p e below T3 (mkF m 27 #[.val (.ref o), .val (.ref a), .val .null] [(.int (0 : Int32)), (.int n_a), (.long by_), (.ref o)]) _
  refine own_go (fun _ => XS.iadd X3.here hx rfl (hb hby d9_27) rfl) ?_
  show own_Ends p e below T3 (mkF m 28 #[.val (.ref o), .val (.ref a), .val .null] [(.int (n_a + (0 : Int32))), (.long by_), (.ref o)]) _
  refine own_go (fun _ => XS.i2l X3.here hx rfl (hb hby d9_28) rfl) ?_
  show own_Ends p e below T3 (mkF m 29 #[.val (.ref o), .val (.ref a), .val .null] [(.long ((n_a + (0 : Int32)).toInt64)), (.long by_), (.ref o)]) _
  refine own_go (fun _ => XS.ladd X3.here hx rfl (hb hby d9_29) rfl) ?_
  show own_Ends p e below T3 (mkF m 30 #[.val (.ref o), .val (.ref a), .val .null] [(.long (by_ + ((n_a + (0 : Int32)).toInt64))), (.ref o)]) _
  obtain ⟨T5, h5, X5, e5, W5, st5⟩ := putF X3 hx hZ hown (host := "") (Or.inl (hw _ (List.mem_of_getElem? (i := 15) rfl))) Via.refl e3 F_o_bytes E_o (Or.inl (hw _ (List.mem_of_getElem? (i := 16) rfl))) (hw _ (List.mem_of_getElem? (i := 1) rfl)) (ty := .long) (by decide) rfl rfl (g := (mkF m 30 #[.val (.ref o), .val (.ref a), .val .null] [(.long (by_ + ((n_a + (0 : Int32)).toInt64))), (.ref o)])) rfl rfl (hb hby d9_30)
  refine own_go st5 ?_
  replace F_o_bytes := F_o_bytes.same W5
  replace E_o := E_o.wr W5
  replace F_o_entries := F_o_entries.other W5 (Or.inr (slot_ne (Or.inl (hw _ (List.mem_of_getElem? (i := 39) rfl))) (Or.inl (hw _ (List.mem_of_getElem? (i := 16) rfl))) (by decide) (t := .long) (t' := .long) (by decide) (by decide)))
  replace B_a := B_a.other W5 ne_a_o
  have N5 := Fr.snoc X5 N2 g_o
  have K5 := K2.wr W5 (Or.inl (List.mem_of_getElem? (i := 0) rfl))
  have Z5 : n0 ≤ h5.size := Nat.le_trans Z0 K5.1
  show own_Ends p e below T5 (mkF m 33 #[.val (.ref o), .val (.ref a), .val .null] []) _
  obtain ⟨fs, hr, hrun, hended, hW, hsame⟩ := X5.leave (v := none) (fun _ => rfl)
  refine ⟨_, _, X5.returnOut hx Bd.returns (hb hby d9_33) hr, hrun, hended, _, _, rfl, ?_, ⟨_, rfl⟩, hW, hsame.mono (by decide) (by decide)⟩
  show Q_rmAddn Z o a en by_ n_a h0 n0 _ T5.heap _
  rw [e5]
  exact ⟨rfl, N5, K5, E_o, F_o_entries, F_o_bytes⟩
theorem pn_0 : plainName "com/example/wedge/wedge/SizeWithinPinLaw" = true := by first | (simp [plainName, overriddenIn]; done) | decide +kernel
theorem ef_0 (m : MethodId) (p0 : Int32) (q1 : Int64) (p2 : Int32) (q3 : Int64) : entryFrame m #[(.int p0), (.long q1), (.int p2), (.long q3)] maxLocals = mkF m 0 #[.val (.int p0), .val (.long q1), .second, .val (.int p2), .val (.long q3), .second, .unset, .unset, .unset, .unset, .unset] [] := by first | (simp [entryFrame, mkF, argsToLocals, Value.category, maxLocals]; done) | rfl
def Q_rm0 (Z : State) (p0 : Int32) (q1 : Int64) (p2 : Int32) (q3 : Int64) (h0 : Heap) (n0 : Nat) (v : Option Value) (h : Heap) (L : List Loc) : Prop := v = some (.int 1) ∧ Fr n0 L
theorem pd_3 : parseMethodDescriptor "(J)V" = some ⟨[.long], none⟩ := by decide +kernel
theorem pd_4 : parseMethodDescriptor "(IJ)V" = some ⟨[.int, .long], none⟩ := by decide +kernel
theorem pd_5 : parseMethodDescriptor "(Lcom/example/wedge/wedge/Batch$Limit;)Z" = some ⟨[(.object "com/example/wedge/wedge/Batch$Limit")], some .boolean⟩ := by decide +kernel
theorem pd_6 : parseMethodDescriptor "([B[B)V" = some ⟨[(.array .byte), (.array .byte)], none⟩ := by decide +kernel
set_option maxRecDepth 65536 in
set_option maxHeartbeats 40000000 in
theorem rm0 (l : Launch) (Z : State) (a0 : Array Value) (hw : ∀ d ∈ tables_1, d.before a0 Z = true) (ws : List Jvm.Cond) (p0 : Int32) (q1 : Int64) (p2 : Int32) (q3 : Int64) (h0 : Heap) (n0 : Nat) (Z0 : n0 ≤ h0.size) :
    MetFree l x (head1 (Jvm.Cond.code x code maxLocals ret :: ws) room_1) (fun aa U => aa = #[(.int p0), (.long q1), (.int p2), (.long q3)] ∧ Z.Warmed39 U.vm ∧ U.heap = h0) (fun _ _ _ _ _ => True) (fun _ U ou U' => ∃ v L, ou = .returned v ∧ Q_rm0 Z p0 q1 p2 q3 h0 n0 v U'.heap L ∧ FrameEnd U ou U' L room_1.cells room_1.slots) := by
  refine MetFree.of_bodySF (plainFor_of_name pn_0) hisR ?_
  intro p e s m args below meth c s₁ Bd hml0 hP hK
  obtain ⟨rfl, hZ, hh⟩ := hP
  have hx := Bd.exec
  have hby := Bd.bytes
  have hml : c.maxLocals = 11 := hml0
  have hown : s.vm.findClass "com/example/wedge/wedge/SizeWithinPinLaw" = some m.cls := findClass_of_methodNamed Bd.named
  have hnm := (name_of_methodNamed Bd.named Bd.method).1
  have X0 : Stand p l e room_1 s m #[(.int p0), (.long q1), (.int p2), (.long q3)] below meth c s₁ [] 0 0 := Stand.of_body Bd
  have e0 : s₁.heap = h0 := by rw [← hh, Bd.state]; rfl
  have N0 := Fr.nil n0
  have K0 := Keep.refl h0 []
  refine own_as (ef_0 m p0 q1 p2 q3) ?_
  show own_Ends p e below s₁ (mkF m 0 #[.val (.int p0), .val (.long q1), .second, .val (.int p2), .val (.long q3), .second, .unset, .unset, .unset, .unset, .unset] []) _
  refine own_go (fun _ => XS.iloadN X0.here hx rfl (hb hby at_0) rfl) ?_
  show own_Ends p e below s₁ (mkF m 1 #[.val (.int p0), .val (.long q1), .second, .val (.int p2), .val (.long q3), .second, .unset, .unset, .unset, .unset, .unset] [(.int p0)]) _
  refine own_go (fun _ => XS.iconst X0.here hx rfl (hb hby at_1)) ?_
  show own_Ends p e below s₁ (mkF m 2 #[.val (.int p0), .val (.long q1), .second, .val (.int p2), .val (.long q3), .second, .unset, .unset, .unset, .unset, .unset] [(.int (3 : Int32)), (.int p0)]) _
  refine own_go (fun _ => XS.iand X0.here hx rfl (hb hby at_2) rfl) ?_
  show own_Ends p e below s₁ (mkF m 3 #[.val (.int p0), .val (.long q1), .second, .val (.int p2), .val (.long q3), .second, .unset, .unset, .unset, .unset, .unset] [(.int (p0 &&& (3 : Int32)))]) _
  refine own_go (fun _ => XS.istore X0.here hx rfl (hb hby at_3) rfl (l' := #[.val (.int p0), .val (.long q1), .second, .val (.int p2), .val (.long q3), .second, .val (.int (p0 &&& (3 : Int32))), .unset, .unset, .unset, .unset]) rfl) ?_
  show own_Ends p e below s₁ (mkF m 5 #[.val (.int p0), .val (.long q1), .second, .val (.int p2), .val (.long q3), .second, .val (.int (p0 &&& (3 : Int32))), .unset, .unset, .unset, .unset] []) _
  have hn := own_n p0
  generalize gn : (p0 &&& (3 : Int32)) = n at hn ⊢
  obtain ⟨T1, h1, X1, e1, E1, A1, D1, -, st1⟩ := newO X0 hx hZ hown (hw _ (List.mem_of_getElem? (i := 0) rfl)) (hw _ (List.mem_of_getElem? (i := 1) rfl)) (hw _ (List.mem_of_getElem? (i := 2) rfl)) e0 (g := (mkF m 5 #[.val (.int p0), .val (.long q1), .second, .val (.int p2), .val (.long q3), .second, .val (.int n), .unset, .unset, .unset, .unset] [])) rfl (hb hby at_5) (by decide) (by decide)
  obtain ⟨b1, g1⟩ : ∃ z, z = h0.size := ⟨_, rfl⟩
  rw [← g1] at A1 D1 st1
  refine own_go st1 ?_
  have g_b1 : n0 ≤ b1 := Nat.le_trans Z0 (Nat.le_of_eq g1.symm)
  have sz_b1 : h0.size ≤ b1 := Nat.le_trans K0.1 (Nat.le_of_eq g1.symm)
  have K1 := K0.ext E1
  have Z1 : n0 ≤ h1.size := Nat.le_trans Z0 K1.1
  have F_b1_bytes : Fld Z h1 b1 "com/example/wedge/wedge/Batch$Size" "bytes" "J" (.long (0 : Int64)) := D1 (Or.inl (hw _ (List.mem_of_getElem? (i := 16) rfl))) (ty := .long) (by decide)
  have F_b1_entries : Fld Z h1 b1 "com/example/wedge/wedge/Batch$Size" "entries" "J" (.long (0 : Int64)) := D1 (Or.inl (hw _ (List.mem_of_getElem? (i := 39) rfl))) (ty := .long) (by decide)
  show own_Ends p e below T1 (mkF m 8 #[.val (.int p0), .val (.long q1), .second, .val (.int p2), .val (.long q3), .second, .val (.int n), .unset, .unset, .unset, .unset] [(.ref b1)]) _
  refine own_go (fun _ => XS.dup X1.here hx rfl (hb hby at_8) rfl rfl) ?_
  show own_Ends p e below T1 (mkF m 9 #[.val (.int p0), .val (.long q1), .second, .val (.int p2), .val (.long q3), .second, .val (.int n), .unset, .unset, .unset, .unset] [(.ref b1), (.ref b1)]) _
  obtain ⟨_, _, ⟨T2, L2, k2, n2⟩, -, X2, ⟨Lc2, hQ2, l2, y2, z2⟩, st2⟩ := X1.specialBack hx (y := (⟨"com/example/wedge/wedge/Batch$Size", "<init>", "()V"⟩ : MethodName)) rfl hown (mvT hZ (hw _ (List.mem_of_getElem? (i := 3) rfl))) (mvT hZ (hw _ (List.mem_of_getElem? (i := 4) rfl))) (mvT hZ (hw _ (List.mem_of_getElem? (i := 5) rfl))) (by decide) (backOf (W := 1) (rmSInit l Z a0 hw [] b1  h1 n0 Z1 ) hZ (hw _ (List.mem_of_getElem? (i := 5) rfl)) (hw _ (List.mem_of_getElem? (i := 2) rfl)) (by decide) (by decide)) (g := (mkF m 9 #[.val (.int p0), .val (.long q1), .second, .val (.int p2), .val (.long q3), .second, .val (.int n), .unset, .unset, .unset, .unset] [(.ref b1), (.ref b1)])) rfl (by rw [hml]; rfl) (Steps.refl _) (a := b1) (argsL := []) (rest := [(.ref b1)]) (lenOf pd_0 rfl) rfl (by show 2 * 0 + _ ≤ _; exact Nat.le_of_eq rfl) (hb hby at_9) (fun _ _ => ⟨rfl, e1, (by decide : 1 + 0 ≤ _), (by decide : 2 + 0 ≤ _)⟩)
  dsimp only [Pt.U, Pt.locs, Pt.cells, Pt.slots] at X2 l2 y2 z2 st2 hQ2
  subst l2 y2 z2
  refine own_go (fun _ k => st2.trans k) ?_
  obtain ⟨rfl, N2q, eh2⟩ := hQ2
  have N2 := Fr.app N0 N2q
  show own_Ends p e below T2 (mkF m 12 #[.val (.int p0), .val (.long q1), .second, .val (.int p2), .val (.long q3), .second, .val (.int n), .unset, .unset, .unset, .unset] [(.ref b1)]) _
  refine own_go (fun _ => XS.astore X2.here hx rfl (hb hby at_12) rfl rfl (l' := #[.val (.int p0), .val (.long q1), .second, .val (.int p2), .val (.long q3), .second, .val (.int n), .val (.ref b1), .unset, .unset, .unset]) rfl) ?_
  show own_Ends p e below T2 (mkF m 14 #[.val (.int p0), .val (.long q1), .second, .val (.int p2), .val (.long q3), .second, .val (.int n), .val (.ref b1), .unset, .unset, .unset] []) _
  refine own_go (fun _ => XS.iconst X2.here hx rfl (hb hby at_14)) ?_
  show own_Ends p e below T2 (mkF m 15 #[.val (.int p0), .val (.long q1), .second, .val (.int p2), .val (.long q3), .second, .val (.int n), .val (.ref b1), .unset, .unset, .unset] [(.int (0 : Int32))]) _
  obtain ⟨T3, h3, k3, X3, e3, E3, A3, st3⟩ := newP X2 hx hZ (hw _ (List.mem_of_getElem? (i := 9) rfl)) eh2 (g := (mkF m 15 #[.val (.int p0), .val (.long q1), .second, .val (.int p2), .val (.long q3), .second, .val (.int n), .val (.ref b1), .unset, .unset, .unset] [(.int (0 : Int32))])) rfl (hb hby at_15) rfl (by decide) (cap := 0) (by decide) (by decide) (by decide) (by decide)
  obtain ⟨b3, g3⟩ : ∃ z, z = h1.size := ⟨_, rfl⟩
  rw [← g3] at A3 st3
  refine own_go st3 ?_
  have g_b3 : n0 ≤ b3 := Nat.le_trans Z1 (Nat.le_of_eq g3.symm)
  have sz_b3 : h0.size ≤ b3 := Nat.le_trans K1.1 (Nat.le_of_eq g3.symm)
  have ne_b1_b3 : b1 ≠ b3 := Nat.ne_of_lt (Nat.lt_of_lt_of_le A1.lt (Nat.le_of_eq g3.symm))
  replace A1 := A1.ext E3
  replace F_b1_bytes := F_b1_bytes.ext E3
  replace F_b1_entries := F_b1_entries.ext E3
  have K3 := K1.ext E3
  have Z3 : n0 ≤ h3.size := Nat.le_trans Z0 K3.1
  have B_b3 : own_Len Z h3 b3 .byte (0 : Int32) := ⟨_, A3, sz_new _ _ _, (by decide)⟩
  show own_Ends p e below T3 (mkF m 17 #[.val (.int p0), .val (.long q1), .second, .val (.int p2), .val (.long q3), .second, .val (.int n), .val (.ref b1), .unset, .unset, .unset] [(.ref b3)]) _
  refine own_go (fun _ => XS.astore X3.here hx rfl (hb hby at_17) rfl rfl (l' := #[.val (.int p0), .val (.long q1), .second, .val (.int p2), .val (.long q3), .second, .val (.int n), .val (.ref b1), .val (.ref b3), .unset, .unset]) rfl) ?_
  show own_Ends p e below T3 (mkF m 19 #[.val (.int p0), .val (.long q1), .second, .val (.int p2), .val (.long q3), .second, .val (.int n), .val (.ref b1), .val (.ref b3), .unset, .unset] []) _
  refine own_go (fun _ => XS.iload X3.here hx rfl (hb hby at_19) rfl) ?_
  show own_Ends p e below T3 (mkF m 21 #[.val (.int p0), .val (.long q1), .second, .val (.int p2), .val (.long q3), .second, .val (.int n), .val (.ref b1), .val (.ref b3), .unset, .unset] [(.int n)]) _
  refine own_go (fun _ => XS.iconst X3.here hx rfl (hb hby at_21)) ?_
  show own_Ends p e below T3 (mkF m 22 #[.val (.int p0), .val (.long q1), .second, .val (.int p2), .val (.long q3), .second, .val (.int n), .val (.ref b1), .val (.ref b3), .unset, .unset] [(.int (1 : Int32)), (.int n)]) _
  by_cases hc22 : n < (1 : Int32)
  · refine own_go (fun _ => XS.icmpYes X3.here hx rfl (pc0 := 22) (pc' := 33) rfl (hb hby at_22) rfl (tlt hc22).1 (by decide) (by decide)) ?_
    show own_Ends p e below T3 (mkF m 33 #[.val (.int p0), .val (.long q1), .second, .val (.int p2), .val (.long q3), .second, .val (.int n), .val (.ref b1), .val (.ref b3), .unset, .unset] []) _
    refine own_go (fun _ => XS.iload X3.here hx rfl (hb hby at_33) rfl) ?_
    show own_Ends p e below T3 (mkF m 35 #[.val (.int p0), .val (.long q1), .second, .val (.int p2), .val (.long q3), .second, .val (.int n), .val (.ref b1), .val (.ref b3), .unset, .unset] [(.int n)]) _
    refine own_go (fun _ => XS.iconst X3.here hx rfl (hb hby at_35)) ?_
    show own_Ends p e below T3 (mkF m 36 #[.val (.int p0), .val (.long q1), .second, .val (.int p2), .val (.long q3), .second, .val (.int n), .val (.ref b1), .val (.ref b3), .unset, .unset] [(.int (2 : Int32)), (.int n)]) _
    refine own_go (fun _ => XS.icmpYes X3.here hx rfl (pc0 := 36) (pc' := 47) rfl (hb hby at_36) rfl (tlt (show n < (2 : Int32) from own_lt hc22 (by decide))).1 (by decide) (by decide)) ?_
    show own_Ends p e below T3 (mkF m 47 #[.val (.int p0), .val (.long q1), .second, .val (.int p2), .val (.long q3), .second, .val (.int n), .val (.ref b1), .val (.ref b3), .unset, .unset] []) _
    refine own_go (fun _ => XS.iload X3.here hx rfl (hb hby at_47) rfl) ?_
    show own_Ends p e below T3 (mkF m 49 #[.val (.int p0), .val (.long q1), .second, .val (.int p2), .val (.long q3), .second, .val (.int n), .val (.ref b1), .val (.ref b3), .unset, .unset] [(.int n)]) _
    refine own_go (fun _ => XS.iconst X3.here hx rfl (hb hby at_49)) ?_
    show own_Ends p e below T3 (mkF m 50 #[.val (.int p0), .val (.long q1), .second, .val (.int p2), .val (.long q3), .second, .val (.int n), .val (.ref b1), .val (.ref b3), .unset, .unset] [(.int (3 : Int32)), (.int n)]) _
    refine own_go (fun _ => XS.icmpYes X3.here hx rfl (pc0 := 50) (pc' := 61) rfl (hb hby at_50) rfl (tlt (show n < (3 : Int32) from own_lt hc22 (by decide))).1 (by decide) (by decide)) ?_
    show own_Ends p e below T3 (mkF m 61 #[.val (.int p0), .val (.long q1), .second, .val (.int p2), .val (.long q3), .second, .val (.int n), .val (.ref b1), .val (.ref b3), .unset, .unset] []) _
    have hk : n = (0 : Int32) := own_k0 hn hc22
    have hen : (0 : Int64) = n.toInt64 := by rw [hk]; decide
    rw [hen] at F_b1_entries
    refine own_go (fun _ => XS.aload X3.here hx rfl (hb hby at_61) rfl rfl) ?_
    show own_Ends p e below T3 (mkF m 63 #[.val (.int p0), .val (.long q1), .second, .val (.int p2), .val (.long q3), .second, .val (.int n), .val (.ref b1), .val (.ref b3), .unset, .unset] [(.ref b1)]) _
    refine own_go (fun _ => XS.lloadN X3.here hx rfl (hb hby at_63) rfl) ?_
    show own_Ends p e below T3 (mkF m 64 #[.val (.int p0), .val (.long q1), .second, .val (.int p2), .val (.long q3), .second, .val (.int n), .val (.ref b1), .val (.ref b3), .unset, .unset] [(.long q1), (.ref b1)]) _
    obtain ⟨cq4, kq4, q4a, q4b, q4c⟩ := isOf hZ e3 A1
    obtain ⟨_, _, ⟨T4, L4, k4, n4⟩, -, X4, ⟨Lc4, hQ4, l4, y4, z4⟩, st4⟩ := X3.virtualBack hx (y := (⟨"com/example/wedge/wedge/Batch$Size", "grow", "(J)V"⟩ : MethodName)) (z := (⟨"com/example/wedge/wedge/Batch$Size", "grow", "(J)V"⟩ : MethodName)) hown (mvT hZ (hw _ (List.mem_of_getElem? (i := 10) rfl))) (mvT hZ (hw _ (List.mem_of_getElem? (i := 11) rfl))) (notFace_of_selects (args := #[]) (mvT hZ (hw _ (List.mem_of_getElem? (i := 13) rfl)))) (mvT hZ (hw _ (List.mem_of_getElem? (i := 13) rfl))) (mvT hZ (hw _ (List.mem_of_getElem? (i := 12) rfl))) (by decide) (backOf (W := 0) (rmGrow l Z a0 hw [] b1 q1 (n.toInt64) ((0 : Int64)) h3 n0 Z3 A1 F_b1_entries F_b1_bytes g_b1) hZ (hw _ (List.mem_of_getElem? (i := 14) rfl)) (hw _ (List.mem_of_getElem? (i := 2) rfl)) (by decide) (by decide)) q4a q4c (g := (mkF m 64 #[.val (.int p0), .val (.long q1), .second, .val (.int p2), .val (.long q3), .second, .val (.int n), .val (.ref b1), .val (.ref b3), .unset, .unset] [(.long q1), (.ref b1)])) rfl (by rw [hml]; rfl) (Steps.refl _) (argsL := [(.long q1)]) (rest := []) (lenOf pd_3 rfl) rfl (by show 2 * 0 + _ ≤ _; exact Nat.le_of_eq rfl) (hb hby at_64) (fun _ _ => ⟨rfl, e3, (by decide : 2 + 0 ≤ _), (by decide : 2 + 0 ≤ _)⟩)
    dsimp only [Pt.U, Pt.locs, Pt.cells, Pt.slots] at X4 l4 y4 z4 st4 hQ4
    subst l4 y4 z4
    refine own_go (fun _ k => st4.trans k) ?_
    obtain ⟨rfl, N4q, Kq4, Eq4, F4_entries, F4_bytes⟩ := hQ4
    replace A1 := A1.keep Kq4
    replace B_b3 := B_b3.keep Kq4 (ninS (Ne.symm ne_b1_b3) nin0)
    have K4 := K3.trans Kq4 (allS (Or.inr sz_b1) all0)
    have Z4 : n0 ≤ T4.heap.size := Nat.le_trans Z0 K4.1
    clear Eq4
    have N4 := Fr.app N2 N4q
    show own_Ends p e below T4 (mkF m 67 #[.val (.int p0), .val (.long q1), .second, .val (.int p2), .val (.long q3), .second, .val (.int n), .val (.ref b1), .val (.ref b3), .unset, .unset] []) _
    rw [show ((0 : Int64) + q1) = q1 from Int64.zero_add _] at F4_bytes
    refine own_go (fun _ => XS.aload X4.here hx rfl (hb hby at_67) rfl rfl) ?_
    show own_Ends p e below T4 (mkF m 69 #[.val (.int p0), .val (.long q1), .second, .val (.int p2), .val (.long q3), .second, .val (.int n), .val (.ref b1), .val (.ref b3), .unset, .unset] [(.ref b1)]) _
    obtain ⟨T5, h5, X5, e5, E5, A5, D5, -, st5⟩ := newO X4 hx hZ hown (hw _ (List.mem_of_getElem? (i := 17) rfl)) (hw _ (List.mem_of_getElem? (i := 18) rfl)) (hw _ (List.mem_of_getElem? (i := 19) rfl)) rfl (g := (mkF m 69 #[.val (.int p0), .val (.long q1), .second, .val (.int p2), .val (.long q3), .second, .val (.int n), .val (.ref b1), .val (.ref b3), .unset, .unset] [(.ref b1)])) rfl (hb hby at_69) (by decide) (by decide)
    obtain ⟨b5, g5⟩ : ∃ z, z = T4.heap.size := ⟨_, rfl⟩
    rw [← g5] at A5 D5 st5
    refine own_go st5 ?_
    have g_b5 : n0 ≤ b5 := Nat.le_trans Z4 (Nat.le_of_eq g5.symm)
    have sz_b5 : h0.size ≤ b5 := Nat.le_trans K4.1 (Nat.le_of_eq g5.symm)
    have ne_b1_b5 : b1 ≠ b5 := Nat.ne_of_lt (Nat.lt_of_lt_of_le A1.lt (Nat.le_of_eq g5.symm))
    have ne_b3_b5 : b3 ≠ b5 := Nat.ne_of_lt (Nat.lt_of_lt_of_le B_b3.lt (Nat.le_of_eq g5.symm))
    replace A1 := A1.ext E5
    replace B_b3 := B_b3.ext E5
    replace F4_entries := F4_entries.ext E5
    replace F4_bytes := F4_bytes.ext E5
    have K5 := K4.ext E5
    have Z5 : n0 ≤ h5.size := Nat.le_trans Z0 K5.1
    have F_b5_entries : Fld Z h5 b5 "com/example/wedge/wedge/Batch$Limit" "entries" "I" (.int (0 : Int32)) := D5 (Or.inr (hw _ (List.mem_of_getElem? (i := 30) rfl))) (ty := .int) (by decide)
    have F_b5_bytes : Fld Z h5 b5 "com/example/wedge/wedge/Batch$Limit" "bytes" "J" (.long (0 : Int64)) := D5 (Or.inr (hw _ (List.mem_of_getElem? (i := 32) rfl))) (ty := .long) (by decide)
    show own_Ends p e below T5 (mkF m 72 #[.val (.int p0), .val (.long q1), .second, .val (.int p2), .val (.long q3), .second, .val (.int n), .val (.ref b1), .val (.ref b3), .unset, .unset] [(.ref b5), (.ref b1)]) _
    refine own_go (fun _ => XS.dup X5.here hx rfl (hb hby at_72) rfl rfl) ?_
    show own_Ends p e below T5 (mkF m 73 #[.val (.int p0), .val (.long q1), .second, .val (.int p2), .val (.long q3), .second, .val (.int n), .val (.ref b1), .val (.ref b3), .unset, .unset] [(.ref b5), (.ref b5), (.ref b1)]) _
    refine own_go (fun _ => XS.iloadN X5.here hx rfl (hb hby at_73) rfl) ?_
    show own_Ends p e below T5 (mkF m 74 #[.val (.int p0), .val (.long q1), .second, .val (.int p2), .val (.long q3), .second, .val (.int n), .val (.ref b1), .val (.ref b3), .unset, .unset] [(.int p2), (.ref b5), (.ref b5), (.ref b1)]) _
    refine own_go (fun _ => XS.lload X5.here hx rfl (hb hby at_74) rfl) ?_
    show own_Ends p e below T5 (mkF m 76 #[.val (.int p0), .val (.long q1), .second, .val (.int p2), .val (.long q3), .second, .val (.int n), .val (.ref b1), .val (.ref b3), .unset, .unset] [(.long q3), (.int p2), (.ref b5), (.ref b5), (.ref b1)]) _
    obtain ⟨_, _, ⟨T6, L6, k6, n6⟩, -, X6, ⟨Lc6, hQ6, l6, y6, z6⟩, st6⟩ := X5.specialBack hx (y := (⟨"com/example/wedge/wedge/Batch$Limit", "<init>", "(IJ)V"⟩ : MethodName)) rfl hown (mvT hZ (hw _ (List.mem_of_getElem? (i := 20) rfl))) (mvT hZ (hw _ (List.mem_of_getElem? (i := 21) rfl))) (mvT hZ (hw _ (List.mem_of_getElem? (i := 22) rfl))) (by decide) (backOf (W := 2) (rmLInit l Z a0 hw [] b5 p2 q3  h5 n0 Z5 A5 F_b5_entries F_b5_bytes g_b5) hZ (hw _ (List.mem_of_getElem? (i := 22) rfl)) (hw _ (List.mem_of_getElem? (i := 19) rfl)) (by decide) (by decide)) (g := (mkF m 76 #[.val (.int p0), .val (.long q1), .second, .val (.int p2), .val (.long q3), .second, .val (.int n), .val (.ref b1), .val (.ref b3), .unset, .unset] [(.long q3), (.int p2), (.ref b5), (.ref b5), (.ref b1)])) rfl (by rw [hml]; rfl) (Steps.refl _) (a := b5) (argsL := [(.int p2), (.long q3)]) (rest := [(.ref b5), (.ref b1)]) (lenOf pd_4 rfl) rfl (by show 2 * 0 + _ ≤ _; exact Nat.le_of_eq rfl) (hb hby at_76) (fun _ _ => ⟨rfl, e5, (by decide : 3 + 0 ≤ _), (by decide : 4 + 0 ≤ _)⟩)
    dsimp only [Pt.U, Pt.locs, Pt.cells, Pt.slots] at X6 l6 y6 z6 st6 hQ6
    subst l6 y6 z6
    refine own_go (fun _ k => st6.trans k) ?_
    obtain ⟨rfl, N6q, Kq6, Eq6, F6_entries, F6_bytes⟩ := hQ6
    replace A1 := A1.keep Kq6
    replace B_b3 := B_b3.keep Kq6 (ninS ne_b3_b5 nin0)
    replace F4_entries := F4_entries.keep Kq6 (ninS ne_b1_b5 nin0)
    replace F4_bytes := F4_bytes.keep Kq6 (ninS ne_b1_b5 nin0)
    replace A5 := A5.keep Kq6
    have K6 := K5.trans Kq6 (allS (Or.inr sz_b5) all0)
    have Z6 : n0 ≤ T6.heap.size := Nat.le_trans Z0 K6.1
    clear Eq6
    have N6 := Fr.app N4 N6q
    show own_Ends p e below T6 (mkF m 79 #[.val (.int p0), .val (.long q1), .second, .val (.int p2), .val (.long q3), .second, .val (.int n), .val (.ref b1), .val (.ref b3), .unset, .unset] [(.ref b5), (.ref b1)]) _
    obtain ⟨cq7, kq7, q7a, q7b, q7c⟩ := isOf hZ rfl A1
    obtain ⟨_, _, ⟨T7, L7, k7, n7⟩, -, X7, ⟨Lc7, hQ7, l7, y7, z7⟩, st7⟩ := X6.virtualBack hx (y := (⟨"com/example/wedge/wedge/Batch$Size", "within", "(Lcom/example/wedge/wedge/Batch$Limit;)Z"⟩ : MethodName)) (z := (⟨"com/example/wedge/wedge/Batch$Size", "within", "(Lcom/example/wedge/wedge/Batch$Limit;)Z"⟩ : MethodName)) hown (mvT hZ (hw _ (List.mem_of_getElem? (i := 33) rfl))) (mvT hZ (hw _ (List.mem_of_getElem? (i := 34) rfl))) (notFace_of_selects (args := #[]) (mvT hZ (hw _ (List.mem_of_getElem? (i := 36) rfl)))) (mvT hZ (hw _ (List.mem_of_getElem? (i := 36) rfl))) (mvT hZ (hw _ (List.mem_of_getElem? (i := 35) rfl))) (by decide) (backOf (W := 0) (rmWithin l Z a0 hw [] b1 b5 (n.toInt64) q1 p2 q3 (T6.heap) n0 Z6 F4_entries F4_bytes A5 F6_entries F6_bytes) hZ (hw _ (List.mem_of_getElem? (i := 37) rfl)) (hw _ (List.mem_of_getElem? (i := 2) rfl)) (by decide) (by decide)) q7a q7c (g := (mkF m 79 #[.val (.int p0), .val (.long q1), .second, .val (.int p2), .val (.long q3), .second, .val (.int n), .val (.ref b1), .val (.ref b3), .unset, .unset] [(.ref b5), (.ref b1)])) rfl (by rw [hml]; rfl) (Steps.refl _) (argsL := [(.ref b5)]) (rest := []) (lenOf pd_5 rfl) rfl (by show 2 * 0 + _ ≤ _; exact Nat.le_of_eq rfl) (hb hby at_79) (fun _ _ => ⟨rfl, rfl, (by decide : 3 + 0 ≤ _), (by decide : 4 + 0 ≤ _)⟩)
    dsimp only [Pt.U, Pt.locs, Pt.cells, Pt.slots] at X7 l7 y7 z7 st7 hQ7
    subst l7 y7 z7
    refine own_go (fun _ k => st7.trans k) ?_
    obtain ⟨rfl, N7q, eh7⟩ := hQ7
    have N7 := Fr.app N6 N7q
    show own_Ends p e below T7 (mkF m 82 #[.val (.int p0), .val (.long q1), .second, .val (.int p2), .val (.long q3), .second, .val (.int n), .val (.ref b1), .val (.ref b3), .unset, .unset] [(.int (own_within (n.toInt64) q1 p2 q3))]) _
    refine own_go (fun _ => XS.istore X7.here hx rfl (hb hby at_82) rfl (l' := #[.val (.int p0), .val (.long q1), .second, .val (.int p2), .val (.long q3), .second, .val (.int n), .val (.ref b1), .val (.ref b3), .val (.int (own_within (n.toInt64) q1 p2 q3)), .unset]) rfl) ?_
    show own_Ends p e below T7 (mkF m 84 #[.val (.int p0), .val (.long q1), .second, .val (.int p2), .val (.long q3), .second, .val (.int n), .val (.ref b1), .val (.ref b3), .val (.int (own_within (n.toInt64) q1 p2 q3)), .unset] []) _
    refine own_go (fun _ => XS.iload X7.here hx rfl (hb hby at_84) rfl) ?_
    show own_Ends p e below T7 (mkF m 86 #[.val (.int p0), .val (.long q1), .second, .val (.int p2), .val (.long q3), .second, .val (.int n), .val (.ref b1), .val (.ref b3), .val (.int (own_within (n.toInt64) q1 p2 q3)), .unset] [(.int n)]) _
    refine own_go (fun _ => XS.i2l X7.here hx rfl (hb hby at_86) rfl) ?_
    show own_Ends p e below T7 (mkF m 87 #[.val (.int p0), .val (.long q1), .second, .val (.int p2), .val (.long q3), .second, .val (.int n), .val (.ref b1), .val (.ref b3), .val (.int (own_within (n.toInt64) q1 p2 q3)), .unset] [(.long (n.toInt64))]) _
    refine own_go (fun _ => XS.iloadN X7.here hx rfl (hb hby at_87) rfl) ?_
    show own_Ends p e below T7 (mkF m 88 #[.val (.int p0), .val (.long q1), .second, .val (.int p2), .val (.long q3), .second, .val (.int n), .val (.ref b1), .val (.ref b3), .val (.int (own_within (n.toInt64) q1 p2 q3)), .unset] [(.int p2), (.long (n.toInt64))]) _
    refine own_go (fun _ => XS.i2l X7.here hx rfl (hb hby at_88) rfl) ?_
    show own_Ends p e below T7 (mkF m 89 #[.val (.int p0), .val (.long q1), .second, .val (.int p2), .val (.long q3), .second, .val (.int n), .val (.ref b1), .val (.ref b3), .val (.int (own_within (n.toInt64) q1 p2 q3)), .unset] [(.long (p2.toInt64)), (.long (n.toInt64))]) _
    refine own_go (fun _ => XS.lcmp X7.here hx rfl (hb hby at_89) rfl) ?_
    show own_Ends p e below T7 (mkF m 90 #[.val (.int p0), .val (.long q1), .second, .val (.int p2), .val (.long q3), .second, .val (.int n), .val (.ref b1), .val (.ref b3), .val (.int (own_within (n.toInt64) q1 p2 q3)), .unset] [(.int (lcmpW (n.toInt64) (p2.toInt64)))]) _
    by_cases hc90 : (p2.toInt64) < (n.toInt64)
    · refine own_go (fun _ => XS.ifYes X7.here hx rfl (pc0 := 90) (pc' := 104) rfl (hb hby at_90) rfl ((if0 _ _).trans (tlt ((lw_gt (n.toInt64) (p2.toInt64)).mpr hc90)).2.2.1) (by decide) (by decide)) ?_
      show own_Ends p e below T7 (mkF m 104 #[.val (.int p0), .val (.long q1), .second, .val (.int p2), .val (.long q3), .second, .val (.int n), .val (.ref b1), .val (.ref b3), .val (.int (own_within (n.toInt64) q1 p2 q3)), .unset] []) _
      refine own_go (fun _ => XS.iconst X7.here hx rfl (hb hby at_104)) ?_
      show own_Ends p e below T7 (mkF m 105 #[.val (.int p0), .val (.long q1), .second, .val (.int p2), .val (.long q3), .second, .val (.int n), .val (.ref b1), .val (.ref b3), .val (.int (own_within (n.toInt64) q1 p2 q3)), .unset] [(.int (0 : Int32))]) _
      refine own_go (fun _ => XS.istore X7.here hx rfl (hb hby at_105) rfl (l' := #[.val (.int p0), .val (.long q1), .second, .val (.int p2), .val (.long q3), .second, .val (.int n), .val (.ref b1), .val (.ref b3), .val (.int (own_within (n.toInt64) q1 p2 q3)), .val (.int (0 : Int32))]) rfl) ?_
      show own_Ends p e below T7 (mkF m 107 #[.val (.int p0), .val (.long q1), .second, .val (.int p2), .val (.long q3), .second, .val (.int n), .val (.ref b1), .val (.ref b3), .val (.int (own_within (n.toInt64) q1 p2 q3)), .val (.int (0 : Int32))] []) _
      refine own_go (fun _ => XS.iload X7.here hx rfl (hb hby at_107) rfl) ?_
      show own_Ends p e below T7 (mkF m 109 #[.val (.int p0), .val (.long q1), .second, .val (.int p2), .val (.long q3), .second, .val (.int n), .val (.ref b1), .val (.ref b3), .val (.int (own_within (n.toInt64) q1 p2 q3)), .val (.int (0 : Int32))] [(.int (own_within (n.toInt64) q1 p2 q3))]) _
      refine own_go (fun _ => XS.iload X7.here hx rfl (hb hby at_109) rfl) ?_
      show own_Ends p e below T7 (mkF m 111 #[.val (.int p0), .val (.long q1), .second, .val (.int p2), .val (.long q3), .second, .val (.int n), .val (.ref b1), .val (.ref b3), .val (.int (own_within (n.toInt64) q1 p2 q3)), .val (.int (0 : Int32))] [(.int (0 : Int32)), (.int (own_within (n.toInt64) q1 p2 q3))]) _
      refine own_go (fun _ => XS.icmpNo X7.here hx rfl (hb hby at_111) rfl (teq (show (own_within (n.toInt64) q1 p2 q3) = (0 : Int32) from by unfold own_within; rw [if_pos hc90])).2) ?_
      show own_Ends p e below T7 (mkF m 114 #[.val (.int p0), .val (.long q1), .second, .val (.int p2), .val (.long q3), .second, .val (.int n), .val (.ref b1), .val (.ref b3), .val (.int (own_within (n.toInt64) q1 p2 q3)), .val (.int (0 : Int32))] []) _
      refine own_go (fun _ => XS.iconst X7.here hx rfl (hb hby at_114)) ?_
      show own_Ends p e below T7 (mkF m 115 #[.val (.int p0), .val (.long q1), .second, .val (.int p2), .val (.long q3), .second, .val (.int n), .val (.ref b1), .val (.ref b3), .val (.int (own_within (n.toInt64) q1 p2 q3)), .val (.int (0 : Int32))] [(.int (1 : Int32))]) _
      refine own_go (fun _ => XS.goto X7.here hx rfl (pc0 := 115) (pc' := 119) rfl (hb hby at_115) (by decide) (by decide)) ?_
      show own_Ends p e below T7 (mkF m 119 #[.val (.int p0), .val (.long q1), .second, .val (.int p2), .val (.long q3), .second, .val (.int n), .val (.ref b1), .val (.ref b3), .val (.int (own_within (n.toInt64) q1 p2 q3)), .val (.int (0 : Int32))] [(.int (1 : Int32))]) _
      obtain ⟨fs, hr, hrun, hended, hW, hsame⟩ := X7.leave (v := some (.int (1 : Int32))) (fun h => by rw [Bd.returns] at h; cases h)
      refine ⟨_, _, retN X7 hx (t := .boolean) Bd.returns (by simp) (hb hby at_119) hr, hrun, hended, _, _, rfl, ?_, ⟨_, rfl⟩, hW, hsame.mono (by decide) (by decide)⟩
      show Q_rm0 Z p0 q1 p2 q3 h0 n0 _ T7.heap _
      rw [eh7]
      exact ⟨rfl, N7⟩
    · refine own_go (fun _ => XS.ifNo X7.here hx rfl (hb hby at_90) rfl ((if0 _ _).trans (flt (fun q => hc90 ((lw_gt (n.toInt64) (p2.toInt64)).mp q))).2.2.1)) ?_
      show own_Ends p e below T7 (mkF m 93 #[.val (.int p0), .val (.long q1), .second, .val (.int p2), .val (.long q3), .second, .val (.int n), .val (.ref b1), .val (.ref b3), .val (.int (own_within (n.toInt64) q1 p2 q3)), .unset] []) _
      refine own_go (fun _ => XS.lloadN X7.here hx rfl (hb hby at_93) rfl) ?_
      show own_Ends p e below T7 (mkF m 94 #[.val (.int p0), .val (.long q1), .second, .val (.int p2), .val (.long q3), .second, .val (.int n), .val (.ref b1), .val (.ref b3), .val (.int (own_within (n.toInt64) q1 p2 q3)), .unset] [(.long q1)]) _
      refine own_go (fun _ => XS.lload X7.here hx rfl (hb hby at_94) rfl) ?_
      show own_Ends p e below T7 (mkF m 96 #[.val (.int p0), .val (.long q1), .second, .val (.int p2), .val (.long q3), .second, .val (.int n), .val (.ref b1), .val (.ref b3), .val (.int (own_within (n.toInt64) q1 p2 q3)), .unset] [(.long q3), (.long q1)]) _
      refine own_go (fun _ => XS.lcmp X7.here hx rfl (hb hby at_96) rfl) ?_
      show own_Ends p e below T7 (mkF m 97 #[.val (.int p0), .val (.long q1), .second, .val (.int p2), .val (.long q3), .second, .val (.int n), .val (.ref b1), .val (.ref b3), .val (.int (own_within (n.toInt64) q1 p2 q3)), .unset] [(.int (lcmpW q1 q3))]) _
      by_cases hc97 : q3 < q1
      · refine own_go (fun _ => XS.ifYes X7.here hx rfl (pc0 := 97) (pc' := 104) rfl (hb hby at_97) rfl ((if0 _ _).trans (tlt ((lw_gt q1 q3).mpr hc97)).2.2.1) (by decide) (by decide)) ?_
        show own_Ends p e below T7 (mkF m 104 #[.val (.int p0), .val (.long q1), .second, .val (.int p2), .val (.long q3), .second, .val (.int n), .val (.ref b1), .val (.ref b3), .val (.int (own_within (n.toInt64) q1 p2 q3)), .unset] []) _
        refine own_go (fun _ => XS.iconst X7.here hx rfl (hb hby at_104)) ?_
        show own_Ends p e below T7 (mkF m 105 #[.val (.int p0), .val (.long q1), .second, .val (.int p2), .val (.long q3), .second, .val (.int n), .val (.ref b1), .val (.ref b3), .val (.int (own_within (n.toInt64) q1 p2 q3)), .unset] [(.int (0 : Int32))]) _
        refine own_go (fun _ => XS.istore X7.here hx rfl (hb hby at_105) rfl (l' := #[.val (.int p0), .val (.long q1), .second, .val (.int p2), .val (.long q3), .second, .val (.int n), .val (.ref b1), .val (.ref b3), .val (.int (own_within (n.toInt64) q1 p2 q3)), .val (.int (0 : Int32))]) rfl) ?_
        show own_Ends p e below T7 (mkF m 107 #[.val (.int p0), .val (.long q1), .second, .val (.int p2), .val (.long q3), .second, .val (.int n), .val (.ref b1), .val (.ref b3), .val (.int (own_within (n.toInt64) q1 p2 q3)), .val (.int (0 : Int32))] []) _
        refine own_go (fun _ => XS.iload X7.here hx rfl (hb hby at_107) rfl) ?_
        show own_Ends p e below T7 (mkF m 109 #[.val (.int p0), .val (.long q1), .second, .val (.int p2), .val (.long q3), .second, .val (.int n), .val (.ref b1), .val (.ref b3), .val (.int (own_within (n.toInt64) q1 p2 q3)), .val (.int (0 : Int32))] [(.int (own_within (n.toInt64) q1 p2 q3))]) _
        refine own_go (fun _ => XS.iload X7.here hx rfl (hb hby at_109) rfl) ?_
        show own_Ends p e below T7 (mkF m 111 #[.val (.int p0), .val (.long q1), .second, .val (.int p2), .val (.long q3), .second, .val (.int n), .val (.ref b1), .val (.ref b3), .val (.int (own_within (n.toInt64) q1 p2 q3)), .val (.int (0 : Int32))] [(.int (0 : Int32)), (.int (own_within (n.toInt64) q1 p2 q3))]) _
        refine own_go (fun _ => XS.icmpNo X7.here hx rfl (hb hby at_111) rfl (teq (show (own_within (n.toInt64) q1 p2 q3) = (0 : Int32) from by unfold own_within; rw [if_neg hc90, if_pos hc97])).2) ?_
        show own_Ends p e below T7 (mkF m 114 #[.val (.int p0), .val (.long q1), .second, .val (.int p2), .val (.long q3), .second, .val (.int n), .val (.ref b1), .val (.ref b3), .val (.int (own_within (n.toInt64) q1 p2 q3)), .val (.int (0 : Int32))] []) _
        refine own_go (fun _ => XS.iconst X7.here hx rfl (hb hby at_114)) ?_
        show own_Ends p e below T7 (mkF m 115 #[.val (.int p0), .val (.long q1), .second, .val (.int p2), .val (.long q3), .second, .val (.int n), .val (.ref b1), .val (.ref b3), .val (.int (own_within (n.toInt64) q1 p2 q3)), .val (.int (0 : Int32))] [(.int (1 : Int32))]) _
        refine own_go (fun _ => XS.goto X7.here hx rfl (pc0 := 115) (pc' := 119) rfl (hb hby at_115) (by decide) (by decide)) ?_
        show own_Ends p e below T7 (mkF m 119 #[.val (.int p0), .val (.long q1), .second, .val (.int p2), .val (.long q3), .second, .val (.int n), .val (.ref b1), .val (.ref b3), .val (.int (own_within (n.toInt64) q1 p2 q3)), .val (.int (0 : Int32))] [(.int (1 : Int32))]) _
        obtain ⟨fs, hr, hrun, hended, hW, hsame⟩ := X7.leave (v := some (.int (1 : Int32))) (fun h => by rw [Bd.returns] at h; cases h)
        refine ⟨_, _, retN X7 hx (t := .boolean) Bd.returns (by simp) (hb hby at_119) hr, hrun, hended, _, _, rfl, ?_, ⟨_, rfl⟩, hW, hsame.mono (by decide) (by decide)⟩
        show Q_rm0 Z p0 q1 p2 q3 h0 n0 _ T7.heap _
        rw [eh7]
        exact ⟨rfl, N7⟩
      · refine own_go (fun _ => XS.ifNo X7.here hx rfl (hb hby at_97) rfl ((if0 _ _).trans (flt (fun q => hc97 ((lw_gt q1 q3).mp q))).2.2.1)) ?_
        show own_Ends p e below T7 (mkF m 100 #[.val (.int p0), .val (.long q1), .second, .val (.int p2), .val (.long q3), .second, .val (.int n), .val (.ref b1), .val (.ref b3), .val (.int (own_within (n.toInt64) q1 p2 q3)), .unset] []) _
        refine own_go (fun _ => XS.iconst X7.here hx rfl (hb hby at_100)) ?_
        show own_Ends p e below T7 (mkF m 101 #[.val (.int p0), .val (.long q1), .second, .val (.int p2), .val (.long q3), .second, .val (.int n), .val (.ref b1), .val (.ref b3), .val (.int (own_within (n.toInt64) q1 p2 q3)), .unset] [(.int (1 : Int32))]) _
        refine own_go (fun _ => XS.goto X7.here hx rfl (pc0 := 101) (pc' := 105) rfl (hb hby at_101) (by decide) (by decide)) ?_
        show own_Ends p e below T7 (mkF m 105 #[.val (.int p0), .val (.long q1), .second, .val (.int p2), .val (.long q3), .second, .val (.int n), .val (.ref b1), .val (.ref b3), .val (.int (own_within (n.toInt64) q1 p2 q3)), .unset] [(.int (1 : Int32))]) _
        refine own_go (fun _ => XS.istore X7.here hx rfl (hb hby at_105) rfl (l' := #[.val (.int p0), .val (.long q1), .second, .val (.int p2), .val (.long q3), .second, .val (.int n), .val (.ref b1), .val (.ref b3), .val (.int (own_within (n.toInt64) q1 p2 q3)), .val (.int (1 : Int32))]) rfl) ?_
        show own_Ends p e below T7 (mkF m 107 #[.val (.int p0), .val (.long q1), .second, .val (.int p2), .val (.long q3), .second, .val (.int n), .val (.ref b1), .val (.ref b3), .val (.int (own_within (n.toInt64) q1 p2 q3)), .val (.int (1 : Int32))] []) _
        refine own_go (fun _ => XS.iload X7.here hx rfl (hb hby at_107) rfl) ?_
        show own_Ends p e below T7 (mkF m 109 #[.val (.int p0), .val (.long q1), .second, .val (.int p2), .val (.long q3), .second, .val (.int n), .val (.ref b1), .val (.ref b3), .val (.int (own_within (n.toInt64) q1 p2 q3)), .val (.int (1 : Int32))] [(.int (own_within (n.toInt64) q1 p2 q3))]) _
        refine own_go (fun _ => XS.iload X7.here hx rfl (hb hby at_109) rfl) ?_
        show own_Ends p e below T7 (mkF m 111 #[.val (.int p0), .val (.long q1), .second, .val (.int p2), .val (.long q3), .second, .val (.int n), .val (.ref b1), .val (.ref b3), .val (.int (own_within (n.toInt64) q1 p2 q3)), .val (.int (1 : Int32))] [(.int (1 : Int32)), (.int (own_within (n.toInt64) q1 p2 q3))]) _
        refine own_go (fun _ => XS.icmpNo X7.here hx rfl (hb hby at_111) rfl (teq (show (own_within (n.toInt64) q1 p2 q3) = (1 : Int32) from by unfold own_within; rw [if_neg hc90, if_neg hc97])).2) ?_
        show own_Ends p e below T7 (mkF m 114 #[.val (.int p0), .val (.long q1), .second, .val (.int p2), .val (.long q3), .second, .val (.int n), .val (.ref b1), .val (.ref b3), .val (.int (own_within (n.toInt64) q1 p2 q3)), .val (.int (1 : Int32))] []) _
        refine own_go (fun _ => XS.iconst X7.here hx rfl (hb hby at_114)) ?_
        show own_Ends p e below T7 (mkF m 115 #[.val (.int p0), .val (.long q1), .second, .val (.int p2), .val (.long q3), .second, .val (.int n), .val (.ref b1), .val (.ref b3), .val (.int (own_within (n.toInt64) q1 p2 q3)), .val (.int (1 : Int32))] [(.int (1 : Int32))]) _
        refine own_go (fun _ => XS.goto X7.here hx rfl (pc0 := 115) (pc' := 119) rfl (hb hby at_115) (by decide) (by decide)) ?_
        show own_Ends p e below T7 (mkF m 119 #[.val (.int p0), .val (.long q1), .second, .val (.int p2), .val (.long q3), .second, .val (.int n), .val (.ref b1), .val (.ref b3), .val (.int (own_within (n.toInt64) q1 p2 q3)), .val (.int (1 : Int32))] [(.int (1 : Int32))]) _
        obtain ⟨fs, hr, hrun, hended, hW, hsame⟩ := X7.leave (v := some (.int (1 : Int32))) (fun h => by rw [Bd.returns] at h; cases h)
        refine ⟨_, _, retN X7 hx (t := .boolean) Bd.returns (by simp) (hb hby at_119) hr, hrun, hended, _, _, rfl, ?_, ⟨_, rfl⟩, hW, hsame.mono (by decide) (by decide)⟩
        show Q_rm0 Z p0 q1 p2 q3 h0 n0 _ T7.heap _
        rw [eh7]
        exact ⟨rfl, N7⟩
  · refine own_go (fun _ => XS.icmpNo X3.here hx rfl (hb hby at_22) rfl (flt hc22).1) ?_
    show own_Ends p e below T3 (mkF m 25 #[.val (.int p0), .val (.long q1), .second, .val (.int p2), .val (.long q3), .second, .val (.int n), .val (.ref b1), .val (.ref b3), .unset, .unset] []) _
    refine own_go (fun _ => XS.aload X3.here hx rfl (hb hby at_25) rfl rfl) ?_
    show own_Ends p e below T3 (mkF m 27 #[.val (.int p0), .val (.long q1), .second, .val (.int p2), .val (.long q3), .second, .val (.int n), .val (.ref b1), .val (.ref b3), .unset, .unset] [(.ref b1)]) _
    refine own_go (fun _ => XS.aload X3.here hx rfl (hb hby at_27) rfl rfl) ?_
    show own_Ends p e below T3 (mkF m 29 #[.val (.int p0), .val (.long q1), .second, .val (.int p2), .val (.long q3), .second, .val (.int n), .val (.ref b1), .val (.ref b3), .unset, .unset] [(.ref b3), (.ref b1)]) _
    refine own_go (fun _ => XS.aconstNull X3.here hx rfl (hb hby at_29)) ?_
    show own_Ends p e below T3 (mkF m 30 #[.val (.int p0), .val (.long q1), .second, .val (.int p2), .val (.long q3), .second, .val (.int n), .val (.ref b1), .val (.ref b3), .unset, .unset] [.null, (.ref b3), (.ref b1)]) _
    obtain ⟨cq8, kq8, q8a, q8b, q8c⟩ := isOf hZ e3 A1
    obtain ⟨_, _, ⟨T8, L8, k8, n8⟩, -, X8, ⟨Lc8, hQ8, l8, y8, z8⟩, st8⟩ := X3.virtualBack hx (y := (⟨"com/example/wedge/wedge/Batch$Size", "add", "([B[B)V"⟩ : MethodName)) (z := (⟨"com/example/wedge/wedge/Batch$Size", "add", "([B[B)V"⟩ : MethodName)) hown (mvT hZ (hw _ (List.mem_of_getElem? (i := 50) rfl))) (mvT hZ (hw _ (List.mem_of_getElem? (i := 51) rfl))) (notFace_of_selects (args := #[]) (mvT hZ (hw _ (List.mem_of_getElem? (i := 53) rfl)))) (mvT hZ (hw _ (List.mem_of_getElem? (i := 53) rfl))) (mvT hZ (hw _ (List.mem_of_getElem? (i := 52) rfl))) (by decide) (backOf (W := 0) (rmAddn l Z a0 hw [] b1 b3 ((0 : Int64)) ((0 : Int64)) ((0 : Int32)) h3 n0 Z3 A1 F_b1_entries F_b1_bytes g_b1 B_b3 (Ne.symm ne_b1_b3)) hZ (hw _ (List.mem_of_getElem? (i := 54) rfl)) (hw _ (List.mem_of_getElem? (i := 2) rfl)) (by decide) (by decide)) q8a q8c (g := (mkF m 30 #[.val (.int p0), .val (.long q1), .second, .val (.int p2), .val (.long q3), .second, .val (.int n), .val (.ref b1), .val (.ref b3), .unset, .unset] [.null, (.ref b3), (.ref b1)])) rfl (by rw [hml]; rfl) (Steps.refl _) (argsL := [(.ref b3), .null]) (rest := []) (lenOf pd_6 rfl) rfl (by show 2 * 0 + _ ≤ _; exact Nat.le_of_eq rfl) (hb hby at_30) (fun _ _ => ⟨rfl, e3, (by decide : 2 + 0 ≤ _), (by decide : 2 + 0 ≤ _)⟩)
    dsimp only [Pt.U, Pt.locs, Pt.cells, Pt.slots] at X8 l8 y8 z8 st8 hQ8
    subst l8 y8 z8
    refine own_go (fun _ k => st8.trans k) ?_
    obtain ⟨rfl, N8q, Kq8, Eq8, F8_entries, F8_bytes⟩ := hQ8
    replace A1 := A1.keep Kq8
    replace B_b3 := B_b3.keep Kq8 (ninS (Ne.symm ne_b1_b3) nin0)
    have K8 := K3.trans Kq8 (allS (Or.inr sz_b1) all0)
    have Z8 : n0 ≤ T8.heap.size := Nat.le_trans Z0 K8.1
    clear Eq8
    have N8 := Fr.app N2 N8q
    show own_Ends p e below T8 (mkF m 33 #[.val (.int p0), .val (.long q1), .second, .val (.int p2), .val (.long q3), .second, .val (.int n), .val (.ref b1), .val (.ref b3), .unset, .unset] []) _
    refine own_go (fun _ => XS.iload X8.here hx rfl (hb hby at_33) rfl) ?_
    show own_Ends p e below T8 (mkF m 35 #[.val (.int p0), .val (.long q1), .second, .val (.int p2), .val (.long q3), .second, .val (.int n), .val (.ref b1), .val (.ref b3), .unset, .unset] [(.int n)]) _
    refine own_go (fun _ => XS.iconst X8.here hx rfl (hb hby at_35)) ?_
    show own_Ends p e below T8 (mkF m 36 #[.val (.int p0), .val (.long q1), .second, .val (.int p2), .val (.long q3), .second, .val (.int n), .val (.ref b1), .val (.ref b3), .unset, .unset] [(.int (2 : Int32)), (.int n)]) _
    by_cases hc36 : n < (2 : Int32)
    · refine own_go (fun _ => XS.icmpYes X8.here hx rfl (pc0 := 36) (pc' := 47) rfl (hb hby at_36) rfl (tlt hc36).1 (by decide) (by decide)) ?_
      show own_Ends p e below T8 (mkF m 47 #[.val (.int p0), .val (.long q1), .second, .val (.int p2), .val (.long q3), .second, .val (.int n), .val (.ref b1), .val (.ref b3), .unset, .unset] []) _
      refine own_go (fun _ => XS.iload X8.here hx rfl (hb hby at_47) rfl) ?_
      show own_Ends p e below T8 (mkF m 49 #[.val (.int p0), .val (.long q1), .second, .val (.int p2), .val (.long q3), .second, .val (.int n), .val (.ref b1), .val (.ref b3), .unset, .unset] [(.int n)]) _
      refine own_go (fun _ => XS.iconst X8.here hx rfl (hb hby at_49)) ?_
      show own_Ends p e below T8 (mkF m 50 #[.val (.int p0), .val (.long q1), .second, .val (.int p2), .val (.long q3), .second, .val (.int n), .val (.ref b1), .val (.ref b3), .unset, .unset] [(.int (3 : Int32)), (.int n)]) _
      refine own_go (fun _ => XS.icmpYes X8.here hx rfl (pc0 := 50) (pc' := 61) rfl (hb hby at_50) rfl (tlt (show n < (3 : Int32) from own_lt hc36 (by decide))).1 (by decide) (by decide)) ?_
      show own_Ends p e below T8 (mkF m 61 #[.val (.int p0), .val (.long q1), .second, .val (.int p2), .val (.long q3), .second, .val (.int n), .val (.ref b1), .val (.ref b3), .unset, .unset] []) _
      have hk : n = (1 : Int32) := own_k1 hn hc22 hc36
      have hen : ((0 : Int64) + (1 : Int64)) = n.toInt64 := by rw [hk]; decide
      rw [hen] at F8_entries
      have hbyt : ((0 : Int64) + (((0 : Int32) + (0 : Int32)).toInt64)) = (0 : Int64) := by decide
      rw [hbyt] at F8_bytes
      refine own_go (fun _ => XS.aload X8.here hx rfl (hb hby at_61) rfl rfl) ?_
      show own_Ends p e below T8 (mkF m 63 #[.val (.int p0), .val (.long q1), .second, .val (.int p2), .val (.long q3), .second, .val (.int n), .val (.ref b1), .val (.ref b3), .unset, .unset] [(.ref b1)]) _
      refine own_go (fun _ => XS.lloadN X8.here hx rfl (hb hby at_63) rfl) ?_
      show own_Ends p e below T8 (mkF m 64 #[.val (.int p0), .val (.long q1), .second, .val (.int p2), .val (.long q3), .second, .val (.int n), .val (.ref b1), .val (.ref b3), .unset, .unset] [(.long q1), (.ref b1)]) _
      obtain ⟨cq9, kq9, q9a, q9b, q9c⟩ := isOf hZ rfl A1
      obtain ⟨_, _, ⟨T9, L9, k9, n9⟩, -, X9, ⟨Lc9, hQ9, l9, y9, z9⟩, st9⟩ := X8.virtualBack hx (y := (⟨"com/example/wedge/wedge/Batch$Size", "grow", "(J)V"⟩ : MethodName)) (z := (⟨"com/example/wedge/wedge/Batch$Size", "grow", "(J)V"⟩ : MethodName)) hown (mvT hZ (hw _ (List.mem_of_getElem? (i := 10) rfl))) (mvT hZ (hw _ (List.mem_of_getElem? (i := 11) rfl))) (notFace_of_selects (args := #[]) (mvT hZ (hw _ (List.mem_of_getElem? (i := 13) rfl)))) (mvT hZ (hw _ (List.mem_of_getElem? (i := 13) rfl))) (mvT hZ (hw _ (List.mem_of_getElem? (i := 12) rfl))) (by decide) (backOf (W := 0) (rmGrow l Z a0 hw [] b1 q1 (n.toInt64) ((0 : Int64)) (T8.heap) n0 Z8 A1 F8_entries F8_bytes g_b1) hZ (hw _ (List.mem_of_getElem? (i := 14) rfl)) (hw _ (List.mem_of_getElem? (i := 2) rfl)) (by decide) (by decide)) q9a q9c (g := (mkF m 64 #[.val (.int p0), .val (.long q1), .second, .val (.int p2), .val (.long q3), .second, .val (.int n), .val (.ref b1), .val (.ref b3), .unset, .unset] [(.long q1), (.ref b1)])) rfl (by rw [hml]; rfl) (Steps.refl _) (argsL := [(.long q1)]) (rest := []) (lenOf pd_3 rfl) rfl (by show 2 * 0 + _ ≤ _; exact Nat.le_of_eq rfl) (hb hby at_64) (fun _ _ => ⟨rfl, rfl, (by decide : 2 + 0 ≤ _), (by decide : 2 + 0 ≤ _)⟩)
      dsimp only [Pt.U, Pt.locs, Pt.cells, Pt.slots] at X9 l9 y9 z9 st9 hQ9
      subst l9 y9 z9
      refine own_go (fun _ k => st9.trans k) ?_
      obtain ⟨rfl, N9q, Kq9, Eq9, F9_entries, F9_bytes⟩ := hQ9
      replace A1 := A1.keep Kq9
      replace B_b3 := B_b3.keep Kq9 (ninS (Ne.symm ne_b1_b3) nin0)
      have K9 := K8.trans Kq9 (allS (Or.inr sz_b1) all0)
      have Z9 : n0 ≤ T9.heap.size := Nat.le_trans Z0 K9.1
      clear Eq9
      have N9 := Fr.app N8 N9q
      show own_Ends p e below T9 (mkF m 67 #[.val (.int p0), .val (.long q1), .second, .val (.int p2), .val (.long q3), .second, .val (.int n), .val (.ref b1), .val (.ref b3), .unset, .unset] []) _
      rw [show ((0 : Int64) + q1) = q1 from Int64.zero_add _] at F9_bytes
      refine own_go (fun _ => XS.aload X9.here hx rfl (hb hby at_67) rfl rfl) ?_
      show own_Ends p e below T9 (mkF m 69 #[.val (.int p0), .val (.long q1), .second, .val (.int p2), .val (.long q3), .second, .val (.int n), .val (.ref b1), .val (.ref b3), .unset, .unset] [(.ref b1)]) _
      obtain ⟨T10, h10, X10, e10, E10, A10, D10, -, st10⟩ := newO X9 hx hZ hown (hw _ (List.mem_of_getElem? (i := 17) rfl)) (hw _ (List.mem_of_getElem? (i := 18) rfl)) (hw _ (List.mem_of_getElem? (i := 19) rfl)) rfl (g := (mkF m 69 #[.val (.int p0), .val (.long q1), .second, .val (.int p2), .val (.long q3), .second, .val (.int n), .val (.ref b1), .val (.ref b3), .unset, .unset] [(.ref b1)])) rfl (hb hby at_69) (by decide) (by decide)
      obtain ⟨b10, g10⟩ : ∃ z, z = T9.heap.size := ⟨_, rfl⟩
      rw [← g10] at A10 D10 st10
      refine own_go st10 ?_
      have g_b10 : n0 ≤ b10 := Nat.le_trans Z9 (Nat.le_of_eq g10.symm)
      have sz_b10 : h0.size ≤ b10 := Nat.le_trans K9.1 (Nat.le_of_eq g10.symm)
      have ne_b1_b10 : b1 ≠ b10 := Nat.ne_of_lt (Nat.lt_of_lt_of_le A1.lt (Nat.le_of_eq g10.symm))
      have ne_b3_b10 : b3 ≠ b10 := Nat.ne_of_lt (Nat.lt_of_lt_of_le B_b3.lt (Nat.le_of_eq g10.symm))
      replace A1 := A1.ext E10
      replace B_b3 := B_b3.ext E10
      replace F9_entries := F9_entries.ext E10
      replace F9_bytes := F9_bytes.ext E10
      have K10 := K9.ext E10
      have Z10 : n0 ≤ h10.size := Nat.le_trans Z0 K10.1
      have F_b10_entries : Fld Z h10 b10 "com/example/wedge/wedge/Batch$Limit" "entries" "I" (.int (0 : Int32)) := D10 (Or.inr (hw _ (List.mem_of_getElem? (i := 30) rfl))) (ty := .int) (by decide)
      have F_b10_bytes : Fld Z h10 b10 "com/example/wedge/wedge/Batch$Limit" "bytes" "J" (.long (0 : Int64)) := D10 (Or.inr (hw _ (List.mem_of_getElem? (i := 32) rfl))) (ty := .long) (by decide)
      show own_Ends p e below T10 (mkF m 72 #[.val (.int p0), .val (.long q1), .second, .val (.int p2), .val (.long q3), .second, .val (.int n), .val (.ref b1), .val (.ref b3), .unset, .unset] [(.ref b10), (.ref b1)]) _
      refine own_go (fun _ => XS.dup X10.here hx rfl (hb hby at_72) rfl rfl) ?_
      show own_Ends p e below T10 (mkF m 73 #[.val (.int p0), .val (.long q1), .second, .val (.int p2), .val (.long q3), .second, .val (.int n), .val (.ref b1), .val (.ref b3), .unset, .unset] [(.ref b10), (.ref b10), (.ref b1)]) _
      refine own_go (fun _ => XS.iloadN X10.here hx rfl (hb hby at_73) rfl) ?_
      show own_Ends p e below T10 (mkF m 74 #[.val (.int p0), .val (.long q1), .second, .val (.int p2), .val (.long q3), .second, .val (.int n), .val (.ref b1), .val (.ref b3), .unset, .unset] [(.int p2), (.ref b10), (.ref b10), (.ref b1)]) _
      refine own_go (fun _ => XS.lload X10.here hx rfl (hb hby at_74) rfl) ?_
      show own_Ends p e below T10 (mkF m 76 #[.val (.int p0), .val (.long q1), .second, .val (.int p2), .val (.long q3), .second, .val (.int n), .val (.ref b1), .val (.ref b3), .unset, .unset] [(.long q3), (.int p2), (.ref b10), (.ref b10), (.ref b1)]) _
      obtain ⟨_, _, ⟨T11, L11, k11, n11⟩, -, X11, ⟨Lc11, hQ11, l11, y11, z11⟩, st11⟩ := X10.specialBack hx (y := (⟨"com/example/wedge/wedge/Batch$Limit", "<init>", "(IJ)V"⟩ : MethodName)) rfl hown (mvT hZ (hw _ (List.mem_of_getElem? (i := 20) rfl))) (mvT hZ (hw _ (List.mem_of_getElem? (i := 21) rfl))) (mvT hZ (hw _ (List.mem_of_getElem? (i := 22) rfl))) (by decide) (backOf (W := 2) (rmLInit l Z a0 hw [] b10 p2 q3  h10 n0 Z10 A10 F_b10_entries F_b10_bytes g_b10) hZ (hw _ (List.mem_of_getElem? (i := 22) rfl)) (hw _ (List.mem_of_getElem? (i := 19) rfl)) (by decide) (by decide)) (g := (mkF m 76 #[.val (.int p0), .val (.long q1), .second, .val (.int p2), .val (.long q3), .second, .val (.int n), .val (.ref b1), .val (.ref b3), .unset, .unset] [(.long q3), (.int p2), (.ref b10), (.ref b10), (.ref b1)])) rfl (by rw [hml]; rfl) (Steps.refl _) (a := b10) (argsL := [(.int p2), (.long q3)]) (rest := [(.ref b10), (.ref b1)]) (lenOf pd_4 rfl) rfl (by show 2 * 0 + _ ≤ _; exact Nat.le_of_eq rfl) (hb hby at_76) (fun _ _ => ⟨rfl, e10, (by decide : 3 + 0 ≤ _), (by decide : 4 + 0 ≤ _)⟩)
      dsimp only [Pt.U, Pt.locs, Pt.cells, Pt.slots] at X11 l11 y11 z11 st11 hQ11
      subst l11 y11 z11
      refine own_go (fun _ k => st11.trans k) ?_
      obtain ⟨rfl, N11q, Kq11, Eq11, F11_entries, F11_bytes⟩ := hQ11
      replace A1 := A1.keep Kq11
      replace B_b3 := B_b3.keep Kq11 (ninS ne_b3_b10 nin0)
      replace F9_entries := F9_entries.keep Kq11 (ninS ne_b1_b10 nin0)
      replace F9_bytes := F9_bytes.keep Kq11 (ninS ne_b1_b10 nin0)
      replace A10 := A10.keep Kq11
      have K11 := K10.trans Kq11 (allS (Or.inr sz_b10) all0)
      have Z11 : n0 ≤ T11.heap.size := Nat.le_trans Z0 K11.1
      clear Eq11
      have N11 := Fr.app N9 N11q
      show own_Ends p e below T11 (mkF m 79 #[.val (.int p0), .val (.long q1), .second, .val (.int p2), .val (.long q3), .second, .val (.int n), .val (.ref b1), .val (.ref b3), .unset, .unset] [(.ref b10), (.ref b1)]) _
      obtain ⟨cq12, kq12, q12a, q12b, q12c⟩ := isOf hZ rfl A1
      obtain ⟨_, _, ⟨T12, L12, k12, n12⟩, -, X12, ⟨Lc12, hQ12, l12, y12, z12⟩, st12⟩ := X11.virtualBack hx (y := (⟨"com/example/wedge/wedge/Batch$Size", "within", "(Lcom/example/wedge/wedge/Batch$Limit;)Z"⟩ : MethodName)) (z := (⟨"com/example/wedge/wedge/Batch$Size", "within", "(Lcom/example/wedge/wedge/Batch$Limit;)Z"⟩ : MethodName)) hown (mvT hZ (hw _ (List.mem_of_getElem? (i := 33) rfl))) (mvT hZ (hw _ (List.mem_of_getElem? (i := 34) rfl))) (notFace_of_selects (args := #[]) (mvT hZ (hw _ (List.mem_of_getElem? (i := 36) rfl)))) (mvT hZ (hw _ (List.mem_of_getElem? (i := 36) rfl))) (mvT hZ (hw _ (List.mem_of_getElem? (i := 35) rfl))) (by decide) (backOf (W := 0) (rmWithin l Z a0 hw [] b1 b10 (n.toInt64) q1 p2 q3 (T11.heap) n0 Z11 F9_entries F9_bytes A10 F11_entries F11_bytes) hZ (hw _ (List.mem_of_getElem? (i := 37) rfl)) (hw _ (List.mem_of_getElem? (i := 2) rfl)) (by decide) (by decide)) q12a q12c (g := (mkF m 79 #[.val (.int p0), .val (.long q1), .second, .val (.int p2), .val (.long q3), .second, .val (.int n), .val (.ref b1), .val (.ref b3), .unset, .unset] [(.ref b10), (.ref b1)])) rfl (by rw [hml]; rfl) (Steps.refl _) (argsL := [(.ref b10)]) (rest := []) (lenOf pd_5 rfl) rfl (by show 2 * 0 + _ ≤ _; exact Nat.le_of_eq rfl) (hb hby at_79) (fun _ _ => ⟨rfl, rfl, (by decide : 3 + 0 ≤ _), (by decide : 4 + 0 ≤ _)⟩)
      dsimp only [Pt.U, Pt.locs, Pt.cells, Pt.slots] at X12 l12 y12 z12 st12 hQ12
      subst l12 y12 z12
      refine own_go (fun _ k => st12.trans k) ?_
      obtain ⟨rfl, N12q, eh12⟩ := hQ12
      have N12 := Fr.app N11 N12q
      show own_Ends p e below T12 (mkF m 82 #[.val (.int p0), .val (.long q1), .second, .val (.int p2), .val (.long q3), .second, .val (.int n), .val (.ref b1), .val (.ref b3), .unset, .unset] [(.int (own_within (n.toInt64) q1 p2 q3))]) _
      refine own_go (fun _ => XS.istore X12.here hx rfl (hb hby at_82) rfl (l' := #[.val (.int p0), .val (.long q1), .second, .val (.int p2), .val (.long q3), .second, .val (.int n), .val (.ref b1), .val (.ref b3), .val (.int (own_within (n.toInt64) q1 p2 q3)), .unset]) rfl) ?_
      show own_Ends p e below T12 (mkF m 84 #[.val (.int p0), .val (.long q1), .second, .val (.int p2), .val (.long q3), .second, .val (.int n), .val (.ref b1), .val (.ref b3), .val (.int (own_within (n.toInt64) q1 p2 q3)), .unset] []) _
      refine own_go (fun _ => XS.iload X12.here hx rfl (hb hby at_84) rfl) ?_
      show own_Ends p e below T12 (mkF m 86 #[.val (.int p0), .val (.long q1), .second, .val (.int p2), .val (.long q3), .second, .val (.int n), .val (.ref b1), .val (.ref b3), .val (.int (own_within (n.toInt64) q1 p2 q3)), .unset] [(.int n)]) _
      refine own_go (fun _ => XS.i2l X12.here hx rfl (hb hby at_86) rfl) ?_
      show own_Ends p e below T12 (mkF m 87 #[.val (.int p0), .val (.long q1), .second, .val (.int p2), .val (.long q3), .second, .val (.int n), .val (.ref b1), .val (.ref b3), .val (.int (own_within (n.toInt64) q1 p2 q3)), .unset] [(.long (n.toInt64))]) _
      refine own_go (fun _ => XS.iloadN X12.here hx rfl (hb hby at_87) rfl) ?_
      show own_Ends p e below T12 (mkF m 88 #[.val (.int p0), .val (.long q1), .second, .val (.int p2), .val (.long q3), .second, .val (.int n), .val (.ref b1), .val (.ref b3), .val (.int (own_within (n.toInt64) q1 p2 q3)), .unset] [(.int p2), (.long (n.toInt64))]) _
      refine own_go (fun _ => XS.i2l X12.here hx rfl (hb hby at_88) rfl) ?_
      show own_Ends p e below T12 (mkF m 89 #[.val (.int p0), .val (.long q1), .second, .val (.int p2), .val (.long q3), .second, .val (.int n), .val (.ref b1), .val (.ref b3), .val (.int (own_within (n.toInt64) q1 p2 q3)), .unset] [(.long (p2.toInt64)), (.long (n.toInt64))]) _
      refine own_go (fun _ => XS.lcmp X12.here hx rfl (hb hby at_89) rfl) ?_
      show own_Ends p e below T12 (mkF m 90 #[.val (.int p0), .val (.long q1), .second, .val (.int p2), .val (.long q3), .second, .val (.int n), .val (.ref b1), .val (.ref b3), .val (.int (own_within (n.toInt64) q1 p2 q3)), .unset] [(.int (lcmpW (n.toInt64) (p2.toInt64)))]) _
      by_cases hc90 : (p2.toInt64) < (n.toInt64)
      · refine own_go (fun _ => XS.ifYes X12.here hx rfl (pc0 := 90) (pc' := 104) rfl (hb hby at_90) rfl ((if0 _ _).trans (tlt ((lw_gt (n.toInt64) (p2.toInt64)).mpr hc90)).2.2.1) (by decide) (by decide)) ?_
        show own_Ends p e below T12 (mkF m 104 #[.val (.int p0), .val (.long q1), .second, .val (.int p2), .val (.long q3), .second, .val (.int n), .val (.ref b1), .val (.ref b3), .val (.int (own_within (n.toInt64) q1 p2 q3)), .unset] []) _
        refine own_go (fun _ => XS.iconst X12.here hx rfl (hb hby at_104)) ?_
        show own_Ends p e below T12 (mkF m 105 #[.val (.int p0), .val (.long q1), .second, .val (.int p2), .val (.long q3), .second, .val (.int n), .val (.ref b1), .val (.ref b3), .val (.int (own_within (n.toInt64) q1 p2 q3)), .unset] [(.int (0 : Int32))]) _
        refine own_go (fun _ => XS.istore X12.here hx rfl (hb hby at_105) rfl (l' := #[.val (.int p0), .val (.long q1), .second, .val (.int p2), .val (.long q3), .second, .val (.int n), .val (.ref b1), .val (.ref b3), .val (.int (own_within (n.toInt64) q1 p2 q3)), .val (.int (0 : Int32))]) rfl) ?_
        show own_Ends p e below T12 (mkF m 107 #[.val (.int p0), .val (.long q1), .second, .val (.int p2), .val (.long q3), .second, .val (.int n), .val (.ref b1), .val (.ref b3), .val (.int (own_within (n.toInt64) q1 p2 q3)), .val (.int (0 : Int32))] []) _
        refine own_go (fun _ => XS.iload X12.here hx rfl (hb hby at_107) rfl) ?_
        show own_Ends p e below T12 (mkF m 109 #[.val (.int p0), .val (.long q1), .second, .val (.int p2), .val (.long q3), .second, .val (.int n), .val (.ref b1), .val (.ref b3), .val (.int (own_within (n.toInt64) q1 p2 q3)), .val (.int (0 : Int32))] [(.int (own_within (n.toInt64) q1 p2 q3))]) _
        refine own_go (fun _ => XS.iload X12.here hx rfl (hb hby at_109) rfl) ?_
        show own_Ends p e below T12 (mkF m 111 #[.val (.int p0), .val (.long q1), .second, .val (.int p2), .val (.long q3), .second, .val (.int n), .val (.ref b1), .val (.ref b3), .val (.int (own_within (n.toInt64) q1 p2 q3)), .val (.int (0 : Int32))] [(.int (0 : Int32)), (.int (own_within (n.toInt64) q1 p2 q3))]) _
        refine own_go (fun _ => XS.icmpNo X12.here hx rfl (hb hby at_111) rfl (teq (show (own_within (n.toInt64) q1 p2 q3) = (0 : Int32) from by unfold own_within; rw [if_pos hc90])).2) ?_
        show own_Ends p e below T12 (mkF m 114 #[.val (.int p0), .val (.long q1), .second, .val (.int p2), .val (.long q3), .second, .val (.int n), .val (.ref b1), .val (.ref b3), .val (.int (own_within (n.toInt64) q1 p2 q3)), .val (.int (0 : Int32))] []) _
        refine own_go (fun _ => XS.iconst X12.here hx rfl (hb hby at_114)) ?_
        show own_Ends p e below T12 (mkF m 115 #[.val (.int p0), .val (.long q1), .second, .val (.int p2), .val (.long q3), .second, .val (.int n), .val (.ref b1), .val (.ref b3), .val (.int (own_within (n.toInt64) q1 p2 q3)), .val (.int (0 : Int32))] [(.int (1 : Int32))]) _
        refine own_go (fun _ => XS.goto X12.here hx rfl (pc0 := 115) (pc' := 119) rfl (hb hby at_115) (by decide) (by decide)) ?_
        show own_Ends p e below T12 (mkF m 119 #[.val (.int p0), .val (.long q1), .second, .val (.int p2), .val (.long q3), .second, .val (.int n), .val (.ref b1), .val (.ref b3), .val (.int (own_within (n.toInt64) q1 p2 q3)), .val (.int (0 : Int32))] [(.int (1 : Int32))]) _
        obtain ⟨fs, hr, hrun, hended, hW, hsame⟩ := X12.leave (v := some (.int (1 : Int32))) (fun h => by rw [Bd.returns] at h; cases h)
        refine ⟨_, _, retN X12 hx (t := .boolean) Bd.returns (by simp) (hb hby at_119) hr, hrun, hended, _, _, rfl, ?_, ⟨_, rfl⟩, hW, hsame.mono (by decide) (by decide)⟩
        show Q_rm0 Z p0 q1 p2 q3 h0 n0 _ T12.heap _
        rw [eh12]
        exact ⟨rfl, N12⟩
      · refine own_go (fun _ => XS.ifNo X12.here hx rfl (hb hby at_90) rfl ((if0 _ _).trans (flt (fun q => hc90 ((lw_gt (n.toInt64) (p2.toInt64)).mp q))).2.2.1)) ?_
        show own_Ends p e below T12 (mkF m 93 #[.val (.int p0), .val (.long q1), .second, .val (.int p2), .val (.long q3), .second, .val (.int n), .val (.ref b1), .val (.ref b3), .val (.int (own_within (n.toInt64) q1 p2 q3)), .unset] []) _
        refine own_go (fun _ => XS.lloadN X12.here hx rfl (hb hby at_93) rfl) ?_
        show own_Ends p e below T12 (mkF m 94 #[.val (.int p0), .val (.long q1), .second, .val (.int p2), .val (.long q3), .second, .val (.int n), .val (.ref b1), .val (.ref b3), .val (.int (own_within (n.toInt64) q1 p2 q3)), .unset] [(.long q1)]) _
        refine own_go (fun _ => XS.lload X12.here hx rfl (hb hby at_94) rfl) ?_
        show own_Ends p e below T12 (mkF m 96 #[.val (.int p0), .val (.long q1), .second, .val (.int p2), .val (.long q3), .second, .val (.int n), .val (.ref b1), .val (.ref b3), .val (.int (own_within (n.toInt64) q1 p2 q3)), .unset] [(.long q3), (.long q1)]) _
        refine own_go (fun _ => XS.lcmp X12.here hx rfl (hb hby at_96) rfl) ?_
        show own_Ends p e below T12 (mkF m 97 #[.val (.int p0), .val (.long q1), .second, .val (.int p2), .val (.long q3), .second, .val (.int n), .val (.ref b1), .val (.ref b3), .val (.int (own_within (n.toInt64) q1 p2 q3)), .unset] [(.int (lcmpW q1 q3))]) _
        by_cases hc97 : q3 < q1
        · refine own_go (fun _ => XS.ifYes X12.here hx rfl (pc0 := 97) (pc' := 104) rfl (hb hby at_97) rfl ((if0 _ _).trans (tlt ((lw_gt q1 q3).mpr hc97)).2.2.1) (by decide) (by decide)) ?_
          show own_Ends p e below T12 (mkF m 104 #[.val (.int p0), .val (.long q1), .second, .val (.int p2), .val (.long q3), .second, .val (.int n), .val (.ref b1), .val (.ref b3), .val (.int (own_within (n.toInt64) q1 p2 q3)), .unset] []) _
          refine own_go (fun _ => XS.iconst X12.here hx rfl (hb hby at_104)) ?_
          show own_Ends p e below T12 (mkF m 105 #[.val (.int p0), .val (.long q1), .second, .val (.int p2), .val (.long q3), .second, .val (.int n), .val (.ref b1), .val (.ref b3), .val (.int (own_within (n.toInt64) q1 p2 q3)), .unset] [(.int (0 : Int32))]) _
          refine own_go (fun _ => XS.istore X12.here hx rfl (hb hby at_105) rfl (l' := #[.val (.int p0), .val (.long q1), .second, .val (.int p2), .val (.long q3), .second, .val (.int n), .val (.ref b1), .val (.ref b3), .val (.int (own_within (n.toInt64) q1 p2 q3)), .val (.int (0 : Int32))]) rfl) ?_
          show own_Ends p e below T12 (mkF m 107 #[.val (.int p0), .val (.long q1), .second, .val (.int p2), .val (.long q3), .second, .val (.int n), .val (.ref b1), .val (.ref b3), .val (.int (own_within (n.toInt64) q1 p2 q3)), .val (.int (0 : Int32))] []) _
          refine own_go (fun _ => XS.iload X12.here hx rfl (hb hby at_107) rfl) ?_
          show own_Ends p e below T12 (mkF m 109 #[.val (.int p0), .val (.long q1), .second, .val (.int p2), .val (.long q3), .second, .val (.int n), .val (.ref b1), .val (.ref b3), .val (.int (own_within (n.toInt64) q1 p2 q3)), .val (.int (0 : Int32))] [(.int (own_within (n.toInt64) q1 p2 q3))]) _
          refine own_go (fun _ => XS.iload X12.here hx rfl (hb hby at_109) rfl) ?_
          show own_Ends p e below T12 (mkF m 111 #[.val (.int p0), .val (.long q1), .second, .val (.int p2), .val (.long q3), .second, .val (.int n), .val (.ref b1), .val (.ref b3), .val (.int (own_within (n.toInt64) q1 p2 q3)), .val (.int (0 : Int32))] [(.int (0 : Int32)), (.int (own_within (n.toInt64) q1 p2 q3))]) _
          refine own_go (fun _ => XS.icmpNo X12.here hx rfl (hb hby at_111) rfl (teq (show (own_within (n.toInt64) q1 p2 q3) = (0 : Int32) from by unfold own_within; rw [if_neg hc90, if_pos hc97])).2) ?_
          show own_Ends p e below T12 (mkF m 114 #[.val (.int p0), .val (.long q1), .second, .val (.int p2), .val (.long q3), .second, .val (.int n), .val (.ref b1), .val (.ref b3), .val (.int (own_within (n.toInt64) q1 p2 q3)), .val (.int (0 : Int32))] []) _
          refine own_go (fun _ => XS.iconst X12.here hx rfl (hb hby at_114)) ?_
          show own_Ends p e below T12 (mkF m 115 #[.val (.int p0), .val (.long q1), .second, .val (.int p2), .val (.long q3), .second, .val (.int n), .val (.ref b1), .val (.ref b3), .val (.int (own_within (n.toInt64) q1 p2 q3)), .val (.int (0 : Int32))] [(.int (1 : Int32))]) _
          refine own_go (fun _ => XS.goto X12.here hx rfl (pc0 := 115) (pc' := 119) rfl (hb hby at_115) (by decide) (by decide)) ?_
          show own_Ends p e below T12 (mkF m 119 #[.val (.int p0), .val (.long q1), .second, .val (.int p2), .val (.long q3), .second, .val (.int n), .val (.ref b1), .val (.ref b3), .val (.int (own_within (n.toInt64) q1 p2 q3)), .val (.int (0 : Int32))] [(.int (1 : Int32))]) _
          obtain ⟨fs, hr, hrun, hended, hW, hsame⟩ := X12.leave (v := some (.int (1 : Int32))) (fun h => by rw [Bd.returns] at h; cases h)
          refine ⟨_, _, retN X12 hx (t := .boolean) Bd.returns (by simp) (hb hby at_119) hr, hrun, hended, _, _, rfl, ?_, ⟨_, rfl⟩, hW, hsame.mono (by decide) (by decide)⟩
          show Q_rm0 Z p0 q1 p2 q3 h0 n0 _ T12.heap _
          rw [eh12]
          exact ⟨rfl, N12⟩
        · refine own_go (fun _ => XS.ifNo X12.here hx rfl (hb hby at_97) rfl ((if0 _ _).trans (flt (fun q => hc97 ((lw_gt q1 q3).mp q))).2.2.1)) ?_
          show own_Ends p e below T12 (mkF m 100 #[.val (.int p0), .val (.long q1), .second, .val (.int p2), .val (.long q3), .second, .val (.int n), .val (.ref b1), .val (.ref b3), .val (.int (own_within (n.toInt64) q1 p2 q3)), .unset] []) _
          refine own_go (fun _ => XS.iconst X12.here hx rfl (hb hby at_100)) ?_
          show own_Ends p e below T12 (mkF m 101 #[.val (.int p0), .val (.long q1), .second, .val (.int p2), .val (.long q3), .second, .val (.int n), .val (.ref b1), .val (.ref b3), .val (.int (own_within (n.toInt64) q1 p2 q3)), .unset] [(.int (1 : Int32))]) _
          refine own_go (fun _ => XS.goto X12.here hx rfl (pc0 := 101) (pc' := 105) rfl (hb hby at_101) (by decide) (by decide)) ?_
          show own_Ends p e below T12 (mkF m 105 #[.val (.int p0), .val (.long q1), .second, .val (.int p2), .val (.long q3), .second, .val (.int n), .val (.ref b1), .val (.ref b3), .val (.int (own_within (n.toInt64) q1 p2 q3)), .unset] [(.int (1 : Int32))]) _
          refine own_go (fun _ => XS.istore X12.here hx rfl (hb hby at_105) rfl (l' := #[.val (.int p0), .val (.long q1), .second, .val (.int p2), .val (.long q3), .second, .val (.int n), .val (.ref b1), .val (.ref b3), .val (.int (own_within (n.toInt64) q1 p2 q3)), .val (.int (1 : Int32))]) rfl) ?_
          show own_Ends p e below T12 (mkF m 107 #[.val (.int p0), .val (.long q1), .second, .val (.int p2), .val (.long q3), .second, .val (.int n), .val (.ref b1), .val (.ref b3), .val (.int (own_within (n.toInt64) q1 p2 q3)), .val (.int (1 : Int32))] []) _
          refine own_go (fun _ => XS.iload X12.here hx rfl (hb hby at_107) rfl) ?_
          show own_Ends p e below T12 (mkF m 109 #[.val (.int p0), .val (.long q1), .second, .val (.int p2), .val (.long q3), .second, .val (.int n), .val (.ref b1), .val (.ref b3), .val (.int (own_within (n.toInt64) q1 p2 q3)), .val (.int (1 : Int32))] [(.int (own_within (n.toInt64) q1 p2 q3))]) _
          refine own_go (fun _ => XS.iload X12.here hx rfl (hb hby at_109) rfl) ?_
          show own_Ends p e below T12 (mkF m 111 #[.val (.int p0), .val (.long q1), .second, .val (.int p2), .val (.long q3), .second, .val (.int n), .val (.ref b1), .val (.ref b3), .val (.int (own_within (n.toInt64) q1 p2 q3)), .val (.int (1 : Int32))] [(.int (1 : Int32)), (.int (own_within (n.toInt64) q1 p2 q3))]) _
          refine own_go (fun _ => XS.icmpNo X12.here hx rfl (hb hby at_111) rfl (teq (show (own_within (n.toInt64) q1 p2 q3) = (1 : Int32) from by unfold own_within; rw [if_neg hc90, if_neg hc97])).2) ?_
          show own_Ends p e below T12 (mkF m 114 #[.val (.int p0), .val (.long q1), .second, .val (.int p2), .val (.long q3), .second, .val (.int n), .val (.ref b1), .val (.ref b3), .val (.int (own_within (n.toInt64) q1 p2 q3)), .val (.int (1 : Int32))] []) _
          refine own_go (fun _ => XS.iconst X12.here hx rfl (hb hby at_114)) ?_
          show own_Ends p e below T12 (mkF m 115 #[.val (.int p0), .val (.long q1), .second, .val (.int p2), .val (.long q3), .second, .val (.int n), .val (.ref b1), .val (.ref b3), .val (.int (own_within (n.toInt64) q1 p2 q3)), .val (.int (1 : Int32))] [(.int (1 : Int32))]) _
          refine own_go (fun _ => XS.goto X12.here hx rfl (pc0 := 115) (pc' := 119) rfl (hb hby at_115) (by decide) (by decide)) ?_
          show own_Ends p e below T12 (mkF m 119 #[.val (.int p0), .val (.long q1), .second, .val (.int p2), .val (.long q3), .second, .val (.int n), .val (.ref b1), .val (.ref b3), .val (.int (own_within (n.toInt64) q1 p2 q3)), .val (.int (1 : Int32))] [(.int (1 : Int32))]) _
          obtain ⟨fs, hr, hrun, hended, hW, hsame⟩ := X12.leave (v := some (.int (1 : Int32))) (fun h => by rw [Bd.returns] at h; cases h)
          refine ⟨_, _, retN X12 hx (t := .boolean) Bd.returns (by simp) (hb hby at_119) hr, hrun, hended, _, _, rfl, ?_, ⟨_, rfl⟩, hW, hsame.mono (by decide) (by decide)⟩
          show Q_rm0 Z p0 q1 p2 q3 h0 n0 _ T12.heap _
          rw [eh12]
          exact ⟨rfl, N12⟩
    · refine own_go (fun _ => XS.icmpNo X8.here hx rfl (hb hby at_36) rfl (flt hc36).1) ?_
      show own_Ends p e below T8 (mkF m 39 #[.val (.int p0), .val (.long q1), .second, .val (.int p2), .val (.long q3), .second, .val (.int n), .val (.ref b1), .val (.ref b3), .unset, .unset] []) _
      refine own_go (fun _ => XS.aload X8.here hx rfl (hb hby at_39) rfl rfl) ?_
      show own_Ends p e below T8 (mkF m 41 #[.val (.int p0), .val (.long q1), .second, .val (.int p2), .val (.long q3), .second, .val (.int n), .val (.ref b1), .val (.ref b3), .unset, .unset] [(.ref b1)]) _
      refine own_go (fun _ => XS.aload X8.here hx rfl (hb hby at_41) rfl rfl) ?_
      show own_Ends p e below T8 (mkF m 43 #[.val (.int p0), .val (.long q1), .second, .val (.int p2), .val (.long q3), .second, .val (.int n), .val (.ref b1), .val (.ref b3), .unset, .unset] [(.ref b3), (.ref b1)]) _
      refine own_go (fun _ => XS.aconstNull X8.here hx rfl (hb hby at_43)) ?_
      show own_Ends p e below T8 (mkF m 44 #[.val (.int p0), .val (.long q1), .second, .val (.int p2), .val (.long q3), .second, .val (.int n), .val (.ref b1), .val (.ref b3), .unset, .unset] [.null, (.ref b3), (.ref b1)]) _
      obtain ⟨cq13, kq13, q13a, q13b, q13c⟩ := isOf hZ rfl A1
      obtain ⟨_, _, ⟨T13, L13, k13, n13⟩, -, X13, ⟨Lc13, hQ13, l13, y13, z13⟩, st13⟩ := X8.virtualBack hx (y := (⟨"com/example/wedge/wedge/Batch$Size", "add", "([B[B)V"⟩ : MethodName)) (z := (⟨"com/example/wedge/wedge/Batch$Size", "add", "([B[B)V"⟩ : MethodName)) hown (mvT hZ (hw _ (List.mem_of_getElem? (i := 50) rfl))) (mvT hZ (hw _ (List.mem_of_getElem? (i := 51) rfl))) (notFace_of_selects (args := #[]) (mvT hZ (hw _ (List.mem_of_getElem? (i := 53) rfl)))) (mvT hZ (hw _ (List.mem_of_getElem? (i := 53) rfl))) (mvT hZ (hw _ (List.mem_of_getElem? (i := 52) rfl))) (by decide) (backOf (W := 0) (rmAddn l Z a0 hw [] b1 b3 (((0 : Int64) + (1 : Int64))) (((0 : Int64) + (((0 : Int32) + (0 : Int32)).toInt64))) ((0 : Int32)) (T8.heap) n0 Z8 A1 F8_entries F8_bytes g_b1 B_b3 (Ne.symm ne_b1_b3)) hZ (hw _ (List.mem_of_getElem? (i := 54) rfl)) (hw _ (List.mem_of_getElem? (i := 2) rfl)) (by decide) (by decide)) q13a q13c (g := (mkF m 44 #[.val (.int p0), .val (.long q1), .second, .val (.int p2), .val (.long q3), .second, .val (.int n), .val (.ref b1), .val (.ref b3), .unset, .unset] [.null, (.ref b3), (.ref b1)])) rfl (by rw [hml]; rfl) (Steps.refl _) (argsL := [(.ref b3), .null]) (rest := []) (lenOf pd_6 rfl) rfl (by show 2 * 0 + _ ≤ _; exact Nat.le_of_eq rfl) (hb hby at_44) (fun _ _ => ⟨rfl, rfl, (by decide : 2 + 0 ≤ _), (by decide : 2 + 0 ≤ _)⟩)
      dsimp only [Pt.U, Pt.locs, Pt.cells, Pt.slots] at X13 l13 y13 z13 st13 hQ13
      subst l13 y13 z13
      refine own_go (fun _ k => st13.trans k) ?_
      obtain ⟨rfl, N13q, Kq13, Eq13, F13_entries, F13_bytes⟩ := hQ13
      replace A1 := A1.keep Kq13
      replace B_b3 := B_b3.keep Kq13 (ninS (Ne.symm ne_b1_b3) nin0)
      have K13 := K8.trans Kq13 (allS (Or.inr sz_b1) all0)
      have Z13 : n0 ≤ T13.heap.size := Nat.le_trans Z0 K13.1
      clear Eq13
      have N13 := Fr.app N8 N13q
      show own_Ends p e below T13 (mkF m 47 #[.val (.int p0), .val (.long q1), .second, .val (.int p2), .val (.long q3), .second, .val (.int n), .val (.ref b1), .val (.ref b3), .unset, .unset] []) _
      refine own_go (fun _ => XS.iload X13.here hx rfl (hb hby at_47) rfl) ?_
      show own_Ends p e below T13 (mkF m 49 #[.val (.int p0), .val (.long q1), .second, .val (.int p2), .val (.long q3), .second, .val (.int n), .val (.ref b1), .val (.ref b3), .unset, .unset] [(.int n)]) _
      refine own_go (fun _ => XS.iconst X13.here hx rfl (hb hby at_49)) ?_
      show own_Ends p e below T13 (mkF m 50 #[.val (.int p0), .val (.long q1), .second, .val (.int p2), .val (.long q3), .second, .val (.int n), .val (.ref b1), .val (.ref b3), .unset, .unset] [(.int (3 : Int32)), (.int n)]) _
      by_cases hc50 : n < (3 : Int32)
      · refine own_go (fun _ => XS.icmpYes X13.here hx rfl (pc0 := 50) (pc' := 61) rfl (hb hby at_50) rfl (tlt hc50).1 (by decide) (by decide)) ?_
        show own_Ends p e below T13 (mkF m 61 #[.val (.int p0), .val (.long q1), .second, .val (.int p2), .val (.long q3), .second, .val (.int n), .val (.ref b1), .val (.ref b3), .unset, .unset] []) _
        have hk : n = (2 : Int32) := own_k2 hn hc36 hc50
        have hen : (((0 : Int64) + (1 : Int64)) + (1 : Int64)) = n.toInt64 := by rw [hk]; decide
        rw [hen] at F13_entries
        have hbyt : (((0 : Int64) + (((0 : Int32) + (0 : Int32)).toInt64)) + (((0 : Int32) + (0 : Int32)).toInt64)) = (0 : Int64) := by decide
        rw [hbyt] at F13_bytes
        refine own_go (fun _ => XS.aload X13.here hx rfl (hb hby at_61) rfl rfl) ?_
        show own_Ends p e below T13 (mkF m 63 #[.val (.int p0), .val (.long q1), .second, .val (.int p2), .val (.long q3), .second, .val (.int n), .val (.ref b1), .val (.ref b3), .unset, .unset] [(.ref b1)]) _
        refine own_go (fun _ => XS.lloadN X13.here hx rfl (hb hby at_63) rfl) ?_
        show own_Ends p e below T13 (mkF m 64 #[.val (.int p0), .val (.long q1), .second, .val (.int p2), .val (.long q3), .second, .val (.int n), .val (.ref b1), .val (.ref b3), .unset, .unset] [(.long q1), (.ref b1)]) _
        obtain ⟨cq14, kq14, q14a, q14b, q14c⟩ := isOf hZ rfl A1
        obtain ⟨_, _, ⟨T14, L14, k14, n14⟩, -, X14, ⟨Lc14, hQ14, l14, y14, z14⟩, st14⟩ := X13.virtualBack hx (y := (⟨"com/example/wedge/wedge/Batch$Size", "grow", "(J)V"⟩ : MethodName)) (z := (⟨"com/example/wedge/wedge/Batch$Size", "grow", "(J)V"⟩ : MethodName)) hown (mvT hZ (hw _ (List.mem_of_getElem? (i := 10) rfl))) (mvT hZ (hw _ (List.mem_of_getElem? (i := 11) rfl))) (notFace_of_selects (args := #[]) (mvT hZ (hw _ (List.mem_of_getElem? (i := 13) rfl)))) (mvT hZ (hw _ (List.mem_of_getElem? (i := 13) rfl))) (mvT hZ (hw _ (List.mem_of_getElem? (i := 12) rfl))) (by decide) (backOf (W := 0) (rmGrow l Z a0 hw [] b1 q1 (n.toInt64) ((0 : Int64)) (T13.heap) n0 Z13 A1 F13_entries F13_bytes g_b1) hZ (hw _ (List.mem_of_getElem? (i := 14) rfl)) (hw _ (List.mem_of_getElem? (i := 2) rfl)) (by decide) (by decide)) q14a q14c (g := (mkF m 64 #[.val (.int p0), .val (.long q1), .second, .val (.int p2), .val (.long q3), .second, .val (.int n), .val (.ref b1), .val (.ref b3), .unset, .unset] [(.long q1), (.ref b1)])) rfl (by rw [hml]; rfl) (Steps.refl _) (argsL := [(.long q1)]) (rest := []) (lenOf pd_3 rfl) rfl (by show 2 * 0 + _ ≤ _; exact Nat.le_of_eq rfl) (hb hby at_64) (fun _ _ => ⟨rfl, rfl, (by decide : 2 + 0 ≤ _), (by decide : 2 + 0 ≤ _)⟩)
        dsimp only [Pt.U, Pt.locs, Pt.cells, Pt.slots] at X14 l14 y14 z14 st14 hQ14
        subst l14 y14 z14
        refine own_go (fun _ k => st14.trans k) ?_
        obtain ⟨rfl, N14q, Kq14, Eq14, F14_entries, F14_bytes⟩ := hQ14
        replace A1 := A1.keep Kq14
        replace B_b3 := B_b3.keep Kq14 (ninS (Ne.symm ne_b1_b3) nin0)
        have K14 := K13.trans Kq14 (allS (Or.inr sz_b1) all0)
        have Z14 : n0 ≤ T14.heap.size := Nat.le_trans Z0 K14.1
        clear Eq14
        have N14 := Fr.app N13 N14q
        show own_Ends p e below T14 (mkF m 67 #[.val (.int p0), .val (.long q1), .second, .val (.int p2), .val (.long q3), .second, .val (.int n), .val (.ref b1), .val (.ref b3), .unset, .unset] []) _
        rw [show ((0 : Int64) + q1) = q1 from Int64.zero_add _] at F14_bytes
        refine own_go (fun _ => XS.aload X14.here hx rfl (hb hby at_67) rfl rfl) ?_
        show own_Ends p e below T14 (mkF m 69 #[.val (.int p0), .val (.long q1), .second, .val (.int p2), .val (.long q3), .second, .val (.int n), .val (.ref b1), .val (.ref b3), .unset, .unset] [(.ref b1)]) _
        obtain ⟨T15, h15, X15, e15, E15, A15, D15, -, st15⟩ := newO X14 hx hZ hown (hw _ (List.mem_of_getElem? (i := 17) rfl)) (hw _ (List.mem_of_getElem? (i := 18) rfl)) (hw _ (List.mem_of_getElem? (i := 19) rfl)) rfl (g := (mkF m 69 #[.val (.int p0), .val (.long q1), .second, .val (.int p2), .val (.long q3), .second, .val (.int n), .val (.ref b1), .val (.ref b3), .unset, .unset] [(.ref b1)])) rfl (hb hby at_69) (by decide) (by decide)
        obtain ⟨b15, g15⟩ : ∃ z, z = T14.heap.size := ⟨_, rfl⟩
        rw [← g15] at A15 D15 st15
        refine own_go st15 ?_
        have g_b15 : n0 ≤ b15 := Nat.le_trans Z14 (Nat.le_of_eq g15.symm)
        have sz_b15 : h0.size ≤ b15 := Nat.le_trans K14.1 (Nat.le_of_eq g15.symm)
        have ne_b1_b15 : b1 ≠ b15 := Nat.ne_of_lt (Nat.lt_of_lt_of_le A1.lt (Nat.le_of_eq g15.symm))
        have ne_b3_b15 : b3 ≠ b15 := Nat.ne_of_lt (Nat.lt_of_lt_of_le B_b3.lt (Nat.le_of_eq g15.symm))
        replace A1 := A1.ext E15
        replace B_b3 := B_b3.ext E15
        replace F14_entries := F14_entries.ext E15
        replace F14_bytes := F14_bytes.ext E15
        have K15 := K14.ext E15
        have Z15 : n0 ≤ h15.size := Nat.le_trans Z0 K15.1
        have F_b15_entries : Fld Z h15 b15 "com/example/wedge/wedge/Batch$Limit" "entries" "I" (.int (0 : Int32)) := D15 (Or.inr (hw _ (List.mem_of_getElem? (i := 30) rfl))) (ty := .int) (by decide)
        have F_b15_bytes : Fld Z h15 b15 "com/example/wedge/wedge/Batch$Limit" "bytes" "J" (.long (0 : Int64)) := D15 (Or.inr (hw _ (List.mem_of_getElem? (i := 32) rfl))) (ty := .long) (by decide)
        show own_Ends p e below T15 (mkF m 72 #[.val (.int p0), .val (.long q1), .second, .val (.int p2), .val (.long q3), .second, .val (.int n), .val (.ref b1), .val (.ref b3), .unset, .unset] [(.ref b15), (.ref b1)]) _
        refine own_go (fun _ => XS.dup X15.here hx rfl (hb hby at_72) rfl rfl) ?_
        show own_Ends p e below T15 (mkF m 73 #[.val (.int p0), .val (.long q1), .second, .val (.int p2), .val (.long q3), .second, .val (.int n), .val (.ref b1), .val (.ref b3), .unset, .unset] [(.ref b15), (.ref b15), (.ref b1)]) _
        refine own_go (fun _ => XS.iloadN X15.here hx rfl (hb hby at_73) rfl) ?_
        show own_Ends p e below T15 (mkF m 74 #[.val (.int p0), .val (.long q1), .second, .val (.int p2), .val (.long q3), .second, .val (.int n), .val (.ref b1), .val (.ref b3), .unset, .unset] [(.int p2), (.ref b15), (.ref b15), (.ref b1)]) _
        refine own_go (fun _ => XS.lload X15.here hx rfl (hb hby at_74) rfl) ?_
        show own_Ends p e below T15 (mkF m 76 #[.val (.int p0), .val (.long q1), .second, .val (.int p2), .val (.long q3), .second, .val (.int n), .val (.ref b1), .val (.ref b3), .unset, .unset] [(.long q3), (.int p2), (.ref b15), (.ref b15), (.ref b1)]) _
        obtain ⟨_, _, ⟨T16, L16, k16, n16⟩, -, X16, ⟨Lc16, hQ16, l16, y16, z16⟩, st16⟩ := X15.specialBack hx (y := (⟨"com/example/wedge/wedge/Batch$Limit", "<init>", "(IJ)V"⟩ : MethodName)) rfl hown (mvT hZ (hw _ (List.mem_of_getElem? (i := 20) rfl))) (mvT hZ (hw _ (List.mem_of_getElem? (i := 21) rfl))) (mvT hZ (hw _ (List.mem_of_getElem? (i := 22) rfl))) (by decide) (backOf (W := 2) (rmLInit l Z a0 hw [] b15 p2 q3  h15 n0 Z15 A15 F_b15_entries F_b15_bytes g_b15) hZ (hw _ (List.mem_of_getElem? (i := 22) rfl)) (hw _ (List.mem_of_getElem? (i := 19) rfl)) (by decide) (by decide)) (g := (mkF m 76 #[.val (.int p0), .val (.long q1), .second, .val (.int p2), .val (.long q3), .second, .val (.int n), .val (.ref b1), .val (.ref b3), .unset, .unset] [(.long q3), (.int p2), (.ref b15), (.ref b15), (.ref b1)])) rfl (by rw [hml]; rfl) (Steps.refl _) (a := b15) (argsL := [(.int p2), (.long q3)]) (rest := [(.ref b15), (.ref b1)]) (lenOf pd_4 rfl) rfl (by show 2 * 0 + _ ≤ _; exact Nat.le_of_eq rfl) (hb hby at_76) (fun _ _ => ⟨rfl, e15, (by decide : 3 + 0 ≤ _), (by decide : 4 + 0 ≤ _)⟩)
        dsimp only [Pt.U, Pt.locs, Pt.cells, Pt.slots] at X16 l16 y16 z16 st16 hQ16
        subst l16 y16 z16
        refine own_go (fun _ k => st16.trans k) ?_
        obtain ⟨rfl, N16q, Kq16, Eq16, F16_entries, F16_bytes⟩ := hQ16
        replace A1 := A1.keep Kq16
        replace B_b3 := B_b3.keep Kq16 (ninS ne_b3_b15 nin0)
        replace F14_entries := F14_entries.keep Kq16 (ninS ne_b1_b15 nin0)
        replace F14_bytes := F14_bytes.keep Kq16 (ninS ne_b1_b15 nin0)
        replace A15 := A15.keep Kq16
        have K16 := K15.trans Kq16 (allS (Or.inr sz_b15) all0)
        have Z16 : n0 ≤ T16.heap.size := Nat.le_trans Z0 K16.1
        clear Eq16
        have N16 := Fr.app N14 N16q
        show own_Ends p e below T16 (mkF m 79 #[.val (.int p0), .val (.long q1), .second, .val (.int p2), .val (.long q3), .second, .val (.int n), .val (.ref b1), .val (.ref b3), .unset, .unset] [(.ref b15), (.ref b1)]) _
        obtain ⟨cq17, kq17, q17a, q17b, q17c⟩ := isOf hZ rfl A1
        obtain ⟨_, _, ⟨T17, L17, k17, n17⟩, -, X17, ⟨Lc17, hQ17, l17, y17, z17⟩, st17⟩ := X16.virtualBack hx (y := (⟨"com/example/wedge/wedge/Batch$Size", "within", "(Lcom/example/wedge/wedge/Batch$Limit;)Z"⟩ : MethodName)) (z := (⟨"com/example/wedge/wedge/Batch$Size", "within", "(Lcom/example/wedge/wedge/Batch$Limit;)Z"⟩ : MethodName)) hown (mvT hZ (hw _ (List.mem_of_getElem? (i := 33) rfl))) (mvT hZ (hw _ (List.mem_of_getElem? (i := 34) rfl))) (notFace_of_selects (args := #[]) (mvT hZ (hw _ (List.mem_of_getElem? (i := 36) rfl)))) (mvT hZ (hw _ (List.mem_of_getElem? (i := 36) rfl))) (mvT hZ (hw _ (List.mem_of_getElem? (i := 35) rfl))) (by decide) (backOf (W := 0) (rmWithin l Z a0 hw [] b1 b15 (n.toInt64) q1 p2 q3 (T16.heap) n0 Z16 F14_entries F14_bytes A15 F16_entries F16_bytes) hZ (hw _ (List.mem_of_getElem? (i := 37) rfl)) (hw _ (List.mem_of_getElem? (i := 2) rfl)) (by decide) (by decide)) q17a q17c (g := (mkF m 79 #[.val (.int p0), .val (.long q1), .second, .val (.int p2), .val (.long q3), .second, .val (.int n), .val (.ref b1), .val (.ref b3), .unset, .unset] [(.ref b15), (.ref b1)])) rfl (by rw [hml]; rfl) (Steps.refl _) (argsL := [(.ref b15)]) (rest := []) (lenOf pd_5 rfl) rfl (by show 2 * 0 + _ ≤ _; exact Nat.le_of_eq rfl) (hb hby at_79) (fun _ _ => ⟨rfl, rfl, (by decide : 3 + 0 ≤ _), (by decide : 4 + 0 ≤ _)⟩)
        dsimp only [Pt.U, Pt.locs, Pt.cells, Pt.slots] at X17 l17 y17 z17 st17 hQ17
        subst l17 y17 z17
        refine own_go (fun _ k => st17.trans k) ?_
        obtain ⟨rfl, N17q, eh17⟩ := hQ17
        have N17 := Fr.app N16 N17q
        show own_Ends p e below T17 (mkF m 82 #[.val (.int p0), .val (.long q1), .second, .val (.int p2), .val (.long q3), .second, .val (.int n), .val (.ref b1), .val (.ref b3), .unset, .unset] [(.int (own_within (n.toInt64) q1 p2 q3))]) _
        refine own_go (fun _ => XS.istore X17.here hx rfl (hb hby at_82) rfl (l' := #[.val (.int p0), .val (.long q1), .second, .val (.int p2), .val (.long q3), .second, .val (.int n), .val (.ref b1), .val (.ref b3), .val (.int (own_within (n.toInt64) q1 p2 q3)), .unset]) rfl) ?_
        show own_Ends p e below T17 (mkF m 84 #[.val (.int p0), .val (.long q1), .second, .val (.int p2), .val (.long q3), .second, .val (.int n), .val (.ref b1), .val (.ref b3), .val (.int (own_within (n.toInt64) q1 p2 q3)), .unset] []) _
        refine own_go (fun _ => XS.iload X17.here hx rfl (hb hby at_84) rfl) ?_
        show own_Ends p e below T17 (mkF m 86 #[.val (.int p0), .val (.long q1), .second, .val (.int p2), .val (.long q3), .second, .val (.int n), .val (.ref b1), .val (.ref b3), .val (.int (own_within (n.toInt64) q1 p2 q3)), .unset] [(.int n)]) _
        refine own_go (fun _ => XS.i2l X17.here hx rfl (hb hby at_86) rfl) ?_
        show own_Ends p e below T17 (mkF m 87 #[.val (.int p0), .val (.long q1), .second, .val (.int p2), .val (.long q3), .second, .val (.int n), .val (.ref b1), .val (.ref b3), .val (.int (own_within (n.toInt64) q1 p2 q3)), .unset] [(.long (n.toInt64))]) _
        refine own_go (fun _ => XS.iloadN X17.here hx rfl (hb hby at_87) rfl) ?_
        show own_Ends p e below T17 (mkF m 88 #[.val (.int p0), .val (.long q1), .second, .val (.int p2), .val (.long q3), .second, .val (.int n), .val (.ref b1), .val (.ref b3), .val (.int (own_within (n.toInt64) q1 p2 q3)), .unset] [(.int p2), (.long (n.toInt64))]) _
        refine own_go (fun _ => XS.i2l X17.here hx rfl (hb hby at_88) rfl) ?_
        show own_Ends p e below T17 (mkF m 89 #[.val (.int p0), .val (.long q1), .second, .val (.int p2), .val (.long q3), .second, .val (.int n), .val (.ref b1), .val (.ref b3), .val (.int (own_within (n.toInt64) q1 p2 q3)), .unset] [(.long (p2.toInt64)), (.long (n.toInt64))]) _
        refine own_go (fun _ => XS.lcmp X17.here hx rfl (hb hby at_89) rfl) ?_
        show own_Ends p e below T17 (mkF m 90 #[.val (.int p0), .val (.long q1), .second, .val (.int p2), .val (.long q3), .second, .val (.int n), .val (.ref b1), .val (.ref b3), .val (.int (own_within (n.toInt64) q1 p2 q3)), .unset] [(.int (lcmpW (n.toInt64) (p2.toInt64)))]) _
        by_cases hc90 : (p2.toInt64) < (n.toInt64)
        · refine own_go (fun _ => XS.ifYes X17.here hx rfl (pc0 := 90) (pc' := 104) rfl (hb hby at_90) rfl ((if0 _ _).trans (tlt ((lw_gt (n.toInt64) (p2.toInt64)).mpr hc90)).2.2.1) (by decide) (by decide)) ?_
          show own_Ends p e below T17 (mkF m 104 #[.val (.int p0), .val (.long q1), .second, .val (.int p2), .val (.long q3), .second, .val (.int n), .val (.ref b1), .val (.ref b3), .val (.int (own_within (n.toInt64) q1 p2 q3)), .unset] []) _
          refine own_go (fun _ => XS.iconst X17.here hx rfl (hb hby at_104)) ?_
          show own_Ends p e below T17 (mkF m 105 #[.val (.int p0), .val (.long q1), .second, .val (.int p2), .val (.long q3), .second, .val (.int n), .val (.ref b1), .val (.ref b3), .val (.int (own_within (n.toInt64) q1 p2 q3)), .unset] [(.int (0 : Int32))]) _
          refine own_go (fun _ => XS.istore X17.here hx rfl (hb hby at_105) rfl (l' := #[.val (.int p0), .val (.long q1), .second, .val (.int p2), .val (.long q3), .second, .val (.int n), .val (.ref b1), .val (.ref b3), .val (.int (own_within (n.toInt64) q1 p2 q3)), .val (.int (0 : Int32))]) rfl) ?_
          show own_Ends p e below T17 (mkF m 107 #[.val (.int p0), .val (.long q1), .second, .val (.int p2), .val (.long q3), .second, .val (.int n), .val (.ref b1), .val (.ref b3), .val (.int (own_within (n.toInt64) q1 p2 q3)), .val (.int (0 : Int32))] []) _
          refine own_go (fun _ => XS.iload X17.here hx rfl (hb hby at_107) rfl) ?_
          show own_Ends p e below T17 (mkF m 109 #[.val (.int p0), .val (.long q1), .second, .val (.int p2), .val (.long q3), .second, .val (.int n), .val (.ref b1), .val (.ref b3), .val (.int (own_within (n.toInt64) q1 p2 q3)), .val (.int (0 : Int32))] [(.int (own_within (n.toInt64) q1 p2 q3))]) _
          refine own_go (fun _ => XS.iload X17.here hx rfl (hb hby at_109) rfl) ?_
          show own_Ends p e below T17 (mkF m 111 #[.val (.int p0), .val (.long q1), .second, .val (.int p2), .val (.long q3), .second, .val (.int n), .val (.ref b1), .val (.ref b3), .val (.int (own_within (n.toInt64) q1 p2 q3)), .val (.int (0 : Int32))] [(.int (0 : Int32)), (.int (own_within (n.toInt64) q1 p2 q3))]) _
          refine own_go (fun _ => XS.icmpNo X17.here hx rfl (hb hby at_111) rfl (teq (show (own_within (n.toInt64) q1 p2 q3) = (0 : Int32) from by unfold own_within; rw [if_pos hc90])).2) ?_
          show own_Ends p e below T17 (mkF m 114 #[.val (.int p0), .val (.long q1), .second, .val (.int p2), .val (.long q3), .second, .val (.int n), .val (.ref b1), .val (.ref b3), .val (.int (own_within (n.toInt64) q1 p2 q3)), .val (.int (0 : Int32))] []) _
          refine own_go (fun _ => XS.iconst X17.here hx rfl (hb hby at_114)) ?_
          show own_Ends p e below T17 (mkF m 115 #[.val (.int p0), .val (.long q1), .second, .val (.int p2), .val (.long q3), .second, .val (.int n), .val (.ref b1), .val (.ref b3), .val (.int (own_within (n.toInt64) q1 p2 q3)), .val (.int (0 : Int32))] [(.int (1 : Int32))]) _
          refine own_go (fun _ => XS.goto X17.here hx rfl (pc0 := 115) (pc' := 119) rfl (hb hby at_115) (by decide) (by decide)) ?_
          show own_Ends p e below T17 (mkF m 119 #[.val (.int p0), .val (.long q1), .second, .val (.int p2), .val (.long q3), .second, .val (.int n), .val (.ref b1), .val (.ref b3), .val (.int (own_within (n.toInt64) q1 p2 q3)), .val (.int (0 : Int32))] [(.int (1 : Int32))]) _
          obtain ⟨fs, hr, hrun, hended, hW, hsame⟩ := X17.leave (v := some (.int (1 : Int32))) (fun h => by rw [Bd.returns] at h; cases h)
          refine ⟨_, _, retN X17 hx (t := .boolean) Bd.returns (by simp) (hb hby at_119) hr, hrun, hended, _, _, rfl, ?_, ⟨_, rfl⟩, hW, hsame.mono (by decide) (by decide)⟩
          show Q_rm0 Z p0 q1 p2 q3 h0 n0 _ T17.heap _
          rw [eh17]
          exact ⟨rfl, N17⟩
        · refine own_go (fun _ => XS.ifNo X17.here hx rfl (hb hby at_90) rfl ((if0 _ _).trans (flt (fun q => hc90 ((lw_gt (n.toInt64) (p2.toInt64)).mp q))).2.2.1)) ?_
          show own_Ends p e below T17 (mkF m 93 #[.val (.int p0), .val (.long q1), .second, .val (.int p2), .val (.long q3), .second, .val (.int n), .val (.ref b1), .val (.ref b3), .val (.int (own_within (n.toInt64) q1 p2 q3)), .unset] []) _
          refine own_go (fun _ => XS.lloadN X17.here hx rfl (hb hby at_93) rfl) ?_
          show own_Ends p e below T17 (mkF m 94 #[.val (.int p0), .val (.long q1), .second, .val (.int p2), .val (.long q3), .second, .val (.int n), .val (.ref b1), .val (.ref b3), .val (.int (own_within (n.toInt64) q1 p2 q3)), .unset] [(.long q1)]) _
          refine own_go (fun _ => XS.lload X17.here hx rfl (hb hby at_94) rfl) ?_
          show own_Ends p e below T17 (mkF m 96 #[.val (.int p0), .val (.long q1), .second, .val (.int p2), .val (.long q3), .second, .val (.int n), .val (.ref b1), .val (.ref b3), .val (.int (own_within (n.toInt64) q1 p2 q3)), .unset] [(.long q3), (.long q1)]) _
          refine own_go (fun _ => XS.lcmp X17.here hx rfl (hb hby at_96) rfl) ?_
          show own_Ends p e below T17 (mkF m 97 #[.val (.int p0), .val (.long q1), .second, .val (.int p2), .val (.long q3), .second, .val (.int n), .val (.ref b1), .val (.ref b3), .val (.int (own_within (n.toInt64) q1 p2 q3)), .unset] [(.int (lcmpW q1 q3))]) _
          by_cases hc97 : q3 < q1
          · refine own_go (fun _ => XS.ifYes X17.here hx rfl (pc0 := 97) (pc' := 104) rfl (hb hby at_97) rfl ((if0 _ _).trans (tlt ((lw_gt q1 q3).mpr hc97)).2.2.1) (by decide) (by decide)) ?_
            show own_Ends p e below T17 (mkF m 104 #[.val (.int p0), .val (.long q1), .second, .val (.int p2), .val (.long q3), .second, .val (.int n), .val (.ref b1), .val (.ref b3), .val (.int (own_within (n.toInt64) q1 p2 q3)), .unset] []) _
            refine own_go (fun _ => XS.iconst X17.here hx rfl (hb hby at_104)) ?_
            show own_Ends p e below T17 (mkF m 105 #[.val (.int p0), .val (.long q1), .second, .val (.int p2), .val (.long q3), .second, .val (.int n), .val (.ref b1), .val (.ref b3), .val (.int (own_within (n.toInt64) q1 p2 q3)), .unset] [(.int (0 : Int32))]) _
            refine own_go (fun _ => XS.istore X17.here hx rfl (hb hby at_105) rfl (l' := #[.val (.int p0), .val (.long q1), .second, .val (.int p2), .val (.long q3), .second, .val (.int n), .val (.ref b1), .val (.ref b3), .val (.int (own_within (n.toInt64) q1 p2 q3)), .val (.int (0 : Int32))]) rfl) ?_
            show own_Ends p e below T17 (mkF m 107 #[.val (.int p0), .val (.long q1), .second, .val (.int p2), .val (.long q3), .second, .val (.int n), .val (.ref b1), .val (.ref b3), .val (.int (own_within (n.toInt64) q1 p2 q3)), .val (.int (0 : Int32))] []) _
            refine own_go (fun _ => XS.iload X17.here hx rfl (hb hby at_107) rfl) ?_
            show own_Ends p e below T17 (mkF m 109 #[.val (.int p0), .val (.long q1), .second, .val (.int p2), .val (.long q3), .second, .val (.int n), .val (.ref b1), .val (.ref b3), .val (.int (own_within (n.toInt64) q1 p2 q3)), .val (.int (0 : Int32))] [(.int (own_within (n.toInt64) q1 p2 q3))]) _
            refine own_go (fun _ => XS.iload X17.here hx rfl (hb hby at_109) rfl) ?_
            show own_Ends p e below T17 (mkF m 111 #[.val (.int p0), .val (.long q1), .second, .val (.int p2), .val (.long q3), .second, .val (.int n), .val (.ref b1), .val (.ref b3), .val (.int (own_within (n.toInt64) q1 p2 q3)), .val (.int (0 : Int32))] [(.int (0 : Int32)), (.int (own_within (n.toInt64) q1 p2 q3))]) _
            refine own_go (fun _ => XS.icmpNo X17.here hx rfl (hb hby at_111) rfl (teq (show (own_within (n.toInt64) q1 p2 q3) = (0 : Int32) from by unfold own_within; rw [if_neg hc90, if_pos hc97])).2) ?_
            show own_Ends p e below T17 (mkF m 114 #[.val (.int p0), .val (.long q1), .second, .val (.int p2), .val (.long q3), .second, .val (.int n), .val (.ref b1), .val (.ref b3), .val (.int (own_within (n.toInt64) q1 p2 q3)), .val (.int (0 : Int32))] []) _
            refine own_go (fun _ => XS.iconst X17.here hx rfl (hb hby at_114)) ?_
            show own_Ends p e below T17 (mkF m 115 #[.val (.int p0), .val (.long q1), .second, .val (.int p2), .val (.long q3), .second, .val (.int n), .val (.ref b1), .val (.ref b3), .val (.int (own_within (n.toInt64) q1 p2 q3)), .val (.int (0 : Int32))] [(.int (1 : Int32))]) _
            refine own_go (fun _ => XS.goto X17.here hx rfl (pc0 := 115) (pc' := 119) rfl (hb hby at_115) (by decide) (by decide)) ?_
            show own_Ends p e below T17 (mkF m 119 #[.val (.int p0), .val (.long q1), .second, .val (.int p2), .val (.long q3), .second, .val (.int n), .val (.ref b1), .val (.ref b3), .val (.int (own_within (n.toInt64) q1 p2 q3)), .val (.int (0 : Int32))] [(.int (1 : Int32))]) _
            obtain ⟨fs, hr, hrun, hended, hW, hsame⟩ := X17.leave (v := some (.int (1 : Int32))) (fun h => by rw [Bd.returns] at h; cases h)
            refine ⟨_, _, retN X17 hx (t := .boolean) Bd.returns (by simp) (hb hby at_119) hr, hrun, hended, _, _, rfl, ?_, ⟨_, rfl⟩, hW, hsame.mono (by decide) (by decide)⟩
            show Q_rm0 Z p0 q1 p2 q3 h0 n0 _ T17.heap _
            rw [eh17]
            exact ⟨rfl, N17⟩
          · refine own_go (fun _ => XS.ifNo X17.here hx rfl (hb hby at_97) rfl ((if0 _ _).trans (flt (fun q => hc97 ((lw_gt q1 q3).mp q))).2.2.1)) ?_
            show own_Ends p e below T17 (mkF m 100 #[.val (.int p0), .val (.long q1), .second, .val (.int p2), .val (.long q3), .second, .val (.int n), .val (.ref b1), .val (.ref b3), .val (.int (own_within (n.toInt64) q1 p2 q3)), .unset] []) _
            refine own_go (fun _ => XS.iconst X17.here hx rfl (hb hby at_100)) ?_
            show own_Ends p e below T17 (mkF m 101 #[.val (.int p0), .val (.long q1), .second, .val (.int p2), .val (.long q3), .second, .val (.int n), .val (.ref b1), .val (.ref b3), .val (.int (own_within (n.toInt64) q1 p2 q3)), .unset] [(.int (1 : Int32))]) _
            refine own_go (fun _ => XS.goto X17.here hx rfl (pc0 := 101) (pc' := 105) rfl (hb hby at_101) (by decide) (by decide)) ?_
            show own_Ends p e below T17 (mkF m 105 #[.val (.int p0), .val (.long q1), .second, .val (.int p2), .val (.long q3), .second, .val (.int n), .val (.ref b1), .val (.ref b3), .val (.int (own_within (n.toInt64) q1 p2 q3)), .unset] [(.int (1 : Int32))]) _
            refine own_go (fun _ => XS.istore X17.here hx rfl (hb hby at_105) rfl (l' := #[.val (.int p0), .val (.long q1), .second, .val (.int p2), .val (.long q3), .second, .val (.int n), .val (.ref b1), .val (.ref b3), .val (.int (own_within (n.toInt64) q1 p2 q3)), .val (.int (1 : Int32))]) rfl) ?_
            show own_Ends p e below T17 (mkF m 107 #[.val (.int p0), .val (.long q1), .second, .val (.int p2), .val (.long q3), .second, .val (.int n), .val (.ref b1), .val (.ref b3), .val (.int (own_within (n.toInt64) q1 p2 q3)), .val (.int (1 : Int32))] []) _
            refine own_go (fun _ => XS.iload X17.here hx rfl (hb hby at_107) rfl) ?_
            show own_Ends p e below T17 (mkF m 109 #[.val (.int p0), .val (.long q1), .second, .val (.int p2), .val (.long q3), .second, .val (.int n), .val (.ref b1), .val (.ref b3), .val (.int (own_within (n.toInt64) q1 p2 q3)), .val (.int (1 : Int32))] [(.int (own_within (n.toInt64) q1 p2 q3))]) _
            refine own_go (fun _ => XS.iload X17.here hx rfl (hb hby at_109) rfl) ?_
            show own_Ends p e below T17 (mkF m 111 #[.val (.int p0), .val (.long q1), .second, .val (.int p2), .val (.long q3), .second, .val (.int n), .val (.ref b1), .val (.ref b3), .val (.int (own_within (n.toInt64) q1 p2 q3)), .val (.int (1 : Int32))] [(.int (1 : Int32)), (.int (own_within (n.toInt64) q1 p2 q3))]) _
            refine own_go (fun _ => XS.icmpNo X17.here hx rfl (hb hby at_111) rfl (teq (show (own_within (n.toInt64) q1 p2 q3) = (1 : Int32) from by unfold own_within; rw [if_neg hc90, if_neg hc97])).2) ?_
            show own_Ends p e below T17 (mkF m 114 #[.val (.int p0), .val (.long q1), .second, .val (.int p2), .val (.long q3), .second, .val (.int n), .val (.ref b1), .val (.ref b3), .val (.int (own_within (n.toInt64) q1 p2 q3)), .val (.int (1 : Int32))] []) _
            refine own_go (fun _ => XS.iconst X17.here hx rfl (hb hby at_114)) ?_
            show own_Ends p e below T17 (mkF m 115 #[.val (.int p0), .val (.long q1), .second, .val (.int p2), .val (.long q3), .second, .val (.int n), .val (.ref b1), .val (.ref b3), .val (.int (own_within (n.toInt64) q1 p2 q3)), .val (.int (1 : Int32))] [(.int (1 : Int32))]) _
            refine own_go (fun _ => XS.goto X17.here hx rfl (pc0 := 115) (pc' := 119) rfl (hb hby at_115) (by decide) (by decide)) ?_
            show own_Ends p e below T17 (mkF m 119 #[.val (.int p0), .val (.long q1), .second, .val (.int p2), .val (.long q3), .second, .val (.int n), .val (.ref b1), .val (.ref b3), .val (.int (own_within (n.toInt64) q1 p2 q3)), .val (.int (1 : Int32))] [(.int (1 : Int32))]) _
            obtain ⟨fs, hr, hrun, hended, hW, hsame⟩ := X17.leave (v := some (.int (1 : Int32))) (fun h => by rw [Bd.returns] at h; cases h)
            refine ⟨_, _, retN X17 hx (t := .boolean) Bd.returns (by simp) (hb hby at_119) hr, hrun, hended, _, _, rfl, ?_, ⟨_, rfl⟩, hW, hsame.mono (by decide) (by decide)⟩
            show Q_rm0 Z p0 q1 p2 q3 h0 n0 _ T17.heap _
            rw [eh17]
            exact ⟨rfl, N17⟩
      · refine own_go (fun _ => XS.icmpNo X13.here hx rfl (hb hby at_50) rfl (flt hc50).1) ?_
        show own_Ends p e below T13 (mkF m 53 #[.val (.int p0), .val (.long q1), .second, .val (.int p2), .val (.long q3), .second, .val (.int n), .val (.ref b1), .val (.ref b3), .unset, .unset] []) _
        refine own_go (fun _ => XS.aload X13.here hx rfl (hb hby at_53) rfl rfl) ?_
        show own_Ends p e below T13 (mkF m 55 #[.val (.int p0), .val (.long q1), .second, .val (.int p2), .val (.long q3), .second, .val (.int n), .val (.ref b1), .val (.ref b3), .unset, .unset] [(.ref b1)]) _
        refine own_go (fun _ => XS.aload X13.here hx rfl (hb hby at_55) rfl rfl) ?_
        show own_Ends p e below T13 (mkF m 57 #[.val (.int p0), .val (.long q1), .second, .val (.int p2), .val (.long q3), .second, .val (.int n), .val (.ref b1), .val (.ref b3), .unset, .unset] [(.ref b3), (.ref b1)]) _
        refine own_go (fun _ => XS.aconstNull X13.here hx rfl (hb hby at_57)) ?_
        show own_Ends p e below T13 (mkF m 58 #[.val (.int p0), .val (.long q1), .second, .val (.int p2), .val (.long q3), .second, .val (.int n), .val (.ref b1), .val (.ref b3), .unset, .unset] [.null, (.ref b3), (.ref b1)]) _
        obtain ⟨cq18, kq18, q18a, q18b, q18c⟩ := isOf hZ rfl A1
        obtain ⟨_, _, ⟨T18, L18, k18, n18⟩, -, X18, ⟨Lc18, hQ18, l18, y18, z18⟩, st18⟩ := X13.virtualBack hx (y := (⟨"com/example/wedge/wedge/Batch$Size", "add", "([B[B)V"⟩ : MethodName)) (z := (⟨"com/example/wedge/wedge/Batch$Size", "add", "([B[B)V"⟩ : MethodName)) hown (mvT hZ (hw _ (List.mem_of_getElem? (i := 50) rfl))) (mvT hZ (hw _ (List.mem_of_getElem? (i := 51) rfl))) (notFace_of_selects (args := #[]) (mvT hZ (hw _ (List.mem_of_getElem? (i := 53) rfl)))) (mvT hZ (hw _ (List.mem_of_getElem? (i := 53) rfl))) (mvT hZ (hw _ (List.mem_of_getElem? (i := 52) rfl))) (by decide) (backOf (W := 0) (rmAddn l Z a0 hw [] b1 b3 ((((0 : Int64) + (1 : Int64)) + (1 : Int64))) ((((0 : Int64) + (((0 : Int32) + (0 : Int32)).toInt64)) + (((0 : Int32) + (0 : Int32)).toInt64))) ((0 : Int32)) (T13.heap) n0 Z13 A1 F13_entries F13_bytes g_b1 B_b3 (Ne.symm ne_b1_b3)) hZ (hw _ (List.mem_of_getElem? (i := 54) rfl)) (hw _ (List.mem_of_getElem? (i := 2) rfl)) (by decide) (by decide)) q18a q18c (g := (mkF m 58 #[.val (.int p0), .val (.long q1), .second, .val (.int p2), .val (.long q3), .second, .val (.int n), .val (.ref b1), .val (.ref b3), .unset, .unset] [.null, (.ref b3), (.ref b1)])) rfl (by rw [hml]; rfl) (Steps.refl _) (argsL := [(.ref b3), .null]) (rest := []) (lenOf pd_6 rfl) rfl (by show 2 * 0 + _ ≤ _; exact Nat.le_of_eq rfl) (hb hby at_58) (fun _ _ => ⟨rfl, rfl, (by decide : 2 + 0 ≤ _), (by decide : 2 + 0 ≤ _)⟩)
        dsimp only [Pt.U, Pt.locs, Pt.cells, Pt.slots] at X18 l18 y18 z18 st18 hQ18
        subst l18 y18 z18
        refine own_go (fun _ k => st18.trans k) ?_
        obtain ⟨rfl, N18q, Kq18, Eq18, F18_entries, F18_bytes⟩ := hQ18
        replace A1 := A1.keep Kq18
        replace B_b3 := B_b3.keep Kq18 (ninS (Ne.symm ne_b1_b3) nin0)
        have K18 := K13.trans Kq18 (allS (Or.inr sz_b1) all0)
        have Z18 : n0 ≤ T18.heap.size := Nat.le_trans Z0 K18.1
        clear Eq18
        have N18 := Fr.app N13 N18q
        show own_Ends p e below T18 (mkF m 61 #[.val (.int p0), .val (.long q1), .second, .val (.int p2), .val (.long q3), .second, .val (.int n), .val (.ref b1), .val (.ref b3), .unset, .unset] []) _
        have hk : n = (3 : Int32) := own_k3 hn hc50
        have hen : ((((0 : Int64) + (1 : Int64)) + (1 : Int64)) + (1 : Int64)) = n.toInt64 := by rw [hk]; decide
        rw [hen] at F18_entries
        have hbyt : ((((0 : Int64) + (((0 : Int32) + (0 : Int32)).toInt64)) + (((0 : Int32) + (0 : Int32)).toInt64)) + (((0 : Int32) + (0 : Int32)).toInt64)) = (0 : Int64) := by decide
        rw [hbyt] at F18_bytes
        refine own_go (fun _ => XS.aload X18.here hx rfl (hb hby at_61) rfl rfl) ?_
        show own_Ends p e below T18 (mkF m 63 #[.val (.int p0), .val (.long q1), .second, .val (.int p2), .val (.long q3), .second, .val (.int n), .val (.ref b1), .val (.ref b3), .unset, .unset] [(.ref b1)]) _
        refine own_go (fun _ => XS.lloadN X18.here hx rfl (hb hby at_63) rfl) ?_
        show own_Ends p e below T18 (mkF m 64 #[.val (.int p0), .val (.long q1), .second, .val (.int p2), .val (.long q3), .second, .val (.int n), .val (.ref b1), .val (.ref b3), .unset, .unset] [(.long q1), (.ref b1)]) _
        obtain ⟨cq19, kq19, q19a, q19b, q19c⟩ := isOf hZ rfl A1
        obtain ⟨_, _, ⟨T19, L19, k19, n19⟩, -, X19, ⟨Lc19, hQ19, l19, y19, z19⟩, st19⟩ := X18.virtualBack hx (y := (⟨"com/example/wedge/wedge/Batch$Size", "grow", "(J)V"⟩ : MethodName)) (z := (⟨"com/example/wedge/wedge/Batch$Size", "grow", "(J)V"⟩ : MethodName)) hown (mvT hZ (hw _ (List.mem_of_getElem? (i := 10) rfl))) (mvT hZ (hw _ (List.mem_of_getElem? (i := 11) rfl))) (notFace_of_selects (args := #[]) (mvT hZ (hw _ (List.mem_of_getElem? (i := 13) rfl)))) (mvT hZ (hw _ (List.mem_of_getElem? (i := 13) rfl))) (mvT hZ (hw _ (List.mem_of_getElem? (i := 12) rfl))) (by decide) (backOf (W := 0) (rmGrow l Z a0 hw [] b1 q1 (n.toInt64) ((0 : Int64)) (T18.heap) n0 Z18 A1 F18_entries F18_bytes g_b1) hZ (hw _ (List.mem_of_getElem? (i := 14) rfl)) (hw _ (List.mem_of_getElem? (i := 2) rfl)) (by decide) (by decide)) q19a q19c (g := (mkF m 64 #[.val (.int p0), .val (.long q1), .second, .val (.int p2), .val (.long q3), .second, .val (.int n), .val (.ref b1), .val (.ref b3), .unset, .unset] [(.long q1), (.ref b1)])) rfl (by rw [hml]; rfl) (Steps.refl _) (argsL := [(.long q1)]) (rest := []) (lenOf pd_3 rfl) rfl (by show 2 * 0 + _ ≤ _; exact Nat.le_of_eq rfl) (hb hby at_64) (fun _ _ => ⟨rfl, rfl, (by decide : 2 + 0 ≤ _), (by decide : 2 + 0 ≤ _)⟩)
        dsimp only [Pt.U, Pt.locs, Pt.cells, Pt.slots] at X19 l19 y19 z19 st19 hQ19
        subst l19 y19 z19
        refine own_go (fun _ k => st19.trans k) ?_
        obtain ⟨rfl, N19q, Kq19, Eq19, F19_entries, F19_bytes⟩ := hQ19
        replace A1 := A1.keep Kq19
        replace B_b3 := B_b3.keep Kq19 (ninS (Ne.symm ne_b1_b3) nin0)
        have K19 := K18.trans Kq19 (allS (Or.inr sz_b1) all0)
        have Z19 : n0 ≤ T19.heap.size := Nat.le_trans Z0 K19.1
        clear Eq19
        have N19 := Fr.app N18 N19q
        show own_Ends p e below T19 (mkF m 67 #[.val (.int p0), .val (.long q1), .second, .val (.int p2), .val (.long q3), .second, .val (.int n), .val (.ref b1), .val (.ref b3), .unset, .unset] []) _
        rw [show ((0 : Int64) + q1) = q1 from Int64.zero_add _] at F19_bytes
        refine own_go (fun _ => XS.aload X19.here hx rfl (hb hby at_67) rfl rfl) ?_
        show own_Ends p e below T19 (mkF m 69 #[.val (.int p0), .val (.long q1), .second, .val (.int p2), .val (.long q3), .second, .val (.int n), .val (.ref b1), .val (.ref b3), .unset, .unset] [(.ref b1)]) _
        obtain ⟨T20, h20, X20, e20, E20, A20, D20, -, st20⟩ := newO X19 hx hZ hown (hw _ (List.mem_of_getElem? (i := 17) rfl)) (hw _ (List.mem_of_getElem? (i := 18) rfl)) (hw _ (List.mem_of_getElem? (i := 19) rfl)) rfl (g := (mkF m 69 #[.val (.int p0), .val (.long q1), .second, .val (.int p2), .val (.long q3), .second, .val (.int n), .val (.ref b1), .val (.ref b3), .unset, .unset] [(.ref b1)])) rfl (hb hby at_69) (by decide) (by decide)
        obtain ⟨b20, g20⟩ : ∃ z, z = T19.heap.size := ⟨_, rfl⟩
        rw [← g20] at A20 D20 st20
        refine own_go st20 ?_
        have g_b20 : n0 ≤ b20 := Nat.le_trans Z19 (Nat.le_of_eq g20.symm)
        have sz_b20 : h0.size ≤ b20 := Nat.le_trans K19.1 (Nat.le_of_eq g20.symm)
        have ne_b1_b20 : b1 ≠ b20 := Nat.ne_of_lt (Nat.lt_of_lt_of_le A1.lt (Nat.le_of_eq g20.symm))
        have ne_b3_b20 : b3 ≠ b20 := Nat.ne_of_lt (Nat.lt_of_lt_of_le B_b3.lt (Nat.le_of_eq g20.symm))
        replace A1 := A1.ext E20
        replace B_b3 := B_b3.ext E20
        replace F19_entries := F19_entries.ext E20
        replace F19_bytes := F19_bytes.ext E20
        have K20 := K19.ext E20
        have Z20 : n0 ≤ h20.size := Nat.le_trans Z0 K20.1
        have F_b20_entries : Fld Z h20 b20 "com/example/wedge/wedge/Batch$Limit" "entries" "I" (.int (0 : Int32)) := D20 (Or.inr (hw _ (List.mem_of_getElem? (i := 30) rfl))) (ty := .int) (by decide)
        have F_b20_bytes : Fld Z h20 b20 "com/example/wedge/wedge/Batch$Limit" "bytes" "J" (.long (0 : Int64)) := D20 (Or.inr (hw _ (List.mem_of_getElem? (i := 32) rfl))) (ty := .long) (by decide)
        show own_Ends p e below T20 (mkF m 72 #[.val (.int p0), .val (.long q1), .second, .val (.int p2), .val (.long q3), .second, .val (.int n), .val (.ref b1), .val (.ref b3), .unset, .unset] [(.ref b20), (.ref b1)]) _
        refine own_go (fun _ => XS.dup X20.here hx rfl (hb hby at_72) rfl rfl) ?_
        show own_Ends p e below T20 (mkF m 73 #[.val (.int p0), .val (.long q1), .second, .val (.int p2), .val (.long q3), .second, .val (.int n), .val (.ref b1), .val (.ref b3), .unset, .unset] [(.ref b20), (.ref b20), (.ref b1)]) _
        refine own_go (fun _ => XS.iloadN X20.here hx rfl (hb hby at_73) rfl) ?_
        show own_Ends p e below T20 (mkF m 74 #[.val (.int p0), .val (.long q1), .second, .val (.int p2), .val (.long q3), .second, .val (.int n), .val (.ref b1), .val (.ref b3), .unset, .unset] [(.int p2), (.ref b20), (.ref b20), (.ref b1)]) _
        refine own_go (fun _ => XS.lload X20.here hx rfl (hb hby at_74) rfl) ?_
        show own_Ends p e below T20 (mkF m 76 #[.val (.int p0), .val (.long q1), .second, .val (.int p2), .val (.long q3), .second, .val (.int n), .val (.ref b1), .val (.ref b3), .unset, .unset] [(.long q3), (.int p2), (.ref b20), (.ref b20), (.ref b1)]) _
        obtain ⟨_, _, ⟨T21, L21, k21, n21⟩, -, X21, ⟨Lc21, hQ21, l21, y21, z21⟩, st21⟩ := X20.specialBack hx (y := (⟨"com/example/wedge/wedge/Batch$Limit", "<init>", "(IJ)V"⟩ : MethodName)) rfl hown (mvT hZ (hw _ (List.mem_of_getElem? (i := 20) rfl))) (mvT hZ (hw _ (List.mem_of_getElem? (i := 21) rfl))) (mvT hZ (hw _ (List.mem_of_getElem? (i := 22) rfl))) (by decide) (backOf (W := 2) (rmLInit l Z a0 hw [] b20 p2 q3  h20 n0 Z20 A20 F_b20_entries F_b20_bytes g_b20) hZ (hw _ (List.mem_of_getElem? (i := 22) rfl)) (hw _ (List.mem_of_getElem? (i := 19) rfl)) (by decide) (by decide)) (g := (mkF m 76 #[.val (.int p0), .val (.long q1), .second, .val (.int p2), .val (.long q3), .second, .val (.int n), .val (.ref b1), .val (.ref b3), .unset, .unset] [(.long q3), (.int p2), (.ref b20), (.ref b20), (.ref b1)])) rfl (by rw [hml]; rfl) (Steps.refl _) (a := b20) (argsL := [(.int p2), (.long q3)]) (rest := [(.ref b20), (.ref b1)]) (lenOf pd_4 rfl) rfl (by show 2 * 0 + _ ≤ _; exact Nat.le_of_eq rfl) (hb hby at_76) (fun _ _ => ⟨rfl, e20, (by decide : 3 + 0 ≤ _), (by decide : 4 + 0 ≤ _)⟩)
        dsimp only [Pt.U, Pt.locs, Pt.cells, Pt.slots] at X21 l21 y21 z21 st21 hQ21
        subst l21 y21 z21
        refine own_go (fun _ k => st21.trans k) ?_
        obtain ⟨rfl, N21q, Kq21, Eq21, F21_entries, F21_bytes⟩ := hQ21
        replace A1 := A1.keep Kq21
        replace B_b3 := B_b3.keep Kq21 (ninS ne_b3_b20 nin0)
        replace F19_entries := F19_entries.keep Kq21 (ninS ne_b1_b20 nin0)
        replace F19_bytes := F19_bytes.keep Kq21 (ninS ne_b1_b20 nin0)
        replace A20 := A20.keep Kq21
        have K21 := K20.trans Kq21 (allS (Or.inr sz_b20) all0)
        have Z21 : n0 ≤ T21.heap.size := Nat.le_trans Z0 K21.1
        clear Eq21
        have N21 := Fr.app N19 N21q
        show own_Ends p e below T21 (mkF m 79 #[.val (.int p0), .val (.long q1), .second, .val (.int p2), .val (.long q3), .second, .val (.int n), .val (.ref b1), .val (.ref b3), .unset, .unset] [(.ref b20), (.ref b1)]) _
        obtain ⟨cq22, kq22, q22a, q22b, q22c⟩ := isOf hZ rfl A1
        obtain ⟨_, _, ⟨T22, L22, k22, n22⟩, -, X22, ⟨Lc22, hQ22, l22, y22, z22⟩, st22⟩ := X21.virtualBack hx (y := (⟨"com/example/wedge/wedge/Batch$Size", "within", "(Lcom/example/wedge/wedge/Batch$Limit;)Z"⟩ : MethodName)) (z := (⟨"com/example/wedge/wedge/Batch$Size", "within", "(Lcom/example/wedge/wedge/Batch$Limit;)Z"⟩ : MethodName)) hown (mvT hZ (hw _ (List.mem_of_getElem? (i := 33) rfl))) (mvT hZ (hw _ (List.mem_of_getElem? (i := 34) rfl))) (notFace_of_selects (args := #[]) (mvT hZ (hw _ (List.mem_of_getElem? (i := 36) rfl)))) (mvT hZ (hw _ (List.mem_of_getElem? (i := 36) rfl))) (mvT hZ (hw _ (List.mem_of_getElem? (i := 35) rfl))) (by decide) (backOf (W := 0) (rmWithin l Z a0 hw [] b1 b20 (n.toInt64) q1 p2 q3 (T21.heap) n0 Z21 F19_entries F19_bytes A20 F21_entries F21_bytes) hZ (hw _ (List.mem_of_getElem? (i := 37) rfl)) (hw _ (List.mem_of_getElem? (i := 2) rfl)) (by decide) (by decide)) q22a q22c (g := (mkF m 79 #[.val (.int p0), .val (.long q1), .second, .val (.int p2), .val (.long q3), .second, .val (.int n), .val (.ref b1), .val (.ref b3), .unset, .unset] [(.ref b20), (.ref b1)])) rfl (by rw [hml]; rfl) (Steps.refl _) (argsL := [(.ref b20)]) (rest := []) (lenOf pd_5 rfl) rfl (by show 2 * 0 + _ ≤ _; exact Nat.le_of_eq rfl) (hb hby at_79) (fun _ _ => ⟨rfl, rfl, (by decide : 3 + 0 ≤ _), (by decide : 4 + 0 ≤ _)⟩)
        dsimp only [Pt.U, Pt.locs, Pt.cells, Pt.slots] at X22 l22 y22 z22 st22 hQ22
        subst l22 y22 z22
        refine own_go (fun _ k => st22.trans k) ?_
        obtain ⟨rfl, N22q, eh22⟩ := hQ22
        have N22 := Fr.app N21 N22q
        show own_Ends p e below T22 (mkF m 82 #[.val (.int p0), .val (.long q1), .second, .val (.int p2), .val (.long q3), .second, .val (.int n), .val (.ref b1), .val (.ref b3), .unset, .unset] [(.int (own_within (n.toInt64) q1 p2 q3))]) _
        refine own_go (fun _ => XS.istore X22.here hx rfl (hb hby at_82) rfl (l' := #[.val (.int p0), .val (.long q1), .second, .val (.int p2), .val (.long q3), .second, .val (.int n), .val (.ref b1), .val (.ref b3), .val (.int (own_within (n.toInt64) q1 p2 q3)), .unset]) rfl) ?_
        show own_Ends p e below T22 (mkF m 84 #[.val (.int p0), .val (.long q1), .second, .val (.int p2), .val (.long q3), .second, .val (.int n), .val (.ref b1), .val (.ref b3), .val (.int (own_within (n.toInt64) q1 p2 q3)), .unset] []) _
        refine own_go (fun _ => XS.iload X22.here hx rfl (hb hby at_84) rfl) ?_
        show own_Ends p e below T22 (mkF m 86 #[.val (.int p0), .val (.long q1), .second, .val (.int p2), .val (.long q3), .second, .val (.int n), .val (.ref b1), .val (.ref b3), .val (.int (own_within (n.toInt64) q1 p2 q3)), .unset] [(.int n)]) _
        refine own_go (fun _ => XS.i2l X22.here hx rfl (hb hby at_86) rfl) ?_
        show own_Ends p e below T22 (mkF m 87 #[.val (.int p0), .val (.long q1), .second, .val (.int p2), .val (.long q3), .second, .val (.int n), .val (.ref b1), .val (.ref b3), .val (.int (own_within (n.toInt64) q1 p2 q3)), .unset] [(.long (n.toInt64))]) _
        refine own_go (fun _ => XS.iloadN X22.here hx rfl (hb hby at_87) rfl) ?_
        show own_Ends p e below T22 (mkF m 88 #[.val (.int p0), .val (.long q1), .second, .val (.int p2), .val (.long q3), .second, .val (.int n), .val (.ref b1), .val (.ref b3), .val (.int (own_within (n.toInt64) q1 p2 q3)), .unset] [(.int p2), (.long (n.toInt64))]) _
        refine own_go (fun _ => XS.i2l X22.here hx rfl (hb hby at_88) rfl) ?_
        show own_Ends p e below T22 (mkF m 89 #[.val (.int p0), .val (.long q1), .second, .val (.int p2), .val (.long q3), .second, .val (.int n), .val (.ref b1), .val (.ref b3), .val (.int (own_within (n.toInt64) q1 p2 q3)), .unset] [(.long (p2.toInt64)), (.long (n.toInt64))]) _
        refine own_go (fun _ => XS.lcmp X22.here hx rfl (hb hby at_89) rfl) ?_
        show own_Ends p e below T22 (mkF m 90 #[.val (.int p0), .val (.long q1), .second, .val (.int p2), .val (.long q3), .second, .val (.int n), .val (.ref b1), .val (.ref b3), .val (.int (own_within (n.toInt64) q1 p2 q3)), .unset] [(.int (lcmpW (n.toInt64) (p2.toInt64)))]) _
        by_cases hc90 : (p2.toInt64) < (n.toInt64)
        · refine own_go (fun _ => XS.ifYes X22.here hx rfl (pc0 := 90) (pc' := 104) rfl (hb hby at_90) rfl ((if0 _ _).trans (tlt ((lw_gt (n.toInt64) (p2.toInt64)).mpr hc90)).2.2.1) (by decide) (by decide)) ?_
          show own_Ends p e below T22 (mkF m 104 #[.val (.int p0), .val (.long q1), .second, .val (.int p2), .val (.long q3), .second, .val (.int n), .val (.ref b1), .val (.ref b3), .val (.int (own_within (n.toInt64) q1 p2 q3)), .unset] []) _
          refine own_go (fun _ => XS.iconst X22.here hx rfl (hb hby at_104)) ?_
          show own_Ends p e below T22 (mkF m 105 #[.val (.int p0), .val (.long q1), .second, .val (.int p2), .val (.long q3), .second, .val (.int n), .val (.ref b1), .val (.ref b3), .val (.int (own_within (n.toInt64) q1 p2 q3)), .unset] [(.int (0 : Int32))]) _
          refine own_go (fun _ => XS.istore X22.here hx rfl (hb hby at_105) rfl (l' := #[.val (.int p0), .val (.long q1), .second, .val (.int p2), .val (.long q3), .second, .val (.int n), .val (.ref b1), .val (.ref b3), .val (.int (own_within (n.toInt64) q1 p2 q3)), .val (.int (0 : Int32))]) rfl) ?_
          show own_Ends p e below T22 (mkF m 107 #[.val (.int p0), .val (.long q1), .second, .val (.int p2), .val (.long q3), .second, .val (.int n), .val (.ref b1), .val (.ref b3), .val (.int (own_within (n.toInt64) q1 p2 q3)), .val (.int (0 : Int32))] []) _
          refine own_go (fun _ => XS.iload X22.here hx rfl (hb hby at_107) rfl) ?_
          show own_Ends p e below T22 (mkF m 109 #[.val (.int p0), .val (.long q1), .second, .val (.int p2), .val (.long q3), .second, .val (.int n), .val (.ref b1), .val (.ref b3), .val (.int (own_within (n.toInt64) q1 p2 q3)), .val (.int (0 : Int32))] [(.int (own_within (n.toInt64) q1 p2 q3))]) _
          refine own_go (fun _ => XS.iload X22.here hx rfl (hb hby at_109) rfl) ?_
          show own_Ends p e below T22 (mkF m 111 #[.val (.int p0), .val (.long q1), .second, .val (.int p2), .val (.long q3), .second, .val (.int n), .val (.ref b1), .val (.ref b3), .val (.int (own_within (n.toInt64) q1 p2 q3)), .val (.int (0 : Int32))] [(.int (0 : Int32)), (.int (own_within (n.toInt64) q1 p2 q3))]) _
          refine own_go (fun _ => XS.icmpNo X22.here hx rfl (hb hby at_111) rfl (teq (show (own_within (n.toInt64) q1 p2 q3) = (0 : Int32) from by unfold own_within; rw [if_pos hc90])).2) ?_
          show own_Ends p e below T22 (mkF m 114 #[.val (.int p0), .val (.long q1), .second, .val (.int p2), .val (.long q3), .second, .val (.int n), .val (.ref b1), .val (.ref b3), .val (.int (own_within (n.toInt64) q1 p2 q3)), .val (.int (0 : Int32))] []) _
          refine own_go (fun _ => XS.iconst X22.here hx rfl (hb hby at_114)) ?_
          show own_Ends p e below T22 (mkF m 115 #[.val (.int p0), .val (.long q1), .second, .val (.int p2), .val (.long q3), .second, .val (.int n), .val (.ref b1), .val (.ref b3), .val (.int (own_within (n.toInt64) q1 p2 q3)), .val (.int (0 : Int32))] [(.int (1 : Int32))]) _
          refine own_go (fun _ => XS.goto X22.here hx rfl (pc0 := 115) (pc' := 119) rfl (hb hby at_115) (by decide) (by decide)) ?_
          show own_Ends p e below T22 (mkF m 119 #[.val (.int p0), .val (.long q1), .second, .val (.int p2), .val (.long q3), .second, .val (.int n), .val (.ref b1), .val (.ref b3), .val (.int (own_within (n.toInt64) q1 p2 q3)), .val (.int (0 : Int32))] [(.int (1 : Int32))]) _
          obtain ⟨fs, hr, hrun, hended, hW, hsame⟩ := X22.leave (v := some (.int (1 : Int32))) (fun h => by rw [Bd.returns] at h; cases h)
          refine ⟨_, _, retN X22 hx (t := .boolean) Bd.returns (by simp) (hb hby at_119) hr, hrun, hended, _, _, rfl, ?_, ⟨_, rfl⟩, hW, hsame.mono (by decide) (by decide)⟩
          show Q_rm0 Z p0 q1 p2 q3 h0 n0 _ T22.heap _
          rw [eh22]
          exact ⟨rfl, N22⟩
        · refine own_go (fun _ => XS.ifNo X22.here hx rfl (hb hby at_90) rfl ((if0 _ _).trans (flt (fun q => hc90 ((lw_gt (n.toInt64) (p2.toInt64)).mp q))).2.2.1)) ?_
          show own_Ends p e below T22 (mkF m 93 #[.val (.int p0), .val (.long q1), .second, .val (.int p2), .val (.long q3), .second, .val (.int n), .val (.ref b1), .val (.ref b3), .val (.int (own_within (n.toInt64) q1 p2 q3)), .unset] []) _
          refine own_go (fun _ => XS.lloadN X22.here hx rfl (hb hby at_93) rfl) ?_
          show own_Ends p e below T22 (mkF m 94 #[.val (.int p0), .val (.long q1), .second, .val (.int p2), .val (.long q3), .second, .val (.int n), .val (.ref b1), .val (.ref b3), .val (.int (own_within (n.toInt64) q1 p2 q3)), .unset] [(.long q1)]) _
          refine own_go (fun _ => XS.lload X22.here hx rfl (hb hby at_94) rfl) ?_
          show own_Ends p e below T22 (mkF m 96 #[.val (.int p0), .val (.long q1), .second, .val (.int p2), .val (.long q3), .second, .val (.int n), .val (.ref b1), .val (.ref b3), .val (.int (own_within (n.toInt64) q1 p2 q3)), .unset] [(.long q3), (.long q1)]) _
          refine own_go (fun _ => XS.lcmp X22.here hx rfl (hb hby at_96) rfl) ?_
          show own_Ends p e below T22 (mkF m 97 #[.val (.int p0), .val (.long q1), .second, .val (.int p2), .val (.long q3), .second, .val (.int n), .val (.ref b1), .val (.ref b3), .val (.int (own_within (n.toInt64) q1 p2 q3)), .unset] [(.int (lcmpW q1 q3))]) _
          by_cases hc97 : q3 < q1
          · refine own_go (fun _ => XS.ifYes X22.here hx rfl (pc0 := 97) (pc' := 104) rfl (hb hby at_97) rfl ((if0 _ _).trans (tlt ((lw_gt q1 q3).mpr hc97)).2.2.1) (by decide) (by decide)) ?_
            show own_Ends p e below T22 (mkF m 104 #[.val (.int p0), .val (.long q1), .second, .val (.int p2), .val (.long q3), .second, .val (.int n), .val (.ref b1), .val (.ref b3), .val (.int (own_within (n.toInt64) q1 p2 q3)), .unset] []) _
            refine own_go (fun _ => XS.iconst X22.here hx rfl (hb hby at_104)) ?_
            show own_Ends p e below T22 (mkF m 105 #[.val (.int p0), .val (.long q1), .second, .val (.int p2), .val (.long q3), .second, .val (.int n), .val (.ref b1), .val (.ref b3), .val (.int (own_within (n.toInt64) q1 p2 q3)), .unset] [(.int (0 : Int32))]) _
            refine own_go (fun _ => XS.istore X22.here hx rfl (hb hby at_105) rfl (l' := #[.val (.int p0), .val (.long q1), .second, .val (.int p2), .val (.long q3), .second, .val (.int n), .val (.ref b1), .val (.ref b3), .val (.int (own_within (n.toInt64) q1 p2 q3)), .val (.int (0 : Int32))]) rfl) ?_
            show own_Ends p e below T22 (mkF m 107 #[.val (.int p0), .val (.long q1), .second, .val (.int p2), .val (.long q3), .second, .val (.int n), .val (.ref b1), .val (.ref b3), .val (.int (own_within (n.toInt64) q1 p2 q3)), .val (.int (0 : Int32))] []) _
            refine own_go (fun _ => XS.iload X22.here hx rfl (hb hby at_107) rfl) ?_
            show own_Ends p e below T22 (mkF m 109 #[.val (.int p0), .val (.long q1), .second, .val (.int p2), .val (.long q3), .second, .val (.int n), .val (.ref b1), .val (.ref b3), .val (.int (own_within (n.toInt64) q1 p2 q3)), .val (.int (0 : Int32))] [(.int (own_within (n.toInt64) q1 p2 q3))]) _
            refine own_go (fun _ => XS.iload X22.here hx rfl (hb hby at_109) rfl) ?_
            show own_Ends p e below T22 (mkF m 111 #[.val (.int p0), .val (.long q1), .second, .val (.int p2), .val (.long q3), .second, .val (.int n), .val (.ref b1), .val (.ref b3), .val (.int (own_within (n.toInt64) q1 p2 q3)), .val (.int (0 : Int32))] [(.int (0 : Int32)), (.int (own_within (n.toInt64) q1 p2 q3))]) _
            refine own_go (fun _ => XS.icmpNo X22.here hx rfl (hb hby at_111) rfl (teq (show (own_within (n.toInt64) q1 p2 q3) = (0 : Int32) from by unfold own_within; rw [if_neg hc90, if_pos hc97])).2) ?_
            show own_Ends p e below T22 (mkF m 114 #[.val (.int p0), .val (.long q1), .second, .val (.int p2), .val (.long q3), .second, .val (.int n), .val (.ref b1), .val (.ref b3), .val (.int (own_within (n.toInt64) q1 p2 q3)), .val (.int (0 : Int32))] []) _
            refine own_go (fun _ => XS.iconst X22.here hx rfl (hb hby at_114)) ?_
            show own_Ends p e below T22 (mkF m 115 #[.val (.int p0), .val (.long q1), .second, .val (.int p2), .val (.long q3), .second, .val (.int n), .val (.ref b1), .val (.ref b3), .val (.int (own_within (n.toInt64) q1 p2 q3)), .val (.int (0 : Int32))] [(.int (1 : Int32))]) _
            refine own_go (fun _ => XS.goto X22.here hx rfl (pc0 := 115) (pc' := 119) rfl (hb hby at_115) (by decide) (by decide)) ?_
            show own_Ends p e below T22 (mkF m 119 #[.val (.int p0), .val (.long q1), .second, .val (.int p2), .val (.long q3), .second, .val (.int n), .val (.ref b1), .val (.ref b3), .val (.int (own_within (n.toInt64) q1 p2 q3)), .val (.int (0 : Int32))] [(.int (1 : Int32))]) _
            obtain ⟨fs, hr, hrun, hended, hW, hsame⟩ := X22.leave (v := some (.int (1 : Int32))) (fun h => by rw [Bd.returns] at h; cases h)
            refine ⟨_, _, retN X22 hx (t := .boolean) Bd.returns (by simp) (hb hby at_119) hr, hrun, hended, _, _, rfl, ?_, ⟨_, rfl⟩, hW, hsame.mono (by decide) (by decide)⟩
            show Q_rm0 Z p0 q1 p2 q3 h0 n0 _ T22.heap _
            rw [eh22]
            exact ⟨rfl, N22⟩
          · refine own_go (fun _ => XS.ifNo X22.here hx rfl (hb hby at_97) rfl ((if0 _ _).trans (flt (fun q => hc97 ((lw_gt q1 q3).mp q))).2.2.1)) ?_
            show own_Ends p e below T22 (mkF m 100 #[.val (.int p0), .val (.long q1), .second, .val (.int p2), .val (.long q3), .second, .val (.int n), .val (.ref b1), .val (.ref b3), .val (.int (own_within (n.toInt64) q1 p2 q3)), .unset] []) _
            refine own_go (fun _ => XS.iconst X22.here hx rfl (hb hby at_100)) ?_
            show own_Ends p e below T22 (mkF m 101 #[.val (.int p0), .val (.long q1), .second, .val (.int p2), .val (.long q3), .second, .val (.int n), .val (.ref b1), .val (.ref b3), .val (.int (own_within (n.toInt64) q1 p2 q3)), .unset] [(.int (1 : Int32))]) _
            refine own_go (fun _ => XS.goto X22.here hx rfl (pc0 := 101) (pc' := 105) rfl (hb hby at_101) (by decide) (by decide)) ?_
            show own_Ends p e below T22 (mkF m 105 #[.val (.int p0), .val (.long q1), .second, .val (.int p2), .val (.long q3), .second, .val (.int n), .val (.ref b1), .val (.ref b3), .val (.int (own_within (n.toInt64) q1 p2 q3)), .unset] [(.int (1 : Int32))]) _
            refine own_go (fun _ => XS.istore X22.here hx rfl (hb hby at_105) rfl (l' := #[.val (.int p0), .val (.long q1), .second, .val (.int p2), .val (.long q3), .second, .val (.int n), .val (.ref b1), .val (.ref b3), .val (.int (own_within (n.toInt64) q1 p2 q3)), .val (.int (1 : Int32))]) rfl) ?_
            show own_Ends p e below T22 (mkF m 107 #[.val (.int p0), .val (.long q1), .second, .val (.int p2), .val (.long q3), .second, .val (.int n), .val (.ref b1), .val (.ref b3), .val (.int (own_within (n.toInt64) q1 p2 q3)), .val (.int (1 : Int32))] []) _
            refine own_go (fun _ => XS.iload X22.here hx rfl (hb hby at_107) rfl) ?_
            show own_Ends p e below T22 (mkF m 109 #[.val (.int p0), .val (.long q1), .second, .val (.int p2), .val (.long q3), .second, .val (.int n), .val (.ref b1), .val (.ref b3), .val (.int (own_within (n.toInt64) q1 p2 q3)), .val (.int (1 : Int32))] [(.int (own_within (n.toInt64) q1 p2 q3))]) _
            refine own_go (fun _ => XS.iload X22.here hx rfl (hb hby at_109) rfl) ?_
            show own_Ends p e below T22 (mkF m 111 #[.val (.int p0), .val (.long q1), .second, .val (.int p2), .val (.long q3), .second, .val (.int n), .val (.ref b1), .val (.ref b3), .val (.int (own_within (n.toInt64) q1 p2 q3)), .val (.int (1 : Int32))] [(.int (1 : Int32)), (.int (own_within (n.toInt64) q1 p2 q3))]) _
            refine own_go (fun _ => XS.icmpNo X22.here hx rfl (hb hby at_111) rfl (teq (show (own_within (n.toInt64) q1 p2 q3) = (1 : Int32) from by unfold own_within; rw [if_neg hc90, if_neg hc97])).2) ?_
            show own_Ends p e below T22 (mkF m 114 #[.val (.int p0), .val (.long q1), .second, .val (.int p2), .val (.long q3), .second, .val (.int n), .val (.ref b1), .val (.ref b3), .val (.int (own_within (n.toInt64) q1 p2 q3)), .val (.int (1 : Int32))] []) _
            refine own_go (fun _ => XS.iconst X22.here hx rfl (hb hby at_114)) ?_
            show own_Ends p e below T22 (mkF m 115 #[.val (.int p0), .val (.long q1), .second, .val (.int p2), .val (.long q3), .second, .val (.int n), .val (.ref b1), .val (.ref b3), .val (.int (own_within (n.toInt64) q1 p2 q3)), .val (.int (1 : Int32))] [(.int (1 : Int32))]) _
            refine own_go (fun _ => XS.goto X22.here hx rfl (pc0 := 115) (pc' := 119) rfl (hb hby at_115) (by decide) (by decide)) ?_
            show own_Ends p e below T22 (mkF m 119 #[.val (.int p0), .val (.long q1), .second, .val (.int p2), .val (.long q3), .second, .val (.int n), .val (.ref b1), .val (.ref b3), .val (.int (own_within (n.toInt64) q1 p2 q3)), .val (.int (1 : Int32))] [(.int (1 : Int32))]) _
            obtain ⟨fs, hr, hrun, hended, hW, hsame⟩ := X22.leave (v := some (.int (1 : Int32))) (fun h => by rw [Bd.returns] at h; cases h)
            refine ⟨_, _, retN X22 hx (t := .boolean) Bd.returns (by simp) (hb hby at_119) hr, hrun, hended, _, _, rfl, ?_, ⟨_, rfl⟩, hW, hsame.mono (by decide) (by decide)⟩
            show Q_rm0 Z p0 q1 p2 q3 h0 n0 _ T22.heap _
            rw [eh22]
            exact ⟨rfl, N22⟩
set_option maxRecDepth 65536 in
set_option maxHeartbeats 40000000 in
theorem comes_1 {Post : Tables → Env → Array Value → State → Outcome → State → Prop} (hpost : ∀ tb e args s v u, (limb_1_1.after args s (.returned v) u = true ∧ limb_1_2.after args s (.returned v) u = true ∧ True) → FrameEnd s (.returned v) u (Jvm.fieldLocs frame_1_writes args s ++ Jvm.arrayLocs frame_1_arrays args s ++ Jvm.staticLocs frame_1_statics s) 16 128 → Post tb e args s (.returned v) u) :
    ArmFor flags0 classFile x code maxLocals ret World_1 tables_1 room_1 Calls_1 rest_1 Pre_1 Post := by
  intro l hfl _ _ p e ha hc hk s m args below hf hA hF happ hP
  obtain ⟨hcalls, hrest, hpre⟩ := hP
  obtain ⟨-, -, -, hnamed, -, -, -, hat⟩ := (Spec.applies_iff hf).mp happ
  obtain ⟨hg, hn⟩ := and_e (Cond.before_iff.mp (show (Jvm.Cond.and given_1 narrow_1).before args s = true from hpre))
  obtain ⟨gv1, gv2⟩ := and_e hg
  obtain ⟨gv3, gv4⟩ := and_e gv2
  obtain ⟨gv5, gv6⟩ := and_e gv4
  obtain ⟨gv7, gv8⟩ := and_e gv6
  obtain ⟨w0, w1, w2, w3, rfl⟩ : ∃ w0 w1 w2 w3 : Value, args = #[w0, w1, w2, w3] := by
    have hs : args.size = 4 := by simpa [Cond.value, given_1] using gv1
    obtain ⟨L⟩ := args
    match L, hs with
    | [w0, w1, w2, w3], _ => exact ⟨w0, w1, w2, w3, rfl⟩
  have hw := fun d (hd : d ∈ tables_1) => atoms_spec (ws := Jvm.Cond.code x code maxLocals ret :: tables_1) hat d (List.mem_cons_of_mem _ hd)
  obtain ⟨i0, ei0⟩ := is_v gv3
  obtain rfl : w0 = (.int i0) := Option.some.inj ei0
  obtain ⟨i1, ei1⟩ := isL_v gv5
  obtain rfl : w1 = (.long i1) := Option.some.inj ei1
  obtain ⟨i2, ei2⟩ := is_v gv7
  obtain rfl : w2 = (.int i2) := Option.some.inj ei2
  obtain ⟨i3, ei3⟩ := isL_v gv8
  obtain rfl : w3 = (.long i3) := Option.some.inj ei3
  obtain ⟨n, o, h1, h2, h3, _, L, rfl, ⟨rfl, N⟩, hq⟩ := rm0 l s _ hw tables_1 i0 i1 i2 i3 s.heap s.heap.size (Nat.le_refl _) p e ha hc hk s m _ below hf ((Spec.applies_iff_loose hf).mp happ).1 ⟨rfl, State.Warmed39.refl s, rfl⟩ trivial
  refine ⟨n, _, h1, h2, h3, hpost _ _ _ _ _ _ ⟨Cond.after_iff.mpr rfl, Cond.after_iff.mpr (eq_i res_at (Term.int_eval (1)) rfl), trivial⟩ ⟨hq.1, hq.2.1, (hq.2.2.sift fun y hy => Or.inr (N y hy)).mono (by decide) (by decide)⟩⟩
theorem main_1_1 : Claimed_1_1 := comes_1 fun _ _ _ _ _ _ h hF => ⟨h.1, hF⟩
theorem main_1_2 : Claimed_1_2 := comes_1 fun _ _ _ _ _ _ h hF => ⟨h.2.1, hF⟩
end Jvm.Pilot.@@N@@
namespace Jvm.Pilot.@@N@@
open Jvm Jvm.ClassFile Sem Op Lib Jvm.Free Jvm.Stand Jvm.Pilot.@@N@@.Jvm.D
/-! MADE BY PROGRAM (witnessworld.py) out of the Statement's table words and the real class files: 11 classes; the members and pool entries that the words name. The judged class is class 1, her method 1. -/
namespace start1
open Jvm.ClassFile
def u (s : String) : CpInfo := .utf8 (stringToUtf16 s)
/-- a pool by its gaps: so many unusable entries, then the entry; so many at the end -/
def gap : Nat → List CpInfo → List CpInfo
  | 0, r => r
  | n + 1, r => .unusable :: gap n r
def poolList (es : List (Nat × CpInfo)) (last : Nat) : List CpInfo := es.foldr (fun e r => gap e.1 (e.2 :: r)) (gap last [])
def pool (es : List (Nat × CpInfo)) (last : Nat) : Array CpInfo := ⟨poolList es last⟩
def fileOf (pool : Array CpInfo) (this : Nat) (attrs : Array Attribute := #[]) (ms : Array MethodInfo := #[]) (fl : Nat := 33) (sup : Nat := 0) (ifs : Array Nat := #[]) (fds : Array FieldInfo := #[]) : ClassFile where
  minorVersion := 0
  majorVersion := 65
  constantPool := pool
  accessFlags := fl
  thisClass := this
  superClass := sup
  interfaces := ifs
  fields := fds
  methods := ms
  attributes := attrs
def plain (name : String) (sup : Option ClassId) : Class where
  name := name
  kind := .ordinary
  loader := none
  accessFlags := 33
  super := sup
  interfaces := #[]
  cf := none
  fields := #[]
  methods := #[]
  instanceTypes := #[]
  staticTypes := #[]
  resolved := #[]
  callSites := []
  init := .initialized
  statics := none
  mirror := none

def pool0 : Array CpInfo := pool [(5, u "<init>"), (0, u "()V"), (1, .class_ 10), (1, u "java/lang/Object")] 113

def k0c0 : Code := { maxStack := 0, maxLocals := 1, code := object_method_1_code, exceptionTable := #[], attributes := #[] }
def k0m0 : Method := { name := "<init>", desc := "()V", sig := { parameters := [], returnType := none }, accessFlags := 1, code := some k0c0 }
/-- java/lang/Object -/
def k0 : Class := { plain "java/lang/Object" none with
  accessFlags := 33
  interfaces := #[]
  cf := some (fileOf pool0 8 #[] #[{ accessFlags := 1, nameIndex := 5, descriptorIndex := 6, attributes := #[] }] 33 0 #[] #[])
  fields := #[]
  methods := #[k0m0]
  instanceTypes := #[]
  staticTypes := #[]
  resolved := Array.replicate 124 none
  statics := none }

def pool1 : Array CpInfo := pool [(2, .class_ 4), (0, .nameAndType 5 6), (0, u "java/lang/Object"), (0, u "<init>"), (0, u "()V"), (0, .class_ 8), (0, u "com/example/wedge/wedge/Batch$Size"), (0, .methodref 7 3), (0, .methodref 7 11), (0, .nameAndType 12 13), (0, u "add"), (0, u "([B[B)V"), (0, .methodref 7 15), (0, .nameAndType 16 17), (0, u "grow"), (0, u "(J)V"), (0, .class_ 19), (0, u "com/example/wedge/wedge/Batch$Limit"), (0, .methodref 18 21), (0, .nameAndType 5 22), (0, u "(IJ)V"), (0, .methodref 7 24), (0, .nameAndType 25 26), (0, u "within"), (0, u "(Lcom/example/wedge/wedge/Batch$Limit;)Z"), (0, .class_ 28), (0, u "com/example/wedge/wedge/SizeWithinPinLaw"), (2, u "law"), (0, u "(IJIJ)Z")] 10

def k1m0 : Method := { name := "<init>", desc := "()V", sig := { parameters := [], returnType := none }, accessFlags := 1, code := none }
def k1c1 : Code := { maxStack := 6, maxLocals := 11, code := code, exceptionTable := #[], attributes := #[] }
def k1m1 : Method := { name := "law", desc := "(IJIJ)Z", sig := { parameters := [.int, .long, .int, .long], returnType := some .boolean }, accessFlags := 9, code := some k1c1 }
/-- com/example/wedge/wedge/SizeWithinPinLaw -/
def k1 : Class := { plain "com/example/wedge/wedge/SizeWithinPinLaw" (some 0) with
  accessFlags := 49
  interfaces := #[]
  cf := some (fileOf pool1 27 #[] #[{ accessFlags := 1, nameIndex := 5, descriptorIndex := 6, attributes := #[] }, { accessFlags := 9, nameIndex := 31, descriptorIndex := 32, attributes := #[] }] 49 2 #[] #[])
  fields := #[]
  methods := #[k1m0, k1m1]
  instanceTypes := #[]
  staticTypes := #[]
  resolved := Array.replicate 43 none
  statics := none }

def pool2 : Array CpInfo := pool [(1, .methodref 2 3), (0, .class_ 4), (0, .nameAndType 5 6), (0, u "java/lang/Object"), (0, u "<init>"), (0, u "()V"), (0, .fieldref 8 9), (0, .class_ 10), (0, .nameAndType 11 12), (0, u "com/example/wedge/wedge/Batch$Size"), (0, u "entries"), (0, u "J"), (0, .fieldref 8 14), (0, .nameAndType 15 12), (0, u "bytes"), (0, .methodref 17 18), (0, .class_ 19), (0, .nameAndType 11 20), (0, u "com/example/wedge/wedge/Batch$Limit"), (0, u "()I"), (0, .methodref 17 22), (0, .nameAndType 15 23), (0, u "()J"), (2, u "add"), (0, u "([B[B)V"), (3, u "grow"), (0, u "(J)V"), (0, u "within"), (0, u "(Lcom/example/wedge/wedge/Batch$Limit;)Z"), (3, .class_ 39), (0, u "com/example/wedge/wedge/Batch")] 3

def k2c0 : Code := { maxStack := 1, maxLocals := 1, code := prog_3_method_1_code, exceptionTable := #[], attributes := #[] }
def k2m0 : Method := { name := "<init>", desc := "()V", sig := { parameters := [], returnType := none }, accessFlags := 0, code := some k2c0 }
def k2c1 : Code := { maxStack := 5, maxLocals := 3, code := prog_3_method_2_code, exceptionTable := #[], attributes := #[] }
def k2m1 : Method := { name := "add", desc := "([B[B)V", sig := { parameters := [(.array .byte), (.array .byte)], returnType := none }, accessFlags := 0, code := some k2c1 }
def k2c2 : Code := { maxStack := 5, maxLocals := 3, code := prog_3_method_3_code, exceptionTable := #[], attributes := #[] }
def k2m2 : Method := { name := "grow", desc := "(J)V", sig := { parameters := [.long], returnType := none }, accessFlags := 0, code := some k2c2 }
def k2c3 : Code := { maxStack := 4, maxLocals := 2, code := prog_3_method_4_code, exceptionTable := #[], attributes := #[] }
def k2m3 : Method := { name := "within", desc := "(Lcom/example/wedge/wedge/Batch$Limit;)Z", sig := { parameters := [(.object "com/example/wedge/wedge/Batch$Limit")], returnType := some .boolean }, accessFlags := 0, code := some k2c3 }
/-- com/example/wedge/wedge/Batch$Size -/
def k2 : Class := { plain "com/example/wedge/wedge/Batch$Size" (some 0) with
  accessFlags := 48
  interfaces := #[]
  cf := some (fileOf pool2 8 #[.nestHost 38] #[{ accessFlags := 0, nameIndex := 5, descriptorIndex := 6, attributes := #[] }, { accessFlags := 0, nameIndex := 26, descriptorIndex := 27, attributes := #[] }, { accessFlags := 0, nameIndex := 31, descriptorIndex := 32, attributes := #[] }, { accessFlags := 0, nameIndex := 33, descriptorIndex := 34, attributes := #[] }] 48 2 #[] #[{ accessFlags := 2, nameIndex := 11, descriptorIndex := 12, attributes := #[] }, { accessFlags := 2, nameIndex := 15, descriptorIndex := 12, attributes := #[] }])
  fields := #[{ name := "entries", type := .long, accessFlags := 2, slot := 0, constantValue := 0 }, { name := "bytes", type := .long, accessFlags := 2, slot := 1, constantValue := 0 }]
  methods := #[k2m0, k2m1, k2m2, k2m3]
  instanceTypes := #[.long, .long]
  staticTypes := #[]
  resolved := Array.replicate 43 none
  statics := none }

def pool3 : Array CpInfo := pool [(1, .methodref 2 3), (0, .class_ 4), (0, .nameAndType 5 6), (0, u "java/lang/Object"), (0, u "<init>"), (0, u "()V"), (0, .class_ 8), (0, u "java/lang/Record")] 13

def k3c0 : Code := { maxStack := 1, maxLocals := 1, code := jdk_30_method_1_code, exceptionTable := #[], attributes := #[] }
def k3m0 : Method := { name := "<init>", desc := "()V", sig := { parameters := [], returnType := none }, accessFlags := 4, code := some k3c0 }
/-- java/lang/Record -/
def k3 : Class := { plain "java/lang/Record" (some 0) with
  accessFlags := 1057
  interfaces := #[]
  cf := some (fileOf pool3 7 #[] #[{ accessFlags := 4, nameIndex := 5, descriptorIndex := 6, attributes := #[] }] 1057 2 #[] #[])
  fields := #[]
  methods := #[k3m0]
  instanceTypes := #[]
  staticTypes := #[]
  resolved := Array.replicate 22 none
  statics := none }

def pool4 : Array CpInfo := pool [(1, .methodref 2 3), (0, .class_ 4), (0, .nameAndType 5 6), (0, u "java/lang/Record"), (0, u "<init>"), (0, u "()V"), (0, .fieldref 8 9), (0, .class_ 10), (0, .nameAndType 11 12), (0, u "com/example/wedge/wedge/Batch$Limit"), (0, u "entries"), (0, u "I"), (0, .fieldref 8 14), (0, .nameAndType 15 16), (0, u "bytes"), (0, u "J"), (21, u "(IJ)V"), (2, u "NONE"), (0, u "Lcom/example/wedge/wedge/Batch$Limit;"), (4, u "()I"), (1, u "()J"), (4, .class_ 55), (0, u "com/example/wedge/wedge/Batch")] 20

def k4c0 : Code := { maxStack := 3, maxLocals := 4, code := prog_2_method_1_code, exceptionTable := #[], attributes := #[] }
def k4m0 : Method := { name := "<init>", desc := "(IJ)V", sig := { parameters := [.int, .long], returnType := none }, accessFlags := 1, code := some k4c0 }
def k4c1 : Code := { maxStack := 1, maxLocals := 1, code := prog_2_method_5_code, exceptionTable := #[], attributes := #[] }
def k4m1 : Method := { name := "entries", desc := "()I", sig := { parameters := [], returnType := some .int }, accessFlags := 1, code := some k4c1 }
def k4c2 : Code := { maxStack := 2, maxLocals := 1, code := prog_2_method_6_code, exceptionTable := #[], attributes := #[] }
def k4m2 : Method := { name := "bytes", desc := "()J", sig := { parameters := [], returnType := some .long }, accessFlags := 1, code := some k4c2 }
/-- com/example/wedge/wedge/Batch$Limit -/
def k4 : Class := { plain "com/example/wedge/wedge/Batch$Limit" (some 3) with
  accessFlags := 49
  interfaces := #[]
  cf := some (fileOf pool4 8 #[.nestHost 54] #[{ accessFlags := 1, nameIndex := 5, descriptorIndex := 38, attributes := #[] }, { accessFlags := 1, nameIndex := 11, descriptorIndex := 47, attributes := #[] }, { accessFlags := 1, nameIndex := 15, descriptorIndex := 49, attributes := #[] }] 49 2 #[] #[{ accessFlags := 18, nameIndex := 11, descriptorIndex := 12, attributes := #[] }, { accessFlags := 18, nameIndex := 15, descriptorIndex := 16, attributes := #[] }, { accessFlags := 25, nameIndex := 41, descriptorIndex := 42, attributes := #[] }])
  fields := #[{ name := "entries", type := .int, accessFlags := 18, slot := 0, constantValue := 0 }, { name := "bytes", type := .long, accessFlags := 18, slot := 1, constantValue := 0 }, { name := "NONE", type := (.object "com/example/wedge/wedge/Batch$Limit"), accessFlags := 25, slot := 0, constantValue := 0 }]
  methods := #[k4m0, k4m1, k4m2]
  instanceTypes := #[.int, .long]
  staticTypes := #[(.object "com/example/wedge/wedge/Batch$Limit")]
  resolved := Array.replicate 76 none
  statics := none }

def pool5 : Array CpInfo := pool [(1, u "java/lang/Cloneable"), (0, .class_ 1), (0, u "java/lang/Object"), (0, .class_ 3)] 3

/-- java/lang/Cloneable -/
def k5 : Class := { plain "java/lang/Cloneable" (some 0) with
  accessFlags := 1537
  interfaces := #[]
  cf := some (fileOf pool5 2 #[] #[] 1537 4 #[] #[])
  fields := #[]
  methods := #[]
  instanceTypes := #[]
  staticTypes := #[]
  resolved := Array.replicate 8 none
  statics := none }

def pool6 : Array CpInfo := pool [(1, u "java/io/Serializable"), (0, .class_ 1), (0, u "java/lang/Object"), (0, .class_ 3)] 3

/-- java/io/Serializable -/
def k6 : Class := { plain "java/io/Serializable" (some 0) with
  accessFlags := 1537
  interfaces := #[]
  cf := some (fileOf pool6 2 #[] #[] 1537 4 #[] #[])
  fields := #[]
  methods := #[]
  instanceTypes := #[]
  staticTypes := #[]
  resolved := Array.replicate 8 none
  statics := none }

/-- the primitive byte -/
def k7 : Class := { plain "byte" none with kind := .primitive 'B', accessFlags := 0x411 }
/-- [B -/
def k8 : Class := { plain "[B" (some 0) with kind := .array 7 .byte, interfaces := #[5, 6], accessFlags := 1041 }

/-- the primitive int -/
def k9 : Class := { plain "int" none with kind := .primitive 'I', accessFlags := 0x411 }
/-- [I -/
def k10 : Class := { plain "[I" (some 0) with kind := .array 9 .int, interfaces := #[5, 6], accessFlags := 1041 }

def heap : Heap := #[]
def classes : Array Class := #[k0, k1, k2, k3, k4, k5, k6, k7, k8, k9, k10]
def interned : List (Array UInt16 × Addr) := []
def slotsUsed : Nat := 0
def theMethod : MethodId := ⟨1, 1⟩
def args0 : Array Value := #[.int 5, .long 7, .int 3, .long 4]
def aboutOver (below : List Frame) : State where
  vm := { classes := classes, interned := interned.toArray }
  heap := heap
  slotsUsed := slotsUsed
  threads := #[{ frames := .invoking theMethod args0 :: below }]
def below0 : List Frame := [.native { method := ⟨0, 0⟩, args := #[] }]
def about1 : State := aboutOver below0
def p0 : Program := .bare "" "" ""
def e0 : Env := launch0.env 0 0 0
theorem w_frames : about1.frames = Frame.invoking theMethod args0 :: below0 := rfl
set_option maxRecDepth 65536 in
theorem w_args : argsFit about1.vm theMethod args0 = true := by decide +kernel
set_option maxRecDepth 65536 in
theorem w_heap : heapFits about1 = true := by decide +kernel
set_option maxRecDepth 65536 in
theorem w_runnable : about1.curStatus? = some .runnable := by decide +kernel
set_option maxRecDepth 65536 in
theorem w_alone : about1.alone = true := by decide +kernel
set_option maxRecDepth 65536 in
theorem w_named : about1.methodNamed? x = some theMethod := by decide +kernel
set_option maxRecDepth 65536 in
theorem w_hears : about1.hears theMethod below0 = true := by decide +kernel
set_option maxRecDepth 65536 in
theorem w_ripe : about1.ripe theMethod args0 below0 = true := by decide +kernel
theorem w_running : about1.status = .running := rfl
set_option maxRecDepth 65536 in
theorem w_room : about1.hasRoom e0.platform room_1 = true :=
  launch0.hasRoom_least _ room_1 (by decide +kernel) (by decide +kernel) (by decide +kernel) (by decide +kernel) (by decide +kernel) (by decide +kernel)
theorem allAtoms_all (ts : List Jvm.Cond) (a : Array Jvm.Value) (st : Jvm.State) : (allAtoms ts).before a st = ts.all (fun c => c.before a st) := by
  induction ts with
  | nil => rfl
  | cons c t ih =>
    show (Jvm.Cond.and c (allAtoms t)).before a st = _
    rw [Jvm.Cond.before_and, ih, List.all_cons]
def words1 : List Jvm.Cond := Jvm.Cond.code x code maxLocals ret :: tables_1
/-- a 'code' word, met by the world's own term for the bytes: nothing is compared byte by byte -/
theorem code_word {y : MethodName} {bytes : ByteArray} {mx : Nat} {rt : Option FieldType} {a : Array Value} {s : State} {m : MethodId} {meth : Method} {c : Code} (h1 : s.methodNamed? y = some m) (h2 : s.vm.method? m = some meth) (h3 : meth.code = some c) (h4 : c.code = bytes)
    (h5 : (c.maxLocals == mx && c.exceptionTable.isEmpty && decide (c.maxStack ≤ mostOperands) && decide (meth.sig.returnType = rt) && !meth.locks && decide (parseMethodDescriptor y.desc = some meth.sig)) = true) : (Jvm.Cond.code y bytes mx rt).before a s = true := by
  simp only [Bool.and_eq_true, beq_iff_eq, Bool.not_eq_true', decide_eq_true_eq] at h5
  obtain ⟨⟨⟨⟨⟨g1, g2⟩, g3⟩, g4⟩, g5⟩, g6⟩ := h5
  simp [Cond.before, Cond.holds, Cond.value, h1, h2, h3, h4, g1, g2, g3, g4, g5, g6]
def isCode : Jvm.Cond → Bool
  | .code _ _ _ _ => true
  | _ => false
theorem all_split {L : List Jvm.Cond} {P : Jvm.Cond → Bool} (h1 : L.all (fun c => isCode c || P c) = true) (h2 : ∀ c ∈ L.filter isCode, P c = true) : L.all P = true := by
  refine List.all_eq_true.mpr fun c hc => ?_
  have h := List.all_eq_true.mp h1 c hc
  rcases Bool.eq_false_or_eq_true (isCode c) with hi | hi
  · exact h2 c (List.mem_filter.mpr ⟨hc, hi⟩)
  · simpa [hi] using h
set_option maxRecDepth 65536 in
theorem w_c0 : (Jvm.Cond.code x code maxLocals ret).before args0 about1 = true := code_word (m := ⟨1, 1⟩) (meth := k1m1) (c := k1c1) (by decide +kernel) rfl rfl rfl (by decide +kernel)
set_option maxRecDepth 65536 in
theorem w_c1 : (Jvm.Cond.code ({ cls := "com/example/wedge/wedge/Batch$Size", name := "<init>", desc := "()V" } : Jvm.MethodName) prog_3_method_1_code (1 : Nat) (Option.none : Option Jvm.ClassFile.FieldType)).before args0 about1 = true := code_word (m := ⟨2, 0⟩) (meth := k2m0) (c := k2c0) (by decide +kernel) rfl rfl rfl (by decide +kernel)
set_option maxRecDepth 65536 in
theorem w_c2 : (Jvm.Cond.code ({ cls := "java/lang/Object", name := "<init>", desc := "()V" } : Jvm.MethodName) object_method_1_code (1 : Nat) (Option.none : Option Jvm.ClassFile.FieldType)).before args0 about1 = true := code_word (m := ⟨0, 0⟩) (meth := k0m0) (c := k0c0) (by decide +kernel) rfl rfl rfl (by decide +kernel)
set_option maxRecDepth 65536 in
theorem w_c3 : (Jvm.Cond.code ({ cls := "com/example/wedge/wedge/Batch$Size", name := "grow", desc := "(J)V" } : Jvm.MethodName) prog_3_method_3_code (3 : Nat) (Option.none : Option Jvm.ClassFile.FieldType)).before args0 about1 = true := code_word (m := ⟨2, 2⟩) (meth := k2m2) (c := k2c2) (by decide +kernel) rfl rfl rfl (by decide +kernel)
set_option maxRecDepth 65536 in
theorem w_c4 : (Jvm.Cond.code ({ cls := "com/example/wedge/wedge/Batch$Limit", name := "<init>", desc := "(IJ)V" } : Jvm.MethodName) prog_2_method_1_code (4 : Nat) (Option.none : Option Jvm.ClassFile.FieldType)).before args0 about1 = true := code_word (m := ⟨4, 0⟩) (meth := k4m0) (c := k4c0) (by decide +kernel) rfl rfl rfl (by decide +kernel)
set_option maxRecDepth 65536 in
theorem w_c5 : (Jvm.Cond.code ({ cls := "java/lang/Record", name := "<init>", desc := "()V" } : Jvm.MethodName) jdk_30_method_1_code (1 : Nat) (Option.none : Option Jvm.ClassFile.FieldType)).before args0 about1 = true := code_word (m := ⟨3, 0⟩) (meth := k3m0) (c := k3c0) (by decide +kernel) rfl rfl rfl (by decide +kernel)
set_option maxRecDepth 65536 in
theorem w_c6 : (Jvm.Cond.code ({ cls := "com/example/wedge/wedge/Batch$Size", name := "within", desc := "(Lcom/example/wedge/wedge/Batch$Limit;)Z" } : Jvm.MethodName) prog_3_method_4_code (2 : Nat) (Option.some Jvm.ClassFile.FieldType.boolean)).before args0 about1 = true := code_word (m := ⟨2, 3⟩) (meth := k2m3) (c := k2c3) (by decide +kernel) rfl rfl rfl (by decide +kernel)
set_option maxRecDepth 65536 in
theorem w_c7 : (Jvm.Cond.code ({ cls := "com/example/wedge/wedge/Batch$Limit", name := "entries", desc := "()I" } : Jvm.MethodName) prog_2_method_5_code (1 : Nat) (Option.some Jvm.ClassFile.FieldType.int)).before args0 about1 = true := code_word (m := ⟨4, 1⟩) (meth := k4m1) (c := k4c1) (by decide +kernel) rfl rfl rfl (by decide +kernel)
set_option maxRecDepth 65536 in
theorem w_c8 : (Jvm.Cond.code ({ cls := "com/example/wedge/wedge/Batch$Limit", name := "bytes", desc := "()J" } : Jvm.MethodName) prog_2_method_6_code (1 : Nat) (Option.some Jvm.ClassFile.FieldType.long)).before args0 about1 = true := code_word (m := ⟨4, 2⟩) (meth := k4m2) (c := k4c2) (by decide +kernel) rfl rfl rfl (by decide +kernel)
set_option maxRecDepth 65536 in
theorem w_c9 : (Jvm.Cond.code ({ cls := "com/example/wedge/wedge/Batch$Size", name := "add", desc := "([B[B)V" } : Jvm.MethodName) prog_3_method_2_code (3 : Nat) (Option.none : Option Jvm.ClassFile.FieldType)).before args0 about1 = true := code_word (m := ⟨2, 1⟩) (meth := k2m1) (c := k2c1) (by decide +kernel) rfl rfl rfl (by decide +kernel)
def codes1 : List Jvm.Cond := [Jvm.Cond.code x code maxLocals ret, Jvm.Cond.code ({ cls := "com/example/wedge/wedge/Batch$Size", name := "<init>", desc := "()V" } : Jvm.MethodName) prog_3_method_1_code (1 : Nat) (Option.none : Option Jvm.ClassFile.FieldType), Jvm.Cond.code ({ cls := "java/lang/Object", name := "<init>", desc := "()V" } : Jvm.MethodName) object_method_1_code (1 : Nat) (Option.none : Option Jvm.ClassFile.FieldType), Jvm.Cond.code ({ cls := "com/example/wedge/wedge/Batch$Size", name := "grow", desc := "(J)V" } : Jvm.MethodName) prog_3_method_3_code (3 : Nat) (Option.none : Option Jvm.ClassFile.FieldType), Jvm.Cond.code ({ cls := "com/example/wedge/wedge/Batch$Limit", name := "<init>", desc := "(IJ)V" } : Jvm.MethodName) prog_2_method_1_code (4 : Nat) (Option.none : Option Jvm.ClassFile.FieldType), Jvm.Cond.code ({ cls := "java/lang/Record", name := "<init>", desc := "()V" } : Jvm.MethodName) jdk_30_method_1_code (1 : Nat) (Option.none : Option Jvm.ClassFile.FieldType), Jvm.Cond.code ({ cls := "com/example/wedge/wedge/Batch$Size", name := "within", desc := "(Lcom/example/wedge/wedge/Batch$Limit;)Z" } : Jvm.MethodName) prog_3_method_4_code (2 : Nat) (Option.some Jvm.ClassFile.FieldType.boolean), Jvm.Cond.code ({ cls := "com/example/wedge/wedge/Batch$Limit", name := "entries", desc := "()I" } : Jvm.MethodName) prog_2_method_5_code (1 : Nat) (Option.some Jvm.ClassFile.FieldType.int), Jvm.Cond.code ({ cls := "com/example/wedge/wedge/Batch$Limit", name := "bytes", desc := "()J" } : Jvm.MethodName) prog_2_method_6_code (1 : Nat) (Option.some Jvm.ClassFile.FieldType.long), Jvm.Cond.code ({ cls := "com/example/wedge/wedge/Batch$Size", name := "add", desc := "([B[B)V" } : Jvm.MethodName) prog_3_method_2_code (3 : Nat) (Option.none : Option Jvm.ClassFile.FieldType)]
set_option maxRecDepth 65536 in
theorem codes_eq : words1.filter isCode = codes1 := rfl
theorem w_codes : ∀ c ∈ words1.filter isCode, c.before args0 about1 = true := by
  rw [codes_eq]
  intro c hc
  simp only [codes1, List.mem_cons, List.not_mem_nil, or_false] at hc
  rcases hc with rfl | rfl | rfl | rfl | rfl | rfl | rfl | rfl | rfl | rfl
  · exact w_c0
  · exact w_c1
  · exact w_c2
  · exact w_c3
  · exact w_c4
  · exact w_c5
  · exact w_c6
  · exact w_c7
  · exact w_c8
  · exact w_c9
set_option maxRecDepth 65536 in
theorem w_t1 : (words1.take 24).all (fun c => isCode c || c.before args0 about1) = true := by decide +kernel
set_option maxRecDepth 65536 in
theorem w_t2 : ((words1.drop 24).take 24).all (fun c => isCode c || c.before args0 about1) = true := by decide +kernel
set_option maxRecDepth 65536 in
theorem w_t3 : ((words1.drop 24).drop 24).all (fun c => isCode c || c.before args0 about1) = true := by decide +kernel
theorem w_tables : (allAtoms (Jvm.Cond.code x code maxLocals ret :: tables_1)).before args0 about1 = true := by
  rw [allAtoms_all]
  show words1.all (fun c => c.before args0 about1) = true
  refine all_split ?_ w_codes
  rw [← List.take_append_drop 24 words1, List.all_append, w_t1, ← List.take_append_drop 24 (words1.drop 24), List.all_append, w_t2, w_t3]
  rfl
set_option maxRecDepth 65536 in
theorem w_case : (Jvm.Cond.and given_1 narrow_1).before args0 about1 = true := by decide +kernel
theorem w_applies : (headSpec (Jvm.Cond.code x code maxLocals ret :: tables_1) room_1).applies x e0.platform about1 = true :=
  (Spec.applies_iff w_frames).mpr ⟨w_running, w_runnable, w_alone, w_named, w_hears, w_ripe, w_room, w_tables⟩
theorem atStart : AtStart classFile x code maxLocals ret World_1 tables_1 room_1 Calls_1 rest_1 Pre_1 launch0 p0 e0 about1 theMethod args0 below0 :=
  ⟨lists_1, trivial, launch0.admits_env _ _ _, launch0.least_env, fairChoices_fair.cas, fairChoices_fair.clock, w_frames, w_args, w_heap, w_applies, trivial, trivial, w_case⟩
end start1
theorem witness_1 : WitnessClaimed_1 := ⟨start1.p0, start1.e0, start1.about1, start1.theMethod, start1.args0, start1.below0, start1.atStart⟩
end Jvm.Pilot.@@N@@
