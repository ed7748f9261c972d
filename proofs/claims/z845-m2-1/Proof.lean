import JvmDerived
import JvmDerived.Pilot.@@N@@Statement
import JvmDerived.Pilot.@@N@@Code
set_option linter.unusedVariables false
set_option linter.unusedSimpArgs false
namespace Jvm.RoadKit
open Sem ClassFile Op Lib Jvm.Stand Jvm.Free Jvm.LawKit
section New
variable {p : Program} {l : Launch} {e : Env} {R : Room} {s : State} {m : MethodId} {args : Array Value} {below : List Frame} {meth : Method} {c : Code} {T : State} {locs : List Loc} {cells slots : Nat}
theorem retI (X : Stand p l e R s m args below meth c T locs cells slots) (hx : p.tables.exec = Jvm.exec) {pc : Nat} {Ls : Array Slot} {z : Int32} {rest : List Value} (hret : meth.sig.returnType = some .int) (hd : decode c.code pc = .ok (.ireturn, 1)) {fs : List Frame}
    (hl : ∀ (f : JFrame) (acts : List Action), f.method = m → f.locked = none → f.entered = [] → (doReturn e (T.setTop f) acts (some (.int z))).1 = T.setFrames fs) : Steps p.tables e below (T.setTop (mkF m pc Ls (.int z :: rest))) (T.setFrames fs) := by
  have hm' : T.vm.method? m = some meth := X.method'
  have hn : narrow .int (.int z) = .int z := rfl
  show Steps p.tables e below (T.setTop { method := m, pc := pc, locals := Ls, stack := _ :: rest, locked := none }) _
  jvm_step X.here [X.here.top, hx, hd, hm', hret, hn]
  first | (intro acts; rw [hl _ acts rfl rfl rfl]) | rw [hl _ _ rfl rfl rfl]
  exact Steps.refl _
end New
end Jvm.RoadKit
namespace Jvm.Pilot.@@N@@
open Jvm Jvm.ClassFile Sem Op Lib Jvm.Free Jvm.Stand Jvm.LawKit Jvm.RoadKit Bundle Jvm.Pilot.@@N@@.Jvm.D
def own_Ends (p : Program) (e : Env) (below : List Frame) (T : State) (g : JFrame) (P : Outcome → State → Prop) : Prop := ∃ s₂ o, Steps p.tables e below (T.setTop g) s₂ ∧ s₂.status = .running ∧ Ended s₂ below o ∧ P o s₂
theorem own_go {p : Program} {e : Env} {below : List Frame} {T T' : State} {g g' : JFrame} {P : Outcome → State → Prop} (h : ∀ t, Steps p.tables e below (T'.setTop g') t → Steps p.tables e below (T.setTop g) t) (k : own_Ends p e below T' g' P) : own_Ends p e below T g P := by
  obtain ⟨a, o, q, r⟩ := k
  exact ⟨a, o, h _ q, r⟩
def own_Len (Z : State) (h : Heap) (a : Addr) (ty : FieldType) (n : Int32) : Prop := ∃ c : Cell, Arr Z h a c ty ∧ c.slots.size = n.toNatClampNeg ∧ ¬ n < 0
theorem own_Len.lt {Z : State} {h : Heap} {a : Addr} {ty : FieldType} {n : Int32} (F : own_Len Z h a ty n) : a < h.size := by obtain ⟨c, A, -⟩ := F; exact A.lt
theorem own_Len.ext {Z : State} {h h' : Heap} {a : Addr} {ty : FieldType} {n : Int32} (F : own_Len Z h a ty n) (E : Ext h h') : own_Len Z h' a ty n := by obtain ⟨c, A, r⟩ := F; exact ⟨c, A.ext E, r⟩
theorem own_Len.other {Z : State} {h h' : Heap} {a b : Addr} {ty : FieldType} {n : Int32} {sl : Nat} {v : Value} (F : own_Len Z h b ty n) (W : Wr h h' a sl v) (q : b ≠ a) : own_Len Z h' b ty n := by obtain ⟨c, A, r⟩ := F; exact ⟨c, A.other W q, r⟩
theorem own_Len.same {Z : State} {h h' : Heap} {a : Addr} {ty : FieldType} {n : Int32} {sl : Nat} {v : Value} (F : own_Len Z h a ty n) (W : Wr h h' a sl v) : own_Len Z h' a ty n := by obtain ⟨c, A, r1, r2⟩ := F; exact ⟨_, A.same W, by rw [sz_set]; exact r1, r2⟩
theorem own_Len.keep {Z : State} {h h' : Heap} {a : Addr} {ty : FieldType} {n : Int32} {ws : List Addr} (F : own_Len Z h a ty n) (K : Keep h h' ws) (q : a ∉ ws) : own_Len Z h' a ty n := by obtain ⟨c, A, r⟩ := F; exact ⟨c, ⟨K.2.1 a c A.1 q, A.2⟩, r⟩
theorem own_as {p : Program} {e : Env} {below : List Frame} {T : State} {g g' : JFrame} {P : Outcome → State → Prop} (h : g = g') (k : own_Ends p e below T g' P) : own_Ends p e below T g P := h ▸ k

theorem own_z : (0 : Int32).toInt = 0 := by decide
theorem own_n (x : Int32) : 0 ≤ (x &&& (7 : Int32)).toInt ∧ (x &&& (7 : Int32)).toInt ≤ 7 := by
  have h := c_mask x 7 3 (by decide) (by decide)
  omega
theorem own_neg {n : Int32} (h : 0 ≤ n.toInt ∧ n.toInt ≤ 7) : ¬ n < 0 := by rw [Int32.lt_iff_toInt_lt, own_z]; omega
theorem own_cap {n : Int32} (h : 0 ≤ n.toInt ∧ n.toInt ≤ 7) : n.toNatClampNeg ≤ 7 := by
  have := nat_of (own_neg h)
  omega
theorem own_last {n : Int32} (h : 0 ≤ n.toInt ∧ n.toInt ≤ 7) (q : (0 : Int32) < n) : ¬ (n - (1 : Int32)) < 0 ∧ (n - (1 : Int32)) < n := by
  rw [Int32.lt_iff_toInt_lt, own_z] at q
  have h1 := c_isub n 1
  have r := rng32 (n - 1)
  have e : (1 : Int32).toInt = 1 := by decide
  rw [Int32.lt_iff_toInt_lt, Int32.lt_iff_toInt_lt, own_z]
  omega
theorem d2_0 : decode jdk_30_method_1_code 0 = .ok (.aload_n 0, 1) := by decide +kernel
theorem d2_1 : decode jdk_30_method_1_code 1 = .ok (.invokespecial 1, 3) := by decide +kernel
theorem d2_4 : decode jdk_30_method_1_code 4 = .ok (.return_, 1) := by decide +kernel
theorem pn_2 : plainName "java/lang/Record" = true := by first | (simp [plainName, overriddenIn]; done) | decide +kernel
theorem ef_2 (m : MethodId) (a0 : Addr) : entryFrame m #[(.ref a0)] 1 = mkF m 0 #[.val (.ref a0)] [] := by first | (simp [entryFrame, mkF, argsToLocals, Value.category]; done) | rfl
def Q_rmRec (Z : State) (a0 : Addr) (h0 : Heap) (n0 : Nat) (v : Option Value) (h : Heap) (L : List Loc) : Prop := v = none ∧ Fr n0 L ∧ h = h0
set_option maxRecDepth 65536 in
set_option maxHeartbeats 40000000 in
theorem rmRec (l : Launch) (Z : State) (a0 : Array Value) (hw : ∀ d ∈ tables_1, d.before a0 Z = true) (ws : List Jvm.Cond) (a0 : Addr) (h0 : Heap) (n0 : Nat) (Z0 : n0 ≤ h0.size) :
    MetFree l (⟨"java/lang/Record", "<init>", "()V"⟩ : MethodName) (head1 (Jvm.Cond.code (⟨"java/lang/Record", "<init>", "()V"⟩ : MethodName) jdk_30_method_1_code 1 none :: ws) ({ frames := 1, cells := 0, slots := 0, locals := 12 } : Room)) (fun aa U => aa = #[(.ref a0)] ∧ Z.Warmed39 U.vm ∧ U.heap = h0) (fun _ _ _ _ _ => True) (fun _ U ou U' => ∃ v L, ou = .returned v ∧ Q_rmRec Z a0 h0 n0 v U'.heap L ∧ FrameEnd U ou U' L ({ frames := 1, cells := 0, slots := 0, locals := 12 } : Room).cells ({ frames := 1, cells := 0, slots := 0, locals := 12 } : Room).slots) := by
  refine MetFree.of_bodySF (plainFor_of_name pn_2) hisR ?_
  intro p e s m args below meth c s₁ Bd hml0 hP hK
  obtain ⟨rfl, hZ, hh⟩ := hP
  have hx := Bd.exec
  have hby := Bd.bytes
  have hml : c.maxLocals = 1 := hml0
  have hown : s.vm.findClass "java/lang/Record" = some m.cls := findClass_of_methodNamed Bd.named
  have hnm := (name_of_methodNamed Bd.named Bd.method).1
  have X0 : Stand p l e ({ frames := 1, cells := 0, slots := 0, locals := 12 } : Room) s m #[(.ref a0)] below meth c s₁ [] 0 0 := Stand.of_body Bd
  have e0 : s₁.heap = h0 := by rw [← hh, Bd.state]; rfl
  have N0 := Fr.nil n0
  have K0 := Keep.refl h0 []
  refine own_as (ef_2 m a0) ?_
  show own_Ends p e below s₁ (mkF m 0 #[.val (.ref a0)] []) _
  refine own_go (fun _ => XS.aloadN X0.here hx rfl (hb hby d2_0) rfl rfl) ?_
  show own_Ends p e below s₁ (mkF m 1 #[.val (.ref a0)] [(.ref a0)]) _
  obtain ⟨T1, X1, e1, st1⟩ := initO X0 hx hZ hown (hw _ (List.mem_of_getElem? (i := 12) rfl)) (hw _ (List.mem_of_getElem? (i := 13) rfl)) (hw _ (List.mem_of_getElem? (i := 14) rfl)) e0 (g := (mkF m 1 #[.val (.ref a0)] [(.ref a0)])) rfl (by rw [hml]; rfl) rfl (hb hby d2_1) (by decide) (W := 0) (by show 2 * 0 + _ ≤ _; exact Nat.le_of_eq rfl) (by decide)
  refine own_go st1 ?_
  show own_Ends p e below T1 (mkF m 4 #[.val (.ref a0)] []) _
  obtain ⟨fs, hr, hrun, hended, hW, hsame⟩ := X1.leave (v := none) (fun _ => rfl)
  refine ⟨_, _, X1.returnOut hx Bd.returns (hb hby d2_4) hr, hrun, hended, _, _, rfl, ?_, ⟨_, rfl⟩, hW, hsame.mono (by decide) (by decide)⟩
  show Q_rmRec Z a0 h0 n0 _ T1.heap _
  rw [e1]
  exact ⟨rfl, N0, rfl⟩
theorem d1_0 : decode prog_10_method_1_code 0 = .ok (.aload_n 0, 1) := by decide +kernel
theorem d1_1 : decode prog_10_method_1_code 1 = .ok (.invokespecial 1, 3) := by decide +kernel
theorem d1_4 : decode prog_10_method_1_code 4 = .ok (.aload_n 0, 1) := by decide +kernel
theorem d1_5 : decode prog_10_method_1_code 5 = .ok (.aload_n 1, 1) := by decide +kernel
theorem d1_6 : decode prog_10_method_1_code 6 = .ok (.putfield 7, 3) := by decide +kernel
theorem d1_9 : decode prog_10_method_1_code 9 = .ok (.aload_n 0, 1) := by decide +kernel
theorem d1_10 : decode prog_10_method_1_code 10 = .ok (.aload_n 2, 1) := by decide +kernel
theorem d1_11 : decode prog_10_method_1_code 11 = .ok (.putfield 13, 3) := by decide +kernel
theorem d1_14 : decode prog_10_method_1_code 14 = .ok (.return_, 1) := by decide +kernel
theorem pn_1 : plainName "com/example/wedge/wedge/Entry" = true := by first | (simp [plainName, overriddenIn]; done) | decide +kernel
theorem ef_1n (m : MethodId) (o : Addr) (a : Addr) : entryFrame m #[(.ref o), (.ref a), .null] 3 = mkF m 0 #[.val (.ref o), .val (.ref a), .val .null] [] := by first | (simp [entryFrame, mkF, argsToLocals, Value.category]; done) | rfl
def Q_rmEInitn (Z : State) (o : Addr) (a : Addr) (h0 : Heap) (n0 : Nat) (v : Option Value) (h : Heap) (L : List Loc) : Prop := v = none ∧ Fr n0 L ∧ Keep h0 h [o] ∧ Exa Z h o "com/example/wedge/wedge/Entry" ∧ Fld Z h o "com/example/wedge/wedge/Entry" "key" "[B" (.ref a) ∧ Fld Z h o "com/example/wedge/wedge/Entry" "value" "[B" .null
theorem pd_0 : parseMethodDescriptor "()V" = some ⟨[], none⟩ := by decide +kernel
set_option maxRecDepth 65536 in
set_option maxHeartbeats 40000000 in
theorem rmEInitn (l : Launch) (Z : State) (a0 : Array Value) (hw : ∀ d ∈ tables_1, d.before a0 Z = true) (ws : List Jvm.Cond) (o : Addr) (a : Addr) (h0 : Heap) (n0 : Nat) (Z0 : n0 ≤ h0.size) (E_o : Exa Z h0 o "com/example/wedge/wedge/Entry") (F_o_key : Fld Z h0 o "com/example/wedge/wedge/Entry" "key" "[B" .null) (F_o_value : Fld Z h0 o "com/example/wedge/wedge/Entry" "value" "[B" .null) (g_o : n0 ≤ o) :
    MetFree l (⟨"com/example/wedge/wedge/Entry", "<init>", "([B[B)V"⟩ : MethodName) (head1 (Jvm.Cond.code (⟨"com/example/wedge/wedge/Entry", "<init>", "([B[B)V"⟩ : MethodName) prog_10_method_1_code 3 none :: ws) ({ frames := 2, cells := 0, slots := 0, locals := 24 } : Room)) (fun aa U => aa = #[(.ref o), (.ref a), .null] ∧ Z.Warmed39 U.vm ∧ U.heap = h0) (fun _ _ _ _ _ => True) (fun _ U ou U' => ∃ v L, ou = .returned v ∧ Q_rmEInitn Z o a h0 n0 v U'.heap L ∧ FrameEnd U ou U' L ({ frames := 2, cells := 0, slots := 0, locals := 24 } : Room).cells ({ frames := 2, cells := 0, slots := 0, locals := 24 } : Room).slots) := by
  refine MetFree.of_bodySF (plainFor_of_name pn_1) hisR ?_
  intro p e s m args below meth c s₁ Bd hml0 hP hK
  obtain ⟨rfl, hZ, hh⟩ := hP
  have hx := Bd.exec
  have hby := Bd.bytes
  have hml : c.maxLocals = 3 := hml0
  have hown : s.vm.findClass "com/example/wedge/wedge/Entry" = some m.cls := findClass_of_methodNamed Bd.named
  have hnm := (name_of_methodNamed Bd.named Bd.method).1
  have X0 : Stand p l e ({ frames := 2, cells := 0, slots := 0, locals := 24 } : Room) s m #[(.ref o), (.ref a), .null] below meth c s₁ [] 0 0 := Stand.of_body Bd
  have e0 : s₁.heap = h0 := by rw [← hh, Bd.state]; rfl
  have N0 := Fr.nil n0
  have K0 := Keep.refl h0 [o]
  refine own_as (ef_1n m o a) ?_
  show own_Ends p e below s₁ (mkF m 0 #[.val (.ref o), .val (.ref a), .val .null] []) _
  refine own_go (fun _ => XS.aloadN X0.here hx rfl (hb hby d1_0) rfl rfl) ?_
  show own_Ends p e below s₁ (mkF m 1 #[.val (.ref o), .val (.ref a), .val .null] [(.ref o)]) _
  obtain ⟨_, _, ⟨T1, L1, k1, n1⟩, -, X1, ⟨Lc1, hQ1, l1, y1, z1⟩, st1⟩ := X0.specialBack hx (y := (⟨"java/lang/Record", "<init>", "()V"⟩ : MethodName)) rfl hown (mvT hZ (hw _ (List.mem_of_getElem? (i := 7) rfl))) (mvT hZ (hw _ (List.mem_of_getElem? (i := 8) rfl))) (mvT hZ (hw _ (List.mem_of_getElem? (i := 11) rfl))) (by decide) (backOf (W := 0) (rmRec l Z a0 hw [] o  h0 n0 Z0 ) hZ (hw _ (List.mem_of_getElem? (i := 11) rfl)) (hw _ (List.mem_of_getElem? (i := 10) rfl)) (by decide) (by decide)) (g := (mkF m 1 #[.val (.ref o), .val (.ref a), .val .null] [(.ref o)])) rfl (by rw [hml]; rfl) (Steps.refl _) (a := o) (argsL := []) (rest := []) (lenOf pd_0 rfl) rfl (by show 2 * 0 + _ ≤ _; exact Nat.le_of_eq rfl) (hb hby d1_1) (fun _ _ => ⟨rfl, e0, (by decide : 0 + 0 ≤ _), (by decide : 0 + 0 ≤ _)⟩)
  dsimp only [Pt.U, Pt.locs, Pt.cells, Pt.slots] at X1 l1 y1 z1 st1 hQ1
  subst l1 y1 z1
  refine own_go (fun _ k => st1.trans k) ?_
  obtain ⟨rfl, N1q, eh1⟩ := hQ1
  have N1 := Fr.app N0 N1q
  show own_Ends p e below T1 (mkF m 4 #[.val (.ref o), .val (.ref a), .val .null] []) _
  refine own_go (fun _ => XS.aloadN X1.here hx rfl (hb hby d1_4) rfl rfl) ?_
  show own_Ends p e below T1 (mkF m 5 #[.val (.ref o), .val (.ref a), .val .null] [(.ref o)]) _
  refine own_go (fun _ => XS.aloadN X1.here hx rfl (hb hby d1_5) rfl rfl) ?_
  show own_Ends p e below T1 (mkF m 6 #[.val (.ref o), .val (.ref a), .val .null] [(.ref a), (.ref o)]) _
  obtain ⟨T2, h2, X2, e2, W2, st2⟩ := putF X1 hx hZ hown (host := "") (Or.inl (hw _ (List.mem_of_getElem? (i := 15) rfl))) Via.refl eh1 F_o_key E_o (Or.inr ⟨(hw _ (List.mem_of_getElem? (i := 16) rfl)), rfl, hnm⟩) (hw _ (List.mem_of_getElem? (i := 2) rfl)) (ty := (.array .byte)) (by decide) rfl rfl (g := (mkF m 6 #[.val (.ref o), .val (.ref a), .val .null] [(.ref a), (.ref o)])) rfl rfl (hb hby d1_6)
  refine own_go st2 ?_
  replace F_o_key := F_o_key.same W2
  replace E_o := E_o.wr W2
  replace F_o_value := F_o_value.other W2 (Or.inr (slot_ne (Or.inr (hw _ (List.mem_of_getElem? (i := 18) rfl))) (Or.inr (hw _ (List.mem_of_getElem? (i := 16) rfl))) (by decide) (t := (.array .byte)) (t' := (.array .byte)) (by decide) (by decide)))
  have N2 := Fr.snoc X2 N1 g_o
  have K2 := K0.wr W2 (Or.inl (List.mem_of_getElem? (i := 0) rfl))
  have Z2 : n0 ≤ h2.size := Nat.le_trans Z0 K2.1
  show own_Ends p e below T2 (mkF m 9 #[.val (.ref o), .val (.ref a), .val .null] []) _
  refine own_go (fun _ => XS.aloadN X2.here hx rfl (hb hby d1_9) rfl rfl) ?_
  show own_Ends p e below T2 (mkF m 10 #[.val (.ref o), .val (.ref a), .val .null] [(.ref o)]) _
  refine own_go (fun _ => XS.aloadN X2.here hx rfl (hb hby d1_10) rfl rfl) ?_
  show own_Ends p e below T2 (mkF m 11 #[.val (.ref o), .val (.ref a), .val .null] [.null, (.ref o)]) _
  obtain ⟨T3, h3, X3, e3, W3, st3⟩ := putF X2 hx hZ hown (host := "") (Or.inl (hw _ (List.mem_of_getElem? (i := 17) rfl))) Via.refl e2 F_o_value E_o (Or.inr ⟨(hw _ (List.mem_of_getElem? (i := 18) rfl)), rfl, hnm⟩) (hw _ (List.mem_of_getElem? (i := 2) rfl)) (ty := (.array .byte)) (by decide) rfl rfl (g := (mkF m 11 #[.val (.ref o), .val (.ref a), .val .null] [.null, (.ref o)])) rfl rfl (hb hby d1_11)
  refine own_go st3 ?_
  replace F_o_value := F_o_value.same W3
  replace E_o := E_o.wr W3
  replace F_o_key := F_o_key.other W3 (Or.inr (slot_ne (Or.inr (hw _ (List.mem_of_getElem? (i := 16) rfl))) (Or.inr (hw _ (List.mem_of_getElem? (i := 18) rfl))) (by decide) (t := (.array .byte)) (t' := (.array .byte)) (by decide) (by decide)))
  have N3 := Fr.snoc X3 N2 g_o
  have K3 := K2.wr W3 (Or.inl (List.mem_of_getElem? (i := 0) rfl))
  have Z3 : n0 ≤ h3.size := Nat.le_trans Z0 K3.1
  show own_Ends p e below T3 (mkF m 14 #[.val (.ref o), .val (.ref a), .val .null] []) _
  obtain ⟨fs, hr, hrun, hended, hW, hsame⟩ := X3.leave (v := none) (fun _ => rfl)
  refine ⟨_, _, X3.returnOut hx Bd.returns (hb hby d1_14) hr, hrun, hended, _, _, rfl, ?_, ⟨_, rfl⟩, hW, hsame.mono (by decide) (by decide)⟩
  show Q_rmEInitn Z o a h0 n0 _ T3.heap _
  rw [e3]
  exact ⟨rfl, N3, K3, E_o, F_o_key, F_o_value⟩
theorem ef_1r (m : MethodId) (o : Addr) (a : Addr) (b : Addr) : entryFrame m #[(.ref o), (.ref a), (.ref b)] 3 = mkF m 0 #[.val (.ref o), .val (.ref a), .val (.ref b)] [] := by first | (simp [entryFrame, mkF, argsToLocals, Value.category]; done) | rfl
def Q_rmEInitr (Z : State) (o : Addr) (a : Addr) (b : Addr) (h0 : Heap) (n0 : Nat) (v : Option Value) (h : Heap) (L : List Loc) : Prop := v = none ∧ Fr n0 L ∧ Keep h0 h [o] ∧ Exa Z h o "com/example/wedge/wedge/Entry" ∧ Fld Z h o "com/example/wedge/wedge/Entry" "key" "[B" (.ref a) ∧ Fld Z h o "com/example/wedge/wedge/Entry" "value" "[B" (.ref b)
set_option maxRecDepth 65536 in
set_option maxHeartbeats 40000000 in
theorem rmEInitr (l : Launch) (Z : State) (a0 : Array Value) (hw : ∀ d ∈ tables_1, d.before a0 Z = true) (ws : List Jvm.Cond) (o : Addr) (a : Addr) (b : Addr) (h0 : Heap) (n0 : Nat) (Z0 : n0 ≤ h0.size) (E_o : Exa Z h0 o "com/example/wedge/wedge/Entry") (F_o_key : Fld Z h0 o "com/example/wedge/wedge/Entry" "key" "[B" .null) (F_o_value : Fld Z h0 o "com/example/wedge/wedge/Entry" "value" "[B" .null) (g_o : n0 ≤ o) :
    MetFree l (⟨"com/example/wedge/wedge/Entry", "<init>", "([B[B)V"⟩ : MethodName) (head1 (Jvm.Cond.code (⟨"com/example/wedge/wedge/Entry", "<init>", "([B[B)V"⟩ : MethodName) prog_10_method_1_code 3 none :: ws) ({ frames := 2, cells := 0, slots := 0, locals := 24 } : Room)) (fun aa U => aa = #[(.ref o), (.ref a), (.ref b)] ∧ Z.Warmed39 U.vm ∧ U.heap = h0) (fun _ _ _ _ _ => True) (fun _ U ou U' => ∃ v L, ou = .returned v ∧ Q_rmEInitr Z o a b h0 n0 v U'.heap L ∧ FrameEnd U ou U' L ({ frames := 2, cells := 0, slots := 0, locals := 24 } : Room).cells ({ frames := 2, cells := 0, slots := 0, locals := 24 } : Room).slots) := by
  refine MetFree.of_bodySF (plainFor_of_name pn_1) hisR ?_
  intro p e s m args below meth c s₁ Bd hml0 hP hK
  obtain ⟨rfl, hZ, hh⟩ := hP
  have hx := Bd.exec
  have hby := Bd.bytes
  have hml : c.maxLocals = 3 := hml0
  have hown : s.vm.findClass "com/example/wedge/wedge/Entry" = some m.cls := findClass_of_methodNamed Bd.named
  have hnm := (name_of_methodNamed Bd.named Bd.method).1
  have X0 : Stand p l e ({ frames := 2, cells := 0, slots := 0, locals := 24 } : Room) s m #[(.ref o), (.ref a), (.ref b)] below meth c s₁ [] 0 0 := Stand.of_body Bd
  have e0 : s₁.heap = h0 := by rw [← hh, Bd.state]; rfl
  have N0 := Fr.nil n0
  have K0 := Keep.refl h0 [o]
  refine own_as (ef_1r m o a b) ?_
  show own_Ends p e below s₁ (mkF m 0 #[.val (.ref o), .val (.ref a), .val (.ref b)] []) _
  refine own_go (fun _ => XS.aloadN X0.here hx rfl (hb hby d1_0) rfl rfl) ?_
  show own_Ends p e below s₁ (mkF m 1 #[.val (.ref o), .val (.ref a), .val (.ref b)] [(.ref o)]) _
  obtain ⟨_, _, ⟨T1, L1, k1, n1⟩, -, X1, ⟨Lc1, hQ1, l1, y1, z1⟩, st1⟩ := X0.specialBack hx (y := (⟨"java/lang/Record", "<init>", "()V"⟩ : MethodName)) rfl hown (mvT hZ (hw _ (List.mem_of_getElem? (i := 7) rfl))) (mvT hZ (hw _ (List.mem_of_getElem? (i := 8) rfl))) (mvT hZ (hw _ (List.mem_of_getElem? (i := 11) rfl))) (by decide) (backOf (W := 0) (rmRec l Z a0 hw [] o  h0 n0 Z0 ) hZ (hw _ (List.mem_of_getElem? (i := 11) rfl)) (hw _ (List.mem_of_getElem? (i := 10) rfl)) (by decide) (by decide)) (g := (mkF m 1 #[.val (.ref o), .val (.ref a), .val (.ref b)] [(.ref o)])) rfl (by rw [hml]; rfl) (Steps.refl _) (a := o) (argsL := []) (rest := []) (lenOf pd_0 rfl) rfl (by show 2 * 0 + _ ≤ _; exact Nat.le_of_eq rfl) (hb hby d1_1) (fun _ _ => ⟨rfl, e0, (by decide : 0 + 0 ≤ _), (by decide : 0 + 0 ≤ _)⟩)
  dsimp only [Pt.U, Pt.locs, Pt.cells, Pt.slots] at X1 l1 y1 z1 st1 hQ1
  subst l1 y1 z1
  refine own_go (fun _ k => st1.trans k) ?_
  obtain ⟨rfl, N1q, eh1⟩ := hQ1
  have N1 := Fr.app N0 N1q
  show own_Ends p e below T1 (mkF m 4 #[.val (.ref o), .val (.ref a), .val (.ref b)] []) _
  refine own_go (fun _ => XS.aloadN X1.here hx rfl (hb hby d1_4) rfl rfl) ?_
  show own_Ends p e below T1 (mkF m 5 #[.val (.ref o), .val (.ref a), .val (.ref b)] [(.ref o)]) _
  refine own_go (fun _ => XS.aloadN X1.here hx rfl (hb hby d1_5) rfl rfl) ?_
  show own_Ends p e below T1 (mkF m 6 #[.val (.ref o), .val (.ref a), .val (.ref b)] [(.ref a), (.ref o)]) _
  obtain ⟨T2, h2, X2, e2, W2, st2⟩ := putF X1 hx hZ hown (host := "") (Or.inl (hw _ (List.mem_of_getElem? (i := 15) rfl))) Via.refl eh1 F_o_key E_o (Or.inr ⟨(hw _ (List.mem_of_getElem? (i := 16) rfl)), rfl, hnm⟩) (hw _ (List.mem_of_getElem? (i := 2) rfl)) (ty := (.array .byte)) (by decide) rfl rfl (g := (mkF m 6 #[.val (.ref o), .val (.ref a), .val (.ref b)] [(.ref a), (.ref o)])) rfl rfl (hb hby d1_6)
  refine own_go st2 ?_
  replace F_o_key := F_o_key.same W2
  replace E_o := E_o.wr W2
  replace F_o_value := F_o_value.other W2 (Or.inr (slot_ne (Or.inr (hw _ (List.mem_of_getElem? (i := 18) rfl))) (Or.inr (hw _ (List.mem_of_getElem? (i := 16) rfl))) (by decide) (t := (.array .byte)) (t' := (.array .byte)) (by decide) (by decide)))
  have N2 := Fr.snoc X2 N1 g_o
  have K2 := K0.wr W2 (Or.inl (List.mem_of_getElem? (i := 0) rfl))
  have Z2 : n0 ≤ h2.size := Nat.le_trans Z0 K2.1
  show own_Ends p e below T2 (mkF m 9 #[.val (.ref o), .val (.ref a), .val (.ref b)] []) _
  refine own_go (fun _ => XS.aloadN X2.here hx rfl (hb hby d1_9) rfl rfl) ?_
  show own_Ends p e below T2 (mkF m 10 #[.val (.ref o), .val (.ref a), .val (.ref b)] [(.ref o)]) _
  refine own_go (fun _ => XS.aloadN X2.here hx rfl (hb hby d1_10) rfl rfl) ?_
  show own_Ends p e below T2 (mkF m 11 #[.val (.ref o), .val (.ref a), .val (.ref b)] [(.ref b), (.ref o)]) _
  obtain ⟨T3, h3, X3, e3, W3, st3⟩ := putF X2 hx hZ hown (host := "") (Or.inl (hw _ (List.mem_of_getElem? (i := 17) rfl))) Via.refl e2 F_o_value E_o (Or.inr ⟨(hw _ (List.mem_of_getElem? (i := 18) rfl)), rfl, hnm⟩) (hw _ (List.mem_of_getElem? (i := 2) rfl)) (ty := (.array .byte)) (by decide) rfl rfl (g := (mkF m 11 #[.val (.ref o), .val (.ref a), .val (.ref b)] [(.ref b), (.ref o)])) rfl rfl (hb hby d1_11)
  refine own_go st3 ?_
  replace F_o_value := F_o_value.same W3
  replace E_o := E_o.wr W3
  replace F_o_key := F_o_key.other W3 (Or.inr (slot_ne (Or.inr (hw _ (List.mem_of_getElem? (i := 16) rfl))) (Or.inr (hw _ (List.mem_of_getElem? (i := 18) rfl))) (by decide) (t := (.array .byte)) (t' := (.array .byte)) (by decide) (by decide)))
  have N3 := Fr.snoc X3 N2 g_o
  have K3 := K2.wr W3 (Or.inl (List.mem_of_getElem? (i := 0) rfl))
  have Z3 : n0 ≤ h3.size := Nat.le_trans Z0 K3.1
  show own_Ends p e below T3 (mkF m 14 #[.val (.ref o), .val (.ref a), .val (.ref b)] []) _
  obtain ⟨fs, hr, hrun, hended, hW, hsame⟩ := X3.leave (v := none) (fun _ => rfl)
  refine ⟨_, _, X3.returnOut hx Bd.returns (hb hby d1_14) hr, hrun, hended, _, _, rfl, ?_, ⟨_, rfl⟩, hW, hsame.mono (by decide) (by decide)⟩
  show Q_rmEInitr Z o a b h0 n0 _ T3.heap _
  rw [e3]
  exact ⟨rfl, N3, K3, E_o, F_o_key, F_o_value⟩
theorem d4_0 : decode prog_10_method_2_code 0 = .ok (.aload_n 0, 1) := by decide +kernel
theorem d4_1 : decode prog_10_method_2_code 1 = .ok (.getfield 7, 3) := by decide +kernel
theorem d4_4 : decode prog_10_method_2_code 4 = .ok (.arraylength, 1) := by decide +kernel
theorem d4_5 : decode prog_10_method_2_code 5 = .ok (.i2l, 1) := by decide +kernel
theorem d4_6 : decode prog_10_method_2_code 6 = .ok (.aload_n 0, 1) := by decide +kernel
theorem d4_7 : decode prog_10_method_2_code 7 = .ok (.getfield 13, 3) := by decide +kernel
theorem d4_10 : decode prog_10_method_2_code 10 = .ok (.ifnonnull 7, 3) := by decide +kernel
theorem d4_13 : decode prog_10_method_2_code 13 = .ok (.iconst 0, 1) := by decide +kernel
theorem d4_14 : decode prog_10_method_2_code 14 = .ok (.goto 8, 3) := by decide +kernel
theorem d4_17 : decode prog_10_method_2_code 17 = .ok (.aload_n 0, 1) := by decide +kernel
theorem d4_18 : decode prog_10_method_2_code 18 = .ok (.getfield 13, 3) := by decide +kernel
theorem d4_21 : decode prog_10_method_2_code 21 = .ok (.arraylength, 1) := by decide +kernel
theorem d4_22 : decode prog_10_method_2_code 22 = .ok (.i2l, 1) := by decide +kernel
theorem d4_23 : decode prog_10_method_2_code 23 = .ok (.ladd, 1) := by decide +kernel
theorem d4_24 : decode prog_10_method_2_code 24 = .ok (.lreturn, 1) := by decide +kernel
theorem pn_4 : plainName "com/example/wedge/wedge/Entry" = true := by first | (simp [plainName, overriddenIn]; done) | decide +kernel
theorem ef_4n (m : MethodId) (o : Addr) : entryFrame m #[(.ref o)] 1 = mkF m 0 #[.val (.ref o)] [] := by first | (simp [entryFrame, mkF, argsToLocals, Value.category]; done) | rfl
def Q_rmESizen (Z : State) (o : Addr) (a : Addr) (n_a : Int32) (h0 : Heap) (n0 : Nat) (v : Option Value) (h : Heap) (L : List Loc) : Prop := v = some (.long (n_a.toInt64 + (0 : Int64))) ∧ Fr n0 L ∧ h = h0
set_option maxRecDepth 65536 in
set_option maxHeartbeats 40000000 in
theorem rmESizen (l : Launch) (Z : State) (a0 : Array Value) (hw : ∀ d ∈ tables_1, d.before a0 Z = true) (ws : List Jvm.Cond) (o : Addr) (a : Addr) (n_a : Int32) (h0 : Heap) (n0 : Nat) (Z0 : n0 ≤ h0.size) (F_o_key : Fld Z h0 o "com/example/wedge/wedge/Entry" "key" "[B" (.ref a)) (F_o_value : Fld Z h0 o "com/example/wedge/wedge/Entry" "value" "[B" .null) (B_a : own_Len Z h0 a .byte n_a) :
    MetFree l (⟨"com/example/wedge/wedge/Entry", "size", "()J"⟩ : MethodName) (head1 (Jvm.Cond.code (⟨"com/example/wedge/wedge/Entry", "size", "()J"⟩ : MethodName) prog_10_method_2_code 1 (some .long) :: ws) ({ frames := 0, cells := 0, slots := 0, locals := 0 } : Room)) (fun aa U => aa = #[(.ref o)] ∧ Z.Warmed39 U.vm ∧ U.heap = h0) (fun _ _ _ _ _ => True) (fun _ U ou U' => ∃ v L, ou = .returned v ∧ Q_rmESizen Z o a n_a h0 n0 v U'.heap L ∧ FrameEnd U ou U' L ({ frames := 0, cells := 0, slots := 0, locals := 0 } : Room).cells ({ frames := 0, cells := 0, slots := 0, locals := 0 } : Room).slots) := by
  refine MetFree.of_bodySF (plainFor_of_name pn_4) hisR ?_
  intro p e s m args below meth c s₁ Bd hml0 hP hK
  obtain ⟨rfl, hZ, hh⟩ := hP
  have hx := Bd.exec
  have hby := Bd.bytes
  have hml : c.maxLocals = 1 := hml0
  have hown : s.vm.findClass "com/example/wedge/wedge/Entry" = some m.cls := findClass_of_methodNamed Bd.named
  have hnm := (name_of_methodNamed Bd.named Bd.method).1
  have X0 : Stand p l e ({ frames := 0, cells := 0, slots := 0, locals := 0 } : Room) s m #[(.ref o)] below meth c s₁ [] 0 0 := Stand.of_body Bd
  have e0 : s₁.heap = h0 := by rw [← hh, Bd.state]; rfl
  have N0 := Fr.nil n0
  have K0 := Keep.refl h0 []
  refine own_as (ef_4n m o) ?_
  show own_Ends p e below s₁ (mkF m 0 #[.val (.ref o)] []) _
  refine own_go (fun _ => XS.aloadN X0.here hx rfl (hb hby d4_0) rfl rfl) ?_
  show own_Ends p e below s₁ (mkF m 1 #[.val (.ref o)] [(.ref o)]) _
  obtain ⟨T1, X1, e1, st1⟩ := getF X0 hx hZ hown (host := "") (Or.inl (hw _ (List.mem_of_getElem? (i := 15) rfl))) Via.refl e0 F_o_key (g := (mkF m 1 #[.val (.ref o)] [(.ref o)])) rfl rfl (hb hby d4_1)
  refine own_go st1 ?_
  show own_Ends p e below T1 (mkF m 4 #[.val (.ref o)] [(.ref a)]) _
  obtain ⟨cl_2, Ar_2, S_2, M_2⟩ := id B_a
  refine own_go (X1.arraylength hx (by rw [e1]; exact Ar_2.1) (State.isArrayOf_alike hZ.alike Ar_2.2.1) (g := (mkF m 4 #[.val (.ref o)] [(.ref a)])) rfl rfl (hb hby d4_4)) ?_
  rw [len_of S_2 M_2]
  show own_Ends p e below T1 (mkF m 5 #[.val (.ref o)] [(.int n_a)]) _
  refine own_go (fun _ => XS.i2l X1.here hx rfl (hb hby d4_5) rfl) ?_
  show own_Ends p e below T1 (mkF m 6 #[.val (.ref o)] [(.long (n_a.toInt64))]) _
  refine own_go (fun _ => XS.aloadN X1.here hx rfl (hb hby d4_6) rfl rfl) ?_
  show own_Ends p e below T1 (mkF m 7 #[.val (.ref o)] [(.ref o), (.long (n_a.toInt64))]) _
  obtain ⟨T3, X3, e3, st3⟩ := getF X1 hx hZ hown (host := "") (Or.inl (hw _ (List.mem_of_getElem? (i := 17) rfl))) Via.refl e1 F_o_value (g := (mkF m 7 #[.val (.ref o)] [(.ref o), (.long (n_a.toInt64))])) rfl rfl (hb hby d4_7)
  refine own_go st3 ?_
  show own_Ends p e below T3 (mkF m 10 #[.val (.ref o)] [.null, (.long (n_a.toInt64))]) _
  refine own_go (fun _ => XS.ifnonnullNo X3.here hx rfl (hb hby d4_10) rfl) ?_
  show own_Ends p e below T3 (mkF m 13 #[.val (.ref o)] [(.long (n_a.toInt64))]) _
  refine own_go (fun _ => XS.iconst X3.here hx rfl (hb hby d4_13)) ?_
  show own_Ends p e below T3 (mkF m 14 #[.val (.ref o)] [(.int (0 : Int32)), (.long (n_a.toInt64))]) _
  refine own_go (fun _ => XS.goto X3.here hx rfl (pc0 := 14) (pc' := 22) rfl (hb hby d4_14) (by decide) (by decide)) ?_
  show own_Ends p e below T3 (mkF m 22 #[.val (.ref o)] [(.int (0 : Int32)), (.long (n_a.toInt64))]) _
  refine own_go (fun _ => XS.i2l X3.here hx rfl (hb hby d4_22) rfl) ?_
  show own_Ends p e below T3 (mkF m 23 #[.val (.ref o)] [(.long (0 : Int64)), (.long (n_a.toInt64))]) _
  refine own_go (fun _ => XS.ladd X3.here hx rfl (hb hby d4_23) rfl) ?_
  show own_Ends p e below T3 (mkF m 24 #[.val (.ref o)] [(.long ((n_a.toInt64) + (0 : Int64)))]) _
  obtain ⟨fs, hr, hrun, hended, hW, hsame⟩ := X3.leave (v := some (.long ((n_a.toInt64) + (0 : Int64)))) (fun h => by rw [Bd.returns] at h; cases h)
  refine ⟨_, _, retOut X3 hx Bd.returns rfl (Or.inr (Or.inl ⟨rfl, rfl, _, rfl⟩)) (hb hby d4_24) hr, hrun, hended, _, _, rfl, ?_, ⟨_, rfl⟩, hW, hsame.mono (by decide) (by decide)⟩
  show Q_rmESizen Z o a n_a h0 n0 _ T3.heap _
  rw [e3]
  exact ⟨by rfl, N0, rfl⟩
theorem ef_4r (m : MethodId) (o : Addr) : entryFrame m #[(.ref o)] 1 = mkF m 0 #[.val (.ref o)] [] := by first | (simp [entryFrame, mkF, argsToLocals, Value.category]; done) | rfl
def Q_rmESizer (Z : State) (o : Addr) (a : Addr) (b : Addr) (n_a : Int32) (n_b : Int32) (h0 : Heap) (n0 : Nat) (v : Option Value) (h : Heap) (L : List Loc) : Prop := v = some (.long (n_a.toInt64 + n_b.toInt64)) ∧ Fr n0 L ∧ h = h0
set_option maxRecDepth 65536 in
set_option maxHeartbeats 40000000 in
theorem rmESizer (l : Launch) (Z : State) (a0 : Array Value) (hw : ∀ d ∈ tables_1, d.before a0 Z = true) (ws : List Jvm.Cond) (o : Addr) (a : Addr) (b : Addr) (n_a : Int32) (n_b : Int32) (h0 : Heap) (n0 : Nat) (Z0 : n0 ≤ h0.size) (F_o_key : Fld Z h0 o "com/example/wedge/wedge/Entry" "key" "[B" (.ref a)) (F_o_value : Fld Z h0 o "com/example/wedge/wedge/Entry" "value" "[B" (.ref b)) (B_a : own_Len Z h0 a .byte n_a) (B_b : own_Len Z h0 b .byte n_b) :
    MetFree l (⟨"com/example/wedge/wedge/Entry", "size", "()J"⟩ : MethodName) (head1 (Jvm.Cond.code (⟨"com/example/wedge/wedge/Entry", "size", "()J"⟩ : MethodName) prog_10_method_2_code 1 (some .long) :: ws) ({ frames := 0, cells := 0, slots := 0, locals := 0 } : Room)) (fun aa U => aa = #[(.ref o)] ∧ Z.Warmed39 U.vm ∧ U.heap = h0) (fun _ _ _ _ _ => True) (fun _ U ou U' => ∃ v L, ou = .returned v ∧ Q_rmESizer Z o a b n_a n_b h0 n0 v U'.heap L ∧ FrameEnd U ou U' L ({ frames := 0, cells := 0, slots := 0, locals := 0 } : Room).cells ({ frames := 0, cells := 0, slots := 0, locals := 0 } : Room).slots) := by
  refine MetFree.of_bodySF (plainFor_of_name pn_4) hisR ?_
  intro p e s m args below meth c s₁ Bd hml0 hP hK
  obtain ⟨rfl, hZ, hh⟩ := hP
  have hx := Bd.exec
  have hby := Bd.bytes
  have hml : c.maxLocals = 1 := hml0
  have hown : s.vm.findClass "com/example/wedge/wedge/Entry" = some m.cls := findClass_of_methodNamed Bd.named
  have hnm := (name_of_methodNamed Bd.named Bd.method).1
  have X0 : Stand p l e ({ frames := 0, cells := 0, slots := 0, locals := 0 } : Room) s m #[(.ref o)] below meth c s₁ [] 0 0 := Stand.of_body Bd
  have e0 : s₁.heap = h0 := by rw [← hh, Bd.state]; rfl
  have N0 := Fr.nil n0
  have K0 := Keep.refl h0 []
  refine own_as (ef_4r m o) ?_
  show own_Ends p e below s₁ (mkF m 0 #[.val (.ref o)] []) _
  refine own_go (fun _ => XS.aloadN X0.here hx rfl (hb hby d4_0) rfl rfl) ?_
  show own_Ends p e below s₁ (mkF m 1 #[.val (.ref o)] [(.ref o)]) _
  obtain ⟨T1, X1, e1, st1⟩ := getF X0 hx hZ hown (host := "") (Or.inl (hw _ (List.mem_of_getElem? (i := 15) rfl))) Via.refl e0 F_o_key (g := (mkF m 1 #[.val (.ref o)] [(.ref o)])) rfl rfl (hb hby d4_1)
  refine own_go st1 ?_
  show own_Ends p e below T1 (mkF m 4 #[.val (.ref o)] [(.ref a)]) _
  obtain ⟨cl_2, Ar_2, S_2, M_2⟩ := id B_a
  refine own_go (X1.arraylength hx (by rw [e1]; exact Ar_2.1) (State.isArrayOf_alike hZ.alike Ar_2.2.1) (g := (mkF m 4 #[.val (.ref o)] [(.ref a)])) rfl rfl (hb hby d4_4)) ?_
  rw [len_of S_2 M_2]
  show own_Ends p e below T1 (mkF m 5 #[.val (.ref o)] [(.int n_a)]) _
  refine own_go (fun _ => XS.i2l X1.here hx rfl (hb hby d4_5) rfl) ?_
  show own_Ends p e below T1 (mkF m 6 #[.val (.ref o)] [(.long (n_a.toInt64))]) _
  refine own_go (fun _ => XS.aloadN X1.here hx rfl (hb hby d4_6) rfl rfl) ?_
  show own_Ends p e below T1 (mkF m 7 #[.val (.ref o)] [(.ref o), (.long (n_a.toInt64))]) _
  obtain ⟨T3, X3, e3, st3⟩ := getF X1 hx hZ hown (host := "") (Or.inl (hw _ (List.mem_of_getElem? (i := 17) rfl))) Via.refl e1 F_o_value (g := (mkF m 7 #[.val (.ref o)] [(.ref o), (.long (n_a.toInt64))])) rfl rfl (hb hby d4_7)
  refine own_go st3 ?_
  show own_Ends p e below T3 (mkF m 10 #[.val (.ref o)] [(.ref b), (.long (n_a.toInt64))]) _
  refine own_go (fun _ => XS.ifnonnullYes X3.here hx rfl (pc0 := 10) (pc' := 17) rfl (hb hby d4_10) rfl (by decide) (by decide)) ?_
  show own_Ends p e below T3 (mkF m 17 #[.val (.ref o)] [(.long (n_a.toInt64))]) _
  refine own_go (fun _ => XS.aloadN X3.here hx rfl (hb hby d4_17) rfl rfl) ?_
  show own_Ends p e below T3 (mkF m 18 #[.val (.ref o)] [(.ref o), (.long (n_a.toInt64))]) _
  obtain ⟨T4, X4, e4, st4⟩ := getF X3 hx hZ hown (host := "") (Or.inl (hw _ (List.mem_of_getElem? (i := 17) rfl))) Via.refl e3 F_o_value (g := (mkF m 18 #[.val (.ref o)] [(.ref o), (.long (n_a.toInt64))])) rfl rfl (hb hby d4_18)
  refine own_go st4 ?_
  show own_Ends p e below T4 (mkF m 21 #[.val (.ref o)] [(.ref b), (.long (n_a.toInt64))]) _
  obtain ⟨cl_5, Ar_5, S_5, M_5⟩ := id B_b
  refine own_go (X4.arraylength hx (by rw [e4]; exact Ar_5.1) (State.isArrayOf_alike hZ.alike Ar_5.2.1) (g := (mkF m 21 #[.val (.ref o)] [(.ref b), (.long (n_a.toInt64))])) rfl rfl (hb hby d4_21)) ?_
  rw [len_of S_5 M_5]
  show own_Ends p e below T4 (mkF m 22 #[.val (.ref o)] [(.int n_b), (.long (n_a.toInt64))]) _
  refine own_go (fun _ => XS.i2l X4.here hx rfl (hb hby d4_22) rfl) ?_
  show own_Ends p e below T4 (mkF m 23 #[.val (.ref o)] [(.long (n_b.toInt64)), (.long (n_a.toInt64))]) _
  refine own_go (fun _ => XS.ladd X4.here hx rfl (hb hby d4_23) rfl) ?_
  show own_Ends p e below T4 (mkF m 24 #[.val (.ref o)] [(.long ((n_a.toInt64) + (n_b.toInt64)))]) _
  obtain ⟨fs, hr, hrun, hended, hW, hsame⟩ := X4.leave (v := some (.long ((n_a.toInt64) + (n_b.toInt64)))) (fun h => by rw [Bd.returns] at h; cases h)
  refine ⟨_, _, retOut X4 hx Bd.returns rfl (Or.inr (Or.inl ⟨rfl, rfl, _, rfl⟩)) (hb hby d4_24) hr, hrun, hended, _, _, rfl, ?_, ⟨_, rfl⟩, hW, hsame.mono (by decide) (by decide)⟩
  show Q_rmESizer Z o a b n_a n_b h0 n0 _ T4.heap _
  rw [e4]
  exact ⟨by rfl, N0, rfl⟩
theorem pn_0 : plainName "com/example/wedge/wedge/EntrySizePinLaw" = true := by first | (simp [plainName, overriddenIn]; done) | decide +kernel
theorem ef_0 (m : MethodId) (p0 : Int32) (p1 : Int32) (p2 : Int32) (p3 : Int32) : entryFrame m #[(.int p0), (.int p1), (.int p2), (.int p3)] maxLocals = mkF m 0 #[.val (.int p0), .val (.int p1), .val (.int p2), .val (.int p3), .unset, .unset, .unset, .unset, .unset, .unset, .unset, .unset] [] := by first | (simp [entryFrame, mkF, argsToLocals, Value.category, maxLocals]; done) | rfl
def Q_rm0 (Z : State) (p0 : Int32) (p1 : Int32) (p2 : Int32) (p3 : Int32) (h0 : Heap) (n0 : Nat) (v : Option Value) (h : Heap) (L : List Loc) : Prop := v = some (.int 1) ∧ Fr n0 L
theorem pd_1 : parseMethodDescriptor "([B[B)V" = some ⟨[(.array .byte), (.array .byte)], none⟩ := by decide +kernel
theorem pd_2 : parseMethodDescriptor "()J" = some ⟨[], some .long⟩ := by decide +kernel
set_option maxRecDepth 65536 in
set_option maxHeartbeats 40000000 in
theorem rm0 (l : Launch) (Z : State) (a0 : Array Value) (hw : ∀ d ∈ tables_1, d.before a0 Z = true) (ws : List Jvm.Cond) (p0 : Int32) (p1 : Int32) (p2 : Int32) (p3 : Int32) (h0 : Heap) (n0 : Nat) (Z0 : n0 ≤ h0.size) :
    MetFree l x (head1 (Jvm.Cond.code x code maxLocals ret :: ws) room_1) (fun aa U => aa = #[(.int p0), (.int p1), (.int p2), (.int p3)] ∧ Z.Warmed39 U.vm ∧ U.heap = h0) (fun _ _ _ _ _ => True) (fun _ U ou U' => ∃ v L, ou = .returned v ∧ Q_rm0 Z p0 p1 p2 p3 h0 n0 v U'.heap L ∧ FrameEnd U ou U' L room_1.cells room_1.slots) := by
  refine MetFree.of_bodySF (plainFor_of_name pn_0) hisR ?_
  intro p e s m args below meth c s₁ Bd hml0 hP hK
  obtain ⟨rfl, hZ, hh⟩ := hP
  have hx := Bd.exec
  have hby := Bd.bytes
  have hml : c.maxLocals = 12 := hml0
  have hown : s.vm.findClass "com/example/wedge/wedge/EntrySizePinLaw" = some m.cls := findClass_of_methodNamed Bd.named
  have hnm := (name_of_methodNamed Bd.named Bd.method).1
  have X0 : Stand p l e room_1 s m #[(.int p0), (.int p1), (.int p2), (.int p3)] below meth c s₁ [] 0 0 := Stand.of_body Bd
  have e0 : s₁.heap = h0 := by rw [← hh, Bd.state]; rfl
  have N0 := Fr.nil n0
  have K0 := Keep.refl h0 []
  refine own_as (ef_0 m p0 p1 p2 p3) ?_
  show own_Ends p e below s₁ (mkF m 0 #[.val (.int p0), .val (.int p1), .val (.int p2), .val (.int p3), .unset, .unset, .unset, .unset, .unset, .unset, .unset, .unset] []) _
  refine own_go (fun _ => XS.iloadN X0.here hx rfl (hb hby at_0) rfl) ?_
  show own_Ends p e below s₁ (mkF m 1 #[.val (.int p0), .val (.int p1), .val (.int p2), .val (.int p3), .unset, .unset, .unset, .unset, .unset, .unset, .unset, .unset] [(.int p0)]) _
  refine own_go (fun _ => XS.bipush X0.here hx rfl (hb hby at_1)) ?_
  show own_Ends p e below s₁ (mkF m 3 #[.val (.int p0), .val (.int p1), .val (.int p2), .val (.int p3), .unset, .unset, .unset, .unset, .unset, .unset, .unset, .unset] [(.int (7 : Int32)), (.int p0)]) _
  refine own_go (fun _ => XS.iand X0.here hx rfl (hb hby at_3) rfl) ?_
  show own_Ends p e below s₁ (mkF m 4 #[.val (.int p0), .val (.int p1), .val (.int p2), .val (.int p3), .unset, .unset, .unset, .unset, .unset, .unset, .unset, .unset] [(.int (p0 &&& (7 : Int32)))]) _
  refine own_go (fun _ => XS.istore X0.here hx rfl (hb hby at_4) rfl (l' := #[.val (.int p0), .val (.int p1), .val (.int p2), .val (.int p3), .val (.int (p0 &&& (7 : Int32))), .unset, .unset, .unset, .unset, .unset, .unset, .unset]) rfl) ?_
  show own_Ends p e below s₁ (mkF m 6 #[.val (.int p0), .val (.int p1), .val (.int p2), .val (.int p3), .val (.int (p0 &&& (7 : Int32))), .unset, .unset, .unset, .unset, .unset, .unset, .unset] []) _
  have hkl := own_n p0
  generalize gkl : (p0 &&& (7 : Int32)) = kl at hkl ⊢
  refine own_go (fun _ => XS.iloadN X0.here hx rfl (hb hby at_6) rfl) ?_
  show own_Ends p e below s₁ (mkF m 7 #[.val (.int p0), .val (.int p1), .val (.int p2), .val (.int p3), .val (.int kl), .unset, .unset, .unset, .unset, .unset, .unset, .unset] [(.int p1)]) _
  refine own_go (fun _ => XS.bipush X0.here hx rfl (hb hby at_7)) ?_
  show own_Ends p e below s₁ (mkF m 9 #[.val (.int p0), .val (.int p1), .val (.int p2), .val (.int p3), .val (.int kl), .unset, .unset, .unset, .unset, .unset, .unset, .unset] [(.int (7 : Int32)), (.int p1)]) _
  refine own_go (fun _ => XS.iand X0.here hx rfl (hb hby at_9) rfl) ?_
  show own_Ends p e below s₁ (mkF m 10 #[.val (.int p0), .val (.int p1), .val (.int p2), .val (.int p3), .val (.int kl), .unset, .unset, .unset, .unset, .unset, .unset, .unset] [(.int (p1 &&& (7 : Int32)))]) _
  refine own_go (fun _ => XS.istore X0.here hx rfl (hb hby at_10) rfl (l' := #[.val (.int p0), .val (.int p1), .val (.int p2), .val (.int p3), .val (.int kl), .val (.int (p1 &&& (7 : Int32))), .unset, .unset, .unset, .unset, .unset, .unset]) rfl) ?_
  show own_Ends p e below s₁ (mkF m 12 #[.val (.int p0), .val (.int p1), .val (.int p2), .val (.int p3), .val (.int kl), .val (.int (p1 &&& (7 : Int32))), .unset, .unset, .unset, .unset, .unset, .unset] []) _
  have hvl := own_n p1
  generalize gvl : (p1 &&& (7 : Int32)) = vl at hvl ⊢
  refine own_go (fun _ => XS.iloadN X0.here hx rfl (hb hby at_12) rfl) ?_
  show own_Ends p e below s₁ (mkF m 13 #[.val (.int p0), .val (.int p1), .val (.int p2), .val (.int p3), .val (.int kl), .val (.int vl), .unset, .unset, .unset, .unset, .unset, .unset] [(.int p2)]) _
  refine own_go (fun _ => XS.iconst X0.here hx rfl (hb hby at_13)) ?_
  show own_Ends p e below s₁ (mkF m 14 #[.val (.int p0), .val (.int p1), .val (.int p2), .val (.int p3), .val (.int kl), .val (.int vl), .unset, .unset, .unset, .unset, .unset, .unset] [(.int (1 : Int32)), (.int p2)]) _
  refine own_go (fun _ => XS.iand X0.here hx rfl (hb hby at_14) rfl) ?_
  show own_Ends p e below s₁ (mkF m 15 #[.val (.int p0), .val (.int p1), .val (.int p2), .val (.int p3), .val (.int kl), .val (.int vl), .unset, .unset, .unset, .unset, .unset, .unset] [(.int (p2 &&& (1 : Int32)))]) _
  by_cases hc15 : (p2 &&& (1 : Int32)) = (0 : Int32)
  · refine own_go (fun _ => XS.ifYes X0.here hx rfl (pc0 := 15) (pc' := 22) rfl (hb hby at_15) rfl ((if0 _ _).trans (teq hc15).1) (by decide) (by decide)) ?_
    show own_Ends p e below s₁ (mkF m 22 #[.val (.int p0), .val (.int p1), .val (.int p2), .val (.int p3), .val (.int kl), .val (.int vl), .unset, .unset, .unset, .unset, .unset, .unset] []) _
    refine own_go (fun _ => XS.iconst X0.here hx rfl (hb hby at_22)) ?_
    show own_Ends p e below s₁ (mkF m 23 #[.val (.int p0), .val (.int p1), .val (.int p2), .val (.int p3), .val (.int kl), .val (.int vl), .unset, .unset, .unset, .unset, .unset, .unset] [(.int (0 : Int32))]) _
    refine own_go (fun _ => XS.istore X0.here hx rfl (hb hby at_23) rfl (l' := #[.val (.int p0), .val (.int p1), .val (.int p2), .val (.int p3), .val (.int kl), .val (.int vl), .val (.int (0 : Int32)), .unset, .unset, .unset, .unset, .unset]) rfl) ?_
    show own_Ends p e below s₁ (mkF m 25 #[.val (.int p0), .val (.int p1), .val (.int p2), .val (.int p3), .val (.int kl), .val (.int vl), .val (.int (0 : Int32)), .unset, .unset, .unset, .unset, .unset] []) _
    refine own_go (fun _ => XS.iload X0.here hx rfl (hb hby at_25) rfl) ?_
    show own_Ends p e below s₁ (mkF m 27 #[.val (.int p0), .val (.int p1), .val (.int p2), .val (.int p3), .val (.int kl), .val (.int vl), .val (.int (0 : Int32)), .unset, .unset, .unset, .unset, .unset] [(.int kl)]) _
    obtain ⟨T1, h1, k1, X1, e1, E1, A1, st1⟩ := newP X0 hx hZ (hw _ (List.mem_of_getElem? (i := 0) rfl)) e0 (g := (mkF m 27 #[.val (.int p0), .val (.int p1), .val (.int p2), .val (.int p3), .val (.int kl), .val (.int vl), .val (.int (0 : Int32)), .unset, .unset, .unset, .unset, .unset] [(.int kl)])) rfl (hb hby at_27) rfl (own_neg hkl) (cap := 7) (own_cap hkl) (by decide) (by decide) (by decide)
    obtain ⟨b1, g1⟩ : ∃ z, z = h0.size := ⟨_, rfl⟩
    rw [← g1] at A1 st1
    refine own_go st1 ?_
    have g_b1 : n0 ≤ b1 := Nat.le_trans Z0 (Nat.le_of_eq g1.symm)
    have sz_b1 : h0.size ≤ b1 := Nat.le_trans K0.1 (Nat.le_of_eq g1.symm)
    have K1 := K0.ext E1
    have Z1 : n0 ≤ h1.size := Nat.le_trans Z0 K1.1
    have B_b1 : own_Len Z h1 b1 .byte kl := ⟨_, A1, sz_new _ _ _, (own_neg hkl)⟩
    show own_Ends p e below T1 (mkF m 29 #[.val (.int p0), .val (.int p1), .val (.int p2), .val (.int p3), .val (.int kl), .val (.int vl), .val (.int (0 : Int32)), .unset, .unset, .unset, .unset, .unset] [(.ref b1)]) _
    refine own_go (fun _ => XS.astore X1.here hx rfl (hb hby at_29) rfl rfl (l' := #[.val (.int p0), .val (.int p1), .val (.int p2), .val (.int p3), .val (.int kl), .val (.int vl), .val (.int (0 : Int32)), .val (.ref b1), .unset, .unset, .unset, .unset]) rfl) ?_
    show own_Ends p e below T1 (mkF m 31 #[.val (.int p0), .val (.int p1), .val (.int p2), .val (.int p3), .val (.int kl), .val (.int vl), .val (.int (0 : Int32)), .val (.ref b1), .unset, .unset, .unset, .unset] []) _
    refine own_go (fun _ => XS.iload X1.here hx rfl (hb hby at_31) rfl) ?_
    show own_Ends p e below T1 (mkF m 33 #[.val (.int p0), .val (.int p1), .val (.int p2), .val (.int p3), .val (.int kl), .val (.int vl), .val (.int (0 : Int32)), .val (.ref b1), .unset, .unset, .unset, .unset] [(.int kl)]) _
    by_cases hc33 : (0 : Int32) < kl
    · refine own_go (fun _ => XS.ifNo X1.here hx rfl (hb hby at_33) rfl ((if0 _ _).trans (tlt hc33).2.2.2)) ?_
      show own_Ends p e below T1 (mkF m 36 #[.val (.int p0), .val (.int p1), .val (.int p2), .val (.int p3), .val (.int kl), .val (.int vl), .val (.int (0 : Int32)), .val (.ref b1), .unset, .unset, .unset, .unset] []) _
      refine own_go (fun _ => XS.aload X1.here hx rfl (hb hby at_36) rfl rfl) ?_
      show own_Ends p e below T1 (mkF m 38 #[.val (.int p0), .val (.int p1), .val (.int p2), .val (.int p3), .val (.int kl), .val (.int vl), .val (.int (0 : Int32)), .val (.ref b1), .unset, .unset, .unset, .unset] [(.ref b1)]) _
      refine own_go (fun _ => XS.iconst X1.here hx rfl (hb hby at_38)) ?_
      show own_Ends p e below T1 (mkF m 39 #[.val (.int p0), .val (.int p1), .val (.int p2), .val (.int p3), .val (.int kl), .val (.int vl), .val (.int (0 : Int32)), .val (.ref b1), .unset, .unset, .unset, .unset] [(.int (0 : Int32)), (.ref b1)]) _
      refine own_go (fun _ => XS.iloadN X1.here hx rfl (hb hby at_39) rfl) ?_
      show own_Ends p e below T1 (mkF m 40 #[.val (.int p0), .val (.int p1), .val (.int p2), .val (.int p3), .val (.int kl), .val (.int vl), .val (.int (0 : Int32)), .val (.ref b1), .unset, .unset, .unset, .unset] [(.int p3), (.int (0 : Int32)), (.ref b1)]) _
      refine own_go (fun _ => XS.i2b X1.here hx rfl (hb hby at_40) rfl) ?_
      show own_Ends p e below T1 (mkF m 41 #[.val (.int p0), .val (.int p1), .val (.int p2), .val (.int p3), .val (.int kl), .val (.int vl), .val (.int (0 : Int32)), .val (.ref b1), .unset, .unset, .unset, .unset] [(.int (p3.toInt8.toInt32)), (.int (0 : Int32)), (.ref b1)]) _
      obtain ⟨cl_2, Ar_2, S_2, M_2⟩ := id B_b1
      have hin2 : ¬ ((0 : Int32) < 0 ∨ cl_2.slots.size ≤ ((0 : Int32)).toNatClampNeg) := inb_of S_2 ⟨by decide, hc33⟩
      obtain ⟨T2, h2, X2, e2, W2, st2⟩ := stB X1 hx hZ e1 Ar_2 (j := (0 : Int32)) hin2 (g := (mkF m 41 #[.val (.int p0), .val (.int p1), .val (.int p2), .val (.int p3), .val (.int kl), .val (.int vl), .val (.int (0 : Int32)), .val (.ref b1), .unset, .unset, .unset, .unset] [(.int (p3.toInt8.toInt32)), (.int (0 : Int32)), (.ref b1)])) rfl rfl (hb hby at_41)
      refine own_go st2 ?_
      replace B_b1 := B_b1.same W2
      have N2 := Fr.snoc X2 N0 g_b1
      have K2 := K1.wr W2 (Or.inr sz_b1)
      have Z2 : n0 ≤ h2.size := Nat.le_trans Z0 K2.1
      show own_Ends p e below T2 (mkF m 42 #[.val (.int p0), .val (.int p1), .val (.int p2), .val (.int p3), .val (.int kl), .val (.int vl), .val (.int (0 : Int32)), .val (.ref b1), .unset, .unset, .unset, .unset] []) _
      refine own_go (fun _ => XS.aconstNull X2.here hx rfl (hb hby at_42)) ?_
      show own_Ends p e below T2 (mkF m 43 #[.val (.int p0), .val (.int p1), .val (.int p2), .val (.int p3), .val (.int kl), .val (.int vl), .val (.int (0 : Int32)), .val (.ref b1), .unset, .unset, .unset, .unset] [.null]) _
      refine own_go (fun _ => XS.astore X2.here hx rfl (hb hby at_43) rfl rfl (l' := #[.val (.int p0), .val (.int p1), .val (.int p2), .val (.int p3), .val (.int kl), .val (.int vl), .val (.int (0 : Int32)), .val (.ref b1), .val .null, .unset, .unset, .unset]) rfl) ?_
      show own_Ends p e below T2 (mkF m 45 #[.val (.int p0), .val (.int p1), .val (.int p2), .val (.int p3), .val (.int kl), .val (.int vl), .val (.int (0 : Int32)), .val (.ref b1), .val .null, .unset, .unset, .unset] []) _
      refine own_go (fun _ => XS.iload X2.here hx rfl (hb hby at_45) rfl) ?_
      show own_Ends p e below T2 (mkF m 47 #[.val (.int p0), .val (.int p1), .val (.int p2), .val (.int p3), .val (.int kl), .val (.int vl), .val (.int (0 : Int32)), .val (.ref b1), .val .null, .unset, .unset, .unset] [(.int (0 : Int32))]) _
      refine own_go (fun _ => XS.ifNo X2.here hx rfl (hb hby at_47) rfl ((if0 _ _).trans (teq (show (0 : Int32) = (0 : Int32) from by decide)).2)) ?_
      show own_Ends p e below T2 (mkF m 50 #[.val (.int p0), .val (.int p1), .val (.int p2), .val (.int p3), .val (.int kl), .val (.int vl), .val (.int (0 : Int32)), .val (.ref b1), .val .null, .unset, .unset, .unset] []) _
      refine own_go (fun _ => XS.iload X2.here hx rfl (hb hby at_50) rfl) ?_
      show own_Ends p e below T2 (mkF m 52 #[.val (.int p0), .val (.int p1), .val (.int p2), .val (.int p3), .val (.int kl), .val (.int vl), .val (.int (0 : Int32)), .val (.ref b1), .val .null, .unset, .unset, .unset] [(.int vl)]) _
      obtain ⟨T3, h3, k3, X3, e3, E3, A3, st3⟩ := newP X2 hx hZ (hw _ (List.mem_of_getElem? (i := 0) rfl)) e2 (g := (mkF m 52 #[.val (.int p0), .val (.int p1), .val (.int p2), .val (.int p3), .val (.int kl), .val (.int vl), .val (.int (0 : Int32)), .val (.ref b1), .val .null, .unset, .unset, .unset] [(.int vl)])) rfl (hb hby at_52) rfl (own_neg hvl) (cap := 7) (own_cap hvl) (by decide) (by decide) (by decide)
      obtain ⟨b3, g3⟩ : ∃ z, z = h2.size := ⟨_, rfl⟩
      rw [← g3] at A3 st3
      refine own_go st3 ?_
      have g_b3 : n0 ≤ b3 := Nat.le_trans Z2 (Nat.le_of_eq g3.symm)
      have sz_b3 : h0.size ≤ b3 := Nat.le_trans K2.1 (Nat.le_of_eq g3.symm)
      have ne_b1_b3 : b1 ≠ b3 := Nat.ne_of_lt (Nat.lt_of_lt_of_le B_b1.lt (Nat.le_of_eq g3.symm))
      replace B_b1 := B_b1.ext E3
      have K3 := K2.ext E3
      have Z3 : n0 ≤ h3.size := Nat.le_trans Z0 K3.1
      have B_b3 : own_Len Z h3 b3 .byte vl := ⟨_, A3, sz_new _ _ _, (own_neg hvl)⟩
      show own_Ends p e below T3 (mkF m 54 #[.val (.int p0), .val (.int p1), .val (.int p2), .val (.int p3), .val (.int kl), .val (.int vl), .val (.int (0 : Int32)), .val (.ref b1), .val .null, .unset, .unset, .unset] [(.ref b3)]) _
      refine own_go (fun _ => XS.astore X3.here hx rfl (hb hby at_54) rfl rfl (l' := #[.val (.int p0), .val (.int p1), .val (.int p2), .val (.int p3), .val (.int kl), .val (.int vl), .val (.int (0 : Int32)), .val (.ref b1), .val (.ref b3), .unset, .unset, .unset]) rfl) ?_
      show own_Ends p e below T3 (mkF m 56 #[.val (.int p0), .val (.int p1), .val (.int p2), .val (.int p3), .val (.int kl), .val (.int vl), .val (.int (0 : Int32)), .val (.ref b1), .val (.ref b3), .unset, .unset, .unset] []) _
      refine own_go (fun _ => XS.iload X3.here hx rfl (hb hby at_56) rfl) ?_
      show own_Ends p e below T3 (mkF m 58 #[.val (.int p0), .val (.int p1), .val (.int p2), .val (.int p3), .val (.int kl), .val (.int vl), .val (.int (0 : Int32)), .val (.ref b1), .val (.ref b3), .unset, .unset, .unset] [(.int vl)]) _
      by_cases hc58 : (0 : Int32) < vl
      · refine own_go (fun _ => XS.ifNo X3.here hx rfl (hb hby at_58) rfl ((if0 _ _).trans (tlt hc58).2.2.2)) ?_
        show own_Ends p e below T3 (mkF m 61 #[.val (.int p0), .val (.int p1), .val (.int p2), .val (.int p3), .val (.int kl), .val (.int vl), .val (.int (0 : Int32)), .val (.ref b1), .val (.ref b3), .unset, .unset, .unset] []) _
        refine own_go (fun _ => XS.aload X3.here hx rfl (hb hby at_61) rfl rfl) ?_
        show own_Ends p e below T3 (mkF m 63 #[.val (.int p0), .val (.int p1), .val (.int p2), .val (.int p3), .val (.int kl), .val (.int vl), .val (.int (0 : Int32)), .val (.ref b1), .val (.ref b3), .unset, .unset, .unset] [(.ref b3)]) _
        refine own_go (fun _ => XS.iload X3.here hx rfl (hb hby at_63) rfl) ?_
        show own_Ends p e below T3 (mkF m 65 #[.val (.int p0), .val (.int p1), .val (.int p2), .val (.int p3), .val (.int kl), .val (.int vl), .val (.int (0 : Int32)), .val (.ref b1), .val (.ref b3), .unset, .unset, .unset] [(.int vl), (.ref b3)]) _
        refine own_go (fun _ => XS.iconst X3.here hx rfl (hb hby at_65)) ?_
        show own_Ends p e below T3 (mkF m 66 #[.val (.int p0), .val (.int p1), .val (.int p2), .val (.int p3), .val (.int kl), .val (.int vl), .val (.int (0 : Int32)), .val (.ref b1), .val (.ref b3), .unset, .unset, .unset] [(.int (1 : Int32)), (.int vl), (.ref b3)]) _
        refine own_go (fun _ => XS.isub X3.here hx rfl (hb hby at_66) rfl) ?_
        show own_Ends p e below T3 (mkF m 67 #[.val (.int p0), .val (.int p1), .val (.int p2), .val (.int p3), .val (.int kl), .val (.int vl), .val (.int (0 : Int32)), .val (.ref b1), .val (.ref b3), .unset, .unset, .unset] [(.int (vl - (1 : Int32))), (.ref b3)]) _
        refine own_go (fun _ => XS.iloadN X3.here hx rfl (hb hby at_67) rfl) ?_
        show own_Ends p e below T3 (mkF m 68 #[.val (.int p0), .val (.int p1), .val (.int p2), .val (.int p3), .val (.int kl), .val (.int vl), .val (.int (0 : Int32)), .val (.ref b1), .val (.ref b3), .unset, .unset, .unset] [(.int p3), (.int (vl - (1 : Int32))), (.ref b3)]) _
        refine own_go (fun _ => XS.bipush X3.here hx rfl (hb hby at_68)) ?_
        show own_Ends p e below T3 (mkF m 70 #[.val (.int p0), .val (.int p1), .val (.int p2), .val (.int p3), .val (.int kl), .val (.int vl), .val (.int (0 : Int32)), .val (.ref b1), .val (.ref b3), .unset, .unset, .unset] [(.int (8 : Int32)), (.int p3), (.int (vl - (1 : Int32))), (.ref b3)]) _
        refine own_go (fun _ => XS.ishr X3.here hx rfl (hb hby at_70) rfl) ?_
        show own_Ends p e below T3 (mkF m 71 #[.val (.int p0), .val (.int p1), .val (.int p2), .val (.int p3), .val (.int kl), .val (.int vl), .val (.int (0 : Int32)), .val (.ref b1), .val (.ref b3), .unset, .unset, .unset] [(.int (p3 >>> ((8 : Int32) &&& 31))), (.int (vl - (1 : Int32))), (.ref b3)]) _
        refine own_go (fun _ => XS.i2b X3.here hx rfl (hb hby at_71) rfl) ?_
        show own_Ends p e below T3 (mkF m 72 #[.val (.int p0), .val (.int p1), .val (.int p2), .val (.int p3), .val (.int kl), .val (.int vl), .val (.int (0 : Int32)), .val (.ref b1), .val (.ref b3), .unset, .unset, .unset] [(.int ((p3 >>> ((8 : Int32) &&& 31)).toInt8.toInt32)), (.int (vl - (1 : Int32))), (.ref b3)]) _
        obtain ⟨cl_4, Ar_4, S_4, M_4⟩ := id B_b3
        have hin4 : ¬ ((vl - (1 : Int32)) < 0 ∨ cl_4.slots.size ≤ ((vl - (1 : Int32))).toNatClampNeg) := inb_of S_4 (own_last hvl hc58)
        obtain ⟨T4, h4, X4, e4, W4, st4⟩ := stB X3 hx hZ e3 Ar_4 (j := (vl - (1 : Int32))) hin4 (g := (mkF m 72 #[.val (.int p0), .val (.int p1), .val (.int p2), .val (.int p3), .val (.int kl), .val (.int vl), .val (.int (0 : Int32)), .val (.ref b1), .val (.ref b3), .unset, .unset, .unset] [(.int ((p3 >>> ((8 : Int32) &&& 31)).toInt8.toInt32)), (.int (vl - (1 : Int32))), (.ref b3)])) rfl rfl (hb hby at_72)
        refine own_go st4 ?_
        replace B_b1 := B_b1.other W4 ne_b1_b3
        replace B_b3 := B_b3.same W4
        have N4 := Fr.snoc X4 N2 g_b3
        have K4 := K3.wr W4 (Or.inr sz_b3)
        have Z4 : n0 ≤ h4.size := Nat.le_trans Z0 K4.1
        show own_Ends p e below T4 (mkF m 73 #[.val (.int p0), .val (.int p1), .val (.int p2), .val (.int p3), .val (.int kl), .val (.int vl), .val (.int (0 : Int32)), .val (.ref b1), .val (.ref b3), .unset, .unset, .unset] []) _
        obtain ⟨T5, h5, X5, e5, E5, A5, D5, -, st5⟩ := newO X4 hx hZ hown (hw _ (List.mem_of_getElem? (i := 1) rfl)) (hw _ (List.mem_of_getElem? (i := 2) rfl)) (hw _ (List.mem_of_getElem? (i := 3) rfl)) e4 (g := (mkF m 73 #[.val (.int p0), .val (.int p1), .val (.int p2), .val (.int p3), .val (.int kl), .val (.int vl), .val (.int (0 : Int32)), .val (.ref b1), .val (.ref b3), .unset, .unset, .unset] [])) rfl (hb hby at_73) (by decide) (by decide)
        obtain ⟨b5, g5⟩ : ∃ z, z = h4.size := ⟨_, rfl⟩
        rw [← g5] at A5 D5 st5
        refine own_go st5 ?_
        have g_b5 : n0 ≤ b5 := Nat.le_trans Z4 (Nat.le_of_eq g5.symm)
        have sz_b5 : h0.size ≤ b5 := Nat.le_trans K4.1 (Nat.le_of_eq g5.symm)
        have ne_b1_b5 : b1 ≠ b5 := Nat.ne_of_lt (Nat.lt_of_lt_of_le B_b1.lt (Nat.le_of_eq g5.symm))
        have ne_b3_b5 : b3 ≠ b5 := Nat.ne_of_lt (Nat.lt_of_lt_of_le B_b3.lt (Nat.le_of_eq g5.symm))
        replace B_b1 := B_b1.ext E5
        replace B_b3 := B_b3.ext E5
        have K5 := K4.ext E5
        have Z5 : n0 ≤ h5.size := Nat.le_trans Z0 K5.1
        have F_b5_key : Fld Z h5 b5 "com/example/wedge/wedge/Entry" "key" "[B" .null := D5 (Or.inr (hw _ (List.mem_of_getElem? (i := 16) rfl))) (ty := (.array .byte)) (by decide)
        have F_b5_value : Fld Z h5 b5 "com/example/wedge/wedge/Entry" "value" "[B" .null := D5 (Or.inr (hw _ (List.mem_of_getElem? (i := 18) rfl))) (ty := (.array .byte)) (by decide)
        show own_Ends p e below T5 (mkF m 76 #[.val (.int p0), .val (.int p1), .val (.int p2), .val (.int p3), .val (.int kl), .val (.int vl), .val (.int (0 : Int32)), .val (.ref b1), .val (.ref b3), .unset, .unset, .unset] [(.ref b5)]) _
        refine own_go (fun _ => XS.dup X5.here hx rfl (hb hby at_76) rfl rfl) ?_
        show own_Ends p e below T5 (mkF m 77 #[.val (.int p0), .val (.int p1), .val (.int p2), .val (.int p3), .val (.int kl), .val (.int vl), .val (.int (0 : Int32)), .val (.ref b1), .val (.ref b3), .unset, .unset, .unset] [(.ref b5), (.ref b5)]) _
        refine own_go (fun _ => XS.aload X5.here hx rfl (hb hby at_77) rfl rfl) ?_
        show own_Ends p e below T5 (mkF m 79 #[.val (.int p0), .val (.int p1), .val (.int p2), .val (.int p3), .val (.int kl), .val (.int vl), .val (.int (0 : Int32)), .val (.ref b1), .val (.ref b3), .unset, .unset, .unset] [(.ref b1), (.ref b5), (.ref b5)]) _
        refine own_go (fun _ => XS.aload X5.here hx rfl (hb hby at_79) rfl rfl) ?_
        show own_Ends p e below T5 (mkF m 81 #[.val (.int p0), .val (.int p1), .val (.int p2), .val (.int p3), .val (.int kl), .val (.int vl), .val (.int (0 : Int32)), .val (.ref b1), .val (.ref b3), .unset, .unset, .unset] [(.ref b3), (.ref b1), (.ref b5), (.ref b5)]) _
        obtain ⟨_, _, ⟨T6, L6, k6, n6⟩, -, X6, ⟨Lc6, hQ6, l6, y6, z6⟩, st6⟩ := X5.specialBack hx (y := (⟨"com/example/wedge/wedge/Entry", "<init>", "([B[B)V"⟩ : MethodName)) rfl hown (mvT hZ (hw _ (List.mem_of_getElem? (i := 4) rfl))) (mvT hZ (hw _ (List.mem_of_getElem? (i := 5) rfl))) (mvT hZ (hw _ (List.mem_of_getElem? (i := 6) rfl))) (by decide) (backOf (W := 1) (rmEInitr l Z a0 hw [] b5 b1 b3  h5 n0 Z5 A5 F_b5_key F_b5_value g_b5) hZ (hw _ (List.mem_of_getElem? (i := 6) rfl)) (hw _ (List.mem_of_getElem? (i := 3) rfl)) (by decide) (by decide)) (g := (mkF m 81 #[.val (.int p0), .val (.int p1), .val (.int p2), .val (.int p3), .val (.int kl), .val (.int vl), .val (.int (0 : Int32)), .val (.ref b1), .val (.ref b3), .unset, .unset, .unset] [(.ref b3), (.ref b1), (.ref b5), (.ref b5)])) rfl (by rw [hml]; rfl) (Steps.refl _) (a := b5) (argsL := [(.ref b1), (.ref b3)]) (rest := [(.ref b5)]) (lenOf pd_1 rfl) rfl (by show 2 * 0 + _ ≤ _; exact Nat.le_of_eq rfl) (hb hby at_81) (fun _ _ => ⟨rfl, e5, (by decide : 3 + 0 ≤ _), (by decide : 16 + 0 ≤ _)⟩)
        dsimp only [Pt.U, Pt.locs, Pt.cells, Pt.slots] at X6 l6 y6 z6 st6 hQ6
        subst l6 y6 z6
        refine own_go (fun _ k => st6.trans k) ?_
        obtain ⟨rfl, N6q, Kq6, Eq6, F6_key, F6_value⟩ := hQ6
        replace B_b1 := B_b1.keep Kq6 (ninS ne_b1_b5 nin0)
        replace B_b3 := B_b3.keep Kq6 (ninS ne_b3_b5 nin0)
        replace A5 := A5.keep Kq6
        have K6 := K5.trans Kq6 (allS (Or.inr sz_b5) all0)
        have Z6 : n0 ≤ T6.heap.size := Nat.le_trans Z0 K6.1
        clear Eq6
        have N6 := Fr.app N4 N6q
        show own_Ends p e below T6 (mkF m 84 #[.val (.int p0), .val (.int p1), .val (.int p2), .val (.int p3), .val (.int kl), .val (.int vl), .val (.int (0 : Int32)), .val (.ref b1), .val (.ref b3), .unset, .unset, .unset] [(.ref b5)]) _
        refine own_go (fun _ => XS.astore X6.here hx rfl (hb hby at_84) rfl rfl (l' := #[.val (.int p0), .val (.int p1), .val (.int p2), .val (.int p3), .val (.int kl), .val (.int vl), .val (.int (0 : Int32)), .val (.ref b1), .val (.ref b3), .val (.ref b5), .unset, .unset]) rfl) ?_
        show own_Ends p e below T6 (mkF m 86 #[.val (.int p0), .val (.int p1), .val (.int p2), .val (.int p3), .val (.int kl), .val (.int vl), .val (.int (0 : Int32)), .val (.ref b1), .val (.ref b3), .val (.ref b5), .unset, .unset] []) _
        refine own_go (fun _ => XS.iload X6.here hx rfl (hb hby at_86) rfl) ?_
        show own_Ends p e below T6 (mkF m 88 #[.val (.int p0), .val (.int p1), .val (.int p2), .val (.int p3), .val (.int kl), .val (.int vl), .val (.int (0 : Int32)), .val (.ref b1), .val (.ref b3), .val (.ref b5), .unset, .unset] [(.int (0 : Int32))]) _
        refine own_go (fun _ => XS.ifYes X6.here hx rfl (pc0 := 88) (pc' := 99) rfl (hb hby at_88) rfl ((if0 _ _).trans (teq (show (0 : Int32) = (0 : Int32) from by decide)).1) (by decide) (by decide)) ?_
        show own_Ends p e below T6 (mkF m 99 #[.val (.int p0), .val (.int p1), .val (.int p2), .val (.int p3), .val (.int kl), .val (.int vl), .val (.int (0 : Int32)), .val (.ref b1), .val (.ref b3), .val (.ref b5), .unset, .unset] []) _
        refine own_go (fun _ => XS.iload X6.here hx rfl (hb hby at_99) rfl) ?_
        show own_Ends p e below T6 (mkF m 101 #[.val (.int p0), .val (.int p1), .val (.int p2), .val (.int p3), .val (.int kl), .val (.int vl), .val (.int (0 : Int32)), .val (.ref b1), .val (.ref b3), .val (.ref b5), .unset, .unset] [(.int kl)]) _
        refine own_go (fun _ => XS.i2l X6.here hx rfl (hb hby at_101) rfl) ?_
        show own_Ends p e below T6 (mkF m 102 #[.val (.int p0), .val (.int p1), .val (.int p2), .val (.int p3), .val (.int kl), .val (.int vl), .val (.int (0 : Int32)), .val (.ref b1), .val (.ref b3), .val (.ref b5), .unset, .unset] [(.long (kl.toInt64))]) _
        refine own_go (fun _ => XS.iload X6.here hx rfl (hb hby at_102) rfl) ?_
        show own_Ends p e below T6 (mkF m 104 #[.val (.int p0), .val (.int p1), .val (.int p2), .val (.int p3), .val (.int kl), .val (.int vl), .val (.int (0 : Int32)), .val (.ref b1), .val (.ref b3), .val (.ref b5), .unset, .unset] [(.int vl), (.long (kl.toInt64))]) _
        refine own_go (fun _ => XS.i2l X6.here hx rfl (hb hby at_104) rfl) ?_
        show own_Ends p e below T6 (mkF m 105 #[.val (.int p0), .val (.int p1), .val (.int p2), .val (.int p3), .val (.int kl), .val (.int vl), .val (.int (0 : Int32)), .val (.ref b1), .val (.ref b3), .val (.ref b5), .unset, .unset] [(.long (vl.toInt64)), (.long (kl.toInt64))]) _
        refine own_go (fun _ => XS.ladd X6.here hx rfl (hb hby at_105) rfl) ?_
        show own_Ends p e below T6 (mkF m 106 #[.val (.int p0), .val (.int p1), .val (.int p2), .val (.int p3), .val (.int kl), .val (.int vl), .val (.int (0 : Int32)), .val (.ref b1), .val (.ref b3), .val (.ref b5), .unset, .unset] [(.long ((kl.toInt64) + (vl.toInt64)))]) _
        refine own_go (fun _ => XS.lstore X6.here hx rfl (hb hby at_106) rfl (l' := #[.val (.int p0), .val (.int p1), .val (.int p2), .val (.int p3), .val (.int kl), .val (.int vl), .val (.int (0 : Int32)), .val (.ref b1), .val (.ref b3), .val (.ref b5), .val (.long ((kl.toInt64) + (vl.toInt64))), .second]) rfl) ?_
        show own_Ends p e below T6 (mkF m 108 #[.val (.int p0), .val (.int p1), .val (.int p2), .val (.int p3), .val (.int kl), .val (.int vl), .val (.int (0 : Int32)), .val (.ref b1), .val (.ref b3), .val (.ref b5), .val (.long ((kl.toInt64) + (vl.toInt64))), .second] []) _
        refine own_go (fun _ => XS.aload X6.here hx rfl (hb hby at_108) rfl rfl) ?_
        show own_Ends p e below T6 (mkF m 110 #[.val (.int p0), .val (.int p1), .val (.int p2), .val (.int p3), .val (.int kl), .val (.int vl), .val (.int (0 : Int32)), .val (.ref b1), .val (.ref b3), .val (.ref b5), .val (.long ((kl.toInt64) + (vl.toInt64))), .second] [(.ref b5)]) _
        obtain ⟨cq7, kq7, q7a, q7b, q7c⟩ := isOf hZ rfl A5
        obtain ⟨_, _, ⟨T7, L7, k7, n7⟩, -, X7, ⟨Lc7, hQ7, l7, y7, z7⟩, st7⟩ := X6.virtualBack hx (y := (⟨"com/example/wedge/wedge/Entry", "size", "()J"⟩ : MethodName)) (z := (⟨"com/example/wedge/wedge/Entry", "size", "()J"⟩ : MethodName)) hown (mvT hZ (hw _ (List.mem_of_getElem? (i := 19) rfl))) (mvT hZ (hw _ (List.mem_of_getElem? (i := 20) rfl))) (notFace_of_selects (args := #[]) (mvT hZ (hw _ (List.mem_of_getElem? (i := 22) rfl)))) (mvT hZ (hw _ (List.mem_of_getElem? (i := 22) rfl))) (mvT hZ (hw _ (List.mem_of_getElem? (i := 21) rfl))) (by decide) (backOf (W := 0) (rmESizer l Z a0 hw [] b5 b1 b3 kl vl (T6.heap) n0 Z6 F6_key F6_value B_b1 B_b3) hZ (hw _ (List.mem_of_getElem? (i := 23) rfl)) (hw _ (List.mem_of_getElem? (i := 3) rfl)) (by decide) (by decide)) q7a q7c (g := (mkF m 110 #[.val (.int p0), .val (.int p1), .val (.int p2), .val (.int p3), .val (.int kl), .val (.int vl), .val (.int (0 : Int32)), .val (.ref b1), .val (.ref b3), .val (.ref b5), .val (.long ((kl.toInt64) + (vl.toInt64))), .second] [(.ref b5)])) rfl (by rw [hml]; rfl) (Steps.refl _) (argsL := []) (rest := []) (lenOf pd_2 rfl) rfl (by show 2 * 0 + _ ≤ _; exact Nat.le_of_eq rfl) (hb hby at_110) (fun _ _ => ⟨rfl, rfl, (by decide : 3 + 0 ≤ _), (by decide : 16 + 0 ≤ _)⟩)
        dsimp only [Pt.U, Pt.locs, Pt.cells, Pt.slots] at X7 l7 y7 z7 st7 hQ7
        subst l7 y7 z7
        refine own_go (fun _ k => st7.trans k) ?_
        obtain ⟨rfl, N7q, eh7⟩ := hQ7
        have N7 := Fr.app N6 N7q
        show own_Ends p e below T7 (mkF m 113 #[.val (.int p0), .val (.int p1), .val (.int p2), .val (.int p3), .val (.int kl), .val (.int vl), .val (.int (0 : Int32)), .val (.ref b1), .val (.ref b3), .val (.ref b5), .val (.long ((kl.toInt64) + (vl.toInt64))), .second] [(.long (kl.toInt64 + vl.toInt64))]) _
        refine own_go (fun _ => XS.lload X7.here hx rfl (hb hby at_113) rfl) ?_
        show own_Ends p e below T7 (mkF m 115 #[.val (.int p0), .val (.int p1), .val (.int p2), .val (.int p3), .val (.int kl), .val (.int vl), .val (.int (0 : Int32)), .val (.ref b1), .val (.ref b3), .val (.ref b5), .val (.long ((kl.toInt64) + (vl.toInt64))), .second] [(.long ((kl.toInt64) + (vl.toInt64))), (.long (kl.toInt64 + vl.toInt64))]) _
        refine own_go (fun _ => XS.lcmp X7.here hx rfl (hb hby at_115) rfl) ?_
        show own_Ends p e below T7 (mkF m 116 #[.val (.int p0), .val (.int p1), .val (.int p2), .val (.int p3), .val (.int kl), .val (.int vl), .val (.int (0 : Int32)), .val (.ref b1), .val (.ref b3), .val (.ref b5), .val (.long ((kl.toInt64) + (vl.toInt64))), .second] [(.int (lcmpW (kl.toInt64 + vl.toInt64) ((kl.toInt64) + (vl.toInt64))))]) _
        refine own_go (fun _ => XS.ifNo X7.here hx rfl (hb hby at_116) rfl ((if0 _ _).trans (teq ((lw_eq (kl.toInt64 + vl.toInt64) ((kl.toInt64) + (vl.toInt64))).mpr (show (kl.toInt64 + vl.toInt64) = ((kl.toInt64) + (vl.toInt64)) from rfl))).2)) ?_
        show own_Ends p e below T7 (mkF m 119 #[.val (.int p0), .val (.int p1), .val (.int p2), .val (.int p3), .val (.int kl), .val (.int vl), .val (.int (0 : Int32)), .val (.ref b1), .val (.ref b3), .val (.ref b5), .val (.long ((kl.toInt64) + (vl.toInt64))), .second] []) _
        refine own_go (fun _ => XS.iconst X7.here hx rfl (hb hby at_119)) ?_
        show own_Ends p e below T7 (mkF m 120 #[.val (.int p0), .val (.int p1), .val (.int p2), .val (.int p3), .val (.int kl), .val (.int vl), .val (.int (0 : Int32)), .val (.ref b1), .val (.ref b3), .val (.ref b5), .val (.long ((kl.toInt64) + (vl.toInt64))), .second] [(.int (1 : Int32))]) _
        refine own_go (fun _ => XS.goto X7.here hx rfl (pc0 := 120) (pc' := 124) rfl (hb hby at_120) (by decide) (by decide)) ?_
        show own_Ends p e below T7 (mkF m 124 #[.val (.int p0), .val (.int p1), .val (.int p2), .val (.int p3), .val (.int kl), .val (.int vl), .val (.int (0 : Int32)), .val (.ref b1), .val (.ref b3), .val (.ref b5), .val (.long ((kl.toInt64) + (vl.toInt64))), .second] [(.int (1 : Int32))]) _
        obtain ⟨fs, hr, hrun, hended, hW, hsame⟩ := X7.leave (v := some (.int (1 : Int32))) (fun h => by rw [Bd.returns] at h; cases h)
        refine ⟨_, _, retN X7 hx (t := .boolean) Bd.returns (by simp) (hb hby at_124) hr, hrun, hended, _, _, rfl, ?_, ⟨_, rfl⟩, hW, hsame.mono (by decide) (by decide)⟩
        show Q_rm0 Z p0 p1 p2 p3 h0 n0 _ T7.heap _
        rw [eh7]
        exact ⟨rfl, N7⟩
      · refine own_go (fun _ => XS.ifYes X3.here hx rfl (pc0 := 58) (pc' := 73) rfl (hb hby at_58) rfl ((if0 _ _).trans (flt hc58).2.2.2) (by decide) (by decide)) ?_
        show own_Ends p e below T3 (mkF m 73 #[.val (.int p0), .val (.int p1), .val (.int p2), .val (.int p3), .val (.int kl), .val (.int vl), .val (.int (0 : Int32)), .val (.ref b1), .val (.ref b3), .unset, .unset, .unset] []) _
        obtain ⟨T8, h8, X8, e8, E8, A8, D8, -, st8⟩ := newO X3 hx hZ hown (hw _ (List.mem_of_getElem? (i := 1) rfl)) (hw _ (List.mem_of_getElem? (i := 2) rfl)) (hw _ (List.mem_of_getElem? (i := 3) rfl)) e3 (g := (mkF m 73 #[.val (.int p0), .val (.int p1), .val (.int p2), .val (.int p3), .val (.int kl), .val (.int vl), .val (.int (0 : Int32)), .val (.ref b1), .val (.ref b3), .unset, .unset, .unset] [])) rfl (hb hby at_73) (by decide) (by decide)
        obtain ⟨b8, g8⟩ : ∃ z, z = h3.size := ⟨_, rfl⟩
        rw [← g8] at A8 D8 st8
        refine own_go st8 ?_
        have g_b8 : n0 ≤ b8 := Nat.le_trans Z3 (Nat.le_of_eq g8.symm)
        have sz_b8 : h0.size ≤ b8 := Nat.le_trans K3.1 (Nat.le_of_eq g8.symm)
        have ne_b1_b8 : b1 ≠ b8 := Nat.ne_of_lt (Nat.lt_of_lt_of_le B_b1.lt (Nat.le_of_eq g8.symm))
        have ne_b3_b8 : b3 ≠ b8 := Nat.ne_of_lt (Nat.lt_of_lt_of_le B_b3.lt (Nat.le_of_eq g8.symm))
        replace B_b1 := B_b1.ext E8
        replace B_b3 := B_b3.ext E8
        have K8 := K3.ext E8
        have Z8 : n0 ≤ h8.size := Nat.le_trans Z0 K8.1
        have F_b8_key : Fld Z h8 b8 "com/example/wedge/wedge/Entry" "key" "[B" .null := D8 (Or.inr (hw _ (List.mem_of_getElem? (i := 16) rfl))) (ty := (.array .byte)) (by decide)
        have F_b8_value : Fld Z h8 b8 "com/example/wedge/wedge/Entry" "value" "[B" .null := D8 (Or.inr (hw _ (List.mem_of_getElem? (i := 18) rfl))) (ty := (.array .byte)) (by decide)
        show own_Ends p e below T8 (mkF m 76 #[.val (.int p0), .val (.int p1), .val (.int p2), .val (.int p3), .val (.int kl), .val (.int vl), .val (.int (0 : Int32)), .val (.ref b1), .val (.ref b3), .unset, .unset, .unset] [(.ref b8)]) _
        refine own_go (fun _ => XS.dup X8.here hx rfl (hb hby at_76) rfl rfl) ?_
        show own_Ends p e below T8 (mkF m 77 #[.val (.int p0), .val (.int p1), .val (.int p2), .val (.int p3), .val (.int kl), .val (.int vl), .val (.int (0 : Int32)), .val (.ref b1), .val (.ref b3), .unset, .unset, .unset] [(.ref b8), (.ref b8)]) _
        refine own_go (fun _ => XS.aload X8.here hx rfl (hb hby at_77) rfl rfl) ?_
        show own_Ends p e below T8 (mkF m 79 #[.val (.int p0), .val (.int p1), .val (.int p2), .val (.int p3), .val (.int kl), .val (.int vl), .val (.int (0 : Int32)), .val (.ref b1), .val (.ref b3), .unset, .unset, .unset] [(.ref b1), (.ref b8), (.ref b8)]) _
        refine own_go (fun _ => XS.aload X8.here hx rfl (hb hby at_79) rfl rfl) ?_
        show own_Ends p e below T8 (mkF m 81 #[.val (.int p0), .val (.int p1), .val (.int p2), .val (.int p3), .val (.int kl), .val (.int vl), .val (.int (0 : Int32)), .val (.ref b1), .val (.ref b3), .unset, .unset, .unset] [(.ref b3), (.ref b1), (.ref b8), (.ref b8)]) _
        obtain ⟨_, _, ⟨T9, L9, k9, n9⟩, -, X9, ⟨Lc9, hQ9, l9, y9, z9⟩, st9⟩ := X8.specialBack hx (y := (⟨"com/example/wedge/wedge/Entry", "<init>", "([B[B)V"⟩ : MethodName)) rfl hown (mvT hZ (hw _ (List.mem_of_getElem? (i := 4) rfl))) (mvT hZ (hw _ (List.mem_of_getElem? (i := 5) rfl))) (mvT hZ (hw _ (List.mem_of_getElem? (i := 6) rfl))) (by decide) (backOf (W := 1) (rmEInitr l Z a0 hw [] b8 b1 b3  h8 n0 Z8 A8 F_b8_key F_b8_value g_b8) hZ (hw _ (List.mem_of_getElem? (i := 6) rfl)) (hw _ (List.mem_of_getElem? (i := 3) rfl)) (by decide) (by decide)) (g := (mkF m 81 #[.val (.int p0), .val (.int p1), .val (.int p2), .val (.int p3), .val (.int kl), .val (.int vl), .val (.int (0 : Int32)), .val (.ref b1), .val (.ref b3), .unset, .unset, .unset] [(.ref b3), (.ref b1), (.ref b8), (.ref b8)])) rfl (by rw [hml]; rfl) (Steps.refl _) (a := b8) (argsL := [(.ref b1), (.ref b3)]) (rest := [(.ref b8)]) (lenOf pd_1 rfl) rfl (by show 2 * 0 + _ ≤ _; exact Nat.le_of_eq rfl) (hb hby at_81) (fun _ _ => ⟨rfl, e8, (by decide : 3 + 0 ≤ _), (by decide : 16 + 0 ≤ _)⟩)
        dsimp only [Pt.U, Pt.locs, Pt.cells, Pt.slots] at X9 l9 y9 z9 st9 hQ9
        subst l9 y9 z9
        refine own_go (fun _ k => st9.trans k) ?_
        obtain ⟨rfl, N9q, Kq9, Eq9, F9_key, F9_value⟩ := hQ9
        replace B_b1 := B_b1.keep Kq9 (ninS ne_b1_b8 nin0)
        replace B_b3 := B_b3.keep Kq9 (ninS ne_b3_b8 nin0)
        replace A8 := A8.keep Kq9
        have K9 := K8.trans Kq9 (allS (Or.inr sz_b8) all0)
        have Z9 : n0 ≤ T9.heap.size := Nat.le_trans Z0 K9.1
        clear Eq9
        have N9 := Fr.app N2 N9q
        show own_Ends p e below T9 (mkF m 84 #[.val (.int p0), .val (.int p1), .val (.int p2), .val (.int p3), .val (.int kl), .val (.int vl), .val (.int (0 : Int32)), .val (.ref b1), .val (.ref b3), .unset, .unset, .unset] [(.ref b8)]) _
        refine own_go (fun _ => XS.astore X9.here hx rfl (hb hby at_84) rfl rfl (l' := #[.val (.int p0), .val (.int p1), .val (.int p2), .val (.int p3), .val (.int kl), .val (.int vl), .val (.int (0 : Int32)), .val (.ref b1), .val (.ref b3), .val (.ref b8), .unset, .unset]) rfl) ?_
        show own_Ends p e below T9 (mkF m 86 #[.val (.int p0), .val (.int p1), .val (.int p2), .val (.int p3), .val (.int kl), .val (.int vl), .val (.int (0 : Int32)), .val (.ref b1), .val (.ref b3), .val (.ref b8), .unset, .unset] []) _
        refine own_go (fun _ => XS.iload X9.here hx rfl (hb hby at_86) rfl) ?_
        show own_Ends p e below T9 (mkF m 88 #[.val (.int p0), .val (.int p1), .val (.int p2), .val (.int p3), .val (.int kl), .val (.int vl), .val (.int (0 : Int32)), .val (.ref b1), .val (.ref b3), .val (.ref b8), .unset, .unset] [(.int (0 : Int32))]) _
        refine own_go (fun _ => XS.ifYes X9.here hx rfl (pc0 := 88) (pc' := 99) rfl (hb hby at_88) rfl ((if0 _ _).trans (teq (show (0 : Int32) = (0 : Int32) from by decide)).1) (by decide) (by decide)) ?_
        show own_Ends p e below T9 (mkF m 99 #[.val (.int p0), .val (.int p1), .val (.int p2), .val (.int p3), .val (.int kl), .val (.int vl), .val (.int (0 : Int32)), .val (.ref b1), .val (.ref b3), .val (.ref b8), .unset, .unset] []) _
        refine own_go (fun _ => XS.iload X9.here hx rfl (hb hby at_99) rfl) ?_
        show own_Ends p e below T9 (mkF m 101 #[.val (.int p0), .val (.int p1), .val (.int p2), .val (.int p3), .val (.int kl), .val (.int vl), .val (.int (0 : Int32)), .val (.ref b1), .val (.ref b3), .val (.ref b8), .unset, .unset] [(.int kl)]) _
        refine own_go (fun _ => XS.i2l X9.here hx rfl (hb hby at_101) rfl) ?_
        show own_Ends p e below T9 (mkF m 102 #[.val (.int p0), .val (.int p1), .val (.int p2), .val (.int p3), .val (.int kl), .val (.int vl), .val (.int (0 : Int32)), .val (.ref b1), .val (.ref b3), .val (.ref b8), .unset, .unset] [(.long (kl.toInt64))]) _
        refine own_go (fun _ => XS.iload X9.here hx rfl (hb hby at_102) rfl) ?_
        show own_Ends p e below T9 (mkF m 104 #[.val (.int p0), .val (.int p1), .val (.int p2), .val (.int p3), .val (.int kl), .val (.int vl), .val (.int (0 : Int32)), .val (.ref b1), .val (.ref b3), .val (.ref b8), .unset, .unset] [(.int vl), (.long (kl.toInt64))]) _
        refine own_go (fun _ => XS.i2l X9.here hx rfl (hb hby at_104) rfl) ?_
        show own_Ends p e below T9 (mkF m 105 #[.val (.int p0), .val (.int p1), .val (.int p2), .val (.int p3), .val (.int kl), .val (.int vl), .val (.int (0 : Int32)), .val (.ref b1), .val (.ref b3), .val (.ref b8), .unset, .unset] [(.long (vl.toInt64)), (.long (kl.toInt64))]) _
        refine own_go (fun _ => XS.ladd X9.here hx rfl (hb hby at_105) rfl) ?_
        show own_Ends p e below T9 (mkF m 106 #[.val (.int p0), .val (.int p1), .val (.int p2), .val (.int p3), .val (.int kl), .val (.int vl), .val (.int (0 : Int32)), .val (.ref b1), .val (.ref b3), .val (.ref b8), .unset, .unset] [(.long ((kl.toInt64) + (vl.toInt64)))]) _
        refine own_go (fun _ => XS.lstore X9.here hx rfl (hb hby at_106) rfl (l' := #[.val (.int p0), .val (.int p1), .val (.int p2), .val (.int p3), .val (.int kl), .val (.int vl), .val (.int (0 : Int32)), .val (.ref b1), .val (.ref b3), .val (.ref b8), .val (.long ((kl.toInt64) + (vl.toInt64))), .second]) rfl) ?_
        show own_Ends p e below T9 (mkF m 108 #[.val (.int p0), .val (.int p1), .val (.int p2), .val (.int p3), .val (.int kl), .val (.int vl), .val (.int (0 : Int32)), .val (.ref b1), .val (.ref b3), .val (.ref b8), .val (.long ((kl.toInt64) + (vl.toInt64))), .second] []) _
        refine own_go (fun _ => XS.aload X9.here hx rfl (hb hby at_108) rfl rfl) ?_
        show own_Ends p e below T9 (mkF m 110 #[.val (.int p0), .val (.int p1), .val (.int p2), .val (.int p3), .val (.int kl), .val (.int vl), .val (.int (0 : Int32)), .val (.ref b1), .val (.ref b3), .val (.ref b8), .val (.long ((kl.toInt64) + (vl.toInt64))), .second] [(.ref b8)]) _
        obtain ⟨cq10, kq10, q10a, q10b, q10c⟩ := isOf hZ rfl A8
        obtain ⟨_, _, ⟨T10, L10, k10, n10⟩, -, X10, ⟨Lc10, hQ10, l10, y10, z10⟩, st10⟩ := X9.virtualBack hx (y := (⟨"com/example/wedge/wedge/Entry", "size", "()J"⟩ : MethodName)) (z := (⟨"com/example/wedge/wedge/Entry", "size", "()J"⟩ : MethodName)) hown (mvT hZ (hw _ (List.mem_of_getElem? (i := 19) rfl))) (mvT hZ (hw _ (List.mem_of_getElem? (i := 20) rfl))) (notFace_of_selects (args := #[]) (mvT hZ (hw _ (List.mem_of_getElem? (i := 22) rfl)))) (mvT hZ (hw _ (List.mem_of_getElem? (i := 22) rfl))) (mvT hZ (hw _ (List.mem_of_getElem? (i := 21) rfl))) (by decide) (backOf (W := 0) (rmESizer l Z a0 hw [] b8 b1 b3 kl vl (T9.heap) n0 Z9 F9_key F9_value B_b1 B_b3) hZ (hw _ (List.mem_of_getElem? (i := 23) rfl)) (hw _ (List.mem_of_getElem? (i := 3) rfl)) (by decide) (by decide)) q10a q10c (g := (mkF m 110 #[.val (.int p0), .val (.int p1), .val (.int p2), .val (.int p3), .val (.int kl), .val (.int vl), .val (.int (0 : Int32)), .val (.ref b1), .val (.ref b3), .val (.ref b8), .val (.long ((kl.toInt64) + (vl.toInt64))), .second] [(.ref b8)])) rfl (by rw [hml]; rfl) (Steps.refl _) (argsL := []) (rest := []) (lenOf pd_2 rfl) rfl (by show 2 * 0 + _ ≤ _; exact Nat.le_of_eq rfl) (hb hby at_110) (fun _ _ => ⟨rfl, rfl, (by decide : 3 + 0 ≤ _), (by decide : 16 + 0 ≤ _)⟩)
        dsimp only [Pt.U, Pt.locs, Pt.cells, Pt.slots] at X10 l10 y10 z10 st10 hQ10
        subst l10 y10 z10
        refine own_go (fun _ k => st10.trans k) ?_
        obtain ⟨rfl, N10q, eh10⟩ := hQ10
        have N10 := Fr.app N9 N10q
        show own_Ends p e below T10 (mkF m 113 #[.val (.int p0), .val (.int p1), .val (.int p2), .val (.int p3), .val (.int kl), .val (.int vl), .val (.int (0 : Int32)), .val (.ref b1), .val (.ref b3), .val (.ref b8), .val (.long ((kl.toInt64) + (vl.toInt64))), .second] [(.long (kl.toInt64 + vl.toInt64))]) _
        refine own_go (fun _ => XS.lload X10.here hx rfl (hb hby at_113) rfl) ?_
        show own_Ends p e below T10 (mkF m 115 #[.val (.int p0), .val (.int p1), .val (.int p2), .val (.int p3), .val (.int kl), .val (.int vl), .val (.int (0 : Int32)), .val (.ref b1), .val (.ref b3), .val (.ref b8), .val (.long ((kl.toInt64) + (vl.toInt64))), .second] [(.long ((kl.toInt64) + (vl.toInt64))), (.long (kl.toInt64 + vl.toInt64))]) _
        refine own_go (fun _ => XS.lcmp X10.here hx rfl (hb hby at_115) rfl) ?_
        show own_Ends p e below T10 (mkF m 116 #[.val (.int p0), .val (.int p1), .val (.int p2), .val (.int p3), .val (.int kl), .val (.int vl), .val (.int (0 : Int32)), .val (.ref b1), .val (.ref b3), .val (.ref b8), .val (.long ((kl.toInt64) + (vl.toInt64))), .second] [(.int (lcmpW (kl.toInt64 + vl.toInt64) ((kl.toInt64) + (vl.toInt64))))]) _
        refine own_go (fun _ => XS.ifNo X10.here hx rfl (hb hby at_116) rfl ((if0 _ _).trans (teq ((lw_eq (kl.toInt64 + vl.toInt64) ((kl.toInt64) + (vl.toInt64))).mpr (show (kl.toInt64 + vl.toInt64) = ((kl.toInt64) + (vl.toInt64)) from rfl))).2)) ?_
        show own_Ends p e below T10 (mkF m 119 #[.val (.int p0), .val (.int p1), .val (.int p2), .val (.int p3), .val (.int kl), .val (.int vl), .val (.int (0 : Int32)), .val (.ref b1), .val (.ref b3), .val (.ref b8), .val (.long ((kl.toInt64) + (vl.toInt64))), .second] []) _
        refine own_go (fun _ => XS.iconst X10.here hx rfl (hb hby at_119)) ?_
        show own_Ends p e below T10 (mkF m 120 #[.val (.int p0), .val (.int p1), .val (.int p2), .val (.int p3), .val (.int kl), .val (.int vl), .val (.int (0 : Int32)), .val (.ref b1), .val (.ref b3), .val (.ref b8), .val (.long ((kl.toInt64) + (vl.toInt64))), .second] [(.int (1 : Int32))]) _
        refine own_go (fun _ => XS.goto X10.here hx rfl (pc0 := 120) (pc' := 124) rfl (hb hby at_120) (by decide) (by decide)) ?_
        show own_Ends p e below T10 (mkF m 124 #[.val (.int p0), .val (.int p1), .val (.int p2), .val (.int p3), .val (.int kl), .val (.int vl), .val (.int (0 : Int32)), .val (.ref b1), .val (.ref b3), .val (.ref b8), .val (.long ((kl.toInt64) + (vl.toInt64))), .second] [(.int (1 : Int32))]) _
        obtain ⟨fs, hr, hrun, hended, hW, hsame⟩ := X10.leave (v := some (.int (1 : Int32))) (fun h => by rw [Bd.returns] at h; cases h)
        refine ⟨_, _, retN X10 hx (t := .boolean) Bd.returns (by simp) (hb hby at_124) hr, hrun, hended, _, _, rfl, ?_, ⟨_, rfl⟩, hW, hsame.mono (by decide) (by decide)⟩
        show Q_rm0 Z p0 p1 p2 p3 h0 n0 _ T10.heap _
        rw [eh10]
        exact ⟨rfl, N10⟩
    · refine own_go (fun _ => XS.ifYes X1.here hx rfl (pc0 := 33) (pc' := 42) rfl (hb hby at_33) rfl ((if0 _ _).trans (flt hc33).2.2.2) (by decide) (by decide)) ?_
      show own_Ends p e below T1 (mkF m 42 #[.val (.int p0), .val (.int p1), .val (.int p2), .val (.int p3), .val (.int kl), .val (.int vl), .val (.int (0 : Int32)), .val (.ref b1), .unset, .unset, .unset, .unset] []) _
      refine own_go (fun _ => XS.aconstNull X1.here hx rfl (hb hby at_42)) ?_
      show own_Ends p e below T1 (mkF m 43 #[.val (.int p0), .val (.int p1), .val (.int p2), .val (.int p3), .val (.int kl), .val (.int vl), .val (.int (0 : Int32)), .val (.ref b1), .unset, .unset, .unset, .unset] [.null]) _
      refine own_go (fun _ => XS.astore X1.here hx rfl (hb hby at_43) rfl rfl (l' := #[.val (.int p0), .val (.int p1), .val (.int p2), .val (.int p3), .val (.int kl), .val (.int vl), .val (.int (0 : Int32)), .val (.ref b1), .val .null, .unset, .unset, .unset]) rfl) ?_
      show own_Ends p e below T1 (mkF m 45 #[.val (.int p0), .val (.int p1), .val (.int p2), .val (.int p3), .val (.int kl), .val (.int vl), .val (.int (0 : Int32)), .val (.ref b1), .val .null, .unset, .unset, .unset] []) _
      refine own_go (fun _ => XS.iload X1.here hx rfl (hb hby at_45) rfl) ?_
      show own_Ends p e below T1 (mkF m 47 #[.val (.int p0), .val (.int p1), .val (.int p2), .val (.int p3), .val (.int kl), .val (.int vl), .val (.int (0 : Int32)), .val (.ref b1), .val .null, .unset, .unset, .unset] [(.int (0 : Int32))]) _
      refine own_go (fun _ => XS.ifNo X1.here hx rfl (hb hby at_47) rfl ((if0 _ _).trans (teq (show (0 : Int32) = (0 : Int32) from by decide)).2)) ?_
      show own_Ends p e below T1 (mkF m 50 #[.val (.int p0), .val (.int p1), .val (.int p2), .val (.int p3), .val (.int kl), .val (.int vl), .val (.int (0 : Int32)), .val (.ref b1), .val .null, .unset, .unset, .unset] []) _
      refine own_go (fun _ => XS.iload X1.here hx rfl (hb hby at_50) rfl) ?_
      show own_Ends p e below T1 (mkF m 52 #[.val (.int p0), .val (.int p1), .val (.int p2), .val (.int p3), .val (.int kl), .val (.int vl), .val (.int (0 : Int32)), .val (.ref b1), .val .null, .unset, .unset, .unset] [(.int vl)]) _
      obtain ⟨T11, h11, k11, X11, e11, E11, A11, st11⟩ := newP X1 hx hZ (hw _ (List.mem_of_getElem? (i := 0) rfl)) e1 (g := (mkF m 52 #[.val (.int p0), .val (.int p1), .val (.int p2), .val (.int p3), .val (.int kl), .val (.int vl), .val (.int (0 : Int32)), .val (.ref b1), .val .null, .unset, .unset, .unset] [(.int vl)])) rfl (hb hby at_52) rfl (own_neg hvl) (cap := 7) (own_cap hvl) (by decide) (by decide) (by decide)
      obtain ⟨b11, g11⟩ : ∃ z, z = h1.size := ⟨_, rfl⟩
      rw [← g11] at A11 st11
      refine own_go st11 ?_
      have g_b11 : n0 ≤ b11 := Nat.le_trans Z1 (Nat.le_of_eq g11.symm)
      have sz_b11 : h0.size ≤ b11 := Nat.le_trans K1.1 (Nat.le_of_eq g11.symm)
      have ne_b1_b11 : b1 ≠ b11 := Nat.ne_of_lt (Nat.lt_of_lt_of_le B_b1.lt (Nat.le_of_eq g11.symm))
      replace B_b1 := B_b1.ext E11
      have K11 := K1.ext E11
      have Z11 : n0 ≤ h11.size := Nat.le_trans Z0 K11.1
      have B_b11 : own_Len Z h11 b11 .byte vl := ⟨_, A11, sz_new _ _ _, (own_neg hvl)⟩
      show own_Ends p e below T11 (mkF m 54 #[.val (.int p0), .val (.int p1), .val (.int p2), .val (.int p3), .val (.int kl), .val (.int vl), .val (.int (0 : Int32)), .val (.ref b1), .val .null, .unset, .unset, .unset] [(.ref b11)]) _
      refine own_go (fun _ => XS.astore X11.here hx rfl (hb hby at_54) rfl rfl (l' := #[.val (.int p0), .val (.int p1), .val (.int p2), .val (.int p3), .val (.int kl), .val (.int vl), .val (.int (0 : Int32)), .val (.ref b1), .val (.ref b11), .unset, .unset, .unset]) rfl) ?_
      show own_Ends p e below T11 (mkF m 56 #[.val (.int p0), .val (.int p1), .val (.int p2), .val (.int p3), .val (.int kl), .val (.int vl), .val (.int (0 : Int32)), .val (.ref b1), .val (.ref b11), .unset, .unset, .unset] []) _
      refine own_go (fun _ => XS.iload X11.here hx rfl (hb hby at_56) rfl) ?_
      show own_Ends p e below T11 (mkF m 58 #[.val (.int p0), .val (.int p1), .val (.int p2), .val (.int p3), .val (.int kl), .val (.int vl), .val (.int (0 : Int32)), .val (.ref b1), .val (.ref b11), .unset, .unset, .unset] [(.int vl)]) _
      by_cases hc58 : (0 : Int32) < vl
      · refine own_go (fun _ => XS.ifNo X11.here hx rfl (hb hby at_58) rfl ((if0 _ _).trans (tlt hc58).2.2.2)) ?_
        show own_Ends p e below T11 (mkF m 61 #[.val (.int p0), .val (.int p1), .val (.int p2), .val (.int p3), .val (.int kl), .val (.int vl), .val (.int (0 : Int32)), .val (.ref b1), .val (.ref b11), .unset, .unset, .unset] []) _
        refine own_go (fun _ => XS.aload X11.here hx rfl (hb hby at_61) rfl rfl) ?_
        show own_Ends p e below T11 (mkF m 63 #[.val (.int p0), .val (.int p1), .val (.int p2), .val (.int p3), .val (.int kl), .val (.int vl), .val (.int (0 : Int32)), .val (.ref b1), .val (.ref b11), .unset, .unset, .unset] [(.ref b11)]) _
        refine own_go (fun _ => XS.iload X11.here hx rfl (hb hby at_63) rfl) ?_
        show own_Ends p e below T11 (mkF m 65 #[.val (.int p0), .val (.int p1), .val (.int p2), .val (.int p3), .val (.int kl), .val (.int vl), .val (.int (0 : Int32)), .val (.ref b1), .val (.ref b11), .unset, .unset, .unset] [(.int vl), (.ref b11)]) _
        refine own_go (fun _ => XS.iconst X11.here hx rfl (hb hby at_65)) ?_
        show own_Ends p e below T11 (mkF m 66 #[.val (.int p0), .val (.int p1), .val (.int p2), .val (.int p3), .val (.int kl), .val (.int vl), .val (.int (0 : Int32)), .val (.ref b1), .val (.ref b11), .unset, .unset, .unset] [(.int (1 : Int32)), (.int vl), (.ref b11)]) _
        refine own_go (fun _ => XS.isub X11.here hx rfl (hb hby at_66) rfl) ?_
        show own_Ends p e below T11 (mkF m 67 #[.val (.int p0), .val (.int p1), .val (.int p2), .val (.int p3), .val (.int kl), .val (.int vl), .val (.int (0 : Int32)), .val (.ref b1), .val (.ref b11), .unset, .unset, .unset] [(.int (vl - (1 : Int32))), (.ref b11)]) _
        refine own_go (fun _ => XS.iloadN X11.here hx rfl (hb hby at_67) rfl) ?_
        show own_Ends p e below T11 (mkF m 68 #[.val (.int p0), .val (.int p1), .val (.int p2), .val (.int p3), .val (.int kl), .val (.int vl), .val (.int (0 : Int32)), .val (.ref b1), .val (.ref b11), .unset, .unset, .unset] [(.int p3), (.int (vl - (1 : Int32))), (.ref b11)]) _
        refine own_go (fun _ => XS.bipush X11.here hx rfl (hb hby at_68)) ?_
        show own_Ends p e below T11 (mkF m 70 #[.val (.int p0), .val (.int p1), .val (.int p2), .val (.int p3), .val (.int kl), .val (.int vl), .val (.int (0 : Int32)), .val (.ref b1), .val (.ref b11), .unset, .unset, .unset] [(.int (8 : Int32)), (.int p3), (.int (vl - (1 : Int32))), (.ref b11)]) _
        refine own_go (fun _ => XS.ishr X11.here hx rfl (hb hby at_70) rfl) ?_
        show own_Ends p e below T11 (mkF m 71 #[.val (.int p0), .val (.int p1), .val (.int p2), .val (.int p3), .val (.int kl), .val (.int vl), .val (.int (0 : Int32)), .val (.ref b1), .val (.ref b11), .unset, .unset, .unset] [(.int (p3 >>> ((8 : Int32) &&& 31))), (.int (vl - (1 : Int32))), (.ref b11)]) _
        refine own_go (fun _ => XS.i2b X11.here hx rfl (hb hby at_71) rfl) ?_
        show own_Ends p e below T11 (mkF m 72 #[.val (.int p0), .val (.int p1), .val (.int p2), .val (.int p3), .val (.int kl), .val (.int vl), .val (.int (0 : Int32)), .val (.ref b1), .val (.ref b11), .unset, .unset, .unset] [(.int ((p3 >>> ((8 : Int32) &&& 31)).toInt8.toInt32)), (.int (vl - (1 : Int32))), (.ref b11)]) _
        obtain ⟨cl_12, Ar_12, S_12, M_12⟩ := id B_b11
        have hin12 : ¬ ((vl - (1 : Int32)) < 0 ∨ cl_12.slots.size ≤ ((vl - (1 : Int32))).toNatClampNeg) := inb_of S_12 (own_last hvl hc58)
        obtain ⟨T12, h12, X12, e12, W12, st12⟩ := stB X11 hx hZ e11 Ar_12 (j := (vl - (1 : Int32))) hin12 (g := (mkF m 72 #[.val (.int p0), .val (.int p1), .val (.int p2), .val (.int p3), .val (.int kl), .val (.int vl), .val (.int (0 : Int32)), .val (.ref b1), .val (.ref b11), .unset, .unset, .unset] [(.int ((p3 >>> ((8 : Int32) &&& 31)).toInt8.toInt32)), (.int (vl - (1 : Int32))), (.ref b11)])) rfl rfl (hb hby at_72)
        refine own_go st12 ?_
        replace B_b1 := B_b1.other W12 ne_b1_b11
        replace B_b11 := B_b11.same W12
        have N12 := Fr.snoc X12 N0 g_b11
        have K12 := K11.wr W12 (Or.inr sz_b11)
        have Z12 : n0 ≤ h12.size := Nat.le_trans Z0 K12.1
        show own_Ends p e below T12 (mkF m 73 #[.val (.int p0), .val (.int p1), .val (.int p2), .val (.int p3), .val (.int kl), .val (.int vl), .val (.int (0 : Int32)), .val (.ref b1), .val (.ref b11), .unset, .unset, .unset] []) _
        obtain ⟨T13, h13, X13, e13, E13, A13, D13, -, st13⟩ := newO X12 hx hZ hown (hw _ (List.mem_of_getElem? (i := 1) rfl)) (hw _ (List.mem_of_getElem? (i := 2) rfl)) (hw _ (List.mem_of_getElem? (i := 3) rfl)) e12 (g := (mkF m 73 #[.val (.int p0), .val (.int p1), .val (.int p2), .val (.int p3), .val (.int kl), .val (.int vl), .val (.int (0 : Int32)), .val (.ref b1), .val (.ref b11), .unset, .unset, .unset] [])) rfl (hb hby at_73) (by decide) (by decide)
        obtain ⟨b13, g13⟩ : ∃ z, z = h12.size := ⟨_, rfl⟩
        rw [← g13] at A13 D13 st13
        refine own_go st13 ?_
        have g_b13 : n0 ≤ b13 := Nat.le_trans Z12 (Nat.le_of_eq g13.symm)
        have sz_b13 : h0.size ≤ b13 := Nat.le_trans K12.1 (Nat.le_of_eq g13.symm)
        have ne_b1_b13 : b1 ≠ b13 := Nat.ne_of_lt (Nat.lt_of_lt_of_le B_b1.lt (Nat.le_of_eq g13.symm))
        have ne_b11_b13 : b11 ≠ b13 := Nat.ne_of_lt (Nat.lt_of_lt_of_le B_b11.lt (Nat.le_of_eq g13.symm))
        replace B_b1 := B_b1.ext E13
        replace B_b11 := B_b11.ext E13
        have K13 := K12.ext E13
        have Z13 : n0 ≤ h13.size := Nat.le_trans Z0 K13.1
        have F_b13_key : Fld Z h13 b13 "com/example/wedge/wedge/Entry" "key" "[B" .null := D13 (Or.inr (hw _ (List.mem_of_getElem? (i := 16) rfl))) (ty := (.array .byte)) (by decide)
        have F_b13_value : Fld Z h13 b13 "com/example/wedge/wedge/Entry" "value" "[B" .null := D13 (Or.inr (hw _ (List.mem_of_getElem? (i := 18) rfl))) (ty := (.array .byte)) (by decide)
        show own_Ends p e below T13 (mkF m 76 #[.val (.int p0), .val (.int p1), .val (.int p2), .val (.int p3), .val (.int kl), .val (.int vl), .val (.int (0 : Int32)), .val (.ref b1), .val (.ref b11), .unset, .unset, .unset] [(.ref b13)]) _
        refine own_go (fun _ => XS.dup X13.here hx rfl (hb hby at_76) rfl rfl) ?_
        show own_Ends p e below T13 (mkF m 77 #[.val (.int p0), .val (.int p1), .val (.int p2), .val (.int p3), .val (.int kl), .val (.int vl), .val (.int (0 : Int32)), .val (.ref b1), .val (.ref b11), .unset, .unset, .unset] [(.ref b13), (.ref b13)]) _
        refine own_go (fun _ => XS.aload X13.here hx rfl (hb hby at_77) rfl rfl) ?_
        show own_Ends p e below T13 (mkF m 79 #[.val (.int p0), .val (.int p1), .val (.int p2), .val (.int p3), .val (.int kl), .val (.int vl), .val (.int (0 : Int32)), .val (.ref b1), .val (.ref b11), .unset, .unset, .unset] [(.ref b1), (.ref b13), (.ref b13)]) _
        refine own_go (fun _ => XS.aload X13.here hx rfl (hb hby at_79) rfl rfl) ?_
        show own_Ends p e below T13 (mkF m 81 #[.val (.int p0), .val (.int p1), .val (.int p2), .val (.int p3), .val (.int kl), .val (.int vl), .val (.int (0 : Int32)), .val (.ref b1), .val (.ref b11), .unset, .unset, .unset] [(.ref b11), (.ref b1), (.ref b13), (.ref b13)]) _
        obtain ⟨_, _, ⟨T14, L14, k14, n14⟩, -, X14, ⟨Lc14, hQ14, l14, y14, z14⟩, st14⟩ := X13.specialBack hx (y := (⟨"com/example/wedge/wedge/Entry", "<init>", "([B[B)V"⟩ : MethodName)) rfl hown (mvT hZ (hw _ (List.mem_of_getElem? (i := 4) rfl))) (mvT hZ (hw _ (List.mem_of_getElem? (i := 5) rfl))) (mvT hZ (hw _ (List.mem_of_getElem? (i := 6) rfl))) (by decide) (backOf (W := 1) (rmEInitr l Z a0 hw [] b13 b1 b11  h13 n0 Z13 A13 F_b13_key F_b13_value g_b13) hZ (hw _ (List.mem_of_getElem? (i := 6) rfl)) (hw _ (List.mem_of_getElem? (i := 3) rfl)) (by decide) (by decide)) (g := (mkF m 81 #[.val (.int p0), .val (.int p1), .val (.int p2), .val (.int p3), .val (.int kl), .val (.int vl), .val (.int (0 : Int32)), .val (.ref b1), .val (.ref b11), .unset, .unset, .unset] [(.ref b11), (.ref b1), (.ref b13), (.ref b13)])) rfl (by rw [hml]; rfl) (Steps.refl _) (a := b13) (argsL := [(.ref b1), (.ref b11)]) (rest := [(.ref b13)]) (lenOf pd_1 rfl) rfl (by show 2 * 0 + _ ≤ _; exact Nat.le_of_eq rfl) (hb hby at_81) (fun _ _ => ⟨rfl, e13, (by decide : 3 + 0 ≤ _), (by decide : 16 + 0 ≤ _)⟩)
        dsimp only [Pt.U, Pt.locs, Pt.cells, Pt.slots] at X14 l14 y14 z14 st14 hQ14
        subst l14 y14 z14
        refine own_go (fun _ k => st14.trans k) ?_
        obtain ⟨rfl, N14q, Kq14, Eq14, F14_key, F14_value⟩ := hQ14
        replace B_b1 := B_b1.keep Kq14 (ninS ne_b1_b13 nin0)
        replace B_b11 := B_b11.keep Kq14 (ninS ne_b11_b13 nin0)
        replace A13 := A13.keep Kq14
        have K14 := K13.trans Kq14 (allS (Or.inr sz_b13) all0)
        have Z14 : n0 ≤ T14.heap.size := Nat.le_trans Z0 K14.1
        clear Eq14
        have N14 := Fr.app N12 N14q
        show own_Ends p e below T14 (mkF m 84 #[.val (.int p0), .val (.int p1), .val (.int p2), .val (.int p3), .val (.int kl), .val (.int vl), .val (.int (0 : Int32)), .val (.ref b1), .val (.ref b11), .unset, .unset, .unset] [(.ref b13)]) _
        refine own_go (fun _ => XS.astore X14.here hx rfl (hb hby at_84) rfl rfl (l' := #[.val (.int p0), .val (.int p1), .val (.int p2), .val (.int p3), .val (.int kl), .val (.int vl), .val (.int (0 : Int32)), .val (.ref b1), .val (.ref b11), .val (.ref b13), .unset, .unset]) rfl) ?_
        show own_Ends p e below T14 (mkF m 86 #[.val (.int p0), .val (.int p1), .val (.int p2), .val (.int p3), .val (.int kl), .val (.int vl), .val (.int (0 : Int32)), .val (.ref b1), .val (.ref b11), .val (.ref b13), .unset, .unset] []) _
        refine own_go (fun _ => XS.iload X14.here hx rfl (hb hby at_86) rfl) ?_
        show own_Ends p e below T14 (mkF m 88 #[.val (.int p0), .val (.int p1), .val (.int p2), .val (.int p3), .val (.int kl), .val (.int vl), .val (.int (0 : Int32)), .val (.ref b1), .val (.ref b11), .val (.ref b13), .unset, .unset] [(.int (0 : Int32))]) _
        refine own_go (fun _ => XS.ifYes X14.here hx rfl (pc0 := 88) (pc' := 99) rfl (hb hby at_88) rfl ((if0 _ _).trans (teq (show (0 : Int32) = (0 : Int32) from by decide)).1) (by decide) (by decide)) ?_
        show own_Ends p e below T14 (mkF m 99 #[.val (.int p0), .val (.int p1), .val (.int p2), .val (.int p3), .val (.int kl), .val (.int vl), .val (.int (0 : Int32)), .val (.ref b1), .val (.ref b11), .val (.ref b13), .unset, .unset] []) _
        refine own_go (fun _ => XS.iload X14.here hx rfl (hb hby at_99) rfl) ?_
        show own_Ends p e below T14 (mkF m 101 #[.val (.int p0), .val (.int p1), .val (.int p2), .val (.int p3), .val (.int kl), .val (.int vl), .val (.int (0 : Int32)), .val (.ref b1), .val (.ref b11), .val (.ref b13), .unset, .unset] [(.int kl)]) _
        refine own_go (fun _ => XS.i2l X14.here hx rfl (hb hby at_101) rfl) ?_
        show own_Ends p e below T14 (mkF m 102 #[.val (.int p0), .val (.int p1), .val (.int p2), .val (.int p3), .val (.int kl), .val (.int vl), .val (.int (0 : Int32)), .val (.ref b1), .val (.ref b11), .val (.ref b13), .unset, .unset] [(.long (kl.toInt64))]) _
        refine own_go (fun _ => XS.iload X14.here hx rfl (hb hby at_102) rfl) ?_
        show own_Ends p e below T14 (mkF m 104 #[.val (.int p0), .val (.int p1), .val (.int p2), .val (.int p3), .val (.int kl), .val (.int vl), .val (.int (0 : Int32)), .val (.ref b1), .val (.ref b11), .val (.ref b13), .unset, .unset] [(.int vl), (.long (kl.toInt64))]) _
        refine own_go (fun _ => XS.i2l X14.here hx rfl (hb hby at_104) rfl) ?_
        show own_Ends p e below T14 (mkF m 105 #[.val (.int p0), .val (.int p1), .val (.int p2), .val (.int p3), .val (.int kl), .val (.int vl), .val (.int (0 : Int32)), .val (.ref b1), .val (.ref b11), .val (.ref b13), .unset, .unset] [(.long (vl.toInt64)), (.long (kl.toInt64))]) _
        refine own_go (fun _ => XS.ladd X14.here hx rfl (hb hby at_105) rfl) ?_
        show own_Ends p e below T14 (mkF m 106 #[.val (.int p0), .val (.int p1), .val (.int p2), .val (.int p3), .val (.int kl), .val (.int vl), .val (.int (0 : Int32)), .val (.ref b1), .val (.ref b11), .val (.ref b13), .unset, .unset] [(.long ((kl.toInt64) + (vl.toInt64)))]) _
        refine own_go (fun _ => XS.lstore X14.here hx rfl (hb hby at_106) rfl (l' := #[.val (.int p0), .val (.int p1), .val (.int p2), .val (.int p3), .val (.int kl), .val (.int vl), .val (.int (0 : Int32)), .val (.ref b1), .val (.ref b11), .val (.ref b13), .val (.long ((kl.toInt64) + (vl.toInt64))), .second]) rfl) ?_
        show own_Ends p e below T14 (mkF m 108 #[.val (.int p0), .val (.int p1), .val (.int p2), .val (.int p3), .val (.int kl), .val (.int vl), .val (.int (0 : Int32)), .val (.ref b1), .val (.ref b11), .val (.ref b13), .val (.long ((kl.toInt64) + (vl.toInt64))), .second] []) _
        refine own_go (fun _ => XS.aload X14.here hx rfl (hb hby at_108) rfl rfl) ?_
        show own_Ends p e below T14 (mkF m 110 #[.val (.int p0), .val (.int p1), .val (.int p2), .val (.int p3), .val (.int kl), .val (.int vl), .val (.int (0 : Int32)), .val (.ref b1), .val (.ref b11), .val (.ref b13), .val (.long ((kl.toInt64) + (vl.toInt64))), .second] [(.ref b13)]) _
        obtain ⟨cq15, kq15, q15a, q15b, q15c⟩ := isOf hZ rfl A13
        obtain ⟨_, _, ⟨T15, L15, k15, n15⟩, -, X15, ⟨Lc15, hQ15, l15, y15, z15⟩, st15⟩ := X14.virtualBack hx (y := (⟨"com/example/wedge/wedge/Entry", "size", "()J"⟩ : MethodName)) (z := (⟨"com/example/wedge/wedge/Entry", "size", "()J"⟩ : MethodName)) hown (mvT hZ (hw _ (List.mem_of_getElem? (i := 19) rfl))) (mvT hZ (hw _ (List.mem_of_getElem? (i := 20) rfl))) (notFace_of_selects (args := #[]) (mvT hZ (hw _ (List.mem_of_getElem? (i := 22) rfl)))) (mvT hZ (hw _ (List.mem_of_getElem? (i := 22) rfl))) (mvT hZ (hw _ (List.mem_of_getElem? (i := 21) rfl))) (by decide) (backOf (W := 0) (rmESizer l Z a0 hw [] b13 b1 b11 kl vl (T14.heap) n0 Z14 F14_key F14_value B_b1 B_b11) hZ (hw _ (List.mem_of_getElem? (i := 23) rfl)) (hw _ (List.mem_of_getElem? (i := 3) rfl)) (by decide) (by decide)) q15a q15c (g := (mkF m 110 #[.val (.int p0), .val (.int p1), .val (.int p2), .val (.int p3), .val (.int kl), .val (.int vl), .val (.int (0 : Int32)), .val (.ref b1), .val (.ref b11), .val (.ref b13), .val (.long ((kl.toInt64) + (vl.toInt64))), .second] [(.ref b13)])) rfl (by rw [hml]; rfl) (Steps.refl _) (argsL := []) (rest := []) (lenOf pd_2 rfl) rfl (by show 2 * 0 + _ ≤ _; exact Nat.le_of_eq rfl) (hb hby at_110) (fun _ _ => ⟨rfl, rfl, (by decide : 3 + 0 ≤ _), (by decide : 16 + 0 ≤ _)⟩)
        dsimp only [Pt.U, Pt.locs, Pt.cells, Pt.slots] at X15 l15 y15 z15 st15 hQ15
        subst l15 y15 z15
        refine own_go (fun _ k => st15.trans k) ?_
        obtain ⟨rfl, N15q, eh15⟩ := hQ15
        have N15 := Fr.app N14 N15q
        show own_Ends p e below T15 (mkF m 113 #[.val (.int p0), .val (.int p1), .val (.int p2), .val (.int p3), .val (.int kl), .val (.int vl), .val (.int (0 : Int32)), .val (.ref b1), .val (.ref b11), .val (.ref b13), .val (.long ((kl.toInt64) + (vl.toInt64))), .second] [(.long (kl.toInt64 + vl.toInt64))]) _
        refine own_go (fun _ => XS.lload X15.here hx rfl (hb hby at_113) rfl) ?_
        show own_Ends p e below T15 (mkF m 115 #[.val (.int p0), .val (.int p1), .val (.int p2), .val (.int p3), .val (.int kl), .val (.int vl), .val (.int (0 : Int32)), .val (.ref b1), .val (.ref b11), .val (.ref b13), .val (.long ((kl.toInt64) + (vl.toInt64))), .second] [(.long ((kl.toInt64) + (vl.toInt64))), (.long (kl.toInt64 + vl.toInt64))]) _
        refine own_go (fun _ => XS.lcmp X15.here hx rfl (hb hby at_115) rfl) ?_
        show own_Ends p e below T15 (mkF m 116 #[.val (.int p0), .val (.int p1), .val (.int p2), .val (.int p3), .val (.int kl), .val (.int vl), .val (.int (0 : Int32)), .val (.ref b1), .val (.ref b11), .val (.ref b13), .val (.long ((kl.toInt64) + (vl.toInt64))), .second] [(.int (lcmpW (kl.toInt64 + vl.toInt64) ((kl.toInt64) + (vl.toInt64))))]) _
        refine own_go (fun _ => XS.ifNo X15.here hx rfl (hb hby at_116) rfl ((if0 _ _).trans (teq ((lw_eq (kl.toInt64 + vl.toInt64) ((kl.toInt64) + (vl.toInt64))).mpr (show (kl.toInt64 + vl.toInt64) = ((kl.toInt64) + (vl.toInt64)) from rfl))).2)) ?_
        show own_Ends p e below T15 (mkF m 119 #[.val (.int p0), .val (.int p1), .val (.int p2), .val (.int p3), .val (.int kl), .val (.int vl), .val (.int (0 : Int32)), .val (.ref b1), .val (.ref b11), .val (.ref b13), .val (.long ((kl.toInt64) + (vl.toInt64))), .second] []) _
        refine own_go (fun _ => XS.iconst X15.here hx rfl (hb hby at_119)) ?_
        show own_Ends p e below T15 (mkF m 120 #[.val (.int p0), .val (.int p1), .val (.int p2), .val (.int p3), .val (.int kl), .val (.int vl), .val (.int (0 : Int32)), .val (.ref b1), .val (.ref b11), .val (.ref b13), .val (.long ((kl.toInt64) + (vl.toInt64))), .second] [(.int (1 : Int32))]) _
        refine own_go (fun _ => XS.goto X15.here hx rfl (pc0 := 120) (pc' := 124) rfl (hb hby at_120) (by decide) (by decide)) ?_
        show own_Ends p e below T15 (mkF m 124 #[.val (.int p0), .val (.int p1), .val (.int p2), .val (.int p3), .val (.int kl), .val (.int vl), .val (.int (0 : Int32)), .val (.ref b1), .val (.ref b11), .val (.ref b13), .val (.long ((kl.toInt64) + (vl.toInt64))), .second] [(.int (1 : Int32))]) _
        obtain ⟨fs, hr, hrun, hended, hW, hsame⟩ := X15.leave (v := some (.int (1 : Int32))) (fun h => by rw [Bd.returns] at h; cases h)
        refine ⟨_, _, retN X15 hx (t := .boolean) Bd.returns (by simp) (hb hby at_124) hr, hrun, hended, _, _, rfl, ?_, ⟨_, rfl⟩, hW, hsame.mono (by decide) (by decide)⟩
        show Q_rm0 Z p0 p1 p2 p3 h0 n0 _ T15.heap _
        rw [eh15]
        exact ⟨rfl, N15⟩
      · refine own_go (fun _ => XS.ifYes X11.here hx rfl (pc0 := 58) (pc' := 73) rfl (hb hby at_58) rfl ((if0 _ _).trans (flt hc58).2.2.2) (by decide) (by decide)) ?_
        show own_Ends p e below T11 (mkF m 73 #[.val (.int p0), .val (.int p1), .val (.int p2), .val (.int p3), .val (.int kl), .val (.int vl), .val (.int (0 : Int32)), .val (.ref b1), .val (.ref b11), .unset, .unset, .unset] []) _
        obtain ⟨T16, h16, X16, e16, E16, A16, D16, -, st16⟩ := newO X11 hx hZ hown (hw _ (List.mem_of_getElem? (i := 1) rfl)) (hw _ (List.mem_of_getElem? (i := 2) rfl)) (hw _ (List.mem_of_getElem? (i := 3) rfl)) e11 (g := (mkF m 73 #[.val (.int p0), .val (.int p1), .val (.int p2), .val (.int p3), .val (.int kl), .val (.int vl), .val (.int (0 : Int32)), .val (.ref b1), .val (.ref b11), .unset, .unset, .unset] [])) rfl (hb hby at_73) (by decide) (by decide)
        obtain ⟨b16, g16⟩ : ∃ z, z = h11.size := ⟨_, rfl⟩
        rw [← g16] at A16 D16 st16
        refine own_go st16 ?_
        have g_b16 : n0 ≤ b16 := Nat.le_trans Z11 (Nat.le_of_eq g16.symm)
        have sz_b16 : h0.size ≤ b16 := Nat.le_trans K11.1 (Nat.le_of_eq g16.symm)
        have ne_b1_b16 : b1 ≠ b16 := Nat.ne_of_lt (Nat.lt_of_lt_of_le B_b1.lt (Nat.le_of_eq g16.symm))
        have ne_b11_b16 : b11 ≠ b16 := Nat.ne_of_lt (Nat.lt_of_lt_of_le B_b11.lt (Nat.le_of_eq g16.symm))
        replace B_b1 := B_b1.ext E16
        replace B_b11 := B_b11.ext E16
        have K16 := K11.ext E16
        have Z16 : n0 ≤ h16.size := Nat.le_trans Z0 K16.1
        have F_b16_key : Fld Z h16 b16 "com/example/wedge/wedge/Entry" "key" "[B" .null := D16 (Or.inr (hw _ (List.mem_of_getElem? (i := 16) rfl))) (ty := (.array .byte)) (by decide)
        have F_b16_value : Fld Z h16 b16 "com/example/wedge/wedge/Entry" "value" "[B" .null := D16 (Or.inr (hw _ (List.mem_of_getElem? (i := 18) rfl))) (ty := (.array .byte)) (by decide)
        show own_Ends p e below T16 (mkF m 76 #[.val (.int p0), .val (.int p1), .val (.int p2), .val (.int p3), .val (.int kl), .val (.int vl), .val (.int (0 : Int32)), .val (.ref b1), .val (.ref b11), .unset, .unset, .unset] [(.ref b16)]) _
        refine own_go (fun _ => XS.dup X16.here hx rfl (hb hby at_76) rfl rfl) ?_
        show own_Ends p e below T16 (mkF m 77 #[.val (.int p0), .val (.int p1), .val (.int p2), .val (.int p3), .val (.int kl), .val (.int vl), .val (.int (0 : Int32)), .val (.ref b1), .val (.ref b11), .unset, .unset, .unset] [(.ref b16), (.ref b16)]) _
        refine own_go (fun _ => XS.aload X16.here hx rfl (hb hby at_77) rfl rfl) ?_
        show own_Ends p e below T16 (mkF m 79 #[.val (.int p0), .val (.int p1), .val (.int p2), .val (.int p3), .val (.int kl), .val (.int vl), .val (.int (0 : Int32)), .val (.ref b1), .val (.ref b11), .unset, .unset, .unset] [(.ref b1), (.ref b16), (.ref b16)]) _
        refine own_go (fun _ => XS.aload X16.here hx rfl (hb hby at_79) rfl rfl) ?_
        show own_Ends p e below T16 (mkF m 81 #[.val (.int p0), .val (.int p1), .val (.int p2), .val (.int p3), .val (.int kl), .val (.int vl), .val (.int (0 : Int32)), .val (.ref b1), .val (.ref b11), .unset, .unset, .unset] [(.ref b11), (.ref b1), (.ref b16), (.ref b16)]) _
        obtain ⟨_, _, ⟨T17, L17, k17, n17⟩, -, X17, ⟨Lc17, hQ17, l17, y17, z17⟩, st17⟩ := X16.specialBack hx (y := (⟨"com/example/wedge/wedge/Entry", "<init>", "([B[B)V"⟩ : MethodName)) rfl hown (mvT hZ (hw _ (List.mem_of_getElem? (i := 4) rfl))) (mvT hZ (hw _ (List.mem_of_getElem? (i := 5) rfl))) (mvT hZ (hw _ (List.mem_of_getElem? (i := 6) rfl))) (by decide) (backOf (W := 1) (rmEInitr l Z a0 hw [] b16 b1 b11  h16 n0 Z16 A16 F_b16_key F_b16_value g_b16) hZ (hw _ (List.mem_of_getElem? (i := 6) rfl)) (hw _ (List.mem_of_getElem? (i := 3) rfl)) (by decide) (by decide)) (g := (mkF m 81 #[.val (.int p0), .val (.int p1), .val (.int p2), .val (.int p3), .val (.int kl), .val (.int vl), .val (.int (0 : Int32)), .val (.ref b1), .val (.ref b11), .unset, .unset, .unset] [(.ref b11), (.ref b1), (.ref b16), (.ref b16)])) rfl (by rw [hml]; rfl) (Steps.refl _) (a := b16) (argsL := [(.ref b1), (.ref b11)]) (rest := [(.ref b16)]) (lenOf pd_1 rfl) rfl (by show 2 * 0 + _ ≤ _; exact Nat.le_of_eq rfl) (hb hby at_81) (fun _ _ => ⟨rfl, e16, (by decide : 3 + 0 ≤ _), (by decide : 16 + 0 ≤ _)⟩)
        dsimp only [Pt.U, Pt.locs, Pt.cells, Pt.slots] at X17 l17 y17 z17 st17 hQ17
        subst l17 y17 z17
        refine own_go (fun _ k => st17.trans k) ?_
        obtain ⟨rfl, N17q, Kq17, Eq17, F17_key, F17_value⟩ := hQ17
        replace B_b1 := B_b1.keep Kq17 (ninS ne_b1_b16 nin0)
        replace B_b11 := B_b11.keep Kq17 (ninS ne_b11_b16 nin0)
        replace A16 := A16.keep Kq17
        have K17 := K16.trans Kq17 (allS (Or.inr sz_b16) all0)
        have Z17 : n0 ≤ T17.heap.size := Nat.le_trans Z0 K17.1
        clear Eq17
        have N17 := Fr.app N0 N17q
        show own_Ends p e below T17 (mkF m 84 #[.val (.int p0), .val (.int p1), .val (.int p2), .val (.int p3), .val (.int kl), .val (.int vl), .val (.int (0 : Int32)), .val (.ref b1), .val (.ref b11), .unset, .unset, .unset] [(.ref b16)]) _
        refine own_go (fun _ => XS.astore X17.here hx rfl (hb hby at_84) rfl rfl (l' := #[.val (.int p0), .val (.int p1), .val (.int p2), .val (.int p3), .val (.int kl), .val (.int vl), .val (.int (0 : Int32)), .val (.ref b1), .val (.ref b11), .val (.ref b16), .unset, .unset]) rfl) ?_
        show own_Ends p e below T17 (mkF m 86 #[.val (.int p0), .val (.int p1), .val (.int p2), .val (.int p3), .val (.int kl), .val (.int vl), .val (.int (0 : Int32)), .val (.ref b1), .val (.ref b11), .val (.ref b16), .unset, .unset] []) _
        refine own_go (fun _ => XS.iload X17.here hx rfl (hb hby at_86) rfl) ?_
        show own_Ends p e below T17 (mkF m 88 #[.val (.int p0), .val (.int p1), .val (.int p2), .val (.int p3), .val (.int kl), .val (.int vl), .val (.int (0 : Int32)), .val (.ref b1), .val (.ref b11), .val (.ref b16), .unset, .unset] [(.int (0 : Int32))]) _
        refine own_go (fun _ => XS.ifYes X17.here hx rfl (pc0 := 88) (pc' := 99) rfl (hb hby at_88) rfl ((if0 _ _).trans (teq (show (0 : Int32) = (0 : Int32) from by decide)).1) (by decide) (by decide)) ?_
        show own_Ends p e below T17 (mkF m 99 #[.val (.int p0), .val (.int p1), .val (.int p2), .val (.int p3), .val (.int kl), .val (.int vl), .val (.int (0 : Int32)), .val (.ref b1), .val (.ref b11), .val (.ref b16), .unset, .unset] []) _
        refine own_go (fun _ => XS.iload X17.here hx rfl (hb hby at_99) rfl) ?_
        show own_Ends p e below T17 (mkF m 101 #[.val (.int p0), .val (.int p1), .val (.int p2), .val (.int p3), .val (.int kl), .val (.int vl), .val (.int (0 : Int32)), .val (.ref b1), .val (.ref b11), .val (.ref b16), .unset, .unset] [(.int kl)]) _
        refine own_go (fun _ => XS.i2l X17.here hx rfl (hb hby at_101) rfl) ?_
        show own_Ends p e below T17 (mkF m 102 #[.val (.int p0), .val (.int p1), .val (.int p2), .val (.int p3), .val (.int kl), .val (.int vl), .val (.int (0 : Int32)), .val (.ref b1), .val (.ref b11), .val (.ref b16), .unset, .unset] [(.long (kl.toInt64))]) _
        refine own_go (fun _ => XS.iload X17.here hx rfl (hb hby at_102) rfl) ?_
        show own_Ends p e below T17 (mkF m 104 #[.val (.int p0), .val (.int p1), .val (.int p2), .val (.int p3), .val (.int kl), .val (.int vl), .val (.int (0 : Int32)), .val (.ref b1), .val (.ref b11), .val (.ref b16), .unset, .unset] [(.int vl), (.long (kl.toInt64))]) _
        refine own_go (fun _ => XS.i2l X17.here hx rfl (hb hby at_104) rfl) ?_
        show own_Ends p e below T17 (mkF m 105 #[.val (.int p0), .val (.int p1), .val (.int p2), .val (.int p3), .val (.int kl), .val (.int vl), .val (.int (0 : Int32)), .val (.ref b1), .val (.ref b11), .val (.ref b16), .unset, .unset] [(.long (vl.toInt64)), (.long (kl.toInt64))]) _
        refine own_go (fun _ => XS.ladd X17.here hx rfl (hb hby at_105) rfl) ?_
        show own_Ends p e below T17 (mkF m 106 #[.val (.int p0), .val (.int p1), .val (.int p2), .val (.int p3), .val (.int kl), .val (.int vl), .val (.int (0 : Int32)), .val (.ref b1), .val (.ref b11), .val (.ref b16), .unset, .unset] [(.long ((kl.toInt64) + (vl.toInt64)))]) _
        refine own_go (fun _ => XS.lstore X17.here hx rfl (hb hby at_106) rfl (l' := #[.val (.int p0), .val (.int p1), .val (.int p2), .val (.int p3), .val (.int kl), .val (.int vl), .val (.int (0 : Int32)), .val (.ref b1), .val (.ref b11), .val (.ref b16), .val (.long ((kl.toInt64) + (vl.toInt64))), .second]) rfl) ?_
        show own_Ends p e below T17 (mkF m 108 #[.val (.int p0), .val (.int p1), .val (.int p2), .val (.int p3), .val (.int kl), .val (.int vl), .val (.int (0 : Int32)), .val (.ref b1), .val (.ref b11), .val (.ref b16), .val (.long ((kl.toInt64) + (vl.toInt64))), .second] []) _
        refine own_go (fun _ => XS.aload X17.here hx rfl (hb hby at_108) rfl rfl) ?_
        show own_Ends p e below T17 (mkF m 110 #[.val (.int p0), .val (.int p1), .val (.int p2), .val (.int p3), .val (.int kl), .val (.int vl), .val (.int (0 : Int32)), .val (.ref b1), .val (.ref b11), .val (.ref b16), .val (.long ((kl.toInt64) + (vl.toInt64))), .second] [(.ref b16)]) _
        obtain ⟨cq18, kq18, q18a, q18b, q18c⟩ := isOf hZ rfl A16
        obtain ⟨_, _, ⟨T18, L18, k18, n18⟩, -, X18, ⟨Lc18, hQ18, l18, y18, z18⟩, st18⟩ := X17.virtualBack hx (y := (⟨"com/example/wedge/wedge/Entry", "size", "()J"⟩ : MethodName)) (z := (⟨"com/example/wedge/wedge/Entry", "size", "()J"⟩ : MethodName)) hown (mvT hZ (hw _ (List.mem_of_getElem? (i := 19) rfl))) (mvT hZ (hw _ (List.mem_of_getElem? (i := 20) rfl))) (notFace_of_selects (args := #[]) (mvT hZ (hw _ (List.mem_of_getElem? (i := 22) rfl)))) (mvT hZ (hw _ (List.mem_of_getElem? (i := 22) rfl))) (mvT hZ (hw _ (List.mem_of_getElem? (i := 21) rfl))) (by decide) (backOf (W := 0) (rmESizer l Z a0 hw [] b16 b1 b11 kl vl (T17.heap) n0 Z17 F17_key F17_value B_b1 B_b11) hZ (hw _ (List.mem_of_getElem? (i := 23) rfl)) (hw _ (List.mem_of_getElem? (i := 3) rfl)) (by decide) (by decide)) q18a q18c (g := (mkF m 110 #[.val (.int p0), .val (.int p1), .val (.int p2), .val (.int p3), .val (.int kl), .val (.int vl), .val (.int (0 : Int32)), .val (.ref b1), .val (.ref b11), .val (.ref b16), .val (.long ((kl.toInt64) + (vl.toInt64))), .second] [(.ref b16)])) rfl (by rw [hml]; rfl) (Steps.refl _) (argsL := []) (rest := []) (lenOf pd_2 rfl) rfl (by show 2 * 0 + _ ≤ _; exact Nat.le_of_eq rfl) (hb hby at_110) (fun _ _ => ⟨rfl, rfl, (by decide : 3 + 0 ≤ _), (by decide : 16 + 0 ≤ _)⟩)
        dsimp only [Pt.U, Pt.locs, Pt.cells, Pt.slots] at X18 l18 y18 z18 st18 hQ18
        subst l18 y18 z18
        refine own_go (fun _ k => st18.trans k) ?_
        obtain ⟨rfl, N18q, eh18⟩ := hQ18
        have N18 := Fr.app N17 N18q
        show own_Ends p e below T18 (mkF m 113 #[.val (.int p0), .val (.int p1), .val (.int p2), .val (.int p3), .val (.int kl), .val (.int vl), .val (.int (0 : Int32)), .val (.ref b1), .val (.ref b11), .val (.ref b16), .val (.long ((kl.toInt64) + (vl.toInt64))), .second] [(.long (kl.toInt64 + vl.toInt64))]) _
        refine own_go (fun _ => XS.lload X18.here hx rfl (hb hby at_113) rfl) ?_
        show own_Ends p e below T18 (mkF m 115 #[.val (.int p0), .val (.int p1), .val (.int p2), .val (.int p3), .val (.int kl), .val (.int vl), .val (.int (0 : Int32)), .val (.ref b1), .val (.ref b11), .val (.ref b16), .val (.long ((kl.toInt64) + (vl.toInt64))), .second] [(.long ((kl.toInt64) + (vl.toInt64))), (.long (kl.toInt64 + vl.toInt64))]) _
        refine own_go (fun _ => XS.lcmp X18.here hx rfl (hb hby at_115) rfl) ?_
        show own_Ends p e below T18 (mkF m 116 #[.val (.int p0), .val (.int p1), .val (.int p2), .val (.int p3), .val (.int kl), .val (.int vl), .val (.int (0 : Int32)), .val (.ref b1), .val (.ref b11), .val (.ref b16), .val (.long ((kl.toInt64) + (vl.toInt64))), .second] [(.int (lcmpW (kl.toInt64 + vl.toInt64) ((kl.toInt64) + (vl.toInt64))))]) _
        refine own_go (fun _ => XS.ifNo X18.here hx rfl (hb hby at_116) rfl ((if0 _ _).trans (teq ((lw_eq (kl.toInt64 + vl.toInt64) ((kl.toInt64) + (vl.toInt64))).mpr (show (kl.toInt64 + vl.toInt64) = ((kl.toInt64) + (vl.toInt64)) from rfl))).2)) ?_
        show own_Ends p e below T18 (mkF m 119 #[.val (.int p0), .val (.int p1), .val (.int p2), .val (.int p3), .val (.int kl), .val (.int vl), .val (.int (0 : Int32)), .val (.ref b1), .val (.ref b11), .val (.ref b16), .val (.long ((kl.toInt64) + (vl.toInt64))), .second] []) _
        refine own_go (fun _ => XS.iconst X18.here hx rfl (hb hby at_119)) ?_
        show own_Ends p e below T18 (mkF m 120 #[.val (.int p0), .val (.int p1), .val (.int p2), .val (.int p3), .val (.int kl), .val (.int vl), .val (.int (0 : Int32)), .val (.ref b1), .val (.ref b11), .val (.ref b16), .val (.long ((kl.toInt64) + (vl.toInt64))), .second] [(.int (1 : Int32))]) _
        refine own_go (fun _ => XS.goto X18.here hx rfl (pc0 := 120) (pc' := 124) rfl (hb hby at_120) (by decide) (by decide)) ?_
        show own_Ends p e below T18 (mkF m 124 #[.val (.int p0), .val (.int p1), .val (.int p2), .val (.int p3), .val (.int kl), .val (.int vl), .val (.int (0 : Int32)), .val (.ref b1), .val (.ref b11), .val (.ref b16), .val (.long ((kl.toInt64) + (vl.toInt64))), .second] [(.int (1 : Int32))]) _
        obtain ⟨fs, hr, hrun, hended, hW, hsame⟩ := X18.leave (v := some (.int (1 : Int32))) (fun h => by rw [Bd.returns] at h; cases h)
        refine ⟨_, _, retN X18 hx (t := .boolean) Bd.returns (by simp) (hb hby at_124) hr, hrun, hended, _, _, rfl, ?_, ⟨_, rfl⟩, hW, hsame.mono (by decide) (by decide)⟩
        show Q_rm0 Z p0 p1 p2 p3 h0 n0 _ T18.heap _
        rw [eh18]
        exact ⟨rfl, N18⟩
  · refine own_go (fun _ => XS.ifNo X0.here hx rfl (hb hby at_15) rfl ((if0 _ _).trans (feq hc15).1)) ?_
    show own_Ends p e below s₁ (mkF m 18 #[.val (.int p0), .val (.int p1), .val (.int p2), .val (.int p3), .val (.int kl), .val (.int vl), .unset, .unset, .unset, .unset, .unset, .unset] []) _
    refine own_go (fun _ => XS.iconst X0.here hx rfl (hb hby at_18)) ?_
    show own_Ends p e below s₁ (mkF m 19 #[.val (.int p0), .val (.int p1), .val (.int p2), .val (.int p3), .val (.int kl), .val (.int vl), .unset, .unset, .unset, .unset, .unset, .unset] [(.int (1 : Int32))]) _
    refine own_go (fun _ => XS.goto X0.here hx rfl (pc0 := 19) (pc' := 23) rfl (hb hby at_19) (by decide) (by decide)) ?_
    show own_Ends p e below s₁ (mkF m 23 #[.val (.int p0), .val (.int p1), .val (.int p2), .val (.int p3), .val (.int kl), .val (.int vl), .unset, .unset, .unset, .unset, .unset, .unset] [(.int (1 : Int32))]) _
    refine own_go (fun _ => XS.istore X0.here hx rfl (hb hby at_23) rfl (l' := #[.val (.int p0), .val (.int p1), .val (.int p2), .val (.int p3), .val (.int kl), .val (.int vl), .val (.int (1 : Int32)), .unset, .unset, .unset, .unset, .unset]) rfl) ?_
    show own_Ends p e below s₁ (mkF m 25 #[.val (.int p0), .val (.int p1), .val (.int p2), .val (.int p3), .val (.int kl), .val (.int vl), .val (.int (1 : Int32)), .unset, .unset, .unset, .unset, .unset] []) _
    refine own_go (fun _ => XS.iload X0.here hx rfl (hb hby at_25) rfl) ?_
    show own_Ends p e below s₁ (mkF m 27 #[.val (.int p0), .val (.int p1), .val (.int p2), .val (.int p3), .val (.int kl), .val (.int vl), .val (.int (1 : Int32)), .unset, .unset, .unset, .unset, .unset] [(.int kl)]) _
    obtain ⟨T19, h19, k19, X19, e19, E19, A19, st19⟩ := newP X0 hx hZ (hw _ (List.mem_of_getElem? (i := 0) rfl)) e0 (g := (mkF m 27 #[.val (.int p0), .val (.int p1), .val (.int p2), .val (.int p3), .val (.int kl), .val (.int vl), .val (.int (1 : Int32)), .unset, .unset, .unset, .unset, .unset] [(.int kl)])) rfl (hb hby at_27) rfl (own_neg hkl) (cap := 7) (own_cap hkl) (by decide) (by decide) (by decide)
    obtain ⟨b19, g19⟩ : ∃ z, z = h0.size := ⟨_, rfl⟩
    rw [← g19] at A19 st19
    refine own_go st19 ?_
    have g_b19 : n0 ≤ b19 := Nat.le_trans Z0 (Nat.le_of_eq g19.symm)
    have sz_b19 : h0.size ≤ b19 := Nat.le_trans K0.1 (Nat.le_of_eq g19.symm)
    have K19 := K0.ext E19
    have Z19 : n0 ≤ h19.size := Nat.le_trans Z0 K19.1
    have B_b19 : own_Len Z h19 b19 .byte kl := ⟨_, A19, sz_new _ _ _, (own_neg hkl)⟩
    show own_Ends p e below T19 (mkF m 29 #[.val (.int p0), .val (.int p1), .val (.int p2), .val (.int p3), .val (.int kl), .val (.int vl), .val (.int (1 : Int32)), .unset, .unset, .unset, .unset, .unset] [(.ref b19)]) _
    refine own_go (fun _ => XS.astore X19.here hx rfl (hb hby at_29) rfl rfl (l' := #[.val (.int p0), .val (.int p1), .val (.int p2), .val (.int p3), .val (.int kl), .val (.int vl), .val (.int (1 : Int32)), .val (.ref b19), .unset, .unset, .unset, .unset]) rfl) ?_
    show own_Ends p e below T19 (mkF m 31 #[.val (.int p0), .val (.int p1), .val (.int p2), .val (.int p3), .val (.int kl), .val (.int vl), .val (.int (1 : Int32)), .val (.ref b19), .unset, .unset, .unset, .unset] []) _
    refine own_go (fun _ => XS.iload X19.here hx rfl (hb hby at_31) rfl) ?_
    show own_Ends p e below T19 (mkF m 33 #[.val (.int p0), .val (.int p1), .val (.int p2), .val (.int p3), .val (.int kl), .val (.int vl), .val (.int (1 : Int32)), .val (.ref b19), .unset, .unset, .unset, .unset] [(.int kl)]) _
    by_cases hc33 : (0 : Int32) < kl
    · refine own_go (fun _ => XS.ifNo X19.here hx rfl (hb hby at_33) rfl ((if0 _ _).trans (tlt hc33).2.2.2)) ?_
      show own_Ends p e below T19 (mkF m 36 #[.val (.int p0), .val (.int p1), .val (.int p2), .val (.int p3), .val (.int kl), .val (.int vl), .val (.int (1 : Int32)), .val (.ref b19), .unset, .unset, .unset, .unset] []) _
      refine own_go (fun _ => XS.aload X19.here hx rfl (hb hby at_36) rfl rfl) ?_
      show own_Ends p e below T19 (mkF m 38 #[.val (.int p0), .val (.int p1), .val (.int p2), .val (.int p3), .val (.int kl), .val (.int vl), .val (.int (1 : Int32)), .val (.ref b19), .unset, .unset, .unset, .unset] [(.ref b19)]) _
      refine own_go (fun _ => XS.iconst X19.here hx rfl (hb hby at_38)) ?_
      show own_Ends p e below T19 (mkF m 39 #[.val (.int p0), .val (.int p1), .val (.int p2), .val (.int p3), .val (.int kl), .val (.int vl), .val (.int (1 : Int32)), .val (.ref b19), .unset, .unset, .unset, .unset] [(.int (0 : Int32)), (.ref b19)]) _
      refine own_go (fun _ => XS.iloadN X19.here hx rfl (hb hby at_39) rfl) ?_
      show own_Ends p e below T19 (mkF m 40 #[.val (.int p0), .val (.int p1), .val (.int p2), .val (.int p3), .val (.int kl), .val (.int vl), .val (.int (1 : Int32)), .val (.ref b19), .unset, .unset, .unset, .unset] [(.int p3), (.int (0 : Int32)), (.ref b19)]) _
      refine own_go (fun _ => XS.i2b X19.here hx rfl (hb hby at_40) rfl) ?_
      show own_Ends p e below T19 (mkF m 41 #[.val (.int p0), .val (.int p1), .val (.int p2), .val (.int p3), .val (.int kl), .val (.int vl), .val (.int (1 : Int32)), .val (.ref b19), .unset, .unset, .unset, .unset] [(.int (p3.toInt8.toInt32)), (.int (0 : Int32)), (.ref b19)]) _
      obtain ⟨cl_20, Ar_20, S_20, M_20⟩ := id B_b19
      have hin20 : ¬ ((0 : Int32) < 0 ∨ cl_20.slots.size ≤ ((0 : Int32)).toNatClampNeg) := inb_of S_20 ⟨by decide, hc33⟩
      obtain ⟨T20, h20, X20, e20, W20, st20⟩ := stB X19 hx hZ e19 Ar_20 (j := (0 : Int32)) hin20 (g := (mkF m 41 #[.val (.int p0), .val (.int p1), .val (.int p2), .val (.int p3), .val (.int kl), .val (.int vl), .val (.int (1 : Int32)), .val (.ref b19), .unset, .unset, .unset, .unset] [(.int (p3.toInt8.toInt32)), (.int (0 : Int32)), (.ref b19)])) rfl rfl (hb hby at_41)
      refine own_go st20 ?_
      replace B_b19 := B_b19.same W20
      have N20 := Fr.snoc X20 N0 g_b19
      have K20 := K19.wr W20 (Or.inr sz_b19)
      have Z20 : n0 ≤ h20.size := Nat.le_trans Z0 K20.1
      show own_Ends p e below T20 (mkF m 42 #[.val (.int p0), .val (.int p1), .val (.int p2), .val (.int p3), .val (.int kl), .val (.int vl), .val (.int (1 : Int32)), .val (.ref b19), .unset, .unset, .unset, .unset] []) _
      refine own_go (fun _ => XS.aconstNull X20.here hx rfl (hb hby at_42)) ?_
      show own_Ends p e below T20 (mkF m 43 #[.val (.int p0), .val (.int p1), .val (.int p2), .val (.int p3), .val (.int kl), .val (.int vl), .val (.int (1 : Int32)), .val (.ref b19), .unset, .unset, .unset, .unset] [.null]) _
      refine own_go (fun _ => XS.astore X20.here hx rfl (hb hby at_43) rfl rfl (l' := #[.val (.int p0), .val (.int p1), .val (.int p2), .val (.int p3), .val (.int kl), .val (.int vl), .val (.int (1 : Int32)), .val (.ref b19), .val .null, .unset, .unset, .unset]) rfl) ?_
      show own_Ends p e below T20 (mkF m 45 #[.val (.int p0), .val (.int p1), .val (.int p2), .val (.int p3), .val (.int kl), .val (.int vl), .val (.int (1 : Int32)), .val (.ref b19), .val .null, .unset, .unset, .unset] []) _
      refine own_go (fun _ => XS.iload X20.here hx rfl (hb hby at_45) rfl) ?_
      show own_Ends p e below T20 (mkF m 47 #[.val (.int p0), .val (.int p1), .val (.int p2), .val (.int p3), .val (.int kl), .val (.int vl), .val (.int (1 : Int32)), .val (.ref b19), .val .null, .unset, .unset, .unset] [(.int (1 : Int32))]) _
      refine own_go (fun _ => XS.ifYes X20.here hx rfl (pc0 := 47) (pc' := 73) rfl (hb hby at_47) rfl ((if0 _ _).trans (feq (show ¬ ((1 : Int32) = (0 : Int32)) from by decide)).2) (by decide) (by decide)) ?_
      show own_Ends p e below T20 (mkF m 73 #[.val (.int p0), .val (.int p1), .val (.int p2), .val (.int p3), .val (.int kl), .val (.int vl), .val (.int (1 : Int32)), .val (.ref b19), .val .null, .unset, .unset, .unset] []) _
      obtain ⟨T21, h21, X21, e21, E21, A21, D21, -, st21⟩ := newO X20 hx hZ hown (hw _ (List.mem_of_getElem? (i := 1) rfl)) (hw _ (List.mem_of_getElem? (i := 2) rfl)) (hw _ (List.mem_of_getElem? (i := 3) rfl)) e20 (g := (mkF m 73 #[.val (.int p0), .val (.int p1), .val (.int p2), .val (.int p3), .val (.int kl), .val (.int vl), .val (.int (1 : Int32)), .val (.ref b19), .val .null, .unset, .unset, .unset] [])) rfl (hb hby at_73) (by decide) (by decide)
      obtain ⟨b21, g21⟩ : ∃ z, z = h20.size := ⟨_, rfl⟩
      rw [← g21] at A21 D21 st21
      refine own_go st21 ?_
      have g_b21 : n0 ≤ b21 := Nat.le_trans Z20 (Nat.le_of_eq g21.symm)
      have sz_b21 : h0.size ≤ b21 := Nat.le_trans K20.1 (Nat.le_of_eq g21.symm)
      have ne_b19_b21 : b19 ≠ b21 := Nat.ne_of_lt (Nat.lt_of_lt_of_le B_b19.lt (Nat.le_of_eq g21.symm))
      replace B_b19 := B_b19.ext E21
      have K21 := K20.ext E21
      have Z21 : n0 ≤ h21.size := Nat.le_trans Z0 K21.1
      have F_b21_key : Fld Z h21 b21 "com/example/wedge/wedge/Entry" "key" "[B" .null := D21 (Or.inr (hw _ (List.mem_of_getElem? (i := 16) rfl))) (ty := (.array .byte)) (by decide)
      have F_b21_value : Fld Z h21 b21 "com/example/wedge/wedge/Entry" "value" "[B" .null := D21 (Or.inr (hw _ (List.mem_of_getElem? (i := 18) rfl))) (ty := (.array .byte)) (by decide)
      show own_Ends p e below T21 (mkF m 76 #[.val (.int p0), .val (.int p1), .val (.int p2), .val (.int p3), .val (.int kl), .val (.int vl), .val (.int (1 : Int32)), .val (.ref b19), .val .null, .unset, .unset, .unset] [(.ref b21)]) _
      refine own_go (fun _ => XS.dup X21.here hx rfl (hb hby at_76) rfl rfl) ?_
      show own_Ends p e below T21 (mkF m 77 #[.val (.int p0), .val (.int p1), .val (.int p2), .val (.int p3), .val (.int kl), .val (.int vl), .val (.int (1 : Int32)), .val (.ref b19), .val .null, .unset, .unset, .unset] [(.ref b21), (.ref b21)]) _
      refine own_go (fun _ => XS.aload X21.here hx rfl (hb hby at_77) rfl rfl) ?_
      show own_Ends p e below T21 (mkF m 79 #[.val (.int p0), .val (.int p1), .val (.int p2), .val (.int p3), .val (.int kl), .val (.int vl), .val (.int (1 : Int32)), .val (.ref b19), .val .null, .unset, .unset, .unset] [(.ref b19), (.ref b21), (.ref b21)]) _
      refine own_go (fun _ => XS.aload X21.here hx rfl (hb hby at_79) rfl rfl) ?_
      show own_Ends p e below T21 (mkF m 81 #[.val (.int p0), .val (.int p1), .val (.int p2), .val (.int p3), .val (.int kl), .val (.int vl), .val (.int (1 : Int32)), .val (.ref b19), .val .null, .unset, .unset, .unset] [.null, (.ref b19), (.ref b21), (.ref b21)]) _
      obtain ⟨_, _, ⟨T22, L22, k22, n22⟩, -, X22, ⟨Lc22, hQ22, l22, y22, z22⟩, st22⟩ := X21.specialBack hx (y := (⟨"com/example/wedge/wedge/Entry", "<init>", "([B[B)V"⟩ : MethodName)) rfl hown (mvT hZ (hw _ (List.mem_of_getElem? (i := 4) rfl))) (mvT hZ (hw _ (List.mem_of_getElem? (i := 5) rfl))) (mvT hZ (hw _ (List.mem_of_getElem? (i := 6) rfl))) (by decide) (backOf (W := 1) (rmEInitn l Z a0 hw [] b21 b19  h21 n0 Z21 A21 F_b21_key F_b21_value g_b21) hZ (hw _ (List.mem_of_getElem? (i := 6) rfl)) (hw _ (List.mem_of_getElem? (i := 3) rfl)) (by decide) (by decide)) (g := (mkF m 81 #[.val (.int p0), .val (.int p1), .val (.int p2), .val (.int p3), .val (.int kl), .val (.int vl), .val (.int (1 : Int32)), .val (.ref b19), .val .null, .unset, .unset, .unset] [.null, (.ref b19), (.ref b21), (.ref b21)])) rfl (by rw [hml]; rfl) (Steps.refl _) (a := b21) (argsL := [(.ref b19), .null]) (rest := [(.ref b21)]) (lenOf pd_1 rfl) rfl (by show 2 * 0 + _ ≤ _; exact Nat.le_of_eq rfl) (hb hby at_81) (fun _ _ => ⟨rfl, e21, (by decide : 2 + 0 ≤ _), (by decide : 9 + 0 ≤ _)⟩)
      dsimp only [Pt.U, Pt.locs, Pt.cells, Pt.slots] at X22 l22 y22 z22 st22 hQ22
      subst l22 y22 z22
      refine own_go (fun _ k => st22.trans k) ?_
      obtain ⟨rfl, N22q, Kq22, Eq22, F22_key, F22_value⟩ := hQ22
      replace B_b19 := B_b19.keep Kq22 (ninS ne_b19_b21 nin0)
      replace A21 := A21.keep Kq22
      have K22 := K21.trans Kq22 (allS (Or.inr sz_b21) all0)
      have Z22 : n0 ≤ T22.heap.size := Nat.le_trans Z0 K22.1
      clear Eq22
      have N22 := Fr.app N20 N22q
      show own_Ends p e below T22 (mkF m 84 #[.val (.int p0), .val (.int p1), .val (.int p2), .val (.int p3), .val (.int kl), .val (.int vl), .val (.int (1 : Int32)), .val (.ref b19), .val .null, .unset, .unset, .unset] [(.ref b21)]) _
      refine own_go (fun _ => XS.astore X22.here hx rfl (hb hby at_84) rfl rfl (l' := #[.val (.int p0), .val (.int p1), .val (.int p2), .val (.int p3), .val (.int kl), .val (.int vl), .val (.int (1 : Int32)), .val (.ref b19), .val .null, .val (.ref b21), .unset, .unset]) rfl) ?_
      show own_Ends p e below T22 (mkF m 86 #[.val (.int p0), .val (.int p1), .val (.int p2), .val (.int p3), .val (.int kl), .val (.int vl), .val (.int (1 : Int32)), .val (.ref b19), .val .null, .val (.ref b21), .unset, .unset] []) _
      refine own_go (fun _ => XS.iload X22.here hx rfl (hb hby at_86) rfl) ?_
      show own_Ends p e below T22 (mkF m 88 #[.val (.int p0), .val (.int p1), .val (.int p2), .val (.int p3), .val (.int kl), .val (.int vl), .val (.int (1 : Int32)), .val (.ref b19), .val .null, .val (.ref b21), .unset, .unset] [(.int (1 : Int32))]) _
      refine own_go (fun _ => XS.ifNo X22.here hx rfl (hb hby at_88) rfl ((if0 _ _).trans (feq (show ¬ ((1 : Int32) = (0 : Int32)) from by decide)).1)) ?_
      show own_Ends p e below T22 (mkF m 91 #[.val (.int p0), .val (.int p1), .val (.int p2), .val (.int p3), .val (.int kl), .val (.int vl), .val (.int (1 : Int32)), .val (.ref b19), .val .null, .val (.ref b21), .unset, .unset] []) _
      refine own_go (fun _ => XS.iload X22.here hx rfl (hb hby at_91) rfl) ?_
      show own_Ends p e below T22 (mkF m 93 #[.val (.int p0), .val (.int p1), .val (.int p2), .val (.int p3), .val (.int kl), .val (.int vl), .val (.int (1 : Int32)), .val (.ref b19), .val .null, .val (.ref b21), .unset, .unset] [(.int kl)]) _
      refine own_go (fun _ => XS.i2l X22.here hx rfl (hb hby at_93) rfl) ?_
      show own_Ends p e below T22 (mkF m 94 #[.val (.int p0), .val (.int p1), .val (.int p2), .val (.int p3), .val (.int kl), .val (.int vl), .val (.int (1 : Int32)), .val (.ref b19), .val .null, .val (.ref b21), .unset, .unset] [(.long (kl.toInt64))]) _
      refine own_go (fun _ => XS.lstore X22.here hx rfl (hb hby at_94) rfl (l' := #[.val (.int p0), .val (.int p1), .val (.int p2), .val (.int p3), .val (.int kl), .val (.int vl), .val (.int (1 : Int32)), .val (.ref b19), .val .null, .val (.ref b21), .val (.long (kl.toInt64)), .second]) rfl) ?_
      show own_Ends p e below T22 (mkF m 96 #[.val (.int p0), .val (.int p1), .val (.int p2), .val (.int p3), .val (.int kl), .val (.int vl), .val (.int (1 : Int32)), .val (.ref b19), .val .null, .val (.ref b21), .val (.long (kl.toInt64)), .second] []) _
      refine own_go (fun _ => XS.goto X22.here hx rfl (pc0 := 96) (pc' := 108) rfl (hb hby at_96) (by decide) (by decide)) ?_
      show own_Ends p e below T22 (mkF m 108 #[.val (.int p0), .val (.int p1), .val (.int p2), .val (.int p3), .val (.int kl), .val (.int vl), .val (.int (1 : Int32)), .val (.ref b19), .val .null, .val (.ref b21), .val (.long (kl.toInt64)), .second] []) _
      refine own_go (fun _ => XS.aload X22.here hx rfl (hb hby at_108) rfl rfl) ?_
      show own_Ends p e below T22 (mkF m 110 #[.val (.int p0), .val (.int p1), .val (.int p2), .val (.int p3), .val (.int kl), .val (.int vl), .val (.int (1 : Int32)), .val (.ref b19), .val .null, .val (.ref b21), .val (.long (kl.toInt64)), .second] [(.ref b21)]) _
      obtain ⟨cq23, kq23, q23a, q23b, q23c⟩ := isOf hZ rfl A21
      obtain ⟨_, _, ⟨T23, L23, k23, n23⟩, -, X23, ⟨Lc23, hQ23, l23, y23, z23⟩, st23⟩ := X22.virtualBack hx (y := (⟨"com/example/wedge/wedge/Entry", "size", "()J"⟩ : MethodName)) (z := (⟨"com/example/wedge/wedge/Entry", "size", "()J"⟩ : MethodName)) hown (mvT hZ (hw _ (List.mem_of_getElem? (i := 19) rfl))) (mvT hZ (hw _ (List.mem_of_getElem? (i := 20) rfl))) (notFace_of_selects (args := #[]) (mvT hZ (hw _ (List.mem_of_getElem? (i := 22) rfl)))) (mvT hZ (hw _ (List.mem_of_getElem? (i := 22) rfl))) (mvT hZ (hw _ (List.mem_of_getElem? (i := 21) rfl))) (by decide) (backOf (W := 0) (rmESizen l Z a0 hw [] b21 b19 kl (T22.heap) n0 Z22 F22_key F22_value B_b19) hZ (hw _ (List.mem_of_getElem? (i := 23) rfl)) (hw _ (List.mem_of_getElem? (i := 3) rfl)) (by decide) (by decide)) q23a q23c (g := (mkF m 110 #[.val (.int p0), .val (.int p1), .val (.int p2), .val (.int p3), .val (.int kl), .val (.int vl), .val (.int (1 : Int32)), .val (.ref b19), .val .null, .val (.ref b21), .val (.long (kl.toInt64)), .second] [(.ref b21)])) rfl (by rw [hml]; rfl) (Steps.refl _) (argsL := []) (rest := []) (lenOf pd_2 rfl) rfl (by show 2 * 0 + _ ≤ _; exact Nat.le_of_eq rfl) (hb hby at_110) (fun _ _ => ⟨rfl, rfl, (by decide : 2 + 0 ≤ _), (by decide : 9 + 0 ≤ _)⟩)
      dsimp only [Pt.U, Pt.locs, Pt.cells, Pt.slots] at X23 l23 y23 z23 st23 hQ23
      subst l23 y23 z23
      refine own_go (fun _ k => st23.trans k) ?_
      obtain ⟨rfl, N23q, eh23⟩ := hQ23
      have N23 := Fr.app N22 N23q
      show own_Ends p e below T23 (mkF m 113 #[.val (.int p0), .val (.int p1), .val (.int p2), .val (.int p3), .val (.int kl), .val (.int vl), .val (.int (1 : Int32)), .val (.ref b19), .val .null, .val (.ref b21), .val (.long (kl.toInt64)), .second] [(.long (kl.toInt64 + (0 : Int64)))]) _
      refine own_go (fun _ => XS.lload X23.here hx rfl (hb hby at_113) rfl) ?_
      show own_Ends p e below T23 (mkF m 115 #[.val (.int p0), .val (.int p1), .val (.int p2), .val (.int p3), .val (.int kl), .val (.int vl), .val (.int (1 : Int32)), .val (.ref b19), .val .null, .val (.ref b21), .val (.long (kl.toInt64)), .second] [(.long (kl.toInt64)), (.long (kl.toInt64 + (0 : Int64)))]) _
      refine own_go (fun _ => XS.lcmp X23.here hx rfl (hb hby at_115) rfl) ?_
      show own_Ends p e below T23 (mkF m 116 #[.val (.int p0), .val (.int p1), .val (.int p2), .val (.int p3), .val (.int kl), .val (.int vl), .val (.int (1 : Int32)), .val (.ref b19), .val .null, .val (.ref b21), .val (.long (kl.toInt64)), .second] [(.int (lcmpW (kl.toInt64 + (0 : Int64)) (kl.toInt64)))]) _
      refine own_go (fun _ => XS.ifNo X23.here hx rfl (hb hby at_116) rfl ((if0 _ _).trans (teq ((lw_eq (kl.toInt64 + (0 : Int64)) (kl.toInt64)).mpr (show (kl.toInt64 + (0 : Int64)) = (kl.toInt64) from Int64.add_zero _))).2)) ?_
      show own_Ends p e below T23 (mkF m 119 #[.val (.int p0), .val (.int p1), .val (.int p2), .val (.int p3), .val (.int kl), .val (.int vl), .val (.int (1 : Int32)), .val (.ref b19), .val .null, .val (.ref b21), .val (.long (kl.toInt64)), .second] []) _
      refine own_go (fun _ => XS.iconst X23.here hx rfl (hb hby at_119)) ?_
      show own_Ends p e below T23 (mkF m 120 #[.val (.int p0), .val (.int p1), .val (.int p2), .val (.int p3), .val (.int kl), .val (.int vl), .val (.int (1 : Int32)), .val (.ref b19), .val .null, .val (.ref b21), .val (.long (kl.toInt64)), .second] [(.int (1 : Int32))]) _
      refine own_go (fun _ => XS.goto X23.here hx rfl (pc0 := 120) (pc' := 124) rfl (hb hby at_120) (by decide) (by decide)) ?_
      show own_Ends p e below T23 (mkF m 124 #[.val (.int p0), .val (.int p1), .val (.int p2), .val (.int p3), .val (.int kl), .val (.int vl), .val (.int (1 : Int32)), .val (.ref b19), .val .null, .val (.ref b21), .val (.long (kl.toInt64)), .second] [(.int (1 : Int32))]) _
      obtain ⟨fs, hr, hrun, hended, hW, hsame⟩ := X23.leave (v := some (.int (1 : Int32))) (fun h => by rw [Bd.returns] at h; cases h)
      refine ⟨_, _, retN X23 hx (t := .boolean) Bd.returns (by simp) (hb hby at_124) hr, hrun, hended, _, _, rfl, ?_, ⟨_, rfl⟩, hW, hsame.mono (by decide) (by decide)⟩
      show Q_rm0 Z p0 p1 p2 p3 h0 n0 _ T23.heap _
      rw [eh23]
      exact ⟨rfl, N23⟩
    · refine own_go (fun _ => XS.ifYes X19.here hx rfl (pc0 := 33) (pc' := 42) rfl (hb hby at_33) rfl ((if0 _ _).trans (flt hc33).2.2.2) (by decide) (by decide)) ?_
      show own_Ends p e below T19 (mkF m 42 #[.val (.int p0), .val (.int p1), .val (.int p2), .val (.int p3), .val (.int kl), .val (.int vl), .val (.int (1 : Int32)), .val (.ref b19), .unset, .unset, .unset, .unset] []) _
      refine own_go (fun _ => XS.aconstNull X19.here hx rfl (hb hby at_42)) ?_
      show own_Ends p e below T19 (mkF m 43 #[.val (.int p0), .val (.int p1), .val (.int p2), .val (.int p3), .val (.int kl), .val (.int vl), .val (.int (1 : Int32)), .val (.ref b19), .unset, .unset, .unset, .unset] [.null]) _
      refine own_go (fun _ => XS.astore X19.here hx rfl (hb hby at_43) rfl rfl (l' := #[.val (.int p0), .val (.int p1), .val (.int p2), .val (.int p3), .val (.int kl), .val (.int vl), .val (.int (1 : Int32)), .val (.ref b19), .val .null, .unset, .unset, .unset]) rfl) ?_
      show own_Ends p e below T19 (mkF m 45 #[.val (.int p0), .val (.int p1), .val (.int p2), .val (.int p3), .val (.int kl), .val (.int vl), .val (.int (1 : Int32)), .val (.ref b19), .val .null, .unset, .unset, .unset] []) _
      refine own_go (fun _ => XS.iload X19.here hx rfl (hb hby at_45) rfl) ?_
      show own_Ends p e below T19 (mkF m 47 #[.val (.int p0), .val (.int p1), .val (.int p2), .val (.int p3), .val (.int kl), .val (.int vl), .val (.int (1 : Int32)), .val (.ref b19), .val .null, .unset, .unset, .unset] [(.int (1 : Int32))]) _
      refine own_go (fun _ => XS.ifYes X19.here hx rfl (pc0 := 47) (pc' := 73) rfl (hb hby at_47) rfl ((if0 _ _).trans (feq (show ¬ ((1 : Int32) = (0 : Int32)) from by decide)).2) (by decide) (by decide)) ?_
      show own_Ends p e below T19 (mkF m 73 #[.val (.int p0), .val (.int p1), .val (.int p2), .val (.int p3), .val (.int kl), .val (.int vl), .val (.int (1 : Int32)), .val (.ref b19), .val .null, .unset, .unset, .unset] []) _
      obtain ⟨T24, h24, X24, e24, E24, A24, D24, -, st24⟩ := newO X19 hx hZ hown (hw _ (List.mem_of_getElem? (i := 1) rfl)) (hw _ (List.mem_of_getElem? (i := 2) rfl)) (hw _ (List.mem_of_getElem? (i := 3) rfl)) e19 (g := (mkF m 73 #[.val (.int p0), .val (.int p1), .val (.int p2), .val (.int p3), .val (.int kl), .val (.int vl), .val (.int (1 : Int32)), .val (.ref b19), .val .null, .unset, .unset, .unset] [])) rfl (hb hby at_73) (by decide) (by decide)
      obtain ⟨b24, g24⟩ : ∃ z, z = h19.size := ⟨_, rfl⟩
      rw [← g24] at A24 D24 st24
      refine own_go st24 ?_
      have g_b24 : n0 ≤ b24 := Nat.le_trans Z19 (Nat.le_of_eq g24.symm)
      have sz_b24 : h0.size ≤ b24 := Nat.le_trans K19.1 (Nat.le_of_eq g24.symm)
      have ne_b19_b24 : b19 ≠ b24 := Nat.ne_of_lt (Nat.lt_of_lt_of_le B_b19.lt (Nat.le_of_eq g24.symm))
      replace B_b19 := B_b19.ext E24
      have K24 := K19.ext E24
      have Z24 : n0 ≤ h24.size := Nat.le_trans Z0 K24.1
      have F_b24_key : Fld Z h24 b24 "com/example/wedge/wedge/Entry" "key" "[B" .null := D24 (Or.inr (hw _ (List.mem_of_getElem? (i := 16) rfl))) (ty := (.array .byte)) (by decide)
      have F_b24_value : Fld Z h24 b24 "com/example/wedge/wedge/Entry" "value" "[B" .null := D24 (Or.inr (hw _ (List.mem_of_getElem? (i := 18) rfl))) (ty := (.array .byte)) (by decide)
      show own_Ends p e below T24 (mkF m 76 #[.val (.int p0), .val (.int p1), .val (.int p2), .val (.int p3), .val (.int kl), .val (.int vl), .val (.int (1 : Int32)), .val (.ref b19), .val .null, .unset, .unset, .unset] [(.ref b24)]) _
      refine own_go (fun _ => XS.dup X24.here hx rfl (hb hby at_76) rfl rfl) ?_
      show own_Ends p e below T24 (mkF m 77 #[.val (.int p0), .val (.int p1), .val (.int p2), .val (.int p3), .val (.int kl), .val (.int vl), .val (.int (1 : Int32)), .val (.ref b19), .val .null, .unset, .unset, .unset] [(.ref b24), (.ref b24)]) _
      refine own_go (fun _ => XS.aload X24.here hx rfl (hb hby at_77) rfl rfl) ?_
      show own_Ends p e below T24 (mkF m 79 #[.val (.int p0), .val (.int p1), .val (.int p2), .val (.int p3), .val (.int kl), .val (.int vl), .val (.int (1 : Int32)), .val (.ref b19), .val .null, .unset, .unset, .unset] [(.ref b19), (.ref b24), (.ref b24)]) _
      refine own_go (fun _ => XS.aload X24.here hx rfl (hb hby at_79) rfl rfl) ?_
      show own_Ends p e below T24 (mkF m 81 #[.val (.int p0), .val (.int p1), .val (.int p2), .val (.int p3), .val (.int kl), .val (.int vl), .val (.int (1 : Int32)), .val (.ref b19), .val .null, .unset, .unset, .unset] [.null, (.ref b19), (.ref b24), (.ref b24)]) _
      obtain ⟨_, _, ⟨T25, L25, k25, n25⟩, -, X25, ⟨Lc25, hQ25, l25, y25, z25⟩, st25⟩ := X24.specialBack hx (y := (⟨"com/example/wedge/wedge/Entry", "<init>", "([B[B)V"⟩ : MethodName)) rfl hown (mvT hZ (hw _ (List.mem_of_getElem? (i := 4) rfl))) (mvT hZ (hw _ (List.mem_of_getElem? (i := 5) rfl))) (mvT hZ (hw _ (List.mem_of_getElem? (i := 6) rfl))) (by decide) (backOf (W := 1) (rmEInitn l Z a0 hw [] b24 b19  h24 n0 Z24 A24 F_b24_key F_b24_value g_b24) hZ (hw _ (List.mem_of_getElem? (i := 6) rfl)) (hw _ (List.mem_of_getElem? (i := 3) rfl)) (by decide) (by decide)) (g := (mkF m 81 #[.val (.int p0), .val (.int p1), .val (.int p2), .val (.int p3), .val (.int kl), .val (.int vl), .val (.int (1 : Int32)), .val (.ref b19), .val .null, .unset, .unset, .unset] [.null, (.ref b19), (.ref b24), (.ref b24)])) rfl (by rw [hml]; rfl) (Steps.refl _) (a := b24) (argsL := [(.ref b19), .null]) (rest := [(.ref b24)]) (lenOf pd_1 rfl) rfl (by show 2 * 0 + _ ≤ _; exact Nat.le_of_eq rfl) (hb hby at_81) (fun _ _ => ⟨rfl, e24, (by decide : 2 + 0 ≤ _), (by decide : 9 + 0 ≤ _)⟩)
      dsimp only [Pt.U, Pt.locs, Pt.cells, Pt.slots] at X25 l25 y25 z25 st25 hQ25
      subst l25 y25 z25
      refine own_go (fun _ k => st25.trans k) ?_
      obtain ⟨rfl, N25q, Kq25, Eq25, F25_key, F25_value⟩ := hQ25
      replace B_b19 := B_b19.keep Kq25 (ninS ne_b19_b24 nin0)
      replace A24 := A24.keep Kq25
      have K25 := K24.trans Kq25 (allS (Or.inr sz_b24) all0)
      have Z25 : n0 ≤ T25.heap.size := Nat.le_trans Z0 K25.1
      clear Eq25
      have N25 := Fr.app N0 N25q
      show own_Ends p e below T25 (mkF m 84 #[.val (.int p0), .val (.int p1), .val (.int p2), .val (.int p3), .val (.int kl), .val (.int vl), .val (.int (1 : Int32)), .val (.ref b19), .val .null, .unset, .unset, .unset] [(.ref b24)]) _
      refine own_go (fun _ => XS.astore X25.here hx rfl (hb hby at_84) rfl rfl (l' := #[.val (.int p0), .val (.int p1), .val (.int p2), .val (.int p3), .val (.int kl), .val (.int vl), .val (.int (1 : Int32)), .val (.ref b19), .val .null, .val (.ref b24), .unset, .unset]) rfl) ?_
      show own_Ends p e below T25 (mkF m 86 #[.val (.int p0), .val (.int p1), .val (.int p2), .val (.int p3), .val (.int kl), .val (.int vl), .val (.int (1 : Int32)), .val (.ref b19), .val .null, .val (.ref b24), .unset, .unset] []) _
      refine own_go (fun _ => XS.iload X25.here hx rfl (hb hby at_86) rfl) ?_
      show own_Ends p e below T25 (mkF m 88 #[.val (.int p0), .val (.int p1), .val (.int p2), .val (.int p3), .val (.int kl), .val (.int vl), .val (.int (1 : Int32)), .val (.ref b19), .val .null, .val (.ref b24), .unset, .unset] [(.int (1 : Int32))]) _
      refine own_go (fun _ => XS.ifNo X25.here hx rfl (hb hby at_88) rfl ((if0 _ _).trans (feq (show ¬ ((1 : Int32) = (0 : Int32)) from by decide)).1)) ?_
      show own_Ends p e below T25 (mkF m 91 #[.val (.int p0), .val (.int p1), .val (.int p2), .val (.int p3), .val (.int kl), .val (.int vl), .val (.int (1 : Int32)), .val (.ref b19), .val .null, .val (.ref b24), .unset, .unset] []) _
      refine own_go (fun _ => XS.iload X25.here hx rfl (hb hby at_91) rfl) ?_
      show own_Ends p e below T25 (mkF m 93 #[.val (.int p0), .val (.int p1), .val (.int p2), .val (.int p3), .val (.int kl), .val (.int vl), .val (.int (1 : Int32)), .val (.ref b19), .val .null, .val (.ref b24), .unset, .unset] [(.int kl)]) _
      refine own_go (fun _ => XS.i2l X25.here hx rfl (hb hby at_93) rfl) ?_
      show own_Ends p e below T25 (mkF m 94 #[.val (.int p0), .val (.int p1), .val (.int p2), .val (.int p3), .val (.int kl), .val (.int vl), .val (.int (1 : Int32)), .val (.ref b19), .val .null, .val (.ref b24), .unset, .unset] [(.long (kl.toInt64))]) _
      refine own_go (fun _ => XS.lstore X25.here hx rfl (hb hby at_94) rfl (l' := #[.val (.int p0), .val (.int p1), .val (.int p2), .val (.int p3), .val (.int kl), .val (.int vl), .val (.int (1 : Int32)), .val (.ref b19), .val .null, .val (.ref b24), .val (.long (kl.toInt64)), .second]) rfl) ?_
      show own_Ends p e below T25 (mkF m 96 #[.val (.int p0), .val (.int p1), .val (.int p2), .val (.int p3), .val (.int kl), .val (.int vl), .val (.int (1 : Int32)), .val (.ref b19), .val .null, .val (.ref b24), .val (.long (kl.toInt64)), .second] []) _
      refine own_go (fun _ => XS.goto X25.here hx rfl (pc0 := 96) (pc' := 108) rfl (hb hby at_96) (by decide) (by decide)) ?_
      show own_Ends p e below T25 (mkF m 108 #[.val (.int p0), .val (.int p1), .val (.int p2), .val (.int p3), .val (.int kl), .val (.int vl), .val (.int (1 : Int32)), .val (.ref b19), .val .null, .val (.ref b24), .val (.long (kl.toInt64)), .second] []) _
      refine own_go (fun _ => XS.aload X25.here hx rfl (hb hby at_108) rfl rfl) ?_
      show own_Ends p e below T25 (mkF m 110 #[.val (.int p0), .val (.int p1), .val (.int p2), .val (.int p3), .val (.int kl), .val (.int vl), .val (.int (1 : Int32)), .val (.ref b19), .val .null, .val (.ref b24), .val (.long (kl.toInt64)), .second] [(.ref b24)]) _
      obtain ⟨cq26, kq26, q26a, q26b, q26c⟩ := isOf hZ rfl A24
      obtain ⟨_, _, ⟨T26, L26, k26, n26⟩, -, X26, ⟨Lc26, hQ26, l26, y26, z26⟩, st26⟩ := X25.virtualBack hx (y := (⟨"com/example/wedge/wedge/Entry", "size", "()J"⟩ : MethodName)) (z := (⟨"com/example/wedge/wedge/Entry", "size", "()J"⟩ : MethodName)) hown (mvT hZ (hw _ (List.mem_of_getElem? (i := 19) rfl))) (mvT hZ (hw _ (List.mem_of_getElem? (i := 20) rfl))) (notFace_of_selects (args := #[]) (mvT hZ (hw _ (List.mem_of_getElem? (i := 22) rfl)))) (mvT hZ (hw _ (List.mem_of_getElem? (i := 22) rfl))) (mvT hZ (hw _ (List.mem_of_getElem? (i := 21) rfl))) (by decide) (backOf (W := 0) (rmESizen l Z a0 hw [] b24 b19 kl (T25.heap) n0 Z25 F25_key F25_value B_b19) hZ (hw _ (List.mem_of_getElem? (i := 23) rfl)) (hw _ (List.mem_of_getElem? (i := 3) rfl)) (by decide) (by decide)) q26a q26c (g := (mkF m 110 #[.val (.int p0), .val (.int p1), .val (.int p2), .val (.int p3), .val (.int kl), .val (.int vl), .val (.int (1 : Int32)), .val (.ref b19), .val .null, .val (.ref b24), .val (.long (kl.toInt64)), .second] [(.ref b24)])) rfl (by rw [hml]; rfl) (Steps.refl _) (argsL := []) (rest := []) (lenOf pd_2 rfl) rfl (by show 2 * 0 + _ ≤ _; exact Nat.le_of_eq rfl) (hb hby at_110) (fun _ _ => ⟨rfl, rfl, (by decide : 2 + 0 ≤ _), (by decide : 9 + 0 ≤ _)⟩)
      dsimp only [Pt.U, Pt.locs, Pt.cells, Pt.slots] at X26 l26 y26 z26 st26 hQ26
      subst l26 y26 z26
      refine own_go (fun _ k => st26.trans k) ?_
      obtain ⟨rfl, N26q, eh26⟩ := hQ26
      have N26 := Fr.app N25 N26q
      show own_Ends p e below T26 (mkF m 113 #[.val (.int p0), .val (.int p1), .val (.int p2), .val (.int p3), .val (.int kl), .val (.int vl), .val (.int (1 : Int32)), .val (.ref b19), .val .null, .val (.ref b24), .val (.long (kl.toInt64)), .second] [(.long (kl.toInt64 + (0 : Int64)))]) _
      refine own_go (fun _ => XS.lload X26.here hx rfl (hb hby at_113) rfl) ?_
      show own_Ends p e below T26 (mkF m 115 #[.val (.int p0), .val (.int p1), .val (.int p2), .val (.int p3), .val (.int kl), .val (.int vl), .val (.int (1 : Int32)), .val (.ref b19), .val .null, .val (.ref b24), .val (.long (kl.toInt64)), .second] [(.long (kl.toInt64)), (.long (kl.toInt64 + (0 : Int64)))]) _
      refine own_go (fun _ => XS.lcmp X26.here hx rfl (hb hby at_115) rfl) ?_
      show own_Ends p e below T26 (mkF m 116 #[.val (.int p0), .val (.int p1), .val (.int p2), .val (.int p3), .val (.int kl), .val (.int vl), .val (.int (1 : Int32)), .val (.ref b19), .val .null, .val (.ref b24), .val (.long (kl.toInt64)), .second] [(.int (lcmpW (kl.toInt64 + (0 : Int64)) (kl.toInt64)))]) _
      refine own_go (fun _ => XS.ifNo X26.here hx rfl (hb hby at_116) rfl ((if0 _ _).trans (teq ((lw_eq (kl.toInt64 + (0 : Int64)) (kl.toInt64)).mpr (show (kl.toInt64 + (0 : Int64)) = (kl.toInt64) from Int64.add_zero _))).2)) ?_
      show own_Ends p e below T26 (mkF m 119 #[.val (.int p0), .val (.int p1), .val (.int p2), .val (.int p3), .val (.int kl), .val (.int vl), .val (.int (1 : Int32)), .val (.ref b19), .val .null, .val (.ref b24), .val (.long (kl.toInt64)), .second] []) _
      refine own_go (fun _ => XS.iconst X26.here hx rfl (hb hby at_119)) ?_
      show own_Ends p e below T26 (mkF m 120 #[.val (.int p0), .val (.int p1), .val (.int p2), .val (.int p3), .val (.int kl), .val (.int vl), .val (.int (1 : Int32)), .val (.ref b19), .val .null, .val (.ref b24), .val (.long (kl.toInt64)), .second] [(.int (1 : Int32))]) _
      refine own_go (fun _ => XS.goto X26.here hx rfl (pc0 := 120) (pc' := 124) rfl (hb hby at_120) (by decide) (by decide)) ?_
      show own_Ends p e below T26 (mkF m 124 #[.val (.int p0), .val (.int p1), .val (.int p2), .val (.int p3), .val (.int kl), .val (.int vl), .val (.int (1 : Int32)), .val (.ref b19), .val .null, .val (.ref b24), .val (.long (kl.toInt64)), .second] [(.int (1 : Int32))]) _
      obtain ⟨fs, hr, hrun, hended, hW, hsame⟩ := X26.leave (v := some (.int (1 : Int32))) (fun h => by rw [Bd.returns] at h; cases h)
      refine ⟨_, _, retN X26 hx (t := .boolean) Bd.returns (by simp) (hb hby at_124) hr, hrun, hended, _, _, rfl, ?_, ⟨_, rfl⟩, hW, hsame.mono (by decide) (by decide)⟩
      show Q_rm0 Z p0 p1 p2 p3 h0 n0 _ T26.heap _
      rw [eh26]
      exact ⟨rfl, N26⟩
set_option maxRecDepth 65536 in
set_option maxHeartbeats 40000000 in
theorem comes_1 {Post : Tables → Env → Array Value → State → Outcome → State → Prop} (hpost : ∀ tb e args s v u, (limb_1_1.after args s (.returned v) u = true ∧ limb_1_2.after args s (.returned v) u = true ∧ True) → FrameEnd s (.returned v) u (Jvm.fieldLocs frame_1_writes args s ++ Jvm.arrayLocs frame_1_arrays args s ++ Jvm.staticLocs frame_1_statics s) 16 128 → Post tb e args s (.returned v) u) :
    ArmFor flags0 classFile x code maxLocals ret World_1 tables_1 room_1 Calls_1 rest_1 Pre_1 Post := by
  intro l hfl _ _ p e ha hc hk s m args below hf hA hF happ hP
  obtain ⟨hcalls, hrest, hpre⟩ := hP
  obtain ⟨-, -, -, hnamed, -, -, -, hat⟩ := (Spec.applies_iff hf).mp happ
  obtain ⟨hg, hn⟩ := and_e (Cond.before_iff.mp (show (Jvm.Cond.and given_1 narrow_1).before args s = true from hpre))
  obtain ⟨gv1, gv2⟩ := and_e hg
  obtain ⟨gv3, gv4⟩ := and_e gv2
  obtain ⟨gv5, gv6⟩ := and_e gv4
  obtain ⟨gv7, gv8⟩ := and_e gv6
  obtain ⟨w0, w1, w2, w3, rfl⟩ : ∃ w0 w1 w2 w3 : Value, args = #[w0, w1, w2, w3] := by
    have hs : args.size = 4 := by simpa [Cond.value, given_1] using gv1
    obtain ⟨L⟩ := args
    match L, hs with
    | [w0, w1, w2, w3], _ => exact ⟨w0, w1, w2, w3, rfl⟩
  have hw := fun d (hd : d ∈ tables_1) => atoms_spec (ws := Jvm.Cond.code x code maxLocals ret :: tables_1) hat d (List.mem_cons_of_mem _ hd)
  obtain ⟨i0, ei0⟩ := is_v gv3
  obtain rfl : w0 = (.int i0) := Option.some.inj ei0
  obtain ⟨i1, ei1⟩ := is_v gv5
  obtain rfl : w1 = (.int i1) := Option.some.inj ei1
  obtain ⟨i2, ei2⟩ := is_v gv7
  obtain rfl : w2 = (.int i2) := Option.some.inj ei2
  obtain ⟨i3, ei3⟩ := is_v gv8
  obtain rfl : w3 = (.int i3) := Option.some.inj ei3
  obtain ⟨n, o, h1, h2, h3, _, L, rfl, ⟨rfl, N⟩, hq⟩ := rm0 l s _ hw tables_1 i0 i1 i2 i3 s.heap s.heap.size (Nat.le_refl _) p e ha hc hk s m _ below hf ((Spec.applies_iff_loose hf).mp happ).1 ⟨rfl, State.Warmed39.refl s, rfl⟩ trivial
  refine ⟨n, _, h1, h2, h3, hpost _ _ _ _ _ _ ⟨Cond.after_iff.mpr rfl, Cond.after_iff.mpr (eq_i res_at (Term.int_eval (1)) rfl), trivial⟩ ⟨hq.1, hq.2.1, (hq.2.2.sift fun y hy => Or.inr (N y hy)).mono (by decide) (by decide)⟩⟩
theorem main_1_1 : Claimed_1_1 := comes_1 fun _ _ _ _ _ _ h hF => ⟨h.1, hF⟩
theorem main_1_2 : Claimed_1_2 := comes_1 fun _ _ _ _ _ _ h hF => ⟨h.2.1, hF⟩
end Jvm.Pilot.@@N@@
namespace Jvm.Pilot.@@N@@
open Jvm Jvm.ClassFile Sem Op Lib Jvm.Free Jvm.Stand Jvm.Pilot.@@N@@.Jvm.D
/-! MADE BY PROGRAM (witnessworld.py) out of the Statement's table words and the real class files: 10 classes; the members and pool entries that the words name. The judged class is class 1, her method 1. -/
namespace start1
open Jvm.ClassFile
def u (s : String) : CpInfo := .utf8 (stringToUtf16 s)
/-- a pool by its gaps: so many unusable entries, then the entry; so many at the end -/
def gap : Nat → List CpInfo → List CpInfo
  | 0, r => r
  | n + 1, r => .unusable :: gap n r
def poolList (es : List (Nat × CpInfo)) (last : Nat) : List CpInfo := es.foldr (fun e r => gap e.1 (e.2 :: r)) (gap last [])
def pool (es : List (Nat × CpInfo)) (last : Nat) : Array CpInfo := ⟨poolList es last⟩
def fileOf (pool : Array CpInfo) (this : Nat) (attrs : Array Attribute := #[]) (ms : Array MethodInfo := #[]) (fl : Nat := 33) (sup : Nat := 0) (ifs : Array Nat := #[]) (fds : Array FieldInfo := #[]) : ClassFile where
  minorVersion := 0
  majorVersion := 65
  constantPool := pool
  accessFlags := fl
  thisClass := this
  superClass := sup
  interfaces := ifs
  fields := fds
  methods := ms
  attributes := attrs
def plain (name : String) (sup : Option ClassId) : Class where
  name := name
  kind := .ordinary
  loader := none
  accessFlags := 33
  super := sup
  interfaces := #[]
  cf := none
  fields := #[]
  methods := #[]
  instanceTypes := #[]
  staticTypes := #[]
  resolved := #[]
  callSites := []
  init := .initialized
  statics := none
  mirror := none

def pool0 : Array CpInfo := pool [(5, u "<init>"), (0, u "()V"), (1, .class_ 10), (1, u "java/lang/Object")] 113

def k0c0 : Code := { maxStack := 0, maxLocals := 1, code := object_method_1_code, exceptionTable := #[], attributes := #[] }
def k0m0 : Method := { name := "<init>", desc := "()V", sig := { parameters := [], returnType := none }, accessFlags := 1, code := some k0c0 }
/-- java/lang/Object -/
def k0 : Class := { plain "java/lang/Object" none with
  accessFlags := 33
  interfaces := #[]
  cf := some (fileOf pool0 8 #[] #[{ accessFlags := 1, nameIndex := 5, descriptorIndex := 6, attributes := #[] }] 33 0 #[] #[])
  fields := #[]
  methods := #[k0m0]
  instanceTypes := #[]
  staticTypes := #[]
  resolved := Array.replicate 124 none
  statics := none }

def pool1 : Array CpInfo := pool [(2, .class_ 4), (1, u "java/lang/Object"), (0, u "<init>"), (0, u "()V"), (0, .class_ 8), (0, u "com/example/wedge/wedge/Entry"), (0, .methodref 7 10), (0, .nameAndType 5 11), (0, u "([B[B)V"), (0, .methodref 7 13), (0, .nameAndType 14 15), (0, u "size"), (0, u "()J"), (0, .class_ 17), (0, u "com/example/wedge/wedge/EntrySizePinLaw"), (2, u "law"), (0, u "(IIII)Z")] 5

def k1m0 : Method := { name := "<init>", desc := "()V", sig := { parameters := [], returnType := none }, accessFlags := 1, code := none }
def k1c1 : Code := { maxStack := 4, maxLocals := 12, code := code, exceptionTable := #[], attributes := #[] }
def k1m1 : Method := { name := "law", desc := "(IIII)Z", sig := { parameters := [.int, .int, .int, .int], returnType := some .boolean }, accessFlags := 9, code := some k1c1 }
/-- com/example/wedge/wedge/EntrySizePinLaw -/
def k1 : Class := { plain "com/example/wedge/wedge/EntrySizePinLaw" (some 0) with
  accessFlags := 49
  interfaces := #[]
  cf := some (fileOf pool1 16 #[] #[{ accessFlags := 1, nameIndex := 5, descriptorIndex := 6, attributes := #[] }, { accessFlags := 9, nameIndex := 20, descriptorIndex := 21, attributes := #[] }] 49 2 #[] #[])
  fields := #[]
  methods := #[k1m0, k1m1]
  instanceTypes := #[]
  staticTypes := #[]
  resolved := Array.replicate 27 none
  statics := none }

def pool2 : Array CpInfo := pool [(1, .methodref 2 3), (0, .class_ 4), (0, .nameAndType 5 6), (0, u "java/lang/Object"), (0, u "<init>"), (0, u "()V"), (0, .class_ 8), (0, u "java/lang/Record")] 13

def k2c0 : Code := { maxStack := 1, maxLocals := 1, code := jdk_30_method_1_code, exceptionTable := #[], attributes := #[] }
def k2m0 : Method := { name := "<init>", desc := "()V", sig := { parameters := [], returnType := none }, accessFlags := 4, code := some k2c0 }
/-- java/lang/Record -/
def k2 : Class := { plain "java/lang/Record" (some 0) with
  accessFlags := 1057
  interfaces := #[]
  cf := some (fileOf pool2 7 #[] #[{ accessFlags := 4, nameIndex := 5, descriptorIndex := 6, attributes := #[] }] 1057 2 #[] #[])
  fields := #[]
  methods := #[k2m0]
  instanceTypes := #[]
  staticTypes := #[]
  resolved := Array.replicate 22 none
  statics := none }

def pool3 : Array CpInfo := pool [(1, .methodref 2 3), (0, .class_ 4), (0, .nameAndType 5 6), (0, u "java/lang/Record"), (0, u "<init>"), (0, u "()V"), (0, .fieldref 8 9), (0, .class_ 10), (0, .nameAndType 11 12), (0, u "com/example/wedge/wedge/Entry"), (0, u "key"), (0, u "[B"), (0, .fieldref 8 14), (0, .nameAndType 15 12), (0, u "value"), (12, u "([B[B)V"), (3, u "size"), (0, u "()J")] 26

def k3c0 : Code := { maxStack := 2, maxLocals := 3, code := prog_10_method_1_code, exceptionTable := #[], attributes := #[] }
def k3m0 : Method := { name := "<init>", desc := "([B[B)V", sig := { parameters := [(.array .byte), (.array .byte)], returnType := none }, accessFlags := 1, code := some k3c0 }
def k3c1 : Code := { maxStack := 4, maxLocals := 1, code := prog_10_method_2_code, exceptionTable := #[], attributes := #[] }
def k3m1 : Method := { name := "size", desc := "()J", sig := { parameters := [], returnType := some .long }, accessFlags := 1, code := some k3c1 }
/-- com/example/wedge/wedge/Entry -/
def k3 : Class := { plain "com/example/wedge/wedge/Entry" (some 2) with
  accessFlags := 49
  interfaces := #[]
  cf := some (fileOf pool3 8 #[] #[{ accessFlags := 1, nameIndex := 5, descriptorIndex := 28, attributes := #[] }, { accessFlags := 1, nameIndex := 32, descriptorIndex := 33, attributes := #[] }] 49 2 #[] #[{ accessFlags := 18, nameIndex := 11, descriptorIndex := 12, attributes := #[] }, { accessFlags := 18, nameIndex := 15, descriptorIndex := 12, attributes := #[] }])
  fields := #[{ name := "key", type := (.array .byte), accessFlags := 18, slot := 0, constantValue := 0 }, { name := "value", type := (.array .byte), accessFlags := 18, slot := 1, constantValue := 0 }]
  methods := #[k3m0, k3m1]
  instanceTypes := #[(.array .byte), (.array .byte)]
  staticTypes := #[]
  resolved := Array.replicate 60 none
  statics := none }

def pool4 : Array CpInfo := pool [(1, u "java/lang/Cloneable"), (0, .class_ 1), (0, u "java/lang/Object"), (0, .class_ 3)] 3

/-- java/lang/Cloneable -/
def k4 : Class := { plain "java/lang/Cloneable" (some 0) with
  accessFlags := 1537
  interfaces := #[]
  cf := some (fileOf pool4 2 #[] #[] 1537 4 #[] #[])
  fields := #[]
  methods := #[]
  instanceTypes := #[]
  staticTypes := #[]
  resolved := Array.replicate 8 none
  statics := none }

def pool5 : Array CpInfo := pool [(1, u "java/io/Serializable"), (0, .class_ 1), (0, u "java/lang/Object"), (0, .class_ 3)] 3

/-- java/io/Serializable -/
def k5 : Class := { plain "java/io/Serializable" (some 0) with
  accessFlags := 1537
  interfaces := #[]
  cf := some (fileOf pool5 2 #[] #[] 1537 4 #[] #[])
  fields := #[]
  methods := #[]
  instanceTypes := #[]
  staticTypes := #[]
  resolved := Array.replicate 8 none
  statics := none }

/-- the primitive byte -/
def k6 : Class := { plain "byte" none with kind := .primitive 'B', accessFlags := 0x411 }
/-- [B -/
def k7 : Class := { plain "[B" (some 0) with kind := .array 6 .byte, interfaces := #[4, 5], accessFlags := 1041 }

/-- the primitive int -/
def k8 : Class := { plain "int" none with kind := .primitive 'I', accessFlags := 0x411 }
/-- [I -/
def k9 : Class := { plain "[I" (some 0) with kind := .array 8 .int, interfaces := #[4, 5], accessFlags := 1041 }

def heap : Heap := #[]
def classes : Array Class := #[k0, k1, k2, k3, k4, k5, k6, k7, k8, k9]
def interned : List (Array UInt16 × Addr) := []
def slotsUsed : Nat := 0
def theMethod : MethodId := ⟨1, 1⟩
def args0 : Array Value := #[.int 5, .int 7, .int 2, .int 4]
def aboutOver (below : List Frame) : State where
  vm := { classes := classes, interned := interned.toArray }
  heap := heap
  slotsUsed := slotsUsed
  threads := #[{ frames := .invoking theMethod args0 :: below }]
def below0 : List Frame := [.native { method := ⟨0, 0⟩, args := #[] }]
def about1 : State := aboutOver below0
def p0 : Program := .bare "" "" ""
def e0 : Env := launch0.env 0 0 0
theorem w_frames : about1.frames = Frame.invoking theMethod args0 :: below0 := rfl
set_option maxRecDepth 65536 in
theorem w_args : argsFit about1.vm theMethod args0 = true := by decide +kernel
set_option maxRecDepth 65536 in
theorem w_heap : heapFits about1 = true := by decide +kernel
set_option maxRecDepth 65536 in
theorem w_runnable : about1.curStatus? = some .runnable := by decide +kernel
set_option maxRecDepth 65536 in
theorem w_alone : about1.alone = true := by decide +kernel
set_option maxRecDepth 65536 in
theorem w_named : about1.methodNamed? x = some theMethod := by decide +kernel
set_option maxRecDepth 65536 in
theorem w_hears : about1.hears theMethod below0 = true := by decide +kernel
set_option maxRecDepth 65536 in
theorem w_ripe : about1.ripe theMethod args0 below0 = true := by decide +kernel
theorem w_running : about1.status = .running := rfl
set_option maxRecDepth 65536 in
theorem w_room : about1.hasRoom e0.platform room_1 = true :=
  launch0.hasRoom_least _ room_1 (by decide +kernel) (by decide +kernel) (by decide +kernel) (by decide +kernel) (by decide +kernel) (by decide +kernel)
theorem allAtoms_all (ts : List Jvm.Cond) (a : Array Jvm.Value) (st : Jvm.State) : (allAtoms ts).before a st = ts.all (fun c => c.before a st) := by
  induction ts with
  | nil => rfl
  | cons c t ih =>
    show (Jvm.Cond.and c (allAtoms t)).before a st = _
    rw [Jvm.Cond.before_and, ih, List.all_cons]
def words1 : List Jvm.Cond := Jvm.Cond.code x code maxLocals ret :: tables_1
/-- a 'code' word, met by the world's own term for the bytes: nothing is compared byte by byte -/
theorem code_word {y : MethodName} {bytes : ByteArray} {mx : Nat} {rt : Option FieldType} {a : Array Value} {s : State} {m : MethodId} {meth : Method} {c : Code} (h1 : s.methodNamed? y = some m) (h2 : s.vm.method? m = some meth) (h3 : meth.code = some c) (h4 : c.code = bytes)
    (h5 : (c.maxLocals == mx && c.exceptionTable.isEmpty && decide (c.maxStack ≤ mostOperands) && decide (meth.sig.returnType = rt) && !meth.locks && decide (parseMethodDescriptor y.desc = some meth.sig)) = true) : (Jvm.Cond.code y bytes mx rt).before a s = true := by
  simp only [Bool.and_eq_true, beq_iff_eq, Bool.not_eq_true', decide_eq_true_eq] at h5
  obtain ⟨⟨⟨⟨⟨g1, g2⟩, g3⟩, g4⟩, g5⟩, g6⟩ := h5
  simp [Cond.before, Cond.holds, Cond.value, h1, h2, h3, h4, g1, g2, g3, g4, g5, g6]
def isCode : Jvm.Cond → Bool
  | .code _ _ _ _ => true
  | _ => false
theorem all_split {L : List Jvm.Cond} {P : Jvm.Cond → Bool} (h1 : L.all (fun c => isCode c || P c) = true) (h2 : ∀ c ∈ L.filter isCode, P c = true) : L.all P = true := by
  refine List.all_eq_true.mpr fun c hc => ?_
  have h := List.all_eq_true.mp h1 c hc
  rcases Bool.eq_false_or_eq_true (isCode c) with hi | hi
  · exact h2 c (List.mem_filter.mpr ⟨hc, hi⟩)
  · simpa [hi] using h
set_option maxRecDepth 65536 in
theorem w_c0 : (Jvm.Cond.code x code maxLocals ret).before args0 about1 = true := code_word (m := ⟨1, 1⟩) (meth := k1m1) (c := k1c1) (by decide +kernel) rfl rfl rfl (by decide +kernel)
set_option maxRecDepth 65536 in
theorem w_c1 : (Jvm.Cond.code ({ cls := "com/example/wedge/wedge/Entry", name := "<init>", desc := "([B[B)V" } : Jvm.MethodName) prog_10_method_1_code (3 : Nat) (Option.none : Option Jvm.ClassFile.FieldType)).before args0 about1 = true := code_word (m := ⟨3, 0⟩) (meth := k3m0) (c := k3c0) (by decide +kernel) rfl rfl rfl (by decide +kernel)
set_option maxRecDepth 65536 in
theorem w_c2 : (Jvm.Cond.code ({ cls := "java/lang/Record", name := "<init>", desc := "()V" } : Jvm.MethodName) jdk_30_method_1_code (1 : Nat) (Option.none : Option Jvm.ClassFile.FieldType)).before args0 about1 = true := code_word (m := ⟨2, 0⟩) (meth := k2m0) (c := k2c0) (by decide +kernel) rfl rfl rfl (by decide +kernel)
set_option maxRecDepth 65536 in
theorem w_c3 : (Jvm.Cond.code ({ cls := "java/lang/Object", name := "<init>", desc := "()V" } : Jvm.MethodName) object_method_1_code (1 : Nat) (Option.none : Option Jvm.ClassFile.FieldType)).before args0 about1 = true := code_word (m := ⟨0, 0⟩) (meth := k0m0) (c := k0c0) (by decide +kernel) rfl rfl rfl (by decide +kernel)
set_option maxRecDepth 65536 in
theorem w_c4 : (Jvm.Cond.code ({ cls := "com/example/wedge/wedge/Entry", name := "size", desc := "()J" } : Jvm.MethodName) prog_10_method_2_code (1 : Nat) (Option.some Jvm.ClassFile.FieldType.long)).before args0 about1 = true := code_word (m := ⟨3, 1⟩) (meth := k3m1) (c := k3c1) (by decide +kernel) rfl rfl rfl (by decide +kernel)
def codes1 : List Jvm.Cond := [Jvm.Cond.code x code maxLocals ret, Jvm.Cond.code ({ cls := "com/example/wedge/wedge/Entry", name := "<init>", desc := "([B[B)V" } : Jvm.MethodName) prog_10_method_1_code (3 : Nat) (Option.none : Option Jvm.ClassFile.FieldType), Jvm.Cond.code ({ cls := "java/lang/Record", name := "<init>", desc := "()V" } : Jvm.MethodName) jdk_30_method_1_code (1 : Nat) (Option.none : Option Jvm.ClassFile.FieldType), Jvm.Cond.code ({ cls := "java/lang/Object", name := "<init>", desc := "()V" } : Jvm.MethodName) object_method_1_code (1 : Nat) (Option.none : Option Jvm.ClassFile.FieldType), Jvm.Cond.code ({ cls := "com/example/wedge/wedge/Entry", name := "size", desc := "()J" } : Jvm.MethodName) prog_10_method_2_code (1 : Nat) (Option.some Jvm.ClassFile.FieldType.long)]
set_option maxRecDepth 65536 in
theorem codes_eq : words1.filter isCode = codes1 := rfl
theorem w_codes : ∀ c ∈ words1.filter isCode, c.before args0 about1 = true := by
  rw [codes_eq]
  intro c hc
  simp only [codes1, List.mem_cons, List.not_mem_nil, or_false] at hc
  rcases hc with rfl | rfl | rfl | rfl | rfl
  · exact w_c0
  · exact w_c1
  · exact w_c2
  · exact w_c3
  · exact w_c4
set_option maxRecDepth 65536 in
theorem w_t1 : (words1.take 24).all (fun c => isCode c || c.before args0 about1) = true := by decide +kernel
set_option maxRecDepth 65536 in
theorem w_t2 : (words1.drop 24).all (fun c => isCode c || c.before args0 about1) = true := by decide +kernel
theorem w_tables : (allAtoms (Jvm.Cond.code x code maxLocals ret :: tables_1)).before args0 about1 = true := by
  rw [allAtoms_all]
  show words1.all (fun c => c.before args0 about1) = true
  refine all_split ?_ w_codes
  rw [← List.take_append_drop 24 words1, List.all_append, w_t1, w_t2]
  rfl
set_option maxRecDepth 65536 in
theorem w_case : (Jvm.Cond.and given_1 narrow_1).before args0 about1 = true := by decide +kernel
theorem w_applies : (headSpec (Jvm.Cond.code x code maxLocals ret :: tables_1) room_1).applies x e0.platform about1 = true :=
  (Spec.applies_iff w_frames).mpr ⟨w_running, w_runnable, w_alone, w_named, w_hears, w_ripe, w_room, w_tables⟩
theorem atStart : AtStart classFile x code maxLocals ret World_1 tables_1 room_1 Calls_1 rest_1 Pre_1 launch0 p0 e0 about1 theMethod args0 below0 :=
  ⟨lists_1, trivial, launch0.admits_env _ _ _, launch0.least_env, fairChoices_fair.cas, fairChoices_fair.clock, w_frames, w_args, w_heap, w_applies, trivial, trivial, w_case⟩
end start1
theorem witness_1 : WitnessClaimed_1 := ⟨start1.p0, start1.e0, start1.about1, start1.theMethod, start1.args0, start1.below0, start1.atStart⟩
end Jvm.Pilot.@@N@@
