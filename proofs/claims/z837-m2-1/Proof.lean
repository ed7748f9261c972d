import JvmDerived
import JvmDerived.Pilot.@@N@@Statement
import JvmDerived.Pilot.@@N@@Code
set_option linter.unusedVariables false
set_option linter.unusedSimpArgs false
namespace Jvm.RoadKit
open Sem ClassFile Op Lib Jvm.Stand Jvm.Free Jvm.LawKit
section New
variable {p : Program} {l : Launch} {e : Env} {R : Room} {s : State} {m : MethodId} {args : Array Value} {below : List Frame} {meth : Method} {c : Code} {T : State} {locs : List Loc} {cells slots : Nat}
theorem retI (X : Stand p l e R s m args below meth c T locs cells slots) (hx : p.tables.exec = Jvm.exec) {pc : Nat} {Ls : Array Slot} {z : Int32} {rest : List Value} (hret : meth.sig.returnType = some .int) (hd : decode c.code pc = .ok (.ireturn, 1)) {fs : List Frame}
    (hl : ∀ (f : JFrame) (acts : List Action), f.method = m → f.locked = none → f.entered = [] → (doReturn e (T.setTop f) acts (some (.int z))).1 = T.setFrames fs) : Steps p.tables e below (T.setTop (mkF m pc Ls (.int z :: rest))) (T.setFrames fs) := by
  have hm' : T.vm.method? m = some meth := X.method'
  have hn : narrow .int (.int z) = .int z := rfl
  show Steps p.tables e below (T.setTop { method := m, pc := pc, locals := Ls, stack := _ :: rest, locked := none }) _
  jvm_step X.here [X.here.top, hx, hd, hm', hret, hn]
  first | (intro acts; rw [hl _ acts rfl rfl rfl]) | rw [hl _ _ rfl rfl rfl]
  exact Steps.refl _
end New
end Jvm.RoadKit
namespace Jvm.Pilot.@@N@@
open Jvm Jvm.ClassFile Sem Op Lib Jvm.Free Jvm.Stand Jvm.LawKit Jvm.RoadKit Bundle Jvm.Pilot.@@N@@.Jvm.D
def own_Ends (p : Program) (e : Env) (below : List Frame) (T : State) (g : JFrame) (P : Outcome → State → Prop) : Prop := ∃ s₂ o, Steps p.tables e below (T.setTop g) s₂ ∧ s₂.status = .running ∧ Ended s₂ below o ∧ P o s₂
theorem own_go {p : Program} {e : Env} {below : List Frame} {T T' : State} {g g' : JFrame} {P : Outcome → State → Prop} (h : ∀ t, Steps p.tables e below (T'.setTop g') t → Steps p.tables e below (T.setTop g) t) (k : own_Ends p e below T' g' P) : own_Ends p e below T g P := by
  obtain ⟨a, o, q, r⟩ := k
  exact ⟨a, o, h _ q, r⟩
def own_Len (Z : State) (h : Heap) (a : Addr) (ty : FieldType) (n : Int32) : Prop := ∃ c : Cell, Arr Z h a c ty ∧ c.slots.size = n.toNatClampNeg ∧ ¬ n < 0
theorem own_Len.lt {Z : State} {h : Heap} {a : Addr} {ty : FieldType} {n : Int32} (F : own_Len Z h a ty n) : a < h.size := by obtain ⟨c, A, -⟩ := F; exact A.lt
theorem own_Len.ext {Z : State} {h h' : Heap} {a : Addr} {ty : FieldType} {n : Int32} (F : own_Len Z h a ty n) (E : Ext h h') : own_Len Z h' a ty n := by obtain ⟨c, A, r⟩ := F; exact ⟨c, A.ext E, r⟩
theorem own_Len.other {Z : State} {h h' : Heap} {a b : Addr} {ty : FieldType} {n : Int32} {sl : Nat} {v : Value} (F : own_Len Z h b ty n) (W : Wr h h' a sl v) (q : b ≠ a) : own_Len Z h' b ty n := by obtain ⟨c, A, r⟩ := F; exact ⟨c, A.other W q, r⟩
theorem own_Len.same {Z : State} {h h' : Heap} {a : Addr} {ty : FieldType} {n : Int32} {sl : Nat} {v : Value} (F : own_Len Z h a ty n) (W : Wr h h' a sl v) : own_Len Z h' a ty n := by obtain ⟨c, A, r1, r2⟩ := F; exact ⟨_, A.same W, by rw [sz_set]; exact r1, r2⟩
theorem own_Len.keep {Z : State} {h h' : Heap} {a : Addr} {ty : FieldType} {n : Int32} {ws : List Addr} (F : own_Len Z h a ty n) (K : Keep h h' ws) (q : a ∉ ws) : own_Len Z h' a ty n := by obtain ⟨c, A, r⟩ := F; exact ⟨c, ⟨K.2.1 a c A.1 q, A.2⟩, r⟩
theorem own_as {p : Program} {e : Env} {below : List Frame} {T : State} {g g' : JFrame} {P : Outcome → State → Prop} (h : g = g') (k : own_Ends p e below T g' P) : own_Ends p e below T g P := h ▸ k

theorem own_zero (f k : Int64) : f + ((0 : Int64) * k) = f := by
  rw [Int64.zero_mul, Int64.add_zero]
theorem own_next (f k q : Int64) : (f + ((q + (1 : Int64)) * k)) - (f + (q * k)) = k := by
  apply Int64.toInt_inj.mp
  have e : (q + (1 : Int64)) * k = q * k + k := by rw [Int64.add_mul, Int64.one_mul]
  rw [e]
  have a1 := c_ladd f (q * k + k)
  have a2 := c_ladd f (q * k)
  have a3 := c_ladd (q * k) k
  have a4 := c_lsub (f + (q * k + k)) (f + q * k)
  have r1 := rng64 (f + (q * k + k) - (f + q * k))
  have r2 := rng64 k
  omega
theorem own_sub (f x : Int64) : (f + x) - f = x := by
  apply Int64.toInt_inj.mp
  have a1 := c_ladd f x
  have a2 := c_lsub (f + x) f
  have r1 := rng64 (f + x - f)
  have r2 := rng64 x
  omega
theorem own_back (f : Int64) (p k : Int32) (hk : ¬ k.toInt64 = (0 : Int64)) : ((f + (p.toInt64 * k.toInt64)) - f) / k.toInt64 = p.toInt64 := by
  rw [own_sub]
  have rp := rng32 p
  have rk := rng32 k
  have ep := c_i2l p
  have ek := c_i2l k
  have nz : k.toInt ≠ 0 := fun e => hk (Int64.toInt_inj.mp (by rw [ek, e]; decide))
  have h3 := c_lmul p.toInt64 k.toInt64
  have r := rng64 (p.toInt64 * k.toInt64)
  rw [ep, ek] at h3
  have b1 : p.toInt * k.toInt ≤ 2147483648 * 2147483648 := by
    have := Int.natAbs_mul p.toInt k.toInt
    have h1 : (p.toInt * k.toInt).natAbs ≤ 2147483648 * 2147483648 := by rw [this]; exact Nat.mul_le_mul (by omega) (by omega)
    omega
  have b2 : -(2147483648 * 2147483648) ≤ p.toInt * k.toInt := by
    have := Int.natAbs_mul p.toInt k.toInt
    have h1 : (p.toInt * k.toInt).natAbs ≤ 2147483648 * 2147483648 := by rw [this]; exact Nat.mul_le_mul (by omega) (by omega)
    omega
  have e2 : (p.toInt64 * k.toInt64).toInt = p.toInt * k.toInt := by
    generalize p.toInt * k.toInt = P at h3 b1 b2
    omega
  apply Int64.toInt_inj.mp
  rw [ep, Int64.toInt_div_of_ne_left _ _ (fun e => by rw [e] at e2; rw [show (Int64.minValue).toInt = -9223372036854775808 by decide] at e2; omega), e2, ek]
  exact Int.mul_tdiv_cancel _ nz
theorem d2_0 : decode jdk_30_method_1_code 0 = .ok (.aload_n 0, 1) := by decide +kernel
theorem d2_1 : decode jdk_30_method_1_code 1 = .ok (.invokespecial 1, 3) := by decide +kernel
theorem d2_4 : decode jdk_30_method_1_code 4 = .ok (.return_, 1) := by decide +kernel
theorem pn_2 : plainName "java/lang/Record" = true := by first | (simp [plainName, overriddenIn]; done) | decide +kernel
theorem ef_2 (m : MethodId) (a0 : Addr) : entryFrame m #[(.ref a0)] 1 = mkF m 0 #[.val (.ref a0)] [] := by first | (simp [entryFrame, mkF, argsToLocals, Value.category]; done) | rfl
def Q_rmRec (Z : State) (a0 : Addr) (h0 : Heap) (n0 : Nat) (v : Option Value) (h : Heap) (L : List Loc) : Prop := v = none ∧ Fr n0 L ∧ h = h0
set_option maxRecDepth 65536 in
set_option maxHeartbeats 40000000 in
theorem rmRec (l : Launch) (Z : State) (a0 : Array Value) (hw : ∀ d ∈ tables_1, d.before a0 Z = true) (ws : List Jvm.Cond) (a0 : Addr) (h0 : Heap) (n0 : Nat) (Z0 : n0 ≤ h0.size) :
    MetFree l (⟨"java/lang/Record", "<init>", "()V"⟩ : MethodName) (head1 (Jvm.Cond.code (⟨"java/lang/Record", "<init>", "()V"⟩ : MethodName) jdk_30_method_1_code 1 none :: ws) ({ frames := 1, cells := 0, slots := 0, locals := 12 } : Room)) (fun a U => a = #[(.ref a0)] ∧ Z.Warmed39 U.vm ∧ U.heap = h0) (fun _ _ _ _ _ => True) (fun _ U ou U' => ∃ v L, ou = .returned v ∧ Q_rmRec Z a0 h0 n0 v U'.heap L ∧ FrameEnd U ou U' L ({ frames := 1, cells := 0, slots := 0, locals := 12 } : Room).cells ({ frames := 1, cells := 0, slots := 0, locals := 12 } : Room).slots) := by
  refine MetFree.of_bodySF (plainFor_of_name pn_2) hisR ?_
  intro p e s m args below meth c s₁ Bd hml0 hP hK
  obtain ⟨rfl, hZ, hh⟩ := hP
  have hx := Bd.exec
  have hby := Bd.bytes
  have hml : c.maxLocals = 1 := hml0
  have hown : s.vm.findClass "java/lang/Record" = some m.cls := findClass_of_methodNamed Bd.named
  have hnm := (name_of_methodNamed Bd.named Bd.method).1
  have X0 : Stand p l e ({ frames := 1, cells := 0, slots := 0, locals := 12 } : Room) s m #[(.ref a0)] below meth c s₁ [] 0 0 := Stand.of_body Bd
  have e0 : s₁.heap = h0 := by rw [← hh, Bd.state]; rfl
  have N0 := Fr.nil n0
  have K0 := Keep.refl h0 []
  refine own_as (ef_2 m a0) ?_
  show own_Ends p e below s₁ (mkF m 0 #[.val (.ref a0)] []) _
  refine own_go (fun _ => XS.aloadN X0.here hx rfl (hb hby d2_0) rfl rfl) ?_
  show own_Ends p e below s₁ (mkF m 1 #[.val (.ref a0)] [(.ref a0)]) _
  obtain ⟨T1, X1, e1, st1⟩ := initO X0 hx hZ hown (hw _ (List.mem_of_getElem? (i := 11) rfl)) (hw _ (List.mem_of_getElem? (i := 12) rfl)) (hw _ (List.mem_of_getElem? (i := 13) rfl)) e0 (g := (mkF m 1 #[.val (.ref a0)] [(.ref a0)])) rfl (by rw [hml]; rfl) rfl (hb hby d2_1) (by decide) (W := 0) (by show 2 * 0 + _ ≤ _; exact Nat.le_of_eq rfl) (by decide)
  refine own_go st1 ?_
  show own_Ends p e below T1 (mkF m 4 #[.val (.ref a0)] []) _
  obtain ⟨fs, hr, hrun, hended, hW, hsame⟩ := X1.leave (v := none) (fun _ => rfl)
  refine ⟨_, _, X1.returnOut hx Bd.returns (hb hby d2_4) hr, hrun, hended, _, _, rfl, ?_, ⟨_, rfl⟩, hW, hsame.mono (by decide) (by decide)⟩
  show Q_rmRec Z a0 h0 n0 _ T1.heap _
  rw [e1]
  exact ⟨rfl, N0, rfl⟩
theorem d1_0 : decode prog_20_method_1_code 0 = .ok (.aload_n 0, 1) := by decide +kernel
theorem d1_1 : decode prog_20_method_1_code 1 = .ok (.invokespecial 1, 3) := by decide +kernel
theorem d1_4 : decode prog_20_method_1_code 4 = .ok (.aload_n 0, 1) := by decide +kernel
theorem d1_5 : decode prog_20_method_1_code 5 = .ok (.lload_n 1, 1) := by decide +kernel
theorem d1_6 : decode prog_20_method_1_code 6 = .ok (.putfield 7, 3) := by decide +kernel
theorem d1_9 : decode prog_20_method_1_code 9 = .ok (.aload_n 0, 1) := by decide +kernel
theorem d1_10 : decode prog_20_method_1_code 10 = .ok (.lload_n 3, 1) := by decide +kernel
theorem d1_11 : decode prog_20_method_1_code 11 = .ok (.putfield 13, 3) := by decide +kernel
theorem d1_14 : decode prog_20_method_1_code 14 = .ok (.aload_n 0, 1) := by decide +kernel
theorem d1_15 : decode prog_20_method_1_code 15 = .ok (.lload 5, 2) := by decide +kernel
theorem d1_17 : decode prog_20_method_1_code 17 = .ok (.putfield 16, 3) := by decide +kernel
theorem d1_20 : decode prog_20_method_1_code 20 = .ok (.return_, 1) := by decide +kernel
theorem pn_1 : plainName "com/example/naviglio/naviglio/storage/KeptTicks" = true := by first | (simp [plainName, overriddenIn]; done) | decide +kernel
theorem ef_1 (m : MethodId) (o : Addr) (q1 : Int64) (q2 : Int64) (q3 : Int64) : entryFrame m #[(.ref o), (.long q1), (.long q2), (.long q3)] 7 = mkF m 0 #[.val (.ref o), .val (.long q1), .second, .val (.long q2), .second, .val (.long q3), .second] [] := by first | (simp [entryFrame, mkF, argsToLocals, Value.category]; done) | rfl
def Q_rmInit (Z : State) (o : Addr) (q1 : Int64) (q2 : Int64) (q3 : Int64) (h0 : Heap) (n0 : Nat) (v : Option Value) (h : Heap) (L : List Loc) : Prop := v = none ∧ Fr n0 L ∧ Keep h0 h [o] ∧ Exa Z h o "com/example/naviglio/naviglio/storage/KeptTicks" ∧ Fld Z h o "com/example/naviglio/naviglio/storage/KeptTicks" "first" "J" (.long q1) ∧ Fld Z h o "com/example/naviglio/naviglio/storage/KeptTicks" "step" "J" (.long q2) ∧ Fld Z h o "com/example/naviglio/naviglio/storage/KeptTicks" "count" "J" (.long q3)
theorem pd_0 : parseMethodDescriptor "()V" = some ⟨[], none⟩ := by decide +kernel
set_option maxRecDepth 65536 in
set_option maxHeartbeats 40000000 in
theorem rmInit (l : Launch) (Z : State) (a0 : Array Value) (hw : ∀ d ∈ tables_1, d.before a0 Z = true) (ws : List Jvm.Cond) (o : Addr) (q1 : Int64) (q2 : Int64) (q3 : Int64) (h0 : Heap) (n0 : Nat) (Z0 : n0 ≤ h0.size) (E_o : Exa Z h0 o "com/example/naviglio/naviglio/storage/KeptTicks") (F_o_first : Fld Z h0 o "com/example/naviglio/naviglio/storage/KeptTicks" "first" "J" (.long (0 : Int64))) (F_o_step : Fld Z h0 o "com/example/naviglio/naviglio/storage/KeptTicks" "step" "J" (.long (0 : Int64))) (F_o_count : Fld Z h0 o "com/example/naviglio/naviglio/storage/KeptTicks" "count" "J" (.long (0 : Int64))) (g_o : n0 ≤ o) :
    MetFree l (⟨"com/example/naviglio/naviglio/storage/KeptTicks", "<init>", "(JJJ)V"⟩ : MethodName) (head1 (Jvm.Cond.code (⟨"com/example/naviglio/naviglio/storage/KeptTicks", "<init>", "(JJJ)V"⟩ : MethodName) prog_20_method_1_code 7 none :: ws) ({ frames := 2, cells := 0, slots := 0, locals := 24 } : Room)) (fun a U => a = #[(.ref o), (.long q1), (.long q2), (.long q3)] ∧ Z.Warmed39 U.vm ∧ U.heap = h0) (fun _ _ _ _ _ => True) (fun _ U ou U' => ∃ v L, ou = .returned v ∧ Q_rmInit Z o q1 q2 q3 h0 n0 v U'.heap L ∧ FrameEnd U ou U' L ({ frames := 2, cells := 0, slots := 0, locals := 24 } : Room).cells ({ frames := 2, cells := 0, slots := 0, locals := 24 } : Room).slots) := by
  refine MetFree.of_bodySF (plainFor_of_name pn_1) hisR ?_
  intro p e s m args below meth c s₁ Bd hml0 hP hK
  obtain ⟨rfl, hZ, hh⟩ := hP
  have hx := Bd.exec
  have hby := Bd.bytes
  have hml : c.maxLocals = 7 := hml0
  have hown : s.vm.findClass "com/example/naviglio/naviglio/storage/KeptTicks" = some m.cls := findClass_of_methodNamed Bd.named
  have hnm := (name_of_methodNamed Bd.named Bd.method).1
  have X0 : Stand p l e ({ frames := 2, cells := 0, slots := 0, locals := 24 } : Room) s m #[(.ref o), (.long q1), (.long q2), (.long q3)] below meth c s₁ [] 0 0 := Stand.of_body Bd
  have e0 : s₁.heap = h0 := by rw [← hh, Bd.state]; rfl
  have N0 := Fr.nil n0
  have K0 := Keep.refl h0 [o]
  refine own_as (ef_1 m o q1 q2 q3) ?_
  show own_Ends p e below s₁ (mkF m 0 #[.val (.ref o), .val (.long q1), .second, .val (.long q2), .second, .val (.long q3), .second] []) _
  refine own_go (fun _ => XS.aloadN X0.here hx rfl (hb hby d1_0) rfl rfl) ?_
  show own_Ends p e below s₁ (mkF m 1 #[.val (.ref o), .val (.long q1), .second, .val (.long q2), .second, .val (.long q3), .second] [(.ref o)]) _
  obtain ⟨_, _, ⟨T1, L1, k1, n1⟩, -, X1, ⟨Lc1, hQ1, l1, y1, z1⟩, st1⟩ := X0.specialBack hx (y := (⟨"java/lang/Record", "<init>", "()V"⟩ : MethodName)) rfl hown (mvT hZ (hw _ (List.mem_of_getElem? (i := 6) rfl))) (mvT hZ (hw _ (List.mem_of_getElem? (i := 7) rfl))) (mvT hZ (hw _ (List.mem_of_getElem? (i := 10) rfl))) (by decide) (backOf (W := 0) (rmRec l Z a0 hw [] o  h0 n0 Z0 ) hZ (hw _ (List.mem_of_getElem? (i := 10) rfl)) (hw _ (List.mem_of_getElem? (i := 9) rfl)) (by decide) (by decide)) (g := (mkF m 1 #[.val (.ref o), .val (.long q1), .second, .val (.long q2), .second, .val (.long q3), .second] [(.ref o)])) rfl (by rw [hml]; rfl) (Steps.refl _) (a := o) (argsL := []) (rest := []) (lenOf pd_0 rfl) rfl (by show 2 * 0 + _ ≤ _; exact Nat.le_of_eq rfl) (hb hby d1_1) (fun _ _ => ⟨rfl, e0, (by decide : 0 + 0 ≤ _), (by decide : 0 + 0 ≤ _)⟩)
  dsimp only [Pt.U, Pt.locs, Pt.cells, Pt.slots] at X1 l1 y1 z1 st1 hQ1
  subst l1 y1 z1
  refine own_go (fun _ k => st1.trans k) ?_
  obtain ⟨rfl, N1q, eh1⟩ := hQ1
  have N1 := Fr.app N0 N1q
  show own_Ends p e below T1 (mkF m 4 #[.val (.ref o), .val (.long q1), .second, .val (.long q2), .second, .val (.long q3), .second] []) _
  refine own_go (fun _ => XS.aloadN X1.here hx rfl (hb hby d1_4) rfl rfl) ?_
  show own_Ends p e below T1 (mkF m 5 #[.val (.ref o), .val (.long q1), .second, .val (.long q2), .second, .val (.long q3), .second] [(.ref o)]) _
  refine own_go (fun _ => XS.lloadN X1.here hx rfl (hb hby d1_5) rfl) ?_
  show own_Ends p e below T1 (mkF m 6 #[.val (.ref o), .val (.long q1), .second, .val (.long q2), .second, .val (.long q3), .second] [(.long q1), (.ref o)]) _
  obtain ⟨T2, h2, X2, e2, W2, st2⟩ := putF X1 hx hZ hown (host := "") (Or.inl (hw _ (List.mem_of_getElem? (i := 14) rfl))) Via.refl eh1 F_o_first E_o (Or.inr ⟨(hw _ (List.mem_of_getElem? (i := 15) rfl)), rfl, hnm⟩) (hw _ (List.mem_of_getElem? (i := 1) rfl)) (ty := .long) (by decide) rfl rfl (g := (mkF m 6 #[.val (.ref o), .val (.long q1), .second, .val (.long q2), .second, .val (.long q3), .second] [(.long q1), (.ref o)])) rfl rfl (hb hby d1_6)
  refine own_go st2 ?_
  replace F_o_first := F_o_first.same W2
  replace E_o := E_o.wr W2
  replace F_o_step := F_o_step.other W2 (Or.inr (slot_ne (Or.inr (hw _ (List.mem_of_getElem? (i := 17) rfl))) (Or.inr (hw _ (List.mem_of_getElem? (i := 15) rfl))) (by decide) (t := .long) (t' := .long) (by decide) (by decide)))
  replace F_o_count := F_o_count.other W2 (Or.inr (slot_ne (Or.inr (hw _ (List.mem_of_getElem? (i := 19) rfl))) (Or.inr (hw _ (List.mem_of_getElem? (i := 15) rfl))) (by decide) (t := .long) (t' := .long) (by decide) (by decide)))
  have N2 := Fr.snoc X2 N1 g_o
  have K2 := K0.wr W2 (Or.inl (List.mem_of_getElem? (i := 0) rfl))
  have Z2 : n0 ≤ h2.size := Nat.le_trans Z0 K2.1
  show own_Ends p e below T2 (mkF m 9 #[.val (.ref o), .val (.long q1), .second, .val (.long q2), .second, .val (.long q3), .second] []) _
  refine own_go (fun _ => XS.aloadN X2.here hx rfl (hb hby d1_9) rfl rfl) ?_
  show own_Ends p e below T2 (mkF m 10 #[.val (.ref o), .val (.long q1), .second, .val (.long q2), .second, .val (.long q3), .second] [(.ref o)]) _
  refine own_go (fun _ => XS.lloadN X2.here hx rfl (hb hby d1_10) rfl) ?_
  show own_Ends p e below T2 (mkF m 11 #[.val (.ref o), .val (.long q1), .second, .val (.long q2), .second, .val (.long q3), .second] [(.long q2), (.ref o)]) _
  obtain ⟨T3, h3, X3, e3, W3, st3⟩ := putF X2 hx hZ hown (host := "") (Or.inl (hw _ (List.mem_of_getElem? (i := 16) rfl))) Via.refl e2 F_o_step E_o (Or.inr ⟨(hw _ (List.mem_of_getElem? (i := 17) rfl)), rfl, hnm⟩) (hw _ (List.mem_of_getElem? (i := 1) rfl)) (ty := .long) (by decide) rfl rfl (g := (mkF m 11 #[.val (.ref o), .val (.long q1), .second, .val (.long q2), .second, .val (.long q3), .second] [(.long q2), (.ref o)])) rfl rfl (hb hby d1_11)
  refine own_go st3 ?_
  replace F_o_step := F_o_step.same W3
  replace E_o := E_o.wr W3
  replace F_o_first := F_o_first.other W3 (Or.inr (slot_ne (Or.inr (hw _ (List.mem_of_getElem? (i := 15) rfl))) (Or.inr (hw _ (List.mem_of_getElem? (i := 17) rfl))) (by decide) (t := .long) (t' := .long) (by decide) (by decide)))
  replace F_o_count := F_o_count.other W3 (Or.inr (slot_ne (Or.inr (hw _ (List.mem_of_getElem? (i := 19) rfl))) (Or.inr (hw _ (List.mem_of_getElem? (i := 17) rfl))) (by decide) (t := .long) (t' := .long) (by decide) (by decide)))
  have N3 := Fr.snoc X3 N2 g_o
  have K3 := K2.wr W3 (Or.inl (List.mem_of_getElem? (i := 0) rfl))
  have Z3 : n0 ≤ h3.size := Nat.le_trans Z0 K3.1
  show own_Ends p e below T3 (mkF m 14 #[.val (.ref o), .val (.long q1), .second, .val (.long q2), .second, .val (.long q3), .second] []) _
  refine own_go (fun _ => XS.aloadN X3.here hx rfl (hb hby d1_14) rfl rfl) ?_
  show own_Ends p e below T3 (mkF m 15 #[.val (.ref o), .val (.long q1), .second, .val (.long q2), .second, .val (.long q3), .second] [(.ref o)]) _
  refine own_go (fun _ => XS.lload X3.here hx rfl (hb hby d1_15) rfl) ?_
  show own_Ends p e below T3 (mkF m 17 #[.val (.ref o), .val (.long q1), .second, .val (.long q2), .second, .val (.long q3), .second] [(.long q3), (.ref o)]) _
  obtain ⟨T4, h4, X4, e4, W4, st4⟩ := putF X3 hx hZ hown (host := "") (Or.inl (hw _ (List.mem_of_getElem? (i := 18) rfl))) Via.refl e3 F_o_count E_o (Or.inr ⟨(hw _ (List.mem_of_getElem? (i := 19) rfl)), rfl, hnm⟩) (hw _ (List.mem_of_getElem? (i := 1) rfl)) (ty := .long) (by decide) rfl rfl (g := (mkF m 17 #[.val (.ref o), .val (.long q1), .second, .val (.long q2), .second, .val (.long q3), .second] [(.long q3), (.ref o)])) rfl rfl (hb hby d1_17)
  refine own_go st4 ?_
  replace F_o_count := F_o_count.same W4
  replace E_o := E_o.wr W4
  replace F_o_first := F_o_first.other W4 (Or.inr (slot_ne (Or.inr (hw _ (List.mem_of_getElem? (i := 15) rfl))) (Or.inr (hw _ (List.mem_of_getElem? (i := 19) rfl))) (by decide) (t := .long) (t' := .long) (by decide) (by decide)))
  replace F_o_step := F_o_step.other W4 (Or.inr (slot_ne (Or.inr (hw _ (List.mem_of_getElem? (i := 17) rfl))) (Or.inr (hw _ (List.mem_of_getElem? (i := 19) rfl))) (by decide) (t := .long) (t' := .long) (by decide) (by decide)))
  have N4 := Fr.snoc X4 N3 g_o
  have K4 := K3.wr W4 (Or.inl (List.mem_of_getElem? (i := 0) rfl))
  have Z4 : n0 ≤ h4.size := Nat.le_trans Z0 K4.1
  show own_Ends p e below T4 (mkF m 20 #[.val (.ref o), .val (.long q1), .second, .val (.long q2), .second, .val (.long q3), .second] []) _
  obtain ⟨fs, hr, hrun, hended, hW, hsame⟩ := X4.leave (v := none) (fun _ => rfl)
  refine ⟨_, _, X4.returnOut hx Bd.returns (hb hby d1_20) hr, hrun, hended, _, _, rfl, ?_, ⟨_, rfl⟩, hW, hsame.mono (by decide) (by decide)⟩
  show Q_rmInit Z o q1 q2 q3 h0 n0 _ T4.heap _
  rw [e4]
  exact ⟨rfl, N4, K4, E_o, F_o_first, F_o_step, F_o_count⟩
theorem d4_0 : decode prog_20_method_2_code 0 = .ok (.aload_n 0, 1) := by decide +kernel
theorem d4_1 : decode prog_20_method_2_code 1 = .ok (.getfield 7, 3) := by decide +kernel
theorem d4_4 : decode prog_20_method_2_code 4 = .ok (.lload_n 1, 1) := by decide +kernel
theorem d4_5 : decode prog_20_method_2_code 5 = .ok (.aload_n 0, 1) := by decide +kernel
theorem d4_6 : decode prog_20_method_2_code 6 = .ok (.getfield 13, 3) := by decide +kernel
theorem d4_9 : decode prog_20_method_2_code 9 = .ok (.lmul, 1) := by decide +kernel
theorem d4_10 : decode prog_20_method_2_code 10 = .ok (.ladd, 1) := by decide +kernel
theorem d4_11 : decode prog_20_method_2_code 11 = .ok (.lreturn, 1) := by decide +kernel
theorem pn_4 : plainName "com/example/naviglio/naviglio/storage/KeptTicks" = true := by first | (simp [plainName, overriddenIn]; done) | decide +kernel
theorem ef_4 (m : MethodId) (o : Addr) (q : Int64) : entryFrame m #[(.ref o), (.long q)] 3 = mkF m 0 #[.val (.ref o), .val (.long q), .second] [] := by first | (simp [entryFrame, mkF, argsToLocals, Value.category]; done) | rfl
def Q_rmTick (Z : State) (o : Addr) (q : Int64) (f : Int64) (k : Int64) (h0 : Heap) (n0 : Nat) (v : Option Value) (h : Heap) (L : List Loc) : Prop := v = some (.long (f + (q * k))) ∧ Fr n0 L ∧ h = h0
set_option maxRecDepth 65536 in
set_option maxHeartbeats 40000000 in
theorem rmTick (l : Launch) (Z : State) (a0 : Array Value) (hw : ∀ d ∈ tables_1, d.before a0 Z = true) (ws : List Jvm.Cond) (o : Addr) (q : Int64) (f : Int64) (k : Int64) (h0 : Heap) (n0 : Nat) (Z0 : n0 ≤ h0.size) (F_o_first : Fld Z h0 o "com/example/naviglio/naviglio/storage/KeptTicks" "first" "J" (.long f)) (F_o_step : Fld Z h0 o "com/example/naviglio/naviglio/storage/KeptTicks" "step" "J" (.long k)) :
    MetFree l (⟨"com/example/naviglio/naviglio/storage/KeptTicks", "tick", "(J)J"⟩ : MethodName) (head1 (Jvm.Cond.code (⟨"com/example/naviglio/naviglio/storage/KeptTicks", "tick", "(J)J"⟩ : MethodName) prog_20_method_2_code 3 (some .long) :: ws) ({ frames := 0, cells := 0, slots := 0, locals := 0 } : Room)) (fun a U => a = #[(.ref o), (.long q)] ∧ Z.Warmed39 U.vm ∧ U.heap = h0) (fun _ _ _ _ _ => True) (fun _ U ou U' => ∃ v L, ou = .returned v ∧ Q_rmTick Z o q f k h0 n0 v U'.heap L ∧ FrameEnd U ou U' L ({ frames := 0, cells := 0, slots := 0, locals := 0 } : Room).cells ({ frames := 0, cells := 0, slots := 0, locals := 0 } : Room).slots) := by
  refine MetFree.of_bodySF (plainFor_of_name pn_4) hisR ?_
  intro p e s m args below meth c s₁ Bd hml0 hP hK
  obtain ⟨rfl, hZ, hh⟩ := hP
  have hx := Bd.exec
  have hby := Bd.bytes
  have hml : c.maxLocals = 3 := hml0
  have hown : s.vm.findClass "com/example/naviglio/naviglio/storage/KeptTicks" = some m.cls := findClass_of_methodNamed Bd.named
  have hnm := (name_of_methodNamed Bd.named Bd.method).1
  have X0 : Stand p l e ({ frames := 0, cells := 0, slots := 0, locals := 0 } : Room) s m #[(.ref o), (.long q)] below meth c s₁ [] 0 0 := Stand.of_body Bd
  have e0 : s₁.heap = h0 := by rw [← hh, Bd.state]; rfl
  have N0 := Fr.nil n0
  have K0 := Keep.refl h0 []
  refine own_as (ef_4 m o q) ?_
  show own_Ends p e below s₁ (mkF m 0 #[.val (.ref o), .val (.long q), .second] []) _
  refine own_go (fun _ => XS.aloadN X0.here hx rfl (hb hby d4_0) rfl rfl) ?_
  show own_Ends p e below s₁ (mkF m 1 #[.val (.ref o), .val (.long q), .second] [(.ref o)]) _
  obtain ⟨T1, X1, e1, st1⟩ := getF X0 hx hZ hown (host := "") (Or.inl (hw _ (List.mem_of_getElem? (i := 14) rfl))) Via.refl e0 F_o_first (g := (mkF m 1 #[.val (.ref o), .val (.long q), .second] [(.ref o)])) rfl rfl (hb hby d4_1)
  refine own_go st1 ?_
  show own_Ends p e below T1 (mkF m 4 #[.val (.ref o), .val (.long q), .second] [(.long f)]) _
  refine own_go (fun _ => XS.lloadN X1.here hx rfl (hb hby d4_4) rfl) ?_
  show own_Ends p e below T1 (mkF m 5 #[.val (.ref o), .val (.long q), .second] [(.long q), (.long f)]) _
  refine own_go (fun _ => XS.aloadN X1.here hx rfl (hb hby d4_5) rfl rfl) ?_
  show own_Ends p e below T1 (mkF m 6 #[.val (.ref o), .val (.long q), .second] [(.ref o), (.long q), (.long f)]) _
  obtain ⟨T2, X2, e2, st2⟩ := getF X1 hx hZ hown (host := "") (Or.inl (hw _ (List.mem_of_getElem? (i := 16) rfl))) Via.refl e1 F_o_step (g := (mkF m 6 #[.val (.ref o), .val (.long q), .second] [(.ref o), (.long q), (.long f)])) rfl rfl (hb hby d4_6)
  refine own_go st2 ?_
  show own_Ends p e below T2 (mkF m 9 #[.val (.ref o), .val (.long q), .second] [(.long k), (.long q), (.long f)]) _
  refine own_go (fun _ => XS.lmul X2.here hx rfl (hb hby d4_9) rfl) ?_
  show own_Ends p e below T2 (mkF m 10 #[.val (.ref o), .val (.long q), .second] [(.long (q * k)), (.long f)]) _
  refine own_go (fun _ => XS.ladd X2.here hx rfl (hb hby d4_10) rfl) ?_
  show own_Ends p e below T2 (mkF m 11 #[.val (.ref o), .val (.long q), .second] [(.long (f + (q * k)))]) _
  obtain ⟨fs, hr, hrun, hended, hW, hsame⟩ := X2.leave (v := some (.long (f + (q * k)))) (fun h => by rw [Bd.returns] at h; cases h)
  refine ⟨_, _, retOut X2 hx Bd.returns rfl (Or.inr (Or.inl ⟨rfl, rfl, _, rfl⟩)) (hb hby d4_11) hr, hrun, hended, _, _, rfl, ?_, ⟨_, rfl⟩, hW, hsame.mono (by decide) (by decide)⟩
  show Q_rmTick Z o q f k h0 n0 _ T2.heap _
  rw [e2]
  exact ⟨by rfl, N0, rfl⟩
theorem d5_0 : decode prog_20_method_3_code 0 = .ok (.lload_n 1, 1) := by decide +kernel
theorem d5_1 : decode prog_20_method_3_code 1 = .ok (.aload_n 0, 1) := by decide +kernel
theorem d5_2 : decode prog_20_method_3_code 2 = .ok (.getfield 7, 3) := by decide +kernel
theorem d5_5 : decode prog_20_method_3_code 5 = .ok (.lsub, 1) := by decide +kernel
theorem d5_6 : decode prog_20_method_3_code 6 = .ok (.aload_n 0, 1) := by decide +kernel
theorem d5_7 : decode prog_20_method_3_code 7 = .ok (.getfield 13, 3) := by decide +kernel
theorem d5_10 : decode prog_20_method_3_code 10 = .ok (.ldiv, 1) := by decide +kernel
theorem d5_11 : decode prog_20_method_3_code 11 = .ok (.lreturn, 1) := by decide +kernel
theorem pn_5 : plainName "com/example/naviglio/naviglio/storage/KeptTicks" = true := by first | (simp [plainName, overriddenIn]; done) | decide +kernel
theorem ef_5 (m : MethodId) (o : Addr) (q : Int64) : entryFrame m #[(.ref o), (.long q)] 3 = mkF m 0 #[.val (.ref o), .val (.long q), .second] [] := by first | (simp [entryFrame, mkF, argsToLocals, Value.category]; done) | rfl
def Q_rmPos (Z : State) (o : Addr) (q : Int64) (f : Int64) (k : Int64) (h0 : Heap) (n0 : Nat) (v : Option Value) (h : Heap) (L : List Loc) : Prop := v = some (.long ((q - f) / k)) ∧ Fr n0 L ∧ h = h0
set_option maxRecDepth 65536 in
set_option maxHeartbeats 40000000 in
theorem rmPos (l : Launch) (Z : State) (a0 : Array Value) (hw : ∀ d ∈ tables_1, d.before a0 Z = true) (ws : List Jvm.Cond) (o : Addr) (q : Int64) (f : Int64) (k : Int64) (h0 : Heap) (n0 : Nat) (Z0 : n0 ≤ h0.size) (F_o_first : Fld Z h0 o "com/example/naviglio/naviglio/storage/KeptTicks" "first" "J" (.long f)) (F_o_step : Fld Z h0 o "com/example/naviglio/naviglio/storage/KeptTicks" "step" "J" (.long k)) (hk : ¬ k = (0 : Int64)) :
    MetFree l (⟨"com/example/naviglio/naviglio/storage/KeptTicks", "position", "(J)J"⟩ : MethodName) (head1 (Jvm.Cond.code (⟨"com/example/naviglio/naviglio/storage/KeptTicks", "position", "(J)J"⟩ : MethodName) prog_20_method_3_code 3 (some .long) :: ws) ({ frames := 0, cells := 0, slots := 0, locals := 0 } : Room)) (fun a U => a = #[(.ref o), (.long q)] ∧ Z.Warmed39 U.vm ∧ U.heap = h0) (fun _ _ _ _ _ => True) (fun _ U ou U' => ∃ v L, ou = .returned v ∧ Q_rmPos Z o q f k h0 n0 v U'.heap L ∧ FrameEnd U ou U' L ({ frames := 0, cells := 0, slots := 0, locals := 0 } : Room).cells ({ frames := 0, cells := 0, slots := 0, locals := 0 } : Room).slots) := by
  refine MetFree.of_bodySF (plainFor_of_name pn_5) hisR ?_
  intro p e s m args below meth c s₁ Bd hml0 hP hK
  obtain ⟨rfl, hZ, hh⟩ := hP
  have hx := Bd.exec
  have hby := Bd.bytes
  have hml : c.maxLocals = 3 := hml0
  have hown : s.vm.findClass "com/example/naviglio/naviglio/storage/KeptTicks" = some m.cls := findClass_of_methodNamed Bd.named
  have hnm := (name_of_methodNamed Bd.named Bd.method).1
  have X0 : Stand p l e ({ frames := 0, cells := 0, slots := 0, locals := 0 } : Room) s m #[(.ref o), (.long q)] below meth c s₁ [] 0 0 := Stand.of_body Bd
  have e0 : s₁.heap = h0 := by rw [← hh, Bd.state]; rfl
  have N0 := Fr.nil n0
  have K0 := Keep.refl h0 []
  refine own_as (ef_5 m o q) ?_
  show own_Ends p e below s₁ (mkF m 0 #[.val (.ref o), .val (.long q), .second] []) _
  refine own_go (fun _ => XS.lloadN X0.here hx rfl (hb hby d5_0) rfl) ?_
  show own_Ends p e below s₁ (mkF m 1 #[.val (.ref o), .val (.long q), .second] [(.long q)]) _
  refine own_go (fun _ => XS.aloadN X0.here hx rfl (hb hby d5_1) rfl rfl) ?_
  show own_Ends p e below s₁ (mkF m 2 #[.val (.ref o), .val (.long q), .second] [(.ref o), (.long q)]) _
  obtain ⟨T1, X1, e1, st1⟩ := getF X0 hx hZ hown (host := "") (Or.inl (hw _ (List.mem_of_getElem? (i := 14) rfl))) Via.refl e0 F_o_first (g := (mkF m 2 #[.val (.ref o), .val (.long q), .second] [(.ref o), (.long q)])) rfl rfl (hb hby d5_2)
  refine own_go st1 ?_
  show own_Ends p e below T1 (mkF m 5 #[.val (.ref o), .val (.long q), .second] [(.long f), (.long q)]) _
  refine own_go (fun _ => XS.lsub X1.here hx rfl (hb hby d5_5) rfl) ?_
  show own_Ends p e below T1 (mkF m 6 #[.val (.ref o), .val (.long q), .second] [(.long (q - f))]) _
  refine own_go (fun _ => XS.aloadN X1.here hx rfl (hb hby d5_6) rfl rfl) ?_
  show own_Ends p e below T1 (mkF m 7 #[.val (.ref o), .val (.long q), .second] [(.ref o), (.long (q - f))]) _
  obtain ⟨T2, X2, e2, st2⟩ := getF X1 hx hZ hown (host := "") (Or.inl (hw _ (List.mem_of_getElem? (i := 16) rfl))) Via.refl e1 F_o_step (g := (mkF m 7 #[.val (.ref o), .val (.long q), .second] [(.ref o), (.long (q - f))])) rfl rfl (hb hby d5_7)
  refine own_go st2 ?_
  show own_Ends p e below T2 (mkF m 10 #[.val (.ref o), .val (.long q), .second] [(.long k), (.long (q - f))]) _
  refine own_go (fun _ => XS.ldiv X2.here hx rfl (hb hby d5_10) rfl hk) ?_
  show own_Ends p e below T2 (mkF m 11 #[.val (.ref o), .val (.long q), .second] [(.long ((q - f) / k))]) _
  obtain ⟨fs, hr, hrun, hended, hW, hsame⟩ := X2.leave (v := some (.long ((q - f) / k))) (fun h => by rw [Bd.returns] at h; cases h)
  refine ⟨_, _, retOut X2 hx Bd.returns rfl (Or.inr (Or.inl ⟨rfl, rfl, _, rfl⟩)) (hb hby d5_11) hr, hrun, hended, _, _, rfl, ?_, ⟨_, rfl⟩, hW, hsame.mono (by decide) (by decide)⟩
  show Q_rmPos Z o q f k h0 n0 _ T2.heap _
  rw [e2]
  exact ⟨by rfl, N0, rfl⟩
theorem pn_0 : plainName "com/example/naviglio/naviglio/storage/KeptTicksTickPinLaw" = true := by first | (simp [plainName, overriddenIn]; done) | decide +kernel
theorem ef_0 (m : MethodId) (q0 : Int64) (q1 : Int64) (q2 : Int64) (q3 : Int64) : entryFrame m #[(.long q0), (.long q1), (.long q2), (.long q3)] maxLocals = mkF m 0 #[.val (.long q0), .second, .val (.long q1), .second, .val (.long q2), .second, .val (.long q3), .second, .unset, .unset, .unset, .unset, .unset, .unset, .unset, .unset] [] := by first | (simp [entryFrame, mkF, argsToLocals, Value.category, maxLocals]; done) | rfl
def Q_rm0 (Z : State) (q0 : Int64) (q1 : Int64) (q2 : Int64) (q3 : Int64) (h0 : Heap) (n0 : Nat) (v : Option Value) (h : Heap) (L : List Loc) : Prop := v = some (.int 1) ∧ Fr n0 L
theorem pd_1 : parseMethodDescriptor "(JJJ)V" = some ⟨[.long, .long, .long], none⟩ := by decide +kernel
theorem pd_2 : parseMethodDescriptor "(J)J" = some ⟨[.long], some .long⟩ := by decide +kernel
set_option maxRecDepth 65536 in
set_option maxHeartbeats 40000000 in
theorem rm0 (l : Launch) (Z : State) (a0 : Array Value) (hw : ∀ d ∈ tables_1, d.before a0 Z = true) (ws : List Jvm.Cond) (q0 : Int64) (q1 : Int64) (q2 : Int64) (q3 : Int64) (h0 : Heap) (n0 : Nat) (Z0 : n0 ≤ h0.size) :
    MetFree l x (head1 (Jvm.Cond.code x code maxLocals ret :: ws) room_1) (fun a U => a = #[(.long q0), (.long q1), (.long q2), (.long q3)] ∧ Z.Warmed39 U.vm ∧ U.heap = h0) (fun _ _ _ _ _ => True) (fun _ U ou U' => ∃ v L, ou = .returned v ∧ Q_rm0 Z q0 q1 q2 q3 h0 n0 v U'.heap L ∧ FrameEnd U ou U' L room_1.cells room_1.slots) := by
  refine MetFree.of_bodySF (plainFor_of_name pn_0) hisR ?_
  intro p e s m args below meth c s₁ Bd hml0 hP hK
  obtain ⟨rfl, hZ, hh⟩ := hP
  have hx := Bd.exec
  have hby := Bd.bytes
  have hml : c.maxLocals = 16 := hml0
  have hown : s.vm.findClass "com/example/naviglio/naviglio/storage/KeptTicksTickPinLaw" = some m.cls := findClass_of_methodNamed Bd.named
  have hnm := (name_of_methodNamed Bd.named Bd.method).1
  have X0 : Stand p l e room_1 s m #[(.long q0), (.long q1), (.long q2), (.long q3)] below meth c s₁ [] 0 0 := Stand.of_body Bd
  have e0 : s₁.heap = h0 := by rw [← hh, Bd.state]; rfl
  have N0 := Fr.nil n0
  have K0 := Keep.refl h0 []
  refine own_as (ef_0 m q0 q1 q2 q3) ?_
  show own_Ends p e below s₁ (mkF m 0 #[.val (.long q0), .second, .val (.long q1), .second, .val (.long q2), .second, .val (.long q3), .second, .unset, .unset, .unset, .unset, .unset, .unset, .unset, .unset] []) _
  obtain ⟨T1, h1, X1, e1, E1, A1, D1, -, st1⟩ := newO X0 hx hZ hown (hw _ (List.mem_of_getElem? (i := 0) rfl)) (hw _ (List.mem_of_getElem? (i := 1) rfl)) (hw _ (List.mem_of_getElem? (i := 2) rfl)) e0 (g := (mkF m 0 #[.val (.long q0), .second, .val (.long q1), .second, .val (.long q2), .second, .val (.long q3), .second, .unset, .unset, .unset, .unset, .unset, .unset, .unset, .unset] [])) rfl (hb hby at_0) (by decide) (by decide)
  obtain ⟨b1, g1⟩ : ∃ z, z = h0.size := ⟨_, rfl⟩
  rw [← g1] at A1 D1 st1
  refine own_go st1 ?_
  have g_b1 : n0 ≤ b1 := Nat.le_trans Z0 (Nat.le_of_eq g1.symm)
  have sz_b1 : h0.size ≤ b1 := Nat.le_trans K0.1 (Nat.le_of_eq g1.symm)
  have K1 := K0.ext E1
  have Z1 : n0 ≤ h1.size := Nat.le_trans Z0 K1.1
  have F_b1_first : Fld Z h1 b1 "com/example/naviglio/naviglio/storage/KeptTicks" "first" "J" (.long (0 : Int64)) := D1 (Or.inr (hw _ (List.mem_of_getElem? (i := 15) rfl))) (ty := .long) (by decide)
  have F_b1_step : Fld Z h1 b1 "com/example/naviglio/naviglio/storage/KeptTicks" "step" "J" (.long (0 : Int64)) := D1 (Or.inr (hw _ (List.mem_of_getElem? (i := 17) rfl))) (ty := .long) (by decide)
  have F_b1_count : Fld Z h1 b1 "com/example/naviglio/naviglio/storage/KeptTicks" "count" "J" (.long (0 : Int64)) := D1 (Or.inr (hw _ (List.mem_of_getElem? (i := 19) rfl))) (ty := .long) (by decide)
  show own_Ends p e below T1 (mkF m 3 #[.val (.long q0), .second, .val (.long q1), .second, .val (.long q2), .second, .val (.long q3), .second, .unset, .unset, .unset, .unset, .unset, .unset, .unset, .unset] [(.ref b1)]) _
  refine own_go (fun _ => XS.dup X1.here hx rfl (hb hby at_3) rfl rfl) ?_
  show own_Ends p e below T1 (mkF m 4 #[.val (.long q0), .second, .val (.long q1), .second, .val (.long q2), .second, .val (.long q3), .second, .unset, .unset, .unset, .unset, .unset, .unset, .unset, .unset] [(.ref b1), (.ref b1)]) _
  refine own_go (fun _ => XS.lloadN X1.here hx rfl (hb hby at_4) rfl) ?_
  show own_Ends p e below T1 (mkF m 5 #[.val (.long q0), .second, .val (.long q1), .second, .val (.long q2), .second, .val (.long q3), .second, .unset, .unset, .unset, .unset, .unset, .unset, .unset, .unset] [(.long q0), (.ref b1), (.ref b1)]) _
  refine own_go (fun _ => XS.lloadN X1.here hx rfl (hb hby at_5) rfl) ?_
  show own_Ends p e below T1 (mkF m 6 #[.val (.long q0), .second, .val (.long q1), .second, .val (.long q2), .second, .val (.long q3), .second, .unset, .unset, .unset, .unset, .unset, .unset, .unset, .unset] [(.long q1), (.long q0), (.ref b1), (.ref b1)]) _
  refine own_go (fun _ => XS.lload X1.here hx rfl (hb hby at_6) rfl) ?_
  show own_Ends p e below T1 (mkF m 8 #[.val (.long q0), .second, .val (.long q1), .second, .val (.long q2), .second, .val (.long q3), .second, .unset, .unset, .unset, .unset, .unset, .unset, .unset, .unset] [(.long q2), (.long q1), (.long q0), (.ref b1), (.ref b1)]) _
  obtain ⟨_, _, ⟨T2, L2, k2, n2⟩, -, X2, ⟨Lc2, hQ2, l2, y2, z2⟩, st2⟩ := X1.specialBack hx (y := (⟨"com/example/naviglio/naviglio/storage/KeptTicks", "<init>", "(JJJ)V"⟩ : MethodName)) rfl hown (mvT hZ (hw _ (List.mem_of_getElem? (i := 3) rfl))) (mvT hZ (hw _ (List.mem_of_getElem? (i := 4) rfl))) (mvT hZ (hw _ (List.mem_of_getElem? (i := 5) rfl))) (by decide) (backOf (W := 1) (rmInit l Z a0 hw [] b1 q0 q1 q2  h1 n0 Z1 A1 F_b1_first F_b1_step F_b1_count g_b1) hZ (hw _ (List.mem_of_getElem? (i := 5) rfl)) (hw _ (List.mem_of_getElem? (i := 2) rfl)) (by decide) (by decide)) (g := (mkF m 8 #[.val (.long q0), .second, .val (.long q1), .second, .val (.long q2), .second, .val (.long q3), .second, .unset, .unset, .unset, .unset, .unset, .unset, .unset, .unset] [(.long q2), (.long q1), (.long q0), (.ref b1), (.ref b1)])) rfl (by rw [hml]; rfl) (Steps.refl _) (a := b1) (argsL := [(.long q0), (.long q1), (.long q2)]) (rest := [(.ref b1)]) (lenOf pd_1 rfl) rfl (by show 2 * 0 + _ ≤ _; exact Nat.le_of_eq rfl) (hb hby at_8) (fun _ _ => ⟨rfl, e1, (by decide : 1 + 0 ≤ _), (by decide : 3 + 0 ≤ _)⟩)
  dsimp only [Pt.U, Pt.locs, Pt.cells, Pt.slots] at X2 l2 y2 z2 st2 hQ2
  subst l2 y2 z2
  refine own_go (fun _ k => st2.trans k) ?_
  obtain ⟨rfl, N2q, Kq2, Eq2, F2_first, F2_step, F2_count⟩ := hQ2
  replace A1 := A1.keep Kq2
  have K2 := K1.trans Kq2 (allS (Or.inr sz_b1) all0)
  have Z2 : n0 ≤ T2.heap.size := Nat.le_trans Z0 K2.1
  clear Eq2
  have N2 := Fr.app N0 N2q
  show own_Ends p e below T2 (mkF m 11 #[.val (.long q0), .second, .val (.long q1), .second, .val (.long q2), .second, .val (.long q3), .second, .unset, .unset, .unset, .unset, .unset, .unset, .unset, .unset] [(.ref b1)]) _
  refine own_go (fun _ => XS.astore X2.here hx rfl (hb hby at_11) rfl rfl (l' := #[.val (.long q0), .second, .val (.long q1), .second, .val (.long q2), .second, .val (.long q3), .second, .val (.ref b1), .unset, .unset, .unset, .unset, .unset, .unset, .unset]) rfl) ?_
  show own_Ends p e below T2 (mkF m 13 #[.val (.long q0), .second, .val (.long q1), .second, .val (.long q2), .second, .val (.long q3), .second, .val (.ref b1), .unset, .unset, .unset, .unset, .unset, .unset, .unset] []) _
  refine own_go (fun _ => XS.aload X2.here hx rfl (hb hby at_13) rfl rfl) ?_
  show own_Ends p e below T2 (mkF m 15 #[.val (.long q0), .second, .val (.long q1), .second, .val (.long q2), .second, .val (.long q3), .second, .val (.ref b1), .unset, .unset, .unset, .unset, .unset, .unset, .unset] [(.ref b1)]) _
  refine own_go (fun _ => XS.lconst X2.here hx rfl (hb hby at_15)) ?_
  show own_Ends p e below T2 (mkF m 16 #[.val (.long q0), .second, .val (.long q1), .second, .val (.long q2), .second, .val (.long q3), .second, .val (.ref b1), .unset, .unset, .unset, .unset, .unset, .unset, .unset] [(.long (0 : Int64)), (.ref b1)]) _
  obtain ⟨cq3, kq3, q3a, q3b, q3c⟩ := isOf hZ rfl A1
  obtain ⟨_, _, ⟨T3, L3, k3, n3⟩, -, X3, ⟨Lc3, hQ3, l3, y3, z3⟩, st3⟩ := X2.virtualBack hx (y := (⟨"com/example/naviglio/naviglio/storage/KeptTicks", "tick", "(J)J"⟩ : MethodName)) (z := (⟨"com/example/naviglio/naviglio/storage/KeptTicks", "tick", "(J)J"⟩ : MethodName)) hown (mvT hZ (hw _ (List.mem_of_getElem? (i := 20) rfl))) (mvT hZ (hw _ (List.mem_of_getElem? (i := 21) rfl))) (notFace_of_selects (args := #[]) (mvT hZ (hw _ (List.mem_of_getElem? (i := 23) rfl)))) (mvT hZ (hw _ (List.mem_of_getElem? (i := 23) rfl))) (mvT hZ (hw _ (List.mem_of_getElem? (i := 22) rfl))) (by decide) (backOf (W := 0) (rmTick l Z a0 hw [] b1 ((0 : Int64)) q0 q1 (T2.heap) n0 Z2 F2_first F2_step) hZ (hw _ (List.mem_of_getElem? (i := 24) rfl)) (hw _ (List.mem_of_getElem? (i := 2) rfl)) (by decide) (by decide)) q3a q3c (g := (mkF m 16 #[.val (.long q0), .second, .val (.long q1), .second, .val (.long q2), .second, .val (.long q3), .second, .val (.ref b1), .unset, .unset, .unset, .unset, .unset, .unset, .unset] [(.long (0 : Int64)), (.ref b1)])) rfl (by rw [hml]; rfl) (Steps.refl _) (argsL := [(.long (0 : Int64))]) (rest := []) (lenOf pd_2 rfl) rfl (by show 2 * 0 + _ ≤ _; exact Nat.le_of_eq rfl) (hb hby at_16) (fun _ _ => ⟨rfl, rfl, (by decide : 1 + 0 ≤ _), (by decide : 3 + 0 ≤ _)⟩)
  dsimp only [Pt.U, Pt.locs, Pt.cells, Pt.slots] at X3 l3 y3 z3 st3 hQ3
  subst l3 y3 z3
  refine own_go (fun _ k => st3.trans k) ?_
  obtain ⟨rfl, N3q, eh3⟩ := hQ3
  have N3 := Fr.app N2 N3q
  show own_Ends p e below T3 (mkF m 19 #[.val (.long q0), .second, .val (.long q1), .second, .val (.long q2), .second, .val (.long q3), .second, .val (.ref b1), .unset, .unset, .unset, .unset, .unset, .unset, .unset] [(.long (q0 + ((0 : Int64) * q1)))]) _
  refine own_go (fun _ => XS.lloadN X3.here hx rfl (hb hby at_19) rfl) ?_
  show own_Ends p e below T3 (mkF m 20 #[.val (.long q0), .second, .val (.long q1), .second, .val (.long q2), .second, .val (.long q3), .second, .val (.ref b1), .unset, .unset, .unset, .unset, .unset, .unset, .unset] [(.long q0), (.long (q0 + ((0 : Int64) * q1)))]) _
  refine own_go (fun _ => XS.lcmp X3.here hx rfl (hb hby at_20) rfl) ?_
  show own_Ends p e below T3 (mkF m 21 #[.val (.long q0), .second, .val (.long q1), .second, .val (.long q2), .second, .val (.long q3), .second, .val (.ref b1), .unset, .unset, .unset, .unset, .unset, .unset, .unset] [(.int (lcmpW (q0 + ((0 : Int64) * q1)) q0))]) _
  refine own_go (fun _ => XS.ifYes X3.here hx rfl (pc0 := 21) (pc' := 26) rfl (hb hby at_21) rfl ((if0 _ _).trans (teq ((lw_eq (q0 + ((0 : Int64) * q1)) q0).mpr (show (q0 + ((0 : Int64) * q1)) = q0 from own_zero _ _))).1) (by decide) (by decide)) ?_
  show own_Ends p e below T3 (mkF m 26 #[.val (.long q0), .second, .val (.long q1), .second, .val (.long q2), .second, .val (.long q3), .second, .val (.ref b1), .unset, .unset, .unset, .unset, .unset, .unset, .unset] []) _
  refine own_go (fun _ => XS.lload X3.here hx rfl (hb hby at_26) rfl) ?_
  show own_Ends p e below T3 (mkF m 28 #[.val (.long q0), .second, .val (.long q1), .second, .val (.long q2), .second, .val (.long q3), .second, .val (.ref b1), .unset, .unset, .unset, .unset, .unset, .unset, .unset] [(.long q3)]) _
  refine own_go (fun _ => XS.lconst X3.here hx rfl (hb hby at_28)) ?_
  show own_Ends p e below T3 (mkF m 29 #[.val (.long q0), .second, .val (.long q1), .second, .val (.long q2), .second, .val (.long q3), .second, .val (.ref b1), .unset, .unset, .unset, .unset, .unset, .unset, .unset] [(.long (1 : Int64)), (.long q3)]) _
  refine own_go (fun _ => XS.ladd X3.here hx rfl (hb hby at_29) rfl) ?_
  show own_Ends p e below T3 (mkF m 30 #[.val (.long q0), .second, .val (.long q1), .second, .val (.long q2), .second, .val (.long q3), .second, .val (.ref b1), .unset, .unset, .unset, .unset, .unset, .unset, .unset] [(.long (q3 + (1 : Int64)))]) _
  refine own_go (fun _ => XS.lstore X3.here hx rfl (hb hby at_30) rfl (l' := #[.val (.long q0), .second, .val (.long q1), .second, .val (.long q2), .second, .val (.long q3), .second, .val (.ref b1), .val (.long (q3 + (1 : Int64))), .second, .unset, .unset, .unset, .unset, .unset]) rfl) ?_
  show own_Ends p e below T3 (mkF m 32 #[.val (.long q0), .second, .val (.long q1), .second, .val (.long q2), .second, .val (.long q3), .second, .val (.ref b1), .val (.long (q3 + (1 : Int64))), .second, .unset, .unset, .unset, .unset, .unset] []) _
  refine own_go (fun _ => XS.aload X3.here hx rfl (hb hby at_32) rfl rfl) ?_
  show own_Ends p e below T3 (mkF m 34 #[.val (.long q0), .second, .val (.long q1), .second, .val (.long q2), .second, .val (.long q3), .second, .val (.ref b1), .val (.long (q3 + (1 : Int64))), .second, .unset, .unset, .unset, .unset, .unset] [(.ref b1)]) _
  refine own_go (fun _ => XS.lload X3.here hx rfl (hb hby at_34) rfl) ?_
  show own_Ends p e below T3 (mkF m 36 #[.val (.long q0), .second, .val (.long q1), .second, .val (.long q2), .second, .val (.long q3), .second, .val (.ref b1), .val (.long (q3 + (1 : Int64))), .second, .unset, .unset, .unset, .unset, .unset] [(.long (q3 + (1 : Int64))), (.ref b1)]) _
  obtain ⟨cq4, kq4, q4a, q4b, q4c⟩ := isOf hZ eh3 A1
  obtain ⟨_, _, ⟨T4, L4, k4, n4⟩, -, X4, ⟨Lc4, hQ4, l4, y4, z4⟩, st4⟩ := X3.virtualBack hx (y := (⟨"com/example/naviglio/naviglio/storage/KeptTicks", "tick", "(J)J"⟩ : MethodName)) (z := (⟨"com/example/naviglio/naviglio/storage/KeptTicks", "tick", "(J)J"⟩ : MethodName)) hown (mvT hZ (hw _ (List.mem_of_getElem? (i := 20) rfl))) (mvT hZ (hw _ (List.mem_of_getElem? (i := 21) rfl))) (notFace_of_selects (args := #[]) (mvT hZ (hw _ (List.mem_of_getElem? (i := 23) rfl)))) (mvT hZ (hw _ (List.mem_of_getElem? (i := 23) rfl))) (mvT hZ (hw _ (List.mem_of_getElem? (i := 22) rfl))) (by decide) (backOf (W := 0) (rmTick l Z a0 hw [] b1 ((q3 + (1 : Int64))) q0 q1 (T2.heap) n0 Z2 F2_first F2_step) hZ (hw _ (List.mem_of_getElem? (i := 24) rfl)) (hw _ (List.mem_of_getElem? (i := 2) rfl)) (by decide) (by decide)) q4a q4c (g := (mkF m 36 #[.val (.long q0), .second, .val (.long q1), .second, .val (.long q2), .second, .val (.long q3), .second, .val (.ref b1), .val (.long (q3 + (1 : Int64))), .second, .unset, .unset, .unset, .unset, .unset] [(.long (q3 + (1 : Int64))), (.ref b1)])) rfl (by rw [hml]; rfl) (Steps.refl _) (argsL := [(.long (q3 + (1 : Int64)))]) (rest := []) (lenOf pd_2 rfl) rfl (by show 2 * 0 + _ ≤ _; exact Nat.le_of_eq rfl) (hb hby at_36) (fun _ _ => ⟨rfl, eh3, (by decide : 1 + 0 ≤ _), (by decide : 3 + 0 ≤ _)⟩)
  dsimp only [Pt.U, Pt.locs, Pt.cells, Pt.slots] at X4 l4 y4 z4 st4 hQ4
  subst l4 y4 z4
  refine own_go (fun _ k => st4.trans k) ?_
  obtain ⟨rfl, N4q, eh4⟩ := hQ4
  have N4 := Fr.app N3 N4q
  show own_Ends p e below T4 (mkF m 39 #[.val (.long q0), .second, .val (.long q1), .second, .val (.long q2), .second, .val (.long q3), .second, .val (.ref b1), .val (.long (q3 + (1 : Int64))), .second, .unset, .unset, .unset, .unset, .unset] [(.long (q0 + ((q3 + (1 : Int64)) * q1)))]) _
  refine own_go (fun _ => XS.aload X4.here hx rfl (hb hby at_39) rfl rfl) ?_
  show own_Ends p e below T4 (mkF m 41 #[.val (.long q0), .second, .val (.long q1), .second, .val (.long q2), .second, .val (.long q3), .second, .val (.ref b1), .val (.long (q3 + (1 : Int64))), .second, .unset, .unset, .unset, .unset, .unset] [(.ref b1), (.long (q0 + ((q3 + (1 : Int64)) * q1)))]) _
  refine own_go (fun _ => XS.lload X4.here hx rfl (hb hby at_41) rfl) ?_
  show own_Ends p e below T4 (mkF m 43 #[.val (.long q0), .second, .val (.long q1), .second, .val (.long q2), .second, .val (.long q3), .second, .val (.ref b1), .val (.long (q3 + (1 : Int64))), .second, .unset, .unset, .unset, .unset, .unset] [(.long q3), (.ref b1), (.long (q0 + ((q3 + (1 : Int64)) * q1)))]) _
  obtain ⟨cq5, kq5, q5a, q5b, q5c⟩ := isOf hZ eh4 A1
  obtain ⟨_, _, ⟨T5, L5, k5, n5⟩, -, X5, ⟨Lc5, hQ5, l5, y5, z5⟩, st5⟩ := X4.virtualBack hx (y := (⟨"com/example/naviglio/naviglio/storage/KeptTicks", "tick", "(J)J"⟩ : MethodName)) (z := (⟨"com/example/naviglio/naviglio/storage/KeptTicks", "tick", "(J)J"⟩ : MethodName)) hown (mvT hZ (hw _ (List.mem_of_getElem? (i := 20) rfl))) (mvT hZ (hw _ (List.mem_of_getElem? (i := 21) rfl))) (notFace_of_selects (args := #[]) (mvT hZ (hw _ (List.mem_of_getElem? (i := 23) rfl)))) (mvT hZ (hw _ (List.mem_of_getElem? (i := 23) rfl))) (mvT hZ (hw _ (List.mem_of_getElem? (i := 22) rfl))) (by decide) (backOf (W := 2) (rmTick l Z a0 hw [] b1 q3 q0 q1 (T2.heap) n0 Z2 F2_first F2_step) hZ (hw _ (List.mem_of_getElem? (i := 24) rfl)) (hw _ (List.mem_of_getElem? (i := 2) rfl)) (by decide) (by decide)) q5a q5c (g := (mkF m 43 #[.val (.long q0), .second, .val (.long q1), .second, .val (.long q2), .second, .val (.long q3), .second, .val (.ref b1), .val (.long (q3 + (1 : Int64))), .second, .unset, .unset, .unset, .unset, .unset] [(.long q3), (.ref b1), (.long (q0 + ((q3 + (1 : Int64)) * q1)))])) rfl (by rw [hml]; rfl) (Steps.refl _) (argsL := [(.long q3)]) (rest := [(.long (q0 + ((q3 + (1 : Int64)) * q1)))]) (lenOf pd_2 rfl) rfl (by show 2 * 0 + _ ≤ _; exact Nat.le_of_eq rfl) (hb hby at_43) (fun _ _ => ⟨rfl, eh4, (by decide : 1 + 0 ≤ _), (by decide : 3 + 0 ≤ _)⟩)
  dsimp only [Pt.U, Pt.locs, Pt.cells, Pt.slots] at X5 l5 y5 z5 st5 hQ5
  subst l5 y5 z5
  refine own_go (fun _ k => st5.trans k) ?_
  obtain ⟨rfl, N5q, eh5⟩ := hQ5
  have N5 := Fr.app N4 N5q
  show own_Ends p e below T5 (mkF m 46 #[.val (.long q0), .second, .val (.long q1), .second, .val (.long q2), .second, .val (.long q3), .second, .val (.ref b1), .val (.long (q3 + (1 : Int64))), .second, .unset, .unset, .unset, .unset, .unset] [(.long (q0 + (q3 * q1))), (.long (q0 + ((q3 + (1 : Int64)) * q1)))]) _
  refine own_go (fun _ => XS.lsub X5.here hx rfl (hb hby at_46) rfl) ?_
  show own_Ends p e below T5 (mkF m 47 #[.val (.long q0), .second, .val (.long q1), .second, .val (.long q2), .second, .val (.long q3), .second, .val (.ref b1), .val (.long (q3 + (1 : Int64))), .second, .unset, .unset, .unset, .unset, .unset] [(.long ((q0 + ((q3 + (1 : Int64)) * q1)) - (q0 + (q3 * q1))))]) _
  refine own_go (fun _ => XS.lloadN X5.here hx rfl (hb hby at_47) rfl) ?_
  show own_Ends p e below T5 (mkF m 48 #[.val (.long q0), .second, .val (.long q1), .second, .val (.long q2), .second, .val (.long q3), .second, .val (.ref b1), .val (.long (q3 + (1 : Int64))), .second, .unset, .unset, .unset, .unset, .unset] [(.long q1), (.long ((q0 + ((q3 + (1 : Int64)) * q1)) - (q0 + (q3 * q1))))]) _
  refine own_go (fun _ => XS.lcmp X5.here hx rfl (hb hby at_48) rfl) ?_
  show own_Ends p e below T5 (mkF m 49 #[.val (.long q0), .second, .val (.long q1), .second, .val (.long q2), .second, .val (.long q3), .second, .val (.ref b1), .val (.long (q3 + (1 : Int64))), .second, .unset, .unset, .unset, .unset, .unset] [(.int (lcmpW ((q0 + ((q3 + (1 : Int64)) * q1)) - (q0 + (q3 * q1))) q1))]) _
  refine own_go (fun _ => XS.ifYes X5.here hx rfl (pc0 := 49) (pc' := 54) rfl (hb hby at_49) rfl ((if0 _ _).trans (teq ((lw_eq ((q0 + ((q3 + (1 : Int64)) * q1)) - (q0 + (q3 * q1))) q1).mpr (show ((q0 + ((q3 + (1 : Int64)) * q1)) - (q0 + (q3 * q1))) = q1 from own_next _ _ _))).1) (by decide) (by decide)) ?_
  show own_Ends p e below T5 (mkF m 54 #[.val (.long q0), .second, .val (.long q1), .second, .val (.long q2), .second, .val (.long q3), .second, .val (.ref b1), .val (.long (q3 + (1 : Int64))), .second, .unset, .unset, .unset, .unset, .unset] []) _
  refine own_go (fun _ => XS.lloadN X5.here hx rfl (hb hby at_54) rfl) ?_
  show own_Ends p e below T5 (mkF m 55 #[.val (.long q0), .second, .val (.long q1), .second, .val (.long q2), .second, .val (.long q3), .second, .val (.ref b1), .val (.long (q3 + (1 : Int64))), .second, .unset, .unset, .unset, .unset, .unset] [(.long q1)]) _
  refine own_go (fun _ => XS.l2i X5.here hx rfl (hb hby at_55) rfl) ?_
  show own_Ends p e below T5 (mkF m 56 #[.val (.long q0), .second, .val (.long q1), .second, .val (.long q2), .second, .val (.long q3), .second, .val (.ref b1), .val (.long (q3 + (1 : Int64))), .second, .unset, .unset, .unset, .unset, .unset] [(.int (q1.toInt32))]) _
  refine own_go (fun _ => XS.i2l X5.here hx rfl (hb hby at_56) rfl) ?_
  show own_Ends p e below T5 (mkF m 57 #[.val (.long q0), .second, .val (.long q1), .second, .val (.long q2), .second, .val (.long q3), .second, .val (.ref b1), .val (.long (q3 + (1 : Int64))), .second, .unset, .unset, .unset, .unset, .unset] [(.long ((q1.toInt32).toInt64))]) _
  refine own_go (fun _ => XS.lstore X5.here hx rfl (hb hby at_57) rfl (l' := #[.val (.long q0), .second, .val (.long q1), .second, .val (.long q2), .second, .val (.long q3), .second, .val (.ref b1), .val (.long (q3 + (1 : Int64))), .second, .val (.long ((q1.toInt32).toInt64)), .second, .unset, .unset, .unset]) rfl) ?_
  show own_Ends p e below T5 (mkF m 59 #[.val (.long q0), .second, .val (.long q1), .second, .val (.long q2), .second, .val (.long q3), .second, .val (.ref b1), .val (.long (q3 + (1 : Int64))), .second, .val (.long ((q1.toInt32).toInt64)), .second, .unset, .unset, .unset] []) _
  refine own_go (fun _ => XS.lload X5.here hx rfl (hb hby at_59) rfl) ?_
  show own_Ends p e below T5 (mkF m 61 #[.val (.long q0), .second, .val (.long q1), .second, .val (.long q2), .second, .val (.long q3), .second, .val (.ref b1), .val (.long (q3 + (1 : Int64))), .second, .val (.long ((q1.toInt32).toInt64)), .second, .unset, .unset, .unset] [(.long q3)]) _
  refine own_go (fun _ => XS.l2i X5.here hx rfl (hb hby at_61) rfl) ?_
  show own_Ends p e below T5 (mkF m 62 #[.val (.long q0), .second, .val (.long q1), .second, .val (.long q2), .second, .val (.long q3), .second, .val (.ref b1), .val (.long (q3 + (1 : Int64))), .second, .val (.long ((q1.toInt32).toInt64)), .second, .unset, .unset, .unset] [(.int (q3.toInt32))]) _
  refine own_go (fun _ => XS.i2l X5.here hx rfl (hb hby at_62) rfl) ?_
  show own_Ends p e below T5 (mkF m 63 #[.val (.long q0), .second, .val (.long q1), .second, .val (.long q2), .second, .val (.long q3), .second, .val (.ref b1), .val (.long (q3 + (1 : Int64))), .second, .val (.long ((q1.toInt32).toInt64)), .second, .unset, .unset, .unset] [(.long ((q3.toInt32).toInt64))]) _
  refine own_go (fun _ => XS.lstore X5.here hx rfl (hb hby at_63) rfl (l' := #[.val (.long q0), .second, .val (.long q1), .second, .val (.long q2), .second, .val (.long q3), .second, .val (.ref b1), .val (.long (q3 + (1 : Int64))), .second, .val (.long ((q1.toInt32).toInt64)), .second, .val (.long ((q3.toInt32).toInt64)), .second, .unset]) rfl) ?_
  show own_Ends p e below T5 (mkF m 65 #[.val (.long q0), .second, .val (.long q1), .second, .val (.long q2), .second, .val (.long q3), .second, .val (.ref b1), .val (.long (q3 + (1 : Int64))), .second, .val (.long ((q1.toInt32).toInt64)), .second, .val (.long ((q3.toInt32).toInt64)), .second, .unset] []) _
  refine own_go (fun _ => XS.lload X5.here hx rfl (hb hby at_65) rfl) ?_
  show own_Ends p e below T5 (mkF m 67 #[.val (.long q0), .second, .val (.long q1), .second, .val (.long q2), .second, .val (.long q3), .second, .val (.ref b1), .val (.long (q3 + (1 : Int64))), .second, .val (.long ((q1.toInt32).toInt64)), .second, .val (.long ((q3.toInt32).toInt64)), .second, .unset] [(.long ((q1.toInt32).toInt64))]) _
  refine own_go (fun _ => XS.lconst X5.here hx rfl (hb hby at_67)) ?_
  show own_Ends p e below T5 (mkF m 68 #[.val (.long q0), .second, .val (.long q1), .second, .val (.long q2), .second, .val (.long q3), .second, .val (.ref b1), .val (.long (q3 + (1 : Int64))), .second, .val (.long ((q1.toInt32).toInt64)), .second, .val (.long ((q3.toInt32).toInt64)), .second, .unset] [(.long (0 : Int64)), (.long ((q1.toInt32).toInt64))]) _
  refine own_go (fun _ => XS.lcmp X5.here hx rfl (hb hby at_68) rfl) ?_
  show own_Ends p e below T5 (mkF m 69 #[.val (.long q0), .second, .val (.long q1), .second, .val (.long q2), .second, .val (.long q3), .second, .val (.ref b1), .val (.long (q3 + (1 : Int64))), .second, .val (.long ((q1.toInt32).toInt64)), .second, .val (.long ((q3.toInt32).toInt64)), .second, .unset] [(.int (lcmpW ((q1.toInt32).toInt64) (0 : Int64)))]) _
  by_cases hc69 : ((q1.toInt32).toInt64) = (0 : Int64)
  · refine own_go (fun _ => XS.ifNo X5.here hx rfl (hb hby at_69) rfl ((if0 _ _).trans (teq ((lw_eq ((q1.toInt32).toInt64) (0 : Int64)).mpr hc69)).2)) ?_
    show own_Ends p e below T5 (mkF m 72 #[.val (.long q0), .second, .val (.long q1), .second, .val (.long q2), .second, .val (.long q3), .second, .val (.ref b1), .val (.long (q3 + (1 : Int64))), .second, .val (.long ((q1.toInt32).toInt64)), .second, .val (.long ((q3.toInt32).toInt64)), .second, .unset] []) _
    refine own_go (fun _ => XS.iconst X5.here hx rfl (hb hby at_72)) ?_
    show own_Ends p e below T5 (mkF m 73 #[.val (.long q0), .second, .val (.long q1), .second, .val (.long q2), .second, .val (.long q3), .second, .val (.ref b1), .val (.long (q3 + (1 : Int64))), .second, .val (.long ((q1.toInt32).toInt64)), .second, .val (.long ((q3.toInt32).toInt64)), .second, .unset] [(.int (1 : Int32))]) _
    obtain ⟨fs, hr, hrun, hended, hW, hsame⟩ := X5.leave (v := some (.int (1 : Int32))) (fun h => by rw [Bd.returns] at h; cases h)
    refine ⟨_, _, retN X5 hx (t := .boolean) Bd.returns (by simp) (hb hby at_73) hr, hrun, hended, _, _, rfl, ?_, ⟨_, rfl⟩, hW, hsame.mono (by decide) (by decide)⟩
    show Q_rm0 Z q0 q1 q2 q3 h0 n0 _ T5.heap _
    rw [eh5]
    exact ⟨rfl, N5⟩
  · refine own_go (fun _ => XS.ifYes X5.here hx rfl (pc0 := 69) (pc' := 74) rfl (hb hby at_69) rfl ((if0 _ _).trans (feq (fun q => hc69 ((lw_eq ((q1.toInt32).toInt64) (0 : Int64)).mp q))).2) (by decide) (by decide)) ?_
    show own_Ends p e below T5 (mkF m 74 #[.val (.long q0), .second, .val (.long q1), .second, .val (.long q2), .second, .val (.long q3), .second, .val (.ref b1), .val (.long (q3 + (1 : Int64))), .second, .val (.long ((q1.toInt32).toInt64)), .second, .val (.long ((q3.toInt32).toInt64)), .second, .unset] []) _
    obtain ⟨T6, h6, X6, e6, E6, A6, D6, -, st6⟩ := newO X5 hx hZ hown (hw _ (List.mem_of_getElem? (i := 0) rfl)) (hw _ (List.mem_of_getElem? (i := 1) rfl)) (hw _ (List.mem_of_getElem? (i := 2) rfl)) eh5 (g := (mkF m 74 #[.val (.long q0), .second, .val (.long q1), .second, .val (.long q2), .second, .val (.long q3), .second, .val (.ref b1), .val (.long (q3 + (1 : Int64))), .second, .val (.long ((q1.toInt32).toInt64)), .second, .val (.long ((q3.toInt32).toInt64)), .second, .unset] [])) rfl (hb hby at_74) (by decide) (by decide)
    obtain ⟨b6, g6⟩ : ∃ z, z = T2.heap.size := ⟨_, rfl⟩
    rw [← g6] at A6 D6 st6
    refine own_go st6 ?_
    have g_b6 : n0 ≤ b6 := Nat.le_trans Z2 (Nat.le_of_eq g6.symm)
    have sz_b6 : h0.size ≤ b6 := Nat.le_trans K2.1 (Nat.le_of_eq g6.symm)
    have ne_b1_b6 : b1 ≠ b6 := Nat.ne_of_lt (Nat.lt_of_lt_of_le A1.lt (Nat.le_of_eq g6.symm))
    replace A1 := A1.ext E6
    replace F2_first := F2_first.ext E6
    replace F2_step := F2_step.ext E6
    replace F2_count := F2_count.ext E6
    have K6 := K2.ext E6
    have Z6 : n0 ≤ h6.size := Nat.le_trans Z0 K6.1
    have F_b6_first : Fld Z h6 b6 "com/example/naviglio/naviglio/storage/KeptTicks" "first" "J" (.long (0 : Int64)) := D6 (Or.inr (hw _ (List.mem_of_getElem? (i := 15) rfl))) (ty := .long) (by decide)
    have F_b6_step : Fld Z h6 b6 "com/example/naviglio/naviglio/storage/KeptTicks" "step" "J" (.long (0 : Int64)) := D6 (Or.inr (hw _ (List.mem_of_getElem? (i := 17) rfl))) (ty := .long) (by decide)
    have F_b6_count : Fld Z h6 b6 "com/example/naviglio/naviglio/storage/KeptTicks" "count" "J" (.long (0 : Int64)) := D6 (Or.inr (hw _ (List.mem_of_getElem? (i := 19) rfl))) (ty := .long) (by decide)
    show own_Ends p e below T6 (mkF m 77 #[.val (.long q0), .second, .val (.long q1), .second, .val (.long q2), .second, .val (.long q3), .second, .val (.ref b1), .val (.long (q3 + (1 : Int64))), .second, .val (.long ((q1.toInt32).toInt64)), .second, .val (.long ((q3.toInt32).toInt64)), .second, .unset] [(.ref b6)]) _
    refine own_go (fun _ => XS.dup X6.here hx rfl (hb hby at_77) rfl rfl) ?_
    show own_Ends p e below T6 (mkF m 78 #[.val (.long q0), .second, .val (.long q1), .second, .val (.long q2), .second, .val (.long q3), .second, .val (.ref b1), .val (.long (q3 + (1 : Int64))), .second, .val (.long ((q1.toInt32).toInt64)), .second, .val (.long ((q3.toInt32).toInt64)), .second, .unset] [(.ref b6), (.ref b6)]) _
    refine own_go (fun _ => XS.lloadN X6.here hx rfl (hb hby at_78) rfl) ?_
    show own_Ends p e below T6 (mkF m 79 #[.val (.long q0), .second, .val (.long q1), .second, .val (.long q2), .second, .val (.long q3), .second, .val (.ref b1), .val (.long (q3 + (1 : Int64))), .second, .val (.long ((q1.toInt32).toInt64)), .second, .val (.long ((q3.toInt32).toInt64)), .second, .unset] [(.long q0), (.ref b6), (.ref b6)]) _
    refine own_go (fun _ => XS.lload X6.here hx rfl (hb hby at_79) rfl) ?_
    show own_Ends p e below T6 (mkF m 81 #[.val (.long q0), .second, .val (.long q1), .second, .val (.long q2), .second, .val (.long q3), .second, .val (.ref b1), .val (.long (q3 + (1 : Int64))), .second, .val (.long ((q1.toInt32).toInt64)), .second, .val (.long ((q3.toInt32).toInt64)), .second, .unset] [(.long ((q1.toInt32).toInt64)), (.long q0), (.ref b6), (.ref b6)]) _
    refine own_go (fun _ => XS.lload X6.here hx rfl (hb hby at_81) rfl) ?_
    show own_Ends p e below T6 (mkF m 83 #[.val (.long q0), .second, .val (.long q1), .second, .val (.long q2), .second, .val (.long q3), .second, .val (.ref b1), .val (.long (q3 + (1 : Int64))), .second, .val (.long ((q1.toInt32).toInt64)), .second, .val (.long ((q3.toInt32).toInt64)), .second, .unset] [(.long q2), (.long ((q1.toInt32).toInt64)), (.long q0), (.ref b6), (.ref b6)]) _
    obtain ⟨_, _, ⟨T7, L7, k7, n7⟩, -, X7, ⟨Lc7, hQ7, l7, y7, z7⟩, st7⟩ := X6.specialBack hx (y := (⟨"com/example/naviglio/naviglio/storage/KeptTicks", "<init>", "(JJJ)V"⟩ : MethodName)) rfl hown (mvT hZ (hw _ (List.mem_of_getElem? (i := 3) rfl))) (mvT hZ (hw _ (List.mem_of_getElem? (i := 4) rfl))) (mvT hZ (hw _ (List.mem_of_getElem? (i := 5) rfl))) (by decide) (backOf (W := 1) (rmInit l Z a0 hw [] b6 q0 (((q1.toInt32).toInt64)) q2  h6 n0 Z6 A6 F_b6_first F_b6_step F_b6_count g_b6) hZ (hw _ (List.mem_of_getElem? (i := 5) rfl)) (hw _ (List.mem_of_getElem? (i := 2) rfl)) (by decide) (by decide)) (g := (mkF m 83 #[.val (.long q0), .second, .val (.long q1), .second, .val (.long q2), .second, .val (.long q3), .second, .val (.ref b1), .val (.long (q3 + (1 : Int64))), .second, .val (.long ((q1.toInt32).toInt64)), .second, .val (.long ((q3.toInt32).toInt64)), .second, .unset] [(.long q2), (.long ((q1.toInt32).toInt64)), (.long q0), (.ref b6), (.ref b6)])) rfl (by rw [hml]; rfl) (Steps.refl _) (a := b6) (argsL := [(.long q0), (.long ((q1.toInt32).toInt64)), (.long q2)]) (rest := [(.ref b6)]) (lenOf pd_1 rfl) rfl (by show 2 * 0 + _ ≤ _; exact Nat.le_of_eq rfl) (hb hby at_83) (fun _ _ => ⟨rfl, e6, (by decide : 2 + 0 ≤ _), (by decide : 6 + 0 ≤ _)⟩)
    dsimp only [Pt.U, Pt.locs, Pt.cells, Pt.slots] at X7 l7 y7 z7 st7 hQ7
    subst l7 y7 z7
    refine own_go (fun _ k => st7.trans k) ?_
    obtain ⟨rfl, N7q, Kq7, Eq7, F7_first, F7_step, F7_count⟩ := hQ7
    replace A1 := A1.keep Kq7
    replace F2_first := F2_first.keep Kq7 (ninS ne_b1_b6 nin0)
    replace F2_step := F2_step.keep Kq7 (ninS ne_b1_b6 nin0)
    replace F2_count := F2_count.keep Kq7 (ninS ne_b1_b6 nin0)
    replace A6 := A6.keep Kq7
    have K7 := K6.trans Kq7 (allS (Or.inr sz_b6) all0)
    have Z7 : n0 ≤ T7.heap.size := Nat.le_trans Z0 K7.1
    clear Eq7
    have N7 := Fr.app N5 N7q
    show own_Ends p e below T7 (mkF m 86 #[.val (.long q0), .second, .val (.long q1), .second, .val (.long q2), .second, .val (.long q3), .second, .val (.ref b1), .val (.long (q3 + (1 : Int64))), .second, .val (.long ((q1.toInt32).toInt64)), .second, .val (.long ((q3.toInt32).toInt64)), .second, .unset] [(.ref b6)]) _
    refine own_go (fun _ => XS.astore X7.here hx rfl (hb hby at_86) rfl rfl (l' := #[.val (.long q0), .second, .val (.long q1), .second, .val (.long q2), .second, .val (.long q3), .second, .val (.ref b1), .val (.long (q3 + (1 : Int64))), .second, .val (.long ((q1.toInt32).toInt64)), .second, .val (.long ((q3.toInt32).toInt64)), .second, .val (.ref b6)]) rfl) ?_
    show own_Ends p e below T7 (mkF m 88 #[.val (.long q0), .second, .val (.long q1), .second, .val (.long q2), .second, .val (.long q3), .second, .val (.ref b1), .val (.long (q3 + (1 : Int64))), .second, .val (.long ((q1.toInt32).toInt64)), .second, .val (.long ((q3.toInt32).toInt64)), .second, .val (.ref b6)] []) _
    refine own_go (fun _ => XS.aload X7.here hx rfl (hb hby at_88) rfl rfl) ?_
    show own_Ends p e below T7 (mkF m 90 #[.val (.long q0), .second, .val (.long q1), .second, .val (.long q2), .second, .val (.long q3), .second, .val (.ref b1), .val (.long (q3 + (1 : Int64))), .second, .val (.long ((q1.toInt32).toInt64)), .second, .val (.long ((q3.toInt32).toInt64)), .second, .val (.ref b6)] [(.ref b6)]) _
    refine own_go (fun _ => XS.aload X7.here hx rfl (hb hby at_90) rfl rfl) ?_
    show own_Ends p e below T7 (mkF m 92 #[.val (.long q0), .second, .val (.long q1), .second, .val (.long q2), .second, .val (.long q3), .second, .val (.ref b1), .val (.long (q3 + (1 : Int64))), .second, .val (.long ((q1.toInt32).toInt64)), .second, .val (.long ((q3.toInt32).toInt64)), .second, .val (.ref b6)] [(.ref b6), (.ref b6)]) _
    refine own_go (fun _ => XS.lload X7.here hx rfl (hb hby at_92) rfl) ?_
    show own_Ends p e below T7 (mkF m 94 #[.val (.long q0), .second, .val (.long q1), .second, .val (.long q2), .second, .val (.long q3), .second, .val (.ref b1), .val (.long (q3 + (1 : Int64))), .second, .val (.long ((q1.toInt32).toInt64)), .second, .val (.long ((q3.toInt32).toInt64)), .second, .val (.ref b6)] [(.long ((q3.toInt32).toInt64)), (.ref b6), (.ref b6)]) _
    obtain ⟨cq8, kq8, q8a, q8b, q8c⟩ := isOf hZ rfl A6
    obtain ⟨_, _, ⟨T8, L8, k8, n8⟩, -, X8, ⟨Lc8, hQ8, l8, y8, z8⟩, st8⟩ := X7.virtualBack hx (y := (⟨"com/example/naviglio/naviglio/storage/KeptTicks", "tick", "(J)J"⟩ : MethodName)) (z := (⟨"com/example/naviglio/naviglio/storage/KeptTicks", "tick", "(J)J"⟩ : MethodName)) hown (mvT hZ (hw _ (List.mem_of_getElem? (i := 20) rfl))) (mvT hZ (hw _ (List.mem_of_getElem? (i := 21) rfl))) (notFace_of_selects (args := #[]) (mvT hZ (hw _ (List.mem_of_getElem? (i := 23) rfl)))) (mvT hZ (hw _ (List.mem_of_getElem? (i := 23) rfl))) (mvT hZ (hw _ (List.mem_of_getElem? (i := 22) rfl))) (by decide) (backOf (W := 1) (rmTick l Z a0 hw [] b6 (((q3.toInt32).toInt64)) q0 (((q1.toInt32).toInt64)) (T7.heap) n0 Z7 F7_first F7_step) hZ (hw _ (List.mem_of_getElem? (i := 24) rfl)) (hw _ (List.mem_of_getElem? (i := 2) rfl)) (by decide) (by decide)) q8a q8c (g := (mkF m 94 #[.val (.long q0), .second, .val (.long q1), .second, .val (.long q2), .second, .val (.long q3), .second, .val (.ref b1), .val (.long (q3 + (1 : Int64))), .second, .val (.long ((q1.toInt32).toInt64)), .second, .val (.long ((q3.toInt32).toInt64)), .second, .val (.ref b6)] [(.long ((q3.toInt32).toInt64)), (.ref b6), (.ref b6)])) rfl (by rw [hml]; rfl) (Steps.refl _) (argsL := [(.long ((q3.toInt32).toInt64))]) (rest := [(.ref b6)]) (lenOf pd_2 rfl) rfl (by show 2 * 0 + _ ≤ _; exact Nat.le_of_eq rfl) (hb hby at_94) (fun _ _ => ⟨rfl, rfl, (by decide : 2 + 0 ≤ _), (by decide : 6 + 0 ≤ _)⟩)
    dsimp only [Pt.U, Pt.locs, Pt.cells, Pt.slots] at X8 l8 y8 z8 st8 hQ8
    subst l8 y8 z8
    refine own_go (fun _ k => st8.trans k) ?_
    obtain ⟨rfl, N8q, eh8⟩ := hQ8
    have N8 := Fr.app N7 N8q
    show own_Ends p e below T8 (mkF m 97 #[.val (.long q0), .second, .val (.long q1), .second, .val (.long q2), .second, .val (.long q3), .second, .val (.ref b1), .val (.long (q3 + (1 : Int64))), .second, .val (.long ((q1.toInt32).toInt64)), .second, .val (.long ((q3.toInt32).toInt64)), .second, .val (.ref b6)] [(.long (q0 + (((q3.toInt32).toInt64) * ((q1.toInt32).toInt64)))), (.ref b6)]) _
    obtain ⟨cq9, kq9, q9a, q9b, q9c⟩ := isOf hZ eh8 A6
    obtain ⟨_, _, ⟨T9, L9, k9, n9⟩, -, X9, ⟨Lc9, hQ9, l9, y9, z9⟩, st9⟩ := X8.virtualBack hx (y := (⟨"com/example/naviglio/naviglio/storage/KeptTicks", "position", "(J)J"⟩ : MethodName)) (z := (⟨"com/example/naviglio/naviglio/storage/KeptTicks", "position", "(J)J"⟩ : MethodName)) hown (mvT hZ (hw _ (List.mem_of_getElem? (i := 25) rfl))) (mvT hZ (hw _ (List.mem_of_getElem? (i := 26) rfl))) (notFace_of_selects (args := #[]) (mvT hZ (hw _ (List.mem_of_getElem? (i := 28) rfl)))) (mvT hZ (hw _ (List.mem_of_getElem? (i := 28) rfl))) (mvT hZ (hw _ (List.mem_of_getElem? (i := 27) rfl))) (by decide) (backOf (W := 0) (rmPos l Z a0 hw [] b6 ((q0 + (((q3.toInt32).toInt64) * ((q1.toInt32).toInt64)))) q0 (((q1.toInt32).toInt64)) (T7.heap) n0 Z7 F7_first F7_step hc69) hZ (hw _ (List.mem_of_getElem? (i := 29) rfl)) (hw _ (List.mem_of_getElem? (i := 2) rfl)) (by decide) (by decide)) q9a q9c (g := (mkF m 97 #[.val (.long q0), .second, .val (.long q1), .second, .val (.long q2), .second, .val (.long q3), .second, .val (.ref b1), .val (.long (q3 + (1 : Int64))), .second, .val (.long ((q1.toInt32).toInt64)), .second, .val (.long ((q3.toInt32).toInt64)), .second, .val (.ref b6)] [(.long (q0 + (((q3.toInt32).toInt64) * ((q1.toInt32).toInt64)))), (.ref b6)])) rfl (by rw [hml]; rfl) (Steps.refl _) (argsL := [(.long (q0 + (((q3.toInt32).toInt64) * ((q1.toInt32).toInt64))))]) (rest := []) (lenOf pd_2 rfl) rfl (by show 2 * 0 + _ ≤ _; exact Nat.le_of_eq rfl) (hb hby at_97) (fun _ _ => ⟨rfl, eh8, (by decide : 2 + 0 ≤ _), (by decide : 6 + 0 ≤ _)⟩)
    dsimp only [Pt.U, Pt.locs, Pt.cells, Pt.slots] at X9 l9 y9 z9 st9 hQ9
    subst l9 y9 z9
    refine own_go (fun _ k => st9.trans k) ?_
    obtain ⟨rfl, N9q, eh9⟩ := hQ9
    have N9 := Fr.app N8 N9q
    show own_Ends p e below T9 (mkF m 100 #[.val (.long q0), .second, .val (.long q1), .second, .val (.long q2), .second, .val (.long q3), .second, .val (.ref b1), .val (.long (q3 + (1 : Int64))), .second, .val (.long ((q1.toInt32).toInt64)), .second, .val (.long ((q3.toInt32).toInt64)), .second, .val (.ref b6)] [(.long (((q0 + (((q3.toInt32).toInt64) * ((q1.toInt32).toInt64))) - q0) / ((q1.toInt32).toInt64)))]) _
    refine own_go (fun _ => XS.lload X9.here hx rfl (hb hby at_100) rfl) ?_
    show own_Ends p e below T9 (mkF m 102 #[.val (.long q0), .second, .val (.long q1), .second, .val (.long q2), .second, .val (.long q3), .second, .val (.ref b1), .val (.long (q3 + (1 : Int64))), .second, .val (.long ((q1.toInt32).toInt64)), .second, .val (.long ((q3.toInt32).toInt64)), .second, .val (.ref b6)] [(.long ((q3.toInt32).toInt64)), (.long (((q0 + (((q3.toInt32).toInt64) * ((q1.toInt32).toInt64))) - q0) / ((q1.toInt32).toInt64)))]) _
    refine own_go (fun _ => XS.lcmp X9.here hx rfl (hb hby at_102) rfl) ?_
    show own_Ends p e below T9 (mkF m 103 #[.val (.long q0), .second, .val (.long q1), .second, .val (.long q2), .second, .val (.long q3), .second, .val (.ref b1), .val (.long (q3 + (1 : Int64))), .second, .val (.long ((q1.toInt32).toInt64)), .second, .val (.long ((q3.toInt32).toInt64)), .second, .val (.ref b6)] [(.int (lcmpW (((q0 + (((q3.toInt32).toInt64) * ((q1.toInt32).toInt64))) - q0) / ((q1.toInt32).toInt64)) ((q3.toInt32).toInt64)))]) _
    refine own_go (fun _ => XS.ifNo X9.here hx rfl (hb hby at_103) rfl ((if0 _ _).trans (teq ((lw_eq (((q0 + (((q3.toInt32).toInt64) * ((q1.toInt32).toInt64))) - q0) / ((q1.toInt32).toInt64)) ((q3.toInt32).toInt64)).mpr (show (((q0 + (((q3.toInt32).toInt64) * ((q1.toInt32).toInt64))) - q0) / ((q1.toInt32).toInt64)) = ((q3.toInt32).toInt64) from own_back _ _ _ hc69))).2)) ?_
    show own_Ends p e below T9 (mkF m 106 #[.val (.long q0), .second, .val (.long q1), .second, .val (.long q2), .second, .val (.long q3), .second, .val (.ref b1), .val (.long (q3 + (1 : Int64))), .second, .val (.long ((q1.toInt32).toInt64)), .second, .val (.long ((q3.toInt32).toInt64)), .second, .val (.ref b6)] []) _
    refine own_go (fun _ => XS.iconst X9.here hx rfl (hb hby at_106)) ?_
    show own_Ends p e below T9 (mkF m 107 #[.val (.long q0), .second, .val (.long q1), .second, .val (.long q2), .second, .val (.long q3), .second, .val (.ref b1), .val (.long (q3 + (1 : Int64))), .second, .val (.long ((q1.toInt32).toInt64)), .second, .val (.long ((q3.toInt32).toInt64)), .second, .val (.ref b6)] [(.int (1 : Int32))]) _
    refine own_go (fun _ => XS.goto X9.here hx rfl (pc0 := 107) (pc' := 111) rfl (hb hby at_107) (by decide) (by decide)) ?_
    show own_Ends p e below T9 (mkF m 111 #[.val (.long q0), .second, .val (.long q1), .second, .val (.long q2), .second, .val (.long q3), .second, .val (.ref b1), .val (.long (q3 + (1 : Int64))), .second, .val (.long ((q1.toInt32).toInt64)), .second, .val (.long ((q3.toInt32).toInt64)), .second, .val (.ref b6)] [(.int (1 : Int32))]) _
    obtain ⟨fs, hr, hrun, hended, hW, hsame⟩ := X9.leave (v := some (.int (1 : Int32))) (fun h => by rw [Bd.returns] at h; cases h)
    refine ⟨_, _, retN X9 hx (t := .boolean) Bd.returns (by simp) (hb hby at_111) hr, hrun, hended, _, _, rfl, ?_, ⟨_, rfl⟩, hW, hsame.mono (by decide) (by decide)⟩
    show Q_rm0 Z q0 q1 q2 q3 h0 n0 _ T9.heap _
    rw [eh9]
    exact ⟨rfl, N9⟩
set_option maxRecDepth 65536 in
set_option maxHeartbeats 40000000 in
theorem comes_1 {Post : Tables → Env → Array Value → State → Outcome → State → Prop} (hpost : ∀ tb e args s v u, (limb_1_1.after args s (.returned v) u = true ∧ limb_1_2.after args s (.returned v) u = true ∧ True) → FrameEnd s (.returned v) u (Jvm.fieldLocs frame_1_writes args s ++ Jvm.arrayLocs frame_1_arrays args s ++ Jvm.staticLocs frame_1_statics s) 16 128 → Post tb e args s (.returned v) u) :
    ArmFor flags0 classFile x code maxLocals ret World_1 tables_1 room_1 Calls_1 rest_1 Pre_1 Post := by
  intro l hfl _ _ p e ha hc hk s m args below hf hA hF happ hP
  obtain ⟨hcalls, hrest, hpre⟩ := hP
  obtain ⟨-, -, -, hnamed, -, -, -, hat⟩ := (Spec.applies_iff hf).mp happ
  obtain ⟨hg, hn⟩ := and_e (Cond.before_iff.mp (show (Jvm.Cond.and given_1 narrow_1).before args s = true from hpre))
  obtain ⟨gv1, gv2⟩ := and_e hg
  obtain ⟨gv3, gv4⟩ := and_e gv2
  obtain ⟨gv5, gv6⟩ := and_e gv4
  obtain ⟨gv7, gv8⟩ := and_e gv6
  obtain ⟨w0, w1, w2, w3, rfl⟩ : ∃ w0 w1 w2 w3 : Value, args = #[w0, w1, w2, w3] := by
    have hs : args.size = 4 := by simpa [Cond.value, given_1] using gv1
    obtain ⟨L⟩ := args
    match L, hs with
    | [w0, w1, w2, w3], _ => exact ⟨w0, w1, w2, w3, rfl⟩
  have hw := fun d (hd : d ∈ tables_1) => atoms_spec (ws := Jvm.Cond.code x code maxLocals ret :: tables_1) hat d (List.mem_cons_of_mem _ hd)
  obtain ⟨i0, ei0⟩ := isL_v gv3
  obtain rfl : w0 = (.long i0) := Option.some.inj ei0
  obtain ⟨i1, ei1⟩ := isL_v gv5
  obtain rfl : w1 = (.long i1) := Option.some.inj ei1
  obtain ⟨i2, ei2⟩ := isL_v gv7
  obtain rfl : w2 = (.long i2) := Option.some.inj ei2
  obtain ⟨i3, ei3⟩ := isL_v gv8
  obtain rfl : w3 = (.long i3) := Option.some.inj ei3
  obtain ⟨n, o, h1, h2, h3, _, L, rfl, ⟨rfl, N⟩, hq⟩ := rm0 l s _ hw tables_1 i0 i1 i2 i3 s.heap s.heap.size (Nat.le_refl _) p e ha hc hk s m _ below hf ((Spec.applies_iff_loose hf).mp happ).1 ⟨rfl, State.Warmed39.refl s, rfl⟩ trivial
  refine ⟨n, _, h1, h2, h3, hpost _ _ _ _ _ _ ⟨Cond.after_iff.mpr rfl, Cond.after_iff.mpr (eq_i res_at (Term.int_eval (1)) rfl), trivial⟩ ⟨hq.1, hq.2.1, (hq.2.2.sift fun y hy => Or.inr (N y hy)).mono (by decide) (by decide)⟩⟩
theorem main_1_1 : Claimed_1_1 := comes_1 fun _ _ _ _ _ _ h hF => ⟨h.1, hF⟩
theorem main_1_2 : Claimed_1_2 := comes_1 fun _ _ _ _ _ _ h hF => ⟨h.2.1, hF⟩
end Jvm.Pilot.@@N@@
namespace Jvm.Pilot.@@N@@
open Jvm Jvm.ClassFile Sem Op Lib Jvm.Free Jvm.Stand Jvm.Pilot.@@N@@.Jvm.D
/-! MADE BY PROGRAM (witnessworld.py) out of the Statement's table words and the real class files: 10 classes; the members and pool entries that the words name. The judged class is class 1, her method 1. -/
namespace start1
open Jvm.ClassFile
def u (s : String) : CpInfo := .utf8 (stringToUtf16 s)
/-- a pool by its gaps: so many unusable entries, then the entry; so many at the end -/
def gap : Nat → List CpInfo → List CpInfo
  | 0, r => r
  | n + 1, r => .unusable :: gap n r
def poolList (es : List (Nat × CpInfo)) (last : Nat) : List CpInfo := es.foldr (fun e r => gap e.1 (e.2 :: r)) (gap last [])
def pool (es : List (Nat × CpInfo)) (last : Nat) : Array CpInfo := ⟨poolList es last⟩
def fileOf (pool : Array CpInfo) (this : Nat) (attrs : Array Attribute := #[]) (ms : Array MethodInfo := #[]) (fl : Nat := 33) (sup : Nat := 0) (ifs : Array Nat := #[]) (fds : Array FieldInfo := #[]) : ClassFile where
  minorVersion := 0
  majorVersion := 65
  constantPool := pool
  accessFlags := fl
  thisClass := this
  superClass := sup
  interfaces := ifs
  fields := fds
  methods := ms
  attributes := attrs
def plain (name : String) (sup : Option ClassId) : Class where
  name := name
  kind := .ordinary
  loader := none
  accessFlags := 33
  super := sup
  interfaces := #[]
  cf := none
  fields := #[]
  methods := #[]
  instanceTypes := #[]
  staticTypes := #[]
  resolved := #[]
  callSites := []
  init := .initialized
  statics := none
  mirror := none

def pool0 : Array CpInfo := pool [(5, u "<init>"), (0, u "()V"), (1, .class_ 10), (1, u "java/lang/Object")] 113

def k0c0 : Code := { maxStack := 0, maxLocals := 1, code := object_method_1_code, exceptionTable := #[], attributes := #[] }
def k0m0 : Method := { name := "<init>", desc := "()V", sig := { parameters := [], returnType := none }, accessFlags := 1, code := some k0c0 }
/-- java/lang/Object -/
def k0 : Class := { plain "java/lang/Object" none with
  accessFlags := 33
  interfaces := #[]
  cf := some (fileOf pool0 8 #[] #[{ accessFlags := 1, nameIndex := 5, descriptorIndex := 6, attributes := #[] }] 33 0 #[] #[])
  fields := #[]
  methods := #[k0m0]
  instanceTypes := #[]
  staticTypes := #[]
  resolved := Array.replicate 124 none
  statics := none }

def pool1 : Array CpInfo := pool [(2, .class_ 4), (1, u "java/lang/Object"), (0, u "<init>"), (0, u "()V"), (0, .class_ 8), (0, u "com/example/naviglio/naviglio/storage/KeptTicks"), (0, .methodref 7 10), (0, .nameAndType 5 11), (0, u "(JJJ)V"), (0, .methodref 7 13), (0, .nameAndType 14 15), (0, u "tick"), (0, u "(J)J"), (0, .methodref 7 17), (0, .nameAndType 18 15), (0, u "position"), (0, .class_ 20), (0, u "com/example/naviglio/naviglio/storage/KeptTicksTickPinLaw"), (2, u "law"), (0, u "(JJJJ)Z")] 3

def k1m0 : Method := { name := "<init>", desc := "()V", sig := { parameters := [], returnType := none }, accessFlags := 1, code := none }
def k1c1 : Code := { maxStack := 8, maxLocals := 16, code := code, exceptionTable := #[], attributes := #[] }
def k1m1 : Method := { name := "law", desc := "(JJJJ)Z", sig := { parameters := [.long, .long, .long, .long], returnType := some .boolean }, accessFlags := 9, code := some k1c1 }
/-- com/example/naviglio/naviglio/storage/KeptTicksTickPinLaw -/
def k1 : Class := { plain "com/example/naviglio/naviglio/storage/KeptTicksTickPinLaw" (some 0) with
  accessFlags := 49
  interfaces := #[]
  cf := some (fileOf pool1 19 #[] #[{ accessFlags := 1, nameIndex := 5, descriptorIndex := 6, attributes := #[] }, { accessFlags := 9, nameIndex := 23, descriptorIndex := 24, attributes := #[] }] 49 2 #[] #[])
  fields := #[]
  methods := #[k1m0, k1m1]
  instanceTypes := #[]
  staticTypes := #[]
  resolved := Array.replicate 28 none
  statics := none }

def pool2 : Array CpInfo := pool [(1, .methodref 2 3), (0, .class_ 4), (0, .nameAndType 5 6), (0, u "java/lang/Object"), (0, u "<init>"), (0, u "()V"), (0, .class_ 8), (0, u "java/lang/Record")] 13

def k2c0 : Code := { maxStack := 1, maxLocals := 1, code := jdk_30_method_1_code, exceptionTable := #[], attributes := #[] }
def k2m0 : Method := { name := "<init>", desc := "()V", sig := { parameters := [], returnType := none }, accessFlags := 4, code := some k2c0 }
/-- java/lang/Record -/
def k2 : Class := { plain "java/lang/Record" (some 0) with
  accessFlags := 1057
  interfaces := #[]
  cf := some (fileOf pool2 7 #[] #[{ accessFlags := 4, nameIndex := 5, descriptorIndex := 6, attributes := #[] }] 1057 2 #[] #[])
  fields := #[]
  methods := #[k2m0]
  instanceTypes := #[]
  staticTypes := #[]
  resolved := Array.replicate 22 none
  statics := none }

def pool3 : Array CpInfo := pool [(1, .methodref 2 3), (0, .class_ 4), (0, .nameAndType 5 6), (0, u "java/lang/Record"), (0, u "<init>"), (0, u "()V"), (0, .fieldref 8 9), (0, .class_ 10), (0, .nameAndType 11 12), (0, u "com/example/naviglio/naviglio/storage/KeptTicks"), (0, u "first"), (0, u "J"), (0, .fieldref 8 14), (0, .nameAndType 15 12), (0, u "step"), (0, .fieldref 8 17), (0, .nameAndType 18 12), (0, u "count"), (2, u "position"), (0, u "(J)J"), (12, u "(JJJ)V"), (3, u "tick")] 29

def k3c0 : Code := { maxStack := 3, maxLocals := 7, code := prog_20_method_1_code, exceptionTable := #[], attributes := #[] }
def k3m0 : Method := { name := "<init>", desc := "(JJJ)V", sig := { parameters := [.long, .long, .long], returnType := none }, accessFlags := 1, code := some k3c0 }
def k3c1 : Code := { maxStack := 6, maxLocals := 3, code := prog_20_method_2_code, exceptionTable := #[], attributes := #[] }
def k3m1 : Method := { name := "tick", desc := "(J)J", sig := { parameters := [.long], returnType := some .long }, accessFlags := 1, code := some k3c1 }
def k3c2 : Code := { maxStack := 4, maxLocals := 3, code := prog_20_method_3_code, exceptionTable := #[], attributes := #[] }
def k3m2 : Method := { name := "position", desc := "(J)J", sig := { parameters := [.long], returnType := some .long }, accessFlags := 1, code := some k3c2 }
/-- com/example/naviglio/naviglio/storage/KeptTicks -/
def k3 : Class := { plain "com/example/naviglio/naviglio/storage/KeptTicks" (some 2) with
  accessFlags := 49
  interfaces := #[]
  cf := some (fileOf pool3 8 #[] #[{ accessFlags := 1, nameIndex := 5, descriptorIndex := 35, attributes := #[] }, { accessFlags := 1, nameIndex := 39, descriptorIndex := 22, attributes := #[] }, { accessFlags := 1, nameIndex := 21, descriptorIndex := 22, attributes := #[] }] 49 2 #[] #[{ accessFlags := 18, nameIndex := 11, descriptorIndex := 12, attributes := #[] }, { accessFlags := 18, nameIndex := 15, descriptorIndex := 12, attributes := #[] }, { accessFlags := 18, nameIndex := 18, descriptorIndex := 12, attributes := #[] }])
  fields := #[{ name := "first", type := .long, accessFlags := 18, slot := 0, constantValue := 0 }, { name := "step", type := .long, accessFlags := 18, slot := 1, constantValue := 0 }, { name := "count", type := .long, accessFlags := 18, slot := 2, constantValue := 0 }]
  methods := #[k3m0, k3m1, k3m2]
  instanceTypes := #[.long, .long, .long]
  staticTypes := #[]
  resolved := Array.replicate 69 none
  statics := none }

def pool4 : Array CpInfo := pool [(1, u "java/lang/Cloneable"), (0, .class_ 1), (0, u "java/lang/Object"), (0, .class_ 3)] 3

/-- java/lang/Cloneable -/
def k4 : Class := { plain "java/lang/Cloneable" (some 0) with
  accessFlags := 1537
  interfaces := #[]
  cf := some (fileOf pool4 2 #[] #[] 1537 4 #[] #[])
  fields := #[]
  methods := #[]
  instanceTypes := #[]
  staticTypes := #[]
  resolved := Array.replicate 8 none
  statics := none }

def pool5 : Array CpInfo := pool [(1, u "java/io/Serializable"), (0, .class_ 1), (0, u "java/lang/Object"), (0, .class_ 3)] 3

/-- java/io/Serializable -/
def k5 : Class := { plain "java/io/Serializable" (some 0) with
  accessFlags := 1537
  interfaces := #[]
  cf := some (fileOf pool5 2 #[] #[] 1537 4 #[] #[])
  fields := #[]
  methods := #[]
  instanceTypes := #[]
  staticTypes := #[]
  resolved := Array.replicate 8 none
  statics := none }

/-- the primitive byte -/
def k6 : Class := { plain "byte" none with kind := .primitive 'B', accessFlags := 0x411 }
/-- [B -/
def k7 : Class := { plain "[B" (some 0) with kind := .array 6 .byte, interfaces := #[4, 5], accessFlags := 1041 }

/-- the primitive int -/
def k8 : Class := { plain "int" none with kind := .primitive 'I', accessFlags := 0x411 }
/-- [I -/
def k9 : Class := { plain "[I" (some 0) with kind := .array 8 .int, interfaces := #[4, 5], accessFlags := 1041 }

def heap : Heap := #[]
def classes : Array Class := #[k0, k1, k2, k3, k4, k5, k6, k7, k8, k9]
def interned : List (Array UInt16 × Addr) := []
def slotsUsed : Nat := 0
def theMethod : MethodId := ⟨1, 1⟩
def args0 : Array Value := #[.long 5, .long 7, .long 3, .long 4]
def aboutOver (below : List Frame) : State where
  vm := { classes := classes, interned := interned.toArray }
  heap := heap
  slotsUsed := slotsUsed
  threads := #[{ frames := .invoking theMethod args0 :: below }]
def below0 : List Frame := [.native { method := ⟨0, 0⟩, args := #[] }]
def about1 : State := aboutOver below0
def p0 : Program := .bare "" "" ""
def e0 : Env := launch0.env 0 0 0
theorem w_frames : about1.frames = Frame.invoking theMethod args0 :: below0 := rfl
set_option maxRecDepth 65536 in
theorem w_args : argsFit about1.vm theMethod args0 = true := by decide +kernel
set_option maxRecDepth 65536 in
theorem w_heap : heapFits about1 = true := by decide +kernel
set_option maxRecDepth 65536 in
theorem w_runnable : about1.curStatus? = some .runnable := by decide +kernel
set_option maxRecDepth 65536 in
theorem w_alone : about1.alone = true := by decide +kernel
set_option maxRecDepth 65536 in
theorem w_named : about1.methodNamed? x = some theMethod := by decide +kernel
set_option maxRecDepth 65536 in
theorem w_hears : about1.hears theMethod below0 = true := by decide +kernel
set_option maxRecDepth 65536 in
theorem w_ripe : about1.ripe theMethod args0 below0 = true := by decide +kernel
theorem w_running : about1.status = .running := rfl
set_option maxRecDepth 65536 in
theorem w_room : about1.hasRoom e0.platform room_1 = true :=
  launch0.hasRoom_least _ room_1 (by decide +kernel) (by decide +kernel) (by decide +kernel) (by decide +kernel) (by decide +kernel) (by decide +kernel)
theorem allAtoms_all (ts : List Jvm.Cond) (a : Array Jvm.Value) (st : Jvm.State) : (allAtoms ts).before a st = ts.all (fun c => c.before a st) := by
  induction ts with
  | nil => rfl
  | cons c t ih =>
    show (Jvm.Cond.and c (allAtoms t)).before a st = _
    rw [Jvm.Cond.before_and, ih, List.all_cons]
def words1 : List Jvm.Cond := Jvm.Cond.code x code maxLocals ret :: tables_1
/-- a 'code' word, met by the world's own term for the bytes: nothing is compared byte by byte -/
theorem code_word {y : MethodName} {bytes : ByteArray} {mx : Nat} {rt : Option FieldType} {a : Array Value} {s : State} {m : MethodId} {meth : Method} {c : Code} (h1 : s.methodNamed? y = some m) (h2 : s.vm.method? m = some meth) (h3 : meth.code = some c) (h4 : c.code = bytes)
    (h5 : (c.maxLocals == mx && c.exceptionTable.isEmpty && decide (c.maxStack ≤ mostOperands) && decide (meth.sig.returnType = rt) && !meth.locks && decide (parseMethodDescriptor y.desc = some meth.sig)) = true) : (Jvm.Cond.code y bytes mx rt).before a s = true := by
  simp only [Bool.and_eq_true, beq_iff_eq, Bool.not_eq_true', decide_eq_true_eq] at h5
  obtain ⟨⟨⟨⟨⟨g1, g2⟩, g3⟩, g4⟩, g5⟩, g6⟩ := h5
  simp [Cond.before, Cond.holds, Cond.value, h1, h2, h3, h4, g1, g2, g3, g4, g5, g6]
def isCode : Jvm.Cond → Bool
  | .code _ _ _ _ => true
  | _ => false
theorem all_split {L : List Jvm.Cond} {P : Jvm.Cond → Bool} (h1 : L.all (fun c => isCode c || P c) = true) (h2 : ∀ c ∈ L.filter isCode, P c = true) : L.all P = true := by
  refine List.all_eq_true.mpr fun c hc => ?_
  have h := List.all_eq_true.mp h1 c hc
  rcases Bool.eq_false_or_eq_true (isCode c) with hi | hi
  · exact h2 c (List.mem_filter.mpr ⟨hc, hi⟩)
  · simpa [hi] using h
set_option maxRecDepth 65536 in
theorem w_c0 : (Jvm.Cond.code x code maxLocals ret).before args0 about1 = true := code_word (m := ⟨1, 1⟩) (meth := k1m1) (c := k1c1) (by decide +kernel) rfl rfl rfl (by decide +kernel)
set_option maxRecDepth 65536 in
theorem w_c1 : (Jvm.Cond.code ({ cls := "com/example/naviglio/naviglio/storage/KeptTicks", name := "<init>", desc := "(JJJ)V" } : Jvm.MethodName) prog_20_method_1_code (7 : Nat) (Option.none : Option Jvm.ClassFile.FieldType)).before args0 about1 = true := code_word (m := ⟨3, 0⟩) (meth := k3m0) (c := k3c0) (by decide +kernel) rfl rfl rfl (by decide +kernel)
set_option maxRecDepth 65536 in
theorem w_c2 : (Jvm.Cond.code ({ cls := "java/lang/Record", name := "<init>", desc := "()V" } : Jvm.MethodName) jdk_30_method_1_code (1 : Nat) (Option.none : Option Jvm.ClassFile.FieldType)).before args0 about1 = true := code_word (m := ⟨2, 0⟩) (meth := k2m0) (c := k2c0) (by decide +kernel) rfl rfl rfl (by decide +kernel)
set_option maxRecDepth 65536 in
theorem w_c3 : (Jvm.Cond.code ({ cls := "java/lang/Object", name := "<init>", desc := "()V" } : Jvm.MethodName) object_method_1_code (1 : Nat) (Option.none : Option Jvm.ClassFile.FieldType)).before args0 about1 = true := code_word (m := ⟨0, 0⟩) (meth := k0m0) (c := k0c0) (by decide +kernel) rfl rfl rfl (by decide +kernel)
set_option maxRecDepth 65536 in
theorem w_c4 : (Jvm.Cond.code ({ cls := "com/example/naviglio/naviglio/storage/KeptTicks", name := "tick", desc := "(J)J" } : Jvm.MethodName) prog_20_method_2_code (3 : Nat) (Option.some Jvm.ClassFile.FieldType.long)).before args0 about1 = true := code_word (m := ⟨3, 1⟩) (meth := k3m1) (c := k3c1) (by decide +kernel) rfl rfl rfl (by decide +kernel)
set_option maxRecDepth 65536 in
theorem w_c5 : (Jvm.Cond.code ({ cls := "com/example/naviglio/naviglio/storage/KeptTicks", name := "position", desc := "(J)J" } : Jvm.MethodName) prog_20_method_3_code (3 : Nat) (Option.some Jvm.ClassFile.FieldType.long)).before args0 about1 = true := code_word (m := ⟨3, 2⟩) (meth := k3m2) (c := k3c2) (by decide +kernel) rfl rfl rfl (by decide +kernel)
def codes1 : List Jvm.Cond := [Jvm.Cond.code x code maxLocals ret, Jvm.Cond.code ({ cls := "com/example/naviglio/naviglio/storage/KeptTicks", name := "<init>", desc := "(JJJ)V" } : Jvm.MethodName) prog_20_method_1_code (7 : Nat) (Option.none : Option Jvm.ClassFile.FieldType), Jvm.Cond.code ({ cls := "java/lang/Record", name := "<init>", desc := "()V" } : Jvm.MethodName) jdk_30_method_1_code (1 : Nat) (Option.none : Option Jvm.ClassFile.FieldType), Jvm.Cond.code ({ cls := "java/lang/Object", name := "<init>", desc := "()V" } : Jvm.MethodName) object_method_1_code (1 : Nat) (Option.none : Option Jvm.ClassFile.FieldType), Jvm.Cond.code ({ cls := "com/example/naviglio/naviglio/storage/KeptTicks", name := "tick", desc := "(J)J" } : Jvm.MethodName) prog_20_method_2_code (3 : Nat) (Option.some Jvm.ClassFile.FieldType.long), Jvm.Cond.code ({ cls := "com/example/naviglio/naviglio/storage/KeptTicks", name := "position", desc := "(J)J" } : Jvm.MethodName) prog_20_method_3_code (3 : Nat) (Option.some Jvm.ClassFile.FieldType.long)]
set_option maxRecDepth 65536 in
theorem codes_eq : words1.filter isCode = codes1 := rfl
theorem w_codes : ∀ c ∈ words1.filter isCode, c.before args0 about1 = true := by
  rw [codes_eq]
  intro c hc
  simp only [codes1, List.mem_cons, List.not_mem_nil, or_false] at hc
  rcases hc with rfl | rfl | rfl | rfl | rfl | rfl
  · exact w_c0
  · exact w_c1
  · exact w_c2
  · exact w_c3
  · exact w_c4
  · exact w_c5
set_option maxRecDepth 65536 in
theorem w_t1 : (words1.take 24).all (fun c => isCode c || c.before args0 about1) = true := by decide +kernel
set_option maxRecDepth 65536 in
theorem w_t2 : (words1.drop 24).all (fun c => isCode c || c.before args0 about1) = true := by decide +kernel
theorem w_tables : (allAtoms (Jvm.Cond.code x code maxLocals ret :: tables_1)).before args0 about1 = true := by
  rw [allAtoms_all]
  show words1.all (fun c => c.before args0 about1) = true
  refine all_split ?_ w_codes
  rw [← List.take_append_drop 24 words1, List.all_append, w_t1, w_t2]
  rfl
set_option maxRecDepth 65536 in
theorem w_case : (Jvm.Cond.and given_1 narrow_1).before args0 about1 = true := by decide +kernel
theorem w_applies : (headSpec (Jvm.Cond.code x code maxLocals ret :: tables_1) room_1).applies x e0.platform about1 = true :=
  (Spec.applies_iff w_frames).mpr ⟨w_running, w_runnable, w_alone, w_named, w_hears, w_ripe, w_room, w_tables⟩
theorem atStart : AtStart classFile x code maxLocals ret World_1 tables_1 room_1 Calls_1 rest_1 Pre_1 launch0 p0 e0 about1 theMethod args0 below0 :=
  ⟨lists_1, trivial, launch0.admits_env _ _ _, launch0.least_env, fairChoices_fair.cas, fairChoices_fair.clock, w_frames, w_args, w_heap, w_applies, trivial, trivial, w_case⟩
end start1
theorem witness_1 : WitnessClaimed_1 := ⟨start1.p0, start1.e0, start1.about1, start1.theMethod, start1.args0, start1.below0, start1.atStart⟩
end Jvm.Pilot.@@N@@
