import JvmDerived
import JvmDerived.Pilot.@@N@@Statement
import JvmDerived.Pilot.@@N@@Code
set_option linter.unusedVariables false
set_option linter.unusedSimpArgs false
namespace Jvm.RoadKit
open Sem ClassFile Op Lib Jvm.Stand Jvm.Free Jvm.LawKit
section New
variable {p : Program} {l : Launch} {e : Env} {R : Room} {s : State} {m : MethodId} {args : Array Value} {below : List Frame} {meth : Method} {c : Code} {T : State} {locs : List Loc} {cells slots : Nat}
theorem retI (X : Stand p l e R s m args below meth c T locs cells slots) (hx : p.tables.exec = Jvm.exec) {pc : Nat} {Ls : Array Slot} {z : Int32} {rest : List Value} (hret : meth.sig.returnType = some .int) (hd : decode c.code pc = .ok (.ireturn, 1)) {fs : List Frame}
    (hl : ∀ (f : JFrame) (acts : List Action), f.method = m → f.locked = none → f.entered = [] → (doReturn e (T.setTop f) acts (some (.int z))).1 = T.setFrames fs) : Steps p.tables e below (T.setTop (mkF m pc Ls (.int z :: rest))) (T.setFrames fs) := by
  have hm' : T.vm.method? m = some meth := X.method'
  have hn : narrow .int (.int z) = .int z := rfl
  show Steps p.tables e below (T.setTop { method := m, pc := pc, locals := Ls, stack := _ :: rest, locked := none }) _
  jvm_step X.here [X.here.top, hx, hd, hm', hret, hn]
  first | (intro acts; rw [hl _ acts rfl rfl rfl]) | rw [hl _ _ rfl rfl rfl]
  exact Steps.refl _
end New
end Jvm.RoadKit
namespace Jvm.Pilot.@@N@@
open Jvm Jvm.ClassFile Sem Op Lib Jvm.Free Jvm.Stand Jvm.LawKit Jvm.RoadKit Bundle Jvm.Pilot.@@N@@.Jvm.D
def own_Ends (p : Program) (e : Env) (below : List Frame) (T : State) (g : JFrame) (P : Outcome → State → Prop) : Prop := ∃ s₂ o, Steps p.tables e below (T.setTop g) s₂ ∧ s₂.status = .running ∧ Ended s₂ below o ∧ P o s₂
theorem own_go {p : Program} {e : Env} {below : List Frame} {T T' : State} {g g' : JFrame} {P : Outcome → State → Prop} (h : ∀ t, Steps p.tables e below (T'.setTop g') t → Steps p.tables e below (T.setTop g) t) (k : own_Ends p e below T' g' P) : own_Ends p e below T g P := by
  obtain ⟨a, o, q, r⟩ := k
  exact ⟨a, o, h _ q, r⟩
def own_Len (Z : State) (h : Heap) (a : Addr) (ty : FieldType) (n : Int32) : Prop := ∃ c : Cell, Arr Z h a c ty ∧ c.slots.size = n.toNatClampNeg ∧ ¬ n < 0
theorem own_Len.lt {Z : State} {h : Heap} {a : Addr} {ty : FieldType} {n : Int32} (F : own_Len Z h a ty n) : a < h.size := by obtain ⟨c, A, -⟩ := F; exact A.lt
theorem own_Len.ext {Z : State} {h h' : Heap} {a : Addr} {ty : FieldType} {n : Int32} (F : own_Len Z h a ty n) (E : Ext h h') : own_Len Z h' a ty n := by obtain ⟨c, A, r⟩ := F; exact ⟨c, A.ext E, r⟩
theorem own_Len.other {Z : State} {h h' : Heap} {a b : Addr} {ty : FieldType} {n : Int32} {sl : Nat} {v : Value} (F : own_Len Z h b ty n) (W : Wr h h' a sl v) (q : b ≠ a) : own_Len Z h' b ty n := by obtain ⟨c, A, r⟩ := F; exact ⟨c, A.other W q, r⟩
theorem own_Len.same {Z : State} {h h' : Heap} {a : Addr} {ty : FieldType} {n : Int32} {sl : Nat} {v : Value} (F : own_Len Z h a ty n) (W : Wr h h' a sl v) : own_Len Z h' a ty n := by obtain ⟨c, A, r1, r2⟩ := F; exact ⟨_, A.same W, by rw [sz_set]; exact r1, r2⟩
theorem own_Len.keep {Z : State} {h h' : Heap} {a : Addr} {ty : FieldType} {n : Int32} {ws : List Addr} (F : own_Len Z h a ty n) (K : Keep h h' ws) (q : a ∉ ws) : own_Len Z h' a ty n := by obtain ⟨c, A, r⟩ := F; exact ⟨c, ⟨K.2.1 a c A.1 q, A.2⟩, r⟩
theorem own_as {p : Program} {e : Env} {below : List Frame} {T : State} {g g' : JFrame} {P : Outcome → State → Prop} (h : g = g') (k : own_Ends p e below T g' P) : own_Ends p e below T g P := h ▸ k

def own_holds (f k t q : Int64) : Int32 := if q < f then 0 else if ((q - f) - ((q - f) / k) * k) = (0 : Int64) then (if ((q - f) / k) < t then 1 else 0) else 0
theorem own_one : (1 : Int64).toInt = 1 := by decide
theorem own_zero : (0 : Int64).toInt = 0 := by decide
theorem own_step (b : Int32) : 1 ≤ ((b &&& (2147483647 : Int32)).toInt64 + (1 : Int64)).toInt ∧ ((b &&& (2147483647 : Int32)).toInt64 + (1 : Int64)).toInt ≤ 2147483648 := by
  have h := c_mask b 2147483647 31 (by decide) (by decide)
  have h0 := c_i2l (b &&& 2147483647)
  have h1 := c_ladd (b &&& 2147483647).toInt64 1
  have r := rng64 ((b &&& 2147483647).toInt64 + 1)
  rw [own_one] at h1
  omega
theorem own_nz {k : Int64} (h : 1 ≤ k.toInt ∧ k.toInt ≤ 2147483648) : ¬ k = (0 : Int64) := fun e => by
  rw [e] at h
  exact absurd h.1 (by decide)
theorem own_r0 {k : Int64} (h : 1 ≤ k.toInt ∧ k.toInt ≤ 2147483648) : 0 ≤ (0 : Int64).toInt ∧ (0 : Int64).toInt < k.toInt := by rw [own_zero]; omega
theorem own_r1 {k : Int64} (h : 1 ≤ k.toInt ∧ k.toInt ≤ 2147483648) (e : Int32) (he : 0 ≤ e.toInt) : 0 ≤ (e.toInt64 - (e.toInt64 / k) * k).toInt ∧ (e.toInt64 - (e.toInt64 / k) * k).toInt < k.toInt := by
  have h1 := (c_lrem e.toInt64 k k.toInt rfl).1 (by rw [c_i2l]; exact he)
  rw [h1]
  exact ⟨Int.emod_nonneg _ (by omega), Int.emod_lt_of_pos _ (by omega)⟩
theorem own_ush (e : Int32) : 0 ≤ ((e.toUInt32 >>> ((1 : Int32) &&& 31).toUInt32).toInt32).toInt := by
  have h := c_iushr e 1 1 (by decide) (by decide)
  rw [h]
  omega
/-- the tick less the first, and its quotient and remainder -/
theorem own_main (a d : Int32) (k r t : Int64) (hk : 1 ≤ k.toInt ∧ k.toInt ≤ 2147483648) (hr : 0 ≤ r.toInt ∧ r.toInt < k.toInt) :
    own_holds a.toInt64 k t (a.toInt64 + d.toInt64 * k + r) = if r = (0 : Int64) then (if d.toInt64 < (0 : Int64) then 0 else if d.toInt64 < t then 1 else 0) else 0 := by
  have ra := rng32 a
  have rd := rng32 d
  have ea := c_i2l a
  have ed := c_i2l d
  have m1 := c_lmul d.toInt64 k
  have rm := rng64 (d.toInt64 * k)
  rw [ed] at m1
  have hb : (d.toInt * k.toInt).natAbs ≤ 2147483648 * 2147483648 := by rw [Int.natAbs_mul]; exact Nat.mul_le_mul (by omega) (by omega)
  have em : (d.toInt64 * k).toInt = d.toInt * k.toInt := by
    generalize d.toInt * k.toInt = P at m1 hb
    omega
  have s1 := c_ladd a.toInt64 (d.toInt64 * k)
  have s2 := c_ladd (a.toInt64 + d.toInt64 * k) r
  have r1 := rng64 (a.toInt64 + d.toInt64 * k)
  have r2 := rng64 (a.toInt64 + d.toInt64 * k + r)
  have et : (a.toInt64 + d.toInt64 * k + r).toInt = a.toInt + d.toInt * k.toInt + r.toInt := by
    rw [em, ea] at s1
    generalize d.toInt * k.toInt = P at *
    omega
  have e0 : (a.toInt64 + d.toInt64 * k + r) - a.toInt64 = d.toInt64 * k + r := by
    apply Int64.toInt_inj.mp
    have z1 := c_lsub (a.toInt64 + d.toInt64 * k + r) a.toInt64
    have z2 := c_ladd (d.toInt64 * k) r
    have q1 := rng64 (a.toInt64 + d.toInt64 * k + r - a.toInt64)
    have q2 := rng64 (d.toInt64 * k + r)
    omega
  have eq : (d.toInt64 * k + r).toInt = d.toInt * k.toInt + r.toInt := by
    have z2 := c_ladd (d.toInt64 * k) r
    have q2 := rng64 (d.toInt64 * k + r)
    rw [em] at z2
    generalize d.toInt * k.toInt = P at *
    omega
  have nm1 : k ≠ -1 := fun e => by rw [e] at hk; exact absurd hk.1 (by decide)
  unfold own_holds
  rw [e0]
  by_cases hd : d.toInt < 0
  · have h1 : (a.toInt64 + d.toInt64 * k + r) < a.toInt64 := by
      rw [Int64.lt_iff_toInt_lt, et, ea]
      have : d.toInt * k.toInt ≤ -1 * k.toInt := Int.mul_le_mul_of_nonneg_right (by omega) (by omega)
      omega
    have h2 : d.toInt64 < (0 : Int64) := by rw [Int64.lt_iff_toInt_lt, ed, own_zero]; exact hd
    rw [if_pos h1, if_pos h2]
    split <;> rfl
  · have hP : 0 ≤ d.toInt * k.toInt := Int.mul_nonneg (by omega) (by omega)
    have h1 : ¬ (a.toInt64 + d.toInt64 * k + r) < a.toInt64 := by rw [Int64.lt_iff_toInt_lt, et, ea]; omega
    have h2 : ¬ d.toInt64 < (0 : Int64) := by rw [Int64.lt_iff_toInt_lt, ed, own_zero]; exact hd
    rw [if_neg h1, if_neg h2]
    have hq := (c_ldiv (d.toInt64 * k + r) k k.toInt rfl nm1).1 (by omega)
    have hm := (c_lrem (d.toInt64 * k + r) k k.toInt rfl).1 (by omega)
    have q1 : (d.toInt * k.toInt + r.toInt) / k.toInt = d.toInt := by
      rw [Int.add_comm, Int.add_mul_ediv_right _ _ (by omega), Int.ediv_eq_zero_of_lt hr.1 hr.2]; omega
    have q2 : (d.toInt * k.toInt + r.toInt) % k.toInt = r.toInt := by
      rw [Int.add_comm, Int.add_mul_emod_self_right]; exact Int.emod_eq_of_lt hr.1 hr.2
    rw [eq, q1] at hq
    rw [eq, q2] at hm
    have e3 : (d.toInt64 * k + r) / k = d.toInt64 := Int64.toInt_inj.mp (by rw [hq, ed])
    have e4 : (d.toInt64 * k + r) - ((d.toInt64 * k + r) / k) * k = r := Int64.toInt_inj.mp hm
    rw [e4, e3]
theorem d2_0 : decode jdk_30_method_1_code 0 = .ok (.aload_n 0, 1) := by decide +kernel
theorem d2_1 : decode jdk_30_method_1_code 1 = .ok (.invokespecial 1, 3) := by decide +kernel
theorem d2_4 : decode jdk_30_method_1_code 4 = .ok (.return_, 1) := by decide +kernel
theorem pn_2 : plainName "java/lang/Record" = true := by first | (simp [plainName, overriddenIn]; done) | decide +kernel
theorem ef_2 (m : MethodId) (a0 : Addr) : entryFrame m #[(.ref a0)] 1 = mkF m 0 #[.val (.ref a0)] [] := by first | (simp [entryFrame, mkF, argsToLocals, Value.category]; done) | rfl
def Q_rmRec (Z : State) (a0 : Addr) (h0 : Heap) (n0 : Nat) (v : Option Value) (h : Heap) (L : List Loc) : Prop := v = none ∧ Fr n0 L ∧ h = h0
set_option maxRecDepth 65536 in
set_option maxHeartbeats 40000000 in
theorem rmRec (l : Launch) (Z : State) (a0 : Array Value) (hw : ∀ d ∈ tables_1, d.before a0 Z = true) (ws : List Jvm.Cond) (a0 : Addr) (h0 : Heap) (n0 : Nat) (Z0 : n0 ≤ h0.size) :
    MetFree l (⟨"java/lang/Record", "<init>", "()V"⟩ : MethodName) (head1 (Jvm.Cond.code (⟨"java/lang/Record", "<init>", "()V"⟩ : MethodName) jdk_30_method_1_code 1 none :: ws) ({ frames := 1, cells := 0, slots := 0, locals := 12 } : Room)) (fun aa U => aa = #[(.ref a0)] ∧ Z.Warmed39 U.vm ∧ U.heap = h0) (fun _ _ _ _ _ => True) (fun _ U ou U' => ∃ v L, ou = .returned v ∧ Q_rmRec Z a0 h0 n0 v U'.heap L ∧ FrameEnd U ou U' L ({ frames := 1, cells := 0, slots := 0, locals := 12 } : Room).cells ({ frames := 1, cells := 0, slots := 0, locals := 12 } : Room).slots) := by
  refine MetFree.of_bodySF (plainFor_of_name pn_2) hisR ?_
  intro p e s m args below meth c s₁ Bd hml0 hP hK
  obtain ⟨rfl, hZ, hh⟩ := hP
  have hx := Bd.exec
  have hby := Bd.bytes
  have hml : c.maxLocals = 1 := hml0
  have hown : s.vm.findClass "java/lang/Record" = some m.cls := findClass_of_methodNamed Bd.named
  have hnm := (name_of_methodNamed Bd.named Bd.method).1
  have X0 : Stand p l e ({ frames := 1, cells := 0, slots := 0, locals := 12 } : Room) s m #[(.ref a0)] below meth c s₁ [] 0 0 := Stand.of_body Bd
  have e0 : s₁.heap = h0 := by rw [← hh, Bd.state]; rfl
  have N0 := Fr.nil n0
  have K0 := Keep.refl h0 []
  refine own_as (ef_2 m a0) ?_
  show own_Ends p e below s₁ (mkF m 0 #[.val (.ref a0)] []) _
  refine own_go (fun _ => XS.aloadN X0.here hx rfl (hb hby d2_0) rfl rfl) ?_
  show own_Ends p e below s₁ (mkF m 1 #[.val (.ref a0)] [(.ref a0)]) _
  obtain ⟨T1, X1, e1, st1⟩ := initO X0 hx hZ hown (hw _ (List.mem_of_getElem? (i := 12) rfl)) (hw _ (List.mem_of_getElem? (i := 13) rfl)) (hw _ (List.mem_of_getElem? (i := 14) rfl)) e0 (g := (mkF m 1 #[.val (.ref a0)] [(.ref a0)])) rfl (by rw [hml]; rfl) rfl (hb hby d2_1) (by decide) (W := 0) (by show 2 * 0 + _ ≤ _; exact Nat.le_of_eq rfl) (by decide)
  refine own_go st1 ?_
  show own_Ends p e below T1 (mkF m 4 #[.val (.ref a0)] []) _
  obtain ⟨fs, hr, hrun, hended, hW, hsame⟩ := X1.leave (v := none) (fun _ => rfl)
  refine ⟨_, _, X1.returnOut hx Bd.returns (hb hby d2_4) hr, hrun, hended, _, _, rfl, ?_, ⟨_, rfl⟩, hW, hsame.mono (by decide) (by decide)⟩
  show Q_rmRec Z a0 h0 n0 _ T1.heap _
  rw [e1]
  exact ⟨rfl, N0, rfl⟩
theorem d1_0 : decode prog_20_method_1_code 0 = .ok (.aload_n 0, 1) := by decide +kernel
theorem d1_1 : decode prog_20_method_1_code 1 = .ok (.invokespecial 1, 3) := by decide +kernel
theorem d1_4 : decode prog_20_method_1_code 4 = .ok (.aload_n 0, 1) := by decide +kernel
theorem d1_5 : decode prog_20_method_1_code 5 = .ok (.lload_n 1, 1) := by decide +kernel
theorem d1_6 : decode prog_20_method_1_code 6 = .ok (.putfield 7, 3) := by decide +kernel
theorem d1_9 : decode prog_20_method_1_code 9 = .ok (.aload_n 0, 1) := by decide +kernel
theorem d1_10 : decode prog_20_method_1_code 10 = .ok (.lload_n 3, 1) := by decide +kernel
theorem d1_11 : decode prog_20_method_1_code 11 = .ok (.putfield 13, 3) := by decide +kernel
theorem d1_14 : decode prog_20_method_1_code 14 = .ok (.aload_n 0, 1) := by decide +kernel
theorem d1_15 : decode prog_20_method_1_code 15 = .ok (.lload 5, 2) := by decide +kernel
theorem d1_17 : decode prog_20_method_1_code 17 = .ok (.putfield 16, 3) := by decide +kernel
theorem d1_20 : decode prog_20_method_1_code 20 = .ok (.return_, 1) := by decide +kernel
theorem pn_1 : plainName "com/example/naviglio/naviglio/storage/KeptTicks" = true := by first | (simp [plainName, overriddenIn]; done) | decide +kernel
theorem ef_1 (m : MethodId) (o : Addr) (q1 : Int64) (q2 : Int64) (q3 : Int64) : entryFrame m #[(.ref o), (.long q1), (.long q2), (.long q3)] 7 = mkF m 0 #[.val (.ref o), .val (.long q1), .second, .val (.long q2), .second, .val (.long q3), .second] [] := by first | (simp [entryFrame, mkF, argsToLocals, Value.category]; done) | rfl
def Q_rmInit (Z : State) (o : Addr) (q1 : Int64) (q2 : Int64) (q3 : Int64) (h0 : Heap) (n0 : Nat) (v : Option Value) (h : Heap) (L : List Loc) : Prop := v = none ∧ Fr n0 L ∧ Keep h0 h [o] ∧ Exa Z h o "com/example/naviglio/naviglio/storage/KeptTicks" ∧ Fld Z h o "com/example/naviglio/naviglio/storage/KeptTicks" "first" "J" (.long q1) ∧ Fld Z h o "com/example/naviglio/naviglio/storage/KeptTicks" "step" "J" (.long q2) ∧ Fld Z h o "com/example/naviglio/naviglio/storage/KeptTicks" "count" "J" (.long q3)
theorem pd_0 : parseMethodDescriptor "()V" = some ⟨[], none⟩ := by decide +kernel
set_option maxRecDepth 65536 in
set_option maxHeartbeats 40000000 in
theorem rmInit (l : Launch) (Z : State) (a0 : Array Value) (hw : ∀ d ∈ tables_1, d.before a0 Z = true) (ws : List Jvm.Cond) (o : Addr) (q1 : Int64) (q2 : Int64) (q3 : Int64) (h0 : Heap) (n0 : Nat) (Z0 : n0 ≤ h0.size) (E_o : Exa Z h0 o "com/example/naviglio/naviglio/storage/KeptTicks") (F_o_first : Fld Z h0 o "com/example/naviglio/naviglio/storage/KeptTicks" "first" "J" (.long (0 : Int64))) (F_o_step : Fld Z h0 o "com/example/naviglio/naviglio/storage/KeptTicks" "step" "J" (.long (0 : Int64))) (F_o_count : Fld Z h0 o "com/example/naviglio/naviglio/storage/KeptTicks" "count" "J" (.long (0 : Int64))) (g_o : n0 ≤ o) :
    MetFree l (⟨"com/example/naviglio/naviglio/storage/KeptTicks", "<init>", "(JJJ)V"⟩ : MethodName) (head1 (Jvm.Cond.code (⟨"com/example/naviglio/naviglio/storage/KeptTicks", "<init>", "(JJJ)V"⟩ : MethodName) prog_20_method_1_code 7 none :: ws) ({ frames := 2, cells := 0, slots := 0, locals := 24 } : Room)) (fun aa U => aa = #[(.ref o), (.long q1), (.long q2), (.long q3)] ∧ Z.Warmed39 U.vm ∧ U.heap = h0) (fun _ _ _ _ _ => True) (fun _ U ou U' => ∃ v L, ou = .returned v ∧ Q_rmInit Z o q1 q2 q3 h0 n0 v U'.heap L ∧ FrameEnd U ou U' L ({ frames := 2, cells := 0, slots := 0, locals := 24 } : Room).cells ({ frames := 2, cells := 0, slots := 0, locals := 24 } : Room).slots) := by
  refine MetFree.of_bodySF (plainFor_of_name pn_1) hisR ?_
  intro p e s m args below meth c s₁ Bd hml0 hP hK
  obtain ⟨rfl, hZ, hh⟩ := hP
  have hx := Bd.exec
  have hby := Bd.bytes
  have hml : c.maxLocals = 7 := hml0
  have hown : s.vm.findClass "com/example/naviglio/naviglio/storage/KeptTicks" = some m.cls := findClass_of_methodNamed Bd.named
  have hnm := (name_of_methodNamed Bd.named Bd.method).1
  have X0 : Stand p l e ({ frames := 2, cells := 0, slots := 0, locals := 24 } : Room) s m #[(.ref o), (.long q1), (.long q2), (.long q3)] below meth c s₁ [] 0 0 := Stand.of_body Bd
  have e0 : s₁.heap = h0 := by rw [← hh, Bd.state]; rfl
  have N0 := Fr.nil n0
  have K0 := Keep.refl h0 [o]
  refine own_as (ef_1 m o q1 q2 q3) ?_
  show own_Ends p e below s₁ (mkF m 0 #[.val (.ref o), .val (.long q1), .second, .val (.long q2), .second, .val (.long q3), .second] []) _
  refine own_go (fun _ => XS.aloadN X0.here hx rfl (hb hby d1_0) rfl rfl) ?_
  show own_Ends p e below s₁ (mkF m 1 #[.val (.ref o), .val (.long q1), .second, .val (.long q2), .second, .val (.long q3), .second] [(.ref o)]) _
  obtain ⟨_, _, ⟨T1, L1, k1, n1⟩, -, X1, ⟨Lc1, hQ1, l1, y1, z1⟩, st1⟩ := X0.specialBack hx (y := (⟨"java/lang/Record", "<init>", "()V"⟩ : MethodName)) rfl hown (mvT hZ (hw _ (List.mem_of_getElem? (i := 7) rfl))) (mvT hZ (hw _ (List.mem_of_getElem? (i := 8) rfl))) (mvT hZ (hw _ (List.mem_of_getElem? (i := 11) rfl))) (by decide) (backOf (W := 0) (rmRec l Z a0 hw [] o  h0 n0 Z0 ) hZ (hw _ (List.mem_of_getElem? (i := 11) rfl)) (hw _ (List.mem_of_getElem? (i := 10) rfl)) (by decide) (by decide)) (g := (mkF m 1 #[.val (.ref o), .val (.long q1), .second, .val (.long q2), .second, .val (.long q3), .second] [(.ref o)])) rfl (by rw [hml]; rfl) (Steps.refl _) (a := o) (argsL := []) (rest := []) (lenOf pd_0 rfl) rfl (by show 2 * 0 + _ ≤ _; exact Nat.le_of_eq rfl) (hb hby d1_1) (fun _ _ => ⟨rfl, e0, (by decide : 0 + 0 ≤ _), (by decide : 0 + 0 ≤ _)⟩)
  dsimp only [Pt.U, Pt.locs, Pt.cells, Pt.slots] at X1 l1 y1 z1 st1 hQ1
  subst l1 y1 z1
  refine own_go (fun _ k => st1.trans k) ?_
  obtain ⟨rfl, N1q, eh1⟩ := hQ1
  have N1 := Fr.app N0 N1q
  show own_Ends p e below T1 (mkF m 4 #[.val (.ref o), .val (.long q1), .second, .val (.long q2), .second, .val (.long q3), .second] []) _
  refine own_go (fun _ => XS.aloadN X1.here hx rfl (hb hby d1_4) rfl rfl) ?_
  show own_Ends p e below T1 (mkF m 5 #[.val (.ref o), .val (.long q1), .second, .val (.long q2), .second, .val (.long q3), .second] [(.ref o)]) _
  refine own_go (fun _ => XS.lloadN X1.here hx rfl (hb hby d1_5) rfl) ?_
  show own_Ends p e below T1 (mkF m 6 #[.val (.ref o), .val (.long q1), .second, .val (.long q2), .second, .val (.long q3), .second] [(.long q1), (.ref o)]) _
  obtain ⟨T2, h2, X2, e2, W2, st2⟩ := putF X1 hx hZ hown (host := "") (Or.inl (hw _ (List.mem_of_getElem? (i := 15) rfl))) Via.refl eh1 F_o_first E_o (Or.inr ⟨(hw _ (List.mem_of_getElem? (i := 16) rfl)), rfl, hnm⟩) (hw _ (List.mem_of_getElem? (i := 2) rfl)) (ty := .long) (by decide) rfl rfl (g := (mkF m 6 #[.val (.ref o), .val (.long q1), .second, .val (.long q2), .second, .val (.long q3), .second] [(.long q1), (.ref o)])) rfl rfl (hb hby d1_6)
  refine own_go st2 ?_
  replace F_o_first := F_o_first.same W2
  replace E_o := E_o.wr W2
  replace F_o_step := F_o_step.other W2 (Or.inr (slot_ne (Or.inr (hw _ (List.mem_of_getElem? (i := 18) rfl))) (Or.inr (hw _ (List.mem_of_getElem? (i := 16) rfl))) (by decide) (t := .long) (t' := .long) (by decide) (by decide)))
  replace F_o_count := F_o_count.other W2 (Or.inr (slot_ne (Or.inr (hw _ (List.mem_of_getElem? (i := 20) rfl))) (Or.inr (hw _ (List.mem_of_getElem? (i := 16) rfl))) (by decide) (t := .long) (t' := .long) (by decide) (by decide)))
  have N2 := Fr.snoc X2 N1 g_o
  have K2 := K0.wr W2 (Or.inl (List.mem_of_getElem? (i := 0) rfl))
  have Z2 : n0 ≤ h2.size := Nat.le_trans Z0 K2.1
  show own_Ends p e below T2 (mkF m 9 #[.val (.ref o), .val (.long q1), .second, .val (.long q2), .second, .val (.long q3), .second] []) _
  refine own_go (fun _ => XS.aloadN X2.here hx rfl (hb hby d1_9) rfl rfl) ?_
  show own_Ends p e below T2 (mkF m 10 #[.val (.ref o), .val (.long q1), .second, .val (.long q2), .second, .val (.long q3), .second] [(.ref o)]) _
  refine own_go (fun _ => XS.lloadN X2.here hx rfl (hb hby d1_10) rfl) ?_
  show own_Ends p e below T2 (mkF m 11 #[.val (.ref o), .val (.long q1), .second, .val (.long q2), .second, .val (.long q3), .second] [(.long q2), (.ref o)]) _
  obtain ⟨T3, h3, X3, e3, W3, st3⟩ := putF X2 hx hZ hown (host := "") (Or.inl (hw _ (List.mem_of_getElem? (i := 17) rfl))) Via.refl e2 F_o_step E_o (Or.inr ⟨(hw _ (List.mem_of_getElem? (i := 18) rfl)), rfl, hnm⟩) (hw _ (List.mem_of_getElem? (i := 2) rfl)) (ty := .long) (by decide) rfl rfl (g := (mkF m 11 #[.val (.ref o), .val (.long q1), .second, .val (.long q2), .second, .val (.long q3), .second] [(.long q2), (.ref o)])) rfl rfl (hb hby d1_11)
  refine own_go st3 ?_
  replace F_o_step := F_o_step.same W3
  replace E_o := E_o.wr W3
  replace F_o_first := F_o_first.other W3 (Or.inr (slot_ne (Or.inr (hw _ (List.mem_of_getElem? (i := 16) rfl))) (Or.inr (hw _ (List.mem_of_getElem? (i := 18) rfl))) (by decide) (t := .long) (t' := .long) (by decide) (by decide)))
  replace F_o_count := F_o_count.other W3 (Or.inr (slot_ne (Or.inr (hw _ (List.mem_of_getElem? (i := 20) rfl))) (Or.inr (hw _ (List.mem_of_getElem? (i := 18) rfl))) (by decide) (t := .long) (t' := .long) (by decide) (by decide)))
  have N3 := Fr.snoc X3 N2 g_o
  have K3 := K2.wr W3 (Or.inl (List.mem_of_getElem? (i := 0) rfl))
  have Z3 : n0 ≤ h3.size := Nat.le_trans Z0 K3.1
  show own_Ends p e below T3 (mkF m 14 #[.val (.ref o), .val (.long q1), .second, .val (.long q2), .second, .val (.long q3), .second] []) _
  refine own_go (fun _ => XS.aloadN X3.here hx rfl (hb hby d1_14) rfl rfl) ?_
  show own_Ends p e below T3 (mkF m 15 #[.val (.ref o), .val (.long q1), .second, .val (.long q2), .second, .val (.long q3), .second] [(.ref o)]) _
  refine own_go (fun _ => XS.lload X3.here hx rfl (hb hby d1_15) rfl) ?_
  show own_Ends p e below T3 (mkF m 17 #[.val (.ref o), .val (.long q1), .second, .val (.long q2), .second, .val (.long q3), .second] [(.long q3), (.ref o)]) _
  obtain ⟨T4, h4, X4, e4, W4, st4⟩ := putF X3 hx hZ hown (host := "") (Or.inl (hw _ (List.mem_of_getElem? (i := 19) rfl))) Via.refl e3 F_o_count E_o (Or.inr ⟨(hw _ (List.mem_of_getElem? (i := 20) rfl)), rfl, hnm⟩) (hw _ (List.mem_of_getElem? (i := 2) rfl)) (ty := .long) (by decide) rfl rfl (g := (mkF m 17 #[.val (.ref o), .val (.long q1), .second, .val (.long q2), .second, .val (.long q3), .second] [(.long q3), (.ref o)])) rfl rfl (hb hby d1_17)
  refine own_go st4 ?_
  replace F_o_count := F_o_count.same W4
  replace E_o := E_o.wr W4
  replace F_o_first := F_o_first.other W4 (Or.inr (slot_ne (Or.inr (hw _ (List.mem_of_getElem? (i := 16) rfl))) (Or.inr (hw _ (List.mem_of_getElem? (i := 20) rfl))) (by decide) (t := .long) (t' := .long) (by decide) (by decide)))
  replace F_o_step := F_o_step.other W4 (Or.inr (slot_ne (Or.inr (hw _ (List.mem_of_getElem? (i := 18) rfl))) (Or.inr (hw _ (List.mem_of_getElem? (i := 20) rfl))) (by decide) (t := .long) (t' := .long) (by decide) (by decide)))
  have N4 := Fr.snoc X4 N3 g_o
  have K4 := K3.wr W4 (Or.inl (List.mem_of_getElem? (i := 0) rfl))
  have Z4 : n0 ≤ h4.size := Nat.le_trans Z0 K4.1
  show own_Ends p e below T4 (mkF m 20 #[.val (.ref o), .val (.long q1), .second, .val (.long q2), .second, .val (.long q3), .second] []) _
  obtain ⟨fs, hr, hrun, hended, hW, hsame⟩ := X4.leave (v := none) (fun _ => rfl)
  refine ⟨_, _, X4.returnOut hx Bd.returns (hb hby d1_20) hr, hrun, hended, _, _, rfl, ?_, ⟨_, rfl⟩, hW, hsame.mono (by decide) (by decide)⟩
  show Q_rmInit Z o q1 q2 q3 h0 n0 _ T4.heap _
  rw [e4]
  exact ⟨rfl, N4, K4, E_o, F_o_first, F_o_step, F_o_count⟩
theorem d5_0 : decode prog_20_method_3_code 0 = .ok (.lload_n 1, 1) := by decide +kernel
theorem d5_1 : decode prog_20_method_3_code 1 = .ok (.aload_n 0, 1) := by decide +kernel
theorem d5_2 : decode prog_20_method_3_code 2 = .ok (.getfield 7, 3) := by decide +kernel
theorem d5_5 : decode prog_20_method_3_code 5 = .ok (.lsub, 1) := by decide +kernel
theorem d5_6 : decode prog_20_method_3_code 6 = .ok (.aload_n 0, 1) := by decide +kernel
theorem d5_7 : decode prog_20_method_3_code 7 = .ok (.getfield 13, 3) := by decide +kernel
theorem d5_10 : decode prog_20_method_3_code 10 = .ok (.ldiv, 1) := by decide +kernel
theorem d5_11 : decode prog_20_method_3_code 11 = .ok (.lreturn, 1) := by decide +kernel
theorem pn_5 : plainName "com/example/naviglio/naviglio/storage/KeptTicks" = true := by first | (simp [plainName, overriddenIn]; done) | decide +kernel
theorem ef_5 (m : MethodId) (o : Addr) (q : Int64) : entryFrame m #[(.ref o), (.long q)] 3 = mkF m 0 #[.val (.ref o), .val (.long q), .second] [] := by first | (simp [entryFrame, mkF, argsToLocals, Value.category]; done) | rfl
def Q_rmPos (Z : State) (o : Addr) (q : Int64) (f : Int64) (k : Int64) (h0 : Heap) (n0 : Nat) (v : Option Value) (h : Heap) (L : List Loc) : Prop := v = some (.long ((q - f) / k)) ∧ Fr n0 L ∧ h = h0
set_option maxRecDepth 65536 in
set_option maxHeartbeats 40000000 in
theorem rmPos (l : Launch) (Z : State) (a0 : Array Value) (hw : ∀ d ∈ tables_1, d.before a0 Z = true) (ws : List Jvm.Cond) (o : Addr) (q : Int64) (f : Int64) (k : Int64) (h0 : Heap) (n0 : Nat) (Z0 : n0 ≤ h0.size) (F_o_first : Fld Z h0 o "com/example/naviglio/naviglio/storage/KeptTicks" "first" "J" (.long f)) (F_o_step : Fld Z h0 o "com/example/naviglio/naviglio/storage/KeptTicks" "step" "J" (.long k)) (hk : ¬ k = (0 : Int64)) :
    MetFree l (⟨"com/example/naviglio/naviglio/storage/KeptTicks", "position", "(J)J"⟩ : MethodName) (head1 (Jvm.Cond.code (⟨"com/example/naviglio/naviglio/storage/KeptTicks", "position", "(J)J"⟩ : MethodName) prog_20_method_3_code 3 (some .long) :: ws) ({ frames := 0, cells := 0, slots := 0, locals := 0 } : Room)) (fun aa U => aa = #[(.ref o), (.long q)] ∧ Z.Warmed39 U.vm ∧ U.heap = h0) (fun _ _ _ _ _ => True) (fun _ U ou U' => ∃ v L, ou = .returned v ∧ Q_rmPos Z o q f k h0 n0 v U'.heap L ∧ FrameEnd U ou U' L ({ frames := 0, cells := 0, slots := 0, locals := 0 } : Room).cells ({ frames := 0, cells := 0, slots := 0, locals := 0 } : Room).slots) := by
  refine MetFree.of_bodySF (plainFor_of_name pn_5) hisR ?_
  intro p e s m args below meth c s₁ Bd hml0 hP hK
  obtain ⟨rfl, hZ, hh⟩ := hP
  have hx := Bd.exec
  have hby := Bd.bytes
  have hml : c.maxLocals = 3 := hml0
  have hown : s.vm.findClass "com/example/naviglio/naviglio/storage/KeptTicks" = some m.cls := findClass_of_methodNamed Bd.named
  have hnm := (name_of_methodNamed Bd.named Bd.method).1
  have X0 : Stand p l e ({ frames := 0, cells := 0, slots := 0, locals := 0 } : Room) s m #[(.ref o), (.long q)] below meth c s₁ [] 0 0 := Stand.of_body Bd
  have e0 : s₁.heap = h0 := by rw [← hh, Bd.state]; rfl
  have N0 := Fr.nil n0
  have K0 := Keep.refl h0 []
  refine own_as (ef_5 m o q) ?_
  show own_Ends p e below s₁ (mkF m 0 #[.val (.ref o), .val (.long q), .second] []) _
  refine own_go (fun _ => XS.lloadN X0.here hx rfl (hb hby d5_0) rfl) ?_
  show own_Ends p e below s₁ (mkF m 1 #[.val (.ref o), .val (.long q), .second] [(.long q)]) _
  refine own_go (fun _ => XS.aloadN X0.here hx rfl (hb hby d5_1) rfl rfl) ?_
  show own_Ends p e below s₁ (mkF m 2 #[.val (.ref o), .val (.long q), .second] [(.ref o), (.long q)]) _
  obtain ⟨T1, X1, e1, st1⟩ := getF X0 hx hZ hown (host := "") (Or.inl (hw _ (List.mem_of_getElem? (i := 15) rfl))) Via.refl e0 F_o_first (g := (mkF m 2 #[.val (.ref o), .val (.long q), .second] [(.ref o), (.long q)])) rfl rfl (hb hby d5_2)
  refine own_go st1 ?_
  show own_Ends p e below T1 (mkF m 5 #[.val (.ref o), .val (.long q), .second] [(.long f), (.long q)]) _
  refine own_go (fun _ => XS.lsub X1.here hx rfl (hb hby d5_5) rfl) ?_
  show own_Ends p e below T1 (mkF m 6 #[.val (.ref o), .val (.long q), .second] [(.long (q - f))]) _
  refine own_go (fun _ => XS.aloadN X1.here hx rfl (hb hby d5_6) rfl rfl) ?_
  show own_Ends p e below T1 (mkF m 7 #[.val (.ref o), .val (.long q), .second] [(.ref o), (.long (q - f))]) _
  obtain ⟨T2, X2, e2, st2⟩ := getF X1 hx hZ hown (host := "") (Or.inl (hw _ (List.mem_of_getElem? (i := 17) rfl))) Via.refl e1 F_o_step (g := (mkF m 7 #[.val (.ref o), .val (.long q), .second] [(.ref o), (.long (q - f))])) rfl rfl (hb hby d5_7)
  refine own_go st2 ?_
  show own_Ends p e below T2 (mkF m 10 #[.val (.ref o), .val (.long q), .second] [(.long k), (.long (q - f))]) _
  refine own_go (fun _ => XS.ldiv X2.here hx rfl (hb hby d5_10) rfl hk) ?_
  show own_Ends p e below T2 (mkF m 11 #[.val (.ref o), .val (.long q), .second] [(.long ((q - f) / k))]) _
  obtain ⟨fs, hr, hrun, hended, hW, hsame⟩ := X2.leave (v := some (.long ((q - f) / k))) (fun h => by rw [Bd.returns] at h; cases h)
  refine ⟨_, _, retOut X2 hx Bd.returns rfl (Or.inr (Or.inl ⟨rfl, rfl, _, rfl⟩)) (hb hby d5_11) hr, hrun, hended, _, _, rfl, ?_, ⟨_, rfl⟩, hW, hsame.mono (by decide) (by decide)⟩
  show Q_rmPos Z o q f k h0 n0 _ T2.heap _
  rw [e2]
  exact ⟨by rfl, N0, rfl⟩
theorem d4_0 : decode prog_20_method_4_code 0 = .ok (.lload_n 1, 1) := by decide +kernel
theorem d4_1 : decode prog_20_method_4_code 1 = .ok (.aload_n 0, 1) := by decide +kernel
theorem d4_2 : decode prog_20_method_4_code 2 = .ok (.getfield 7, 3) := by decide +kernel
theorem d4_5 : decode prog_20_method_4_code 5 = .ok (.lcmp, 1) := by decide +kernel
theorem d4_6 : decode prog_20_method_4_code 6 = .ok (.ifCond .lt 36, 3) := by decide +kernel
theorem d4_9 : decode prog_20_method_4_code 9 = .ok (.lload_n 1, 1) := by decide +kernel
theorem d4_10 : decode prog_20_method_4_code 10 = .ok (.aload_n 0, 1) := by decide +kernel
theorem d4_11 : decode prog_20_method_4_code 11 = .ok (.getfield 7, 3) := by decide +kernel
theorem d4_14 : decode prog_20_method_4_code 14 = .ok (.lsub, 1) := by decide +kernel
theorem d4_15 : decode prog_20_method_4_code 15 = .ok (.aload_n 0, 1) := by decide +kernel
theorem d4_16 : decode prog_20_method_4_code 16 = .ok (.getfield 13, 3) := by decide +kernel
theorem d4_19 : decode prog_20_method_4_code 19 = .ok (.lrem, 1) := by decide +kernel
theorem d4_20 : decode prog_20_method_4_code 20 = .ok (.lconst 0, 1) := by decide +kernel
theorem d4_21 : decode prog_20_method_4_code 21 = .ok (.lcmp, 1) := by decide +kernel
theorem d4_22 : decode prog_20_method_4_code 22 = .ok (.ifCond .ne 20, 3) := by decide +kernel
theorem d4_25 : decode prog_20_method_4_code 25 = .ok (.aload_n 0, 1) := by decide +kernel
theorem d4_26 : decode prog_20_method_4_code 26 = .ok (.lload_n 1, 1) := by decide +kernel
theorem d4_27 : decode prog_20_method_4_code 27 = .ok (.invokevirtual 19, 3) := by decide +kernel
theorem d4_30 : decode prog_20_method_4_code 30 = .ok (.aload_n 0, 1) := by decide +kernel
theorem d4_31 : decode prog_20_method_4_code 31 = .ok (.getfield 16, 3) := by decide +kernel
theorem d4_34 : decode prog_20_method_4_code 34 = .ok (.lcmp, 1) := by decide +kernel
theorem d4_35 : decode prog_20_method_4_code 35 = .ok (.ifCond .ge 7, 3) := by decide +kernel
theorem d4_38 : decode prog_20_method_4_code 38 = .ok (.iconst 1, 1) := by decide +kernel
theorem d4_39 : decode prog_20_method_4_code 39 = .ok (.goto 4, 3) := by decide +kernel
theorem d4_42 : decode prog_20_method_4_code 42 = .ok (.iconst 0, 1) := by decide +kernel
theorem d4_43 : decode prog_20_method_4_code 43 = .ok (.ireturn, 1) := by decide +kernel
theorem pn_4 : plainName "com/example/naviglio/naviglio/storage/KeptTicks" = true := by first | (simp [plainName, overriddenIn]; done) | decide +kernel
theorem ef_4 (m : MethodId) (o : Addr) (q : Int64) : entryFrame m #[(.ref o), (.long q)] 3 = mkF m 0 #[.val (.ref o), .val (.long q), .second] [] := by first | (simp [entryFrame, mkF, argsToLocals, Value.category]; done) | rfl
def Q_rmHolds (Z : State) (o : Addr) (q : Int64) (f : Int64) (k : Int64) (t : Int64) (h0 : Heap) (n0 : Nat) (v : Option Value) (h : Heap) (L : List Loc) : Prop := v = some (.int (own_holds f k t q)) ∧ Fr n0 L ∧ h = h0
theorem pd_1 : parseMethodDescriptor "(J)J" = some ⟨[.long], some .long⟩ := by decide +kernel
set_option maxRecDepth 65536 in
set_option maxHeartbeats 40000000 in
theorem rmHolds (l : Launch) (Z : State) (a0 : Array Value) (hw : ∀ d ∈ tables_1, d.before a0 Z = true) (ws : List Jvm.Cond) (o : Addr) (q : Int64) (f : Int64) (k : Int64) (t : Int64) (h0 : Heap) (n0 : Nat) (Z0 : n0 ≤ h0.size) (E_o : Exa Z h0 o "com/example/naviglio/naviglio/storage/KeptTicks") (F_o_first : Fld Z h0 o "com/example/naviglio/naviglio/storage/KeptTicks" "first" "J" (.long f)) (F_o_step : Fld Z h0 o "com/example/naviglio/naviglio/storage/KeptTicks" "step" "J" (.long k)) (F_o_count : Fld Z h0 o "com/example/naviglio/naviglio/storage/KeptTicks" "count" "J" (.long t)) (hk : ¬ k = (0 : Int64)) :
    MetFree l (⟨"com/example/naviglio/naviglio/storage/KeptTicks", "holds", "(J)Z"⟩ : MethodName) (head1 (Jvm.Cond.code (⟨"com/example/naviglio/naviglio/storage/KeptTicks", "holds", "(J)Z"⟩ : MethodName) prog_20_method_4_code 3 (some .boolean) :: ws) ({ frames := 1, cells := 0, slots := 0, locals := 14 } : Room)) (fun aa U => aa = #[(.ref o), (.long q)] ∧ Z.Warmed39 U.vm ∧ U.heap = h0) (fun _ _ _ _ _ => True) (fun _ U ou U' => ∃ v L, ou = .returned v ∧ Q_rmHolds Z o q f k t h0 n0 v U'.heap L ∧ FrameEnd U ou U' L ({ frames := 1, cells := 0, slots := 0, locals := 14 } : Room).cells ({ frames := 1, cells := 0, slots := 0, locals := 14 } : Room).slots) := by
  refine MetFree.of_bodySF (plainFor_of_name pn_4) hisR ?_
  intro p e s m args below meth c s₁ Bd hml0 hP hK
  obtain ⟨rfl, hZ, hh⟩ := hP
  have hx := Bd.exec
  have hby := Bd.bytes
  have hml : c.maxLocals = 3 := hml0
  have hown : s.vm.findClass "com/example/naviglio/naviglio/storage/KeptTicks" = some m.cls := findClass_of_methodNamed Bd.named
  have hnm := (name_of_methodNamed Bd.named Bd.method).1
  have X0 : Stand p l e ({ frames := 1, cells := 0, slots := 0, locals := 14 } : Room) s m #[(.ref o), (.long q)] below meth c s₁ [] 0 0 := Stand.of_body Bd
  have e0 : s₁.heap = h0 := by rw [← hh, Bd.state]; rfl
  have N0 := Fr.nil n0
  have K0 := Keep.refl h0 []
  refine own_as (ef_4 m o q) ?_
  show own_Ends p e below s₁ (mkF m 0 #[.val (.ref o), .val (.long q), .second] []) _
  refine own_go (fun _ => XS.lloadN X0.here hx rfl (hb hby d4_0) rfl) ?_
  show own_Ends p e below s₁ (mkF m 1 #[.val (.ref o), .val (.long q), .second] [(.long q)]) _
  refine own_go (fun _ => XS.aloadN X0.here hx rfl (hb hby d4_1) rfl rfl) ?_
  show own_Ends p e below s₁ (mkF m 2 #[.val (.ref o), .val (.long q), .second] [(.ref o), (.long q)]) _
  obtain ⟨T1, X1, e1, st1⟩ := getF X0 hx hZ hown (host := "") (Or.inl (hw _ (List.mem_of_getElem? (i := 15) rfl))) Via.refl e0 F_o_first (g := (mkF m 2 #[.val (.ref o), .val (.long q), .second] [(.ref o), (.long q)])) rfl rfl (hb hby d4_2)
  refine own_go st1 ?_
  show own_Ends p e below T1 (mkF m 5 #[.val (.ref o), .val (.long q), .second] [(.long f), (.long q)]) _
  refine own_go (fun _ => XS.lcmp X1.here hx rfl (hb hby d4_5) rfl) ?_
  show own_Ends p e below T1 (mkF m 6 #[.val (.ref o), .val (.long q), .second] [(.int (lcmpW q f))]) _
  by_cases hc6 : q < f
  · refine own_go (fun _ => XS.ifYes X1.here hx rfl (pc0 := 6) (pc' := 42) rfl (hb hby d4_6) rfl ((if0 _ _).trans (tlt ((lw_lt q f).mpr hc6)).1) (by decide) (by decide)) ?_
    show own_Ends p e below T1 (mkF m 42 #[.val (.ref o), .val (.long q), .second] []) _
    refine own_go (fun _ => XS.iconst X1.here hx rfl (hb hby d4_42)) ?_
    show own_Ends p e below T1 (mkF m 43 #[.val (.ref o), .val (.long q), .second] [(.int (0 : Int32))]) _
    obtain ⟨fs, hr, hrun, hended, hW, hsame⟩ := X1.leave (v := some (.int (0 : Int32))) (fun h => by rw [Bd.returns] at h; cases h)
    refine ⟨_, _, retN X1 hx (t := .boolean) Bd.returns (by simp) (hb hby d4_43) hr, hrun, hended, _, _, rfl, ?_, ⟨_, rfl⟩, hW, hsame.mono (by decide) (by decide)⟩
    show Q_rmHolds Z o q f k t h0 n0 _ T1.heap _
    rw [e1]
    exact ⟨by unfold own_holds; rw [if_pos hc6], N0, rfl⟩
  · refine own_go (fun _ => XS.ifNo X1.here hx rfl (hb hby d4_6) rfl ((if0 _ _).trans (flt (fun qq_ => hc6 ((lw_lt q f).mp qq_))).1)) ?_
    show own_Ends p e below T1 (mkF m 9 #[.val (.ref o), .val (.long q), .second] []) _
    refine own_go (fun _ => XS.lloadN X1.here hx rfl (hb hby d4_9) rfl) ?_
    show own_Ends p e below T1 (mkF m 10 #[.val (.ref o), .val (.long q), .second] [(.long q)]) _
    refine own_go (fun _ => XS.aloadN X1.here hx rfl (hb hby d4_10) rfl rfl) ?_
    show own_Ends p e below T1 (mkF m 11 #[.val (.ref o), .val (.long q), .second] [(.ref o), (.long q)]) _
    obtain ⟨T2, X2, e2, st2⟩ := getF X1 hx hZ hown (host := "") (Or.inl (hw _ (List.mem_of_getElem? (i := 15) rfl))) Via.refl e1 F_o_first (g := (mkF m 11 #[.val (.ref o), .val (.long q), .second] [(.ref o), (.long q)])) rfl rfl (hb hby d4_11)
    refine own_go st2 ?_
    show own_Ends p e below T2 (mkF m 14 #[.val (.ref o), .val (.long q), .second] [(.long f), (.long q)]) _
    refine own_go (fun _ => XS.lsub X2.here hx rfl (hb hby d4_14) rfl) ?_
    show own_Ends p e below T2 (mkF m 15 #[.val (.ref o), .val (.long q), .second] [(.long (q - f))]) _
    refine own_go (fun _ => XS.aloadN X2.here hx rfl (hb hby d4_15) rfl rfl) ?_
    show own_Ends p e below T2 (mkF m 16 #[.val (.ref o), .val (.long q), .second] [(.ref o), (.long (q - f))]) _
    obtain ⟨T3, X3, e3, st3⟩ := getF X2 hx hZ hown (host := "") (Or.inl (hw _ (List.mem_of_getElem? (i := 17) rfl))) Via.refl e2 F_o_step (g := (mkF m 16 #[.val (.ref o), .val (.long q), .second] [(.ref o), (.long (q - f))])) rfl rfl (hb hby d4_16)
    refine own_go st3 ?_
    show own_Ends p e below T3 (mkF m 19 #[.val (.ref o), .val (.long q), .second] [(.long k), (.long (q - f))]) _
    refine own_go (fun _ => XS.lrem X3.here hx rfl (hb hby d4_19) rfl hk) ?_
    show own_Ends p e below T3 (mkF m 20 #[.val (.ref o), .val (.long q), .second] [(.long ((q - f) - ((q - f) / k) * k))]) _
    refine own_go (fun _ => XS.lconst X3.here hx rfl (hb hby d4_20)) ?_
    show own_Ends p e below T3 (mkF m 21 #[.val (.ref o), .val (.long q), .second] [(.long (0 : Int64)), (.long ((q - f) - ((q - f) / k) * k))]) _
    refine own_go (fun _ => XS.lcmp X3.here hx rfl (hb hby d4_21) rfl) ?_
    show own_Ends p e below T3 (mkF m 22 #[.val (.ref o), .val (.long q), .second] [(.int (lcmpW ((q - f) - ((q - f) / k) * k) (0 : Int64)))]) _
    by_cases hc22 : ((q - f) - ((q - f) / k) * k) = (0 : Int64)
    · refine own_go (fun _ => XS.ifNo X3.here hx rfl (hb hby d4_22) rfl ((if0 _ _).trans (teq ((lw_eq ((q - f) - ((q - f) / k) * k) (0 : Int64)).mpr hc22)).2)) ?_
      show own_Ends p e below T3 (mkF m 25 #[.val (.ref o), .val (.long q), .second] []) _
      refine own_go (fun _ => XS.aloadN X3.here hx rfl (hb hby d4_25) rfl rfl) ?_
      show own_Ends p e below T3 (mkF m 26 #[.val (.ref o), .val (.long q), .second] [(.ref o)]) _
      refine own_go (fun _ => XS.lloadN X3.here hx rfl (hb hby d4_26) rfl) ?_
      show own_Ends p e below T3 (mkF m 27 #[.val (.ref o), .val (.long q), .second] [(.long q), (.ref o)]) _
      obtain ⟨cq4, kq4, q4a, q4b, q4c⟩ := isOf hZ e3 E_o
      obtain ⟨_, _, ⟨T4, L4, k4, n4⟩, -, X4, ⟨Lc4, hQ4, l4, y4, z4⟩, st4⟩ := X3.virtualBack hx (y := (⟨"com/example/naviglio/naviglio/storage/KeptTicks", "position", "(J)J"⟩ : MethodName)) (z := (⟨"com/example/naviglio/naviglio/storage/KeptTicks", "position", "(J)J"⟩ : MethodName)) hown (mvT hZ (hw _ (List.mem_of_getElem? (i := 26) rfl))) (mvT hZ (hw _ (List.mem_of_getElem? (i := 27) rfl))) (notFace_of_selects (args := #[]) (mvT hZ (hw _ (List.mem_of_getElem? (i := 29) rfl)))) (mvT hZ (hw _ (List.mem_of_getElem? (i := 29) rfl))) (mvT hZ (hw _ (List.mem_of_getElem? (i := 28) rfl))) (by decide) (backOf (W := 0) (rmPos l Z a0 hw [] o q f k h0 n0 Z0 F_o_first F_o_step hk) hZ (hw _ (List.mem_of_getElem? (i := 30) rfl)) (hw _ (List.mem_of_getElem? (i := 3) rfl)) (by decide) (by decide)) q4a q4c (g := (mkF m 27 #[.val (.ref o), .val (.long q), .second] [(.long q), (.ref o)])) rfl (by rw [hml]; rfl) (Steps.refl _) (argsL := [(.long q)]) (rest := []) (lenOf pd_1 rfl) rfl (by show 2 * 0 + _ ≤ _; exact Nat.le_of_eq rfl) (hb hby d4_27) (fun _ _ => ⟨rfl, e3, (by decide : 0 + 0 ≤ _), (by decide : 0 + 0 ≤ _)⟩)
      dsimp only [Pt.U, Pt.locs, Pt.cells, Pt.slots] at X4 l4 y4 z4 st4 hQ4
      subst l4 y4 z4
      refine own_go (fun _ k => st4.trans k) ?_
      obtain ⟨rfl, N4q, eh4⟩ := hQ4
      have N4 := Fr.app N0 N4q
      show own_Ends p e below T4 (mkF m 30 #[.val (.ref o), .val (.long q), .second] [(.long ((q - f) / k))]) _
      refine own_go (fun _ => XS.aloadN X4.here hx rfl (hb hby d4_30) rfl rfl) ?_
      show own_Ends p e below T4 (mkF m 31 #[.val (.ref o), .val (.long q), .second] [(.ref o), (.long ((q - f) / k))]) _
      obtain ⟨T5, X5, e5, st5⟩ := getF X4 hx hZ hown (host := "") (Or.inl (hw _ (List.mem_of_getElem? (i := 19) rfl))) Via.refl eh4 F_o_count (g := (mkF m 31 #[.val (.ref o), .val (.long q), .second] [(.ref o), (.long ((q - f) / k))])) rfl rfl (hb hby d4_31)
      refine own_go st5 ?_
      show own_Ends p e below T5 (mkF m 34 #[.val (.ref o), .val (.long q), .second] [(.long t), (.long ((q - f) / k))]) _
      refine own_go (fun _ => XS.lcmp X5.here hx rfl (hb hby d4_34) rfl) ?_
      show own_Ends p e below T5 (mkF m 35 #[.val (.ref o), .val (.long q), .second] [(.int (lcmpW ((q - f) / k) t))]) _
      by_cases hc35 : ((q - f) / k) < t
      · refine own_go (fun _ => XS.ifNo X5.here hx rfl (hb hby d4_35) rfl ((if0 _ _).trans (tlt ((lw_lt ((q - f) / k) t).mpr hc35)).2.1)) ?_
        show own_Ends p e below T5 (mkF m 38 #[.val (.ref o), .val (.long q), .second] []) _
        refine own_go (fun _ => XS.iconst X5.here hx rfl (hb hby d4_38)) ?_
        show own_Ends p e below T5 (mkF m 39 #[.val (.ref o), .val (.long q), .second] [(.int (1 : Int32))]) _
        refine own_go (fun _ => XS.goto X5.here hx rfl (pc0 := 39) (pc' := 43) rfl (hb hby d4_39) (by decide) (by decide)) ?_
        show own_Ends p e below T5 (mkF m 43 #[.val (.ref o), .val (.long q), .second] [(.int (1 : Int32))]) _
        obtain ⟨fs, hr, hrun, hended, hW, hsame⟩ := X5.leave (v := some (.int (1 : Int32))) (fun h => by rw [Bd.returns] at h; cases h)
        refine ⟨_, _, retN X5 hx (t := .boolean) Bd.returns (by simp) (hb hby d4_43) hr, hrun, hended, _, _, rfl, ?_, ⟨_, rfl⟩, hW, hsame.mono (by decide) (by decide)⟩
        show Q_rmHolds Z o q f k t h0 n0 _ T5.heap _
        rw [e5]
        exact ⟨by unfold own_holds; rw [if_neg hc6, if_pos hc22, if_pos hc35], N4, rfl⟩
      · refine own_go (fun _ => XS.ifYes X5.here hx rfl (pc0 := 35) (pc' := 42) rfl (hb hby d4_35) rfl ((if0 _ _).trans (flt (fun qq_ => hc35 ((lw_lt ((q - f) / k) t).mp qq_))).2.1) (by decide) (by decide)) ?_
        show own_Ends p e below T5 (mkF m 42 #[.val (.ref o), .val (.long q), .second] []) _
        refine own_go (fun _ => XS.iconst X5.here hx rfl (hb hby d4_42)) ?_
        show own_Ends p e below T5 (mkF m 43 #[.val (.ref o), .val (.long q), .second] [(.int (0 : Int32))]) _
        obtain ⟨fs, hr, hrun, hended, hW, hsame⟩ := X5.leave (v := some (.int (0 : Int32))) (fun h => by rw [Bd.returns] at h; cases h)
        refine ⟨_, _, retN X5 hx (t := .boolean) Bd.returns (by simp) (hb hby d4_43) hr, hrun, hended, _, _, rfl, ?_, ⟨_, rfl⟩, hW, hsame.mono (by decide) (by decide)⟩
        show Q_rmHolds Z o q f k t h0 n0 _ T5.heap _
        rw [e5]
        exact ⟨by unfold own_holds; rw [if_neg hc6, if_pos hc22, if_neg hc35], N4, rfl⟩
    · refine own_go (fun _ => XS.ifYes X3.here hx rfl (pc0 := 22) (pc' := 42) rfl (hb hby d4_22) rfl ((if0 _ _).trans (feq (fun qq_ => hc22 ((lw_eq ((q - f) - ((q - f) / k) * k) (0 : Int64)).mp qq_))).2) (by decide) (by decide)) ?_
      show own_Ends p e below T3 (mkF m 42 #[.val (.ref o), .val (.long q), .second] []) _
      refine own_go (fun _ => XS.iconst X3.here hx rfl (hb hby d4_42)) ?_
      show own_Ends p e below T3 (mkF m 43 #[.val (.ref o), .val (.long q), .second] [(.int (0 : Int32))]) _
      obtain ⟨fs, hr, hrun, hended, hW, hsame⟩ := X3.leave (v := some (.int (0 : Int32))) (fun h => by rw [Bd.returns] at h; cases h)
      refine ⟨_, _, retN X3 hx (t := .boolean) Bd.returns (by simp) (hb hby d4_43) hr, hrun, hended, _, _, rfl, ?_, ⟨_, rfl⟩, hW, hsame.mono (by decide) (by decide)⟩
      show Q_rmHolds Z o q f k t h0 n0 _ T3.heap _
      rw [e3]
      exact ⟨by unfold own_holds; rw [if_neg hc6, if_neg hc22], N0, rfl⟩
theorem pn_0 : plainName "com/example/naviglio/naviglio/storage/KeptTicksHoldsPinLaw" = true := by first | (simp [plainName, overriddenIn]; done) | decide +kernel
theorem ef_0 (m : MethodId) (p0 : Int32) (p1 : Int32) (q2 : Int64) (p3 : Int32) (p4 : Int32) : entryFrame m #[(.int p0), (.int p1), (.long q2), (.int p3), (.int p4)] maxLocals = mkF m 0 #[.val (.int p0), .val (.int p1), .val (.long q2), .second, .val (.int p3), .val (.int p4), .unset, .unset, .unset, .unset, .unset, .unset, .unset, .unset, .unset, .unset, .unset, .unset, .unset, .unset] [] := by first | (simp [entryFrame, mkF, argsToLocals, Value.category, maxLocals]; done) | rfl
def Q_rm0 (Z : State) (p0 : Int32) (p1 : Int32) (q2 : Int64) (p3 : Int32) (p4 : Int32) (h0 : Heap) (n0 : Nat) (v : Option Value) (h : Heap) (L : List Loc) : Prop := v = some (.int 1) ∧ Fr n0 L
theorem pd_2 : parseMethodDescriptor "(JJJ)V" = some ⟨[.long, .long, .long], none⟩ := by decide +kernel
theorem pd_3 : parseMethodDescriptor "(J)Z" = some ⟨[.long], some .boolean⟩ := by decide +kernel
set_option maxRecDepth 65536 in
set_option maxHeartbeats 40000000 in
theorem rm0 (l : Launch) (Z : State) (a0 : Array Value) (hw : ∀ d ∈ tables_1, d.before a0 Z = true) (ws : List Jvm.Cond) (p0 : Int32) (p1 : Int32) (q2 : Int64) (p3 : Int32) (p4 : Int32) (h0 : Heap) (n0 : Nat) (Z0 : n0 ≤ h0.size) :
    MetFree l x (head1 (Jvm.Cond.code x code maxLocals ret :: ws) room_1) (fun aa U => aa = #[(.int p0), (.int p1), (.long q2), (.int p3), (.int p4)] ∧ Z.Warmed39 U.vm ∧ U.heap = h0) (fun _ _ _ _ _ => True) (fun _ U ou U' => ∃ v L, ou = .returned v ∧ Q_rm0 Z p0 p1 q2 p3 p4 h0 n0 v U'.heap L ∧ FrameEnd U ou U' L room_1.cells room_1.slots) := by
  refine MetFree.of_bodySF (plainFor_of_name pn_0) hisR ?_
  intro p e s m args below meth c s₁ Bd hml0 hP hK
  obtain ⟨rfl, hZ, hh⟩ := hP
  have hx := Bd.exec
  have hby := Bd.bytes
  have hml : c.maxLocals = 20 := hml0
  have hown : s.vm.findClass "com/example/naviglio/naviglio/storage/KeptTicksHoldsPinLaw" = some m.cls := findClass_of_methodNamed Bd.named
  have hnm := (name_of_methodNamed Bd.named Bd.method).1
  have X0 : Stand p l e room_1 s m #[(.int p0), (.int p1), (.long q2), (.int p3), (.int p4)] below meth c s₁ [] 0 0 := Stand.of_body Bd
  have e0 : s₁.heap = h0 := by rw [← hh, Bd.state]; rfl
  have N0 := Fr.nil n0
  have K0 := Keep.refl h0 []
  refine own_as (ef_0 m p0 p1 q2 p3 p4) ?_
  show own_Ends p e below s₁ (mkF m 0 #[.val (.int p0), .val (.int p1), .val (.long q2), .second, .val (.int p3), .val (.int p4), .unset, .unset, .unset, .unset, .unset, .unset, .unset, .unset, .unset, .unset, .unset, .unset, .unset, .unset] []) _
  refine own_go (fun _ => XS.iloadN X0.here hx rfl (hb hby at_0) rfl) ?_
  show own_Ends p e below s₁ (mkF m 1 #[.val (.int p0), .val (.int p1), .val (.long q2), .second, .val (.int p3), .val (.int p4), .unset, .unset, .unset, .unset, .unset, .unset, .unset, .unset, .unset, .unset, .unset, .unset, .unset, .unset] [(.int p0)]) _
  refine own_go (fun _ => XS.i2l X0.here hx rfl (hb hby at_1) rfl) ?_
  show own_Ends p e below s₁ (mkF m 2 #[.val (.int p0), .val (.int p1), .val (.long q2), .second, .val (.int p3), .val (.int p4), .unset, .unset, .unset, .unset, .unset, .unset, .unset, .unset, .unset, .unset, .unset, .unset, .unset, .unset] [(.long (p0.toInt64))]) _
  refine own_go (fun _ => XS.lstore X0.here hx rfl (hb hby at_2) rfl (l' := #[.val (.int p0), .val (.int p1), .val (.long q2), .second, .val (.int p3), .val (.int p4), .val (.long (p0.toInt64)), .second, .unset, .unset, .unset, .unset, .unset, .unset, .unset, .unset, .unset, .unset, .unset, .unset]) rfl) ?_
  show own_Ends p e below s₁ (mkF m 4 #[.val (.int p0), .val (.int p1), .val (.long q2), .second, .val (.int p3), .val (.int p4), .val (.long (p0.toInt64)), .second, .unset, .unset, .unset, .unset, .unset, .unset, .unset, .unset, .unset, .unset, .unset, .unset] []) _
  refine own_go (fun _ => XS.iloadN X0.here hx rfl (hb hby at_4) rfl) ?_
  show own_Ends p e below s₁ (mkF m 5 #[.val (.int p0), .val (.int p1), .val (.long q2), .second, .val (.int p3), .val (.int p4), .val (.long (p0.toInt64)), .second, .unset, .unset, .unset, .unset, .unset, .unset, .unset, .unset, .unset, .unset, .unset, .unset] [(.int p1)]) _
  refine own_go (X0.ldcInt hx hown (mvT hZ (hw _ (List.mem_of_getElem? (i := 0) rfl))) (g := (mkF m 5 #[.val (.int p0), .val (.int p1), .val (.long q2), .second, .val (.int p3), .val (.int p4), .val (.long (p0.toInt64)), .second, .unset, .unset, .unset, .unset, .unset, .unset, .unset, .unset, .unset, .unset, .unset, .unset] [(.int p1)])) rfl (hb hby at_5)) ?_
  show own_Ends p e below s₁ (mkF m 7 #[.val (.int p0), .val (.int p1), .val (.long q2), .second, .val (.int p3), .val (.int p4), .val (.long (p0.toInt64)), .second, .unset, .unset, .unset, .unset, .unset, .unset, .unset, .unset, .unset, .unset, .unset, .unset] [(.int (2147483647 : Int32)), (.int p1)]) _
  refine own_go (fun _ => XS.iand X0.here hx rfl (hb hby at_7) rfl) ?_
  show own_Ends p e below s₁ (mkF m 8 #[.val (.int p0), .val (.int p1), .val (.long q2), .second, .val (.int p3), .val (.int p4), .val (.long (p0.toInt64)), .second, .unset, .unset, .unset, .unset, .unset, .unset, .unset, .unset, .unset, .unset, .unset, .unset] [(.int (p1 &&& (2147483647 : Int32)))]) _
  refine own_go (fun _ => XS.i2l X0.here hx rfl (hb hby at_8) rfl) ?_
  show own_Ends p e below s₁ (mkF m 9 #[.val (.int p0), .val (.int p1), .val (.long q2), .second, .val (.int p3), .val (.int p4), .val (.long (p0.toInt64)), .second, .unset, .unset, .unset, .unset, .unset, .unset, .unset, .unset, .unset, .unset, .unset, .unset] [(.long ((p1 &&& (2147483647 : Int32)).toInt64))]) _
  refine own_go (fun _ => XS.lconst X0.here hx rfl (hb hby at_9)) ?_
  show own_Ends p e below s₁ (mkF m 10 #[.val (.int p0), .val (.int p1), .val (.long q2), .second, .val (.int p3), .val (.int p4), .val (.long (p0.toInt64)), .second, .unset, .unset, .unset, .unset, .unset, .unset, .unset, .unset, .unset, .unset, .unset, .unset] [(.long (1 : Int64)), (.long ((p1 &&& (2147483647 : Int32)).toInt64))]) _
  refine own_go (fun _ => XS.ladd X0.here hx rfl (hb hby at_10) rfl) ?_
  show own_Ends p e below s₁ (mkF m 11 #[.val (.int p0), .val (.int p1), .val (.long q2), .second, .val (.int p3), .val (.int p4), .val (.long (p0.toInt64)), .second, .unset, .unset, .unset, .unset, .unset, .unset, .unset, .unset, .unset, .unset, .unset, .unset] [(.long (((p1 &&& (2147483647 : Int32)).toInt64) + (1 : Int64)))]) _
  refine own_go (fun _ => XS.lstore X0.here hx rfl (hb hby at_11) rfl (l' := #[.val (.int p0), .val (.int p1), .val (.long q2), .second, .val (.int p3), .val (.int p4), .val (.long (p0.toInt64)), .second, .val (.long (((p1 &&& (2147483647 : Int32)).toInt64) + (1 : Int64))), .second, .unset, .unset, .unset, .unset, .unset, .unset, .unset, .unset, .unset, .unset]) rfl) ?_
  show own_Ends p e below s₁ (mkF m 13 #[.val (.int p0), .val (.int p1), .val (.long q2), .second, .val (.int p3), .val (.int p4), .val (.long (p0.toInt64)), .second, .val (.long (((p1 &&& (2147483647 : Int32)).toInt64) + (1 : Int64))), .second, .unset, .unset, .unset, .unset, .unset, .unset, .unset, .unset, .unset, .unset] []) _
  have hstep := own_step p1
  generalize gk : (((p1 &&& (2147483647 : Int32)).toInt64) + (1 : Int64)) = k at hstep ⊢
  refine own_go (fun _ => XS.lloadN X0.here hx rfl (hb hby at_13) rfl) ?_
  show own_Ends p e below s₁ (mkF m 14 #[.val (.int p0), .val (.int p1), .val (.long q2), .second, .val (.int p3), .val (.int p4), .val (.long (p0.toInt64)), .second, .val (.long k), .second, .unset, .unset, .unset, .unset, .unset, .unset, .unset, .unset, .unset, .unset] [(.long q2)]) _
  refine own_go (fun _ => XS.lstore X0.here hx rfl (hb hby at_14) rfl (l' := #[.val (.int p0), .val (.int p1), .val (.long q2), .second, .val (.int p3), .val (.int p4), .val (.long (p0.toInt64)), .second, .val (.long k), .second, .val (.long q2), .second, .unset, .unset, .unset, .unset, .unset, .unset, .unset, .unset]) rfl) ?_
  show own_Ends p e below s₁ (mkF m 16 #[.val (.int p0), .val (.int p1), .val (.long q2), .second, .val (.int p3), .val (.int p4), .val (.long (p0.toInt64)), .second, .val (.long k), .second, .val (.long q2), .second, .unset, .unset, .unset, .unset, .unset, .unset, .unset, .unset] []) _
  refine own_go (fun _ => XS.iload X0.here hx rfl (hb hby at_16) rfl) ?_
  show own_Ends p e below s₁ (mkF m 18 #[.val (.int p0), .val (.int p1), .val (.long q2), .second, .val (.int p3), .val (.int p4), .val (.long (p0.toInt64)), .second, .val (.long k), .second, .val (.long q2), .second, .unset, .unset, .unset, .unset, .unset, .unset, .unset, .unset] [(.int p3)]) _
  refine own_go (fun _ => XS.i2l X0.here hx rfl (hb hby at_18) rfl) ?_
  show own_Ends p e below s₁ (mkF m 19 #[.val (.int p0), .val (.int p1), .val (.long q2), .second, .val (.int p3), .val (.int p4), .val (.long (p0.toInt64)), .second, .val (.long k), .second, .val (.long q2), .second, .unset, .unset, .unset, .unset, .unset, .unset, .unset, .unset] [(.long (p3.toInt64))]) _
  refine own_go (fun _ => XS.lstore X0.here hx rfl (hb hby at_19) rfl (l' := #[.val (.int p0), .val (.int p1), .val (.long q2), .second, .val (.int p3), .val (.int p4), .val (.long (p0.toInt64)), .second, .val (.long k), .second, .val (.long q2), .second, .val (.long (p3.toInt64)), .second, .unset, .unset, .unset, .unset, .unset, .unset]) rfl) ?_
  show own_Ends p e below s₁ (mkF m 21 #[.val (.int p0), .val (.int p1), .val (.long q2), .second, .val (.int p3), .val (.int p4), .val (.long (p0.toInt64)), .second, .val (.long k), .second, .val (.long q2), .second, .val (.long (p3.toInt64)), .second, .unset, .unset, .unset, .unset, .unset, .unset] []) _
  refine own_go (fun _ => XS.iload X0.here hx rfl (hb hby at_21) rfl) ?_
  show own_Ends p e below s₁ (mkF m 23 #[.val (.int p0), .val (.int p1), .val (.long q2), .second, .val (.int p3), .val (.int p4), .val (.long (p0.toInt64)), .second, .val (.long k), .second, .val (.long q2), .second, .val (.long (p3.toInt64)), .second, .unset, .unset, .unset, .unset, .unset, .unset] [(.int p4)]) _
  refine own_go (fun _ => XS.iconst X0.here hx rfl (hb hby at_23)) ?_
  show own_Ends p e below s₁ (mkF m 24 #[.val (.int p0), .val (.int p1), .val (.long q2), .second, .val (.int p3), .val (.int p4), .val (.long (p0.toInt64)), .second, .val (.long k), .second, .val (.long q2), .second, .val (.long (p3.toInt64)), .second, .unset, .unset, .unset, .unset, .unset, .unset] [(.int (1 : Int32)), (.int p4)]) _
  refine own_go (fun _ => XS.iand X0.here hx rfl (hb hby at_24) rfl) ?_
  show own_Ends p e below s₁ (mkF m 25 #[.val (.int p0), .val (.int p1), .val (.long q2), .second, .val (.int p3), .val (.int p4), .val (.long (p0.toInt64)), .second, .val (.long k), .second, .val (.long q2), .second, .val (.long (p3.toInt64)), .second, .unset, .unset, .unset, .unset, .unset, .unset] [(.int (p4 &&& (1 : Int32)))]) _
  by_cases hc25 : (p4 &&& (1 : Int32)) = (0 : Int32)
  · refine own_go (fun _ => XS.ifNo X0.here hx rfl (hb hby at_25) rfl ((if0 _ _).trans (teq hc25).2)) ?_
    show own_Ends p e below s₁ (mkF m 28 #[.val (.int p0), .val (.int p1), .val (.long q2), .second, .val (.int p3), .val (.int p4), .val (.long (p0.toInt64)), .second, .val (.long k), .second, .val (.long q2), .second, .val (.long (p3.toInt64)), .second, .unset, .unset, .unset, .unset, .unset, .unset] []) _
    refine own_go (fun _ => XS.lconst X0.here hx rfl (hb hby at_28)) ?_
    show own_Ends p e below s₁ (mkF m 29 #[.val (.int p0), .val (.int p1), .val (.long q2), .second, .val (.int p3), .val (.int p4), .val (.long (p0.toInt64)), .second, .val (.long k), .second, .val (.long q2), .second, .val (.long (p3.toInt64)), .second, .unset, .unset, .unset, .unset, .unset, .unset] [(.long (0 : Int64))]) _
    refine own_go (fun _ => XS.goto X0.here hx rfl (pc0 := 29) (pc' := 40) rfl (hb hby at_29) (by decide) (by decide)) ?_
    show own_Ends p e below s₁ (mkF m 40 #[.val (.int p0), .val (.int p1), .val (.long q2), .second, .val (.int p3), .val (.int p4), .val (.long (p0.toInt64)), .second, .val (.long k), .second, .val (.long q2), .second, .val (.long (p3.toInt64)), .second, .unset, .unset, .unset, .unset, .unset, .unset] [(.long (0 : Int64))]) _
    refine own_go (fun _ => XS.lstore X0.here hx rfl (hb hby at_40) rfl (l' := #[.val (.int p0), .val (.int p1), .val (.long q2), .second, .val (.int p3), .val (.int p4), .val (.long (p0.toInt64)), .second, .val (.long k), .second, .val (.long q2), .second, .val (.long (p3.toInt64)), .second, .val (.long (0 : Int64)), .second, .unset, .unset, .unset, .unset]) rfl) ?_
    show own_Ends p e below s₁ (mkF m 42 #[.val (.int p0), .val (.int p1), .val (.long q2), .second, .val (.int p3), .val (.int p4), .val (.long (p0.toInt64)), .second, .val (.long k), .second, .val (.long q2), .second, .val (.long (p3.toInt64)), .second, .val (.long (0 : Int64)), .second, .unset, .unset, .unset, .unset] []) _
    have hr := own_r0 hstep
    refine own_go (fun _ => XS.lload X0.here hx rfl (hb hby at_42) rfl) ?_
    show own_Ends p e below s₁ (mkF m 44 #[.val (.int p0), .val (.int p1), .val (.long q2), .second, .val (.int p3), .val (.int p4), .val (.long (p0.toInt64)), .second, .val (.long k), .second, .val (.long q2), .second, .val (.long (p3.toInt64)), .second, .val (.long (0 : Int64)), .second, .unset, .unset, .unset, .unset] [(.long (p0.toInt64))]) _
    refine own_go (fun _ => XS.lload X0.here hx rfl (hb hby at_44) rfl) ?_
    show own_Ends p e below s₁ (mkF m 46 #[.val (.int p0), .val (.int p1), .val (.long q2), .second, .val (.int p3), .val (.int p4), .val (.long (p0.toInt64)), .second, .val (.long k), .second, .val (.long q2), .second, .val (.long (p3.toInt64)), .second, .val (.long (0 : Int64)), .second, .unset, .unset, .unset, .unset] [(.long (p3.toInt64)), (.long (p0.toInt64))]) _
    refine own_go (fun _ => XS.lload X0.here hx rfl (hb hby at_46) rfl) ?_
    show own_Ends p e below s₁ (mkF m 48 #[.val (.int p0), .val (.int p1), .val (.long q2), .second, .val (.int p3), .val (.int p4), .val (.long (p0.toInt64)), .second, .val (.long k), .second, .val (.long q2), .second, .val (.long (p3.toInt64)), .second, .val (.long (0 : Int64)), .second, .unset, .unset, .unset, .unset] [(.long k), (.long (p3.toInt64)), (.long (p0.toInt64))]) _
    refine own_go (fun _ => XS.lmul X0.here hx rfl (hb hby at_48) rfl) ?_
    show own_Ends p e below s₁ (mkF m 49 #[.val (.int p0), .val (.int p1), .val (.long q2), .second, .val (.int p3), .val (.int p4), .val (.long (p0.toInt64)), .second, .val (.long k), .second, .val (.long q2), .second, .val (.long (p3.toInt64)), .second, .val (.long (0 : Int64)), .second, .unset, .unset, .unset, .unset] [(.long ((p3.toInt64) * k)), (.long (p0.toInt64))]) _
    refine own_go (fun _ => XS.ladd X0.here hx rfl (hb hby at_49) rfl) ?_
    show own_Ends p e below s₁ (mkF m 50 #[.val (.int p0), .val (.int p1), .val (.long q2), .second, .val (.int p3), .val (.int p4), .val (.long (p0.toInt64)), .second, .val (.long k), .second, .val (.long q2), .second, .val (.long (p3.toInt64)), .second, .val (.long (0 : Int64)), .second, .unset, .unset, .unset, .unset] [(.long ((p0.toInt64) + ((p3.toInt64) * k)))]) _
    refine own_go (fun _ => XS.lload X0.here hx rfl (hb hby at_50) rfl) ?_
    show own_Ends p e below s₁ (mkF m 52 #[.val (.int p0), .val (.int p1), .val (.long q2), .second, .val (.int p3), .val (.int p4), .val (.long (p0.toInt64)), .second, .val (.long k), .second, .val (.long q2), .second, .val (.long (p3.toInt64)), .second, .val (.long (0 : Int64)), .second, .unset, .unset, .unset, .unset] [(.long (0 : Int64)), (.long ((p0.toInt64) + ((p3.toInt64) * k)))]) _
    refine own_go (fun _ => XS.ladd X0.here hx rfl (hb hby at_52) rfl) ?_
    show own_Ends p e below s₁ (mkF m 53 #[.val (.int p0), .val (.int p1), .val (.long q2), .second, .val (.int p3), .val (.int p4), .val (.long (p0.toInt64)), .second, .val (.long k), .second, .val (.long q2), .second, .val (.long (p3.toInt64)), .second, .val (.long (0 : Int64)), .second, .unset, .unset, .unset, .unset] [(.long (((p0.toInt64) + ((p3.toInt64) * k)) + (0 : Int64)))]) _
    refine own_go (fun _ => XS.lstore X0.here hx rfl (hb hby at_53) rfl (l' := #[.val (.int p0), .val (.int p1), .val (.long q2), .second, .val (.int p3), .val (.int p4), .val (.long (p0.toInt64)), .second, .val (.long k), .second, .val (.long q2), .second, .val (.long (p3.toInt64)), .second, .val (.long (0 : Int64)), .second, .val (.long (((p0.toInt64) + ((p3.toInt64) * k)) + (0 : Int64))), .second, .unset, .unset]) rfl) ?_
    show own_Ends p e below s₁ (mkF m 55 #[.val (.int p0), .val (.int p1), .val (.long q2), .second, .val (.int p3), .val (.int p4), .val (.long (p0.toInt64)), .second, .val (.long k), .second, .val (.long q2), .second, .val (.long (p3.toInt64)), .second, .val (.long (0 : Int64)), .second, .val (.long (((p0.toInt64) + ((p3.toInt64) * k)) + (0 : Int64))), .second, .unset, .unset] []) _
    obtain ⟨T1, h1, X1, e1, E1, A1, D1, -, st1⟩ := newO X0 hx hZ hown (hw _ (List.mem_of_getElem? (i := 1) rfl)) (hw _ (List.mem_of_getElem? (i := 2) rfl)) (hw _ (List.mem_of_getElem? (i := 3) rfl)) e0 (g := (mkF m 55 #[.val (.int p0), .val (.int p1), .val (.long q2), .second, .val (.int p3), .val (.int p4), .val (.long (p0.toInt64)), .second, .val (.long k), .second, .val (.long q2), .second, .val (.long (p3.toInt64)), .second, .val (.long (0 : Int64)), .second, .val (.long (((p0.toInt64) + ((p3.toInt64) * k)) + (0 : Int64))), .second, .unset, .unset] [])) rfl (hb hby at_55) (by decide) (by decide)
    obtain ⟨b1, g1⟩ : ∃ z, z = h0.size := ⟨_, rfl⟩
    rw [← g1] at A1 D1 st1
    refine own_go st1 ?_
    have g_b1 : n0 ≤ b1 := Nat.le_trans Z0 (Nat.le_of_eq g1.symm)
    have sz_b1 : h0.size ≤ b1 := Nat.le_trans K0.1 (Nat.le_of_eq g1.symm)
    have K1 := K0.ext E1
    have Z1 : n0 ≤ h1.size := Nat.le_trans Z0 K1.1
    have F_b1_first : Fld Z h1 b1 "com/example/naviglio/naviglio/storage/KeptTicks" "first" "J" (.long (0 : Int64)) := D1 (Or.inr (hw _ (List.mem_of_getElem? (i := 16) rfl))) (ty := .long) (by decide)
    have F_b1_step : Fld Z h1 b1 "com/example/naviglio/naviglio/storage/KeptTicks" "step" "J" (.long (0 : Int64)) := D1 (Or.inr (hw _ (List.mem_of_getElem? (i := 18) rfl))) (ty := .long) (by decide)
    have F_b1_count : Fld Z h1 b1 "com/example/naviglio/naviglio/storage/KeptTicks" "count" "J" (.long (0 : Int64)) := D1 (Or.inr (hw _ (List.mem_of_getElem? (i := 20) rfl))) (ty := .long) (by decide)
    show own_Ends p e below T1 (mkF m 58 #[.val (.int p0), .val (.int p1), .val (.long q2), .second, .val (.int p3), .val (.int p4), .val (.long (p0.toInt64)), .second, .val (.long k), .second, .val (.long q2), .second, .val (.long (p3.toInt64)), .second, .val (.long (0 : Int64)), .second, .val (.long (((p0.toInt64) + ((p3.toInt64) * k)) + (0 : Int64))), .second, .unset, .unset] [(.ref b1)]) _
    refine own_go (fun _ => XS.dup X1.here hx rfl (hb hby at_58) rfl rfl) ?_
    show own_Ends p e below T1 (mkF m 59 #[.val (.int p0), .val (.int p1), .val (.long q2), .second, .val (.int p3), .val (.int p4), .val (.long (p0.toInt64)), .second, .val (.long k), .second, .val (.long q2), .second, .val (.long (p3.toInt64)), .second, .val (.long (0 : Int64)), .second, .val (.long (((p0.toInt64) + ((p3.toInt64) * k)) + (0 : Int64))), .second, .unset, .unset] [(.ref b1), (.ref b1)]) _
    refine own_go (fun _ => XS.lload X1.here hx rfl (hb hby at_59) rfl) ?_
    show own_Ends p e below T1 (mkF m 61 #[.val (.int p0), .val (.int p1), .val (.long q2), .second, .val (.int p3), .val (.int p4), .val (.long (p0.toInt64)), .second, .val (.long k), .second, .val (.long q2), .second, .val (.long (p3.toInt64)), .second, .val (.long (0 : Int64)), .second, .val (.long (((p0.toInt64) + ((p3.toInt64) * k)) + (0 : Int64))), .second, .unset, .unset] [(.long (p0.toInt64)), (.ref b1), (.ref b1)]) _
    refine own_go (fun _ => XS.lload X1.here hx rfl (hb hby at_61) rfl) ?_
    show own_Ends p e below T1 (mkF m 63 #[.val (.int p0), .val (.int p1), .val (.long q2), .second, .val (.int p3), .val (.int p4), .val (.long (p0.toInt64)), .second, .val (.long k), .second, .val (.long q2), .second, .val (.long (p3.toInt64)), .second, .val (.long (0 : Int64)), .second, .val (.long (((p0.toInt64) + ((p3.toInt64) * k)) + (0 : Int64))), .second, .unset, .unset] [(.long k), (.long (p0.toInt64)), (.ref b1), (.ref b1)]) _
    refine own_go (fun _ => XS.lload X1.here hx rfl (hb hby at_63) rfl) ?_
    show own_Ends p e below T1 (mkF m 65 #[.val (.int p0), .val (.int p1), .val (.long q2), .second, .val (.int p3), .val (.int p4), .val (.long (p0.toInt64)), .second, .val (.long k), .second, .val (.long q2), .second, .val (.long (p3.toInt64)), .second, .val (.long (0 : Int64)), .second, .val (.long (((p0.toInt64) + ((p3.toInt64) * k)) + (0 : Int64))), .second, .unset, .unset] [(.long q2), (.long k), (.long (p0.toInt64)), (.ref b1), (.ref b1)]) _
    obtain ⟨_, _, ⟨T2, L2, k2, n2⟩, -, X2, ⟨Lc2, hQ2, l2, y2, z2⟩, st2⟩ := X1.specialBack hx (y := (⟨"com/example/naviglio/naviglio/storage/KeptTicks", "<init>", "(JJJ)V"⟩ : MethodName)) rfl hown (mvT hZ (hw _ (List.mem_of_getElem? (i := 4) rfl))) (mvT hZ (hw _ (List.mem_of_getElem? (i := 5) rfl))) (mvT hZ (hw _ (List.mem_of_getElem? (i := 6) rfl))) (by decide) (backOf (W := 1) (rmInit l Z a0 hw [] b1 ((p0.toInt64)) k q2  h1 n0 Z1 A1 F_b1_first F_b1_step F_b1_count g_b1) hZ (hw _ (List.mem_of_getElem? (i := 6) rfl)) (hw _ (List.mem_of_getElem? (i := 3) rfl)) (by decide) (by decide)) (g := (mkF m 65 #[.val (.int p0), .val (.int p1), .val (.long q2), .second, .val (.int p3), .val (.int p4), .val (.long (p0.toInt64)), .second, .val (.long k), .second, .val (.long q2), .second, .val (.long (p3.toInt64)), .second, .val (.long (0 : Int64)), .second, .val (.long (((p0.toInt64) + ((p3.toInt64) * k)) + (0 : Int64))), .second, .unset, .unset] [(.long q2), (.long k), (.long (p0.toInt64)), (.ref b1), (.ref b1)])) rfl (by rw [hml]; rfl) (Steps.refl _) (a := b1) (argsL := [(.long (p0.toInt64)), (.long k), (.long q2)]) (rest := [(.ref b1)]) (lenOf pd_2 rfl) rfl (by show 2 * 0 + _ ≤ _; exact Nat.le_of_eq rfl) (hb hby at_65) (fun _ _ => ⟨rfl, e1, (by decide : 1 + 0 ≤ _), (by decide : 3 + 0 ≤ _)⟩)
    dsimp only [Pt.U, Pt.locs, Pt.cells, Pt.slots] at X2 l2 y2 z2 st2 hQ2
    subst l2 y2 z2
    refine own_go (fun _ k => st2.trans k) ?_
    obtain ⟨rfl, N2q, Kq2, Eq2, F2_first, F2_step, F2_count⟩ := hQ2
    replace A1 := A1.keep Kq2
    have K2 := K1.trans Kq2 (allS (Or.inr sz_b1) all0)
    have Z2 : n0 ≤ T2.heap.size := Nat.le_trans Z0 K2.1
    clear Eq2
    have N2 := Fr.app N0 N2q
    show own_Ends p e below T2 (mkF m 68 #[.val (.int p0), .val (.int p1), .val (.long q2), .second, .val (.int p3), .val (.int p4), .val (.long (p0.toInt64)), .second, .val (.long k), .second, .val (.long q2), .second, .val (.long (p3.toInt64)), .second, .val (.long (0 : Int64)), .second, .val (.long (((p0.toInt64) + ((p3.toInt64) * k)) + (0 : Int64))), .second, .unset, .unset] [(.ref b1)]) _
    refine own_go (fun _ => XS.astore X2.here hx rfl (hb hby at_68) rfl rfl (l' := #[.val (.int p0), .val (.int p1), .val (.long q2), .second, .val (.int p3), .val (.int p4), .val (.long (p0.toInt64)), .second, .val (.long k), .second, .val (.long q2), .second, .val (.long (p3.toInt64)), .second, .val (.long (0 : Int64)), .second, .val (.long (((p0.toInt64) + ((p3.toInt64) * k)) + (0 : Int64))), .second, .val (.ref b1), .unset]) rfl) ?_
    show own_Ends p e below T2 (mkF m 70 #[.val (.int p0), .val (.int p1), .val (.long q2), .second, .val (.int p3), .val (.int p4), .val (.long (p0.toInt64)), .second, .val (.long k), .second, .val (.long q2), .second, .val (.long (p3.toInt64)), .second, .val (.long (0 : Int64)), .second, .val (.long (((p0.toInt64) + ((p3.toInt64) * k)) + (0 : Int64))), .second, .val (.ref b1), .unset] []) _
    refine own_go (fun _ => XS.lload X2.here hx rfl (hb hby at_70) rfl) ?_
    show own_Ends p e below T2 (mkF m 72 #[.val (.int p0), .val (.int p1), .val (.long q2), .second, .val (.int p3), .val (.int p4), .val (.long (p0.toInt64)), .second, .val (.long k), .second, .val (.long q2), .second, .val (.long (p3.toInt64)), .second, .val (.long (0 : Int64)), .second, .val (.long (((p0.toInt64) + ((p3.toInt64) * k)) + (0 : Int64))), .second, .val (.ref b1), .unset] [(.long (0 : Int64))]) _
    refine own_go (fun _ => XS.lconst X2.here hx rfl (hb hby at_72)) ?_
    show own_Ends p e below T2 (mkF m 73 #[.val (.int p0), .val (.int p1), .val (.long q2), .second, .val (.int p3), .val (.int p4), .val (.long (p0.toInt64)), .second, .val (.long k), .second, .val (.long q2), .second, .val (.long (p3.toInt64)), .second, .val (.long (0 : Int64)), .second, .val (.long (((p0.toInt64) + ((p3.toInt64) * k)) + (0 : Int64))), .second, .val (.ref b1), .unset] [(.long (0 : Int64)), (.long (0 : Int64))]) _
    refine own_go (fun _ => XS.lcmp X2.here hx rfl (hb hby at_73) rfl) ?_
    show own_Ends p e below T2 (mkF m 74 #[.val (.int p0), .val (.int p1), .val (.long q2), .second, .val (.int p3), .val (.int p4), .val (.long (p0.toInt64)), .second, .val (.long k), .second, .val (.long q2), .second, .val (.long (p3.toInt64)), .second, .val (.long (0 : Int64)), .second, .val (.long (((p0.toInt64) + ((p3.toInt64) * k)) + (0 : Int64))), .second, .val (.ref b1), .unset] [(.int (lcmpW (0 : Int64) (0 : Int64)))]) _
    refine own_go (fun _ => XS.ifNo X2.here hx rfl (hb hby at_74) rfl ((if0 _ _).trans (teq ((lw_eq (0 : Int64) (0 : Int64)).mpr (show (0 : Int64) = (0 : Int64) from by decide))).2)) ?_
    show own_Ends p e below T2 (mkF m 77 #[.val (.int p0), .val (.int p1), .val (.long q2), .second, .val (.int p3), .val (.int p4), .val (.long (p0.toInt64)), .second, .val (.long k), .second, .val (.long q2), .second, .val (.long (p3.toInt64)), .second, .val (.long (0 : Int64)), .second, .val (.long (((p0.toInt64) + ((p3.toInt64) * k)) + (0 : Int64))), .second, .val (.ref b1), .unset] []) _
    refine own_go (fun _ => XS.lload X2.here hx rfl (hb hby at_77) rfl) ?_
    show own_Ends p e below T2 (mkF m 79 #[.val (.int p0), .val (.int p1), .val (.long q2), .second, .val (.int p3), .val (.int p4), .val (.long (p0.toInt64)), .second, .val (.long k), .second, .val (.long q2), .second, .val (.long (p3.toInt64)), .second, .val (.long (0 : Int64)), .second, .val (.long (((p0.toInt64) + ((p3.toInt64) * k)) + (0 : Int64))), .second, .val (.ref b1), .unset] [(.long (p3.toInt64))]) _
    refine own_go (fun _ => XS.lconst X2.here hx rfl (hb hby at_79)) ?_
    show own_Ends p e below T2 (mkF m 80 #[.val (.int p0), .val (.int p1), .val (.long q2), .second, .val (.int p3), .val (.int p4), .val (.long (p0.toInt64)), .second, .val (.long k), .second, .val (.long q2), .second, .val (.long (p3.toInt64)), .second, .val (.long (0 : Int64)), .second, .val (.long (((p0.toInt64) + ((p3.toInt64) * k)) + (0 : Int64))), .second, .val (.ref b1), .unset] [(.long (0 : Int64)), (.long (p3.toInt64))]) _
    refine own_go (fun _ => XS.lcmp X2.here hx rfl (hb hby at_80) rfl) ?_
    show own_Ends p e below T2 (mkF m 81 #[.val (.int p0), .val (.int p1), .val (.long q2), .second, .val (.int p3), .val (.int p4), .val (.long (p0.toInt64)), .second, .val (.long k), .second, .val (.long q2), .second, .val (.long (p3.toInt64)), .second, .val (.long (0 : Int64)), .second, .val (.long (((p0.toInt64) + ((p3.toInt64) * k)) + (0 : Int64))), .second, .val (.ref b1), .unset] [(.int (lcmpW (p3.toInt64) (0 : Int64)))]) _
    by_cases hc81 : (p3.toInt64) < (0 : Int64)
    · refine own_go (fun _ => XS.ifYes X2.here hx rfl (pc0 := 81) (pc' := 96) rfl (hb hby at_81) rfl ((if0 _ _).trans (tlt ((lw_lt (p3.toInt64) (0 : Int64)).mpr hc81)).1) (by decide) (by decide)) ?_
      show own_Ends p e below T2 (mkF m 96 #[.val (.int p0), .val (.int p1), .val (.long q2), .second, .val (.int p3), .val (.int p4), .val (.long (p0.toInt64)), .second, .val (.long k), .second, .val (.long q2), .second, .val (.long (p3.toInt64)), .second, .val (.long (0 : Int64)), .second, .val (.long (((p0.toInt64) + ((p3.toInt64) * k)) + (0 : Int64))), .second, .val (.ref b1), .unset] []) _
      refine own_go (fun _ => XS.iconst X2.here hx rfl (hb hby at_96)) ?_
      show own_Ends p e below T2 (mkF m 97 #[.val (.int p0), .val (.int p1), .val (.long q2), .second, .val (.int p3), .val (.int p4), .val (.long (p0.toInt64)), .second, .val (.long k), .second, .val (.long q2), .second, .val (.long (p3.toInt64)), .second, .val (.long (0 : Int64)), .second, .val (.long (((p0.toInt64) + ((p3.toInt64) * k)) + (0 : Int64))), .second, .val (.ref b1), .unset] [(.int (0 : Int32))]) _
      refine own_go (fun _ => XS.istore X2.here hx rfl (hb hby at_97) rfl (l' := #[.val (.int p0), .val (.int p1), .val (.long q2), .second, .val (.int p3), .val (.int p4), .val (.long (p0.toInt64)), .second, .val (.long k), .second, .val (.long q2), .second, .val (.long (p3.toInt64)), .second, .val (.long (0 : Int64)), .second, .val (.long (((p0.toInt64) + ((p3.toInt64) * k)) + (0 : Int64))), .second, .val (.ref b1), .val (.int (0 : Int32))]) rfl) ?_
      show own_Ends p e below T2 (mkF m 99 #[.val (.int p0), .val (.int p1), .val (.long q2), .second, .val (.int p3), .val (.int p4), .val (.long (p0.toInt64)), .second, .val (.long k), .second, .val (.long q2), .second, .val (.long (p3.toInt64)), .second, .val (.long (0 : Int64)), .second, .val (.long (((p0.toInt64) + ((p3.toInt64) * k)) + (0 : Int64))), .second, .val (.ref b1), .val (.int (0 : Int32))] []) _
      refine own_go (fun _ => XS.aload X2.here hx rfl (hb hby at_99) rfl rfl) ?_
      show own_Ends p e below T2 (mkF m 101 #[.val (.int p0), .val (.int p1), .val (.long q2), .second, .val (.int p3), .val (.int p4), .val (.long (p0.toInt64)), .second, .val (.long k), .second, .val (.long q2), .second, .val (.long (p3.toInt64)), .second, .val (.long (0 : Int64)), .second, .val (.long (((p0.toInt64) + ((p3.toInt64) * k)) + (0 : Int64))), .second, .val (.ref b1), .val (.int (0 : Int32))] [(.ref b1)]) _
      refine own_go (fun _ => XS.lload X2.here hx rfl (hb hby at_101) rfl) ?_
      show own_Ends p e below T2 (mkF m 103 #[.val (.int p0), .val (.int p1), .val (.long q2), .second, .val (.int p3), .val (.int p4), .val (.long (p0.toInt64)), .second, .val (.long k), .second, .val (.long q2), .second, .val (.long (p3.toInt64)), .second, .val (.long (0 : Int64)), .second, .val (.long (((p0.toInt64) + ((p3.toInt64) * k)) + (0 : Int64))), .second, .val (.ref b1), .val (.int (0 : Int32))] [(.long (((p0.toInt64) + ((p3.toInt64) * k)) + (0 : Int64))), (.ref b1)]) _
      obtain ⟨cq3, kq3, q3a, q3b, q3c⟩ := isOf hZ rfl A1
      obtain ⟨_, _, ⟨T3, L3, k3, n3⟩, -, X3, ⟨Lc3, hQ3, l3, y3, z3⟩, st3⟩ := X2.virtualBack hx (y := (⟨"com/example/naviglio/naviglio/storage/KeptTicks", "holds", "(J)Z"⟩ : MethodName)) (z := (⟨"com/example/naviglio/naviglio/storage/KeptTicks", "holds", "(J)Z"⟩ : MethodName)) hown (mvT hZ (hw _ (List.mem_of_getElem? (i := 21) rfl))) (mvT hZ (hw _ (List.mem_of_getElem? (i := 22) rfl))) (notFace_of_selects (args := #[]) (mvT hZ (hw _ (List.mem_of_getElem? (i := 24) rfl)))) (mvT hZ (hw _ (List.mem_of_getElem? (i := 24) rfl))) (mvT hZ (hw _ (List.mem_of_getElem? (i := 23) rfl))) (by decide) (backOf (W := 0) (rmHolds l Z a0 hw [] b1 ((((p0.toInt64) + ((p3.toInt64) * k)) + (0 : Int64))) ((p0.toInt64)) k q2 (T2.heap) n0 Z2 A1 F2_first F2_step F2_count (own_nz hstep)) hZ (hw _ (List.mem_of_getElem? (i := 25) rfl)) (hw _ (List.mem_of_getElem? (i := 3) rfl)) (by decide) (by decide)) q3a q3c (g := (mkF m 103 #[.val (.int p0), .val (.int p1), .val (.long q2), .second, .val (.int p3), .val (.int p4), .val (.long (p0.toInt64)), .second, .val (.long k), .second, .val (.long q2), .second, .val (.long (p3.toInt64)), .second, .val (.long (0 : Int64)), .second, .val (.long (((p0.toInt64) + ((p3.toInt64) * k)) + (0 : Int64))), .second, .val (.ref b1), .val (.int (0 : Int32))] [(.long (((p0.toInt64) + ((p3.toInt64) * k)) + (0 : Int64))), (.ref b1)])) rfl (by rw [hml]; rfl) (Steps.refl _) (argsL := [(.long (((p0.toInt64) + ((p3.toInt64) * k)) + (0 : Int64)))]) (rest := []) (lenOf pd_3 rfl) rfl (by show 2 * 0 + _ ≤ _; exact Nat.le_of_eq rfl) (hb hby at_103) (fun _ _ => ⟨rfl, rfl, (by decide : 1 + 0 ≤ _), (by decide : 3 + 0 ≤ _)⟩)
      dsimp only [Pt.U, Pt.locs, Pt.cells, Pt.slots] at X3 l3 y3 z3 st3 hQ3
      subst l3 y3 z3
      refine own_go (fun _ k => st3.trans k) ?_
      obtain ⟨rfl, N3q, eh3⟩ := hQ3
      have N3 := Fr.app N2 N3q
      show own_Ends p e below T3 (mkF m 106 #[.val (.int p0), .val (.int p1), .val (.long q2), .second, .val (.int p3), .val (.int p4), .val (.long (p0.toInt64)), .second, .val (.long k), .second, .val (.long q2), .second, .val (.long (p3.toInt64)), .second, .val (.long (0 : Int64)), .second, .val (.long (((p0.toInt64) + ((p3.toInt64) * k)) + (0 : Int64))), .second, .val (.ref b1), .val (.int (0 : Int32))] [(.int (own_holds (p0.toInt64) k q2 (((p0.toInt64) + ((p3.toInt64) * k)) + (0 : Int64))))]) _
      refine own_go (fun _ => XS.iload X3.here hx rfl (hb hby at_106) rfl) ?_
      show own_Ends p e below T3 (mkF m 108 #[.val (.int p0), .val (.int p1), .val (.long q2), .second, .val (.int p3), .val (.int p4), .val (.long (p0.toInt64)), .second, .val (.long k), .second, .val (.long q2), .second, .val (.long (p3.toInt64)), .second, .val (.long (0 : Int64)), .second, .val (.long (((p0.toInt64) + ((p3.toInt64) * k)) + (0 : Int64))), .second, .val (.ref b1), .val (.int (0 : Int32))] [(.int (0 : Int32)), (.int (own_holds (p0.toInt64) k q2 (((p0.toInt64) + ((p3.toInt64) * k)) + (0 : Int64))))]) _
      refine own_go (fun _ => XS.icmpNo X3.here hx rfl (hb hby at_108) rfl (teq (show (own_holds (p0.toInt64) k q2 (((p0.toInt64) + ((p3.toInt64) * k)) + (0 : Int64))) = (0 : Int32) from (own_main _ _ _ _ _ hstep hr).trans (by rw [if_pos rfl, if_pos hc81]))).2) ?_
      show own_Ends p e below T3 (mkF m 111 #[.val (.int p0), .val (.int p1), .val (.long q2), .second, .val (.int p3), .val (.int p4), .val (.long (p0.toInt64)), .second, .val (.long k), .second, .val (.long q2), .second, .val (.long (p3.toInt64)), .second, .val (.long (0 : Int64)), .second, .val (.long (((p0.toInt64) + ((p3.toInt64) * k)) + (0 : Int64))), .second, .val (.ref b1), .val (.int (0 : Int32))] []) _
      refine own_go (fun _ => XS.iconst X3.here hx rfl (hb hby at_111)) ?_
      show own_Ends p e below T3 (mkF m 112 #[.val (.int p0), .val (.int p1), .val (.long q2), .second, .val (.int p3), .val (.int p4), .val (.long (p0.toInt64)), .second, .val (.long k), .second, .val (.long q2), .second, .val (.long (p3.toInt64)), .second, .val (.long (0 : Int64)), .second, .val (.long (((p0.toInt64) + ((p3.toInt64) * k)) + (0 : Int64))), .second, .val (.ref b1), .val (.int (0 : Int32))] [(.int (1 : Int32))]) _
      refine own_go (fun _ => XS.goto X3.here hx rfl (pc0 := 112) (pc' := 116) rfl (hb hby at_112) (by decide) (by decide)) ?_
      show own_Ends p e below T3 (mkF m 116 #[.val (.int p0), .val (.int p1), .val (.long q2), .second, .val (.int p3), .val (.int p4), .val (.long (p0.toInt64)), .second, .val (.long k), .second, .val (.long q2), .second, .val (.long (p3.toInt64)), .second, .val (.long (0 : Int64)), .second, .val (.long (((p0.toInt64) + ((p3.toInt64) * k)) + (0 : Int64))), .second, .val (.ref b1), .val (.int (0 : Int32))] [(.int (1 : Int32))]) _
      obtain ⟨fs, hr, hrun, hended, hW, hsame⟩ := X3.leave (v := some (.int (1 : Int32))) (fun h => by rw [Bd.returns] at h; cases h)
      refine ⟨_, _, retN X3 hx (t := .boolean) Bd.returns (by simp) (hb hby at_116) hr, hrun, hended, _, _, rfl, ?_, ⟨_, rfl⟩, hW, hsame.mono (by decide) (by decide)⟩
      show Q_rm0 Z p0 p1 q2 p3 p4 h0 n0 _ T3.heap _
      rw [eh3]
      exact ⟨rfl, N3⟩
    · refine own_go (fun _ => XS.ifNo X2.here hx rfl (hb hby at_81) rfl ((if0 _ _).trans (flt (fun qq_ => hc81 ((lw_lt (p3.toInt64) (0 : Int64)).mp qq_))).1)) ?_
      show own_Ends p e below T2 (mkF m 84 #[.val (.int p0), .val (.int p1), .val (.long q2), .second, .val (.int p3), .val (.int p4), .val (.long (p0.toInt64)), .second, .val (.long k), .second, .val (.long q2), .second, .val (.long (p3.toInt64)), .second, .val (.long (0 : Int64)), .second, .val (.long (((p0.toInt64) + ((p3.toInt64) * k)) + (0 : Int64))), .second, .val (.ref b1), .unset] []) _
      refine own_go (fun _ => XS.lload X2.here hx rfl (hb hby at_84) rfl) ?_
      show own_Ends p e below T2 (mkF m 86 #[.val (.int p0), .val (.int p1), .val (.long q2), .second, .val (.int p3), .val (.int p4), .val (.long (p0.toInt64)), .second, .val (.long k), .second, .val (.long q2), .second, .val (.long (p3.toInt64)), .second, .val (.long (0 : Int64)), .second, .val (.long (((p0.toInt64) + ((p3.toInt64) * k)) + (0 : Int64))), .second, .val (.ref b1), .unset] [(.long (p3.toInt64))]) _
      refine own_go (fun _ => XS.lload X2.here hx rfl (hb hby at_86) rfl) ?_
      show own_Ends p e below T2 (mkF m 88 #[.val (.int p0), .val (.int p1), .val (.long q2), .second, .val (.int p3), .val (.int p4), .val (.long (p0.toInt64)), .second, .val (.long k), .second, .val (.long q2), .second, .val (.long (p3.toInt64)), .second, .val (.long (0 : Int64)), .second, .val (.long (((p0.toInt64) + ((p3.toInt64) * k)) + (0 : Int64))), .second, .val (.ref b1), .unset] [(.long q2), (.long (p3.toInt64))]) _
      refine own_go (fun _ => XS.lcmp X2.here hx rfl (hb hby at_88) rfl) ?_
      show own_Ends p e below T2 (mkF m 89 #[.val (.int p0), .val (.int p1), .val (.long q2), .second, .val (.int p3), .val (.int p4), .val (.long (p0.toInt64)), .second, .val (.long k), .second, .val (.long q2), .second, .val (.long (p3.toInt64)), .second, .val (.long (0 : Int64)), .second, .val (.long (((p0.toInt64) + ((p3.toInt64) * k)) + (0 : Int64))), .second, .val (.ref b1), .unset] [(.int (lcmpW (p3.toInt64) q2))]) _
      by_cases hc89 : (p3.toInt64) < q2
      · refine own_go (fun _ => XS.ifNo X2.here hx rfl (hb hby at_89) rfl ((if0 _ _).trans (tlt ((lw_lt (p3.toInt64) q2).mpr hc89)).2.1)) ?_
        show own_Ends p e below T2 (mkF m 92 #[.val (.int p0), .val (.int p1), .val (.long q2), .second, .val (.int p3), .val (.int p4), .val (.long (p0.toInt64)), .second, .val (.long k), .second, .val (.long q2), .second, .val (.long (p3.toInt64)), .second, .val (.long (0 : Int64)), .second, .val (.long (((p0.toInt64) + ((p3.toInt64) * k)) + (0 : Int64))), .second, .val (.ref b1), .unset] []) _
        refine own_go (fun _ => XS.iconst X2.here hx rfl (hb hby at_92)) ?_
        show own_Ends p e below T2 (mkF m 93 #[.val (.int p0), .val (.int p1), .val (.long q2), .second, .val (.int p3), .val (.int p4), .val (.long (p0.toInt64)), .second, .val (.long k), .second, .val (.long q2), .second, .val (.long (p3.toInt64)), .second, .val (.long (0 : Int64)), .second, .val (.long (((p0.toInt64) + ((p3.toInt64) * k)) + (0 : Int64))), .second, .val (.ref b1), .unset] [(.int (1 : Int32))]) _
        refine own_go (fun _ => XS.goto X2.here hx rfl (pc0 := 93) (pc' := 97) rfl (hb hby at_93) (by decide) (by decide)) ?_
        show own_Ends p e below T2 (mkF m 97 #[.val (.int p0), .val (.int p1), .val (.long q2), .second, .val (.int p3), .val (.int p4), .val (.long (p0.toInt64)), .second, .val (.long k), .second, .val (.long q2), .second, .val (.long (p3.toInt64)), .second, .val (.long (0 : Int64)), .second, .val (.long (((p0.toInt64) + ((p3.toInt64) * k)) + (0 : Int64))), .second, .val (.ref b1), .unset] [(.int (1 : Int32))]) _
        refine own_go (fun _ => XS.istore X2.here hx rfl (hb hby at_97) rfl (l' := #[.val (.int p0), .val (.int p1), .val (.long q2), .second, .val (.int p3), .val (.int p4), .val (.long (p0.toInt64)), .second, .val (.long k), .second, .val (.long q2), .second, .val (.long (p3.toInt64)), .second, .val (.long (0 : Int64)), .second, .val (.long (((p0.toInt64) + ((p3.toInt64) * k)) + (0 : Int64))), .second, .val (.ref b1), .val (.int (1 : Int32))]) rfl) ?_
        show own_Ends p e below T2 (mkF m 99 #[.val (.int p0), .val (.int p1), .val (.long q2), .second, .val (.int p3), .val (.int p4), .val (.long (p0.toInt64)), .second, .val (.long k), .second, .val (.long q2), .second, .val (.long (p3.toInt64)), .second, .val (.long (0 : Int64)), .second, .val (.long (((p0.toInt64) + ((p3.toInt64) * k)) + (0 : Int64))), .second, .val (.ref b1), .val (.int (1 : Int32))] []) _
        refine own_go (fun _ => XS.aload X2.here hx rfl (hb hby at_99) rfl rfl) ?_
        show own_Ends p e below T2 (mkF m 101 #[.val (.int p0), .val (.int p1), .val (.long q2), .second, .val (.int p3), .val (.int p4), .val (.long (p0.toInt64)), .second, .val (.long k), .second, .val (.long q2), .second, .val (.long (p3.toInt64)), .second, .val (.long (0 : Int64)), .second, .val (.long (((p0.toInt64) + ((p3.toInt64) * k)) + (0 : Int64))), .second, .val (.ref b1), .val (.int (1 : Int32))] [(.ref b1)]) _
        refine own_go (fun _ => XS.lload X2.here hx rfl (hb hby at_101) rfl) ?_
        show own_Ends p e below T2 (mkF m 103 #[.val (.int p0), .val (.int p1), .val (.long q2), .second, .val (.int p3), .val (.int p4), .val (.long (p0.toInt64)), .second, .val (.long k), .second, .val (.long q2), .second, .val (.long (p3.toInt64)), .second, .val (.long (0 : Int64)), .second, .val (.long (((p0.toInt64) + ((p3.toInt64) * k)) + (0 : Int64))), .second, .val (.ref b1), .val (.int (1 : Int32))] [(.long (((p0.toInt64) + ((p3.toInt64) * k)) + (0 : Int64))), (.ref b1)]) _
        obtain ⟨cq4, kq4, q4a, q4b, q4c⟩ := isOf hZ rfl A1
        obtain ⟨_, _, ⟨T4, L4, k4, n4⟩, -, X4, ⟨Lc4, hQ4, l4, y4, z4⟩, st4⟩ := X2.virtualBack hx (y := (⟨"com/example/naviglio/naviglio/storage/KeptTicks", "holds", "(J)Z"⟩ : MethodName)) (z := (⟨"com/example/naviglio/naviglio/storage/KeptTicks", "holds", "(J)Z"⟩ : MethodName)) hown (mvT hZ (hw _ (List.mem_of_getElem? (i := 21) rfl))) (mvT hZ (hw _ (List.mem_of_getElem? (i := 22) rfl))) (notFace_of_selects (args := #[]) (mvT hZ (hw _ (List.mem_of_getElem? (i := 24) rfl)))) (mvT hZ (hw _ (List.mem_of_getElem? (i := 24) rfl))) (mvT hZ (hw _ (List.mem_of_getElem? (i := 23) rfl))) (by decide) (backOf (W := 0) (rmHolds l Z a0 hw [] b1 ((((p0.toInt64) + ((p3.toInt64) * k)) + (0 : Int64))) ((p0.toInt64)) k q2 (T2.heap) n0 Z2 A1 F2_first F2_step F2_count (own_nz hstep)) hZ (hw _ (List.mem_of_getElem? (i := 25) rfl)) (hw _ (List.mem_of_getElem? (i := 3) rfl)) (by decide) (by decide)) q4a q4c (g := (mkF m 103 #[.val (.int p0), .val (.int p1), .val (.long q2), .second, .val (.int p3), .val (.int p4), .val (.long (p0.toInt64)), .second, .val (.long k), .second, .val (.long q2), .second, .val (.long (p3.toInt64)), .second, .val (.long (0 : Int64)), .second, .val (.long (((p0.toInt64) + ((p3.toInt64) * k)) + (0 : Int64))), .second, .val (.ref b1), .val (.int (1 : Int32))] [(.long (((p0.toInt64) + ((p3.toInt64) * k)) + (0 : Int64))), (.ref b1)])) rfl (by rw [hml]; rfl) (Steps.refl _) (argsL := [(.long (((p0.toInt64) + ((p3.toInt64) * k)) + (0 : Int64)))]) (rest := []) (lenOf pd_3 rfl) rfl (by show 2 * 0 + _ ≤ _; exact Nat.le_of_eq rfl) (hb hby at_103) (fun _ _ => ⟨rfl, rfl, (by decide : 1 + 0 ≤ _), (by decide : 3 + 0 ≤ _)⟩)
        dsimp only [Pt.U, Pt.locs, Pt.cells, Pt.slots] at X4 l4 y4 z4 st4 hQ4
        subst l4 y4 z4
        refine own_go (fun _ k => st4.trans k) ?_
        obtain ⟨rfl, N4q, eh4⟩ := hQ4
        have N4 := Fr.app N2 N4q
        show own_Ends p e below T4 (mkF m 106 #[.val (.int p0), .val (.int p1), .val (.long q2), .second, .val (.int p3), .val (.int p4), .val (.long (p0.toInt64)), .second, .val (.long k), .second, .val (.long q2), .second, .val (.long (p3.toInt64)), .second, .val (.long (0 : Int64)), .second, .val (.long (((p0.toInt64) + ((p3.toInt64) * k)) + (0 : Int64))), .second, .val (.ref b1), .val (.int (1 : Int32))] [(.int (own_holds (p0.toInt64) k q2 (((p0.toInt64) + ((p3.toInt64) * k)) + (0 : Int64))))]) _
        refine own_go (fun _ => XS.iload X4.here hx rfl (hb hby at_106) rfl) ?_
        show own_Ends p e below T4 (mkF m 108 #[.val (.int p0), .val (.int p1), .val (.long q2), .second, .val (.int p3), .val (.int p4), .val (.long (p0.toInt64)), .second, .val (.long k), .second, .val (.long q2), .second, .val (.long (p3.toInt64)), .second, .val (.long (0 : Int64)), .second, .val (.long (((p0.toInt64) + ((p3.toInt64) * k)) + (0 : Int64))), .second, .val (.ref b1), .val (.int (1 : Int32))] [(.int (1 : Int32)), (.int (own_holds (p0.toInt64) k q2 (((p0.toInt64) + ((p3.toInt64) * k)) + (0 : Int64))))]) _
        refine own_go (fun _ => XS.icmpNo X4.here hx rfl (hb hby at_108) rfl (teq (show (own_holds (p0.toInt64) k q2 (((p0.toInt64) + ((p3.toInt64) * k)) + (0 : Int64))) = (1 : Int32) from (own_main _ _ _ _ _ hstep hr).trans (by rw [if_pos rfl, if_neg hc81, if_pos hc89]))).2) ?_
        show own_Ends p e below T4 (mkF m 111 #[.val (.int p0), .val (.int p1), .val (.long q2), .second, .val (.int p3), .val (.int p4), .val (.long (p0.toInt64)), .second, .val (.long k), .second, .val (.long q2), .second, .val (.long (p3.toInt64)), .second, .val (.long (0 : Int64)), .second, .val (.long (((p0.toInt64) + ((p3.toInt64) * k)) + (0 : Int64))), .second, .val (.ref b1), .val (.int (1 : Int32))] []) _
        refine own_go (fun _ => XS.iconst X4.here hx rfl (hb hby at_111)) ?_
        show own_Ends p e below T4 (mkF m 112 #[.val (.int p0), .val (.int p1), .val (.long q2), .second, .val (.int p3), .val (.int p4), .val (.long (p0.toInt64)), .second, .val (.long k), .second, .val (.long q2), .second, .val (.long (p3.toInt64)), .second, .val (.long (0 : Int64)), .second, .val (.long (((p0.toInt64) + ((p3.toInt64) * k)) + (0 : Int64))), .second, .val (.ref b1), .val (.int (1 : Int32))] [(.int (1 : Int32))]) _
        refine own_go (fun _ => XS.goto X4.here hx rfl (pc0 := 112) (pc' := 116) rfl (hb hby at_112) (by decide) (by decide)) ?_
        show own_Ends p e below T4 (mkF m 116 #[.val (.int p0), .val (.int p1), .val (.long q2), .second, .val (.int p3), .val (.int p4), .val (.long (p0.toInt64)), .second, .val (.long k), .second, .val (.long q2), .second, .val (.long (p3.toInt64)), .second, .val (.long (0 : Int64)), .second, .val (.long (((p0.toInt64) + ((p3.toInt64) * k)) + (0 : Int64))), .second, .val (.ref b1), .val (.int (1 : Int32))] [(.int (1 : Int32))]) _
        obtain ⟨fs, hr, hrun, hended, hW, hsame⟩ := X4.leave (v := some (.int (1 : Int32))) (fun h => by rw [Bd.returns] at h; cases h)
        refine ⟨_, _, retN X4 hx (t := .boolean) Bd.returns (by simp) (hb hby at_116) hr, hrun, hended, _, _, rfl, ?_, ⟨_, rfl⟩, hW, hsame.mono (by decide) (by decide)⟩
        show Q_rm0 Z p0 p1 q2 p3 p4 h0 n0 _ T4.heap _
        rw [eh4]
        exact ⟨rfl, N4⟩
      · refine own_go (fun _ => XS.ifYes X2.here hx rfl (pc0 := 89) (pc' := 96) rfl (hb hby at_89) rfl ((if0 _ _).trans (flt (fun qq_ => hc89 ((lw_lt (p3.toInt64) q2).mp qq_))).2.1) (by decide) (by decide)) ?_
        show own_Ends p e below T2 (mkF m 96 #[.val (.int p0), .val (.int p1), .val (.long q2), .second, .val (.int p3), .val (.int p4), .val (.long (p0.toInt64)), .second, .val (.long k), .second, .val (.long q2), .second, .val (.long (p3.toInt64)), .second, .val (.long (0 : Int64)), .second, .val (.long (((p0.toInt64) + ((p3.toInt64) * k)) + (0 : Int64))), .second, .val (.ref b1), .unset] []) _
        refine own_go (fun _ => XS.iconst X2.here hx rfl (hb hby at_96)) ?_
        show own_Ends p e below T2 (mkF m 97 #[.val (.int p0), .val (.int p1), .val (.long q2), .second, .val (.int p3), .val (.int p4), .val (.long (p0.toInt64)), .second, .val (.long k), .second, .val (.long q2), .second, .val (.long (p3.toInt64)), .second, .val (.long (0 : Int64)), .second, .val (.long (((p0.toInt64) + ((p3.toInt64) * k)) + (0 : Int64))), .second, .val (.ref b1), .unset] [(.int (0 : Int32))]) _
        refine own_go (fun _ => XS.istore X2.here hx rfl (hb hby at_97) rfl (l' := #[.val (.int p0), .val (.int p1), .val (.long q2), .second, .val (.int p3), .val (.int p4), .val (.long (p0.toInt64)), .second, .val (.long k), .second, .val (.long q2), .second, .val (.long (p3.toInt64)), .second, .val (.long (0 : Int64)), .second, .val (.long (((p0.toInt64) + ((p3.toInt64) * k)) + (0 : Int64))), .second, .val (.ref b1), .val (.int (0 : Int32))]) rfl) ?_
        show own_Ends p e below T2 (mkF m 99 #[.val (.int p0), .val (.int p1), .val (.long q2), .second, .val (.int p3), .val (.int p4), .val (.long (p0.toInt64)), .second, .val (.long k), .second, .val (.long q2), .second, .val (.long (p3.toInt64)), .second, .val (.long (0 : Int64)), .second, .val (.long (((p0.toInt64) + ((p3.toInt64) * k)) + (0 : Int64))), .second, .val (.ref b1), .val (.int (0 : Int32))] []) _
        refine own_go (fun _ => XS.aload X2.here hx rfl (hb hby at_99) rfl rfl) ?_
        show own_Ends p e below T2 (mkF m 101 #[.val (.int p0), .val (.int p1), .val (.long q2), .second, .val (.int p3), .val (.int p4), .val (.long (p0.toInt64)), .second, .val (.long k), .second, .val (.long q2), .second, .val (.long (p3.toInt64)), .second, .val (.long (0 : Int64)), .second, .val (.long (((p0.toInt64) + ((p3.toInt64) * k)) + (0 : Int64))), .second, .val (.ref b1), .val (.int (0 : Int32))] [(.ref b1)]) _
        refine own_go (fun _ => XS.lload X2.here hx rfl (hb hby at_101) rfl) ?_
        show own_Ends p e below T2 (mkF m 103 #[.val (.int p0), .val (.int p1), .val (.long q2), .second, .val (.int p3), .val (.int p4), .val (.long (p0.toInt64)), .second, .val (.long k), .second, .val (.long q2), .second, .val (.long (p3.toInt64)), .second, .val (.long (0 : Int64)), .second, .val (.long (((p0.toInt64) + ((p3.toInt64) * k)) + (0 : Int64))), .second, .val (.ref b1), .val (.int (0 : Int32))] [(.long (((p0.toInt64) + ((p3.toInt64) * k)) + (0 : Int64))), (.ref b1)]) _
        obtain ⟨cq5, kq5, q5a, q5b, q5c⟩ := isOf hZ rfl A1
        obtain ⟨_, _, ⟨T5, L5, k5, n5⟩, -, X5, ⟨Lc5, hQ5, l5, y5, z5⟩, st5⟩ := X2.virtualBack hx (y := (⟨"com/example/naviglio/naviglio/storage/KeptTicks", "holds", "(J)Z"⟩ : MethodName)) (z := (⟨"com/example/naviglio/naviglio/storage/KeptTicks", "holds", "(J)Z"⟩ : MethodName)) hown (mvT hZ (hw _ (List.mem_of_getElem? (i := 21) rfl))) (mvT hZ (hw _ (List.mem_of_getElem? (i := 22) rfl))) (notFace_of_selects (args := #[]) (mvT hZ (hw _ (List.mem_of_getElem? (i := 24) rfl)))) (mvT hZ (hw _ (List.mem_of_getElem? (i := 24) rfl))) (mvT hZ (hw _ (List.mem_of_getElem? (i := 23) rfl))) (by decide) (backOf (W := 0) (rmHolds l Z a0 hw [] b1 ((((p0.toInt64) + ((p3.toInt64) * k)) + (0 : Int64))) ((p0.toInt64)) k q2 (T2.heap) n0 Z2 A1 F2_first F2_step F2_count (own_nz hstep)) hZ (hw _ (List.mem_of_getElem? (i := 25) rfl)) (hw _ (List.mem_of_getElem? (i := 3) rfl)) (by decide) (by decide)) q5a q5c (g := (mkF m 103 #[.val (.int p0), .val (.int p1), .val (.long q2), .second, .val (.int p3), .val (.int p4), .val (.long (p0.toInt64)), .second, .val (.long k), .second, .val (.long q2), .second, .val (.long (p3.toInt64)), .second, .val (.long (0 : Int64)), .second, .val (.long (((p0.toInt64) + ((p3.toInt64) * k)) + (0 : Int64))), .second, .val (.ref b1), .val (.int (0 : Int32))] [(.long (((p0.toInt64) + ((p3.toInt64) * k)) + (0 : Int64))), (.ref b1)])) rfl (by rw [hml]; rfl) (Steps.refl _) (argsL := [(.long (((p0.toInt64) + ((p3.toInt64) * k)) + (0 : Int64)))]) (rest := []) (lenOf pd_3 rfl) rfl (by show 2 * 0 + _ ≤ _; exact Nat.le_of_eq rfl) (hb hby at_103) (fun _ _ => ⟨rfl, rfl, (by decide : 1 + 0 ≤ _), (by decide : 3 + 0 ≤ _)⟩)
        dsimp only [Pt.U, Pt.locs, Pt.cells, Pt.slots] at X5 l5 y5 z5 st5 hQ5
        subst l5 y5 z5
        refine own_go (fun _ k => st5.trans k) ?_
        obtain ⟨rfl, N5q, eh5⟩ := hQ5
        have N5 := Fr.app N2 N5q
        show own_Ends p e below T5 (mkF m 106 #[.val (.int p0), .val (.int p1), .val (.long q2), .second, .val (.int p3), .val (.int p4), .val (.long (p0.toInt64)), .second, .val (.long k), .second, .val (.long q2), .second, .val (.long (p3.toInt64)), .second, .val (.long (0 : Int64)), .second, .val (.long (((p0.toInt64) + ((p3.toInt64) * k)) + (0 : Int64))), .second, .val (.ref b1), .val (.int (0 : Int32))] [(.int (own_holds (p0.toInt64) k q2 (((p0.toInt64) + ((p3.toInt64) * k)) + (0 : Int64))))]) _
        refine own_go (fun _ => XS.iload X5.here hx rfl (hb hby at_106) rfl) ?_
        show own_Ends p e below T5 (mkF m 108 #[.val (.int p0), .val (.int p1), .val (.long q2), .second, .val (.int p3), .val (.int p4), .val (.long (p0.toInt64)), .second, .val (.long k), .second, .val (.long q2), .second, .val (.long (p3.toInt64)), .second, .val (.long (0 : Int64)), .second, .val (.long (((p0.toInt64) + ((p3.toInt64) * k)) + (0 : Int64))), .second, .val (.ref b1), .val (.int (0 : Int32))] [(.int (0 : Int32)), (.int (own_holds (p0.toInt64) k q2 (((p0.toInt64) + ((p3.toInt64) * k)) + (0 : Int64))))]) _
        refine own_go (fun _ => XS.icmpNo X5.here hx rfl (hb hby at_108) rfl (teq (show (own_holds (p0.toInt64) k q2 (((p0.toInt64) + ((p3.toInt64) * k)) + (0 : Int64))) = (0 : Int32) from (own_main _ _ _ _ _ hstep hr).trans (by rw [if_pos rfl, if_neg hc81, if_neg hc89]))).2) ?_
        show own_Ends p e below T5 (mkF m 111 #[.val (.int p0), .val (.int p1), .val (.long q2), .second, .val (.int p3), .val (.int p4), .val (.long (p0.toInt64)), .second, .val (.long k), .second, .val (.long q2), .second, .val (.long (p3.toInt64)), .second, .val (.long (0 : Int64)), .second, .val (.long (((p0.toInt64) + ((p3.toInt64) * k)) + (0 : Int64))), .second, .val (.ref b1), .val (.int (0 : Int32))] []) _
        refine own_go (fun _ => XS.iconst X5.here hx rfl (hb hby at_111)) ?_
        show own_Ends p e below T5 (mkF m 112 #[.val (.int p0), .val (.int p1), .val (.long q2), .second, .val (.int p3), .val (.int p4), .val (.long (p0.toInt64)), .second, .val (.long k), .second, .val (.long q2), .second, .val (.long (p3.toInt64)), .second, .val (.long (0 : Int64)), .second, .val (.long (((p0.toInt64) + ((p3.toInt64) * k)) + (0 : Int64))), .second, .val (.ref b1), .val (.int (0 : Int32))] [(.int (1 : Int32))]) _
        refine own_go (fun _ => XS.goto X5.here hx rfl (pc0 := 112) (pc' := 116) rfl (hb hby at_112) (by decide) (by decide)) ?_
        show own_Ends p e below T5 (mkF m 116 #[.val (.int p0), .val (.int p1), .val (.long q2), .second, .val (.int p3), .val (.int p4), .val (.long (p0.toInt64)), .second, .val (.long k), .second, .val (.long q2), .second, .val (.long (p3.toInt64)), .second, .val (.long (0 : Int64)), .second, .val (.long (((p0.toInt64) + ((p3.toInt64) * k)) + (0 : Int64))), .second, .val (.ref b1), .val (.int (0 : Int32))] [(.int (1 : Int32))]) _
        obtain ⟨fs, hr, hrun, hended, hW, hsame⟩ := X5.leave (v := some (.int (1 : Int32))) (fun h => by rw [Bd.returns] at h; cases h)
        refine ⟨_, _, retN X5 hx (t := .boolean) Bd.returns (by simp) (hb hby at_116) hr, hrun, hended, _, _, rfl, ?_, ⟨_, rfl⟩, hW, hsame.mono (by decide) (by decide)⟩
        show Q_rm0 Z p0 p1 q2 p3 p4 h0 n0 _ T5.heap _
        rw [eh5]
        exact ⟨rfl, N5⟩
  · refine own_go (fun _ => XS.ifYes X0.here hx rfl (pc0 := 25) (pc' := 32) rfl (hb hby at_25) rfl ((if0 _ _).trans (feq hc25).2) (by decide) (by decide)) ?_
    show own_Ends p e below s₁ (mkF m 32 #[.val (.int p0), .val (.int p1), .val (.long q2), .second, .val (.int p3), .val (.int p4), .val (.long (p0.toInt64)), .second, .val (.long k), .second, .val (.long q2), .second, .val (.long (p3.toInt64)), .second, .unset, .unset, .unset, .unset, .unset, .unset] []) _
    refine own_go (fun _ => XS.iload X0.here hx rfl (hb hby at_32) rfl) ?_
    show own_Ends p e below s₁ (mkF m 34 #[.val (.int p0), .val (.int p1), .val (.long q2), .second, .val (.int p3), .val (.int p4), .val (.long (p0.toInt64)), .second, .val (.long k), .second, .val (.long q2), .second, .val (.long (p3.toInt64)), .second, .unset, .unset, .unset, .unset, .unset, .unset] [(.int p4)]) _
    refine own_go (fun _ => XS.iconst X0.here hx rfl (hb hby at_34)) ?_
    show own_Ends p e below s₁ (mkF m 35 #[.val (.int p0), .val (.int p1), .val (.long q2), .second, .val (.int p3), .val (.int p4), .val (.long (p0.toInt64)), .second, .val (.long k), .second, .val (.long q2), .second, .val (.long (p3.toInt64)), .second, .unset, .unset, .unset, .unset, .unset, .unset] [(.int (1 : Int32)), (.int p4)]) _
    refine own_go (fun _ => XS.iushr X0.here hx rfl (hb hby at_35) rfl) ?_
    show own_Ends p e below s₁ (mkF m 36 #[.val (.int p0), .val (.int p1), .val (.long q2), .second, .val (.int p3), .val (.int p4), .val (.long (p0.toInt64)), .second, .val (.long k), .second, .val (.long q2), .second, .val (.long (p3.toInt64)), .second, .unset, .unset, .unset, .unset, .unset, .unset] [(.int ((p4.toUInt32 >>> ((1 : Int32) &&& 31).toUInt32).toInt32))]) _
    refine own_go (fun _ => XS.i2l X0.here hx rfl (hb hby at_36) rfl) ?_
    show own_Ends p e below s₁ (mkF m 37 #[.val (.int p0), .val (.int p1), .val (.long q2), .second, .val (.int p3), .val (.int p4), .val (.long (p0.toInt64)), .second, .val (.long k), .second, .val (.long q2), .second, .val (.long (p3.toInt64)), .second, .unset, .unset, .unset, .unset, .unset, .unset] [(.long (((p4.toUInt32 >>> ((1 : Int32) &&& 31).toUInt32).toInt32).toInt64))]) _
    refine own_go (fun _ => XS.lload X0.here hx rfl (hb hby at_37) rfl) ?_
    show own_Ends p e below s₁ (mkF m 39 #[.val (.int p0), .val (.int p1), .val (.long q2), .second, .val (.int p3), .val (.int p4), .val (.long (p0.toInt64)), .second, .val (.long k), .second, .val (.long q2), .second, .val (.long (p3.toInt64)), .second, .unset, .unset, .unset, .unset, .unset, .unset] [(.long k), (.long (((p4.toUInt32 >>> ((1 : Int32) &&& 31).toUInt32).toInt32).toInt64))]) _
    refine own_go (fun _ => XS.lrem X0.here hx rfl (hb hby at_39) rfl (own_nz hstep)) ?_
    show own_Ends p e below s₁ (mkF m 40 #[.val (.int p0), .val (.int p1), .val (.long q2), .second, .val (.int p3), .val (.int p4), .val (.long (p0.toInt64)), .second, .val (.long k), .second, .val (.long q2), .second, .val (.long (p3.toInt64)), .second, .unset, .unset, .unset, .unset, .unset, .unset] [(.long ((((p4.toUInt32 >>> ((1 : Int32) &&& 31).toUInt32).toInt32).toInt64) - ((((p4.toUInt32 >>> ((1 : Int32) &&& 31).toUInt32).toInt32).toInt64) / k) * k))]) _
    refine own_go (fun _ => XS.lstore X0.here hx rfl (hb hby at_40) rfl (l' := #[.val (.int p0), .val (.int p1), .val (.long q2), .second, .val (.int p3), .val (.int p4), .val (.long (p0.toInt64)), .second, .val (.long k), .second, .val (.long q2), .second, .val (.long (p3.toInt64)), .second, .val (.long ((((p4.toUInt32 >>> ((1 : Int32) &&& 31).toUInt32).toInt32).toInt64) - ((((p4.toUInt32 >>> ((1 : Int32) &&& 31).toUInt32).toInt32).toInt64) / k) * k)), .second, .unset, .unset, .unset, .unset]) rfl) ?_
    show own_Ends p e below s₁ (mkF m 42 #[.val (.int p0), .val (.int p1), .val (.long q2), .second, .val (.int p3), .val (.int p4), .val (.long (p0.toInt64)), .second, .val (.long k), .second, .val (.long q2), .second, .val (.long (p3.toInt64)), .second, .val (.long ((((p4.toUInt32 >>> ((1 : Int32) &&& 31).toUInt32).toInt32).toInt64) - ((((p4.toUInt32 >>> ((1 : Int32) &&& 31).toUInt32).toInt32).toInt64) / k) * k)), .second, .unset, .unset, .unset, .unset] []) _
    have hr := own_r1 hstep _ (own_ush p4)
    generalize gr : ((((p4.toUInt32 >>> ((1 : Int32) &&& 31).toUInt32).toInt32).toInt64) - ((((p4.toUInt32 >>> ((1 : Int32) &&& 31).toUInt32).toInt32).toInt64) / k) * k) = r at hr ⊢
    refine own_go (fun _ => XS.lload X0.here hx rfl (hb hby at_42) rfl) ?_
    show own_Ends p e below s₁ (mkF m 44 #[.val (.int p0), .val (.int p1), .val (.long q2), .second, .val (.int p3), .val (.int p4), .val (.long (p0.toInt64)), .second, .val (.long k), .second, .val (.long q2), .second, .val (.long (p3.toInt64)), .second, .val (.long r), .second, .unset, .unset, .unset, .unset] [(.long (p0.toInt64))]) _
    refine own_go (fun _ => XS.lload X0.here hx rfl (hb hby at_44) rfl) ?_
    show own_Ends p e below s₁ (mkF m 46 #[.val (.int p0), .val (.int p1), .val (.long q2), .second, .val (.int p3), .val (.int p4), .val (.long (p0.toInt64)), .second, .val (.long k), .second, .val (.long q2), .second, .val (.long (p3.toInt64)), .second, .val (.long r), .second, .unset, .unset, .unset, .unset] [(.long (p3.toInt64)), (.long (p0.toInt64))]) _
    refine own_go (fun _ => XS.lload X0.here hx rfl (hb hby at_46) rfl) ?_
    show own_Ends p e below s₁ (mkF m 48 #[.val (.int p0), .val (.int p1), .val (.long q2), .second, .val (.int p3), .val (.int p4), .val (.long (p0.toInt64)), .second, .val (.long k), .second, .val (.long q2), .second, .val (.long (p3.toInt64)), .second, .val (.long r), .second, .unset, .unset, .unset, .unset] [(.long k), (.long (p3.toInt64)), (.long (p0.toInt64))]) _
    refine own_go (fun _ => XS.lmul X0.here hx rfl (hb hby at_48) rfl) ?_
    show own_Ends p e below s₁ (mkF m 49 #[.val (.int p0), .val (.int p1), .val (.long q2), .second, .val (.int p3), .val (.int p4), .val (.long (p0.toInt64)), .second, .val (.long k), .second, .val (.long q2), .second, .val (.long (p3.toInt64)), .second, .val (.long r), .second, .unset, .unset, .unset, .unset] [(.long ((p3.toInt64) * k)), (.long (p0.toInt64))]) _
    refine own_go (fun _ => XS.ladd X0.here hx rfl (hb hby at_49) rfl) ?_
    show own_Ends p e below s₁ (mkF m 50 #[.val (.int p0), .val (.int p1), .val (.long q2), .second, .val (.int p3), .val (.int p4), .val (.long (p0.toInt64)), .second, .val (.long k), .second, .val (.long q2), .second, .val (.long (p3.toInt64)), .second, .val (.long r), .second, .unset, .unset, .unset, .unset] [(.long ((p0.toInt64) + ((p3.toInt64) * k)))]) _
    refine own_go (fun _ => XS.lload X0.here hx rfl (hb hby at_50) rfl) ?_
    show own_Ends p e below s₁ (mkF m 52 #[.val (.int p0), .val (.int p1), .val (.long q2), .second, .val (.int p3), .val (.int p4), .val (.long (p0.toInt64)), .second, .val (.long k), .second, .val (.long q2), .second, .val (.long (p3.toInt64)), .second, .val (.long r), .second, .unset, .unset, .unset, .unset] [(.long r), (.long ((p0.toInt64) + ((p3.toInt64) * k)))]) _
    refine own_go (fun _ => XS.ladd X0.here hx rfl (hb hby at_52) rfl) ?_
    show own_Ends p e below s₁ (mkF m 53 #[.val (.int p0), .val (.int p1), .val (.long q2), .second, .val (.int p3), .val (.int p4), .val (.long (p0.toInt64)), .second, .val (.long k), .second, .val (.long q2), .second, .val (.long (p3.toInt64)), .second, .val (.long r), .second, .unset, .unset, .unset, .unset] [(.long (((p0.toInt64) + ((p3.toInt64) * k)) + r))]) _
    refine own_go (fun _ => XS.lstore X0.here hx rfl (hb hby at_53) rfl (l' := #[.val (.int p0), .val (.int p1), .val (.long q2), .second, .val (.int p3), .val (.int p4), .val (.long (p0.toInt64)), .second, .val (.long k), .second, .val (.long q2), .second, .val (.long (p3.toInt64)), .second, .val (.long r), .second, .val (.long (((p0.toInt64) + ((p3.toInt64) * k)) + r)), .second, .unset, .unset]) rfl) ?_
    show own_Ends p e below s₁ (mkF m 55 #[.val (.int p0), .val (.int p1), .val (.long q2), .second, .val (.int p3), .val (.int p4), .val (.long (p0.toInt64)), .second, .val (.long k), .second, .val (.long q2), .second, .val (.long (p3.toInt64)), .second, .val (.long r), .second, .val (.long (((p0.toInt64) + ((p3.toInt64) * k)) + r)), .second, .unset, .unset] []) _
    obtain ⟨T6, h6, X6, e6, E6, A6, D6, -, st6⟩ := newO X0 hx hZ hown (hw _ (List.mem_of_getElem? (i := 1) rfl)) (hw _ (List.mem_of_getElem? (i := 2) rfl)) (hw _ (List.mem_of_getElem? (i := 3) rfl)) e0 (g := (mkF m 55 #[.val (.int p0), .val (.int p1), .val (.long q2), .second, .val (.int p3), .val (.int p4), .val (.long (p0.toInt64)), .second, .val (.long k), .second, .val (.long q2), .second, .val (.long (p3.toInt64)), .second, .val (.long r), .second, .val (.long (((p0.toInt64) + ((p3.toInt64) * k)) + r)), .second, .unset, .unset] [])) rfl (hb hby at_55) (by decide) (by decide)
    obtain ⟨b6, g6⟩ : ∃ z, z = h0.size := ⟨_, rfl⟩
    rw [← g6] at A6 D6 st6
    refine own_go st6 ?_
    have g_b6 : n0 ≤ b6 := Nat.le_trans Z0 (Nat.le_of_eq g6.symm)
    have sz_b6 : h0.size ≤ b6 := Nat.le_trans K0.1 (Nat.le_of_eq g6.symm)
    have K6 := K0.ext E6
    have Z6 : n0 ≤ h6.size := Nat.le_trans Z0 K6.1
    have F_b6_first : Fld Z h6 b6 "com/example/naviglio/naviglio/storage/KeptTicks" "first" "J" (.long (0 : Int64)) := D6 (Or.inr (hw _ (List.mem_of_getElem? (i := 16) rfl))) (ty := .long) (by decide)
    have F_b6_step : Fld Z h6 b6 "com/example/naviglio/naviglio/storage/KeptTicks" "step" "J" (.long (0 : Int64)) := D6 (Or.inr (hw _ (List.mem_of_getElem? (i := 18) rfl))) (ty := .long) (by decide)
    have F_b6_count : Fld Z h6 b6 "com/example/naviglio/naviglio/storage/KeptTicks" "count" "J" (.long (0 : Int64)) := D6 (Or.inr (hw _ (List.mem_of_getElem? (i := 20) rfl))) (ty := .long) (by decide)
    show own_Ends p e below T6 (mkF m 58 #[.val (.int p0), .val (.int p1), .val (.long q2), .second, .val (.int p3), .val (.int p4), .val (.long (p0.toInt64)), .second, .val (.long k), .second, .val (.long q2), .second, .val (.long (p3.toInt64)), .second, .val (.long r), .second, .val (.long (((p0.toInt64) + ((p3.toInt64) * k)) + r)), .second, .unset, .unset] [(.ref b6)]) _
    refine own_go (fun _ => XS.dup X6.here hx rfl (hb hby at_58) rfl rfl) ?_
    show own_Ends p e below T6 (mkF m 59 #[.val (.int p0), .val (.int p1), .val (.long q2), .second, .val (.int p3), .val (.int p4), .val (.long (p0.toInt64)), .second, .val (.long k), .second, .val (.long q2), .second, .val (.long (p3.toInt64)), .second, .val (.long r), .second, .val (.long (((p0.toInt64) + ((p3.toInt64) * k)) + r)), .second, .unset, .unset] [(.ref b6), (.ref b6)]) _
    refine own_go (fun _ => XS.lload X6.here hx rfl (hb hby at_59) rfl) ?_
    show own_Ends p e below T6 (mkF m 61 #[.val (.int p0), .val (.int p1), .val (.long q2), .second, .val (.int p3), .val (.int p4), .val (.long (p0.toInt64)), .second, .val (.long k), .second, .val (.long q2), .second, .val (.long (p3.toInt64)), .second, .val (.long r), .second, .val (.long (((p0.toInt64) + ((p3.toInt64) * k)) + r)), .second, .unset, .unset] [(.long (p0.toInt64)), (.ref b6), (.ref b6)]) _
    refine own_go (fun _ => XS.lload X6.here hx rfl (hb hby at_61) rfl) ?_
    show own_Ends p e below T6 (mkF m 63 #[.val (.int p0), .val (.int p1), .val (.long q2), .second, .val (.int p3), .val (.int p4), .val (.long (p0.toInt64)), .second, .val (.long k), .second, .val (.long q2), .second, .val (.long (p3.toInt64)), .second, .val (.long r), .second, .val (.long (((p0.toInt64) + ((p3.toInt64) * k)) + r)), .second, .unset, .unset] [(.long k), (.long (p0.toInt64)), (.ref b6), (.ref b6)]) _
    refine own_go (fun _ => XS.lload X6.here hx rfl (hb hby at_63) rfl) ?_
    show own_Ends p e below T6 (mkF m 65 #[.val (.int p0), .val (.int p1), .val (.long q2), .second, .val (.int p3), .val (.int p4), .val (.long (p0.toInt64)), .second, .val (.long k), .second, .val (.long q2), .second, .val (.long (p3.toInt64)), .second, .val (.long r), .second, .val (.long (((p0.toInt64) + ((p3.toInt64) * k)) + r)), .second, .unset, .unset] [(.long q2), (.long k), (.long (p0.toInt64)), (.ref b6), (.ref b6)]) _
    obtain ⟨_, _, ⟨T7, L7, k7, n7⟩, -, X7, ⟨Lc7, hQ7, l7, y7, z7⟩, st7⟩ := X6.specialBack hx (y := (⟨"com/example/naviglio/naviglio/storage/KeptTicks", "<init>", "(JJJ)V"⟩ : MethodName)) rfl hown (mvT hZ (hw _ (List.mem_of_getElem? (i := 4) rfl))) (mvT hZ (hw _ (List.mem_of_getElem? (i := 5) rfl))) (mvT hZ (hw _ (List.mem_of_getElem? (i := 6) rfl))) (by decide) (backOf (W := 1) (rmInit l Z a0 hw [] b6 ((p0.toInt64)) k q2  h6 n0 Z6 A6 F_b6_first F_b6_step F_b6_count g_b6) hZ (hw _ (List.mem_of_getElem? (i := 6) rfl)) (hw _ (List.mem_of_getElem? (i := 3) rfl)) (by decide) (by decide)) (g := (mkF m 65 #[.val (.int p0), .val (.int p1), .val (.long q2), .second, .val (.int p3), .val (.int p4), .val (.long (p0.toInt64)), .second, .val (.long k), .second, .val (.long q2), .second, .val (.long (p3.toInt64)), .second, .val (.long r), .second, .val (.long (((p0.toInt64) + ((p3.toInt64) * k)) + r)), .second, .unset, .unset] [(.long q2), (.long k), (.long (p0.toInt64)), (.ref b6), (.ref b6)])) rfl (by rw [hml]; rfl) (Steps.refl _) (a := b6) (argsL := [(.long (p0.toInt64)), (.long k), (.long q2)]) (rest := [(.ref b6)]) (lenOf pd_2 rfl) rfl (by show 2 * 0 + _ ≤ _; exact Nat.le_of_eq rfl) (hb hby at_65) (fun _ _ => ⟨rfl, e6, (by decide : 1 + 0 ≤ _), (by decide : 3 + 0 ≤ _)⟩)
    dsimp only [Pt.U, Pt.locs, Pt.cells, Pt.slots] at X7 l7 y7 z7 st7 hQ7
    subst l7 y7 z7
    refine own_go (fun _ k => st7.trans k) ?_
    obtain ⟨rfl, N7q, Kq7, Eq7, F7_first, F7_step, F7_count⟩ := hQ7
    replace A6 := A6.keep Kq7
    have K7 := K6.trans Kq7 (allS (Or.inr sz_b6) all0)
    have Z7 : n0 ≤ T7.heap.size := Nat.le_trans Z0 K7.1
    clear Eq7
    have N7 := Fr.app N0 N7q
    show own_Ends p e below T7 (mkF m 68 #[.val (.int p0), .val (.int p1), .val (.long q2), .second, .val (.int p3), .val (.int p4), .val (.long (p0.toInt64)), .second, .val (.long k), .second, .val (.long q2), .second, .val (.long (p3.toInt64)), .second, .val (.long r), .second, .val (.long (((p0.toInt64) + ((p3.toInt64) * k)) + r)), .second, .unset, .unset] [(.ref b6)]) _
    refine own_go (fun _ => XS.astore X7.here hx rfl (hb hby at_68) rfl rfl (l' := #[.val (.int p0), .val (.int p1), .val (.long q2), .second, .val (.int p3), .val (.int p4), .val (.long (p0.toInt64)), .second, .val (.long k), .second, .val (.long q2), .second, .val (.long (p3.toInt64)), .second, .val (.long r), .second, .val (.long (((p0.toInt64) + ((p3.toInt64) * k)) + r)), .second, .val (.ref b6), .unset]) rfl) ?_
    show own_Ends p e below T7 (mkF m 70 #[.val (.int p0), .val (.int p1), .val (.long q2), .second, .val (.int p3), .val (.int p4), .val (.long (p0.toInt64)), .second, .val (.long k), .second, .val (.long q2), .second, .val (.long (p3.toInt64)), .second, .val (.long r), .second, .val (.long (((p0.toInt64) + ((p3.toInt64) * k)) + r)), .second, .val (.ref b6), .unset] []) _
    refine own_go (fun _ => XS.lload X7.here hx rfl (hb hby at_70) rfl) ?_
    show own_Ends p e below T7 (mkF m 72 #[.val (.int p0), .val (.int p1), .val (.long q2), .second, .val (.int p3), .val (.int p4), .val (.long (p0.toInt64)), .second, .val (.long k), .second, .val (.long q2), .second, .val (.long (p3.toInt64)), .second, .val (.long r), .second, .val (.long (((p0.toInt64) + ((p3.toInt64) * k)) + r)), .second, .val (.ref b6), .unset] [(.long r)]) _
    refine own_go (fun _ => XS.lconst X7.here hx rfl (hb hby at_72)) ?_
    show own_Ends p e below T7 (mkF m 73 #[.val (.int p0), .val (.int p1), .val (.long q2), .second, .val (.int p3), .val (.int p4), .val (.long (p0.toInt64)), .second, .val (.long k), .second, .val (.long q2), .second, .val (.long (p3.toInt64)), .second, .val (.long r), .second, .val (.long (((p0.toInt64) + ((p3.toInt64) * k)) + r)), .second, .val (.ref b6), .unset] [(.long (0 : Int64)), (.long r)]) _
    refine own_go (fun _ => XS.lcmp X7.here hx rfl (hb hby at_73) rfl) ?_
    show own_Ends p e below T7 (mkF m 74 #[.val (.int p0), .val (.int p1), .val (.long q2), .second, .val (.int p3), .val (.int p4), .val (.long (p0.toInt64)), .second, .val (.long k), .second, .val (.long q2), .second, .val (.long (p3.toInt64)), .second, .val (.long r), .second, .val (.long (((p0.toInt64) + ((p3.toInt64) * k)) + r)), .second, .val (.ref b6), .unset] [(.int (lcmpW r (0 : Int64)))]) _
    by_cases hc74 : r = (0 : Int64)
    · refine own_go (fun _ => XS.ifNo X7.here hx rfl (hb hby at_74) rfl ((if0 _ _).trans (teq ((lw_eq r (0 : Int64)).mpr hc74)).2)) ?_
      show own_Ends p e below T7 (mkF m 77 #[.val (.int p0), .val (.int p1), .val (.long q2), .second, .val (.int p3), .val (.int p4), .val (.long (p0.toInt64)), .second, .val (.long k), .second, .val (.long q2), .second, .val (.long (p3.toInt64)), .second, .val (.long r), .second, .val (.long (((p0.toInt64) + ((p3.toInt64) * k)) + r)), .second, .val (.ref b6), .unset] []) _
      refine own_go (fun _ => XS.lload X7.here hx rfl (hb hby at_77) rfl) ?_
      show own_Ends p e below T7 (mkF m 79 #[.val (.int p0), .val (.int p1), .val (.long q2), .second, .val (.int p3), .val (.int p4), .val (.long (p0.toInt64)), .second, .val (.long k), .second, .val (.long q2), .second, .val (.long (p3.toInt64)), .second, .val (.long r), .second, .val (.long (((p0.toInt64) + ((p3.toInt64) * k)) + r)), .second, .val (.ref b6), .unset] [(.long (p3.toInt64))]) _
      refine own_go (fun _ => XS.lconst X7.here hx rfl (hb hby at_79)) ?_
      show own_Ends p e below T7 (mkF m 80 #[.val (.int p0), .val (.int p1), .val (.long q2), .second, .val (.int p3), .val (.int p4), .val (.long (p0.toInt64)), .second, .val (.long k), .second, .val (.long q2), .second, .val (.long (p3.toInt64)), .second, .val (.long r), .second, .val (.long (((p0.toInt64) + ((p3.toInt64) * k)) + r)), .second, .val (.ref b6), .unset] [(.long (0 : Int64)), (.long (p3.toInt64))]) _
      refine own_go (fun _ => XS.lcmp X7.here hx rfl (hb hby at_80) rfl) ?_
      show own_Ends p e below T7 (mkF m 81 #[.val (.int p0), .val (.int p1), .val (.long q2), .second, .val (.int p3), .val (.int p4), .val (.long (p0.toInt64)), .second, .val (.long k), .second, .val (.long q2), .second, .val (.long (p3.toInt64)), .second, .val (.long r), .second, .val (.long (((p0.toInt64) + ((p3.toInt64) * k)) + r)), .second, .val (.ref b6), .unset] [(.int (lcmpW (p3.toInt64) (0 : Int64)))]) _
      by_cases hc81 : (p3.toInt64) < (0 : Int64)
      · refine own_go (fun _ => XS.ifYes X7.here hx rfl (pc0 := 81) (pc' := 96) rfl (hb hby at_81) rfl ((if0 _ _).trans (tlt ((lw_lt (p3.toInt64) (0 : Int64)).mpr hc81)).1) (by decide) (by decide)) ?_
        show own_Ends p e below T7 (mkF m 96 #[.val (.int p0), .val (.int p1), .val (.long q2), .second, .val (.int p3), .val (.int p4), .val (.long (p0.toInt64)), .second, .val (.long k), .second, .val (.long q2), .second, .val (.long (p3.toInt64)), .second, .val (.long r), .second, .val (.long (((p0.toInt64) + ((p3.toInt64) * k)) + r)), .second, .val (.ref b6), .unset] []) _
        refine own_go (fun _ => XS.iconst X7.here hx rfl (hb hby at_96)) ?_
        show own_Ends p e below T7 (mkF m 97 #[.val (.int p0), .val (.int p1), .val (.long q2), .second, .val (.int p3), .val (.int p4), .val (.long (p0.toInt64)), .second, .val (.long k), .second, .val (.long q2), .second, .val (.long (p3.toInt64)), .second, .val (.long r), .second, .val (.long (((p0.toInt64) + ((p3.toInt64) * k)) + r)), .second, .val (.ref b6), .unset] [(.int (0 : Int32))]) _
        refine own_go (fun _ => XS.istore X7.here hx rfl (hb hby at_97) rfl (l' := #[.val (.int p0), .val (.int p1), .val (.long q2), .second, .val (.int p3), .val (.int p4), .val (.long (p0.toInt64)), .second, .val (.long k), .second, .val (.long q2), .second, .val (.long (p3.toInt64)), .second, .val (.long r), .second, .val (.long (((p0.toInt64) + ((p3.toInt64) * k)) + r)), .second, .val (.ref b6), .val (.int (0 : Int32))]) rfl) ?_
        show own_Ends p e below T7 (mkF m 99 #[.val (.int p0), .val (.int p1), .val (.long q2), .second, .val (.int p3), .val (.int p4), .val (.long (p0.toInt64)), .second, .val (.long k), .second, .val (.long q2), .second, .val (.long (p3.toInt64)), .second, .val (.long r), .second, .val (.long (((p0.toInt64) + ((p3.toInt64) * k)) + r)), .second, .val (.ref b6), .val (.int (0 : Int32))] []) _
        refine own_go (fun _ => XS.aload X7.here hx rfl (hb hby at_99) rfl rfl) ?_
        show own_Ends p e below T7 (mkF m 101 #[.val (.int p0), .val (.int p1), .val (.long q2), .second, .val (.int p3), .val (.int p4), .val (.long (p0.toInt64)), .second, .val (.long k), .second, .val (.long q2), .second, .val (.long (p3.toInt64)), .second, .val (.long r), .second, .val (.long (((p0.toInt64) + ((p3.toInt64) * k)) + r)), .second, .val (.ref b6), .val (.int (0 : Int32))] [(.ref b6)]) _
        refine own_go (fun _ => XS.lload X7.here hx rfl (hb hby at_101) rfl) ?_
        show own_Ends p e below T7 (mkF m 103 #[.val (.int p0), .val (.int p1), .val (.long q2), .second, .val (.int p3), .val (.int p4), .val (.long (p0.toInt64)), .second, .val (.long k), .second, .val (.long q2), .second, .val (.long (p3.toInt64)), .second, .val (.long r), .second, .val (.long (((p0.toInt64) + ((p3.toInt64) * k)) + r)), .second, .val (.ref b6), .val (.int (0 : Int32))] [(.long (((p0.toInt64) + ((p3.toInt64) * k)) + r)), (.ref b6)]) _
        obtain ⟨cq8, kq8, q8a, q8b, q8c⟩ := isOf hZ rfl A6
        obtain ⟨_, _, ⟨T8, L8, k8, n8⟩, -, X8, ⟨Lc8, hQ8, l8, y8, z8⟩, st8⟩ := X7.virtualBack hx (y := (⟨"com/example/naviglio/naviglio/storage/KeptTicks", "holds", "(J)Z"⟩ : MethodName)) (z := (⟨"com/example/naviglio/naviglio/storage/KeptTicks", "holds", "(J)Z"⟩ : MethodName)) hown (mvT hZ (hw _ (List.mem_of_getElem? (i := 21) rfl))) (mvT hZ (hw _ (List.mem_of_getElem? (i := 22) rfl))) (notFace_of_selects (args := #[]) (mvT hZ (hw _ (List.mem_of_getElem? (i := 24) rfl)))) (mvT hZ (hw _ (List.mem_of_getElem? (i := 24) rfl))) (mvT hZ (hw _ (List.mem_of_getElem? (i := 23) rfl))) (by decide) (backOf (W := 0) (rmHolds l Z a0 hw [] b6 ((((p0.toInt64) + ((p3.toInt64) * k)) + r)) ((p0.toInt64)) k q2 (T7.heap) n0 Z7 A6 F7_first F7_step F7_count (own_nz hstep)) hZ (hw _ (List.mem_of_getElem? (i := 25) rfl)) (hw _ (List.mem_of_getElem? (i := 3) rfl)) (by decide) (by decide)) q8a q8c (g := (mkF m 103 #[.val (.int p0), .val (.int p1), .val (.long q2), .second, .val (.int p3), .val (.int p4), .val (.long (p0.toInt64)), .second, .val (.long k), .second, .val (.long q2), .second, .val (.long (p3.toInt64)), .second, .val (.long r), .second, .val (.long (((p0.toInt64) + ((p3.toInt64) * k)) + r)), .second, .val (.ref b6), .val (.int (0 : Int32))] [(.long (((p0.toInt64) + ((p3.toInt64) * k)) + r)), (.ref b6)])) rfl (by rw [hml]; rfl) (Steps.refl _) (argsL := [(.long (((p0.toInt64) + ((p3.toInt64) * k)) + r))]) (rest := []) (lenOf pd_3 rfl) rfl (by show 2 * 0 + _ ≤ _; exact Nat.le_of_eq rfl) (hb hby at_103) (fun _ _ => ⟨rfl, rfl, (by decide : 1 + 0 ≤ _), (by decide : 3 + 0 ≤ _)⟩)
        dsimp only [Pt.U, Pt.locs, Pt.cells, Pt.slots] at X8 l8 y8 z8 st8 hQ8
        subst l8 y8 z8
        refine own_go (fun _ k => st8.trans k) ?_
        obtain ⟨rfl, N8q, eh8⟩ := hQ8
        have N8 := Fr.app N7 N8q
        show own_Ends p e below T8 (mkF m 106 #[.val (.int p0), .val (.int p1), .val (.long q2), .second, .val (.int p3), .val (.int p4), .val (.long (p0.toInt64)), .second, .val (.long k), .second, .val (.long q2), .second, .val (.long (p3.toInt64)), .second, .val (.long r), .second, .val (.long (((p0.toInt64) + ((p3.toInt64) * k)) + r)), .second, .val (.ref b6), .val (.int (0 : Int32))] [(.int (own_holds (p0.toInt64) k q2 (((p0.toInt64) + ((p3.toInt64) * k)) + r)))]) _
        refine own_go (fun _ => XS.iload X8.here hx rfl (hb hby at_106) rfl) ?_
        show own_Ends p e below T8 (mkF m 108 #[.val (.int p0), .val (.int p1), .val (.long q2), .second, .val (.int p3), .val (.int p4), .val (.long (p0.toInt64)), .second, .val (.long k), .second, .val (.long q2), .second, .val (.long (p3.toInt64)), .second, .val (.long r), .second, .val (.long (((p0.toInt64) + ((p3.toInt64) * k)) + r)), .second, .val (.ref b6), .val (.int (0 : Int32))] [(.int (0 : Int32)), (.int (own_holds (p0.toInt64) k q2 (((p0.toInt64) + ((p3.toInt64) * k)) + r)))]) _
        refine own_go (fun _ => XS.icmpNo X8.here hx rfl (hb hby at_108) rfl (teq (show (own_holds (p0.toInt64) k q2 (((p0.toInt64) + ((p3.toInt64) * k)) + r)) = (0 : Int32) from (own_main _ _ _ _ _ hstep hr).trans (by rw [if_pos hc74, if_pos hc81]))).2) ?_
        show own_Ends p e below T8 (mkF m 111 #[.val (.int p0), .val (.int p1), .val (.long q2), .second, .val (.int p3), .val (.int p4), .val (.long (p0.toInt64)), .second, .val (.long k), .second, .val (.long q2), .second, .val (.long (p3.toInt64)), .second, .val (.long r), .second, .val (.long (((p0.toInt64) + ((p3.toInt64) * k)) + r)), .second, .val (.ref b6), .val (.int (0 : Int32))] []) _
        refine own_go (fun _ => XS.iconst X8.here hx rfl (hb hby at_111)) ?_
        show own_Ends p e below T8 (mkF m 112 #[.val (.int p0), .val (.int p1), .val (.long q2), .second, .val (.int p3), .val (.int p4), .val (.long (p0.toInt64)), .second, .val (.long k), .second, .val (.long q2), .second, .val (.long (p3.toInt64)), .second, .val (.long r), .second, .val (.long (((p0.toInt64) + ((p3.toInt64) * k)) + r)), .second, .val (.ref b6), .val (.int (0 : Int32))] [(.int (1 : Int32))]) _
        refine own_go (fun _ => XS.goto X8.here hx rfl (pc0 := 112) (pc' := 116) rfl (hb hby at_112) (by decide) (by decide)) ?_
        show own_Ends p e below T8 (mkF m 116 #[.val (.int p0), .val (.int p1), .val (.long q2), .second, .val (.int p3), .val (.int p4), .val (.long (p0.toInt64)), .second, .val (.long k), .second, .val (.long q2), .second, .val (.long (p3.toInt64)), .second, .val (.long r), .second, .val (.long (((p0.toInt64) + ((p3.toInt64) * k)) + r)), .second, .val (.ref b6), .val (.int (0 : Int32))] [(.int (1 : Int32))]) _
        obtain ⟨fs, hr, hrun, hended, hW, hsame⟩ := X8.leave (v := some (.int (1 : Int32))) (fun h => by rw [Bd.returns] at h; cases h)
        refine ⟨_, _, retN X8 hx (t := .boolean) Bd.returns (by simp) (hb hby at_116) hr, hrun, hended, _, _, rfl, ?_, ⟨_, rfl⟩, hW, hsame.mono (by decide) (by decide)⟩
        show Q_rm0 Z p0 p1 q2 p3 p4 h0 n0 _ T8.heap _
        rw [eh8]
        exact ⟨rfl, N8⟩
      · refine own_go (fun _ => XS.ifNo X7.here hx rfl (hb hby at_81) rfl ((if0 _ _).trans (flt (fun qq_ => hc81 ((lw_lt (p3.toInt64) (0 : Int64)).mp qq_))).1)) ?_
        show own_Ends p e below T7 (mkF m 84 #[.val (.int p0), .val (.int p1), .val (.long q2), .second, .val (.int p3), .val (.int p4), .val (.long (p0.toInt64)), .second, .val (.long k), .second, .val (.long q2), .second, .val (.long (p3.toInt64)), .second, .val (.long r), .second, .val (.long (((p0.toInt64) + ((p3.toInt64) * k)) + r)), .second, .val (.ref b6), .unset] []) _
        refine own_go (fun _ => XS.lload X7.here hx rfl (hb hby at_84) rfl) ?_
        show own_Ends p e below T7 (mkF m 86 #[.val (.int p0), .val (.int p1), .val (.long q2), .second, .val (.int p3), .val (.int p4), .val (.long (p0.toInt64)), .second, .val (.long k), .second, .val (.long q2), .second, .val (.long (p3.toInt64)), .second, .val (.long r), .second, .val (.long (((p0.toInt64) + ((p3.toInt64) * k)) + r)), .second, .val (.ref b6), .unset] [(.long (p3.toInt64))]) _
        refine own_go (fun _ => XS.lload X7.here hx rfl (hb hby at_86) rfl) ?_
        show own_Ends p e below T7 (mkF m 88 #[.val (.int p0), .val (.int p1), .val (.long q2), .second, .val (.int p3), .val (.int p4), .val (.long (p0.toInt64)), .second, .val (.long k), .second, .val (.long q2), .second, .val (.long (p3.toInt64)), .second, .val (.long r), .second, .val (.long (((p0.toInt64) + ((p3.toInt64) * k)) + r)), .second, .val (.ref b6), .unset] [(.long q2), (.long (p3.toInt64))]) _
        refine own_go (fun _ => XS.lcmp X7.here hx rfl (hb hby at_88) rfl) ?_
        show own_Ends p e below T7 (mkF m 89 #[.val (.int p0), .val (.int p1), .val (.long q2), .second, .val (.int p3), .val (.int p4), .val (.long (p0.toInt64)), .second, .val (.long k), .second, .val (.long q2), .second, .val (.long (p3.toInt64)), .second, .val (.long r), .second, .val (.long (((p0.toInt64) + ((p3.toInt64) * k)) + r)), .second, .val (.ref b6), .unset] [(.int (lcmpW (p3.toInt64) q2))]) _
        by_cases hc89 : (p3.toInt64) < q2
        · refine own_go (fun _ => XS.ifNo X7.here hx rfl (hb hby at_89) rfl ((if0 _ _).trans (tlt ((lw_lt (p3.toInt64) q2).mpr hc89)).2.1)) ?_
          show own_Ends p e below T7 (mkF m 92 #[.val (.int p0), .val (.int p1), .val (.long q2), .second, .val (.int p3), .val (.int p4), .val (.long (p0.toInt64)), .second, .val (.long k), .second, .val (.long q2), .second, .val (.long (p3.toInt64)), .second, .val (.long r), .second, .val (.long (((p0.toInt64) + ((p3.toInt64) * k)) + r)), .second, .val (.ref b6), .unset] []) _
          refine own_go (fun _ => XS.iconst X7.here hx rfl (hb hby at_92)) ?_
          show own_Ends p e below T7 (mkF m 93 #[.val (.int p0), .val (.int p1), .val (.long q2), .second, .val (.int p3), .val (.int p4), .val (.long (p0.toInt64)), .second, .val (.long k), .second, .val (.long q2), .second, .val (.long (p3.toInt64)), .second, .val (.long r), .second, .val (.long (((p0.toInt64) + ((p3.toInt64) * k)) + r)), .second, .val (.ref b6), .unset] [(.int (1 : Int32))]) _
          refine own_go (fun _ => XS.goto X7.here hx rfl (pc0 := 93) (pc' := 97) rfl (hb hby at_93) (by decide) (by decide)) ?_
          show own_Ends p e below T7 (mkF m 97 #[.val (.int p0), .val (.int p1), .val (.long q2), .second, .val (.int p3), .val (.int p4), .val (.long (p0.toInt64)), .second, .val (.long k), .second, .val (.long q2), .second, .val (.long (p3.toInt64)), .second, .val (.long r), .second, .val (.long (((p0.toInt64) + ((p3.toInt64) * k)) + r)), .second, .val (.ref b6), .unset] [(.int (1 : Int32))]) _
          refine own_go (fun _ => XS.istore X7.here hx rfl (hb hby at_97) rfl (l' := #[.val (.int p0), .val (.int p1), .val (.long q2), .second, .val (.int p3), .val (.int p4), .val (.long (p0.toInt64)), .second, .val (.long k), .second, .val (.long q2), .second, .val (.long (p3.toInt64)), .second, .val (.long r), .second, .val (.long (((p0.toInt64) + ((p3.toInt64) * k)) + r)), .second, .val (.ref b6), .val (.int (1 : Int32))]) rfl) ?_
          show own_Ends p e below T7 (mkF m 99 #[.val (.int p0), .val (.int p1), .val (.long q2), .second, .val (.int p3), .val (.int p4), .val (.long (p0.toInt64)), .second, .val (.long k), .second, .val (.long q2), .second, .val (.long (p3.toInt64)), .second, .val (.long r), .second, .val (.long (((p0.toInt64) + ((p3.toInt64) * k)) + r)), .second, .val (.ref b6), .val (.int (1 : Int32))] []) _
          refine own_go (fun _ => XS.aload X7.here hx rfl (hb hby at_99) rfl rfl) ?_
          show own_Ends p e below T7 (mkF m 101 #[.val (.int p0), .val (.int p1), .val (.long q2), .second, .val (.int p3), .val (.int p4), .val (.long (p0.toInt64)), .second, .val (.long k), .second, .val (.long q2), .second, .val (.long (p3.toInt64)), .second, .val (.long r), .second, .val (.long (((p0.toInt64) + ((p3.toInt64) * k)) + r)), .second, .val (.ref b6), .val (.int (1 : Int32))] [(.ref b6)]) _
          refine own_go (fun _ => XS.lload X7.here hx rfl (hb hby at_101) rfl) ?_
          show own_Ends p e below T7 (mkF m 103 #[.val (.int p0), .val (.int p1), .val (.long q2), .second, .val (.int p3), .val (.int p4), .val (.long (p0.toInt64)), .second, .val (.long k), .second, .val (.long q2), .second, .val (.long (p3.toInt64)), .second, .val (.long r), .second, .val (.long (((p0.toInt64) + ((p3.toInt64) * k)) + r)), .second, .val (.ref b6), .val (.int (1 : Int32))] [(.long (((p0.toInt64) + ((p3.toInt64) * k)) + r)), (.ref b6)]) _
          obtain ⟨cq9, kq9, q9a, q9b, q9c⟩ := isOf hZ rfl A6
          obtain ⟨_, _, ⟨T9, L9, k9, n9⟩, -, X9, ⟨Lc9, hQ9, l9, y9, z9⟩, st9⟩ := X7.virtualBack hx (y := (⟨"com/example/naviglio/naviglio/storage/KeptTicks", "holds", "(J)Z"⟩ : MethodName)) (z := (⟨"com/example/naviglio/naviglio/storage/KeptTicks", "holds", "(J)Z"⟩ : MethodName)) hown (mvT hZ (hw _ (List.mem_of_getElem? (i := 21) rfl))) (mvT hZ (hw _ (List.mem_of_getElem? (i := 22) rfl))) (notFace_of_selects (args := #[]) (mvT hZ (hw _ (List.mem_of_getElem? (i := 24) rfl)))) (mvT hZ (hw _ (List.mem_of_getElem? (i := 24) rfl))) (mvT hZ (hw _ (List.mem_of_getElem? (i := 23) rfl))) (by decide) (backOf (W := 0) (rmHolds l Z a0 hw [] b6 ((((p0.toInt64) + ((p3.toInt64) * k)) + r)) ((p0.toInt64)) k q2 (T7.heap) n0 Z7 A6 F7_first F7_step F7_count (own_nz hstep)) hZ (hw _ (List.mem_of_getElem? (i := 25) rfl)) (hw _ (List.mem_of_getElem? (i := 3) rfl)) (by decide) (by decide)) q9a q9c (g := (mkF m 103 #[.val (.int p0), .val (.int p1), .val (.long q2), .second, .val (.int p3), .val (.int p4), .val (.long (p0.toInt64)), .second, .val (.long k), .second, .val (.long q2), .second, .val (.long (p3.toInt64)), .second, .val (.long r), .second, .val (.long (((p0.toInt64) + ((p3.toInt64) * k)) + r)), .second, .val (.ref b6), .val (.int (1 : Int32))] [(.long (((p0.toInt64) + ((p3.toInt64) * k)) + r)), (.ref b6)])) rfl (by rw [hml]; rfl) (Steps.refl _) (argsL := [(.long (((p0.toInt64) + ((p3.toInt64) * k)) + r))]) (rest := []) (lenOf pd_3 rfl) rfl (by show 2 * 0 + _ ≤ _; exact Nat.le_of_eq rfl) (hb hby at_103) (fun _ _ => ⟨rfl, rfl, (by decide : 1 + 0 ≤ _), (by decide : 3 + 0 ≤ _)⟩)
          dsimp only [Pt.U, Pt.locs, Pt.cells, Pt.slots] at X9 l9 y9 z9 st9 hQ9
          subst l9 y9 z9
          refine own_go (fun _ k => st9.trans k) ?_
          obtain ⟨rfl, N9q, eh9⟩ := hQ9
          have N9 := Fr.app N7 N9q
          show own_Ends p e below T9 (mkF m 106 #[.val (.int p0), .val (.int p1), .val (.long q2), .second, .val (.int p3), .val (.int p4), .val (.long (p0.toInt64)), .second, .val (.long k), .second, .val (.long q2), .second, .val (.long (p3.toInt64)), .second, .val (.long r), .second, .val (.long (((p0.toInt64) + ((p3.toInt64) * k)) + r)), .second, .val (.ref b6), .val (.int (1 : Int32))] [(.int (own_holds (p0.toInt64) k q2 (((p0.toInt64) + ((p3.toInt64) * k)) + r)))]) _
          refine own_go (fun _ => XS.iload X9.here hx rfl (hb hby at_106) rfl) ?_
          show own_Ends p e below T9 (mkF m 108 #[.val (.int p0), .val (.int p1), .val (.long q2), .second, .val (.int p3), .val (.int p4), .val (.long (p0.toInt64)), .second, .val (.long k), .second, .val (.long q2), .second, .val (.long (p3.toInt64)), .second, .val (.long r), .second, .val (.long (((p0.toInt64) + ((p3.toInt64) * k)) + r)), .second, .val (.ref b6), .val (.int (1 : Int32))] [(.int (1 : Int32)), (.int (own_holds (p0.toInt64) k q2 (((p0.toInt64) + ((p3.toInt64) * k)) + r)))]) _
          refine own_go (fun _ => XS.icmpNo X9.here hx rfl (hb hby at_108) rfl (teq (show (own_holds (p0.toInt64) k q2 (((p0.toInt64) + ((p3.toInt64) * k)) + r)) = (1 : Int32) from (own_main _ _ _ _ _ hstep hr).trans (by rw [if_pos hc74, if_neg hc81, if_pos hc89]))).2) ?_
          show own_Ends p e below T9 (mkF m 111 #[.val (.int p0), .val (.int p1), .val (.long q2), .second, .val (.int p3), .val (.int p4), .val (.long (p0.toInt64)), .second, .val (.long k), .second, .val (.long q2), .second, .val (.long (p3.toInt64)), .second, .val (.long r), .second, .val (.long (((p0.toInt64) + ((p3.toInt64) * k)) + r)), .second, .val (.ref b6), .val (.int (1 : Int32))] []) _
          refine own_go (fun _ => XS.iconst X9.here hx rfl (hb hby at_111)) ?_
          show own_Ends p e below T9 (mkF m 112 #[.val (.int p0), .val (.int p1), .val (.long q2), .second, .val (.int p3), .val (.int p4), .val (.long (p0.toInt64)), .second, .val (.long k), .second, .val (.long q2), .second, .val (.long (p3.toInt64)), .second, .val (.long r), .second, .val (.long (((p0.toInt64) + ((p3.toInt64) * k)) + r)), .second, .val (.ref b6), .val (.int (1 : Int32))] [(.int (1 : Int32))]) _
          refine own_go (fun _ => XS.goto X9.here hx rfl (pc0 := 112) (pc' := 116) rfl (hb hby at_112) (by decide) (by decide)) ?_
          show own_Ends p e below T9 (mkF m 116 #[.val (.int p0), .val (.int p1), .val (.long q2), .second, .val (.int p3), .val (.int p4), .val (.long (p0.toInt64)), .second, .val (.long k), .second, .val (.long q2), .second, .val (.long (p3.toInt64)), .second, .val (.long r), .second, .val (.long (((p0.toInt64) + ((p3.toInt64) * k)) + r)), .second, .val (.ref b6), .val (.int (1 : Int32))] [(.int (1 : Int32))]) _
          obtain ⟨fs, hr, hrun, hended, hW, hsame⟩ := X9.leave (v := some (.int (1 : Int32))) (fun h => by rw [Bd.returns] at h; cases h)
          refine ⟨_, _, retN X9 hx (t := .boolean) Bd.returns (by simp) (hb hby at_116) hr, hrun, hended, _, _, rfl, ?_, ⟨_, rfl⟩, hW, hsame.mono (by decide) (by decide)⟩
          show Q_rm0 Z p0 p1 q2 p3 p4 h0 n0 _ T9.heap _
          rw [eh9]
          exact ⟨rfl, N9⟩
        · refine own_go (fun _ => XS.ifYes X7.here hx rfl (pc0 := 89) (pc' := 96) rfl (hb hby at_89) rfl ((if0 _ _).trans (flt (fun qq_ => hc89 ((lw_lt (p3.toInt64) q2).mp qq_))).2.1) (by decide) (by decide)) ?_
          show own_Ends p e below T7 (mkF m 96 #[.val (.int p0), .val (.int p1), .val (.long q2), .second, .val (.int p3), .val (.int p4), .val (.long (p0.toInt64)), .second, .val (.long k), .second, .val (.long q2), .second, .val (.long (p3.toInt64)), .second, .val (.long r), .second, .val (.long (((p0.toInt64) + ((p3.toInt64) * k)) + r)), .second, .val (.ref b6), .unset] []) _
          refine own_go (fun _ => XS.iconst X7.here hx rfl (hb hby at_96)) ?_
          show own_Ends p e below T7 (mkF m 97 #[.val (.int p0), .val (.int p1), .val (.long q2), .second, .val (.int p3), .val (.int p4), .val (.long (p0.toInt64)), .second, .val (.long k), .second, .val (.long q2), .second, .val (.long (p3.toInt64)), .second, .val (.long r), .second, .val (.long (((p0.toInt64) + ((p3.toInt64) * k)) + r)), .second, .val (.ref b6), .unset] [(.int (0 : Int32))]) _
          refine own_go (fun _ => XS.istore X7.here hx rfl (hb hby at_97) rfl (l' := #[.val (.int p0), .val (.int p1), .val (.long q2), .second, .val (.int p3), .val (.int p4), .val (.long (p0.toInt64)), .second, .val (.long k), .second, .val (.long q2), .second, .val (.long (p3.toInt64)), .second, .val (.long r), .second, .val (.long (((p0.toInt64) + ((p3.toInt64) * k)) + r)), .second, .val (.ref b6), .val (.int (0 : Int32))]) rfl) ?_
          show own_Ends p e below T7 (mkF m 99 #[.val (.int p0), .val (.int p1), .val (.long q2), .second, .val (.int p3), .val (.int p4), .val (.long (p0.toInt64)), .second, .val (.long k), .second, .val (.long q2), .second, .val (.long (p3.toInt64)), .second, .val (.long r), .second, .val (.long (((p0.toInt64) + ((p3.toInt64) * k)) + r)), .second, .val (.ref b6), .val (.int (0 : Int32))] []) _
          refine own_go (fun _ => XS.aload X7.here hx rfl (hb hby at_99) rfl rfl) ?_
          show own_Ends p e below T7 (mkF m 101 #[.val (.int p0), .val (.int p1), .val (.long q2), .second, .val (.int p3), .val (.int p4), .val (.long (p0.toInt64)), .second, .val (.long k), .second, .val (.long q2), .second, .val (.long (p3.toInt64)), .second, .val (.long r), .second, .val (.long (((p0.toInt64) + ((p3.toInt64) * k)) + r)), .second, .val (.ref b6), .val (.int (0 : Int32))] [(.ref b6)]) _
          refine own_go (fun _ => XS.lload X7.here hx rfl (hb hby at_101) rfl) ?_
          show own_Ends p e below T7 (mkF m 103 #[.val (.int p0), .val (.int p1), .val (.long q2), .second, .val (.int p3), .val (.int p4), .val (.long (p0.toInt64)), .second, .val (.long k), .second, .val (.long q2), .second, .val (.long (p3.toInt64)), .second, .val (.long r), .second, .val (.long (((p0.toInt64) + ((p3.toInt64) * k)) + r)), .second, .val (.ref b6), .val (.int (0 : Int32))] [(.long (((p0.toInt64) + ((p3.toInt64) * k)) + r)), (.ref b6)]) _
          obtain ⟨cq10, kq10, q10a, q10b, q10c⟩ := isOf hZ rfl A6
          obtain ⟨_, _, ⟨T10, L10, k10, n10⟩, -, X10, ⟨Lc10, hQ10, l10, y10, z10⟩, st10⟩ := X7.virtualBack hx (y := (⟨"com/example/naviglio/naviglio/storage/KeptTicks", "holds", "(J)Z"⟩ : MethodName)) (z := (⟨"com/example/naviglio/naviglio/storage/KeptTicks", "holds", "(J)Z"⟩ : MethodName)) hown (mvT hZ (hw _ (List.mem_of_getElem? (i := 21) rfl))) (mvT hZ (hw _ (List.mem_of_getElem? (i := 22) rfl))) (notFace_of_selects (args := #[]) (mvT hZ (hw _ (List.mem_of_getElem? (i := 24) rfl)))) (mvT hZ (hw _ (List.mem_of_getElem? (i := 24) rfl))) (mvT hZ (hw _ (List.mem_of_getElem? (i := 23) rfl))) (by decide) (backOf (W := 0) (rmHolds l Z a0 hw [] b6 ((((p0.toInt64) + ((p3.toInt64) * k)) + r)) ((p0.toInt64)) k q2 (T7.heap) n0 Z7 A6 F7_first F7_step F7_count (own_nz hstep)) hZ (hw _ (List.mem_of_getElem? (i := 25) rfl)) (hw _ (List.mem_of_getElem? (i := 3) rfl)) (by decide) (by decide)) q10a q10c (g := (mkF m 103 #[.val (.int p0), .val (.int p1), .val (.long q2), .second, .val (.int p3), .val (.int p4), .val (.long (p0.toInt64)), .second, .val (.long k), .second, .val (.long q2), .second, .val (.long (p3.toInt64)), .second, .val (.long r), .second, .val (.long (((p0.toInt64) + ((p3.toInt64) * k)) + r)), .second, .val (.ref b6), .val (.int (0 : Int32))] [(.long (((p0.toInt64) + ((p3.toInt64) * k)) + r)), (.ref b6)])) rfl (by rw [hml]; rfl) (Steps.refl _) (argsL := [(.long (((p0.toInt64) + ((p3.toInt64) * k)) + r))]) (rest := []) (lenOf pd_3 rfl) rfl (by show 2 * 0 + _ ≤ _; exact Nat.le_of_eq rfl) (hb hby at_103) (fun _ _ => ⟨rfl, rfl, (by decide : 1 + 0 ≤ _), (by decide : 3 + 0 ≤ _)⟩)
          dsimp only [Pt.U, Pt.locs, Pt.cells, Pt.slots] at X10 l10 y10 z10 st10 hQ10
          subst l10 y10 z10
          refine own_go (fun _ k => st10.trans k) ?_
          obtain ⟨rfl, N10q, eh10⟩ := hQ10
          have N10 := Fr.app N7 N10q
          show own_Ends p e below T10 (mkF m 106 #[.val (.int p0), .val (.int p1), .val (.long q2), .second, .val (.int p3), .val (.int p4), .val (.long (p0.toInt64)), .second, .val (.long k), .second, .val (.long q2), .second, .val (.long (p3.toInt64)), .second, .val (.long r), .second, .val (.long (((p0.toInt64) + ((p3.toInt64) * k)) + r)), .second, .val (.ref b6), .val (.int (0 : Int32))] [(.int (own_holds (p0.toInt64) k q2 (((p0.toInt64) + ((p3.toInt64) * k)) + r)))]) _
          refine own_go (fun _ => XS.iload X10.here hx rfl (hb hby at_106) rfl) ?_
          show own_Ends p e below T10 (mkF m 108 #[.val (.int p0), .val (.int p1), .val (.long q2), .second, .val (.int p3), .val (.int p4), .val (.long (p0.toInt64)), .second, .val (.long k), .second, .val (.long q2), .second, .val (.long (p3.toInt64)), .second, .val (.long r), .second, .val (.long (((p0.toInt64) + ((p3.toInt64) * k)) + r)), .second, .val (.ref b6), .val (.int (0 : Int32))] [(.int (0 : Int32)), (.int (own_holds (p0.toInt64) k q2 (((p0.toInt64) + ((p3.toInt64) * k)) + r)))]) _
          refine own_go (fun _ => XS.icmpNo X10.here hx rfl (hb hby at_108) rfl (teq (show (own_holds (p0.toInt64) k q2 (((p0.toInt64) + ((p3.toInt64) * k)) + r)) = (0 : Int32) from (own_main _ _ _ _ _ hstep hr).trans (by rw [if_pos hc74, if_neg hc81, if_neg hc89]))).2) ?_
          show own_Ends p e below T10 (mkF m 111 #[.val (.int p0), .val (.int p1), .val (.long q2), .second, .val (.int p3), .val (.int p4), .val (.long (p0.toInt64)), .second, .val (.long k), .second, .val (.long q2), .second, .val (.long (p3.toInt64)), .second, .val (.long r), .second, .val (.long (((p0.toInt64) + ((p3.toInt64) * k)) + r)), .second, .val (.ref b6), .val (.int (0 : Int32))] []) _
          refine own_go (fun _ => XS.iconst X10.here hx rfl (hb hby at_111)) ?_
          show own_Ends p e below T10 (mkF m 112 #[.val (.int p0), .val (.int p1), .val (.long q2), .second, .val (.int p3), .val (.int p4), .val (.long (p0.toInt64)), .second, .val (.long k), .second, .val (.long q2), .second, .val (.long (p3.toInt64)), .second, .val (.long r), .second, .val (.long (((p0.toInt64) + ((p3.toInt64) * k)) + r)), .second, .val (.ref b6), .val (.int (0 : Int32))] [(.int (1 : Int32))]) _
          refine own_go (fun _ => XS.goto X10.here hx rfl (pc0 := 112) (pc' := 116) rfl (hb hby at_112) (by decide) (by decide)) ?_
          show own_Ends p e below T10 (mkF m 116 #[.val (.int p0), .val (.int p1), .val (.long q2), .second, .val (.int p3), .val (.int p4), .val (.long (p0.toInt64)), .second, .val (.long k), .second, .val (.long q2), .second, .val (.long (p3.toInt64)), .second, .val (.long r), .second, .val (.long (((p0.toInt64) + ((p3.toInt64) * k)) + r)), .second, .val (.ref b6), .val (.int (0 : Int32))] [(.int (1 : Int32))]) _
          obtain ⟨fs, hr, hrun, hended, hW, hsame⟩ := X10.leave (v := some (.int (1 : Int32))) (fun h => by rw [Bd.returns] at h; cases h)
          refine ⟨_, _, retN X10 hx (t := .boolean) Bd.returns (by simp) (hb hby at_116) hr, hrun, hended, _, _, rfl, ?_, ⟨_, rfl⟩, hW, hsame.mono (by decide) (by decide)⟩
          show Q_rm0 Z p0 p1 q2 p3 p4 h0 n0 _ T10.heap _
          rw [eh10]
          exact ⟨rfl, N10⟩
    · refine own_go (fun _ => XS.ifYes X7.here hx rfl (pc0 := 74) (pc' := 96) rfl (hb hby at_74) rfl ((if0 _ _).trans (feq (fun qq_ => hc74 ((lw_eq r (0 : Int64)).mp qq_))).2) (by decide) (by decide)) ?_
      show own_Ends p e below T7 (mkF m 96 #[.val (.int p0), .val (.int p1), .val (.long q2), .second, .val (.int p3), .val (.int p4), .val (.long (p0.toInt64)), .second, .val (.long k), .second, .val (.long q2), .second, .val (.long (p3.toInt64)), .second, .val (.long r), .second, .val (.long (((p0.toInt64) + ((p3.toInt64) * k)) + r)), .second, .val (.ref b6), .unset] []) _
      refine own_go (fun _ => XS.iconst X7.here hx rfl (hb hby at_96)) ?_
      show own_Ends p e below T7 (mkF m 97 #[.val (.int p0), .val (.int p1), .val (.long q2), .second, .val (.int p3), .val (.int p4), .val (.long (p0.toInt64)), .second, .val (.long k), .second, .val (.long q2), .second, .val (.long (p3.toInt64)), .second, .val (.long r), .second, .val (.long (((p0.toInt64) + ((p3.toInt64) * k)) + r)), .second, .val (.ref b6), .unset] [(.int (0 : Int32))]) _
      refine own_go (fun _ => XS.istore X7.here hx rfl (hb hby at_97) rfl (l' := #[.val (.int p0), .val (.int p1), .val (.long q2), .second, .val (.int p3), .val (.int p4), .val (.long (p0.toInt64)), .second, .val (.long k), .second, .val (.long q2), .second, .val (.long (p3.toInt64)), .second, .val (.long r), .second, .val (.long (((p0.toInt64) + ((p3.toInt64) * k)) + r)), .second, .val (.ref b6), .val (.int (0 : Int32))]) rfl) ?_
      show own_Ends p e below T7 (mkF m 99 #[.val (.int p0), .val (.int p1), .val (.long q2), .second, .val (.int p3), .val (.int p4), .val (.long (p0.toInt64)), .second, .val (.long k), .second, .val (.long q2), .second, .val (.long (p3.toInt64)), .second, .val (.long r), .second, .val (.long (((p0.toInt64) + ((p3.toInt64) * k)) + r)), .second, .val (.ref b6), .val (.int (0 : Int32))] []) _
      refine own_go (fun _ => XS.aload X7.here hx rfl (hb hby at_99) rfl rfl) ?_
      show own_Ends p e below T7 (mkF m 101 #[.val (.int p0), .val (.int p1), .val (.long q2), .second, .val (.int p3), .val (.int p4), .val (.long (p0.toInt64)), .second, .val (.long k), .second, .val (.long q2), .second, .val (.long (p3.toInt64)), .second, .val (.long r), .second, .val (.long (((p0.toInt64) + ((p3.toInt64) * k)) + r)), .second, .val (.ref b6), .val (.int (0 : Int32))] [(.ref b6)]) _
      refine own_go (fun _ => XS.lload X7.here hx rfl (hb hby at_101) rfl) ?_
      show own_Ends p e below T7 (mkF m 103 #[.val (.int p0), .val (.int p1), .val (.long q2), .second, .val (.int p3), .val (.int p4), .val (.long (p0.toInt64)), .second, .val (.long k), .second, .val (.long q2), .second, .val (.long (p3.toInt64)), .second, .val (.long r), .second, .val (.long (((p0.toInt64) + ((p3.toInt64) * k)) + r)), .second, .val (.ref b6), .val (.int (0 : Int32))] [(.long (((p0.toInt64) + ((p3.toInt64) * k)) + r)), (.ref b6)]) _
      obtain ⟨cq11, kq11, q11a, q11b, q11c⟩ := isOf hZ rfl A6
      obtain ⟨_, _, ⟨T11, L11, k11, n11⟩, -, X11, ⟨Lc11, hQ11, l11, y11, z11⟩, st11⟩ := X7.virtualBack hx (y := (⟨"com/example/naviglio/naviglio/storage/KeptTicks", "holds", "(J)Z"⟩ : MethodName)) (z := (⟨"com/example/naviglio/naviglio/storage/KeptTicks", "holds", "(J)Z"⟩ : MethodName)) hown (mvT hZ (hw _ (List.mem_of_getElem? (i := 21) rfl))) (mvT hZ (hw _ (List.mem_of_getElem? (i := 22) rfl))) (notFace_of_selects (args := #[]) (mvT hZ (hw _ (List.mem_of_getElem? (i := 24) rfl)))) (mvT hZ (hw _ (List.mem_of_getElem? (i := 24) rfl))) (mvT hZ (hw _ (List.mem_of_getElem? (i := 23) rfl))) (by decide) (backOf (W := 0) (rmHolds l Z a0 hw [] b6 ((((p0.toInt64) + ((p3.toInt64) * k)) + r)) ((p0.toInt64)) k q2 (T7.heap) n0 Z7 A6 F7_first F7_step F7_count (own_nz hstep)) hZ (hw _ (List.mem_of_getElem? (i := 25) rfl)) (hw _ (List.mem_of_getElem? (i := 3) rfl)) (by decide) (by decide)) q11a q11c (g := (mkF m 103 #[.val (.int p0), .val (.int p1), .val (.long q2), .second, .val (.int p3), .val (.int p4), .val (.long (p0.toInt64)), .second, .val (.long k), .second, .val (.long q2), .second, .val (.long (p3.toInt64)), .second, .val (.long r), .second, .val (.long (((p0.toInt64) + ((p3.toInt64) * k)) + r)), .second, .val (.ref b6), .val (.int (0 : Int32))] [(.long (((p0.toInt64) + ((p3.toInt64) * k)) + r)), (.ref b6)])) rfl (by rw [hml]; rfl) (Steps.refl _) (argsL := [(.long (((p0.toInt64) + ((p3.toInt64) * k)) + r))]) (rest := []) (lenOf pd_3 rfl) rfl (by show 2 * 0 + _ ≤ _; exact Nat.le_of_eq rfl) (hb hby at_103) (fun _ _ => ⟨rfl, rfl, (by decide : 1 + 0 ≤ _), (by decide : 3 + 0 ≤ _)⟩)
      dsimp only [Pt.U, Pt.locs, Pt.cells, Pt.slots] at X11 l11 y11 z11 st11 hQ11
      subst l11 y11 z11
      refine own_go (fun _ k => st11.trans k) ?_
      obtain ⟨rfl, N11q, eh11⟩ := hQ11
      have N11 := Fr.app N7 N11q
      show own_Ends p e below T11 (mkF m 106 #[.val (.int p0), .val (.int p1), .val (.long q2), .second, .val (.int p3), .val (.int p4), .val (.long (p0.toInt64)), .second, .val (.long k), .second, .val (.long q2), .second, .val (.long (p3.toInt64)), .second, .val (.long r), .second, .val (.long (((p0.toInt64) + ((p3.toInt64) * k)) + r)), .second, .val (.ref b6), .val (.int (0 : Int32))] [(.int (own_holds (p0.toInt64) k q2 (((p0.toInt64) + ((p3.toInt64) * k)) + r)))]) _
      refine own_go (fun _ => XS.iload X11.here hx rfl (hb hby at_106) rfl) ?_
      show own_Ends p e below T11 (mkF m 108 #[.val (.int p0), .val (.int p1), .val (.long q2), .second, .val (.int p3), .val (.int p4), .val (.long (p0.toInt64)), .second, .val (.long k), .second, .val (.long q2), .second, .val (.long (p3.toInt64)), .second, .val (.long r), .second, .val (.long (((p0.toInt64) + ((p3.toInt64) * k)) + r)), .second, .val (.ref b6), .val (.int (0 : Int32))] [(.int (0 : Int32)), (.int (own_holds (p0.toInt64) k q2 (((p0.toInt64) + ((p3.toInt64) * k)) + r)))]) _
      refine own_go (fun _ => XS.icmpNo X11.here hx rfl (hb hby at_108) rfl (teq (show (own_holds (p0.toInt64) k q2 (((p0.toInt64) + ((p3.toInt64) * k)) + r)) = (0 : Int32) from (own_main _ _ _ _ _ hstep hr).trans (by rw [if_neg hc74]))).2) ?_
      show own_Ends p e below T11 (mkF m 111 #[.val (.int p0), .val (.int p1), .val (.long q2), .second, .val (.int p3), .val (.int p4), .val (.long (p0.toInt64)), .second, .val (.long k), .second, .val (.long q2), .second, .val (.long (p3.toInt64)), .second, .val (.long r), .second, .val (.long (((p0.toInt64) + ((p3.toInt64) * k)) + r)), .second, .val (.ref b6), .val (.int (0 : Int32))] []) _
      refine own_go (fun _ => XS.iconst X11.here hx rfl (hb hby at_111)) ?_
      show own_Ends p e below T11 (mkF m 112 #[.val (.int p0), .val (.int p1), .val (.long q2), .second, .val (.int p3), .val (.int p4), .val (.long (p0.toInt64)), .second, .val (.long k), .second, .val (.long q2), .second, .val (.long (p3.toInt64)), .second, .val (.long r), .second, .val (.long (((p0.toInt64) + ((p3.toInt64) * k)) + r)), .second, .val (.ref b6), .val (.int (0 : Int32))] [(.int (1 : Int32))]) _
      refine own_go (fun _ => XS.goto X11.here hx rfl (pc0 := 112) (pc' := 116) rfl (hb hby at_112) (by decide) (by decide)) ?_
      show own_Ends p e below T11 (mkF m 116 #[.val (.int p0), .val (.int p1), .val (.long q2), .second, .val (.int p3), .val (.int p4), .val (.long (p0.toInt64)), .second, .val (.long k), .second, .val (.long q2), .second, .val (.long (p3.toInt64)), .second, .val (.long r), .second, .val (.long (((p0.toInt64) + ((p3.toInt64) * k)) + r)), .second, .val (.ref b6), .val (.int (0 : Int32))] [(.int (1 : Int32))]) _
      obtain ⟨fs, hr, hrun, hended, hW, hsame⟩ := X11.leave (v := some (.int (1 : Int32))) (fun h => by rw [Bd.returns] at h; cases h)
      refine ⟨_, _, retN X11 hx (t := .boolean) Bd.returns (by simp) (hb hby at_116) hr, hrun, hended, _, _, rfl, ?_, ⟨_, rfl⟩, hW, hsame.mono (by decide) (by decide)⟩
      show Q_rm0 Z p0 p1 q2 p3 p4 h0 n0 _ T11.heap _
      rw [eh11]
      exact ⟨rfl, N11⟩
set_option maxRecDepth 65536 in
set_option maxHeartbeats 40000000 in
theorem comes_1 {Post : Tables → Env → Array Value → State → Outcome → State → Prop} (hpost : ∀ tb e args s v u, (limb_1_1.after args s (.returned v) u = true ∧ limb_1_2.after args s (.returned v) u = true ∧ True) → FrameEnd s (.returned v) u (Jvm.fieldLocs frame_1_writes args s ++ Jvm.arrayLocs frame_1_arrays args s ++ Jvm.staticLocs frame_1_statics s) 16 128 → Post tb e args s (.returned v) u) :
    ArmFor flags0 classFile x code maxLocals ret World_1 tables_1 room_1 Calls_1 rest_1 Pre_1 Post := by
  intro l hfl _ _ p e ha hc hk s m args below hf hA hF happ hP
  obtain ⟨hcalls, hrest, hpre⟩ := hP
  obtain ⟨-, -, -, hnamed, -, -, -, hat⟩ := (Spec.applies_iff hf).mp happ
  obtain ⟨hg, hn⟩ := and_e (Cond.before_iff.mp (show (Jvm.Cond.and given_1 narrow_1).before args s = true from hpre))
  obtain ⟨gv1, gv2⟩ := and_e hg
  obtain ⟨gv3, gv4⟩ := and_e gv2
  obtain ⟨gv5, gv6⟩ := and_e gv4
  obtain ⟨gv7, gv8⟩ := and_e gv6
  obtain ⟨gv9, gv10⟩ := and_e gv8
  obtain ⟨w0, w1, w2, w3, w4, rfl⟩ : ∃ w0 w1 w2 w3 w4 : Value, args = #[w0, w1, w2, w3, w4] := by
    have hs : args.size = 5 := by simpa [Cond.value, given_1] using gv1
    obtain ⟨L⟩ := args
    match L, hs with
    | [w0, w1, w2, w3, w4], _ => exact ⟨w0, w1, w2, w3, w4, rfl⟩
  have hw := fun d (hd : d ∈ tables_1) => atoms_spec (ws := Jvm.Cond.code x code maxLocals ret :: tables_1) hat d (List.mem_cons_of_mem _ hd)
  obtain ⟨i0, ei0⟩ := is_v gv3
  obtain rfl : w0 = (.int i0) := Option.some.inj ei0
  obtain ⟨i1, ei1⟩ := is_v gv5
  obtain rfl : w1 = (.int i1) := Option.some.inj ei1
  obtain ⟨i2, ei2⟩ := isL_v gv7
  obtain rfl : w2 = (.long i2) := Option.some.inj ei2
  obtain ⟨i3, ei3⟩ := is_v gv9
  obtain rfl : w3 = (.int i3) := Option.some.inj ei3
  obtain ⟨i4, ei4⟩ := is_v gv10
  obtain rfl : w4 = (.int i4) := Option.some.inj ei4
  obtain ⟨n, o, h1, h2, h3, _, L, rfl, ⟨rfl, N⟩, hq⟩ := rm0 l s _ hw tables_1 i0 i1 i2 i3 i4 s.heap s.heap.size (Nat.le_refl _) p e ha hc hk s m _ below hf ((Spec.applies_iff_loose hf).mp happ).1 ⟨rfl, State.Warmed39.refl s, rfl⟩ trivial
  refine ⟨n, _, h1, h2, h3, hpost _ _ _ _ _ _ ⟨Cond.after_iff.mpr rfl, Cond.after_iff.mpr (eq_i res_at (Term.int_eval (1)) rfl), trivial⟩ ⟨hq.1, hq.2.1, (hq.2.2.sift fun y hy => Or.inr (N y hy)).mono (by decide) (by decide)⟩⟩
theorem main_1_1 : Claimed_1_1 := comes_1 fun _ _ _ _ _ _ h hF => ⟨h.1, hF⟩
theorem main_1_2 : Claimed_1_2 := comes_1 fun _ _ _ _ _ _ h hF => ⟨h.2.1, hF⟩
end Jvm.Pilot.@@N@@
namespace Jvm.Pilot.@@N@@
open Jvm Jvm.ClassFile Sem Op Lib Jvm.Free Jvm.Stand Jvm.Pilot.@@N@@.Jvm.D
/-! MADE BY PROGRAM (witnessworld.py) out of the Statement's table words and the real class files: 10 classes; the members and pool entries that the words name. The judged class is class 1, her method 1. -/
namespace start1
open Jvm.ClassFile
def u (s : String) : CpInfo := .utf8 (stringToUtf16 s)
/-- a pool by its gaps: so many unusable entries, then the entry; so many at the end -/
def gap : Nat → List CpInfo → List CpInfo
  | 0, r => r
  | n + 1, r => .unusable :: gap n r
def poolList (es : List (Nat × CpInfo)) (last : Nat) : List CpInfo := es.foldr (fun e r => gap e.1 (e.2 :: r)) (gap last [])
def pool (es : List (Nat × CpInfo)) (last : Nat) : Array CpInfo := ⟨poolList es last⟩
def fileOf (pool : Array CpInfo) (this : Nat) (attrs : Array Attribute := #[]) (ms : Array MethodInfo := #[]) (fl : Nat := 33) (sup : Nat := 0) (ifs : Array Nat := #[]) (fds : Array FieldInfo := #[]) : ClassFile where
  minorVersion := 0
  majorVersion := 65
  constantPool := pool
  accessFlags := fl
  thisClass := this
  superClass := sup
  interfaces := ifs
  fields := fds
  methods := ms
  attributes := attrs
def plain (name : String) (sup : Option ClassId) : Class where
  name := name
  kind := .ordinary
  loader := none
  accessFlags := 33
  super := sup
  interfaces := #[]
  cf := none
  fields := #[]
  methods := #[]
  instanceTypes := #[]
  staticTypes := #[]
  resolved := #[]
  callSites := []
  init := .initialized
  statics := none
  mirror := none

def pool0 : Array CpInfo := pool [(5, u "<init>"), (0, u "()V"), (1, .class_ 10), (1, u "java/lang/Object")] 113

def k0c0 : Code := { maxStack := 0, maxLocals := 1, code := object_method_1_code, exceptionTable := #[], attributes := #[] }
def k0m0 : Method := { name := "<init>", desc := "()V", sig := { parameters := [], returnType := none }, accessFlags := 1, code := some k0c0 }
/-- java/lang/Object -/
def k0 : Class := { plain "java/lang/Object" none with
  accessFlags := 33
  interfaces := #[]
  cf := some (fileOf pool0 8 #[] #[{ accessFlags := 1, nameIndex := 5, descriptorIndex := 6, attributes := #[] }] 33 0 #[] #[])
  fields := #[]
  methods := #[k0m0]
  instanceTypes := #[]
  staticTypes := #[]
  resolved := Array.replicate 124 none
  statics := none }

def pool1 : Array CpInfo := pool [(2, .class_ 4), (1, u "java/lang/Object"), (0, u "<init>"), (0, u "()V"), (0, .integer 2147483647), (0, .class_ 9), (0, u "com/example/naviglio/naviglio/storage/KeptTicks"), (0, .methodref 8 11), (0, .nameAndType 5 12), (0, u "(JJJ)V"), (0, .methodref 8 14), (0, .nameAndType 15 16), (0, u "holds"), (0, u "(J)Z"), (0, .class_ 18), (0, u "com/example/naviglio/naviglio/storage/KeptTicksHoldsPinLaw"), (2, u "law"), (0, u "(IIJII)Z")] 3

def k1m0 : Method := { name := "<init>", desc := "()V", sig := { parameters := [], returnType := none }, accessFlags := 1, code := none }
def k1c1 : Code := { maxStack := 8, maxLocals := 20, code := code, exceptionTable := #[], attributes := #[] }
def k1m1 : Method := { name := "law", desc := "(IIJII)Z", sig := { parameters := [.int, .int, .long, .int, .int], returnType := some .boolean }, accessFlags := 9, code := some k1c1 }
/-- com/example/naviglio/naviglio/storage/KeptTicksHoldsPinLaw -/
def k1 : Class := { plain "com/example/naviglio/naviglio/storage/KeptTicksHoldsPinLaw" (some 0) with
  accessFlags := 49
  interfaces := #[]
  cf := some (fileOf pool1 17 #[] #[{ accessFlags := 1, nameIndex := 5, descriptorIndex := 6, attributes := #[] }, { accessFlags := 9, nameIndex := 21, descriptorIndex := 22, attributes := #[] }] 49 2 #[] #[])
  fields := #[]
  methods := #[k1m0, k1m1]
  instanceTypes := #[]
  staticTypes := #[]
  resolved := Array.replicate 26 none
  statics := none }

def pool2 : Array CpInfo := pool [(1, .methodref 2 3), (0, .class_ 4), (0, .nameAndType 5 6), (0, u "java/lang/Object"), (0, u "<init>"), (0, u "()V"), (0, .class_ 8), (0, u "java/lang/Record")] 13

def k2c0 : Code := { maxStack := 1, maxLocals := 1, code := jdk_30_method_1_code, exceptionTable := #[], attributes := #[] }
def k2m0 : Method := { name := "<init>", desc := "()V", sig := { parameters := [], returnType := none }, accessFlags := 4, code := some k2c0 }
/-- java/lang/Record -/
def k2 : Class := { plain "java/lang/Record" (some 0) with
  accessFlags := 1057
  interfaces := #[]
  cf := some (fileOf pool2 7 #[] #[{ accessFlags := 4, nameIndex := 5, descriptorIndex := 6, attributes := #[] }] 1057 2 #[] #[])
  fields := #[]
  methods := #[k2m0]
  instanceTypes := #[]
  staticTypes := #[]
  resolved := Array.replicate 22 none
  statics := none }

def pool3 : Array CpInfo := pool [(1, .methodref 2 3), (0, .class_ 4), (0, .nameAndType 5 6), (0, u "java/lang/Record"), (0, u "<init>"), (0, u "()V"), (0, .fieldref 8 9), (0, .class_ 10), (0, .nameAndType 11 12), (0, u "com/example/naviglio/naviglio/storage/KeptTicks"), (0, u "first"), (0, u "J"), (0, .fieldref 8 14), (0, .nameAndType 15 12), (0, u "step"), (0, .fieldref 8 17), (0, .nameAndType 18 12), (0, u "count"), (0, .methodref 8 20), (0, .nameAndType 21 22), (0, u "position"), (0, u "(J)J"), (12, u "(JJJ)V"), (4, u "holds"), (0, u "(J)Z")] 27

def k3c0 : Code := { maxStack := 3, maxLocals := 7, code := prog_20_method_1_code, exceptionTable := #[], attributes := #[] }
def k3m0 : Method := { name := "<init>", desc := "(JJJ)V", sig := { parameters := [.long, .long, .long], returnType := none }, accessFlags := 1, code := some k3c0 }
def k3c1 : Code := { maxStack := 4, maxLocals := 3, code := prog_20_method_3_code, exceptionTable := #[], attributes := #[] }
def k3m1 : Method := { name := "position", desc := "(J)J", sig := { parameters := [.long], returnType := some .long }, accessFlags := 1, code := some k3c1 }
def k3c2 : Code := { maxStack := 4, maxLocals := 3, code := prog_20_method_4_code, exceptionTable := #[], attributes := #[] }
def k3m2 : Method := { name := "holds", desc := "(J)Z", sig := { parameters := [.long], returnType := some .boolean }, accessFlags := 1, code := some k3c2 }
/-- com/example/naviglio/naviglio/storage/KeptTicks -/
def k3 : Class := { plain "com/example/naviglio/naviglio/storage/KeptTicks" (some 2) with
  accessFlags := 49
  interfaces := #[]
  cf := some (fileOf pool3 8 #[] #[{ accessFlags := 1, nameIndex := 5, descriptorIndex := 35, attributes := #[] }, { accessFlags := 1, nameIndex := 21, descriptorIndex := 22, attributes := #[] }, { accessFlags := 1, nameIndex := 40, descriptorIndex := 41, attributes := #[] }] 49 2 #[] #[{ accessFlags := 18, nameIndex := 11, descriptorIndex := 12, attributes := #[] }, { accessFlags := 18, nameIndex := 15, descriptorIndex := 12, attributes := #[] }, { accessFlags := 18, nameIndex := 18, descriptorIndex := 12, attributes := #[] }])
  fields := #[{ name := "first", type := .long, accessFlags := 18, slot := 0, constantValue := 0 }, { name := "step", type := .long, accessFlags := 18, slot := 1, constantValue := 0 }, { name := "count", type := .long, accessFlags := 18, slot := 2, constantValue := 0 }]
  methods := #[k3m0, k3m1, k3m2]
  instanceTypes := #[.long, .long, .long]
  staticTypes := #[]
  resolved := Array.replicate 69 none
  statics := none }

def pool4 : Array CpInfo := pool [(1, u "java/lang/Cloneable"), (0, .class_ 1), (0, u "java/lang/Object"), (0, .class_ 3)] 3

/-- java/lang/Cloneable -/
def k4 : Class := { plain "java/lang/Cloneable" (some 0) with
  accessFlags := 1537
  interfaces := #[]
  cf := some (fileOf pool4 2 #[] #[] 1537 4 #[] #[])
  fields := #[]
  methods := #[]
  instanceTypes := #[]
  staticTypes := #[]
  resolved := Array.replicate 8 none
  statics := none }

def pool5 : Array CpInfo := pool [(1, u "java/io/Serializable"), (0, .class_ 1), (0, u "java/lang/Object"), (0, .class_ 3)] 3

/-- java/io/Serializable -/
def k5 : Class := { plain "java/io/Serializable" (some 0) with
  accessFlags := 1537
  interfaces := #[]
  cf := some (fileOf pool5 2 #[] #[] 1537 4 #[] #[])
  fields := #[]
  methods := #[]
  instanceTypes := #[]
  staticTypes := #[]
  resolved := Array.replicate 8 none
  statics := none }

/-- the primitive byte -/
def k6 : Class := { plain "byte" none with kind := .primitive 'B', accessFlags := 0x411 }
/-- [B -/
def k7 : Class := { plain "[B" (some 0) with kind := .array 6 .byte, interfaces := #[4, 5], accessFlags := 1041 }

/-- the primitive int -/
def k8 : Class := { plain "int" none with kind := .primitive 'I', accessFlags := 0x411 }
/-- [I -/
def k9 : Class := { plain "[I" (some 0) with kind := .array 8 .int, interfaces := #[4, 5], accessFlags := 1041 }

def heap : Heap := #[]
def classes : Array Class := #[k0, k1, k2, k3, k4, k5, k6, k7, k8, k9]
def interned : List (Array UInt16 × Addr) := []
def slotsUsed : Nat := 0
def theMethod : MethodId := ⟨1, 1⟩
def args0 : Array Value := #[.int 5, .int 7, .long 3, .int 4, .int 9]
def aboutOver (below : List Frame) : State where
  vm := { classes := classes, interned := interned.toArray }
  heap := heap
  slotsUsed := slotsUsed
  threads := #[{ frames := .invoking theMethod args0 :: below }]
def below0 : List Frame := [.native { method := ⟨0, 0⟩, args := #[] }]
def about1 : State := aboutOver below0
def p0 : Program := .bare "" "" ""
def e0 : Env := launch0.env 0 0 0
theorem w_frames : about1.frames = Frame.invoking theMethod args0 :: below0 := rfl
set_option maxRecDepth 65536 in
theorem w_args : argsFit about1.vm theMethod args0 = true := by decide +kernel
set_option maxRecDepth 65536 in
theorem w_heap : heapFits about1 = true := by decide +kernel
set_option maxRecDepth 65536 in
theorem w_runnable : about1.curStatus? = some .runnable := by decide +kernel
set_option maxRecDepth 65536 in
theorem w_alone : about1.alone = true := by decide +kernel
set_option maxRecDepth 65536 in
theorem w_named : about1.methodNamed? x = some theMethod := by decide +kernel
set_option maxRecDepth 65536 in
theorem w_hears : about1.hears theMethod below0 = true := by decide +kernel
set_option maxRecDepth 65536 in
theorem w_ripe : about1.ripe theMethod args0 below0 = true := by decide +kernel
theorem w_running : about1.status = .running := rfl
set_option maxRecDepth 65536 in
theorem w_room : about1.hasRoom e0.platform room_1 = true :=
  launch0.hasRoom_least _ room_1 (by decide +kernel) (by decide +kernel) (by decide +kernel) (by decide +kernel) (by decide +kernel) (by decide +kernel)
theorem allAtoms_all (ts : List Jvm.Cond) (a : Array Jvm.Value) (st : Jvm.State) : (allAtoms ts).before a st = ts.all (fun c => c.before a st) := by
  induction ts with
  | nil => rfl
  | cons c t ih =>
    show (Jvm.Cond.and c (allAtoms t)).before a st = _
    rw [Jvm.Cond.before_and, ih, List.all_cons]
def words1 : List Jvm.Cond := Jvm.Cond.code x code maxLocals ret :: tables_1
/-- a 'code' word, met by the world's own term for the bytes: nothing is compared byte by byte -/
theorem code_word {y : MethodName} {bytes : ByteArray} {mx : Nat} {rt : Option FieldType} {a : Array Value} {s : State} {m : MethodId} {meth : Method} {c : Code} (h1 : s.methodNamed? y = some m) (h2 : s.vm.method? m = some meth) (h3 : meth.code = some c) (h4 : c.code = bytes)
    (h5 : (c.maxLocals == mx && c.exceptionTable.isEmpty && decide (c.maxStack ≤ mostOperands) && decide (meth.sig.returnType = rt) && !meth.locks && decide (parseMethodDescriptor y.desc = some meth.sig)) = true) : (Jvm.Cond.code y bytes mx rt).before a s = true := by
  simp only [Bool.and_eq_true, beq_iff_eq, Bool.not_eq_true', decide_eq_true_eq] at h5
  obtain ⟨⟨⟨⟨⟨g1, g2⟩, g3⟩, g4⟩, g5⟩, g6⟩ := h5
  simp [Cond.before, Cond.holds, Cond.value, h1, h2, h3, h4, g1, g2, g3, g4, g5, g6]
def isCode : Jvm.Cond → Bool
  | .code _ _ _ _ => true
  | _ => false
theorem all_split {L : List Jvm.Cond} {P : Jvm.Cond → Bool} (h1 : L.all (fun c => isCode c || P c) = true) (h2 : ∀ c ∈ L.filter isCode, P c = true) : L.all P = true := by
  refine List.all_eq_true.mpr fun c hc => ?_
  have h := List.all_eq_true.mp h1 c hc
  rcases Bool.eq_false_or_eq_true (isCode c) with hi | hi
  · exact h2 c (List.mem_filter.mpr ⟨hc, hi⟩)
  · simpa [hi] using h
set_option maxRecDepth 65536 in
theorem w_c0 : (Jvm.Cond.code x code maxLocals ret).before args0 about1 = true := code_word (m := ⟨1, 1⟩) (meth := k1m1) (c := k1c1) (by decide +kernel) rfl rfl rfl (by decide +kernel)
set_option maxRecDepth 65536 in
theorem w_c1 : (Jvm.Cond.code ({ cls := "com/example/naviglio/naviglio/storage/KeptTicks", name := "<init>", desc := "(JJJ)V" } : Jvm.MethodName) prog_20_method_1_code (7 : Nat) (Option.none : Option Jvm.ClassFile.FieldType)).before args0 about1 = true := code_word (m := ⟨3, 0⟩) (meth := k3m0) (c := k3c0) (by decide +kernel) rfl rfl rfl (by decide +kernel)
set_option maxRecDepth 65536 in
theorem w_c2 : (Jvm.Cond.code ({ cls := "java/lang/Record", name := "<init>", desc := "()V" } : Jvm.MethodName) jdk_30_method_1_code (1 : Nat) (Option.none : Option Jvm.ClassFile.FieldType)).before args0 about1 = true := code_word (m := ⟨2, 0⟩) (meth := k2m0) (c := k2c0) (by decide +kernel) rfl rfl rfl (by decide +kernel)
set_option maxRecDepth 65536 in
theorem w_c3 : (Jvm.Cond.code ({ cls := "java/lang/Object", name := "<init>", desc := "()V" } : Jvm.MethodName) object_method_1_code (1 : Nat) (Option.none : Option Jvm.ClassFile.FieldType)).before args0 about1 = true := code_word (m := ⟨0, 0⟩) (meth := k0m0) (c := k0c0) (by decide +kernel) rfl rfl rfl (by decide +kernel)
set_option maxRecDepth 65536 in
theorem w_c4 : (Jvm.Cond.code ({ cls := "com/example/naviglio/naviglio/storage/KeptTicks", name := "holds", desc := "(J)Z" } : Jvm.MethodName) prog_20_method_4_code (3 : Nat) (Option.some Jvm.ClassFile.FieldType.boolean)).before args0 about1 = true := code_word (m := ⟨3, 2⟩) (meth := k3m2) (c := k3c2) (by decide +kernel) rfl rfl rfl (by decide +kernel)
set_option maxRecDepth 65536 in
theorem w_c5 : (Jvm.Cond.code ({ cls := "com/example/naviglio/naviglio/storage/KeptTicks", name := "position", desc := "(J)J" } : Jvm.MethodName) prog_20_method_3_code (3 : Nat) (Option.some Jvm.ClassFile.FieldType.long)).before args0 about1 = true := code_word (m := ⟨3, 1⟩) (meth := k3m1) (c := k3c1) (by decide +kernel) rfl rfl rfl (by decide +kernel)
def codes1 : List Jvm.Cond := [Jvm.Cond.code x code maxLocals ret, Jvm.Cond.code ({ cls := "com/example/naviglio/naviglio/storage/KeptTicks", name := "<init>", desc := "(JJJ)V" } : Jvm.MethodName) prog_20_method_1_code (7 : Nat) (Option.none : Option Jvm.ClassFile.FieldType), Jvm.Cond.code ({ cls := "java/lang/Record", name := "<init>", desc := "()V" } : Jvm.MethodName) jdk_30_method_1_code (1 : Nat) (Option.none : Option Jvm.ClassFile.FieldType), Jvm.Cond.code ({ cls := "java/lang/Object", name := "<init>", desc := "()V" } : Jvm.MethodName) object_method_1_code (1 : Nat) (Option.none : Option Jvm.ClassFile.FieldType), Jvm.Cond.code ({ cls := "com/example/naviglio/naviglio/storage/KeptTicks", name := "holds", desc := "(J)Z" } : Jvm.MethodName) prog_20_method_4_code (3 : Nat) (Option.some Jvm.ClassFile.FieldType.boolean), Jvm.Cond.code ({ cls := "com/example/naviglio/naviglio/storage/KeptTicks", name := "position", desc := "(J)J" } : Jvm.MethodName) prog_20_method_3_code (3 : Nat) (Option.some Jvm.ClassFile.FieldType.long)]
set_option maxRecDepth 65536 in
theorem codes_eq : words1.filter isCode = codes1 := rfl
theorem w_codes : ∀ c ∈ words1.filter isCode, c.before args0 about1 = true := by
  rw [codes_eq]
  intro c hc
  simp only [codes1, List.mem_cons, List.not_mem_nil, or_false] at hc
  rcases hc with rfl | rfl | rfl | rfl | rfl | rfl
  · exact w_c0
  · exact w_c1
  · exact w_c2
  · exact w_c3
  · exact w_c4
  · exact w_c5
set_option maxRecDepth 65536 in
theorem w_t1 : (words1.take 24).all (fun c => isCode c || c.before args0 about1) = true := by decide +kernel
set_option maxRecDepth 65536 in
theorem w_t2 : (words1.drop 24).all (fun c => isCode c || c.before args0 about1) = true := by decide +kernel
theorem w_tables : (allAtoms (Jvm.Cond.code x code maxLocals ret :: tables_1)).before args0 about1 = true := by
  rw [allAtoms_all]
  show words1.all (fun c => c.before args0 about1) = true
  refine all_split ?_ w_codes
  rw [← List.take_append_drop 24 words1, List.all_append, w_t1, w_t2]
  rfl
set_option maxRecDepth 65536 in
theorem w_case : (Jvm.Cond.and given_1 narrow_1).before args0 about1 = true := by decide +kernel
theorem w_applies : (headSpec (Jvm.Cond.code x code maxLocals ret :: tables_1) room_1).applies x e0.platform about1 = true :=
  (Spec.applies_iff w_frames).mpr ⟨w_running, w_runnable, w_alone, w_named, w_hears, w_ripe, w_room, w_tables⟩
theorem atStart : AtStart classFile x code maxLocals ret World_1 tables_1 room_1 Calls_1 rest_1 Pre_1 launch0 p0 e0 about1 theMethod args0 below0 :=
  ⟨lists_1, trivial, launch0.admits_env _ _ _, launch0.least_env, fairChoices_fair.cas, fairChoices_fair.clock, w_frames, w_args, w_heap, w_applies, trivial, trivial, w_case⟩
end start1
theorem witness_1 : WitnessClaimed_1 := ⟨start1.p0, start1.e0, start1.about1, start1.theMethod, start1.args0, start1.below0, start1.atStart⟩
end Jvm.Pilot.@@N@@
