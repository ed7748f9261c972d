import JvmDerived
import JvmDerived.Pilot.@@N@@Statement
import JvmDerived.Pilot.@@N@@Code
set_option linter.unusedVariables false
set_option linter.unusedSimpArgs false
namespace Jvm.RoadKit
open Sem ClassFile Op Lib Jvm.Stand Jvm.Free Jvm.LawKit
section New
variable {p : Program} {l : Launch} {e : Env} {R : Room} {s : State} {m : MethodId} {args : Array Value} {below : List Frame} {meth : Method} {c : Code} {T : State} {locs : List Loc} {cells slots : Nat}
theorem retI (X : Stand p l e R s m args below meth c T locs cells slots) (hx : p.tables.exec = Jvm.exec) {pc : Nat} {Ls : Array Slot} {z : Int32} {rest : List Value} (hret : meth.sig.returnType = some .int) (hd : decode c.code pc = .ok (.ireturn, 1)) {fs : List Frame}
    (hl : ∀ (f : JFrame) (acts : List Action), f.method = m → f.locked = none → f.entered = [] → (doReturn e (T.setTop f) acts (some (.int z))).1 = T.setFrames fs) : Steps p.tables e below (T.setTop (mkF m pc Ls (.int z :: rest))) (T.setFrames fs) := by
  have hm' : T.vm.method? m = some meth := X.method'
  have hn : narrow .int (.int z) = .int z := rfl
  show Steps p.tables e below (T.setTop { method := m, pc := pc, locals := Ls, stack := _ :: rest, locked := none }) _
  jvm_step X.here [X.here.top, hx, hd, hm', hret, hn]
  first | (intro acts; rw [hl _ acts rfl rfl rfl]) | rw [hl _ _ rfl rfl rfl]
  exact Steps.refl _
end New
end Jvm.RoadKit
namespace Jvm.Pilot.@@N@@
open Jvm Jvm.ClassFile Sem Op Lib Jvm.Free Jvm.Stand Jvm.LawKit Jvm.RoadKit Bundle Jvm.Pilot.@@N@@.Jvm.D
def own_Ends (p : Program) (e : Env) (below : List Frame) (T : State) (g : JFrame) (P : Outcome → State → Prop) : Prop := ∃ s₂ o, Steps p.tables e below (T.setTop g) s₂ ∧ s₂.status = .running ∧ Ended s₂ below o ∧ P o s₂
theorem own_go {p : Program} {e : Env} {below : List Frame} {T T' : State} {g g' : JFrame} {P : Outcome → State → Prop} (h : ∀ t, Steps p.tables e below (T'.setTop g') t → Steps p.tables e below (T.setTop g) t) (k : own_Ends p e below T' g' P) : own_Ends p e below T g P := by
  obtain ⟨a, o, q, r⟩ := k
  exact ⟨a, o, h _ q, r⟩
def own_Len (Z : State) (h : Heap) (a : Addr) (ty : FieldType) (n : Int32) : Prop := ∃ c : Cell, Arr Z h a c ty ∧ c.slots.size = n.toNatClampNeg ∧ ¬ n < 0
theorem own_Len.lt {Z : State} {h : Heap} {a : Addr} {ty : FieldType} {n : Int32} (F : own_Len Z h a ty n) : a < h.size := by obtain ⟨c, A, -⟩ := F; exact A.lt
theorem own_Len.ext {Z : State} {h h' : Heap} {a : Addr} {ty : FieldType} {n : Int32} (F : own_Len Z h a ty n) (E : Ext h h') : own_Len Z h' a ty n := by obtain ⟨c, A, r⟩ := F; exact ⟨c, A.ext E, r⟩
theorem own_Len.other {Z : State} {h h' : Heap} {a b : Addr} {ty : FieldType} {n : Int32} {sl : Nat} {v : Value} (F : own_Len Z h b ty n) (W : Wr h h' a sl v) (q : b ≠ a) : own_Len Z h' b ty n := by obtain ⟨c, A, r⟩ := F; exact ⟨c, A.other W q, r⟩
theorem own_Len.same {Z : State} {h h' : Heap} {a : Addr} {ty : FieldType} {n : Int32} {sl : Nat} {v : Value} (F : own_Len Z h a ty n) (W : Wr h h' a sl v) : own_Len Z h' a ty n := by obtain ⟨c, A, r1, r2⟩ := F; exact ⟨_, A.same W, by rw [sz_set]; exact r1, r2⟩
theorem own_Len.keep {Z : State} {h h' : Heap} {a : Addr} {ty : FieldType} {n : Int32} {ws : List Addr} (F : own_Len Z h a ty n) (K : Keep h h' ws) (q : a ∉ ws) : own_Len Z h' a ty n := by obtain ⟨c, A, r⟩ := F; exact ⟨c, ⟨K.2.1 a c A.1 q, A.2⟩, r⟩
theorem own_as {p : Program} {e : Env} {below : List Frame} {T : State} {g g' : JFrame} {P : Outcome → State → Prop} (h : g = g') (k : own_Ends p e below T g' P) : own_Ends p e below T g P := h ▸ k

theorem own_e0 {a b : Int32} (h : a = b) (q : a = (0 : Int32)) : b = (0 : Int32) := h ▸ q
theorem own_e1 {a b : Int32} (h : a = b) (q : ¬ a = (0 : Int32)) : ¬ b = (0 : Int32) := h ▸ q
theorem own_eq {a b c d : Int32} (h : a = b) (g : c = d) (q : b = d) : a = c := h.trans (q.trans g.symm)

def own_d (x : Int32) : Int32 := if x < (48 : Int32) then 0 else if (57 : Int32) < x then 0 else 1
def own_p (x : Int32) : Int32 := if x = (-1 : Int32) then 1 else 0
def own_tail : List Int32 → Nat → Int32
  | [], n => if n < 4 then 0 else 1
  | b :: t, n => if b = (-1 : Int32) then own_tail t n else 0
def own_scan : List Int32 → Nat → Int32
  | [], n => own_tail [] n
  | b :: t, n => if b < (48 : Int32) then own_tail (b :: t) n else if (57 : Int32) < b then own_tail (b :: t) n else own_scan t (n + 1)
theorem own_short : ∀ (l : List Int32) (n : Nat), n < 4 → own_tail l n = 0
  | [], n, h => if_pos h
  | b :: t, n, h => by
    unfold own_tail
    by_cases q : b = (-1 : Int32)
    · rw [if_pos q]; exact own_short t n h
    · rw [if_neg q]
theorem own_sd0 {b : Int32} {t : List Int32} {n : Nat} (h : own_d b = (0 : Int32)) : own_scan (b :: t) n = own_tail (b :: t) n := by
  unfold own_scan
  unfold own_d at h
  by_cases q : b < (48 : Int32)
  · rw [if_pos q]
  · rw [if_neg q] at h ⊢
    by_cases r : (57 : Int32) < b
    · rw [if_pos r]
    · rw [if_neg r] at h; exact absurd h (by decide)
theorem own_sd1 {b : Int32} {t : List Int32} {n : Nat} (h : ¬ own_d b = (0 : Int32)) : own_scan (b :: t) n = own_scan t (n + 1) := by
  unfold own_d at h
  by_cases q : b < (48 : Int32)
  · rw [if_pos q] at h; exact absurd rfl h
  · rw [if_neg q] at h
    by_cases r : (57 : Int32) < b
    · rw [if_pos r] at h; exact absurd rfl h
    · rw [own_scan, if_neg q, if_neg r]
theorem own_tp0 {b : Int32} {t : List Int32} {n : Nat} (h : own_p b = (0 : Int32)) : own_tail (b :: t) n = 0 := by
  unfold own_p at h
  by_cases q : b = (-1 : Int32)
  · rw [if_pos q] at h; exact absurd h (by decide)
  · rw [own_tail, if_neg q]
theorem own_tp1 {b : Int32} {t : List Int32} {n : Nat} (h : ¬ own_p b = (0 : Int32)) : own_tail (b :: t) n = own_tail t n := by
  unfold own_p at h
  by_cases q : b = (-1 : Int32)
  · rw [own_tail, if_pos q]
  · rw [if_neg q] at h; exact absurd rfl h
theorem own_sA {b : Int32} {t : List Int32} {n : Nat} (h : b < (48 : Int32)) : own_scan (b :: t) n = own_tail (b :: t) n := by rw [own_scan, if_pos h]
theorem own_sB {b : Int32} {t : List Int32} {n : Nat} (h : ¬ b < (48 : Int32)) (h' : (57 : Int32) < b) : own_scan (b :: t) n = own_tail (b :: t) n := by rw [own_scan, if_neg h, if_pos h']
theorem own_sC {b : Int32} {t : List Int32} {n : Nat} (h : ¬ b < (48 : Int32)) (h' : ¬ (57 : Int32) < b) : own_scan (b :: t) n = own_scan t (n + 1) := by rw [own_scan, if_neg h, if_neg h']
theorem own_tA {b : Int32} {t : List Int32} {n : Nat} (h : b = (-1 : Int32)) : own_tail (b :: t) n = own_tail t n := by rw [own_tail, if_pos h]
theorem own_tB {b : Int32} {t : List Int32} {n : Nat} (h : ¬ b = (-1 : Int32)) : own_tail (b :: t) n = 0 := by rw [own_tail, if_neg h]
theorem own_back {a b : Int32} (h : a = b) : b = a := h.symm
theorem own_byte (x : Int32) : (nar .byte x).toInt8.toInt32 = nar .byte x := by
  show x.toInt8.toInt32.toInt8.toInt32 = x.toInt8.toInt32
  rw [Int8.toInt8_toInt32]
theorem d1_0 : decode method_2_code 0 = .ok (.lload_n 0, 1) := by decide +kernel
theorem d1_1 : decode method_2_code 1 = .ok (.bipush 8, 2) := by decide +kernel
theorem d1_3 : decode method_2_code 3 = .ok (.iload_n 3, 1) := by decide +kernel
theorem d1_4 : decode method_2_code 4 = .ok (.imul, 1) := by decide +kernel
theorem d1_5 : decode method_2_code 5 = .ok (.lushr, 1) := by decide +kernel
theorem d1_6 : decode method_2_code 6 = .ok (.ldc2_w 7, 3) := by decide +kernel
theorem d1_9 : decode method_2_code 9 = .ok (.land, 1) := by decide +kernel
theorem d1_10 : decode method_2_code 10 = .ok (.l2i, 1) := by decide +kernel
theorem d1_11 : decode method_2_code 11 = .ok (.istore 4, 2) := by decide +kernel
theorem d1_13 : decode method_2_code 13 = .ok (.iload_n 2, 1) := by decide +kernel
theorem d1_14 : decode method_2_code 14 = .ok (.iconst 2, 1) := by decide +kernel
theorem d1_15 : decode method_2_code 15 = .ok (.iload_n 3, 1) := by decide +kernel
theorem d1_16 : decode method_2_code 16 = .ok (.imul, 1) := by decide +kernel
theorem d1_17 : decode method_2_code 17 = .ok (.iushr, 1) := by decide +kernel
theorem d1_18 : decode method_2_code 18 = .ok (.iconst 3, 1) := by decide +kernel
theorem d1_19 : decode method_2_code 19 = .ok (.iand, 1) := by decide +kernel
theorem d1_20 : decode method_2_code 20 = .ok (.istore 5, 2) := by decide +kernel
theorem d1_22 : decode method_2_code 22 = .ok (.iload 5, 2) := by decide +kernel
theorem d1_24 : decode method_2_code 24 = .ok (.ifCond .ne 13, 3) := by decide +kernel
theorem d1_27 : decode method_2_code 27 = .ok (.bipush 48, 2) := by decide +kernel
theorem d1_29 : decode method_2_code 29 = .ok (.iload 4, 2) := by decide +kernel
theorem d1_31 : decode method_2_code 31 = .ok (.bipush 10, 2) := by decide +kernel
theorem d1_33 : decode method_2_code 33 = .ok (.irem, 1) := by decide +kernel
theorem d1_34 : decode method_2_code 34 = .ok (.iadd, 1) := by decide +kernel
theorem d1_35 : decode method_2_code 35 = .ok (.i2b, 1) := by decide +kernel
theorem d1_36 : decode method_2_code 36 = .ok (.ireturn, 1) := by decide +kernel
theorem d1_37 : decode method_2_code 37 = .ok (.iload 5, 2) := by decide +kernel
theorem d1_39 : decode method_2_code 39 = .ok (.iconst 1, 1) := by decide +kernel
theorem d1_40 : decode method_2_code 40 = .ok (.if_icmp .ne 5, 3) := by decide +kernel
theorem d1_43 : decode method_2_code 43 = .ok (.iconst (-1), 1) := by decide +kernel
theorem d1_44 : decode method_2_code 44 = .ok (.ireturn, 1) := by decide +kernel
theorem d1_45 : decode method_2_code 45 = .ok (.iload 4, 2) := by decide +kernel
theorem d1_47 : decode method_2_code 47 = .ok (.i2b, 1) := by decide +kernel
theorem d1_48 : decode method_2_code 48 = .ok (.ireturn, 1) := by decide +kernel
theorem pn_1 : plainName "com/example/tessera/tessera/platform/SecretCodeIsPinValuePinLaw" = true := by first | (simp [plainName, overriddenIn]; done) | decide +kernel
theorem ef_1 (m : MethodId) (q0 : Int64) (p1 : Int32) (p2 : Int32) : entryFrame m #[(.long q0), (.int p1), (.int p2)] 6 = mkF m 0 #[.val (.long q0), .second, .val (.int p1), .val (.int p2), .unset, .unset] [] := by first | (simp [entryFrame, mkF, argsToLocals, Value.category]; done) | rfl
def Q_rmPick (Z : State) (q0 : Int64) (p1 : Int32) (p2 : Int32) (h0 : Heap) (n0 : Nat) (v : Option Value) (h : Heap) (L : List Loc) : Prop := ∃ z : Int32, v = some (.int z) ∧ z.toInt8.toInt32 = z ∧ Fr n0 L ∧ h = h0
set_option maxRecDepth 65536 in
set_option maxHeartbeats 40000000 in
theorem rmPick (l : Launch) (Z : State) (a0 : Array Value) (hw : ∀ d ∈ tables_1, d.before a0 Z = true) (ws : List Jvm.Cond) (q0 : Int64) (p1 : Int32) (p2 : Int32) (h0 : Heap) (n0 : Nat) (Z0 : n0 ≤ h0.size) :
    MetFree l (⟨"com/example/tessera/tessera/platform/SecretCodeIsPinValuePinLaw", "pick", "(JII)B"⟩ : MethodName) (head1 (Jvm.Cond.code (⟨"com/example/tessera/tessera/platform/SecretCodeIsPinValuePinLaw", "pick", "(JII)B"⟩ : MethodName) method_2_code 6 (some .byte) :: ws) ({ frames := 0, cells := 0, slots := 0, locals := 0 } : Room)) (fun aa U => aa = #[(.long q0), (.int p1), (.int p2)] ∧ Z.Warmed39 U.vm ∧ U.heap = h0) (fun _ _ _ _ _ => True) (fun _ U ou U' => ∃ v L, ou = .returned v ∧ Q_rmPick Z q0 p1 p2 h0 n0 v U'.heap L ∧ FrameEnd U ou U' L ({ frames := 0, cells := 0, slots := 0, locals := 0 } : Room).cells ({ frames := 0, cells := 0, slots := 0, locals := 0 } : Room).slots) := by
  refine MetFree.of_bodySF (plainFor_of_name pn_1) hisR ?_
  intro p e s m args below meth c s₁ Bd hml0 hP hK
  obtain ⟨rfl, hZ, hh⟩ := hP
  have hx := Bd.exec
  have hby := Bd.bytes
  have hml : c.maxLocals = 6 := hml0
  have hown : s.vm.findClass "com/example/tessera/tessera/platform/SecretCodeIsPinValuePinLaw" = some m.cls := findClass_of_methodNamed Bd.named
  have hnm := (name_of_methodNamed Bd.named Bd.method).1
  have X0 : Stand p l e ({ frames := 0, cells := 0, slots := 0, locals := 0 } : Room) s m #[(.long q0), (.int p1), (.int p2)] below meth c s₁ [] 0 0 := Stand.of_body Bd
  have e0 : s₁.heap = h0 := by rw [← hh, Bd.state]; rfl
  have N0 := Fr.nil n0
  have K0 := Keep.refl h0 []
  refine own_as (ef_1 m q0 p1 p2) ?_
  show own_Ends p e below s₁ (mkF m 0 #[.val (.long q0), .second, .val (.int p1), .val (.int p2), .unset, .unset] []) _
  refine own_go (fun _ => XS.lloadN X0.here hx rfl (hb hby d1_0) rfl) ?_
  show own_Ends p e below s₁ (mkF m 1 #[.val (.long q0), .second, .val (.int p1), .val (.int p2), .unset, .unset] [(.long q0)]) _
  refine own_go (fun _ => XS.bipush X0.here hx rfl (hb hby d1_1)) ?_
  show own_Ends p e below s₁ (mkF m 3 #[.val (.long q0), .second, .val (.int p1), .val (.int p2), .unset, .unset] [(.int (8 : Int32)), (.long q0)]) _
  refine own_go (fun _ => XS.iloadN X0.here hx rfl (hb hby d1_3) rfl) ?_
  show own_Ends p e below s₁ (mkF m 4 #[.val (.long q0), .second, .val (.int p1), .val (.int p2), .unset, .unset] [(.int p2), (.int (8 : Int32)), (.long q0)]) _
  refine own_go (fun _ => XS.imul X0.here hx rfl (hb hby d1_4) rfl) ?_
  show own_Ends p e below s₁ (mkF m 5 #[.val (.long q0), .second, .val (.int p1), .val (.int p2), .unset, .unset] [(.int ((8 : Int32) * p2)), (.long q0)]) _
  refine own_go (fun _ => XS.lushr X0.here hx rfl (hb hby d1_5) rfl) ?_
  show own_Ends p e below s₁ (mkF m 6 #[.val (.long q0), .second, .val (.int p1), .val (.int p2), .unset, .unset] [(.long ((q0.toUInt64 >>> (((8 : Int32) * p2) &&& 0x3f).toInt64.toUInt64).toInt64))]) _
  refine own_go (X0.ldc2Long hx hown (mvT hZ (hw _ (List.mem_of_getElem? (i := 4) rfl))) (g := (mkF m 6 #[.val (.long q0), .second, .val (.int p1), .val (.int p2), .unset, .unset] [(.long ((q0.toUInt64 >>> (((8 : Int32) * p2) &&& 0x3f).toInt64.toUInt64).toInt64))])) rfl (hb hby d1_6)) ?_
  show own_Ends p e below s₁ (mkF m 9 #[.val (.long q0), .second, .val (.int p1), .val (.int p2), .unset, .unset] [(.long (255 : Int64)), (.long ((q0.toUInt64 >>> (((8 : Int32) * p2) &&& 0x3f).toInt64.toUInt64).toInt64))]) _
  refine own_go (fun _ => XS.land X0.here hx rfl (hb hby d1_9) rfl) ?_
  show own_Ends p e below s₁ (mkF m 10 #[.val (.long q0), .second, .val (.int p1), .val (.int p2), .unset, .unset] [(.long (((q0.toUInt64 >>> (((8 : Int32) * p2) &&& 0x3f).toInt64.toUInt64).toInt64) &&& (255 : Int64)))]) _
  refine own_go (fun _ => XS.l2i X0.here hx rfl (hb hby d1_10) rfl) ?_
  show own_Ends p e below s₁ (mkF m 11 #[.val (.long q0), .second, .val (.int p1), .val (.int p2), .unset, .unset] [(.int ((((q0.toUInt64 >>> (((8 : Int32) * p2) &&& 0x3f).toInt64.toUInt64).toInt64) &&& (255 : Int64)).toInt32))]) _
  refine own_go (fun _ => XS.istore X0.here hx rfl (hb hby d1_11) rfl (l' := #[.val (.long q0), .second, .val (.int p1), .val (.int p2), .val (.int ((((q0.toUInt64 >>> (((8 : Int32) * p2) &&& 0x3f).toInt64.toUInt64).toInt64) &&& (255 : Int64)).toInt32)), .unset]) rfl) ?_
  show own_Ends p e below s₁ (mkF m 13 #[.val (.long q0), .second, .val (.int p1), .val (.int p2), .val (.int ((((q0.toUInt64 >>> (((8 : Int32) * p2) &&& 0x3f).toInt64.toUInt64).toInt64) &&& (255 : Int64)).toInt32)), .unset] []) _
  refine own_go (fun _ => XS.iloadN X0.here hx rfl (hb hby d1_13) rfl) ?_
  show own_Ends p e below s₁ (mkF m 14 #[.val (.long q0), .second, .val (.int p1), .val (.int p2), .val (.int ((((q0.toUInt64 >>> (((8 : Int32) * p2) &&& 0x3f).toInt64.toUInt64).toInt64) &&& (255 : Int64)).toInt32)), .unset] [(.int p1)]) _
  refine own_go (fun _ => XS.iconst X0.here hx rfl (hb hby d1_14)) ?_
  show own_Ends p e below s₁ (mkF m 15 #[.val (.long q0), .second, .val (.int p1), .val (.int p2), .val (.int ((((q0.toUInt64 >>> (((8 : Int32) * p2) &&& 0x3f).toInt64.toUInt64).toInt64) &&& (255 : Int64)).toInt32)), .unset] [(.int (2 : Int32)), (.int p1)]) _
  refine own_go (fun _ => XS.iloadN X0.here hx rfl (hb hby d1_15) rfl) ?_
  show own_Ends p e below s₁ (mkF m 16 #[.val (.long q0), .second, .val (.int p1), .val (.int p2), .val (.int ((((q0.toUInt64 >>> (((8 : Int32) * p2) &&& 0x3f).toInt64.toUInt64).toInt64) &&& (255 : Int64)).toInt32)), .unset] [(.int p2), (.int (2 : Int32)), (.int p1)]) _
  refine own_go (fun _ => XS.imul X0.here hx rfl (hb hby d1_16) rfl) ?_
  show own_Ends p e below s₁ (mkF m 17 #[.val (.long q0), .second, .val (.int p1), .val (.int p2), .val (.int ((((q0.toUInt64 >>> (((8 : Int32) * p2) &&& 0x3f).toInt64.toUInt64).toInt64) &&& (255 : Int64)).toInt32)), .unset] [(.int ((2 : Int32) * p2)), (.int p1)]) _
  refine own_go (fun _ => XS.iushr X0.here hx rfl (hb hby d1_17) rfl) ?_
  show own_Ends p e below s₁ (mkF m 18 #[.val (.long q0), .second, .val (.int p1), .val (.int p2), .val (.int ((((q0.toUInt64 >>> (((8 : Int32) * p2) &&& 0x3f).toInt64.toUInt64).toInt64) &&& (255 : Int64)).toInt32)), .unset] [(.int ((p1.toUInt32 >>> (((2 : Int32) * p2) &&& 31).toUInt32).toInt32))]) _
  refine own_go (fun _ => XS.iconst X0.here hx rfl (hb hby d1_18)) ?_
  show own_Ends p e below s₁ (mkF m 19 #[.val (.long q0), .second, .val (.int p1), .val (.int p2), .val (.int ((((q0.toUInt64 >>> (((8 : Int32) * p2) &&& 0x3f).toInt64.toUInt64).toInt64) &&& (255 : Int64)).toInt32)), .unset] [(.int (3 : Int32)), (.int ((p1.toUInt32 >>> (((2 : Int32) * p2) &&& 31).toUInt32).toInt32))]) _
  refine own_go (fun _ => XS.iand X0.here hx rfl (hb hby d1_19) rfl) ?_
  show own_Ends p e below s₁ (mkF m 20 #[.val (.long q0), .second, .val (.int p1), .val (.int p2), .val (.int ((((q0.toUInt64 >>> (((8 : Int32) * p2) &&& 0x3f).toInt64.toUInt64).toInt64) &&& (255 : Int64)).toInt32)), .unset] [(.int (((p1.toUInt32 >>> (((2 : Int32) * p2) &&& 31).toUInt32).toInt32) &&& (3 : Int32)))]) _
  refine own_go (fun _ => XS.istore X0.here hx rfl (hb hby d1_20) rfl (l' := #[.val (.long q0), .second, .val (.int p1), .val (.int p2), .val (.int ((((q0.toUInt64 >>> (((8 : Int32) * p2) &&& 0x3f).toInt64.toUInt64).toInt64) &&& (255 : Int64)).toInt32)), .val (.int (((p1.toUInt32 >>> (((2 : Int32) * p2) &&& 31).toUInt32).toInt32) &&& (3 : Int32)))]) rfl) ?_
  show own_Ends p e below s₁ (mkF m 22 #[.val (.long q0), .second, .val (.int p1), .val (.int p2), .val (.int ((((q0.toUInt64 >>> (((8 : Int32) * p2) &&& 0x3f).toInt64.toUInt64).toInt64) &&& (255 : Int64)).toInt32)), .val (.int (((p1.toUInt32 >>> (((2 : Int32) * p2) &&& 31).toUInt32).toInt32) &&& (3 : Int32)))] []) _
  refine own_go (fun _ => XS.iload X0.here hx rfl (hb hby d1_22) rfl) ?_
  show own_Ends p e below s₁ (mkF m 24 #[.val (.long q0), .second, .val (.int p1), .val (.int p2), .val (.int ((((q0.toUInt64 >>> (((8 : Int32) * p2) &&& 0x3f).toInt64.toUInt64).toInt64) &&& (255 : Int64)).toInt32)), .val (.int (((p1.toUInt32 >>> (((2 : Int32) * p2) &&& 31).toUInt32).toInt32) &&& (3 : Int32)))] [(.int (((p1.toUInt32 >>> (((2 : Int32) * p2) &&& 31).toUInt32).toInt32) &&& (3 : Int32)))]) _
  by_cases hc24 : (((p1.toUInt32 >>> (((2 : Int32) * p2) &&& 31).toUInt32).toInt32) &&& (3 : Int32)) = (0 : Int32)
  · refine own_go (fun _ => XS.ifNo X0.here hx rfl (hb hby d1_24) rfl ((if0 _ _).trans (teq hc24).2)) ?_
    show own_Ends p e below s₁ (mkF m 27 #[.val (.long q0), .second, .val (.int p1), .val (.int p2), .val (.int ((((q0.toUInt64 >>> (((8 : Int32) * p2) &&& 0x3f).toInt64.toUInt64).toInt64) &&& (255 : Int64)).toInt32)), .val (.int (((p1.toUInt32 >>> (((2 : Int32) * p2) &&& 31).toUInt32).toInt32) &&& (3 : Int32)))] []) _
    refine own_go (fun _ => XS.bipush X0.here hx rfl (hb hby d1_27)) ?_
    show own_Ends p e below s₁ (mkF m 29 #[.val (.long q0), .second, .val (.int p1), .val (.int p2), .val (.int ((((q0.toUInt64 >>> (((8 : Int32) * p2) &&& 0x3f).toInt64.toUInt64).toInt64) &&& (255 : Int64)).toInt32)), .val (.int (((p1.toUInt32 >>> (((2 : Int32) * p2) &&& 31).toUInt32).toInt32) &&& (3 : Int32)))] [(.int (48 : Int32))]) _
    refine own_go (fun _ => XS.iload X0.here hx rfl (hb hby d1_29) rfl) ?_
    show own_Ends p e below s₁ (mkF m 31 #[.val (.long q0), .second, .val (.int p1), .val (.int p2), .val (.int ((((q0.toUInt64 >>> (((8 : Int32) * p2) &&& 0x3f).toInt64.toUInt64).toInt64) &&& (255 : Int64)).toInt32)), .val (.int (((p1.toUInt32 >>> (((2 : Int32) * p2) &&& 31).toUInt32).toInt32) &&& (3 : Int32)))] [(.int ((((q0.toUInt64 >>> (((8 : Int32) * p2) &&& 0x3f).toInt64.toUInt64).toInt64) &&& (255 : Int64)).toInt32)), (.int (48 : Int32))]) _
    refine own_go (fun _ => XS.bipush X0.here hx rfl (hb hby d1_31)) ?_
    show own_Ends p e below s₁ (mkF m 33 #[.val (.long q0), .second, .val (.int p1), .val (.int p2), .val (.int ((((q0.toUInt64 >>> (((8 : Int32) * p2) &&& 0x3f).toInt64.toUInt64).toInt64) &&& (255 : Int64)).toInt32)), .val (.int (((p1.toUInt32 >>> (((2 : Int32) * p2) &&& 31).toUInt32).toInt32) &&& (3 : Int32)))] [(.int (10 : Int32)), (.int ((((q0.toUInt64 >>> (((8 : Int32) * p2) &&& 0x3f).toInt64.toUInt64).toInt64) &&& (255 : Int64)).toInt32)), (.int (48 : Int32))]) _
    refine own_go (fun _ => iremM X0 hx rfl (hb hby d1_33) rfl (by decide)) ?_
    show own_Ends p e below s₁ (mkF m 34 #[.val (.long q0), .second, .val (.int p1), .val (.int p2), .val (.int ((((q0.toUInt64 >>> (((8 : Int32) * p2) &&& 0x3f).toInt64.toUInt64).toInt64) &&& (255 : Int64)).toInt32)), .val (.int (((p1.toUInt32 >>> (((2 : Int32) * p2) &&& 31).toUInt32).toInt32) &&& (3 : Int32)))] [(.int (((((q0.toUInt64 >>> (((8 : Int32) * p2) &&& 0x3f).toInt64.toUInt64).toInt64) &&& (255 : Int64)).toInt32) % (10 : Int32))), (.int (48 : Int32))]) _
    refine own_go (fun _ => XS.iadd X0.here hx rfl (hb hby d1_34) rfl) ?_
    show own_Ends p e below s₁ (mkF m 35 #[.val (.long q0), .second, .val (.int p1), .val (.int p2), .val (.int ((((q0.toUInt64 >>> (((8 : Int32) * p2) &&& 0x3f).toInt64.toUInt64).toInt64) &&& (255 : Int64)).toInt32)), .val (.int (((p1.toUInt32 >>> (((2 : Int32) * p2) &&& 31).toUInt32).toInt32) &&& (3 : Int32)))] [(.int ((48 : Int32) + (((((q0.toUInt64 >>> (((8 : Int32) * p2) &&& 0x3f).toInt64.toUInt64).toInt64) &&& (255 : Int64)).toInt32) % (10 : Int32))))]) _
    refine own_go (fun _ => XS.i2b X0.here hx rfl (hb hby d1_35) rfl) ?_
    show own_Ends p e below s₁ (mkF m 36 #[.val (.long q0), .second, .val (.int p1), .val (.int p2), .val (.int ((((q0.toUInt64 >>> (((8 : Int32) * p2) &&& 0x3f).toInt64.toUInt64).toInt64) &&& (255 : Int64)).toInt32)), .val (.int (((p1.toUInt32 >>> (((2 : Int32) * p2) &&& 31).toUInt32).toInt32) &&& (3 : Int32)))] [(.int (((48 : Int32) + (((((q0.toUInt64 >>> (((8 : Int32) * p2) &&& 0x3f).toInt64.toUInt64).toInt64) &&& (255 : Int64)).toInt32) % (10 : Int32))).toInt8.toInt32))]) _
    obtain ⟨fs, hr, hrun, hended, hW, hsame⟩ := X0.leave (v := some (.int (nar .byte (((48 : Int32) + (((((q0.toUInt64 >>> (((8 : Int32) * p2) &&& 0x3f).toInt64.toUInt64).toInt64) &&& (255 : Int64)).toInt32) % (10 : Int32))).toInt8.toInt32)))) (fun h => by rw [Bd.returns] at h; cases h)
    refine ⟨_, _, retN X0 hx (t := .byte) Bd.returns (by simp) (hb hby d1_36) hr, hrun, hended, _, _, rfl, ?_, ⟨_, rfl⟩, hW, hsame.mono (by decide) (by decide)⟩
    show Q_rmPick Z q0 p1 p2 h0 n0 _ s₁.heap _
    rw [e0]
    exact ⟨_, rfl, own_byte _, N0, rfl⟩
  · refine own_go (fun _ => XS.ifYes X0.here hx rfl (pc0 := 24) (pc' := 37) rfl (hb hby d1_24) rfl ((if0 _ _).trans (feq hc24).2) (by decide) (by decide)) ?_
    show own_Ends p e below s₁ (mkF m 37 #[.val (.long q0), .second, .val (.int p1), .val (.int p2), .val (.int ((((q0.toUInt64 >>> (((8 : Int32) * p2) &&& 0x3f).toInt64.toUInt64).toInt64) &&& (255 : Int64)).toInt32)), .val (.int (((p1.toUInt32 >>> (((2 : Int32) * p2) &&& 31).toUInt32).toInt32) &&& (3 : Int32)))] []) _
    refine own_go (fun _ => XS.iload X0.here hx rfl (hb hby d1_37) rfl) ?_
    show own_Ends p e below s₁ (mkF m 39 #[.val (.long q0), .second, .val (.int p1), .val (.int p2), .val (.int ((((q0.toUInt64 >>> (((8 : Int32) * p2) &&& 0x3f).toInt64.toUInt64).toInt64) &&& (255 : Int64)).toInt32)), .val (.int (((p1.toUInt32 >>> (((2 : Int32) * p2) &&& 31).toUInt32).toInt32) &&& (3 : Int32)))] [(.int (((p1.toUInt32 >>> (((2 : Int32) * p2) &&& 31).toUInt32).toInt32) &&& (3 : Int32)))]) _
    refine own_go (fun _ => XS.iconst X0.here hx rfl (hb hby d1_39)) ?_
    show own_Ends p e below s₁ (mkF m 40 #[.val (.long q0), .second, .val (.int p1), .val (.int p2), .val (.int ((((q0.toUInt64 >>> (((8 : Int32) * p2) &&& 0x3f).toInt64.toUInt64).toInt64) &&& (255 : Int64)).toInt32)), .val (.int (((p1.toUInt32 >>> (((2 : Int32) * p2) &&& 31).toUInt32).toInt32) &&& (3 : Int32)))] [(.int (1 : Int32)), (.int (((p1.toUInt32 >>> (((2 : Int32) * p2) &&& 31).toUInt32).toInt32) &&& (3 : Int32)))]) _
    by_cases hc40 : (((p1.toUInt32 >>> (((2 : Int32) * p2) &&& 31).toUInt32).toInt32) &&& (3 : Int32)) = (1 : Int32)
    · refine own_go (fun _ => XS.icmpNo X0.here hx rfl (hb hby d1_40) rfl (teq hc40).2) ?_
      show own_Ends p e below s₁ (mkF m 43 #[.val (.long q0), .second, .val (.int p1), .val (.int p2), .val (.int ((((q0.toUInt64 >>> (((8 : Int32) * p2) &&& 0x3f).toInt64.toUInt64).toInt64) &&& (255 : Int64)).toInt32)), .val (.int (((p1.toUInt32 >>> (((2 : Int32) * p2) &&& 31).toUInt32).toInt32) &&& (3 : Int32)))] []) _
      refine own_go (fun _ => XS.iconst X0.here hx rfl (hb hby d1_43)) ?_
      show own_Ends p e below s₁ (mkF m 44 #[.val (.long q0), .second, .val (.int p1), .val (.int p2), .val (.int ((((q0.toUInt64 >>> (((8 : Int32) * p2) &&& 0x3f).toInt64.toUInt64).toInt64) &&& (255 : Int64)).toInt32)), .val (.int (((p1.toUInt32 >>> (((2 : Int32) * p2) &&& 31).toUInt32).toInt32) &&& (3 : Int32)))] [(.int (-1 : Int32))]) _
      obtain ⟨fs, hr, hrun, hended, hW, hsame⟩ := X0.leave (v := some (.int (-1 : Int32))) (fun h => by rw [Bd.returns] at h; cases h)
      refine ⟨_, _, retN X0 hx (t := .byte) Bd.returns (by simp) (hb hby d1_44) hr, hrun, hended, _, _, rfl, ?_, ⟨_, rfl⟩, hW, hsame.mono (by decide) (by decide)⟩
      show Q_rmPick Z q0 p1 p2 h0 n0 _ s₁.heap _
      rw [e0]
      exact ⟨_, rfl, by decide, N0, rfl⟩
    · refine own_go (fun _ => XS.icmpYes X0.here hx rfl (pc0 := 40) (pc' := 45) rfl (hb hby d1_40) rfl (feq hc40).2 (by decide) (by decide)) ?_
      show own_Ends p e below s₁ (mkF m 45 #[.val (.long q0), .second, .val (.int p1), .val (.int p2), .val (.int ((((q0.toUInt64 >>> (((8 : Int32) * p2) &&& 0x3f).toInt64.toUInt64).toInt64) &&& (255 : Int64)).toInt32)), .val (.int (((p1.toUInt32 >>> (((2 : Int32) * p2) &&& 31).toUInt32).toInt32) &&& (3 : Int32)))] []) _
      refine own_go (fun _ => XS.iload X0.here hx rfl (hb hby d1_45) rfl) ?_
      show own_Ends p e below s₁ (mkF m 47 #[.val (.long q0), .second, .val (.int p1), .val (.int p2), .val (.int ((((q0.toUInt64 >>> (((8 : Int32) * p2) &&& 0x3f).toInt64.toUInt64).toInt64) &&& (255 : Int64)).toInt32)), .val (.int (((p1.toUInt32 >>> (((2 : Int32) * p2) &&& 31).toUInt32).toInt32) &&& (3 : Int32)))] [(.int ((((q0.toUInt64 >>> (((8 : Int32) * p2) &&& 0x3f).toInt64.toUInt64).toInt64) &&& (255 : Int64)).toInt32))]) _
      refine own_go (fun _ => XS.i2b X0.here hx rfl (hb hby d1_47) rfl) ?_
      show own_Ends p e below s₁ (mkF m 48 #[.val (.long q0), .second, .val (.int p1), .val (.int p2), .val (.int ((((q0.toUInt64 >>> (((8 : Int32) * p2) &&& 0x3f).toInt64.toUInt64).toInt64) &&& (255 : Int64)).toInt32)), .val (.int (((p1.toUInt32 >>> (((2 : Int32) * p2) &&& 31).toUInt32).toInt32) &&& (3 : Int32)))] [(.int (((((q0.toUInt64 >>> (((8 : Int32) * p2) &&& 0x3f).toInt64.toUInt64).toInt64) &&& (255 : Int64)).toInt32).toInt8.toInt32))]) _
      obtain ⟨fs, hr, hrun, hended, hW, hsame⟩ := X0.leave (v := some (.int (nar .byte (((((q0.toUInt64 >>> (((8 : Int32) * p2) &&& 0x3f).toInt64.toUInt64).toInt64) &&& (255 : Int64)).toInt32).toInt8.toInt32)))) (fun h => by rw [Bd.returns] at h; cases h)
      refine ⟨_, _, retN X0 hx (t := .byte) Bd.returns (by simp) (hb hby d1_48) hr, hrun, hended, _, _, rfl, ?_, ⟨_, rfl⟩, hW, hsame.mono (by decide) (by decide)⟩
      show Q_rmPick Z q0 p1 p2 h0 n0 _ s₁.heap _
      rw [e0]
      exact ⟨_, rfl, own_byte _, N0, rfl⟩
theorem d2_0 : decode method_3_code 0 = .ok (.iload_n 0, 1) := by decide +kernel
theorem d2_1 : decode method_3_code 1 = .ok (.bipush 48, 2) := by decide +kernel
theorem d2_3 : decode method_3_code 3 = .ok (.if_icmp .lt 13, 3) := by decide +kernel
theorem d2_6 : decode method_3_code 6 = .ok (.iload_n 0, 1) := by decide +kernel
theorem d2_7 : decode method_3_code 7 = .ok (.bipush 57, 2) := by decide +kernel
theorem d2_9 : decode method_3_code 9 = .ok (.if_icmp .gt 7, 3) := by decide +kernel
theorem d2_12 : decode method_3_code 12 = .ok (.iconst 1, 1) := by decide +kernel
theorem d2_13 : decode method_3_code 13 = .ok (.goto 4, 3) := by decide +kernel
theorem d2_16 : decode method_3_code 16 = .ok (.iconst 0, 1) := by decide +kernel
theorem d2_17 : decode method_3_code 17 = .ok (.ireturn, 1) := by decide +kernel
theorem pn_2 : plainName "com/example/tessera/tessera/platform/SecretCodeIsPinValuePinLaw" = true := by first | (simp [plainName, overriddenIn]; done) | decide +kernel
theorem ef_2 (m : MethodId) (x : Int32) : entryFrame m #[(.int x)] 1 = mkF m 0 #[.val (.int x)] [] := by first | (simp [entryFrame, mkF, argsToLocals, Value.category]; done) | rfl
def Q_rm_d (Z : State) (x : Int32) (h0 : Heap) (n0 : Nat) (v : Option Value) (h : Heap) (L : List Loc) : Prop := ∃ z_ : Int32, v = some (.int z_) ∧ z_ = own_d x ∧ Fr n0 L ∧ h = h0
set_option maxRecDepth 65536 in
set_option maxHeartbeats 40000000 in
theorem rm_d (l : Launch) (Z : State) (a0 : Array Value) (hw : ∀ d ∈ tables_1, d.before a0 Z = true) (ws : List Jvm.Cond) (x : Int32) (h0 : Heap) (n0 : Nat) (Z0 : n0 ≤ h0.size) :
    MetFree l (⟨"com/example/tessera/tessera/platform/SecretCodeIsPinValuePinLaw", "d", "(B)Z"⟩ : MethodName) (head1 (Jvm.Cond.code (⟨"com/example/tessera/tessera/platform/SecretCodeIsPinValuePinLaw", "d", "(B)Z"⟩ : MethodName) method_3_code 1 (some .boolean) :: ws) ({ frames := 0, cells := 0, slots := 0, locals := 0 } : Room)) (fun aa U => aa = #[(.int x)] ∧ Z.Warmed39 U.vm ∧ U.heap = h0) (fun _ _ _ _ _ => True) (fun _ U ou U' => ∃ v L, ou = .returned v ∧ Q_rm_d Z x h0 n0 v U'.heap L ∧ FrameEnd U ou U' L ({ frames := 0, cells := 0, slots := 0, locals := 0 } : Room).cells ({ frames := 0, cells := 0, slots := 0, locals := 0 } : Room).slots) := by
  refine MetFree.of_bodySF (plainFor_of_name pn_2) hisR ?_
  intro p e s m args below meth c s₁ Bd hml0 hP hK
  obtain ⟨rfl, hZ, hh⟩ := hP
  have hx := Bd.exec
  have hby := Bd.bytes
  have hml : c.maxLocals = 1 := hml0
  have hown : s.vm.findClass "com/example/tessera/tessera/platform/SecretCodeIsPinValuePinLaw" = some m.cls := findClass_of_methodNamed Bd.named
  have hnm := (name_of_methodNamed Bd.named Bd.method).1
  have X0 : Stand p l e ({ frames := 0, cells := 0, slots := 0, locals := 0 } : Room) s m #[(.int x)] below meth c s₁ [] 0 0 := Stand.of_body Bd
  have e0 : s₁.heap = h0 := by rw [← hh, Bd.state]; rfl
  have N0 := Fr.nil n0
  have K0 := Keep.refl h0 []
  refine own_as (ef_2 m x) ?_
  show own_Ends p e below s₁ (mkF m 0 #[.val (.int x)] []) _
  refine own_go (fun _ => XS.iloadN X0.here hx rfl (hb hby d2_0) rfl) ?_
  show own_Ends p e below s₁ (mkF m 1 #[.val (.int x)] [(.int x)]) _
  refine own_go (fun _ => XS.bipush X0.here hx rfl (hb hby d2_1)) ?_
  show own_Ends p e below s₁ (mkF m 3 #[.val (.int x)] [(.int (48 : Int32)), (.int x)]) _
  by_cases hc3 : x < (48 : Int32)
  · refine own_go (fun _ => XS.icmpYes X0.here hx rfl (pc0 := 3) (pc' := 16) rfl (hb hby d2_3) rfl (tlt hc3).1 (by decide) (by decide)) ?_
    show own_Ends p e below s₁ (mkF m 16 #[.val (.int x)] []) _
    refine own_go (fun _ => XS.iconst X0.here hx rfl (hb hby d2_16)) ?_
    show own_Ends p e below s₁ (mkF m 17 #[.val (.int x)] [(.int (0 : Int32))]) _
    obtain ⟨fs, hr, hrun, hended, hW, hsame⟩ := X0.leave (v := some (.int (0 : Int32))) (fun h => by rw [Bd.returns] at h; cases h)
    refine ⟨_, _, retN X0 hx (t := .boolean) Bd.returns (by simp) (hb hby d2_17) hr, hrun, hended, _, _, rfl, ?_, ⟨_, rfl⟩, hW, hsame.mono (by decide) (by decide)⟩
    show Q_rm_d Z x h0 n0 _ s₁.heap _
    rw [e0]
    exact ⟨_, rfl, by unfold own_d; rw [if_pos hc3], N0, rfl⟩
  · refine own_go (fun _ => XS.icmpNo X0.here hx rfl (hb hby d2_3) rfl (flt hc3).1) ?_
    show own_Ends p e below s₁ (mkF m 6 #[.val (.int x)] []) _
    refine own_go (fun _ => XS.iloadN X0.here hx rfl (hb hby d2_6) rfl) ?_
    show own_Ends p e below s₁ (mkF m 7 #[.val (.int x)] [(.int x)]) _
    refine own_go (fun _ => XS.bipush X0.here hx rfl (hb hby d2_7)) ?_
    show own_Ends p e below s₁ (mkF m 9 #[.val (.int x)] [(.int (57 : Int32)), (.int x)]) _
    by_cases hc9 : (57 : Int32) < x
    · refine own_go (fun _ => XS.icmpYes X0.here hx rfl (pc0 := 9) (pc' := 16) rfl (hb hby d2_9) rfl (tlt hc9).2.2.1 (by decide) (by decide)) ?_
      show own_Ends p e below s₁ (mkF m 16 #[.val (.int x)] []) _
      refine own_go (fun _ => XS.iconst X0.here hx rfl (hb hby d2_16)) ?_
      show own_Ends p e below s₁ (mkF m 17 #[.val (.int x)] [(.int (0 : Int32))]) _
      obtain ⟨fs, hr, hrun, hended, hW, hsame⟩ := X0.leave (v := some (.int (0 : Int32))) (fun h => by rw [Bd.returns] at h; cases h)
      refine ⟨_, _, retN X0 hx (t := .boolean) Bd.returns (by simp) (hb hby d2_17) hr, hrun, hended, _, _, rfl, ?_, ⟨_, rfl⟩, hW, hsame.mono (by decide) (by decide)⟩
      show Q_rm_d Z x h0 n0 _ s₁.heap _
      rw [e0]
      exact ⟨_, rfl, by unfold own_d; rw [if_neg hc3, if_pos hc9], N0, rfl⟩
    · refine own_go (fun _ => XS.icmpNo X0.here hx rfl (hb hby d2_9) rfl (flt hc9).2.2.1) ?_
      show own_Ends p e below s₁ (mkF m 12 #[.val (.int x)] []) _
      refine own_go (fun _ => XS.iconst X0.here hx rfl (hb hby d2_12)) ?_
      show own_Ends p e below s₁ (mkF m 13 #[.val (.int x)] [(.int (1 : Int32))]) _
      refine own_go (fun _ => XS.goto X0.here hx rfl (pc0 := 13) (pc' := 17) rfl (hb hby d2_13) (by decide) (by decide)) ?_
      show own_Ends p e below s₁ (mkF m 17 #[.val (.int x)] [(.int (1 : Int32))]) _
      obtain ⟨fs, hr, hrun, hended, hW, hsame⟩ := X0.leave (v := some (.int (1 : Int32))) (fun h => by rw [Bd.returns] at h; cases h)
      refine ⟨_, _, retN X0 hx (t := .boolean) Bd.returns (by simp) (hb hby d2_17) hr, hrun, hended, _, _, rfl, ?_, ⟨_, rfl⟩, hW, hsame.mono (by decide) (by decide)⟩
      show Q_rm_d Z x h0 n0 _ s₁.heap _
      rw [e0]
      exact ⟨_, rfl, by unfold own_d; rw [if_neg hc3, if_neg hc9], N0, rfl⟩
theorem d4_0 : decode method_4_code 0 = .ok (.iload_n 0, 1) := by decide +kernel
theorem d4_1 : decode method_4_code 1 = .ok (.iconst (-1), 1) := by decide +kernel
theorem d4_2 : decode method_4_code 2 = .ok (.if_icmp .ne 7, 3) := by decide +kernel
theorem d4_5 : decode method_4_code 5 = .ok (.iconst 1, 1) := by decide +kernel
theorem d4_6 : decode method_4_code 6 = .ok (.goto 4, 3) := by decide +kernel
theorem d4_9 : decode method_4_code 9 = .ok (.iconst 0, 1) := by decide +kernel
theorem d4_10 : decode method_4_code 10 = .ok (.ireturn, 1) := by decide +kernel
theorem pn_4 : plainName "com/example/tessera/tessera/platform/SecretCodeIsPinValuePinLaw" = true := by first | (simp [plainName, overriddenIn]; done) | decide +kernel
theorem ef_4 (m : MethodId) (x : Int32) : entryFrame m #[(.int x)] 1 = mkF m 0 #[.val (.int x)] [] := by first | (simp [entryFrame, mkF, argsToLocals, Value.category]; done) | rfl
def Q_rm_p (Z : State) (x : Int32) (h0 : Heap) (n0 : Nat) (v : Option Value) (h : Heap) (L : List Loc) : Prop := ∃ z_ : Int32, v = some (.int z_) ∧ z_ = own_p x ∧ Fr n0 L ∧ h = h0
set_option maxRecDepth 65536 in
set_option maxHeartbeats 40000000 in
theorem rm_p (l : Launch) (Z : State) (a0 : Array Value) (hw : ∀ d ∈ tables_1, d.before a0 Z = true) (ws : List Jvm.Cond) (x : Int32) (h0 : Heap) (n0 : Nat) (Z0 : n0 ≤ h0.size) :
    MetFree l (⟨"com/example/tessera/tessera/platform/SecretCodeIsPinValuePinLaw", "p", "(B)Z"⟩ : MethodName) (head1 (Jvm.Cond.code (⟨"com/example/tessera/tessera/platform/SecretCodeIsPinValuePinLaw", "p", "(B)Z"⟩ : MethodName) method_4_code 1 (some .boolean) :: ws) ({ frames := 0, cells := 0, slots := 0, locals := 0 } : Room)) (fun aa U => aa = #[(.int x)] ∧ Z.Warmed39 U.vm ∧ U.heap = h0) (fun _ _ _ _ _ => True) (fun _ U ou U' => ∃ v L, ou = .returned v ∧ Q_rm_p Z x h0 n0 v U'.heap L ∧ FrameEnd U ou U' L ({ frames := 0, cells := 0, slots := 0, locals := 0 } : Room).cells ({ frames := 0, cells := 0, slots := 0, locals := 0 } : Room).slots) := by
  refine MetFree.of_bodySF (plainFor_of_name pn_4) hisR ?_
  intro p e s m args below meth c s₁ Bd hml0 hP hK
  obtain ⟨rfl, hZ, hh⟩ := hP
  have hx := Bd.exec
  have hby := Bd.bytes
  have hml : c.maxLocals = 1 := hml0
  have hown : s.vm.findClass "com/example/tessera/tessera/platform/SecretCodeIsPinValuePinLaw" = some m.cls := findClass_of_methodNamed Bd.named
  have hnm := (name_of_methodNamed Bd.named Bd.method).1
  have X0 : Stand p l e ({ frames := 0, cells := 0, slots := 0, locals := 0 } : Room) s m #[(.int x)] below meth c s₁ [] 0 0 := Stand.of_body Bd
  have e0 : s₁.heap = h0 := by rw [← hh, Bd.state]; rfl
  have N0 := Fr.nil n0
  have K0 := Keep.refl h0 []
  refine own_as (ef_4 m x) ?_
  show own_Ends p e below s₁ (mkF m 0 #[.val (.int x)] []) _
  refine own_go (fun _ => XS.iloadN X0.here hx rfl (hb hby d4_0) rfl) ?_
  show own_Ends p e below s₁ (mkF m 1 #[.val (.int x)] [(.int x)]) _
  refine own_go (fun _ => XS.iconst X0.here hx rfl (hb hby d4_1)) ?_
  show own_Ends p e below s₁ (mkF m 2 #[.val (.int x)] [(.int (-1 : Int32)), (.int x)]) _
  by_cases hc2 : x = (-1 : Int32)
  · refine own_go (fun _ => XS.icmpNo X0.here hx rfl (hb hby d4_2) rfl (teq hc2).2) ?_
    show own_Ends p e below s₁ (mkF m 5 #[.val (.int x)] []) _
    refine own_go (fun _ => XS.iconst X0.here hx rfl (hb hby d4_5)) ?_
    show own_Ends p e below s₁ (mkF m 6 #[.val (.int x)] [(.int (1 : Int32))]) _
    refine own_go (fun _ => XS.goto X0.here hx rfl (pc0 := 6) (pc' := 10) rfl (hb hby d4_6) (by decide) (by decide)) ?_
    show own_Ends p e below s₁ (mkF m 10 #[.val (.int x)] [(.int (1 : Int32))]) _
    obtain ⟨fs, hr, hrun, hended, hW, hsame⟩ := X0.leave (v := some (.int (1 : Int32))) (fun h => by rw [Bd.returns] at h; cases h)
    refine ⟨_, _, retN X0 hx (t := .boolean) Bd.returns (by simp) (hb hby d4_10) hr, hrun, hended, _, _, rfl, ?_, ⟨_, rfl⟩, hW, hsame.mono (by decide) (by decide)⟩
    show Q_rm_p Z x h0 n0 _ s₁.heap _
    rw [e0]
    exact ⟨_, rfl, by unfold own_p; rw [if_pos hc2], N0, rfl⟩
  · refine own_go (fun _ => XS.icmpYes X0.here hx rfl (pc0 := 2) (pc' := 9) rfl (hb hby d4_2) rfl (feq hc2).2 (by decide) (by decide)) ?_
    show own_Ends p e below s₁ (mkF m 9 #[.val (.int x)] []) _
    refine own_go (fun _ => XS.iconst X0.here hx rfl (hb hby d4_9)) ?_
    show own_Ends p e below s₁ (mkF m 10 #[.val (.int x)] [(.int (0 : Int32))]) _
    obtain ⟨fs, hr, hrun, hended, hW, hsame⟩ := X0.leave (v := some (.int (0 : Int32))) (fun h => by rw [Bd.returns] at h; cases h)
    refine ⟨_, _, retN X0 hx (t := .boolean) Bd.returns (by simp) (hb hby d4_10) hr, hrun, hended, _, _, rfl, ?_, ⟨_, rfl⟩, hW, hsame.mono (by decide) (by decide)⟩
    show Q_rm_p Z x h0 n0 _ s₁.heap _
    rw [e0]
    exact ⟨_, rfl, by unfold own_p; rw [if_neg hc2], N0, rfl⟩
theorem d3_0 : decode prog_52_method_7_code 0 = .ok (.iconst 0, 1) := by decide +kernel
theorem d3_1 : decode prog_52_method_7_code 1 = .ok (.istore_n 1, 1) := by decide +kernel
theorem d3_2 : decode prog_52_method_7_code 2 = .ok (.iload_n 1, 1) := by decide +kernel
theorem d3_3 : decode prog_52_method_7_code 3 = .ok (.bipush 8, 2) := by decide +kernel
theorem d3_5 : decode prog_52_method_7_code 5 = .ok (.if_icmp .ge 25, 3) := by decide +kernel
theorem d3_8 : decode prog_52_method_7_code 8 = .ok (.aload_n 0, 1) := by decide +kernel
theorem d3_9 : decode prog_52_method_7_code 9 = .ok (.iload_n 1, 1) := by decide +kernel
theorem d3_10 : decode prog_52_method_7_code 10 = .ok (.baload, 1) := by decide +kernel
theorem d3_11 : decode prog_52_method_7_code 11 = .ok (.bipush 48, 2) := by decide +kernel
theorem d3_13 : decode prog_52_method_7_code 13 = .ok (.if_icmp .lt 17, 3) := by decide +kernel
theorem d3_16 : decode prog_52_method_7_code 16 = .ok (.aload_n 0, 1) := by decide +kernel
theorem d3_17 : decode prog_52_method_7_code 17 = .ok (.iload_n 1, 1) := by decide +kernel
theorem d3_18 : decode prog_52_method_7_code 18 = .ok (.baload, 1) := by decide +kernel
theorem d3_19 : decode prog_52_method_7_code 19 = .ok (.bipush 57, 2) := by decide +kernel
theorem d3_21 : decode prog_52_method_7_code 21 = .ok (.if_icmp .gt 9, 3) := by decide +kernel
theorem d3_24 : decode prog_52_method_7_code 24 = .ok (.iinc 1 1, 3) := by decide +kernel
theorem d3_27 : decode prog_52_method_7_code 27 = .ok (.goto (-25), 3) := by decide +kernel
theorem d3_30 : decode prog_52_method_7_code 30 = .ok (.iload_n 1, 1) := by decide +kernel
theorem d3_31 : decode prog_52_method_7_code 31 = .ok (.istore_n 2, 1) := by decide +kernel
theorem d3_32 : decode prog_52_method_7_code 32 = .ok (.iload_n 2, 1) := by decide +kernel
theorem d3_33 : decode prog_52_method_7_code 33 = .ok (.bipush 8, 2) := by decide +kernel
theorem d3_35 : decode prog_52_method_7_code 35 = .ok (.if_icmp .ge 18, 3) := by decide +kernel
theorem d3_38 : decode prog_52_method_7_code 38 = .ok (.aload_n 0, 1) := by decide +kernel
theorem d3_39 : decode prog_52_method_7_code 39 = .ok (.iload_n 2, 1) := by decide +kernel
theorem d3_40 : decode prog_52_method_7_code 40 = .ok (.baload, 1) := by decide +kernel
theorem d3_41 : decode prog_52_method_7_code 41 = .ok (.iconst (-1), 1) := by decide +kernel
theorem d3_42 : decode prog_52_method_7_code 42 = .ok (.if_icmp .eq 5, 3) := by decide +kernel
theorem d3_45 : decode prog_52_method_7_code 45 = .ok (.iconst 0, 1) := by decide +kernel
theorem d3_46 : decode prog_52_method_7_code 46 = .ok (.ireturn, 1) := by decide +kernel
theorem d3_47 : decode prog_52_method_7_code 47 = .ok (.iinc 2 1, 3) := by decide +kernel
theorem d3_50 : decode prog_52_method_7_code 50 = .ok (.goto (-18), 3) := by decide +kernel
theorem d3_53 : decode prog_52_method_7_code 53 = .ok (.iload_n 1, 1) := by decide +kernel
theorem d3_54 : decode prog_52_method_7_code 54 = .ok (.iconst 4, 1) := by decide +kernel
theorem d3_55 : decode prog_52_method_7_code 55 = .ok (.if_icmp .lt 7, 3) := by decide +kernel
theorem d3_58 : decode prog_52_method_7_code 58 = .ok (.iconst 1, 1) := by decide +kernel
theorem d3_59 : decode prog_52_method_7_code 59 = .ok (.goto 4, 3) := by decide +kernel
theorem d3_62 : decode prog_52_method_7_code 62 = .ok (.iconst 0, 1) := by decide +kernel
theorem d3_63 : decode prog_52_method_7_code 63 = .ok (.ireturn, 1) := by decide +kernel
theorem pn_3 : plainName "com/example/tessera/tessera/platform/SecretCode" = true := by first | (simp [plainName, overriddenIn]; done) | decide +kernel
theorem ef_3 (m : MethodId) (a : Addr) : entryFrame m #[(.ref a)] 3 = mkF m 0 #[.val (.ref a), .unset, .unset] [] := by first | (simp [entryFrame, mkF, argsToLocals, Value.category]; done) | rfl
def Q_rmPin (Z : State) (a : Addr) (kl : ClassId) (c0 : Int32) (c1 : Int32) (c2 : Int32) (c3 : Int32) (c4 : Int32) (c5 : Int32) (c6 : Int32) (c7 : Int32) (h0 : Heap) (n0 : Nat) (v : Option Value) (h : Heap) (L : List Loc) : Prop := ∃ z_ : Int32, v = some (.int z_) ∧ z_ = own_scan [c0, c1, c2, c3, c4, c5, c6, c7] 0 ∧ Fr n0 L ∧ h = h0
set_option maxRecDepth 65536 in
set_option maxHeartbeats 40000000 in
theorem rmPin (l : Launch) (Z : State) (a0 : Array Value) (hw : ∀ d ∈ tables_1, d.before a0 Z = true) (ws : List Jvm.Cond) (a : Addr) (kl : ClassId) (c0 : Int32) (c1 : Int32) (c2 : Int32) (c3 : Int32) (c4 : Int32) (c5 : Int32) (c6 : Int32) (c7 : Int32) (h0 : Heap) (n0 : Nat) (Z0 : n0 ≤ h0.size) (V_a : Arv Z h0 a kl .byte (8 : Int32) [(.int c0), (.int c1), (.int c2), (.int c3), (.int c4), (.int c5), (.int c6), (.int c7)] (.int (0 : Int32))) :
    MetFree l (⟨"com/example/tessera/tessera/platform/SecretCode", "isPinValue", "([B)Z"⟩ : MethodName) (head1 (Jvm.Cond.code (⟨"com/example/tessera/tessera/platform/SecretCode", "isPinValue", "([B)Z"⟩ : MethodName) prog_52_method_7_code 3 (some .boolean) :: ws) ({ frames := 0, cells := 0, slots := 0, locals := 0 } : Room)) (fun aa U => aa = #[(.ref a)] ∧ Z.Warmed39 U.vm ∧ U.heap = h0) (fun _ _ _ _ _ => True) (fun _ U ou U' => ∃ v L, ou = .returned v ∧ Q_rmPin Z a kl c0 c1 c2 c3 c4 c5 c6 c7 h0 n0 v U'.heap L ∧ FrameEnd U ou U' L ({ frames := 0, cells := 0, slots := 0, locals := 0 } : Room).cells ({ frames := 0, cells := 0, slots := 0, locals := 0 } : Room).slots) := by
  refine MetFree.of_bodySF (plainFor_of_name pn_3) hisR ?_
  intro p e s m args below meth c s₁ Bd hml0 hP hK
  obtain ⟨rfl, hZ, hh⟩ := hP
  have hx := Bd.exec
  have hby := Bd.bytes
  have hml : c.maxLocals = 3 := hml0
  have hown : s.vm.findClass "com/example/tessera/tessera/platform/SecretCode" = some m.cls := findClass_of_methodNamed Bd.named
  have hnm := (name_of_methodNamed Bd.named Bd.method).1
  have X0 : Stand p l e ({ frames := 0, cells := 0, slots := 0, locals := 0 } : Room) s m #[(.ref a)] below meth c s₁ [] 0 0 := Stand.of_body Bd
  have e0 : s₁.heap = h0 := by rw [← hh, Bd.state]; rfl
  have N0 := Fr.nil n0
  have K0 := Keep.refl h0 []
  refine own_as (ef_3 m a) ?_
  show own_Ends p e below s₁ (mkF m 0 #[.val (.ref a), .unset, .unset] []) _
  refine own_go (fun _ => XS.iconst X0.here hx rfl (hb hby d3_0)) ?_
  show own_Ends p e below s₁ (mkF m 1 #[.val (.ref a), .unset, .unset] [(.int (0 : Int32))]) _
  refine own_go (fun _ => XS.istoreN X0.here hx rfl (hb hby d3_1) rfl (l' := #[.val (.ref a), .val (.int (0 : Int32)), .unset]) rfl) ?_
  show own_Ends p e below s₁ (mkF m 2 #[.val (.ref a), .val (.int (0 : Int32)), .unset] []) _
  refine own_go (fun _ => XS.iloadN X0.here hx rfl (hb hby d3_2) rfl) ?_
  show own_Ends p e below s₁ (mkF m 3 #[.val (.ref a), .val (.int (0 : Int32)), .unset] [(.int (0 : Int32))]) _
  refine own_go (fun _ => XS.bipush X0.here hx rfl (hb hby d3_3)) ?_
  show own_Ends p e below s₁ (mkF m 5 #[.val (.ref a), .val (.int (0 : Int32)), .unset] [(.int (8 : Int32)), (.int (0 : Int32))]) _
  refine own_go (fun _ => XS.icmpNo X0.here hx rfl (hb hby d3_5) rfl (tlt (show (0 : Int32) < (8 : Int32) from by decide)).2.1) ?_
  show own_Ends p e below s₁ (mkF m 8 #[.val (.ref a), .val (.int (0 : Int32)), .unset] []) _
  refine own_go (fun _ => XS.aloadN X0.here hx rfl (hb hby d3_8) rfl rfl) ?_
  show own_Ends p e below s₁ (mkF m 9 #[.val (.ref a), .val (.int (0 : Int32)), .unset] [(.ref a)]) _
  refine own_go (fun _ => XS.iloadN X0.here hx rfl (hb hby d3_9) rfl) ?_
  show own_Ends p e below s₁ (mkF m 10 #[.val (.ref a), .val (.int (0 : Int32)), .unset] [(.int (0 : Int32)), (.ref a)]) _
  obtain ⟨cl_1, Ar_1, q_1, S_1, M_1, H_1, G_1⟩ := V_a
  have hin1 : ¬ ((0 : Int32) < 0 ∨ cl_1.slots.size ≤ ((0 : Int32)).toNatClampNeg) := inb_of S_1 ⟨by decide, by decide⟩
  have hat1 : cl_1.slots[((0 : Int32)).toNatClampNeg]? = some (.int c0) := Has.at H_1 hin1 (rfl)
  refine own_go (X0.baloadBytes hx (j := (0 : Int32)) (v := (.int c0)) (by rw [e0]; exact Ar_1.1) (State.isArrayOf_alike hZ.alike Ar_1.2.1) Ar_1.2.2 hin1 hat1 (g := (mkF m 10 #[.val (.ref a), .val (.int (0 : Int32)), .unset] [(.int (0 : Int32)), (.ref a)])) rfl rfl (hb hby d3_10)) ?_
  have V_a_r1 : Arv Z h0 a kl .byte (8 : Int32) [(.int c0), (.int c1), (.int c2), (.int c3), (.int c4), (.int c5), (.int c6), (.int c7)] (.int (0 : Int32)) := ⟨cl_1, Ar_1, q_1, S_1, M_1, H_1, G_1⟩
  show own_Ends p e below s₁ (mkF m 11 #[.val (.ref a), .val (.int (0 : Int32)), .unset] [(.int c0)]) _
  refine own_go (fun _ => XS.bipush X0.here hx rfl (hb hby d3_11)) ?_
  show own_Ends p e below s₁ (mkF m 13 #[.val (.ref a), .val (.int (0 : Int32)), .unset] [(.int (48 : Int32)), (.int c0)]) _
  by_cases hc13 : c0 < (48 : Int32)
  · refine own_go (fun _ => XS.icmpYes X0.here hx rfl (pc0 := 13) (pc' := 30) rfl (hb hby d3_13) rfl (tlt hc13).1 (by decide) (by decide)) ?_
    show own_Ends p e below s₁ (mkF m 30 #[.val (.ref a), .val (.int (0 : Int32)), .unset] []) _
    refine own_go (fun _ => XS.iloadN X0.here hx rfl (hb hby d3_30) rfl) ?_
    show own_Ends p e below s₁ (mkF m 31 #[.val (.ref a), .val (.int (0 : Int32)), .unset] [(.int (0 : Int32))]) _
    refine own_go (fun _ => XS.istoreN X0.here hx rfl (hb hby d3_31) rfl (l' := #[.val (.ref a), .val (.int (0 : Int32)), .val (.int (0 : Int32))]) rfl) ?_
    show own_Ends p e below s₁ (mkF m 32 #[.val (.ref a), .val (.int (0 : Int32)), .val (.int (0 : Int32))] []) _
    refine own_go (fun _ => XS.iloadN X0.here hx rfl (hb hby d3_32) rfl) ?_
    show own_Ends p e below s₁ (mkF m 33 #[.val (.ref a), .val (.int (0 : Int32)), .val (.int (0 : Int32))] [(.int (0 : Int32))]) _
    refine own_go (fun _ => XS.bipush X0.here hx rfl (hb hby d3_33)) ?_
    show own_Ends p e below s₁ (mkF m 35 #[.val (.ref a), .val (.int (0 : Int32)), .val (.int (0 : Int32))] [(.int (8 : Int32)), (.int (0 : Int32))]) _
    refine own_go (fun _ => XS.icmpNo X0.here hx rfl (hb hby d3_35) rfl (tlt (show (0 : Int32) < (8 : Int32) from by decide)).2.1) ?_
    show own_Ends p e below s₁ (mkF m 38 #[.val (.ref a), .val (.int (0 : Int32)), .val (.int (0 : Int32))] []) _
    refine own_go (fun _ => XS.aloadN X0.here hx rfl (hb hby d3_38) rfl rfl) ?_
    show own_Ends p e below s₁ (mkF m 39 #[.val (.ref a), .val (.int (0 : Int32)), .val (.int (0 : Int32))] [(.ref a)]) _
    refine own_go (fun _ => XS.iloadN X0.here hx rfl (hb hby d3_39) rfl) ?_
    show own_Ends p e below s₁ (mkF m 40 #[.val (.ref a), .val (.int (0 : Int32)), .val (.int (0 : Int32))] [(.int (0 : Int32)), (.ref a)]) _
    obtain ⟨cl_2, Ar_2, q_2, S_2, M_2, H_2, G_2⟩ := V_a_r1
    have hin2 : ¬ ((0 : Int32) < 0 ∨ cl_2.slots.size ≤ ((0 : Int32)).toNatClampNeg) := inb_of S_2 ⟨by decide, by decide⟩
    have hat2 : cl_2.slots[((0 : Int32)).toNatClampNeg]? = some (.int c0) := Has.at H_2 hin2 (rfl)
    refine own_go (X0.baloadBytes hx (j := (0 : Int32)) (v := (.int c0)) (by rw [e0]; exact Ar_2.1) (State.isArrayOf_alike hZ.alike Ar_2.2.1) Ar_2.2.2 hin2 hat2 (g := (mkF m 40 #[.val (.ref a), .val (.int (0 : Int32)), .val (.int (0 : Int32))] [(.int (0 : Int32)), (.ref a)])) rfl rfl (hb hby d3_40)) ?_
    have V_a_r2 : Arv Z h0 a kl .byte (8 : Int32) [(.int c0), (.int c1), (.int c2), (.int c3), (.int c4), (.int c5), (.int c6), (.int c7)] (.int (0 : Int32)) := ⟨cl_2, Ar_2, q_2, S_2, M_2, H_2, G_2⟩
    show own_Ends p e below s₁ (mkF m 41 #[.val (.ref a), .val (.int (0 : Int32)), .val (.int (0 : Int32))] [(.int c0)]) _
    refine own_go (fun _ => XS.iconst X0.here hx rfl (hb hby d3_41)) ?_
    show own_Ends p e below s₁ (mkF m 42 #[.val (.ref a), .val (.int (0 : Int32)), .val (.int (0 : Int32))] [(.int (-1 : Int32)), (.int c0)]) _
    by_cases hc42 : c0 = (-1 : Int32)
    · refine own_go (fun _ => XS.icmpYes X0.here hx rfl (pc0 := 42) (pc' := 47) rfl (hb hby d3_42) rfl (teq hc42).1 (by decide) (by decide)) ?_
      show own_Ends p e below s₁ (mkF m 47 #[.val (.ref a), .val (.int (0 : Int32)), .val (.int (0 : Int32))] []) _
      refine own_go (fun _ => XS.iinc X0.here hx rfl (hb hby d3_47) rfl (l' := #[.val (.ref a), .val (.int (0 : Int32)), .val (.int (1 : Int32))]) rfl) ?_
      show own_Ends p e below s₁ (mkF m 50 #[.val (.ref a), .val (.int (0 : Int32)), .val (.int (1 : Int32))] []) _
      refine own_go (fun _ => XS.goto X0.here hx rfl (pc0 := 50) (pc' := 32) rfl (hb hby d3_50) (by decide) (by decide)) ?_
      show own_Ends p e below s₁ (mkF m 32 #[.val (.ref a), .val (.int (0 : Int32)), .val (.int (1 : Int32))] []) _
      refine own_go (fun _ => XS.iloadN X0.here hx rfl (hb hby d3_32) rfl) ?_
      show own_Ends p e below s₁ (mkF m 33 #[.val (.ref a), .val (.int (0 : Int32)), .val (.int (1 : Int32))] [(.int (1 : Int32))]) _
      refine own_go (fun _ => XS.bipush X0.here hx rfl (hb hby d3_33)) ?_
      show own_Ends p e below s₁ (mkF m 35 #[.val (.ref a), .val (.int (0 : Int32)), .val (.int (1 : Int32))] [(.int (8 : Int32)), (.int (1 : Int32))]) _
      refine own_go (fun _ => XS.icmpNo X0.here hx rfl (hb hby d3_35) rfl (tlt (show (1 : Int32) < (8 : Int32) from by decide)).2.1) ?_
      show own_Ends p e below s₁ (mkF m 38 #[.val (.ref a), .val (.int (0 : Int32)), .val (.int (1 : Int32))] []) _
      refine own_go (fun _ => XS.aloadN X0.here hx rfl (hb hby d3_38) rfl rfl) ?_
      show own_Ends p e below s₁ (mkF m 39 #[.val (.ref a), .val (.int (0 : Int32)), .val (.int (1 : Int32))] [(.ref a)]) _
      refine own_go (fun _ => XS.iloadN X0.here hx rfl (hb hby d3_39) rfl) ?_
      show own_Ends p e below s₁ (mkF m 40 #[.val (.ref a), .val (.int (0 : Int32)), .val (.int (1 : Int32))] [(.int (1 : Int32)), (.ref a)]) _
      obtain ⟨cl_3, Ar_3, q_3, S_3, M_3, H_3, G_3⟩ := V_a_r2
      have hin3 : ¬ ((1 : Int32) < 0 ∨ cl_3.slots.size ≤ ((1 : Int32)).toNatClampNeg) := inb_of S_3 ⟨by decide, by decide⟩
      have hat3 : cl_3.slots[((1 : Int32)).toNatClampNeg]? = some (.int c1) := Has.at H_3 hin3 (rfl)
      refine own_go (X0.baloadBytes hx (j := (1 : Int32)) (v := (.int c1)) (by rw [e0]; exact Ar_3.1) (State.isArrayOf_alike hZ.alike Ar_3.2.1) Ar_3.2.2 hin3 hat3 (g := (mkF m 40 #[.val (.ref a), .val (.int (0 : Int32)), .val (.int (1 : Int32))] [(.int (1 : Int32)), (.ref a)])) rfl rfl (hb hby d3_40)) ?_
      have V_a_r3 : Arv Z h0 a kl .byte (8 : Int32) [(.int c0), (.int c1), (.int c2), (.int c3), (.int c4), (.int c5), (.int c6), (.int c7)] (.int (0 : Int32)) := ⟨cl_3, Ar_3, q_3, S_3, M_3, H_3, G_3⟩
      show own_Ends p e below s₁ (mkF m 41 #[.val (.ref a), .val (.int (0 : Int32)), .val (.int (1 : Int32))] [(.int c1)]) _
      refine own_go (fun _ => XS.iconst X0.here hx rfl (hb hby d3_41)) ?_
      show own_Ends p e below s₁ (mkF m 42 #[.val (.ref a), .val (.int (0 : Int32)), .val (.int (1 : Int32))] [(.int (-1 : Int32)), (.int c1)]) _
      by_cases hc42_1 : c1 = (-1 : Int32)
      · refine own_go (fun _ => XS.icmpYes X0.here hx rfl (pc0 := 42) (pc' := 47) rfl (hb hby d3_42) rfl (teq hc42_1).1 (by decide) (by decide)) ?_
        show own_Ends p e below s₁ (mkF m 47 #[.val (.ref a), .val (.int (0 : Int32)), .val (.int (1 : Int32))] []) _
        refine own_go (fun _ => XS.iinc X0.here hx rfl (hb hby d3_47) rfl (l' := #[.val (.ref a), .val (.int (0 : Int32)), .val (.int (2 : Int32))]) rfl) ?_
        show own_Ends p e below s₁ (mkF m 50 #[.val (.ref a), .val (.int (0 : Int32)), .val (.int (2 : Int32))] []) _
        refine own_go (fun _ => XS.goto X0.here hx rfl (pc0 := 50) (pc' := 32) rfl (hb hby d3_50) (by decide) (by decide)) ?_
        show own_Ends p e below s₁ (mkF m 32 #[.val (.ref a), .val (.int (0 : Int32)), .val (.int (2 : Int32))] []) _
        refine own_go (fun _ => XS.iloadN X0.here hx rfl (hb hby d3_32) rfl) ?_
        show own_Ends p e below s₁ (mkF m 33 #[.val (.ref a), .val (.int (0 : Int32)), .val (.int (2 : Int32))] [(.int (2 : Int32))]) _
        refine own_go (fun _ => XS.bipush X0.here hx rfl (hb hby d3_33)) ?_
        show own_Ends p e below s₁ (mkF m 35 #[.val (.ref a), .val (.int (0 : Int32)), .val (.int (2 : Int32))] [(.int (8 : Int32)), (.int (2 : Int32))]) _
        refine own_go (fun _ => XS.icmpNo X0.here hx rfl (hb hby d3_35) rfl (tlt (show (2 : Int32) < (8 : Int32) from by decide)).2.1) ?_
        show own_Ends p e below s₁ (mkF m 38 #[.val (.ref a), .val (.int (0 : Int32)), .val (.int (2 : Int32))] []) _
        refine own_go (fun _ => XS.aloadN X0.here hx rfl (hb hby d3_38) rfl rfl) ?_
        show own_Ends p e below s₁ (mkF m 39 #[.val (.ref a), .val (.int (0 : Int32)), .val (.int (2 : Int32))] [(.ref a)]) _
        refine own_go (fun _ => XS.iloadN X0.here hx rfl (hb hby d3_39) rfl) ?_
        show own_Ends p e below s₁ (mkF m 40 #[.val (.ref a), .val (.int (0 : Int32)), .val (.int (2 : Int32))] [(.int (2 : Int32)), (.ref a)]) _
        obtain ⟨cl_4, Ar_4, q_4, S_4, M_4, H_4, G_4⟩ := V_a_r3
        have hin4 : ¬ ((2 : Int32) < 0 ∨ cl_4.slots.size ≤ ((2 : Int32)).toNatClampNeg) := inb_of S_4 ⟨by decide, by decide⟩
        have hat4 : cl_4.slots[((2 : Int32)).toNatClampNeg]? = some (.int c2) := Has.at H_4 hin4 (rfl)
        refine own_go (X0.baloadBytes hx (j := (2 : Int32)) (v := (.int c2)) (by rw [e0]; exact Ar_4.1) (State.isArrayOf_alike hZ.alike Ar_4.2.1) Ar_4.2.2 hin4 hat4 (g := (mkF m 40 #[.val (.ref a), .val (.int (0 : Int32)), .val (.int (2 : Int32))] [(.int (2 : Int32)), (.ref a)])) rfl rfl (hb hby d3_40)) ?_
        have V_a_r4 : Arv Z h0 a kl .byte (8 : Int32) [(.int c0), (.int c1), (.int c2), (.int c3), (.int c4), (.int c5), (.int c6), (.int c7)] (.int (0 : Int32)) := ⟨cl_4, Ar_4, q_4, S_4, M_4, H_4, G_4⟩
        show own_Ends p e below s₁ (mkF m 41 #[.val (.ref a), .val (.int (0 : Int32)), .val (.int (2 : Int32))] [(.int c2)]) _
        refine own_go (fun _ => XS.iconst X0.here hx rfl (hb hby d3_41)) ?_
        show own_Ends p e below s₁ (mkF m 42 #[.val (.ref a), .val (.int (0 : Int32)), .val (.int (2 : Int32))] [(.int (-1 : Int32)), (.int c2)]) _
        by_cases hc42_2 : c2 = (-1 : Int32)
        · refine own_go (fun _ => XS.icmpYes X0.here hx rfl (pc0 := 42) (pc' := 47) rfl (hb hby d3_42) rfl (teq hc42_2).1 (by decide) (by decide)) ?_
          show own_Ends p e below s₁ (mkF m 47 #[.val (.ref a), .val (.int (0 : Int32)), .val (.int (2 : Int32))] []) _
          refine own_go (fun _ => XS.iinc X0.here hx rfl (hb hby d3_47) rfl (l' := #[.val (.ref a), .val (.int (0 : Int32)), .val (.int (3 : Int32))]) rfl) ?_
          show own_Ends p e below s₁ (mkF m 50 #[.val (.ref a), .val (.int (0 : Int32)), .val (.int (3 : Int32))] []) _
          refine own_go (fun _ => XS.goto X0.here hx rfl (pc0 := 50) (pc' := 32) rfl (hb hby d3_50) (by decide) (by decide)) ?_
          show own_Ends p e below s₁ (mkF m 32 #[.val (.ref a), .val (.int (0 : Int32)), .val (.int (3 : Int32))] []) _
          refine own_go (fun _ => XS.iloadN X0.here hx rfl (hb hby d3_32) rfl) ?_
          show own_Ends p e below s₁ (mkF m 33 #[.val (.ref a), .val (.int (0 : Int32)), .val (.int (3 : Int32))] [(.int (3 : Int32))]) _
          refine own_go (fun _ => XS.bipush X0.here hx rfl (hb hby d3_33)) ?_
          show own_Ends p e below s₁ (mkF m 35 #[.val (.ref a), .val (.int (0 : Int32)), .val (.int (3 : Int32))] [(.int (8 : Int32)), (.int (3 : Int32))]) _
          refine own_go (fun _ => XS.icmpNo X0.here hx rfl (hb hby d3_35) rfl (tlt (show (3 : Int32) < (8 : Int32) from by decide)).2.1) ?_
          show own_Ends p e below s₁ (mkF m 38 #[.val (.ref a), .val (.int (0 : Int32)), .val (.int (3 : Int32))] []) _
          refine own_go (fun _ => XS.aloadN X0.here hx rfl (hb hby d3_38) rfl rfl) ?_
          show own_Ends p e below s₁ (mkF m 39 #[.val (.ref a), .val (.int (0 : Int32)), .val (.int (3 : Int32))] [(.ref a)]) _
          refine own_go (fun _ => XS.iloadN X0.here hx rfl (hb hby d3_39) rfl) ?_
          show own_Ends p e below s₁ (mkF m 40 #[.val (.ref a), .val (.int (0 : Int32)), .val (.int (3 : Int32))] [(.int (3 : Int32)), (.ref a)]) _
          obtain ⟨cl_5, Ar_5, q_5, S_5, M_5, H_5, G_5⟩ := V_a_r4
          have hin5 : ¬ ((3 : Int32) < 0 ∨ cl_5.slots.size ≤ ((3 : Int32)).toNatClampNeg) := inb_of S_5 ⟨by decide, by decide⟩
          have hat5 : cl_5.slots[((3 : Int32)).toNatClampNeg]? = some (.int c3) := Has.at H_5 hin5 (rfl)
          refine own_go (X0.baloadBytes hx (j := (3 : Int32)) (v := (.int c3)) (by rw [e0]; exact Ar_5.1) (State.isArrayOf_alike hZ.alike Ar_5.2.1) Ar_5.2.2 hin5 hat5 (g := (mkF m 40 #[.val (.ref a), .val (.int (0 : Int32)), .val (.int (3 : Int32))] [(.int (3 : Int32)), (.ref a)])) rfl rfl (hb hby d3_40)) ?_
          have V_a_r5 : Arv Z h0 a kl .byte (8 : Int32) [(.int c0), (.int c1), (.int c2), (.int c3), (.int c4), (.int c5), (.int c6), (.int c7)] (.int (0 : Int32)) := ⟨cl_5, Ar_5, q_5, S_5, M_5, H_5, G_5⟩
          show own_Ends p e below s₁ (mkF m 41 #[.val (.ref a), .val (.int (0 : Int32)), .val (.int (3 : Int32))] [(.int c3)]) _
          refine own_go (fun _ => XS.iconst X0.here hx rfl (hb hby d3_41)) ?_
          show own_Ends p e below s₁ (mkF m 42 #[.val (.ref a), .val (.int (0 : Int32)), .val (.int (3 : Int32))] [(.int (-1 : Int32)), (.int c3)]) _
          by_cases hc42_3 : c3 = (-1 : Int32)
          · refine own_go (fun _ => XS.icmpYes X0.here hx rfl (pc0 := 42) (pc' := 47) rfl (hb hby d3_42) rfl (teq hc42_3).1 (by decide) (by decide)) ?_
            show own_Ends p e below s₁ (mkF m 47 #[.val (.ref a), .val (.int (0 : Int32)), .val (.int (3 : Int32))] []) _
            refine own_go (fun _ => XS.iinc X0.here hx rfl (hb hby d3_47) rfl (l' := #[.val (.ref a), .val (.int (0 : Int32)), .val (.int (4 : Int32))]) rfl) ?_
            show own_Ends p e below s₁ (mkF m 50 #[.val (.ref a), .val (.int (0 : Int32)), .val (.int (4 : Int32))] []) _
            refine own_go (fun _ => XS.goto X0.here hx rfl (pc0 := 50) (pc' := 32) rfl (hb hby d3_50) (by decide) (by decide)) ?_
            show own_Ends p e below s₁ (mkF m 32 #[.val (.ref a), .val (.int (0 : Int32)), .val (.int (4 : Int32))] []) _
            refine own_go (fun _ => XS.iloadN X0.here hx rfl (hb hby d3_32) rfl) ?_
            show own_Ends p e below s₁ (mkF m 33 #[.val (.ref a), .val (.int (0 : Int32)), .val (.int (4 : Int32))] [(.int (4 : Int32))]) _
            refine own_go (fun _ => XS.bipush X0.here hx rfl (hb hby d3_33)) ?_
            show own_Ends p e below s₁ (mkF m 35 #[.val (.ref a), .val (.int (0 : Int32)), .val (.int (4 : Int32))] [(.int (8 : Int32)), (.int (4 : Int32))]) _
            refine own_go (fun _ => XS.icmpNo X0.here hx rfl (hb hby d3_35) rfl (tlt (show (4 : Int32) < (8 : Int32) from by decide)).2.1) ?_
            show own_Ends p e below s₁ (mkF m 38 #[.val (.ref a), .val (.int (0 : Int32)), .val (.int (4 : Int32))] []) _
            refine own_go (fun _ => XS.aloadN X0.here hx rfl (hb hby d3_38) rfl rfl) ?_
            show own_Ends p e below s₁ (mkF m 39 #[.val (.ref a), .val (.int (0 : Int32)), .val (.int (4 : Int32))] [(.ref a)]) _
            refine own_go (fun _ => XS.iloadN X0.here hx rfl (hb hby d3_39) rfl) ?_
            show own_Ends p e below s₁ (mkF m 40 #[.val (.ref a), .val (.int (0 : Int32)), .val (.int (4 : Int32))] [(.int (4 : Int32)), (.ref a)]) _
            obtain ⟨cl_6, Ar_6, q_6, S_6, M_6, H_6, G_6⟩ := V_a_r5
            have hin6 : ¬ ((4 : Int32) < 0 ∨ cl_6.slots.size ≤ ((4 : Int32)).toNatClampNeg) := inb_of S_6 ⟨by decide, by decide⟩
            have hat6 : cl_6.slots[((4 : Int32)).toNatClampNeg]? = some (.int c4) := Has.at H_6 hin6 (rfl)
            refine own_go (X0.baloadBytes hx (j := (4 : Int32)) (v := (.int c4)) (by rw [e0]; exact Ar_6.1) (State.isArrayOf_alike hZ.alike Ar_6.2.1) Ar_6.2.2 hin6 hat6 (g := (mkF m 40 #[.val (.ref a), .val (.int (0 : Int32)), .val (.int (4 : Int32))] [(.int (4 : Int32)), (.ref a)])) rfl rfl (hb hby d3_40)) ?_
            have V_a_r6 : Arv Z h0 a kl .byte (8 : Int32) [(.int c0), (.int c1), (.int c2), (.int c3), (.int c4), (.int c5), (.int c6), (.int c7)] (.int (0 : Int32)) := ⟨cl_6, Ar_6, q_6, S_6, M_6, H_6, G_6⟩
            show own_Ends p e below s₁ (mkF m 41 #[.val (.ref a), .val (.int (0 : Int32)), .val (.int (4 : Int32))] [(.int c4)]) _
            refine own_go (fun _ => XS.iconst X0.here hx rfl (hb hby d3_41)) ?_
            show own_Ends p e below s₁ (mkF m 42 #[.val (.ref a), .val (.int (0 : Int32)), .val (.int (4 : Int32))] [(.int (-1 : Int32)), (.int c4)]) _
            by_cases hc42_4 : c4 = (-1 : Int32)
            · refine own_go (fun _ => XS.icmpYes X0.here hx rfl (pc0 := 42) (pc' := 47) rfl (hb hby d3_42) rfl (teq hc42_4).1 (by decide) (by decide)) ?_
              show own_Ends p e below s₁ (mkF m 47 #[.val (.ref a), .val (.int (0 : Int32)), .val (.int (4 : Int32))] []) _
              refine own_go (fun _ => XS.iinc X0.here hx rfl (hb hby d3_47) rfl (l' := #[.val (.ref a), .val (.int (0 : Int32)), .val (.int (5 : Int32))]) rfl) ?_
              show own_Ends p e below s₁ (mkF m 50 #[.val (.ref a), .val (.int (0 : Int32)), .val (.int (5 : Int32))] []) _
              refine own_go (fun _ => XS.goto X0.here hx rfl (pc0 := 50) (pc' := 32) rfl (hb hby d3_50) (by decide) (by decide)) ?_
              show own_Ends p e below s₁ (mkF m 32 #[.val (.ref a), .val (.int (0 : Int32)), .val (.int (5 : Int32))] []) _
              refine own_go (fun _ => XS.iloadN X0.here hx rfl (hb hby d3_32) rfl) ?_
              show own_Ends p e below s₁ (mkF m 33 #[.val (.ref a), .val (.int (0 : Int32)), .val (.int (5 : Int32))] [(.int (5 : Int32))]) _
              refine own_go (fun _ => XS.bipush X0.here hx rfl (hb hby d3_33)) ?_
              show own_Ends p e below s₁ (mkF m 35 #[.val (.ref a), .val (.int (0 : Int32)), .val (.int (5 : Int32))] [(.int (8 : Int32)), (.int (5 : Int32))]) _
              refine own_go (fun _ => XS.icmpNo X0.here hx rfl (hb hby d3_35) rfl (tlt (show (5 : Int32) < (8 : Int32) from by decide)).2.1) ?_
              show own_Ends p e below s₁ (mkF m 38 #[.val (.ref a), .val (.int (0 : Int32)), .val (.int (5 : Int32))] []) _
              refine own_go (fun _ => XS.aloadN X0.here hx rfl (hb hby d3_38) rfl rfl) ?_
              show own_Ends p e below s₁ (mkF m 39 #[.val (.ref a), .val (.int (0 : Int32)), .val (.int (5 : Int32))] [(.ref a)]) _
              refine own_go (fun _ => XS.iloadN X0.here hx rfl (hb hby d3_39) rfl) ?_
              show own_Ends p e below s₁ (mkF m 40 #[.val (.ref a), .val (.int (0 : Int32)), .val (.int (5 : Int32))] [(.int (5 : Int32)), (.ref a)]) _
              obtain ⟨cl_7, Ar_7, q_7, S_7, M_7, H_7, G_7⟩ := V_a_r6
              have hin7 : ¬ ((5 : Int32) < 0 ∨ cl_7.slots.size ≤ ((5 : Int32)).toNatClampNeg) := inb_of S_7 ⟨by decide, by decide⟩
              have hat7 : cl_7.slots[((5 : Int32)).toNatClampNeg]? = some (.int c5) := Has.at H_7 hin7 (rfl)
              refine own_go (X0.baloadBytes hx (j := (5 : Int32)) (v := (.int c5)) (by rw [e0]; exact Ar_7.1) (State.isArrayOf_alike hZ.alike Ar_7.2.1) Ar_7.2.2 hin7 hat7 (g := (mkF m 40 #[.val (.ref a), .val (.int (0 : Int32)), .val (.int (5 : Int32))] [(.int (5 : Int32)), (.ref a)])) rfl rfl (hb hby d3_40)) ?_
              have V_a_r7 : Arv Z h0 a kl .byte (8 : Int32) [(.int c0), (.int c1), (.int c2), (.int c3), (.int c4), (.int c5), (.int c6), (.int c7)] (.int (0 : Int32)) := ⟨cl_7, Ar_7, q_7, S_7, M_7, H_7, G_7⟩
              show own_Ends p e below s₁ (mkF m 41 #[.val (.ref a), .val (.int (0 : Int32)), .val (.int (5 : Int32))] [(.int c5)]) _
              refine own_go (fun _ => XS.iconst X0.here hx rfl (hb hby d3_41)) ?_
              show own_Ends p e below s₁ (mkF m 42 #[.val (.ref a), .val (.int (0 : Int32)), .val (.int (5 : Int32))] [(.int (-1 : Int32)), (.int c5)]) _
              by_cases hc42_5 : c5 = (-1 : Int32)
              · refine own_go (fun _ => XS.icmpYes X0.here hx rfl (pc0 := 42) (pc' := 47) rfl (hb hby d3_42) rfl (teq hc42_5).1 (by decide) (by decide)) ?_
                show own_Ends p e below s₁ (mkF m 47 #[.val (.ref a), .val (.int (0 : Int32)), .val (.int (5 : Int32))] []) _
                refine own_go (fun _ => XS.iinc X0.here hx rfl (hb hby d3_47) rfl (l' := #[.val (.ref a), .val (.int (0 : Int32)), .val (.int (6 : Int32))]) rfl) ?_
                show own_Ends p e below s₁ (mkF m 50 #[.val (.ref a), .val (.int (0 : Int32)), .val (.int (6 : Int32))] []) _
                refine own_go (fun _ => XS.goto X0.here hx rfl (pc0 := 50) (pc' := 32) rfl (hb hby d3_50) (by decide) (by decide)) ?_
                show own_Ends p e below s₁ (mkF m 32 #[.val (.ref a), .val (.int (0 : Int32)), .val (.int (6 : Int32))] []) _
                refine own_go (fun _ => XS.iloadN X0.here hx rfl (hb hby d3_32) rfl) ?_
                show own_Ends p e below s₁ (mkF m 33 #[.val (.ref a), .val (.int (0 : Int32)), .val (.int (6 : Int32))] [(.int (6 : Int32))]) _
                refine own_go (fun _ => XS.bipush X0.here hx rfl (hb hby d3_33)) ?_
                show own_Ends p e below s₁ (mkF m 35 #[.val (.ref a), .val (.int (0 : Int32)), .val (.int (6 : Int32))] [(.int (8 : Int32)), (.int (6 : Int32))]) _
                refine own_go (fun _ => XS.icmpNo X0.here hx rfl (hb hby d3_35) rfl (tlt (show (6 : Int32) < (8 : Int32) from by decide)).2.1) ?_
                show own_Ends p e below s₁ (mkF m 38 #[.val (.ref a), .val (.int (0 : Int32)), .val (.int (6 : Int32))] []) _
                refine own_go (fun _ => XS.aloadN X0.here hx rfl (hb hby d3_38) rfl rfl) ?_
                show own_Ends p e below s₁ (mkF m 39 #[.val (.ref a), .val (.int (0 : Int32)), .val (.int (6 : Int32))] [(.ref a)]) _
                refine own_go (fun _ => XS.iloadN X0.here hx rfl (hb hby d3_39) rfl) ?_
                show own_Ends p e below s₁ (mkF m 40 #[.val (.ref a), .val (.int (0 : Int32)), .val (.int (6 : Int32))] [(.int (6 : Int32)), (.ref a)]) _
                obtain ⟨cl_8, Ar_8, q_8, S_8, M_8, H_8, G_8⟩ := V_a_r7
                have hin8 : ¬ ((6 : Int32) < 0 ∨ cl_8.slots.size ≤ ((6 : Int32)).toNatClampNeg) := inb_of S_8 ⟨by decide, by decide⟩
                have hat8 : cl_8.slots[((6 : Int32)).toNatClampNeg]? = some (.int c6) := Has.at H_8 hin8 (rfl)
                refine own_go (X0.baloadBytes hx (j := (6 : Int32)) (v := (.int c6)) (by rw [e0]; exact Ar_8.1) (State.isArrayOf_alike hZ.alike Ar_8.2.1) Ar_8.2.2 hin8 hat8 (g := (mkF m 40 #[.val (.ref a), .val (.int (0 : Int32)), .val (.int (6 : Int32))] [(.int (6 : Int32)), (.ref a)])) rfl rfl (hb hby d3_40)) ?_
                have V_a_r8 : Arv Z h0 a kl .byte (8 : Int32) [(.int c0), (.int c1), (.int c2), (.int c3), (.int c4), (.int c5), (.int c6), (.int c7)] (.int (0 : Int32)) := ⟨cl_8, Ar_8, q_8, S_8, M_8, H_8, G_8⟩
                show own_Ends p e below s₁ (mkF m 41 #[.val (.ref a), .val (.int (0 : Int32)), .val (.int (6 : Int32))] [(.int c6)]) _
                refine own_go (fun _ => XS.iconst X0.here hx rfl (hb hby d3_41)) ?_
                show own_Ends p e below s₁ (mkF m 42 #[.val (.ref a), .val (.int (0 : Int32)), .val (.int (6 : Int32))] [(.int (-1 : Int32)), (.int c6)]) _
                by_cases hc42_6 : c6 = (-1 : Int32)
                · refine own_go (fun _ => XS.icmpYes X0.here hx rfl (pc0 := 42) (pc' := 47) rfl (hb hby d3_42) rfl (teq hc42_6).1 (by decide) (by decide)) ?_
                  show own_Ends p e below s₁ (mkF m 47 #[.val (.ref a), .val (.int (0 : Int32)), .val (.int (6 : Int32))] []) _
                  refine own_go (fun _ => XS.iinc X0.here hx rfl (hb hby d3_47) rfl (l' := #[.val (.ref a), .val (.int (0 : Int32)), .val (.int (7 : Int32))]) rfl) ?_
                  show own_Ends p e below s₁ (mkF m 50 #[.val (.ref a), .val (.int (0 : Int32)), .val (.int (7 : Int32))] []) _
                  refine own_go (fun _ => XS.goto X0.here hx rfl (pc0 := 50) (pc' := 32) rfl (hb hby d3_50) (by decide) (by decide)) ?_
                  show own_Ends p e below s₁ (mkF m 32 #[.val (.ref a), .val (.int (0 : Int32)), .val (.int (7 : Int32))] []) _
                  refine own_go (fun _ => XS.iloadN X0.here hx rfl (hb hby d3_32) rfl) ?_
                  show own_Ends p e below s₁ (mkF m 33 #[.val (.ref a), .val (.int (0 : Int32)), .val (.int (7 : Int32))] [(.int (7 : Int32))]) _
                  refine own_go (fun _ => XS.bipush X0.here hx rfl (hb hby d3_33)) ?_
                  show own_Ends p e below s₁ (mkF m 35 #[.val (.ref a), .val (.int (0 : Int32)), .val (.int (7 : Int32))] [(.int (8 : Int32)), (.int (7 : Int32))]) _
                  refine own_go (fun _ => XS.icmpNo X0.here hx rfl (hb hby d3_35) rfl (tlt (show (7 : Int32) < (8 : Int32) from by decide)).2.1) ?_
                  show own_Ends p e below s₁ (mkF m 38 #[.val (.ref a), .val (.int (0 : Int32)), .val (.int (7 : Int32))] []) _
                  refine own_go (fun _ => XS.aloadN X0.here hx rfl (hb hby d3_38) rfl rfl) ?_
                  show own_Ends p e below s₁ (mkF m 39 #[.val (.ref a), .val (.int (0 : Int32)), .val (.int (7 : Int32))] [(.ref a)]) _
                  refine own_go (fun _ => XS.iloadN X0.here hx rfl (hb hby d3_39) rfl) ?_
                  show own_Ends p e below s₁ (mkF m 40 #[.val (.ref a), .val (.int (0 : Int32)), .val (.int (7 : Int32))] [(.int (7 : Int32)), (.ref a)]) _
                  obtain ⟨cl_9, Ar_9, q_9, S_9, M_9, H_9, G_9⟩ := V_a_r8
                  have hin9 : ¬ ((7 : Int32) < 0 ∨ cl_9.slots.size ≤ ((7 : Int32)).toNatClampNeg) := inb_of S_9 ⟨by decide, by decide⟩
                  have hat9 : cl_9.slots[((7 : Int32)).toNatClampNeg]? = some (.int c7) := Has.at H_9 hin9 (rfl)
                  refine own_go (X0.baloadBytes hx (j := (7 : Int32)) (v := (.int c7)) (by rw [e0]; exact Ar_9.1) (State.isArrayOf_alike hZ.alike Ar_9.2.1) Ar_9.2.2 hin9 hat9 (g := (mkF m 40 #[.val (.ref a), .val (.int (0 : Int32)), .val (.int (7 : Int32))] [(.int (7 : Int32)), (.ref a)])) rfl rfl (hb hby d3_40)) ?_
                  have V_a_r9 : Arv Z h0 a kl .byte (8 : Int32) [(.int c0), (.int c1), (.int c2), (.int c3), (.int c4), (.int c5), (.int c6), (.int c7)] (.int (0 : Int32)) := ⟨cl_9, Ar_9, q_9, S_9, M_9, H_9, G_9⟩
                  show own_Ends p e below s₁ (mkF m 41 #[.val (.ref a), .val (.int (0 : Int32)), .val (.int (7 : Int32))] [(.int c7)]) _
                  refine own_go (fun _ => XS.iconst X0.here hx rfl (hb hby d3_41)) ?_
                  show own_Ends p e below s₁ (mkF m 42 #[.val (.ref a), .val (.int (0 : Int32)), .val (.int (7 : Int32))] [(.int (-1 : Int32)), (.int c7)]) _
                  by_cases hc42_7 : c7 = (-1 : Int32)
                  · refine own_go (fun _ => XS.icmpYes X0.here hx rfl (pc0 := 42) (pc' := 47) rfl (hb hby d3_42) rfl (teq hc42_7).1 (by decide) (by decide)) ?_
                    show own_Ends p e below s₁ (mkF m 47 #[.val (.ref a), .val (.int (0 : Int32)), .val (.int (7 : Int32))] []) _
                    refine own_go (fun _ => XS.iinc X0.here hx rfl (hb hby d3_47) rfl (l' := #[.val (.ref a), .val (.int (0 : Int32)), .val (.int (8 : Int32))]) rfl) ?_
                    show own_Ends p e below s₁ (mkF m 50 #[.val (.ref a), .val (.int (0 : Int32)), .val (.int (8 : Int32))] []) _
                    refine own_go (fun _ => XS.goto X0.here hx rfl (pc0 := 50) (pc' := 32) rfl (hb hby d3_50) (by decide) (by decide)) ?_
                    show own_Ends p e below s₁ (mkF m 32 #[.val (.ref a), .val (.int (0 : Int32)), .val (.int (8 : Int32))] []) _
                    refine own_go (fun _ => XS.iloadN X0.here hx rfl (hb hby d3_32) rfl) ?_
                    show own_Ends p e below s₁ (mkF m 33 #[.val (.ref a), .val (.int (0 : Int32)), .val (.int (8 : Int32))] [(.int (8 : Int32))]) _
                    refine own_go (fun _ => XS.bipush X0.here hx rfl (hb hby d3_33)) ?_
                    show own_Ends p e below s₁ (mkF m 35 #[.val (.ref a), .val (.int (0 : Int32)), .val (.int (8 : Int32))] [(.int (8 : Int32)), (.int (8 : Int32))]) _
                    refine own_go (fun _ => XS.icmpYes X0.here hx rfl (pc0 := 35) (pc' := 53) rfl (hb hby d3_35) rfl (flt (show ¬ ((8 : Int32) < (8 : Int32)) from by decide)).2.1 (by decide) (by decide)) ?_
                    show own_Ends p e below s₁ (mkF m 53 #[.val (.ref a), .val (.int (0 : Int32)), .val (.int (8 : Int32))] []) _
                    refine own_go (fun _ => XS.iloadN X0.here hx rfl (hb hby d3_53) rfl) ?_
                    show own_Ends p e below s₁ (mkF m 54 #[.val (.ref a), .val (.int (0 : Int32)), .val (.int (8 : Int32))] [(.int (0 : Int32))]) _
                    refine own_go (fun _ => XS.iconst X0.here hx rfl (hb hby d3_54)) ?_
                    show own_Ends p e below s₁ (mkF m 55 #[.val (.ref a), .val (.int (0 : Int32)), .val (.int (8 : Int32))] [(.int (4 : Int32)), (.int (0 : Int32))]) _
                    refine own_go (fun _ => XS.icmpYes X0.here hx rfl (pc0 := 55) (pc' := 62) rfl (hb hby d3_55) rfl (tlt (show (0 : Int32) < (4 : Int32) from by decide)).1 (by decide) (by decide)) ?_
                    show own_Ends p e below s₁ (mkF m 62 #[.val (.ref a), .val (.int (0 : Int32)), .val (.int (8 : Int32))] []) _
                    refine own_go (fun _ => XS.iconst X0.here hx rfl (hb hby d3_62)) ?_
                    show own_Ends p e below s₁ (mkF m 63 #[.val (.ref a), .val (.int (0 : Int32)), .val (.int (8 : Int32))] [(.int (0 : Int32))]) _
                    obtain ⟨fs, hr, hrun, hended, hW, hsame⟩ := X0.leave (v := some (.int (0 : Int32))) (fun h => by rw [Bd.returns] at h; cases h)
                    refine ⟨_, _, retN X0 hx (t := .boolean) Bd.returns (by simp) (hb hby d3_63) hr, hrun, hended, _, _, rfl, ?_, ⟨_, rfl⟩, hW, hsame.mono (by decide) (by decide)⟩
                    show Q_rmPin Z a kl c0 c1 c2 c3 c4 c5 c6 c7 h0 n0 _ s₁.heap _
                    rw [e0]
                    exact ⟨_, rfl, by exact own_back ((own_sA hc13).trans ((own_tA hc42).trans ((own_tA hc42_1).trans ((own_tA hc42_2).trans ((own_tA hc42_3).trans ((own_tA hc42_4).trans ((own_tA hc42_5).trans ((own_tA hc42_6).trans ((own_tA hc42_7).trans (rfl)))))))))), N0, rfl⟩
                  · refine own_go (fun _ => XS.icmpNo X0.here hx rfl (hb hby d3_42) rfl (feq hc42_7).1) ?_
                    show own_Ends p e below s₁ (mkF m 45 #[.val (.ref a), .val (.int (0 : Int32)), .val (.int (7 : Int32))] []) _
                    refine own_go (fun _ => XS.iconst X0.here hx rfl (hb hby d3_45)) ?_
                    show own_Ends p e below s₁ (mkF m 46 #[.val (.ref a), .val (.int (0 : Int32)), .val (.int (7 : Int32))] [(.int (0 : Int32))]) _
                    obtain ⟨fs, hr, hrun, hended, hW, hsame⟩ := X0.leave (v := some (.int (0 : Int32))) (fun h => by rw [Bd.returns] at h; cases h)
                    refine ⟨_, _, retN X0 hx (t := .boolean) Bd.returns (by simp) (hb hby d3_46) hr, hrun, hended, _, _, rfl, ?_, ⟨_, rfl⟩, hW, hsame.mono (by decide) (by decide)⟩
                    show Q_rmPin Z a kl c0 c1 c2 c3 c4 c5 c6 c7 h0 n0 _ s₁.heap _
                    rw [e0]
                    exact ⟨_, rfl, by exact own_back ((own_sA hc13).trans ((own_tA hc42).trans ((own_tA hc42_1).trans ((own_tA hc42_2).trans ((own_tA hc42_3).trans ((own_tA hc42_4).trans ((own_tA hc42_5).trans ((own_tA hc42_6).trans (own_tB hc42_7))))))))), N0, rfl⟩
                · refine own_go (fun _ => XS.icmpNo X0.here hx rfl (hb hby d3_42) rfl (feq hc42_6).1) ?_
                  show own_Ends p e below s₁ (mkF m 45 #[.val (.ref a), .val (.int (0 : Int32)), .val (.int (6 : Int32))] []) _
                  refine own_go (fun _ => XS.iconst X0.here hx rfl (hb hby d3_45)) ?_
                  show own_Ends p e below s₁ (mkF m 46 #[.val (.ref a), .val (.int (0 : Int32)), .val (.int (6 : Int32))] [(.int (0 : Int32))]) _
                  obtain ⟨fs, hr, hrun, hended, hW, hsame⟩ := X0.leave (v := some (.int (0 : Int32))) (fun h => by rw [Bd.returns] at h; cases h)
                  refine ⟨_, _, retN X0 hx (t := .boolean) Bd.returns (by simp) (hb hby d3_46) hr, hrun, hended, _, _, rfl, ?_, ⟨_, rfl⟩, hW, hsame.mono (by decide) (by decide)⟩
                  show Q_rmPin Z a kl c0 c1 c2 c3 c4 c5 c6 c7 h0 n0 _ s₁.heap _
                  rw [e0]
                  exact ⟨_, rfl, by exact own_back ((own_sA hc13).trans ((own_tA hc42).trans ((own_tA hc42_1).trans ((own_tA hc42_2).trans ((own_tA hc42_3).trans ((own_tA hc42_4).trans ((own_tA hc42_5).trans (own_tB hc42_6)))))))), N0, rfl⟩
              · refine own_go (fun _ => XS.icmpNo X0.here hx rfl (hb hby d3_42) rfl (feq hc42_5).1) ?_
                show own_Ends p e below s₁ (mkF m 45 #[.val (.ref a), .val (.int (0 : Int32)), .val (.int (5 : Int32))] []) _
                refine own_go (fun _ => XS.iconst X0.here hx rfl (hb hby d3_45)) ?_
                show own_Ends p e below s₁ (mkF m 46 #[.val (.ref a), .val (.int (0 : Int32)), .val (.int (5 : Int32))] [(.int (0 : Int32))]) _
                obtain ⟨fs, hr, hrun, hended, hW, hsame⟩ := X0.leave (v := some (.int (0 : Int32))) (fun h => by rw [Bd.returns] at h; cases h)
                refine ⟨_, _, retN X0 hx (t := .boolean) Bd.returns (by simp) (hb hby d3_46) hr, hrun, hended, _, _, rfl, ?_, ⟨_, rfl⟩, hW, hsame.mono (by decide) (by decide)⟩
                show Q_rmPin Z a kl c0 c1 c2 c3 c4 c5 c6 c7 h0 n0 _ s₁.heap _
                rw [e0]
                exact ⟨_, rfl, by exact own_back ((own_sA hc13).trans ((own_tA hc42).trans ((own_tA hc42_1).trans ((own_tA hc42_2).trans ((own_tA hc42_3).trans ((own_tA hc42_4).trans (own_tB hc42_5))))))), N0, rfl⟩
            · refine own_go (fun _ => XS.icmpNo X0.here hx rfl (hb hby d3_42) rfl (feq hc42_4).1) ?_
              show own_Ends p e below s₁ (mkF m 45 #[.val (.ref a), .val (.int (0 : Int32)), .val (.int (4 : Int32))] []) _
              refine own_go (fun _ => XS.iconst X0.here hx rfl (hb hby d3_45)) ?_
              show own_Ends p e below s₁ (mkF m 46 #[.val (.ref a), .val (.int (0 : Int32)), .val (.int (4 : Int32))] [(.int (0 : Int32))]) _
              obtain ⟨fs, hr, hrun, hended, hW, hsame⟩ := X0.leave (v := some (.int (0 : Int32))) (fun h => by rw [Bd.returns] at h; cases h)
              refine ⟨_, _, retN X0 hx (t := .boolean) Bd.returns (by simp) (hb hby d3_46) hr, hrun, hended, _, _, rfl, ?_, ⟨_, rfl⟩, hW, hsame.mono (by decide) (by decide)⟩
              show Q_rmPin Z a kl c0 c1 c2 c3 c4 c5 c6 c7 h0 n0 _ s₁.heap _
              rw [e0]
              exact ⟨_, rfl, by exact own_back ((own_sA hc13).trans ((own_tA hc42).trans ((own_tA hc42_1).trans ((own_tA hc42_2).trans ((own_tA hc42_3).trans (own_tB hc42_4)))))), N0, rfl⟩
          · refine own_go (fun _ => XS.icmpNo X0.here hx rfl (hb hby d3_42) rfl (feq hc42_3).1) ?_
            show own_Ends p e below s₁ (mkF m 45 #[.val (.ref a), .val (.int (0 : Int32)), .val (.int (3 : Int32))] []) _
            refine own_go (fun _ => XS.iconst X0.here hx rfl (hb hby d3_45)) ?_
            show own_Ends p e below s₁ (mkF m 46 #[.val (.ref a), .val (.int (0 : Int32)), .val (.int (3 : Int32))] [(.int (0 : Int32))]) _
            obtain ⟨fs, hr, hrun, hended, hW, hsame⟩ := X0.leave (v := some (.int (0 : Int32))) (fun h => by rw [Bd.returns] at h; cases h)
            refine ⟨_, _, retN X0 hx (t := .boolean) Bd.returns (by simp) (hb hby d3_46) hr, hrun, hended, _, _, rfl, ?_, ⟨_, rfl⟩, hW, hsame.mono (by decide) (by decide)⟩
            show Q_rmPin Z a kl c0 c1 c2 c3 c4 c5 c6 c7 h0 n0 _ s₁.heap _
            rw [e0]
            exact ⟨_, rfl, by exact own_back ((own_sA hc13).trans ((own_tA hc42).trans ((own_tA hc42_1).trans ((own_tA hc42_2).trans (own_tB hc42_3))))), N0, rfl⟩
        · refine own_go (fun _ => XS.icmpNo X0.here hx rfl (hb hby d3_42) rfl (feq hc42_2).1) ?_
          show own_Ends p e below s₁ (mkF m 45 #[.val (.ref a), .val (.int (0 : Int32)), .val (.int (2 : Int32))] []) _
          refine own_go (fun _ => XS.iconst X0.here hx rfl (hb hby d3_45)) ?_
          show own_Ends p e below s₁ (mkF m 46 #[.val (.ref a), .val (.int (0 : Int32)), .val (.int (2 : Int32))] [(.int (0 : Int32))]) _
          obtain ⟨fs, hr, hrun, hended, hW, hsame⟩ := X0.leave (v := some (.int (0 : Int32))) (fun h => by rw [Bd.returns] at h; cases h)
          refine ⟨_, _, retN X0 hx (t := .boolean) Bd.returns (by simp) (hb hby d3_46) hr, hrun, hended, _, _, rfl, ?_, ⟨_, rfl⟩, hW, hsame.mono (by decide) (by decide)⟩
          show Q_rmPin Z a kl c0 c1 c2 c3 c4 c5 c6 c7 h0 n0 _ s₁.heap _
          rw [e0]
          exact ⟨_, rfl, by exact own_back ((own_sA hc13).trans ((own_tA hc42).trans ((own_tA hc42_1).trans (own_tB hc42_2)))), N0, rfl⟩
      · refine own_go (fun _ => XS.icmpNo X0.here hx rfl (hb hby d3_42) rfl (feq hc42_1).1) ?_
        show own_Ends p e below s₁ (mkF m 45 #[.val (.ref a), .val (.int (0 : Int32)), .val (.int (1 : Int32))] []) _
        refine own_go (fun _ => XS.iconst X0.here hx rfl (hb hby d3_45)) ?_
        show own_Ends p e below s₁ (mkF m 46 #[.val (.ref a), .val (.int (0 : Int32)), .val (.int (1 : Int32))] [(.int (0 : Int32))]) _
        obtain ⟨fs, hr, hrun, hended, hW, hsame⟩ := X0.leave (v := some (.int (0 : Int32))) (fun h => by rw [Bd.returns] at h; cases h)
        refine ⟨_, _, retN X0 hx (t := .boolean) Bd.returns (by simp) (hb hby d3_46) hr, hrun, hended, _, _, rfl, ?_, ⟨_, rfl⟩, hW, hsame.mono (by decide) (by decide)⟩
        show Q_rmPin Z a kl c0 c1 c2 c3 c4 c5 c6 c7 h0 n0 _ s₁.heap _
        rw [e0]
        exact ⟨_, rfl, by exact own_back ((own_sA hc13).trans ((own_tA hc42).trans (own_tB hc42_1))), N0, rfl⟩
    · refine own_go (fun _ => XS.icmpNo X0.here hx rfl (hb hby d3_42) rfl (feq hc42).1) ?_
      show own_Ends p e below s₁ (mkF m 45 #[.val (.ref a), .val (.int (0 : Int32)), .val (.int (0 : Int32))] []) _
      refine own_go (fun _ => XS.iconst X0.here hx rfl (hb hby d3_45)) ?_
      show own_Ends p e below s₁ (mkF m 46 #[.val (.ref a), .val (.int (0 : Int32)), .val (.int (0 : Int32))] [(.int (0 : Int32))]) _
      obtain ⟨fs, hr, hrun, hended, hW, hsame⟩ := X0.leave (v := some (.int (0 : Int32))) (fun h => by rw [Bd.returns] at h; cases h)
      refine ⟨_, _, retN X0 hx (t := .boolean) Bd.returns (by simp) (hb hby d3_46) hr, hrun, hended, _, _, rfl, ?_, ⟨_, rfl⟩, hW, hsame.mono (by decide) (by decide)⟩
      show Q_rmPin Z a kl c0 c1 c2 c3 c4 c5 c6 c7 h0 n0 _ s₁.heap _
      rw [e0]
      exact ⟨_, rfl, by exact own_back ((own_sA hc13).trans (own_tB hc42)), N0, rfl⟩
  · refine own_go (fun _ => XS.icmpNo X0.here hx rfl (hb hby d3_13) rfl (flt hc13).1) ?_
    show own_Ends p e below s₁ (mkF m 16 #[.val (.ref a), .val (.int (0 : Int32)), .unset] []) _
    refine own_go (fun _ => XS.aloadN X0.here hx rfl (hb hby d3_16) rfl rfl) ?_
    show own_Ends p e below s₁ (mkF m 17 #[.val (.ref a), .val (.int (0 : Int32)), .unset] [(.ref a)]) _
    refine own_go (fun _ => XS.iloadN X0.here hx rfl (hb hby d3_17) rfl) ?_
    show own_Ends p e below s₁ (mkF m 18 #[.val (.ref a), .val (.int (0 : Int32)), .unset] [(.int (0 : Int32)), (.ref a)]) _
    obtain ⟨cl_10, Ar_10, q_10, S_10, M_10, H_10, G_10⟩ := V_a_r1
    have hin10 : ¬ ((0 : Int32) < 0 ∨ cl_10.slots.size ≤ ((0 : Int32)).toNatClampNeg) := inb_of S_10 ⟨by decide, by decide⟩
    have hat10 : cl_10.slots[((0 : Int32)).toNatClampNeg]? = some (.int c0) := Has.at H_10 hin10 (rfl)
    refine own_go (X0.baloadBytes hx (j := (0 : Int32)) (v := (.int c0)) (by rw [e0]; exact Ar_10.1) (State.isArrayOf_alike hZ.alike Ar_10.2.1) Ar_10.2.2 hin10 hat10 (g := (mkF m 18 #[.val (.ref a), .val (.int (0 : Int32)), .unset] [(.int (0 : Int32)), (.ref a)])) rfl rfl (hb hby d3_18)) ?_
    have V_a_r10 : Arv Z h0 a kl .byte (8 : Int32) [(.int c0), (.int c1), (.int c2), (.int c3), (.int c4), (.int c5), (.int c6), (.int c7)] (.int (0 : Int32)) := ⟨cl_10, Ar_10, q_10, S_10, M_10, H_10, G_10⟩
    show own_Ends p e below s₁ (mkF m 19 #[.val (.ref a), .val (.int (0 : Int32)), .unset] [(.int c0)]) _
    refine own_go (fun _ => XS.bipush X0.here hx rfl (hb hby d3_19)) ?_
    show own_Ends p e below s₁ (mkF m 21 #[.val (.ref a), .val (.int (0 : Int32)), .unset] [(.int (57 : Int32)), (.int c0)]) _
    by_cases hc21 : (57 : Int32) < c0
    · refine own_go (fun _ => XS.icmpYes X0.here hx rfl (pc0 := 21) (pc' := 30) rfl (hb hby d3_21) rfl (tlt hc21).2.2.1 (by decide) (by decide)) ?_
      show own_Ends p e below s₁ (mkF m 30 #[.val (.ref a), .val (.int (0 : Int32)), .unset] []) _
      refine own_go (fun _ => XS.iloadN X0.here hx rfl (hb hby d3_30) rfl) ?_
      show own_Ends p e below s₁ (mkF m 31 #[.val (.ref a), .val (.int (0 : Int32)), .unset] [(.int (0 : Int32))]) _
      refine own_go (fun _ => XS.istoreN X0.here hx rfl (hb hby d3_31) rfl (l' := #[.val (.ref a), .val (.int (0 : Int32)), .val (.int (0 : Int32))]) rfl) ?_
      show own_Ends p e below s₁ (mkF m 32 #[.val (.ref a), .val (.int (0 : Int32)), .val (.int (0 : Int32))] []) _
      refine own_go (fun _ => XS.iloadN X0.here hx rfl (hb hby d3_32) rfl) ?_
      show own_Ends p e below s₁ (mkF m 33 #[.val (.ref a), .val (.int (0 : Int32)), .val (.int (0 : Int32))] [(.int (0 : Int32))]) _
      refine own_go (fun _ => XS.bipush X0.here hx rfl (hb hby d3_33)) ?_
      show own_Ends p e below s₁ (mkF m 35 #[.val (.ref a), .val (.int (0 : Int32)), .val (.int (0 : Int32))] [(.int (8 : Int32)), (.int (0 : Int32))]) _
      refine own_go (fun _ => XS.icmpNo X0.here hx rfl (hb hby d3_35) rfl (tlt (show (0 : Int32) < (8 : Int32) from by decide)).2.1) ?_
      show own_Ends p e below s₁ (mkF m 38 #[.val (.ref a), .val (.int (0 : Int32)), .val (.int (0 : Int32))] []) _
      refine own_go (fun _ => XS.aloadN X0.here hx rfl (hb hby d3_38) rfl rfl) ?_
      show own_Ends p e below s₁ (mkF m 39 #[.val (.ref a), .val (.int (0 : Int32)), .val (.int (0 : Int32))] [(.ref a)]) _
      refine own_go (fun _ => XS.iloadN X0.here hx rfl (hb hby d3_39) rfl) ?_
      show own_Ends p e below s₁ (mkF m 40 #[.val (.ref a), .val (.int (0 : Int32)), .val (.int (0 : Int32))] [(.int (0 : Int32)), (.ref a)]) _
      obtain ⟨cl_11, Ar_11, q_11, S_11, M_11, H_11, G_11⟩ := V_a_r10
      have hin11 : ¬ ((0 : Int32) < 0 ∨ cl_11.slots.size ≤ ((0 : Int32)).toNatClampNeg) := inb_of S_11 ⟨by decide, by decide⟩
      have hat11 : cl_11.slots[((0 : Int32)).toNatClampNeg]? = some (.int c0) := Has.at H_11 hin11 (rfl)
      refine own_go (X0.baloadBytes hx (j := (0 : Int32)) (v := (.int c0)) (by rw [e0]; exact Ar_11.1) (State.isArrayOf_alike hZ.alike Ar_11.2.1) Ar_11.2.2 hin11 hat11 (g := (mkF m 40 #[.val (.ref a), .val (.int (0 : Int32)), .val (.int (0 : Int32))] [(.int (0 : Int32)), (.ref a)])) rfl rfl (hb hby d3_40)) ?_
      have V_a_r11 : Arv Z h0 a kl .byte (8 : Int32) [(.int c0), (.int c1), (.int c2), (.int c3), (.int c4), (.int c5), (.int c6), (.int c7)] (.int (0 : Int32)) := ⟨cl_11, Ar_11, q_11, S_11, M_11, H_11, G_11⟩
      show own_Ends p e below s₁ (mkF m 41 #[.val (.ref a), .val (.int (0 : Int32)), .val (.int (0 : Int32))] [(.int c0)]) _
      refine own_go (fun _ => XS.iconst X0.here hx rfl (hb hby d3_41)) ?_
      show own_Ends p e below s₁ (mkF m 42 #[.val (.ref a), .val (.int (0 : Int32)), .val (.int (0 : Int32))] [(.int (-1 : Int32)), (.int c0)]) _
      by_cases hc42 : c0 = (-1 : Int32)
      · refine own_go (fun _ => XS.icmpYes X0.here hx rfl (pc0 := 42) (pc' := 47) rfl (hb hby d3_42) rfl (teq hc42).1 (by decide) (by decide)) ?_
        show own_Ends p e below s₁ (mkF m 47 #[.val (.ref a), .val (.int (0 : Int32)), .val (.int (0 : Int32))] []) _
        refine own_go (fun _ => XS.iinc X0.here hx rfl (hb hby d3_47) rfl (l' := #[.val (.ref a), .val (.int (0 : Int32)), .val (.int (1 : Int32))]) rfl) ?_
        show own_Ends p e below s₁ (mkF m 50 #[.val (.ref a), .val (.int (0 : Int32)), .val (.int (1 : Int32))] []) _
        refine own_go (fun _ => XS.goto X0.here hx rfl (pc0 := 50) (pc' := 32) rfl (hb hby d3_50) (by decide) (by decide)) ?_
        show own_Ends p e below s₁ (mkF m 32 #[.val (.ref a), .val (.int (0 : Int32)), .val (.int (1 : Int32))] []) _
        refine own_go (fun _ => XS.iloadN X0.here hx rfl (hb hby d3_32) rfl) ?_
        show own_Ends p e below s₁ (mkF m 33 #[.val (.ref a), .val (.int (0 : Int32)), .val (.int (1 : Int32))] [(.int (1 : Int32))]) _
        refine own_go (fun _ => XS.bipush X0.here hx rfl (hb hby d3_33)) ?_
        show own_Ends p e below s₁ (mkF m 35 #[.val (.ref a), .val (.int (0 : Int32)), .val (.int (1 : Int32))] [(.int (8 : Int32)), (.int (1 : Int32))]) _
        refine own_go (fun _ => XS.icmpNo X0.here hx rfl (hb hby d3_35) rfl (tlt (show (1 : Int32) < (8 : Int32) from by decide)).2.1) ?_
        show own_Ends p e below s₁ (mkF m 38 #[.val (.ref a), .val (.int (0 : Int32)), .val (.int (1 : Int32))] []) _
        refine own_go (fun _ => XS.aloadN X0.here hx rfl (hb hby d3_38) rfl rfl) ?_
        show own_Ends p e below s₁ (mkF m 39 #[.val (.ref a), .val (.int (0 : Int32)), .val (.int (1 : Int32))] [(.ref a)]) _
        refine own_go (fun _ => XS.iloadN X0.here hx rfl (hb hby d3_39) rfl) ?_
        show own_Ends p e below s₁ (mkF m 40 #[.val (.ref a), .val (.int (0 : Int32)), .val (.int (1 : Int32))] [(.int (1 : Int32)), (.ref a)]) _
        obtain ⟨cl_12, Ar_12, q_12, S_12, M_12, H_12, G_12⟩ := V_a_r11
        have hin12 : ¬ ((1 : Int32) < 0 ∨ cl_12.slots.size ≤ ((1 : Int32)).toNatClampNeg) := inb_of S_12 ⟨by decide, by decide⟩
        have hat12 : cl_12.slots[((1 : Int32)).toNatClampNeg]? = some (.int c1) := Has.at H_12 hin12 (rfl)
        refine own_go (X0.baloadBytes hx (j := (1 : Int32)) (v := (.int c1)) (by rw [e0]; exact Ar_12.1) (State.isArrayOf_alike hZ.alike Ar_12.2.1) Ar_12.2.2 hin12 hat12 (g := (mkF m 40 #[.val (.ref a), .val (.int (0 : Int32)), .val (.int (1 : Int32))] [(.int (1 : Int32)), (.ref a)])) rfl rfl (hb hby d3_40)) ?_
        have V_a_r12 : Arv Z h0 a kl .byte (8 : Int32) [(.int c0), (.int c1), (.int c2), (.int c3), (.int c4), (.int c5), (.int c6), (.int c7)] (.int (0 : Int32)) := ⟨cl_12, Ar_12, q_12, S_12, M_12, H_12, G_12⟩
        show own_Ends p e below s₁ (mkF m 41 #[.val (.ref a), .val (.int (0 : Int32)), .val (.int (1 : Int32))] [(.int c1)]) _
        refine own_go (fun _ => XS.iconst X0.here hx rfl (hb hby d3_41)) ?_
        show own_Ends p e below s₁ (mkF m 42 #[.val (.ref a), .val (.int (0 : Int32)), .val (.int (1 : Int32))] [(.int (-1 : Int32)), (.int c1)]) _
        by_cases hc42_1 : c1 = (-1 : Int32)
        · refine own_go (fun _ => XS.icmpYes X0.here hx rfl (pc0 := 42) (pc' := 47) rfl (hb hby d3_42) rfl (teq hc42_1).1 (by decide) (by decide)) ?_
          show own_Ends p e below s₁ (mkF m 47 #[.val (.ref a), .val (.int (0 : Int32)), .val (.int (1 : Int32))] []) _
          refine own_go (fun _ => XS.iinc X0.here hx rfl (hb hby d3_47) rfl (l' := #[.val (.ref a), .val (.int (0 : Int32)), .val (.int (2 : Int32))]) rfl) ?_
          show own_Ends p e below s₁ (mkF m 50 #[.val (.ref a), .val (.int (0 : Int32)), .val (.int (2 : Int32))] []) _
          refine own_go (fun _ => XS.goto X0.here hx rfl (pc0 := 50) (pc' := 32) rfl (hb hby d3_50) (by decide) (by decide)) ?_
          show own_Ends p e below s₁ (mkF m 32 #[.val (.ref a), .val (.int (0 : Int32)), .val (.int (2 : Int32))] []) _
          refine own_go (fun _ => XS.iloadN X0.here hx rfl (hb hby d3_32) rfl) ?_
          show own_Ends p e below s₁ (mkF m 33 #[.val (.ref a), .val (.int (0 : Int32)), .val (.int (2 : Int32))] [(.int (2 : Int32))]) _
          refine own_go (fun _ => XS.bipush X0.here hx rfl (hb hby d3_33)) ?_
          show own_Ends p e below s₁ (mkF m 35 #[.val (.ref a), .val (.int (0 : Int32)), .val (.int (2 : Int32))] [(.int (8 : Int32)), (.int (2 : Int32))]) _
          refine own_go (fun _ => XS.icmpNo X0.here hx rfl (hb hby d3_35) rfl (tlt (show (2 : Int32) < (8 : Int32) from by decide)).2.1) ?_
          show own_Ends p e below s₁ (mkF m 38 #[.val (.ref a), .val (.int (0 : Int32)), .val (.int (2 : Int32))] []) _
          refine own_go (fun _ => XS.aloadN X0.here hx rfl (hb hby d3_38) rfl rfl) ?_
          show own_Ends p e below s₁ (mkF m 39 #[.val (.ref a), .val (.int (0 : Int32)), .val (.int (2 : Int32))] [(.ref a)]) _
          refine own_go (fun _ => XS.iloadN X0.here hx rfl (hb hby d3_39) rfl) ?_
          show own_Ends p e below s₁ (mkF m 40 #[.val (.ref a), .val (.int (0 : Int32)), .val (.int (2 : Int32))] [(.int (2 : Int32)), (.ref a)]) _
          obtain ⟨cl_13, Ar_13, q_13, S_13, M_13, H_13, G_13⟩ := V_a_r12
          have hin13 : ¬ ((2 : Int32) < 0 ∨ cl_13.slots.size ≤ ((2 : Int32)).toNatClampNeg) := inb_of S_13 ⟨by decide, by decide⟩
          have hat13 : cl_13.slots[((2 : Int32)).toNatClampNeg]? = some (.int c2) := Has.at H_13 hin13 (rfl)
          refine own_go (X0.baloadBytes hx (j := (2 : Int32)) (v := (.int c2)) (by rw [e0]; exact Ar_13.1) (State.isArrayOf_alike hZ.alike Ar_13.2.1) Ar_13.2.2 hin13 hat13 (g := (mkF m 40 #[.val (.ref a), .val (.int (0 : Int32)), .val (.int (2 : Int32))] [(.int (2 : Int32)), (.ref a)])) rfl rfl (hb hby d3_40)) ?_
          have V_a_r13 : Arv Z h0 a kl .byte (8 : Int32) [(.int c0), (.int c1), (.int c2), (.int c3), (.int c4), (.int c5), (.int c6), (.int c7)] (.int (0 : Int32)) := ⟨cl_13, Ar_13, q_13, S_13, M_13, H_13, G_13⟩
          show own_Ends p e below s₁ (mkF m 41 #[.val (.ref a), .val (.int (0 : Int32)), .val (.int (2 : Int32))] [(.int c2)]) _
          refine own_go (fun _ => XS.iconst X0.here hx rfl (hb hby d3_41)) ?_
          show own_Ends p e below s₁ (mkF m 42 #[.val (.ref a), .val (.int (0 : Int32)), .val (.int (2 : Int32))] [(.int (-1 : Int32)), (.int c2)]) _
          by_cases hc42_2 : c2 = (-1 : Int32)
          · refine own_go (fun _ => XS.icmpYes X0.here hx rfl (pc0 := 42) (pc' := 47) rfl (hb hby d3_42) rfl (teq hc42_2).1 (by decide) (by decide)) ?_
            show own_Ends p e below s₁ (mkF m 47 #[.val (.ref a), .val (.int (0 : Int32)), .val (.int (2 : Int32))] []) _
            refine own_go (fun _ => XS.iinc X0.here hx rfl (hb hby d3_47) rfl (l' := #[.val (.ref a), .val (.int (0 : Int32)), .val (.int (3 : Int32))]) rfl) ?_
            show own_Ends p e below s₁ (mkF m 50 #[.val (.ref a), .val (.int (0 : Int32)), .val (.int (3 : Int32))] []) _
            refine own_go (fun _ => XS.goto X0.here hx rfl (pc0 := 50) (pc' := 32) rfl (hb hby d3_50) (by decide) (by decide)) ?_
            show own_Ends p e below s₁ (mkF m 32 #[.val (.ref a), .val (.int (0 : Int32)), .val (.int (3 : Int32))] []) _
            refine own_go (fun _ => XS.iloadN X0.here hx rfl (hb hby d3_32) rfl) ?_
            show own_Ends p e below s₁ (mkF m 33 #[.val (.ref a), .val (.int (0 : Int32)), .val (.int (3 : Int32))] [(.int (3 : Int32))]) _
            refine own_go (fun _ => XS.bipush X0.here hx rfl (hb hby d3_33)) ?_
            show own_Ends p e below s₁ (mkF m 35 #[.val (.ref a), .val (.int (0 : Int32)), .val (.int (3 : Int32))] [(.int (8 : Int32)), (.int (3 : Int32))]) _
            refine own_go (fun _ => XS.icmpNo X0.here hx rfl (hb hby d3_35) rfl (tlt (show (3 : Int32) < (8 : Int32) from by decide)).2.1) ?_
            show own_Ends p e below s₁ (mkF m 38 #[.val (.ref a), .val (.int (0 : Int32)), .val (.int (3 : Int32))] []) _
            refine own_go (fun _ => XS.aloadN X0.here hx rfl (hb hby d3_38) rfl rfl) ?_
            show own_Ends p e below s₁ (mkF m 39 #[.val (.ref a), .val (.int (0 : Int32)), .val (.int (3 : Int32))] [(.ref a)]) _
            refine own_go (fun _ => XS.iloadN X0.here hx rfl (hb hby d3_39) rfl) ?_
            show own_Ends p e below s₁ (mkF m 40 #[.val (.ref a), .val (.int (0 : Int32)), .val (.int (3 : Int32))] [(.int (3 : Int32)), (.ref a)]) _
            obtain ⟨cl_14, Ar_14, q_14, S_14, M_14, H_14, G_14⟩ := V_a_r13
            have hin14 : ¬ ((3 : Int32) < 0 ∨ cl_14.slots.size ≤ ((3 : Int32)).toNatClampNeg) := inb_of S_14 ⟨by decide, by decide⟩
            have hat14 : cl_14.slots[((3 : Int32)).toNatClampNeg]? = some (.int c3) := Has.at H_14 hin14 (rfl)
            refine own_go (X0.baloadBytes hx (j := (3 : Int32)) (v := (.int c3)) (by rw [e0]; exact Ar_14.1) (State.isArrayOf_alike hZ.alike Ar_14.2.1) Ar_14.2.2 hin14 hat14 (g := (mkF m 40 #[.val (.ref a), .val (.int (0 : Int32)), .val (.int (3 : Int32))] [(.int (3 : Int32)), (.ref a)])) rfl rfl (hb hby d3_40)) ?_
            have V_a_r14 : Arv Z h0 a kl .byte (8 : Int32) [(.int c0), (.int c1), (.int c2), (.int c3), (.int c4), (.int c5), (.int c6), (.int c7)] (.int (0 : Int32)) := ⟨cl_14, Ar_14, q_14, S_14, M_14, H_14, G_14⟩
            show own_Ends p e below s₁ (mkF m 41 #[.val (.ref a), .val (.int (0 : Int32)), .val (.int (3 : Int32))] [(.int c3)]) _
            refine own_go (fun _ => XS.iconst X0.here hx rfl (hb hby d3_41)) ?_
            show own_Ends p e below s₁ (mkF m 42 #[.val (.ref a), .val (.int (0 : Int32)), .val (.int (3 : Int32))] [(.int (-1 : Int32)), (.int c3)]) _
            by_cases hc42_3 : c3 = (-1 : Int32)
            · refine own_go (fun _ => XS.icmpYes X0.here hx rfl (pc0 := 42) (pc' := 47) rfl (hb hby d3_42) rfl (teq hc42_3).1 (by decide) (by decide)) ?_
              show own_Ends p e below s₁ (mkF m 47 #[.val (.ref a), .val (.int (0 : Int32)), .val (.int (3 : Int32))] []) _
              refine own_go (fun _ => XS.iinc X0.here hx rfl (hb hby d3_47) rfl (l' := #[.val (.ref a), .val (.int (0 : Int32)), .val (.int (4 : Int32))]) rfl) ?_
              show own_Ends p e below s₁ (mkF m 50 #[.val (.ref a), .val (.int (0 : Int32)), .val (.int (4 : Int32))] []) _
              refine own_go (fun _ => XS.goto X0.here hx rfl (pc0 := 50) (pc' := 32) rfl (hb hby d3_50) (by decide) (by decide)) ?_
              show own_Ends p e below s₁ (mkF m 32 #[.val (.ref a), .val (.int (0 : Int32)), .val (.int (4 : Int32))] []) _
              refine own_go (fun _ => XS.iloadN X0.here hx rfl (hb hby d3_32) rfl) ?_
              show own_Ends p e below s₁ (mkF m 33 #[.val (.ref a), .val (.int (0 : Int32)), .val (.int (4 : Int32))] [(.int (4 : Int32))]) _
              refine own_go (fun _ => XS.bipush X0.here hx rfl (hb hby d3_33)) ?_
              show own_Ends p e below s₁ (mkF m 35 #[.val (.ref a), .val (.int (0 : Int32)), .val (.int (4 : Int32))] [(.int (8 : Int32)), (.int (4 : Int32))]) _
              refine own_go (fun _ => XS.icmpNo X0.here hx rfl (hb hby d3_35) rfl (tlt (show (4 : Int32) < (8 : Int32) from by decide)).2.1) ?_
              show own_Ends p e below s₁ (mkF m 38 #[.val (.ref a), .val (.int (0 : Int32)), .val (.int (4 : Int32))] []) _
              refine own_go (fun _ => XS.aloadN X0.here hx rfl (hb hby d3_38) rfl rfl) ?_
              show own_Ends p e below s₁ (mkF m 39 #[.val (.ref a), .val (.int (0 : Int32)), .val (.int (4 : Int32))] [(.ref a)]) _
              refine own_go (fun _ => XS.iloadN X0.here hx rfl (hb hby d3_39) rfl) ?_
              show own_Ends p e below s₁ (mkF m 40 #[.val (.ref a), .val (.int (0 : Int32)), .val (.int (4 : Int32))] [(.int (4 : Int32)), (.ref a)]) _
              obtain ⟨cl_15, Ar_15, q_15, S_15, M_15, H_15, G_15⟩ := V_a_r14
              have hin15 : ¬ ((4 : Int32) < 0 ∨ cl_15.slots.size ≤ ((4 : Int32)).toNatClampNeg) := inb_of S_15 ⟨by decide, by decide⟩
              have hat15 : cl_15.slots[((4 : Int32)).toNatClampNeg]? = some (.int c4) := Has.at H_15 hin15 (rfl)
              refine own_go (X0.baloadBytes hx (j := (4 : Int32)) (v := (.int c4)) (by rw [e0]; exact Ar_15.1) (State.isArrayOf_alike hZ.alike Ar_15.2.1) Ar_15.2.2 hin15 hat15 (g := (mkF m 40 #[.val (.ref a), .val (.int (0 : Int32)), .val (.int (4 : Int32))] [(.int (4 : Int32)), (.ref a)])) rfl rfl (hb hby d3_40)) ?_
              have V_a_r15 : Arv Z h0 a kl .byte (8 : Int32) [(.int c0), (.int c1), (.int c2), (.int c3), (.int c4), (.int c5), (.int c6), (.int c7)] (.int (0 : Int32)) := ⟨cl_15, Ar_15, q_15, S_15, M_15, H_15, G_15⟩
              show own_Ends p e below s₁ (mkF m 41 #[.val (.ref a), .val (.int (0 : Int32)), .val (.int (4 : Int32))] [(.int c4)]) _
              refine own_go (fun _ => XS.iconst X0.here hx rfl (hb hby d3_41)) ?_
              show own_Ends p e below s₁ (mkF m 42 #[.val (.ref a), .val (.int (0 : Int32)), .val (.int (4 : Int32))] [(.int (-1 : Int32)), (.int c4)]) _
              by_cases hc42_4 : c4 = (-1 : Int32)
              · refine own_go (fun _ => XS.icmpYes X0.here hx rfl (pc0 := 42) (pc' := 47) rfl (hb hby d3_42) rfl (teq hc42_4).1 (by decide) (by decide)) ?_
                show own_Ends p e below s₁ (mkF m 47 #[.val (.ref a), .val (.int (0 : Int32)), .val (.int (4 : Int32))] []) _
                refine own_go (fun _ => XS.iinc X0.here hx rfl (hb hby d3_47) rfl (l' := #[.val (.ref a), .val (.int (0 : Int32)), .val (.int (5 : Int32))]) rfl) ?_
                show own_Ends p e below s₁ (mkF m 50 #[.val (.ref a), .val (.int (0 : Int32)), .val (.int (5 : Int32))] []) _
                refine own_go (fun _ => XS.goto X0.here hx rfl (pc0 := 50) (pc' := 32) rfl (hb hby d3_50) (by decide) (by decide)) ?_
                show own_Ends p e below s₁ (mkF m 32 #[.val (.ref a), .val (.int (0 : Int32)), .val (.int (5 : Int32))] []) _
                refine own_go (fun _ => XS.iloadN X0.here hx rfl (hb hby d3_32) rfl) ?_
                show own_Ends p e below s₁ (mkF m 33 #[.val (.ref a), .val (.int (0 : Int32)), .val (.int (5 : Int32))] [(.int (5 : Int32))]) _
                refine own_go (fun _ => XS.bipush X0.here hx rfl (hb hby d3_33)) ?_
                show own_Ends p e below s₁ (mkF m 35 #[.val (.ref a), .val (.int (0 : Int32)), .val (.int (5 : Int32))] [(.int (8 : Int32)), (.int (5 : Int32))]) _
                refine own_go (fun _ => XS.icmpNo X0.here hx rfl (hb hby d3_35) rfl (tlt (show (5 : Int32) < (8 : Int32) from by decide)).2.1) ?_
                show own_Ends p e below s₁ (mkF m 38 #[.val (.ref a), .val (.int (0 : Int32)), .val (.int (5 : Int32))] []) _
                refine own_go (fun _ => XS.aloadN X0.here hx rfl (hb hby d3_38) rfl rfl) ?_
                show own_Ends p e below s₁ (mkF m 39 #[.val (.ref a), .val (.int (0 : Int32)), .val (.int (5 : Int32))] [(.ref a)]) _
                refine own_go (fun _ => XS.iloadN X0.here hx rfl (hb hby d3_39) rfl) ?_
                show own_Ends p e below s₁ (mkF m 40 #[.val (.ref a), .val (.int (0 : Int32)), .val (.int (5 : Int32))] [(.int (5 : Int32)), (.ref a)]) _
                obtain ⟨cl_16, Ar_16, q_16, S_16, M_16, H_16, G_16⟩ := V_a_r15
                have hin16 : ¬ ((5 : Int32) < 0 ∨ cl_16.slots.size ≤ ((5 : Int32)).toNatClampNeg) := inb_of S_16 ⟨by decide, by decide⟩
                have hat16 : cl_16.slots[((5 : Int32)).toNatClampNeg]? = some (.int c5) := Has.at H_16 hin16 (rfl)
                refine own_go (X0.baloadBytes hx (j := (5 : Int32)) (v := (.int c5)) (by rw [e0]; exact Ar_16.1) (State.isArrayOf_alike hZ.alike Ar_16.2.1) Ar_16.2.2 hin16 hat16 (g := (mkF m 40 #[.val (.ref a), .val (.int (0 : Int32)), .val (.int (5 : Int32))] [(.int (5 : Int32)), (.ref a)])) rfl rfl (hb hby d3_40)) ?_
                have V_a_r16 : Arv Z h0 a kl .byte (8 : Int32) [(.int c0), (.int c1), (.int c2), (.int c3), (.int c4), (.int c5), (.int c6), (.int c7)] (.int (0 : Int32)) := ⟨cl_16, Ar_16, q_16, S_16, M_16, H_16, G_16⟩
                show own_Ends p e below s₁ (mkF m 41 #[.val (.ref a), .val (.int (0 : Int32)), .val (.int (5 : Int32))] [(.int c5)]) _
                refine own_go (fun _ => XS.iconst X0.here hx rfl (hb hby d3_41)) ?_
                show own_Ends p e below s₁ (mkF m 42 #[.val (.ref a), .val (.int (0 : Int32)), .val (.int (5 : Int32))] [(.int (-1 : Int32)), (.int c5)]) _
                by_cases hc42_5 : c5 = (-1 : Int32)
                · refine own_go (fun _ => XS.icmpYes X0.here hx rfl (pc0 := 42) (pc' := 47) rfl (hb hby d3_42) rfl (teq hc42_5).1 (by decide) (by decide)) ?_
                  show own_Ends p e below s₁ (mkF m 47 #[.val (.ref a), .val (.int (0 : Int32)), .val (.int (5 : Int32))] []) _
                  refine own_go (fun _ => XS.iinc X0.here hx rfl (hb hby d3_47) rfl (l' := #[.val (.ref a), .val (.int (0 : Int32)), .val (.int (6 : Int32))]) rfl) ?_
                  show own_Ends p e below s₁ (mkF m 50 #[.val (.ref a), .val (.int (0 : Int32)), .val (.int (6 : Int32))] []) _
                  refine own_go (fun _ => XS.goto X0.here hx rfl (pc0 := 50) (pc' := 32) rfl (hb hby d3_50) (by decide) (by decide)) ?_
                  show own_Ends p e below s₁ (mkF m 32 #[.val (.ref a), .val (.int (0 : Int32)), .val (.int (6 : Int32))] []) _
                  refine own_go (fun _ => XS.iloadN X0.here hx rfl (hb hby d3_32) rfl) ?_
                  show own_Ends p e below s₁ (mkF m 33 #[.val (.ref a), .val (.int (0 : Int32)), .val (.int (6 : Int32))] [(.int (6 : Int32))]) _
                  refine own_go (fun _ => XS.bipush X0.here hx rfl (hb hby d3_33)) ?_
                  show own_Ends p e below s₁ (mkF m 35 #[.val (.ref a), .val (.int (0 : Int32)), .val (.int (6 : Int32))] [(.int (8 : Int32)), (.int (6 : Int32))]) _
                  refine own_go (fun _ => XS.icmpNo X0.here hx rfl (hb hby d3_35) rfl (tlt (show (6 : Int32) < (8 : Int32) from by decide)).2.1) ?_
                  show own_Ends p e below s₁ (mkF m 38 #[.val (.ref a), .val (.int (0 : Int32)), .val (.int (6 : Int32))] []) _
                  refine own_go (fun _ => XS.aloadN X0.here hx rfl (hb hby d3_38) rfl rfl) ?_
                  show own_Ends p e below s₁ (mkF m 39 #[.val (.ref a), .val (.int (0 : Int32)), .val (.int (6 : Int32))] [(.ref a)]) _
                  refine own_go (fun _ => XS.iloadN X0.here hx rfl (hb hby d3_39) rfl) ?_
                  show own_Ends p e below s₁ (mkF m 40 #[.val (.ref a), .val (.int (0 : Int32)), .val (.int (6 : Int32))] [(.int (6 : Int32)), (.ref a)]) _
                  obtain ⟨cl_17, Ar_17, q_17, S_17, M_17, H_17, G_17⟩ := V_a_r16
                  have hin17 : ¬ ((6 : Int32) < 0 ∨ cl_17.slots.size ≤ ((6 : Int32)).toNatClampNeg) := inb_of S_17 ⟨by decide, by decide⟩
                  have hat17 : cl_17.slots[((6 : Int32)).toNatClampNeg]? = some (.int c6) := Has.at H_17 hin17 (rfl)
                  refine own_go (X0.baloadBytes hx (j := (6 : Int32)) (v := (.int c6)) (by rw [e0]; exact Ar_17.1) (State.isArrayOf_alike hZ.alike Ar_17.2.1) Ar_17.2.2 hin17 hat17 (g := (mkF m 40 #[.val (.ref a), .val (.int (0 : Int32)), .val (.int (6 : Int32))] [(.int (6 : Int32)), (.ref a)])) rfl rfl (hb hby d3_40)) ?_
                  have V_a_r17 : Arv Z h0 a kl .byte (8 : Int32) [(.int c0), (.int c1), (.int c2), (.int c3), (.int c4), (.int c5), (.int c6), (.int c7)] (.int (0 : Int32)) := ⟨cl_17, Ar_17, q_17, S_17, M_17, H_17, G_17⟩
                  show own_Ends p e below s₁ (mkF m 41 #[.val (.ref a), .val (.int (0 : Int32)), .val (.int (6 : Int32))] [(.int c6)]) _
                  refine own_go (fun _ => XS.iconst X0.here hx rfl (hb hby d3_41)) ?_
                  show own_Ends p e below s₁ (mkF m 42 #[.val (.ref a), .val (.int (0 : Int32)), .val (.int (6 : Int32))] [(.int (-1 : Int32)), (.int c6)]) _
                  by_cases hc42_6 : c6 = (-1 : Int32)
                  · refine own_go (fun _ => XS.icmpYes X0.here hx rfl (pc0 := 42) (pc' := 47) rfl (hb hby d3_42) rfl (teq hc42_6).1 (by decide) (by decide)) ?_
                    show own_Ends p e below s₁ (mkF m 47 #[.val (.ref a), .val (.int (0 : Int32)), .val (.int (6 : Int32))] []) _
                    refine own_go (fun _ => XS.iinc X0.here hx rfl (hb hby d3_47) rfl (l' := #[.val (.ref a), .val (.int (0 : Int32)), .val (.int (7 : Int32))]) rfl) ?_
                    show own_Ends p e below s₁ (mkF m 50 #[.val (.ref a), .val (.int (0 : Int32)), .val (.int (7 : Int32))] []) _
                    refine own_go (fun _ => XS.goto X0.here hx rfl (pc0 := 50) (pc' := 32) rfl (hb hby d3_50) (by decide) (by decide)) ?_
                    show own_Ends p e below s₁ (mkF m 32 #[.val (.ref a), .val (.int (0 : Int32)), .val (.int (7 : Int32))] []) _
                    refine own_go (fun _ => XS.iloadN X0.here hx rfl (hb hby d3_32) rfl) ?_
                    show own_Ends p e below s₁ (mkF m 33 #[.val (.ref a), .val (.int (0 : Int32)), .val (.int (7 : Int32))] [(.int (7 : Int32))]) _
                    refine own_go (fun _ => XS.bipush X0.here hx rfl (hb hby d3_33)) ?_
                    show own_Ends p e below s₁ (mkF m 35 #[.val (.ref a), .val (.int (0 : Int32)), .val (.int (7 : Int32))] [(.int (8 : Int32)), (.int (7 : Int32))]) _
                    refine own_go (fun _ => XS.icmpNo X0.here hx rfl (hb hby d3_35) rfl (tlt (show (7 : Int32) < (8 : Int32) from by decide)).2.1) ?_
                    show own_Ends p e below s₁ (mkF m 38 #[.val (.ref a), .val (.int (0 : Int32)), .val (.int (7 : Int32))] []) _
                    refine own_go (fun _ => XS.aloadN X0.here hx rfl (hb hby d3_38) rfl rfl) ?_
                    show own_Ends p e below s₁ (mkF m 39 #[.val (.ref a), .val (.int (0 : Int32)), .val (.int (7 : Int32))] [(.ref a)]) _
                    refine own_go (fun _ => XS.iloadN X0.here hx rfl (hb hby d3_39) rfl) ?_
                    show own_Ends p e below s₁ (mkF m 40 #[.val (.ref a), .val (.int (0 : Int32)), .val (.int (7 : Int32))] [(.int (7 : Int32)), (.ref a)]) _
                    obtain ⟨cl_18, Ar_18, q_18, S_18, M_18, H_18, G_18⟩ := V_a_r17
                    have hin18 : ¬ ((7 : Int32) < 0 ∨ cl_18.slots.size ≤ ((7 : Int32)).toNatClampNeg) := inb_of S_18 ⟨by decide, by decide⟩
                    have hat18 : cl_18.slots[((7 : Int32)).toNatClampNeg]? = some (.int c7) := Has.at H_18 hin18 (rfl)
                    refine own_go (X0.baloadBytes hx (j := (7 : Int32)) (v := (.int c7)) (by rw [e0]; exact Ar_18.1) (State.isArrayOf_alike hZ.alike Ar_18.2.1) Ar_18.2.2 hin18 hat18 (g := (mkF m 40 #[.val (.ref a), .val (.int (0 : Int32)), .val (.int (7 : Int32))] [(.int (7 : Int32)), (.ref a)])) rfl rfl (hb hby d3_40)) ?_
                    have V_a_r18 : Arv Z h0 a kl .byte (8 : Int32) [(.int c0), (.int c1), (.int c2), (.int c3), (.int c4), (.int c5), (.int c6), (.int c7)] (.int (0 : Int32)) := ⟨cl_18, Ar_18, q_18, S_18, M_18, H_18, G_18⟩
                    show own_Ends p e below s₁ (mkF m 41 #[.val (.ref a), .val (.int (0 : Int32)), .val (.int (7 : Int32))] [(.int c7)]) _
                    refine own_go (fun _ => XS.iconst X0.here hx rfl (hb hby d3_41)) ?_
                    show own_Ends p e below s₁ (mkF m 42 #[.val (.ref a), .val (.int (0 : Int32)), .val (.int (7 : Int32))] [(.int (-1 : Int32)), (.int c7)]) _
                    by_cases hc42_7 : c7 = (-1 : Int32)
                    · refine own_go (fun _ => XS.icmpYes X0.here hx rfl (pc0 := 42) (pc' := 47) rfl (hb hby d3_42) rfl (teq hc42_7).1 (by decide) (by decide)) ?_
                      show own_Ends p e below s₁ (mkF m 47 #[.val (.ref a), .val (.int (0 : Int32)), .val (.int (7 : Int32))] []) _
                      refine own_go (fun _ => XS.iinc X0.here hx rfl (hb hby d3_47) rfl (l' := #[.val (.ref a), .val (.int (0 : Int32)), .val (.int (8 : Int32))]) rfl) ?_
                      show own_Ends p e below s₁ (mkF m 50 #[.val (.ref a), .val (.int (0 : Int32)), .val (.int (8 : Int32))] []) _
                      refine own_go (fun _ => XS.goto X0.here hx rfl (pc0 := 50) (pc' := 32) rfl (hb hby d3_50) (by decide) (by decide)) ?_
                      show own_Ends p e below s₁ (mkF m 32 #[.val (.ref a), .val (.int (0 : Int32)), .val (.int (8 : Int32))] []) _
                      refine own_go (fun _ => XS.iloadN X0.here hx rfl (hb hby d3_32) rfl) ?_
                      show own_Ends p e below s₁ (mkF m 33 #[.val (.ref a), .val (.int (0 : Int32)), .val (.int (8 : Int32))] [(.int (8 : Int32))]) _
                      refine own_go (fun _ => XS.bipush X0.here hx rfl (hb hby d3_33)) ?_
                      show own_Ends p e below s₁ (mkF m 35 #[.val (.ref a), .val (.int (0 : Int32)), .val (.int (8 : Int32))] [(.int (8 : Int32)), (.int (8 : Int32))]) _
                      refine own_go (fun _ => XS.icmpYes X0.here hx rfl (pc0 := 35) (pc' := 53) rfl (hb hby d3_35) rfl (flt (show ¬ ((8 : Int32) < (8 : Int32)) from by decide)).2.1 (by decide) (by decide)) ?_
                      show own_Ends p e below s₁ (mkF m 53 #[.val (.ref a), .val (.int (0 : Int32)), .val (.int (8 : Int32))] []) _
                      refine own_go (fun _ => XS.iloadN X0.here hx rfl (hb hby d3_53) rfl) ?_
                      show own_Ends p e below s₁ (mkF m 54 #[.val (.ref a), .val (.int (0 : Int32)), .val (.int (8 : Int32))] [(.int (0 : Int32))]) _
                      refine own_go (fun _ => XS.iconst X0.here hx rfl (hb hby d3_54)) ?_
                      show own_Ends p e below s₁ (mkF m 55 #[.val (.ref a), .val (.int (0 : Int32)), .val (.int (8 : Int32))] [(.int (4 : Int32)), (.int (0 : Int32))]) _
                      refine own_go (fun _ => XS.icmpYes X0.here hx rfl (pc0 := 55) (pc' := 62) rfl (hb hby d3_55) rfl (tlt (show (0 : Int32) < (4 : Int32) from by decide)).1 (by decide) (by decide)) ?_
                      show own_Ends p e below s₁ (mkF m 62 #[.val (.ref a), .val (.int (0 : Int32)), .val (.int (8 : Int32))] []) _
                      refine own_go (fun _ => XS.iconst X0.here hx rfl (hb hby d3_62)) ?_
                      show own_Ends p e below s₁ (mkF m 63 #[.val (.ref a), .val (.int (0 : Int32)), .val (.int (8 : Int32))] [(.int (0 : Int32))]) _
                      obtain ⟨fs, hr, hrun, hended, hW, hsame⟩ := X0.leave (v := some (.int (0 : Int32))) (fun h => by rw [Bd.returns] at h; cases h)
                      refine ⟨_, _, retN X0 hx (t := .boolean) Bd.returns (by simp) (hb hby d3_63) hr, hrun, hended, _, _, rfl, ?_, ⟨_, rfl⟩, hW, hsame.mono (by decide) (by decide)⟩
                      show Q_rmPin Z a kl c0 c1 c2 c3 c4 c5 c6 c7 h0 n0 _ s₁.heap _
                      rw [e0]
                      exact ⟨_, rfl, by exact own_back ((own_sB hc13 hc21).trans ((own_tA hc42).trans ((own_tA hc42_1).trans ((own_tA hc42_2).trans ((own_tA hc42_3).trans ((own_tA hc42_4).trans ((own_tA hc42_5).trans ((own_tA hc42_6).trans ((own_tA hc42_7).trans (rfl)))))))))), N0, rfl⟩
                    · refine own_go (fun _ => XS.icmpNo X0.here hx rfl (hb hby d3_42) rfl (feq hc42_7).1) ?_
                      show own_Ends p e below s₁ (mkF m 45 #[.val (.ref a), .val (.int (0 : Int32)), .val (.int (7 : Int32))] []) _
                      refine own_go (fun _ => XS.iconst X0.here hx rfl (hb hby d3_45)) ?_
                      show own_Ends p e below s₁ (mkF m 46 #[.val (.ref a), .val (.int (0 : Int32)), .val (.int (7 : Int32))] [(.int (0 : Int32))]) _
                      obtain ⟨fs, hr, hrun, hended, hW, hsame⟩ := X0.leave (v := some (.int (0 : Int32))) (fun h => by rw [Bd.returns] at h; cases h)
                      refine ⟨_, _, retN X0 hx (t := .boolean) Bd.returns (by simp) (hb hby d3_46) hr, hrun, hended, _, _, rfl, ?_, ⟨_, rfl⟩, hW, hsame.mono (by decide) (by decide)⟩
                      show Q_rmPin Z a kl c0 c1 c2 c3 c4 c5 c6 c7 h0 n0 _ s₁.heap _
                      rw [e0]
                      exact ⟨_, rfl, by exact own_back ((own_sB hc13 hc21).trans ((own_tA hc42).trans ((own_tA hc42_1).trans ((own_tA hc42_2).trans ((own_tA hc42_3).trans ((own_tA hc42_4).trans ((own_tA hc42_5).trans ((own_tA hc42_6).trans (own_tB hc42_7))))))))), N0, rfl⟩
                  · refine own_go (fun _ => XS.icmpNo X0.here hx rfl (hb hby d3_42) rfl (feq hc42_6).1) ?_
                    show own_Ends p e below s₁ (mkF m 45 #[.val (.ref a), .val (.int (0 : Int32)), .val (.int (6 : Int32))] []) _
                    refine own_go (fun _ => XS.iconst X0.here hx rfl (hb hby d3_45)) ?_
                    show own_Ends p e below s₁ (mkF m 46 #[.val (.ref a), .val (.int (0 : Int32)), .val (.int (6 : Int32))] [(.int (0 : Int32))]) _
                    obtain ⟨fs, hr, hrun, hended, hW, hsame⟩ := X0.leave (v := some (.int (0 : Int32))) (fun h => by rw [Bd.returns] at h; cases h)
                    refine ⟨_, _, retN X0 hx (t := .boolean) Bd.returns (by simp) (hb hby d3_46) hr, hrun, hended, _, _, rfl, ?_, ⟨_, rfl⟩, hW, hsame.mono (by decide) (by decide)⟩
                    show Q_rmPin Z a kl c0 c1 c2 c3 c4 c5 c6 c7 h0 n0 _ s₁.heap _
                    rw [e0]
                    exact ⟨_, rfl, by exact own_back ((own_sB hc13 hc21).trans ((own_tA hc42).trans ((own_tA hc42_1).trans ((own_tA hc42_2).trans ((own_tA hc42_3).trans ((own_tA hc42_4).trans ((own_tA hc42_5).trans (own_tB hc42_6)))))))), N0, rfl⟩
                · refine own_go (fun _ => XS.icmpNo X0.here hx rfl (hb hby d3_42) rfl (feq hc42_5).1) ?_
                  show own_Ends p e below s₁ (mkF m 45 #[.val (.ref a), .val (.int (0 : Int32)), .val (.int (5 : Int32))] []) _
                  refine own_go (fun _ => XS.iconst X0.here hx rfl (hb hby d3_45)) ?_
                  show own_Ends p e below s₁ (mkF m 46 #[.val (.ref a), .val (.int (0 : Int32)), .val (.int (5 : Int32))] [(.int (0 : Int32))]) _
                  obtain ⟨fs, hr, hrun, hended, hW, hsame⟩ := X0.leave (v := some (.int (0 : Int32))) (fun h => by rw [Bd.returns] at h; cases h)
                  refine ⟨_, _, retN X0 hx (t := .boolean) Bd.returns (by simp) (hb hby d3_46) hr, hrun, hended, _, _, rfl, ?_, ⟨_, rfl⟩, hW, hsame.mono (by decide) (by decide)⟩
                  show Q_rmPin Z a kl c0 c1 c2 c3 c4 c5 c6 c7 h0 n0 _ s₁.heap _
                  rw [e0]
                  exact ⟨_, rfl, by exact own_back ((own_sB hc13 hc21).trans ((own_tA hc42).trans ((own_tA hc42_1).trans ((own_tA hc42_2).trans ((own_tA hc42_3).trans ((own_tA hc42_4).trans (own_tB hc42_5))))))), N0, rfl⟩
              · refine own_go (fun _ => XS.icmpNo X0.here hx rfl (hb hby d3_42) rfl (feq hc42_4).1) ?_
                show own_Ends p e below s₁ (mkF m 45 #[.val (.ref a), .val (.int (0 : Int32)), .val (.int (4 : Int32))] []) _
                refine own_go (fun _ => XS.iconst X0.here hx rfl (hb hby d3_45)) ?_
                show own_Ends p e below s₁ (mkF m 46 #[.val (.ref a), .val (.int (0 : Int32)), .val (.int (4 : Int32))] [(.int (0 : Int32))]) _
                obtain ⟨fs, hr, hrun, hended, hW, hsame⟩ := X0.leave (v := some (.int (0 : Int32))) (fun h => by rw [Bd.returns] at h; cases h)
                refine ⟨_, _, retN X0 hx (t := .boolean) Bd.returns (by simp) (hb hby d3_46) hr, hrun, hended, _, _, rfl, ?_, ⟨_, rfl⟩, hW, hsame.mono (by decide) (by decide)⟩
                show Q_rmPin Z a kl c0 c1 c2 c3 c4 c5 c6 c7 h0 n0 _ s₁.heap _
                rw [e0]
                exact ⟨_, rfl, by exact own_back ((own_sB hc13 hc21).trans ((own_tA hc42).trans ((own_tA hc42_1).trans ((own_tA hc42_2).trans ((own_tA hc42_3).trans (own_tB hc42_4)))))), N0, rfl⟩
            · refine own_go (fun _ => XS.icmpNo X0.here hx rfl (hb hby d3_42) rfl (feq hc42_3).1) ?_
              show own_Ends p e below s₁ (mkF m 45 #[.val (.ref a), .val (.int (0 : Int32)), .val (.int (3 : Int32))] []) _
              refine own_go (fun _ => XS.iconst X0.here hx rfl (hb hby d3_45)) ?_
              show own_Ends p e below s₁ (mkF m 46 #[.val (.ref a), .val (.int (0 : Int32)), .val (.int (3 : Int32))] [(.int (0 : Int32))]) _
              obtain ⟨fs, hr, hrun, hended, hW, hsame⟩ := X0.leave (v := some (.int (0 : Int32))) (fun h => by rw [Bd.returns] at h; cases h)
              refine ⟨_, _, retN X0 hx (t := .boolean) Bd.returns (by simp) (hb hby d3_46) hr, hrun, hended, _, _, rfl, ?_, ⟨_, rfl⟩, hW, hsame.mono (by decide) (by decide)⟩
              show Q_rmPin Z a kl c0 c1 c2 c3 c4 c5 c6 c7 h0 n0 _ s₁.heap _
              rw [e0]
              exact ⟨_, rfl, by exact own_back ((own_sB hc13 hc21).trans ((own_tA hc42).trans ((own_tA hc42_1).trans ((own_tA hc42_2).trans (own_tB hc42_3))))), N0, rfl⟩
          · refine own_go (fun _ => XS.icmpNo X0.here hx rfl (hb hby d3_42) rfl (feq hc42_2).1) ?_
            show own_Ends p e below s₁ (mkF m 45 #[.val (.ref a), .val (.int (0 : Int32)), .val (.int (2 : Int32))] []) _
            refine own_go (fun _ => XS.iconst X0.here hx rfl (hb hby d3_45)) ?_
            show own_Ends p e below s₁ (mkF m 46 #[.val (.ref a), .val (.int (0 : Int32)), .val (.int (2 : Int32))] [(.int (0 : Int32))]) _
            obtain ⟨fs, hr, hrun, hended, hW, hsame⟩ := X0.leave (v := some (.int (0 : Int32))) (fun h => by rw [Bd.returns] at h; cases h)
            refine ⟨_, _, retN X0 hx (t := .boolean) Bd.returns (by simp) (hb hby d3_46) hr, hrun, hended, _, _, rfl, ?_, ⟨_, rfl⟩, hW, hsame.mono (by decide) (by decide)⟩
            show Q_rmPin Z a kl c0 c1 c2 c3 c4 c5 c6 c7 h0 n0 _ s₁.heap _
            rw [e0]
            exact ⟨_, rfl, by exact own_back ((own_sB hc13 hc21).trans ((own_tA hc42).trans ((own_tA hc42_1).trans (own_tB hc42_2)))), N0, rfl⟩
        · refine own_go (fun _ => XS.icmpNo X0.here hx rfl (hb hby d3_42) rfl (feq hc42_1).1) ?_
          show own_Ends p e below s₁ (mkF m 45 #[.val (.ref a), .val (.int (0 : Int32)), .val (.int (1 : Int32))] []) _
          refine own_go (fun _ => XS.iconst X0.here hx rfl (hb hby d3_45)) ?_
          show own_Ends p e below s₁ (mkF m 46 #[.val (.ref a), .val (.int (0 : Int32)), .val (.int (1 : Int32))] [(.int (0 : Int32))]) _
          obtain ⟨fs, hr, hrun, hended, hW, hsame⟩ := X0.leave (v := some (.int (0 : Int32))) (fun h => by rw [Bd.returns] at h; cases h)
          refine ⟨_, _, retN X0 hx (t := .boolean) Bd.returns (by simp) (hb hby d3_46) hr, hrun, hended, _, _, rfl, ?_, ⟨_, rfl⟩, hW, hsame.mono (by decide) (by decide)⟩
          show Q_rmPin Z a kl c0 c1 c2 c3 c4 c5 c6 c7 h0 n0 _ s₁.heap _
          rw [e0]
          exact ⟨_, rfl, by exact own_back ((own_sB hc13 hc21).trans ((own_tA hc42).trans (own_tB hc42_1))), N0, rfl⟩
      · refine own_go (fun _ => XS.icmpNo X0.here hx rfl (hb hby d3_42) rfl (feq hc42).1) ?_
        show own_Ends p e below s₁ (mkF m 45 #[.val (.ref a), .val (.int (0 : Int32)), .val (.int (0 : Int32))] []) _
        refine own_go (fun _ => XS.iconst X0.here hx rfl (hb hby d3_45)) ?_
        show own_Ends p e below s₁ (mkF m 46 #[.val (.ref a), .val (.int (0 : Int32)), .val (.int (0 : Int32))] [(.int (0 : Int32))]) _
        obtain ⟨fs, hr, hrun, hended, hW, hsame⟩ := X0.leave (v := some (.int (0 : Int32))) (fun h => by rw [Bd.returns] at h; cases h)
        refine ⟨_, _, retN X0 hx (t := .boolean) Bd.returns (by simp) (hb hby d3_46) hr, hrun, hended, _, _, rfl, ?_, ⟨_, rfl⟩, hW, hsame.mono (by decide) (by decide)⟩
        show Q_rmPin Z a kl c0 c1 c2 c3 c4 c5 c6 c7 h0 n0 _ s₁.heap _
        rw [e0]
        exact ⟨_, rfl, by exact own_back ((own_sB hc13 hc21).trans (own_tB hc42)), N0, rfl⟩
    · refine own_go (fun _ => XS.icmpNo X0.here hx rfl (hb hby d3_21) rfl (flt hc21).2.2.1) ?_
      show own_Ends p e below s₁ (mkF m 24 #[.val (.ref a), .val (.int (0 : Int32)), .unset] []) _
      refine own_go (fun _ => XS.iinc X0.here hx rfl (hb hby d3_24) rfl (l' := #[.val (.ref a), .val (.int (1 : Int32)), .unset]) rfl) ?_
      show own_Ends p e below s₁ (mkF m 27 #[.val (.ref a), .val (.int (1 : Int32)), .unset] []) _
      refine own_go (fun _ => XS.goto X0.here hx rfl (pc0 := 27) (pc' := 2) rfl (hb hby d3_27) (by decide) (by decide)) ?_
      show own_Ends p e below s₁ (mkF m 2 #[.val (.ref a), .val (.int (1 : Int32)), .unset] []) _
      refine own_go (fun _ => XS.iloadN X0.here hx rfl (hb hby d3_2) rfl) ?_
      show own_Ends p e below s₁ (mkF m 3 #[.val (.ref a), .val (.int (1 : Int32)), .unset] [(.int (1 : Int32))]) _
      refine own_go (fun _ => XS.bipush X0.here hx rfl (hb hby d3_3)) ?_
      show own_Ends p e below s₁ (mkF m 5 #[.val (.ref a), .val (.int (1 : Int32)), .unset] [(.int (8 : Int32)), (.int (1 : Int32))]) _
      refine own_go (fun _ => XS.icmpNo X0.here hx rfl (hb hby d3_5) rfl (tlt (show (1 : Int32) < (8 : Int32) from by decide)).2.1) ?_
      show own_Ends p e below s₁ (mkF m 8 #[.val (.ref a), .val (.int (1 : Int32)), .unset] []) _
      refine own_go (fun _ => XS.aloadN X0.here hx rfl (hb hby d3_8) rfl rfl) ?_
      show own_Ends p e below s₁ (mkF m 9 #[.val (.ref a), .val (.int (1 : Int32)), .unset] [(.ref a)]) _
      refine own_go (fun _ => XS.iloadN X0.here hx rfl (hb hby d3_9) rfl) ?_
      show own_Ends p e below s₁ (mkF m 10 #[.val (.ref a), .val (.int (1 : Int32)), .unset] [(.int (1 : Int32)), (.ref a)]) _
      obtain ⟨cl_19, Ar_19, q_19, S_19, M_19, H_19, G_19⟩ := V_a_r10
      have hin19 : ¬ ((1 : Int32) < 0 ∨ cl_19.slots.size ≤ ((1 : Int32)).toNatClampNeg) := inb_of S_19 ⟨by decide, by decide⟩
      have hat19 : cl_19.slots[((1 : Int32)).toNatClampNeg]? = some (.int c1) := Has.at H_19 hin19 (rfl)
      refine own_go (X0.baloadBytes hx (j := (1 : Int32)) (v := (.int c1)) (by rw [e0]; exact Ar_19.1) (State.isArrayOf_alike hZ.alike Ar_19.2.1) Ar_19.2.2 hin19 hat19 (g := (mkF m 10 #[.val (.ref a), .val (.int (1 : Int32)), .unset] [(.int (1 : Int32)), (.ref a)])) rfl rfl (hb hby d3_10)) ?_
      have V_a_r19 : Arv Z h0 a kl .byte (8 : Int32) [(.int c0), (.int c1), (.int c2), (.int c3), (.int c4), (.int c5), (.int c6), (.int c7)] (.int (0 : Int32)) := ⟨cl_19, Ar_19, q_19, S_19, M_19, H_19, G_19⟩
      show own_Ends p e below s₁ (mkF m 11 #[.val (.ref a), .val (.int (1 : Int32)), .unset] [(.int c1)]) _
      refine own_go (fun _ => XS.bipush X0.here hx rfl (hb hby d3_11)) ?_
      show own_Ends p e below s₁ (mkF m 13 #[.val (.ref a), .val (.int (1 : Int32)), .unset] [(.int (48 : Int32)), (.int c1)]) _
      by_cases hc13_1 : c1 < (48 : Int32)
      · refine own_go (fun _ => XS.icmpYes X0.here hx rfl (pc0 := 13) (pc' := 30) rfl (hb hby d3_13) rfl (tlt hc13_1).1 (by decide) (by decide)) ?_
        show own_Ends p e below s₁ (mkF m 30 #[.val (.ref a), .val (.int (1 : Int32)), .unset] []) _
        refine own_go (fun _ => XS.iloadN X0.here hx rfl (hb hby d3_30) rfl) ?_
        show own_Ends p e below s₁ (mkF m 31 #[.val (.ref a), .val (.int (1 : Int32)), .unset] [(.int (1 : Int32))]) _
        refine own_go (fun _ => XS.istoreN X0.here hx rfl (hb hby d3_31) rfl (l' := #[.val (.ref a), .val (.int (1 : Int32)), .val (.int (1 : Int32))]) rfl) ?_
        show own_Ends p e below s₁ (mkF m 32 #[.val (.ref a), .val (.int (1 : Int32)), .val (.int (1 : Int32))] []) _
        refine own_go (fun _ => XS.iloadN X0.here hx rfl (hb hby d3_32) rfl) ?_
        show own_Ends p e below s₁ (mkF m 33 #[.val (.ref a), .val (.int (1 : Int32)), .val (.int (1 : Int32))] [(.int (1 : Int32))]) _
        refine own_go (fun _ => XS.bipush X0.here hx rfl (hb hby d3_33)) ?_
        show own_Ends p e below s₁ (mkF m 35 #[.val (.ref a), .val (.int (1 : Int32)), .val (.int (1 : Int32))] [(.int (8 : Int32)), (.int (1 : Int32))]) _
        refine own_go (fun _ => XS.icmpNo X0.here hx rfl (hb hby d3_35) rfl (tlt (show (1 : Int32) < (8 : Int32) from by decide)).2.1) ?_
        show own_Ends p e below s₁ (mkF m 38 #[.val (.ref a), .val (.int (1 : Int32)), .val (.int (1 : Int32))] []) _
        refine own_go (fun _ => XS.aloadN X0.here hx rfl (hb hby d3_38) rfl rfl) ?_
        show own_Ends p e below s₁ (mkF m 39 #[.val (.ref a), .val (.int (1 : Int32)), .val (.int (1 : Int32))] [(.ref a)]) _
        refine own_go (fun _ => XS.iloadN X0.here hx rfl (hb hby d3_39) rfl) ?_
        show own_Ends p e below s₁ (mkF m 40 #[.val (.ref a), .val (.int (1 : Int32)), .val (.int (1 : Int32))] [(.int (1 : Int32)), (.ref a)]) _
        obtain ⟨cl_20, Ar_20, q_20, S_20, M_20, H_20, G_20⟩ := V_a_r19
        have hin20 : ¬ ((1 : Int32) < 0 ∨ cl_20.slots.size ≤ ((1 : Int32)).toNatClampNeg) := inb_of S_20 ⟨by decide, by decide⟩
        have hat20 : cl_20.slots[((1 : Int32)).toNatClampNeg]? = some (.int c1) := Has.at H_20 hin20 (rfl)
        refine own_go (X0.baloadBytes hx (j := (1 : Int32)) (v := (.int c1)) (by rw [e0]; exact Ar_20.1) (State.isArrayOf_alike hZ.alike Ar_20.2.1) Ar_20.2.2 hin20 hat20 (g := (mkF m 40 #[.val (.ref a), .val (.int (1 : Int32)), .val (.int (1 : Int32))] [(.int (1 : Int32)), (.ref a)])) rfl rfl (hb hby d3_40)) ?_
        have V_a_r20 : Arv Z h0 a kl .byte (8 : Int32) [(.int c0), (.int c1), (.int c2), (.int c3), (.int c4), (.int c5), (.int c6), (.int c7)] (.int (0 : Int32)) := ⟨cl_20, Ar_20, q_20, S_20, M_20, H_20, G_20⟩
        show own_Ends p e below s₁ (mkF m 41 #[.val (.ref a), .val (.int (1 : Int32)), .val (.int (1 : Int32))] [(.int c1)]) _
        refine own_go (fun _ => XS.iconst X0.here hx rfl (hb hby d3_41)) ?_
        show own_Ends p e below s₁ (mkF m 42 #[.val (.ref a), .val (.int (1 : Int32)), .val (.int (1 : Int32))] [(.int (-1 : Int32)), (.int c1)]) _
        by_cases hc42 : c1 = (-1 : Int32)
        · refine own_go (fun _ => XS.icmpYes X0.here hx rfl (pc0 := 42) (pc' := 47) rfl (hb hby d3_42) rfl (teq hc42).1 (by decide) (by decide)) ?_
          show own_Ends p e below s₁ (mkF m 47 #[.val (.ref a), .val (.int (1 : Int32)), .val (.int (1 : Int32))] []) _
          refine own_go (fun _ => XS.iinc X0.here hx rfl (hb hby d3_47) rfl (l' := #[.val (.ref a), .val (.int (1 : Int32)), .val (.int (2 : Int32))]) rfl) ?_
          show own_Ends p e below s₁ (mkF m 50 #[.val (.ref a), .val (.int (1 : Int32)), .val (.int (2 : Int32))] []) _
          refine own_go (fun _ => XS.goto X0.here hx rfl (pc0 := 50) (pc' := 32) rfl (hb hby d3_50) (by decide) (by decide)) ?_
          show own_Ends p e below s₁ (mkF m 32 #[.val (.ref a), .val (.int (1 : Int32)), .val (.int (2 : Int32))] []) _
          refine own_go (fun _ => XS.iloadN X0.here hx rfl (hb hby d3_32) rfl) ?_
          show own_Ends p e below s₁ (mkF m 33 #[.val (.ref a), .val (.int (1 : Int32)), .val (.int (2 : Int32))] [(.int (2 : Int32))]) _
          refine own_go (fun _ => XS.bipush X0.here hx rfl (hb hby d3_33)) ?_
          show own_Ends p e below s₁ (mkF m 35 #[.val (.ref a), .val (.int (1 : Int32)), .val (.int (2 : Int32))] [(.int (8 : Int32)), (.int (2 : Int32))]) _
          refine own_go (fun _ => XS.icmpNo X0.here hx rfl (hb hby d3_35) rfl (tlt (show (2 : Int32) < (8 : Int32) from by decide)).2.1) ?_
          show own_Ends p e below s₁ (mkF m 38 #[.val (.ref a), .val (.int (1 : Int32)), .val (.int (2 : Int32))] []) _
          refine own_go (fun _ => XS.aloadN X0.here hx rfl (hb hby d3_38) rfl rfl) ?_
          show own_Ends p e below s₁ (mkF m 39 #[.val (.ref a), .val (.int (1 : Int32)), .val (.int (2 : Int32))] [(.ref a)]) _
          refine own_go (fun _ => XS.iloadN X0.here hx rfl (hb hby d3_39) rfl) ?_
          show own_Ends p e below s₁ (mkF m 40 #[.val (.ref a), .val (.int (1 : Int32)), .val (.int (2 : Int32))] [(.int (2 : Int32)), (.ref a)]) _
          obtain ⟨cl_21, Ar_21, q_21, S_21, M_21, H_21, G_21⟩ := V_a_r20
          have hin21 : ¬ ((2 : Int32) < 0 ∨ cl_21.slots.size ≤ ((2 : Int32)).toNatClampNeg) := inb_of S_21 ⟨by decide, by decide⟩
          have hat21 : cl_21.slots[((2 : Int32)).toNatClampNeg]? = some (.int c2) := Has.at H_21 hin21 (rfl)
          refine own_go (X0.baloadBytes hx (j := (2 : Int32)) (v := (.int c2)) (by rw [e0]; exact Ar_21.1) (State.isArrayOf_alike hZ.alike Ar_21.2.1) Ar_21.2.2 hin21 hat21 (g := (mkF m 40 #[.val (.ref a), .val (.int (1 : Int32)), .val (.int (2 : Int32))] [(.int (2 : Int32)), (.ref a)])) rfl rfl (hb hby d3_40)) ?_
          have V_a_r21 : Arv Z h0 a kl .byte (8 : Int32) [(.int c0), (.int c1), (.int c2), (.int c3), (.int c4), (.int c5), (.int c6), (.int c7)] (.int (0 : Int32)) := ⟨cl_21, Ar_21, q_21, S_21, M_21, H_21, G_21⟩
          show own_Ends p e below s₁ (mkF m 41 #[.val (.ref a), .val (.int (1 : Int32)), .val (.int (2 : Int32))] [(.int c2)]) _
          refine own_go (fun _ => XS.iconst X0.here hx rfl (hb hby d3_41)) ?_
          show own_Ends p e below s₁ (mkF m 42 #[.val (.ref a), .val (.int (1 : Int32)), .val (.int (2 : Int32))] [(.int (-1 : Int32)), (.int c2)]) _
          by_cases hc42_1 : c2 = (-1 : Int32)
          · refine own_go (fun _ => XS.icmpYes X0.here hx rfl (pc0 := 42) (pc' := 47) rfl (hb hby d3_42) rfl (teq hc42_1).1 (by decide) (by decide)) ?_
            show own_Ends p e below s₁ (mkF m 47 #[.val (.ref a), .val (.int (1 : Int32)), .val (.int (2 : Int32))] []) _
            refine own_go (fun _ => XS.iinc X0.here hx rfl (hb hby d3_47) rfl (l' := #[.val (.ref a), .val (.int (1 : Int32)), .val (.int (3 : Int32))]) rfl) ?_
            show own_Ends p e below s₁ (mkF m 50 #[.val (.ref a), .val (.int (1 : Int32)), .val (.int (3 : Int32))] []) _
            refine own_go (fun _ => XS.goto X0.here hx rfl (pc0 := 50) (pc' := 32) rfl (hb hby d3_50) (by decide) (by decide)) ?_
            show own_Ends p e below s₁ (mkF m 32 #[.val (.ref a), .val (.int (1 : Int32)), .val (.int (3 : Int32))] []) _
            refine own_go (fun _ => XS.iloadN X0.here hx rfl (hb hby d3_32) rfl) ?_
            show own_Ends p e below s₁ (mkF m 33 #[.val (.ref a), .val (.int (1 : Int32)), .val (.int (3 : Int32))] [(.int (3 : Int32))]) _
            refine own_go (fun _ => XS.bipush X0.here hx rfl (hb hby d3_33)) ?_
            show own_Ends p e below s₁ (mkF m 35 #[.val (.ref a), .val (.int (1 : Int32)), .val (.int (3 : Int32))] [(.int (8 : Int32)), (.int (3 : Int32))]) _
            refine own_go (fun _ => XS.icmpNo X0.here hx rfl (hb hby d3_35) rfl (tlt (show (3 : Int32) < (8 : Int32) from by decide)).2.1) ?_
            show own_Ends p e below s₁ (mkF m 38 #[.val (.ref a), .val (.int (1 : Int32)), .val (.int (3 : Int32))] []) _
            refine own_go (fun _ => XS.aloadN X0.here hx rfl (hb hby d3_38) rfl rfl) ?_
            show own_Ends p e below s₁ (mkF m 39 #[.val (.ref a), .val (.int (1 : Int32)), .val (.int (3 : Int32))] [(.ref a)]) _
            refine own_go (fun _ => XS.iloadN X0.here hx rfl (hb hby d3_39) rfl) ?_
            show own_Ends p e below s₁ (mkF m 40 #[.val (.ref a), .val (.int (1 : Int32)), .val (.int (3 : Int32))] [(.int (3 : Int32)), (.ref a)]) _
            obtain ⟨cl_22, Ar_22, q_22, S_22, M_22, H_22, G_22⟩ := V_a_r21
            have hin22 : ¬ ((3 : Int32) < 0 ∨ cl_22.slots.size ≤ ((3 : Int32)).toNatClampNeg) := inb_of S_22 ⟨by decide, by decide⟩
            have hat22 : cl_22.slots[((3 : Int32)).toNatClampNeg]? = some (.int c3) := Has.at H_22 hin22 (rfl)
            refine own_go (X0.baloadBytes hx (j := (3 : Int32)) (v := (.int c3)) (by rw [e0]; exact Ar_22.1) (State.isArrayOf_alike hZ.alike Ar_22.2.1) Ar_22.2.2 hin22 hat22 (g := (mkF m 40 #[.val (.ref a), .val (.int (1 : Int32)), .val (.int (3 : Int32))] [(.int (3 : Int32)), (.ref a)])) rfl rfl (hb hby d3_40)) ?_
            have V_a_r22 : Arv Z h0 a kl .byte (8 : Int32) [(.int c0), (.int c1), (.int c2), (.int c3), (.int c4), (.int c5), (.int c6), (.int c7)] (.int (0 : Int32)) := ⟨cl_22, Ar_22, q_22, S_22, M_22, H_22, G_22⟩
            show own_Ends p e below s₁ (mkF m 41 #[.val (.ref a), .val (.int (1 : Int32)), .val (.int (3 : Int32))] [(.int c3)]) _
            refine own_go (fun _ => XS.iconst X0.here hx rfl (hb hby d3_41)) ?_
            show own_Ends p e below s₁ (mkF m 42 #[.val (.ref a), .val (.int (1 : Int32)), .val (.int (3 : Int32))] [(.int (-1 : Int32)), (.int c3)]) _
            by_cases hc42_2 : c3 = (-1 : Int32)
            · refine own_go (fun _ => XS.icmpYes X0.here hx rfl (pc0 := 42) (pc' := 47) rfl (hb hby d3_42) rfl (teq hc42_2).1 (by decide) (by decide)) ?_
              show own_Ends p e below s₁ (mkF m 47 #[.val (.ref a), .val (.int (1 : Int32)), .val (.int (3 : Int32))] []) _
              refine own_go (fun _ => XS.iinc X0.here hx rfl (hb hby d3_47) rfl (l' := #[.val (.ref a), .val (.int (1 : Int32)), .val (.int (4 : Int32))]) rfl) ?_
              show own_Ends p e below s₁ (mkF m 50 #[.val (.ref a), .val (.int (1 : Int32)), .val (.int (4 : Int32))] []) _
              refine own_go (fun _ => XS.goto X0.here hx rfl (pc0 := 50) (pc' := 32) rfl (hb hby d3_50) (by decide) (by decide)) ?_
              show own_Ends p e below s₁ (mkF m 32 #[.val (.ref a), .val (.int (1 : Int32)), .val (.int (4 : Int32))] []) _
              refine own_go (fun _ => XS.iloadN X0.here hx rfl (hb hby d3_32) rfl) ?_
              show own_Ends p e below s₁ (mkF m 33 #[.val (.ref a), .val (.int (1 : Int32)), .val (.int (4 : Int32))] [(.int (4 : Int32))]) _
              refine own_go (fun _ => XS.bipush X0.here hx rfl (hb hby d3_33)) ?_
              show own_Ends p e below s₁ (mkF m 35 #[.val (.ref a), .val (.int (1 : Int32)), .val (.int (4 : Int32))] [(.int (8 : Int32)), (.int (4 : Int32))]) _
              refine own_go (fun _ => XS.icmpNo X0.here hx rfl (hb hby d3_35) rfl (tlt (show (4 : Int32) < (8 : Int32) from by decide)).2.1) ?_
              show own_Ends p e below s₁ (mkF m 38 #[.val (.ref a), .val (.int (1 : Int32)), .val (.int (4 : Int32))] []) _
              refine own_go (fun _ => XS.aloadN X0.here hx rfl (hb hby d3_38) rfl rfl) ?_
              show own_Ends p e below s₁ (mkF m 39 #[.val (.ref a), .val (.int (1 : Int32)), .val (.int (4 : Int32))] [(.ref a)]) _
              refine own_go (fun _ => XS.iloadN X0.here hx rfl (hb hby d3_39) rfl) ?_
              show own_Ends p e below s₁ (mkF m 40 #[.val (.ref a), .val (.int (1 : Int32)), .val (.int (4 : Int32))] [(.int (4 : Int32)), (.ref a)]) _
              obtain ⟨cl_23, Ar_23, q_23, S_23, M_23, H_23, G_23⟩ := V_a_r22
              have hin23 : ¬ ((4 : Int32) < 0 ∨ cl_23.slots.size ≤ ((4 : Int32)).toNatClampNeg) := inb_of S_23 ⟨by decide, by decide⟩
              have hat23 : cl_23.slots[((4 : Int32)).toNatClampNeg]? = some (.int c4) := Has.at H_23 hin23 (rfl)
              refine own_go (X0.baloadBytes hx (j := (4 : Int32)) (v := (.int c4)) (by rw [e0]; exact Ar_23.1) (State.isArrayOf_alike hZ.alike Ar_23.2.1) Ar_23.2.2 hin23 hat23 (g := (mkF m 40 #[.val (.ref a), .val (.int (1 : Int32)), .val (.int (4 : Int32))] [(.int (4 : Int32)), (.ref a)])) rfl rfl (hb hby d3_40)) ?_
              have V_a_r23 : Arv Z h0 a kl .byte (8 : Int32) [(.int c0), (.int c1), (.int c2), (.int c3), (.int c4), (.int c5), (.int c6), (.int c7)] (.int (0 : Int32)) := ⟨cl_23, Ar_23, q_23, S_23, M_23, H_23, G_23⟩
              show own_Ends p e below s₁ (mkF m 41 #[.val (.ref a), .val (.int (1 : Int32)), .val (.int (4 : Int32))] [(.int c4)]) _
              refine own_go (fun _ => XS.iconst X0.here hx rfl (hb hby d3_41)) ?_
              show own_Ends p e below s₁ (mkF m 42 #[.val (.ref a), .val (.int (1 : Int32)), .val (.int (4 : Int32))] [(.int (-1 : Int32)), (.int c4)]) _
              by_cases hc42_3 : c4 = (-1 : Int32)
              · refine own_go (fun _ => XS.icmpYes X0.here hx rfl (pc0 := 42) (pc' := 47) rfl (hb hby d3_42) rfl (teq hc42_3).1 (by decide) (by decide)) ?_
                show own_Ends p e below s₁ (mkF m 47 #[.val (.ref a), .val (.int (1 : Int32)), .val (.int (4 : Int32))] []) _
                refine own_go (fun _ => XS.iinc X0.here hx rfl (hb hby d3_47) rfl (l' := #[.val (.ref a), .val (.int (1 : Int32)), .val (.int (5 : Int32))]) rfl) ?_
                show own_Ends p e below s₁ (mkF m 50 #[.val (.ref a), .val (.int (1 : Int32)), .val (.int (5 : Int32))] []) _
                refine own_go (fun _ => XS.goto X0.here hx rfl (pc0 := 50) (pc' := 32) rfl (hb hby d3_50) (by decide) (by decide)) ?_
                show own_Ends p e below s₁ (mkF m 32 #[.val (.ref a), .val (.int (1 : Int32)), .val (.int (5 : Int32))] []) _
                refine own_go (fun _ => XS.iloadN X0.here hx rfl (hb hby d3_32) rfl) ?_
                show own_Ends p e below s₁ (mkF m 33 #[.val (.ref a), .val (.int (1 : Int32)), .val (.int (5 : Int32))] [(.int (5 : Int32))]) _
                refine own_go (fun _ => XS.bipush X0.here hx rfl (hb hby d3_33)) ?_
                show own_Ends p e below s₁ (mkF m 35 #[.val (.ref a), .val (.int (1 : Int32)), .val (.int (5 : Int32))] [(.int (8 : Int32)), (.int (5 : Int32))]) _
                refine own_go (fun _ => XS.icmpNo X0.here hx rfl (hb hby d3_35) rfl (tlt (show (5 : Int32) < (8 : Int32) from by decide)).2.1) ?_
                show own_Ends p e below s₁ (mkF m 38 #[.val (.ref a), .val (.int (1 : Int32)), .val (.int (5 : Int32))] []) _
                refine own_go (fun _ => XS.aloadN X0.here hx rfl (hb hby d3_38) rfl rfl) ?_
                show own_Ends p e below s₁ (mkF m 39 #[.val (.ref a), .val (.int (1 : Int32)), .val (.int (5 : Int32))] [(.ref a)]) _
                refine own_go (fun _ => XS.iloadN X0.here hx rfl (hb hby d3_39) rfl) ?_
                show own_Ends p e below s₁ (mkF m 40 #[.val (.ref a), .val (.int (1 : Int32)), .val (.int (5 : Int32))] [(.int (5 : Int32)), (.ref a)]) _
                obtain ⟨cl_24, Ar_24, q_24, S_24, M_24, H_24, G_24⟩ := V_a_r23
                have hin24 : ¬ ((5 : Int32) < 0 ∨ cl_24.slots.size ≤ ((5 : Int32)).toNatClampNeg) := inb_of S_24 ⟨by decide, by decide⟩
                have hat24 : cl_24.slots[((5 : Int32)).toNatClampNeg]? = some (.int c5) := Has.at H_24 hin24 (rfl)
                refine own_go (X0.baloadBytes hx (j := (5 : Int32)) (v := (.int c5)) (by rw [e0]; exact Ar_24.1) (State.isArrayOf_alike hZ.alike Ar_24.2.1) Ar_24.2.2 hin24 hat24 (g := (mkF m 40 #[.val (.ref a), .val (.int (1 : Int32)), .val (.int (5 : Int32))] [(.int (5 : Int32)), (.ref a)])) rfl rfl (hb hby d3_40)) ?_
                have V_a_r24 : Arv Z h0 a kl .byte (8 : Int32) [(.int c0), (.int c1), (.int c2), (.int c3), (.int c4), (.int c5), (.int c6), (.int c7)] (.int (0 : Int32)) := ⟨cl_24, Ar_24, q_24, S_24, M_24, H_24, G_24⟩
                show own_Ends p e below s₁ (mkF m 41 #[.val (.ref a), .val (.int (1 : Int32)), .val (.int (5 : Int32))] [(.int c5)]) _
                refine own_go (fun _ => XS.iconst X0.here hx rfl (hb hby d3_41)) ?_
                show own_Ends p e below s₁ (mkF m 42 #[.val (.ref a), .val (.int (1 : Int32)), .val (.int (5 : Int32))] [(.int (-1 : Int32)), (.int c5)]) _
                by_cases hc42_4 : c5 = (-1 : Int32)
                · refine own_go (fun _ => XS.icmpYes X0.here hx rfl (pc0 := 42) (pc' := 47) rfl (hb hby d3_42) rfl (teq hc42_4).1 (by decide) (by decide)) ?_
                  show own_Ends p e below s₁ (mkF m 47 #[.val (.ref a), .val (.int (1 : Int32)), .val (.int (5 : Int32))] []) _
                  refine own_go (fun _ => XS.iinc X0.here hx rfl (hb hby d3_47) rfl (l' := #[.val (.ref a), .val (.int (1 : Int32)), .val (.int (6 : Int32))]) rfl) ?_
                  show own_Ends p e below s₁ (mkF m 50 #[.val (.ref a), .val (.int (1 : Int32)), .val (.int (6 : Int32))] []) _
                  refine own_go (fun _ => XS.goto X0.here hx rfl (pc0 := 50) (pc' := 32) rfl (hb hby d3_50) (by decide) (by decide)) ?_
                  show own_Ends p e below s₁ (mkF m 32 #[.val (.ref a), .val (.int (1 : Int32)), .val (.int (6 : Int32))] []) _
                  refine own_go (fun _ => XS.iloadN X0.here hx rfl (hb hby d3_32) rfl) ?_
                  show own_Ends p e below s₁ (mkF m 33 #[.val (.ref a), .val (.int (1 : Int32)), .val (.int (6 : Int32))] [(.int (6 : Int32))]) _
                  refine own_go (fun _ => XS.bipush X0.here hx rfl (hb hby d3_33)) ?_
                  show own_Ends p e below s₁ (mkF m 35 #[.val (.ref a), .val (.int (1 : Int32)), .val (.int (6 : Int32))] [(.int (8 : Int32)), (.int (6 : Int32))]) _
                  refine own_go (fun _ => XS.icmpNo X0.here hx rfl (hb hby d3_35) rfl (tlt (show (6 : Int32) < (8 : Int32) from by decide)).2.1) ?_
                  show own_Ends p e below s₁ (mkF m 38 #[.val (.ref a), .val (.int (1 : Int32)), .val (.int (6 : Int32))] []) _
                  refine own_go (fun _ => XS.aloadN X0.here hx rfl (hb hby d3_38) rfl rfl) ?_
                  show own_Ends p e below s₁ (mkF m 39 #[.val (.ref a), .val (.int (1 : Int32)), .val (.int (6 : Int32))] [(.ref a)]) _
                  refine own_go (fun _ => XS.iloadN X0.here hx rfl (hb hby d3_39) rfl) ?_
                  show own_Ends p e below s₁ (mkF m 40 #[.val (.ref a), .val (.int (1 : Int32)), .val (.int (6 : Int32))] [(.int (6 : Int32)), (.ref a)]) _
                  obtain ⟨cl_25, Ar_25, q_25, S_25, M_25, H_25, G_25⟩ := V_a_r24
                  have hin25 : ¬ ((6 : Int32) < 0 ∨ cl_25.slots.size ≤ ((6 : Int32)).toNatClampNeg) := inb_of S_25 ⟨by decide, by decide⟩
                  have hat25 : cl_25.slots[((6 : Int32)).toNatClampNeg]? = some (.int c6) := Has.at H_25 hin25 (rfl)
                  refine own_go (X0.baloadBytes hx (j := (6 : Int32)) (v := (.int c6)) (by rw [e0]; exact Ar_25.1) (State.isArrayOf_alike hZ.alike Ar_25.2.1) Ar_25.2.2 hin25 hat25 (g := (mkF m 40 #[.val (.ref a), .val (.int (1 : Int32)), .val (.int (6 : Int32))] [(.int (6 : Int32)), (.ref a)])) rfl rfl (hb hby d3_40)) ?_
                  have V_a_r25 : Arv Z h0 a kl .byte (8 : Int32) [(.int c0), (.int c1), (.int c2), (.int c3), (.int c4), (.int c5), (.int c6), (.int c7)] (.int (0 : Int32)) := ⟨cl_25, Ar_25, q_25, S_25, M_25, H_25, G_25⟩
                  show own_Ends p e below s₁ (mkF m 41 #[.val (.ref a), .val (.int (1 : Int32)), .val (.int (6 : Int32))] [(.int c6)]) _
                  refine own_go (fun _ => XS.iconst X0.here hx rfl (hb hby d3_41)) ?_
                  show own_Ends p e below s₁ (mkF m 42 #[.val (.ref a), .val (.int (1 : Int32)), .val (.int (6 : Int32))] [(.int (-1 : Int32)), (.int c6)]) _
                  by_cases hc42_5 : c6 = (-1 : Int32)
                  · refine own_go (fun _ => XS.icmpYes X0.here hx rfl (pc0 := 42) (pc' := 47) rfl (hb hby d3_42) rfl (teq hc42_5).1 (by decide) (by decide)) ?_
                    show own_Ends p e below s₁ (mkF m 47 #[.val (.ref a), .val (.int (1 : Int32)), .val (.int (6 : Int32))] []) _
                    refine own_go (fun _ => XS.iinc X0.here hx rfl (hb hby d3_47) rfl (l' := #[.val (.ref a), .val (.int (1 : Int32)), .val (.int (7 : Int32))]) rfl) ?_
                    show own_Ends p e below s₁ (mkF m 50 #[.val (.ref a), .val (.int (1 : Int32)), .val (.int (7 : Int32))] []) _
                    refine own_go (fun _ => XS.goto X0.here hx rfl (pc0 := 50) (pc' := 32) rfl (hb hby d3_50) (by decide) (by decide)) ?_
                    show own_Ends p e below s₁ (mkF m 32 #[.val (.ref a), .val (.int (1 : Int32)), .val (.int (7 : Int32))] []) _
                    refine own_go (fun _ => XS.iloadN X0.here hx rfl (hb hby d3_32) rfl) ?_
                    show own_Ends p e below s₁ (mkF m 33 #[.val (.ref a), .val (.int (1 : Int32)), .val (.int (7 : Int32))] [(.int (7 : Int32))]) _
                    refine own_go (fun _ => XS.bipush X0.here hx rfl (hb hby d3_33)) ?_
                    show own_Ends p e below s₁ (mkF m 35 #[.val (.ref a), .val (.int (1 : Int32)), .val (.int (7 : Int32))] [(.int (8 : Int32)), (.int (7 : Int32))]) _
                    refine own_go (fun _ => XS.icmpNo X0.here hx rfl (hb hby d3_35) rfl (tlt (show (7 : Int32) < (8 : Int32) from by decide)).2.1) ?_
                    show own_Ends p e below s₁ (mkF m 38 #[.val (.ref a), .val (.int (1 : Int32)), .val (.int (7 : Int32))] []) _
                    refine own_go (fun _ => XS.aloadN X0.here hx rfl (hb hby d3_38) rfl rfl) ?_
                    show own_Ends p e below s₁ (mkF m 39 #[.val (.ref a), .val (.int (1 : Int32)), .val (.int (7 : Int32))] [(.ref a)]) _
                    refine own_go (fun _ => XS.iloadN X0.here hx rfl (hb hby d3_39) rfl) ?_
                    show own_Ends p e below s₁ (mkF m 40 #[.val (.ref a), .val (.int (1 : Int32)), .val (.int (7 : Int32))] [(.int (7 : Int32)), (.ref a)]) _
                    obtain ⟨cl_26, Ar_26, q_26, S_26, M_26, H_26, G_26⟩ := V_a_r25
                    have hin26 : ¬ ((7 : Int32) < 0 ∨ cl_26.slots.size ≤ ((7 : Int32)).toNatClampNeg) := inb_of S_26 ⟨by decide, by decide⟩
                    have hat26 : cl_26.slots[((7 : Int32)).toNatClampNeg]? = some (.int c7) := Has.at H_26 hin26 (rfl)
                    refine own_go (X0.baloadBytes hx (j := (7 : Int32)) (v := (.int c7)) (by rw [e0]; exact Ar_26.1) (State.isArrayOf_alike hZ.alike Ar_26.2.1) Ar_26.2.2 hin26 hat26 (g := (mkF m 40 #[.val (.ref a), .val (.int (1 : Int32)), .val (.int (7 : Int32))] [(.int (7 : Int32)), (.ref a)])) rfl rfl (hb hby d3_40)) ?_
                    have V_a_r26 : Arv Z h0 a kl .byte (8 : Int32) [(.int c0), (.int c1), (.int c2), (.int c3), (.int c4), (.int c5), (.int c6), (.int c7)] (.int (0 : Int32)) := ⟨cl_26, Ar_26, q_26, S_26, M_26, H_26, G_26⟩
                    show own_Ends p e below s₁ (mkF m 41 #[.val (.ref a), .val (.int (1 : Int32)), .val (.int (7 : Int32))] [(.int c7)]) _
                    refine own_go (fun _ => XS.iconst X0.here hx rfl (hb hby d3_41)) ?_
                    show own_Ends p e below s₁ (mkF m 42 #[.val (.ref a), .val (.int (1 : Int32)), .val (.int (7 : Int32))] [(.int (-1 : Int32)), (.int c7)]) _
                    by_cases hc42_6 : c7 = (-1 : Int32)
                    · refine own_go (fun _ => XS.icmpYes X0.here hx rfl (pc0 := 42) (pc' := 47) rfl (hb hby d3_42) rfl (teq hc42_6).1 (by decide) (by decide)) ?_
                      show own_Ends p e below s₁ (mkF m 47 #[.val (.ref a), .val (.int (1 : Int32)), .val (.int (7 : Int32))] []) _
                      refine own_go (fun _ => XS.iinc X0.here hx rfl (hb hby d3_47) rfl (l' := #[.val (.ref a), .val (.int (1 : Int32)), .val (.int (8 : Int32))]) rfl) ?_
                      show own_Ends p e below s₁ (mkF m 50 #[.val (.ref a), .val (.int (1 : Int32)), .val (.int (8 : Int32))] []) _
                      refine own_go (fun _ => XS.goto X0.here hx rfl (pc0 := 50) (pc' := 32) rfl (hb hby d3_50) (by decide) (by decide)) ?_
                      show own_Ends p e below s₁ (mkF m 32 #[.val (.ref a), .val (.int (1 : Int32)), .val (.int (8 : Int32))] []) _
                      refine own_go (fun _ => XS.iloadN X0.here hx rfl (hb hby d3_32) rfl) ?_
                      show own_Ends p e below s₁ (mkF m 33 #[.val (.ref a), .val (.int (1 : Int32)), .val (.int (8 : Int32))] [(.int (8 : Int32))]) _
                      refine own_go (fun _ => XS.bipush X0.here hx rfl (hb hby d3_33)) ?_
                      show own_Ends p e below s₁ (mkF m 35 #[.val (.ref a), .val (.int (1 : Int32)), .val (.int (8 : Int32))] [(.int (8 : Int32)), (.int (8 : Int32))]) _
                      refine own_go (fun _ => XS.icmpYes X0.here hx rfl (pc0 := 35) (pc' := 53) rfl (hb hby d3_35) rfl (flt (show ¬ ((8 : Int32) < (8 : Int32)) from by decide)).2.1 (by decide) (by decide)) ?_
                      show own_Ends p e below s₁ (mkF m 53 #[.val (.ref a), .val (.int (1 : Int32)), .val (.int (8 : Int32))] []) _
                      refine own_go (fun _ => XS.iloadN X0.here hx rfl (hb hby d3_53) rfl) ?_
                      show own_Ends p e below s₁ (mkF m 54 #[.val (.ref a), .val (.int (1 : Int32)), .val (.int (8 : Int32))] [(.int (1 : Int32))]) _
                      refine own_go (fun _ => XS.iconst X0.here hx rfl (hb hby d3_54)) ?_
                      show own_Ends p e below s₁ (mkF m 55 #[.val (.ref a), .val (.int (1 : Int32)), .val (.int (8 : Int32))] [(.int (4 : Int32)), (.int (1 : Int32))]) _
                      refine own_go (fun _ => XS.icmpYes X0.here hx rfl (pc0 := 55) (pc' := 62) rfl (hb hby d3_55) rfl (tlt (show (1 : Int32) < (4 : Int32) from by decide)).1 (by decide) (by decide)) ?_
                      show own_Ends p e below s₁ (mkF m 62 #[.val (.ref a), .val (.int (1 : Int32)), .val (.int (8 : Int32))] []) _
                      refine own_go (fun _ => XS.iconst X0.here hx rfl (hb hby d3_62)) ?_
                      show own_Ends p e below s₁ (mkF m 63 #[.val (.ref a), .val (.int (1 : Int32)), .val (.int (8 : Int32))] [(.int (0 : Int32))]) _
                      obtain ⟨fs, hr, hrun, hended, hW, hsame⟩ := X0.leave (v := some (.int (0 : Int32))) (fun h => by rw [Bd.returns] at h; cases h)
                      refine ⟨_, _, retN X0 hx (t := .boolean) Bd.returns (by simp) (hb hby d3_63) hr, hrun, hended, _, _, rfl, ?_, ⟨_, rfl⟩, hW, hsame.mono (by decide) (by decide)⟩
                      show Q_rmPin Z a kl c0 c1 c2 c3 c4 c5 c6 c7 h0 n0 _ s₁.heap _
                      rw [e0]
                      exact ⟨_, rfl, by exact own_back ((own_sC hc13 hc21).trans ((own_sA hc13_1).trans ((own_tA hc42).trans ((own_tA hc42_1).trans ((own_tA hc42_2).trans ((own_tA hc42_3).trans ((own_tA hc42_4).trans ((own_tA hc42_5).trans ((own_tA hc42_6).trans (rfl)))))))))), N0, rfl⟩
                    · refine own_go (fun _ => XS.icmpNo X0.here hx rfl (hb hby d3_42) rfl (feq hc42_6).1) ?_
                      show own_Ends p e below s₁ (mkF m 45 #[.val (.ref a), .val (.int (1 : Int32)), .val (.int (7 : Int32))] []) _
                      refine own_go (fun _ => XS.iconst X0.here hx rfl (hb hby d3_45)) ?_
                      show own_Ends p e below s₁ (mkF m 46 #[.val (.ref a), .val (.int (1 : Int32)), .val (.int (7 : Int32))] [(.int (0 : Int32))]) _
                      obtain ⟨fs, hr, hrun, hended, hW, hsame⟩ := X0.leave (v := some (.int (0 : Int32))) (fun h => by rw [Bd.returns] at h; cases h)
                      refine ⟨_, _, retN X0 hx (t := .boolean) Bd.returns (by simp) (hb hby d3_46) hr, hrun, hended, _, _, rfl, ?_, ⟨_, rfl⟩, hW, hsame.mono (by decide) (by decide)⟩
                      show Q_rmPin Z a kl c0 c1 c2 c3 c4 c5 c6 c7 h0 n0 _ s₁.heap _
                      rw [e0]
                      exact ⟨_, rfl, by exact own_back ((own_sC hc13 hc21).trans ((own_sA hc13_1).trans ((own_tA hc42).trans ((own_tA hc42_1).trans ((own_tA hc42_2).trans ((own_tA hc42_3).trans ((own_tA hc42_4).trans ((own_tA hc42_5).trans (own_tB hc42_6))))))))), N0, rfl⟩
                  · refine own_go (fun _ => XS.icmpNo X0.here hx rfl (hb hby d3_42) rfl (feq hc42_5).1) ?_
                    show own_Ends p e below s₁ (mkF m 45 #[.val (.ref a), .val (.int (1 : Int32)), .val (.int (6 : Int32))] []) _
                    refine own_go (fun _ => XS.iconst X0.here hx rfl (hb hby d3_45)) ?_
                    show own_Ends p e below s₁ (mkF m 46 #[.val (.ref a), .val (.int (1 : Int32)), .val (.int (6 : Int32))] [(.int (0 : Int32))]) _
                    obtain ⟨fs, hr, hrun, hended, hW, hsame⟩ := X0.leave (v := some (.int (0 : Int32))) (fun h => by rw [Bd.returns] at h; cases h)
                    refine ⟨_, _, retN X0 hx (t := .boolean) Bd.returns (by simp) (hb hby d3_46) hr, hrun, hended, _, _, rfl, ?_, ⟨_, rfl⟩, hW, hsame.mono (by decide) (by decide)⟩
                    show Q_rmPin Z a kl c0 c1 c2 c3 c4 c5 c6 c7 h0 n0 _ s₁.heap _
                    rw [e0]
                    exact ⟨_, rfl, by exact own_back ((own_sC hc13 hc21).trans ((own_sA hc13_1).trans ((own_tA hc42).trans ((own_tA hc42_1).trans ((own_tA hc42_2).trans ((own_tA hc42_3).trans ((own_tA hc42_4).trans (own_tB hc42_5)))))))), N0, rfl⟩
                · refine own_go (fun _ => XS.icmpNo X0.here hx rfl (hb hby d3_42) rfl (feq hc42_4).1) ?_
                  show own_Ends p e below s₁ (mkF m 45 #[.val (.ref a), .val (.int (1 : Int32)), .val (.int (5 : Int32))] []) _
                  refine own_go (fun _ => XS.iconst X0.here hx rfl (hb hby d3_45)) ?_
                  show own_Ends p e below s₁ (mkF m 46 #[.val (.ref a), .val (.int (1 : Int32)), .val (.int (5 : Int32))] [(.int (0 : Int32))]) _
                  obtain ⟨fs, hr, hrun, hended, hW, hsame⟩ := X0.leave (v := some (.int (0 : Int32))) (fun h => by rw [Bd.returns] at h; cases h)
                  refine ⟨_, _, retN X0 hx (t := .boolean) Bd.returns (by simp) (hb hby d3_46) hr, hrun, hended, _, _, rfl, ?_, ⟨_, rfl⟩, hW, hsame.mono (by decide) (by decide)⟩
                  show Q_rmPin Z a kl c0 c1 c2 c3 c4 c5 c6 c7 h0 n0 _ s₁.heap _
                  rw [e0]
                  exact ⟨_, rfl, by exact own_back ((own_sC hc13 hc21).trans ((own_sA hc13_1).trans ((own_tA hc42).trans ((own_tA hc42_1).trans ((own_tA hc42_2).trans ((own_tA hc42_3).trans (own_tB hc42_4))))))), N0, rfl⟩
              · refine own_go (fun _ => XS.icmpNo X0.here hx rfl (hb hby d3_42) rfl (feq hc42_3).1) ?_
                show own_Ends p e below s₁ (mkF m 45 #[.val (.ref a), .val (.int (1 : Int32)), .val (.int (4 : Int32))] []) _
                refine own_go (fun _ => XS.iconst X0.here hx rfl (hb hby d3_45)) ?_
                show own_Ends p e below s₁ (mkF m 46 #[.val (.ref a), .val (.int (1 : Int32)), .val (.int (4 : Int32))] [(.int (0 : Int32))]) _
                obtain ⟨fs, hr, hrun, hended, hW, hsame⟩ := X0.leave (v := some (.int (0 : Int32))) (fun h => by rw [Bd.returns] at h; cases h)
                refine ⟨_, _, retN X0 hx (t := .boolean) Bd.returns (by simp) (hb hby d3_46) hr, hrun, hended, _, _, rfl, ?_, ⟨_, rfl⟩, hW, hsame.mono (by decide) (by decide)⟩
                show Q_rmPin Z a kl c0 c1 c2 c3 c4 c5 c6 c7 h0 n0 _ s₁.heap _
                rw [e0]
                exact ⟨_, rfl, by exact own_back ((own_sC hc13 hc21).trans ((own_sA hc13_1).trans ((own_tA hc42).trans ((own_tA hc42_1).trans ((own_tA hc42_2).trans (own_tB hc42_3)))))), N0, rfl⟩
            · refine own_go (fun _ => XS.icmpNo X0.here hx rfl (hb hby d3_42) rfl (feq hc42_2).1) ?_
              show own_Ends p e below s₁ (mkF m 45 #[.val (.ref a), .val (.int (1 : Int32)), .val (.int (3 : Int32))] []) _
              refine own_go (fun _ => XS.iconst X0.here hx rfl (hb hby d3_45)) ?_
              show own_Ends p e below s₁ (mkF m 46 #[.val (.ref a), .val (.int (1 : Int32)), .val (.int (3 : Int32))] [(.int (0 : Int32))]) _
              obtain ⟨fs, hr, hrun, hended, hW, hsame⟩ := X0.leave (v := some (.int (0 : Int32))) (fun h => by rw [Bd.returns] at h; cases h)
              refine ⟨_, _, retN X0 hx (t := .boolean) Bd.returns (by simp) (hb hby d3_46) hr, hrun, hended, _, _, rfl, ?_, ⟨_, rfl⟩, hW, hsame.mono (by decide) (by decide)⟩
              show Q_rmPin Z a kl c0 c1 c2 c3 c4 c5 c6 c7 h0 n0 _ s₁.heap _
              rw [e0]
              exact ⟨_, rfl, by exact own_back ((own_sC hc13 hc21).trans ((own_sA hc13_1).trans ((own_tA hc42).trans ((own_tA hc42_1).trans (own_tB hc42_2))))), N0, rfl⟩
          · refine own_go (fun _ => XS.icmpNo X0.here hx rfl (hb hby d3_42) rfl (feq hc42_1).1) ?_
            show own_Ends p e below s₁ (mkF m 45 #[.val (.ref a), .val (.int (1 : Int32)), .val (.int (2 : Int32))] []) _
            refine own_go (fun _ => XS.iconst X0.here hx rfl (hb hby d3_45)) ?_
            show own_Ends p e below s₁ (mkF m 46 #[.val (.ref a), .val (.int (1 : Int32)), .val (.int (2 : Int32))] [(.int (0 : Int32))]) _
            obtain ⟨fs, hr, hrun, hended, hW, hsame⟩ := X0.leave (v := some (.int (0 : Int32))) (fun h => by rw [Bd.returns] at h; cases h)
            refine ⟨_, _, retN X0 hx (t := .boolean) Bd.returns (by simp) (hb hby d3_46) hr, hrun, hended, _, _, rfl, ?_, ⟨_, rfl⟩, hW, hsame.mono (by decide) (by decide)⟩
            show Q_rmPin Z a kl c0 c1 c2 c3 c4 c5 c6 c7 h0 n0 _ s₁.heap _
            rw [e0]
            exact ⟨_, rfl, by exact own_back ((own_sC hc13 hc21).trans ((own_sA hc13_1).trans ((own_tA hc42).trans (own_tB hc42_1)))), N0, rfl⟩
        · refine own_go (fun _ => XS.icmpNo X0.here hx rfl (hb hby d3_42) rfl (feq hc42).1) ?_
          show own_Ends p e below s₁ (mkF m 45 #[.val (.ref a), .val (.int (1 : Int32)), .val (.int (1 : Int32))] []) _
          refine own_go (fun _ => XS.iconst X0.here hx rfl (hb hby d3_45)) ?_
          show own_Ends p e below s₁ (mkF m 46 #[.val (.ref a), .val (.int (1 : Int32)), .val (.int (1 : Int32))] [(.int (0 : Int32))]) _
          obtain ⟨fs, hr, hrun, hended, hW, hsame⟩ := X0.leave (v := some (.int (0 : Int32))) (fun h => by rw [Bd.returns] at h; cases h)
          refine ⟨_, _, retN X0 hx (t := .boolean) Bd.returns (by simp) (hb hby d3_46) hr, hrun, hended, _, _, rfl, ?_, ⟨_, rfl⟩, hW, hsame.mono (by decide) (by decide)⟩
          show Q_rmPin Z a kl c0 c1 c2 c3 c4 c5 c6 c7 h0 n0 _ s₁.heap _
          rw [e0]
          exact ⟨_, rfl, by exact own_back ((own_sC hc13 hc21).trans ((own_sA hc13_1).trans (own_tB hc42))), N0, rfl⟩
      · refine own_go (fun _ => XS.icmpNo X0.here hx rfl (hb hby d3_13) rfl (flt hc13_1).1) ?_
        show own_Ends p e below s₁ (mkF m 16 #[.val (.ref a), .val (.int (1 : Int32)), .unset] []) _
        refine own_go (fun _ => XS.aloadN X0.here hx rfl (hb hby d3_16) rfl rfl) ?_
        show own_Ends p e below s₁ (mkF m 17 #[.val (.ref a), .val (.int (1 : Int32)), .unset] [(.ref a)]) _
        refine own_go (fun _ => XS.iloadN X0.here hx rfl (hb hby d3_17) rfl) ?_
        show own_Ends p e below s₁ (mkF m 18 #[.val (.ref a), .val (.int (1 : Int32)), .unset] [(.int (1 : Int32)), (.ref a)]) _
        obtain ⟨cl_27, Ar_27, q_27, S_27, M_27, H_27, G_27⟩ := V_a_r19
        have hin27 : ¬ ((1 : Int32) < 0 ∨ cl_27.slots.size ≤ ((1 : Int32)).toNatClampNeg) := inb_of S_27 ⟨by decide, by decide⟩
        have hat27 : cl_27.slots[((1 : Int32)).toNatClampNeg]? = some (.int c1) := Has.at H_27 hin27 (rfl)
        refine own_go (X0.baloadBytes hx (j := (1 : Int32)) (v := (.int c1)) (by rw [e0]; exact Ar_27.1) (State.isArrayOf_alike hZ.alike Ar_27.2.1) Ar_27.2.2 hin27 hat27 (g := (mkF m 18 #[.val (.ref a), .val (.int (1 : Int32)), .unset] [(.int (1 : Int32)), (.ref a)])) rfl rfl (hb hby d3_18)) ?_
        have V_a_r27 : Arv Z h0 a kl .byte (8 : Int32) [(.int c0), (.int c1), (.int c2), (.int c3), (.int c4), (.int c5), (.int c6), (.int c7)] (.int (0 : Int32)) := ⟨cl_27, Ar_27, q_27, S_27, M_27, H_27, G_27⟩
        show own_Ends p e below s₁ (mkF m 19 #[.val (.ref a), .val (.int (1 : Int32)), .unset] [(.int c1)]) _
        refine own_go (fun _ => XS.bipush X0.here hx rfl (hb hby d3_19)) ?_
        show own_Ends p e below s₁ (mkF m 21 #[.val (.ref a), .val (.int (1 : Int32)), .unset] [(.int (57 : Int32)), (.int c1)]) _
        by_cases hc21_1 : (57 : Int32) < c1
        · refine own_go (fun _ => XS.icmpYes X0.here hx rfl (pc0 := 21) (pc' := 30) rfl (hb hby d3_21) rfl (tlt hc21_1).2.2.1 (by decide) (by decide)) ?_
          show own_Ends p e below s₁ (mkF m 30 #[.val (.ref a), .val (.int (1 : Int32)), .unset] []) _
          refine own_go (fun _ => XS.iloadN X0.here hx rfl (hb hby d3_30) rfl) ?_
          show own_Ends p e below s₁ (mkF m 31 #[.val (.ref a), .val (.int (1 : Int32)), .unset] [(.int (1 : Int32))]) _
          refine own_go (fun _ => XS.istoreN X0.here hx rfl (hb hby d3_31) rfl (l' := #[.val (.ref a), .val (.int (1 : Int32)), .val (.int (1 : Int32))]) rfl) ?_
          show own_Ends p e below s₁ (mkF m 32 #[.val (.ref a), .val (.int (1 : Int32)), .val (.int (1 : Int32))] []) _
          refine own_go (fun _ => XS.iloadN X0.here hx rfl (hb hby d3_32) rfl) ?_
          show own_Ends p e below s₁ (mkF m 33 #[.val (.ref a), .val (.int (1 : Int32)), .val (.int (1 : Int32))] [(.int (1 : Int32))]) _
          refine own_go (fun _ => XS.bipush X0.here hx rfl (hb hby d3_33)) ?_
          show own_Ends p e below s₁ (mkF m 35 #[.val (.ref a), .val (.int (1 : Int32)), .val (.int (1 : Int32))] [(.int (8 : Int32)), (.int (1 : Int32))]) _
          refine own_go (fun _ => XS.icmpNo X0.here hx rfl (hb hby d3_35) rfl (tlt (show (1 : Int32) < (8 : Int32) from by decide)).2.1) ?_
          show own_Ends p e below s₁ (mkF m 38 #[.val (.ref a), .val (.int (1 : Int32)), .val (.int (1 : Int32))] []) _
          refine own_go (fun _ => XS.aloadN X0.here hx rfl (hb hby d3_38) rfl rfl) ?_
          show own_Ends p e below s₁ (mkF m 39 #[.val (.ref a), .val (.int (1 : Int32)), .val (.int (1 : Int32))] [(.ref a)]) _
          refine own_go (fun _ => XS.iloadN X0.here hx rfl (hb hby d3_39) rfl) ?_
          show own_Ends p e below s₁ (mkF m 40 #[.val (.ref a), .val (.int (1 : Int32)), .val (.int (1 : Int32))] [(.int (1 : Int32)), (.ref a)]) _
          obtain ⟨cl_28, Ar_28, q_28, S_28, M_28, H_28, G_28⟩ := V_a_r27
          have hin28 : ¬ ((1 : Int32) < 0 ∨ cl_28.slots.size ≤ ((1 : Int32)).toNatClampNeg) := inb_of S_28 ⟨by decide, by decide⟩
          have hat28 : cl_28.slots[((1 : Int32)).toNatClampNeg]? = some (.int c1) := Has.at H_28 hin28 (rfl)
          refine own_go (X0.baloadBytes hx (j := (1 : Int32)) (v := (.int c1)) (by rw [e0]; exact Ar_28.1) (State.isArrayOf_alike hZ.alike Ar_28.2.1) Ar_28.2.2 hin28 hat28 (g := (mkF m 40 #[.val (.ref a), .val (.int (1 : Int32)), .val (.int (1 : Int32))] [(.int (1 : Int32)), (.ref a)])) rfl rfl (hb hby d3_40)) ?_
          have V_a_r28 : Arv Z h0 a kl .byte (8 : Int32) [(.int c0), (.int c1), (.int c2), (.int c3), (.int c4), (.int c5), (.int c6), (.int c7)] (.int (0 : Int32)) := ⟨cl_28, Ar_28, q_28, S_28, M_28, H_28, G_28⟩
          show own_Ends p e below s₁ (mkF m 41 #[.val (.ref a), .val (.int (1 : Int32)), .val (.int (1 : Int32))] [(.int c1)]) _
          refine own_go (fun _ => XS.iconst X0.here hx rfl (hb hby d3_41)) ?_
          show own_Ends p e below s₁ (mkF m 42 #[.val (.ref a), .val (.int (1 : Int32)), .val (.int (1 : Int32))] [(.int (-1 : Int32)), (.int c1)]) _
          by_cases hc42 : c1 = (-1 : Int32)
          · refine own_go (fun _ => XS.icmpYes X0.here hx rfl (pc0 := 42) (pc' := 47) rfl (hb hby d3_42) rfl (teq hc42).1 (by decide) (by decide)) ?_
            show own_Ends p e below s₁ (mkF m 47 #[.val (.ref a), .val (.int (1 : Int32)), .val (.int (1 : Int32))] []) _
            refine own_go (fun _ => XS.iinc X0.here hx rfl (hb hby d3_47) rfl (l' := #[.val (.ref a), .val (.int (1 : Int32)), .val (.int (2 : Int32))]) rfl) ?_
            show own_Ends p e below s₁ (mkF m 50 #[.val (.ref a), .val (.int (1 : Int32)), .val (.int (2 : Int32))] []) _
            refine own_go (fun _ => XS.goto X0.here hx rfl (pc0 := 50) (pc' := 32) rfl (hb hby d3_50) (by decide) (by decide)) ?_
            show own_Ends p e below s₁ (mkF m 32 #[.val (.ref a), .val (.int (1 : Int32)), .val (.int (2 : Int32))] []) _
            refine own_go (fun _ => XS.iloadN X0.here hx rfl (hb hby d3_32) rfl) ?_
            show own_Ends p e below s₁ (mkF m 33 #[.val (.ref a), .val (.int (1 : Int32)), .val (.int (2 : Int32))] [(.int (2 : Int32))]) _
            refine own_go (fun _ => XS.bipush X0.here hx rfl (hb hby d3_33)) ?_
            show own_Ends p e below s₁ (mkF m 35 #[.val (.ref a), .val (.int (1 : Int32)), .val (.int (2 : Int32))] [(.int (8 : Int32)), (.int (2 : Int32))]) _
            refine own_go (fun _ => XS.icmpNo X0.here hx rfl (hb hby d3_35) rfl (tlt (show (2 : Int32) < (8 : Int32) from by decide)).2.1) ?_
            show own_Ends p e below s₁ (mkF m 38 #[.val (.ref a), .val (.int (1 : Int32)), .val (.int (2 : Int32))] []) _
            refine own_go (fun _ => XS.aloadN X0.here hx rfl (hb hby d3_38) rfl rfl) ?_
            show own_Ends p e below s₁ (mkF m 39 #[.val (.ref a), .val (.int (1 : Int32)), .val (.int (2 : Int32))] [(.ref a)]) _
            refine own_go (fun _ => XS.iloadN X0.here hx rfl (hb hby d3_39) rfl) ?_
            show own_Ends p e below s₁ (mkF m 40 #[.val (.ref a), .val (.int (1 : Int32)), .val (.int (2 : Int32))] [(.int (2 : Int32)), (.ref a)]) _
            obtain ⟨cl_29, Ar_29, q_29, S_29, M_29, H_29, G_29⟩ := V_a_r28
            have hin29 : ¬ ((2 : Int32) < 0 ∨ cl_29.slots.size ≤ ((2 : Int32)).toNatClampNeg) := inb_of S_29 ⟨by decide, by decide⟩
            have hat29 : cl_29.slots[((2 : Int32)).toNatClampNeg]? = some (.int c2) := Has.at H_29 hin29 (rfl)
            refine own_go (X0.baloadBytes hx (j := (2 : Int32)) (v := (.int c2)) (by rw [e0]; exact Ar_29.1) (State.isArrayOf_alike hZ.alike Ar_29.2.1) Ar_29.2.2 hin29 hat29 (g := (mkF m 40 #[.val (.ref a), .val (.int (1 : Int32)), .val (.int (2 : Int32))] [(.int (2 : Int32)), (.ref a)])) rfl rfl (hb hby d3_40)) ?_
            have V_a_r29 : Arv Z h0 a kl .byte (8 : Int32) [(.int c0), (.int c1), (.int c2), (.int c3), (.int c4), (.int c5), (.int c6), (.int c7)] (.int (0 : Int32)) := ⟨cl_29, Ar_29, q_29, S_29, M_29, H_29, G_29⟩
            show own_Ends p e below s₁ (mkF m 41 #[.val (.ref a), .val (.int (1 : Int32)), .val (.int (2 : Int32))] [(.int c2)]) _
            refine own_go (fun _ => XS.iconst X0.here hx rfl (hb hby d3_41)) ?_
            show own_Ends p e below s₁ (mkF m 42 #[.val (.ref a), .val (.int (1 : Int32)), .val (.int (2 : Int32))] [(.int (-1 : Int32)), (.int c2)]) _
            by_cases hc42_1 : c2 = (-1 : Int32)
            · refine own_go (fun _ => XS.icmpYes X0.here hx rfl (pc0 := 42) (pc' := 47) rfl (hb hby d3_42) rfl (teq hc42_1).1 (by decide) (by decide)) ?_
              show own_Ends p e below s₁ (mkF m 47 #[.val (.ref a), .val (.int (1 : Int32)), .val (.int (2 : Int32))] []) _
              refine own_go (fun _ => XS.iinc X0.here hx rfl (hb hby d3_47) rfl (l' := #[.val (.ref a), .val (.int (1 : Int32)), .val (.int (3 : Int32))]) rfl) ?_
              show own_Ends p e below s₁ (mkF m 50 #[.val (.ref a), .val (.int (1 : Int32)), .val (.int (3 : Int32))] []) _
              refine own_go (fun _ => XS.goto X0.here hx rfl (pc0 := 50) (pc' := 32) rfl (hb hby d3_50) (by decide) (by decide)) ?_
              show own_Ends p e below s₁ (mkF m 32 #[.val (.ref a), .val (.int (1 : Int32)), .val (.int (3 : Int32))] []) _
              refine own_go (fun _ => XS.iloadN X0.here hx rfl (hb hby d3_32) rfl) ?_
              show own_Ends p e below s₁ (mkF m 33 #[.val (.ref a), .val (.int (1 : Int32)), .val (.int (3 : Int32))] [(.int (3 : Int32))]) _
              refine own_go (fun _ => XS.bipush X0.here hx rfl (hb hby d3_33)) ?_
              show own_Ends p e below s₁ (mkF m 35 #[.val (.ref a), .val (.int (1 : Int32)), .val (.int (3 : Int32))] [(.int (8 : Int32)), (.int (3 : Int32))]) _
              refine own_go (fun _ => XS.icmpNo X0.here hx rfl (hb hby d3_35) rfl (tlt (show (3 : Int32) < (8 : Int32) from by decide)).2.1) ?_
              show own_Ends p e below s₁ (mkF m 38 #[.val (.ref a), .val (.int (1 : Int32)), .val (.int (3 : Int32))] []) _
              refine own_go (fun _ => XS.aloadN X0.here hx rfl (hb hby d3_38) rfl rfl) ?_
              show own_Ends p e below s₁ (mkF m 39 #[.val (.ref a), .val (.int (1 : Int32)), .val (.int (3 : Int32))] [(.ref a)]) _
              refine own_go (fun _ => XS.iloadN X0.here hx rfl (hb hby d3_39) rfl) ?_
              show own_Ends p e below s₁ (mkF m 40 #[.val (.ref a), .val (.int (1 : Int32)), .val (.int (3 : Int32))] [(.int (3 : Int32)), (.ref a)]) _
              obtain ⟨cl_30, Ar_30, q_30, S_30, M_30, H_30, G_30⟩ := V_a_r29
              have hin30 : ¬ ((3 : Int32) < 0 ∨ cl_30.slots.size ≤ ((3 : Int32)).toNatClampNeg) := inb_of S_30 ⟨by decide, by decide⟩
              have hat30 : cl_30.slots[((3 : Int32)).toNatClampNeg]? = some (.int c3) := Has.at H_30 hin30 (rfl)
              refine own_go (X0.baloadBytes hx (j := (3 : Int32)) (v := (.int c3)) (by rw [e0]; exact Ar_30.1) (State.isArrayOf_alike hZ.alike Ar_30.2.1) Ar_30.2.2 hin30 hat30 (g := (mkF m 40 #[.val (.ref a), .val (.int (1 : Int32)), .val (.int (3 : Int32))] [(.int (3 : Int32)), (.ref a)])) rfl rfl (hb hby d3_40)) ?_
              have V_a_r30 : Arv Z h0 a kl .byte (8 : Int32) [(.int c0), (.int c1), (.int c2), (.int c3), (.int c4), (.int c5), (.int c6), (.int c7)] (.int (0 : Int32)) := ⟨cl_30, Ar_30, q_30, S_30, M_30, H_30, G_30⟩
              show own_Ends p e below s₁ (mkF m 41 #[.val (.ref a), .val (.int (1 : Int32)), .val (.int (3 : Int32))] [(.int c3)]) _
              refine own_go (fun _ => XS.iconst X0.here hx rfl (hb hby d3_41)) ?_
              show own_Ends p e below s₁ (mkF m 42 #[.val (.ref a), .val (.int (1 : Int32)), .val (.int (3 : Int32))] [(.int (-1 : Int32)), (.int c3)]) _
              by_cases hc42_2 : c3 = (-1 : Int32)
              · refine own_go (fun _ => XS.icmpYes X0.here hx rfl (pc0 := 42) (pc' := 47) rfl (hb hby d3_42) rfl (teq hc42_2).1 (by decide) (by decide)) ?_
                show own_Ends p e below s₁ (mkF m 47 #[.val (.ref a), .val (.int (1 : Int32)), .val (.int (3 : Int32))] []) _
                refine own_go (fun _ => XS.iinc X0.here hx rfl (hb hby d3_47) rfl (l' := #[.val (.ref a), .val (.int (1 : Int32)), .val (.int (4 : Int32))]) rfl) ?_
                show own_Ends p e below s₁ (mkF m 50 #[.val (.ref a), .val (.int (1 : Int32)), .val (.int (4 : Int32))] []) _
                refine own_go (fun _ => XS.goto X0.here hx rfl (pc0 := 50) (pc' := 32) rfl (hb hby d3_50) (by decide) (by decide)) ?_
                show own_Ends p e below s₁ (mkF m 32 #[.val (.ref a), .val (.int (1 : Int32)), .val (.int (4 : Int32))] []) _
                refine own_go (fun _ => XS.iloadN X0.here hx rfl (hb hby d3_32) rfl) ?_
                show own_Ends p e below s₁ (mkF m 33 #[.val (.ref a), .val (.int (1 : Int32)), .val (.int (4 : Int32))] [(.int (4 : Int32))]) _
                refine own_go (fun _ => XS.bipush X0.here hx rfl (hb hby d3_33)) ?_
                show own_Ends p e below s₁ (mkF m 35 #[.val (.ref a), .val (.int (1 : Int32)), .val (.int (4 : Int32))] [(.int (8 : Int32)), (.int (4 : Int32))]) _
                refine own_go (fun _ => XS.icmpNo X0.here hx rfl (hb hby d3_35) rfl (tlt (show (4 : Int32) < (8 : Int32) from by decide)).2.1) ?_
                show own_Ends p e below s₁ (mkF m 38 #[.val (.ref a), .val (.int (1 : Int32)), .val (.int (4 : Int32))] []) _
                refine own_go (fun _ => XS.aloadN X0.here hx rfl (hb hby d3_38) rfl rfl) ?_
                show own_Ends p e below s₁ (mkF m 39 #[.val (.ref a), .val (.int (1 : Int32)), .val (.int (4 : Int32))] [(.ref a)]) _
                refine own_go (fun _ => XS.iloadN X0.here hx rfl (hb hby d3_39) rfl) ?_
                show own_Ends p e below s₁ (mkF m 40 #[.val (.ref a), .val (.int (1 : Int32)), .val (.int (4 : Int32))] [(.int (4 : Int32)), (.ref a)]) _
                obtain ⟨cl_31, Ar_31, q_31, S_31, M_31, H_31, G_31⟩ := V_a_r30
                have hin31 : ¬ ((4 : Int32) < 0 ∨ cl_31.slots.size ≤ ((4 : Int32)).toNatClampNeg) := inb_of S_31 ⟨by decide, by decide⟩
                have hat31 : cl_31.slots[((4 : Int32)).toNatClampNeg]? = some (.int c4) := Has.at H_31 hin31 (rfl)
                refine own_go (X0.baloadBytes hx (j := (4 : Int32)) (v := (.int c4)) (by rw [e0]; exact Ar_31.1) (State.isArrayOf_alike hZ.alike Ar_31.2.1) Ar_31.2.2 hin31 hat31 (g := (mkF m 40 #[.val (.ref a), .val (.int (1 : Int32)), .val (.int (4 : Int32))] [(.int (4 : Int32)), (.ref a)])) rfl rfl (hb hby d3_40)) ?_
                have V_a_r31 : Arv Z h0 a kl .byte (8 : Int32) [(.int c0), (.int c1), (.int c2), (.int c3), (.int c4), (.int c5), (.int c6), (.int c7)] (.int (0 : Int32)) := ⟨cl_31, Ar_31, q_31, S_31, M_31, H_31, G_31⟩
                show own_Ends p e below s₁ (mkF m 41 #[.val (.ref a), .val (.int (1 : Int32)), .val (.int (4 : Int32))] [(.int c4)]) _
                refine own_go (fun _ => XS.iconst X0.here hx rfl (hb hby d3_41)) ?_
                show own_Ends p e below s₁ (mkF m 42 #[.val (.ref a), .val (.int (1 : Int32)), .val (.int (4 : Int32))] [(.int (-1 : Int32)), (.int c4)]) _
                by_cases hc42_3 : c4 = (-1 : Int32)
                · refine own_go (fun _ => XS.icmpYes X0.here hx rfl (pc0 := 42) (pc' := 47) rfl (hb hby d3_42) rfl (teq hc42_3).1 (by decide) (by decide)) ?_
                  show own_Ends p e below s₁ (mkF m 47 #[.val (.ref a), .val (.int (1 : Int32)), .val (.int (4 : Int32))] []) _
                  refine own_go (fun _ => XS.iinc X0.here hx rfl (hb hby d3_47) rfl (l' := #[.val (.ref a), .val (.int (1 : Int32)), .val (.int (5 : Int32))]) rfl) ?_
                  show own_Ends p e below s₁ (mkF m 50 #[.val (.ref a), .val (.int (1 : Int32)), .val (.int (5 : Int32))] []) _
                  refine own_go (fun _ => XS.goto X0.here hx rfl (pc0 := 50) (pc' := 32) rfl (hb hby d3_50) (by decide) (by decide)) ?_
                  show own_Ends p e below s₁ (mkF m 32 #[.val (.ref a), .val (.int (1 : Int32)), .val (.int (5 : Int32))] []) _
                  refine own_go (fun _ => XS.iloadN X0.here hx rfl (hb hby d3_32) rfl) ?_
                  show own_Ends p e below s₁ (mkF m 33 #[.val (.ref a), .val (.int (1 : Int32)), .val (.int (5 : Int32))] [(.int (5 : Int32))]) _
                  refine own_go (fun _ => XS.bipush X0.here hx rfl (hb hby d3_33)) ?_
                  show own_Ends p e below s₁ (mkF m 35 #[.val (.ref a), .val (.int (1 : Int32)), .val (.int (5 : Int32))] [(.int (8 : Int32)), (.int (5 : Int32))]) _
                  refine own_go (fun _ => XS.icmpNo X0.here hx rfl (hb hby d3_35) rfl (tlt (show (5 : Int32) < (8 : Int32) from by decide)).2.1) ?_
                  show own_Ends p e below s₁ (mkF m 38 #[.val (.ref a), .val (.int (1 : Int32)), .val (.int (5 : Int32))] []) _
                  refine own_go (fun _ => XS.aloadN X0.here hx rfl (hb hby d3_38) rfl rfl) ?_
                  show own_Ends p e below s₁ (mkF m 39 #[.val (.ref a), .val (.int (1 : Int32)), .val (.int (5 : Int32))] [(.ref a)]) _
                  refine own_go (fun _ => XS.iloadN X0.here hx rfl (hb hby d3_39) rfl) ?_
                  show own_Ends p e below s₁ (mkF m 40 #[.val (.ref a), .val (.int (1 : Int32)), .val (.int (5 : Int32))] [(.int (5 : Int32)), (.ref a)]) _
                  obtain ⟨cl_32, Ar_32, q_32, S_32, M_32, H_32, G_32⟩ := V_a_r31
                  have hin32 : ¬ ((5 : Int32) < 0 ∨ cl_32.slots.size ≤ ((5 : Int32)).toNatClampNeg) := inb_of S_32 ⟨by decide, by decide⟩
                  have hat32 : cl_32.slots[((5 : Int32)).toNatClampNeg]? = some (.int c5) := Has.at H_32 hin32 (rfl)
                  refine own_go (X0.baloadBytes hx (j := (5 : Int32)) (v := (.int c5)) (by rw [e0]; exact Ar_32.1) (State.isArrayOf_alike hZ.alike Ar_32.2.1) Ar_32.2.2 hin32 hat32 (g := (mkF m 40 #[.val (.ref a), .val (.int (1 : Int32)), .val (.int (5 : Int32))] [(.int (5 : Int32)), (.ref a)])) rfl rfl (hb hby d3_40)) ?_
                  have V_a_r32 : Arv Z h0 a kl .byte (8 : Int32) [(.int c0), (.int c1), (.int c2), (.int c3), (.int c4), (.int c5), (.int c6), (.int c7)] (.int (0 : Int32)) := ⟨cl_32, Ar_32, q_32, S_32, M_32, H_32, G_32⟩
                  show own_Ends p e below s₁ (mkF m 41 #[.val (.ref a), .val (.int (1 : Int32)), .val (.int (5 : Int32))] [(.int c5)]) _
                  refine own_go (fun _ => XS.iconst X0.here hx rfl (hb hby d3_41)) ?_
                  show own_Ends p e below s₁ (mkF m 42 #[.val (.ref a), .val (.int (1 : Int32)), .val (.int (5 : Int32))] [(.int (-1 : Int32)), (.int c5)]) _
                  by_cases hc42_4 : c5 = (-1 : Int32)
                  · refine own_go (fun _ => XS.icmpYes X0.here hx rfl (pc0 := 42) (pc' := 47) rfl (hb hby d3_42) rfl (teq hc42_4).1 (by decide) (by decide)) ?_
                    show own_Ends p e below s₁ (mkF m 47 #[.val (.ref a), .val (.int (1 : Int32)), .val (.int (5 : Int32))] []) _
                    refine own_go (fun _ => XS.iinc X0.here hx rfl (hb hby d3_47) rfl (l' := #[.val (.ref a), .val (.int (1 : Int32)), .val (.int (6 : Int32))]) rfl) ?_
                    show own_Ends p e below s₁ (mkF m 50 #[.val (.ref a), .val (.int (1 : Int32)), .val (.int (6 : Int32))] []) _
                    refine own_go (fun _ => XS.goto X0.here hx rfl (pc0 := 50) (pc' := 32) rfl (hb hby d3_50) (by decide) (by decide)) ?_
                    show own_Ends p e below s₁ (mkF m 32 #[.val (.ref a), .val (.int (1 : Int32)), .val (.int (6 : Int32))] []) _
                    refine own_go (fun _ => XS.iloadN X0.here hx rfl (hb hby d3_32) rfl) ?_
                    show own_Ends p e below s₁ (mkF m 33 #[.val (.ref a), .val (.int (1 : Int32)), .val (.int (6 : Int32))] [(.int (6 : Int32))]) _
                    refine own_go (fun _ => XS.bipush X0.here hx rfl (hb hby d3_33)) ?_
                    show own_Ends p e below s₁ (mkF m 35 #[.val (.ref a), .val (.int (1 : Int32)), .val (.int (6 : Int32))] [(.int (8 : Int32)), (.int (6 : Int32))]) _
                    refine own_go (fun _ => XS.icmpNo X0.here hx rfl (hb hby d3_35) rfl (tlt (show (6 : Int32) < (8 : Int32) from by decide)).2.1) ?_
                    show own_Ends p e below s₁ (mkF m 38 #[.val (.ref a), .val (.int (1 : Int32)), .val (.int (6 : Int32))] []) _
                    refine own_go (fun _ => XS.aloadN X0.here hx rfl (hb hby d3_38) rfl rfl) ?_
                    show own_Ends p e below s₁ (mkF m 39 #[.val (.ref a), .val (.int (1 : Int32)), .val (.int (6 : Int32))] [(.ref a)]) _
                    refine own_go (fun _ => XS.iloadN X0.here hx rfl (hb hby d3_39) rfl) ?_
                    show own_Ends p e below s₁ (mkF m 40 #[.val (.ref a), .val (.int (1 : Int32)), .val (.int (6 : Int32))] [(.int (6 : Int32)), (.ref a)]) _
                    obtain ⟨cl_33, Ar_33, q_33, S_33, M_33, H_33, G_33⟩ := V_a_r32
                    have hin33 : ¬ ((6 : Int32) < 0 ∨ cl_33.slots.size ≤ ((6 : Int32)).toNatClampNeg) := inb_of S_33 ⟨by decide, by decide⟩
                    have hat33 : cl_33.slots[((6 : Int32)).toNatClampNeg]? = some (.int c6) := Has.at H_33 hin33 (rfl)
                    refine own_go (X0.baloadBytes hx (j := (6 : Int32)) (v := (.int c6)) (by rw [e0]; exact Ar_33.1) (State.isArrayOf_alike hZ.alike Ar_33.2.1) Ar_33.2.2 hin33 hat33 (g := (mkF m 40 #[.val (.ref a), .val (.int (1 : Int32)), .val (.int (6 : Int32))] [(.int (6 : Int32)), (.ref a)])) rfl rfl (hb hby d3_40)) ?_
                    have V_a_r33 : Arv Z h0 a kl .byte (8 : Int32) [(.int c0), (.int c1), (.int c2), (.int c3), (.int c4), (.int c5), (.int c6), (.int c7)] (.int (0 : Int32)) := ⟨cl_33, Ar_33, q_33, S_33, M_33, H_33, G_33⟩
                    show own_Ends p e below s₁ (mkF m 41 #[.val (.ref a), .val (.int (1 : Int32)), .val (.int (6 : Int32))] [(.int c6)]) _
                    refine own_go (fun _ => XS.iconst X0.here hx rfl (hb hby d3_41)) ?_
                    show own_Ends p e below s₁ (mkF m 42 #[.val (.ref a), .val (.int (1 : Int32)), .val (.int (6 : Int32))] [(.int (-1 : Int32)), (.int c6)]) _
                    by_cases hc42_5 : c6 = (-1 : Int32)
                    · refine own_go (fun _ => XS.icmpYes X0.here hx rfl (pc0 := 42) (pc' := 47) rfl (hb hby d3_42) rfl (teq hc42_5).1 (by decide) (by decide)) ?_
                      show own_Ends p e below s₁ (mkF m 47 #[.val (.ref a), .val (.int (1 : Int32)), .val (.int (6 : Int32))] []) _
                      refine own_go (fun _ => XS.iinc X0.here hx rfl (hb hby d3_47) rfl (l' := #[.val (.ref a), .val (.int (1 : Int32)), .val (.int (7 : Int32))]) rfl) ?_
                      show own_Ends p e below s₁ (mkF m 50 #[.val (.ref a), .val (.int (1 : Int32)), .val (.int (7 : Int32))] []) _
                      refine own_go (fun _ => XS.goto X0.here hx rfl (pc0 := 50) (pc' := 32) rfl (hb hby d3_50) (by decide) (by decide)) ?_
                      show own_Ends p e below s₁ (mkF m 32 #[.val (.ref a), .val (.int (1 : Int32)), .val (.int (7 : Int32))] []) _
                      refine own_go (fun _ => XS.iloadN X0.here hx rfl (hb hby d3_32) rfl) ?_
                      show own_Ends p e below s₁ (mkF m 33 #[.val (.ref a), .val (.int (1 : Int32)), .val (.int (7 : Int32))] [(.int (7 : Int32))]) _
                      refine own_go (fun _ => XS.bipush X0.here hx rfl (hb hby d3_33)) ?_
                      show own_Ends p e below s₁ (mkF m 35 #[.val (.ref a), .val (.int (1 : Int32)), .val (.int (7 : Int32))] [(.int (8 : Int32)), (.int (7 : Int32))]) _
                      refine own_go (fun _ => XS.icmpNo X0.here hx rfl (hb hby d3_35) rfl (tlt (show (7 : Int32) < (8 : Int32) from by decide)).2.1) ?_
                      show own_Ends p e below s₁ (mkF m 38 #[.val (.ref a), .val (.int (1 : Int32)), .val (.int (7 : Int32))] []) _
                      refine own_go (fun _ => XS.aloadN X0.here hx rfl (hb hby d3_38) rfl rfl) ?_
                      show own_Ends p e below s₁ (mkF m 39 #[.val (.ref a), .val (.int (1 : Int32)), .val (.int (7 : Int32))] [(.ref a)]) _
                      refine own_go (fun _ => XS.iloadN X0.here hx rfl (hb hby d3_39) rfl) ?_
                      show own_Ends p e below s₁ (mkF m 40 #[.val (.ref a), .val (.int (1 : Int32)), .val (.int (7 : Int32))] [(.int (7 : Int32)), (.ref a)]) _
                      obtain ⟨cl_34, Ar_34, q_34, S_34, M_34, H_34, G_34⟩ := V_a_r33
                      have hin34 : ¬ ((7 : Int32) < 0 ∨ cl_34.slots.size ≤ ((7 : Int32)).toNatClampNeg) := inb_of S_34 ⟨by decide, by decide⟩
                      have hat34 : cl_34.slots[((7 : Int32)).toNatClampNeg]? = some (.int c7) := Has.at H_34 hin34 (rfl)
                      refine own_go (X0.baloadBytes hx (j := (7 : Int32)) (v := (.int c7)) (by rw [e0]; exact Ar_34.1) (State.isArrayOf_alike hZ.alike Ar_34.2.1) Ar_34.2.2 hin34 hat34 (g := (mkF m 40 #[.val (.ref a), .val (.int (1 : Int32)), .val (.int (7 : Int32))] [(.int (7 : Int32)), (.ref a)])) rfl rfl (hb hby d3_40)) ?_
                      have V_a_r34 : Arv Z h0 a kl .byte (8 : Int32) [(.int c0), (.int c1), (.int c2), (.int c3), (.int c4), (.int c5), (.int c6), (.int c7)] (.int (0 : Int32)) := ⟨cl_34, Ar_34, q_34, S_34, M_34, H_34, G_34⟩
                      show own_Ends p e below s₁ (mkF m 41 #[.val (.ref a), .val (.int (1 : Int32)), .val (.int (7 : Int32))] [(.int c7)]) _
                      refine own_go (fun _ => XS.iconst X0.here hx rfl (hb hby d3_41)) ?_
                      show own_Ends p e below s₁ (mkF m 42 #[.val (.ref a), .val (.int (1 : Int32)), .val (.int (7 : Int32))] [(.int (-1 : Int32)), (.int c7)]) _
                      by_cases hc42_6 : c7 = (-1 : Int32)
                      · refine own_go (fun _ => XS.icmpYes X0.here hx rfl (pc0 := 42) (pc' := 47) rfl (hb hby d3_42) rfl (teq hc42_6).1 (by decide) (by decide)) ?_
                        show own_Ends p e below s₁ (mkF m 47 #[.val (.ref a), .val (.int (1 : Int32)), .val (.int (7 : Int32))] []) _
                        refine own_go (fun _ => XS.iinc X0.here hx rfl (hb hby d3_47) rfl (l' := #[.val (.ref a), .val (.int (1 : Int32)), .val (.int (8 : Int32))]) rfl) ?_
                        show own_Ends p e below s₁ (mkF m 50 #[.val (.ref a), .val (.int (1 : Int32)), .val (.int (8 : Int32))] []) _
                        refine own_go (fun _ => XS.goto X0.here hx rfl (pc0 := 50) (pc' := 32) rfl (hb hby d3_50) (by decide) (by decide)) ?_
                        show own_Ends p e below s₁ (mkF m 32 #[.val (.ref a), .val (.int (1 : Int32)), .val (.int (8 : Int32))] []) _
                        refine own_go (fun _ => XS.iloadN X0.here hx rfl (hb hby d3_32) rfl) ?_
                        show own_Ends p e below s₁ (mkF m 33 #[.val (.ref a), .val (.int (1 : Int32)), .val (.int (8 : Int32))] [(.int (8 : Int32))]) _
                        refine own_go (fun _ => XS.bipush X0.here hx rfl (hb hby d3_33)) ?_
                        show own_Ends p e below s₁ (mkF m 35 #[.val (.ref a), .val (.int (1 : Int32)), .val (.int (8 : Int32))] [(.int (8 : Int32)), (.int (8 : Int32))]) _
                        refine own_go (fun _ => XS.icmpYes X0.here hx rfl (pc0 := 35) (pc' := 53) rfl (hb hby d3_35) rfl (flt (show ¬ ((8 : Int32) < (8 : Int32)) from by decide)).2.1 (by decide) (by decide)) ?_
                        show own_Ends p e below s₁ (mkF m 53 #[.val (.ref a), .val (.int (1 : Int32)), .val (.int (8 : Int32))] []) _
                        refine own_go (fun _ => XS.iloadN X0.here hx rfl (hb hby d3_53) rfl) ?_
                        show own_Ends p e below s₁ (mkF m 54 #[.val (.ref a), .val (.int (1 : Int32)), .val (.int (8 : Int32))] [(.int (1 : Int32))]) _
                        refine own_go (fun _ => XS.iconst X0.here hx rfl (hb hby d3_54)) ?_
                        show own_Ends p e below s₁ (mkF m 55 #[.val (.ref a), .val (.int (1 : Int32)), .val (.int (8 : Int32))] [(.int (4 : Int32)), (.int (1 : Int32))]) _
                        refine own_go (fun _ => XS.icmpYes X0.here hx rfl (pc0 := 55) (pc' := 62) rfl (hb hby d3_55) rfl (tlt (show (1 : Int32) < (4 : Int32) from by decide)).1 (by decide) (by decide)) ?_
                        show own_Ends p e below s₁ (mkF m 62 #[.val (.ref a), .val (.int (1 : Int32)), .val (.int (8 : Int32))] []) _
                        refine own_go (fun _ => XS.iconst X0.here hx rfl (hb hby d3_62)) ?_
                        show own_Ends p e below s₁ (mkF m 63 #[.val (.ref a), .val (.int (1 : Int32)), .val (.int (8 : Int32))] [(.int (0 : Int32))]) _
                        obtain ⟨fs, hr, hrun, hended, hW, hsame⟩ := X0.leave (v := some (.int (0 : Int32))) (fun h => by rw [Bd.returns] at h; cases h)
                        refine ⟨_, _, retN X0 hx (t := .boolean) Bd.returns (by simp) (hb hby d3_63) hr, hrun, hended, _, _, rfl, ?_, ⟨_, rfl⟩, hW, hsame.mono (by decide) (by decide)⟩
                        show Q_rmPin Z a kl c0 c1 c2 c3 c4 c5 c6 c7 h0 n0 _ s₁.heap _
                        rw [e0]
                        exact ⟨_, rfl, by exact own_back ((own_sC hc13 hc21).trans ((own_sB hc13_1 hc21_1).trans ((own_tA hc42).trans ((own_tA hc42_1).trans ((own_tA hc42_2).trans ((own_tA hc42_3).trans ((own_tA hc42_4).trans ((own_tA hc42_5).trans ((own_tA hc42_6).trans (rfl)))))))))), N0, rfl⟩
                      · refine own_go (fun _ => XS.icmpNo X0.here hx rfl (hb hby d3_42) rfl (feq hc42_6).1) ?_
                        show own_Ends p e below s₁ (mkF m 45 #[.val (.ref a), .val (.int (1 : Int32)), .val (.int (7 : Int32))] []) _
                        refine own_go (fun _ => XS.iconst X0.here hx rfl (hb hby d3_45)) ?_
                        show own_Ends p e below s₁ (mkF m 46 #[.val (.ref a), .val (.int (1 : Int32)), .val (.int (7 : Int32))] [(.int (0 : Int32))]) _
                        obtain ⟨fs, hr, hrun, hended, hW, hsame⟩ := X0.leave (v := some (.int (0 : Int32))) (fun h => by rw [Bd.returns] at h; cases h)
                        refine ⟨_, _, retN X0 hx (t := .boolean) Bd.returns (by simp) (hb hby d3_46) hr, hrun, hended, _, _, rfl, ?_, ⟨_, rfl⟩, hW, hsame.mono (by decide) (by decide)⟩
                        show Q_rmPin Z a kl c0 c1 c2 c3 c4 c5 c6 c7 h0 n0 _ s₁.heap _
                        rw [e0]
                        exact ⟨_, rfl, by exact own_back ((own_sC hc13 hc21).trans ((own_sB hc13_1 hc21_1).trans ((own_tA hc42).trans ((own_tA hc42_1).trans ((own_tA hc42_2).trans ((own_tA hc42_3).trans ((own_tA hc42_4).trans ((own_tA hc42_5).trans (own_tB hc42_6))))))))), N0, rfl⟩
                    · refine own_go (fun _ => XS.icmpNo X0.here hx rfl (hb hby d3_42) rfl (feq hc42_5).1) ?_
                      show own_Ends p e below s₁ (mkF m 45 #[.val (.ref a), .val (.int (1 : Int32)), .val (.int (6 : Int32))] []) _
                      refine own_go (fun _ => XS.iconst X0.here hx rfl (hb hby d3_45)) ?_
                      show own_Ends p e below s₁ (mkF m 46 #[.val (.ref a), .val (.int (1 : Int32)), .val (.int (6 : Int32))] [(.int (0 : Int32))]) _
                      obtain ⟨fs, hr, hrun, hended, hW, hsame⟩ := X0.leave (v := some (.int (0 : Int32))) (fun h => by rw [Bd.returns] at h; cases h)
                      refine ⟨_, _, retN X0 hx (t := .boolean) Bd.returns (by simp) (hb hby d3_46) hr, hrun, hended, _, _, rfl, ?_, ⟨_, rfl⟩, hW, hsame.mono (by decide) (by decide)⟩
                      show Q_rmPin Z a kl c0 c1 c2 c3 c4 c5 c6 c7 h0 n0 _ s₁.heap _
                      rw [e0]
                      exact ⟨_, rfl, by exact own_back ((own_sC hc13 hc21).trans ((own_sB hc13_1 hc21_1).trans ((own_tA hc42).trans ((own_tA hc42_1).trans ((own_tA hc42_2).trans ((own_tA hc42_3).trans ((own_tA hc42_4).trans (own_tB hc42_5)))))))), N0, rfl⟩
                  · refine own_go (fun _ => XS.icmpNo X0.here hx rfl (hb hby d3_42) rfl (feq hc42_4).1) ?_
                    show own_Ends p e below s₁ (mkF m 45 #[.val (.ref a), .val (.int (1 : Int32)), .val (.int (5 : Int32))] []) _
                    refine own_go (fun _ => XS.iconst X0.here hx rfl (hb hby d3_45)) ?_
                    show own_Ends p e below s₁ (mkF m 46 #[.val (.ref a), .val (.int (1 : Int32)), .val (.int (5 : Int32))] [(.int (0 : Int32))]) _
                    obtain ⟨fs, hr, hrun, hended, hW, hsame⟩ := X0.leave (v := some (.int (0 : Int32))) (fun h => by rw [Bd.returns] at h; cases h)
                    refine ⟨_, _, retN X0 hx (t := .boolean) Bd.returns (by simp) (hb hby d3_46) hr, hrun, hended, _, _, rfl, ?_, ⟨_, rfl⟩, hW, hsame.mono (by decide) (by decide)⟩
                    show Q_rmPin Z a kl c0 c1 c2 c3 c4 c5 c6 c7 h0 n0 _ s₁.heap _
                    rw [e0]
                    exact ⟨_, rfl, by exact own_back ((own_sC hc13 hc21).trans ((own_sB hc13_1 hc21_1).trans ((own_tA hc42).trans ((own_tA hc42_1).trans ((own_tA hc42_2).trans ((own_tA hc42_3).trans (own_tB hc42_4))))))), N0, rfl⟩
                · refine own_go (fun _ => XS.icmpNo X0.here hx rfl (hb hby d3_42) rfl (feq hc42_3).1) ?_
                  show own_Ends p e below s₁ (mkF m 45 #[.val (.ref a), .val (.int (1 : Int32)), .val (.int (4 : Int32))] []) _
                  refine own_go (fun _ => XS.iconst X0.here hx rfl (hb hby d3_45)) ?_
                  show own_Ends p e below s₁ (mkF m 46 #[.val (.ref a), .val (.int (1 : Int32)), .val (.int (4 : Int32))] [(.int (0 : Int32))]) _
                  obtain ⟨fs, hr, hrun, hended, hW, hsame⟩ := X0.leave (v := some (.int (0 : Int32))) (fun h => by rw [Bd.returns] at h; cases h)
                  refine ⟨_, _, retN X0 hx (t := .boolean) Bd.returns (by simp) (hb hby d3_46) hr, hrun, hended, _, _, rfl, ?_, ⟨_, rfl⟩, hW, hsame.mono (by decide) (by decide)⟩
                  show Q_rmPin Z a kl c0 c1 c2 c3 c4 c5 c6 c7 h0 n0 _ s₁.heap _
                  rw [e0]
                  exact ⟨_, rfl, by exact own_back ((own_sC hc13 hc21).trans ((own_sB hc13_1 hc21_1).trans ((own_tA hc42).trans ((own_tA hc42_1).trans ((own_tA hc42_2).trans (own_tB hc42_3)))))), N0, rfl⟩
              · refine own_go (fun _ => XS.icmpNo X0.here hx rfl (hb hby d3_42) rfl (feq hc42_2).1) ?_
                show own_Ends p e below s₁ (mkF m 45 #[.val (.ref a), .val (.int (1 : Int32)), .val (.int (3 : Int32))] []) _
                refine own_go (fun _ => XS.iconst X0.here hx rfl (hb hby d3_45)) ?_
                show own_Ends p e below s₁ (mkF m 46 #[.val (.ref a), .val (.int (1 : Int32)), .val (.int (3 : Int32))] [(.int (0 : Int32))]) _
                obtain ⟨fs, hr, hrun, hended, hW, hsame⟩ := X0.leave (v := some (.int (0 : Int32))) (fun h => by rw [Bd.returns] at h; cases h)
                refine ⟨_, _, retN X0 hx (t := .boolean) Bd.returns (by simp) (hb hby d3_46) hr, hrun, hended, _, _, rfl, ?_, ⟨_, rfl⟩, hW, hsame.mono (by decide) (by decide)⟩
                show Q_rmPin Z a kl c0 c1 c2 c3 c4 c5 c6 c7 h0 n0 _ s₁.heap _
                rw [e0]
                exact ⟨_, rfl, by exact own_back ((own_sC hc13 hc21).trans ((own_sB hc13_1 hc21_1).trans ((own_tA hc42).trans ((own_tA hc42_1).trans (own_tB hc42_2))))), N0, rfl⟩
            · refine own_go (fun _ => XS.icmpNo X0.here hx rfl (hb hby d3_42) rfl (feq hc42_1).1) ?_
              show own_Ends p e below s₁ (mkF m 45 #[.val (.ref a), .val (.int (1 : Int32)), .val (.int (2 : Int32))] []) _
              refine own_go (fun _ => XS.iconst X0.here hx rfl (hb hby d3_45)) ?_
              show own_Ends p e below s₁ (mkF m 46 #[.val (.ref a), .val (.int (1 : Int32)), .val (.int (2 : Int32))] [(.int (0 : Int32))]) _
              obtain ⟨fs, hr, hrun, hended, hW, hsame⟩ := X0.leave (v := some (.int (0 : Int32))) (fun h => by rw [Bd.returns] at h; cases h)
              refine ⟨_, _, retN X0 hx (t := .boolean) Bd.returns (by simp) (hb hby d3_46) hr, hrun, hended, _, _, rfl, ?_, ⟨_, rfl⟩, hW, hsame.mono (by decide) (by decide)⟩
              show Q_rmPin Z a kl c0 c1 c2 c3 c4 c5 c6 c7 h0 n0 _ s₁.heap _
              rw [e0]
              exact ⟨_, rfl, by exact own_back ((own_sC hc13 hc21).trans ((own_sB hc13_1 hc21_1).trans ((own_tA hc42).trans (own_tB hc42_1)))), N0, rfl⟩
          · refine own_go (fun _ => XS.icmpNo X0.here hx rfl (hb hby d3_42) rfl (feq hc42).1) ?_
            show own_Ends p e below s₁ (mkF m 45 #[.val (.ref a), .val (.int (1 : Int32)), .val (.int (1 : Int32))] []) _
            refine own_go (fun _ => XS.iconst X0.here hx rfl (hb hby d3_45)) ?_
            show own_Ends p e below s₁ (mkF m 46 #[.val (.ref a), .val (.int (1 : Int32)), .val (.int (1 : Int32))] [(.int (0 : Int32))]) _
            obtain ⟨fs, hr, hrun, hended, hW, hsame⟩ := X0.leave (v := some (.int (0 : Int32))) (fun h => by rw [Bd.returns] at h; cases h)
            refine ⟨_, _, retN X0 hx (t := .boolean) Bd.returns (by simp) (hb hby d3_46) hr, hrun, hended, _, _, rfl, ?_, ⟨_, rfl⟩, hW, hsame.mono (by decide) (by decide)⟩
            show Q_rmPin Z a kl c0 c1 c2 c3 c4 c5 c6 c7 h0 n0 _ s₁.heap _
            rw [e0]
            exact ⟨_, rfl, by exact own_back ((own_sC hc13 hc21).trans ((own_sB hc13_1 hc21_1).trans (own_tB hc42))), N0, rfl⟩
        · refine own_go (fun _ => XS.icmpNo X0.here hx rfl (hb hby d3_21) rfl (flt hc21_1).2.2.1) ?_
          show own_Ends p e below s₁ (mkF m 24 #[.val (.ref a), .val (.int (1 : Int32)), .unset] []) _
          refine own_go (fun _ => XS.iinc X0.here hx rfl (hb hby d3_24) rfl (l' := #[.val (.ref a), .val (.int (2 : Int32)), .unset]) rfl) ?_
          show own_Ends p e below s₁ (mkF m 27 #[.val (.ref a), .val (.int (2 : Int32)), .unset] []) _
          refine own_go (fun _ => XS.goto X0.here hx rfl (pc0 := 27) (pc' := 2) rfl (hb hby d3_27) (by decide) (by decide)) ?_
          show own_Ends p e below s₁ (mkF m 2 #[.val (.ref a), .val (.int (2 : Int32)), .unset] []) _
          refine own_go (fun _ => XS.iloadN X0.here hx rfl (hb hby d3_2) rfl) ?_
          show own_Ends p e below s₁ (mkF m 3 #[.val (.ref a), .val (.int (2 : Int32)), .unset] [(.int (2 : Int32))]) _
          refine own_go (fun _ => XS.bipush X0.here hx rfl (hb hby d3_3)) ?_
          show own_Ends p e below s₁ (mkF m 5 #[.val (.ref a), .val (.int (2 : Int32)), .unset] [(.int (8 : Int32)), (.int (2 : Int32))]) _
          refine own_go (fun _ => XS.icmpNo X0.here hx rfl (hb hby d3_5) rfl (tlt (show (2 : Int32) < (8 : Int32) from by decide)).2.1) ?_
          show own_Ends p e below s₁ (mkF m 8 #[.val (.ref a), .val (.int (2 : Int32)), .unset] []) _
          refine own_go (fun _ => XS.aloadN X0.here hx rfl (hb hby d3_8) rfl rfl) ?_
          show own_Ends p e below s₁ (mkF m 9 #[.val (.ref a), .val (.int (2 : Int32)), .unset] [(.ref a)]) _
          refine own_go (fun _ => XS.iloadN X0.here hx rfl (hb hby d3_9) rfl) ?_
          show own_Ends p e below s₁ (mkF m 10 #[.val (.ref a), .val (.int (2 : Int32)), .unset] [(.int (2 : Int32)), (.ref a)]) _
          obtain ⟨cl_35, Ar_35, q_35, S_35, M_35, H_35, G_35⟩ := V_a_r27
          have hin35 : ¬ ((2 : Int32) < 0 ∨ cl_35.slots.size ≤ ((2 : Int32)).toNatClampNeg) := inb_of S_35 ⟨by decide, by decide⟩
          have hat35 : cl_35.slots[((2 : Int32)).toNatClampNeg]? = some (.int c2) := Has.at H_35 hin35 (rfl)
          refine own_go (X0.baloadBytes hx (j := (2 : Int32)) (v := (.int c2)) (by rw [e0]; exact Ar_35.1) (State.isArrayOf_alike hZ.alike Ar_35.2.1) Ar_35.2.2 hin35 hat35 (g := (mkF m 10 #[.val (.ref a), .val (.int (2 : Int32)), .unset] [(.int (2 : Int32)), (.ref a)])) rfl rfl (hb hby d3_10)) ?_
          have V_a_r35 : Arv Z h0 a kl .byte (8 : Int32) [(.int c0), (.int c1), (.int c2), (.int c3), (.int c4), (.int c5), (.int c6), (.int c7)] (.int (0 : Int32)) := ⟨cl_35, Ar_35, q_35, S_35, M_35, H_35, G_35⟩
          show own_Ends p e below s₁ (mkF m 11 #[.val (.ref a), .val (.int (2 : Int32)), .unset] [(.int c2)]) _
          refine own_go (fun _ => XS.bipush X0.here hx rfl (hb hby d3_11)) ?_
          show own_Ends p e below s₁ (mkF m 13 #[.val (.ref a), .val (.int (2 : Int32)), .unset] [(.int (48 : Int32)), (.int c2)]) _
          by_cases hc13_2 : c2 < (48 : Int32)
          · refine own_go (fun _ => XS.icmpYes X0.here hx rfl (pc0 := 13) (pc' := 30) rfl (hb hby d3_13) rfl (tlt hc13_2).1 (by decide) (by decide)) ?_
            show own_Ends p e below s₁ (mkF m 30 #[.val (.ref a), .val (.int (2 : Int32)), .unset] []) _
            refine own_go (fun _ => XS.iloadN X0.here hx rfl (hb hby d3_30) rfl) ?_
            show own_Ends p e below s₁ (mkF m 31 #[.val (.ref a), .val (.int (2 : Int32)), .unset] [(.int (2 : Int32))]) _
            refine own_go (fun _ => XS.istoreN X0.here hx rfl (hb hby d3_31) rfl (l' := #[.val (.ref a), .val (.int (2 : Int32)), .val (.int (2 : Int32))]) rfl) ?_
            show own_Ends p e below s₁ (mkF m 32 #[.val (.ref a), .val (.int (2 : Int32)), .val (.int (2 : Int32))] []) _
            refine own_go (fun _ => XS.iloadN X0.here hx rfl (hb hby d3_32) rfl) ?_
            show own_Ends p e below s₁ (mkF m 33 #[.val (.ref a), .val (.int (2 : Int32)), .val (.int (2 : Int32))] [(.int (2 : Int32))]) _
            refine own_go (fun _ => XS.bipush X0.here hx rfl (hb hby d3_33)) ?_
            show own_Ends p e below s₁ (mkF m 35 #[.val (.ref a), .val (.int (2 : Int32)), .val (.int (2 : Int32))] [(.int (8 : Int32)), (.int (2 : Int32))]) _
            refine own_go (fun _ => XS.icmpNo X0.here hx rfl (hb hby d3_35) rfl (tlt (show (2 : Int32) < (8 : Int32) from by decide)).2.1) ?_
            show own_Ends p e below s₁ (mkF m 38 #[.val (.ref a), .val (.int (2 : Int32)), .val (.int (2 : Int32))] []) _
            refine own_go (fun _ => XS.aloadN X0.here hx rfl (hb hby d3_38) rfl rfl) ?_
            show own_Ends p e below s₁ (mkF m 39 #[.val (.ref a), .val (.int (2 : Int32)), .val (.int (2 : Int32))] [(.ref a)]) _
            refine own_go (fun _ => XS.iloadN X0.here hx rfl (hb hby d3_39) rfl) ?_
            show own_Ends p e below s₁ (mkF m 40 #[.val (.ref a), .val (.int (2 : Int32)), .val (.int (2 : Int32))] [(.int (2 : Int32)), (.ref a)]) _
            obtain ⟨cl_36, Ar_36, q_36, S_36, M_36, H_36, G_36⟩ := V_a_r35
            have hin36 : ¬ ((2 : Int32) < 0 ∨ cl_36.slots.size ≤ ((2 : Int32)).toNatClampNeg) := inb_of S_36 ⟨by decide, by decide⟩
            have hat36 : cl_36.slots[((2 : Int32)).toNatClampNeg]? = some (.int c2) := Has.at H_36 hin36 (rfl)
            refine own_go (X0.baloadBytes hx (j := (2 : Int32)) (v := (.int c2)) (by rw [e0]; exact Ar_36.1) (State.isArrayOf_alike hZ.alike Ar_36.2.1) Ar_36.2.2 hin36 hat36 (g := (mkF m 40 #[.val (.ref a), .val (.int (2 : Int32)), .val (.int (2 : Int32))] [(.int (2 : Int32)), (.ref a)])) rfl rfl (hb hby d3_40)) ?_
            have V_a_r36 : Arv Z h0 a kl .byte (8 : Int32) [(.int c0), (.int c1), (.int c2), (.int c3), (.int c4), (.int c5), (.int c6), (.int c7)] (.int (0 : Int32)) := ⟨cl_36, Ar_36, q_36, S_36, M_36, H_36, G_36⟩
            show own_Ends p e below s₁ (mkF m 41 #[.val (.ref a), .val (.int (2 : Int32)), .val (.int (2 : Int32))] [(.int c2)]) _
            refine own_go (fun _ => XS.iconst X0.here hx rfl (hb hby d3_41)) ?_
            show own_Ends p e below s₁ (mkF m 42 #[.val (.ref a), .val (.int (2 : Int32)), .val (.int (2 : Int32))] [(.int (-1 : Int32)), (.int c2)]) _
            by_cases hc42 : c2 = (-1 : Int32)
            · refine own_go (fun _ => XS.icmpYes X0.here hx rfl (pc0 := 42) (pc' := 47) rfl (hb hby d3_42) rfl (teq hc42).1 (by decide) (by decide)) ?_
              show own_Ends p e below s₁ (mkF m 47 #[.val (.ref a), .val (.int (2 : Int32)), .val (.int (2 : Int32))] []) _
              refine own_go (fun _ => XS.iinc X0.here hx rfl (hb hby d3_47) rfl (l' := #[.val (.ref a), .val (.int (2 : Int32)), .val (.int (3 : Int32))]) rfl) ?_
              show own_Ends p e below s₁ (mkF m 50 #[.val (.ref a), .val (.int (2 : Int32)), .val (.int (3 : Int32))] []) _
              refine own_go (fun _ => XS.goto X0.here hx rfl (pc0 := 50) (pc' := 32) rfl (hb hby d3_50) (by decide) (by decide)) ?_
              show own_Ends p e below s₁ (mkF m 32 #[.val (.ref a), .val (.int (2 : Int32)), .val (.int (3 : Int32))] []) _
              refine own_go (fun _ => XS.iloadN X0.here hx rfl (hb hby d3_32) rfl) ?_
              show own_Ends p e below s₁ (mkF m 33 #[.val (.ref a), .val (.int (2 : Int32)), .val (.int (3 : Int32))] [(.int (3 : Int32))]) _
              refine own_go (fun _ => XS.bipush X0.here hx rfl (hb hby d3_33)) ?_
              show own_Ends p e below s₁ (mkF m 35 #[.val (.ref a), .val (.int (2 : Int32)), .val (.int (3 : Int32))] [(.int (8 : Int32)), (.int (3 : Int32))]) _
              refine own_go (fun _ => XS.icmpNo X0.here hx rfl (hb hby d3_35) rfl (tlt (show (3 : Int32) < (8 : Int32) from by decide)).2.1) ?_
              show own_Ends p e below s₁ (mkF m 38 #[.val (.ref a), .val (.int (2 : Int32)), .val (.int (3 : Int32))] []) _
              refine own_go (fun _ => XS.aloadN X0.here hx rfl (hb hby d3_38) rfl rfl) ?_
              show own_Ends p e below s₁ (mkF m 39 #[.val (.ref a), .val (.int (2 : Int32)), .val (.int (3 : Int32))] [(.ref a)]) _
              refine own_go (fun _ => XS.iloadN X0.here hx rfl (hb hby d3_39) rfl) ?_
              show own_Ends p e below s₁ (mkF m 40 #[.val (.ref a), .val (.int (2 : Int32)), .val (.int (3 : Int32))] [(.int (3 : Int32)), (.ref a)]) _
              obtain ⟨cl_37, Ar_37, q_37, S_37, M_37, H_37, G_37⟩ := V_a_r36
              have hin37 : ¬ ((3 : Int32) < 0 ∨ cl_37.slots.size ≤ ((3 : Int32)).toNatClampNeg) := inb_of S_37 ⟨by decide, by decide⟩
              have hat37 : cl_37.slots[((3 : Int32)).toNatClampNeg]? = some (.int c3) := Has.at H_37 hin37 (rfl)
              refine own_go (X0.baloadBytes hx (j := (3 : Int32)) (v := (.int c3)) (by rw [e0]; exact Ar_37.1) (State.isArrayOf_alike hZ.alike Ar_37.2.1) Ar_37.2.2 hin37 hat37 (g := (mkF m 40 #[.val (.ref a), .val (.int (2 : Int32)), .val (.int (3 : Int32))] [(.int (3 : Int32)), (.ref a)])) rfl rfl (hb hby d3_40)) ?_
              have V_a_r37 : Arv Z h0 a kl .byte (8 : Int32) [(.int c0), (.int c1), (.int c2), (.int c3), (.int c4), (.int c5), (.int c6), (.int c7)] (.int (0 : Int32)) := ⟨cl_37, Ar_37, q_37, S_37, M_37, H_37, G_37⟩
              show own_Ends p e below s₁ (mkF m 41 #[.val (.ref a), .val (.int (2 : Int32)), .val (.int (3 : Int32))] [(.int c3)]) _
              refine own_go (fun _ => XS.iconst X0.here hx rfl (hb hby d3_41)) ?_
              show own_Ends p e below s₁ (mkF m 42 #[.val (.ref a), .val (.int (2 : Int32)), .val (.int (3 : Int32))] [(.int (-1 : Int32)), (.int c3)]) _
              by_cases hc42_1 : c3 = (-1 : Int32)
              · refine own_go (fun _ => XS.icmpYes X0.here hx rfl (pc0 := 42) (pc' := 47) rfl (hb hby d3_42) rfl (teq hc42_1).1 (by decide) (by decide)) ?_
                show own_Ends p e below s₁ (mkF m 47 #[.val (.ref a), .val (.int (2 : Int32)), .val (.int (3 : Int32))] []) _
                refine own_go (fun _ => XS.iinc X0.here hx rfl (hb hby d3_47) rfl (l' := #[.val (.ref a), .val (.int (2 : Int32)), .val (.int (4 : Int32))]) rfl) ?_
                show own_Ends p e below s₁ (mkF m 50 #[.val (.ref a), .val (.int (2 : Int32)), .val (.int (4 : Int32))] []) _
                refine own_go (fun _ => XS.goto X0.here hx rfl (pc0 := 50) (pc' := 32) rfl (hb hby d3_50) (by decide) (by decide)) ?_
                show own_Ends p e below s₁ (mkF m 32 #[.val (.ref a), .val (.int (2 : Int32)), .val (.int (4 : Int32))] []) _
                refine own_go (fun _ => XS.iloadN X0.here hx rfl (hb hby d3_32) rfl) ?_
                show own_Ends p e below s₁ (mkF m 33 #[.val (.ref a), .val (.int (2 : Int32)), .val (.int (4 : Int32))] [(.int (4 : Int32))]) _
                refine own_go (fun _ => XS.bipush X0.here hx rfl (hb hby d3_33)) ?_
                show own_Ends p e below s₁ (mkF m 35 #[.val (.ref a), .val (.int (2 : Int32)), .val (.int (4 : Int32))] [(.int (8 : Int32)), (.int (4 : Int32))]) _
                refine own_go (fun _ => XS.icmpNo X0.here hx rfl (hb hby d3_35) rfl (tlt (show (4 : Int32) < (8 : Int32) from by decide)).2.1) ?_
                show own_Ends p e below s₁ (mkF m 38 #[.val (.ref a), .val (.int (2 : Int32)), .val (.int (4 : Int32))] []) _
                refine own_go (fun _ => XS.aloadN X0.here hx rfl (hb hby d3_38) rfl rfl) ?_
                show own_Ends p e below s₁ (mkF m 39 #[.val (.ref a), .val (.int (2 : Int32)), .val (.int (4 : Int32))] [(.ref a)]) _
                refine own_go (fun _ => XS.iloadN X0.here hx rfl (hb hby d3_39) rfl) ?_
                show own_Ends p e below s₁ (mkF m 40 #[.val (.ref a), .val (.int (2 : Int32)), .val (.int (4 : Int32))] [(.int (4 : Int32)), (.ref a)]) _
                obtain ⟨cl_38, Ar_38, q_38, S_38, M_38, H_38, G_38⟩ := V_a_r37
                have hin38 : ¬ ((4 : Int32) < 0 ∨ cl_38.slots.size ≤ ((4 : Int32)).toNatClampNeg) := inb_of S_38 ⟨by decide, by decide⟩
                have hat38 : cl_38.slots[((4 : Int32)).toNatClampNeg]? = some (.int c4) := Has.at H_38 hin38 (rfl)
                refine own_go (X0.baloadBytes hx (j := (4 : Int32)) (v := (.int c4)) (by rw [e0]; exact Ar_38.1) (State.isArrayOf_alike hZ.alike Ar_38.2.1) Ar_38.2.2 hin38 hat38 (g := (mkF m 40 #[.val (.ref a), .val (.int (2 : Int32)), .val (.int (4 : Int32))] [(.int (4 : Int32)), (.ref a)])) rfl rfl (hb hby d3_40)) ?_
                have V_a_r38 : Arv Z h0 a kl .byte (8 : Int32) [(.int c0), (.int c1), (.int c2), (.int c3), (.int c4), (.int c5), (.int c6), (.int c7)] (.int (0 : Int32)) := ⟨cl_38, Ar_38, q_38, S_38, M_38, H_38, G_38⟩
                show own_Ends p e below s₁ (mkF m 41 #[.val (.ref a), .val (.int (2 : Int32)), .val (.int (4 : Int32))] [(.int c4)]) _
                refine own_go (fun _ => XS.iconst X0.here hx rfl (hb hby d3_41)) ?_
                show own_Ends p e below s₁ (mkF m 42 #[.val (.ref a), .val (.int (2 : Int32)), .val (.int (4 : Int32))] [(.int (-1 : Int32)), (.int c4)]) _
                by_cases hc42_2 : c4 = (-1 : Int32)
                · refine own_go (fun _ => XS.icmpYes X0.here hx rfl (pc0 := 42) (pc' := 47) rfl (hb hby d3_42) rfl (teq hc42_2).1 (by decide) (by decide)) ?_
                  show own_Ends p e below s₁ (mkF m 47 #[.val (.ref a), .val (.int (2 : Int32)), .val (.int (4 : Int32))] []) _
                  refine own_go (fun _ => XS.iinc X0.here hx rfl (hb hby d3_47) rfl (l' := #[.val (.ref a), .val (.int (2 : Int32)), .val (.int (5 : Int32))]) rfl) ?_
                  show own_Ends p e below s₁ (mkF m 50 #[.val (.ref a), .val (.int (2 : Int32)), .val (.int (5 : Int32))] []) _
                  refine own_go (fun _ => XS.goto X0.here hx rfl (pc0 := 50) (pc' := 32) rfl (hb hby d3_50) (by decide) (by decide)) ?_
                  show own_Ends p e below s₁ (mkF m 32 #[.val (.ref a), .val (.int (2 : Int32)), .val (.int (5 : Int32))] []) _
                  refine own_go (fun _ => XS.iloadN X0.here hx rfl (hb hby d3_32) rfl) ?_
                  show own_Ends p e below s₁ (mkF m 33 #[.val (.ref a), .val (.int (2 : Int32)), .val (.int (5 : Int32))] [(.int (5 : Int32))]) _
                  refine own_go (fun _ => XS.bipush X0.here hx rfl (hb hby d3_33)) ?_
                  show own_Ends p e below s₁ (mkF m 35 #[.val (.ref a), .val (.int (2 : Int32)), .val (.int (5 : Int32))] [(.int (8 : Int32)), (.int (5 : Int32))]) _
                  refine own_go (fun _ => XS.icmpNo X0.here hx rfl (hb hby d3_35) rfl (tlt (show (5 : Int32) < (8 : Int32) from by decide)).2.1) ?_
                  show own_Ends p e below s₁ (mkF m 38 #[.val (.ref a), .val (.int (2 : Int32)), .val (.int (5 : Int32))] []) _
                  refine own_go (fun _ => XS.aloadN X0.here hx rfl (hb hby d3_38) rfl rfl) ?_
                  show own_Ends p e below s₁ (mkF m 39 #[.val (.ref a), .val (.int (2 : Int32)), .val (.int (5 : Int32))] [(.ref a)]) _
                  refine own_go (fun _ => XS.iloadN X0.here hx rfl (hb hby d3_39) rfl) ?_
                  show own_Ends p e below s₁ (mkF m 40 #[.val (.ref a), .val (.int (2 : Int32)), .val (.int (5 : Int32))] [(.int (5 : Int32)), (.ref a)]) _
                  obtain ⟨cl_39, Ar_39, q_39, S_39, M_39, H_39, G_39⟩ := V_a_r38
                  have hin39 : ¬ ((5 : Int32) < 0 ∨ cl_39.slots.size ≤ ((5 : Int32)).toNatClampNeg) := inb_of S_39 ⟨by decide, by decide⟩
                  have hat39 : cl_39.slots[((5 : Int32)).toNatClampNeg]? = some (.int c5) := Has.at H_39 hin39 (rfl)
                  refine own_go (X0.baloadBytes hx (j := (5 : Int32)) (v := (.int c5)) (by rw [e0]; exact Ar_39.1) (State.isArrayOf_alike hZ.alike Ar_39.2.1) Ar_39.2.2 hin39 hat39 (g := (mkF m 40 #[.val (.ref a), .val (.int (2 : Int32)), .val (.int (5 : Int32))] [(.int (5 : Int32)), (.ref a)])) rfl rfl (hb hby d3_40)) ?_
                  have V_a_r39 : Arv Z h0 a kl .byte (8 : Int32) [(.int c0), (.int c1), (.int c2), (.int c3), (.int c4), (.int c5), (.int c6), (.int c7)] (.int (0 : Int32)) := ⟨cl_39, Ar_39, q_39, S_39, M_39, H_39, G_39⟩
                  show own_Ends p e below s₁ (mkF m 41 #[.val (.ref a), .val (.int (2 : Int32)), .val (.int (5 : Int32))] [(.int c5)]) _
                  refine own_go (fun _ => XS.iconst X0.here hx rfl (hb hby d3_41)) ?_
                  show own_Ends p e below s₁ (mkF m 42 #[.val (.ref a), .val (.int (2 : Int32)), .val (.int (5 : Int32))] [(.int (-1 : Int32)), (.int c5)]) _
                  by_cases hc42_3 : c5 = (-1 : Int32)
                  · refine own_go (fun _ => XS.icmpYes X0.here hx rfl (pc0 := 42) (pc' := 47) rfl (hb hby d3_42) rfl (teq hc42_3).1 (by decide) (by decide)) ?_
                    show own_Ends p e below s₁ (mkF m 47 #[.val (.ref a), .val (.int (2 : Int32)), .val (.int (5 : Int32))] []) _
                    refine own_go (fun _ => XS.iinc X0.here hx rfl (hb hby d3_47) rfl (l' := #[.val (.ref a), .val (.int (2 : Int32)), .val (.int (6 : Int32))]) rfl) ?_
                    show own_Ends p e below s₁ (mkF m 50 #[.val (.ref a), .val (.int (2 : Int32)), .val (.int (6 : Int32))] []) _
                    refine own_go (fun _ => XS.goto X0.here hx rfl (pc0 := 50) (pc' := 32) rfl (hb hby d3_50) (by decide) (by decide)) ?_
                    show own_Ends p e below s₁ (mkF m 32 #[.val (.ref a), .val (.int (2 : Int32)), .val (.int (6 : Int32))] []) _
                    refine own_go (fun _ => XS.iloadN X0.here hx rfl (hb hby d3_32) rfl) ?_
                    show own_Ends p e below s₁ (mkF m 33 #[.val (.ref a), .val (.int (2 : Int32)), .val (.int (6 : Int32))] [(.int (6 : Int32))]) _
                    refine own_go (fun _ => XS.bipush X0.here hx rfl (hb hby d3_33)) ?_
                    show own_Ends p e below s₁ (mkF m 35 #[.val (.ref a), .val (.int (2 : Int32)), .val (.int (6 : Int32))] [(.int (8 : Int32)), (.int (6 : Int32))]) _
                    refine own_go (fun _ => XS.icmpNo X0.here hx rfl (hb hby d3_35) rfl (tlt (show (6 : Int32) < (8 : Int32) from by decide)).2.1) ?_
                    show own_Ends p e below s₁ (mkF m 38 #[.val (.ref a), .val (.int (2 : Int32)), .val (.int (6 : Int32))] []) _
                    refine own_go (fun _ => XS.aloadN X0.here hx rfl (hb hby d3_38) rfl rfl) ?_
                    show own_Ends p e below s₁ (mkF m 39 #[.val (.ref a), .val (.int (2 : Int32)), .val (.int (6 : Int32))] [(.ref a)]) _
                    refine own_go (fun _ => XS.iloadN X0.here hx rfl (hb hby d3_39) rfl) ?_
                    show own_Ends p e below s₁ (mkF m 40 #[.val (.ref a), .val (.int (2 : Int32)), .val (.int (6 : Int32))] [(.int (6 : Int32)), (.ref a)]) _
                    obtain ⟨cl_40, Ar_40, q_40, S_40, M_40, H_40, G_40⟩ := V_a_r39
                    have hin40 : ¬ ((6 : Int32) < 0 ∨ cl_40.slots.size ≤ ((6 : Int32)).toNatClampNeg) := inb_of S_40 ⟨by decide, by decide⟩
                    have hat40 : cl_40.slots[((6 : Int32)).toNatClampNeg]? = some (.int c6) := Has.at H_40 hin40 (rfl)
                    refine own_go (X0.baloadBytes hx (j := (6 : Int32)) (v := (.int c6)) (by rw [e0]; exact Ar_40.1) (State.isArrayOf_alike hZ.alike Ar_40.2.1) Ar_40.2.2 hin40 hat40 (g := (mkF m 40 #[.val (.ref a), .val (.int (2 : Int32)), .val (.int (6 : Int32))] [(.int (6 : Int32)), (.ref a)])) rfl rfl (hb hby d3_40)) ?_
                    have V_a_r40 : Arv Z h0 a kl .byte (8 : Int32) [(.int c0), (.int c1), (.int c2), (.int c3), (.int c4), (.int c5), (.int c6), (.int c7)] (.int (0 : Int32)) := ⟨cl_40, Ar_40, q_40, S_40, M_40, H_40, G_40⟩
                    show own_Ends p e below s₁ (mkF m 41 #[.val (.ref a), .val (.int (2 : Int32)), .val (.int (6 : Int32))] [(.int c6)]) _
                    refine own_go (fun _ => XS.iconst X0.here hx rfl (hb hby d3_41)) ?_
                    show own_Ends p e below s₁ (mkF m 42 #[.val (.ref a), .val (.int (2 : Int32)), .val (.int (6 : Int32))] [(.int (-1 : Int32)), (.int c6)]) _
                    by_cases hc42_4 : c6 = (-1 : Int32)
                    · refine own_go (fun _ => XS.icmpYes X0.here hx rfl (pc0 := 42) (pc' := 47) rfl (hb hby d3_42) rfl (teq hc42_4).1 (by decide) (by decide)) ?_
                      show own_Ends p e below s₁ (mkF m 47 #[.val (.ref a), .val (.int (2 : Int32)), .val (.int (6 : Int32))] []) _
                      refine own_go (fun _ => XS.iinc X0.here hx rfl (hb hby d3_47) rfl (l' := #[.val (.ref a), .val (.int (2 : Int32)), .val (.int (7 : Int32))]) rfl) ?_
                      show own_Ends p e below s₁ (mkF m 50 #[.val (.ref a), .val (.int (2 : Int32)), .val (.int (7 : Int32))] []) _
                      refine own_go (fun _ => XS.goto X0.here hx rfl (pc0 := 50) (pc' := 32) rfl (hb hby d3_50) (by decide) (by decide)) ?_
                      show own_Ends p e below s₁ (mkF m 32 #[.val (.ref a), .val (.int (2 : Int32)), .val (.int (7 : Int32))] []) _
                      refine own_go (fun _ => XS.iloadN X0.here hx rfl (hb hby d3_32) rfl) ?_
                      show own_Ends p e below s₁ (mkF m 33 #[.val (.ref a), .val (.int (2 : Int32)), .val (.int (7 : Int32))] [(.int (7 : Int32))]) _
                      refine own_go (fun _ => XS.bipush X0.here hx rfl (hb hby d3_33)) ?_
                      show own_Ends p e below s₁ (mkF m 35 #[.val (.ref a), .val (.int (2 : Int32)), .val (.int (7 : Int32))] [(.int (8 : Int32)), (.int (7 : Int32))]) _
                      refine own_go (fun _ => XS.icmpNo X0.here hx rfl (hb hby d3_35) rfl (tlt (show (7 : Int32) < (8 : Int32) from by decide)).2.1) ?_
                      show own_Ends p e below s₁ (mkF m 38 #[.val (.ref a), .val (.int (2 : Int32)), .val (.int (7 : Int32))] []) _
                      refine own_go (fun _ => XS.aloadN X0.here hx rfl (hb hby d3_38) rfl rfl) ?_
                      show own_Ends p e below s₁ (mkF m 39 #[.val (.ref a), .val (.int (2 : Int32)), .val (.int (7 : Int32))] [(.ref a)]) _
                      refine own_go (fun _ => XS.iloadN X0.here hx rfl (hb hby d3_39) rfl) ?_
                      show own_Ends p e below s₁ (mkF m 40 #[.val (.ref a), .val (.int (2 : Int32)), .val (.int (7 : Int32))] [(.int (7 : Int32)), (.ref a)]) _
                      obtain ⟨cl_41, Ar_41, q_41, S_41, M_41, H_41, G_41⟩ := V_a_r40
                      have hin41 : ¬ ((7 : Int32) < 0 ∨ cl_41.slots.size ≤ ((7 : Int32)).toNatClampNeg) := inb_of S_41 ⟨by decide, by decide⟩
                      have hat41 : cl_41.slots[((7 : Int32)).toNatClampNeg]? = some (.int c7) := Has.at H_41 hin41 (rfl)
                      refine own_go (X0.baloadBytes hx (j := (7 : Int32)) (v := (.int c7)) (by rw [e0]; exact Ar_41.1) (State.isArrayOf_alike hZ.alike Ar_41.2.1) Ar_41.2.2 hin41 hat41 (g := (mkF m 40 #[.val (.ref a), .val (.int (2 : Int32)), .val (.int (7 : Int32))] [(.int (7 : Int32)), (.ref a)])) rfl rfl (hb hby d3_40)) ?_
                      have V_a_r41 : Arv Z h0 a kl .byte (8 : Int32) [(.int c0), (.int c1), (.int c2), (.int c3), (.int c4), (.int c5), (.int c6), (.int c7)] (.int (0 : Int32)) := ⟨cl_41, Ar_41, q_41, S_41, M_41, H_41, G_41⟩
                      show own_Ends p e below s₁ (mkF m 41 #[.val (.ref a), .val (.int (2 : Int32)), .val (.int (7 : Int32))] [(.int c7)]) _
                      refine own_go (fun _ => XS.iconst X0.here hx rfl (hb hby d3_41)) ?_
                      show own_Ends p e below s₁ (mkF m 42 #[.val (.ref a), .val (.int (2 : Int32)), .val (.int (7 : Int32))] [(.int (-1 : Int32)), (.int c7)]) _
                      by_cases hc42_5 : c7 = (-1 : Int32)
                      · refine own_go (fun _ => XS.icmpYes X0.here hx rfl (pc0 := 42) (pc' := 47) rfl (hb hby d3_42) rfl (teq hc42_5).1 (by decide) (by decide)) ?_
                        show own_Ends p e below s₁ (mkF m 47 #[.val (.ref a), .val (.int (2 : Int32)), .val (.int (7 : Int32))] []) _
                        refine own_go (fun _ => XS.iinc X0.here hx rfl (hb hby d3_47) rfl (l' := #[.val (.ref a), .val (.int (2 : Int32)), .val (.int (8 : Int32))]) rfl) ?_
                        show own_Ends p e below s₁ (mkF m 50 #[.val (.ref a), .val (.int (2 : Int32)), .val (.int (8 : Int32))] []) _
                        refine own_go (fun _ => XS.goto X0.here hx rfl (pc0 := 50) (pc' := 32) rfl (hb hby d3_50) (by decide) (by decide)) ?_
                        show own_Ends p e below s₁ (mkF m 32 #[.val (.ref a), .val (.int (2 : Int32)), .val (.int (8 : Int32))] []) _
                        refine own_go (fun _ => XS.iloadN X0.here hx rfl (hb hby d3_32) rfl) ?_
                        show own_Ends p e below s₁ (mkF m 33 #[.val (.ref a), .val (.int (2 : Int32)), .val (.int (8 : Int32))] [(.int (8 : Int32))]) _
                        refine own_go (fun _ => XS.bipush X0.here hx rfl (hb hby d3_33)) ?_
                        show own_Ends p e below s₁ (mkF m 35 #[.val (.ref a), .val (.int (2 : Int32)), .val (.int (8 : Int32))] [(.int (8 : Int32)), (.int (8 : Int32))]) _
                        refine own_go (fun _ => XS.icmpYes X0.here hx rfl (pc0 := 35) (pc' := 53) rfl (hb hby d3_35) rfl (flt (show ¬ ((8 : Int32) < (8 : Int32)) from by decide)).2.1 (by decide) (by decide)) ?_
                        show own_Ends p e below s₁ (mkF m 53 #[.val (.ref a), .val (.int (2 : Int32)), .val (.int (8 : Int32))] []) _
                        refine own_go (fun _ => XS.iloadN X0.here hx rfl (hb hby d3_53) rfl) ?_
                        show own_Ends p e below s₁ (mkF m 54 #[.val (.ref a), .val (.int (2 : Int32)), .val (.int (8 : Int32))] [(.int (2 : Int32))]) _
                        refine own_go (fun _ => XS.iconst X0.here hx rfl (hb hby d3_54)) ?_
                        show own_Ends p e below s₁ (mkF m 55 #[.val (.ref a), .val (.int (2 : Int32)), .val (.int (8 : Int32))] [(.int (4 : Int32)), (.int (2 : Int32))]) _
                        refine own_go (fun _ => XS.icmpYes X0.here hx rfl (pc0 := 55) (pc' := 62) rfl (hb hby d3_55) rfl (tlt (show (2 : Int32) < (4 : Int32) from by decide)).1 (by decide) (by decide)) ?_
                        show own_Ends p e below s₁ (mkF m 62 #[.val (.ref a), .val (.int (2 : Int32)), .val (.int (8 : Int32))] []) _
                        refine own_go (fun _ => XS.iconst X0.here hx rfl (hb hby d3_62)) ?_
                        show own_Ends p e below s₁ (mkF m 63 #[.val (.ref a), .val (.int (2 : Int32)), .val (.int (8 : Int32))] [(.int (0 : Int32))]) _
                        obtain ⟨fs, hr, hrun, hended, hW, hsame⟩ := X0.leave (v := some (.int (0 : Int32))) (fun h => by rw [Bd.returns] at h; cases h)
                        refine ⟨_, _, retN X0 hx (t := .boolean) Bd.returns (by simp) (hb hby d3_63) hr, hrun, hended, _, _, rfl, ?_, ⟨_, rfl⟩, hW, hsame.mono (by decide) (by decide)⟩
                        show Q_rmPin Z a kl c0 c1 c2 c3 c4 c5 c6 c7 h0 n0 _ s₁.heap _
                        rw [e0]
                        exact ⟨_, rfl, by exact own_back ((own_sC hc13 hc21).trans ((own_sC hc13_1 hc21_1).trans ((own_sA hc13_2).trans ((own_tA hc42).trans ((own_tA hc42_1).trans ((own_tA hc42_2).trans ((own_tA hc42_3).trans ((own_tA hc42_4).trans ((own_tA hc42_5).trans (rfl)))))))))), N0, rfl⟩
                      · refine own_go (fun _ => XS.icmpNo X0.here hx rfl (hb hby d3_42) rfl (feq hc42_5).1) ?_
                        show own_Ends p e below s₁ (mkF m 45 #[.val (.ref a), .val (.int (2 : Int32)), .val (.int (7 : Int32))] []) _
                        refine own_go (fun _ => XS.iconst X0.here hx rfl (hb hby d3_45)) ?_
                        show own_Ends p e below s₁ (mkF m 46 #[.val (.ref a), .val (.int (2 : Int32)), .val (.int (7 : Int32))] [(.int (0 : Int32))]) _
                        obtain ⟨fs, hr, hrun, hended, hW, hsame⟩ := X0.leave (v := some (.int (0 : Int32))) (fun h => by rw [Bd.returns] at h; cases h)
                        refine ⟨_, _, retN X0 hx (t := .boolean) Bd.returns (by simp) (hb hby d3_46) hr, hrun, hended, _, _, rfl, ?_, ⟨_, rfl⟩, hW, hsame.mono (by decide) (by decide)⟩
                        show Q_rmPin Z a kl c0 c1 c2 c3 c4 c5 c6 c7 h0 n0 _ s₁.heap _
                        rw [e0]
                        exact ⟨_, rfl, by exact own_back ((own_sC hc13 hc21).trans ((own_sC hc13_1 hc21_1).trans ((own_sA hc13_2).trans ((own_tA hc42).trans ((own_tA hc42_1).trans ((own_tA hc42_2).trans ((own_tA hc42_3).trans ((own_tA hc42_4).trans (own_tB hc42_5))))))))), N0, rfl⟩
                    · refine own_go (fun _ => XS.icmpNo X0.here hx rfl (hb hby d3_42) rfl (feq hc42_4).1) ?_
                      show own_Ends p e below s₁ (mkF m 45 #[.val (.ref a), .val (.int (2 : Int32)), .val (.int (6 : Int32))] []) _
                      refine own_go (fun _ => XS.iconst X0.here hx rfl (hb hby d3_45)) ?_
                      show own_Ends p e below s₁ (mkF m 46 #[.val (.ref a), .val (.int (2 : Int32)), .val (.int (6 : Int32))] [(.int (0 : Int32))]) _
                      obtain ⟨fs, hr, hrun, hended, hW, hsame⟩ := X0.leave (v := some (.int (0 : Int32))) (fun h => by rw [Bd.returns] at h; cases h)
                      refine ⟨_, _, retN X0 hx (t := .boolean) Bd.returns (by simp) (hb hby d3_46) hr, hrun, hended, _, _, rfl, ?_, ⟨_, rfl⟩, hW, hsame.mono (by decide) (by decide)⟩
                      show Q_rmPin Z a kl c0 c1 c2 c3 c4 c5 c6 c7 h0 n0 _ s₁.heap _
                      rw [e0]
                      exact ⟨_, rfl, by exact own_back ((own_sC hc13 hc21).trans ((own_sC hc13_1 hc21_1).trans ((own_sA hc13_2).trans ((own_tA hc42).trans ((own_tA hc42_1).trans ((own_tA hc42_2).trans ((own_tA hc42_3).trans (own_tB hc42_4)))))))), N0, rfl⟩
                  · refine own_go (fun _ => XS.icmpNo X0.here hx rfl (hb hby d3_42) rfl (feq hc42_3).1) ?_
                    show own_Ends p e below s₁ (mkF m 45 #[.val (.ref a), .val (.int (2 : Int32)), .val (.int (5 : Int32))] []) _
                    refine own_go (fun _ => XS.iconst X0.here hx rfl (hb hby d3_45)) ?_
                    show own_Ends p e below s₁ (mkF m 46 #[.val (.ref a), .val (.int (2 : Int32)), .val (.int (5 : Int32))] [(.int (0 : Int32))]) _
                    obtain ⟨fs, hr, hrun, hended, hW, hsame⟩ := X0.leave (v := some (.int (0 : Int32))) (fun h => by rw [Bd.returns] at h; cases h)
                    refine ⟨_, _, retN X0 hx (t := .boolean) Bd.returns (by simp) (hb hby d3_46) hr, hrun, hended, _, _, rfl, ?_, ⟨_, rfl⟩, hW, hsame.mono (by decide) (by decide)⟩
                    show Q_rmPin Z a kl c0 c1 c2 c3 c4 c5 c6 c7 h0 n0 _ s₁.heap _
                    rw [e0]
                    exact ⟨_, rfl, by exact own_back ((own_sC hc13 hc21).trans ((own_sC hc13_1 hc21_1).trans ((own_sA hc13_2).trans ((own_tA hc42).trans ((own_tA hc42_1).trans ((own_tA hc42_2).trans (own_tB hc42_3))))))), N0, rfl⟩
                · refine own_go (fun _ => XS.icmpNo X0.here hx rfl (hb hby d3_42) rfl (feq hc42_2).1) ?_
                  show own_Ends p e below s₁ (mkF m 45 #[.val (.ref a), .val (.int (2 : Int32)), .val (.int (4 : Int32))] []) _
                  refine own_go (fun _ => XS.iconst X0.here hx rfl (hb hby d3_45)) ?_
                  show own_Ends p e below s₁ (mkF m 46 #[.val (.ref a), .val (.int (2 : Int32)), .val (.int (4 : Int32))] [(.int (0 : Int32))]) _
                  obtain ⟨fs, hr, hrun, hended, hW, hsame⟩ := X0.leave (v := some (.int (0 : Int32))) (fun h => by rw [Bd.returns] at h; cases h)
                  refine ⟨_, _, retN X0 hx (t := .boolean) Bd.returns (by simp) (hb hby d3_46) hr, hrun, hended, _, _, rfl, ?_, ⟨_, rfl⟩, hW, hsame.mono (by decide) (by decide)⟩
                  show Q_rmPin Z a kl c0 c1 c2 c3 c4 c5 c6 c7 h0 n0 _ s₁.heap _
                  rw [e0]
                  exact ⟨_, rfl, by exact own_back ((own_sC hc13 hc21).trans ((own_sC hc13_1 hc21_1).trans ((own_sA hc13_2).trans ((own_tA hc42).trans ((own_tA hc42_1).trans (own_tB hc42_2)))))), N0, rfl⟩
              · refine own_go (fun _ => XS.icmpNo X0.here hx rfl (hb hby d3_42) rfl (feq hc42_1).1) ?_
                show own_Ends p e below s₁ (mkF m 45 #[.val (.ref a), .val (.int (2 : Int32)), .val (.int (3 : Int32))] []) _
                refine own_go (fun _ => XS.iconst X0.here hx rfl (hb hby d3_45)) ?_
                show own_Ends p e below s₁ (mkF m 46 #[.val (.ref a), .val (.int (2 : Int32)), .val (.int (3 : Int32))] [(.int (0 : Int32))]) _
                obtain ⟨fs, hr, hrun, hended, hW, hsame⟩ := X0.leave (v := some (.int (0 : Int32))) (fun h => by rw [Bd.returns] at h; cases h)
                refine ⟨_, _, retN X0 hx (t := .boolean) Bd.returns (by simp) (hb hby d3_46) hr, hrun, hended, _, _, rfl, ?_, ⟨_, rfl⟩, hW, hsame.mono (by decide) (by decide)⟩
                show Q_rmPin Z a kl c0 c1 c2 c3 c4 c5 c6 c7 h0 n0 _ s₁.heap _
                rw [e0]
                exact ⟨_, rfl, by exact own_back ((own_sC hc13 hc21).trans ((own_sC hc13_1 hc21_1).trans ((own_sA hc13_2).trans ((own_tA hc42).trans (own_tB hc42_1))))), N0, rfl⟩
            · refine own_go (fun _ => XS.icmpNo X0.here hx rfl (hb hby d3_42) rfl (feq hc42).1) ?_
              show own_Ends p e below s₁ (mkF m 45 #[.val (.ref a), .val (.int (2 : Int32)), .val (.int (2 : Int32))] []) _
              refine own_go (fun _ => XS.iconst X0.here hx rfl (hb hby d3_45)) ?_
              show own_Ends p e below s₁ (mkF m 46 #[.val (.ref a), .val (.int (2 : Int32)), .val (.int (2 : Int32))] [(.int (0 : Int32))]) _
              obtain ⟨fs, hr, hrun, hended, hW, hsame⟩ := X0.leave (v := some (.int (0 : Int32))) (fun h => by rw [Bd.returns] at h; cases h)
              refine ⟨_, _, retN X0 hx (t := .boolean) Bd.returns (by simp) (hb hby d3_46) hr, hrun, hended, _, _, rfl, ?_, ⟨_, rfl⟩, hW, hsame.mono (by decide) (by decide)⟩
              show Q_rmPin Z a kl c0 c1 c2 c3 c4 c5 c6 c7 h0 n0 _ s₁.heap _
              rw [e0]
              exact ⟨_, rfl, by exact own_back ((own_sC hc13 hc21).trans ((own_sC hc13_1 hc21_1).trans ((own_sA hc13_2).trans (own_tB hc42)))), N0, rfl⟩
          · refine own_go (fun _ => XS.icmpNo X0.here hx rfl (hb hby d3_13) rfl (flt hc13_2).1) ?_
            show own_Ends p e below s₁ (mkF m 16 #[.val (.ref a), .val (.int (2 : Int32)), .unset] []) _
            refine own_go (fun _ => XS.aloadN X0.here hx rfl (hb hby d3_16) rfl rfl) ?_
            show own_Ends p e below s₁ (mkF m 17 #[.val (.ref a), .val (.int (2 : Int32)), .unset] [(.ref a)]) _
            refine own_go (fun _ => XS.iloadN X0.here hx rfl (hb hby d3_17) rfl) ?_
            show own_Ends p e below s₁ (mkF m 18 #[.val (.ref a), .val (.int (2 : Int32)), .unset] [(.int (2 : Int32)), (.ref a)]) _
            obtain ⟨cl_42, Ar_42, q_42, S_42, M_42, H_42, G_42⟩ := V_a_r35
            have hin42 : ¬ ((2 : Int32) < 0 ∨ cl_42.slots.size ≤ ((2 : Int32)).toNatClampNeg) := inb_of S_42 ⟨by decide, by decide⟩
            have hat42 : cl_42.slots[((2 : Int32)).toNatClampNeg]? = some (.int c2) := Has.at H_42 hin42 (rfl)
            refine own_go (X0.baloadBytes hx (j := (2 : Int32)) (v := (.int c2)) (by rw [e0]; exact Ar_42.1) (State.isArrayOf_alike hZ.alike Ar_42.2.1) Ar_42.2.2 hin42 hat42 (g := (mkF m 18 #[.val (.ref a), .val (.int (2 : Int32)), .unset] [(.int (2 : Int32)), (.ref a)])) rfl rfl (hb hby d3_18)) ?_
            have V_a_r42 : Arv Z h0 a kl .byte (8 : Int32) [(.int c0), (.int c1), (.int c2), (.int c3), (.int c4), (.int c5), (.int c6), (.int c7)] (.int (0 : Int32)) := ⟨cl_42, Ar_42, q_42, S_42, M_42, H_42, G_42⟩
            show own_Ends p e below s₁ (mkF m 19 #[.val (.ref a), .val (.int (2 : Int32)), .unset] [(.int c2)]) _
            refine own_go (fun _ => XS.bipush X0.here hx rfl (hb hby d3_19)) ?_
            show own_Ends p e below s₁ (mkF m 21 #[.val (.ref a), .val (.int (2 : Int32)), .unset] [(.int (57 : Int32)), (.int c2)]) _
            by_cases hc21_2 : (57 : Int32) < c2
            · refine own_go (fun _ => XS.icmpYes X0.here hx rfl (pc0 := 21) (pc' := 30) rfl (hb hby d3_21) rfl (tlt hc21_2).2.2.1 (by decide) (by decide)) ?_
              show own_Ends p e below s₁ (mkF m 30 #[.val (.ref a), .val (.int (2 : Int32)), .unset] []) _
              refine own_go (fun _ => XS.iloadN X0.here hx rfl (hb hby d3_30) rfl) ?_
              show own_Ends p e below s₁ (mkF m 31 #[.val (.ref a), .val (.int (2 : Int32)), .unset] [(.int (2 : Int32))]) _
              refine own_go (fun _ => XS.istoreN X0.here hx rfl (hb hby d3_31) rfl (l' := #[.val (.ref a), .val (.int (2 : Int32)), .val (.int (2 : Int32))]) rfl) ?_
              show own_Ends p e below s₁ (mkF m 32 #[.val (.ref a), .val (.int (2 : Int32)), .val (.int (2 : Int32))] []) _
              refine own_go (fun _ => XS.iloadN X0.here hx rfl (hb hby d3_32) rfl) ?_
              show own_Ends p e below s₁ (mkF m 33 #[.val (.ref a), .val (.int (2 : Int32)), .val (.int (2 : Int32))] [(.int (2 : Int32))]) _
              refine own_go (fun _ => XS.bipush X0.here hx rfl (hb hby d3_33)) ?_
              show own_Ends p e below s₁ (mkF m 35 #[.val (.ref a), .val (.int (2 : Int32)), .val (.int (2 : Int32))] [(.int (8 : Int32)), (.int (2 : Int32))]) _
              refine own_go (fun _ => XS.icmpNo X0.here hx rfl (hb hby d3_35) rfl (tlt (show (2 : Int32) < (8 : Int32) from by decide)).2.1) ?_
              show own_Ends p e below s₁ (mkF m 38 #[.val (.ref a), .val (.int (2 : Int32)), .val (.int (2 : Int32))] []) _
              refine own_go (fun _ => XS.aloadN X0.here hx rfl (hb hby d3_38) rfl rfl) ?_
              show own_Ends p e below s₁ (mkF m 39 #[.val (.ref a), .val (.int (2 : Int32)), .val (.int (2 : Int32))] [(.ref a)]) _
              refine own_go (fun _ => XS.iloadN X0.here hx rfl (hb hby d3_39) rfl) ?_
              show own_Ends p e below s₁ (mkF m 40 #[.val (.ref a), .val (.int (2 : Int32)), .val (.int (2 : Int32))] [(.int (2 : Int32)), (.ref a)]) _
              obtain ⟨cl_43, Ar_43, q_43, S_43, M_43, H_43, G_43⟩ := V_a_r42
              have hin43 : ¬ ((2 : Int32) < 0 ∨ cl_43.slots.size ≤ ((2 : Int32)).toNatClampNeg) := inb_of S_43 ⟨by decide, by decide⟩
              have hat43 : cl_43.slots[((2 : Int32)).toNatClampNeg]? = some (.int c2) := Has.at H_43 hin43 (rfl)
              refine own_go (X0.baloadBytes hx (j := (2 : Int32)) (v := (.int c2)) (by rw [e0]; exact Ar_43.1) (State.isArrayOf_alike hZ.alike Ar_43.2.1) Ar_43.2.2 hin43 hat43 (g := (mkF m 40 #[.val (.ref a), .val (.int (2 : Int32)), .val (.int (2 : Int32))] [(.int (2 : Int32)), (.ref a)])) rfl rfl (hb hby d3_40)) ?_
              have V_a_r43 : Arv Z h0 a kl .byte (8 : Int32) [(.int c0), (.int c1), (.int c2), (.int c3), (.int c4), (.int c5), (.int c6), (.int c7)] (.int (0 : Int32)) := ⟨cl_43, Ar_43, q_43, S_43, M_43, H_43, G_43⟩
              show own_Ends p e below s₁ (mkF m 41 #[.val (.ref a), .val (.int (2 : Int32)), .val (.int (2 : Int32))] [(.int c2)]) _
              refine own_go (fun _ => XS.iconst X0.here hx rfl (hb hby d3_41)) ?_
              show own_Ends p e below s₁ (mkF m 42 #[.val (.ref a), .val (.int (2 : Int32)), .val (.int (2 : Int32))] [(.int (-1 : Int32)), (.int c2)]) _
              by_cases hc42 : c2 = (-1 : Int32)
              · refine own_go (fun _ => XS.icmpYes X0.here hx rfl (pc0 := 42) (pc' := 47) rfl (hb hby d3_42) rfl (teq hc42).1 (by decide) (by decide)) ?_
                show own_Ends p e below s₁ (mkF m 47 #[.val (.ref a), .val (.int (2 : Int32)), .val (.int (2 : Int32))] []) _
                refine own_go (fun _ => XS.iinc X0.here hx rfl (hb hby d3_47) rfl (l' := #[.val (.ref a), .val (.int (2 : Int32)), .val (.int (3 : Int32))]) rfl) ?_
                show own_Ends p e below s₁ (mkF m 50 #[.val (.ref a), .val (.int (2 : Int32)), .val (.int (3 : Int32))] []) _
                refine own_go (fun _ => XS.goto X0.here hx rfl (pc0 := 50) (pc' := 32) rfl (hb hby d3_50) (by decide) (by decide)) ?_
                show own_Ends p e below s₁ (mkF m 32 #[.val (.ref a), .val (.int (2 : Int32)), .val (.int (3 : Int32))] []) _
                refine own_go (fun _ => XS.iloadN X0.here hx rfl (hb hby d3_32) rfl) ?_
                show own_Ends p e below s₁ (mkF m 33 #[.val (.ref a), .val (.int (2 : Int32)), .val (.int (3 : Int32))] [(.int (3 : Int32))]) _
                refine own_go (fun _ => XS.bipush X0.here hx rfl (hb hby d3_33)) ?_
                show own_Ends p e below s₁ (mkF m 35 #[.val (.ref a), .val (.int (2 : Int32)), .val (.int (3 : Int32))] [(.int (8 : Int32)), (.int (3 : Int32))]) _
                refine own_go (fun _ => XS.icmpNo X0.here hx rfl (hb hby d3_35) rfl (tlt (show (3 : Int32) < (8 : Int32) from by decide)).2.1) ?_
                show own_Ends p e below s₁ (mkF m 38 #[.val (.ref a), .val (.int (2 : Int32)), .val (.int (3 : Int32))] []) _
                refine own_go (fun _ => XS.aloadN X0.here hx rfl (hb hby d3_38) rfl rfl) ?_
                show own_Ends p e below s₁ (mkF m 39 #[.val (.ref a), .val (.int (2 : Int32)), .val (.int (3 : Int32))] [(.ref a)]) _
                refine own_go (fun _ => XS.iloadN X0.here hx rfl (hb hby d3_39) rfl) ?_
                show own_Ends p e below s₁ (mkF m 40 #[.val (.ref a), .val (.int (2 : Int32)), .val (.int (3 : Int32))] [(.int (3 : Int32)), (.ref a)]) _
                obtain ⟨cl_44, Ar_44, q_44, S_44, M_44, H_44, G_44⟩ := V_a_r43
                have hin44 : ¬ ((3 : Int32) < 0 ∨ cl_44.slots.size ≤ ((3 : Int32)).toNatClampNeg) := inb_of S_44 ⟨by decide, by decide⟩
                have hat44 : cl_44.slots[((3 : Int32)).toNatClampNeg]? = some (.int c3) := Has.at H_44 hin44 (rfl)
                refine own_go (X0.baloadBytes hx (j := (3 : Int32)) (v := (.int c3)) (by rw [e0]; exact Ar_44.1) (State.isArrayOf_alike hZ.alike Ar_44.2.1) Ar_44.2.2 hin44 hat44 (g := (mkF m 40 #[.val (.ref a), .val (.int (2 : Int32)), .val (.int (3 : Int32))] [(.int (3 : Int32)), (.ref a)])) rfl rfl (hb hby d3_40)) ?_
                have V_a_r44 : Arv Z h0 a kl .byte (8 : Int32) [(.int c0), (.int c1), (.int c2), (.int c3), (.int c4), (.int c5), (.int c6), (.int c7)] (.int (0 : Int32)) := ⟨cl_44, Ar_44, q_44, S_44, M_44, H_44, G_44⟩
                show own_Ends p e below s₁ (mkF m 41 #[.val (.ref a), .val (.int (2 : Int32)), .val (.int (3 : Int32))] [(.int c3)]) _
                refine own_go (fun _ => XS.iconst X0.here hx rfl (hb hby d3_41)) ?_
                show own_Ends p e below s₁ (mkF m 42 #[.val (.ref a), .val (.int (2 : Int32)), .val (.int (3 : Int32))] [(.int (-1 : Int32)), (.int c3)]) _
                by_cases hc42_1 : c3 = (-1 : Int32)
                · refine own_go (fun _ => XS.icmpYes X0.here hx rfl (pc0 := 42) (pc' := 47) rfl (hb hby d3_42) rfl (teq hc42_1).1 (by decide) (by decide)) ?_
                  show own_Ends p e below s₁ (mkF m 47 #[.val (.ref a), .val (.int (2 : Int32)), .val (.int (3 : Int32))] []) _
                  refine own_go (fun _ => XS.iinc X0.here hx rfl (hb hby d3_47) rfl (l' := #[.val (.ref a), .val (.int (2 : Int32)), .val (.int (4 : Int32))]) rfl) ?_
                  show own_Ends p e below s₁ (mkF m 50 #[.val (.ref a), .val (.int (2 : Int32)), .val (.int (4 : Int32))] []) _
                  refine own_go (fun _ => XS.goto X0.here hx rfl (pc0 := 50) (pc' := 32) rfl (hb hby d3_50) (by decide) (by decide)) ?_
                  show own_Ends p e below s₁ (mkF m 32 #[.val (.ref a), .val (.int (2 : Int32)), .val (.int (4 : Int32))] []) _
                  refine own_go (fun _ => XS.iloadN X0.here hx rfl (hb hby d3_32) rfl) ?_
                  show own_Ends p e below s₁ (mkF m 33 #[.val (.ref a), .val (.int (2 : Int32)), .val (.int (4 : Int32))] [(.int (4 : Int32))]) _
                  refine own_go (fun _ => XS.bipush X0.here hx rfl (hb hby d3_33)) ?_
                  show own_Ends p e below s₁ (mkF m 35 #[.val (.ref a), .val (.int (2 : Int32)), .val (.int (4 : Int32))] [(.int (8 : Int32)), (.int (4 : Int32))]) _
                  refine own_go (fun _ => XS.icmpNo X0.here hx rfl (hb hby d3_35) rfl (tlt (show (4 : Int32) < (8 : Int32) from by decide)).2.1) ?_
                  show own_Ends p e below s₁ (mkF m 38 #[.val (.ref a), .val (.int (2 : Int32)), .val (.int (4 : Int32))] []) _
                  refine own_go (fun _ => XS.aloadN X0.here hx rfl (hb hby d3_38) rfl rfl) ?_
                  show own_Ends p e below s₁ (mkF m 39 #[.val (.ref a), .val (.int (2 : Int32)), .val (.int (4 : Int32))] [(.ref a)]) _
                  refine own_go (fun _ => XS.iloadN X0.here hx rfl (hb hby d3_39) rfl) ?_
                  show own_Ends p e below s₁ (mkF m 40 #[.val (.ref a), .val (.int (2 : Int32)), .val (.int (4 : Int32))] [(.int (4 : Int32)), (.ref a)]) _
                  obtain ⟨cl_45, Ar_45, q_45, S_45, M_45, H_45, G_45⟩ := V_a_r44
                  have hin45 : ¬ ((4 : Int32) < 0 ∨ cl_45.slots.size ≤ ((4 : Int32)).toNatClampNeg) := inb_of S_45 ⟨by decide, by decide⟩
                  have hat45 : cl_45.slots[((4 : Int32)).toNatClampNeg]? = some (.int c4) := Has.at H_45 hin45 (rfl)
                  refine own_go (X0.baloadBytes hx (j := (4 : Int32)) (v := (.int c4)) (by rw [e0]; exact Ar_45.1) (State.isArrayOf_alike hZ.alike Ar_45.2.1) Ar_45.2.2 hin45 hat45 (g := (mkF m 40 #[.val (.ref a), .val (.int (2 : Int32)), .val (.int (4 : Int32))] [(.int (4 : Int32)), (.ref a)])) rfl rfl (hb hby d3_40)) ?_
                  have V_a_r45 : Arv Z h0 a kl .byte (8 : Int32) [(.int c0), (.int c1), (.int c2), (.int c3), (.int c4), (.int c5), (.int c6), (.int c7)] (.int (0 : Int32)) := ⟨cl_45, Ar_45, q_45, S_45, M_45, H_45, G_45⟩
                  show own_Ends p e below s₁ (mkF m 41 #[.val (.ref a), .val (.int (2 : Int32)), .val (.int (4 : Int32))] [(.int c4)]) _
                  refine own_go (fun _ => XS.iconst X0.here hx rfl (hb hby d3_41)) ?_
                  show own_Ends p e below s₁ (mkF m 42 #[.val (.ref a), .val (.int (2 : Int32)), .val (.int (4 : Int32))] [(.int (-1 : Int32)), (.int c4)]) _
                  by_cases hc42_2 : c4 = (-1 : Int32)
                  · refine own_go (fun _ => XS.icmpYes X0.here hx rfl (pc0 := 42) (pc' := 47) rfl (hb hby d3_42) rfl (teq hc42_2).1 (by decide) (by decide)) ?_
                    show own_Ends p e below s₁ (mkF m 47 #[.val (.ref a), .val (.int (2 : Int32)), .val (.int (4 : Int32))] []) _
                    refine own_go (fun _ => XS.iinc X0.here hx rfl (hb hby d3_47) rfl (l' := #[.val (.ref a), .val (.int (2 : Int32)), .val (.int (5 : Int32))]) rfl) ?_
                    show own_Ends p e below s₁ (mkF m 50 #[.val (.ref a), .val (.int (2 : Int32)), .val (.int (5 : Int32))] []) _
                    refine own_go (fun _ => XS.goto X0.here hx rfl (pc0 := 50) (pc' := 32) rfl (hb hby d3_50) (by decide) (by decide)) ?_
                    show own_Ends p e below s₁ (mkF m 32 #[.val (.ref a), .val (.int (2 : Int32)), .val (.int (5 : Int32))] []) _
                    refine own_go (fun _ => XS.iloadN X0.here hx rfl (hb hby d3_32) rfl) ?_
                    show own_Ends p e below s₁ (mkF m 33 #[.val (.ref a), .val (.int (2 : Int32)), .val (.int (5 : Int32))] [(.int (5 : Int32))]) _
                    refine own_go (fun _ => XS.bipush X0.here hx rfl (hb hby d3_33)) ?_
                    show own_Ends p e below s₁ (mkF m 35 #[.val (.ref a), .val (.int (2 : Int32)), .val (.int (5 : Int32))] [(.int (8 : Int32)), (.int (5 : Int32))]) _
                    refine own_go (fun _ => XS.icmpNo X0.here hx rfl (hb hby d3_35) rfl (tlt (show (5 : Int32) < (8 : Int32) from by decide)).2.1) ?_
                    show own_Ends p e below s₁ (mkF m 38 #[.val (.ref a), .val (.int (2 : Int32)), .val (.int (5 : Int32))] []) _
                    refine own_go (fun _ => XS.aloadN X0.here hx rfl (hb hby d3_38) rfl rfl) ?_
                    show own_Ends p e below s₁ (mkF m 39 #[.val (.ref a), .val (.int (2 : Int32)), .val (.int (5 : Int32))] [(.ref a)]) _
                    refine own_go (fun _ => XS.iloadN X0.here hx rfl (hb hby d3_39) rfl) ?_
                    show own_Ends p e below s₁ (mkF m 40 #[.val (.ref a), .val (.int (2 : Int32)), .val (.int (5 : Int32))] [(.int (5 : Int32)), (.ref a)]) _
                    obtain ⟨cl_46, Ar_46, q_46, S_46, M_46, H_46, G_46⟩ := V_a_r45
                    have hin46 : ¬ ((5 : Int32) < 0 ∨ cl_46.slots.size ≤ ((5 : Int32)).toNatClampNeg) := inb_of S_46 ⟨by decide, by decide⟩
                    have hat46 : cl_46.slots[((5 : Int32)).toNatClampNeg]? = some (.int c5) := Has.at H_46 hin46 (rfl)
                    refine own_go (X0.baloadBytes hx (j := (5 : Int32)) (v := (.int c5)) (by rw [e0]; exact Ar_46.1) (State.isArrayOf_alike hZ.alike Ar_46.2.1) Ar_46.2.2 hin46 hat46 (g := (mkF m 40 #[.val (.ref a), .val (.int (2 : Int32)), .val (.int (5 : Int32))] [(.int (5 : Int32)), (.ref a)])) rfl rfl (hb hby d3_40)) ?_
                    have V_a_r46 : Arv Z h0 a kl .byte (8 : Int32) [(.int c0), (.int c1), (.int c2), (.int c3), (.int c4), (.int c5), (.int c6), (.int c7)] (.int (0 : Int32)) := ⟨cl_46, Ar_46, q_46, S_46, M_46, H_46, G_46⟩
                    show own_Ends p e below s₁ (mkF m 41 #[.val (.ref a), .val (.int (2 : Int32)), .val (.int (5 : Int32))] [(.int c5)]) _
                    refine own_go (fun _ => XS.iconst X0.here hx rfl (hb hby d3_41)) ?_
                    show own_Ends p e below s₁ (mkF m 42 #[.val (.ref a), .val (.int (2 : Int32)), .val (.int (5 : Int32))] [(.int (-1 : Int32)), (.int c5)]) _
                    by_cases hc42_3 : c5 = (-1 : Int32)
                    · refine own_go (fun _ => XS.icmpYes X0.here hx rfl (pc0 := 42) (pc' := 47) rfl (hb hby d3_42) rfl (teq hc42_3).1 (by decide) (by decide)) ?_
                      show own_Ends p e below s₁ (mkF m 47 #[.val (.ref a), .val (.int (2 : Int32)), .val (.int (5 : Int32))] []) _
                      refine own_go (fun _ => XS.iinc X0.here hx rfl (hb hby d3_47) rfl (l' := #[.val (.ref a), .val (.int (2 : Int32)), .val (.int (6 : Int32))]) rfl) ?_
                      show own_Ends p e below s₁ (mkF m 50 #[.val (.ref a), .val (.int (2 : Int32)), .val (.int (6 : Int32))] []) _
                      refine own_go (fun _ => XS.goto X0.here hx rfl (pc0 := 50) (pc' := 32) rfl (hb hby d3_50) (by decide) (by decide)) ?_
                      show own_Ends p e below s₁ (mkF m 32 #[.val (.ref a), .val (.int (2 : Int32)), .val (.int (6 : Int32))] []) _
                      refine own_go (fun _ => XS.iloadN X0.here hx rfl (hb hby d3_32) rfl) ?_
                      show own_Ends p e below s₁ (mkF m 33 #[.val (.ref a), .val (.int (2 : Int32)), .val (.int (6 : Int32))] [(.int (6 : Int32))]) _
                      refine own_go (fun _ => XS.bipush X0.here hx rfl (hb hby d3_33)) ?_
                      show own_Ends p e below s₁ (mkF m 35 #[.val (.ref a), .val (.int (2 : Int32)), .val (.int (6 : Int32))] [(.int (8 : Int32)), (.int (6 : Int32))]) _
                      refine own_go (fun _ => XS.icmpNo X0.here hx rfl (hb hby d3_35) rfl (tlt (show (6 : Int32) < (8 : Int32) from by decide)).2.1) ?_
                      show own_Ends p e below s₁ (mkF m 38 #[.val (.ref a), .val (.int (2 : Int32)), .val (.int (6 : Int32))] []) _
                      refine own_go (fun _ => XS.aloadN X0.here hx rfl (hb hby d3_38) rfl rfl) ?_
                      show own_Ends p e below s₁ (mkF m 39 #[.val (.ref a), .val (.int (2 : Int32)), .val (.int (6 : Int32))] [(.ref a)]) _
                      refine own_go (fun _ => XS.iloadN X0.here hx rfl (hb hby d3_39) rfl) ?_
                      show own_Ends p e below s₁ (mkF m 40 #[.val (.ref a), .val (.int (2 : Int32)), .val (.int (6 : Int32))] [(.int (6 : Int32)), (.ref a)]) _
                      obtain ⟨cl_47, Ar_47, q_47, S_47, M_47, H_47, G_47⟩ := V_a_r46
                      have hin47 : ¬ ((6 : Int32) < 0 ∨ cl_47.slots.size ≤ ((6 : Int32)).toNatClampNeg) := inb_of S_47 ⟨by decide, by decide⟩
                      have hat47 : cl_47.slots[((6 : Int32)).toNatClampNeg]? = some (.int c6) := Has.at H_47 hin47 (rfl)
                      refine own_go (X0.baloadBytes hx (j := (6 : Int32)) (v := (.int c6)) (by rw [e0]; exact Ar_47.1) (State.isArrayOf_alike hZ.alike Ar_47.2.1) Ar_47.2.2 hin47 hat47 (g := (mkF m 40 #[.val (.ref a), .val (.int (2 : Int32)), .val (.int (6 : Int32))] [(.int (6 : Int32)), (.ref a)])) rfl rfl (hb hby d3_40)) ?_
                      have V_a_r47 : Arv Z h0 a kl .byte (8 : Int32) [(.int c0), (.int c1), (.int c2), (.int c3), (.int c4), (.int c5), (.int c6), (.int c7)] (.int (0 : Int32)) := ⟨cl_47, Ar_47, q_47, S_47, M_47, H_47, G_47⟩
                      show own_Ends p e below s₁ (mkF m 41 #[.val (.ref a), .val (.int (2 : Int32)), .val (.int (6 : Int32))] [(.int c6)]) _
                      refine own_go (fun _ => XS.iconst X0.here hx rfl (hb hby d3_41)) ?_
                      show own_Ends p e below s₁ (mkF m 42 #[.val (.ref a), .val (.int (2 : Int32)), .val (.int (6 : Int32))] [(.int (-1 : Int32)), (.int c6)]) _
                      by_cases hc42_4 : c6 = (-1 : Int32)
                      · refine own_go (fun _ => XS.icmpYes X0.here hx rfl (pc0 := 42) (pc' := 47) rfl (hb hby d3_42) rfl (teq hc42_4).1 (by decide) (by decide)) ?_
                        show own_Ends p e below s₁ (mkF m 47 #[.val (.ref a), .val (.int (2 : Int32)), .val (.int (6 : Int32))] []) _
                        refine own_go (fun _ => XS.iinc X0.here hx rfl (hb hby d3_47) rfl (l' := #[.val (.ref a), .val (.int (2 : Int32)), .val (.int (7 : Int32))]) rfl) ?_
                        show own_Ends p e below s₁ (mkF m 50 #[.val (.ref a), .val (.int (2 : Int32)), .val (.int (7 : Int32))] []) _
                        refine own_go (fun _ => XS.goto X0.here hx rfl (pc0 := 50) (pc' := 32) rfl (hb hby d3_50) (by decide) (by decide)) ?_
                        show own_Ends p e below s₁ (mkF m 32 #[.val (.ref a), .val (.int (2 : Int32)), .val (.int (7 : Int32))] []) _
                        refine own_go (fun _ => XS.iloadN X0.here hx rfl (hb hby d3_32) rfl) ?_
                        show own_Ends p e below s₁ (mkF m 33 #[.val (.ref a), .val (.int (2 : Int32)), .val (.int (7 : Int32))] [(.int (7 : Int32))]) _
                        refine own_go (fun _ => XS.bipush X0.here hx rfl (hb hby d3_33)) ?_
                        show own_Ends p e below s₁ (mkF m 35 #[.val (.ref a), .val (.int (2 : Int32)), .val (.int (7 : Int32))] [(.int (8 : Int32)), (.int (7 : Int32))]) _
                        refine own_go (fun _ => XS.icmpNo X0.here hx rfl (hb hby d3_35) rfl (tlt (show (7 : Int32) < (8 : Int32) from by decide)).2.1) ?_
                        show own_Ends p e below s₁ (mkF m 38 #[.val (.ref a), .val (.int (2 : Int32)), .val (.int (7 : Int32))] []) _
                        refine own_go (fun _ => XS.aloadN X0.here hx rfl (hb hby d3_38) rfl rfl) ?_
                        show own_Ends p e below s₁ (mkF m 39 #[.val (.ref a), .val (.int (2 : Int32)), .val (.int (7 : Int32))] [(.ref a)]) _
                        refine own_go (fun _ => XS.iloadN X0.here hx rfl (hb hby d3_39) rfl) ?_
                        show own_Ends p e below s₁ (mkF m 40 #[.val (.ref a), .val (.int (2 : Int32)), .val (.int (7 : Int32))] [(.int (7 : Int32)), (.ref a)]) _
                        obtain ⟨cl_48, Ar_48, q_48, S_48, M_48, H_48, G_48⟩ := V_a_r47
                        have hin48 : ¬ ((7 : Int32) < 0 ∨ cl_48.slots.size ≤ ((7 : Int32)).toNatClampNeg) := inb_of S_48 ⟨by decide, by decide⟩
                        have hat48 : cl_48.slots[((7 : Int32)).toNatClampNeg]? = some (.int c7) := Has.at H_48 hin48 (rfl)
                        refine own_go (X0.baloadBytes hx (j := (7 : Int32)) (v := (.int c7)) (by rw [e0]; exact Ar_48.1) (State.isArrayOf_alike hZ.alike Ar_48.2.1) Ar_48.2.2 hin48 hat48 (g := (mkF m 40 #[.val (.ref a), .val (.int (2 : Int32)), .val (.int (7 : Int32))] [(.int (7 : Int32)), (.ref a)])) rfl rfl (hb hby d3_40)) ?_
                        have V_a_r48 : Arv Z h0 a kl .byte (8 : Int32) [(.int c0), (.int c1), (.int c2), (.int c3), (.int c4), (.int c5), (.int c6), (.int c7)] (.int (0 : Int32)) := ⟨cl_48, Ar_48, q_48, S_48, M_48, H_48, G_48⟩
                        show own_Ends p e below s₁ (mkF m 41 #[.val (.ref a), .val (.int (2 : Int32)), .val (.int (7 : Int32))] [(.int c7)]) _
                        refine own_go (fun _ => XS.iconst X0.here hx rfl (hb hby d3_41)) ?_
                        show own_Ends p e below s₁ (mkF m 42 #[.val (.ref a), .val (.int (2 : Int32)), .val (.int (7 : Int32))] [(.int (-1 : Int32)), (.int c7)]) _
                        by_cases hc42_5 : c7 = (-1 : Int32)
                        · refine own_go (fun _ => XS.icmpYes X0.here hx rfl (pc0 := 42) (pc' := 47) rfl (hb hby d3_42) rfl (teq hc42_5).1 (by decide) (by decide)) ?_
                          show own_Ends p e below s₁ (mkF m 47 #[.val (.ref a), .val (.int (2 : Int32)), .val (.int (7 : Int32))] []) _
                          refine own_go (fun _ => XS.iinc X0.here hx rfl (hb hby d3_47) rfl (l' := #[.val (.ref a), .val (.int (2 : Int32)), .val (.int (8 : Int32))]) rfl) ?_
                          show own_Ends p e below s₁ (mkF m 50 #[.val (.ref a), .val (.int (2 : Int32)), .val (.int (8 : Int32))] []) _
                          refine own_go (fun _ => XS.goto X0.here hx rfl (pc0 := 50) (pc' := 32) rfl (hb hby d3_50) (by decide) (by decide)) ?_
                          show own_Ends p e below s₁ (mkF m 32 #[.val (.ref a), .val (.int (2 : Int32)), .val (.int (8 : Int32))] []) _
                          refine own_go (fun _ => XS.iloadN X0.here hx rfl (hb hby d3_32) rfl) ?_
                          show own_Ends p e below s₁ (mkF m 33 #[.val (.ref a), .val (.int (2 : Int32)), .val (.int (8 : Int32))] [(.int (8 : Int32))]) _
                          refine own_go (fun _ => XS.bipush X0.here hx rfl (hb hby d3_33)) ?_
                          show own_Ends p e below s₁ (mkF m 35 #[.val (.ref a), .val (.int (2 : Int32)), .val (.int (8 : Int32))] [(.int (8 : Int32)), (.int (8 : Int32))]) _
                          refine own_go (fun _ => XS.icmpYes X0.here hx rfl (pc0 := 35) (pc' := 53) rfl (hb hby d3_35) rfl (flt (show ¬ ((8 : Int32) < (8 : Int32)) from by decide)).2.1 (by decide) (by decide)) ?_
                          show own_Ends p e below s₁ (mkF m 53 #[.val (.ref a), .val (.int (2 : Int32)), .val (.int (8 : Int32))] []) _
                          refine own_go (fun _ => XS.iloadN X0.here hx rfl (hb hby d3_53) rfl) ?_
                          show own_Ends p e below s₁ (mkF m 54 #[.val (.ref a), .val (.int (2 : Int32)), .val (.int (8 : Int32))] [(.int (2 : Int32))]) _
                          refine own_go (fun _ => XS.iconst X0.here hx rfl (hb hby d3_54)) ?_
                          show own_Ends p e below s₁ (mkF m 55 #[.val (.ref a), .val (.int (2 : Int32)), .val (.int (8 : Int32))] [(.int (4 : Int32)), (.int (2 : Int32))]) _
                          refine own_go (fun _ => XS.icmpYes X0.here hx rfl (pc0 := 55) (pc' := 62) rfl (hb hby d3_55) rfl (tlt (show (2 : Int32) < (4 : Int32) from by decide)).1 (by decide) (by decide)) ?_
                          show own_Ends p e below s₁ (mkF m 62 #[.val (.ref a), .val (.int (2 : Int32)), .val (.int (8 : Int32))] []) _
                          refine own_go (fun _ => XS.iconst X0.here hx rfl (hb hby d3_62)) ?_
                          show own_Ends p e below s₁ (mkF m 63 #[.val (.ref a), .val (.int (2 : Int32)), .val (.int (8 : Int32))] [(.int (0 : Int32))]) _
                          obtain ⟨fs, hr, hrun, hended, hW, hsame⟩ := X0.leave (v := some (.int (0 : Int32))) (fun h => by rw [Bd.returns] at h; cases h)
                          refine ⟨_, _, retN X0 hx (t := .boolean) Bd.returns (by simp) (hb hby d3_63) hr, hrun, hended, _, _, rfl, ?_, ⟨_, rfl⟩, hW, hsame.mono (by decide) (by decide)⟩
                          show Q_rmPin Z a kl c0 c1 c2 c3 c4 c5 c6 c7 h0 n0 _ s₁.heap _
                          rw [e0]
                          exact ⟨_, rfl, by exact own_back ((own_sC hc13 hc21).trans ((own_sC hc13_1 hc21_1).trans ((own_sB hc13_2 hc21_2).trans ((own_tA hc42).trans ((own_tA hc42_1).trans ((own_tA hc42_2).trans ((own_tA hc42_3).trans ((own_tA hc42_4).trans ((own_tA hc42_5).trans (rfl)))))))))), N0, rfl⟩
                        · refine own_go (fun _ => XS.icmpNo X0.here hx rfl (hb hby d3_42) rfl (feq hc42_5).1) ?_
                          show own_Ends p e below s₁ (mkF m 45 #[.val (.ref a), .val (.int (2 : Int32)), .val (.int (7 : Int32))] []) _
                          refine own_go (fun _ => XS.iconst X0.here hx rfl (hb hby d3_45)) ?_
                          show own_Ends p e below s₁ (mkF m 46 #[.val (.ref a), .val (.int (2 : Int32)), .val (.int (7 : Int32))] [(.int (0 : Int32))]) _
                          obtain ⟨fs, hr, hrun, hended, hW, hsame⟩ := X0.leave (v := some (.int (0 : Int32))) (fun h => by rw [Bd.returns] at h; cases h)
                          refine ⟨_, _, retN X0 hx (t := .boolean) Bd.returns (by simp) (hb hby d3_46) hr, hrun, hended, _, _, rfl, ?_, ⟨_, rfl⟩, hW, hsame.mono (by decide) (by decide)⟩
                          show Q_rmPin Z a kl c0 c1 c2 c3 c4 c5 c6 c7 h0 n0 _ s₁.heap _
                          rw [e0]
                          exact ⟨_, rfl, by exact own_back ((own_sC hc13 hc21).trans ((own_sC hc13_1 hc21_1).trans ((own_sB hc13_2 hc21_2).trans ((own_tA hc42).trans ((own_tA hc42_1).trans ((own_tA hc42_2).trans ((own_tA hc42_3).trans ((own_tA hc42_4).trans (own_tB hc42_5))))))))), N0, rfl⟩
                      · refine own_go (fun _ => XS.icmpNo X0.here hx rfl (hb hby d3_42) rfl (feq hc42_4).1) ?_
                        show own_Ends p e below s₁ (mkF m 45 #[.val (.ref a), .val (.int (2 : Int32)), .val (.int (6 : Int32))] []) _
                        refine own_go (fun _ => XS.iconst X0.here hx rfl (hb hby d3_45)) ?_
                        show own_Ends p e below s₁ (mkF m 46 #[.val (.ref a), .val (.int (2 : Int32)), .val (.int (6 : Int32))] [(.int (0 : Int32))]) _
                        obtain ⟨fs, hr, hrun, hended, hW, hsame⟩ := X0.leave (v := some (.int (0 : Int32))) (fun h => by rw [Bd.returns] at h; cases h)
                        refine ⟨_, _, retN X0 hx (t := .boolean) Bd.returns (by simp) (hb hby d3_46) hr, hrun, hended, _, _, rfl, ?_, ⟨_, rfl⟩, hW, hsame.mono (by decide) (by decide)⟩
                        show Q_rmPin Z a kl c0 c1 c2 c3 c4 c5 c6 c7 h0 n0 _ s₁.heap _
                        rw [e0]
                        exact ⟨_, rfl, by exact own_back ((own_sC hc13 hc21).trans ((own_sC hc13_1 hc21_1).trans ((own_sB hc13_2 hc21_2).trans ((own_tA hc42).trans ((own_tA hc42_1).trans ((own_tA hc42_2).trans ((own_tA hc42_3).trans (own_tB hc42_4)))))))), N0, rfl⟩
                    · refine own_go (fun _ => XS.icmpNo X0.here hx rfl (hb hby d3_42) rfl (feq hc42_3).1) ?_
                      show own_Ends p e below s₁ (mkF m 45 #[.val (.ref a), .val (.int (2 : Int32)), .val (.int (5 : Int32))] []) _
                      refine own_go (fun _ => XS.iconst X0.here hx rfl (hb hby d3_45)) ?_
                      show own_Ends p e below s₁ (mkF m 46 #[.val (.ref a), .val (.int (2 : Int32)), .val (.int (5 : Int32))] [(.int (0 : Int32))]) _
                      obtain ⟨fs, hr, hrun, hended, hW, hsame⟩ := X0.leave (v := some (.int (0 : Int32))) (fun h => by rw [Bd.returns] at h; cases h)
                      refine ⟨_, _, retN X0 hx (t := .boolean) Bd.returns (by simp) (hb hby d3_46) hr, hrun, hended, _, _, rfl, ?_, ⟨_, rfl⟩, hW, hsame.mono (by decide) (by decide)⟩
                      show Q_rmPin Z a kl c0 c1 c2 c3 c4 c5 c6 c7 h0 n0 _ s₁.heap _
                      rw [e0]
                      exact ⟨_, rfl, by exact own_back ((own_sC hc13 hc21).trans ((own_sC hc13_1 hc21_1).trans ((own_sB hc13_2 hc21_2).trans ((own_tA hc42).trans ((own_tA hc42_1).trans ((own_tA hc42_2).trans (own_tB hc42_3))))))), N0, rfl⟩
                  · refine own_go (fun _ => XS.icmpNo X0.here hx rfl (hb hby d3_42) rfl (feq hc42_2).1) ?_
                    show own_Ends p e below s₁ (mkF m 45 #[.val (.ref a), .val (.int (2 : Int32)), .val (.int (4 : Int32))] []) _
                    refine own_go (fun _ => XS.iconst X0.here hx rfl (hb hby d3_45)) ?_
                    show own_Ends p e below s₁ (mkF m 46 #[.val (.ref a), .val (.int (2 : Int32)), .val (.int (4 : Int32))] [(.int (0 : Int32))]) _
                    obtain ⟨fs, hr, hrun, hended, hW, hsame⟩ := X0.leave (v := some (.int (0 : Int32))) (fun h => by rw [Bd.returns] at h; cases h)
                    refine ⟨_, _, retN X0 hx (t := .boolean) Bd.returns (by simp) (hb hby d3_46) hr, hrun, hended, _, _, rfl, ?_, ⟨_, rfl⟩, hW, hsame.mono (by decide) (by decide)⟩
                    show Q_rmPin Z a kl c0 c1 c2 c3 c4 c5 c6 c7 h0 n0 _ s₁.heap _
                    rw [e0]
                    exact ⟨_, rfl, by exact own_back ((own_sC hc13 hc21).trans ((own_sC hc13_1 hc21_1).trans ((own_sB hc13_2 hc21_2).trans ((own_tA hc42).trans ((own_tA hc42_1).trans (own_tB hc42_2)))))), N0, rfl⟩
                · refine own_go (fun _ => XS.icmpNo X0.here hx rfl (hb hby d3_42) rfl (feq hc42_1).1) ?_
                  show own_Ends p e below s₁ (mkF m 45 #[.val (.ref a), .val (.int (2 : Int32)), .val (.int (3 : Int32))] []) _
                  refine own_go (fun _ => XS.iconst X0.here hx rfl (hb hby d3_45)) ?_
                  show own_Ends p e below s₁ (mkF m 46 #[.val (.ref a), .val (.int (2 : Int32)), .val (.int (3 : Int32))] [(.int (0 : Int32))]) _
                  obtain ⟨fs, hr, hrun, hended, hW, hsame⟩ := X0.leave (v := some (.int (0 : Int32))) (fun h => by rw [Bd.returns] at h; cases h)
                  refine ⟨_, _, retN X0 hx (t := .boolean) Bd.returns (by simp) (hb hby d3_46) hr, hrun, hended, _, _, rfl, ?_, ⟨_, rfl⟩, hW, hsame.mono (by decide) (by decide)⟩
                  show Q_rmPin Z a kl c0 c1 c2 c3 c4 c5 c6 c7 h0 n0 _ s₁.heap _
                  rw [e0]
                  exact ⟨_, rfl, by exact own_back ((own_sC hc13 hc21).trans ((own_sC hc13_1 hc21_1).trans ((own_sB hc13_2 hc21_2).trans ((own_tA hc42).trans (own_tB hc42_1))))), N0, rfl⟩
              · refine own_go (fun _ => XS.icmpNo X0.here hx rfl (hb hby d3_42) rfl (feq hc42).1) ?_
                show own_Ends p e below s₁ (mkF m 45 #[.val (.ref a), .val (.int (2 : Int32)), .val (.int (2 : Int32))] []) _
                refine own_go (fun _ => XS.iconst X0.here hx rfl (hb hby d3_45)) ?_
                show own_Ends p e below s₁ (mkF m 46 #[.val (.ref a), .val (.int (2 : Int32)), .val (.int (2 : Int32))] [(.int (0 : Int32))]) _
                obtain ⟨fs, hr, hrun, hended, hW, hsame⟩ := X0.leave (v := some (.int (0 : Int32))) (fun h => by rw [Bd.returns] at h; cases h)
                refine ⟨_, _, retN X0 hx (t := .boolean) Bd.returns (by simp) (hb hby d3_46) hr, hrun, hended, _, _, rfl, ?_, ⟨_, rfl⟩, hW, hsame.mono (by decide) (by decide)⟩
                show Q_rmPin Z a kl c0 c1 c2 c3 c4 c5 c6 c7 h0 n0 _ s₁.heap _
                rw [e0]
                exact ⟨_, rfl, by exact own_back ((own_sC hc13 hc21).trans ((own_sC hc13_1 hc21_1).trans ((own_sB hc13_2 hc21_2).trans (own_tB hc42)))), N0, rfl⟩
            · refine own_go (fun _ => XS.icmpNo X0.here hx rfl (hb hby d3_21) rfl (flt hc21_2).2.2.1) ?_
              show own_Ends p e below s₁ (mkF m 24 #[.val (.ref a), .val (.int (2 : Int32)), .unset] []) _
              refine own_go (fun _ => XS.iinc X0.here hx rfl (hb hby d3_24) rfl (l' := #[.val (.ref a), .val (.int (3 : Int32)), .unset]) rfl) ?_
              show own_Ends p e below s₁ (mkF m 27 #[.val (.ref a), .val (.int (3 : Int32)), .unset] []) _
              refine own_go (fun _ => XS.goto X0.here hx rfl (pc0 := 27) (pc' := 2) rfl (hb hby d3_27) (by decide) (by decide)) ?_
              show own_Ends p e below s₁ (mkF m 2 #[.val (.ref a), .val (.int (3 : Int32)), .unset] []) _
              refine own_go (fun _ => XS.iloadN X0.here hx rfl (hb hby d3_2) rfl) ?_
              show own_Ends p e below s₁ (mkF m 3 #[.val (.ref a), .val (.int (3 : Int32)), .unset] [(.int (3 : Int32))]) _
              refine own_go (fun _ => XS.bipush X0.here hx rfl (hb hby d3_3)) ?_
              show own_Ends p e below s₁ (mkF m 5 #[.val (.ref a), .val (.int (3 : Int32)), .unset] [(.int (8 : Int32)), (.int (3 : Int32))]) _
              refine own_go (fun _ => XS.icmpNo X0.here hx rfl (hb hby d3_5) rfl (tlt (show (3 : Int32) < (8 : Int32) from by decide)).2.1) ?_
              show own_Ends p e below s₁ (mkF m 8 #[.val (.ref a), .val (.int (3 : Int32)), .unset] []) _
              refine own_go (fun _ => XS.aloadN X0.here hx rfl (hb hby d3_8) rfl rfl) ?_
              show own_Ends p e below s₁ (mkF m 9 #[.val (.ref a), .val (.int (3 : Int32)), .unset] [(.ref a)]) _
              refine own_go (fun _ => XS.iloadN X0.here hx rfl (hb hby d3_9) rfl) ?_
              show own_Ends p e below s₁ (mkF m 10 #[.val (.ref a), .val (.int (3 : Int32)), .unset] [(.int (3 : Int32)), (.ref a)]) _
              obtain ⟨cl_49, Ar_49, q_49, S_49, M_49, H_49, G_49⟩ := V_a_r42
              have hin49 : ¬ ((3 : Int32) < 0 ∨ cl_49.slots.size ≤ ((3 : Int32)).toNatClampNeg) := inb_of S_49 ⟨by decide, by decide⟩
              have hat49 : cl_49.slots[((3 : Int32)).toNatClampNeg]? = some (.int c3) := Has.at H_49 hin49 (rfl)
              refine own_go (X0.baloadBytes hx (j := (3 : Int32)) (v := (.int c3)) (by rw [e0]; exact Ar_49.1) (State.isArrayOf_alike hZ.alike Ar_49.2.1) Ar_49.2.2 hin49 hat49 (g := (mkF m 10 #[.val (.ref a), .val (.int (3 : Int32)), .unset] [(.int (3 : Int32)), (.ref a)])) rfl rfl (hb hby d3_10)) ?_
              have V_a_r49 : Arv Z h0 a kl .byte (8 : Int32) [(.int c0), (.int c1), (.int c2), (.int c3), (.int c4), (.int c5), (.int c6), (.int c7)] (.int (0 : Int32)) := ⟨cl_49, Ar_49, q_49, S_49, M_49, H_49, G_49⟩
              show own_Ends p e below s₁ (mkF m 11 #[.val (.ref a), .val (.int (3 : Int32)), .unset] [(.int c3)]) _
              refine own_go (fun _ => XS.bipush X0.here hx rfl (hb hby d3_11)) ?_
              show own_Ends p e below s₁ (mkF m 13 #[.val (.ref a), .val (.int (3 : Int32)), .unset] [(.int (48 : Int32)), (.int c3)]) _
              by_cases hc13_3 : c3 < (48 : Int32)
              · refine own_go (fun _ => XS.icmpYes X0.here hx rfl (pc0 := 13) (pc' := 30) rfl (hb hby d3_13) rfl (tlt hc13_3).1 (by decide) (by decide)) ?_
                show own_Ends p e below s₁ (mkF m 30 #[.val (.ref a), .val (.int (3 : Int32)), .unset] []) _
                refine own_go (fun _ => XS.iloadN X0.here hx rfl (hb hby d3_30) rfl) ?_
                show own_Ends p e below s₁ (mkF m 31 #[.val (.ref a), .val (.int (3 : Int32)), .unset] [(.int (3 : Int32))]) _
                refine own_go (fun _ => XS.istoreN X0.here hx rfl (hb hby d3_31) rfl (l' := #[.val (.ref a), .val (.int (3 : Int32)), .val (.int (3 : Int32))]) rfl) ?_
                show own_Ends p e below s₁ (mkF m 32 #[.val (.ref a), .val (.int (3 : Int32)), .val (.int (3 : Int32))] []) _
                refine own_go (fun _ => XS.iloadN X0.here hx rfl (hb hby d3_32) rfl) ?_
                show own_Ends p e below s₁ (mkF m 33 #[.val (.ref a), .val (.int (3 : Int32)), .val (.int (3 : Int32))] [(.int (3 : Int32))]) _
                refine own_go (fun _ => XS.bipush X0.here hx rfl (hb hby d3_33)) ?_
                show own_Ends p e below s₁ (mkF m 35 #[.val (.ref a), .val (.int (3 : Int32)), .val (.int (3 : Int32))] [(.int (8 : Int32)), (.int (3 : Int32))]) _
                refine own_go (fun _ => XS.icmpNo X0.here hx rfl (hb hby d3_35) rfl (tlt (show (3 : Int32) < (8 : Int32) from by decide)).2.1) ?_
                show own_Ends p e below s₁ (mkF m 38 #[.val (.ref a), .val (.int (3 : Int32)), .val (.int (3 : Int32))] []) _
                refine own_go (fun _ => XS.aloadN X0.here hx rfl (hb hby d3_38) rfl rfl) ?_
                show own_Ends p e below s₁ (mkF m 39 #[.val (.ref a), .val (.int (3 : Int32)), .val (.int (3 : Int32))] [(.ref a)]) _
                refine own_go (fun _ => XS.iloadN X0.here hx rfl (hb hby d3_39) rfl) ?_
                show own_Ends p e below s₁ (mkF m 40 #[.val (.ref a), .val (.int (3 : Int32)), .val (.int (3 : Int32))] [(.int (3 : Int32)), (.ref a)]) _
                obtain ⟨cl_50, Ar_50, q_50, S_50, M_50, H_50, G_50⟩ := V_a_r49
                have hin50 : ¬ ((3 : Int32) < 0 ∨ cl_50.slots.size ≤ ((3 : Int32)).toNatClampNeg) := inb_of S_50 ⟨by decide, by decide⟩
                have hat50 : cl_50.slots[((3 : Int32)).toNatClampNeg]? = some (.int c3) := Has.at H_50 hin50 (rfl)
                refine own_go (X0.baloadBytes hx (j := (3 : Int32)) (v := (.int c3)) (by rw [e0]; exact Ar_50.1) (State.isArrayOf_alike hZ.alike Ar_50.2.1) Ar_50.2.2 hin50 hat50 (g := (mkF m 40 #[.val (.ref a), .val (.int (3 : Int32)), .val (.int (3 : Int32))] [(.int (3 : Int32)), (.ref a)])) rfl rfl (hb hby d3_40)) ?_
                have V_a_r50 : Arv Z h0 a kl .byte (8 : Int32) [(.int c0), (.int c1), (.int c2), (.int c3), (.int c4), (.int c5), (.int c6), (.int c7)] (.int (0 : Int32)) := ⟨cl_50, Ar_50, q_50, S_50, M_50, H_50, G_50⟩
                show own_Ends p e below s₁ (mkF m 41 #[.val (.ref a), .val (.int (3 : Int32)), .val (.int (3 : Int32))] [(.int c3)]) _
                refine own_go (fun _ => XS.iconst X0.here hx rfl (hb hby d3_41)) ?_
                show own_Ends p e below s₁ (mkF m 42 #[.val (.ref a), .val (.int (3 : Int32)), .val (.int (3 : Int32))] [(.int (-1 : Int32)), (.int c3)]) _
                by_cases hc42 : c3 = (-1 : Int32)
                · refine own_go (fun _ => XS.icmpYes X0.here hx rfl (pc0 := 42) (pc' := 47) rfl (hb hby d3_42) rfl (teq hc42).1 (by decide) (by decide)) ?_
                  show own_Ends p e below s₁ (mkF m 47 #[.val (.ref a), .val (.int (3 : Int32)), .val (.int (3 : Int32))] []) _
                  refine own_go (fun _ => XS.iinc X0.here hx rfl (hb hby d3_47) rfl (l' := #[.val (.ref a), .val (.int (3 : Int32)), .val (.int (4 : Int32))]) rfl) ?_
                  show own_Ends p e below s₁ (mkF m 50 #[.val (.ref a), .val (.int (3 : Int32)), .val (.int (4 : Int32))] []) _
                  refine own_go (fun _ => XS.goto X0.here hx rfl (pc0 := 50) (pc' := 32) rfl (hb hby d3_50) (by decide) (by decide)) ?_
                  show own_Ends p e below s₁ (mkF m 32 #[.val (.ref a), .val (.int (3 : Int32)), .val (.int (4 : Int32))] []) _
                  refine own_go (fun _ => XS.iloadN X0.here hx rfl (hb hby d3_32) rfl) ?_
                  show own_Ends p e below s₁ (mkF m 33 #[.val (.ref a), .val (.int (3 : Int32)), .val (.int (4 : Int32))] [(.int (4 : Int32))]) _
                  refine own_go (fun _ => XS.bipush X0.here hx rfl (hb hby d3_33)) ?_
                  show own_Ends p e below s₁ (mkF m 35 #[.val (.ref a), .val (.int (3 : Int32)), .val (.int (4 : Int32))] [(.int (8 : Int32)), (.int (4 : Int32))]) _
                  refine own_go (fun _ => XS.icmpNo X0.here hx rfl (hb hby d3_35) rfl (tlt (show (4 : Int32) < (8 : Int32) from by decide)).2.1) ?_
                  show own_Ends p e below s₁ (mkF m 38 #[.val (.ref a), .val (.int (3 : Int32)), .val (.int (4 : Int32))] []) _
                  refine own_go (fun _ => XS.aloadN X0.here hx rfl (hb hby d3_38) rfl rfl) ?_
                  show own_Ends p e below s₁ (mkF m 39 #[.val (.ref a), .val (.int (3 : Int32)), .val (.int (4 : Int32))] [(.ref a)]) _
                  refine own_go (fun _ => XS.iloadN X0.here hx rfl (hb hby d3_39) rfl) ?_
                  show own_Ends p e below s₁ (mkF m 40 #[.val (.ref a), .val (.int (3 : Int32)), .val (.int (4 : Int32))] [(.int (4 : Int32)), (.ref a)]) _
                  obtain ⟨cl_51, Ar_51, q_51, S_51, M_51, H_51, G_51⟩ := V_a_r50
                  have hin51 : ¬ ((4 : Int32) < 0 ∨ cl_51.slots.size ≤ ((4 : Int32)).toNatClampNeg) := inb_of S_51 ⟨by decide, by decide⟩
                  have hat51 : cl_51.slots[((4 : Int32)).toNatClampNeg]? = some (.int c4) := Has.at H_51 hin51 (rfl)
                  refine own_go (X0.baloadBytes hx (j := (4 : Int32)) (v := (.int c4)) (by rw [e0]; exact Ar_51.1) (State.isArrayOf_alike hZ.alike Ar_51.2.1) Ar_51.2.2 hin51 hat51 (g := (mkF m 40 #[.val (.ref a), .val (.int (3 : Int32)), .val (.int (4 : Int32))] [(.int (4 : Int32)), (.ref a)])) rfl rfl (hb hby d3_40)) ?_
                  have V_a_r51 : Arv Z h0 a kl .byte (8 : Int32) [(.int c0), (.int c1), (.int c2), (.int c3), (.int c4), (.int c5), (.int c6), (.int c7)] (.int (0 : Int32)) := ⟨cl_51, Ar_51, q_51, S_51, M_51, H_51, G_51⟩
                  show own_Ends p e below s₁ (mkF m 41 #[.val (.ref a), .val (.int (3 : Int32)), .val (.int (4 : Int32))] [(.int c4)]) _
                  refine own_go (fun _ => XS.iconst X0.here hx rfl (hb hby d3_41)) ?_
                  show own_Ends p e below s₁ (mkF m 42 #[.val (.ref a), .val (.int (3 : Int32)), .val (.int (4 : Int32))] [(.int (-1 : Int32)), (.int c4)]) _
                  by_cases hc42_1 : c4 = (-1 : Int32)
                  · refine own_go (fun _ => XS.icmpYes X0.here hx rfl (pc0 := 42) (pc' := 47) rfl (hb hby d3_42) rfl (teq hc42_1).1 (by decide) (by decide)) ?_
                    show own_Ends p e below s₁ (mkF m 47 #[.val (.ref a), .val (.int (3 : Int32)), .val (.int (4 : Int32))] []) _
                    refine own_go (fun _ => XS.iinc X0.here hx rfl (hb hby d3_47) rfl (l' := #[.val (.ref a), .val (.int (3 : Int32)), .val (.int (5 : Int32))]) rfl) ?_
                    show own_Ends p e below s₁ (mkF m 50 #[.val (.ref a), .val (.int (3 : Int32)), .val (.int (5 : Int32))] []) _
                    refine own_go (fun _ => XS.goto X0.here hx rfl (pc0 := 50) (pc' := 32) rfl (hb hby d3_50) (by decide) (by decide)) ?_
                    show own_Ends p e below s₁ (mkF m 32 #[.val (.ref a), .val (.int (3 : Int32)), .val (.int (5 : Int32))] []) _
                    refine own_go (fun _ => XS.iloadN X0.here hx rfl (hb hby d3_32) rfl) ?_
                    show own_Ends p e below s₁ (mkF m 33 #[.val (.ref a), .val (.int (3 : Int32)), .val (.int (5 : Int32))] [(.int (5 : Int32))]) _
                    refine own_go (fun _ => XS.bipush X0.here hx rfl (hb hby d3_33)) ?_
                    show own_Ends p e below s₁ (mkF m 35 #[.val (.ref a), .val (.int (3 : Int32)), .val (.int (5 : Int32))] [(.int (8 : Int32)), (.int (5 : Int32))]) _
                    refine own_go (fun _ => XS.icmpNo X0.here hx rfl (hb hby d3_35) rfl (tlt (show (5 : Int32) < (8 : Int32) from by decide)).2.1) ?_
                    show own_Ends p e below s₁ (mkF m 38 #[.val (.ref a), .val (.int (3 : Int32)), .val (.int (5 : Int32))] []) _
                    refine own_go (fun _ => XS.aloadN X0.here hx rfl (hb hby d3_38) rfl rfl) ?_
                    show own_Ends p e below s₁ (mkF m 39 #[.val (.ref a), .val (.int (3 : Int32)), .val (.int (5 : Int32))] [(.ref a)]) _
                    refine own_go (fun _ => XS.iloadN X0.here hx rfl (hb hby d3_39) rfl) ?_
                    show own_Ends p e below s₁ (mkF m 40 #[.val (.ref a), .val (.int (3 : Int32)), .val (.int (5 : Int32))] [(.int (5 : Int32)), (.ref a)]) _
                    obtain ⟨cl_52, Ar_52, q_52, S_52, M_52, H_52, G_52⟩ := V_a_r51
                    have hin52 : ¬ ((5 : Int32) < 0 ∨ cl_52.slots.size ≤ ((5 : Int32)).toNatClampNeg) := inb_of S_52 ⟨by decide, by decide⟩
                    have hat52 : cl_52.slots[((5 : Int32)).toNatClampNeg]? = some (.int c5) := Has.at H_52 hin52 (rfl)
                    refine own_go (X0.baloadBytes hx (j := (5 : Int32)) (v := (.int c5)) (by rw [e0]; exact Ar_52.1) (State.isArrayOf_alike hZ.alike Ar_52.2.1) Ar_52.2.2 hin52 hat52 (g := (mkF m 40 #[.val (.ref a), .val (.int (3 : Int32)), .val (.int (5 : Int32))] [(.int (5 : Int32)), (.ref a)])) rfl rfl (hb hby d3_40)) ?_
                    have V_a_r52 : Arv Z h0 a kl .byte (8 : Int32) [(.int c0), (.int c1), (.int c2), (.int c3), (.int c4), (.int c5), (.int c6), (.int c7)] (.int (0 : Int32)) := ⟨cl_52, Ar_52, q_52, S_52, M_52, H_52, G_52⟩
                    show own_Ends p e below s₁ (mkF m 41 #[.val (.ref a), .val (.int (3 : Int32)), .val (.int (5 : Int32))] [(.int c5)]) _
                    refine own_go (fun _ => XS.iconst X0.here hx rfl (hb hby d3_41)) ?_
                    show own_Ends p e below s₁ (mkF m 42 #[.val (.ref a), .val (.int (3 : Int32)), .val (.int (5 : Int32))] [(.int (-1 : Int32)), (.int c5)]) _
                    by_cases hc42_2 : c5 = (-1 : Int32)
                    · refine own_go (fun _ => XS.icmpYes X0.here hx rfl (pc0 := 42) (pc' := 47) rfl (hb hby d3_42) rfl (teq hc42_2).1 (by decide) (by decide)) ?_
                      show own_Ends p e below s₁ (mkF m 47 #[.val (.ref a), .val (.int (3 : Int32)), .val (.int (5 : Int32))] []) _
                      refine own_go (fun _ => XS.iinc X0.here hx rfl (hb hby d3_47) rfl (l' := #[.val (.ref a), .val (.int (3 : Int32)), .val (.int (6 : Int32))]) rfl) ?_
                      show own_Ends p e below s₁ (mkF m 50 #[.val (.ref a), .val (.int (3 : Int32)), .val (.int (6 : Int32))] []) _
                      refine own_go (fun _ => XS.goto X0.here hx rfl (pc0 := 50) (pc' := 32) rfl (hb hby d3_50) (by decide) (by decide)) ?_
                      show own_Ends p e below s₁ (mkF m 32 #[.val (.ref a), .val (.int (3 : Int32)), .val (.int (6 : Int32))] []) _
                      refine own_go (fun _ => XS.iloadN X0.here hx rfl (hb hby d3_32) rfl) ?_
                      show own_Ends p e below s₁ (mkF m 33 #[.val (.ref a), .val (.int (3 : Int32)), .val (.int (6 : Int32))] [(.int (6 : Int32))]) _
                      refine own_go (fun _ => XS.bipush X0.here hx rfl (hb hby d3_33)) ?_
                      show own_Ends p e below s₁ (mkF m 35 #[.val (.ref a), .val (.int (3 : Int32)), .val (.int (6 : Int32))] [(.int (8 : Int32)), (.int (6 : Int32))]) _
                      refine own_go (fun _ => XS.icmpNo X0.here hx rfl (hb hby d3_35) rfl (tlt (show (6 : Int32) < (8 : Int32) from by decide)).2.1) ?_
                      show own_Ends p e below s₁ (mkF m 38 #[.val (.ref a), .val (.int (3 : Int32)), .val (.int (6 : Int32))] []) _
                      refine own_go (fun _ => XS.aloadN X0.here hx rfl (hb hby d3_38) rfl rfl) ?_
                      show own_Ends p e below s₁ (mkF m 39 #[.val (.ref a), .val (.int (3 : Int32)), .val (.int (6 : Int32))] [(.ref a)]) _
                      refine own_go (fun _ => XS.iloadN X0.here hx rfl (hb hby d3_39) rfl) ?_
                      show own_Ends p e below s₁ (mkF m 40 #[.val (.ref a), .val (.int (3 : Int32)), .val (.int (6 : Int32))] [(.int (6 : Int32)), (.ref a)]) _
                      obtain ⟨cl_53, Ar_53, q_53, S_53, M_53, H_53, G_53⟩ := V_a_r52
                      have hin53 : ¬ ((6 : Int32) < 0 ∨ cl_53.slots.size ≤ ((6 : Int32)).toNatClampNeg) := inb_of S_53 ⟨by decide, by decide⟩
                      have hat53 : cl_53.slots[((6 : Int32)).toNatClampNeg]? = some (.int c6) := Has.at H_53 hin53 (rfl)
                      refine own_go (X0.baloadBytes hx (j := (6 : Int32)) (v := (.int c6)) (by rw [e0]; exact Ar_53.1) (State.isArrayOf_alike hZ.alike Ar_53.2.1) Ar_53.2.2 hin53 hat53 (g := (mkF m 40 #[.val (.ref a), .val (.int (3 : Int32)), .val (.int (6 : Int32))] [(.int (6 : Int32)), (.ref a)])) rfl rfl (hb hby d3_40)) ?_
                      have V_a_r53 : Arv Z h0 a kl .byte (8 : Int32) [(.int c0), (.int c1), (.int c2), (.int c3), (.int c4), (.int c5), (.int c6), (.int c7)] (.int (0 : Int32)) := ⟨cl_53, Ar_53, q_53, S_53, M_53, H_53, G_53⟩
                      show own_Ends p e below s₁ (mkF m 41 #[.val (.ref a), .val (.int (3 : Int32)), .val (.int (6 : Int32))] [(.int c6)]) _
                      refine own_go (fun _ => XS.iconst X0.here hx rfl (hb hby d3_41)) ?_
                      show own_Ends p e below s₁ (mkF m 42 #[.val (.ref a), .val (.int (3 : Int32)), .val (.int (6 : Int32))] [(.int (-1 : Int32)), (.int c6)]) _
                      by_cases hc42_3 : c6 = (-1 : Int32)
                      · refine own_go (fun _ => XS.icmpYes X0.here hx rfl (pc0 := 42) (pc' := 47) rfl (hb hby d3_42) rfl (teq hc42_3).1 (by decide) (by decide)) ?_
                        show own_Ends p e below s₁ (mkF m 47 #[.val (.ref a), .val (.int (3 : Int32)), .val (.int (6 : Int32))] []) _
                        refine own_go (fun _ => XS.iinc X0.here hx rfl (hb hby d3_47) rfl (l' := #[.val (.ref a), .val (.int (3 : Int32)), .val (.int (7 : Int32))]) rfl) ?_
                        show own_Ends p e below s₁ (mkF m 50 #[.val (.ref a), .val (.int (3 : Int32)), .val (.int (7 : Int32))] []) _
                        refine own_go (fun _ => XS.goto X0.here hx rfl (pc0 := 50) (pc' := 32) rfl (hb hby d3_50) (by decide) (by decide)) ?_
                        show own_Ends p e below s₁ (mkF m 32 #[.val (.ref a), .val (.int (3 : Int32)), .val (.int (7 : Int32))] []) _
                        refine own_go (fun _ => XS.iloadN X0.here hx rfl (hb hby d3_32) rfl) ?_
                        show own_Ends p e below s₁ (mkF m 33 #[.val (.ref a), .val (.int (3 : Int32)), .val (.int (7 : Int32))] [(.int (7 : Int32))]) _
                        refine own_go (fun _ => XS.bipush X0.here hx rfl (hb hby d3_33)) ?_
                        show own_Ends p e below s₁ (mkF m 35 #[.val (.ref a), .val (.int (3 : Int32)), .val (.int (7 : Int32))] [(.int (8 : Int32)), (.int (7 : Int32))]) _
                        refine own_go (fun _ => XS.icmpNo X0.here hx rfl (hb hby d3_35) rfl (tlt (show (7 : Int32) < (8 : Int32) from by decide)).2.1) ?_
                        show own_Ends p e below s₁ (mkF m 38 #[.val (.ref a), .val (.int (3 : Int32)), .val (.int (7 : Int32))] []) _
                        refine own_go (fun _ => XS.aloadN X0.here hx rfl (hb hby d3_38) rfl rfl) ?_
                        show own_Ends p e below s₁ (mkF m 39 #[.val (.ref a), .val (.int (3 : Int32)), .val (.int (7 : Int32))] [(.ref a)]) _
                        refine own_go (fun _ => XS.iloadN X0.here hx rfl (hb hby d3_39) rfl) ?_
                        show own_Ends p e below s₁ (mkF m 40 #[.val (.ref a), .val (.int (3 : Int32)), .val (.int (7 : Int32))] [(.int (7 : Int32)), (.ref a)]) _
                        obtain ⟨cl_54, Ar_54, q_54, S_54, M_54, H_54, G_54⟩ := V_a_r53
                        have hin54 : ¬ ((7 : Int32) < 0 ∨ cl_54.slots.size ≤ ((7 : Int32)).toNatClampNeg) := inb_of S_54 ⟨by decide, by decide⟩
                        have hat54 : cl_54.slots[((7 : Int32)).toNatClampNeg]? = some (.int c7) := Has.at H_54 hin54 (rfl)
                        refine own_go (X0.baloadBytes hx (j := (7 : Int32)) (v := (.int c7)) (by rw [e0]; exact Ar_54.1) (State.isArrayOf_alike hZ.alike Ar_54.2.1) Ar_54.2.2 hin54 hat54 (g := (mkF m 40 #[.val (.ref a), .val (.int (3 : Int32)), .val (.int (7 : Int32))] [(.int (7 : Int32)), (.ref a)])) rfl rfl (hb hby d3_40)) ?_
                        have V_a_r54 : Arv Z h0 a kl .byte (8 : Int32) [(.int c0), (.int c1), (.int c2), (.int c3), (.int c4), (.int c5), (.int c6), (.int c7)] (.int (0 : Int32)) := ⟨cl_54, Ar_54, q_54, S_54, M_54, H_54, G_54⟩
                        show own_Ends p e below s₁ (mkF m 41 #[.val (.ref a), .val (.int (3 : Int32)), .val (.int (7 : Int32))] [(.int c7)]) _
                        refine own_go (fun _ => XS.iconst X0.here hx rfl (hb hby d3_41)) ?_
                        show own_Ends p e below s₁ (mkF m 42 #[.val (.ref a), .val (.int (3 : Int32)), .val (.int (7 : Int32))] [(.int (-1 : Int32)), (.int c7)]) _
                        by_cases hc42_4 : c7 = (-1 : Int32)
                        · refine own_go (fun _ => XS.icmpYes X0.here hx rfl (pc0 := 42) (pc' := 47) rfl (hb hby d3_42) rfl (teq hc42_4).1 (by decide) (by decide)) ?_
                          show own_Ends p e below s₁ (mkF m 47 #[.val (.ref a), .val (.int (3 : Int32)), .val (.int (7 : Int32))] []) _
                          refine own_go (fun _ => XS.iinc X0.here hx rfl (hb hby d3_47) rfl (l' := #[.val (.ref a), .val (.int (3 : Int32)), .val (.int (8 : Int32))]) rfl) ?_
                          show own_Ends p e below s₁ (mkF m 50 #[.val (.ref a), .val (.int (3 : Int32)), .val (.int (8 : Int32))] []) _
                          refine own_go (fun _ => XS.goto X0.here hx rfl (pc0 := 50) (pc' := 32) rfl (hb hby d3_50) (by decide) (by decide)) ?_
                          show own_Ends p e below s₁ (mkF m 32 #[.val (.ref a), .val (.int (3 : Int32)), .val (.int (8 : Int32))] []) _
                          refine own_go (fun _ => XS.iloadN X0.here hx rfl (hb hby d3_32) rfl) ?_
                          show own_Ends p e below s₁ (mkF m 33 #[.val (.ref a), .val (.int (3 : Int32)), .val (.int (8 : Int32))] [(.int (8 : Int32))]) _
                          refine own_go (fun _ => XS.bipush X0.here hx rfl (hb hby d3_33)) ?_
                          show own_Ends p e below s₁ (mkF m 35 #[.val (.ref a), .val (.int (3 : Int32)), .val (.int (8 : Int32))] [(.int (8 : Int32)), (.int (8 : Int32))]) _
                          refine own_go (fun _ => XS.icmpYes X0.here hx rfl (pc0 := 35) (pc' := 53) rfl (hb hby d3_35) rfl (flt (show ¬ ((8 : Int32) < (8 : Int32)) from by decide)).2.1 (by decide) (by decide)) ?_
                          show own_Ends p e below s₁ (mkF m 53 #[.val (.ref a), .val (.int (3 : Int32)), .val (.int (8 : Int32))] []) _
                          refine own_go (fun _ => XS.iloadN X0.here hx rfl (hb hby d3_53) rfl) ?_
                          show own_Ends p e below s₁ (mkF m 54 #[.val (.ref a), .val (.int (3 : Int32)), .val (.int (8 : Int32))] [(.int (3 : Int32))]) _
                          refine own_go (fun _ => XS.iconst X0.here hx rfl (hb hby d3_54)) ?_
                          show own_Ends p e below s₁ (mkF m 55 #[.val (.ref a), .val (.int (3 : Int32)), .val (.int (8 : Int32))] [(.int (4 : Int32)), (.int (3 : Int32))]) _
                          refine own_go (fun _ => XS.icmpYes X0.here hx rfl (pc0 := 55) (pc' := 62) rfl (hb hby d3_55) rfl (tlt (show (3 : Int32) < (4 : Int32) from by decide)).1 (by decide) (by decide)) ?_
                          show own_Ends p e below s₁ (mkF m 62 #[.val (.ref a), .val (.int (3 : Int32)), .val (.int (8 : Int32))] []) _
                          refine own_go (fun _ => XS.iconst X0.here hx rfl (hb hby d3_62)) ?_
                          show own_Ends p e below s₁ (mkF m 63 #[.val (.ref a), .val (.int (3 : Int32)), .val (.int (8 : Int32))] [(.int (0 : Int32))]) _
                          obtain ⟨fs, hr, hrun, hended, hW, hsame⟩ := X0.leave (v := some (.int (0 : Int32))) (fun h => by rw [Bd.returns] at h; cases h)
                          refine ⟨_, _, retN X0 hx (t := .boolean) Bd.returns (by simp) (hb hby d3_63) hr, hrun, hended, _, _, rfl, ?_, ⟨_, rfl⟩, hW, hsame.mono (by decide) (by decide)⟩
                          show Q_rmPin Z a kl c0 c1 c2 c3 c4 c5 c6 c7 h0 n0 _ s₁.heap _
                          rw [e0]
                          exact ⟨_, rfl, by exact own_back ((own_sC hc13 hc21).trans ((own_sC hc13_1 hc21_1).trans ((own_sC hc13_2 hc21_2).trans ((own_sA hc13_3).trans ((own_tA hc42).trans ((own_tA hc42_1).trans ((own_tA hc42_2).trans ((own_tA hc42_3).trans ((own_tA hc42_4).trans (rfl)))))))))), N0, rfl⟩
                        · refine own_go (fun _ => XS.icmpNo X0.here hx rfl (hb hby d3_42) rfl (feq hc42_4).1) ?_
                          show own_Ends p e below s₁ (mkF m 45 #[.val (.ref a), .val (.int (3 : Int32)), .val (.int (7 : Int32))] []) _
                          refine own_go (fun _ => XS.iconst X0.here hx rfl (hb hby d3_45)) ?_
                          show own_Ends p e below s₁ (mkF m 46 #[.val (.ref a), .val (.int (3 : Int32)), .val (.int (7 : Int32))] [(.int (0 : Int32))]) _
                          obtain ⟨fs, hr, hrun, hended, hW, hsame⟩ := X0.leave (v := some (.int (0 : Int32))) (fun h => by rw [Bd.returns] at h; cases h)
                          refine ⟨_, _, retN X0 hx (t := .boolean) Bd.returns (by simp) (hb hby d3_46) hr, hrun, hended, _, _, rfl, ?_, ⟨_, rfl⟩, hW, hsame.mono (by decide) (by decide)⟩
                          show Q_rmPin Z a kl c0 c1 c2 c3 c4 c5 c6 c7 h0 n0 _ s₁.heap _
                          rw [e0]
                          exact ⟨_, rfl, by exact own_back ((own_sC hc13 hc21).trans ((own_sC hc13_1 hc21_1).trans ((own_sC hc13_2 hc21_2).trans ((own_sA hc13_3).trans ((own_tA hc42).trans ((own_tA hc42_1).trans ((own_tA hc42_2).trans ((own_tA hc42_3).trans (own_tB hc42_4))))))))), N0, rfl⟩
                      · refine own_go (fun _ => XS.icmpNo X0.here hx rfl (hb hby d3_42) rfl (feq hc42_3).1) ?_
                        show own_Ends p e below s₁ (mkF m 45 #[.val (.ref a), .val (.int (3 : Int32)), .val (.int (6 : Int32))] []) _
                        refine own_go (fun _ => XS.iconst X0.here hx rfl (hb hby d3_45)) ?_
                        show own_Ends p e below s₁ (mkF m 46 #[.val (.ref a), .val (.int (3 : Int32)), .val (.int (6 : Int32))] [(.int (0 : Int32))]) _
                        obtain ⟨fs, hr, hrun, hended, hW, hsame⟩ := X0.leave (v := some (.int (0 : Int32))) (fun h => by rw [Bd.returns] at h; cases h)
                        refine ⟨_, _, retN X0 hx (t := .boolean) Bd.returns (by simp) (hb hby d3_46) hr, hrun, hended, _, _, rfl, ?_, ⟨_, rfl⟩, hW, hsame.mono (by decide) (by decide)⟩
                        show Q_rmPin Z a kl c0 c1 c2 c3 c4 c5 c6 c7 h0 n0 _ s₁.heap _
                        rw [e0]
                        exact ⟨_, rfl, by exact own_back ((own_sC hc13 hc21).trans ((own_sC hc13_1 hc21_1).trans ((own_sC hc13_2 hc21_2).trans ((own_sA hc13_3).trans ((own_tA hc42).trans ((own_tA hc42_1).trans ((own_tA hc42_2).trans (own_tB hc42_3)))))))), N0, rfl⟩
                    · refine own_go (fun _ => XS.icmpNo X0.here hx rfl (hb hby d3_42) rfl (feq hc42_2).1) ?_
                      show own_Ends p e below s₁ (mkF m 45 #[.val (.ref a), .val (.int (3 : Int32)), .val (.int (5 : Int32))] []) _
                      refine own_go (fun _ => XS.iconst X0.here hx rfl (hb hby d3_45)) ?_
                      show own_Ends p e below s₁ (mkF m 46 #[.val (.ref a), .val (.int (3 : Int32)), .val (.int (5 : Int32))] [(.int (0 : Int32))]) _
                      obtain ⟨fs, hr, hrun, hended, hW, hsame⟩ := X0.leave (v := some (.int (0 : Int32))) (fun h => by rw [Bd.returns] at h; cases h)
                      refine ⟨_, _, retN X0 hx (t := .boolean) Bd.returns (by simp) (hb hby d3_46) hr, hrun, hended, _, _, rfl, ?_, ⟨_, rfl⟩, hW, hsame.mono (by decide) (by decide)⟩
                      show Q_rmPin Z a kl c0 c1 c2 c3 c4 c5 c6 c7 h0 n0 _ s₁.heap _
                      rw [e0]
                      exact ⟨_, rfl, by exact own_back ((own_sC hc13 hc21).trans ((own_sC hc13_1 hc21_1).trans ((own_sC hc13_2 hc21_2).trans ((own_sA hc13_3).trans ((own_tA hc42).trans ((own_tA hc42_1).trans (own_tB hc42_2))))))), N0, rfl⟩
                  · refine own_go (fun _ => XS.icmpNo X0.here hx rfl (hb hby d3_42) rfl (feq hc42_1).1) ?_
                    show own_Ends p e below s₁ (mkF m 45 #[.val (.ref a), .val (.int (3 : Int32)), .val (.int (4 : Int32))] []) _
                    refine own_go (fun _ => XS.iconst X0.here hx rfl (hb hby d3_45)) ?_
                    show own_Ends p e below s₁ (mkF m 46 #[.val (.ref a), .val (.int (3 : Int32)), .val (.int (4 : Int32))] [(.int (0 : Int32))]) _
                    obtain ⟨fs, hr, hrun, hended, hW, hsame⟩ := X0.leave (v := some (.int (0 : Int32))) (fun h => by rw [Bd.returns] at h; cases h)
                    refine ⟨_, _, retN X0 hx (t := .boolean) Bd.returns (by simp) (hb hby d3_46) hr, hrun, hended, _, _, rfl, ?_, ⟨_, rfl⟩, hW, hsame.mono (by decide) (by decide)⟩
                    show Q_rmPin Z a kl c0 c1 c2 c3 c4 c5 c6 c7 h0 n0 _ s₁.heap _
                    rw [e0]
                    exact ⟨_, rfl, by exact own_back ((own_sC hc13 hc21).trans ((own_sC hc13_1 hc21_1).trans ((own_sC hc13_2 hc21_2).trans ((own_sA hc13_3).trans ((own_tA hc42).trans (own_tB hc42_1)))))), N0, rfl⟩
                · refine own_go (fun _ => XS.icmpNo X0.here hx rfl (hb hby d3_42) rfl (feq hc42).1) ?_
                  show own_Ends p e below s₁ (mkF m 45 #[.val (.ref a), .val (.int (3 : Int32)), .val (.int (3 : Int32))] []) _
                  refine own_go (fun _ => XS.iconst X0.here hx rfl (hb hby d3_45)) ?_
                  show own_Ends p e below s₁ (mkF m 46 #[.val (.ref a), .val (.int (3 : Int32)), .val (.int (3 : Int32))] [(.int (0 : Int32))]) _
                  obtain ⟨fs, hr, hrun, hended, hW, hsame⟩ := X0.leave (v := some (.int (0 : Int32))) (fun h => by rw [Bd.returns] at h; cases h)
                  refine ⟨_, _, retN X0 hx (t := .boolean) Bd.returns (by simp) (hb hby d3_46) hr, hrun, hended, _, _, rfl, ?_, ⟨_, rfl⟩, hW, hsame.mono (by decide) (by decide)⟩
                  show Q_rmPin Z a kl c0 c1 c2 c3 c4 c5 c6 c7 h0 n0 _ s₁.heap _
                  rw [e0]
                  exact ⟨_, rfl, by exact own_back ((own_sC hc13 hc21).trans ((own_sC hc13_1 hc21_1).trans ((own_sC hc13_2 hc21_2).trans ((own_sA hc13_3).trans (own_tB hc42))))), N0, rfl⟩
              · refine own_go (fun _ => XS.icmpNo X0.here hx rfl (hb hby d3_13) rfl (flt hc13_3).1) ?_
                show own_Ends p e below s₁ (mkF m 16 #[.val (.ref a), .val (.int (3 : Int32)), .unset] []) _
                refine own_go (fun _ => XS.aloadN X0.here hx rfl (hb hby d3_16) rfl rfl) ?_
                show own_Ends p e below s₁ (mkF m 17 #[.val (.ref a), .val (.int (3 : Int32)), .unset] [(.ref a)]) _
                refine own_go (fun _ => XS.iloadN X0.here hx rfl (hb hby d3_17) rfl) ?_
                show own_Ends p e below s₁ (mkF m 18 #[.val (.ref a), .val (.int (3 : Int32)), .unset] [(.int (3 : Int32)), (.ref a)]) _
                obtain ⟨cl_55, Ar_55, q_55, S_55, M_55, H_55, G_55⟩ := V_a_r49
                have hin55 : ¬ ((3 : Int32) < 0 ∨ cl_55.slots.size ≤ ((3 : Int32)).toNatClampNeg) := inb_of S_55 ⟨by decide, by decide⟩
                have hat55 : cl_55.slots[((3 : Int32)).toNatClampNeg]? = some (.int c3) := Has.at H_55 hin55 (rfl)
                refine own_go (X0.baloadBytes hx (j := (3 : Int32)) (v := (.int c3)) (by rw [e0]; exact Ar_55.1) (State.isArrayOf_alike hZ.alike Ar_55.2.1) Ar_55.2.2 hin55 hat55 (g := (mkF m 18 #[.val (.ref a), .val (.int (3 : Int32)), .unset] [(.int (3 : Int32)), (.ref a)])) rfl rfl (hb hby d3_18)) ?_
                have V_a_r55 : Arv Z h0 a kl .byte (8 : Int32) [(.int c0), (.int c1), (.int c2), (.int c3), (.int c4), (.int c5), (.int c6), (.int c7)] (.int (0 : Int32)) := ⟨cl_55, Ar_55, q_55, S_55, M_55, H_55, G_55⟩
                show own_Ends p e below s₁ (mkF m 19 #[.val (.ref a), .val (.int (3 : Int32)), .unset] [(.int c3)]) _
                refine own_go (fun _ => XS.bipush X0.here hx rfl (hb hby d3_19)) ?_
                show own_Ends p e below s₁ (mkF m 21 #[.val (.ref a), .val (.int (3 : Int32)), .unset] [(.int (57 : Int32)), (.int c3)]) _
                by_cases hc21_3 : (57 : Int32) < c3
                · refine own_go (fun _ => XS.icmpYes X0.here hx rfl (pc0 := 21) (pc' := 30) rfl (hb hby d3_21) rfl (tlt hc21_3).2.2.1 (by decide) (by decide)) ?_
                  show own_Ends p e below s₁ (mkF m 30 #[.val (.ref a), .val (.int (3 : Int32)), .unset] []) _
                  refine own_go (fun _ => XS.iloadN X0.here hx rfl (hb hby d3_30) rfl) ?_
                  show own_Ends p e below s₁ (mkF m 31 #[.val (.ref a), .val (.int (3 : Int32)), .unset] [(.int (3 : Int32))]) _
                  refine own_go (fun _ => XS.istoreN X0.here hx rfl (hb hby d3_31) rfl (l' := #[.val (.ref a), .val (.int (3 : Int32)), .val (.int (3 : Int32))]) rfl) ?_
                  show own_Ends p e below s₁ (mkF m 32 #[.val (.ref a), .val (.int (3 : Int32)), .val (.int (3 : Int32))] []) _
                  refine own_go (fun _ => XS.iloadN X0.here hx rfl (hb hby d3_32) rfl) ?_
                  show own_Ends p e below s₁ (mkF m 33 #[.val (.ref a), .val (.int (3 : Int32)), .val (.int (3 : Int32))] [(.int (3 : Int32))]) _
                  refine own_go (fun _ => XS.bipush X0.here hx rfl (hb hby d3_33)) ?_
                  show own_Ends p e below s₁ (mkF m 35 #[.val (.ref a), .val (.int (3 : Int32)), .val (.int (3 : Int32))] [(.int (8 : Int32)), (.int (3 : Int32))]) _
                  refine own_go (fun _ => XS.icmpNo X0.here hx rfl (hb hby d3_35) rfl (tlt (show (3 : Int32) < (8 : Int32) from by decide)).2.1) ?_
                  show own_Ends p e below s₁ (mkF m 38 #[.val (.ref a), .val (.int (3 : Int32)), .val (.int (3 : Int32))] []) _
                  refine own_go (fun _ => XS.aloadN X0.here hx rfl (hb hby d3_38) rfl rfl) ?_
                  show own_Ends p e below s₁ (mkF m 39 #[.val (.ref a), .val (.int (3 : Int32)), .val (.int (3 : Int32))] [(.ref a)]) _
                  refine own_go (fun _ => XS.iloadN X0.here hx rfl (hb hby d3_39) rfl) ?_
                  show own_Ends p e below s₁ (mkF m 40 #[.val (.ref a), .val (.int (3 : Int32)), .val (.int (3 : Int32))] [(.int (3 : Int32)), (.ref a)]) _
                  obtain ⟨cl_56, Ar_56, q_56, S_56, M_56, H_56, G_56⟩ := V_a_r55
                  have hin56 : ¬ ((3 : Int32) < 0 ∨ cl_56.slots.size ≤ ((3 : Int32)).toNatClampNeg) := inb_of S_56 ⟨by decide, by decide⟩
                  have hat56 : cl_56.slots[((3 : Int32)).toNatClampNeg]? = some (.int c3) := Has.at H_56 hin56 (rfl)
                  refine own_go (X0.baloadBytes hx (j := (3 : Int32)) (v := (.int c3)) (by rw [e0]; exact Ar_56.1) (State.isArrayOf_alike hZ.alike Ar_56.2.1) Ar_56.2.2 hin56 hat56 (g := (mkF m 40 #[.val (.ref a), .val (.int (3 : Int32)), .val (.int (3 : Int32))] [(.int (3 : Int32)), (.ref a)])) rfl rfl (hb hby d3_40)) ?_
                  have V_a_r56 : Arv Z h0 a kl .byte (8 : Int32) [(.int c0), (.int c1), (.int c2), (.int c3), (.int c4), (.int c5), (.int c6), (.int c7)] (.int (0 : Int32)) := ⟨cl_56, Ar_56, q_56, S_56, M_56, H_56, G_56⟩
                  show own_Ends p e below s₁ (mkF m 41 #[.val (.ref a), .val (.int (3 : Int32)), .val (.int (3 : Int32))] [(.int c3)]) _
                  refine own_go (fun _ => XS.iconst X0.here hx rfl (hb hby d3_41)) ?_
                  show own_Ends p e below s₁ (mkF m 42 #[.val (.ref a), .val (.int (3 : Int32)), .val (.int (3 : Int32))] [(.int (-1 : Int32)), (.int c3)]) _
                  by_cases hc42 : c3 = (-1 : Int32)
                  · refine own_go (fun _ => XS.icmpYes X0.here hx rfl (pc0 := 42) (pc' := 47) rfl (hb hby d3_42) rfl (teq hc42).1 (by decide) (by decide)) ?_
                    show own_Ends p e below s₁ (mkF m 47 #[.val (.ref a), .val (.int (3 : Int32)), .val (.int (3 : Int32))] []) _
                    refine own_go (fun _ => XS.iinc X0.here hx rfl (hb hby d3_47) rfl (l' := #[.val (.ref a), .val (.int (3 : Int32)), .val (.int (4 : Int32))]) rfl) ?_
                    show own_Ends p e below s₁ (mkF m 50 #[.val (.ref a), .val (.int (3 : Int32)), .val (.int (4 : Int32))] []) _
                    refine own_go (fun _ => XS.goto X0.here hx rfl (pc0 := 50) (pc' := 32) rfl (hb hby d3_50) (by decide) (by decide)) ?_
                    show own_Ends p e below s₁ (mkF m 32 #[.val (.ref a), .val (.int (3 : Int32)), .val (.int (4 : Int32))] []) _
                    refine own_go (fun _ => XS.iloadN X0.here hx rfl (hb hby d3_32) rfl) ?_
                    show own_Ends p e below s₁ (mkF m 33 #[.val (.ref a), .val (.int (3 : Int32)), .val (.int (4 : Int32))] [(.int (4 : Int32))]) _
                    refine own_go (fun _ => XS.bipush X0.here hx rfl (hb hby d3_33)) ?_
                    show own_Ends p e below s₁ (mkF m 35 #[.val (.ref a), .val (.int (3 : Int32)), .val (.int (4 : Int32))] [(.int (8 : Int32)), (.int (4 : Int32))]) _
                    refine own_go (fun _ => XS.icmpNo X0.here hx rfl (hb hby d3_35) rfl (tlt (show (4 : Int32) < (8 : Int32) from by decide)).2.1) ?_
                    show own_Ends p e below s₁ (mkF m 38 #[.val (.ref a), .val (.int (3 : Int32)), .val (.int (4 : Int32))] []) _
                    refine own_go (fun _ => XS.aloadN X0.here hx rfl (hb hby d3_38) rfl rfl) ?_
                    show own_Ends p e below s₁ (mkF m 39 #[.val (.ref a), .val (.int (3 : Int32)), .val (.int (4 : Int32))] [(.ref a)]) _
                    refine own_go (fun _ => XS.iloadN X0.here hx rfl (hb hby d3_39) rfl) ?_
                    show own_Ends p e below s₁ (mkF m 40 #[.val (.ref a), .val (.int (3 : Int32)), .val (.int (4 : Int32))] [(.int (4 : Int32)), (.ref a)]) _
                    obtain ⟨cl_57, Ar_57, q_57, S_57, M_57, H_57, G_57⟩ := V_a_r56
                    have hin57 : ¬ ((4 : Int32) < 0 ∨ cl_57.slots.size ≤ ((4 : Int32)).toNatClampNeg) := inb_of S_57 ⟨by decide, by decide⟩
                    have hat57 : cl_57.slots[((4 : Int32)).toNatClampNeg]? = some (.int c4) := Has.at H_57 hin57 (rfl)
                    refine own_go (X0.baloadBytes hx (j := (4 : Int32)) (v := (.int c4)) (by rw [e0]; exact Ar_57.1) (State.isArrayOf_alike hZ.alike Ar_57.2.1) Ar_57.2.2 hin57 hat57 (g := (mkF m 40 #[.val (.ref a), .val (.int (3 : Int32)), .val (.int (4 : Int32))] [(.int (4 : Int32)), (.ref a)])) rfl rfl (hb hby d3_40)) ?_
                    have V_a_r57 : Arv Z h0 a kl .byte (8 : Int32) [(.int c0), (.int c1), (.int c2), (.int c3), (.int c4), (.int c5), (.int c6), (.int c7)] (.int (0 : Int32)) := ⟨cl_57, Ar_57, q_57, S_57, M_57, H_57, G_57⟩
                    show own_Ends p e below s₁ (mkF m 41 #[.val (.ref a), .val (.int (3 : Int32)), .val (.int (4 : Int32))] [(.int c4)]) _
                    refine own_go (fun _ => XS.iconst X0.here hx rfl (hb hby d3_41)) ?_
                    show own_Ends p e below s₁ (mkF m 42 #[.val (.ref a), .val (.int (3 : Int32)), .val (.int (4 : Int32))] [(.int (-1 : Int32)), (.int c4)]) _
                    by_cases hc42_1 : c4 = (-1 : Int32)
                    · refine own_go (fun _ => XS.icmpYes X0.here hx rfl (pc0 := 42) (pc' := 47) rfl (hb hby d3_42) rfl (teq hc42_1).1 (by decide) (by decide)) ?_
                      show own_Ends p e below s₁ (mkF m 47 #[.val (.ref a), .val (.int (3 : Int32)), .val (.int (4 : Int32))] []) _
                      refine own_go (fun _ => XS.iinc X0.here hx rfl (hb hby d3_47) rfl (l' := #[.val (.ref a), .val (.int (3 : Int32)), .val (.int (5 : Int32))]) rfl) ?_
                      show own_Ends p e below s₁ (mkF m 50 #[.val (.ref a), .val (.int (3 : Int32)), .val (.int (5 : Int32))] []) _
                      refine own_go (fun _ => XS.goto X0.here hx rfl (pc0 := 50) (pc' := 32) rfl (hb hby d3_50) (by decide) (by decide)) ?_
                      show own_Ends p e below s₁ (mkF m 32 #[.val (.ref a), .val (.int (3 : Int32)), .val (.int (5 : Int32))] []) _
                      refine own_go (fun _ => XS.iloadN X0.here hx rfl (hb hby d3_32) rfl) ?_
                      show own_Ends p e below s₁ (mkF m 33 #[.val (.ref a), .val (.int (3 : Int32)), .val (.int (5 : Int32))] [(.int (5 : Int32))]) _
                      refine own_go (fun _ => XS.bipush X0.here hx rfl (hb hby d3_33)) ?_
                      show own_Ends p e below s₁ (mkF m 35 #[.val (.ref a), .val (.int (3 : Int32)), .val (.int (5 : Int32))] [(.int (8 : Int32)), (.int (5 : Int32))]) _
                      refine own_go (fun _ => XS.icmpNo X0.here hx rfl (hb hby d3_35) rfl (tlt (show (5 : Int32) < (8 : Int32) from by decide)).2.1) ?_
                      show own_Ends p e below s₁ (mkF m 38 #[.val (.ref a), .val (.int (3 : Int32)), .val (.int (5 : Int32))] []) _
                      refine own_go (fun _ => XS.aloadN X0.here hx rfl (hb hby d3_38) rfl rfl) ?_
                      show own_Ends p e below s₁ (mkF m 39 #[.val (.ref a), .val (.int (3 : Int32)), .val (.int (5 : Int32))] [(.ref a)]) _
                      refine own_go (fun _ => XS.iloadN X0.here hx rfl (hb hby d3_39) rfl) ?_
                      show own_Ends p e below s₁ (mkF m 40 #[.val (.ref a), .val (.int (3 : Int32)), .val (.int (5 : Int32))] [(.int (5 : Int32)), (.ref a)]) _
                      obtain ⟨cl_58, Ar_58, q_58, S_58, M_58, H_58, G_58⟩ := V_a_r57
                      have hin58 : ¬ ((5 : Int32) < 0 ∨ cl_58.slots.size ≤ ((5 : Int32)).toNatClampNeg) := inb_of S_58 ⟨by decide, by decide⟩
                      have hat58 : cl_58.slots[((5 : Int32)).toNatClampNeg]? = some (.int c5) := Has.at H_58 hin58 (rfl)
                      refine own_go (X0.baloadBytes hx (j := (5 : Int32)) (v := (.int c5)) (by rw [e0]; exact Ar_58.1) (State.isArrayOf_alike hZ.alike Ar_58.2.1) Ar_58.2.2 hin58 hat58 (g := (mkF m 40 #[.val (.ref a), .val (.int (3 : Int32)), .val (.int (5 : Int32))] [(.int (5 : Int32)), (.ref a)])) rfl rfl (hb hby d3_40)) ?_
                      have V_a_r58 : Arv Z h0 a kl .byte (8 : Int32) [(.int c0), (.int c1), (.int c2), (.int c3), (.int c4), (.int c5), (.int c6), (.int c7)] (.int (0 : Int32)) := ⟨cl_58, Ar_58, q_58, S_58, M_58, H_58, G_58⟩
                      show own_Ends p e below s₁ (mkF m 41 #[.val (.ref a), .val (.int (3 : Int32)), .val (.int (5 : Int32))] [(.int c5)]) _
                      refine own_go (fun _ => XS.iconst X0.here hx rfl (hb hby d3_41)) ?_
                      show own_Ends p e below s₁ (mkF m 42 #[.val (.ref a), .val (.int (3 : Int32)), .val (.int (5 : Int32))] [(.int (-1 : Int32)), (.int c5)]) _
                      by_cases hc42_2 : c5 = (-1 : Int32)
                      · refine own_go (fun _ => XS.icmpYes X0.here hx rfl (pc0 := 42) (pc' := 47) rfl (hb hby d3_42) rfl (teq hc42_2).1 (by decide) (by decide)) ?_
                        show own_Ends p e below s₁ (mkF m 47 #[.val (.ref a), .val (.int (3 : Int32)), .val (.int (5 : Int32))] []) _
                        refine own_go (fun _ => XS.iinc X0.here hx rfl (hb hby d3_47) rfl (l' := #[.val (.ref a), .val (.int (3 : Int32)), .val (.int (6 : Int32))]) rfl) ?_
                        show own_Ends p e below s₁ (mkF m 50 #[.val (.ref a), .val (.int (3 : Int32)), .val (.int (6 : Int32))] []) _
                        refine own_go (fun _ => XS.goto X0.here hx rfl (pc0 := 50) (pc' := 32) rfl (hb hby d3_50) (by decide) (by decide)) ?_
                        show own_Ends p e below s₁ (mkF m 32 #[.val (.ref a), .val (.int (3 : Int32)), .val (.int (6 : Int32))] []) _
                        refine own_go (fun _ => XS.iloadN X0.here hx rfl (hb hby d3_32) rfl) ?_
                        show own_Ends p e below s₁ (mkF m 33 #[.val (.ref a), .val (.int (3 : Int32)), .val (.int (6 : Int32))] [(.int (6 : Int32))]) _
                        refine own_go (fun _ => XS.bipush X0.here hx rfl (hb hby d3_33)) ?_
                        show own_Ends p e below s₁ (mkF m 35 #[.val (.ref a), .val (.int (3 : Int32)), .val (.int (6 : Int32))] [(.int (8 : Int32)), (.int (6 : Int32))]) _
                        refine own_go (fun _ => XS.icmpNo X0.here hx rfl (hb hby d3_35) rfl (tlt (show (6 : Int32) < (8 : Int32) from by decide)).2.1) ?_
                        show own_Ends p e below s₁ (mkF m 38 #[.val (.ref a), .val (.int (3 : Int32)), .val (.int (6 : Int32))] []) _
                        refine own_go (fun _ => XS.aloadN X0.here hx rfl (hb hby d3_38) rfl rfl) ?_
                        show own_Ends p e below s₁ (mkF m 39 #[.val (.ref a), .val (.int (3 : Int32)), .val (.int (6 : Int32))] [(.ref a)]) _
                        refine own_go (fun _ => XS.iloadN X0.here hx rfl (hb hby d3_39) rfl) ?_
                        show own_Ends p e below s₁ (mkF m 40 #[.val (.ref a), .val (.int (3 : Int32)), .val (.int (6 : Int32))] [(.int (6 : Int32)), (.ref a)]) _
                        obtain ⟨cl_59, Ar_59, q_59, S_59, M_59, H_59, G_59⟩ := V_a_r58
                        have hin59 : ¬ ((6 : Int32) < 0 ∨ cl_59.slots.size ≤ ((6 : Int32)).toNatClampNeg) := inb_of S_59 ⟨by decide, by decide⟩
                        have hat59 : cl_59.slots[((6 : Int32)).toNatClampNeg]? = some (.int c6) := Has.at H_59 hin59 (rfl)
                        refine own_go (X0.baloadBytes hx (j := (6 : Int32)) (v := (.int c6)) (by rw [e0]; exact Ar_59.1) (State.isArrayOf_alike hZ.alike Ar_59.2.1) Ar_59.2.2 hin59 hat59 (g := (mkF m 40 #[.val (.ref a), .val (.int (3 : Int32)), .val (.int (6 : Int32))] [(.int (6 : Int32)), (.ref a)])) rfl rfl (hb hby d3_40)) ?_
                        have V_a_r59 : Arv Z h0 a kl .byte (8 : Int32) [(.int c0), (.int c1), (.int c2), (.int c3), (.int c4), (.int c5), (.int c6), (.int c7)] (.int (0 : Int32)) := ⟨cl_59, Ar_59, q_59, S_59, M_59, H_59, G_59⟩
                        show own_Ends p e below s₁ (mkF m 41 #[.val (.ref a), .val (.int (3 : Int32)), .val (.int (6 : Int32))] [(.int c6)]) _
                        refine own_go (fun _ => XS.iconst X0.here hx rfl (hb hby d3_41)) ?_
                        show own_Ends p e below s₁ (mkF m 42 #[.val (.ref a), .val (.int (3 : Int32)), .val (.int (6 : Int32))] [(.int (-1 : Int32)), (.int c6)]) _
                        by_cases hc42_3 : c6 = (-1 : Int32)
                        · refine own_go (fun _ => XS.icmpYes X0.here hx rfl (pc0 := 42) (pc' := 47) rfl (hb hby d3_42) rfl (teq hc42_3).1 (by decide) (by decide)) ?_
                          show own_Ends p e below s₁ (mkF m 47 #[.val (.ref a), .val (.int (3 : Int32)), .val (.int (6 : Int32))] []) _
                          refine own_go (fun _ => XS.iinc X0.here hx rfl (hb hby d3_47) rfl (l' := #[.val (.ref a), .val (.int (3 : Int32)), .val (.int (7 : Int32))]) rfl) ?_
                          show own_Ends p e below s₁ (mkF m 50 #[.val (.ref a), .val (.int (3 : Int32)), .val (.int (7 : Int32))] []) _
                          refine own_go (fun _ => XS.goto X0.here hx rfl (pc0 := 50) (pc' := 32) rfl (hb hby d3_50) (by decide) (by decide)) ?_
                          show own_Ends p e below s₁ (mkF m 32 #[.val (.ref a), .val (.int (3 : Int32)), .val (.int (7 : Int32))] []) _
                          refine own_go (fun _ => XS.iloadN X0.here hx rfl (hb hby d3_32) rfl) ?_
                          show own_Ends p e below s₁ (mkF m 33 #[.val (.ref a), .val (.int (3 : Int32)), .val (.int (7 : Int32))] [(.int (7 : Int32))]) _
                          refine own_go (fun _ => XS.bipush X0.here hx rfl (hb hby d3_33)) ?_
                          show own_Ends p e below s₁ (mkF m 35 #[.val (.ref a), .val (.int (3 : Int32)), .val (.int (7 : Int32))] [(.int (8 : Int32)), (.int (7 : Int32))]) _
                          refine own_go (fun _ => XS.icmpNo X0.here hx rfl (hb hby d3_35) rfl (tlt (show (7 : Int32) < (8 : Int32) from by decide)).2.1) ?_
                          show own_Ends p e below s₁ (mkF m 38 #[.val (.ref a), .val (.int (3 : Int32)), .val (.int (7 : Int32))] []) _
                          refine own_go (fun _ => XS.aloadN X0.here hx rfl (hb hby d3_38) rfl rfl) ?_
                          show own_Ends p e below s₁ (mkF m 39 #[.val (.ref a), .val (.int (3 : Int32)), .val (.int (7 : Int32))] [(.ref a)]) _
                          refine own_go (fun _ => XS.iloadN X0.here hx rfl (hb hby d3_39) rfl) ?_
                          show own_Ends p e below s₁ (mkF m 40 #[.val (.ref a), .val (.int (3 : Int32)), .val (.int (7 : Int32))] [(.int (7 : Int32)), (.ref a)]) _
                          obtain ⟨cl_60, Ar_60, q_60, S_60, M_60, H_60, G_60⟩ := V_a_r59
                          have hin60 : ¬ ((7 : Int32) < 0 ∨ cl_60.slots.size ≤ ((7 : Int32)).toNatClampNeg) := inb_of S_60 ⟨by decide, by decide⟩
                          have hat60 : cl_60.slots[((7 : Int32)).toNatClampNeg]? = some (.int c7) := Has.at H_60 hin60 (rfl)
                          refine own_go (X0.baloadBytes hx (j := (7 : Int32)) (v := (.int c7)) (by rw [e0]; exact Ar_60.1) (State.isArrayOf_alike hZ.alike Ar_60.2.1) Ar_60.2.2 hin60 hat60 (g := (mkF m 40 #[.val (.ref a), .val (.int (3 : Int32)), .val (.int (7 : Int32))] [(.int (7 : Int32)), (.ref a)])) rfl rfl (hb hby d3_40)) ?_
                          have V_a_r60 : Arv Z h0 a kl .byte (8 : Int32) [(.int c0), (.int c1), (.int c2), (.int c3), (.int c4), (.int c5), (.int c6), (.int c7)] (.int (0 : Int32)) := ⟨cl_60, Ar_60, q_60, S_60, M_60, H_60, G_60⟩
                          show own_Ends p e below s₁ (mkF m 41 #[.val (.ref a), .val (.int (3 : Int32)), .val (.int (7 : Int32))] [(.int c7)]) _
                          refine own_go (fun _ => XS.iconst X0.here hx rfl (hb hby d3_41)) ?_
                          show own_Ends p e below s₁ (mkF m 42 #[.val (.ref a), .val (.int (3 : Int32)), .val (.int (7 : Int32))] [(.int (-1 : Int32)), (.int c7)]) _
                          by_cases hc42_4 : c7 = (-1 : Int32)
                          · refine own_go (fun _ => XS.icmpYes X0.here hx rfl (pc0 := 42) (pc' := 47) rfl (hb hby d3_42) rfl (teq hc42_4).1 (by decide) (by decide)) ?_
                            show own_Ends p e below s₁ (mkF m 47 #[.val (.ref a), .val (.int (3 : Int32)), .val (.int (7 : Int32))] []) _
                            refine own_go (fun _ => XS.iinc X0.here hx rfl (hb hby d3_47) rfl (l' := #[.val (.ref a), .val (.int (3 : Int32)), .val (.int (8 : Int32))]) rfl) ?_
                            show own_Ends p e below s₁ (mkF m 50 #[.val (.ref a), .val (.int (3 : Int32)), .val (.int (8 : Int32))] []) _
                            refine own_go (fun _ => XS.goto X0.here hx rfl (pc0 := 50) (pc' := 32) rfl (hb hby d3_50) (by decide) (by decide)) ?_
                            show own_Ends p e below s₁ (mkF m 32 #[.val (.ref a), .val (.int (3 : Int32)), .val (.int (8 : Int32))] []) _
                            refine own_go (fun _ => XS.iloadN X0.here hx rfl (hb hby d3_32) rfl) ?_
                            show own_Ends p e below s₁ (mkF m 33 #[.val (.ref a), .val (.int (3 : Int32)), .val (.int (8 : Int32))] [(.int (8 : Int32))]) _
                            refine own_go (fun _ => XS.bipush X0.here hx rfl (hb hby d3_33)) ?_
                            show own_Ends p e below s₁ (mkF m 35 #[.val (.ref a), .val (.int (3 : Int32)), .val (.int (8 : Int32))] [(.int (8 : Int32)), (.int (8 : Int32))]) _
                            refine own_go (fun _ => XS.icmpYes X0.here hx rfl (pc0 := 35) (pc' := 53) rfl (hb hby d3_35) rfl (flt (show ¬ ((8 : Int32) < (8 : Int32)) from by decide)).2.1 (by decide) (by decide)) ?_
                            show own_Ends p e below s₁ (mkF m 53 #[.val (.ref a), .val (.int (3 : Int32)), .val (.int (8 : Int32))] []) _
                            refine own_go (fun _ => XS.iloadN X0.here hx rfl (hb hby d3_53) rfl) ?_
                            show own_Ends p e below s₁ (mkF m 54 #[.val (.ref a), .val (.int (3 : Int32)), .val (.int (8 : Int32))] [(.int (3 : Int32))]) _
                            refine own_go (fun _ => XS.iconst X0.here hx rfl (hb hby d3_54)) ?_
                            show own_Ends p e below s₁ (mkF m 55 #[.val (.ref a), .val (.int (3 : Int32)), .val (.int (8 : Int32))] [(.int (4 : Int32)), (.int (3 : Int32))]) _
                            refine own_go (fun _ => XS.icmpYes X0.here hx rfl (pc0 := 55) (pc' := 62) rfl (hb hby d3_55) rfl (tlt (show (3 : Int32) < (4 : Int32) from by decide)).1 (by decide) (by decide)) ?_
                            show own_Ends p e below s₁ (mkF m 62 #[.val (.ref a), .val (.int (3 : Int32)), .val (.int (8 : Int32))] []) _
                            refine own_go (fun _ => XS.iconst X0.here hx rfl (hb hby d3_62)) ?_
                            show own_Ends p e below s₁ (mkF m 63 #[.val (.ref a), .val (.int (3 : Int32)), .val (.int (8 : Int32))] [(.int (0 : Int32))]) _
                            obtain ⟨fs, hr, hrun, hended, hW, hsame⟩ := X0.leave (v := some (.int (0 : Int32))) (fun h => by rw [Bd.returns] at h; cases h)
                            refine ⟨_, _, retN X0 hx (t := .boolean) Bd.returns (by simp) (hb hby d3_63) hr, hrun, hended, _, _, rfl, ?_, ⟨_, rfl⟩, hW, hsame.mono (by decide) (by decide)⟩
                            show Q_rmPin Z a kl c0 c1 c2 c3 c4 c5 c6 c7 h0 n0 _ s₁.heap _
                            rw [e0]
                            exact ⟨_, rfl, by exact own_back ((own_sC hc13 hc21).trans ((own_sC hc13_1 hc21_1).trans ((own_sC hc13_2 hc21_2).trans ((own_sB hc13_3 hc21_3).trans ((own_tA hc42).trans ((own_tA hc42_1).trans ((own_tA hc42_2).trans ((own_tA hc42_3).trans ((own_tA hc42_4).trans (rfl)))))))))), N0, rfl⟩
                          · refine own_go (fun _ => XS.icmpNo X0.here hx rfl (hb hby d3_42) rfl (feq hc42_4).1) ?_
                            show own_Ends p e below s₁ (mkF m 45 #[.val (.ref a), .val (.int (3 : Int32)), .val (.int (7 : Int32))] []) _
                            refine own_go (fun _ => XS.iconst X0.here hx rfl (hb hby d3_45)) ?_
                            show own_Ends p e below s₁ (mkF m 46 #[.val (.ref a), .val (.int (3 : Int32)), .val (.int (7 : Int32))] [(.int (0 : Int32))]) _
                            obtain ⟨fs, hr, hrun, hended, hW, hsame⟩ := X0.leave (v := some (.int (0 : Int32))) (fun h => by rw [Bd.returns] at h; cases h)
                            refine ⟨_, _, retN X0 hx (t := .boolean) Bd.returns (by simp) (hb hby d3_46) hr, hrun, hended, _, _, rfl, ?_, ⟨_, rfl⟩, hW, hsame.mono (by decide) (by decide)⟩
                            show Q_rmPin Z a kl c0 c1 c2 c3 c4 c5 c6 c7 h0 n0 _ s₁.heap _
                            rw [e0]
                            exact ⟨_, rfl, by exact own_back ((own_sC hc13 hc21).trans ((own_sC hc13_1 hc21_1).trans ((own_sC hc13_2 hc21_2).trans ((own_sB hc13_3 hc21_3).trans ((own_tA hc42).trans ((own_tA hc42_1).trans ((own_tA hc42_2).trans ((own_tA hc42_3).trans (own_tB hc42_4))))))))), N0, rfl⟩
                        · refine own_go (fun _ => XS.icmpNo X0.here hx rfl (hb hby d3_42) rfl (feq hc42_3).1) ?_
                          show own_Ends p e below s₁ (mkF m 45 #[.val (.ref a), .val (.int (3 : Int32)), .val (.int (6 : Int32))] []) _
                          refine own_go (fun _ => XS.iconst X0.here hx rfl (hb hby d3_45)) ?_
                          show own_Ends p e below s₁ (mkF m 46 #[.val (.ref a), .val (.int (3 : Int32)), .val (.int (6 : Int32))] [(.int (0 : Int32))]) _
                          obtain ⟨fs, hr, hrun, hended, hW, hsame⟩ := X0.leave (v := some (.int (0 : Int32))) (fun h => by rw [Bd.returns] at h; cases h)
                          refine ⟨_, _, retN X0 hx (t := .boolean) Bd.returns (by simp) (hb hby d3_46) hr, hrun, hended, _, _, rfl, ?_, ⟨_, rfl⟩, hW, hsame.mono (by decide) (by decide)⟩
                          show Q_rmPin Z a kl c0 c1 c2 c3 c4 c5 c6 c7 h0 n0 _ s₁.heap _
                          rw [e0]
                          exact ⟨_, rfl, by exact own_back ((own_sC hc13 hc21).trans ((own_sC hc13_1 hc21_1).trans ((own_sC hc13_2 hc21_2).trans ((own_sB hc13_3 hc21_3).trans ((own_tA hc42).trans ((own_tA hc42_1).trans ((own_tA hc42_2).trans (own_tB hc42_3)))))))), N0, rfl⟩
                      · refine own_go (fun _ => XS.icmpNo X0.here hx rfl (hb hby d3_42) rfl (feq hc42_2).1) ?_
                        show own_Ends p e below s₁ (mkF m 45 #[.val (.ref a), .val (.int (3 : Int32)), .val (.int (5 : Int32))] []) _
                        refine own_go (fun _ => XS.iconst X0.here hx rfl (hb hby d3_45)) ?_
                        show own_Ends p e below s₁ (mkF m 46 #[.val (.ref a), .val (.int (3 : Int32)), .val (.int (5 : Int32))] [(.int (0 : Int32))]) _
                        obtain ⟨fs, hr, hrun, hended, hW, hsame⟩ := X0.leave (v := some (.int (0 : Int32))) (fun h => by rw [Bd.returns] at h; cases h)
                        refine ⟨_, _, retN X0 hx (t := .boolean) Bd.returns (by simp) (hb hby d3_46) hr, hrun, hended, _, _, rfl, ?_, ⟨_, rfl⟩, hW, hsame.mono (by decide) (by decide)⟩
                        show Q_rmPin Z a kl c0 c1 c2 c3 c4 c5 c6 c7 h0 n0 _ s₁.heap _
                        rw [e0]
                        exact ⟨_, rfl, by exact own_back ((own_sC hc13 hc21).trans ((own_sC hc13_1 hc21_1).trans ((own_sC hc13_2 hc21_2).trans ((own_sB hc13_3 hc21_3).trans ((own_tA hc42).trans ((own_tA hc42_1).trans (own_tB hc42_2))))))), N0, rfl⟩
                    · refine own_go (fun _ => XS.icmpNo X0.here hx rfl (hb hby d3_42) rfl (feq hc42_1).1) ?_
                      show own_Ends p e below s₁ (mkF m 45 #[.val (.ref a), .val (.int (3 : Int32)), .val (.int (4 : Int32))] []) _
                      refine own_go (fun _ => XS.iconst X0.here hx rfl (hb hby d3_45)) ?_
                      show own_Ends p e below s₁ (mkF m 46 #[.val (.ref a), .val (.int (3 : Int32)), .val (.int (4 : Int32))] [(.int (0 : Int32))]) _
                      obtain ⟨fs, hr, hrun, hended, hW, hsame⟩ := X0.leave (v := some (.int (0 : Int32))) (fun h => by rw [Bd.returns] at h; cases h)
                      refine ⟨_, _, retN X0 hx (t := .boolean) Bd.returns (by simp) (hb hby d3_46) hr, hrun, hended, _, _, rfl, ?_, ⟨_, rfl⟩, hW, hsame.mono (by decide) (by decide)⟩
                      show Q_rmPin Z a kl c0 c1 c2 c3 c4 c5 c6 c7 h0 n0 _ s₁.heap _
                      rw [e0]
                      exact ⟨_, rfl, by exact own_back ((own_sC hc13 hc21).trans ((own_sC hc13_1 hc21_1).trans ((own_sC hc13_2 hc21_2).trans ((own_sB hc13_3 hc21_3).trans ((own_tA hc42).trans (own_tB hc42_1)))))), N0, rfl⟩
                  · refine own_go (fun _ => XS.icmpNo X0.here hx rfl (hb hby d3_42) rfl (feq hc42).1) ?_
                    show own_Ends p e below s₁ (mkF m 45 #[.val (.ref a), .val (.int (3 : Int32)), .val (.int (3 : Int32))] []) _
                    refine own_go (fun _ => XS.iconst X0.here hx rfl (hb hby d3_45)) ?_
                    show own_Ends p e below s₁ (mkF m 46 #[.val (.ref a), .val (.int (3 : Int32)), .val (.int (3 : Int32))] [(.int (0 : Int32))]) _
                    obtain ⟨fs, hr, hrun, hended, hW, hsame⟩ := X0.leave (v := some (.int (0 : Int32))) (fun h => by rw [Bd.returns] at h; cases h)
                    refine ⟨_, _, retN X0 hx (t := .boolean) Bd.returns (by simp) (hb hby d3_46) hr, hrun, hended, _, _, rfl, ?_, ⟨_, rfl⟩, hW, hsame.mono (by decide) (by decide)⟩
                    show Q_rmPin Z a kl c0 c1 c2 c3 c4 c5 c6 c7 h0 n0 _ s₁.heap _
                    rw [e0]
                    exact ⟨_, rfl, by exact own_back ((own_sC hc13 hc21).trans ((own_sC hc13_1 hc21_1).trans ((own_sC hc13_2 hc21_2).trans ((own_sB hc13_3 hc21_3).trans (own_tB hc42))))), N0, rfl⟩
                · refine own_go (fun _ => XS.icmpNo X0.here hx rfl (hb hby d3_21) rfl (flt hc21_3).2.2.1) ?_
                  show own_Ends p e below s₁ (mkF m 24 #[.val (.ref a), .val (.int (3 : Int32)), .unset] []) _
                  refine own_go (fun _ => XS.iinc X0.here hx rfl (hb hby d3_24) rfl (l' := #[.val (.ref a), .val (.int (4 : Int32)), .unset]) rfl) ?_
                  show own_Ends p e below s₁ (mkF m 27 #[.val (.ref a), .val (.int (4 : Int32)), .unset] []) _
                  refine own_go (fun _ => XS.goto X0.here hx rfl (pc0 := 27) (pc' := 2) rfl (hb hby d3_27) (by decide) (by decide)) ?_
                  show own_Ends p e below s₁ (mkF m 2 #[.val (.ref a), .val (.int (4 : Int32)), .unset] []) _
                  refine own_go (fun _ => XS.iloadN X0.here hx rfl (hb hby d3_2) rfl) ?_
                  show own_Ends p e below s₁ (mkF m 3 #[.val (.ref a), .val (.int (4 : Int32)), .unset] [(.int (4 : Int32))]) _
                  refine own_go (fun _ => XS.bipush X0.here hx rfl (hb hby d3_3)) ?_
                  show own_Ends p e below s₁ (mkF m 5 #[.val (.ref a), .val (.int (4 : Int32)), .unset] [(.int (8 : Int32)), (.int (4 : Int32))]) _
                  refine own_go (fun _ => XS.icmpNo X0.here hx rfl (hb hby d3_5) rfl (tlt (show (4 : Int32) < (8 : Int32) from by decide)).2.1) ?_
                  show own_Ends p e below s₁ (mkF m 8 #[.val (.ref a), .val (.int (4 : Int32)), .unset] []) _
                  refine own_go (fun _ => XS.aloadN X0.here hx rfl (hb hby d3_8) rfl rfl) ?_
                  show own_Ends p e below s₁ (mkF m 9 #[.val (.ref a), .val (.int (4 : Int32)), .unset] [(.ref a)]) _
                  refine own_go (fun _ => XS.iloadN X0.here hx rfl (hb hby d3_9) rfl) ?_
                  show own_Ends p e below s₁ (mkF m 10 #[.val (.ref a), .val (.int (4 : Int32)), .unset] [(.int (4 : Int32)), (.ref a)]) _
                  obtain ⟨cl_61, Ar_61, q_61, S_61, M_61, H_61, G_61⟩ := V_a_r55
                  have hin61 : ¬ ((4 : Int32) < 0 ∨ cl_61.slots.size ≤ ((4 : Int32)).toNatClampNeg) := inb_of S_61 ⟨by decide, by decide⟩
                  have hat61 : cl_61.slots[((4 : Int32)).toNatClampNeg]? = some (.int c4) := Has.at H_61 hin61 (rfl)
                  refine own_go (X0.baloadBytes hx (j := (4 : Int32)) (v := (.int c4)) (by rw [e0]; exact Ar_61.1) (State.isArrayOf_alike hZ.alike Ar_61.2.1) Ar_61.2.2 hin61 hat61 (g := (mkF m 10 #[.val (.ref a), .val (.int (4 : Int32)), .unset] [(.int (4 : Int32)), (.ref a)])) rfl rfl (hb hby d3_10)) ?_
                  have V_a_r61 : Arv Z h0 a kl .byte (8 : Int32) [(.int c0), (.int c1), (.int c2), (.int c3), (.int c4), (.int c5), (.int c6), (.int c7)] (.int (0 : Int32)) := ⟨cl_61, Ar_61, q_61, S_61, M_61, H_61, G_61⟩
                  show own_Ends p e below s₁ (mkF m 11 #[.val (.ref a), .val (.int (4 : Int32)), .unset] [(.int c4)]) _
                  refine own_go (fun _ => XS.bipush X0.here hx rfl (hb hby d3_11)) ?_
                  show own_Ends p e below s₁ (mkF m 13 #[.val (.ref a), .val (.int (4 : Int32)), .unset] [(.int (48 : Int32)), (.int c4)]) _
                  by_cases hc13_4 : c4 < (48 : Int32)
                  · refine own_go (fun _ => XS.icmpYes X0.here hx rfl (pc0 := 13) (pc' := 30) rfl (hb hby d3_13) rfl (tlt hc13_4).1 (by decide) (by decide)) ?_
                    show own_Ends p e below s₁ (mkF m 30 #[.val (.ref a), .val (.int (4 : Int32)), .unset] []) _
                    refine own_go (fun _ => XS.iloadN X0.here hx rfl (hb hby d3_30) rfl) ?_
                    show own_Ends p e below s₁ (mkF m 31 #[.val (.ref a), .val (.int (4 : Int32)), .unset] [(.int (4 : Int32))]) _
                    refine own_go (fun _ => XS.istoreN X0.here hx rfl (hb hby d3_31) rfl (l' := #[.val (.ref a), .val (.int (4 : Int32)), .val (.int (4 : Int32))]) rfl) ?_
                    show own_Ends p e below s₁ (mkF m 32 #[.val (.ref a), .val (.int (4 : Int32)), .val (.int (4 : Int32))] []) _
                    refine own_go (fun _ => XS.iloadN X0.here hx rfl (hb hby d3_32) rfl) ?_
                    show own_Ends p e below s₁ (mkF m 33 #[.val (.ref a), .val (.int (4 : Int32)), .val (.int (4 : Int32))] [(.int (4 : Int32))]) _
                    refine own_go (fun _ => XS.bipush X0.here hx rfl (hb hby d3_33)) ?_
                    show own_Ends p e below s₁ (mkF m 35 #[.val (.ref a), .val (.int (4 : Int32)), .val (.int (4 : Int32))] [(.int (8 : Int32)), (.int (4 : Int32))]) _
                    refine own_go (fun _ => XS.icmpNo X0.here hx rfl (hb hby d3_35) rfl (tlt (show (4 : Int32) < (8 : Int32) from by decide)).2.1) ?_
                    show own_Ends p e below s₁ (mkF m 38 #[.val (.ref a), .val (.int (4 : Int32)), .val (.int (4 : Int32))] []) _
                    refine own_go (fun _ => XS.aloadN X0.here hx rfl (hb hby d3_38) rfl rfl) ?_
                    show own_Ends p e below s₁ (mkF m 39 #[.val (.ref a), .val (.int (4 : Int32)), .val (.int (4 : Int32))] [(.ref a)]) _
                    refine own_go (fun _ => XS.iloadN X0.here hx rfl (hb hby d3_39) rfl) ?_
                    show own_Ends p e below s₁ (mkF m 40 #[.val (.ref a), .val (.int (4 : Int32)), .val (.int (4 : Int32))] [(.int (4 : Int32)), (.ref a)]) _
                    obtain ⟨cl_62, Ar_62, q_62, S_62, M_62, H_62, G_62⟩ := V_a_r61
                    have hin62 : ¬ ((4 : Int32) < 0 ∨ cl_62.slots.size ≤ ((4 : Int32)).toNatClampNeg) := inb_of S_62 ⟨by decide, by decide⟩
                    have hat62 : cl_62.slots[((4 : Int32)).toNatClampNeg]? = some (.int c4) := Has.at H_62 hin62 (rfl)
                    refine own_go (X0.baloadBytes hx (j := (4 : Int32)) (v := (.int c4)) (by rw [e0]; exact Ar_62.1) (State.isArrayOf_alike hZ.alike Ar_62.2.1) Ar_62.2.2 hin62 hat62 (g := (mkF m 40 #[.val (.ref a), .val (.int (4 : Int32)), .val (.int (4 : Int32))] [(.int (4 : Int32)), (.ref a)])) rfl rfl (hb hby d3_40)) ?_
                    have V_a_r62 : Arv Z h0 a kl .byte (8 : Int32) [(.int c0), (.int c1), (.int c2), (.int c3), (.int c4), (.int c5), (.int c6), (.int c7)] (.int (0 : Int32)) := ⟨cl_62, Ar_62, q_62, S_62, M_62, H_62, G_62⟩
                    show own_Ends p e below s₁ (mkF m 41 #[.val (.ref a), .val (.int (4 : Int32)), .val (.int (4 : Int32))] [(.int c4)]) _
                    refine own_go (fun _ => XS.iconst X0.here hx rfl (hb hby d3_41)) ?_
                    show own_Ends p e below s₁ (mkF m 42 #[.val (.ref a), .val (.int (4 : Int32)), .val (.int (4 : Int32))] [(.int (-1 : Int32)), (.int c4)]) _
                    by_cases hc42 : c4 = (-1 : Int32)
                    · refine own_go (fun _ => XS.icmpYes X0.here hx rfl (pc0 := 42) (pc' := 47) rfl (hb hby d3_42) rfl (teq hc42).1 (by decide) (by decide)) ?_
                      show own_Ends p e below s₁ (mkF m 47 #[.val (.ref a), .val (.int (4 : Int32)), .val (.int (4 : Int32))] []) _
                      refine own_go (fun _ => XS.iinc X0.here hx rfl (hb hby d3_47) rfl (l' := #[.val (.ref a), .val (.int (4 : Int32)), .val (.int (5 : Int32))]) rfl) ?_
                      show own_Ends p e below s₁ (mkF m 50 #[.val (.ref a), .val (.int (4 : Int32)), .val (.int (5 : Int32))] []) _
                      refine own_go (fun _ => XS.goto X0.here hx rfl (pc0 := 50) (pc' := 32) rfl (hb hby d3_50) (by decide) (by decide)) ?_
                      show own_Ends p e below s₁ (mkF m 32 #[.val (.ref a), .val (.int (4 : Int32)), .val (.int (5 : Int32))] []) _
                      refine own_go (fun _ => XS.iloadN X0.here hx rfl (hb hby d3_32) rfl) ?_
                      show own_Ends p e below s₁ (mkF m 33 #[.val (.ref a), .val (.int (4 : Int32)), .val (.int (5 : Int32))] [(.int (5 : Int32))]) _
                      refine own_go (fun _ => XS.bipush X0.here hx rfl (hb hby d3_33)) ?_
                      show own_Ends p e below s₁ (mkF m 35 #[.val (.ref a), .val (.int (4 : Int32)), .val (.int (5 : Int32))] [(.int (8 : Int32)), (.int (5 : Int32))]) _
                      refine own_go (fun _ => XS.icmpNo X0.here hx rfl (hb hby d3_35) rfl (tlt (show (5 : Int32) < (8 : Int32) from by decide)).2.1) ?_
                      show own_Ends p e below s₁ (mkF m 38 #[.val (.ref a), .val (.int (4 : Int32)), .val (.int (5 : Int32))] []) _
                      refine own_go (fun _ => XS.aloadN X0.here hx rfl (hb hby d3_38) rfl rfl) ?_
                      show own_Ends p e below s₁ (mkF m 39 #[.val (.ref a), .val (.int (4 : Int32)), .val (.int (5 : Int32))] [(.ref a)]) _
                      refine own_go (fun _ => XS.iloadN X0.here hx rfl (hb hby d3_39) rfl) ?_
                      show own_Ends p e below s₁ (mkF m 40 #[.val (.ref a), .val (.int (4 : Int32)), .val (.int (5 : Int32))] [(.int (5 : Int32)), (.ref a)]) _
                      obtain ⟨cl_63, Ar_63, q_63, S_63, M_63, H_63, G_63⟩ := V_a_r62
                      have hin63 : ¬ ((5 : Int32) < 0 ∨ cl_63.slots.size ≤ ((5 : Int32)).toNatClampNeg) := inb_of S_63 ⟨by decide, by decide⟩
                      have hat63 : cl_63.slots[((5 : Int32)).toNatClampNeg]? = some (.int c5) := Has.at H_63 hin63 (rfl)
                      refine own_go (X0.baloadBytes hx (j := (5 : Int32)) (v := (.int c5)) (by rw [e0]; exact Ar_63.1) (State.isArrayOf_alike hZ.alike Ar_63.2.1) Ar_63.2.2 hin63 hat63 (g := (mkF m 40 #[.val (.ref a), .val (.int (4 : Int32)), .val (.int (5 : Int32))] [(.int (5 : Int32)), (.ref a)])) rfl rfl (hb hby d3_40)) ?_
                      have V_a_r63 : Arv Z h0 a kl .byte (8 : Int32) [(.int c0), (.int c1), (.int c2), (.int c3), (.int c4), (.int c5), (.int c6), (.int c7)] (.int (0 : Int32)) := ⟨cl_63, Ar_63, q_63, S_63, M_63, H_63, G_63⟩
                      show own_Ends p e below s₁ (mkF m 41 #[.val (.ref a), .val (.int (4 : Int32)), .val (.int (5 : Int32))] [(.int c5)]) _
                      refine own_go (fun _ => XS.iconst X0.here hx rfl (hb hby d3_41)) ?_
                      show own_Ends p e below s₁ (mkF m 42 #[.val (.ref a), .val (.int (4 : Int32)), .val (.int (5 : Int32))] [(.int (-1 : Int32)), (.int c5)]) _
                      by_cases hc42_1 : c5 = (-1 : Int32)
                      · refine own_go (fun _ => XS.icmpYes X0.here hx rfl (pc0 := 42) (pc' := 47) rfl (hb hby d3_42) rfl (teq hc42_1).1 (by decide) (by decide)) ?_
                        show own_Ends p e below s₁ (mkF m 47 #[.val (.ref a), .val (.int (4 : Int32)), .val (.int (5 : Int32))] []) _
                        refine own_go (fun _ => XS.iinc X0.here hx rfl (hb hby d3_47) rfl (l' := #[.val (.ref a), .val (.int (4 : Int32)), .val (.int (6 : Int32))]) rfl) ?_
                        show own_Ends p e below s₁ (mkF m 50 #[.val (.ref a), .val (.int (4 : Int32)), .val (.int (6 : Int32))] []) _
                        refine own_go (fun _ => XS.goto X0.here hx rfl (pc0 := 50) (pc' := 32) rfl (hb hby d3_50) (by decide) (by decide)) ?_
                        show own_Ends p e below s₁ (mkF m 32 #[.val (.ref a), .val (.int (4 : Int32)), .val (.int (6 : Int32))] []) _
                        refine own_go (fun _ => XS.iloadN X0.here hx rfl (hb hby d3_32) rfl) ?_
                        show own_Ends p e below s₁ (mkF m 33 #[.val (.ref a), .val (.int (4 : Int32)), .val (.int (6 : Int32))] [(.int (6 : Int32))]) _
                        refine own_go (fun _ => XS.bipush X0.here hx rfl (hb hby d3_33)) ?_
                        show own_Ends p e below s₁ (mkF m 35 #[.val (.ref a), .val (.int (4 : Int32)), .val (.int (6 : Int32))] [(.int (8 : Int32)), (.int (6 : Int32))]) _
                        refine own_go (fun _ => XS.icmpNo X0.here hx rfl (hb hby d3_35) rfl (tlt (show (6 : Int32) < (8 : Int32) from by decide)).2.1) ?_
                        show own_Ends p e below s₁ (mkF m 38 #[.val (.ref a), .val (.int (4 : Int32)), .val (.int (6 : Int32))] []) _
                        refine own_go (fun _ => XS.aloadN X0.here hx rfl (hb hby d3_38) rfl rfl) ?_
                        show own_Ends p e below s₁ (mkF m 39 #[.val (.ref a), .val (.int (4 : Int32)), .val (.int (6 : Int32))] [(.ref a)]) _
                        refine own_go (fun _ => XS.iloadN X0.here hx rfl (hb hby d3_39) rfl) ?_
                        show own_Ends p e below s₁ (mkF m 40 #[.val (.ref a), .val (.int (4 : Int32)), .val (.int (6 : Int32))] [(.int (6 : Int32)), (.ref a)]) _
                        obtain ⟨cl_64, Ar_64, q_64, S_64, M_64, H_64, G_64⟩ := V_a_r63
                        have hin64 : ¬ ((6 : Int32) < 0 ∨ cl_64.slots.size ≤ ((6 : Int32)).toNatClampNeg) := inb_of S_64 ⟨by decide, by decide⟩
                        have hat64 : cl_64.slots[((6 : Int32)).toNatClampNeg]? = some (.int c6) := Has.at H_64 hin64 (rfl)
                        refine own_go (X0.baloadBytes hx (j := (6 : Int32)) (v := (.int c6)) (by rw [e0]; exact Ar_64.1) (State.isArrayOf_alike hZ.alike Ar_64.2.1) Ar_64.2.2 hin64 hat64 (g := (mkF m 40 #[.val (.ref a), .val (.int (4 : Int32)), .val (.int (6 : Int32))] [(.int (6 : Int32)), (.ref a)])) rfl rfl (hb hby d3_40)) ?_
                        have V_a_r64 : Arv Z h0 a kl .byte (8 : Int32) [(.int c0), (.int c1), (.int c2), (.int c3), (.int c4), (.int c5), (.int c6), (.int c7)] (.int (0 : Int32)) := ⟨cl_64, Ar_64, q_64, S_64, M_64, H_64, G_64⟩
                        show own_Ends p e below s₁ (mkF m 41 #[.val (.ref a), .val (.int (4 : Int32)), .val (.int (6 : Int32))] [(.int c6)]) _
                        refine own_go (fun _ => XS.iconst X0.here hx rfl (hb hby d3_41)) ?_
                        show own_Ends p e below s₁ (mkF m 42 #[.val (.ref a), .val (.int (4 : Int32)), .val (.int (6 : Int32))] [(.int (-1 : Int32)), (.int c6)]) _
                        by_cases hc42_2 : c6 = (-1 : Int32)
                        · refine own_go (fun _ => XS.icmpYes X0.here hx rfl (pc0 := 42) (pc' := 47) rfl (hb hby d3_42) rfl (teq hc42_2).1 (by decide) (by decide)) ?_
                          show own_Ends p e below s₁ (mkF m 47 #[.val (.ref a), .val (.int (4 : Int32)), .val (.int (6 : Int32))] []) _
                          refine own_go (fun _ => XS.iinc X0.here hx rfl (hb hby d3_47) rfl (l' := #[.val (.ref a), .val (.int (4 : Int32)), .val (.int (7 : Int32))]) rfl) ?_
                          show own_Ends p e below s₁ (mkF m 50 #[.val (.ref a), .val (.int (4 : Int32)), .val (.int (7 : Int32))] []) _
                          refine own_go (fun _ => XS.goto X0.here hx rfl (pc0 := 50) (pc' := 32) rfl (hb hby d3_50) (by decide) (by decide)) ?_
                          show own_Ends p e below s₁ (mkF m 32 #[.val (.ref a), .val (.int (4 : Int32)), .val (.int (7 : Int32))] []) _
                          refine own_go (fun _ => XS.iloadN X0.here hx rfl (hb hby d3_32) rfl) ?_
                          show own_Ends p e below s₁ (mkF m 33 #[.val (.ref a), .val (.int (4 : Int32)), .val (.int (7 : Int32))] [(.int (7 : Int32))]) _
                          refine own_go (fun _ => XS.bipush X0.here hx rfl (hb hby d3_33)) ?_
                          show own_Ends p e below s₁ (mkF m 35 #[.val (.ref a), .val (.int (4 : Int32)), .val (.int (7 : Int32))] [(.int (8 : Int32)), (.int (7 : Int32))]) _
                          refine own_go (fun _ => XS.icmpNo X0.here hx rfl (hb hby d3_35) rfl (tlt (show (7 : Int32) < (8 : Int32) from by decide)).2.1) ?_
                          show own_Ends p e below s₁ (mkF m 38 #[.val (.ref a), .val (.int (4 : Int32)), .val (.int (7 : Int32))] []) _
                          refine own_go (fun _ => XS.aloadN X0.here hx rfl (hb hby d3_38) rfl rfl) ?_
                          show own_Ends p e below s₁ (mkF m 39 #[.val (.ref a), .val (.int (4 : Int32)), .val (.int (7 : Int32))] [(.ref a)]) _
                          refine own_go (fun _ => XS.iloadN X0.here hx rfl (hb hby d3_39) rfl) ?_
                          show own_Ends p e below s₁ (mkF m 40 #[.val (.ref a), .val (.int (4 : Int32)), .val (.int (7 : Int32))] [(.int (7 : Int32)), (.ref a)]) _
                          obtain ⟨cl_65, Ar_65, q_65, S_65, M_65, H_65, G_65⟩ := V_a_r64
                          have hin65 : ¬ ((7 : Int32) < 0 ∨ cl_65.slots.size ≤ ((7 : Int32)).toNatClampNeg) := inb_of S_65 ⟨by decide, by decide⟩
                          have hat65 : cl_65.slots[((7 : Int32)).toNatClampNeg]? = some (.int c7) := Has.at H_65 hin65 (rfl)
                          refine own_go (X0.baloadBytes hx (j := (7 : Int32)) (v := (.int c7)) (by rw [e0]; exact Ar_65.1) (State.isArrayOf_alike hZ.alike Ar_65.2.1) Ar_65.2.2 hin65 hat65 (g := (mkF m 40 #[.val (.ref a), .val (.int (4 : Int32)), .val (.int (7 : Int32))] [(.int (7 : Int32)), (.ref a)])) rfl rfl (hb hby d3_40)) ?_
                          have V_a_r65 : Arv Z h0 a kl .byte (8 : Int32) [(.int c0), (.int c1), (.int c2), (.int c3), (.int c4), (.int c5), (.int c6), (.int c7)] (.int (0 : Int32)) := ⟨cl_65, Ar_65, q_65, S_65, M_65, H_65, G_65⟩
                          show own_Ends p e below s₁ (mkF m 41 #[.val (.ref a), .val (.int (4 : Int32)), .val (.int (7 : Int32))] [(.int c7)]) _
                          refine own_go (fun _ => XS.iconst X0.here hx rfl (hb hby d3_41)) ?_
                          show own_Ends p e below s₁ (mkF m 42 #[.val (.ref a), .val (.int (4 : Int32)), .val (.int (7 : Int32))] [(.int (-1 : Int32)), (.int c7)]) _
                          by_cases hc42_3 : c7 = (-1 : Int32)
                          · refine own_go (fun _ => XS.icmpYes X0.here hx rfl (pc0 := 42) (pc' := 47) rfl (hb hby d3_42) rfl (teq hc42_3).1 (by decide) (by decide)) ?_
                            show own_Ends p e below s₁ (mkF m 47 #[.val (.ref a), .val (.int (4 : Int32)), .val (.int (7 : Int32))] []) _
                            refine own_go (fun _ => XS.iinc X0.here hx rfl (hb hby d3_47) rfl (l' := #[.val (.ref a), .val (.int (4 : Int32)), .val (.int (8 : Int32))]) rfl) ?_
                            show own_Ends p e below s₁ (mkF m 50 #[.val (.ref a), .val (.int (4 : Int32)), .val (.int (8 : Int32))] []) _
                            refine own_go (fun _ => XS.goto X0.here hx rfl (pc0 := 50) (pc' := 32) rfl (hb hby d3_50) (by decide) (by decide)) ?_
                            show own_Ends p e below s₁ (mkF m 32 #[.val (.ref a), .val (.int (4 : Int32)), .val (.int (8 : Int32))] []) _
                            refine own_go (fun _ => XS.iloadN X0.here hx rfl (hb hby d3_32) rfl) ?_
                            show own_Ends p e below s₁ (mkF m 33 #[.val (.ref a), .val (.int (4 : Int32)), .val (.int (8 : Int32))] [(.int (8 : Int32))]) _
                            refine own_go (fun _ => XS.bipush X0.here hx rfl (hb hby d3_33)) ?_
                            show own_Ends p e below s₁ (mkF m 35 #[.val (.ref a), .val (.int (4 : Int32)), .val (.int (8 : Int32))] [(.int (8 : Int32)), (.int (8 : Int32))]) _
                            refine own_go (fun _ => XS.icmpYes X0.here hx rfl (pc0 := 35) (pc' := 53) rfl (hb hby d3_35) rfl (flt (show ¬ ((8 : Int32) < (8 : Int32)) from by decide)).2.1 (by decide) (by decide)) ?_
                            show own_Ends p e below s₁ (mkF m 53 #[.val (.ref a), .val (.int (4 : Int32)), .val (.int (8 : Int32))] []) _
                            refine own_go (fun _ => XS.iloadN X0.here hx rfl (hb hby d3_53) rfl) ?_
                            show own_Ends p e below s₁ (mkF m 54 #[.val (.ref a), .val (.int (4 : Int32)), .val (.int (8 : Int32))] [(.int (4 : Int32))]) _
                            refine own_go (fun _ => XS.iconst X0.here hx rfl (hb hby d3_54)) ?_
                            show own_Ends p e below s₁ (mkF m 55 #[.val (.ref a), .val (.int (4 : Int32)), .val (.int (8 : Int32))] [(.int (4 : Int32)), (.int (4 : Int32))]) _
                            refine own_go (fun _ => XS.icmpNo X0.here hx rfl (hb hby d3_55) rfl (flt (show ¬ ((4 : Int32) < (4 : Int32)) from by decide)).1) ?_
                            show own_Ends p e below s₁ (mkF m 58 #[.val (.ref a), .val (.int (4 : Int32)), .val (.int (8 : Int32))] []) _
                            refine own_go (fun _ => XS.iconst X0.here hx rfl (hb hby d3_58)) ?_
                            show own_Ends p e below s₁ (mkF m 59 #[.val (.ref a), .val (.int (4 : Int32)), .val (.int (8 : Int32))] [(.int (1 : Int32))]) _
                            refine own_go (fun _ => XS.goto X0.here hx rfl (pc0 := 59) (pc' := 63) rfl (hb hby d3_59) (by decide) (by decide)) ?_
                            show own_Ends p e below s₁ (mkF m 63 #[.val (.ref a), .val (.int (4 : Int32)), .val (.int (8 : Int32))] [(.int (1 : Int32))]) _
                            obtain ⟨fs, hr, hrun, hended, hW, hsame⟩ := X0.leave (v := some (.int (1 : Int32))) (fun h => by rw [Bd.returns] at h; cases h)
                            refine ⟨_, _, retN X0 hx (t := .boolean) Bd.returns (by simp) (hb hby d3_63) hr, hrun, hended, _, _, rfl, ?_, ⟨_, rfl⟩, hW, hsame.mono (by decide) (by decide)⟩
                            show Q_rmPin Z a kl c0 c1 c2 c3 c4 c5 c6 c7 h0 n0 _ s₁.heap _
                            rw [e0]
                            exact ⟨_, rfl, by exact own_back ((own_sC hc13 hc21).trans ((own_sC hc13_1 hc21_1).trans ((own_sC hc13_2 hc21_2).trans ((own_sC hc13_3 hc21_3).trans ((own_sA hc13_4).trans ((own_tA hc42).trans ((own_tA hc42_1).trans ((own_tA hc42_2).trans ((own_tA hc42_3).trans (rfl)))))))))), N0, rfl⟩
                          · refine own_go (fun _ => XS.icmpNo X0.here hx rfl (hb hby d3_42) rfl (feq hc42_3).1) ?_
                            show own_Ends p e below s₁ (mkF m 45 #[.val (.ref a), .val (.int (4 : Int32)), .val (.int (7 : Int32))] []) _
                            refine own_go (fun _ => XS.iconst X0.here hx rfl (hb hby d3_45)) ?_
                            show own_Ends p e below s₁ (mkF m 46 #[.val (.ref a), .val (.int (4 : Int32)), .val (.int (7 : Int32))] [(.int (0 : Int32))]) _
                            obtain ⟨fs, hr, hrun, hended, hW, hsame⟩ := X0.leave (v := some (.int (0 : Int32))) (fun h => by rw [Bd.returns] at h; cases h)
                            refine ⟨_, _, retN X0 hx (t := .boolean) Bd.returns (by simp) (hb hby d3_46) hr, hrun, hended, _, _, rfl, ?_, ⟨_, rfl⟩, hW, hsame.mono (by decide) (by decide)⟩
                            show Q_rmPin Z a kl c0 c1 c2 c3 c4 c5 c6 c7 h0 n0 _ s₁.heap _
                            rw [e0]
                            exact ⟨_, rfl, by exact own_back ((own_sC hc13 hc21).trans ((own_sC hc13_1 hc21_1).trans ((own_sC hc13_2 hc21_2).trans ((own_sC hc13_3 hc21_3).trans ((own_sA hc13_4).trans ((own_tA hc42).trans ((own_tA hc42_1).trans ((own_tA hc42_2).trans (own_tB hc42_3))))))))), N0, rfl⟩
                        · refine own_go (fun _ => XS.icmpNo X0.here hx rfl (hb hby d3_42) rfl (feq hc42_2).1) ?_
                          show own_Ends p e below s₁ (mkF m 45 #[.val (.ref a), .val (.int (4 : Int32)), .val (.int (6 : Int32))] []) _
                          refine own_go (fun _ => XS.iconst X0.here hx rfl (hb hby d3_45)) ?_
                          show own_Ends p e below s₁ (mkF m 46 #[.val (.ref a), .val (.int (4 : Int32)), .val (.int (6 : Int32))] [(.int (0 : Int32))]) _
                          obtain ⟨fs, hr, hrun, hended, hW, hsame⟩ := X0.leave (v := some (.int (0 : Int32))) (fun h => by rw [Bd.returns] at h; cases h)
                          refine ⟨_, _, retN X0 hx (t := .boolean) Bd.returns (by simp) (hb hby d3_46) hr, hrun, hended, _, _, rfl, ?_, ⟨_, rfl⟩, hW, hsame.mono (by decide) (by decide)⟩
                          show Q_rmPin Z a kl c0 c1 c2 c3 c4 c5 c6 c7 h0 n0 _ s₁.heap _
                          rw [e0]
                          exact ⟨_, rfl, by exact own_back ((own_sC hc13 hc21).trans ((own_sC hc13_1 hc21_1).trans ((own_sC hc13_2 hc21_2).trans ((own_sC hc13_3 hc21_3).trans ((own_sA hc13_4).trans ((own_tA hc42).trans ((own_tA hc42_1).trans (own_tB hc42_2)))))))), N0, rfl⟩
                      · refine own_go (fun _ => XS.icmpNo X0.here hx rfl (hb hby d3_42) rfl (feq hc42_1).1) ?_
                        show own_Ends p e below s₁ (mkF m 45 #[.val (.ref a), .val (.int (4 : Int32)), .val (.int (5 : Int32))] []) _
                        refine own_go (fun _ => XS.iconst X0.here hx rfl (hb hby d3_45)) ?_
                        show own_Ends p e below s₁ (mkF m 46 #[.val (.ref a), .val (.int (4 : Int32)), .val (.int (5 : Int32))] [(.int (0 : Int32))]) _
                        obtain ⟨fs, hr, hrun, hended, hW, hsame⟩ := X0.leave (v := some (.int (0 : Int32))) (fun h => by rw [Bd.returns] at h; cases h)
                        refine ⟨_, _, retN X0 hx (t := .boolean) Bd.returns (by simp) (hb hby d3_46) hr, hrun, hended, _, _, rfl, ?_, ⟨_, rfl⟩, hW, hsame.mono (by decide) (by decide)⟩
                        show Q_rmPin Z a kl c0 c1 c2 c3 c4 c5 c6 c7 h0 n0 _ s₁.heap _
                        rw [e0]
                        exact ⟨_, rfl, by exact own_back ((own_sC hc13 hc21).trans ((own_sC hc13_1 hc21_1).trans ((own_sC hc13_2 hc21_2).trans ((own_sC hc13_3 hc21_3).trans ((own_sA hc13_4).trans ((own_tA hc42).trans (own_tB hc42_1))))))), N0, rfl⟩
                    · refine own_go (fun _ => XS.icmpNo X0.here hx rfl (hb hby d3_42) rfl (feq hc42).1) ?_
                      show own_Ends p e below s₁ (mkF m 45 #[.val (.ref a), .val (.int (4 : Int32)), .val (.int (4 : Int32))] []) _
                      refine own_go (fun _ => XS.iconst X0.here hx rfl (hb hby d3_45)) ?_
                      show own_Ends p e below s₁ (mkF m 46 #[.val (.ref a), .val (.int (4 : Int32)), .val (.int (4 : Int32))] [(.int (0 : Int32))]) _
                      obtain ⟨fs, hr, hrun, hended, hW, hsame⟩ := X0.leave (v := some (.int (0 : Int32))) (fun h => by rw [Bd.returns] at h; cases h)
                      refine ⟨_, _, retN X0 hx (t := .boolean) Bd.returns (by simp) (hb hby d3_46) hr, hrun, hended, _, _, rfl, ?_, ⟨_, rfl⟩, hW, hsame.mono (by decide) (by decide)⟩
                      show Q_rmPin Z a kl c0 c1 c2 c3 c4 c5 c6 c7 h0 n0 _ s₁.heap _
                      rw [e0]
                      exact ⟨_, rfl, by exact own_back ((own_sC hc13 hc21).trans ((own_sC hc13_1 hc21_1).trans ((own_sC hc13_2 hc21_2).trans ((own_sC hc13_3 hc21_3).trans ((own_sA hc13_4).trans (own_tB hc42)))))), N0, rfl⟩
                  · refine own_go (fun _ => XS.icmpNo X0.here hx rfl (hb hby d3_13) rfl (flt hc13_4).1) ?_
                    show own_Ends p e below s₁ (mkF m 16 #[.val (.ref a), .val (.int (4 : Int32)), .unset] []) _
                    refine own_go (fun _ => XS.aloadN X0.here hx rfl (hb hby d3_16) rfl rfl) ?_
                    show own_Ends p e below s₁ (mkF m 17 #[.val (.ref a), .val (.int (4 : Int32)), .unset] [(.ref a)]) _
                    refine own_go (fun _ => XS.iloadN X0.here hx rfl (hb hby d3_17) rfl) ?_
                    show own_Ends p e below s₁ (mkF m 18 #[.val (.ref a), .val (.int (4 : Int32)), .unset] [(.int (4 : Int32)), (.ref a)]) _
                    obtain ⟨cl_66, Ar_66, q_66, S_66, M_66, H_66, G_66⟩ := V_a_r61
                    have hin66 : ¬ ((4 : Int32) < 0 ∨ cl_66.slots.size ≤ ((4 : Int32)).toNatClampNeg) := inb_of S_66 ⟨by decide, by decide⟩
                    have hat66 : cl_66.slots[((4 : Int32)).toNatClampNeg]? = some (.int c4) := Has.at H_66 hin66 (rfl)
                    refine own_go (X0.baloadBytes hx (j := (4 : Int32)) (v := (.int c4)) (by rw [e0]; exact Ar_66.1) (State.isArrayOf_alike hZ.alike Ar_66.2.1) Ar_66.2.2 hin66 hat66 (g := (mkF m 18 #[.val (.ref a), .val (.int (4 : Int32)), .unset] [(.int (4 : Int32)), (.ref a)])) rfl rfl (hb hby d3_18)) ?_
                    have V_a_r66 : Arv Z h0 a kl .byte (8 : Int32) [(.int c0), (.int c1), (.int c2), (.int c3), (.int c4), (.int c5), (.int c6), (.int c7)] (.int (0 : Int32)) := ⟨cl_66, Ar_66, q_66, S_66, M_66, H_66, G_66⟩
                    show own_Ends p e below s₁ (mkF m 19 #[.val (.ref a), .val (.int (4 : Int32)), .unset] [(.int c4)]) _
                    refine own_go (fun _ => XS.bipush X0.here hx rfl (hb hby d3_19)) ?_
                    show own_Ends p e below s₁ (mkF m 21 #[.val (.ref a), .val (.int (4 : Int32)), .unset] [(.int (57 : Int32)), (.int c4)]) _
                    by_cases hc21_4 : (57 : Int32) < c4
                    · refine own_go (fun _ => XS.icmpYes X0.here hx rfl (pc0 := 21) (pc' := 30) rfl (hb hby d3_21) rfl (tlt hc21_4).2.2.1 (by decide) (by decide)) ?_
                      show own_Ends p e below s₁ (mkF m 30 #[.val (.ref a), .val (.int (4 : Int32)), .unset] []) _
                      refine own_go (fun _ => XS.iloadN X0.here hx rfl (hb hby d3_30) rfl) ?_
                      show own_Ends p e below s₁ (mkF m 31 #[.val (.ref a), .val (.int (4 : Int32)), .unset] [(.int (4 : Int32))]) _
                      refine own_go (fun _ => XS.istoreN X0.here hx rfl (hb hby d3_31) rfl (l' := #[.val (.ref a), .val (.int (4 : Int32)), .val (.int (4 : Int32))]) rfl) ?_
                      show own_Ends p e below s₁ (mkF m 32 #[.val (.ref a), .val (.int (4 : Int32)), .val (.int (4 : Int32))] []) _
                      refine own_go (fun _ => XS.iloadN X0.here hx rfl (hb hby d3_32) rfl) ?_
                      show own_Ends p e below s₁ (mkF m 33 #[.val (.ref a), .val (.int (4 : Int32)), .val (.int (4 : Int32))] [(.int (4 : Int32))]) _
                      refine own_go (fun _ => XS.bipush X0.here hx rfl (hb hby d3_33)) ?_
                      show own_Ends p e below s₁ (mkF m 35 #[.val (.ref a), .val (.int (4 : Int32)), .val (.int (4 : Int32))] [(.int (8 : Int32)), (.int (4 : Int32))]) _
                      refine own_go (fun _ => XS.icmpNo X0.here hx rfl (hb hby d3_35) rfl (tlt (show (4 : Int32) < (8 : Int32) from by decide)).2.1) ?_
                      show own_Ends p e below s₁ (mkF m 38 #[.val (.ref a), .val (.int (4 : Int32)), .val (.int (4 : Int32))] []) _
                      refine own_go (fun _ => XS.aloadN X0.here hx rfl (hb hby d3_38) rfl rfl) ?_
                      show own_Ends p e below s₁ (mkF m 39 #[.val (.ref a), .val (.int (4 : Int32)), .val (.int (4 : Int32))] [(.ref a)]) _
                      refine own_go (fun _ => XS.iloadN X0.here hx rfl (hb hby d3_39) rfl) ?_
                      show own_Ends p e below s₁ (mkF m 40 #[.val (.ref a), .val (.int (4 : Int32)), .val (.int (4 : Int32))] [(.int (4 : Int32)), (.ref a)]) _
                      obtain ⟨cl_67, Ar_67, q_67, S_67, M_67, H_67, G_67⟩ := V_a_r66
                      have hin67 : ¬ ((4 : Int32) < 0 ∨ cl_67.slots.size ≤ ((4 : Int32)).toNatClampNeg) := inb_of S_67 ⟨by decide, by decide⟩
                      have hat67 : cl_67.slots[((4 : Int32)).toNatClampNeg]? = some (.int c4) := Has.at H_67 hin67 (rfl)
                      refine own_go (X0.baloadBytes hx (j := (4 : Int32)) (v := (.int c4)) (by rw [e0]; exact Ar_67.1) (State.isArrayOf_alike hZ.alike Ar_67.2.1) Ar_67.2.2 hin67 hat67 (g := (mkF m 40 #[.val (.ref a), .val (.int (4 : Int32)), .val (.int (4 : Int32))] [(.int (4 : Int32)), (.ref a)])) rfl rfl (hb hby d3_40)) ?_
                      have V_a_r67 : Arv Z h0 a kl .byte (8 : Int32) [(.int c0), (.int c1), (.int c2), (.int c3), (.int c4), (.int c5), (.int c6), (.int c7)] (.int (0 : Int32)) := ⟨cl_67, Ar_67, q_67, S_67, M_67, H_67, G_67⟩
                      show own_Ends p e below s₁ (mkF m 41 #[.val (.ref a), .val (.int (4 : Int32)), .val (.int (4 : Int32))] [(.int c4)]) _
                      refine own_go (fun _ => XS.iconst X0.here hx rfl (hb hby d3_41)) ?_
                      show own_Ends p e below s₁ (mkF m 42 #[.val (.ref a), .val (.int (4 : Int32)), .val (.int (4 : Int32))] [(.int (-1 : Int32)), (.int c4)]) _
                      by_cases hc42 : c4 = (-1 : Int32)
                      · refine own_go (fun _ => XS.icmpYes X0.here hx rfl (pc0 := 42) (pc' := 47) rfl (hb hby d3_42) rfl (teq hc42).1 (by decide) (by decide)) ?_
                        show own_Ends p e below s₁ (mkF m 47 #[.val (.ref a), .val (.int (4 : Int32)), .val (.int (4 : Int32))] []) _
                        refine own_go (fun _ => XS.iinc X0.here hx rfl (hb hby d3_47) rfl (l' := #[.val (.ref a), .val (.int (4 : Int32)), .val (.int (5 : Int32))]) rfl) ?_
                        show own_Ends p e below s₁ (mkF m 50 #[.val (.ref a), .val (.int (4 : Int32)), .val (.int (5 : Int32))] []) _
                        refine own_go (fun _ => XS.goto X0.here hx rfl (pc0 := 50) (pc' := 32) rfl (hb hby d3_50) (by decide) (by decide)) ?_
                        show own_Ends p e below s₁ (mkF m 32 #[.val (.ref a), .val (.int (4 : Int32)), .val (.int (5 : Int32))] []) _
                        refine own_go (fun _ => XS.iloadN X0.here hx rfl (hb hby d3_32) rfl) ?_
                        show own_Ends p e below s₁ (mkF m 33 #[.val (.ref a), .val (.int (4 : Int32)), .val (.int (5 : Int32))] [(.int (5 : Int32))]) _
                        refine own_go (fun _ => XS.bipush X0.here hx rfl (hb hby d3_33)) ?_
                        show own_Ends p e below s₁ (mkF m 35 #[.val (.ref a), .val (.int (4 : Int32)), .val (.int (5 : Int32))] [(.int (8 : Int32)), (.int (5 : Int32))]) _
                        refine own_go (fun _ => XS.icmpNo X0.here hx rfl (hb hby d3_35) rfl (tlt (show (5 : Int32) < (8 : Int32) from by decide)).2.1) ?_
                        show own_Ends p e below s₁ (mkF m 38 #[.val (.ref a), .val (.int (4 : Int32)), .val (.int (5 : Int32))] []) _
                        refine own_go (fun _ => XS.aloadN X0.here hx rfl (hb hby d3_38) rfl rfl) ?_
                        show own_Ends p e below s₁ (mkF m 39 #[.val (.ref a), .val (.int (4 : Int32)), .val (.int (5 : Int32))] [(.ref a)]) _
                        refine own_go (fun _ => XS.iloadN X0.here hx rfl (hb hby d3_39) rfl) ?_
                        show own_Ends p e below s₁ (mkF m 40 #[.val (.ref a), .val (.int (4 : Int32)), .val (.int (5 : Int32))] [(.int (5 : Int32)), (.ref a)]) _
                        obtain ⟨cl_68, Ar_68, q_68, S_68, M_68, H_68, G_68⟩ := V_a_r67
                        have hin68 : ¬ ((5 : Int32) < 0 ∨ cl_68.slots.size ≤ ((5 : Int32)).toNatClampNeg) := inb_of S_68 ⟨by decide, by decide⟩
                        have hat68 : cl_68.slots[((5 : Int32)).toNatClampNeg]? = some (.int c5) := Has.at H_68 hin68 (rfl)
                        refine own_go (X0.baloadBytes hx (j := (5 : Int32)) (v := (.int c5)) (by rw [e0]; exact Ar_68.1) (State.isArrayOf_alike hZ.alike Ar_68.2.1) Ar_68.2.2 hin68 hat68 (g := (mkF m 40 #[.val (.ref a), .val (.int (4 : Int32)), .val (.int (5 : Int32))] [(.int (5 : Int32)), (.ref a)])) rfl rfl (hb hby d3_40)) ?_
                        have V_a_r68 : Arv Z h0 a kl .byte (8 : Int32) [(.int c0), (.int c1), (.int c2), (.int c3), (.int c4), (.int c5), (.int c6), (.int c7)] (.int (0 : Int32)) := ⟨cl_68, Ar_68, q_68, S_68, M_68, H_68, G_68⟩
                        show own_Ends p e below s₁ (mkF m 41 #[.val (.ref a), .val (.int (4 : Int32)), .val (.int (5 : Int32))] [(.int c5)]) _
                        refine own_go (fun _ => XS.iconst X0.here hx rfl (hb hby d3_41)) ?_
                        show own_Ends p e below s₁ (mkF m 42 #[.val (.ref a), .val (.int (4 : Int32)), .val (.int (5 : Int32))] [(.int (-1 : Int32)), (.int c5)]) _
                        by_cases hc42_1 : c5 = (-1 : Int32)
                        · refine own_go (fun _ => XS.icmpYes X0.here hx rfl (pc0 := 42) (pc' := 47) rfl (hb hby d3_42) rfl (teq hc42_1).1 (by decide) (by decide)) ?_
                          show own_Ends p e below s₁ (mkF m 47 #[.val (.ref a), .val (.int (4 : Int32)), .val (.int (5 : Int32))] []) _
                          refine own_go (fun _ => XS.iinc X0.here hx rfl (hb hby d3_47) rfl (l' := #[.val (.ref a), .val (.int (4 : Int32)), .val (.int (6 : Int32))]) rfl) ?_
                          show own_Ends p e below s₁ (mkF m 50 #[.val (.ref a), .val (.int (4 : Int32)), .val (.int (6 : Int32))] []) _
                          refine own_go (fun _ => XS.goto X0.here hx rfl (pc0 := 50) (pc' := 32) rfl (hb hby d3_50) (by decide) (by decide)) ?_
                          show own_Ends p e below s₁ (mkF m 32 #[.val (.ref a), .val (.int (4 : Int32)), .val (.int (6 : Int32))] []) _
                          refine own_go (fun _ => XS.iloadN X0.here hx rfl (hb hby d3_32) rfl) ?_
                          show own_Ends p e below s₁ (mkF m 33 #[.val (.ref a), .val (.int (4 : Int32)), .val (.int (6 : Int32))] [(.int (6 : Int32))]) _
                          refine own_go (fun _ => XS.bipush X0.here hx rfl (hb hby d3_33)) ?_
                          show own_Ends p e below s₁ (mkF m 35 #[.val (.ref a), .val (.int (4 : Int32)), .val (.int (6 : Int32))] [(.int (8 : Int32)), (.int (6 : Int32))]) _
                          refine own_go (fun _ => XS.icmpNo X0.here hx rfl (hb hby d3_35) rfl (tlt (show (6 : Int32) < (8 : Int32) from by decide)).2.1) ?_
                          show own_Ends p e below s₁ (mkF m 38 #[.val (.ref a), .val (.int (4 : Int32)), .val (.int (6 : Int32))] []) _
                          refine own_go (fun _ => XS.aloadN X0.here hx rfl (hb hby d3_38) rfl rfl) ?_
                          show own_Ends p e below s₁ (mkF m 39 #[.val (.ref a), .val (.int (4 : Int32)), .val (.int (6 : Int32))] [(.ref a)]) _
                          refine own_go (fun _ => XS.iloadN X0.here hx rfl (hb hby d3_39) rfl) ?_
                          show own_Ends p e below s₁ (mkF m 40 #[.val (.ref a), .val (.int (4 : Int32)), .val (.int (6 : Int32))] [(.int (6 : Int32)), (.ref a)]) _
                          obtain ⟨cl_69, Ar_69, q_69, S_69, M_69, H_69, G_69⟩ := V_a_r68
                          have hin69 : ¬ ((6 : Int32) < 0 ∨ cl_69.slots.size ≤ ((6 : Int32)).toNatClampNeg) := inb_of S_69 ⟨by decide, by decide⟩
                          have hat69 : cl_69.slots[((6 : Int32)).toNatClampNeg]? = some (.int c6) := Has.at H_69 hin69 (rfl)
                          refine own_go (X0.baloadBytes hx (j := (6 : Int32)) (v := (.int c6)) (by rw [e0]; exact Ar_69.1) (State.isArrayOf_alike hZ.alike Ar_69.2.1) Ar_69.2.2 hin69 hat69 (g := (mkF m 40 #[.val (.ref a), .val (.int (4 : Int32)), .val (.int (6 : Int32))] [(.int (6 : Int32)), (.ref a)])) rfl rfl (hb hby d3_40)) ?_
                          have V_a_r69 : Arv Z h0 a kl .byte (8 : Int32) [(.int c0), (.int c1), (.int c2), (.int c3), (.int c4), (.int c5), (.int c6), (.int c7)] (.int (0 : Int32)) := ⟨cl_69, Ar_69, q_69, S_69, M_69, H_69, G_69⟩
                          show own_Ends p e below s₁ (mkF m 41 #[.val (.ref a), .val (.int (4 : Int32)), .val (.int (6 : Int32))] [(.int c6)]) _
                          refine own_go (fun _ => XS.iconst X0.here hx rfl (hb hby d3_41)) ?_
                          show own_Ends p e below s₁ (mkF m 42 #[.val (.ref a), .val (.int (4 : Int32)), .val (.int (6 : Int32))] [(.int (-1 : Int32)), (.int c6)]) _
                          by_cases hc42_2 : c6 = (-1 : Int32)
                          · refine own_go (fun _ => XS.icmpYes X0.here hx rfl (pc0 := 42) (pc' := 47) rfl (hb hby d3_42) rfl (teq hc42_2).1 (by decide) (by decide)) ?_
                            show own_Ends p e below s₁ (mkF m 47 #[.val (.ref a), .val (.int (4 : Int32)), .val (.int (6 : Int32))] []) _
                            refine own_go (fun _ => XS.iinc X0.here hx rfl (hb hby d3_47) rfl (l' := #[.val (.ref a), .val (.int (4 : Int32)), .val (.int (7 : Int32))]) rfl) ?_
                            show own_Ends p e below s₁ (mkF m 50 #[.val (.ref a), .val (.int (4 : Int32)), .val (.int (7 : Int32))] []) _
                            refine own_go (fun _ => XS.goto X0.here hx rfl (pc0 := 50) (pc' := 32) rfl (hb hby d3_50) (by decide) (by decide)) ?_
                            show own_Ends p e below s₁ (mkF m 32 #[.val (.ref a), .val (.int (4 : Int32)), .val (.int (7 : Int32))] []) _
                            refine own_go (fun _ => XS.iloadN X0.here hx rfl (hb hby d3_32) rfl) ?_
                            show own_Ends p e below s₁ (mkF m 33 #[.val (.ref a), .val (.int (4 : Int32)), .val (.int (7 : Int32))] [(.int (7 : Int32))]) _
                            refine own_go (fun _ => XS.bipush X0.here hx rfl (hb hby d3_33)) ?_
                            show own_Ends p e below s₁ (mkF m 35 #[.val (.ref a), .val (.int (4 : Int32)), .val (.int (7 : Int32))] [(.int (8 : Int32)), (.int (7 : Int32))]) _
                            refine own_go (fun _ => XS.icmpNo X0.here hx rfl (hb hby d3_35) rfl (tlt (show (7 : Int32) < (8 : Int32) from by decide)).2.1) ?_
                            show own_Ends p e below s₁ (mkF m 38 #[.val (.ref a), .val (.int (4 : Int32)), .val (.int (7 : Int32))] []) _
                            refine own_go (fun _ => XS.aloadN X0.here hx rfl (hb hby d3_38) rfl rfl) ?_
                            show own_Ends p e below s₁ (mkF m 39 #[.val (.ref a), .val (.int (4 : Int32)), .val (.int (7 : Int32))] [(.ref a)]) _
                            refine own_go (fun _ => XS.iloadN X0.here hx rfl (hb hby d3_39) rfl) ?_
                            show own_Ends p e below s₁ (mkF m 40 #[.val (.ref a), .val (.int (4 : Int32)), .val (.int (7 : Int32))] [(.int (7 : Int32)), (.ref a)]) _
                            obtain ⟨cl_70, Ar_70, q_70, S_70, M_70, H_70, G_70⟩ := V_a_r69
                            have hin70 : ¬ ((7 : Int32) < 0 ∨ cl_70.slots.size ≤ ((7 : Int32)).toNatClampNeg) := inb_of S_70 ⟨by decide, by decide⟩
                            have hat70 : cl_70.slots[((7 : Int32)).toNatClampNeg]? = some (.int c7) := Has.at H_70 hin70 (rfl)
                            refine own_go (X0.baloadBytes hx (j := (7 : Int32)) (v := (.int c7)) (by rw [e0]; exact Ar_70.1) (State.isArrayOf_alike hZ.alike Ar_70.2.1) Ar_70.2.2 hin70 hat70 (g := (mkF m 40 #[.val (.ref a), .val (.int (4 : Int32)), .val (.int (7 : Int32))] [(.int (7 : Int32)), (.ref a)])) rfl rfl (hb hby d3_40)) ?_
                            have V_a_r70 : Arv Z h0 a kl .byte (8 : Int32) [(.int c0), (.int c1), (.int c2), (.int c3), (.int c4), (.int c5), (.int c6), (.int c7)] (.int (0 : Int32)) := ⟨cl_70, Ar_70, q_70, S_70, M_70, H_70, G_70⟩
                            show own_Ends p e below s₁ (mkF m 41 #[.val (.ref a), .val (.int (4 : Int32)), .val (.int (7 : Int32))] [(.int c7)]) _
                            refine own_go (fun _ => XS.iconst X0.here hx rfl (hb hby d3_41)) ?_
                            show own_Ends p e below s₁ (mkF m 42 #[.val (.ref a), .val (.int (4 : Int32)), .val (.int (7 : Int32))] [(.int (-1 : Int32)), (.int c7)]) _
                            by_cases hc42_3 : c7 = (-1 : Int32)
                            · refine own_go (fun _ => XS.icmpYes X0.here hx rfl (pc0 := 42) (pc' := 47) rfl (hb hby d3_42) rfl (teq hc42_3).1 (by decide) (by decide)) ?_
                              show own_Ends p e below s₁ (mkF m 47 #[.val (.ref a), .val (.int (4 : Int32)), .val (.int (7 : Int32))] []) _
                              refine own_go (fun _ => XS.iinc X0.here hx rfl (hb hby d3_47) rfl (l' := #[.val (.ref a), .val (.int (4 : Int32)), .val (.int (8 : Int32))]) rfl) ?_
                              show own_Ends p e below s₁ (mkF m 50 #[.val (.ref a), .val (.int (4 : Int32)), .val (.int (8 : Int32))] []) _
                              refine own_go (fun _ => XS.goto X0.here hx rfl (pc0 := 50) (pc' := 32) rfl (hb hby d3_50) (by decide) (by decide)) ?_
                              show own_Ends p e below s₁ (mkF m 32 #[.val (.ref a), .val (.int (4 : Int32)), .val (.int (8 : Int32))] []) _
                              refine own_go (fun _ => XS.iloadN X0.here hx rfl (hb hby d3_32) rfl) ?_
                              show own_Ends p e below s₁ (mkF m 33 #[.val (.ref a), .val (.int (4 : Int32)), .val (.int (8 : Int32))] [(.int (8 : Int32))]) _
                              refine own_go (fun _ => XS.bipush X0.here hx rfl (hb hby d3_33)) ?_
                              show own_Ends p e below s₁ (mkF m 35 #[.val (.ref a), .val (.int (4 : Int32)), .val (.int (8 : Int32))] [(.int (8 : Int32)), (.int (8 : Int32))]) _
                              refine own_go (fun _ => XS.icmpYes X0.here hx rfl (pc0 := 35) (pc' := 53) rfl (hb hby d3_35) rfl (flt (show ¬ ((8 : Int32) < (8 : Int32)) from by decide)).2.1 (by decide) (by decide)) ?_
                              show own_Ends p e below s₁ (mkF m 53 #[.val (.ref a), .val (.int (4 : Int32)), .val (.int (8 : Int32))] []) _
                              refine own_go (fun _ => XS.iloadN X0.here hx rfl (hb hby d3_53) rfl) ?_
                              show own_Ends p e below s₁ (mkF m 54 #[.val (.ref a), .val (.int (4 : Int32)), .val (.int (8 : Int32))] [(.int (4 : Int32))]) _
                              refine own_go (fun _ => XS.iconst X0.here hx rfl (hb hby d3_54)) ?_
                              show own_Ends p e below s₁ (mkF m 55 #[.val (.ref a), .val (.int (4 : Int32)), .val (.int (8 : Int32))] [(.int (4 : Int32)), (.int (4 : Int32))]) _
                              refine own_go (fun _ => XS.icmpNo X0.here hx rfl (hb hby d3_55) rfl (flt (show ¬ ((4 : Int32) < (4 : Int32)) from by decide)).1) ?_
                              show own_Ends p e below s₁ (mkF m 58 #[.val (.ref a), .val (.int (4 : Int32)), .val (.int (8 : Int32))] []) _
                              refine own_go (fun _ => XS.iconst X0.here hx rfl (hb hby d3_58)) ?_
                              show own_Ends p e below s₁ (mkF m 59 #[.val (.ref a), .val (.int (4 : Int32)), .val (.int (8 : Int32))] [(.int (1 : Int32))]) _
                              refine own_go (fun _ => XS.goto X0.here hx rfl (pc0 := 59) (pc' := 63) rfl (hb hby d3_59) (by decide) (by decide)) ?_
                              show own_Ends p e below s₁ (mkF m 63 #[.val (.ref a), .val (.int (4 : Int32)), .val (.int (8 : Int32))] [(.int (1 : Int32))]) _
                              obtain ⟨fs, hr, hrun, hended, hW, hsame⟩ := X0.leave (v := some (.int (1 : Int32))) (fun h => by rw [Bd.returns] at h; cases h)
                              refine ⟨_, _, retN X0 hx (t := .boolean) Bd.returns (by simp) (hb hby d3_63) hr, hrun, hended, _, _, rfl, ?_, ⟨_, rfl⟩, hW, hsame.mono (by decide) (by decide)⟩
                              show Q_rmPin Z a kl c0 c1 c2 c3 c4 c5 c6 c7 h0 n0 _ s₁.heap _
                              rw [e0]
                              exact ⟨_, rfl, by exact own_back ((own_sC hc13 hc21).trans ((own_sC hc13_1 hc21_1).trans ((own_sC hc13_2 hc21_2).trans ((own_sC hc13_3 hc21_3).trans ((own_sB hc13_4 hc21_4).trans ((own_tA hc42).trans ((own_tA hc42_1).trans ((own_tA hc42_2).trans ((own_tA hc42_3).trans (rfl)))))))))), N0, rfl⟩
                            · refine own_go (fun _ => XS.icmpNo X0.here hx rfl (hb hby d3_42) rfl (feq hc42_3).1) ?_
                              show own_Ends p e below s₁ (mkF m 45 #[.val (.ref a), .val (.int (4 : Int32)), .val (.int (7 : Int32))] []) _
                              refine own_go (fun _ => XS.iconst X0.here hx rfl (hb hby d3_45)) ?_
                              show own_Ends p e below s₁ (mkF m 46 #[.val (.ref a), .val (.int (4 : Int32)), .val (.int (7 : Int32))] [(.int (0 : Int32))]) _
                              obtain ⟨fs, hr, hrun, hended, hW, hsame⟩ := X0.leave (v := some (.int (0 : Int32))) (fun h => by rw [Bd.returns] at h; cases h)
                              refine ⟨_, _, retN X0 hx (t := .boolean) Bd.returns (by simp) (hb hby d3_46) hr, hrun, hended, _, _, rfl, ?_, ⟨_, rfl⟩, hW, hsame.mono (by decide) (by decide)⟩
                              show Q_rmPin Z a kl c0 c1 c2 c3 c4 c5 c6 c7 h0 n0 _ s₁.heap _
                              rw [e0]
                              exact ⟨_, rfl, by exact own_back ((own_sC hc13 hc21).trans ((own_sC hc13_1 hc21_1).trans ((own_sC hc13_2 hc21_2).trans ((own_sC hc13_3 hc21_3).trans ((own_sB hc13_4 hc21_4).trans ((own_tA hc42).trans ((own_tA hc42_1).trans ((own_tA hc42_2).trans (own_tB hc42_3))))))))), N0, rfl⟩
                          · refine own_go (fun _ => XS.icmpNo X0.here hx rfl (hb hby d3_42) rfl (feq hc42_2).1) ?_
                            show own_Ends p e below s₁ (mkF m 45 #[.val (.ref a), .val (.int (4 : Int32)), .val (.int (6 : Int32))] []) _
                            refine own_go (fun _ => XS.iconst X0.here hx rfl (hb hby d3_45)) ?_
                            show own_Ends p e below s₁ (mkF m 46 #[.val (.ref a), .val (.int (4 : Int32)), .val (.int (6 : Int32))] [(.int (0 : Int32))]) _
                            obtain ⟨fs, hr, hrun, hended, hW, hsame⟩ := X0.leave (v := some (.int (0 : Int32))) (fun h => by rw [Bd.returns] at h; cases h)
                            refine ⟨_, _, retN X0 hx (t := .boolean) Bd.returns (by simp) (hb hby d3_46) hr, hrun, hended, _, _, rfl, ?_, ⟨_, rfl⟩, hW, hsame.mono (by decide) (by decide)⟩
                            show Q_rmPin Z a kl c0 c1 c2 c3 c4 c5 c6 c7 h0 n0 _ s₁.heap _
                            rw [e0]
                            exact ⟨_, rfl, by exact own_back ((own_sC hc13 hc21).trans ((own_sC hc13_1 hc21_1).trans ((own_sC hc13_2 hc21_2).trans ((own_sC hc13_3 hc21_3).trans ((own_sB hc13_4 hc21_4).trans ((own_tA hc42).trans ((own_tA hc42_1).trans (own_tB hc42_2)))))))), N0, rfl⟩
                        · refine own_go (fun _ => XS.icmpNo X0.here hx rfl (hb hby d3_42) rfl (feq hc42_1).1) ?_
                          show own_Ends p e below s₁ (mkF m 45 #[.val (.ref a), .val (.int (4 : Int32)), .val (.int (5 : Int32))] []) _
                          refine own_go (fun _ => XS.iconst X0.here hx rfl (hb hby d3_45)) ?_
                          show own_Ends p e below s₁ (mkF m 46 #[.val (.ref a), .val (.int (4 : Int32)), .val (.int (5 : Int32))] [(.int (0 : Int32))]) _
                          obtain ⟨fs, hr, hrun, hended, hW, hsame⟩ := X0.leave (v := some (.int (0 : Int32))) (fun h => by rw [Bd.returns] at h; cases h)
                          refine ⟨_, _, retN X0 hx (t := .boolean) Bd.returns (by simp) (hb hby d3_46) hr, hrun, hended, _, _, rfl, ?_, ⟨_, rfl⟩, hW, hsame.mono (by decide) (by decide)⟩
                          show Q_rmPin Z a kl c0 c1 c2 c3 c4 c5 c6 c7 h0 n0 _ s₁.heap _
                          rw [e0]
                          exact ⟨_, rfl, by exact own_back ((own_sC hc13 hc21).trans ((own_sC hc13_1 hc21_1).trans ((own_sC hc13_2 hc21_2).trans ((own_sC hc13_3 hc21_3).trans ((own_sB hc13_4 hc21_4).trans ((own_tA hc42).trans (own_tB hc42_1))))))), N0, rfl⟩
                      · refine own_go (fun _ => XS.icmpNo X0.here hx rfl (hb hby d3_42) rfl (feq hc42).1) ?_
                        show own_Ends p e below s₁ (mkF m 45 #[.val (.ref a), .val (.int (4 : Int32)), .val (.int (4 : Int32))] []) _
                        refine own_go (fun _ => XS.iconst X0.here hx rfl (hb hby d3_45)) ?_
                        show own_Ends p e below s₁ (mkF m 46 #[.val (.ref a), .val (.int (4 : Int32)), .val (.int (4 : Int32))] [(.int (0 : Int32))]) _
                        obtain ⟨fs, hr, hrun, hended, hW, hsame⟩ := X0.leave (v := some (.int (0 : Int32))) (fun h => by rw [Bd.returns] at h; cases h)
                        refine ⟨_, _, retN X0 hx (t := .boolean) Bd.returns (by simp) (hb hby d3_46) hr, hrun, hended, _, _, rfl, ?_, ⟨_, rfl⟩, hW, hsame.mono (by decide) (by decide)⟩
                        show Q_rmPin Z a kl c0 c1 c2 c3 c4 c5 c6 c7 h0 n0 _ s₁.heap _
                        rw [e0]
                        exact ⟨_, rfl, by exact own_back ((own_sC hc13 hc21).trans ((own_sC hc13_1 hc21_1).trans ((own_sC hc13_2 hc21_2).trans ((own_sC hc13_3 hc21_3).trans ((own_sB hc13_4 hc21_4).trans (own_tB hc42)))))), N0, rfl⟩
                    · refine own_go (fun _ => XS.icmpNo X0.here hx rfl (hb hby d3_21) rfl (flt hc21_4).2.2.1) ?_
                      show own_Ends p e below s₁ (mkF m 24 #[.val (.ref a), .val (.int (4 : Int32)), .unset] []) _
                      refine own_go (fun _ => XS.iinc X0.here hx rfl (hb hby d3_24) rfl (l' := #[.val (.ref a), .val (.int (5 : Int32)), .unset]) rfl) ?_
                      show own_Ends p e below s₁ (mkF m 27 #[.val (.ref a), .val (.int (5 : Int32)), .unset] []) _
                      refine own_go (fun _ => XS.goto X0.here hx rfl (pc0 := 27) (pc' := 2) rfl (hb hby d3_27) (by decide) (by decide)) ?_
                      show own_Ends p e below s₁ (mkF m 2 #[.val (.ref a), .val (.int (5 : Int32)), .unset] []) _
                      refine own_go (fun _ => XS.iloadN X0.here hx rfl (hb hby d3_2) rfl) ?_
                      show own_Ends p e below s₁ (mkF m 3 #[.val (.ref a), .val (.int (5 : Int32)), .unset] [(.int (5 : Int32))]) _
                      refine own_go (fun _ => XS.bipush X0.here hx rfl (hb hby d3_3)) ?_
                      show own_Ends p e below s₁ (mkF m 5 #[.val (.ref a), .val (.int (5 : Int32)), .unset] [(.int (8 : Int32)), (.int (5 : Int32))]) _
                      refine own_go (fun _ => XS.icmpNo X0.here hx rfl (hb hby d3_5) rfl (tlt (show (5 : Int32) < (8 : Int32) from by decide)).2.1) ?_
                      show own_Ends p e below s₁ (mkF m 8 #[.val (.ref a), .val (.int (5 : Int32)), .unset] []) _
                      refine own_go (fun _ => XS.aloadN X0.here hx rfl (hb hby d3_8) rfl rfl) ?_
                      show own_Ends p e below s₁ (mkF m 9 #[.val (.ref a), .val (.int (5 : Int32)), .unset] [(.ref a)]) _
                      refine own_go (fun _ => XS.iloadN X0.here hx rfl (hb hby d3_9) rfl) ?_
                      show own_Ends p e below s₁ (mkF m 10 #[.val (.ref a), .val (.int (5 : Int32)), .unset] [(.int (5 : Int32)), (.ref a)]) _
                      obtain ⟨cl_71, Ar_71, q_71, S_71, M_71, H_71, G_71⟩ := V_a_r66
                      have hin71 : ¬ ((5 : Int32) < 0 ∨ cl_71.slots.size ≤ ((5 : Int32)).toNatClampNeg) := inb_of S_71 ⟨by decide, by decide⟩
                      have hat71 : cl_71.slots[((5 : Int32)).toNatClampNeg]? = some (.int c5) := Has.at H_71 hin71 (rfl)
                      refine own_go (X0.baloadBytes hx (j := (5 : Int32)) (v := (.int c5)) (by rw [e0]; exact Ar_71.1) (State.isArrayOf_alike hZ.alike Ar_71.2.1) Ar_71.2.2 hin71 hat71 (g := (mkF m 10 #[.val (.ref a), .val (.int (5 : Int32)), .unset] [(.int (5 : Int32)), (.ref a)])) rfl rfl (hb hby d3_10)) ?_
                      have V_a_r71 : Arv Z h0 a kl .byte (8 : Int32) [(.int c0), (.int c1), (.int c2), (.int c3), (.int c4), (.int c5), (.int c6), (.int c7)] (.int (0 : Int32)) := ⟨cl_71, Ar_71, q_71, S_71, M_71, H_71, G_71⟩
                      show own_Ends p e below s₁ (mkF m 11 #[.val (.ref a), .val (.int (5 : Int32)), .unset] [(.int c5)]) _
                      refine own_go (fun _ => XS.bipush X0.here hx rfl (hb hby d3_11)) ?_
                      show own_Ends p e below s₁ (mkF m 13 #[.val (.ref a), .val (.int (5 : Int32)), .unset] [(.int (48 : Int32)), (.int c5)]) _
                      by_cases hc13_5 : c5 < (48 : Int32)
                      · refine own_go (fun _ => XS.icmpYes X0.here hx rfl (pc0 := 13) (pc' := 30) rfl (hb hby d3_13) rfl (tlt hc13_5).1 (by decide) (by decide)) ?_
                        show own_Ends p e below s₁ (mkF m 30 #[.val (.ref a), .val (.int (5 : Int32)), .unset] []) _
                        refine own_go (fun _ => XS.iloadN X0.here hx rfl (hb hby d3_30) rfl) ?_
                        show own_Ends p e below s₁ (mkF m 31 #[.val (.ref a), .val (.int (5 : Int32)), .unset] [(.int (5 : Int32))]) _
                        refine own_go (fun _ => XS.istoreN X0.here hx rfl (hb hby d3_31) rfl (l' := #[.val (.ref a), .val (.int (5 : Int32)), .val (.int (5 : Int32))]) rfl) ?_
                        show own_Ends p e below s₁ (mkF m 32 #[.val (.ref a), .val (.int (5 : Int32)), .val (.int (5 : Int32))] []) _
                        refine own_go (fun _ => XS.iloadN X0.here hx rfl (hb hby d3_32) rfl) ?_
                        show own_Ends p e below s₁ (mkF m 33 #[.val (.ref a), .val (.int (5 : Int32)), .val (.int (5 : Int32))] [(.int (5 : Int32))]) _
                        refine own_go (fun _ => XS.bipush X0.here hx rfl (hb hby d3_33)) ?_
                        show own_Ends p e below s₁ (mkF m 35 #[.val (.ref a), .val (.int (5 : Int32)), .val (.int (5 : Int32))] [(.int (8 : Int32)), (.int (5 : Int32))]) _
                        refine own_go (fun _ => XS.icmpNo X0.here hx rfl (hb hby d3_35) rfl (tlt (show (5 : Int32) < (8 : Int32) from by decide)).2.1) ?_
                        show own_Ends p e below s₁ (mkF m 38 #[.val (.ref a), .val (.int (5 : Int32)), .val (.int (5 : Int32))] []) _
                        refine own_go (fun _ => XS.aloadN X0.here hx rfl (hb hby d3_38) rfl rfl) ?_
                        show own_Ends p e below s₁ (mkF m 39 #[.val (.ref a), .val (.int (5 : Int32)), .val (.int (5 : Int32))] [(.ref a)]) _
                        refine own_go (fun _ => XS.iloadN X0.here hx rfl (hb hby d3_39) rfl) ?_
                        show own_Ends p e below s₁ (mkF m 40 #[.val (.ref a), .val (.int (5 : Int32)), .val (.int (5 : Int32))] [(.int (5 : Int32)), (.ref a)]) _
                        obtain ⟨cl_72, Ar_72, q_72, S_72, M_72, H_72, G_72⟩ := V_a_r71
                        have hin72 : ¬ ((5 : Int32) < 0 ∨ cl_72.slots.size ≤ ((5 : Int32)).toNatClampNeg) := inb_of S_72 ⟨by decide, by decide⟩
                        have hat72 : cl_72.slots[((5 : Int32)).toNatClampNeg]? = some (.int c5) := Has.at H_72 hin72 (rfl)
                        refine own_go (X0.baloadBytes hx (j := (5 : Int32)) (v := (.int c5)) (by rw [e0]; exact Ar_72.1) (State.isArrayOf_alike hZ.alike Ar_72.2.1) Ar_72.2.2 hin72 hat72 (g := (mkF m 40 #[.val (.ref a), .val (.int (5 : Int32)), .val (.int (5 : Int32))] [(.int (5 : Int32)), (.ref a)])) rfl rfl (hb hby d3_40)) ?_
                        have V_a_r72 : Arv Z h0 a kl .byte (8 : Int32) [(.int c0), (.int c1), (.int c2), (.int c3), (.int c4), (.int c5), (.int c6), (.int c7)] (.int (0 : Int32)) := ⟨cl_72, Ar_72, q_72, S_72, M_72, H_72, G_72⟩
                        show own_Ends p e below s₁ (mkF m 41 #[.val (.ref a), .val (.int (5 : Int32)), .val (.int (5 : Int32))] [(.int c5)]) _
                        refine own_go (fun _ => XS.iconst X0.here hx rfl (hb hby d3_41)) ?_
                        show own_Ends p e below s₁ (mkF m 42 #[.val (.ref a), .val (.int (5 : Int32)), .val (.int (5 : Int32))] [(.int (-1 : Int32)), (.int c5)]) _
                        by_cases hc42 : c5 = (-1 : Int32)
                        · refine own_go (fun _ => XS.icmpYes X0.here hx rfl (pc0 := 42) (pc' := 47) rfl (hb hby d3_42) rfl (teq hc42).1 (by decide) (by decide)) ?_
                          show own_Ends p e below s₁ (mkF m 47 #[.val (.ref a), .val (.int (5 : Int32)), .val (.int (5 : Int32))] []) _
                          refine own_go (fun _ => XS.iinc X0.here hx rfl (hb hby d3_47) rfl (l' := #[.val (.ref a), .val (.int (5 : Int32)), .val (.int (6 : Int32))]) rfl) ?_
                          show own_Ends p e below s₁ (mkF m 50 #[.val (.ref a), .val (.int (5 : Int32)), .val (.int (6 : Int32))] []) _
                          refine own_go (fun _ => XS.goto X0.here hx rfl (pc0 := 50) (pc' := 32) rfl (hb hby d3_50) (by decide) (by decide)) ?_
                          show own_Ends p e below s₁ (mkF m 32 #[.val (.ref a), .val (.int (5 : Int32)), .val (.int (6 : Int32))] []) _
                          refine own_go (fun _ => XS.iloadN X0.here hx rfl (hb hby d3_32) rfl) ?_
                          show own_Ends p e below s₁ (mkF m 33 #[.val (.ref a), .val (.int (5 : Int32)), .val (.int (6 : Int32))] [(.int (6 : Int32))]) _
                          refine own_go (fun _ => XS.bipush X0.here hx rfl (hb hby d3_33)) ?_
                          show own_Ends p e below s₁ (mkF m 35 #[.val (.ref a), .val (.int (5 : Int32)), .val (.int (6 : Int32))] [(.int (8 : Int32)), (.int (6 : Int32))]) _
                          refine own_go (fun _ => XS.icmpNo X0.here hx rfl (hb hby d3_35) rfl (tlt (show (6 : Int32) < (8 : Int32) from by decide)).2.1) ?_
                          show own_Ends p e below s₁ (mkF m 38 #[.val (.ref a), .val (.int (5 : Int32)), .val (.int (6 : Int32))] []) _
                          refine own_go (fun _ => XS.aloadN X0.here hx rfl (hb hby d3_38) rfl rfl) ?_
                          show own_Ends p e below s₁ (mkF m 39 #[.val (.ref a), .val (.int (5 : Int32)), .val (.int (6 : Int32))] [(.ref a)]) _
                          refine own_go (fun _ => XS.iloadN X0.here hx rfl (hb hby d3_39) rfl) ?_
                          show own_Ends p e below s₁ (mkF m 40 #[.val (.ref a), .val (.int (5 : Int32)), .val (.int (6 : Int32))] [(.int (6 : Int32)), (.ref a)]) _
                          obtain ⟨cl_73, Ar_73, q_73, S_73, M_73, H_73, G_73⟩ := V_a_r72
                          have hin73 : ¬ ((6 : Int32) < 0 ∨ cl_73.slots.size ≤ ((6 : Int32)).toNatClampNeg) := inb_of S_73 ⟨by decide, by decide⟩
                          have hat73 : cl_73.slots[((6 : Int32)).toNatClampNeg]? = some (.int c6) := Has.at H_73 hin73 (rfl)
                          refine own_go (X0.baloadBytes hx (j := (6 : Int32)) (v := (.int c6)) (by rw [e0]; exact Ar_73.1) (State.isArrayOf_alike hZ.alike Ar_73.2.1) Ar_73.2.2 hin73 hat73 (g := (mkF m 40 #[.val (.ref a), .val (.int (5 : Int32)), .val (.int (6 : Int32))] [(.int (6 : Int32)), (.ref a)])) rfl rfl (hb hby d3_40)) ?_
                          have V_a_r73 : Arv Z h0 a kl .byte (8 : Int32) [(.int c0), (.int c1), (.int c2), (.int c3), (.int c4), (.int c5), (.int c6), (.int c7)] (.int (0 : Int32)) := ⟨cl_73, Ar_73, q_73, S_73, M_73, H_73, G_73⟩
                          show own_Ends p e below s₁ (mkF m 41 #[.val (.ref a), .val (.int (5 : Int32)), .val (.int (6 : Int32))] [(.int c6)]) _
                          refine own_go (fun _ => XS.iconst X0.here hx rfl (hb hby d3_41)) ?_
                          show own_Ends p e below s₁ (mkF m 42 #[.val (.ref a), .val (.int (5 : Int32)), .val (.int (6 : Int32))] [(.int (-1 : Int32)), (.int c6)]) _
                          by_cases hc42_1 : c6 = (-1 : Int32)
                          · refine own_go (fun _ => XS.icmpYes X0.here hx rfl (pc0 := 42) (pc' := 47) rfl (hb hby d3_42) rfl (teq hc42_1).1 (by decide) (by decide)) ?_
                            show own_Ends p e below s₁ (mkF m 47 #[.val (.ref a), .val (.int (5 : Int32)), .val (.int (6 : Int32))] []) _
                            refine own_go (fun _ => XS.iinc X0.here hx rfl (hb hby d3_47) rfl (l' := #[.val (.ref a), .val (.int (5 : Int32)), .val (.int (7 : Int32))]) rfl) ?_
                            show own_Ends p e below s₁ (mkF m 50 #[.val (.ref a), .val (.int (5 : Int32)), .val (.int (7 : Int32))] []) _
                            refine own_go (fun _ => XS.goto X0.here hx rfl (pc0 := 50) (pc' := 32) rfl (hb hby d3_50) (by decide) (by decide)) ?_
                            show own_Ends p e below s₁ (mkF m 32 #[.val (.ref a), .val (.int (5 : Int32)), .val (.int (7 : Int32))] []) _
                            refine own_go (fun _ => XS.iloadN X0.here hx rfl (hb hby d3_32) rfl) ?_
                            show own_Ends p e below s₁ (mkF m 33 #[.val (.ref a), .val (.int (5 : Int32)), .val (.int (7 : Int32))] [(.int (7 : Int32))]) _
                            refine own_go (fun _ => XS.bipush X0.here hx rfl (hb hby d3_33)) ?_
                            show own_Ends p e below s₁ (mkF m 35 #[.val (.ref a), .val (.int (5 : Int32)), .val (.int (7 : Int32))] [(.int (8 : Int32)), (.int (7 : Int32))]) _
                            refine own_go (fun _ => XS.icmpNo X0.here hx rfl (hb hby d3_35) rfl (tlt (show (7 : Int32) < (8 : Int32) from by decide)).2.1) ?_
                            show own_Ends p e below s₁ (mkF m 38 #[.val (.ref a), .val (.int (5 : Int32)), .val (.int (7 : Int32))] []) _
                            refine own_go (fun _ => XS.aloadN X0.here hx rfl (hb hby d3_38) rfl rfl) ?_
                            show own_Ends p e below s₁ (mkF m 39 #[.val (.ref a), .val (.int (5 : Int32)), .val (.int (7 : Int32))] [(.ref a)]) _
                            refine own_go (fun _ => XS.iloadN X0.here hx rfl (hb hby d3_39) rfl) ?_
                            show own_Ends p e below s₁ (mkF m 40 #[.val (.ref a), .val (.int (5 : Int32)), .val (.int (7 : Int32))] [(.int (7 : Int32)), (.ref a)]) _
                            obtain ⟨cl_74, Ar_74, q_74, S_74, M_74, H_74, G_74⟩ := V_a_r73
                            have hin74 : ¬ ((7 : Int32) < 0 ∨ cl_74.slots.size ≤ ((7 : Int32)).toNatClampNeg) := inb_of S_74 ⟨by decide, by decide⟩
                            have hat74 : cl_74.slots[((7 : Int32)).toNatClampNeg]? = some (.int c7) := Has.at H_74 hin74 (rfl)
                            refine own_go (X0.baloadBytes hx (j := (7 : Int32)) (v := (.int c7)) (by rw [e0]; exact Ar_74.1) (State.isArrayOf_alike hZ.alike Ar_74.2.1) Ar_74.2.2 hin74 hat74 (g := (mkF m 40 #[.val (.ref a), .val (.int (5 : Int32)), .val (.int (7 : Int32))] [(.int (7 : Int32)), (.ref a)])) rfl rfl (hb hby d3_40)) ?_
                            have V_a_r74 : Arv Z h0 a kl .byte (8 : Int32) [(.int c0), (.int c1), (.int c2), (.int c3), (.int c4), (.int c5), (.int c6), (.int c7)] (.int (0 : Int32)) := ⟨cl_74, Ar_74, q_74, S_74, M_74, H_74, G_74⟩
                            show own_Ends p e below s₁ (mkF m 41 #[.val (.ref a), .val (.int (5 : Int32)), .val (.int (7 : Int32))] [(.int c7)]) _
                            refine own_go (fun _ => XS.iconst X0.here hx rfl (hb hby d3_41)) ?_
                            show own_Ends p e below s₁ (mkF m 42 #[.val (.ref a), .val (.int (5 : Int32)), .val (.int (7 : Int32))] [(.int (-1 : Int32)), (.int c7)]) _
                            by_cases hc42_2 : c7 = (-1 : Int32)
                            · refine own_go (fun _ => XS.icmpYes X0.here hx rfl (pc0 := 42) (pc' := 47) rfl (hb hby d3_42) rfl (teq hc42_2).1 (by decide) (by decide)) ?_
                              show own_Ends p e below s₁ (mkF m 47 #[.val (.ref a), .val (.int (5 : Int32)), .val (.int (7 : Int32))] []) _
                              refine own_go (fun _ => XS.iinc X0.here hx rfl (hb hby d3_47) rfl (l' := #[.val (.ref a), .val (.int (5 : Int32)), .val (.int (8 : Int32))]) rfl) ?_
                              show own_Ends p e below s₁ (mkF m 50 #[.val (.ref a), .val (.int (5 : Int32)), .val (.int (8 : Int32))] []) _
                              refine own_go (fun _ => XS.goto X0.here hx rfl (pc0 := 50) (pc' := 32) rfl (hb hby d3_50) (by decide) (by decide)) ?_
                              show own_Ends p e below s₁ (mkF m 32 #[.val (.ref a), .val (.int (5 : Int32)), .val (.int (8 : Int32))] []) _
                              refine own_go (fun _ => XS.iloadN X0.here hx rfl (hb hby d3_32) rfl) ?_
                              show own_Ends p e below s₁ (mkF m 33 #[.val (.ref a), .val (.int (5 : Int32)), .val (.int (8 : Int32))] [(.int (8 : Int32))]) _
                              refine own_go (fun _ => XS.bipush X0.here hx rfl (hb hby d3_33)) ?_
                              show own_Ends p e below s₁ (mkF m 35 #[.val (.ref a), .val (.int (5 : Int32)), .val (.int (8 : Int32))] [(.int (8 : Int32)), (.int (8 : Int32))]) _
                              refine own_go (fun _ => XS.icmpYes X0.here hx rfl (pc0 := 35) (pc' := 53) rfl (hb hby d3_35) rfl (flt (show ¬ ((8 : Int32) < (8 : Int32)) from by decide)).2.1 (by decide) (by decide)) ?_
                              show own_Ends p e below s₁ (mkF m 53 #[.val (.ref a), .val (.int (5 : Int32)), .val (.int (8 : Int32))] []) _
                              refine own_go (fun _ => XS.iloadN X0.here hx rfl (hb hby d3_53) rfl) ?_
                              show own_Ends p e below s₁ (mkF m 54 #[.val (.ref a), .val (.int (5 : Int32)), .val (.int (8 : Int32))] [(.int (5 : Int32))]) _
                              refine own_go (fun _ => XS.iconst X0.here hx rfl (hb hby d3_54)) ?_
                              show own_Ends p e below s₁ (mkF m 55 #[.val (.ref a), .val (.int (5 : Int32)), .val (.int (8 : Int32))] [(.int (4 : Int32)), (.int (5 : Int32))]) _
                              refine own_go (fun _ => XS.icmpNo X0.here hx rfl (hb hby d3_55) rfl (flt (show ¬ ((5 : Int32) < (4 : Int32)) from by decide)).1) ?_
                              show own_Ends p e below s₁ (mkF m 58 #[.val (.ref a), .val (.int (5 : Int32)), .val (.int (8 : Int32))] []) _
                              refine own_go (fun _ => XS.iconst X0.here hx rfl (hb hby d3_58)) ?_
                              show own_Ends p e below s₁ (mkF m 59 #[.val (.ref a), .val (.int (5 : Int32)), .val (.int (8 : Int32))] [(.int (1 : Int32))]) _
                              refine own_go (fun _ => XS.goto X0.here hx rfl (pc0 := 59) (pc' := 63) rfl (hb hby d3_59) (by decide) (by decide)) ?_
                              show own_Ends p e below s₁ (mkF m 63 #[.val (.ref a), .val (.int (5 : Int32)), .val (.int (8 : Int32))] [(.int (1 : Int32))]) _
                              obtain ⟨fs, hr, hrun, hended, hW, hsame⟩ := X0.leave (v := some (.int (1 : Int32))) (fun h => by rw [Bd.returns] at h; cases h)
                              refine ⟨_, _, retN X0 hx (t := .boolean) Bd.returns (by simp) (hb hby d3_63) hr, hrun, hended, _, _, rfl, ?_, ⟨_, rfl⟩, hW, hsame.mono (by decide) (by decide)⟩
                              show Q_rmPin Z a kl c0 c1 c2 c3 c4 c5 c6 c7 h0 n0 _ s₁.heap _
                              rw [e0]
                              exact ⟨_, rfl, by exact own_back ((own_sC hc13 hc21).trans ((own_sC hc13_1 hc21_1).trans ((own_sC hc13_2 hc21_2).trans ((own_sC hc13_3 hc21_3).trans ((own_sC hc13_4 hc21_4).trans ((own_sA hc13_5).trans ((own_tA hc42).trans ((own_tA hc42_1).trans ((own_tA hc42_2).trans (rfl)))))))))), N0, rfl⟩
                            · refine own_go (fun _ => XS.icmpNo X0.here hx rfl (hb hby d3_42) rfl (feq hc42_2).1) ?_
                              show own_Ends p e below s₁ (mkF m 45 #[.val (.ref a), .val (.int (5 : Int32)), .val (.int (7 : Int32))] []) _
                              refine own_go (fun _ => XS.iconst X0.here hx rfl (hb hby d3_45)) ?_
                              show own_Ends p e below s₁ (mkF m 46 #[.val (.ref a), .val (.int (5 : Int32)), .val (.int (7 : Int32))] [(.int (0 : Int32))]) _
                              obtain ⟨fs, hr, hrun, hended, hW, hsame⟩ := X0.leave (v := some (.int (0 : Int32))) (fun h => by rw [Bd.returns] at h; cases h)
                              refine ⟨_, _, retN X0 hx (t := .boolean) Bd.returns (by simp) (hb hby d3_46) hr, hrun, hended, _, _, rfl, ?_, ⟨_, rfl⟩, hW, hsame.mono (by decide) (by decide)⟩
                              show Q_rmPin Z a kl c0 c1 c2 c3 c4 c5 c6 c7 h0 n0 _ s₁.heap _
                              rw [e0]
                              exact ⟨_, rfl, by exact own_back ((own_sC hc13 hc21).trans ((own_sC hc13_1 hc21_1).trans ((own_sC hc13_2 hc21_2).trans ((own_sC hc13_3 hc21_3).trans ((own_sC hc13_4 hc21_4).trans ((own_sA hc13_5).trans ((own_tA hc42).trans ((own_tA hc42_1).trans (own_tB hc42_2))))))))), N0, rfl⟩
                          · refine own_go (fun _ => XS.icmpNo X0.here hx rfl (hb hby d3_42) rfl (feq hc42_1).1) ?_
                            show own_Ends p e below s₁ (mkF m 45 #[.val (.ref a), .val (.int (5 : Int32)), .val (.int (6 : Int32))] []) _
                            refine own_go (fun _ => XS.iconst X0.here hx rfl (hb hby d3_45)) ?_
                            show own_Ends p e below s₁ (mkF m 46 #[.val (.ref a), .val (.int (5 : Int32)), .val (.int (6 : Int32))] [(.int (0 : Int32))]) _
                            obtain ⟨fs, hr, hrun, hended, hW, hsame⟩ := X0.leave (v := some (.int (0 : Int32))) (fun h => by rw [Bd.returns] at h; cases h)
                            refine ⟨_, _, retN X0 hx (t := .boolean) Bd.returns (by simp) (hb hby d3_46) hr, hrun, hended, _, _, rfl, ?_, ⟨_, rfl⟩, hW, hsame.mono (by decide) (by decide)⟩
                            show Q_rmPin Z a kl c0 c1 c2 c3 c4 c5 c6 c7 h0 n0 _ s₁.heap _
                            rw [e0]
                            exact ⟨_, rfl, by exact own_back ((own_sC hc13 hc21).trans ((own_sC hc13_1 hc21_1).trans ((own_sC hc13_2 hc21_2).trans ((own_sC hc13_3 hc21_3).trans ((own_sC hc13_4 hc21_4).trans ((own_sA hc13_5).trans ((own_tA hc42).trans (own_tB hc42_1)))))))), N0, rfl⟩
                        · refine own_go (fun _ => XS.icmpNo X0.here hx rfl (hb hby d3_42) rfl (feq hc42).1) ?_
                          show own_Ends p e below s₁ (mkF m 45 #[.val (.ref a), .val (.int (5 : Int32)), .val (.int (5 : Int32))] []) _
                          refine own_go (fun _ => XS.iconst X0.here hx rfl (hb hby d3_45)) ?_
                          show own_Ends p e below s₁ (mkF m 46 #[.val (.ref a), .val (.int (5 : Int32)), .val (.int (5 : Int32))] [(.int (0 : Int32))]) _
                          obtain ⟨fs, hr, hrun, hended, hW, hsame⟩ := X0.leave (v := some (.int (0 : Int32))) (fun h => by rw [Bd.returns] at h; cases h)
                          refine ⟨_, _, retN X0 hx (t := .boolean) Bd.returns (by simp) (hb hby d3_46) hr, hrun, hended, _, _, rfl, ?_, ⟨_, rfl⟩, hW, hsame.mono (by decide) (by decide)⟩
                          show Q_rmPin Z a kl c0 c1 c2 c3 c4 c5 c6 c7 h0 n0 _ s₁.heap _
                          rw [e0]
                          exact ⟨_, rfl, by exact own_back ((own_sC hc13 hc21).trans ((own_sC hc13_1 hc21_1).trans ((own_sC hc13_2 hc21_2).trans ((own_sC hc13_3 hc21_3).trans ((own_sC hc13_4 hc21_4).trans ((own_sA hc13_5).trans (own_tB hc42))))))), N0, rfl⟩
                      · refine own_go (fun _ => XS.icmpNo X0.here hx rfl (hb hby d3_13) rfl (flt hc13_5).1) ?_
                        show own_Ends p e below s₁ (mkF m 16 #[.val (.ref a), .val (.int (5 : Int32)), .unset] []) _
                        refine own_go (fun _ => XS.aloadN X0.here hx rfl (hb hby d3_16) rfl rfl) ?_
                        show own_Ends p e below s₁ (mkF m 17 #[.val (.ref a), .val (.int (5 : Int32)), .unset] [(.ref a)]) _
                        refine own_go (fun _ => XS.iloadN X0.here hx rfl (hb hby d3_17) rfl) ?_
                        show own_Ends p e below s₁ (mkF m 18 #[.val (.ref a), .val (.int (5 : Int32)), .unset] [(.int (5 : Int32)), (.ref a)]) _
                        obtain ⟨cl_75, Ar_75, q_75, S_75, M_75, H_75, G_75⟩ := V_a_r71
                        have hin75 : ¬ ((5 : Int32) < 0 ∨ cl_75.slots.size ≤ ((5 : Int32)).toNatClampNeg) := inb_of S_75 ⟨by decide, by decide⟩
                        have hat75 : cl_75.slots[((5 : Int32)).toNatClampNeg]? = some (.int c5) := Has.at H_75 hin75 (rfl)
                        refine own_go (X0.baloadBytes hx (j := (5 : Int32)) (v := (.int c5)) (by rw [e0]; exact Ar_75.1) (State.isArrayOf_alike hZ.alike Ar_75.2.1) Ar_75.2.2 hin75 hat75 (g := (mkF m 18 #[.val (.ref a), .val (.int (5 : Int32)), .unset] [(.int (5 : Int32)), (.ref a)])) rfl rfl (hb hby d3_18)) ?_
                        have V_a_r75 : Arv Z h0 a kl .byte (8 : Int32) [(.int c0), (.int c1), (.int c2), (.int c3), (.int c4), (.int c5), (.int c6), (.int c7)] (.int (0 : Int32)) := ⟨cl_75, Ar_75, q_75, S_75, M_75, H_75, G_75⟩
                        show own_Ends p e below s₁ (mkF m 19 #[.val (.ref a), .val (.int (5 : Int32)), .unset] [(.int c5)]) _
                        refine own_go (fun _ => XS.bipush X0.here hx rfl (hb hby d3_19)) ?_
                        show own_Ends p e below s₁ (mkF m 21 #[.val (.ref a), .val (.int (5 : Int32)), .unset] [(.int (57 : Int32)), (.int c5)]) _
                        by_cases hc21_5 : (57 : Int32) < c5
                        · refine own_go (fun _ => XS.icmpYes X0.here hx rfl (pc0 := 21) (pc' := 30) rfl (hb hby d3_21) rfl (tlt hc21_5).2.2.1 (by decide) (by decide)) ?_
                          show own_Ends p e below s₁ (mkF m 30 #[.val (.ref a), .val (.int (5 : Int32)), .unset] []) _
                          refine own_go (fun _ => XS.iloadN X0.here hx rfl (hb hby d3_30) rfl) ?_
                          show own_Ends p e below s₁ (mkF m 31 #[.val (.ref a), .val (.int (5 : Int32)), .unset] [(.int (5 : Int32))]) _
                          refine own_go (fun _ => XS.istoreN X0.here hx rfl (hb hby d3_31) rfl (l' := #[.val (.ref a), .val (.int (5 : Int32)), .val (.int (5 : Int32))]) rfl) ?_
                          show own_Ends p e below s₁ (mkF m 32 #[.val (.ref a), .val (.int (5 : Int32)), .val (.int (5 : Int32))] []) _
                          refine own_go (fun _ => XS.iloadN X0.here hx rfl (hb hby d3_32) rfl) ?_
                          show own_Ends p e below s₁ (mkF m 33 #[.val (.ref a), .val (.int (5 : Int32)), .val (.int (5 : Int32))] [(.int (5 : Int32))]) _
                          refine own_go (fun _ => XS.bipush X0.here hx rfl (hb hby d3_33)) ?_
                          show own_Ends p e below s₁ (mkF m 35 #[.val (.ref a), .val (.int (5 : Int32)), .val (.int (5 : Int32))] [(.int (8 : Int32)), (.int (5 : Int32))]) _
                          refine own_go (fun _ => XS.icmpNo X0.here hx rfl (hb hby d3_35) rfl (tlt (show (5 : Int32) < (8 : Int32) from by decide)).2.1) ?_
                          show own_Ends p e below s₁ (mkF m 38 #[.val (.ref a), .val (.int (5 : Int32)), .val (.int (5 : Int32))] []) _
                          refine own_go (fun _ => XS.aloadN X0.here hx rfl (hb hby d3_38) rfl rfl) ?_
                          show own_Ends p e below s₁ (mkF m 39 #[.val (.ref a), .val (.int (5 : Int32)), .val (.int (5 : Int32))] [(.ref a)]) _
                          refine own_go (fun _ => XS.iloadN X0.here hx rfl (hb hby d3_39) rfl) ?_
                          show own_Ends p e below s₁ (mkF m 40 #[.val (.ref a), .val (.int (5 : Int32)), .val (.int (5 : Int32))] [(.int (5 : Int32)), (.ref a)]) _
                          obtain ⟨cl_76, Ar_76, q_76, S_76, M_76, H_76, G_76⟩ := V_a_r75
                          have hin76 : ¬ ((5 : Int32) < 0 ∨ cl_76.slots.size ≤ ((5 : Int32)).toNatClampNeg) := inb_of S_76 ⟨by decide, by decide⟩
                          have hat76 : cl_76.slots[((5 : Int32)).toNatClampNeg]? = some (.int c5) := Has.at H_76 hin76 (rfl)
                          refine own_go (X0.baloadBytes hx (j := (5 : Int32)) (v := (.int c5)) (by rw [e0]; exact Ar_76.1) (State.isArrayOf_alike hZ.alike Ar_76.2.1) Ar_76.2.2 hin76 hat76 (g := (mkF m 40 #[.val (.ref a), .val (.int (5 : Int32)), .val (.int (5 : Int32))] [(.int (5 : Int32)), (.ref a)])) rfl rfl (hb hby d3_40)) ?_
                          have V_a_r76 : Arv Z h0 a kl .byte (8 : Int32) [(.int c0), (.int c1), (.int c2), (.int c3), (.int c4), (.int c5), (.int c6), (.int c7)] (.int (0 : Int32)) := ⟨cl_76, Ar_76, q_76, S_76, M_76, H_76, G_76⟩
                          show own_Ends p e below s₁ (mkF m 41 #[.val (.ref a), .val (.int (5 : Int32)), .val (.int (5 : Int32))] [(.int c5)]) _
                          refine own_go (fun _ => XS.iconst X0.here hx rfl (hb hby d3_41)) ?_
                          show own_Ends p e below s₁ (mkF m 42 #[.val (.ref a), .val (.int (5 : Int32)), .val (.int (5 : Int32))] [(.int (-1 : Int32)), (.int c5)]) _
                          by_cases hc42 : c5 = (-1 : Int32)
                          · refine own_go (fun _ => XS.icmpYes X0.here hx rfl (pc0 := 42) (pc' := 47) rfl (hb hby d3_42) rfl (teq hc42).1 (by decide) (by decide)) ?_
                            show own_Ends p e below s₁ (mkF m 47 #[.val (.ref a), .val (.int (5 : Int32)), .val (.int (5 : Int32))] []) _
                            refine own_go (fun _ => XS.iinc X0.here hx rfl (hb hby d3_47) rfl (l' := #[.val (.ref a), .val (.int (5 : Int32)), .val (.int (6 : Int32))]) rfl) ?_
                            show own_Ends p e below s₁ (mkF m 50 #[.val (.ref a), .val (.int (5 : Int32)), .val (.int (6 : Int32))] []) _
                            refine own_go (fun _ => XS.goto X0.here hx rfl (pc0 := 50) (pc' := 32) rfl (hb hby d3_50) (by decide) (by decide)) ?_
                            show own_Ends p e below s₁ (mkF m 32 #[.val (.ref a), .val (.int (5 : Int32)), .val (.int (6 : Int32))] []) _
                            refine own_go (fun _ => XS.iloadN X0.here hx rfl (hb hby d3_32) rfl) ?_
                            show own_Ends p e below s₁ (mkF m 33 #[.val (.ref a), .val (.int (5 : Int32)), .val (.int (6 : Int32))] [(.int (6 : Int32))]) _
                            refine own_go (fun _ => XS.bipush X0.here hx rfl (hb hby d3_33)) ?_
                            show own_Ends p e below s₁ (mkF m 35 #[.val (.ref a), .val (.int (5 : Int32)), .val (.int (6 : Int32))] [(.int (8 : Int32)), (.int (6 : Int32))]) _
                            refine own_go (fun _ => XS.icmpNo X0.here hx rfl (hb hby d3_35) rfl (tlt (show (6 : Int32) < (8 : Int32) from by decide)).2.1) ?_
                            show own_Ends p e below s₁ (mkF m 38 #[.val (.ref a), .val (.int (5 : Int32)), .val (.int (6 : Int32))] []) _
                            refine own_go (fun _ => XS.aloadN X0.here hx rfl (hb hby d3_38) rfl rfl) ?_
                            show own_Ends p e below s₁ (mkF m 39 #[.val (.ref a), .val (.int (5 : Int32)), .val (.int (6 : Int32))] [(.ref a)]) _
                            refine own_go (fun _ => XS.iloadN X0.here hx rfl (hb hby d3_39) rfl) ?_
                            show own_Ends p e below s₁ (mkF m 40 #[.val (.ref a), .val (.int (5 : Int32)), .val (.int (6 : Int32))] [(.int (6 : Int32)), (.ref a)]) _
                            obtain ⟨cl_77, Ar_77, q_77, S_77, M_77, H_77, G_77⟩ := V_a_r76
                            have hin77 : ¬ ((6 : Int32) < 0 ∨ cl_77.slots.size ≤ ((6 : Int32)).toNatClampNeg) := inb_of S_77 ⟨by decide, by decide⟩
                            have hat77 : cl_77.slots[((6 : Int32)).toNatClampNeg]? = some (.int c6) := Has.at H_77 hin77 (rfl)
                            refine own_go (X0.baloadBytes hx (j := (6 : Int32)) (v := (.int c6)) (by rw [e0]; exact Ar_77.1) (State.isArrayOf_alike hZ.alike Ar_77.2.1) Ar_77.2.2 hin77 hat77 (g := (mkF m 40 #[.val (.ref a), .val (.int (5 : Int32)), .val (.int (6 : Int32))] [(.int (6 : Int32)), (.ref a)])) rfl rfl (hb hby d3_40)) ?_
                            have V_a_r77 : Arv Z h0 a kl .byte (8 : Int32) [(.int c0), (.int c1), (.int c2), (.int c3), (.int c4), (.int c5), (.int c6), (.int c7)] (.int (0 : Int32)) := ⟨cl_77, Ar_77, q_77, S_77, M_77, H_77, G_77⟩
                            show own_Ends p e below s₁ (mkF m 41 #[.val (.ref a), .val (.int (5 : Int32)), .val (.int (6 : Int32))] [(.int c6)]) _
                            refine own_go (fun _ => XS.iconst X0.here hx rfl (hb hby d3_41)) ?_
                            show own_Ends p e below s₁ (mkF m 42 #[.val (.ref a), .val (.int (5 : Int32)), .val (.int (6 : Int32))] [(.int (-1 : Int32)), (.int c6)]) _
                            by_cases hc42_1 : c6 = (-1 : Int32)
                            · refine own_go (fun _ => XS.icmpYes X0.here hx rfl (pc0 := 42) (pc' := 47) rfl (hb hby d3_42) rfl (teq hc42_1).1 (by decide) (by decide)) ?_
                              show own_Ends p e below s₁ (mkF m 47 #[.val (.ref a), .val (.int (5 : Int32)), .val (.int (6 : Int32))] []) _
                              refine own_go (fun _ => XS.iinc X0.here hx rfl (hb hby d3_47) rfl (l' := #[.val (.ref a), .val (.int (5 : Int32)), .val (.int (7 : Int32))]) rfl) ?_
                              show own_Ends p e below s₁ (mkF m 50 #[.val (.ref a), .val (.int (5 : Int32)), .val (.int (7 : Int32))] []) _
                              refine own_go (fun _ => XS.goto X0.here hx rfl (pc0 := 50) (pc' := 32) rfl (hb hby d3_50) (by decide) (by decide)) ?_
                              show own_Ends p e below s₁ (mkF m 32 #[.val (.ref a), .val (.int (5 : Int32)), .val (.int (7 : Int32))] []) _
                              refine own_go (fun _ => XS.iloadN X0.here hx rfl (hb hby d3_32) rfl) ?_
                              show own_Ends p e below s₁ (mkF m 33 #[.val (.ref a), .val (.int (5 : Int32)), .val (.int (7 : Int32))] [(.int (7 : Int32))]) _
                              refine own_go (fun _ => XS.bipush X0.here hx rfl (hb hby d3_33)) ?_
                              show own_Ends p e below s₁ (mkF m 35 #[.val (.ref a), .val (.int (5 : Int32)), .val (.int (7 : Int32))] [(.int (8 : Int32)), (.int (7 : Int32))]) _
                              refine own_go (fun _ => XS.icmpNo X0.here hx rfl (hb hby d3_35) rfl (tlt (show (7 : Int32) < (8 : Int32) from by decide)).2.1) ?_
                              show own_Ends p e below s₁ (mkF m 38 #[.val (.ref a), .val (.int (5 : Int32)), .val (.int (7 : Int32))] []) _
                              refine own_go (fun _ => XS.aloadN X0.here hx rfl (hb hby d3_38) rfl rfl) ?_
                              show own_Ends p e below s₁ (mkF m 39 #[.val (.ref a), .val (.int (5 : Int32)), .val (.int (7 : Int32))] [(.ref a)]) _
                              refine own_go (fun _ => XS.iloadN X0.here hx rfl (hb hby d3_39) rfl) ?_
                              show own_Ends p e below s₁ (mkF m 40 #[.val (.ref a), .val (.int (5 : Int32)), .val (.int (7 : Int32))] [(.int (7 : Int32)), (.ref a)]) _
                              obtain ⟨cl_78, Ar_78, q_78, S_78, M_78, H_78, G_78⟩ := V_a_r77
                              have hin78 : ¬ ((7 : Int32) < 0 ∨ cl_78.slots.size ≤ ((7 : Int32)).toNatClampNeg) := inb_of S_78 ⟨by decide, by decide⟩
                              have hat78 : cl_78.slots[((7 : Int32)).toNatClampNeg]? = some (.int c7) := Has.at H_78 hin78 (rfl)
                              refine own_go (X0.baloadBytes hx (j := (7 : Int32)) (v := (.int c7)) (by rw [e0]; exact Ar_78.1) (State.isArrayOf_alike hZ.alike Ar_78.2.1) Ar_78.2.2 hin78 hat78 (g := (mkF m 40 #[.val (.ref a), .val (.int (5 : Int32)), .val (.int (7 : Int32))] [(.int (7 : Int32)), (.ref a)])) rfl rfl (hb hby d3_40)) ?_
                              have V_a_r78 : Arv Z h0 a kl .byte (8 : Int32) [(.int c0), (.int c1), (.int c2), (.int c3), (.int c4), (.int c5), (.int c6), (.int c7)] (.int (0 : Int32)) := ⟨cl_78, Ar_78, q_78, S_78, M_78, H_78, G_78⟩
                              show own_Ends p e below s₁ (mkF m 41 #[.val (.ref a), .val (.int (5 : Int32)), .val (.int (7 : Int32))] [(.int c7)]) _
                              refine own_go (fun _ => XS.iconst X0.here hx rfl (hb hby d3_41)) ?_
                              show own_Ends p e below s₁ (mkF m 42 #[.val (.ref a), .val (.int (5 : Int32)), .val (.int (7 : Int32))] [(.int (-1 : Int32)), (.int c7)]) _
                              by_cases hc42_2 : c7 = (-1 : Int32)
                              · refine own_go (fun _ => XS.icmpYes X0.here hx rfl (pc0 := 42) (pc' := 47) rfl (hb hby d3_42) rfl (teq hc42_2).1 (by decide) (by decide)) ?_
                                show own_Ends p e below s₁ (mkF m 47 #[.val (.ref a), .val (.int (5 : Int32)), .val (.int (7 : Int32))] []) _
                                refine own_go (fun _ => XS.iinc X0.here hx rfl (hb hby d3_47) rfl (l' := #[.val (.ref a), .val (.int (5 : Int32)), .val (.int (8 : Int32))]) rfl) ?_
                                show own_Ends p e below s₁ (mkF m 50 #[.val (.ref a), .val (.int (5 : Int32)), .val (.int (8 : Int32))] []) _
                                refine own_go (fun _ => XS.goto X0.here hx rfl (pc0 := 50) (pc' := 32) rfl (hb hby d3_50) (by decide) (by decide)) ?_
                                show own_Ends p e below s₁ (mkF m 32 #[.val (.ref a), .val (.int (5 : Int32)), .val (.int (8 : Int32))] []) _
                                refine own_go (fun _ => XS.iloadN X0.here hx rfl (hb hby d3_32) rfl) ?_
                                show own_Ends p e below s₁ (mkF m 33 #[.val (.ref a), .val (.int (5 : Int32)), .val (.int (8 : Int32))] [(.int (8 : Int32))]) _
                                refine own_go (fun _ => XS.bipush X0.here hx rfl (hb hby d3_33)) ?_
                                show own_Ends p e below s₁ (mkF m 35 #[.val (.ref a), .val (.int (5 : Int32)), .val (.int (8 : Int32))] [(.int (8 : Int32)), (.int (8 : Int32))]) _
                                refine own_go (fun _ => XS.icmpYes X0.here hx rfl (pc0 := 35) (pc' := 53) rfl (hb hby d3_35) rfl (flt (show ¬ ((8 : Int32) < (8 : Int32)) from by decide)).2.1 (by decide) (by decide)) ?_
                                show own_Ends p e below s₁ (mkF m 53 #[.val (.ref a), .val (.int (5 : Int32)), .val (.int (8 : Int32))] []) _
                                refine own_go (fun _ => XS.iloadN X0.here hx rfl (hb hby d3_53) rfl) ?_
                                show own_Ends p e below s₁ (mkF m 54 #[.val (.ref a), .val (.int (5 : Int32)), .val (.int (8 : Int32))] [(.int (5 : Int32))]) _
                                refine own_go (fun _ => XS.iconst X0.here hx rfl (hb hby d3_54)) ?_
                                show own_Ends p e below s₁ (mkF m 55 #[.val (.ref a), .val (.int (5 : Int32)), .val (.int (8 : Int32))] [(.int (4 : Int32)), (.int (5 : Int32))]) _
                                refine own_go (fun _ => XS.icmpNo X0.here hx rfl (hb hby d3_55) rfl (flt (show ¬ ((5 : Int32) < (4 : Int32)) from by decide)).1) ?_
                                show own_Ends p e below s₁ (mkF m 58 #[.val (.ref a), .val (.int (5 : Int32)), .val (.int (8 : Int32))] []) _
                                refine own_go (fun _ => XS.iconst X0.here hx rfl (hb hby d3_58)) ?_
                                show own_Ends p e below s₁ (mkF m 59 #[.val (.ref a), .val (.int (5 : Int32)), .val (.int (8 : Int32))] [(.int (1 : Int32))]) _
                                refine own_go (fun _ => XS.goto X0.here hx rfl (pc0 := 59) (pc' := 63) rfl (hb hby d3_59) (by decide) (by decide)) ?_
                                show own_Ends p e below s₁ (mkF m 63 #[.val (.ref a), .val (.int (5 : Int32)), .val (.int (8 : Int32))] [(.int (1 : Int32))]) _
                                obtain ⟨fs, hr, hrun, hended, hW, hsame⟩ := X0.leave (v := some (.int (1 : Int32))) (fun h => by rw [Bd.returns] at h; cases h)
                                refine ⟨_, _, retN X0 hx (t := .boolean) Bd.returns (by simp) (hb hby d3_63) hr, hrun, hended, _, _, rfl, ?_, ⟨_, rfl⟩, hW, hsame.mono (by decide) (by decide)⟩
                                show Q_rmPin Z a kl c0 c1 c2 c3 c4 c5 c6 c7 h0 n0 _ s₁.heap _
                                rw [e0]
                                exact ⟨_, rfl, by exact own_back ((own_sC hc13 hc21).trans ((own_sC hc13_1 hc21_1).trans ((own_sC hc13_2 hc21_2).trans ((own_sC hc13_3 hc21_3).trans ((own_sC hc13_4 hc21_4).trans ((own_sB hc13_5 hc21_5).trans ((own_tA hc42).trans ((own_tA hc42_1).trans ((own_tA hc42_2).trans (rfl)))))))))), N0, rfl⟩
                              · refine own_go (fun _ => XS.icmpNo X0.here hx rfl (hb hby d3_42) rfl (feq hc42_2).1) ?_
                                show own_Ends p e below s₁ (mkF m 45 #[.val (.ref a), .val (.int (5 : Int32)), .val (.int (7 : Int32))] []) _
                                refine own_go (fun _ => XS.iconst X0.here hx rfl (hb hby d3_45)) ?_
                                show own_Ends p e below s₁ (mkF m 46 #[.val (.ref a), .val (.int (5 : Int32)), .val (.int (7 : Int32))] [(.int (0 : Int32))]) _
                                obtain ⟨fs, hr, hrun, hended, hW, hsame⟩ := X0.leave (v := some (.int (0 : Int32))) (fun h => by rw [Bd.returns] at h; cases h)
                                refine ⟨_, _, retN X0 hx (t := .boolean) Bd.returns (by simp) (hb hby d3_46) hr, hrun, hended, _, _, rfl, ?_, ⟨_, rfl⟩, hW, hsame.mono (by decide) (by decide)⟩
                                show Q_rmPin Z a kl c0 c1 c2 c3 c4 c5 c6 c7 h0 n0 _ s₁.heap _
                                rw [e0]
                                exact ⟨_, rfl, by exact own_back ((own_sC hc13 hc21).trans ((own_sC hc13_1 hc21_1).trans ((own_sC hc13_2 hc21_2).trans ((own_sC hc13_3 hc21_3).trans ((own_sC hc13_4 hc21_4).trans ((own_sB hc13_5 hc21_5).trans ((own_tA hc42).trans ((own_tA hc42_1).trans (own_tB hc42_2))))))))), N0, rfl⟩
                            · refine own_go (fun _ => XS.icmpNo X0.here hx rfl (hb hby d3_42) rfl (feq hc42_1).1) ?_
                              show own_Ends p e below s₁ (mkF m 45 #[.val (.ref a), .val (.int (5 : Int32)), .val (.int (6 : Int32))] []) _
                              refine own_go (fun _ => XS.iconst X0.here hx rfl (hb hby d3_45)) ?_
                              show own_Ends p e below s₁ (mkF m 46 #[.val (.ref a), .val (.int (5 : Int32)), .val (.int (6 : Int32))] [(.int (0 : Int32))]) _
                              obtain ⟨fs, hr, hrun, hended, hW, hsame⟩ := X0.leave (v := some (.int (0 : Int32))) (fun h => by rw [Bd.returns] at h; cases h)
                              refine ⟨_, _, retN X0 hx (t := .boolean) Bd.returns (by simp) (hb hby d3_46) hr, hrun, hended, _, _, rfl, ?_, ⟨_, rfl⟩, hW, hsame.mono (by decide) (by decide)⟩
                              show Q_rmPin Z a kl c0 c1 c2 c3 c4 c5 c6 c7 h0 n0 _ s₁.heap _
                              rw [e0]
                              exact ⟨_, rfl, by exact own_back ((own_sC hc13 hc21).trans ((own_sC hc13_1 hc21_1).trans ((own_sC hc13_2 hc21_2).trans ((own_sC hc13_3 hc21_3).trans ((own_sC hc13_4 hc21_4).trans ((own_sB hc13_5 hc21_5).trans ((own_tA hc42).trans (own_tB hc42_1)))))))), N0, rfl⟩
                          · refine own_go (fun _ => XS.icmpNo X0.here hx rfl (hb hby d3_42) rfl (feq hc42).1) ?_
                            show own_Ends p e below s₁ (mkF m 45 #[.val (.ref a), .val (.int (5 : Int32)), .val (.int (5 : Int32))] []) _
                            refine own_go (fun _ => XS.iconst X0.here hx rfl (hb hby d3_45)) ?_
                            show own_Ends p e below s₁ (mkF m 46 #[.val (.ref a), .val (.int (5 : Int32)), .val (.int (5 : Int32))] [(.int (0 : Int32))]) _
                            obtain ⟨fs, hr, hrun, hended, hW, hsame⟩ := X0.leave (v := some (.int (0 : Int32))) (fun h => by rw [Bd.returns] at h; cases h)
                            refine ⟨_, _, retN X0 hx (t := .boolean) Bd.returns (by simp) (hb hby d3_46) hr, hrun, hended, _, _, rfl, ?_, ⟨_, rfl⟩, hW, hsame.mono (by decide) (by decide)⟩
                            show Q_rmPin Z a kl c0 c1 c2 c3 c4 c5 c6 c7 h0 n0 _ s₁.heap _
                            rw [e0]
                            exact ⟨_, rfl, by exact own_back ((own_sC hc13 hc21).trans ((own_sC hc13_1 hc21_1).trans ((own_sC hc13_2 hc21_2).trans ((own_sC hc13_3 hc21_3).trans ((own_sC hc13_4 hc21_4).trans ((own_sB hc13_5 hc21_5).trans (own_tB hc42))))))), N0, rfl⟩
                        · refine own_go (fun _ => XS.icmpNo X0.here hx rfl (hb hby d3_21) rfl (flt hc21_5).2.2.1) ?_
                          show own_Ends p e below s₁ (mkF m 24 #[.val (.ref a), .val (.int (5 : Int32)), .unset] []) _
                          refine own_go (fun _ => XS.iinc X0.here hx rfl (hb hby d3_24) rfl (l' := #[.val (.ref a), .val (.int (6 : Int32)), .unset]) rfl) ?_
                          show own_Ends p e below s₁ (mkF m 27 #[.val (.ref a), .val (.int (6 : Int32)), .unset] []) _
                          refine own_go (fun _ => XS.goto X0.here hx rfl (pc0 := 27) (pc' := 2) rfl (hb hby d3_27) (by decide) (by decide)) ?_
                          show own_Ends p e below s₁ (mkF m 2 #[.val (.ref a), .val (.int (6 : Int32)), .unset] []) _
                          refine own_go (fun _ => XS.iloadN X0.here hx rfl (hb hby d3_2) rfl) ?_
                          show own_Ends p e below s₁ (mkF m 3 #[.val (.ref a), .val (.int (6 : Int32)), .unset] [(.int (6 : Int32))]) _
                          refine own_go (fun _ => XS.bipush X0.here hx rfl (hb hby d3_3)) ?_
                          show own_Ends p e below s₁ (mkF m 5 #[.val (.ref a), .val (.int (6 : Int32)), .unset] [(.int (8 : Int32)), (.int (6 : Int32))]) _
                          refine own_go (fun _ => XS.icmpNo X0.here hx rfl (hb hby d3_5) rfl (tlt (show (6 : Int32) < (8 : Int32) from by decide)).2.1) ?_
                          show own_Ends p e below s₁ (mkF m 8 #[.val (.ref a), .val (.int (6 : Int32)), .unset] []) _
                          refine own_go (fun _ => XS.aloadN X0.here hx rfl (hb hby d3_8) rfl rfl) ?_
                          show own_Ends p e below s₁ (mkF m 9 #[.val (.ref a), .val (.int (6 : Int32)), .unset] [(.ref a)]) _
                          refine own_go (fun _ => XS.iloadN X0.here hx rfl (hb hby d3_9) rfl) ?_
                          show own_Ends p e below s₁ (mkF m 10 #[.val (.ref a), .val (.int (6 : Int32)), .unset] [(.int (6 : Int32)), (.ref a)]) _
                          obtain ⟨cl_79, Ar_79, q_79, S_79, M_79, H_79, G_79⟩ := V_a_r75
                          have hin79 : ¬ ((6 : Int32) < 0 ∨ cl_79.slots.size ≤ ((6 : Int32)).toNatClampNeg) := inb_of S_79 ⟨by decide, by decide⟩
                          have hat79 : cl_79.slots[((6 : Int32)).toNatClampNeg]? = some (.int c6) := Has.at H_79 hin79 (rfl)
                          refine own_go (X0.baloadBytes hx (j := (6 : Int32)) (v := (.int c6)) (by rw [e0]; exact Ar_79.1) (State.isArrayOf_alike hZ.alike Ar_79.2.1) Ar_79.2.2 hin79 hat79 (g := (mkF m 10 #[.val (.ref a), .val (.int (6 : Int32)), .unset] [(.int (6 : Int32)), (.ref a)])) rfl rfl (hb hby d3_10)) ?_
                          have V_a_r79 : Arv Z h0 a kl .byte (8 : Int32) [(.int c0), (.int c1), (.int c2), (.int c3), (.int c4), (.int c5), (.int c6), (.int c7)] (.int (0 : Int32)) := ⟨cl_79, Ar_79, q_79, S_79, M_79, H_79, G_79⟩
                          show own_Ends p e below s₁ (mkF m 11 #[.val (.ref a), .val (.int (6 : Int32)), .unset] [(.int c6)]) _
                          refine own_go (fun _ => XS.bipush X0.here hx rfl (hb hby d3_11)) ?_
                          show own_Ends p e below s₁ (mkF m 13 #[.val (.ref a), .val (.int (6 : Int32)), .unset] [(.int (48 : Int32)), (.int c6)]) _
                          by_cases hc13_6 : c6 < (48 : Int32)
                          · refine own_go (fun _ => XS.icmpYes X0.here hx rfl (pc0 := 13) (pc' := 30) rfl (hb hby d3_13) rfl (tlt hc13_6).1 (by decide) (by decide)) ?_
                            show own_Ends p e below s₁ (mkF m 30 #[.val (.ref a), .val (.int (6 : Int32)), .unset] []) _
                            refine own_go (fun _ => XS.iloadN X0.here hx rfl (hb hby d3_30) rfl) ?_
                            show own_Ends p e below s₁ (mkF m 31 #[.val (.ref a), .val (.int (6 : Int32)), .unset] [(.int (6 : Int32))]) _
                            refine own_go (fun _ => XS.istoreN X0.here hx rfl (hb hby d3_31) rfl (l' := #[.val (.ref a), .val (.int (6 : Int32)), .val (.int (6 : Int32))]) rfl) ?_
                            show own_Ends p e below s₁ (mkF m 32 #[.val (.ref a), .val (.int (6 : Int32)), .val (.int (6 : Int32))] []) _
                            refine own_go (fun _ => XS.iloadN X0.here hx rfl (hb hby d3_32) rfl) ?_
                            show own_Ends p e below s₁ (mkF m 33 #[.val (.ref a), .val (.int (6 : Int32)), .val (.int (6 : Int32))] [(.int (6 : Int32))]) _
                            refine own_go (fun _ => XS.bipush X0.here hx rfl (hb hby d3_33)) ?_
                            show own_Ends p e below s₁ (mkF m 35 #[.val (.ref a), .val (.int (6 : Int32)), .val (.int (6 : Int32))] [(.int (8 : Int32)), (.int (6 : Int32))]) _
                            refine own_go (fun _ => XS.icmpNo X0.here hx rfl (hb hby d3_35) rfl (tlt (show (6 : Int32) < (8 : Int32) from by decide)).2.1) ?_
                            show own_Ends p e below s₁ (mkF m 38 #[.val (.ref a), .val (.int (6 : Int32)), .val (.int (6 : Int32))] []) _
                            refine own_go (fun _ => XS.aloadN X0.here hx rfl (hb hby d3_38) rfl rfl) ?_
                            show own_Ends p e below s₁ (mkF m 39 #[.val (.ref a), .val (.int (6 : Int32)), .val (.int (6 : Int32))] [(.ref a)]) _
                            refine own_go (fun _ => XS.iloadN X0.here hx rfl (hb hby d3_39) rfl) ?_
                            show own_Ends p e below s₁ (mkF m 40 #[.val (.ref a), .val (.int (6 : Int32)), .val (.int (6 : Int32))] [(.int (6 : Int32)), (.ref a)]) _
                            obtain ⟨cl_80, Ar_80, q_80, S_80, M_80, H_80, G_80⟩ := V_a_r79
                            have hin80 : ¬ ((6 : Int32) < 0 ∨ cl_80.slots.size ≤ ((6 : Int32)).toNatClampNeg) := inb_of S_80 ⟨by decide, by decide⟩
                            have hat80 : cl_80.slots[((6 : Int32)).toNatClampNeg]? = some (.int c6) := Has.at H_80 hin80 (rfl)
                            refine own_go (X0.baloadBytes hx (j := (6 : Int32)) (v := (.int c6)) (by rw [e0]; exact Ar_80.1) (State.isArrayOf_alike hZ.alike Ar_80.2.1) Ar_80.2.2 hin80 hat80 (g := (mkF m 40 #[.val (.ref a), .val (.int (6 : Int32)), .val (.int (6 : Int32))] [(.int (6 : Int32)), (.ref a)])) rfl rfl (hb hby d3_40)) ?_
                            have V_a_r80 : Arv Z h0 a kl .byte (8 : Int32) [(.int c0), (.int c1), (.int c2), (.int c3), (.int c4), (.int c5), (.int c6), (.int c7)] (.int (0 : Int32)) := ⟨cl_80, Ar_80, q_80, S_80, M_80, H_80, G_80⟩
                            show own_Ends p e below s₁ (mkF m 41 #[.val (.ref a), .val (.int (6 : Int32)), .val (.int (6 : Int32))] [(.int c6)]) _
                            refine own_go (fun _ => XS.iconst X0.here hx rfl (hb hby d3_41)) ?_
                            show own_Ends p e below s₁ (mkF m 42 #[.val (.ref a), .val (.int (6 : Int32)), .val (.int (6 : Int32))] [(.int (-1 : Int32)), (.int c6)]) _
                            by_cases hc42 : c6 = (-1 : Int32)
                            · refine own_go (fun _ => XS.icmpYes X0.here hx rfl (pc0 := 42) (pc' := 47) rfl (hb hby d3_42) rfl (teq hc42).1 (by decide) (by decide)) ?_
                              show own_Ends p e below s₁ (mkF m 47 #[.val (.ref a), .val (.int (6 : Int32)), .val (.int (6 : Int32))] []) _
                              refine own_go (fun _ => XS.iinc X0.here hx rfl (hb hby d3_47) rfl (l' := #[.val (.ref a), .val (.int (6 : Int32)), .val (.int (7 : Int32))]) rfl) ?_
                              show own_Ends p e below s₁ (mkF m 50 #[.val (.ref a), .val (.int (6 : Int32)), .val (.int (7 : Int32))] []) _
                              refine own_go (fun _ => XS.goto X0.here hx rfl (pc0 := 50) (pc' := 32) rfl (hb hby d3_50) (by decide) (by decide)) ?_
                              show own_Ends p e below s₁ (mkF m 32 #[.val (.ref a), .val (.int (6 : Int32)), .val (.int (7 : Int32))] []) _
                              refine own_go (fun _ => XS.iloadN X0.here hx rfl (hb hby d3_32) rfl) ?_
                              show own_Ends p e below s₁ (mkF m 33 #[.val (.ref a), .val (.int (6 : Int32)), .val (.int (7 : Int32))] [(.int (7 : Int32))]) _
                              refine own_go (fun _ => XS.bipush X0.here hx rfl (hb hby d3_33)) ?_
                              show own_Ends p e below s₁ (mkF m 35 #[.val (.ref a), .val (.int (6 : Int32)), .val (.int (7 : Int32))] [(.int (8 : Int32)), (.int (7 : Int32))]) _
                              refine own_go (fun _ => XS.icmpNo X0.here hx rfl (hb hby d3_35) rfl (tlt (show (7 : Int32) < (8 : Int32) from by decide)).2.1) ?_
                              show own_Ends p e below s₁ (mkF m 38 #[.val (.ref a), .val (.int (6 : Int32)), .val (.int (7 : Int32))] []) _
                              refine own_go (fun _ => XS.aloadN X0.here hx rfl (hb hby d3_38) rfl rfl) ?_
                              show own_Ends p e below s₁ (mkF m 39 #[.val (.ref a), .val (.int (6 : Int32)), .val (.int (7 : Int32))] [(.ref a)]) _
                              refine own_go (fun _ => XS.iloadN X0.here hx rfl (hb hby d3_39) rfl) ?_
                              show own_Ends p e below s₁ (mkF m 40 #[.val (.ref a), .val (.int (6 : Int32)), .val (.int (7 : Int32))] [(.int (7 : Int32)), (.ref a)]) _
                              obtain ⟨cl_81, Ar_81, q_81, S_81, M_81, H_81, G_81⟩ := V_a_r80
                              have hin81 : ¬ ((7 : Int32) < 0 ∨ cl_81.slots.size ≤ ((7 : Int32)).toNatClampNeg) := inb_of S_81 ⟨by decide, by decide⟩
                              have hat81 : cl_81.slots[((7 : Int32)).toNatClampNeg]? = some (.int c7) := Has.at H_81 hin81 (rfl)
                              refine own_go (X0.baloadBytes hx (j := (7 : Int32)) (v := (.int c7)) (by rw [e0]; exact Ar_81.1) (State.isArrayOf_alike hZ.alike Ar_81.2.1) Ar_81.2.2 hin81 hat81 (g := (mkF m 40 #[.val (.ref a), .val (.int (6 : Int32)), .val (.int (7 : Int32))] [(.int (7 : Int32)), (.ref a)])) rfl rfl (hb hby d3_40)) ?_
                              have V_a_r81 : Arv Z h0 a kl .byte (8 : Int32) [(.int c0), (.int c1), (.int c2), (.int c3), (.int c4), (.int c5), (.int c6), (.int c7)] (.int (0 : Int32)) := ⟨cl_81, Ar_81, q_81, S_81, M_81, H_81, G_81⟩
                              show own_Ends p e below s₁ (mkF m 41 #[.val (.ref a), .val (.int (6 : Int32)), .val (.int (7 : Int32))] [(.int c7)]) _
                              refine own_go (fun _ => XS.iconst X0.here hx rfl (hb hby d3_41)) ?_
                              show own_Ends p e below s₁ (mkF m 42 #[.val (.ref a), .val (.int (6 : Int32)), .val (.int (7 : Int32))] [(.int (-1 : Int32)), (.int c7)]) _
                              by_cases hc42_1 : c7 = (-1 : Int32)
                              · refine own_go (fun _ => XS.icmpYes X0.here hx rfl (pc0 := 42) (pc' := 47) rfl (hb hby d3_42) rfl (teq hc42_1).1 (by decide) (by decide)) ?_
                                show own_Ends p e below s₁ (mkF m 47 #[.val (.ref a), .val (.int (6 : Int32)), .val (.int (7 : Int32))] []) _
                                refine own_go (fun _ => XS.iinc X0.here hx rfl (hb hby d3_47) rfl (l' := #[.val (.ref a), .val (.int (6 : Int32)), .val (.int (8 : Int32))]) rfl) ?_
                                show own_Ends p e below s₁ (mkF m 50 #[.val (.ref a), .val (.int (6 : Int32)), .val (.int (8 : Int32))] []) _
                                refine own_go (fun _ => XS.goto X0.here hx rfl (pc0 := 50) (pc' := 32) rfl (hb hby d3_50) (by decide) (by decide)) ?_
                                show own_Ends p e below s₁ (mkF m 32 #[.val (.ref a), .val (.int (6 : Int32)), .val (.int (8 : Int32))] []) _
                                refine own_go (fun _ => XS.iloadN X0.here hx rfl (hb hby d3_32) rfl) ?_
                                show own_Ends p e below s₁ (mkF m 33 #[.val (.ref a), .val (.int (6 : Int32)), .val (.int (8 : Int32))] [(.int (8 : Int32))]) _
                                refine own_go (fun _ => XS.bipush X0.here hx rfl (hb hby d3_33)) ?_
                                show own_Ends p e below s₁ (mkF m 35 #[.val (.ref a), .val (.int (6 : Int32)), .val (.int (8 : Int32))] [(.int (8 : Int32)), (.int (8 : Int32))]) _
                                refine own_go (fun _ => XS.icmpYes X0.here hx rfl (pc0 := 35) (pc' := 53) rfl (hb hby d3_35) rfl (flt (show ¬ ((8 : Int32) < (8 : Int32)) from by decide)).2.1 (by decide) (by decide)) ?_
                                show own_Ends p e below s₁ (mkF m 53 #[.val (.ref a), .val (.int (6 : Int32)), .val (.int (8 : Int32))] []) _
                                refine own_go (fun _ => XS.iloadN X0.here hx rfl (hb hby d3_53) rfl) ?_
                                show own_Ends p e below s₁ (mkF m 54 #[.val (.ref a), .val (.int (6 : Int32)), .val (.int (8 : Int32))] [(.int (6 : Int32))]) _
                                refine own_go (fun _ => XS.iconst X0.here hx rfl (hb hby d3_54)) ?_
                                show own_Ends p e below s₁ (mkF m 55 #[.val (.ref a), .val (.int (6 : Int32)), .val (.int (8 : Int32))] [(.int (4 : Int32)), (.int (6 : Int32))]) _
                                refine own_go (fun _ => XS.icmpNo X0.here hx rfl (hb hby d3_55) rfl (flt (show ¬ ((6 : Int32) < (4 : Int32)) from by decide)).1) ?_
                                show own_Ends p e below s₁ (mkF m 58 #[.val (.ref a), .val (.int (6 : Int32)), .val (.int (8 : Int32))] []) _
                                refine own_go (fun _ => XS.iconst X0.here hx rfl (hb hby d3_58)) ?_
                                show own_Ends p e below s₁ (mkF m 59 #[.val (.ref a), .val (.int (6 : Int32)), .val (.int (8 : Int32))] [(.int (1 : Int32))]) _
                                refine own_go (fun _ => XS.goto X0.here hx rfl (pc0 := 59) (pc' := 63) rfl (hb hby d3_59) (by decide) (by decide)) ?_
                                show own_Ends p e below s₁ (mkF m 63 #[.val (.ref a), .val (.int (6 : Int32)), .val (.int (8 : Int32))] [(.int (1 : Int32))]) _
                                obtain ⟨fs, hr, hrun, hended, hW, hsame⟩ := X0.leave (v := some (.int (1 : Int32))) (fun h => by rw [Bd.returns] at h; cases h)
                                refine ⟨_, _, retN X0 hx (t := .boolean) Bd.returns (by simp) (hb hby d3_63) hr, hrun, hended, _, _, rfl, ?_, ⟨_, rfl⟩, hW, hsame.mono (by decide) (by decide)⟩
                                show Q_rmPin Z a kl c0 c1 c2 c3 c4 c5 c6 c7 h0 n0 _ s₁.heap _
                                rw [e0]
                                exact ⟨_, rfl, by exact own_back ((own_sC hc13 hc21).trans ((own_sC hc13_1 hc21_1).trans ((own_sC hc13_2 hc21_2).trans ((own_sC hc13_3 hc21_3).trans ((own_sC hc13_4 hc21_4).trans ((own_sC hc13_5 hc21_5).trans ((own_sA hc13_6).trans ((own_tA hc42).trans ((own_tA hc42_1).trans (rfl)))))))))), N0, rfl⟩
                              · refine own_go (fun _ => XS.icmpNo X0.here hx rfl (hb hby d3_42) rfl (feq hc42_1).1) ?_
                                show own_Ends p e below s₁ (mkF m 45 #[.val (.ref a), .val (.int (6 : Int32)), .val (.int (7 : Int32))] []) _
                                refine own_go (fun _ => XS.iconst X0.here hx rfl (hb hby d3_45)) ?_
                                show own_Ends p e below s₁ (mkF m 46 #[.val (.ref a), .val (.int (6 : Int32)), .val (.int (7 : Int32))] [(.int (0 : Int32))]) _
                                obtain ⟨fs, hr, hrun, hended, hW, hsame⟩ := X0.leave (v := some (.int (0 : Int32))) (fun h => by rw [Bd.returns] at h; cases h)
                                refine ⟨_, _, retN X0 hx (t := .boolean) Bd.returns (by simp) (hb hby d3_46) hr, hrun, hended, _, _, rfl, ?_, ⟨_, rfl⟩, hW, hsame.mono (by decide) (by decide)⟩
                                show Q_rmPin Z a kl c0 c1 c2 c3 c4 c5 c6 c7 h0 n0 _ s₁.heap _
                                rw [e0]
                                exact ⟨_, rfl, by exact own_back ((own_sC hc13 hc21).trans ((own_sC hc13_1 hc21_1).trans ((own_sC hc13_2 hc21_2).trans ((own_sC hc13_3 hc21_3).trans ((own_sC hc13_4 hc21_4).trans ((own_sC hc13_5 hc21_5).trans ((own_sA hc13_6).trans ((own_tA hc42).trans (own_tB hc42_1))))))))), N0, rfl⟩
                            · refine own_go (fun _ => XS.icmpNo X0.here hx rfl (hb hby d3_42) rfl (feq hc42).1) ?_
                              show own_Ends p e below s₁ (mkF m 45 #[.val (.ref a), .val (.int (6 : Int32)), .val (.int (6 : Int32))] []) _
                              refine own_go (fun _ => XS.iconst X0.here hx rfl (hb hby d3_45)) ?_
                              show own_Ends p e below s₁ (mkF m 46 #[.val (.ref a), .val (.int (6 : Int32)), .val (.int (6 : Int32))] [(.int (0 : Int32))]) _
                              obtain ⟨fs, hr, hrun, hended, hW, hsame⟩ := X0.leave (v := some (.int (0 : Int32))) (fun h => by rw [Bd.returns] at h; cases h)
                              refine ⟨_, _, retN X0 hx (t := .boolean) Bd.returns (by simp) (hb hby d3_46) hr, hrun, hended, _, _, rfl, ?_, ⟨_, rfl⟩, hW, hsame.mono (by decide) (by decide)⟩
                              show Q_rmPin Z a kl c0 c1 c2 c3 c4 c5 c6 c7 h0 n0 _ s₁.heap _
                              rw [e0]
                              exact ⟨_, rfl, by exact own_back ((own_sC hc13 hc21).trans ((own_sC hc13_1 hc21_1).trans ((own_sC hc13_2 hc21_2).trans ((own_sC hc13_3 hc21_3).trans ((own_sC hc13_4 hc21_4).trans ((own_sC hc13_5 hc21_5).trans ((own_sA hc13_6).trans (own_tB hc42)))))))), N0, rfl⟩
                          · refine own_go (fun _ => XS.icmpNo X0.here hx rfl (hb hby d3_13) rfl (flt hc13_6).1) ?_
                            show own_Ends p e below s₁ (mkF m 16 #[.val (.ref a), .val (.int (6 : Int32)), .unset] []) _
                            refine own_go (fun _ => XS.aloadN X0.here hx rfl (hb hby d3_16) rfl rfl) ?_
                            show own_Ends p e below s₁ (mkF m 17 #[.val (.ref a), .val (.int (6 : Int32)), .unset] [(.ref a)]) _
                            refine own_go (fun _ => XS.iloadN X0.here hx rfl (hb hby d3_17) rfl) ?_
                            show own_Ends p e below s₁ (mkF m 18 #[.val (.ref a), .val (.int (6 : Int32)), .unset] [(.int (6 : Int32)), (.ref a)]) _
                            obtain ⟨cl_82, Ar_82, q_82, S_82, M_82, H_82, G_82⟩ := V_a_r79
                            have hin82 : ¬ ((6 : Int32) < 0 ∨ cl_82.slots.size ≤ ((6 : Int32)).toNatClampNeg) := inb_of S_82 ⟨by decide, by decide⟩
                            have hat82 : cl_82.slots[((6 : Int32)).toNatClampNeg]? = some (.int c6) := Has.at H_82 hin82 (rfl)
                            refine own_go (X0.baloadBytes hx (j := (6 : Int32)) (v := (.int c6)) (by rw [e0]; exact Ar_82.1) (State.isArrayOf_alike hZ.alike Ar_82.2.1) Ar_82.2.2 hin82 hat82 (g := (mkF m 18 #[.val (.ref a), .val (.int (6 : Int32)), .unset] [(.int (6 : Int32)), (.ref a)])) rfl rfl (hb hby d3_18)) ?_
                            have V_a_r82 : Arv Z h0 a kl .byte (8 : Int32) [(.int c0), (.int c1), (.int c2), (.int c3), (.int c4), (.int c5), (.int c6), (.int c7)] (.int (0 : Int32)) := ⟨cl_82, Ar_82, q_82, S_82, M_82, H_82, G_82⟩
                            show own_Ends p e below s₁ (mkF m 19 #[.val (.ref a), .val (.int (6 : Int32)), .unset] [(.int c6)]) _
                            refine own_go (fun _ => XS.bipush X0.here hx rfl (hb hby d3_19)) ?_
                            show own_Ends p e below s₁ (mkF m 21 #[.val (.ref a), .val (.int (6 : Int32)), .unset] [(.int (57 : Int32)), (.int c6)]) _
                            by_cases hc21_6 : (57 : Int32) < c6
                            · refine own_go (fun _ => XS.icmpYes X0.here hx rfl (pc0 := 21) (pc' := 30) rfl (hb hby d3_21) rfl (tlt hc21_6).2.2.1 (by decide) (by decide)) ?_
                              show own_Ends p e below s₁ (mkF m 30 #[.val (.ref a), .val (.int (6 : Int32)), .unset] []) _
                              refine own_go (fun _ => XS.iloadN X0.here hx rfl (hb hby d3_30) rfl) ?_
                              show own_Ends p e below s₁ (mkF m 31 #[.val (.ref a), .val (.int (6 : Int32)), .unset] [(.int (6 : Int32))]) _
                              refine own_go (fun _ => XS.istoreN X0.here hx rfl (hb hby d3_31) rfl (l' := #[.val (.ref a), .val (.int (6 : Int32)), .val (.int (6 : Int32))]) rfl) ?_
                              show own_Ends p e below s₁ (mkF m 32 #[.val (.ref a), .val (.int (6 : Int32)), .val (.int (6 : Int32))] []) _
                              refine own_go (fun _ => XS.iloadN X0.here hx rfl (hb hby d3_32) rfl) ?_
                              show own_Ends p e below s₁ (mkF m 33 #[.val (.ref a), .val (.int (6 : Int32)), .val (.int (6 : Int32))] [(.int (6 : Int32))]) _
                              refine own_go (fun _ => XS.bipush X0.here hx rfl (hb hby d3_33)) ?_
                              show own_Ends p e below s₁ (mkF m 35 #[.val (.ref a), .val (.int (6 : Int32)), .val (.int (6 : Int32))] [(.int (8 : Int32)), (.int (6 : Int32))]) _
                              refine own_go (fun _ => XS.icmpNo X0.here hx rfl (hb hby d3_35) rfl (tlt (show (6 : Int32) < (8 : Int32) from by decide)).2.1) ?_
                              show own_Ends p e below s₁ (mkF m 38 #[.val (.ref a), .val (.int (6 : Int32)), .val (.int (6 : Int32))] []) _
                              refine own_go (fun _ => XS.aloadN X0.here hx rfl (hb hby d3_38) rfl rfl) ?_
                              show own_Ends p e below s₁ (mkF m 39 #[.val (.ref a), .val (.int (6 : Int32)), .val (.int (6 : Int32))] [(.ref a)]) _
                              refine own_go (fun _ => XS.iloadN X0.here hx rfl (hb hby d3_39) rfl) ?_
                              show own_Ends p e below s₁ (mkF m 40 #[.val (.ref a), .val (.int (6 : Int32)), .val (.int (6 : Int32))] [(.int (6 : Int32)), (.ref a)]) _
                              obtain ⟨cl_83, Ar_83, q_83, S_83, M_83, H_83, G_83⟩ := V_a_r82
                              have hin83 : ¬ ((6 : Int32) < 0 ∨ cl_83.slots.size ≤ ((6 : Int32)).toNatClampNeg) := inb_of S_83 ⟨by decide, by decide⟩
                              have hat83 : cl_83.slots[((6 : Int32)).toNatClampNeg]? = some (.int c6) := Has.at H_83 hin83 (rfl)
                              refine own_go (X0.baloadBytes hx (j := (6 : Int32)) (v := (.int c6)) (by rw [e0]; exact Ar_83.1) (State.isArrayOf_alike hZ.alike Ar_83.2.1) Ar_83.2.2 hin83 hat83 (g := (mkF m 40 #[.val (.ref a), .val (.int (6 : Int32)), .val (.int (6 : Int32))] [(.int (6 : Int32)), (.ref a)])) rfl rfl (hb hby d3_40)) ?_
                              have V_a_r83 : Arv Z h0 a kl .byte (8 : Int32) [(.int c0), (.int c1), (.int c2), (.int c3), (.int c4), (.int c5), (.int c6), (.int c7)] (.int (0 : Int32)) := ⟨cl_83, Ar_83, q_83, S_83, M_83, H_83, G_83⟩
                              show own_Ends p e below s₁ (mkF m 41 #[.val (.ref a), .val (.int (6 : Int32)), .val (.int (6 : Int32))] [(.int c6)]) _
                              refine own_go (fun _ => XS.iconst X0.here hx rfl (hb hby d3_41)) ?_
                              show own_Ends p e below s₁ (mkF m 42 #[.val (.ref a), .val (.int (6 : Int32)), .val (.int (6 : Int32))] [(.int (-1 : Int32)), (.int c6)]) _
                              by_cases hc42 : c6 = (-1 : Int32)
                              · refine own_go (fun _ => XS.icmpYes X0.here hx rfl (pc0 := 42) (pc' := 47) rfl (hb hby d3_42) rfl (teq hc42).1 (by decide) (by decide)) ?_
                                show own_Ends p e below s₁ (mkF m 47 #[.val (.ref a), .val (.int (6 : Int32)), .val (.int (6 : Int32))] []) _
                                refine own_go (fun _ => XS.iinc X0.here hx rfl (hb hby d3_47) rfl (l' := #[.val (.ref a), .val (.int (6 : Int32)), .val (.int (7 : Int32))]) rfl) ?_
                                show own_Ends p e below s₁ (mkF m 50 #[.val (.ref a), .val (.int (6 : Int32)), .val (.int (7 : Int32))] []) _
                                refine own_go (fun _ => XS.goto X0.here hx rfl (pc0 := 50) (pc' := 32) rfl (hb hby d3_50) (by decide) (by decide)) ?_
                                show own_Ends p e below s₁ (mkF m 32 #[.val (.ref a), .val (.int (6 : Int32)), .val (.int (7 : Int32))] []) _
                                refine own_go (fun _ => XS.iloadN X0.here hx rfl (hb hby d3_32) rfl) ?_
                                show own_Ends p e below s₁ (mkF m 33 #[.val (.ref a), .val (.int (6 : Int32)), .val (.int (7 : Int32))] [(.int (7 : Int32))]) _
                                refine own_go (fun _ => XS.bipush X0.here hx rfl (hb hby d3_33)) ?_
                                show own_Ends p e below s₁ (mkF m 35 #[.val (.ref a), .val (.int (6 : Int32)), .val (.int (7 : Int32))] [(.int (8 : Int32)), (.int (7 : Int32))]) _
                                refine own_go (fun _ => XS.icmpNo X0.here hx rfl (hb hby d3_35) rfl (tlt (show (7 : Int32) < (8 : Int32) from by decide)).2.1) ?_
                                show own_Ends p e below s₁ (mkF m 38 #[.val (.ref a), .val (.int (6 : Int32)), .val (.int (7 : Int32))] []) _
                                refine own_go (fun _ => XS.aloadN X0.here hx rfl (hb hby d3_38) rfl rfl) ?_
                                show own_Ends p e below s₁ (mkF m 39 #[.val (.ref a), .val (.int (6 : Int32)), .val (.int (7 : Int32))] [(.ref a)]) _
                                refine own_go (fun _ => XS.iloadN X0.here hx rfl (hb hby d3_39) rfl) ?_
                                show own_Ends p e below s₁ (mkF m 40 #[.val (.ref a), .val (.int (6 : Int32)), .val (.int (7 : Int32))] [(.int (7 : Int32)), (.ref a)]) _
                                obtain ⟨cl_84, Ar_84, q_84, S_84, M_84, H_84, G_84⟩ := V_a_r83
                                have hin84 : ¬ ((7 : Int32) < 0 ∨ cl_84.slots.size ≤ ((7 : Int32)).toNatClampNeg) := inb_of S_84 ⟨by decide, by decide⟩
                                have hat84 : cl_84.slots[((7 : Int32)).toNatClampNeg]? = some (.int c7) := Has.at H_84 hin84 (rfl)
                                refine own_go (X0.baloadBytes hx (j := (7 : Int32)) (v := (.int c7)) (by rw [e0]; exact Ar_84.1) (State.isArrayOf_alike hZ.alike Ar_84.2.1) Ar_84.2.2 hin84 hat84 (g := (mkF m 40 #[.val (.ref a), .val (.int (6 : Int32)), .val (.int (7 : Int32))] [(.int (7 : Int32)), (.ref a)])) rfl rfl (hb hby d3_40)) ?_
                                have V_a_r84 : Arv Z h0 a kl .byte (8 : Int32) [(.int c0), (.int c1), (.int c2), (.int c3), (.int c4), (.int c5), (.int c6), (.int c7)] (.int (0 : Int32)) := ⟨cl_84, Ar_84, q_84, S_84, M_84, H_84, G_84⟩
                                show own_Ends p e below s₁ (mkF m 41 #[.val (.ref a), .val (.int (6 : Int32)), .val (.int (7 : Int32))] [(.int c7)]) _
                                refine own_go (fun _ => XS.iconst X0.here hx rfl (hb hby d3_41)) ?_
                                show own_Ends p e below s₁ (mkF m 42 #[.val (.ref a), .val (.int (6 : Int32)), .val (.int (7 : Int32))] [(.int (-1 : Int32)), (.int c7)]) _
                                by_cases hc42_1 : c7 = (-1 : Int32)
                                · refine own_go (fun _ => XS.icmpYes X0.here hx rfl (pc0 := 42) (pc' := 47) rfl (hb hby d3_42) rfl (teq hc42_1).1 (by decide) (by decide)) ?_
                                  show own_Ends p e below s₁ (mkF m 47 #[.val (.ref a), .val (.int (6 : Int32)), .val (.int (7 : Int32))] []) _
                                  refine own_go (fun _ => XS.iinc X0.here hx rfl (hb hby d3_47) rfl (l' := #[.val (.ref a), .val (.int (6 : Int32)), .val (.int (8 : Int32))]) rfl) ?_
                                  show own_Ends p e below s₁ (mkF m 50 #[.val (.ref a), .val (.int (6 : Int32)), .val (.int (8 : Int32))] []) _
                                  refine own_go (fun _ => XS.goto X0.here hx rfl (pc0 := 50) (pc' := 32) rfl (hb hby d3_50) (by decide) (by decide)) ?_
                                  show own_Ends p e below s₁ (mkF m 32 #[.val (.ref a), .val (.int (6 : Int32)), .val (.int (8 : Int32))] []) _
                                  refine own_go (fun _ => XS.iloadN X0.here hx rfl (hb hby d3_32) rfl) ?_
                                  show own_Ends p e below s₁ (mkF m 33 #[.val (.ref a), .val (.int (6 : Int32)), .val (.int (8 : Int32))] [(.int (8 : Int32))]) _
                                  refine own_go (fun _ => XS.bipush X0.here hx rfl (hb hby d3_33)) ?_
                                  show own_Ends p e below s₁ (mkF m 35 #[.val (.ref a), .val (.int (6 : Int32)), .val (.int (8 : Int32))] [(.int (8 : Int32)), (.int (8 : Int32))]) _
                                  refine own_go (fun _ => XS.icmpYes X0.here hx rfl (pc0 := 35) (pc' := 53) rfl (hb hby d3_35) rfl (flt (show ¬ ((8 : Int32) < (8 : Int32)) from by decide)).2.1 (by decide) (by decide)) ?_
                                  show own_Ends p e below s₁ (mkF m 53 #[.val (.ref a), .val (.int (6 : Int32)), .val (.int (8 : Int32))] []) _
                                  refine own_go (fun _ => XS.iloadN X0.here hx rfl (hb hby d3_53) rfl) ?_
                                  show own_Ends p e below s₁ (mkF m 54 #[.val (.ref a), .val (.int (6 : Int32)), .val (.int (8 : Int32))] [(.int (6 : Int32))]) _
                                  refine own_go (fun _ => XS.iconst X0.here hx rfl (hb hby d3_54)) ?_
                                  show own_Ends p e below s₁ (mkF m 55 #[.val (.ref a), .val (.int (6 : Int32)), .val (.int (8 : Int32))] [(.int (4 : Int32)), (.int (6 : Int32))]) _
                                  refine own_go (fun _ => XS.icmpNo X0.here hx rfl (hb hby d3_55) rfl (flt (show ¬ ((6 : Int32) < (4 : Int32)) from by decide)).1) ?_
                                  show own_Ends p e below s₁ (mkF m 58 #[.val (.ref a), .val (.int (6 : Int32)), .val (.int (8 : Int32))] []) _
                                  refine own_go (fun _ => XS.iconst X0.here hx rfl (hb hby d3_58)) ?_
                                  show own_Ends p e below s₁ (mkF m 59 #[.val (.ref a), .val (.int (6 : Int32)), .val (.int (8 : Int32))] [(.int (1 : Int32))]) _
                                  refine own_go (fun _ => XS.goto X0.here hx rfl (pc0 := 59) (pc' := 63) rfl (hb hby d3_59) (by decide) (by decide)) ?_
                                  show own_Ends p e below s₁ (mkF m 63 #[.val (.ref a), .val (.int (6 : Int32)), .val (.int (8 : Int32))] [(.int (1 : Int32))]) _
                                  obtain ⟨fs, hr, hrun, hended, hW, hsame⟩ := X0.leave (v := some (.int (1 : Int32))) (fun h => by rw [Bd.returns] at h; cases h)
                                  refine ⟨_, _, retN X0 hx (t := .boolean) Bd.returns (by simp) (hb hby d3_63) hr, hrun, hended, _, _, rfl, ?_, ⟨_, rfl⟩, hW, hsame.mono (by decide) (by decide)⟩
                                  show Q_rmPin Z a kl c0 c1 c2 c3 c4 c5 c6 c7 h0 n0 _ s₁.heap _
                                  rw [e0]
                                  exact ⟨_, rfl, by exact own_back ((own_sC hc13 hc21).trans ((own_sC hc13_1 hc21_1).trans ((own_sC hc13_2 hc21_2).trans ((own_sC hc13_3 hc21_3).trans ((own_sC hc13_4 hc21_4).trans ((own_sC hc13_5 hc21_5).trans ((own_sB hc13_6 hc21_6).trans ((own_tA hc42).trans ((own_tA hc42_1).trans (rfl)))))))))), N0, rfl⟩
                                · refine own_go (fun _ => XS.icmpNo X0.here hx rfl (hb hby d3_42) rfl (feq hc42_1).1) ?_
                                  show own_Ends p e below s₁ (mkF m 45 #[.val (.ref a), .val (.int (6 : Int32)), .val (.int (7 : Int32))] []) _
                                  refine own_go (fun _ => XS.iconst X0.here hx rfl (hb hby d3_45)) ?_
                                  show own_Ends p e below s₁ (mkF m 46 #[.val (.ref a), .val (.int (6 : Int32)), .val (.int (7 : Int32))] [(.int (0 : Int32))]) _
                                  obtain ⟨fs, hr, hrun, hended, hW, hsame⟩ := X0.leave (v := some (.int (0 : Int32))) (fun h => by rw [Bd.returns] at h; cases h)
                                  refine ⟨_, _, retN X0 hx (t := .boolean) Bd.returns (by simp) (hb hby d3_46) hr, hrun, hended, _, _, rfl, ?_, ⟨_, rfl⟩, hW, hsame.mono (by decide) (by decide)⟩
                                  show Q_rmPin Z a kl c0 c1 c2 c3 c4 c5 c6 c7 h0 n0 _ s₁.heap _
                                  rw [e0]
                                  exact ⟨_, rfl, by exact own_back ((own_sC hc13 hc21).trans ((own_sC hc13_1 hc21_1).trans ((own_sC hc13_2 hc21_2).trans ((own_sC hc13_3 hc21_3).trans ((own_sC hc13_4 hc21_4).trans ((own_sC hc13_5 hc21_5).trans ((own_sB hc13_6 hc21_6).trans ((own_tA hc42).trans (own_tB hc42_1))))))))), N0, rfl⟩
                              · refine own_go (fun _ => XS.icmpNo X0.here hx rfl (hb hby d3_42) rfl (feq hc42).1) ?_
                                show own_Ends p e below s₁ (mkF m 45 #[.val (.ref a), .val (.int (6 : Int32)), .val (.int (6 : Int32))] []) _
                                refine own_go (fun _ => XS.iconst X0.here hx rfl (hb hby d3_45)) ?_
                                show own_Ends p e below s₁ (mkF m 46 #[.val (.ref a), .val (.int (6 : Int32)), .val (.int (6 : Int32))] [(.int (0 : Int32))]) _
                                obtain ⟨fs, hr, hrun, hended, hW, hsame⟩ := X0.leave (v := some (.int (0 : Int32))) (fun h => by rw [Bd.returns] at h; cases h)
                                refine ⟨_, _, retN X0 hx (t := .boolean) Bd.returns (by simp) (hb hby d3_46) hr, hrun, hended, _, _, rfl, ?_, ⟨_, rfl⟩, hW, hsame.mono (by decide) (by decide)⟩
                                show Q_rmPin Z a kl c0 c1 c2 c3 c4 c5 c6 c7 h0 n0 _ s₁.heap _
                                rw [e0]
                                exact ⟨_, rfl, by exact own_back ((own_sC hc13 hc21).trans ((own_sC hc13_1 hc21_1).trans ((own_sC hc13_2 hc21_2).trans ((own_sC hc13_3 hc21_3).trans ((own_sC hc13_4 hc21_4).trans ((own_sC hc13_5 hc21_5).trans ((own_sB hc13_6 hc21_6).trans (own_tB hc42)))))))), N0, rfl⟩
                            · refine own_go (fun _ => XS.icmpNo X0.here hx rfl (hb hby d3_21) rfl (flt hc21_6).2.2.1) ?_
                              show own_Ends p e below s₁ (mkF m 24 #[.val (.ref a), .val (.int (6 : Int32)), .unset] []) _
                              refine own_go (fun _ => XS.iinc X0.here hx rfl (hb hby d3_24) rfl (l' := #[.val (.ref a), .val (.int (7 : Int32)), .unset]) rfl) ?_
                              show own_Ends p e below s₁ (mkF m 27 #[.val (.ref a), .val (.int (7 : Int32)), .unset] []) _
                              refine own_go (fun _ => XS.goto X0.here hx rfl (pc0 := 27) (pc' := 2) rfl (hb hby d3_27) (by decide) (by decide)) ?_
                              show own_Ends p e below s₁ (mkF m 2 #[.val (.ref a), .val (.int (7 : Int32)), .unset] []) _
                              refine own_go (fun _ => XS.iloadN X0.here hx rfl (hb hby d3_2) rfl) ?_
                              show own_Ends p e below s₁ (mkF m 3 #[.val (.ref a), .val (.int (7 : Int32)), .unset] [(.int (7 : Int32))]) _
                              refine own_go (fun _ => XS.bipush X0.here hx rfl (hb hby d3_3)) ?_
                              show own_Ends p e below s₁ (mkF m 5 #[.val (.ref a), .val (.int (7 : Int32)), .unset] [(.int (8 : Int32)), (.int (7 : Int32))]) _
                              refine own_go (fun _ => XS.icmpNo X0.here hx rfl (hb hby d3_5) rfl (tlt (show (7 : Int32) < (8 : Int32) from by decide)).2.1) ?_
                              show own_Ends p e below s₁ (mkF m 8 #[.val (.ref a), .val (.int (7 : Int32)), .unset] []) _
                              refine own_go (fun _ => XS.aloadN X0.here hx rfl (hb hby d3_8) rfl rfl) ?_
                              show own_Ends p e below s₁ (mkF m 9 #[.val (.ref a), .val (.int (7 : Int32)), .unset] [(.ref a)]) _
                              refine own_go (fun _ => XS.iloadN X0.here hx rfl (hb hby d3_9) rfl) ?_
                              show own_Ends p e below s₁ (mkF m 10 #[.val (.ref a), .val (.int (7 : Int32)), .unset] [(.int (7 : Int32)), (.ref a)]) _
                              obtain ⟨cl_85, Ar_85, q_85, S_85, M_85, H_85, G_85⟩ := V_a_r82
                              have hin85 : ¬ ((7 : Int32) < 0 ∨ cl_85.slots.size ≤ ((7 : Int32)).toNatClampNeg) := inb_of S_85 ⟨by decide, by decide⟩
                              have hat85 : cl_85.slots[((7 : Int32)).toNatClampNeg]? = some (.int c7) := Has.at H_85 hin85 (rfl)
                              refine own_go (X0.baloadBytes hx (j := (7 : Int32)) (v := (.int c7)) (by rw [e0]; exact Ar_85.1) (State.isArrayOf_alike hZ.alike Ar_85.2.1) Ar_85.2.2 hin85 hat85 (g := (mkF m 10 #[.val (.ref a), .val (.int (7 : Int32)), .unset] [(.int (7 : Int32)), (.ref a)])) rfl rfl (hb hby d3_10)) ?_
                              have V_a_r85 : Arv Z h0 a kl .byte (8 : Int32) [(.int c0), (.int c1), (.int c2), (.int c3), (.int c4), (.int c5), (.int c6), (.int c7)] (.int (0 : Int32)) := ⟨cl_85, Ar_85, q_85, S_85, M_85, H_85, G_85⟩
                              show own_Ends p e below s₁ (mkF m 11 #[.val (.ref a), .val (.int (7 : Int32)), .unset] [(.int c7)]) _
                              refine own_go (fun _ => XS.bipush X0.here hx rfl (hb hby d3_11)) ?_
                              show own_Ends p e below s₁ (mkF m 13 #[.val (.ref a), .val (.int (7 : Int32)), .unset] [(.int (48 : Int32)), (.int c7)]) _
                              by_cases hc13_7 : c7 < (48 : Int32)
                              · refine own_go (fun _ => XS.icmpYes X0.here hx rfl (pc0 := 13) (pc' := 30) rfl (hb hby d3_13) rfl (tlt hc13_7).1 (by decide) (by decide)) ?_
                                show own_Ends p e below s₁ (mkF m 30 #[.val (.ref a), .val (.int (7 : Int32)), .unset] []) _
                                refine own_go (fun _ => XS.iloadN X0.here hx rfl (hb hby d3_30) rfl) ?_
                                show own_Ends p e below s₁ (mkF m 31 #[.val (.ref a), .val (.int (7 : Int32)), .unset] [(.int (7 : Int32))]) _
                                refine own_go (fun _ => XS.istoreN X0.here hx rfl (hb hby d3_31) rfl (l' := #[.val (.ref a), .val (.int (7 : Int32)), .val (.int (7 : Int32))]) rfl) ?_
                                show own_Ends p e below s₁ (mkF m 32 #[.val (.ref a), .val (.int (7 : Int32)), .val (.int (7 : Int32))] []) _
                                refine own_go (fun _ => XS.iloadN X0.here hx rfl (hb hby d3_32) rfl) ?_
                                show own_Ends p e below s₁ (mkF m 33 #[.val (.ref a), .val (.int (7 : Int32)), .val (.int (7 : Int32))] [(.int (7 : Int32))]) _
                                refine own_go (fun _ => XS.bipush X0.here hx rfl (hb hby d3_33)) ?_
                                show own_Ends p e below s₁ (mkF m 35 #[.val (.ref a), .val (.int (7 : Int32)), .val (.int (7 : Int32))] [(.int (8 : Int32)), (.int (7 : Int32))]) _
                                refine own_go (fun _ => XS.icmpNo X0.here hx rfl (hb hby d3_35) rfl (tlt (show (7 : Int32) < (8 : Int32) from by decide)).2.1) ?_
                                show own_Ends p e below s₁ (mkF m 38 #[.val (.ref a), .val (.int (7 : Int32)), .val (.int (7 : Int32))] []) _
                                refine own_go (fun _ => XS.aloadN X0.here hx rfl (hb hby d3_38) rfl rfl) ?_
                                show own_Ends p e below s₁ (mkF m 39 #[.val (.ref a), .val (.int (7 : Int32)), .val (.int (7 : Int32))] [(.ref a)]) _
                                refine own_go (fun _ => XS.iloadN X0.here hx rfl (hb hby d3_39) rfl) ?_
                                show own_Ends p e below s₁ (mkF m 40 #[.val (.ref a), .val (.int (7 : Int32)), .val (.int (7 : Int32))] [(.int (7 : Int32)), (.ref a)]) _
                                obtain ⟨cl_86, Ar_86, q_86, S_86, M_86, H_86, G_86⟩ := V_a_r85
                                have hin86 : ¬ ((7 : Int32) < 0 ∨ cl_86.slots.size ≤ ((7 : Int32)).toNatClampNeg) := inb_of S_86 ⟨by decide, by decide⟩
                                have hat86 : cl_86.slots[((7 : Int32)).toNatClampNeg]? = some (.int c7) := Has.at H_86 hin86 (rfl)
                                refine own_go (X0.baloadBytes hx (j := (7 : Int32)) (v := (.int c7)) (by rw [e0]; exact Ar_86.1) (State.isArrayOf_alike hZ.alike Ar_86.2.1) Ar_86.2.2 hin86 hat86 (g := (mkF m 40 #[.val (.ref a), .val (.int (7 : Int32)), .val (.int (7 : Int32))] [(.int (7 : Int32)), (.ref a)])) rfl rfl (hb hby d3_40)) ?_
                                have V_a_r86 : Arv Z h0 a kl .byte (8 : Int32) [(.int c0), (.int c1), (.int c2), (.int c3), (.int c4), (.int c5), (.int c6), (.int c7)] (.int (0 : Int32)) := ⟨cl_86, Ar_86, q_86, S_86, M_86, H_86, G_86⟩
                                show own_Ends p e below s₁ (mkF m 41 #[.val (.ref a), .val (.int (7 : Int32)), .val (.int (7 : Int32))] [(.int c7)]) _
                                refine own_go (fun _ => XS.iconst X0.here hx rfl (hb hby d3_41)) ?_
                                show own_Ends p e below s₁ (mkF m 42 #[.val (.ref a), .val (.int (7 : Int32)), .val (.int (7 : Int32))] [(.int (-1 : Int32)), (.int c7)]) _
                                by_cases hc42 : c7 = (-1 : Int32)
                                · refine own_go (fun _ => XS.icmpYes X0.here hx rfl (pc0 := 42) (pc' := 47) rfl (hb hby d3_42) rfl (teq hc42).1 (by decide) (by decide)) ?_
                                  show own_Ends p e below s₁ (mkF m 47 #[.val (.ref a), .val (.int (7 : Int32)), .val (.int (7 : Int32))] []) _
                                  refine own_go (fun _ => XS.iinc X0.here hx rfl (hb hby d3_47) rfl (l' := #[.val (.ref a), .val (.int (7 : Int32)), .val (.int (8 : Int32))]) rfl) ?_
                                  show own_Ends p e below s₁ (mkF m 50 #[.val (.ref a), .val (.int (7 : Int32)), .val (.int (8 : Int32))] []) _
                                  refine own_go (fun _ => XS.goto X0.here hx rfl (pc0 := 50) (pc' := 32) rfl (hb hby d3_50) (by decide) (by decide)) ?_
                                  show own_Ends p e below s₁ (mkF m 32 #[.val (.ref a), .val (.int (7 : Int32)), .val (.int (8 : Int32))] []) _
                                  refine own_go (fun _ => XS.iloadN X0.here hx rfl (hb hby d3_32) rfl) ?_
                                  show own_Ends p e below s₁ (mkF m 33 #[.val (.ref a), .val (.int (7 : Int32)), .val (.int (8 : Int32))] [(.int (8 : Int32))]) _
                                  refine own_go (fun _ => XS.bipush X0.here hx rfl (hb hby d3_33)) ?_
                                  show own_Ends p e below s₁ (mkF m 35 #[.val (.ref a), .val (.int (7 : Int32)), .val (.int (8 : Int32))] [(.int (8 : Int32)), (.int (8 : Int32))]) _
                                  refine own_go (fun _ => XS.icmpYes X0.here hx rfl (pc0 := 35) (pc' := 53) rfl (hb hby d3_35) rfl (flt (show ¬ ((8 : Int32) < (8 : Int32)) from by decide)).2.1 (by decide) (by decide)) ?_
                                  show own_Ends p e below s₁ (mkF m 53 #[.val (.ref a), .val (.int (7 : Int32)), .val (.int (8 : Int32))] []) _
                                  refine own_go (fun _ => XS.iloadN X0.here hx rfl (hb hby d3_53) rfl) ?_
                                  show own_Ends p e below s₁ (mkF m 54 #[.val (.ref a), .val (.int (7 : Int32)), .val (.int (8 : Int32))] [(.int (7 : Int32))]) _
                                  refine own_go (fun _ => XS.iconst X0.here hx rfl (hb hby d3_54)) ?_
                                  show own_Ends p e below s₁ (mkF m 55 #[.val (.ref a), .val (.int (7 : Int32)), .val (.int (8 : Int32))] [(.int (4 : Int32)), (.int (7 : Int32))]) _
                                  refine own_go (fun _ => XS.icmpNo X0.here hx rfl (hb hby d3_55) rfl (flt (show ¬ ((7 : Int32) < (4 : Int32)) from by decide)).1) ?_
                                  show own_Ends p e below s₁ (mkF m 58 #[.val (.ref a), .val (.int (7 : Int32)), .val (.int (8 : Int32))] []) _
                                  refine own_go (fun _ => XS.iconst X0.here hx rfl (hb hby d3_58)) ?_
                                  show own_Ends p e below s₁ (mkF m 59 #[.val (.ref a), .val (.int (7 : Int32)), .val (.int (8 : Int32))] [(.int (1 : Int32))]) _
                                  refine own_go (fun _ => XS.goto X0.here hx rfl (pc0 := 59) (pc' := 63) rfl (hb hby d3_59) (by decide) (by decide)) ?_
                                  show own_Ends p e below s₁ (mkF m 63 #[.val (.ref a), .val (.int (7 : Int32)), .val (.int (8 : Int32))] [(.int (1 : Int32))]) _
                                  obtain ⟨fs, hr, hrun, hended, hW, hsame⟩ := X0.leave (v := some (.int (1 : Int32))) (fun h => by rw [Bd.returns] at h; cases h)
                                  refine ⟨_, _, retN X0 hx (t := .boolean) Bd.returns (by simp) (hb hby d3_63) hr, hrun, hended, _, _, rfl, ?_, ⟨_, rfl⟩, hW, hsame.mono (by decide) (by decide)⟩
                                  show Q_rmPin Z a kl c0 c1 c2 c3 c4 c5 c6 c7 h0 n0 _ s₁.heap _
                                  rw [e0]
                                  exact ⟨_, rfl, by exact own_back ((own_sC hc13 hc21).trans ((own_sC hc13_1 hc21_1).trans ((own_sC hc13_2 hc21_2).trans ((own_sC hc13_3 hc21_3).trans ((own_sC hc13_4 hc21_4).trans ((own_sC hc13_5 hc21_5).trans ((own_sC hc13_6 hc21_6).trans ((own_sA hc13_7).trans ((own_tA hc42).trans (rfl)))))))))), N0, rfl⟩
                                · refine own_go (fun _ => XS.icmpNo X0.here hx rfl (hb hby d3_42) rfl (feq hc42).1) ?_
                                  show own_Ends p e below s₁ (mkF m 45 #[.val (.ref a), .val (.int (7 : Int32)), .val (.int (7 : Int32))] []) _
                                  refine own_go (fun _ => XS.iconst X0.here hx rfl (hb hby d3_45)) ?_
                                  show own_Ends p e below s₁ (mkF m 46 #[.val (.ref a), .val (.int (7 : Int32)), .val (.int (7 : Int32))] [(.int (0 : Int32))]) _
                                  obtain ⟨fs, hr, hrun, hended, hW, hsame⟩ := X0.leave (v := some (.int (0 : Int32))) (fun h => by rw [Bd.returns] at h; cases h)
                                  refine ⟨_, _, retN X0 hx (t := .boolean) Bd.returns (by simp) (hb hby d3_46) hr, hrun, hended, _, _, rfl, ?_, ⟨_, rfl⟩, hW, hsame.mono (by decide) (by decide)⟩
                                  show Q_rmPin Z a kl c0 c1 c2 c3 c4 c5 c6 c7 h0 n0 _ s₁.heap _
                                  rw [e0]
                                  exact ⟨_, rfl, by exact own_back ((own_sC hc13 hc21).trans ((own_sC hc13_1 hc21_1).trans ((own_sC hc13_2 hc21_2).trans ((own_sC hc13_3 hc21_3).trans ((own_sC hc13_4 hc21_4).trans ((own_sC hc13_5 hc21_5).trans ((own_sC hc13_6 hc21_6).trans ((own_sA hc13_7).trans (own_tB hc42))))))))), N0, rfl⟩
                              · refine own_go (fun _ => XS.icmpNo X0.here hx rfl (hb hby d3_13) rfl (flt hc13_7).1) ?_
                                show own_Ends p e below s₁ (mkF m 16 #[.val (.ref a), .val (.int (7 : Int32)), .unset] []) _
                                refine own_go (fun _ => XS.aloadN X0.here hx rfl (hb hby d3_16) rfl rfl) ?_
                                show own_Ends p e below s₁ (mkF m 17 #[.val (.ref a), .val (.int (7 : Int32)), .unset] [(.ref a)]) _
                                refine own_go (fun _ => XS.iloadN X0.here hx rfl (hb hby d3_17) rfl) ?_
                                show own_Ends p e below s₁ (mkF m 18 #[.val (.ref a), .val (.int (7 : Int32)), .unset] [(.int (7 : Int32)), (.ref a)]) _
                                obtain ⟨cl_87, Ar_87, q_87, S_87, M_87, H_87, G_87⟩ := V_a_r85
                                have hin87 : ¬ ((7 : Int32) < 0 ∨ cl_87.slots.size ≤ ((7 : Int32)).toNatClampNeg) := inb_of S_87 ⟨by decide, by decide⟩
                                have hat87 : cl_87.slots[((7 : Int32)).toNatClampNeg]? = some (.int c7) := Has.at H_87 hin87 (rfl)
                                refine own_go (X0.baloadBytes hx (j := (7 : Int32)) (v := (.int c7)) (by rw [e0]; exact Ar_87.1) (State.isArrayOf_alike hZ.alike Ar_87.2.1) Ar_87.2.2 hin87 hat87 (g := (mkF m 18 #[.val (.ref a), .val (.int (7 : Int32)), .unset] [(.int (7 : Int32)), (.ref a)])) rfl rfl (hb hby d3_18)) ?_
                                have V_a_r87 : Arv Z h0 a kl .byte (8 : Int32) [(.int c0), (.int c1), (.int c2), (.int c3), (.int c4), (.int c5), (.int c6), (.int c7)] (.int (0 : Int32)) := ⟨cl_87, Ar_87, q_87, S_87, M_87, H_87, G_87⟩
                                show own_Ends p e below s₁ (mkF m 19 #[.val (.ref a), .val (.int (7 : Int32)), .unset] [(.int c7)]) _
                                refine own_go (fun _ => XS.bipush X0.here hx rfl (hb hby d3_19)) ?_
                                show own_Ends p e below s₁ (mkF m 21 #[.val (.ref a), .val (.int (7 : Int32)), .unset] [(.int (57 : Int32)), (.int c7)]) _
                                by_cases hc21_7 : (57 : Int32) < c7
                                · refine own_go (fun _ => XS.icmpYes X0.here hx rfl (pc0 := 21) (pc' := 30) rfl (hb hby d3_21) rfl (tlt hc21_7).2.2.1 (by decide) (by decide)) ?_
                                  show own_Ends p e below s₁ (mkF m 30 #[.val (.ref a), .val (.int (7 : Int32)), .unset] []) _
                                  refine own_go (fun _ => XS.iloadN X0.here hx rfl (hb hby d3_30) rfl) ?_
                                  show own_Ends p e below s₁ (mkF m 31 #[.val (.ref a), .val (.int (7 : Int32)), .unset] [(.int (7 : Int32))]) _
                                  refine own_go (fun _ => XS.istoreN X0.here hx rfl (hb hby d3_31) rfl (l' := #[.val (.ref a), .val (.int (7 : Int32)), .val (.int (7 : Int32))]) rfl) ?_
                                  show own_Ends p e below s₁ (mkF m 32 #[.val (.ref a), .val (.int (7 : Int32)), .val (.int (7 : Int32))] []) _
                                  refine own_go (fun _ => XS.iloadN X0.here hx rfl (hb hby d3_32) rfl) ?_
                                  show own_Ends p e below s₁ (mkF m 33 #[.val (.ref a), .val (.int (7 : Int32)), .val (.int (7 : Int32))] [(.int (7 : Int32))]) _
                                  refine own_go (fun _ => XS.bipush X0.here hx rfl (hb hby d3_33)) ?_
                                  show own_Ends p e below s₁ (mkF m 35 #[.val (.ref a), .val (.int (7 : Int32)), .val (.int (7 : Int32))] [(.int (8 : Int32)), (.int (7 : Int32))]) _
                                  refine own_go (fun _ => XS.icmpNo X0.here hx rfl (hb hby d3_35) rfl (tlt (show (7 : Int32) < (8 : Int32) from by decide)).2.1) ?_
                                  show own_Ends p e below s₁ (mkF m 38 #[.val (.ref a), .val (.int (7 : Int32)), .val (.int (7 : Int32))] []) _
                                  refine own_go (fun _ => XS.aloadN X0.here hx rfl (hb hby d3_38) rfl rfl) ?_
                                  show own_Ends p e below s₁ (mkF m 39 #[.val (.ref a), .val (.int (7 : Int32)), .val (.int (7 : Int32))] [(.ref a)]) _
                                  refine own_go (fun _ => XS.iloadN X0.here hx rfl (hb hby d3_39) rfl) ?_
                                  show own_Ends p e below s₁ (mkF m 40 #[.val (.ref a), .val (.int (7 : Int32)), .val (.int (7 : Int32))] [(.int (7 : Int32)), (.ref a)]) _
                                  obtain ⟨cl_88, Ar_88, q_88, S_88, M_88, H_88, G_88⟩ := V_a_r87
                                  have hin88 : ¬ ((7 : Int32) < 0 ∨ cl_88.slots.size ≤ ((7 : Int32)).toNatClampNeg) := inb_of S_88 ⟨by decide, by decide⟩
                                  have hat88 : cl_88.slots[((7 : Int32)).toNatClampNeg]? = some (.int c7) := Has.at H_88 hin88 (rfl)
                                  refine own_go (X0.baloadBytes hx (j := (7 : Int32)) (v := (.int c7)) (by rw [e0]; exact Ar_88.1) (State.isArrayOf_alike hZ.alike Ar_88.2.1) Ar_88.2.2 hin88 hat88 (g := (mkF m 40 #[.val (.ref a), .val (.int (7 : Int32)), .val (.int (7 : Int32))] [(.int (7 : Int32)), (.ref a)])) rfl rfl (hb hby d3_40)) ?_
                                  have V_a_r88 : Arv Z h0 a kl .byte (8 : Int32) [(.int c0), (.int c1), (.int c2), (.int c3), (.int c4), (.int c5), (.int c6), (.int c7)] (.int (0 : Int32)) := ⟨cl_88, Ar_88, q_88, S_88, M_88, H_88, G_88⟩
                                  show own_Ends p e below s₁ (mkF m 41 #[.val (.ref a), .val (.int (7 : Int32)), .val (.int (7 : Int32))] [(.int c7)]) _
                                  refine own_go (fun _ => XS.iconst X0.here hx rfl (hb hby d3_41)) ?_
                                  show own_Ends p e below s₁ (mkF m 42 #[.val (.ref a), .val (.int (7 : Int32)), .val (.int (7 : Int32))] [(.int (-1 : Int32)), (.int c7)]) _
                                  by_cases hc42 : c7 = (-1 : Int32)
                                  · refine own_go (fun _ => XS.icmpYes X0.here hx rfl (pc0 := 42) (pc' := 47) rfl (hb hby d3_42) rfl (teq hc42).1 (by decide) (by decide)) ?_
                                    show own_Ends p e below s₁ (mkF m 47 #[.val (.ref a), .val (.int (7 : Int32)), .val (.int (7 : Int32))] []) _
                                    refine own_go (fun _ => XS.iinc X0.here hx rfl (hb hby d3_47) rfl (l' := #[.val (.ref a), .val (.int (7 : Int32)), .val (.int (8 : Int32))]) rfl) ?_
                                    show own_Ends p e below s₁ (mkF m 50 #[.val (.ref a), .val (.int (7 : Int32)), .val (.int (8 : Int32))] []) _
                                    refine own_go (fun _ => XS.goto X0.here hx rfl (pc0 := 50) (pc' := 32) rfl (hb hby d3_50) (by decide) (by decide)) ?_
                                    show own_Ends p e below s₁ (mkF m 32 #[.val (.ref a), .val (.int (7 : Int32)), .val (.int (8 : Int32))] []) _
                                    refine own_go (fun _ => XS.iloadN X0.here hx rfl (hb hby d3_32) rfl) ?_
                                    show own_Ends p e below s₁ (mkF m 33 #[.val (.ref a), .val (.int (7 : Int32)), .val (.int (8 : Int32))] [(.int (8 : Int32))]) _
                                    refine own_go (fun _ => XS.bipush X0.here hx rfl (hb hby d3_33)) ?_
                                    show own_Ends p e below s₁ (mkF m 35 #[.val (.ref a), .val (.int (7 : Int32)), .val (.int (8 : Int32))] [(.int (8 : Int32)), (.int (8 : Int32))]) _
                                    refine own_go (fun _ => XS.icmpYes X0.here hx rfl (pc0 := 35) (pc' := 53) rfl (hb hby d3_35) rfl (flt (show ¬ ((8 : Int32) < (8 : Int32)) from by decide)).2.1 (by decide) (by decide)) ?_
                                    show own_Ends p e below s₁ (mkF m 53 #[.val (.ref a), .val (.int (7 : Int32)), .val (.int (8 : Int32))] []) _
                                    refine own_go (fun _ => XS.iloadN X0.here hx rfl (hb hby d3_53) rfl) ?_
                                    show own_Ends p e below s₁ (mkF m 54 #[.val (.ref a), .val (.int (7 : Int32)), .val (.int (8 : Int32))] [(.int (7 : Int32))]) _
                                    refine own_go (fun _ => XS.iconst X0.here hx rfl (hb hby d3_54)) ?_
                                    show own_Ends p e below s₁ (mkF m 55 #[.val (.ref a), .val (.int (7 : Int32)), .val (.int (8 : Int32))] [(.int (4 : Int32)), (.int (7 : Int32))]) _
                                    refine own_go (fun _ => XS.icmpNo X0.here hx rfl (hb hby d3_55) rfl (flt (show ¬ ((7 : Int32) < (4 : Int32)) from by decide)).1) ?_
                                    show own_Ends p e below s₁ (mkF m 58 #[.val (.ref a), .val (.int (7 : Int32)), .val (.int (8 : Int32))] []) _
                                    refine own_go (fun _ => XS.iconst X0.here hx rfl (hb hby d3_58)) ?_
                                    show own_Ends p e below s₁ (mkF m 59 #[.val (.ref a), .val (.int (7 : Int32)), .val (.int (8 : Int32))] [(.int (1 : Int32))]) _
                                    refine own_go (fun _ => XS.goto X0.here hx rfl (pc0 := 59) (pc' := 63) rfl (hb hby d3_59) (by decide) (by decide)) ?_
                                    show own_Ends p e below s₁ (mkF m 63 #[.val (.ref a), .val (.int (7 : Int32)), .val (.int (8 : Int32))] [(.int (1 : Int32))]) _
                                    obtain ⟨fs, hr, hrun, hended, hW, hsame⟩ := X0.leave (v := some (.int (1 : Int32))) (fun h => by rw [Bd.returns] at h; cases h)
                                    refine ⟨_, _, retN X0 hx (t := .boolean) Bd.returns (by simp) (hb hby d3_63) hr, hrun, hended, _, _, rfl, ?_, ⟨_, rfl⟩, hW, hsame.mono (by decide) (by decide)⟩
                                    show Q_rmPin Z a kl c0 c1 c2 c3 c4 c5 c6 c7 h0 n0 _ s₁.heap _
                                    rw [e0]
                                    exact ⟨_, rfl, by exact own_back ((own_sC hc13 hc21).trans ((own_sC hc13_1 hc21_1).trans ((own_sC hc13_2 hc21_2).trans ((own_sC hc13_3 hc21_3).trans ((own_sC hc13_4 hc21_4).trans ((own_sC hc13_5 hc21_5).trans ((own_sC hc13_6 hc21_6).trans ((own_sB hc13_7 hc21_7).trans ((own_tA hc42).trans (rfl)))))))))), N0, rfl⟩
                                  · refine own_go (fun _ => XS.icmpNo X0.here hx rfl (hb hby d3_42) rfl (feq hc42).1) ?_
                                    show own_Ends p e below s₁ (mkF m 45 #[.val (.ref a), .val (.int (7 : Int32)), .val (.int (7 : Int32))] []) _
                                    refine own_go (fun _ => XS.iconst X0.here hx rfl (hb hby d3_45)) ?_
                                    show own_Ends p e below s₁ (mkF m 46 #[.val (.ref a), .val (.int (7 : Int32)), .val (.int (7 : Int32))] [(.int (0 : Int32))]) _
                                    obtain ⟨fs, hr, hrun, hended, hW, hsame⟩ := X0.leave (v := some (.int (0 : Int32))) (fun h => by rw [Bd.returns] at h; cases h)
                                    refine ⟨_, _, retN X0 hx (t := .boolean) Bd.returns (by simp) (hb hby d3_46) hr, hrun, hended, _, _, rfl, ?_, ⟨_, rfl⟩, hW, hsame.mono (by decide) (by decide)⟩
                                    show Q_rmPin Z a kl c0 c1 c2 c3 c4 c5 c6 c7 h0 n0 _ s₁.heap _
                                    rw [e0]
                                    exact ⟨_, rfl, by exact own_back ((own_sC hc13 hc21).trans ((own_sC hc13_1 hc21_1).trans ((own_sC hc13_2 hc21_2).trans ((own_sC hc13_3 hc21_3).trans ((own_sC hc13_4 hc21_4).trans ((own_sC hc13_5 hc21_5).trans ((own_sC hc13_6 hc21_6).trans ((own_sB hc13_7 hc21_7).trans (own_tB hc42))))))))), N0, rfl⟩
                                · refine own_go (fun _ => XS.icmpNo X0.here hx rfl (hb hby d3_21) rfl (flt hc21_7).2.2.1) ?_
                                  show own_Ends p e below s₁ (mkF m 24 #[.val (.ref a), .val (.int (7 : Int32)), .unset] []) _
                                  refine own_go (fun _ => XS.iinc X0.here hx rfl (hb hby d3_24) rfl (l' := #[.val (.ref a), .val (.int (8 : Int32)), .unset]) rfl) ?_
                                  show own_Ends p e below s₁ (mkF m 27 #[.val (.ref a), .val (.int (8 : Int32)), .unset] []) _
                                  refine own_go (fun _ => XS.goto X0.here hx rfl (pc0 := 27) (pc' := 2) rfl (hb hby d3_27) (by decide) (by decide)) ?_
                                  show own_Ends p e below s₁ (mkF m 2 #[.val (.ref a), .val (.int (8 : Int32)), .unset] []) _
                                  refine own_go (fun _ => XS.iloadN X0.here hx rfl (hb hby d3_2) rfl) ?_
                                  show own_Ends p e below s₁ (mkF m 3 #[.val (.ref a), .val (.int (8 : Int32)), .unset] [(.int (8 : Int32))]) _
                                  refine own_go (fun _ => XS.bipush X0.here hx rfl (hb hby d3_3)) ?_
                                  show own_Ends p e below s₁ (mkF m 5 #[.val (.ref a), .val (.int (8 : Int32)), .unset] [(.int (8 : Int32)), (.int (8 : Int32))]) _
                                  refine own_go (fun _ => XS.icmpYes X0.here hx rfl (pc0 := 5) (pc' := 30) rfl (hb hby d3_5) rfl (flt (show ¬ ((8 : Int32) < (8 : Int32)) from by decide)).2.1 (by decide) (by decide)) ?_
                                  show own_Ends p e below s₁ (mkF m 30 #[.val (.ref a), .val (.int (8 : Int32)), .unset] []) _
                                  refine own_go (fun _ => XS.iloadN X0.here hx rfl (hb hby d3_30) rfl) ?_
                                  show own_Ends p e below s₁ (mkF m 31 #[.val (.ref a), .val (.int (8 : Int32)), .unset] [(.int (8 : Int32))]) _
                                  refine own_go (fun _ => XS.istoreN X0.here hx rfl (hb hby d3_31) rfl (l' := #[.val (.ref a), .val (.int (8 : Int32)), .val (.int (8 : Int32))]) rfl) ?_
                                  show own_Ends p e below s₁ (mkF m 32 #[.val (.ref a), .val (.int (8 : Int32)), .val (.int (8 : Int32))] []) _
                                  refine own_go (fun _ => XS.iloadN X0.here hx rfl (hb hby d3_32) rfl) ?_
                                  show own_Ends p e below s₁ (mkF m 33 #[.val (.ref a), .val (.int (8 : Int32)), .val (.int (8 : Int32))] [(.int (8 : Int32))]) _
                                  refine own_go (fun _ => XS.bipush X0.here hx rfl (hb hby d3_33)) ?_
                                  show own_Ends p e below s₁ (mkF m 35 #[.val (.ref a), .val (.int (8 : Int32)), .val (.int (8 : Int32))] [(.int (8 : Int32)), (.int (8 : Int32))]) _
                                  refine own_go (fun _ => XS.icmpYes X0.here hx rfl (pc0 := 35) (pc' := 53) rfl (hb hby d3_35) rfl (flt (show ¬ ((8 : Int32) < (8 : Int32)) from by decide)).2.1 (by decide) (by decide)) ?_
                                  show own_Ends p e below s₁ (mkF m 53 #[.val (.ref a), .val (.int (8 : Int32)), .val (.int (8 : Int32))] []) _
                                  refine own_go (fun _ => XS.iloadN X0.here hx rfl (hb hby d3_53) rfl) ?_
                                  show own_Ends p e below s₁ (mkF m 54 #[.val (.ref a), .val (.int (8 : Int32)), .val (.int (8 : Int32))] [(.int (8 : Int32))]) _
                                  refine own_go (fun _ => XS.iconst X0.here hx rfl (hb hby d3_54)) ?_
                                  show own_Ends p e below s₁ (mkF m 55 #[.val (.ref a), .val (.int (8 : Int32)), .val (.int (8 : Int32))] [(.int (4 : Int32)), (.int (8 : Int32))]) _
                                  refine own_go (fun _ => XS.icmpNo X0.here hx rfl (hb hby d3_55) rfl (flt (show ¬ ((8 : Int32) < (4 : Int32)) from by decide)).1) ?_
                                  show own_Ends p e below s₁ (mkF m 58 #[.val (.ref a), .val (.int (8 : Int32)), .val (.int (8 : Int32))] []) _
                                  refine own_go (fun _ => XS.iconst X0.here hx rfl (hb hby d3_58)) ?_
                                  show own_Ends p e below s₁ (mkF m 59 #[.val (.ref a), .val (.int (8 : Int32)), .val (.int (8 : Int32))] [(.int (1 : Int32))]) _
                                  refine own_go (fun _ => XS.goto X0.here hx rfl (pc0 := 59) (pc' := 63) rfl (hb hby d3_59) (by decide) (by decide)) ?_
                                  show own_Ends p e below s₁ (mkF m 63 #[.val (.ref a), .val (.int (8 : Int32)), .val (.int (8 : Int32))] [(.int (1 : Int32))]) _
                                  obtain ⟨fs, hr, hrun, hended, hW, hsame⟩ := X0.leave (v := some (.int (1 : Int32))) (fun h => by rw [Bd.returns] at h; cases h)
                                  refine ⟨_, _, retN X0 hx (t := .boolean) Bd.returns (by simp) (hb hby d3_63) hr, hrun, hended, _, _, rfl, ?_, ⟨_, rfl⟩, hW, hsame.mono (by decide) (by decide)⟩
                                  show Q_rmPin Z a kl c0 c1 c2 c3 c4 c5 c6 c7 h0 n0 _ s₁.heap _
                                  rw [e0]
                                  exact ⟨_, rfl, by exact own_back ((own_sC hc13 hc21).trans ((own_sC hc13_1 hc21_1).trans ((own_sC hc13_2 hc21_2).trans ((own_sC hc13_3 hc21_3).trans ((own_sC hc13_4 hc21_4).trans ((own_sC hc13_5 hc21_5).trans ((own_sC hc13_6 hc21_6).trans ((own_sC hc13_7 hc21_7).trans (rfl))))))))), N0, rfl⟩
theorem pn_0 : plainName "com/example/tessera/tessera/platform/SecretCodeIsPinValuePinLaw" = true := by first | (simp [plainName, overriddenIn]; done) | decide +kernel
theorem ef_0 (m : MethodId) (q0 : Int64) (p1 : Int32) : entryFrame m #[(.long q0), (.int p1)] maxLocals = mkF m 0 #[.val (.long q0), .second, .val (.int p1), .unset, .unset, .unset, .unset, .unset, .unset, .unset, .unset, .unset, .unset, .unset, .unset] [] := by first | (simp [entryFrame, mkF, argsToLocals, Value.category, maxLocals]; done) | rfl
def Q_rm0 (Z : State) (q0 : Int64) (p1 : Int32) (h0 : Heap) (n0 : Nat) (v : Option Value) (h : Heap) (L : List Loc) : Prop := v = some (.int 1) ∧ Fr n0 L
theorem pd_0 : parseMethodDescriptor "(JII)B" = some ⟨[.long, .int, .int], some .byte⟩ := by decide +kernel
theorem pd_1 : parseMethodDescriptor "([B)Z" = some ⟨[(.array .byte)], some .boolean⟩ := by decide +kernel
theorem pd_2 : parseMethodDescriptor "(B)Z" = some ⟨[.byte], some .boolean⟩ := by decide +kernel
set_option maxRecDepth 65536 in
set_option maxHeartbeats 40000000 in
theorem rm0 (l : Launch) (Z : State) (a0 : Array Value) (hw : ∀ d ∈ tables_1, d.before a0 Z = true) (ws : List Jvm.Cond) (q0 : Int64) (p1 : Int32) (h0 : Heap) (n0 : Nat) (Z0 : n0 ≤ h0.size) :
    MetFree l x (head1 (Jvm.Cond.code x code maxLocals ret :: ws) room_1) (fun aa U => aa = #[(.long q0), (.int p1)] ∧ Z.Warmed39 U.vm ∧ U.heap = h0) (fun _ _ _ _ _ => True) (fun _ U ou U' => ∃ v L, ou = .returned v ∧ Q_rm0 Z q0 p1 h0 n0 v U'.heap L ∧ FrameEnd U ou U' L room_1.cells room_1.slots) := by
  refine MetFree.of_bodySF (plainFor_of_name pn_0) hisR ?_
  intro p e s m args below meth c s₁ Bd hml0 hP hK
  obtain ⟨rfl, hZ, hh⟩ := hP
  have hx := Bd.exec
  have hby := Bd.bytes
  have hml : c.maxLocals = 15 := hml0
  have hown : s.vm.findClass "com/example/tessera/tessera/platform/SecretCodeIsPinValuePinLaw" = some m.cls := findClass_of_methodNamed Bd.named
  have hnm := (name_of_methodNamed Bd.named Bd.method).1
  have X0 : Stand p l e room_1 s m #[(.long q0), (.int p1)] below meth c s₁ [] 0 0 := Stand.of_body Bd
  have e0 : s₁.heap = h0 := by rw [← hh, Bd.state]; rfl
  have N0 := Fr.nil n0
  have K0 := Keep.refl h0 []
  refine own_as (ef_0 m q0 p1) ?_
  show own_Ends p e below s₁ (mkF m 0 #[.val (.long q0), .second, .val (.int p1), .unset, .unset, .unset, .unset, .unset, .unset, .unset, .unset, .unset, .unset, .unset, .unset] []) _
  refine own_go (fun _ => XS.lloadN X0.here hx rfl (hb hby at_0) rfl) ?_
  show own_Ends p e below s₁ (mkF m 1 #[.val (.long q0), .second, .val (.int p1), .unset, .unset, .unset, .unset, .unset, .unset, .unset, .unset, .unset, .unset, .unset, .unset] [(.long q0)]) _
  refine own_go (fun _ => XS.iloadN X0.here hx rfl (hb hby at_1) rfl) ?_
  show own_Ends p e below s₁ (mkF m 2 #[.val (.long q0), .second, .val (.int p1), .unset, .unset, .unset, .unset, .unset, .unset, .unset, .unset, .unset, .unset, .unset, .unset] [(.int p1), (.long q0)]) _
  refine own_go (fun _ => XS.iconst X0.here hx rfl (hb hby at_2)) ?_
  show own_Ends p e below s₁ (mkF m 3 #[.val (.long q0), .second, .val (.int p1), .unset, .unset, .unset, .unset, .unset, .unset, .unset, .unset, .unset, .unset, .unset, .unset] [(.int (0 : Int32)), (.int p1), (.long q0)]) _
  obtain ⟨_, _, ⟨T1, L1, k1, n1⟩, -, X1, ⟨Lc1, hQ1, l1, y1, z1⟩, st1⟩ := Jvm.LawKit.callS X0 hx (y := (⟨"com/example/tessera/tessera/platform/SecretCodeIsPinValuePinLaw", "pick", "(JII)B"⟩ : MethodName)) hown (mvT hZ (hw _ (List.mem_of_getElem? (i := 0) rfl))) (mvT hZ (hw _ (List.mem_of_getElem? (i := 1) rfl))) (mvT hZ (hw _ (List.mem_of_getElem? (i := 2) rfl))) (mvT hZ (hw _ (List.mem_of_getElem? (i := 3) rfl))) (by decide) (backOf (W := 0) (rmPick l Z a0 hw [] q0 p1 ((0 : Int32))  h0 n0 Z0 ) hZ (hw _ (List.mem_of_getElem? (i := 3) rfl)) (hw _ (List.mem_of_getElem? (i := 2) rfl)) (by decide) (by decide)) (g := (mkF m 3 #[.val (.long q0), .second, .val (.int p1), .unset, .unset, .unset, .unset, .unset, .unset, .unset, .unset, .unset, .unset, .unset, .unset] [(.int (0 : Int32)), (.int p1), (.long q0)])) rfl (by rw [hml]; rfl) (argsL := [(.long q0), (.int p1), (.int (0 : Int32))]) (rest := []) (lenOf pd_0 rfl) rfl (by show 2 * 0 + _ ≤ _; exact Nat.le_of_eq rfl) (hb hby at_3) (fun _ _ => ⟨rfl, e0, (by decide : 0 + 0 ≤ _), (by decide : 0 + 0 ≤ _)⟩)
  dsimp only [Pt.U, Pt.locs, Pt.cells, Pt.slots] at X1 l1 y1 z1 st1 hQ1
  replace y1 : k1 = 0 := y1
  replace z1 : n1 = 0 := z1
  subst l1 y1 z1
  refine own_go st1 ?_
  obtain ⟨c0, rfl, hb0, N1q, eh1⟩ := hQ1
  have N1 := Fr.app N0 N1q
  show own_Ends p e below T1 (mkF m 6 #[.val (.long q0), .second, .val (.int p1), .unset, .unset, .unset, .unset, .unset, .unset, .unset, .unset, .unset, .unset, .unset, .unset] [(.int c0)]) _
  suffices Jt1 : ∀ (T_ : State) (L_ : List Loc), Stand p l e room_1 s m #[(.long q0), (.int p1)] below meth c T_ L_ 0 0 → T_.heap = h0 → Fr n0 L_ → own_Ends p e below T_ (mkF m 6 #[.val (.long q0), .second, .val (.int p1), .unset, .unset, .unset, .unset, .unset, .unset, .unset, .unset, .unset, .unset, .unset, .unset] [(.int c0)]) (fun ou U' => ∃ v L, ou = .returned v ∧ Q_rm0 Z q0 p1 h0 n0 v U'.heap L ∧ FrameEnd s ou U' L room_1.cells room_1.slots) from Jt1 _ _ X1 eh1 N1
  clear st1 X1 N1 N1q eh1
  try clear Lc1
  try clear T1
  intro T1t L1t X1t eT1t N1t
  refine own_go (fun _ => XS.istoreN X1t.here hx rfl (hb hby at_6) rfl (l' := #[.val (.long q0), .second, .val (.int p1), .val (.int c0), .unset, .unset, .unset, .unset, .unset, .unset, .unset, .unset, .unset, .unset, .unset]) rfl) ?_
  show own_Ends p e below T1t (mkF m 7 #[.val (.long q0), .second, .val (.int p1), .val (.int c0), .unset, .unset, .unset, .unset, .unset, .unset, .unset, .unset, .unset, .unset, .unset] []) _
  refine own_go (fun _ => XS.lloadN X1t.here hx rfl (hb hby at_7) rfl) ?_
  show own_Ends p e below T1t (mkF m 8 #[.val (.long q0), .second, .val (.int p1), .val (.int c0), .unset, .unset, .unset, .unset, .unset, .unset, .unset, .unset, .unset, .unset, .unset] [(.long q0)]) _
  refine own_go (fun _ => XS.iloadN X1t.here hx rfl (hb hby at_8) rfl) ?_
  show own_Ends p e below T1t (mkF m 9 #[.val (.long q0), .second, .val (.int p1), .val (.int c0), .unset, .unset, .unset, .unset, .unset, .unset, .unset, .unset, .unset, .unset, .unset] [(.int p1), (.long q0)]) _
  refine own_go (fun _ => XS.iconst X1t.here hx rfl (hb hby at_9)) ?_
  show own_Ends p e below T1t (mkF m 10 #[.val (.long q0), .second, .val (.int p1), .val (.int c0), .unset, .unset, .unset, .unset, .unset, .unset, .unset, .unset, .unset, .unset, .unset] [(.int (1 : Int32)), (.int p1), (.long q0)]) _
  obtain ⟨_, _, ⟨T2, L2, k2, n2⟩, -, X2, ⟨Lc2, hQ2, l2, y2, z2⟩, st2⟩ := Jvm.LawKit.callS X1t hx (y := (⟨"com/example/tessera/tessera/platform/SecretCodeIsPinValuePinLaw", "pick", "(JII)B"⟩ : MethodName)) hown (mvT hZ (hw _ (List.mem_of_getElem? (i := 0) rfl))) (mvT hZ (hw _ (List.mem_of_getElem? (i := 1) rfl))) (mvT hZ (hw _ (List.mem_of_getElem? (i := 2) rfl))) (mvT hZ (hw _ (List.mem_of_getElem? (i := 3) rfl))) (by decide) (backOf (W := 0) (rmPick l Z a0 hw [] q0 p1 ((1 : Int32))  h0 n0 Z0 ) hZ (hw _ (List.mem_of_getElem? (i := 3) rfl)) (hw _ (List.mem_of_getElem? (i := 2) rfl)) (by decide) (by decide)) (g := (mkF m 10 #[.val (.long q0), .second, .val (.int p1), .val (.int c0), .unset, .unset, .unset, .unset, .unset, .unset, .unset, .unset, .unset, .unset, .unset] [(.int (1 : Int32)), (.int p1), (.long q0)])) rfl (by rw [hml]; rfl) (argsL := [(.long q0), (.int p1), (.int (1 : Int32))]) (rest := []) (lenOf pd_0 rfl) rfl (by show 2 * 0 + _ ≤ _; exact Nat.le_of_eq rfl) (hb hby at_10) (fun _ _ => ⟨rfl, eT1t, (by decide : 0 + 0 ≤ _), (by decide : 0 + 0 ≤ _)⟩)
  dsimp only [Pt.U, Pt.locs, Pt.cells, Pt.slots] at X2 l2 y2 z2 st2 hQ2
  replace y2 : k2 = 0 := y2
  replace z2 : n2 = 0 := z2
  subst l2 y2 z2
  refine own_go st2 ?_
  obtain ⟨c1, rfl, hb1, N2q, eh2⟩ := hQ2
  have N2 := Fr.app N1t N2q
  show own_Ends p e below T2 (mkF m 13 #[.val (.long q0), .second, .val (.int p1), .val (.int c0), .unset, .unset, .unset, .unset, .unset, .unset, .unset, .unset, .unset, .unset, .unset] [(.int c1)]) _
  suffices Jt2 : ∀ (T_ : State) (L_ : List Loc), Stand p l e room_1 s m #[(.long q0), (.int p1)] below meth c T_ L_ 0 0 → T_.heap = h0 → Fr n0 L_ → own_Ends p e below T_ (mkF m 13 #[.val (.long q0), .second, .val (.int p1), .val (.int c0), .unset, .unset, .unset, .unset, .unset, .unset, .unset, .unset, .unset, .unset, .unset] [(.int c1)]) (fun ou U' => ∃ v L, ou = .returned v ∧ Q_rm0 Z q0 p1 h0 n0 v U'.heap L ∧ FrameEnd s ou U' L room_1.cells room_1.slots) from Jt2 _ _ X2 eh2 N2
  clear st2 X2 N2 N2q eh2
  try clear Lc2
  try clear T2
  try clear N1t
  try clear eT1t
  try clear X1t
  try clear L1t
  try clear T1t
  intro T2t L2t X2t eT2t N2t
  refine own_go (fun _ => XS.istore X2t.here hx rfl (hb hby at_13) rfl (l' := #[.val (.long q0), .second, .val (.int p1), .val (.int c0), .val (.int c1), .unset, .unset, .unset, .unset, .unset, .unset, .unset, .unset, .unset, .unset]) rfl) ?_
  show own_Ends p e below T2t (mkF m 15 #[.val (.long q0), .second, .val (.int p1), .val (.int c0), .val (.int c1), .unset, .unset, .unset, .unset, .unset, .unset, .unset, .unset, .unset, .unset] []) _
  refine own_go (fun _ => XS.lloadN X2t.here hx rfl (hb hby at_15) rfl) ?_
  show own_Ends p e below T2t (mkF m 16 #[.val (.long q0), .second, .val (.int p1), .val (.int c0), .val (.int c1), .unset, .unset, .unset, .unset, .unset, .unset, .unset, .unset, .unset, .unset] [(.long q0)]) _
  refine own_go (fun _ => XS.iloadN X2t.here hx rfl (hb hby at_16) rfl) ?_
  show own_Ends p e below T2t (mkF m 17 #[.val (.long q0), .second, .val (.int p1), .val (.int c0), .val (.int c1), .unset, .unset, .unset, .unset, .unset, .unset, .unset, .unset, .unset, .unset] [(.int p1), (.long q0)]) _
  refine own_go (fun _ => XS.iconst X2t.here hx rfl (hb hby at_17)) ?_
  show own_Ends p e below T2t (mkF m 18 #[.val (.long q0), .second, .val (.int p1), .val (.int c0), .val (.int c1), .unset, .unset, .unset, .unset, .unset, .unset, .unset, .unset, .unset, .unset] [(.int (2 : Int32)), (.int p1), (.long q0)]) _
  obtain ⟨_, _, ⟨T3, L3, k3, n3⟩, -, X3, ⟨Lc3, hQ3, l3, y3, z3⟩, st3⟩ := Jvm.LawKit.callS X2t hx (y := (⟨"com/example/tessera/tessera/platform/SecretCodeIsPinValuePinLaw", "pick", "(JII)B"⟩ : MethodName)) hown (mvT hZ (hw _ (List.mem_of_getElem? (i := 0) rfl))) (mvT hZ (hw _ (List.mem_of_getElem? (i := 1) rfl))) (mvT hZ (hw _ (List.mem_of_getElem? (i := 2) rfl))) (mvT hZ (hw _ (List.mem_of_getElem? (i := 3) rfl))) (by decide) (backOf (W := 0) (rmPick l Z a0 hw [] q0 p1 ((2 : Int32))  h0 n0 Z0 ) hZ (hw _ (List.mem_of_getElem? (i := 3) rfl)) (hw _ (List.mem_of_getElem? (i := 2) rfl)) (by decide) (by decide)) (g := (mkF m 18 #[.val (.long q0), .second, .val (.int p1), .val (.int c0), .val (.int c1), .unset, .unset, .unset, .unset, .unset, .unset, .unset, .unset, .unset, .unset] [(.int (2 : Int32)), (.int p1), (.long q0)])) rfl (by rw [hml]; rfl) (argsL := [(.long q0), (.int p1), (.int (2 : Int32))]) (rest := []) (lenOf pd_0 rfl) rfl (by show 2 * 0 + _ ≤ _; exact Nat.le_of_eq rfl) (hb hby at_18) (fun _ _ => ⟨rfl, eT2t, (by decide : 0 + 0 ≤ _), (by decide : 0 + 0 ≤ _)⟩)
  dsimp only [Pt.U, Pt.locs, Pt.cells, Pt.slots] at X3 l3 y3 z3 st3 hQ3
  replace y3 : k3 = 0 := y3
  replace z3 : n3 = 0 := z3
  subst l3 y3 z3
  refine own_go st3 ?_
  obtain ⟨c2, rfl, hb2, N3q, eh3⟩ := hQ3
  have N3 := Fr.app N2t N3q
  show own_Ends p e below T3 (mkF m 21 #[.val (.long q0), .second, .val (.int p1), .val (.int c0), .val (.int c1), .unset, .unset, .unset, .unset, .unset, .unset, .unset, .unset, .unset, .unset] [(.int c2)]) _
  suffices Jt3 : ∀ (T_ : State) (L_ : List Loc), Stand p l e room_1 s m #[(.long q0), (.int p1)] below meth c T_ L_ 0 0 → T_.heap = h0 → Fr n0 L_ → own_Ends p e below T_ (mkF m 21 #[.val (.long q0), .second, .val (.int p1), .val (.int c0), .val (.int c1), .unset, .unset, .unset, .unset, .unset, .unset, .unset, .unset, .unset, .unset] [(.int c2)]) (fun ou U' => ∃ v L, ou = .returned v ∧ Q_rm0 Z q0 p1 h0 n0 v U'.heap L ∧ FrameEnd s ou U' L room_1.cells room_1.slots) from Jt3 _ _ X3 eh3 N3
  clear st3 X3 N3 N3q eh3
  try clear Lc3
  try clear T3
  try clear N2t
  try clear eT2t
  try clear X2t
  try clear L2t
  try clear T2t
  intro T3t L3t X3t eT3t N3t
  refine own_go (fun _ => XS.istore X3t.here hx rfl (hb hby at_21) rfl (l' := #[.val (.long q0), .second, .val (.int p1), .val (.int c0), .val (.int c1), .val (.int c2), .unset, .unset, .unset, .unset, .unset, .unset, .unset, .unset, .unset]) rfl) ?_
  show own_Ends p e below T3t (mkF m 23 #[.val (.long q0), .second, .val (.int p1), .val (.int c0), .val (.int c1), .val (.int c2), .unset, .unset, .unset, .unset, .unset, .unset, .unset, .unset, .unset] []) _
  refine own_go (fun _ => XS.lloadN X3t.here hx rfl (hb hby at_23) rfl) ?_
  show own_Ends p e below T3t (mkF m 24 #[.val (.long q0), .second, .val (.int p1), .val (.int c0), .val (.int c1), .val (.int c2), .unset, .unset, .unset, .unset, .unset, .unset, .unset, .unset, .unset] [(.long q0)]) _
  refine own_go (fun _ => XS.iloadN X3t.here hx rfl (hb hby at_24) rfl) ?_
  show own_Ends p e below T3t (mkF m 25 #[.val (.long q0), .second, .val (.int p1), .val (.int c0), .val (.int c1), .val (.int c2), .unset, .unset, .unset, .unset, .unset, .unset, .unset, .unset, .unset] [(.int p1), (.long q0)]) _
  refine own_go (fun _ => XS.iconst X3t.here hx rfl (hb hby at_25)) ?_
  show own_Ends p e below T3t (mkF m 26 #[.val (.long q0), .second, .val (.int p1), .val (.int c0), .val (.int c1), .val (.int c2), .unset, .unset, .unset, .unset, .unset, .unset, .unset, .unset, .unset] [(.int (3 : Int32)), (.int p1), (.long q0)]) _
  obtain ⟨_, _, ⟨T4, L4, k4, n4⟩, -, X4, ⟨Lc4, hQ4, l4, y4, z4⟩, st4⟩ := Jvm.LawKit.callS X3t hx (y := (⟨"com/example/tessera/tessera/platform/SecretCodeIsPinValuePinLaw", "pick", "(JII)B"⟩ : MethodName)) hown (mvT hZ (hw _ (List.mem_of_getElem? (i := 0) rfl))) (mvT hZ (hw _ (List.mem_of_getElem? (i := 1) rfl))) (mvT hZ (hw _ (List.mem_of_getElem? (i := 2) rfl))) (mvT hZ (hw _ (List.mem_of_getElem? (i := 3) rfl))) (by decide) (backOf (W := 0) (rmPick l Z a0 hw [] q0 p1 ((3 : Int32))  h0 n0 Z0 ) hZ (hw _ (List.mem_of_getElem? (i := 3) rfl)) (hw _ (List.mem_of_getElem? (i := 2) rfl)) (by decide) (by decide)) (g := (mkF m 26 #[.val (.long q0), .second, .val (.int p1), .val (.int c0), .val (.int c1), .val (.int c2), .unset, .unset, .unset, .unset, .unset, .unset, .unset, .unset, .unset] [(.int (3 : Int32)), (.int p1), (.long q0)])) rfl (by rw [hml]; rfl) (argsL := [(.long q0), (.int p1), (.int (3 : Int32))]) (rest := []) (lenOf pd_0 rfl) rfl (by show 2 * 0 + _ ≤ _; exact Nat.le_of_eq rfl) (hb hby at_26) (fun _ _ => ⟨rfl, eT3t, (by decide : 0 + 0 ≤ _), (by decide : 0 + 0 ≤ _)⟩)
  dsimp only [Pt.U, Pt.locs, Pt.cells, Pt.slots] at X4 l4 y4 z4 st4 hQ4
  replace y4 : k4 = 0 := y4
  replace z4 : n4 = 0 := z4
  subst l4 y4 z4
  refine own_go st4 ?_
  obtain ⟨c3, rfl, hb3, N4q, eh4⟩ := hQ4
  have N4 := Fr.app N3t N4q
  show own_Ends p e below T4 (mkF m 29 #[.val (.long q0), .second, .val (.int p1), .val (.int c0), .val (.int c1), .val (.int c2), .unset, .unset, .unset, .unset, .unset, .unset, .unset, .unset, .unset] [(.int c3)]) _
  suffices Jt4 : ∀ (T_ : State) (L_ : List Loc), Stand p l e room_1 s m #[(.long q0), (.int p1)] below meth c T_ L_ 0 0 → T_.heap = h0 → Fr n0 L_ → own_Ends p e below T_ (mkF m 29 #[.val (.long q0), .second, .val (.int p1), .val (.int c0), .val (.int c1), .val (.int c2), .unset, .unset, .unset, .unset, .unset, .unset, .unset, .unset, .unset] [(.int c3)]) (fun ou U' => ∃ v L, ou = .returned v ∧ Q_rm0 Z q0 p1 h0 n0 v U'.heap L ∧ FrameEnd s ou U' L room_1.cells room_1.slots) from Jt4 _ _ X4 eh4 N4
  clear st4 X4 N4 N4q eh4
  try clear Lc4
  try clear T4
  try clear N3t
  try clear eT3t
  try clear X3t
  try clear L3t
  try clear T3t
  intro T4t L4t X4t eT4t N4t
  refine own_go (fun _ => XS.istore X4t.here hx rfl (hb hby at_29) rfl (l' := #[.val (.long q0), .second, .val (.int p1), .val (.int c0), .val (.int c1), .val (.int c2), .val (.int c3), .unset, .unset, .unset, .unset, .unset, .unset, .unset, .unset]) rfl) ?_
  show own_Ends p e below T4t (mkF m 31 #[.val (.long q0), .second, .val (.int p1), .val (.int c0), .val (.int c1), .val (.int c2), .val (.int c3), .unset, .unset, .unset, .unset, .unset, .unset, .unset, .unset] []) _
  refine own_go (fun _ => XS.lloadN X4t.here hx rfl (hb hby at_31) rfl) ?_
  show own_Ends p e below T4t (mkF m 32 #[.val (.long q0), .second, .val (.int p1), .val (.int c0), .val (.int c1), .val (.int c2), .val (.int c3), .unset, .unset, .unset, .unset, .unset, .unset, .unset, .unset] [(.long q0)]) _
  refine own_go (fun _ => XS.iloadN X4t.here hx rfl (hb hby at_32) rfl) ?_
  show own_Ends p e below T4t (mkF m 33 #[.val (.long q0), .second, .val (.int p1), .val (.int c0), .val (.int c1), .val (.int c2), .val (.int c3), .unset, .unset, .unset, .unset, .unset, .unset, .unset, .unset] [(.int p1), (.long q0)]) _
  refine own_go (fun _ => XS.iconst X4t.here hx rfl (hb hby at_33)) ?_
  show own_Ends p e below T4t (mkF m 34 #[.val (.long q0), .second, .val (.int p1), .val (.int c0), .val (.int c1), .val (.int c2), .val (.int c3), .unset, .unset, .unset, .unset, .unset, .unset, .unset, .unset] [(.int (4 : Int32)), (.int p1), (.long q0)]) _
  obtain ⟨_, _, ⟨T5, L5, k5, n5⟩, -, X5, ⟨Lc5, hQ5, l5, y5, z5⟩, st5⟩ := Jvm.LawKit.callS X4t hx (y := (⟨"com/example/tessera/tessera/platform/SecretCodeIsPinValuePinLaw", "pick", "(JII)B"⟩ : MethodName)) hown (mvT hZ (hw _ (List.mem_of_getElem? (i := 0) rfl))) (mvT hZ (hw _ (List.mem_of_getElem? (i := 1) rfl))) (mvT hZ (hw _ (List.mem_of_getElem? (i := 2) rfl))) (mvT hZ (hw _ (List.mem_of_getElem? (i := 3) rfl))) (by decide) (backOf (W := 0) (rmPick l Z a0 hw [] q0 p1 ((4 : Int32))  h0 n0 Z0 ) hZ (hw _ (List.mem_of_getElem? (i := 3) rfl)) (hw _ (List.mem_of_getElem? (i := 2) rfl)) (by decide) (by decide)) (g := (mkF m 34 #[.val (.long q0), .second, .val (.int p1), .val (.int c0), .val (.int c1), .val (.int c2), .val (.int c3), .unset, .unset, .unset, .unset, .unset, .unset, .unset, .unset] [(.int (4 : Int32)), (.int p1), (.long q0)])) rfl (by rw [hml]; rfl) (argsL := [(.long q0), (.int p1), (.int (4 : Int32))]) (rest := []) (lenOf pd_0 rfl) rfl (by show 2 * 0 + _ ≤ _; exact Nat.le_of_eq rfl) (hb hby at_34) (fun _ _ => ⟨rfl, eT4t, (by decide : 0 + 0 ≤ _), (by decide : 0 + 0 ≤ _)⟩)
  dsimp only [Pt.U, Pt.locs, Pt.cells, Pt.slots] at X5 l5 y5 z5 st5 hQ5
  replace y5 : k5 = 0 := y5
  replace z5 : n5 = 0 := z5
  subst l5 y5 z5
  refine own_go st5 ?_
  obtain ⟨c4, rfl, hb4, N5q, eh5⟩ := hQ5
  have N5 := Fr.app N4t N5q
  show own_Ends p e below T5 (mkF m 37 #[.val (.long q0), .second, .val (.int p1), .val (.int c0), .val (.int c1), .val (.int c2), .val (.int c3), .unset, .unset, .unset, .unset, .unset, .unset, .unset, .unset] [(.int c4)]) _
  suffices Jt5 : ∀ (T_ : State) (L_ : List Loc), Stand p l e room_1 s m #[(.long q0), (.int p1)] below meth c T_ L_ 0 0 → T_.heap = h0 → Fr n0 L_ → own_Ends p e below T_ (mkF m 37 #[.val (.long q0), .second, .val (.int p1), .val (.int c0), .val (.int c1), .val (.int c2), .val (.int c3), .unset, .unset, .unset, .unset, .unset, .unset, .unset, .unset] [(.int c4)]) (fun ou U' => ∃ v L, ou = .returned v ∧ Q_rm0 Z q0 p1 h0 n0 v U'.heap L ∧ FrameEnd s ou U' L room_1.cells room_1.slots) from Jt5 _ _ X5 eh5 N5
  clear st5 X5 N5 N5q eh5
  try clear Lc5
  try clear T5
  try clear N4t
  try clear eT4t
  try clear X4t
  try clear L4t
  try clear T4t
  intro T5t L5t X5t eT5t N5t
  refine own_go (fun _ => XS.istore X5t.here hx rfl (hb hby at_37) rfl (l' := #[.val (.long q0), .second, .val (.int p1), .val (.int c0), .val (.int c1), .val (.int c2), .val (.int c3), .val (.int c4), .unset, .unset, .unset, .unset, .unset, .unset, .unset]) rfl) ?_
  show own_Ends p e below T5t (mkF m 39 #[.val (.long q0), .second, .val (.int p1), .val (.int c0), .val (.int c1), .val (.int c2), .val (.int c3), .val (.int c4), .unset, .unset, .unset, .unset, .unset, .unset, .unset] []) _
  refine own_go (fun _ => XS.lloadN X5t.here hx rfl (hb hby at_39) rfl) ?_
  show own_Ends p e below T5t (mkF m 40 #[.val (.long q0), .second, .val (.int p1), .val (.int c0), .val (.int c1), .val (.int c2), .val (.int c3), .val (.int c4), .unset, .unset, .unset, .unset, .unset, .unset, .unset] [(.long q0)]) _
  refine own_go (fun _ => XS.iloadN X5t.here hx rfl (hb hby at_40) rfl) ?_
  show own_Ends p e below T5t (mkF m 41 #[.val (.long q0), .second, .val (.int p1), .val (.int c0), .val (.int c1), .val (.int c2), .val (.int c3), .val (.int c4), .unset, .unset, .unset, .unset, .unset, .unset, .unset] [(.int p1), (.long q0)]) _
  refine own_go (fun _ => XS.iconst X5t.here hx rfl (hb hby at_41)) ?_
  show own_Ends p e below T5t (mkF m 42 #[.val (.long q0), .second, .val (.int p1), .val (.int c0), .val (.int c1), .val (.int c2), .val (.int c3), .val (.int c4), .unset, .unset, .unset, .unset, .unset, .unset, .unset] [(.int (5 : Int32)), (.int p1), (.long q0)]) _
  obtain ⟨_, _, ⟨T6, L6, k6, n6⟩, -, X6, ⟨Lc6, hQ6, l6, y6, z6⟩, st6⟩ := Jvm.LawKit.callS X5t hx (y := (⟨"com/example/tessera/tessera/platform/SecretCodeIsPinValuePinLaw", "pick", "(JII)B"⟩ : MethodName)) hown (mvT hZ (hw _ (List.mem_of_getElem? (i := 0) rfl))) (mvT hZ (hw _ (List.mem_of_getElem? (i := 1) rfl))) (mvT hZ (hw _ (List.mem_of_getElem? (i := 2) rfl))) (mvT hZ (hw _ (List.mem_of_getElem? (i := 3) rfl))) (by decide) (backOf (W := 0) (rmPick l Z a0 hw [] q0 p1 ((5 : Int32))  h0 n0 Z0 ) hZ (hw _ (List.mem_of_getElem? (i := 3) rfl)) (hw _ (List.mem_of_getElem? (i := 2) rfl)) (by decide) (by decide)) (g := (mkF m 42 #[.val (.long q0), .second, .val (.int p1), .val (.int c0), .val (.int c1), .val (.int c2), .val (.int c3), .val (.int c4), .unset, .unset, .unset, .unset, .unset, .unset, .unset] [(.int (5 : Int32)), (.int p1), (.long q0)])) rfl (by rw [hml]; rfl) (argsL := [(.long q0), (.int p1), (.int (5 : Int32))]) (rest := []) (lenOf pd_0 rfl) rfl (by show 2 * 0 + _ ≤ _; exact Nat.le_of_eq rfl) (hb hby at_42) (fun _ _ => ⟨rfl, eT5t, (by decide : 0 + 0 ≤ _), (by decide : 0 + 0 ≤ _)⟩)
  dsimp only [Pt.U, Pt.locs, Pt.cells, Pt.slots] at X6 l6 y6 z6 st6 hQ6
  replace y6 : k6 = 0 := y6
  replace z6 : n6 = 0 := z6
  subst l6 y6 z6
  refine own_go st6 ?_
  obtain ⟨c5, rfl, hb5, N6q, eh6⟩ := hQ6
  have N6 := Fr.app N5t N6q
  show own_Ends p e below T6 (mkF m 45 #[.val (.long q0), .second, .val (.int p1), .val (.int c0), .val (.int c1), .val (.int c2), .val (.int c3), .val (.int c4), .unset, .unset, .unset, .unset, .unset, .unset, .unset] [(.int c5)]) _
  suffices Jt6 : ∀ (T_ : State) (L_ : List Loc), Stand p l e room_1 s m #[(.long q0), (.int p1)] below meth c T_ L_ 0 0 → T_.heap = h0 → Fr n0 L_ → own_Ends p e below T_ (mkF m 45 #[.val (.long q0), .second, .val (.int p1), .val (.int c0), .val (.int c1), .val (.int c2), .val (.int c3), .val (.int c4), .unset, .unset, .unset, .unset, .unset, .unset, .unset] [(.int c5)]) (fun ou U' => ∃ v L, ou = .returned v ∧ Q_rm0 Z q0 p1 h0 n0 v U'.heap L ∧ FrameEnd s ou U' L room_1.cells room_1.slots) from Jt6 _ _ X6 eh6 N6
  clear st6 X6 N6 N6q eh6
  try clear Lc6
  try clear T6
  try clear N5t
  try clear eT5t
  try clear X5t
  try clear L5t
  try clear T5t
  intro T6t L6t X6t eT6t N6t
  refine own_go (fun _ => XS.istore X6t.here hx rfl (hb hby at_45) rfl (l' := #[.val (.long q0), .second, .val (.int p1), .val (.int c0), .val (.int c1), .val (.int c2), .val (.int c3), .val (.int c4), .val (.int c5), .unset, .unset, .unset, .unset, .unset, .unset]) rfl) ?_
  show own_Ends p e below T6t (mkF m 47 #[.val (.long q0), .second, .val (.int p1), .val (.int c0), .val (.int c1), .val (.int c2), .val (.int c3), .val (.int c4), .val (.int c5), .unset, .unset, .unset, .unset, .unset, .unset] []) _
  refine own_go (fun _ => XS.lloadN X6t.here hx rfl (hb hby at_47) rfl) ?_
  show own_Ends p e below T6t (mkF m 48 #[.val (.long q0), .second, .val (.int p1), .val (.int c0), .val (.int c1), .val (.int c2), .val (.int c3), .val (.int c4), .val (.int c5), .unset, .unset, .unset, .unset, .unset, .unset] [(.long q0)]) _
  refine own_go (fun _ => XS.iloadN X6t.here hx rfl (hb hby at_48) rfl) ?_
  show own_Ends p e below T6t (mkF m 49 #[.val (.long q0), .second, .val (.int p1), .val (.int c0), .val (.int c1), .val (.int c2), .val (.int c3), .val (.int c4), .val (.int c5), .unset, .unset, .unset, .unset, .unset, .unset] [(.int p1), (.long q0)]) _
  refine own_go (fun _ => XS.bipush X6t.here hx rfl (hb hby at_49)) ?_
  show own_Ends p e below T6t (mkF m 51 #[.val (.long q0), .second, .val (.int p1), .val (.int c0), .val (.int c1), .val (.int c2), .val (.int c3), .val (.int c4), .val (.int c5), .unset, .unset, .unset, .unset, .unset, .unset] [(.int (6 : Int32)), (.int p1), (.long q0)]) _
  obtain ⟨_, _, ⟨T7, L7, k7, n7⟩, -, X7, ⟨Lc7, hQ7, l7, y7, z7⟩, st7⟩ := Jvm.LawKit.callS X6t hx (y := (⟨"com/example/tessera/tessera/platform/SecretCodeIsPinValuePinLaw", "pick", "(JII)B"⟩ : MethodName)) hown (mvT hZ (hw _ (List.mem_of_getElem? (i := 0) rfl))) (mvT hZ (hw _ (List.mem_of_getElem? (i := 1) rfl))) (mvT hZ (hw _ (List.mem_of_getElem? (i := 2) rfl))) (mvT hZ (hw _ (List.mem_of_getElem? (i := 3) rfl))) (by decide) (backOf (W := 0) (rmPick l Z a0 hw [] q0 p1 ((6 : Int32))  h0 n0 Z0 ) hZ (hw _ (List.mem_of_getElem? (i := 3) rfl)) (hw _ (List.mem_of_getElem? (i := 2) rfl)) (by decide) (by decide)) (g := (mkF m 51 #[.val (.long q0), .second, .val (.int p1), .val (.int c0), .val (.int c1), .val (.int c2), .val (.int c3), .val (.int c4), .val (.int c5), .unset, .unset, .unset, .unset, .unset, .unset] [(.int (6 : Int32)), (.int p1), (.long q0)])) rfl (by rw [hml]; rfl) (argsL := [(.long q0), (.int p1), (.int (6 : Int32))]) (rest := []) (lenOf pd_0 rfl) rfl (by show 2 * 0 + _ ≤ _; exact Nat.le_of_eq rfl) (hb hby at_51) (fun _ _ => ⟨rfl, eT6t, (by decide : 0 + 0 ≤ _), (by decide : 0 + 0 ≤ _)⟩)
  dsimp only [Pt.U, Pt.locs, Pt.cells, Pt.slots] at X7 l7 y7 z7 st7 hQ7
  replace y7 : k7 = 0 := y7
  replace z7 : n7 = 0 := z7
  subst l7 y7 z7
  refine own_go st7 ?_
  obtain ⟨c6, rfl, hb6, N7q, eh7⟩ := hQ7
  have N7 := Fr.app N6t N7q
  show own_Ends p e below T7 (mkF m 54 #[.val (.long q0), .second, .val (.int p1), .val (.int c0), .val (.int c1), .val (.int c2), .val (.int c3), .val (.int c4), .val (.int c5), .unset, .unset, .unset, .unset, .unset, .unset] [(.int c6)]) _
  suffices Jt7 : ∀ (T_ : State) (L_ : List Loc), Stand p l e room_1 s m #[(.long q0), (.int p1)] below meth c T_ L_ 0 0 → T_.heap = h0 → Fr n0 L_ → own_Ends p e below T_ (mkF m 54 #[.val (.long q0), .second, .val (.int p1), .val (.int c0), .val (.int c1), .val (.int c2), .val (.int c3), .val (.int c4), .val (.int c5), .unset, .unset, .unset, .unset, .unset, .unset] [(.int c6)]) (fun ou U' => ∃ v L, ou = .returned v ∧ Q_rm0 Z q0 p1 h0 n0 v U'.heap L ∧ FrameEnd s ou U' L room_1.cells room_1.slots) from Jt7 _ _ X7 eh7 N7
  clear st7 X7 N7 N7q eh7
  try clear Lc7
  try clear T7
  try clear N6t
  try clear eT6t
  try clear X6t
  try clear L6t
  try clear T6t
  intro T7t L7t X7t eT7t N7t
  refine own_go (fun _ => XS.istore X7t.here hx rfl (hb hby at_54) rfl (l' := #[.val (.long q0), .second, .val (.int p1), .val (.int c0), .val (.int c1), .val (.int c2), .val (.int c3), .val (.int c4), .val (.int c5), .val (.int c6), .unset, .unset, .unset, .unset, .unset]) rfl) ?_
  show own_Ends p e below T7t (mkF m 56 #[.val (.long q0), .second, .val (.int p1), .val (.int c0), .val (.int c1), .val (.int c2), .val (.int c3), .val (.int c4), .val (.int c5), .val (.int c6), .unset, .unset, .unset, .unset, .unset] []) _
  refine own_go (fun _ => XS.lloadN X7t.here hx rfl (hb hby at_56) rfl) ?_
  show own_Ends p e below T7t (mkF m 57 #[.val (.long q0), .second, .val (.int p1), .val (.int c0), .val (.int c1), .val (.int c2), .val (.int c3), .val (.int c4), .val (.int c5), .val (.int c6), .unset, .unset, .unset, .unset, .unset] [(.long q0)]) _
  refine own_go (fun _ => XS.iloadN X7t.here hx rfl (hb hby at_57) rfl) ?_
  show own_Ends p e below T7t (mkF m 58 #[.val (.long q0), .second, .val (.int p1), .val (.int c0), .val (.int c1), .val (.int c2), .val (.int c3), .val (.int c4), .val (.int c5), .val (.int c6), .unset, .unset, .unset, .unset, .unset] [(.int p1), (.long q0)]) _
  refine own_go (fun _ => XS.bipush X7t.here hx rfl (hb hby at_58)) ?_
  show own_Ends p e below T7t (mkF m 60 #[.val (.long q0), .second, .val (.int p1), .val (.int c0), .val (.int c1), .val (.int c2), .val (.int c3), .val (.int c4), .val (.int c5), .val (.int c6), .unset, .unset, .unset, .unset, .unset] [(.int (7 : Int32)), (.int p1), (.long q0)]) _
  obtain ⟨_, _, ⟨T8, L8, k8, n8⟩, -, X8, ⟨Lc8, hQ8, l8, y8, z8⟩, st8⟩ := Jvm.LawKit.callS X7t hx (y := (⟨"com/example/tessera/tessera/platform/SecretCodeIsPinValuePinLaw", "pick", "(JII)B"⟩ : MethodName)) hown (mvT hZ (hw _ (List.mem_of_getElem? (i := 0) rfl))) (mvT hZ (hw _ (List.mem_of_getElem? (i := 1) rfl))) (mvT hZ (hw _ (List.mem_of_getElem? (i := 2) rfl))) (mvT hZ (hw _ (List.mem_of_getElem? (i := 3) rfl))) (by decide) (backOf (W := 0) (rmPick l Z a0 hw [] q0 p1 ((7 : Int32))  h0 n0 Z0 ) hZ (hw _ (List.mem_of_getElem? (i := 3) rfl)) (hw _ (List.mem_of_getElem? (i := 2) rfl)) (by decide) (by decide)) (g := (mkF m 60 #[.val (.long q0), .second, .val (.int p1), .val (.int c0), .val (.int c1), .val (.int c2), .val (.int c3), .val (.int c4), .val (.int c5), .val (.int c6), .unset, .unset, .unset, .unset, .unset] [(.int (7 : Int32)), (.int p1), (.long q0)])) rfl (by rw [hml]; rfl) (argsL := [(.long q0), (.int p1), (.int (7 : Int32))]) (rest := []) (lenOf pd_0 rfl) rfl (by show 2 * 0 + _ ≤ _; exact Nat.le_of_eq rfl) (hb hby at_60) (fun _ _ => ⟨rfl, eT7t, (by decide : 0 + 0 ≤ _), (by decide : 0 + 0 ≤ _)⟩)
  dsimp only [Pt.U, Pt.locs, Pt.cells, Pt.slots] at X8 l8 y8 z8 st8 hQ8
  replace y8 : k8 = 0 := y8
  replace z8 : n8 = 0 := z8
  subst l8 y8 z8
  refine own_go st8 ?_
  obtain ⟨c7, rfl, hb7, N8q, eh8⟩ := hQ8
  have N8 := Fr.app N7t N8q
  show own_Ends p e below T8 (mkF m 63 #[.val (.long q0), .second, .val (.int p1), .val (.int c0), .val (.int c1), .val (.int c2), .val (.int c3), .val (.int c4), .val (.int c5), .val (.int c6), .unset, .unset, .unset, .unset, .unset] [(.int c7)]) _
  suffices Jt8 : ∀ (T_ : State) (L_ : List Loc), Stand p l e room_1 s m #[(.long q0), (.int p1)] below meth c T_ L_ 0 0 → T_.heap = h0 → Fr n0 L_ → own_Ends p e below T_ (mkF m 63 #[.val (.long q0), .second, .val (.int p1), .val (.int c0), .val (.int c1), .val (.int c2), .val (.int c3), .val (.int c4), .val (.int c5), .val (.int c6), .unset, .unset, .unset, .unset, .unset] [(.int c7)]) (fun ou U' => ∃ v L, ou = .returned v ∧ Q_rm0 Z q0 p1 h0 n0 v U'.heap L ∧ FrameEnd s ou U' L room_1.cells room_1.slots) from Jt8 _ _ X8 eh8 N8
  clear st8 X8 N8 N8q eh8
  try clear Lc8
  try clear T8
  try clear N7t
  try clear eT7t
  try clear X7t
  try clear L7t
  try clear T7t
  intro T8t L8t X8t eT8t N8t
  refine own_go (fun _ => XS.istore X8t.here hx rfl (hb hby at_63) rfl (l' := #[.val (.long q0), .second, .val (.int p1), .val (.int c0), .val (.int c1), .val (.int c2), .val (.int c3), .val (.int c4), .val (.int c5), .val (.int c6), .val (.int c7), .unset, .unset, .unset, .unset]) rfl) ?_
  show own_Ends p e below T8t (mkF m 65 #[.val (.long q0), .second, .val (.int p1), .val (.int c0), .val (.int c1), .val (.int c2), .val (.int c3), .val (.int c4), .val (.int c5), .val (.int c6), .val (.int c7), .unset, .unset, .unset, .unset] []) _
  refine own_go (fun _ => XS.bipush X8t.here hx rfl (hb hby at_65)) ?_
  show own_Ends p e below T8t (mkF m 67 #[.val (.long q0), .second, .val (.int p1), .val (.int c0), .val (.int c1), .val (.int c2), .val (.int c3), .val (.int c4), .val (.int c5), .val (.int c6), .val (.int c7), .unset, .unset, .unset, .unset] [(.int (8 : Int32))]) _
  obtain ⟨T9, h9, k9, X9, e9, E9, A9, st9⟩ := newP X8t hx hZ (hw _ (List.mem_of_getElem? (i := 5) rfl)) eT8t (g := (mkF m 67 #[.val (.long q0), .second, .val (.int p1), .val (.int c0), .val (.int c1), .val (.int c2), .val (.int c3), .val (.int c4), .val (.int c5), .val (.int c6), .val (.int c7), .unset, .unset, .unset, .unset] [(.int (8 : Int32))])) rfl (hb hby at_67) rfl (by decide) (cap := 8) (by decide) (by decide) (by decide) (by decide)
  obtain ⟨b9, g9⟩ : ∃ z, z = h0.size := ⟨_, rfl⟩
  rw [← g9] at A9 st9
  refine own_go st9 ?_
  have g_b9 : n0 ≤ b9 := Nat.le_trans Z0 (Nat.le_of_eq g9.symm)
  have sz_b9 : h0.size ≤ b9 := Nat.le_trans K0.1 (Nat.le_of_eq g9.symm)
  have K9 := K0.ext E9
  have Z9 : n0 ≤ h9.size := Nat.le_trans Z0 K9.1
  have V_b9 : Arv Z h9 b9 k9 .byte (8 : Int32) [(.int (0 : Int32)), (.int (0 : Int32)), (.int (0 : Int32)), (.int (0 : Int32)), (.int (0 : Int32)), (.int (0 : Int32)), (.int (0 : Int32)), (.int (0 : Int32))] (.int (0 : Int32)) := (Arv.new A9 (by decide)).pad (pad_rep [] (.int (0 : Int32)) 8)
  show own_Ends p e below T9 (mkF m 69 #[.val (.long q0), .second, .val (.int p1), .val (.int c0), .val (.int c1), .val (.int c2), .val (.int c3), .val (.int c4), .val (.int c5), .val (.int c6), .val (.int c7), .unset, .unset, .unset, .unset] [(.ref b9)]) _
  refine own_go (fun _ => XS.astore X9.here hx rfl (hb hby at_69) rfl rfl (l' := #[.val (.long q0), .second, .val (.int p1), .val (.int c0), .val (.int c1), .val (.int c2), .val (.int c3), .val (.int c4), .val (.int c5), .val (.int c6), .val (.int c7), .val (.ref b9), .unset, .unset, .unset]) rfl) ?_
  show own_Ends p e below T9 (mkF m 71 #[.val (.long q0), .second, .val (.int p1), .val (.int c0), .val (.int c1), .val (.int c2), .val (.int c3), .val (.int c4), .val (.int c5), .val (.int c6), .val (.int c7), .val (.ref b9), .unset, .unset, .unset] []) _
  refine own_go (fun _ => XS.aload X9.here hx rfl (hb hby at_71) rfl rfl) ?_
  show own_Ends p e below T9 (mkF m 73 #[.val (.long q0), .second, .val (.int p1), .val (.int c0), .val (.int c1), .val (.int c2), .val (.int c3), .val (.int c4), .val (.int c5), .val (.int c6), .val (.int c7), .val (.ref b9), .unset, .unset, .unset] [(.ref b9)]) _
  refine own_go (fun _ => XS.iconst X9.here hx rfl (hb hby at_73)) ?_
  show own_Ends p e below T9 (mkF m 74 #[.val (.long q0), .second, .val (.int p1), .val (.int c0), .val (.int c1), .val (.int c2), .val (.int c3), .val (.int c4), .val (.int c5), .val (.int c6), .val (.int c7), .val (.ref b9), .unset, .unset, .unset] [(.int (0 : Int32)), (.ref b9)]) _
  refine own_go (fun _ => XS.iloadN X9.here hx rfl (hb hby at_74) rfl) ?_
  show own_Ends p e below T9 (mkF m 75 #[.val (.long q0), .second, .val (.int p1), .val (.int c0), .val (.int c1), .val (.int c2), .val (.int c3), .val (.int c4), .val (.int c5), .val (.int c6), .val (.int c7), .val (.ref b9), .unset, .unset, .unset] [(.int c0), (.int (0 : Int32)), (.ref b9)]) _
  obtain ⟨cl_10, Ar_10, q_10, S_10, M_10, H_10, G_10⟩ := V_b9
  have hin10 : ¬ ((0 : Int32) < 0 ∨ cl_10.slots.size ≤ ((0 : Int32)).toNatClampNeg) := inb_of S_10 ⟨by decide, by decide⟩
  obtain ⟨T10, h10, X10, e10, W10, st10⟩ := stB X9 hx hZ e9 Ar_10 (j := (0 : Int32)) hin10 (g := (mkF m 75 #[.val (.long q0), .second, .val (.int p1), .val (.int c0), .val (.int c1), .val (.int c2), .val (.int c3), .val (.int c4), .val (.int c5), .val (.int c6), .val (.int c7), .val (.ref b9), .unset, .unset, .unset] [(.int c0), (.int (0 : Int32)), (.ref b9)])) rfl rfl (hb hby at_75)
  refine own_go st10 ?_
  have V_b9_10 : Arv Z h10 b9 k9 .byte (8 : Int32) [(.int (nar .byte c0)), (.int (0 : Int32)), (.int (0 : Int32)), (.int (0 : Int32)), (.int (0 : Int32)), (.int (0 : Int32)), (.int (0 : Int32)), (.int (0 : Int32))] (.int (0 : Int32)) := Arv.set Ar_10 q_10 S_10 M_10 H_10 G_10 (fits_nar_byte _) W10 0 rfl (Nat.le_of_ble_eq_true rfl)
  have N10 := Fr.snoc X10 N8t g_b9
  have K10 := K9.wr W10 (Or.inr sz_b9)
  have Z10 : n0 ≤ h10.size := Nat.le_trans Z0 K10.1
  show own_Ends p e below T10 (mkF m 76 #[.val (.long q0), .second, .val (.int p1), .val (.int c0), .val (.int c1), .val (.int c2), .val (.int c3), .val (.int c4), .val (.int c5), .val (.int c6), .val (.int c7), .val (.ref b9), .unset, .unset, .unset] []) _
  refine own_go (fun _ => XS.aload X10.here hx rfl (hb hby at_76) rfl rfl) ?_
  show own_Ends p e below T10 (mkF m 78 #[.val (.long q0), .second, .val (.int p1), .val (.int c0), .val (.int c1), .val (.int c2), .val (.int c3), .val (.int c4), .val (.int c5), .val (.int c6), .val (.int c7), .val (.ref b9), .unset, .unset, .unset] [(.ref b9)]) _
  refine own_go (fun _ => XS.iconst X10.here hx rfl (hb hby at_78)) ?_
  show own_Ends p e below T10 (mkF m 79 #[.val (.long q0), .second, .val (.int p1), .val (.int c0), .val (.int c1), .val (.int c2), .val (.int c3), .val (.int c4), .val (.int c5), .val (.int c6), .val (.int c7), .val (.ref b9), .unset, .unset, .unset] [(.int (1 : Int32)), (.ref b9)]) _
  refine own_go (fun _ => XS.iload X10.here hx rfl (hb hby at_79) rfl) ?_
  show own_Ends p e below T10 (mkF m 81 #[.val (.long q0), .second, .val (.int p1), .val (.int c0), .val (.int c1), .val (.int c2), .val (.int c3), .val (.int c4), .val (.int c5), .val (.int c6), .val (.int c7), .val (.ref b9), .unset, .unset, .unset] [(.int c1), (.int (1 : Int32)), (.ref b9)]) _
  obtain ⟨cl_11, Ar_11, q_11, S_11, M_11, H_11, G_11⟩ := V_b9_10
  have hin11 : ¬ ((1 : Int32) < 0 ∨ cl_11.slots.size ≤ ((1 : Int32)).toNatClampNeg) := inb_of S_11 ⟨by decide, by decide⟩
  obtain ⟨T11, h11, X11, e11, W11, st11⟩ := stB X10 hx hZ e10 Ar_11 (j := (1 : Int32)) hin11 (g := (mkF m 81 #[.val (.long q0), .second, .val (.int p1), .val (.int c0), .val (.int c1), .val (.int c2), .val (.int c3), .val (.int c4), .val (.int c5), .val (.int c6), .val (.int c7), .val (.ref b9), .unset, .unset, .unset] [(.int c1), (.int (1 : Int32)), (.ref b9)])) rfl rfl (hb hby at_81)
  refine own_go st11 ?_
  have V_b9_11 : Arv Z h11 b9 k9 .byte (8 : Int32) [(.int (nar .byte c0)), (.int (nar .byte c1)), (.int (0 : Int32)), (.int (0 : Int32)), (.int (0 : Int32)), (.int (0 : Int32)), (.int (0 : Int32)), (.int (0 : Int32))] (.int (0 : Int32)) := Arv.set Ar_11 q_11 S_11 M_11 H_11 G_11 (fits_nar_byte _) W11 1 rfl (Nat.le_of_ble_eq_true rfl)
  have N11 := Fr.snoc X11 N10 g_b9
  have K11 := K10.wr W11 (Or.inr sz_b9)
  have Z11 : n0 ≤ h11.size := Nat.le_trans Z0 K11.1
  show own_Ends p e below T11 (mkF m 82 #[.val (.long q0), .second, .val (.int p1), .val (.int c0), .val (.int c1), .val (.int c2), .val (.int c3), .val (.int c4), .val (.int c5), .val (.int c6), .val (.int c7), .val (.ref b9), .unset, .unset, .unset] []) _
  refine own_go (fun _ => XS.aload X11.here hx rfl (hb hby at_82) rfl rfl) ?_
  show own_Ends p e below T11 (mkF m 84 #[.val (.long q0), .second, .val (.int p1), .val (.int c0), .val (.int c1), .val (.int c2), .val (.int c3), .val (.int c4), .val (.int c5), .val (.int c6), .val (.int c7), .val (.ref b9), .unset, .unset, .unset] [(.ref b9)]) _
  refine own_go (fun _ => XS.iconst X11.here hx rfl (hb hby at_84)) ?_
  show own_Ends p e below T11 (mkF m 85 #[.val (.long q0), .second, .val (.int p1), .val (.int c0), .val (.int c1), .val (.int c2), .val (.int c3), .val (.int c4), .val (.int c5), .val (.int c6), .val (.int c7), .val (.ref b9), .unset, .unset, .unset] [(.int (2 : Int32)), (.ref b9)]) _
  refine own_go (fun _ => XS.iload X11.here hx rfl (hb hby at_85) rfl) ?_
  show own_Ends p e below T11 (mkF m 87 #[.val (.long q0), .second, .val (.int p1), .val (.int c0), .val (.int c1), .val (.int c2), .val (.int c3), .val (.int c4), .val (.int c5), .val (.int c6), .val (.int c7), .val (.ref b9), .unset, .unset, .unset] [(.int c2), (.int (2 : Int32)), (.ref b9)]) _
  obtain ⟨cl_12, Ar_12, q_12, S_12, M_12, H_12, G_12⟩ := V_b9_11
  have hin12 : ¬ ((2 : Int32) < 0 ∨ cl_12.slots.size ≤ ((2 : Int32)).toNatClampNeg) := inb_of S_12 ⟨by decide, by decide⟩
  obtain ⟨T12, h12, X12, e12, W12, st12⟩ := stB X11 hx hZ e11 Ar_12 (j := (2 : Int32)) hin12 (g := (mkF m 87 #[.val (.long q0), .second, .val (.int p1), .val (.int c0), .val (.int c1), .val (.int c2), .val (.int c3), .val (.int c4), .val (.int c5), .val (.int c6), .val (.int c7), .val (.ref b9), .unset, .unset, .unset] [(.int c2), (.int (2 : Int32)), (.ref b9)])) rfl rfl (hb hby at_87)
  refine own_go st12 ?_
  have V_b9_12 : Arv Z h12 b9 k9 .byte (8 : Int32) [(.int (nar .byte c0)), (.int (nar .byte c1)), (.int (nar .byte c2)), (.int (0 : Int32)), (.int (0 : Int32)), (.int (0 : Int32)), (.int (0 : Int32)), (.int (0 : Int32))] (.int (0 : Int32)) := Arv.set Ar_12 q_12 S_12 M_12 H_12 G_12 (fits_nar_byte _) W12 2 rfl (Nat.le_of_ble_eq_true rfl)
  have N12 := Fr.snoc X12 N11 g_b9
  have K12 := K11.wr W12 (Or.inr sz_b9)
  have Z12 : n0 ≤ h12.size := Nat.le_trans Z0 K12.1
  show own_Ends p e below T12 (mkF m 88 #[.val (.long q0), .second, .val (.int p1), .val (.int c0), .val (.int c1), .val (.int c2), .val (.int c3), .val (.int c4), .val (.int c5), .val (.int c6), .val (.int c7), .val (.ref b9), .unset, .unset, .unset] []) _
  refine own_go (fun _ => XS.aload X12.here hx rfl (hb hby at_88) rfl rfl) ?_
  show own_Ends p e below T12 (mkF m 90 #[.val (.long q0), .second, .val (.int p1), .val (.int c0), .val (.int c1), .val (.int c2), .val (.int c3), .val (.int c4), .val (.int c5), .val (.int c6), .val (.int c7), .val (.ref b9), .unset, .unset, .unset] [(.ref b9)]) _
  refine own_go (fun _ => XS.iconst X12.here hx rfl (hb hby at_90)) ?_
  show own_Ends p e below T12 (mkF m 91 #[.val (.long q0), .second, .val (.int p1), .val (.int c0), .val (.int c1), .val (.int c2), .val (.int c3), .val (.int c4), .val (.int c5), .val (.int c6), .val (.int c7), .val (.ref b9), .unset, .unset, .unset] [(.int (3 : Int32)), (.ref b9)]) _
  refine own_go (fun _ => XS.iload X12.here hx rfl (hb hby at_91) rfl) ?_
  show own_Ends p e below T12 (mkF m 93 #[.val (.long q0), .second, .val (.int p1), .val (.int c0), .val (.int c1), .val (.int c2), .val (.int c3), .val (.int c4), .val (.int c5), .val (.int c6), .val (.int c7), .val (.ref b9), .unset, .unset, .unset] [(.int c3), (.int (3 : Int32)), (.ref b9)]) _
  obtain ⟨cl_13, Ar_13, q_13, S_13, M_13, H_13, G_13⟩ := V_b9_12
  have hin13 : ¬ ((3 : Int32) < 0 ∨ cl_13.slots.size ≤ ((3 : Int32)).toNatClampNeg) := inb_of S_13 ⟨by decide, by decide⟩
  obtain ⟨T13, h13, X13, e13, W13, st13⟩ := stB X12 hx hZ e12 Ar_13 (j := (3 : Int32)) hin13 (g := (mkF m 93 #[.val (.long q0), .second, .val (.int p1), .val (.int c0), .val (.int c1), .val (.int c2), .val (.int c3), .val (.int c4), .val (.int c5), .val (.int c6), .val (.int c7), .val (.ref b9), .unset, .unset, .unset] [(.int c3), (.int (3 : Int32)), (.ref b9)])) rfl rfl (hb hby at_93)
  refine own_go st13 ?_
  have V_b9_13 : Arv Z h13 b9 k9 .byte (8 : Int32) [(.int (nar .byte c0)), (.int (nar .byte c1)), (.int (nar .byte c2)), (.int (nar .byte c3)), (.int (0 : Int32)), (.int (0 : Int32)), (.int (0 : Int32)), (.int (0 : Int32))] (.int (0 : Int32)) := Arv.set Ar_13 q_13 S_13 M_13 H_13 G_13 (fits_nar_byte _) W13 3 rfl (Nat.le_of_ble_eq_true rfl)
  have N13 := Fr.snoc X13 N12 g_b9
  have K13 := K12.wr W13 (Or.inr sz_b9)
  have Z13 : n0 ≤ h13.size := Nat.le_trans Z0 K13.1
  show own_Ends p e below T13 (mkF m 94 #[.val (.long q0), .second, .val (.int p1), .val (.int c0), .val (.int c1), .val (.int c2), .val (.int c3), .val (.int c4), .val (.int c5), .val (.int c6), .val (.int c7), .val (.ref b9), .unset, .unset, .unset] []) _
  refine own_go (fun _ => XS.aload X13.here hx rfl (hb hby at_94) rfl rfl) ?_
  show own_Ends p e below T13 (mkF m 96 #[.val (.long q0), .second, .val (.int p1), .val (.int c0), .val (.int c1), .val (.int c2), .val (.int c3), .val (.int c4), .val (.int c5), .val (.int c6), .val (.int c7), .val (.ref b9), .unset, .unset, .unset] [(.ref b9)]) _
  refine own_go (fun _ => XS.iconst X13.here hx rfl (hb hby at_96)) ?_
  show own_Ends p e below T13 (mkF m 97 #[.val (.long q0), .second, .val (.int p1), .val (.int c0), .val (.int c1), .val (.int c2), .val (.int c3), .val (.int c4), .val (.int c5), .val (.int c6), .val (.int c7), .val (.ref b9), .unset, .unset, .unset] [(.int (4 : Int32)), (.ref b9)]) _
  refine own_go (fun _ => XS.iload X13.here hx rfl (hb hby at_97) rfl) ?_
  show own_Ends p e below T13 (mkF m 99 #[.val (.long q0), .second, .val (.int p1), .val (.int c0), .val (.int c1), .val (.int c2), .val (.int c3), .val (.int c4), .val (.int c5), .val (.int c6), .val (.int c7), .val (.ref b9), .unset, .unset, .unset] [(.int c4), (.int (4 : Int32)), (.ref b9)]) _
  obtain ⟨cl_14, Ar_14, q_14, S_14, M_14, H_14, G_14⟩ := V_b9_13
  have hin14 : ¬ ((4 : Int32) < 0 ∨ cl_14.slots.size ≤ ((4 : Int32)).toNatClampNeg) := inb_of S_14 ⟨by decide, by decide⟩
  obtain ⟨T14, h14, X14, e14, W14, st14⟩ := stB X13 hx hZ e13 Ar_14 (j := (4 : Int32)) hin14 (g := (mkF m 99 #[.val (.long q0), .second, .val (.int p1), .val (.int c0), .val (.int c1), .val (.int c2), .val (.int c3), .val (.int c4), .val (.int c5), .val (.int c6), .val (.int c7), .val (.ref b9), .unset, .unset, .unset] [(.int c4), (.int (4 : Int32)), (.ref b9)])) rfl rfl (hb hby at_99)
  refine own_go st14 ?_
  have V_b9_14 : Arv Z h14 b9 k9 .byte (8 : Int32) [(.int (nar .byte c0)), (.int (nar .byte c1)), (.int (nar .byte c2)), (.int (nar .byte c3)), (.int (nar .byte c4)), (.int (0 : Int32)), (.int (0 : Int32)), (.int (0 : Int32))] (.int (0 : Int32)) := Arv.set Ar_14 q_14 S_14 M_14 H_14 G_14 (fits_nar_byte _) W14 4 rfl (Nat.le_of_ble_eq_true rfl)
  have N14 := Fr.snoc X14 N13 g_b9
  have K14 := K13.wr W14 (Or.inr sz_b9)
  have Z14 : n0 ≤ h14.size := Nat.le_trans Z0 K14.1
  show own_Ends p e below T14 (mkF m 100 #[.val (.long q0), .second, .val (.int p1), .val (.int c0), .val (.int c1), .val (.int c2), .val (.int c3), .val (.int c4), .val (.int c5), .val (.int c6), .val (.int c7), .val (.ref b9), .unset, .unset, .unset] []) _
  refine own_go (fun _ => XS.aload X14.here hx rfl (hb hby at_100) rfl rfl) ?_
  show own_Ends p e below T14 (mkF m 102 #[.val (.long q0), .second, .val (.int p1), .val (.int c0), .val (.int c1), .val (.int c2), .val (.int c3), .val (.int c4), .val (.int c5), .val (.int c6), .val (.int c7), .val (.ref b9), .unset, .unset, .unset] [(.ref b9)]) _
  refine own_go (fun _ => XS.iconst X14.here hx rfl (hb hby at_102)) ?_
  show own_Ends p e below T14 (mkF m 103 #[.val (.long q0), .second, .val (.int p1), .val (.int c0), .val (.int c1), .val (.int c2), .val (.int c3), .val (.int c4), .val (.int c5), .val (.int c6), .val (.int c7), .val (.ref b9), .unset, .unset, .unset] [(.int (5 : Int32)), (.ref b9)]) _
  refine own_go (fun _ => XS.iload X14.here hx rfl (hb hby at_103) rfl) ?_
  show own_Ends p e below T14 (mkF m 105 #[.val (.long q0), .second, .val (.int p1), .val (.int c0), .val (.int c1), .val (.int c2), .val (.int c3), .val (.int c4), .val (.int c5), .val (.int c6), .val (.int c7), .val (.ref b9), .unset, .unset, .unset] [(.int c5), (.int (5 : Int32)), (.ref b9)]) _
  obtain ⟨cl_15, Ar_15, q_15, S_15, M_15, H_15, G_15⟩ := V_b9_14
  have hin15 : ¬ ((5 : Int32) < 0 ∨ cl_15.slots.size ≤ ((5 : Int32)).toNatClampNeg) := inb_of S_15 ⟨by decide, by decide⟩
  obtain ⟨T15, h15, X15, e15, W15, st15⟩ := stB X14 hx hZ e14 Ar_15 (j := (5 : Int32)) hin15 (g := (mkF m 105 #[.val (.long q0), .second, .val (.int p1), .val (.int c0), .val (.int c1), .val (.int c2), .val (.int c3), .val (.int c4), .val (.int c5), .val (.int c6), .val (.int c7), .val (.ref b9), .unset, .unset, .unset] [(.int c5), (.int (5 : Int32)), (.ref b9)])) rfl rfl (hb hby at_105)
  refine own_go st15 ?_
  have V_b9_15 : Arv Z h15 b9 k9 .byte (8 : Int32) [(.int (nar .byte c0)), (.int (nar .byte c1)), (.int (nar .byte c2)), (.int (nar .byte c3)), (.int (nar .byte c4)), (.int (nar .byte c5)), (.int (0 : Int32)), (.int (0 : Int32))] (.int (0 : Int32)) := Arv.set Ar_15 q_15 S_15 M_15 H_15 G_15 (fits_nar_byte _) W15 5 rfl (Nat.le_of_ble_eq_true rfl)
  have N15 := Fr.snoc X15 N14 g_b9
  have K15 := K14.wr W15 (Or.inr sz_b9)
  have Z15 : n0 ≤ h15.size := Nat.le_trans Z0 K15.1
  show own_Ends p e below T15 (mkF m 106 #[.val (.long q0), .second, .val (.int p1), .val (.int c0), .val (.int c1), .val (.int c2), .val (.int c3), .val (.int c4), .val (.int c5), .val (.int c6), .val (.int c7), .val (.ref b9), .unset, .unset, .unset] []) _
  refine own_go (fun _ => XS.aload X15.here hx rfl (hb hby at_106) rfl rfl) ?_
  show own_Ends p e below T15 (mkF m 108 #[.val (.long q0), .second, .val (.int p1), .val (.int c0), .val (.int c1), .val (.int c2), .val (.int c3), .val (.int c4), .val (.int c5), .val (.int c6), .val (.int c7), .val (.ref b9), .unset, .unset, .unset] [(.ref b9)]) _
  refine own_go (fun _ => XS.bipush X15.here hx rfl (hb hby at_108)) ?_
  show own_Ends p e below T15 (mkF m 110 #[.val (.long q0), .second, .val (.int p1), .val (.int c0), .val (.int c1), .val (.int c2), .val (.int c3), .val (.int c4), .val (.int c5), .val (.int c6), .val (.int c7), .val (.ref b9), .unset, .unset, .unset] [(.int (6 : Int32)), (.ref b9)]) _
  refine own_go (fun _ => XS.iload X15.here hx rfl (hb hby at_110) rfl) ?_
  show own_Ends p e below T15 (mkF m 112 #[.val (.long q0), .second, .val (.int p1), .val (.int c0), .val (.int c1), .val (.int c2), .val (.int c3), .val (.int c4), .val (.int c5), .val (.int c6), .val (.int c7), .val (.ref b9), .unset, .unset, .unset] [(.int c6), (.int (6 : Int32)), (.ref b9)]) _
  obtain ⟨cl_16, Ar_16, q_16, S_16, M_16, H_16, G_16⟩ := V_b9_15
  have hin16 : ¬ ((6 : Int32) < 0 ∨ cl_16.slots.size ≤ ((6 : Int32)).toNatClampNeg) := inb_of S_16 ⟨by decide, by decide⟩
  obtain ⟨T16, h16, X16, e16, W16, st16⟩ := stB X15 hx hZ e15 Ar_16 (j := (6 : Int32)) hin16 (g := (mkF m 112 #[.val (.long q0), .second, .val (.int p1), .val (.int c0), .val (.int c1), .val (.int c2), .val (.int c3), .val (.int c4), .val (.int c5), .val (.int c6), .val (.int c7), .val (.ref b9), .unset, .unset, .unset] [(.int c6), (.int (6 : Int32)), (.ref b9)])) rfl rfl (hb hby at_112)
  refine own_go st16 ?_
  have V_b9_16 : Arv Z h16 b9 k9 .byte (8 : Int32) [(.int (nar .byte c0)), (.int (nar .byte c1)), (.int (nar .byte c2)), (.int (nar .byte c3)), (.int (nar .byte c4)), (.int (nar .byte c5)), (.int (nar .byte c6)), (.int (0 : Int32))] (.int (0 : Int32)) := Arv.set Ar_16 q_16 S_16 M_16 H_16 G_16 (fits_nar_byte _) W16 6 rfl (Nat.le_of_ble_eq_true rfl)
  have N16 := Fr.snoc X16 N15 g_b9
  have K16 := K15.wr W16 (Or.inr sz_b9)
  have Z16 : n0 ≤ h16.size := Nat.le_trans Z0 K16.1
  show own_Ends p e below T16 (mkF m 113 #[.val (.long q0), .second, .val (.int p1), .val (.int c0), .val (.int c1), .val (.int c2), .val (.int c3), .val (.int c4), .val (.int c5), .val (.int c6), .val (.int c7), .val (.ref b9), .unset, .unset, .unset] []) _
  refine own_go (fun _ => XS.aload X16.here hx rfl (hb hby at_113) rfl rfl) ?_
  show own_Ends p e below T16 (mkF m 115 #[.val (.long q0), .second, .val (.int p1), .val (.int c0), .val (.int c1), .val (.int c2), .val (.int c3), .val (.int c4), .val (.int c5), .val (.int c6), .val (.int c7), .val (.ref b9), .unset, .unset, .unset] [(.ref b9)]) _
  refine own_go (fun _ => XS.bipush X16.here hx rfl (hb hby at_115)) ?_
  show own_Ends p e below T16 (mkF m 117 #[.val (.long q0), .second, .val (.int p1), .val (.int c0), .val (.int c1), .val (.int c2), .val (.int c3), .val (.int c4), .val (.int c5), .val (.int c6), .val (.int c7), .val (.ref b9), .unset, .unset, .unset] [(.int (7 : Int32)), (.ref b9)]) _
  refine own_go (fun _ => XS.iload X16.here hx rfl (hb hby at_117) rfl) ?_
  show own_Ends p e below T16 (mkF m 119 #[.val (.long q0), .second, .val (.int p1), .val (.int c0), .val (.int c1), .val (.int c2), .val (.int c3), .val (.int c4), .val (.int c5), .val (.int c6), .val (.int c7), .val (.ref b9), .unset, .unset, .unset] [(.int c7), (.int (7 : Int32)), (.ref b9)]) _
  obtain ⟨cl_17, Ar_17, q_17, S_17, M_17, H_17, G_17⟩ := V_b9_16
  have hin17 : ¬ ((7 : Int32) < 0 ∨ cl_17.slots.size ≤ ((7 : Int32)).toNatClampNeg) := inb_of S_17 ⟨by decide, by decide⟩
  obtain ⟨T17, h17, X17, e17, W17, st17⟩ := stB X16 hx hZ e16 Ar_17 (j := (7 : Int32)) hin17 (g := (mkF m 119 #[.val (.long q0), .second, .val (.int p1), .val (.int c0), .val (.int c1), .val (.int c2), .val (.int c3), .val (.int c4), .val (.int c5), .val (.int c6), .val (.int c7), .val (.ref b9), .unset, .unset, .unset] [(.int c7), (.int (7 : Int32)), (.ref b9)])) rfl rfl (hb hby at_119)
  refine own_go st17 ?_
  have V_b9_17 : Arv Z h17 b9 k9 .byte (8 : Int32) [(.int (nar .byte c0)), (.int (nar .byte c1)), (.int (nar .byte c2)), (.int (nar .byte c3)), (.int (nar .byte c4)), (.int (nar .byte c5)), (.int (nar .byte c6)), (.int (nar .byte c7))] (.int (0 : Int32)) := Arv.set Ar_17 q_17 S_17 M_17 H_17 G_17 (fits_nar_byte _) W17 7 rfl (Nat.le_of_ble_eq_true rfl)
  have N17 := Fr.snoc X17 N16 g_b9
  have K17 := K16.wr W17 (Or.inr sz_b9)
  have Z17 : n0 ≤ h17.size := Nat.le_trans Z0 K17.1
  show own_Ends p e below T17 (mkF m 120 #[.val (.long q0), .second, .val (.int p1), .val (.int c0), .val (.int c1), .val (.int c2), .val (.int c3), .val (.int c4), .val (.int c5), .val (.int c6), .val (.int c7), .val (.ref b9), .unset, .unset, .unset] []) _
  have V_all : Arv Z h17 b9 k9 .byte (8 : Int32) [(.int c0), (.int c1), (.int c2), (.int c3), (.int c4), (.int c5), (.int c6), (.int c7)] (.int (0 : Int32)) := by
    have q := V_b9_17
    rw [show nar .byte c0 = c0 from hb0, show nar .byte c1 = c1 from hb1, show nar .byte c2 = c2 from hb2, show nar .byte c3 = c3 from hb3, show nar .byte c4 = c4 from hb4, show nar .byte c5 = c5 from hb5, show nar .byte c6 = c6 from hb6, show nar .byte c7 = c7 from hb7] at q
    exact q
  have J279 : ∀ (T_ : State) (L_ : List Loc), Stand p l e room_1 s m #[(.long q0), (.int p1)] below meth c T_ L_ 1 8 → T_.heap = h17 → Fr n0 L_ → ∀ (e_ : Int32), own_scan [c0, c1, c2, c3, c4, c5, c6, c7] 0 = e_ → own_Ends p e below T_ (mkF m 279 #[.val (.long q0), .second, .val (.int p1), .val (.int c0), .val (.int c1), .val (.int c2), .val (.int c3), .val (.int c4), .val (.int c5), .val (.int c6), .val (.int c7), .val (.ref b9), .val (.int e_), .unset, .unset] []) (fun ou U' => ∃ v L, ou = .returned v ∧ Q_rm0 Z q0 p1 h0 n0 v U'.heap L ∧ FrameEnd s ou U' L room_1.cells room_1.slots) := by
    intro T_ L_ X_ eT_ N_ e_ he
    show own_Ends p e below T_ (mkF m 279 #[.val (.long q0), .second, .val (.int p1), .val (.int c0), .val (.int c1), .val (.int c2), .val (.int c3), .val (.int c4), .val (.int c5), .val (.int c6), .val (.int c7), .val (.ref b9), .val (.int e_), .unset, .unset] []) _
    refine own_go (fun _ => XS.aload X_.here hx rfl (hb hby at_279) rfl rfl) ?_
    show own_Ends p e below T_ (mkF m 281 #[.val (.long q0), .second, .val (.int p1), .val (.int c0), .val (.int c1), .val (.int c2), .val (.int c3), .val (.int c4), .val (.int c5), .val (.int c6), .val (.int c7), .val (.ref b9), .val (.int e_), .unset, .unset] [(.ref b9)]) _
    obtain ⟨_, _, ⟨T18, L18, k18, n18⟩, -, X18, ⟨Lc18, hQ18, l18, y18, z18⟩, st18⟩ := Jvm.LawKit.callS X_ hx (y := (⟨"com/example/tessera/tessera/platform/SecretCode", "isPinValue", "([B)Z"⟩ : MethodName)) hown (mvT hZ (hw _ (List.mem_of_getElem? (i := 9) rfl))) (mvT hZ (hw _ (List.mem_of_getElem? (i := 10) rfl))) (mvT hZ (hw _ (List.mem_of_getElem? (i := 11) rfl))) (mvT hZ (hw _ (List.mem_of_getElem? (i := 12) rfl))) (by decide) (backOf (W := 0) (rmPin l Z a0 hw [] b9 k9 c0 c1 c2 c3 c4 c5 c6 c7 h17 n0 Z17 V_all) hZ (hw _ (List.mem_of_getElem? (i := 12) rfl)) (hw _ (List.mem_of_getElem? (i := 11) rfl)) (by decide) (by decide)) (g := (mkF m 281 #[.val (.long q0), .second, .val (.int p1), .val (.int c0), .val (.int c1), .val (.int c2), .val (.int c3), .val (.int c4), .val (.int c5), .val (.int c6), .val (.int c7), .val (.ref b9), .val (.int e_), .unset, .unset] [(.ref b9)])) rfl (by rw [hml]; rfl) (argsL := [(.ref b9)]) (rest := []) (lenOf pd_1 rfl) rfl (by show 2 * 0 + _ ≤ _; exact Nat.le_of_eq rfl) (hb hby at_281) (fun _ _ => ⟨rfl, eT_, (by decide : 1 + 0 ≤ _), (by decide : 8 + 0 ≤ _)⟩)
    dsimp only [Pt.U, Pt.locs, Pt.cells, Pt.slots] at X18 l18 y18 z18 st18 hQ18
    replace y18 : k18 = 1 := y18
    replace z18 : n18 = 8 := z18
    subst l18 y18 z18
    refine own_go st18 ?_
    obtain ⟨zz18, rfl, hzz18, N18q, eh18⟩ := hQ18
    have N18 := Fr.app N_ N18q
    show own_Ends p e below T18 (mkF m 284 #[.val (.long q0), .second, .val (.int p1), .val (.int c0), .val (.int c1), .val (.int c2), .val (.int c3), .val (.int c4), .val (.int c5), .val (.int c6), .val (.int c7), .val (.ref b9), .val (.int e_), .unset, .unset] [(.int zz18)]) _
    suffices Jt18 : ∀ (T_ : State) (L_ : List Loc), Stand p l e room_1 s m #[(.long q0), (.int p1)] below meth c T_ L_ 1 8 → T_.heap = h17 → Fr n0 L_ → own_Ends p e below T_ (mkF m 284 #[.val (.long q0), .second, .val (.int p1), .val (.int c0), .val (.int c1), .val (.int c2), .val (.int c3), .val (.int c4), .val (.int c5), .val (.int c6), .val (.int c7), .val (.ref b9), .val (.int e_), .unset, .unset] [(.int zz18)]) (fun ou U' => ∃ v L, ou = .returned v ∧ Q_rm0 Z q0 p1 h0 n0 v U'.heap L ∧ FrameEnd s ou U' L room_1.cells room_1.slots) from Jt18 _ _ X18 eh18 N18
    clear st18 X18 N18 N18q eh18
    try clear Lc18
    try clear T18
    try clear N8t
    try clear eT8t
    try clear X8t
    try clear L8t
    try clear T8t
    intro T18t L18t X18t eT18t N18t
    refine own_go (fun _ => XS.istore X18t.here hx rfl (hb hby at_284) rfl (l' := #[.val (.long q0), .second, .val (.int p1), .val (.int c0), .val (.int c1), .val (.int c2), .val (.int c3), .val (.int c4), .val (.int c5), .val (.int c6), .val (.int c7), .val (.ref b9), .val (.int e_), .val (.int zz18), .unset]) rfl) ?_
    show own_Ends p e below T18t (mkF m 286 #[.val (.long q0), .second, .val (.int p1), .val (.int c0), .val (.int c1), .val (.int c2), .val (.int c3), .val (.int c4), .val (.int c5), .val (.int c6), .val (.int c7), .val (.ref b9), .val (.int e_), .val (.int zz18), .unset] []) _
    refine own_go (fun _ => XS.aload X18t.here hx rfl (hb hby at_286) rfl rfl) ?_
    show own_Ends p e below T18t (mkF m 288 #[.val (.long q0), .second, .val (.int p1), .val (.int c0), .val (.int c1), .val (.int c2), .val (.int c3), .val (.int c4), .val (.int c5), .val (.int c6), .val (.int c7), .val (.ref b9), .val (.int e_), .val (.int zz18), .unset] [(.ref b9)]) _
    refine own_go (fun _ => XS.iconst X18t.here hx rfl (hb hby at_288)) ?_
    show own_Ends p e below T18t (mkF m 289 #[.val (.long q0), .second, .val (.int p1), .val (.int c0), .val (.int c1), .val (.int c2), .val (.int c3), .val (.int c4), .val (.int c5), .val (.int c6), .val (.int c7), .val (.ref b9), .val (.int e_), .val (.int zz18), .unset] [(.int (0 : Int32)), (.ref b9)]) _
    obtain ⟨cl_19, Ar_19, q_19, S_19, M_19, H_19, G_19⟩ := id V_all
    have hin19 : ¬ ((0 : Int32) < 0 ∨ cl_19.slots.size ≤ ((0 : Int32)).toNatClampNeg) := inb_of S_19 ⟨by decide, by decide⟩
    have hat19 : cl_19.slots[((0 : Int32)).toNatClampNeg]? = some (.int c0) := Has.at H_19 hin19 (rfl)
    refine own_go (X18t.baloadBytes hx (j := (0 : Int32)) (v := (.int c0)) (by rw [eT18t]; exact Ar_19.1) (State.isArrayOf_alike hZ.alike Ar_19.2.1) Ar_19.2.2 hin19 hat19 (g := (mkF m 289 #[.val (.long q0), .second, .val (.int p1), .val (.int c0), .val (.int c1), .val (.int c2), .val (.int c3), .val (.int c4), .val (.int c5), .val (.int c6), .val (.int c7), .val (.ref b9), .val (.int e_), .val (.int zz18), .unset] [(.int (0 : Int32)), (.ref b9)])) rfl rfl (hb hby at_289)) ?_
    clear hat19 hin19 G_19 H_19 M_19 S_19 q_19 Ar_19
    try clear cl_19
    show own_Ends p e below T18t (mkF m 290 #[.val (.long q0), .second, .val (.int p1), .val (.int c0), .val (.int c1), .val (.int c2), .val (.int c3), .val (.int c4), .val (.int c5), .val (.int c6), .val (.int c7), .val (.ref b9), .val (.int e_), .val (.int zz18), .unset] [(.int c0)]) _
    refine own_go (fun _ => XS.iloadN X18t.here hx rfl (hb hby at_290) rfl) ?_
    show own_Ends p e below T18t (mkF m 291 #[.val (.long q0), .second, .val (.int p1), .val (.int c0), .val (.int c1), .val (.int c2), .val (.int c3), .val (.int c4), .val (.int c5), .val (.int c6), .val (.int c7), .val (.ref b9), .val (.int e_), .val (.int zz18), .unset] [(.int c0), (.int c0)]) _
    refine own_go (fun _ => XS.icmpNo X18t.here hx rfl (hb hby at_291) rfl (teq (show c0 = c0 from rfl)).2) ?_
    show own_Ends p e below T18t (mkF m 294 #[.val (.long q0), .second, .val (.int p1), .val (.int c0), .val (.int c1), .val (.int c2), .val (.int c3), .val (.int c4), .val (.int c5), .val (.int c6), .val (.int c7), .val (.ref b9), .val (.int e_), .val (.int zz18), .unset] []) _
    refine own_go (fun _ => XS.aload X18t.here hx rfl (hb hby at_294) rfl rfl) ?_
    show own_Ends p e below T18t (mkF m 296 #[.val (.long q0), .second, .val (.int p1), .val (.int c0), .val (.int c1), .val (.int c2), .val (.int c3), .val (.int c4), .val (.int c5), .val (.int c6), .val (.int c7), .val (.ref b9), .val (.int e_), .val (.int zz18), .unset] [(.ref b9)]) _
    refine own_go (fun _ => XS.iconst X18t.here hx rfl (hb hby at_296)) ?_
    show own_Ends p e below T18t (mkF m 297 #[.val (.long q0), .second, .val (.int p1), .val (.int c0), .val (.int c1), .val (.int c2), .val (.int c3), .val (.int c4), .val (.int c5), .val (.int c6), .val (.int c7), .val (.ref b9), .val (.int e_), .val (.int zz18), .unset] [(.int (1 : Int32)), (.ref b9)]) _
    obtain ⟨cl_20, Ar_20, q_20, S_20, M_20, H_20, G_20⟩ := id V_all
    have hin20 : ¬ ((1 : Int32) < 0 ∨ cl_20.slots.size ≤ ((1 : Int32)).toNatClampNeg) := inb_of S_20 ⟨by decide, by decide⟩
    have hat20 : cl_20.slots[((1 : Int32)).toNatClampNeg]? = some (.int c1) := Has.at H_20 hin20 (rfl)
    refine own_go (X18t.baloadBytes hx (j := (1 : Int32)) (v := (.int c1)) (by rw [eT18t]; exact Ar_20.1) (State.isArrayOf_alike hZ.alike Ar_20.2.1) Ar_20.2.2 hin20 hat20 (g := (mkF m 297 #[.val (.long q0), .second, .val (.int p1), .val (.int c0), .val (.int c1), .val (.int c2), .val (.int c3), .val (.int c4), .val (.int c5), .val (.int c6), .val (.int c7), .val (.ref b9), .val (.int e_), .val (.int zz18), .unset] [(.int (1 : Int32)), (.ref b9)])) rfl rfl (hb hby at_297)) ?_
    clear hat20 hin20 G_20 H_20 M_20 S_20 q_20 Ar_20
    try clear cl_20
    show own_Ends p e below T18t (mkF m 298 #[.val (.long q0), .second, .val (.int p1), .val (.int c0), .val (.int c1), .val (.int c2), .val (.int c3), .val (.int c4), .val (.int c5), .val (.int c6), .val (.int c7), .val (.ref b9), .val (.int e_), .val (.int zz18), .unset] [(.int c1)]) _
    refine own_go (fun _ => XS.iload X18t.here hx rfl (hb hby at_298) rfl) ?_
    show own_Ends p e below T18t (mkF m 300 #[.val (.long q0), .second, .val (.int p1), .val (.int c0), .val (.int c1), .val (.int c2), .val (.int c3), .val (.int c4), .val (.int c5), .val (.int c6), .val (.int c7), .val (.ref b9), .val (.int e_), .val (.int zz18), .unset] [(.int c1), (.int c1)]) _
    refine own_go (fun _ => XS.icmpNo X18t.here hx rfl (hb hby at_300) rfl (teq (show c1 = c1 from rfl)).2) ?_
    show own_Ends p e below T18t (mkF m 303 #[.val (.long q0), .second, .val (.int p1), .val (.int c0), .val (.int c1), .val (.int c2), .val (.int c3), .val (.int c4), .val (.int c5), .val (.int c6), .val (.int c7), .val (.ref b9), .val (.int e_), .val (.int zz18), .unset] []) _
    refine own_go (fun _ => XS.aload X18t.here hx rfl (hb hby at_303) rfl rfl) ?_
    show own_Ends p e below T18t (mkF m 305 #[.val (.long q0), .second, .val (.int p1), .val (.int c0), .val (.int c1), .val (.int c2), .val (.int c3), .val (.int c4), .val (.int c5), .val (.int c6), .val (.int c7), .val (.ref b9), .val (.int e_), .val (.int zz18), .unset] [(.ref b9)]) _
    refine own_go (fun _ => XS.iconst X18t.here hx rfl (hb hby at_305)) ?_
    show own_Ends p e below T18t (mkF m 306 #[.val (.long q0), .second, .val (.int p1), .val (.int c0), .val (.int c1), .val (.int c2), .val (.int c3), .val (.int c4), .val (.int c5), .val (.int c6), .val (.int c7), .val (.ref b9), .val (.int e_), .val (.int zz18), .unset] [(.int (2 : Int32)), (.ref b9)]) _
    obtain ⟨cl_21, Ar_21, q_21, S_21, M_21, H_21, G_21⟩ := id V_all
    have hin21 : ¬ ((2 : Int32) < 0 ∨ cl_21.slots.size ≤ ((2 : Int32)).toNatClampNeg) := inb_of S_21 ⟨by decide, by decide⟩
    have hat21 : cl_21.slots[((2 : Int32)).toNatClampNeg]? = some (.int c2) := Has.at H_21 hin21 (rfl)
    refine own_go (X18t.baloadBytes hx (j := (2 : Int32)) (v := (.int c2)) (by rw [eT18t]; exact Ar_21.1) (State.isArrayOf_alike hZ.alike Ar_21.2.1) Ar_21.2.2 hin21 hat21 (g := (mkF m 306 #[.val (.long q0), .second, .val (.int p1), .val (.int c0), .val (.int c1), .val (.int c2), .val (.int c3), .val (.int c4), .val (.int c5), .val (.int c6), .val (.int c7), .val (.ref b9), .val (.int e_), .val (.int zz18), .unset] [(.int (2 : Int32)), (.ref b9)])) rfl rfl (hb hby at_306)) ?_
    clear hat21 hin21 G_21 H_21 M_21 S_21 q_21 Ar_21
    try clear cl_21
    show own_Ends p e below T18t (mkF m 307 #[.val (.long q0), .second, .val (.int p1), .val (.int c0), .val (.int c1), .val (.int c2), .val (.int c3), .val (.int c4), .val (.int c5), .val (.int c6), .val (.int c7), .val (.ref b9), .val (.int e_), .val (.int zz18), .unset] [(.int c2)]) _
    refine own_go (fun _ => XS.iload X18t.here hx rfl (hb hby at_307) rfl) ?_
    show own_Ends p e below T18t (mkF m 309 #[.val (.long q0), .second, .val (.int p1), .val (.int c0), .val (.int c1), .val (.int c2), .val (.int c3), .val (.int c4), .val (.int c5), .val (.int c6), .val (.int c7), .val (.ref b9), .val (.int e_), .val (.int zz18), .unset] [(.int c2), (.int c2)]) _
    refine own_go (fun _ => XS.icmpNo X18t.here hx rfl (hb hby at_309) rfl (teq (show c2 = c2 from rfl)).2) ?_
    show own_Ends p e below T18t (mkF m 312 #[.val (.long q0), .second, .val (.int p1), .val (.int c0), .val (.int c1), .val (.int c2), .val (.int c3), .val (.int c4), .val (.int c5), .val (.int c6), .val (.int c7), .val (.ref b9), .val (.int e_), .val (.int zz18), .unset] []) _
    refine own_go (fun _ => XS.aload X18t.here hx rfl (hb hby at_312) rfl rfl) ?_
    show own_Ends p e below T18t (mkF m 314 #[.val (.long q0), .second, .val (.int p1), .val (.int c0), .val (.int c1), .val (.int c2), .val (.int c3), .val (.int c4), .val (.int c5), .val (.int c6), .val (.int c7), .val (.ref b9), .val (.int e_), .val (.int zz18), .unset] [(.ref b9)]) _
    refine own_go (fun _ => XS.iconst X18t.here hx rfl (hb hby at_314)) ?_
    show own_Ends p e below T18t (mkF m 315 #[.val (.long q0), .second, .val (.int p1), .val (.int c0), .val (.int c1), .val (.int c2), .val (.int c3), .val (.int c4), .val (.int c5), .val (.int c6), .val (.int c7), .val (.ref b9), .val (.int e_), .val (.int zz18), .unset] [(.int (3 : Int32)), (.ref b9)]) _
    obtain ⟨cl_22, Ar_22, q_22, S_22, M_22, H_22, G_22⟩ := id V_all
    have hin22 : ¬ ((3 : Int32) < 0 ∨ cl_22.slots.size ≤ ((3 : Int32)).toNatClampNeg) := inb_of S_22 ⟨by decide, by decide⟩
    have hat22 : cl_22.slots[((3 : Int32)).toNatClampNeg]? = some (.int c3) := Has.at H_22 hin22 (rfl)
    refine own_go (X18t.baloadBytes hx (j := (3 : Int32)) (v := (.int c3)) (by rw [eT18t]; exact Ar_22.1) (State.isArrayOf_alike hZ.alike Ar_22.2.1) Ar_22.2.2 hin22 hat22 (g := (mkF m 315 #[.val (.long q0), .second, .val (.int p1), .val (.int c0), .val (.int c1), .val (.int c2), .val (.int c3), .val (.int c4), .val (.int c5), .val (.int c6), .val (.int c7), .val (.ref b9), .val (.int e_), .val (.int zz18), .unset] [(.int (3 : Int32)), (.ref b9)])) rfl rfl (hb hby at_315)) ?_
    clear hat22 hin22 G_22 H_22 M_22 S_22 q_22 Ar_22
    try clear cl_22
    show own_Ends p e below T18t (mkF m 316 #[.val (.long q0), .second, .val (.int p1), .val (.int c0), .val (.int c1), .val (.int c2), .val (.int c3), .val (.int c4), .val (.int c5), .val (.int c6), .val (.int c7), .val (.ref b9), .val (.int e_), .val (.int zz18), .unset] [(.int c3)]) _
    refine own_go (fun _ => XS.iload X18t.here hx rfl (hb hby at_316) rfl) ?_
    show own_Ends p e below T18t (mkF m 318 #[.val (.long q0), .second, .val (.int p1), .val (.int c0), .val (.int c1), .val (.int c2), .val (.int c3), .val (.int c4), .val (.int c5), .val (.int c6), .val (.int c7), .val (.ref b9), .val (.int e_), .val (.int zz18), .unset] [(.int c3), (.int c3)]) _
    refine own_go (fun _ => XS.icmpNo X18t.here hx rfl (hb hby at_318) rfl (teq (show c3 = c3 from rfl)).2) ?_
    show own_Ends p e below T18t (mkF m 321 #[.val (.long q0), .second, .val (.int p1), .val (.int c0), .val (.int c1), .val (.int c2), .val (.int c3), .val (.int c4), .val (.int c5), .val (.int c6), .val (.int c7), .val (.ref b9), .val (.int e_), .val (.int zz18), .unset] []) _
    refine own_go (fun _ => XS.aload X18t.here hx rfl (hb hby at_321) rfl rfl) ?_
    show own_Ends p e below T18t (mkF m 323 #[.val (.long q0), .second, .val (.int p1), .val (.int c0), .val (.int c1), .val (.int c2), .val (.int c3), .val (.int c4), .val (.int c5), .val (.int c6), .val (.int c7), .val (.ref b9), .val (.int e_), .val (.int zz18), .unset] [(.ref b9)]) _
    refine own_go (fun _ => XS.iconst X18t.here hx rfl (hb hby at_323)) ?_
    show own_Ends p e below T18t (mkF m 324 #[.val (.long q0), .second, .val (.int p1), .val (.int c0), .val (.int c1), .val (.int c2), .val (.int c3), .val (.int c4), .val (.int c5), .val (.int c6), .val (.int c7), .val (.ref b9), .val (.int e_), .val (.int zz18), .unset] [(.int (4 : Int32)), (.ref b9)]) _
    obtain ⟨cl_23, Ar_23, q_23, S_23, M_23, H_23, G_23⟩ := id V_all
    have hin23 : ¬ ((4 : Int32) < 0 ∨ cl_23.slots.size ≤ ((4 : Int32)).toNatClampNeg) := inb_of S_23 ⟨by decide, by decide⟩
    have hat23 : cl_23.slots[((4 : Int32)).toNatClampNeg]? = some (.int c4) := Has.at H_23 hin23 (rfl)
    refine own_go (X18t.baloadBytes hx (j := (4 : Int32)) (v := (.int c4)) (by rw [eT18t]; exact Ar_23.1) (State.isArrayOf_alike hZ.alike Ar_23.2.1) Ar_23.2.2 hin23 hat23 (g := (mkF m 324 #[.val (.long q0), .second, .val (.int p1), .val (.int c0), .val (.int c1), .val (.int c2), .val (.int c3), .val (.int c4), .val (.int c5), .val (.int c6), .val (.int c7), .val (.ref b9), .val (.int e_), .val (.int zz18), .unset] [(.int (4 : Int32)), (.ref b9)])) rfl rfl (hb hby at_324)) ?_
    clear hat23 hin23 G_23 H_23 M_23 S_23 q_23 Ar_23
    try clear cl_23
    show own_Ends p e below T18t (mkF m 325 #[.val (.long q0), .second, .val (.int p1), .val (.int c0), .val (.int c1), .val (.int c2), .val (.int c3), .val (.int c4), .val (.int c5), .val (.int c6), .val (.int c7), .val (.ref b9), .val (.int e_), .val (.int zz18), .unset] [(.int c4)]) _
    refine own_go (fun _ => XS.iload X18t.here hx rfl (hb hby at_325) rfl) ?_
    show own_Ends p e below T18t (mkF m 327 #[.val (.long q0), .second, .val (.int p1), .val (.int c0), .val (.int c1), .val (.int c2), .val (.int c3), .val (.int c4), .val (.int c5), .val (.int c6), .val (.int c7), .val (.ref b9), .val (.int e_), .val (.int zz18), .unset] [(.int c4), (.int c4)]) _
    refine own_go (fun _ => XS.icmpNo X18t.here hx rfl (hb hby at_327) rfl (teq (show c4 = c4 from rfl)).2) ?_
    show own_Ends p e below T18t (mkF m 330 #[.val (.long q0), .second, .val (.int p1), .val (.int c0), .val (.int c1), .val (.int c2), .val (.int c3), .val (.int c4), .val (.int c5), .val (.int c6), .val (.int c7), .val (.ref b9), .val (.int e_), .val (.int zz18), .unset] []) _
    refine own_go (fun _ => XS.aload X18t.here hx rfl (hb hby at_330) rfl rfl) ?_
    show own_Ends p e below T18t (mkF m 332 #[.val (.long q0), .second, .val (.int p1), .val (.int c0), .val (.int c1), .val (.int c2), .val (.int c3), .val (.int c4), .val (.int c5), .val (.int c6), .val (.int c7), .val (.ref b9), .val (.int e_), .val (.int zz18), .unset] [(.ref b9)]) _
    refine own_go (fun _ => XS.iconst X18t.here hx rfl (hb hby at_332)) ?_
    show own_Ends p e below T18t (mkF m 333 #[.val (.long q0), .second, .val (.int p1), .val (.int c0), .val (.int c1), .val (.int c2), .val (.int c3), .val (.int c4), .val (.int c5), .val (.int c6), .val (.int c7), .val (.ref b9), .val (.int e_), .val (.int zz18), .unset] [(.int (5 : Int32)), (.ref b9)]) _
    obtain ⟨cl_24, Ar_24, q_24, S_24, M_24, H_24, G_24⟩ := id V_all
    have hin24 : ¬ ((5 : Int32) < 0 ∨ cl_24.slots.size ≤ ((5 : Int32)).toNatClampNeg) := inb_of S_24 ⟨by decide, by decide⟩
    have hat24 : cl_24.slots[((5 : Int32)).toNatClampNeg]? = some (.int c5) := Has.at H_24 hin24 (rfl)
    refine own_go (X18t.baloadBytes hx (j := (5 : Int32)) (v := (.int c5)) (by rw [eT18t]; exact Ar_24.1) (State.isArrayOf_alike hZ.alike Ar_24.2.1) Ar_24.2.2 hin24 hat24 (g := (mkF m 333 #[.val (.long q0), .second, .val (.int p1), .val (.int c0), .val (.int c1), .val (.int c2), .val (.int c3), .val (.int c4), .val (.int c5), .val (.int c6), .val (.int c7), .val (.ref b9), .val (.int e_), .val (.int zz18), .unset] [(.int (5 : Int32)), (.ref b9)])) rfl rfl (hb hby at_333)) ?_
    clear hat24 hin24 G_24 H_24 M_24 S_24 q_24 Ar_24
    try clear cl_24
    show own_Ends p e below T18t (mkF m 334 #[.val (.long q0), .second, .val (.int p1), .val (.int c0), .val (.int c1), .val (.int c2), .val (.int c3), .val (.int c4), .val (.int c5), .val (.int c6), .val (.int c7), .val (.ref b9), .val (.int e_), .val (.int zz18), .unset] [(.int c5)]) _
    refine own_go (fun _ => XS.iload X18t.here hx rfl (hb hby at_334) rfl) ?_
    show own_Ends p e below T18t (mkF m 336 #[.val (.long q0), .second, .val (.int p1), .val (.int c0), .val (.int c1), .val (.int c2), .val (.int c3), .val (.int c4), .val (.int c5), .val (.int c6), .val (.int c7), .val (.ref b9), .val (.int e_), .val (.int zz18), .unset] [(.int c5), (.int c5)]) _
    refine own_go (fun _ => XS.icmpNo X18t.here hx rfl (hb hby at_336) rfl (teq (show c5 = c5 from rfl)).2) ?_
    show own_Ends p e below T18t (mkF m 339 #[.val (.long q0), .second, .val (.int p1), .val (.int c0), .val (.int c1), .val (.int c2), .val (.int c3), .val (.int c4), .val (.int c5), .val (.int c6), .val (.int c7), .val (.ref b9), .val (.int e_), .val (.int zz18), .unset] []) _
    refine own_go (fun _ => XS.aload X18t.here hx rfl (hb hby at_339) rfl rfl) ?_
    show own_Ends p e below T18t (mkF m 341 #[.val (.long q0), .second, .val (.int p1), .val (.int c0), .val (.int c1), .val (.int c2), .val (.int c3), .val (.int c4), .val (.int c5), .val (.int c6), .val (.int c7), .val (.ref b9), .val (.int e_), .val (.int zz18), .unset] [(.ref b9)]) _
    refine own_go (fun _ => XS.bipush X18t.here hx rfl (hb hby at_341)) ?_
    show own_Ends p e below T18t (mkF m 343 #[.val (.long q0), .second, .val (.int p1), .val (.int c0), .val (.int c1), .val (.int c2), .val (.int c3), .val (.int c4), .val (.int c5), .val (.int c6), .val (.int c7), .val (.ref b9), .val (.int e_), .val (.int zz18), .unset] [(.int (6 : Int32)), (.ref b9)]) _
    obtain ⟨cl_25, Ar_25, q_25, S_25, M_25, H_25, G_25⟩ := id V_all
    have hin25 : ¬ ((6 : Int32) < 0 ∨ cl_25.slots.size ≤ ((6 : Int32)).toNatClampNeg) := inb_of S_25 ⟨by decide, by decide⟩
    have hat25 : cl_25.slots[((6 : Int32)).toNatClampNeg]? = some (.int c6) := Has.at H_25 hin25 (rfl)
    refine own_go (X18t.baloadBytes hx (j := (6 : Int32)) (v := (.int c6)) (by rw [eT18t]; exact Ar_25.1) (State.isArrayOf_alike hZ.alike Ar_25.2.1) Ar_25.2.2 hin25 hat25 (g := (mkF m 343 #[.val (.long q0), .second, .val (.int p1), .val (.int c0), .val (.int c1), .val (.int c2), .val (.int c3), .val (.int c4), .val (.int c5), .val (.int c6), .val (.int c7), .val (.ref b9), .val (.int e_), .val (.int zz18), .unset] [(.int (6 : Int32)), (.ref b9)])) rfl rfl (hb hby at_343)) ?_
    clear hat25 hin25 G_25 H_25 M_25 S_25 q_25 Ar_25
    try clear cl_25
    show own_Ends p e below T18t (mkF m 344 #[.val (.long q0), .second, .val (.int p1), .val (.int c0), .val (.int c1), .val (.int c2), .val (.int c3), .val (.int c4), .val (.int c5), .val (.int c6), .val (.int c7), .val (.ref b9), .val (.int e_), .val (.int zz18), .unset] [(.int c6)]) _
    refine own_go (fun _ => XS.iload X18t.here hx rfl (hb hby at_344) rfl) ?_
    show own_Ends p e below T18t (mkF m 346 #[.val (.long q0), .second, .val (.int p1), .val (.int c0), .val (.int c1), .val (.int c2), .val (.int c3), .val (.int c4), .val (.int c5), .val (.int c6), .val (.int c7), .val (.ref b9), .val (.int e_), .val (.int zz18), .unset] [(.int c6), (.int c6)]) _
    refine own_go (fun _ => XS.icmpNo X18t.here hx rfl (hb hby at_346) rfl (teq (show c6 = c6 from rfl)).2) ?_
    show own_Ends p e below T18t (mkF m 349 #[.val (.long q0), .second, .val (.int p1), .val (.int c0), .val (.int c1), .val (.int c2), .val (.int c3), .val (.int c4), .val (.int c5), .val (.int c6), .val (.int c7), .val (.ref b9), .val (.int e_), .val (.int zz18), .unset] []) _
    refine own_go (fun _ => XS.aload X18t.here hx rfl (hb hby at_349) rfl rfl) ?_
    show own_Ends p e below T18t (mkF m 351 #[.val (.long q0), .second, .val (.int p1), .val (.int c0), .val (.int c1), .val (.int c2), .val (.int c3), .val (.int c4), .val (.int c5), .val (.int c6), .val (.int c7), .val (.ref b9), .val (.int e_), .val (.int zz18), .unset] [(.ref b9)]) _
    refine own_go (fun _ => XS.bipush X18t.here hx rfl (hb hby at_351)) ?_
    show own_Ends p e below T18t (mkF m 353 #[.val (.long q0), .second, .val (.int p1), .val (.int c0), .val (.int c1), .val (.int c2), .val (.int c3), .val (.int c4), .val (.int c5), .val (.int c6), .val (.int c7), .val (.ref b9), .val (.int e_), .val (.int zz18), .unset] [(.int (7 : Int32)), (.ref b9)]) _
    obtain ⟨cl_26, Ar_26, q_26, S_26, M_26, H_26, G_26⟩ := id V_all
    have hin26 : ¬ ((7 : Int32) < 0 ∨ cl_26.slots.size ≤ ((7 : Int32)).toNatClampNeg) := inb_of S_26 ⟨by decide, by decide⟩
    have hat26 : cl_26.slots[((7 : Int32)).toNatClampNeg]? = some (.int c7) := Has.at H_26 hin26 (rfl)
    refine own_go (X18t.baloadBytes hx (j := (7 : Int32)) (v := (.int c7)) (by rw [eT18t]; exact Ar_26.1) (State.isArrayOf_alike hZ.alike Ar_26.2.1) Ar_26.2.2 hin26 hat26 (g := (mkF m 353 #[.val (.long q0), .second, .val (.int p1), .val (.int c0), .val (.int c1), .val (.int c2), .val (.int c3), .val (.int c4), .val (.int c5), .val (.int c6), .val (.int c7), .val (.ref b9), .val (.int e_), .val (.int zz18), .unset] [(.int (7 : Int32)), (.ref b9)])) rfl rfl (hb hby at_353)) ?_
    clear hat26 hin26 G_26 H_26 M_26 S_26 q_26 Ar_26
    try clear cl_26
    show own_Ends p e below T18t (mkF m 354 #[.val (.long q0), .second, .val (.int p1), .val (.int c0), .val (.int c1), .val (.int c2), .val (.int c3), .val (.int c4), .val (.int c5), .val (.int c6), .val (.int c7), .val (.ref b9), .val (.int e_), .val (.int zz18), .unset] [(.int c7)]) _
    refine own_go (fun _ => XS.iload X18t.here hx rfl (hb hby at_354) rfl) ?_
    show own_Ends p e below T18t (mkF m 356 #[.val (.long q0), .second, .val (.int p1), .val (.int c0), .val (.int c1), .val (.int c2), .val (.int c3), .val (.int c4), .val (.int c5), .val (.int c6), .val (.int c7), .val (.ref b9), .val (.int e_), .val (.int zz18), .unset] [(.int c7), (.int c7)]) _
    refine own_go (fun _ => XS.icmpNo X18t.here hx rfl (hb hby at_356) rfl (teq (show c7 = c7 from rfl)).2) ?_
    show own_Ends p e below T18t (mkF m 359 #[.val (.long q0), .second, .val (.int p1), .val (.int c0), .val (.int c1), .val (.int c2), .val (.int c3), .val (.int c4), .val (.int c5), .val (.int c6), .val (.int c7), .val (.ref b9), .val (.int e_), .val (.int zz18), .unset] []) _
    refine own_go (fun _ => XS.iconst X18t.here hx rfl (hb hby at_359)) ?_
    show own_Ends p e below T18t (mkF m 360 #[.val (.long q0), .second, .val (.int p1), .val (.int c0), .val (.int c1), .val (.int c2), .val (.int c3), .val (.int c4), .val (.int c5), .val (.int c6), .val (.int c7), .val (.ref b9), .val (.int e_), .val (.int zz18), .unset] [(.int (1 : Int32))]) _
    refine own_go (fun _ => XS.goto X18t.here hx rfl (pc0 := 360) (pc' := 364) rfl (hb hby at_360) (by decide) (by decide)) ?_
    show own_Ends p e below T18t (mkF m 364 #[.val (.long q0), .second, .val (.int p1), .val (.int c0), .val (.int c1), .val (.int c2), .val (.int c3), .val (.int c4), .val (.int c5), .val (.int c6), .val (.int c7), .val (.ref b9), .val (.int e_), .val (.int zz18), .unset] [(.int (1 : Int32))]) _
    refine own_go (fun _ => XS.istore X18t.here hx rfl (hb hby at_364) rfl (l' := #[.val (.long q0), .second, .val (.int p1), .val (.int c0), .val (.int c1), .val (.int c2), .val (.int c3), .val (.int c4), .val (.int c5), .val (.int c6), .val (.int c7), .val (.ref b9), .val (.int e_), .val (.int zz18), .val (.int (1 : Int32))]) rfl) ?_
    show own_Ends p e below T18t (mkF m 366 #[.val (.long q0), .second, .val (.int p1), .val (.int c0), .val (.int c1), .val (.int c2), .val (.int c3), .val (.int c4), .val (.int c5), .val (.int c6), .val (.int c7), .val (.ref b9), .val (.int e_), .val (.int zz18), .val (.int (1 : Int32))] []) _
    refine own_go (fun _ => XS.iload X18t.here hx rfl (hb hby at_366) rfl) ?_
    show own_Ends p e below T18t (mkF m 368 #[.val (.long q0), .second, .val (.int p1), .val (.int c0), .val (.int c1), .val (.int c2), .val (.int c3), .val (.int c4), .val (.int c5), .val (.int c6), .val (.int c7), .val (.ref b9), .val (.int e_), .val (.int zz18), .val (.int (1 : Int32))] [(.int zz18)]) _
    refine own_go (fun _ => XS.iload X18t.here hx rfl (hb hby at_368) rfl) ?_
    show own_Ends p e below T18t (mkF m 370 #[.val (.long q0), .second, .val (.int p1), .val (.int c0), .val (.int c1), .val (.int c2), .val (.int c3), .val (.int c4), .val (.int c5), .val (.int c6), .val (.int c7), .val (.ref b9), .val (.int e_), .val (.int zz18), .val (.int (1 : Int32))] [(.int e_), (.int zz18)]) _
    refine own_go (fun _ => XS.icmpNo X18t.here hx rfl (hb hby at_370) rfl (teq (show zz18 = e_ from hzz18.trans he)).2) ?_
    show own_Ends p e below T18t (mkF m 373 #[.val (.long q0), .second, .val (.int p1), .val (.int c0), .val (.int c1), .val (.int c2), .val (.int c3), .val (.int c4), .val (.int c5), .val (.int c6), .val (.int c7), .val (.ref b9), .val (.int e_), .val (.int zz18), .val (.int (1 : Int32))] []) _
    refine own_go (fun _ => XS.iload X18t.here hx rfl (hb hby at_373) rfl) ?_
    show own_Ends p e below T18t (mkF m 375 #[.val (.long q0), .second, .val (.int p1), .val (.int c0), .val (.int c1), .val (.int c2), .val (.int c3), .val (.int c4), .val (.int c5), .val (.int c6), .val (.int c7), .val (.ref b9), .val (.int e_), .val (.int zz18), .val (.int (1 : Int32))] [(.int (1 : Int32))]) _
    refine own_go (fun _ => XS.ifNo X18t.here hx rfl (hb hby at_375) rfl ((if0 _ _).trans (feq (show ¬ ((1 : Int32) = (0 : Int32)) from by decide)).1)) ?_
    show own_Ends p e below T18t (mkF m 378 #[.val (.long q0), .second, .val (.int p1), .val (.int c0), .val (.int c1), .val (.int c2), .val (.int c3), .val (.int c4), .val (.int c5), .val (.int c6), .val (.int c7), .val (.ref b9), .val (.int e_), .val (.int zz18), .val (.int (1 : Int32))] []) _
    refine own_go (fun _ => XS.iconst X18t.here hx rfl (hb hby at_378)) ?_
    show own_Ends p e below T18t (mkF m 379 #[.val (.long q0), .second, .val (.int p1), .val (.int c0), .val (.int c1), .val (.int c2), .val (.int c3), .val (.int c4), .val (.int c5), .val (.int c6), .val (.int c7), .val (.ref b9), .val (.int e_), .val (.int zz18), .val (.int (1 : Int32))] [(.int (1 : Int32))]) _
    refine own_go (fun _ => XS.goto X18t.here hx rfl (pc0 := 379) (pc' := 383) rfl (hb hby at_379) (by decide) (by decide)) ?_
    show own_Ends p e below T18t (mkF m 383 #[.val (.long q0), .second, .val (.int p1), .val (.int c0), .val (.int c1), .val (.int c2), .val (.int c3), .val (.int c4), .val (.int c5), .val (.int c6), .val (.int c7), .val (.ref b9), .val (.int e_), .val (.int zz18), .val (.int (1 : Int32))] [(.int (1 : Int32))]) _
    obtain ⟨fs, hr, hrun, hended, hW, hsame⟩ := X18t.leave (v := some (.int (1 : Int32))) (fun h => by rw [Bd.returns] at h; cases h)
    refine ⟨_, _, retN X18t hx (t := .boolean) Bd.returns (by simp) (hb hby at_383) hr, hrun, hended, _, _, rfl, ?_, ⟨_, rfl⟩, hW, hsame.mono (by decide) (by decide)⟩
    show Q_rm0 Z q0 p1 h0 n0 _ T18t.heap _
    rw [eT18t]
    exact ⟨rfl, N18t⟩
  refine own_go (fun _ => XS.iloadN X17.here hx rfl (hb hby at_120) rfl) ?_
  show own_Ends p e below T17 (mkF m 121 #[.val (.long q0), .second, .val (.int p1), .val (.int c0), .val (.int c1), .val (.int c2), .val (.int c3), .val (.int c4), .val (.int c5), .val (.int c6), .val (.int c7), .val (.ref b9), .unset, .unset, .unset] [(.int c0)]) _
  obtain ⟨_, _, ⟨T27, L27, k27, n27⟩, -, X27, ⟨Lc27, hQ27, l27, y27, z27⟩, st27⟩ := Jvm.LawKit.callS X17 hx (y := (⟨"com/example/tessera/tessera/platform/SecretCodeIsPinValuePinLaw", "d", "(B)Z"⟩ : MethodName)) hown (mvT hZ (hw _ (List.mem_of_getElem? (i := 6) rfl))) (mvT hZ (hw _ (List.mem_of_getElem? (i := 7) rfl))) (mvT hZ (hw _ (List.mem_of_getElem? (i := 2) rfl))) (mvT hZ (hw _ (List.mem_of_getElem? (i := 8) rfl))) (by decide) (backOf (W := 0) (rm_d l Z a0 hw [] c0  h17 n0 Z17 ) hZ (hw _ (List.mem_of_getElem? (i := 8) rfl)) (hw _ (List.mem_of_getElem? (i := 2) rfl)) (by decide) (by decide)) (g := (mkF m 121 #[.val (.long q0), .second, .val (.int p1), .val (.int c0), .val (.int c1), .val (.int c2), .val (.int c3), .val (.int c4), .val (.int c5), .val (.int c6), .val (.int c7), .val (.ref b9), .unset, .unset, .unset] [(.int c0)])) rfl (by rw [hml]; rfl) (argsL := [(.int c0)]) (rest := []) (lenOf pd_2 rfl) rfl (by show 2 * 0 + _ ≤ _; exact Nat.le_of_eq rfl) (hb hby at_121) (fun _ _ => ⟨rfl, e17, (by decide : 1 + 0 ≤ _), (by decide : 8 + 0 ≤ _)⟩)
  dsimp only [Pt.U, Pt.locs, Pt.cells, Pt.slots] at X27 l27 y27 z27 st27 hQ27
  replace y27 : k27 = 1 := y27
  replace z27 : n27 = 8 := z27
  subst l27 y27 z27
  refine own_go st27 ?_
  obtain ⟨zz27, rfl, hzz27, N27q, eh27⟩ := hQ27
  have N27 := Fr.app N17 N27q
  show own_Ends p e below T27 (mkF m 124 #[.val (.long q0), .second, .val (.int p1), .val (.int c0), .val (.int c1), .val (.int c2), .val (.int c3), .val (.int c4), .val (.int c5), .val (.int c6), .val (.int c7), .val (.ref b9), .unset, .unset, .unset] [(.int zz27)]) _
  suffices Jt27 : ∀ (T_ : State) (L_ : List Loc), Stand p l e room_1 s m #[(.long q0), (.int p1)] below meth c T_ L_ 1 8 → T_.heap = h17 → Fr n0 L_ → own_Ends p e below T_ (mkF m 124 #[.val (.long q0), .second, .val (.int p1), .val (.int c0), .val (.int c1), .val (.int c2), .val (.int c3), .val (.int c4), .val (.int c5), .val (.int c6), .val (.int c7), .val (.ref b9), .unset, .unset, .unset] [(.int zz27)]) (fun ou U' => ∃ v L, ou = .returned v ∧ Q_rm0 Z q0 p1 h0 n0 v U'.heap L ∧ FrameEnd s ou U' L room_1.cells room_1.slots) from Jt27 _ _ X27 eh27 N27
  clear st27 X27 N27 N27q eh27
  try clear Lc27
  try clear T27
  try clear N8t
  try clear eT8t
  try clear X8t
  try clear L8t
  try clear T8t
  intro T27t L27t X27t eT27t N27t
  by_cases hc124 : zz27 = (0 : Int32)
  · refine own_go (fun _ => XS.ifYes X27t.here hx rfl (pc0 := 124) (pc' := 276) rfl (hb hby at_124) rfl ((if0 _ _).trans (teq hc124).1) (by decide) (by decide)) ?_
    show own_Ends p e below T27t (mkF m 276 #[.val (.long q0), .second, .val (.int p1), .val (.int c0), .val (.int c1), .val (.int c2), .val (.int c3), .val (.int c4), .val (.int c5), .val (.int c6), .val (.int c7), .val (.ref b9), .unset, .unset, .unset] []) _
    refine own_go (fun _ => XS.iconst X27t.here hx rfl (hb hby at_276)) ?_
    show own_Ends p e below T27t (mkF m 277 #[.val (.long q0), .second, .val (.int p1), .val (.int c0), .val (.int c1), .val (.int c2), .val (.int c3), .val (.int c4), .val (.int c5), .val (.int c6), .val (.int c7), .val (.ref b9), .unset, .unset, .unset] [(.int (0 : Int32))]) _
    refine own_go (fun _ => XS.istore X27t.here hx rfl (hb hby at_277) rfl (l' := #[.val (.long q0), .second, .val (.int p1), .val (.int c0), .val (.int c1), .val (.int c2), .val (.int c3), .val (.int c4), .val (.int c5), .val (.int c6), .val (.int c7), .val (.ref b9), .val (.int (0 : Int32)), .unset, .unset]) rfl) ?_
    show own_Ends p e below T27t (mkF m 279 #[.val (.long q0), .second, .val (.int p1), .val (.int c0), .val (.int c1), .val (.int c2), .val (.int c3), .val (.int c4), .val (.int c5), .val (.int c6), .val (.int c7), .val (.ref b9), .val (.int (0 : Int32)), .unset, .unset] []) _
    exact J279 _ _ X27t eT27t N27t _ ((own_sd0 (own_e0 hzz27 hc124)).trans (own_short _ _ (by decide)))
  · refine own_go (fun _ => XS.ifNo X27t.here hx rfl (hb hby at_124) rfl ((if0 _ _).trans (feq hc124).1)) ?_
    show own_Ends p e below T27t (mkF m 127 #[.val (.long q0), .second, .val (.int p1), .val (.int c0), .val (.int c1), .val (.int c2), .val (.int c3), .val (.int c4), .val (.int c5), .val (.int c6), .val (.int c7), .val (.ref b9), .unset, .unset, .unset] []) _
    refine own_go (fun _ => XS.iload X27t.here hx rfl (hb hby at_127) rfl) ?_
    show own_Ends p e below T27t (mkF m 129 #[.val (.long q0), .second, .val (.int p1), .val (.int c0), .val (.int c1), .val (.int c2), .val (.int c3), .val (.int c4), .val (.int c5), .val (.int c6), .val (.int c7), .val (.ref b9), .unset, .unset, .unset] [(.int c1)]) _
    obtain ⟨_, _, ⟨T28, L28, k28, n28⟩, -, X28, ⟨Lc28, hQ28, l28, y28, z28⟩, st28⟩ := Jvm.LawKit.callS X27t hx (y := (⟨"com/example/tessera/tessera/platform/SecretCodeIsPinValuePinLaw", "d", "(B)Z"⟩ : MethodName)) hown (mvT hZ (hw _ (List.mem_of_getElem? (i := 6) rfl))) (mvT hZ (hw _ (List.mem_of_getElem? (i := 7) rfl))) (mvT hZ (hw _ (List.mem_of_getElem? (i := 2) rfl))) (mvT hZ (hw _ (List.mem_of_getElem? (i := 8) rfl))) (by decide) (backOf (W := 0) (rm_d l Z a0 hw [] c1  h17 n0 Z17 ) hZ (hw _ (List.mem_of_getElem? (i := 8) rfl)) (hw _ (List.mem_of_getElem? (i := 2) rfl)) (by decide) (by decide)) (g := (mkF m 129 #[.val (.long q0), .second, .val (.int p1), .val (.int c0), .val (.int c1), .val (.int c2), .val (.int c3), .val (.int c4), .val (.int c5), .val (.int c6), .val (.int c7), .val (.ref b9), .unset, .unset, .unset] [(.int c1)])) rfl (by rw [hml]; rfl) (argsL := [(.int c1)]) (rest := []) (lenOf pd_2 rfl) rfl (by show 2 * 0 + _ ≤ _; exact Nat.le_of_eq rfl) (hb hby at_129) (fun _ _ => ⟨rfl, eT27t, (by decide : 1 + 0 ≤ _), (by decide : 8 + 0 ≤ _)⟩)
    dsimp only [Pt.U, Pt.locs, Pt.cells, Pt.slots] at X28 l28 y28 z28 st28 hQ28
    replace y28 : k28 = 1 := y28
    replace z28 : n28 = 8 := z28
    subst l28 y28 z28
    refine own_go st28 ?_
    obtain ⟨zz28, rfl, hzz28, N28q, eh28⟩ := hQ28
    have N28 := Fr.app N27t N28q
    show own_Ends p e below T28 (mkF m 132 #[.val (.long q0), .second, .val (.int p1), .val (.int c0), .val (.int c1), .val (.int c2), .val (.int c3), .val (.int c4), .val (.int c5), .val (.int c6), .val (.int c7), .val (.ref b9), .unset, .unset, .unset] [(.int zz28)]) _
    suffices Jt28 : ∀ (T_ : State) (L_ : List Loc), Stand p l e room_1 s m #[(.long q0), (.int p1)] below meth c T_ L_ 1 8 → T_.heap = h17 → Fr n0 L_ → own_Ends p e below T_ (mkF m 132 #[.val (.long q0), .second, .val (.int p1), .val (.int c0), .val (.int c1), .val (.int c2), .val (.int c3), .val (.int c4), .val (.int c5), .val (.int c6), .val (.int c7), .val (.ref b9), .unset, .unset, .unset] [(.int zz28)]) (fun ou U' => ∃ v L, ou = .returned v ∧ Q_rm0 Z q0 p1 h0 n0 v U'.heap L ∧ FrameEnd s ou U' L room_1.cells room_1.slots) from Jt28 _ _ X28 eh28 N28
    clear st28 X28 N28 N28q eh28
    try clear Lc28
    try clear T28
    try clear N27t
    try clear eT27t
    try clear X27t
    try clear L27t
    try clear T27t
    intro T28t L28t X28t eT28t N28t
    by_cases hc132 : zz28 = (0 : Int32)
    · refine own_go (fun _ => XS.ifYes X28t.here hx rfl (pc0 := 132) (pc' := 276) rfl (hb hby at_132) rfl ((if0 _ _).trans (teq hc132).1) (by decide) (by decide)) ?_
      show own_Ends p e below T28t (mkF m 276 #[.val (.long q0), .second, .val (.int p1), .val (.int c0), .val (.int c1), .val (.int c2), .val (.int c3), .val (.int c4), .val (.int c5), .val (.int c6), .val (.int c7), .val (.ref b9), .unset, .unset, .unset] []) _
      refine own_go (fun _ => XS.iconst X28t.here hx rfl (hb hby at_276)) ?_
      show own_Ends p e below T28t (mkF m 277 #[.val (.long q0), .second, .val (.int p1), .val (.int c0), .val (.int c1), .val (.int c2), .val (.int c3), .val (.int c4), .val (.int c5), .val (.int c6), .val (.int c7), .val (.ref b9), .unset, .unset, .unset] [(.int (0 : Int32))]) _
      refine own_go (fun _ => XS.istore X28t.here hx rfl (hb hby at_277) rfl (l' := #[.val (.long q0), .second, .val (.int p1), .val (.int c0), .val (.int c1), .val (.int c2), .val (.int c3), .val (.int c4), .val (.int c5), .val (.int c6), .val (.int c7), .val (.ref b9), .val (.int (0 : Int32)), .unset, .unset]) rfl) ?_
      show own_Ends p e below T28t (mkF m 279 #[.val (.long q0), .second, .val (.int p1), .val (.int c0), .val (.int c1), .val (.int c2), .val (.int c3), .val (.int c4), .val (.int c5), .val (.int c6), .val (.int c7), .val (.ref b9), .val (.int (0 : Int32)), .unset, .unset] []) _
      exact J279 _ _ X28t eT28t N28t _ ((own_sd1 (own_e1 hzz27 hc124)).trans ((own_sd0 (own_e0 hzz28 hc132)).trans (own_short _ _ (by decide))))
    · refine own_go (fun _ => XS.ifNo X28t.here hx rfl (hb hby at_132) rfl ((if0 _ _).trans (feq hc132).1)) ?_
      show own_Ends p e below T28t (mkF m 135 #[.val (.long q0), .second, .val (.int p1), .val (.int c0), .val (.int c1), .val (.int c2), .val (.int c3), .val (.int c4), .val (.int c5), .val (.int c6), .val (.int c7), .val (.ref b9), .unset, .unset, .unset] []) _
      refine own_go (fun _ => XS.iload X28t.here hx rfl (hb hby at_135) rfl) ?_
      show own_Ends p e below T28t (mkF m 137 #[.val (.long q0), .second, .val (.int p1), .val (.int c0), .val (.int c1), .val (.int c2), .val (.int c3), .val (.int c4), .val (.int c5), .val (.int c6), .val (.int c7), .val (.ref b9), .unset, .unset, .unset] [(.int c2)]) _
      obtain ⟨_, _, ⟨T29, L29, k29, n29⟩, -, X29, ⟨Lc29, hQ29, l29, y29, z29⟩, st29⟩ := Jvm.LawKit.callS X28t hx (y := (⟨"com/example/tessera/tessera/platform/SecretCodeIsPinValuePinLaw", "d", "(B)Z"⟩ : MethodName)) hown (mvT hZ (hw _ (List.mem_of_getElem? (i := 6) rfl))) (mvT hZ (hw _ (List.mem_of_getElem? (i := 7) rfl))) (mvT hZ (hw _ (List.mem_of_getElem? (i := 2) rfl))) (mvT hZ (hw _ (List.mem_of_getElem? (i := 8) rfl))) (by decide) (backOf (W := 0) (rm_d l Z a0 hw [] c2  h17 n0 Z17 ) hZ (hw _ (List.mem_of_getElem? (i := 8) rfl)) (hw _ (List.mem_of_getElem? (i := 2) rfl)) (by decide) (by decide)) (g := (mkF m 137 #[.val (.long q0), .second, .val (.int p1), .val (.int c0), .val (.int c1), .val (.int c2), .val (.int c3), .val (.int c4), .val (.int c5), .val (.int c6), .val (.int c7), .val (.ref b9), .unset, .unset, .unset] [(.int c2)])) rfl (by rw [hml]; rfl) (argsL := [(.int c2)]) (rest := []) (lenOf pd_2 rfl) rfl (by show 2 * 0 + _ ≤ _; exact Nat.le_of_eq rfl) (hb hby at_137) (fun _ _ => ⟨rfl, eT28t, (by decide : 1 + 0 ≤ _), (by decide : 8 + 0 ≤ _)⟩)
      dsimp only [Pt.U, Pt.locs, Pt.cells, Pt.slots] at X29 l29 y29 z29 st29 hQ29
      replace y29 : k29 = 1 := y29
      replace z29 : n29 = 8 := z29
      subst l29 y29 z29
      refine own_go st29 ?_
      obtain ⟨zz29, rfl, hzz29, N29q, eh29⟩ := hQ29
      have N29 := Fr.app N28t N29q
      show own_Ends p e below T29 (mkF m 140 #[.val (.long q0), .second, .val (.int p1), .val (.int c0), .val (.int c1), .val (.int c2), .val (.int c3), .val (.int c4), .val (.int c5), .val (.int c6), .val (.int c7), .val (.ref b9), .unset, .unset, .unset] [(.int zz29)]) _
      suffices Jt29 : ∀ (T_ : State) (L_ : List Loc), Stand p l e room_1 s m #[(.long q0), (.int p1)] below meth c T_ L_ 1 8 → T_.heap = h17 → Fr n0 L_ → own_Ends p e below T_ (mkF m 140 #[.val (.long q0), .second, .val (.int p1), .val (.int c0), .val (.int c1), .val (.int c2), .val (.int c3), .val (.int c4), .val (.int c5), .val (.int c6), .val (.int c7), .val (.ref b9), .unset, .unset, .unset] [(.int zz29)]) (fun ou U' => ∃ v L, ou = .returned v ∧ Q_rm0 Z q0 p1 h0 n0 v U'.heap L ∧ FrameEnd s ou U' L room_1.cells room_1.slots) from Jt29 _ _ X29 eh29 N29
      clear st29 X29 N29 N29q eh29
      try clear Lc29
      try clear T29
      try clear N28t
      try clear eT28t
      try clear X28t
      try clear L28t
      try clear T28t
      intro T29t L29t X29t eT29t N29t
      by_cases hc140 : zz29 = (0 : Int32)
      · refine own_go (fun _ => XS.ifYes X29t.here hx rfl (pc0 := 140) (pc' := 276) rfl (hb hby at_140) rfl ((if0 _ _).trans (teq hc140).1) (by decide) (by decide)) ?_
        show own_Ends p e below T29t (mkF m 276 #[.val (.long q0), .second, .val (.int p1), .val (.int c0), .val (.int c1), .val (.int c2), .val (.int c3), .val (.int c4), .val (.int c5), .val (.int c6), .val (.int c7), .val (.ref b9), .unset, .unset, .unset] []) _
        refine own_go (fun _ => XS.iconst X29t.here hx rfl (hb hby at_276)) ?_
        show own_Ends p e below T29t (mkF m 277 #[.val (.long q0), .second, .val (.int p1), .val (.int c0), .val (.int c1), .val (.int c2), .val (.int c3), .val (.int c4), .val (.int c5), .val (.int c6), .val (.int c7), .val (.ref b9), .unset, .unset, .unset] [(.int (0 : Int32))]) _
        refine own_go (fun _ => XS.istore X29t.here hx rfl (hb hby at_277) rfl (l' := #[.val (.long q0), .second, .val (.int p1), .val (.int c0), .val (.int c1), .val (.int c2), .val (.int c3), .val (.int c4), .val (.int c5), .val (.int c6), .val (.int c7), .val (.ref b9), .val (.int (0 : Int32)), .unset, .unset]) rfl) ?_
        show own_Ends p e below T29t (mkF m 279 #[.val (.long q0), .second, .val (.int p1), .val (.int c0), .val (.int c1), .val (.int c2), .val (.int c3), .val (.int c4), .val (.int c5), .val (.int c6), .val (.int c7), .val (.ref b9), .val (.int (0 : Int32)), .unset, .unset] []) _
        exact J279 _ _ X29t eT29t N29t _ ((own_sd1 (own_e1 hzz27 hc124)).trans ((own_sd1 (own_e1 hzz28 hc132)).trans ((own_sd0 (own_e0 hzz29 hc140)).trans (own_short _ _ (by decide)))))
      · refine own_go (fun _ => XS.ifNo X29t.here hx rfl (hb hby at_140) rfl ((if0 _ _).trans (feq hc140).1)) ?_
        show own_Ends p e below T29t (mkF m 143 #[.val (.long q0), .second, .val (.int p1), .val (.int c0), .val (.int c1), .val (.int c2), .val (.int c3), .val (.int c4), .val (.int c5), .val (.int c6), .val (.int c7), .val (.ref b9), .unset, .unset, .unset] []) _
        refine own_go (fun _ => XS.iload X29t.here hx rfl (hb hby at_143) rfl) ?_
        show own_Ends p e below T29t (mkF m 145 #[.val (.long q0), .second, .val (.int p1), .val (.int c0), .val (.int c1), .val (.int c2), .val (.int c3), .val (.int c4), .val (.int c5), .val (.int c6), .val (.int c7), .val (.ref b9), .unset, .unset, .unset] [(.int c3)]) _
        obtain ⟨_, _, ⟨T30, L30, k30, n30⟩, -, X30, ⟨Lc30, hQ30, l30, y30, z30⟩, st30⟩ := Jvm.LawKit.callS X29t hx (y := (⟨"com/example/tessera/tessera/platform/SecretCodeIsPinValuePinLaw", "d", "(B)Z"⟩ : MethodName)) hown (mvT hZ (hw _ (List.mem_of_getElem? (i := 6) rfl))) (mvT hZ (hw _ (List.mem_of_getElem? (i := 7) rfl))) (mvT hZ (hw _ (List.mem_of_getElem? (i := 2) rfl))) (mvT hZ (hw _ (List.mem_of_getElem? (i := 8) rfl))) (by decide) (backOf (W := 0) (rm_d l Z a0 hw [] c3  h17 n0 Z17 ) hZ (hw _ (List.mem_of_getElem? (i := 8) rfl)) (hw _ (List.mem_of_getElem? (i := 2) rfl)) (by decide) (by decide)) (g := (mkF m 145 #[.val (.long q0), .second, .val (.int p1), .val (.int c0), .val (.int c1), .val (.int c2), .val (.int c3), .val (.int c4), .val (.int c5), .val (.int c6), .val (.int c7), .val (.ref b9), .unset, .unset, .unset] [(.int c3)])) rfl (by rw [hml]; rfl) (argsL := [(.int c3)]) (rest := []) (lenOf pd_2 rfl) rfl (by show 2 * 0 + _ ≤ _; exact Nat.le_of_eq rfl) (hb hby at_145) (fun _ _ => ⟨rfl, eT29t, (by decide : 1 + 0 ≤ _), (by decide : 8 + 0 ≤ _)⟩)
        dsimp only [Pt.U, Pt.locs, Pt.cells, Pt.slots] at X30 l30 y30 z30 st30 hQ30
        replace y30 : k30 = 1 := y30
        replace z30 : n30 = 8 := z30
        subst l30 y30 z30
        refine own_go st30 ?_
        obtain ⟨zz30, rfl, hzz30, N30q, eh30⟩ := hQ30
        have N30 := Fr.app N29t N30q
        show own_Ends p e below T30 (mkF m 148 #[.val (.long q0), .second, .val (.int p1), .val (.int c0), .val (.int c1), .val (.int c2), .val (.int c3), .val (.int c4), .val (.int c5), .val (.int c6), .val (.int c7), .val (.ref b9), .unset, .unset, .unset] [(.int zz30)]) _
        suffices Jt30 : ∀ (T_ : State) (L_ : List Loc), Stand p l e room_1 s m #[(.long q0), (.int p1)] below meth c T_ L_ 1 8 → T_.heap = h17 → Fr n0 L_ → own_Ends p e below T_ (mkF m 148 #[.val (.long q0), .second, .val (.int p1), .val (.int c0), .val (.int c1), .val (.int c2), .val (.int c3), .val (.int c4), .val (.int c5), .val (.int c6), .val (.int c7), .val (.ref b9), .unset, .unset, .unset] [(.int zz30)]) (fun ou U' => ∃ v L, ou = .returned v ∧ Q_rm0 Z q0 p1 h0 n0 v U'.heap L ∧ FrameEnd s ou U' L room_1.cells room_1.slots) from Jt30 _ _ X30 eh30 N30
        clear st30 X30 N30 N30q eh30
        try clear Lc30
        try clear T30
        try clear N29t
        try clear eT29t
        try clear X29t
        try clear L29t
        try clear T29t
        intro T30t L30t X30t eT30t N30t
        by_cases hc148 : zz30 = (0 : Int32)
        · refine own_go (fun _ => XS.ifYes X30t.here hx rfl (pc0 := 148) (pc' := 276) rfl (hb hby at_148) rfl ((if0 _ _).trans (teq hc148).1) (by decide) (by decide)) ?_
          show own_Ends p e below T30t (mkF m 276 #[.val (.long q0), .second, .val (.int p1), .val (.int c0), .val (.int c1), .val (.int c2), .val (.int c3), .val (.int c4), .val (.int c5), .val (.int c6), .val (.int c7), .val (.ref b9), .unset, .unset, .unset] []) _
          refine own_go (fun _ => XS.iconst X30t.here hx rfl (hb hby at_276)) ?_
          show own_Ends p e below T30t (mkF m 277 #[.val (.long q0), .second, .val (.int p1), .val (.int c0), .val (.int c1), .val (.int c2), .val (.int c3), .val (.int c4), .val (.int c5), .val (.int c6), .val (.int c7), .val (.ref b9), .unset, .unset, .unset] [(.int (0 : Int32))]) _
          refine own_go (fun _ => XS.istore X30t.here hx rfl (hb hby at_277) rfl (l' := #[.val (.long q0), .second, .val (.int p1), .val (.int c0), .val (.int c1), .val (.int c2), .val (.int c3), .val (.int c4), .val (.int c5), .val (.int c6), .val (.int c7), .val (.ref b9), .val (.int (0 : Int32)), .unset, .unset]) rfl) ?_
          show own_Ends p e below T30t (mkF m 279 #[.val (.long q0), .second, .val (.int p1), .val (.int c0), .val (.int c1), .val (.int c2), .val (.int c3), .val (.int c4), .val (.int c5), .val (.int c6), .val (.int c7), .val (.ref b9), .val (.int (0 : Int32)), .unset, .unset] []) _
          exact J279 _ _ X30t eT30t N30t _ ((own_sd1 (own_e1 hzz27 hc124)).trans ((own_sd1 (own_e1 hzz28 hc132)).trans ((own_sd1 (own_e1 hzz29 hc140)).trans ((own_sd0 (own_e0 hzz30 hc148)).trans (own_short _ _ (by decide))))))
        · refine own_go (fun _ => XS.ifNo X30t.here hx rfl (hb hby at_148) rfl ((if0 _ _).trans (feq hc148).1)) ?_
          show own_Ends p e below T30t (mkF m 151 #[.val (.long q0), .second, .val (.int p1), .val (.int c0), .val (.int c1), .val (.int c2), .val (.int c3), .val (.int c4), .val (.int c5), .val (.int c6), .val (.int c7), .val (.ref b9), .unset, .unset, .unset] []) _
          refine own_go (fun _ => XS.iload X30t.here hx rfl (hb hby at_151) rfl) ?_
          show own_Ends p e below T30t (mkF m 153 #[.val (.long q0), .second, .val (.int p1), .val (.int c0), .val (.int c1), .val (.int c2), .val (.int c3), .val (.int c4), .val (.int c5), .val (.int c6), .val (.int c7), .val (.ref b9), .unset, .unset, .unset] [(.int c4)]) _
          obtain ⟨_, _, ⟨T31, L31, k31, n31⟩, -, X31, ⟨Lc31, hQ31, l31, y31, z31⟩, st31⟩ := Jvm.LawKit.callS X30t hx (y := (⟨"com/example/tessera/tessera/platform/SecretCodeIsPinValuePinLaw", "d", "(B)Z"⟩ : MethodName)) hown (mvT hZ (hw _ (List.mem_of_getElem? (i := 6) rfl))) (mvT hZ (hw _ (List.mem_of_getElem? (i := 7) rfl))) (mvT hZ (hw _ (List.mem_of_getElem? (i := 2) rfl))) (mvT hZ (hw _ (List.mem_of_getElem? (i := 8) rfl))) (by decide) (backOf (W := 0) (rm_d l Z a0 hw [] c4  h17 n0 Z17 ) hZ (hw _ (List.mem_of_getElem? (i := 8) rfl)) (hw _ (List.mem_of_getElem? (i := 2) rfl)) (by decide) (by decide)) (g := (mkF m 153 #[.val (.long q0), .second, .val (.int p1), .val (.int c0), .val (.int c1), .val (.int c2), .val (.int c3), .val (.int c4), .val (.int c5), .val (.int c6), .val (.int c7), .val (.ref b9), .unset, .unset, .unset] [(.int c4)])) rfl (by rw [hml]; rfl) (argsL := [(.int c4)]) (rest := []) (lenOf pd_2 rfl) rfl (by show 2 * 0 + _ ≤ _; exact Nat.le_of_eq rfl) (hb hby at_153) (fun _ _ => ⟨rfl, eT30t, (by decide : 1 + 0 ≤ _), (by decide : 8 + 0 ≤ _)⟩)
          dsimp only [Pt.U, Pt.locs, Pt.cells, Pt.slots] at X31 l31 y31 z31 st31 hQ31
          replace y31 : k31 = 1 := y31
          replace z31 : n31 = 8 := z31
          subst l31 y31 z31
          refine own_go st31 ?_
          obtain ⟨zz31, rfl, hzz31, N31q, eh31⟩ := hQ31
          have N31 := Fr.app N30t N31q
          show own_Ends p e below T31 (mkF m 156 #[.val (.long q0), .second, .val (.int p1), .val (.int c0), .val (.int c1), .val (.int c2), .val (.int c3), .val (.int c4), .val (.int c5), .val (.int c6), .val (.int c7), .val (.ref b9), .unset, .unset, .unset] [(.int zz31)]) _
          suffices Jt31 : ∀ (T_ : State) (L_ : List Loc), Stand p l e room_1 s m #[(.long q0), (.int p1)] below meth c T_ L_ 1 8 → T_.heap = h17 → Fr n0 L_ → own_Ends p e below T_ (mkF m 156 #[.val (.long q0), .second, .val (.int p1), .val (.int c0), .val (.int c1), .val (.int c2), .val (.int c3), .val (.int c4), .val (.int c5), .val (.int c6), .val (.int c7), .val (.ref b9), .unset, .unset, .unset] [(.int zz31)]) (fun ou U' => ∃ v L, ou = .returned v ∧ Q_rm0 Z q0 p1 h0 n0 v U'.heap L ∧ FrameEnd s ou U' L room_1.cells room_1.slots) from Jt31 _ _ X31 eh31 N31
          clear st31 X31 N31 N31q eh31
          try clear Lc31
          try clear T31
          try clear N30t
          try clear eT30t
          try clear X30t
          try clear L30t
          try clear T30t
          intro T31t L31t X31t eT31t N31t
          by_cases hc156 : zz31 = (0 : Int32)
          · refine own_go (fun _ => XS.ifYes X31t.here hx rfl (pc0 := 156) (pc' := 240) rfl (hb hby at_156) rfl ((if0 _ _).trans (teq hc156).1) (by decide) (by decide)) ?_
            show own_Ends p e below T31t (mkF m 240 #[.val (.long q0), .second, .val (.int p1), .val (.int c0), .val (.int c1), .val (.int c2), .val (.int c3), .val (.int c4), .val (.int c5), .val (.int c6), .val (.int c7), .val (.ref b9), .unset, .unset, .unset] []) _
            refine own_go (fun _ => XS.iload X31t.here hx rfl (hb hby at_240) rfl) ?_
            show own_Ends p e below T31t (mkF m 242 #[.val (.long q0), .second, .val (.int p1), .val (.int c0), .val (.int c1), .val (.int c2), .val (.int c3), .val (.int c4), .val (.int c5), .val (.int c6), .val (.int c7), .val (.ref b9), .unset, .unset, .unset] [(.int c4)]) _
            obtain ⟨_, _, ⟨T32, L32, k32, n32⟩, -, X32, ⟨Lc32, hQ32, l32, y32, z32⟩, st32⟩ := Jvm.LawKit.callS X31t hx (y := (⟨"com/example/tessera/tessera/platform/SecretCodeIsPinValuePinLaw", "p", "(B)Z"⟩ : MethodName)) hown (mvT hZ (hw _ (List.mem_of_getElem? (i := 13) rfl))) (mvT hZ (hw _ (List.mem_of_getElem? (i := 14) rfl))) (mvT hZ (hw _ (List.mem_of_getElem? (i := 2) rfl))) (mvT hZ (hw _ (List.mem_of_getElem? (i := 15) rfl))) (by decide) (backOf (W := 0) (rm_p l Z a0 hw [] c4  h17 n0 Z17 ) hZ (hw _ (List.mem_of_getElem? (i := 15) rfl)) (hw _ (List.mem_of_getElem? (i := 2) rfl)) (by decide) (by decide)) (g := (mkF m 242 #[.val (.long q0), .second, .val (.int p1), .val (.int c0), .val (.int c1), .val (.int c2), .val (.int c3), .val (.int c4), .val (.int c5), .val (.int c6), .val (.int c7), .val (.ref b9), .unset, .unset, .unset] [(.int c4)])) rfl (by rw [hml]; rfl) (argsL := [(.int c4)]) (rest := []) (lenOf pd_2 rfl) rfl (by show 2 * 0 + _ ≤ _; exact Nat.le_of_eq rfl) (hb hby at_242) (fun _ _ => ⟨rfl, eT31t, (by decide : 1 + 0 ≤ _), (by decide : 8 + 0 ≤ _)⟩)
            dsimp only [Pt.U, Pt.locs, Pt.cells, Pt.slots] at X32 l32 y32 z32 st32 hQ32
            replace y32 : k32 = 1 := y32
            replace z32 : n32 = 8 := z32
            subst l32 y32 z32
            refine own_go st32 ?_
            obtain ⟨zz32, rfl, hzz32, N32q, eh32⟩ := hQ32
            have N32 := Fr.app N31t N32q
            show own_Ends p e below T32 (mkF m 245 #[.val (.long q0), .second, .val (.int p1), .val (.int c0), .val (.int c1), .val (.int c2), .val (.int c3), .val (.int c4), .val (.int c5), .val (.int c6), .val (.int c7), .val (.ref b9), .unset, .unset, .unset] [(.int zz32)]) _
            suffices Jt32 : ∀ (T_ : State) (L_ : List Loc), Stand p l e room_1 s m #[(.long q0), (.int p1)] below meth c T_ L_ 1 8 → T_.heap = h17 → Fr n0 L_ → own_Ends p e below T_ (mkF m 245 #[.val (.long q0), .second, .val (.int p1), .val (.int c0), .val (.int c1), .val (.int c2), .val (.int c3), .val (.int c4), .val (.int c5), .val (.int c6), .val (.int c7), .val (.ref b9), .unset, .unset, .unset] [(.int zz32)]) (fun ou U' => ∃ v L, ou = .returned v ∧ Q_rm0 Z q0 p1 h0 n0 v U'.heap L ∧ FrameEnd s ou U' L room_1.cells room_1.slots) from Jt32 _ _ X32 eh32 N32
            clear st32 X32 N32 N32q eh32
            try clear Lc32
            try clear T32
            try clear N31t
            try clear eT31t
            try clear X31t
            try clear L31t
            try clear T31t
            intro T32t L32t X32t eT32t N32t
            by_cases hc245 : zz32 = (0 : Int32)
            · refine own_go (fun _ => XS.ifYes X32t.here hx rfl (pc0 := 245) (pc' := 276) rfl (hb hby at_245) rfl ((if0 _ _).trans (teq hc245).1) (by decide) (by decide)) ?_
              show own_Ends p e below T32t (mkF m 276 #[.val (.long q0), .second, .val (.int p1), .val (.int c0), .val (.int c1), .val (.int c2), .val (.int c3), .val (.int c4), .val (.int c5), .val (.int c6), .val (.int c7), .val (.ref b9), .unset, .unset, .unset] []) _
              refine own_go (fun _ => XS.iconst X32t.here hx rfl (hb hby at_276)) ?_
              show own_Ends p e below T32t (mkF m 277 #[.val (.long q0), .second, .val (.int p1), .val (.int c0), .val (.int c1), .val (.int c2), .val (.int c3), .val (.int c4), .val (.int c5), .val (.int c6), .val (.int c7), .val (.ref b9), .unset, .unset, .unset] [(.int (0 : Int32))]) _
              refine own_go (fun _ => XS.istore X32t.here hx rfl (hb hby at_277) rfl (l' := #[.val (.long q0), .second, .val (.int p1), .val (.int c0), .val (.int c1), .val (.int c2), .val (.int c3), .val (.int c4), .val (.int c5), .val (.int c6), .val (.int c7), .val (.ref b9), .val (.int (0 : Int32)), .unset, .unset]) rfl) ?_
              show own_Ends p e below T32t (mkF m 279 #[.val (.long q0), .second, .val (.int p1), .val (.int c0), .val (.int c1), .val (.int c2), .val (.int c3), .val (.int c4), .val (.int c5), .val (.int c6), .val (.int c7), .val (.ref b9), .val (.int (0 : Int32)), .unset, .unset] []) _
              exact J279 _ _ X32t eT32t N32t _ ((own_sd1 (own_e1 hzz27 hc124)).trans ((own_sd1 (own_e1 hzz28 hc132)).trans ((own_sd1 (own_e1 hzz29 hc140)).trans ((own_sd1 (own_e1 hzz30 hc148)).trans ((own_sd0 (own_e0 hzz31 hc156)).trans (own_tp0 (own_e0 hzz32 hc245)))))))
            · refine own_go (fun _ => XS.ifNo X32t.here hx rfl (hb hby at_245) rfl ((if0 _ _).trans (feq hc245).1)) ?_
              show own_Ends p e below T32t (mkF m 248 #[.val (.long q0), .second, .val (.int p1), .val (.int c0), .val (.int c1), .val (.int c2), .val (.int c3), .val (.int c4), .val (.int c5), .val (.int c6), .val (.int c7), .val (.ref b9), .unset, .unset, .unset] []) _
              refine own_go (fun _ => XS.iload X32t.here hx rfl (hb hby at_248) rfl) ?_
              show own_Ends p e below T32t (mkF m 250 #[.val (.long q0), .second, .val (.int p1), .val (.int c0), .val (.int c1), .val (.int c2), .val (.int c3), .val (.int c4), .val (.int c5), .val (.int c6), .val (.int c7), .val (.ref b9), .unset, .unset, .unset] [(.int c5)]) _
              obtain ⟨_, _, ⟨T33, L33, k33, n33⟩, -, X33, ⟨Lc33, hQ33, l33, y33, z33⟩, st33⟩ := Jvm.LawKit.callS X32t hx (y := (⟨"com/example/tessera/tessera/platform/SecretCodeIsPinValuePinLaw", "p", "(B)Z"⟩ : MethodName)) hown (mvT hZ (hw _ (List.mem_of_getElem? (i := 13) rfl))) (mvT hZ (hw _ (List.mem_of_getElem? (i := 14) rfl))) (mvT hZ (hw _ (List.mem_of_getElem? (i := 2) rfl))) (mvT hZ (hw _ (List.mem_of_getElem? (i := 15) rfl))) (by decide) (backOf (W := 0) (rm_p l Z a0 hw [] c5  h17 n0 Z17 ) hZ (hw _ (List.mem_of_getElem? (i := 15) rfl)) (hw _ (List.mem_of_getElem? (i := 2) rfl)) (by decide) (by decide)) (g := (mkF m 250 #[.val (.long q0), .second, .val (.int p1), .val (.int c0), .val (.int c1), .val (.int c2), .val (.int c3), .val (.int c4), .val (.int c5), .val (.int c6), .val (.int c7), .val (.ref b9), .unset, .unset, .unset] [(.int c5)])) rfl (by rw [hml]; rfl) (argsL := [(.int c5)]) (rest := []) (lenOf pd_2 rfl) rfl (by show 2 * 0 + _ ≤ _; exact Nat.le_of_eq rfl) (hb hby at_250) (fun _ _ => ⟨rfl, eT32t, (by decide : 1 + 0 ≤ _), (by decide : 8 + 0 ≤ _)⟩)
              dsimp only [Pt.U, Pt.locs, Pt.cells, Pt.slots] at X33 l33 y33 z33 st33 hQ33
              replace y33 : k33 = 1 := y33
              replace z33 : n33 = 8 := z33
              subst l33 y33 z33
              refine own_go st33 ?_
              obtain ⟨zz33, rfl, hzz33, N33q, eh33⟩ := hQ33
              have N33 := Fr.app N32t N33q
              show own_Ends p e below T33 (mkF m 253 #[.val (.long q0), .second, .val (.int p1), .val (.int c0), .val (.int c1), .val (.int c2), .val (.int c3), .val (.int c4), .val (.int c5), .val (.int c6), .val (.int c7), .val (.ref b9), .unset, .unset, .unset] [(.int zz33)]) _
              suffices Jt33 : ∀ (T_ : State) (L_ : List Loc), Stand p l e room_1 s m #[(.long q0), (.int p1)] below meth c T_ L_ 1 8 → T_.heap = h17 → Fr n0 L_ → own_Ends p e below T_ (mkF m 253 #[.val (.long q0), .second, .val (.int p1), .val (.int c0), .val (.int c1), .val (.int c2), .val (.int c3), .val (.int c4), .val (.int c5), .val (.int c6), .val (.int c7), .val (.ref b9), .unset, .unset, .unset] [(.int zz33)]) (fun ou U' => ∃ v L, ou = .returned v ∧ Q_rm0 Z q0 p1 h0 n0 v U'.heap L ∧ FrameEnd s ou U' L room_1.cells room_1.slots) from Jt33 _ _ X33 eh33 N33
              clear st33 X33 N33 N33q eh33
              try clear Lc33
              try clear T33
              try clear N32t
              try clear eT32t
              try clear X32t
              try clear L32t
              try clear T32t
              intro T33t L33t X33t eT33t N33t
              by_cases hc253 : zz33 = (0 : Int32)
              · refine own_go (fun _ => XS.ifYes X33t.here hx rfl (pc0 := 253) (pc' := 276) rfl (hb hby at_253) rfl ((if0 _ _).trans (teq hc253).1) (by decide) (by decide)) ?_
                show own_Ends p e below T33t (mkF m 276 #[.val (.long q0), .second, .val (.int p1), .val (.int c0), .val (.int c1), .val (.int c2), .val (.int c3), .val (.int c4), .val (.int c5), .val (.int c6), .val (.int c7), .val (.ref b9), .unset, .unset, .unset] []) _
                refine own_go (fun _ => XS.iconst X33t.here hx rfl (hb hby at_276)) ?_
                show own_Ends p e below T33t (mkF m 277 #[.val (.long q0), .second, .val (.int p1), .val (.int c0), .val (.int c1), .val (.int c2), .val (.int c3), .val (.int c4), .val (.int c5), .val (.int c6), .val (.int c7), .val (.ref b9), .unset, .unset, .unset] [(.int (0 : Int32))]) _
                refine own_go (fun _ => XS.istore X33t.here hx rfl (hb hby at_277) rfl (l' := #[.val (.long q0), .second, .val (.int p1), .val (.int c0), .val (.int c1), .val (.int c2), .val (.int c3), .val (.int c4), .val (.int c5), .val (.int c6), .val (.int c7), .val (.ref b9), .val (.int (0 : Int32)), .unset, .unset]) rfl) ?_
                show own_Ends p e below T33t (mkF m 279 #[.val (.long q0), .second, .val (.int p1), .val (.int c0), .val (.int c1), .val (.int c2), .val (.int c3), .val (.int c4), .val (.int c5), .val (.int c6), .val (.int c7), .val (.ref b9), .val (.int (0 : Int32)), .unset, .unset] []) _
                exact J279 _ _ X33t eT33t N33t _ ((own_sd1 (own_e1 hzz27 hc124)).trans ((own_sd1 (own_e1 hzz28 hc132)).trans ((own_sd1 (own_e1 hzz29 hc140)).trans ((own_sd1 (own_e1 hzz30 hc148)).trans ((own_sd0 (own_e0 hzz31 hc156)).trans ((own_tp1 (own_e1 hzz32 hc245)).trans (own_tp0 (own_e0 hzz33 hc253))))))))
              · refine own_go (fun _ => XS.ifNo X33t.here hx rfl (hb hby at_253) rfl ((if0 _ _).trans (feq hc253).1)) ?_
                show own_Ends p e below T33t (mkF m 256 #[.val (.long q0), .second, .val (.int p1), .val (.int c0), .val (.int c1), .val (.int c2), .val (.int c3), .val (.int c4), .val (.int c5), .val (.int c6), .val (.int c7), .val (.ref b9), .unset, .unset, .unset] []) _
                refine own_go (fun _ => XS.iload X33t.here hx rfl (hb hby at_256) rfl) ?_
                show own_Ends p e below T33t (mkF m 258 #[.val (.long q0), .second, .val (.int p1), .val (.int c0), .val (.int c1), .val (.int c2), .val (.int c3), .val (.int c4), .val (.int c5), .val (.int c6), .val (.int c7), .val (.ref b9), .unset, .unset, .unset] [(.int c6)]) _
                obtain ⟨_, _, ⟨T34, L34, k34, n34⟩, -, X34, ⟨Lc34, hQ34, l34, y34, z34⟩, st34⟩ := Jvm.LawKit.callS X33t hx (y := (⟨"com/example/tessera/tessera/platform/SecretCodeIsPinValuePinLaw", "p", "(B)Z"⟩ : MethodName)) hown (mvT hZ (hw _ (List.mem_of_getElem? (i := 13) rfl))) (mvT hZ (hw _ (List.mem_of_getElem? (i := 14) rfl))) (mvT hZ (hw _ (List.mem_of_getElem? (i := 2) rfl))) (mvT hZ (hw _ (List.mem_of_getElem? (i := 15) rfl))) (by decide) (backOf (W := 0) (rm_p l Z a0 hw [] c6  h17 n0 Z17 ) hZ (hw _ (List.mem_of_getElem? (i := 15) rfl)) (hw _ (List.mem_of_getElem? (i := 2) rfl)) (by decide) (by decide)) (g := (mkF m 258 #[.val (.long q0), .second, .val (.int p1), .val (.int c0), .val (.int c1), .val (.int c2), .val (.int c3), .val (.int c4), .val (.int c5), .val (.int c6), .val (.int c7), .val (.ref b9), .unset, .unset, .unset] [(.int c6)])) rfl (by rw [hml]; rfl) (argsL := [(.int c6)]) (rest := []) (lenOf pd_2 rfl) rfl (by show 2 * 0 + _ ≤ _; exact Nat.le_of_eq rfl) (hb hby at_258) (fun _ _ => ⟨rfl, eT33t, (by decide : 1 + 0 ≤ _), (by decide : 8 + 0 ≤ _)⟩)
                dsimp only [Pt.U, Pt.locs, Pt.cells, Pt.slots] at X34 l34 y34 z34 st34 hQ34
                replace y34 : k34 = 1 := y34
                replace z34 : n34 = 8 := z34
                subst l34 y34 z34
                refine own_go st34 ?_
                obtain ⟨zz34, rfl, hzz34, N34q, eh34⟩ := hQ34
                have N34 := Fr.app N33t N34q
                show own_Ends p e below T34 (mkF m 261 #[.val (.long q0), .second, .val (.int p1), .val (.int c0), .val (.int c1), .val (.int c2), .val (.int c3), .val (.int c4), .val (.int c5), .val (.int c6), .val (.int c7), .val (.ref b9), .unset, .unset, .unset] [(.int zz34)]) _
                suffices Jt34 : ∀ (T_ : State) (L_ : List Loc), Stand p l e room_1 s m #[(.long q0), (.int p1)] below meth c T_ L_ 1 8 → T_.heap = h17 → Fr n0 L_ → own_Ends p e below T_ (mkF m 261 #[.val (.long q0), .second, .val (.int p1), .val (.int c0), .val (.int c1), .val (.int c2), .val (.int c3), .val (.int c4), .val (.int c5), .val (.int c6), .val (.int c7), .val (.ref b9), .unset, .unset, .unset] [(.int zz34)]) (fun ou U' => ∃ v L, ou = .returned v ∧ Q_rm0 Z q0 p1 h0 n0 v U'.heap L ∧ FrameEnd s ou U' L room_1.cells room_1.slots) from Jt34 _ _ X34 eh34 N34
                clear st34 X34 N34 N34q eh34
                try clear Lc34
                try clear T34
                try clear N33t
                try clear eT33t
                try clear X33t
                try clear L33t
                try clear T33t
                intro T34t L34t X34t eT34t N34t
                by_cases hc261 : zz34 = (0 : Int32)
                · refine own_go (fun _ => XS.ifYes X34t.here hx rfl (pc0 := 261) (pc' := 276) rfl (hb hby at_261) rfl ((if0 _ _).trans (teq hc261).1) (by decide) (by decide)) ?_
                  show own_Ends p e below T34t (mkF m 276 #[.val (.long q0), .second, .val (.int p1), .val (.int c0), .val (.int c1), .val (.int c2), .val (.int c3), .val (.int c4), .val (.int c5), .val (.int c6), .val (.int c7), .val (.ref b9), .unset, .unset, .unset] []) _
                  refine own_go (fun _ => XS.iconst X34t.here hx rfl (hb hby at_276)) ?_
                  show own_Ends p e below T34t (mkF m 277 #[.val (.long q0), .second, .val (.int p1), .val (.int c0), .val (.int c1), .val (.int c2), .val (.int c3), .val (.int c4), .val (.int c5), .val (.int c6), .val (.int c7), .val (.ref b9), .unset, .unset, .unset] [(.int (0 : Int32))]) _
                  refine own_go (fun _ => XS.istore X34t.here hx rfl (hb hby at_277) rfl (l' := #[.val (.long q0), .second, .val (.int p1), .val (.int c0), .val (.int c1), .val (.int c2), .val (.int c3), .val (.int c4), .val (.int c5), .val (.int c6), .val (.int c7), .val (.ref b9), .val (.int (0 : Int32)), .unset, .unset]) rfl) ?_
                  show own_Ends p e below T34t (mkF m 279 #[.val (.long q0), .second, .val (.int p1), .val (.int c0), .val (.int c1), .val (.int c2), .val (.int c3), .val (.int c4), .val (.int c5), .val (.int c6), .val (.int c7), .val (.ref b9), .val (.int (0 : Int32)), .unset, .unset] []) _
                  exact J279 _ _ X34t eT34t N34t _ ((own_sd1 (own_e1 hzz27 hc124)).trans ((own_sd1 (own_e1 hzz28 hc132)).trans ((own_sd1 (own_e1 hzz29 hc140)).trans ((own_sd1 (own_e1 hzz30 hc148)).trans ((own_sd0 (own_e0 hzz31 hc156)).trans ((own_tp1 (own_e1 hzz32 hc245)).trans ((own_tp1 (own_e1 hzz33 hc253)).trans (own_tp0 (own_e0 hzz34 hc261)))))))))
                · refine own_go (fun _ => XS.ifNo X34t.here hx rfl (hb hby at_261) rfl ((if0 _ _).trans (feq hc261).1)) ?_
                  show own_Ends p e below T34t (mkF m 264 #[.val (.long q0), .second, .val (.int p1), .val (.int c0), .val (.int c1), .val (.int c2), .val (.int c3), .val (.int c4), .val (.int c5), .val (.int c6), .val (.int c7), .val (.ref b9), .unset, .unset, .unset] []) _
                  refine own_go (fun _ => XS.iload X34t.here hx rfl (hb hby at_264) rfl) ?_
                  show own_Ends p e below T34t (mkF m 266 #[.val (.long q0), .second, .val (.int p1), .val (.int c0), .val (.int c1), .val (.int c2), .val (.int c3), .val (.int c4), .val (.int c5), .val (.int c6), .val (.int c7), .val (.ref b9), .unset, .unset, .unset] [(.int c7)]) _
                  obtain ⟨_, _, ⟨T35, L35, k35, n35⟩, -, X35, ⟨Lc35, hQ35, l35, y35, z35⟩, st35⟩ := Jvm.LawKit.callS X34t hx (y := (⟨"com/example/tessera/tessera/platform/SecretCodeIsPinValuePinLaw", "p", "(B)Z"⟩ : MethodName)) hown (mvT hZ (hw _ (List.mem_of_getElem? (i := 13) rfl))) (mvT hZ (hw _ (List.mem_of_getElem? (i := 14) rfl))) (mvT hZ (hw _ (List.mem_of_getElem? (i := 2) rfl))) (mvT hZ (hw _ (List.mem_of_getElem? (i := 15) rfl))) (by decide) (backOf (W := 0) (rm_p l Z a0 hw [] c7  h17 n0 Z17 ) hZ (hw _ (List.mem_of_getElem? (i := 15) rfl)) (hw _ (List.mem_of_getElem? (i := 2) rfl)) (by decide) (by decide)) (g := (mkF m 266 #[.val (.long q0), .second, .val (.int p1), .val (.int c0), .val (.int c1), .val (.int c2), .val (.int c3), .val (.int c4), .val (.int c5), .val (.int c6), .val (.int c7), .val (.ref b9), .unset, .unset, .unset] [(.int c7)])) rfl (by rw [hml]; rfl) (argsL := [(.int c7)]) (rest := []) (lenOf pd_2 rfl) rfl (by show 2 * 0 + _ ≤ _; exact Nat.le_of_eq rfl) (hb hby at_266) (fun _ _ => ⟨rfl, eT34t, (by decide : 1 + 0 ≤ _), (by decide : 8 + 0 ≤ _)⟩)
                  dsimp only [Pt.U, Pt.locs, Pt.cells, Pt.slots] at X35 l35 y35 z35 st35 hQ35
                  replace y35 : k35 = 1 := y35
                  replace z35 : n35 = 8 := z35
                  subst l35 y35 z35
                  refine own_go st35 ?_
                  obtain ⟨zz35, rfl, hzz35, N35q, eh35⟩ := hQ35
                  have N35 := Fr.app N34t N35q
                  show own_Ends p e below T35 (mkF m 269 #[.val (.long q0), .second, .val (.int p1), .val (.int c0), .val (.int c1), .val (.int c2), .val (.int c3), .val (.int c4), .val (.int c5), .val (.int c6), .val (.int c7), .val (.ref b9), .unset, .unset, .unset] [(.int zz35)]) _
                  suffices Jt35 : ∀ (T_ : State) (L_ : List Loc), Stand p l e room_1 s m #[(.long q0), (.int p1)] below meth c T_ L_ 1 8 → T_.heap = h17 → Fr n0 L_ → own_Ends p e below T_ (mkF m 269 #[.val (.long q0), .second, .val (.int p1), .val (.int c0), .val (.int c1), .val (.int c2), .val (.int c3), .val (.int c4), .val (.int c5), .val (.int c6), .val (.int c7), .val (.ref b9), .unset, .unset, .unset] [(.int zz35)]) (fun ou U' => ∃ v L, ou = .returned v ∧ Q_rm0 Z q0 p1 h0 n0 v U'.heap L ∧ FrameEnd s ou U' L room_1.cells room_1.slots) from Jt35 _ _ X35 eh35 N35
                  clear st35 X35 N35 N35q eh35
                  try clear Lc35
                  try clear T35
                  try clear N34t
                  try clear eT34t
                  try clear X34t
                  try clear L34t
                  try clear T34t
                  intro T35t L35t X35t eT35t N35t
                  by_cases hc269 : zz35 = (0 : Int32)
                  · refine own_go (fun _ => XS.ifYes X35t.here hx rfl (pc0 := 269) (pc' := 276) rfl (hb hby at_269) rfl ((if0 _ _).trans (teq hc269).1) (by decide) (by decide)) ?_
                    show own_Ends p e below T35t (mkF m 276 #[.val (.long q0), .second, .val (.int p1), .val (.int c0), .val (.int c1), .val (.int c2), .val (.int c3), .val (.int c4), .val (.int c5), .val (.int c6), .val (.int c7), .val (.ref b9), .unset, .unset, .unset] []) _
                    refine own_go (fun _ => XS.iconst X35t.here hx rfl (hb hby at_276)) ?_
                    show own_Ends p e below T35t (mkF m 277 #[.val (.long q0), .second, .val (.int p1), .val (.int c0), .val (.int c1), .val (.int c2), .val (.int c3), .val (.int c4), .val (.int c5), .val (.int c6), .val (.int c7), .val (.ref b9), .unset, .unset, .unset] [(.int (0 : Int32))]) _
                    refine own_go (fun _ => XS.istore X35t.here hx rfl (hb hby at_277) rfl (l' := #[.val (.long q0), .second, .val (.int p1), .val (.int c0), .val (.int c1), .val (.int c2), .val (.int c3), .val (.int c4), .val (.int c5), .val (.int c6), .val (.int c7), .val (.ref b9), .val (.int (0 : Int32)), .unset, .unset]) rfl) ?_
                    show own_Ends p e below T35t (mkF m 279 #[.val (.long q0), .second, .val (.int p1), .val (.int c0), .val (.int c1), .val (.int c2), .val (.int c3), .val (.int c4), .val (.int c5), .val (.int c6), .val (.int c7), .val (.ref b9), .val (.int (0 : Int32)), .unset, .unset] []) _
                    exact J279 _ _ X35t eT35t N35t _ ((own_sd1 (own_e1 hzz27 hc124)).trans ((own_sd1 (own_e1 hzz28 hc132)).trans ((own_sd1 (own_e1 hzz29 hc140)).trans ((own_sd1 (own_e1 hzz30 hc148)).trans ((own_sd0 (own_e0 hzz31 hc156)).trans ((own_tp1 (own_e1 hzz32 hc245)).trans ((own_tp1 (own_e1 hzz33 hc253)).trans ((own_tp1 (own_e1 hzz34 hc261)).trans (own_tp0 (own_e0 hzz35 hc269))))))))))
                  · refine own_go (fun _ => XS.ifNo X35t.here hx rfl (hb hby at_269) rfl ((if0 _ _).trans (feq hc269).1)) ?_
                    show own_Ends p e below T35t (mkF m 272 #[.val (.long q0), .second, .val (.int p1), .val (.int c0), .val (.int c1), .val (.int c2), .val (.int c3), .val (.int c4), .val (.int c5), .val (.int c6), .val (.int c7), .val (.ref b9), .unset, .unset, .unset] []) _
                    refine own_go (fun _ => XS.iconst X35t.here hx rfl (hb hby at_272)) ?_
                    show own_Ends p e below T35t (mkF m 273 #[.val (.long q0), .second, .val (.int p1), .val (.int c0), .val (.int c1), .val (.int c2), .val (.int c3), .val (.int c4), .val (.int c5), .val (.int c6), .val (.int c7), .val (.ref b9), .unset, .unset, .unset] [(.int (1 : Int32))]) _
                    refine own_go (fun _ => XS.goto X35t.here hx rfl (pc0 := 273) (pc' := 277) rfl (hb hby at_273) (by decide) (by decide)) ?_
                    show own_Ends p e below T35t (mkF m 277 #[.val (.long q0), .second, .val (.int p1), .val (.int c0), .val (.int c1), .val (.int c2), .val (.int c3), .val (.int c4), .val (.int c5), .val (.int c6), .val (.int c7), .val (.ref b9), .unset, .unset, .unset] [(.int (1 : Int32))]) _
                    refine own_go (fun _ => XS.istore X35t.here hx rfl (hb hby at_277) rfl (l' := #[.val (.long q0), .second, .val (.int p1), .val (.int c0), .val (.int c1), .val (.int c2), .val (.int c3), .val (.int c4), .val (.int c5), .val (.int c6), .val (.int c7), .val (.ref b9), .val (.int (1 : Int32)), .unset, .unset]) rfl) ?_
                    show own_Ends p e below T35t (mkF m 279 #[.val (.long q0), .second, .val (.int p1), .val (.int c0), .val (.int c1), .val (.int c2), .val (.int c3), .val (.int c4), .val (.int c5), .val (.int c6), .val (.int c7), .val (.ref b9), .val (.int (1 : Int32)), .unset, .unset] []) _
                    exact J279 _ _ X35t eT35t N35t _ ((own_sd1 (own_e1 hzz27 hc124)).trans ((own_sd1 (own_e1 hzz28 hc132)).trans ((own_sd1 (own_e1 hzz29 hc140)).trans ((own_sd1 (own_e1 hzz30 hc148)).trans ((own_sd0 (own_e0 hzz31 hc156)).trans ((own_tp1 (own_e1 hzz32 hc245)).trans ((own_tp1 (own_e1 hzz33 hc253)).trans ((own_tp1 (own_e1 hzz34 hc261)).trans ((own_tp1 (own_e1 hzz35 hc269)).trans (rfl))))))))))
          · refine own_go (fun _ => XS.ifNo X31t.here hx rfl (hb hby at_156) rfl ((if0 _ _).trans (feq hc156).1)) ?_
            show own_Ends p e below T31t (mkF m 159 #[.val (.long q0), .second, .val (.int p1), .val (.int c0), .val (.int c1), .val (.int c2), .val (.int c3), .val (.int c4), .val (.int c5), .val (.int c6), .val (.int c7), .val (.ref b9), .unset, .unset, .unset] []) _
            refine own_go (fun _ => XS.iload X31t.here hx rfl (hb hby at_159) rfl) ?_
            show own_Ends p e below T31t (mkF m 161 #[.val (.long q0), .second, .val (.int p1), .val (.int c0), .val (.int c1), .val (.int c2), .val (.int c3), .val (.int c4), .val (.int c5), .val (.int c6), .val (.int c7), .val (.ref b9), .unset, .unset, .unset] [(.int c5)]) _
            obtain ⟨_, _, ⟨T36, L36, k36, n36⟩, -, X36, ⟨Lc36, hQ36, l36, y36, z36⟩, st36⟩ := Jvm.LawKit.callS X31t hx (y := (⟨"com/example/tessera/tessera/platform/SecretCodeIsPinValuePinLaw", "d", "(B)Z"⟩ : MethodName)) hown (mvT hZ (hw _ (List.mem_of_getElem? (i := 6) rfl))) (mvT hZ (hw _ (List.mem_of_getElem? (i := 7) rfl))) (mvT hZ (hw _ (List.mem_of_getElem? (i := 2) rfl))) (mvT hZ (hw _ (List.mem_of_getElem? (i := 8) rfl))) (by decide) (backOf (W := 0) (rm_d l Z a0 hw [] c5  h17 n0 Z17 ) hZ (hw _ (List.mem_of_getElem? (i := 8) rfl)) (hw _ (List.mem_of_getElem? (i := 2) rfl)) (by decide) (by decide)) (g := (mkF m 161 #[.val (.long q0), .second, .val (.int p1), .val (.int c0), .val (.int c1), .val (.int c2), .val (.int c3), .val (.int c4), .val (.int c5), .val (.int c6), .val (.int c7), .val (.ref b9), .unset, .unset, .unset] [(.int c5)])) rfl (by rw [hml]; rfl) (argsL := [(.int c5)]) (rest := []) (lenOf pd_2 rfl) rfl (by show 2 * 0 + _ ≤ _; exact Nat.le_of_eq rfl) (hb hby at_161) (fun _ _ => ⟨rfl, eT31t, (by decide : 1 + 0 ≤ _), (by decide : 8 + 0 ≤ _)⟩)
            dsimp only [Pt.U, Pt.locs, Pt.cells, Pt.slots] at X36 l36 y36 z36 st36 hQ36
            replace y36 : k36 = 1 := y36
            replace z36 : n36 = 8 := z36
            subst l36 y36 z36
            refine own_go st36 ?_
            obtain ⟨zz36, rfl, hzz36, N36q, eh36⟩ := hQ36
            have N36 := Fr.app N31t N36q
            show own_Ends p e below T36 (mkF m 164 #[.val (.long q0), .second, .val (.int p1), .val (.int c0), .val (.int c1), .val (.int c2), .val (.int c3), .val (.int c4), .val (.int c5), .val (.int c6), .val (.int c7), .val (.ref b9), .unset, .unset, .unset] [(.int zz36)]) _
            suffices Jt36 : ∀ (T_ : State) (L_ : List Loc), Stand p l e room_1 s m #[(.long q0), (.int p1)] below meth c T_ L_ 1 8 → T_.heap = h17 → Fr n0 L_ → own_Ends p e below T_ (mkF m 164 #[.val (.long q0), .second, .val (.int p1), .val (.int c0), .val (.int c1), .val (.int c2), .val (.int c3), .val (.int c4), .val (.int c5), .val (.int c6), .val (.int c7), .val (.ref b9), .unset, .unset, .unset] [(.int zz36)]) (fun ou U' => ∃ v L, ou = .returned v ∧ Q_rm0 Z q0 p1 h0 n0 v U'.heap L ∧ FrameEnd s ou U' L room_1.cells room_1.slots) from Jt36 _ _ X36 eh36 N36
            clear st36 X36 N36 N36q eh36
            try clear Lc36
            try clear T36
            try clear N31t
            try clear eT31t
            try clear X31t
            try clear L31t
            try clear T31t
            intro T36t L36t X36t eT36t N36t
            by_cases hc164 : zz36 = (0 : Int32)
            · refine own_go (fun _ => XS.ifYes X36t.here hx rfl (pc0 := 164) (pc' := 213) rfl (hb hby at_164) rfl ((if0 _ _).trans (teq hc164).1) (by decide) (by decide)) ?_
              show own_Ends p e below T36t (mkF m 213 #[.val (.long q0), .second, .val (.int p1), .val (.int c0), .val (.int c1), .val (.int c2), .val (.int c3), .val (.int c4), .val (.int c5), .val (.int c6), .val (.int c7), .val (.ref b9), .unset, .unset, .unset] []) _
              refine own_go (fun _ => XS.iload X36t.here hx rfl (hb hby at_213) rfl) ?_
              show own_Ends p e below T36t (mkF m 215 #[.val (.long q0), .second, .val (.int p1), .val (.int c0), .val (.int c1), .val (.int c2), .val (.int c3), .val (.int c4), .val (.int c5), .val (.int c6), .val (.int c7), .val (.ref b9), .unset, .unset, .unset] [(.int c5)]) _
              obtain ⟨_, _, ⟨T37, L37, k37, n37⟩, -, X37, ⟨Lc37, hQ37, l37, y37, z37⟩, st37⟩ := Jvm.LawKit.callS X36t hx (y := (⟨"com/example/tessera/tessera/platform/SecretCodeIsPinValuePinLaw", "p", "(B)Z"⟩ : MethodName)) hown (mvT hZ (hw _ (List.mem_of_getElem? (i := 13) rfl))) (mvT hZ (hw _ (List.mem_of_getElem? (i := 14) rfl))) (mvT hZ (hw _ (List.mem_of_getElem? (i := 2) rfl))) (mvT hZ (hw _ (List.mem_of_getElem? (i := 15) rfl))) (by decide) (backOf (W := 0) (rm_p l Z a0 hw [] c5  h17 n0 Z17 ) hZ (hw _ (List.mem_of_getElem? (i := 15) rfl)) (hw _ (List.mem_of_getElem? (i := 2) rfl)) (by decide) (by decide)) (g := (mkF m 215 #[.val (.long q0), .second, .val (.int p1), .val (.int c0), .val (.int c1), .val (.int c2), .val (.int c3), .val (.int c4), .val (.int c5), .val (.int c6), .val (.int c7), .val (.ref b9), .unset, .unset, .unset] [(.int c5)])) rfl (by rw [hml]; rfl) (argsL := [(.int c5)]) (rest := []) (lenOf pd_2 rfl) rfl (by show 2 * 0 + _ ≤ _; exact Nat.le_of_eq rfl) (hb hby at_215) (fun _ _ => ⟨rfl, eT36t, (by decide : 1 + 0 ≤ _), (by decide : 8 + 0 ≤ _)⟩)
              dsimp only [Pt.U, Pt.locs, Pt.cells, Pt.slots] at X37 l37 y37 z37 st37 hQ37
              replace y37 : k37 = 1 := y37
              replace z37 : n37 = 8 := z37
              subst l37 y37 z37
              refine own_go st37 ?_
              obtain ⟨zz37, rfl, hzz37, N37q, eh37⟩ := hQ37
              have N37 := Fr.app N36t N37q
              show own_Ends p e below T37 (mkF m 218 #[.val (.long q0), .second, .val (.int p1), .val (.int c0), .val (.int c1), .val (.int c2), .val (.int c3), .val (.int c4), .val (.int c5), .val (.int c6), .val (.int c7), .val (.ref b9), .unset, .unset, .unset] [(.int zz37)]) _
              suffices Jt37 : ∀ (T_ : State) (L_ : List Loc), Stand p l e room_1 s m #[(.long q0), (.int p1)] below meth c T_ L_ 1 8 → T_.heap = h17 → Fr n0 L_ → own_Ends p e below T_ (mkF m 218 #[.val (.long q0), .second, .val (.int p1), .val (.int c0), .val (.int c1), .val (.int c2), .val (.int c3), .val (.int c4), .val (.int c5), .val (.int c6), .val (.int c7), .val (.ref b9), .unset, .unset, .unset] [(.int zz37)]) (fun ou U' => ∃ v L, ou = .returned v ∧ Q_rm0 Z q0 p1 h0 n0 v U'.heap L ∧ FrameEnd s ou U' L room_1.cells room_1.slots) from Jt37 _ _ X37 eh37 N37
              clear st37 X37 N37 N37q eh37
              try clear Lc37
              try clear T37
              try clear N36t
              try clear eT36t
              try clear X36t
              try clear L36t
              try clear T36t
              intro T37t L37t X37t eT37t N37t
              by_cases hc218 : zz37 = (0 : Int32)
              · refine own_go (fun _ => XS.ifYes X37t.here hx rfl (pc0 := 218) (pc' := 276) rfl (hb hby at_218) rfl ((if0 _ _).trans (teq hc218).1) (by decide) (by decide)) ?_
                show own_Ends p e below T37t (mkF m 276 #[.val (.long q0), .second, .val (.int p1), .val (.int c0), .val (.int c1), .val (.int c2), .val (.int c3), .val (.int c4), .val (.int c5), .val (.int c6), .val (.int c7), .val (.ref b9), .unset, .unset, .unset] []) _
                refine own_go (fun _ => XS.iconst X37t.here hx rfl (hb hby at_276)) ?_
                show own_Ends p e below T37t (mkF m 277 #[.val (.long q0), .second, .val (.int p1), .val (.int c0), .val (.int c1), .val (.int c2), .val (.int c3), .val (.int c4), .val (.int c5), .val (.int c6), .val (.int c7), .val (.ref b9), .unset, .unset, .unset] [(.int (0 : Int32))]) _
                refine own_go (fun _ => XS.istore X37t.here hx rfl (hb hby at_277) rfl (l' := #[.val (.long q0), .second, .val (.int p1), .val (.int c0), .val (.int c1), .val (.int c2), .val (.int c3), .val (.int c4), .val (.int c5), .val (.int c6), .val (.int c7), .val (.ref b9), .val (.int (0 : Int32)), .unset, .unset]) rfl) ?_
                show own_Ends p e below T37t (mkF m 279 #[.val (.long q0), .second, .val (.int p1), .val (.int c0), .val (.int c1), .val (.int c2), .val (.int c3), .val (.int c4), .val (.int c5), .val (.int c6), .val (.int c7), .val (.ref b9), .val (.int (0 : Int32)), .unset, .unset] []) _
                exact J279 _ _ X37t eT37t N37t _ ((own_sd1 (own_e1 hzz27 hc124)).trans ((own_sd1 (own_e1 hzz28 hc132)).trans ((own_sd1 (own_e1 hzz29 hc140)).trans ((own_sd1 (own_e1 hzz30 hc148)).trans ((own_sd1 (own_e1 hzz31 hc156)).trans ((own_sd0 (own_e0 hzz36 hc164)).trans (own_tp0 (own_e0 hzz37 hc218))))))))
              · refine own_go (fun _ => XS.ifNo X37t.here hx rfl (hb hby at_218) rfl ((if0 _ _).trans (feq hc218).1)) ?_
                show own_Ends p e below T37t (mkF m 221 #[.val (.long q0), .second, .val (.int p1), .val (.int c0), .val (.int c1), .val (.int c2), .val (.int c3), .val (.int c4), .val (.int c5), .val (.int c6), .val (.int c7), .val (.ref b9), .unset, .unset, .unset] []) _
                refine own_go (fun _ => XS.iload X37t.here hx rfl (hb hby at_221) rfl) ?_
                show own_Ends p e below T37t (mkF m 223 #[.val (.long q0), .second, .val (.int p1), .val (.int c0), .val (.int c1), .val (.int c2), .val (.int c3), .val (.int c4), .val (.int c5), .val (.int c6), .val (.int c7), .val (.ref b9), .unset, .unset, .unset] [(.int c6)]) _
                obtain ⟨_, _, ⟨T38, L38, k38, n38⟩, -, X38, ⟨Lc38, hQ38, l38, y38, z38⟩, st38⟩ := Jvm.LawKit.callS X37t hx (y := (⟨"com/example/tessera/tessera/platform/SecretCodeIsPinValuePinLaw", "p", "(B)Z"⟩ : MethodName)) hown (mvT hZ (hw _ (List.mem_of_getElem? (i := 13) rfl))) (mvT hZ (hw _ (List.mem_of_getElem? (i := 14) rfl))) (mvT hZ (hw _ (List.mem_of_getElem? (i := 2) rfl))) (mvT hZ (hw _ (List.mem_of_getElem? (i := 15) rfl))) (by decide) (backOf (W := 0) (rm_p l Z a0 hw [] c6  h17 n0 Z17 ) hZ (hw _ (List.mem_of_getElem? (i := 15) rfl)) (hw _ (List.mem_of_getElem? (i := 2) rfl)) (by decide) (by decide)) (g := (mkF m 223 #[.val (.long q0), .second, .val (.int p1), .val (.int c0), .val (.int c1), .val (.int c2), .val (.int c3), .val (.int c4), .val (.int c5), .val (.int c6), .val (.int c7), .val (.ref b9), .unset, .unset, .unset] [(.int c6)])) rfl (by rw [hml]; rfl) (argsL := [(.int c6)]) (rest := []) (lenOf pd_2 rfl) rfl (by show 2 * 0 + _ ≤ _; exact Nat.le_of_eq rfl) (hb hby at_223) (fun _ _ => ⟨rfl, eT37t, (by decide : 1 + 0 ≤ _), (by decide : 8 + 0 ≤ _)⟩)
                dsimp only [Pt.U, Pt.locs, Pt.cells, Pt.slots] at X38 l38 y38 z38 st38 hQ38
                replace y38 : k38 = 1 := y38
                replace z38 : n38 = 8 := z38
                subst l38 y38 z38
                refine own_go st38 ?_
                obtain ⟨zz38, rfl, hzz38, N38q, eh38⟩ := hQ38
                have N38 := Fr.app N37t N38q
                show own_Ends p e below T38 (mkF m 226 #[.val (.long q0), .second, .val (.int p1), .val (.int c0), .val (.int c1), .val (.int c2), .val (.int c3), .val (.int c4), .val (.int c5), .val (.int c6), .val (.int c7), .val (.ref b9), .unset, .unset, .unset] [(.int zz38)]) _
                suffices Jt38 : ∀ (T_ : State) (L_ : List Loc), Stand p l e room_1 s m #[(.long q0), (.int p1)] below meth c T_ L_ 1 8 → T_.heap = h17 → Fr n0 L_ → own_Ends p e below T_ (mkF m 226 #[.val (.long q0), .second, .val (.int p1), .val (.int c0), .val (.int c1), .val (.int c2), .val (.int c3), .val (.int c4), .val (.int c5), .val (.int c6), .val (.int c7), .val (.ref b9), .unset, .unset, .unset] [(.int zz38)]) (fun ou U' => ∃ v L, ou = .returned v ∧ Q_rm0 Z q0 p1 h0 n0 v U'.heap L ∧ FrameEnd s ou U' L room_1.cells room_1.slots) from Jt38 _ _ X38 eh38 N38
                clear st38 X38 N38 N38q eh38
                try clear Lc38
                try clear T38
                try clear N37t
                try clear eT37t
                try clear X37t
                try clear L37t
                try clear T37t
                intro T38t L38t X38t eT38t N38t
                by_cases hc226 : zz38 = (0 : Int32)
                · refine own_go (fun _ => XS.ifYes X38t.here hx rfl (pc0 := 226) (pc' := 276) rfl (hb hby at_226) rfl ((if0 _ _).trans (teq hc226).1) (by decide) (by decide)) ?_
                  show own_Ends p e below T38t (mkF m 276 #[.val (.long q0), .second, .val (.int p1), .val (.int c0), .val (.int c1), .val (.int c2), .val (.int c3), .val (.int c4), .val (.int c5), .val (.int c6), .val (.int c7), .val (.ref b9), .unset, .unset, .unset] []) _
                  refine own_go (fun _ => XS.iconst X38t.here hx rfl (hb hby at_276)) ?_
                  show own_Ends p e below T38t (mkF m 277 #[.val (.long q0), .second, .val (.int p1), .val (.int c0), .val (.int c1), .val (.int c2), .val (.int c3), .val (.int c4), .val (.int c5), .val (.int c6), .val (.int c7), .val (.ref b9), .unset, .unset, .unset] [(.int (0 : Int32))]) _
                  refine own_go (fun _ => XS.istore X38t.here hx rfl (hb hby at_277) rfl (l' := #[.val (.long q0), .second, .val (.int p1), .val (.int c0), .val (.int c1), .val (.int c2), .val (.int c3), .val (.int c4), .val (.int c5), .val (.int c6), .val (.int c7), .val (.ref b9), .val (.int (0 : Int32)), .unset, .unset]) rfl) ?_
                  show own_Ends p e below T38t (mkF m 279 #[.val (.long q0), .second, .val (.int p1), .val (.int c0), .val (.int c1), .val (.int c2), .val (.int c3), .val (.int c4), .val (.int c5), .val (.int c6), .val (.int c7), .val (.ref b9), .val (.int (0 : Int32)), .unset, .unset] []) _
                  exact J279 _ _ X38t eT38t N38t _ ((own_sd1 (own_e1 hzz27 hc124)).trans ((own_sd1 (own_e1 hzz28 hc132)).trans ((own_sd1 (own_e1 hzz29 hc140)).trans ((own_sd1 (own_e1 hzz30 hc148)).trans ((own_sd1 (own_e1 hzz31 hc156)).trans ((own_sd0 (own_e0 hzz36 hc164)).trans ((own_tp1 (own_e1 hzz37 hc218)).trans (own_tp0 (own_e0 hzz38 hc226)))))))))
                · refine own_go (fun _ => XS.ifNo X38t.here hx rfl (hb hby at_226) rfl ((if0 _ _).trans (feq hc226).1)) ?_
                  show own_Ends p e below T38t (mkF m 229 #[.val (.long q0), .second, .val (.int p1), .val (.int c0), .val (.int c1), .val (.int c2), .val (.int c3), .val (.int c4), .val (.int c5), .val (.int c6), .val (.int c7), .val (.ref b9), .unset, .unset, .unset] []) _
                  refine own_go (fun _ => XS.iload X38t.here hx rfl (hb hby at_229) rfl) ?_
                  show own_Ends p e below T38t (mkF m 231 #[.val (.long q0), .second, .val (.int p1), .val (.int c0), .val (.int c1), .val (.int c2), .val (.int c3), .val (.int c4), .val (.int c5), .val (.int c6), .val (.int c7), .val (.ref b9), .unset, .unset, .unset] [(.int c7)]) _
                  obtain ⟨_, _, ⟨T39, L39, k39, n39⟩, -, X39, ⟨Lc39, hQ39, l39, y39, z39⟩, st39⟩ := Jvm.LawKit.callS X38t hx (y := (⟨"com/example/tessera/tessera/platform/SecretCodeIsPinValuePinLaw", "p", "(B)Z"⟩ : MethodName)) hown (mvT hZ (hw _ (List.mem_of_getElem? (i := 13) rfl))) (mvT hZ (hw _ (List.mem_of_getElem? (i := 14) rfl))) (mvT hZ (hw _ (List.mem_of_getElem? (i := 2) rfl))) (mvT hZ (hw _ (List.mem_of_getElem? (i := 15) rfl))) (by decide) (backOf (W := 0) (rm_p l Z a0 hw [] c7  h17 n0 Z17 ) hZ (hw _ (List.mem_of_getElem? (i := 15) rfl)) (hw _ (List.mem_of_getElem? (i := 2) rfl)) (by decide) (by decide)) (g := (mkF m 231 #[.val (.long q0), .second, .val (.int p1), .val (.int c0), .val (.int c1), .val (.int c2), .val (.int c3), .val (.int c4), .val (.int c5), .val (.int c6), .val (.int c7), .val (.ref b9), .unset, .unset, .unset] [(.int c7)])) rfl (by rw [hml]; rfl) (argsL := [(.int c7)]) (rest := []) (lenOf pd_2 rfl) rfl (by show 2 * 0 + _ ≤ _; exact Nat.le_of_eq rfl) (hb hby at_231) (fun _ _ => ⟨rfl, eT38t, (by decide : 1 + 0 ≤ _), (by decide : 8 + 0 ≤ _)⟩)
                  dsimp only [Pt.U, Pt.locs, Pt.cells, Pt.slots] at X39 l39 y39 z39 st39 hQ39
                  replace y39 : k39 = 1 := y39
                  replace z39 : n39 = 8 := z39
                  subst l39 y39 z39
                  refine own_go st39 ?_
                  obtain ⟨zz39, rfl, hzz39, N39q, eh39⟩ := hQ39
                  have N39 := Fr.app N38t N39q
                  show own_Ends p e below T39 (mkF m 234 #[.val (.long q0), .second, .val (.int p1), .val (.int c0), .val (.int c1), .val (.int c2), .val (.int c3), .val (.int c4), .val (.int c5), .val (.int c6), .val (.int c7), .val (.ref b9), .unset, .unset, .unset] [(.int zz39)]) _
                  suffices Jt39 : ∀ (T_ : State) (L_ : List Loc), Stand p l e room_1 s m #[(.long q0), (.int p1)] below meth c T_ L_ 1 8 → T_.heap = h17 → Fr n0 L_ → own_Ends p e below T_ (mkF m 234 #[.val (.long q0), .second, .val (.int p1), .val (.int c0), .val (.int c1), .val (.int c2), .val (.int c3), .val (.int c4), .val (.int c5), .val (.int c6), .val (.int c7), .val (.ref b9), .unset, .unset, .unset] [(.int zz39)]) (fun ou U' => ∃ v L, ou = .returned v ∧ Q_rm0 Z q0 p1 h0 n0 v U'.heap L ∧ FrameEnd s ou U' L room_1.cells room_1.slots) from Jt39 _ _ X39 eh39 N39
                  clear st39 X39 N39 N39q eh39
                  try clear Lc39
                  try clear T39
                  try clear N38t
                  try clear eT38t
                  try clear X38t
                  try clear L38t
                  try clear T38t
                  intro T39t L39t X39t eT39t N39t
                  by_cases hc234 : zz39 = (0 : Int32)
                  · refine own_go (fun _ => XS.ifYes X39t.here hx rfl (pc0 := 234) (pc' := 276) rfl (hb hby at_234) rfl ((if0 _ _).trans (teq hc234).1) (by decide) (by decide)) ?_
                    show own_Ends p e below T39t (mkF m 276 #[.val (.long q0), .second, .val (.int p1), .val (.int c0), .val (.int c1), .val (.int c2), .val (.int c3), .val (.int c4), .val (.int c5), .val (.int c6), .val (.int c7), .val (.ref b9), .unset, .unset, .unset] []) _
                    refine own_go (fun _ => XS.iconst X39t.here hx rfl (hb hby at_276)) ?_
                    show own_Ends p e below T39t (mkF m 277 #[.val (.long q0), .second, .val (.int p1), .val (.int c0), .val (.int c1), .val (.int c2), .val (.int c3), .val (.int c4), .val (.int c5), .val (.int c6), .val (.int c7), .val (.ref b9), .unset, .unset, .unset] [(.int (0 : Int32))]) _
                    refine own_go (fun _ => XS.istore X39t.here hx rfl (hb hby at_277) rfl (l' := #[.val (.long q0), .second, .val (.int p1), .val (.int c0), .val (.int c1), .val (.int c2), .val (.int c3), .val (.int c4), .val (.int c5), .val (.int c6), .val (.int c7), .val (.ref b9), .val (.int (0 : Int32)), .unset, .unset]) rfl) ?_
                    show own_Ends p e below T39t (mkF m 279 #[.val (.long q0), .second, .val (.int p1), .val (.int c0), .val (.int c1), .val (.int c2), .val (.int c3), .val (.int c4), .val (.int c5), .val (.int c6), .val (.int c7), .val (.ref b9), .val (.int (0 : Int32)), .unset, .unset] []) _
                    exact J279 _ _ X39t eT39t N39t _ ((own_sd1 (own_e1 hzz27 hc124)).trans ((own_sd1 (own_e1 hzz28 hc132)).trans ((own_sd1 (own_e1 hzz29 hc140)).trans ((own_sd1 (own_e1 hzz30 hc148)).trans ((own_sd1 (own_e1 hzz31 hc156)).trans ((own_sd0 (own_e0 hzz36 hc164)).trans ((own_tp1 (own_e1 hzz37 hc218)).trans ((own_tp1 (own_e1 hzz38 hc226)).trans (own_tp0 (own_e0 hzz39 hc234))))))))))
                  · refine own_go (fun _ => XS.ifNo X39t.here hx rfl (hb hby at_234) rfl ((if0 _ _).trans (feq hc234).1)) ?_
                    show own_Ends p e below T39t (mkF m 237 #[.val (.long q0), .second, .val (.int p1), .val (.int c0), .val (.int c1), .val (.int c2), .val (.int c3), .val (.int c4), .val (.int c5), .val (.int c6), .val (.int c7), .val (.ref b9), .unset, .unset, .unset] []) _
                    refine own_go (fun _ => XS.goto X39t.here hx rfl (pc0 := 237) (pc' := 272) rfl (hb hby at_237) (by decide) (by decide)) ?_
                    show own_Ends p e below T39t (mkF m 272 #[.val (.long q0), .second, .val (.int p1), .val (.int c0), .val (.int c1), .val (.int c2), .val (.int c3), .val (.int c4), .val (.int c5), .val (.int c6), .val (.int c7), .val (.ref b9), .unset, .unset, .unset] []) _
                    refine own_go (fun _ => XS.iconst X39t.here hx rfl (hb hby at_272)) ?_
                    show own_Ends p e below T39t (mkF m 273 #[.val (.long q0), .second, .val (.int p1), .val (.int c0), .val (.int c1), .val (.int c2), .val (.int c3), .val (.int c4), .val (.int c5), .val (.int c6), .val (.int c7), .val (.ref b9), .unset, .unset, .unset] [(.int (1 : Int32))]) _
                    refine own_go (fun _ => XS.goto X39t.here hx rfl (pc0 := 273) (pc' := 277) rfl (hb hby at_273) (by decide) (by decide)) ?_
                    show own_Ends p e below T39t (mkF m 277 #[.val (.long q0), .second, .val (.int p1), .val (.int c0), .val (.int c1), .val (.int c2), .val (.int c3), .val (.int c4), .val (.int c5), .val (.int c6), .val (.int c7), .val (.ref b9), .unset, .unset, .unset] [(.int (1 : Int32))]) _
                    refine own_go (fun _ => XS.istore X39t.here hx rfl (hb hby at_277) rfl (l' := #[.val (.long q0), .second, .val (.int p1), .val (.int c0), .val (.int c1), .val (.int c2), .val (.int c3), .val (.int c4), .val (.int c5), .val (.int c6), .val (.int c7), .val (.ref b9), .val (.int (1 : Int32)), .unset, .unset]) rfl) ?_
                    show own_Ends p e below T39t (mkF m 279 #[.val (.long q0), .second, .val (.int p1), .val (.int c0), .val (.int c1), .val (.int c2), .val (.int c3), .val (.int c4), .val (.int c5), .val (.int c6), .val (.int c7), .val (.ref b9), .val (.int (1 : Int32)), .unset, .unset] []) _
                    exact J279 _ _ X39t eT39t N39t _ ((own_sd1 (own_e1 hzz27 hc124)).trans ((own_sd1 (own_e1 hzz28 hc132)).trans ((own_sd1 (own_e1 hzz29 hc140)).trans ((own_sd1 (own_e1 hzz30 hc148)).trans ((own_sd1 (own_e1 hzz31 hc156)).trans ((own_sd0 (own_e0 hzz36 hc164)).trans ((own_tp1 (own_e1 hzz37 hc218)).trans ((own_tp1 (own_e1 hzz38 hc226)).trans ((own_tp1 (own_e1 hzz39 hc234)).trans (rfl))))))))))
            · refine own_go (fun _ => XS.ifNo X36t.here hx rfl (hb hby at_164) rfl ((if0 _ _).trans (feq hc164).1)) ?_
              show own_Ends p e below T36t (mkF m 167 #[.val (.long q0), .second, .val (.int p1), .val (.int c0), .val (.int c1), .val (.int c2), .val (.int c3), .val (.int c4), .val (.int c5), .val (.int c6), .val (.int c7), .val (.ref b9), .unset, .unset, .unset] []) _
              refine own_go (fun _ => XS.iload X36t.here hx rfl (hb hby at_167) rfl) ?_
              show own_Ends p e below T36t (mkF m 169 #[.val (.long q0), .second, .val (.int p1), .val (.int c0), .val (.int c1), .val (.int c2), .val (.int c3), .val (.int c4), .val (.int c5), .val (.int c6), .val (.int c7), .val (.ref b9), .unset, .unset, .unset] [(.int c6)]) _
              obtain ⟨_, _, ⟨T40, L40, k40, n40⟩, -, X40, ⟨Lc40, hQ40, l40, y40, z40⟩, st40⟩ := Jvm.LawKit.callS X36t hx (y := (⟨"com/example/tessera/tessera/platform/SecretCodeIsPinValuePinLaw", "d", "(B)Z"⟩ : MethodName)) hown (mvT hZ (hw _ (List.mem_of_getElem? (i := 6) rfl))) (mvT hZ (hw _ (List.mem_of_getElem? (i := 7) rfl))) (mvT hZ (hw _ (List.mem_of_getElem? (i := 2) rfl))) (mvT hZ (hw _ (List.mem_of_getElem? (i := 8) rfl))) (by decide) (backOf (W := 0) (rm_d l Z a0 hw [] c6  h17 n0 Z17 ) hZ (hw _ (List.mem_of_getElem? (i := 8) rfl)) (hw _ (List.mem_of_getElem? (i := 2) rfl)) (by decide) (by decide)) (g := (mkF m 169 #[.val (.long q0), .second, .val (.int p1), .val (.int c0), .val (.int c1), .val (.int c2), .val (.int c3), .val (.int c4), .val (.int c5), .val (.int c6), .val (.int c7), .val (.ref b9), .unset, .unset, .unset] [(.int c6)])) rfl (by rw [hml]; rfl) (argsL := [(.int c6)]) (rest := []) (lenOf pd_2 rfl) rfl (by show 2 * 0 + _ ≤ _; exact Nat.le_of_eq rfl) (hb hby at_169) (fun _ _ => ⟨rfl, eT36t, (by decide : 1 + 0 ≤ _), (by decide : 8 + 0 ≤ _)⟩)
              dsimp only [Pt.U, Pt.locs, Pt.cells, Pt.slots] at X40 l40 y40 z40 st40 hQ40
              replace y40 : k40 = 1 := y40
              replace z40 : n40 = 8 := z40
              subst l40 y40 z40
              refine own_go st40 ?_
              obtain ⟨zz40, rfl, hzz40, N40q, eh40⟩ := hQ40
              have N40 := Fr.app N36t N40q
              show own_Ends p e below T40 (mkF m 172 #[.val (.long q0), .second, .val (.int p1), .val (.int c0), .val (.int c1), .val (.int c2), .val (.int c3), .val (.int c4), .val (.int c5), .val (.int c6), .val (.int c7), .val (.ref b9), .unset, .unset, .unset] [(.int zz40)]) _
              suffices Jt40 : ∀ (T_ : State) (L_ : List Loc), Stand p l e room_1 s m #[(.long q0), (.int p1)] below meth c T_ L_ 1 8 → T_.heap = h17 → Fr n0 L_ → own_Ends p e below T_ (mkF m 172 #[.val (.long q0), .second, .val (.int p1), .val (.int c0), .val (.int c1), .val (.int c2), .val (.int c3), .val (.int c4), .val (.int c5), .val (.int c6), .val (.int c7), .val (.ref b9), .unset, .unset, .unset] [(.int zz40)]) (fun ou U' => ∃ v L, ou = .returned v ∧ Q_rm0 Z q0 p1 h0 n0 v U'.heap L ∧ FrameEnd s ou U' L room_1.cells room_1.slots) from Jt40 _ _ X40 eh40 N40
              clear st40 X40 N40 N40q eh40
              try clear Lc40
              try clear T40
              try clear N36t
              try clear eT36t
              try clear X36t
              try clear L36t
              try clear T36t
              intro T40t L40t X40t eT40t N40t
              by_cases hc172 : zz40 = (0 : Int32)
              · refine own_go (fun _ => XS.ifYes X40t.here hx rfl (pc0 := 172) (pc' := 194) rfl (hb hby at_172) rfl ((if0 _ _).trans (teq hc172).1) (by decide) (by decide)) ?_
                show own_Ends p e below T40t (mkF m 194 #[.val (.long q0), .second, .val (.int p1), .val (.int c0), .val (.int c1), .val (.int c2), .val (.int c3), .val (.int c4), .val (.int c5), .val (.int c6), .val (.int c7), .val (.ref b9), .unset, .unset, .unset] []) _
                refine own_go (fun _ => XS.iload X40t.here hx rfl (hb hby at_194) rfl) ?_
                show own_Ends p e below T40t (mkF m 196 #[.val (.long q0), .second, .val (.int p1), .val (.int c0), .val (.int c1), .val (.int c2), .val (.int c3), .val (.int c4), .val (.int c5), .val (.int c6), .val (.int c7), .val (.ref b9), .unset, .unset, .unset] [(.int c6)]) _
                obtain ⟨_, _, ⟨T41, L41, k41, n41⟩, -, X41, ⟨Lc41, hQ41, l41, y41, z41⟩, st41⟩ := Jvm.LawKit.callS X40t hx (y := (⟨"com/example/tessera/tessera/platform/SecretCodeIsPinValuePinLaw", "p", "(B)Z"⟩ : MethodName)) hown (mvT hZ (hw _ (List.mem_of_getElem? (i := 13) rfl))) (mvT hZ (hw _ (List.mem_of_getElem? (i := 14) rfl))) (mvT hZ (hw _ (List.mem_of_getElem? (i := 2) rfl))) (mvT hZ (hw _ (List.mem_of_getElem? (i := 15) rfl))) (by decide) (backOf (W := 0) (rm_p l Z a0 hw [] c6  h17 n0 Z17 ) hZ (hw _ (List.mem_of_getElem? (i := 15) rfl)) (hw _ (List.mem_of_getElem? (i := 2) rfl)) (by decide) (by decide)) (g := (mkF m 196 #[.val (.long q0), .second, .val (.int p1), .val (.int c0), .val (.int c1), .val (.int c2), .val (.int c3), .val (.int c4), .val (.int c5), .val (.int c6), .val (.int c7), .val (.ref b9), .unset, .unset, .unset] [(.int c6)])) rfl (by rw [hml]; rfl) (argsL := [(.int c6)]) (rest := []) (lenOf pd_2 rfl) rfl (by show 2 * 0 + _ ≤ _; exact Nat.le_of_eq rfl) (hb hby at_196) (fun _ _ => ⟨rfl, eT40t, (by decide : 1 + 0 ≤ _), (by decide : 8 + 0 ≤ _)⟩)
                dsimp only [Pt.U, Pt.locs, Pt.cells, Pt.slots] at X41 l41 y41 z41 st41 hQ41
                replace y41 : k41 = 1 := y41
                replace z41 : n41 = 8 := z41
                subst l41 y41 z41
                refine own_go st41 ?_
                obtain ⟨zz41, rfl, hzz41, N41q, eh41⟩ := hQ41
                have N41 := Fr.app N40t N41q
                show own_Ends p e below T41 (mkF m 199 #[.val (.long q0), .second, .val (.int p1), .val (.int c0), .val (.int c1), .val (.int c2), .val (.int c3), .val (.int c4), .val (.int c5), .val (.int c6), .val (.int c7), .val (.ref b9), .unset, .unset, .unset] [(.int zz41)]) _
                suffices Jt41 : ∀ (T_ : State) (L_ : List Loc), Stand p l e room_1 s m #[(.long q0), (.int p1)] below meth c T_ L_ 1 8 → T_.heap = h17 → Fr n0 L_ → own_Ends p e below T_ (mkF m 199 #[.val (.long q0), .second, .val (.int p1), .val (.int c0), .val (.int c1), .val (.int c2), .val (.int c3), .val (.int c4), .val (.int c5), .val (.int c6), .val (.int c7), .val (.ref b9), .unset, .unset, .unset] [(.int zz41)]) (fun ou U' => ∃ v L, ou = .returned v ∧ Q_rm0 Z q0 p1 h0 n0 v U'.heap L ∧ FrameEnd s ou U' L room_1.cells room_1.slots) from Jt41 _ _ X41 eh41 N41
                clear st41 X41 N41 N41q eh41
                try clear Lc41
                try clear T41
                try clear N40t
                try clear eT40t
                try clear X40t
                try clear L40t
                try clear T40t
                intro T41t L41t X41t eT41t N41t
                by_cases hc199 : zz41 = (0 : Int32)
                · refine own_go (fun _ => XS.ifYes X41t.here hx rfl (pc0 := 199) (pc' := 276) rfl (hb hby at_199) rfl ((if0 _ _).trans (teq hc199).1) (by decide) (by decide)) ?_
                  show own_Ends p e below T41t (mkF m 276 #[.val (.long q0), .second, .val (.int p1), .val (.int c0), .val (.int c1), .val (.int c2), .val (.int c3), .val (.int c4), .val (.int c5), .val (.int c6), .val (.int c7), .val (.ref b9), .unset, .unset, .unset] []) _
                  refine own_go (fun _ => XS.iconst X41t.here hx rfl (hb hby at_276)) ?_
                  show own_Ends p e below T41t (mkF m 277 #[.val (.long q0), .second, .val (.int p1), .val (.int c0), .val (.int c1), .val (.int c2), .val (.int c3), .val (.int c4), .val (.int c5), .val (.int c6), .val (.int c7), .val (.ref b9), .unset, .unset, .unset] [(.int (0 : Int32))]) _
                  refine own_go (fun _ => XS.istore X41t.here hx rfl (hb hby at_277) rfl (l' := #[.val (.long q0), .second, .val (.int p1), .val (.int c0), .val (.int c1), .val (.int c2), .val (.int c3), .val (.int c4), .val (.int c5), .val (.int c6), .val (.int c7), .val (.ref b9), .val (.int (0 : Int32)), .unset, .unset]) rfl) ?_
                  show own_Ends p e below T41t (mkF m 279 #[.val (.long q0), .second, .val (.int p1), .val (.int c0), .val (.int c1), .val (.int c2), .val (.int c3), .val (.int c4), .val (.int c5), .val (.int c6), .val (.int c7), .val (.ref b9), .val (.int (0 : Int32)), .unset, .unset] []) _
                  exact J279 _ _ X41t eT41t N41t _ ((own_sd1 (own_e1 hzz27 hc124)).trans ((own_sd1 (own_e1 hzz28 hc132)).trans ((own_sd1 (own_e1 hzz29 hc140)).trans ((own_sd1 (own_e1 hzz30 hc148)).trans ((own_sd1 (own_e1 hzz31 hc156)).trans ((own_sd1 (own_e1 hzz36 hc164)).trans ((own_sd0 (own_e0 hzz40 hc172)).trans (own_tp0 (own_e0 hzz41 hc199)))))))))
                · refine own_go (fun _ => XS.ifNo X41t.here hx rfl (hb hby at_199) rfl ((if0 _ _).trans (feq hc199).1)) ?_
                  show own_Ends p e below T41t (mkF m 202 #[.val (.long q0), .second, .val (.int p1), .val (.int c0), .val (.int c1), .val (.int c2), .val (.int c3), .val (.int c4), .val (.int c5), .val (.int c6), .val (.int c7), .val (.ref b9), .unset, .unset, .unset] []) _
                  refine own_go (fun _ => XS.iload X41t.here hx rfl (hb hby at_202) rfl) ?_
                  show own_Ends p e below T41t (mkF m 204 #[.val (.long q0), .second, .val (.int p1), .val (.int c0), .val (.int c1), .val (.int c2), .val (.int c3), .val (.int c4), .val (.int c5), .val (.int c6), .val (.int c7), .val (.ref b9), .unset, .unset, .unset] [(.int c7)]) _
                  obtain ⟨_, _, ⟨T42, L42, k42, n42⟩, -, X42, ⟨Lc42, hQ42, l42, y42, z42⟩, st42⟩ := Jvm.LawKit.callS X41t hx (y := (⟨"com/example/tessera/tessera/platform/SecretCodeIsPinValuePinLaw", "p", "(B)Z"⟩ : MethodName)) hown (mvT hZ (hw _ (List.mem_of_getElem? (i := 13) rfl))) (mvT hZ (hw _ (List.mem_of_getElem? (i := 14) rfl))) (mvT hZ (hw _ (List.mem_of_getElem? (i := 2) rfl))) (mvT hZ (hw _ (List.mem_of_getElem? (i := 15) rfl))) (by decide) (backOf (W := 0) (rm_p l Z a0 hw [] c7  h17 n0 Z17 ) hZ (hw _ (List.mem_of_getElem? (i := 15) rfl)) (hw _ (List.mem_of_getElem? (i := 2) rfl)) (by decide) (by decide)) (g := (mkF m 204 #[.val (.long q0), .second, .val (.int p1), .val (.int c0), .val (.int c1), .val (.int c2), .val (.int c3), .val (.int c4), .val (.int c5), .val (.int c6), .val (.int c7), .val (.ref b9), .unset, .unset, .unset] [(.int c7)])) rfl (by rw [hml]; rfl) (argsL := [(.int c7)]) (rest := []) (lenOf pd_2 rfl) rfl (by show 2 * 0 + _ ≤ _; exact Nat.le_of_eq rfl) (hb hby at_204) (fun _ _ => ⟨rfl, eT41t, (by decide : 1 + 0 ≤ _), (by decide : 8 + 0 ≤ _)⟩)
                  dsimp only [Pt.U, Pt.locs, Pt.cells, Pt.slots] at X42 l42 y42 z42 st42 hQ42
                  replace y42 : k42 = 1 := y42
                  replace z42 : n42 = 8 := z42
                  subst l42 y42 z42
                  refine own_go st42 ?_
                  obtain ⟨zz42, rfl, hzz42, N42q, eh42⟩ := hQ42
                  have N42 := Fr.app N41t N42q
                  show own_Ends p e below T42 (mkF m 207 #[.val (.long q0), .second, .val (.int p1), .val (.int c0), .val (.int c1), .val (.int c2), .val (.int c3), .val (.int c4), .val (.int c5), .val (.int c6), .val (.int c7), .val (.ref b9), .unset, .unset, .unset] [(.int zz42)]) _
                  suffices Jt42 : ∀ (T_ : State) (L_ : List Loc), Stand p l e room_1 s m #[(.long q0), (.int p1)] below meth c T_ L_ 1 8 → T_.heap = h17 → Fr n0 L_ → own_Ends p e below T_ (mkF m 207 #[.val (.long q0), .second, .val (.int p1), .val (.int c0), .val (.int c1), .val (.int c2), .val (.int c3), .val (.int c4), .val (.int c5), .val (.int c6), .val (.int c7), .val (.ref b9), .unset, .unset, .unset] [(.int zz42)]) (fun ou U' => ∃ v L, ou = .returned v ∧ Q_rm0 Z q0 p1 h0 n0 v U'.heap L ∧ FrameEnd s ou U' L room_1.cells room_1.slots) from Jt42 _ _ X42 eh42 N42
                  clear st42 X42 N42 N42q eh42
                  try clear Lc42
                  try clear T42
                  try clear N41t
                  try clear eT41t
                  try clear X41t
                  try clear L41t
                  try clear T41t
                  intro T42t L42t X42t eT42t N42t
                  by_cases hc207 : zz42 = (0 : Int32)
                  · refine own_go (fun _ => XS.ifYes X42t.here hx rfl (pc0 := 207) (pc' := 276) rfl (hb hby at_207) rfl ((if0 _ _).trans (teq hc207).1) (by decide) (by decide)) ?_
                    show own_Ends p e below T42t (mkF m 276 #[.val (.long q0), .second, .val (.int p1), .val (.int c0), .val (.int c1), .val (.int c2), .val (.int c3), .val (.int c4), .val (.int c5), .val (.int c6), .val (.int c7), .val (.ref b9), .unset, .unset, .unset] []) _
                    refine own_go (fun _ => XS.iconst X42t.here hx rfl (hb hby at_276)) ?_
                    show own_Ends p e below T42t (mkF m 277 #[.val (.long q0), .second, .val (.int p1), .val (.int c0), .val (.int c1), .val (.int c2), .val (.int c3), .val (.int c4), .val (.int c5), .val (.int c6), .val (.int c7), .val (.ref b9), .unset, .unset, .unset] [(.int (0 : Int32))]) _
                    refine own_go (fun _ => XS.istore X42t.here hx rfl (hb hby at_277) rfl (l' := #[.val (.long q0), .second, .val (.int p1), .val (.int c0), .val (.int c1), .val (.int c2), .val (.int c3), .val (.int c4), .val (.int c5), .val (.int c6), .val (.int c7), .val (.ref b9), .val (.int (0 : Int32)), .unset, .unset]) rfl) ?_
                    show own_Ends p e below T42t (mkF m 279 #[.val (.long q0), .second, .val (.int p1), .val (.int c0), .val (.int c1), .val (.int c2), .val (.int c3), .val (.int c4), .val (.int c5), .val (.int c6), .val (.int c7), .val (.ref b9), .val (.int (0 : Int32)), .unset, .unset] []) _
                    exact J279 _ _ X42t eT42t N42t _ ((own_sd1 (own_e1 hzz27 hc124)).trans ((own_sd1 (own_e1 hzz28 hc132)).trans ((own_sd1 (own_e1 hzz29 hc140)).trans ((own_sd1 (own_e1 hzz30 hc148)).trans ((own_sd1 (own_e1 hzz31 hc156)).trans ((own_sd1 (own_e1 hzz36 hc164)).trans ((own_sd0 (own_e0 hzz40 hc172)).trans ((own_tp1 (own_e1 hzz41 hc199)).trans (own_tp0 (own_e0 hzz42 hc207))))))))))
                  · refine own_go (fun _ => XS.ifNo X42t.here hx rfl (hb hby at_207) rfl ((if0 _ _).trans (feq hc207).1)) ?_
                    show own_Ends p e below T42t (mkF m 210 #[.val (.long q0), .second, .val (.int p1), .val (.int c0), .val (.int c1), .val (.int c2), .val (.int c3), .val (.int c4), .val (.int c5), .val (.int c6), .val (.int c7), .val (.ref b9), .unset, .unset, .unset] []) _
                    refine own_go (fun _ => XS.goto X42t.here hx rfl (pc0 := 210) (pc' := 272) rfl (hb hby at_210) (by decide) (by decide)) ?_
                    show own_Ends p e below T42t (mkF m 272 #[.val (.long q0), .second, .val (.int p1), .val (.int c0), .val (.int c1), .val (.int c2), .val (.int c3), .val (.int c4), .val (.int c5), .val (.int c6), .val (.int c7), .val (.ref b9), .unset, .unset, .unset] []) _
                    refine own_go (fun _ => XS.iconst X42t.here hx rfl (hb hby at_272)) ?_
                    show own_Ends p e below T42t (mkF m 273 #[.val (.long q0), .second, .val (.int p1), .val (.int c0), .val (.int c1), .val (.int c2), .val (.int c3), .val (.int c4), .val (.int c5), .val (.int c6), .val (.int c7), .val (.ref b9), .unset, .unset, .unset] [(.int (1 : Int32))]) _
                    refine own_go (fun _ => XS.goto X42t.here hx rfl (pc0 := 273) (pc' := 277) rfl (hb hby at_273) (by decide) (by decide)) ?_
                    show own_Ends p e below T42t (mkF m 277 #[.val (.long q0), .second, .val (.int p1), .val (.int c0), .val (.int c1), .val (.int c2), .val (.int c3), .val (.int c4), .val (.int c5), .val (.int c6), .val (.int c7), .val (.ref b9), .unset, .unset, .unset] [(.int (1 : Int32))]) _
                    refine own_go (fun _ => XS.istore X42t.here hx rfl (hb hby at_277) rfl (l' := #[.val (.long q0), .second, .val (.int p1), .val (.int c0), .val (.int c1), .val (.int c2), .val (.int c3), .val (.int c4), .val (.int c5), .val (.int c6), .val (.int c7), .val (.ref b9), .val (.int (1 : Int32)), .unset, .unset]) rfl) ?_
                    show own_Ends p e below T42t (mkF m 279 #[.val (.long q0), .second, .val (.int p1), .val (.int c0), .val (.int c1), .val (.int c2), .val (.int c3), .val (.int c4), .val (.int c5), .val (.int c6), .val (.int c7), .val (.ref b9), .val (.int (1 : Int32)), .unset, .unset] []) _
                    exact J279 _ _ X42t eT42t N42t _ ((own_sd1 (own_e1 hzz27 hc124)).trans ((own_sd1 (own_e1 hzz28 hc132)).trans ((own_sd1 (own_e1 hzz29 hc140)).trans ((own_sd1 (own_e1 hzz30 hc148)).trans ((own_sd1 (own_e1 hzz31 hc156)).trans ((own_sd1 (own_e1 hzz36 hc164)).trans ((own_sd0 (own_e0 hzz40 hc172)).trans ((own_tp1 (own_e1 hzz41 hc199)).trans ((own_tp1 (own_e1 hzz42 hc207)).trans (rfl))))))))))
              · refine own_go (fun _ => XS.ifNo X40t.here hx rfl (hb hby at_172) rfl ((if0 _ _).trans (feq hc172).1)) ?_
                show own_Ends p e below T40t (mkF m 175 #[.val (.long q0), .second, .val (.int p1), .val (.int c0), .val (.int c1), .val (.int c2), .val (.int c3), .val (.int c4), .val (.int c5), .val (.int c6), .val (.int c7), .val (.ref b9), .unset, .unset, .unset] []) _
                refine own_go (fun _ => XS.iload X40t.here hx rfl (hb hby at_175) rfl) ?_
                show own_Ends p e below T40t (mkF m 177 #[.val (.long q0), .second, .val (.int p1), .val (.int c0), .val (.int c1), .val (.int c2), .val (.int c3), .val (.int c4), .val (.int c5), .val (.int c6), .val (.int c7), .val (.ref b9), .unset, .unset, .unset] [(.int c7)]) _
                obtain ⟨_, _, ⟨T43, L43, k43, n43⟩, -, X43, ⟨Lc43, hQ43, l43, y43, z43⟩, st43⟩ := Jvm.LawKit.callS X40t hx (y := (⟨"com/example/tessera/tessera/platform/SecretCodeIsPinValuePinLaw", "d", "(B)Z"⟩ : MethodName)) hown (mvT hZ (hw _ (List.mem_of_getElem? (i := 6) rfl))) (mvT hZ (hw _ (List.mem_of_getElem? (i := 7) rfl))) (mvT hZ (hw _ (List.mem_of_getElem? (i := 2) rfl))) (mvT hZ (hw _ (List.mem_of_getElem? (i := 8) rfl))) (by decide) (backOf (W := 0) (rm_d l Z a0 hw [] c7  h17 n0 Z17 ) hZ (hw _ (List.mem_of_getElem? (i := 8) rfl)) (hw _ (List.mem_of_getElem? (i := 2) rfl)) (by decide) (by decide)) (g := (mkF m 177 #[.val (.long q0), .second, .val (.int p1), .val (.int c0), .val (.int c1), .val (.int c2), .val (.int c3), .val (.int c4), .val (.int c5), .val (.int c6), .val (.int c7), .val (.ref b9), .unset, .unset, .unset] [(.int c7)])) rfl (by rw [hml]; rfl) (argsL := [(.int c7)]) (rest := []) (lenOf pd_2 rfl) rfl (by show 2 * 0 + _ ≤ _; exact Nat.le_of_eq rfl) (hb hby at_177) (fun _ _ => ⟨rfl, eT40t, (by decide : 1 + 0 ≤ _), (by decide : 8 + 0 ≤ _)⟩)
                dsimp only [Pt.U, Pt.locs, Pt.cells, Pt.slots] at X43 l43 y43 z43 st43 hQ43
                replace y43 : k43 = 1 := y43
                replace z43 : n43 = 8 := z43
                subst l43 y43 z43
                refine own_go st43 ?_
                obtain ⟨zz43, rfl, hzz43, N43q, eh43⟩ := hQ43
                have N43 := Fr.app N40t N43q
                show own_Ends p e below T43 (mkF m 180 #[.val (.long q0), .second, .val (.int p1), .val (.int c0), .val (.int c1), .val (.int c2), .val (.int c3), .val (.int c4), .val (.int c5), .val (.int c6), .val (.int c7), .val (.ref b9), .unset, .unset, .unset] [(.int zz43)]) _
                suffices Jt43 : ∀ (T_ : State) (L_ : List Loc), Stand p l e room_1 s m #[(.long q0), (.int p1)] below meth c T_ L_ 1 8 → T_.heap = h17 → Fr n0 L_ → own_Ends p e below T_ (mkF m 180 #[.val (.long q0), .second, .val (.int p1), .val (.int c0), .val (.int c1), .val (.int c2), .val (.int c3), .val (.int c4), .val (.int c5), .val (.int c6), .val (.int c7), .val (.ref b9), .unset, .unset, .unset] [(.int zz43)]) (fun ou U' => ∃ v L, ou = .returned v ∧ Q_rm0 Z q0 p1 h0 n0 v U'.heap L ∧ FrameEnd s ou U' L room_1.cells room_1.slots) from Jt43 _ _ X43 eh43 N43
                clear st43 X43 N43 N43q eh43
                try clear Lc43
                try clear T43
                try clear N40t
                try clear eT40t
                try clear X40t
                try clear L40t
                try clear T40t
                intro T43t L43t X43t eT43t N43t
                by_cases hc180 : zz43 = (0 : Int32)
                · refine own_go (fun _ => XS.ifNo X43t.here hx rfl (hb hby at_180) rfl ((if0 _ _).trans (teq hc180).2)) ?_
                  show own_Ends p e below T43t (mkF m 183 #[.val (.long q0), .second, .val (.int p1), .val (.int c0), .val (.int c1), .val (.int c2), .val (.int c3), .val (.int c4), .val (.int c5), .val (.int c6), .val (.int c7), .val (.ref b9), .unset, .unset, .unset] []) _
                  refine own_go (fun _ => XS.iload X43t.here hx rfl (hb hby at_183) rfl) ?_
                  show own_Ends p e below T43t (mkF m 185 #[.val (.long q0), .second, .val (.int p1), .val (.int c0), .val (.int c1), .val (.int c2), .val (.int c3), .val (.int c4), .val (.int c5), .val (.int c6), .val (.int c7), .val (.ref b9), .unset, .unset, .unset] [(.int c7)]) _
                  obtain ⟨_, _, ⟨T44, L44, k44, n44⟩, -, X44, ⟨Lc44, hQ44, l44, y44, z44⟩, st44⟩ := Jvm.LawKit.callS X43t hx (y := (⟨"com/example/tessera/tessera/platform/SecretCodeIsPinValuePinLaw", "p", "(B)Z"⟩ : MethodName)) hown (mvT hZ (hw _ (List.mem_of_getElem? (i := 13) rfl))) (mvT hZ (hw _ (List.mem_of_getElem? (i := 14) rfl))) (mvT hZ (hw _ (List.mem_of_getElem? (i := 2) rfl))) (mvT hZ (hw _ (List.mem_of_getElem? (i := 15) rfl))) (by decide) (backOf (W := 0) (rm_p l Z a0 hw [] c7  h17 n0 Z17 ) hZ (hw _ (List.mem_of_getElem? (i := 15) rfl)) (hw _ (List.mem_of_getElem? (i := 2) rfl)) (by decide) (by decide)) (g := (mkF m 185 #[.val (.long q0), .second, .val (.int p1), .val (.int c0), .val (.int c1), .val (.int c2), .val (.int c3), .val (.int c4), .val (.int c5), .val (.int c6), .val (.int c7), .val (.ref b9), .unset, .unset, .unset] [(.int c7)])) rfl (by rw [hml]; rfl) (argsL := [(.int c7)]) (rest := []) (lenOf pd_2 rfl) rfl (by show 2 * 0 + _ ≤ _; exact Nat.le_of_eq rfl) (hb hby at_185) (fun _ _ => ⟨rfl, eT43t, (by decide : 1 + 0 ≤ _), (by decide : 8 + 0 ≤ _)⟩)
                  dsimp only [Pt.U, Pt.locs, Pt.cells, Pt.slots] at X44 l44 y44 z44 st44 hQ44
                  replace y44 : k44 = 1 := y44
                  replace z44 : n44 = 8 := z44
                  subst l44 y44 z44
                  refine own_go st44 ?_
                  obtain ⟨zz44, rfl, hzz44, N44q, eh44⟩ := hQ44
                  have N44 := Fr.app N43t N44q
                  show own_Ends p e below T44 (mkF m 188 #[.val (.long q0), .second, .val (.int p1), .val (.int c0), .val (.int c1), .val (.int c2), .val (.int c3), .val (.int c4), .val (.int c5), .val (.int c6), .val (.int c7), .val (.ref b9), .unset, .unset, .unset] [(.int zz44)]) _
                  suffices Jt44 : ∀ (T_ : State) (L_ : List Loc), Stand p l e room_1 s m #[(.long q0), (.int p1)] below meth c T_ L_ 1 8 → T_.heap = h17 → Fr n0 L_ → own_Ends p e below T_ (mkF m 188 #[.val (.long q0), .second, .val (.int p1), .val (.int c0), .val (.int c1), .val (.int c2), .val (.int c3), .val (.int c4), .val (.int c5), .val (.int c6), .val (.int c7), .val (.ref b9), .unset, .unset, .unset] [(.int zz44)]) (fun ou U' => ∃ v L, ou = .returned v ∧ Q_rm0 Z q0 p1 h0 n0 v U'.heap L ∧ FrameEnd s ou U' L room_1.cells room_1.slots) from Jt44 _ _ X44 eh44 N44
                  clear st44 X44 N44 N44q eh44
                  try clear Lc44
                  try clear T44
                  try clear N43t
                  try clear eT43t
                  try clear X43t
                  try clear L43t
                  try clear T43t
                  intro T44t L44t X44t eT44t N44t
                  by_cases hc188 : zz44 = (0 : Int32)
                  · refine own_go (fun _ => XS.ifYes X44t.here hx rfl (pc0 := 188) (pc' := 276) rfl (hb hby at_188) rfl ((if0 _ _).trans (teq hc188).1) (by decide) (by decide)) ?_
                    show own_Ends p e below T44t (mkF m 276 #[.val (.long q0), .second, .val (.int p1), .val (.int c0), .val (.int c1), .val (.int c2), .val (.int c3), .val (.int c4), .val (.int c5), .val (.int c6), .val (.int c7), .val (.ref b9), .unset, .unset, .unset] []) _
                    refine own_go (fun _ => XS.iconst X44t.here hx rfl (hb hby at_276)) ?_
                    show own_Ends p e below T44t (mkF m 277 #[.val (.long q0), .second, .val (.int p1), .val (.int c0), .val (.int c1), .val (.int c2), .val (.int c3), .val (.int c4), .val (.int c5), .val (.int c6), .val (.int c7), .val (.ref b9), .unset, .unset, .unset] [(.int (0 : Int32))]) _
                    refine own_go (fun _ => XS.istore X44t.here hx rfl (hb hby at_277) rfl (l' := #[.val (.long q0), .second, .val (.int p1), .val (.int c0), .val (.int c1), .val (.int c2), .val (.int c3), .val (.int c4), .val (.int c5), .val (.int c6), .val (.int c7), .val (.ref b9), .val (.int (0 : Int32)), .unset, .unset]) rfl) ?_
                    show own_Ends p e below T44t (mkF m 279 #[.val (.long q0), .second, .val (.int p1), .val (.int c0), .val (.int c1), .val (.int c2), .val (.int c3), .val (.int c4), .val (.int c5), .val (.int c6), .val (.int c7), .val (.ref b9), .val (.int (0 : Int32)), .unset, .unset] []) _
                    exact J279 _ _ X44t eT44t N44t _ ((own_sd1 (own_e1 hzz27 hc124)).trans ((own_sd1 (own_e1 hzz28 hc132)).trans ((own_sd1 (own_e1 hzz29 hc140)).trans ((own_sd1 (own_e1 hzz30 hc148)).trans ((own_sd1 (own_e1 hzz31 hc156)).trans ((own_sd1 (own_e1 hzz36 hc164)).trans ((own_sd1 (own_e1 hzz40 hc172)).trans ((own_sd0 (own_e0 hzz43 hc180)).trans (own_tp0 (own_e0 hzz44 hc188))))))))))
                  · refine own_go (fun _ => XS.ifNo X44t.here hx rfl (hb hby at_188) rfl ((if0 _ _).trans (feq hc188).1)) ?_
                    show own_Ends p e below T44t (mkF m 191 #[.val (.long q0), .second, .val (.int p1), .val (.int c0), .val (.int c1), .val (.int c2), .val (.int c3), .val (.int c4), .val (.int c5), .val (.int c6), .val (.int c7), .val (.ref b9), .unset, .unset, .unset] []) _
                    refine own_go (fun _ => XS.goto X44t.here hx rfl (pc0 := 191) (pc' := 272) rfl (hb hby at_191) (by decide) (by decide)) ?_
                    show own_Ends p e below T44t (mkF m 272 #[.val (.long q0), .second, .val (.int p1), .val (.int c0), .val (.int c1), .val (.int c2), .val (.int c3), .val (.int c4), .val (.int c5), .val (.int c6), .val (.int c7), .val (.ref b9), .unset, .unset, .unset] []) _
                    refine own_go (fun _ => XS.iconst X44t.here hx rfl (hb hby at_272)) ?_
                    show own_Ends p e below T44t (mkF m 273 #[.val (.long q0), .second, .val (.int p1), .val (.int c0), .val (.int c1), .val (.int c2), .val (.int c3), .val (.int c4), .val (.int c5), .val (.int c6), .val (.int c7), .val (.ref b9), .unset, .unset, .unset] [(.int (1 : Int32))]) _
                    refine own_go (fun _ => XS.goto X44t.here hx rfl (pc0 := 273) (pc' := 277) rfl (hb hby at_273) (by decide) (by decide)) ?_
                    show own_Ends p e below T44t (mkF m 277 #[.val (.long q0), .second, .val (.int p1), .val (.int c0), .val (.int c1), .val (.int c2), .val (.int c3), .val (.int c4), .val (.int c5), .val (.int c6), .val (.int c7), .val (.ref b9), .unset, .unset, .unset] [(.int (1 : Int32))]) _
                    refine own_go (fun _ => XS.istore X44t.here hx rfl (hb hby at_277) rfl (l' := #[.val (.long q0), .second, .val (.int p1), .val (.int c0), .val (.int c1), .val (.int c2), .val (.int c3), .val (.int c4), .val (.int c5), .val (.int c6), .val (.int c7), .val (.ref b9), .val (.int (1 : Int32)), .unset, .unset]) rfl) ?_
                    show own_Ends p e below T44t (mkF m 279 #[.val (.long q0), .second, .val (.int p1), .val (.int c0), .val (.int c1), .val (.int c2), .val (.int c3), .val (.int c4), .val (.int c5), .val (.int c6), .val (.int c7), .val (.ref b9), .val (.int (1 : Int32)), .unset, .unset] []) _
                    exact J279 _ _ X44t eT44t N44t _ ((own_sd1 (own_e1 hzz27 hc124)).trans ((own_sd1 (own_e1 hzz28 hc132)).trans ((own_sd1 (own_e1 hzz29 hc140)).trans ((own_sd1 (own_e1 hzz30 hc148)).trans ((own_sd1 (own_e1 hzz31 hc156)).trans ((own_sd1 (own_e1 hzz36 hc164)).trans ((own_sd1 (own_e1 hzz40 hc172)).trans ((own_sd0 (own_e0 hzz43 hc180)).trans ((own_tp1 (own_e1 hzz44 hc188)).trans (rfl))))))))))
                · refine own_go (fun _ => XS.ifYes X43t.here hx rfl (pc0 := 180) (pc' := 272) rfl (hb hby at_180) rfl ((if0 _ _).trans (feq hc180).2) (by decide) (by decide)) ?_
                  show own_Ends p e below T43t (mkF m 272 #[.val (.long q0), .second, .val (.int p1), .val (.int c0), .val (.int c1), .val (.int c2), .val (.int c3), .val (.int c4), .val (.int c5), .val (.int c6), .val (.int c7), .val (.ref b9), .unset, .unset, .unset] []) _
                  refine own_go (fun _ => XS.iconst X43t.here hx rfl (hb hby at_272)) ?_
                  show own_Ends p e below T43t (mkF m 273 #[.val (.long q0), .second, .val (.int p1), .val (.int c0), .val (.int c1), .val (.int c2), .val (.int c3), .val (.int c4), .val (.int c5), .val (.int c6), .val (.int c7), .val (.ref b9), .unset, .unset, .unset] [(.int (1 : Int32))]) _
                  refine own_go (fun _ => XS.goto X43t.here hx rfl (pc0 := 273) (pc' := 277) rfl (hb hby at_273) (by decide) (by decide)) ?_
                  show own_Ends p e below T43t (mkF m 277 #[.val (.long q0), .second, .val (.int p1), .val (.int c0), .val (.int c1), .val (.int c2), .val (.int c3), .val (.int c4), .val (.int c5), .val (.int c6), .val (.int c7), .val (.ref b9), .unset, .unset, .unset] [(.int (1 : Int32))]) _
                  refine own_go (fun _ => XS.istore X43t.here hx rfl (hb hby at_277) rfl (l' := #[.val (.long q0), .second, .val (.int p1), .val (.int c0), .val (.int c1), .val (.int c2), .val (.int c3), .val (.int c4), .val (.int c5), .val (.int c6), .val (.int c7), .val (.ref b9), .val (.int (1 : Int32)), .unset, .unset]) rfl) ?_
                  show own_Ends p e below T43t (mkF m 279 #[.val (.long q0), .second, .val (.int p1), .val (.int c0), .val (.int c1), .val (.int c2), .val (.int c3), .val (.int c4), .val (.int c5), .val (.int c6), .val (.int c7), .val (.ref b9), .val (.int (1 : Int32)), .unset, .unset] []) _
                  exact J279 _ _ X43t eT43t N43t _ ((own_sd1 (own_e1 hzz27 hc124)).trans ((own_sd1 (own_e1 hzz28 hc132)).trans ((own_sd1 (own_e1 hzz29 hc140)).trans ((own_sd1 (own_e1 hzz30 hc148)).trans ((own_sd1 (own_e1 hzz31 hc156)).trans ((own_sd1 (own_e1 hzz36 hc164)).trans ((own_sd1 (own_e1 hzz40 hc172)).trans ((own_sd1 (own_e1 hzz43 hc180)).trans (rfl)))))))))
set_option maxRecDepth 65536 in
set_option maxHeartbeats 40000000 in
theorem comes_1 {Post : Tables → Env → Array Value → State → Outcome → State → Prop} (hpost : ∀ tb e args s v u, (limb_1_1.after args s (.returned v) u = true ∧ limb_1_2.after args s (.returned v) u = true ∧ True) → FrameEnd s (.returned v) u (Jvm.fieldLocs frame_1_writes args s ++ Jvm.arrayLocs frame_1_arrays args s ++ Jvm.staticLocs frame_1_statics s) 16 128 → Post tb e args s (.returned v) u) :
    ArmFor flags0 classFile x code maxLocals ret World_1 tables_1 room_1 Calls_1 rest_1 Pre_1 Post := by
  intro l hfl _ _ p e ha hc hk s m args below hf hA hF happ hP
  obtain ⟨hcalls, hrest, hpre⟩ := hP
  obtain ⟨-, -, -, hnamed, -, -, -, hat⟩ := (Spec.applies_iff hf).mp happ
  obtain ⟨hg, hn⟩ := and_e (Cond.before_iff.mp (show (Jvm.Cond.and given_1 narrow_1).before args s = true from hpre))
  obtain ⟨gv1, gv2⟩ := and_e hg
  obtain ⟨gv3, gv4⟩ := and_e gv2
  obtain ⟨w0, w1, rfl⟩ : ∃ w0 w1 : Value, args = #[w0, w1] := by
    have hs : args.size = 2 := by simpa [Cond.value, given_1] using gv1
    obtain ⟨L⟩ := args
    match L, hs with
    | [w0, w1], _ => exact ⟨w0, w1, rfl⟩
  have hw := fun d (hd : d ∈ tables_1) => atoms_spec (ws := Jvm.Cond.code x code maxLocals ret :: tables_1) hat d (List.mem_cons_of_mem _ hd)
  obtain ⟨i0, ei0⟩ := isL_v gv3
  obtain rfl : w0 = (.long i0) := Option.some.inj ei0
  obtain ⟨i1, ei1⟩ := is_v gv4
  obtain rfl : w1 = (.int i1) := Option.some.inj ei1
  obtain ⟨n, o, h1, h2, h3, _, L, rfl, ⟨rfl, N⟩, hq⟩ := rm0 l s _ hw tables_1 i0 i1 s.heap s.heap.size (Nat.le_refl _) p e ha hc hk s m _ below hf ((Spec.applies_iff_loose hf).mp happ).1 ⟨rfl, State.Warmed39.refl s, rfl⟩ trivial
  refine ⟨n, _, h1, h2, h3, hpost _ _ _ _ _ _ ⟨Cond.after_iff.mpr rfl, Cond.after_iff.mpr (eq_i res_at (Term.int_eval (1)) rfl), trivial⟩ ⟨hq.1, hq.2.1, (hq.2.2.sift fun y hy => Or.inr (N y hy)).mono (by decide) (by decide)⟩⟩
theorem main_1_1 : Claimed_1_1 := comes_1 fun _ _ _ _ _ _ h hF => ⟨h.1, hF⟩
theorem main_1_2 : Claimed_1_2 := comes_1 fun _ _ _ _ _ _ h hF => ⟨h.2.1, hF⟩
end Jvm.Pilot.@@N@@
namespace Jvm.Pilot.@@N@@
open Jvm Jvm.ClassFile Sem Op Lib Jvm.Free Jvm.Stand Jvm.Pilot.@@N@@.Jvm.D
/-! MADE BY PROGRAM (witnessworld.py) out of the Statement's table words and the real class files: 9 classes; the members and pool entries that the words name. The judged class is class 1, her method 4. -/
namespace start1
open Jvm.ClassFile
def u (s : String) : CpInfo := .utf8 (stringToUtf16 s)
/-- a pool by its gaps: so many unusable entries, then the entry; so many at the end -/
def gap : Nat → List CpInfo → List CpInfo
  | 0, r => r
  | n + 1, r => .unusable :: gap n r
def poolList (es : List (Nat × CpInfo)) (last : Nat) : List CpInfo := es.foldr (fun e r => gap e.1 (e.2 :: r)) (gap last [])
def pool (es : List (Nat × CpInfo)) (last : Nat) : Array CpInfo := ⟨poolList es last⟩
def fileOf (pool : Array CpInfo) (this : Nat) (attrs : Array Attribute := #[]) (ms : Array MethodInfo := #[]) (fl : Nat := 33) (sup : Nat := 0) (ifs : Array Nat := #[]) (fds : Array FieldInfo := #[]) : ClassFile where
  minorVersion := 0
  majorVersion := 65
  constantPool := pool
  accessFlags := fl
  thisClass := this
  superClass := sup
  interfaces := ifs
  fields := fds
  methods := ms
  attributes := attrs
def plain (name : String) (sup : Option ClassId) : Class where
  name := name
  kind := .ordinary
  loader := none
  accessFlags := 33
  super := sup
  interfaces := #[]
  cf := none
  fields := #[]
  methods := #[]
  instanceTypes := #[]
  staticTypes := #[]
  resolved := #[]
  callSites := []
  init := .initialized
  statics := none
  mirror := none

def pool0 : Array CpInfo := pool [(5, u "<init>"), (0, u "()V"), (1, .class_ 10), (1, u "java/lang/Object")] 113

def k0m0 : Method := { name := "<init>", desc := "()V", sig := { parameters := [], returnType := none }, accessFlags := 1, code := none }
/-- java/lang/Object -/
def k0 : Class := { plain "java/lang/Object" none with
  accessFlags := 33
  interfaces := #[]
  cf := some (fileOf pool0 8 #[] #[{ accessFlags := 1, nameIndex := 5, descriptorIndex := 6, attributes := #[] }] 33 0 #[] #[])
  fields := #[]
  methods := #[k0m0]
  instanceTypes := #[]
  staticTypes := #[]
  resolved := Array.replicate 124 none
  statics := none }

def pool1 : Array CpInfo := pool [(2, .class_ 4), (1, u "java/lang/Object"), (0, u "<init>"), (0, u "()V"), (0, .long 255), (1, .methodref 10 11), (0, .class_ 12), (0, .nameAndType 13 14), (0, u "com/example/tessera/tessera/platform/SecretCodeIsPinValuePinLaw"), (0, u "pick"), (0, u "(JII)B"), (0, .methodref 10 16), (0, .nameAndType 17 18), (0, u "d"), (0, u "(B)Z"), (0, .methodref 10 20), (0, .nameAndType 21 18), (0, u "p"), (0, .methodref 23 24), (0, .class_ 25), (0, .nameAndType 26 27), (0, u "com/example/tessera/tessera/platform/SecretCode"), (0, u "isPinValue"), (0, u "([B)Z"), (3, u "law"), (0, u "(JI)Z")] 4

def k1m0 : Method := { name := "<init>", desc := "()V", sig := { parameters := [], returnType := none }, accessFlags := 1, code := none }
def k1c1 : Code := { maxStack := 4, maxLocals := 6, code := method_2_code, exceptionTable := #[], attributes := #[] }
def k1m1 : Method := { name := "pick", desc := "(JII)B", sig := { parameters := [.long, .int, .int], returnType := some .byte }, accessFlags := 10, code := some k1c1 }
def k1c2 : Code := { maxStack := 2, maxLocals := 1, code := method_3_code, exceptionTable := #[], attributes := #[] }
def k1m2 : Method := { name := "d", desc := "(B)Z", sig := { parameters := [.byte], returnType := some .boolean }, accessFlags := 10, code := some k1c2 }
def k1c3 : Code := { maxStack := 2, maxLocals := 1, code := method_4_code, exceptionTable := #[], attributes := #[] }
def k1m3 : Method := { name := "p", desc := "(B)Z", sig := { parameters := [.byte], returnType := some .boolean }, accessFlags := 10, code := some k1c3 }
def k1c4 : Code := { maxStack := 4, maxLocals := 15, code := code, exceptionTable := #[], attributes := #[] }
def k1m4 : Method := { name := "law", desc := "(JI)Z", sig := { parameters := [.long, .int], returnType := some .boolean }, accessFlags := 9, code := some k1c4 }
/-- com/example/tessera/tessera/platform/SecretCodeIsPinValuePinLaw -/
def k1 : Class := { plain "com/example/tessera/tessera/platform/SecretCodeIsPinValuePinLaw" (some 0) with
  accessFlags := 49
  interfaces := #[]
  cf := some (fileOf pool1 10 #[] #[{ accessFlags := 1, nameIndex := 5, descriptorIndex := 6, attributes := #[] }, { accessFlags := 10, nameIndex := 13, descriptorIndex := 14, attributes := #[] }, { accessFlags := 10, nameIndex := 17, descriptorIndex := 18, attributes := #[] }, { accessFlags := 10, nameIndex := 21, descriptorIndex := 18, attributes := #[] }, { accessFlags := 9, nameIndex := 31, descriptorIndex := 32, attributes := #[] }] 49 2 #[] #[])
  fields := #[]
  methods := #[k1m0, k1m1, k1m2, k1m3, k1m4]
  instanceTypes := #[]
  staticTypes := #[]
  resolved := Array.replicate 37 none
  statics := none }

def pool2 : Array CpInfo := pool [(2, .class_ 4), (1, u "java/lang/Object"), (3, .class_ 10), (1, u "com/example/tessera/tessera/platform/SecretCode"), (16, u "purpose"), (0, u "Lcom/example/tessera/tessera/platform/SecretCode$Purpose;"), (2, u "keyReference"), (0, u "I"), (2, u "value"), (0, u "[B"), (2, u "maxTries"), (2, u "triesLeft"), (2, u "enabled"), (0, u "Z"), (1, .class_ 50), (1, u "com/example/tessera/tessera/platform/SecretCode$Purpose"), (75, .class_ 127), (0, u "com/example/tessera/tessera/platform/SecretCode$State"), (12, u "PIN1"), (2, u "ADM1"), (1, u "LENGTH"), (1, u "PIN_TRIES"), (1, u "UNBLOCK_TRIES"), (0, u "MIN_PIN_DIGITS"), (1, u "UNIVERSAL_PIN"), (1, u "PAD"), (0, u "B"), (10, u "isPinValue"), (0, u "([B)Z")] 55

def k2c0 : Code := { maxStack := 2, maxLocals := 3, code := prog_52_method_7_code, exceptionTable := #[], attributes := #[] }
def k2m0 : Method := { name := "isPinValue", desc := "([B)Z", sig := { parameters := [(.array .byte)], returnType := some .boolean }, accessFlags := 8, code := some k2c0 }
/-- com/example/tessera/tessera/platform/SecretCode -/
def k2 : Class := { plain "com/example/tessera/tessera/platform/SecretCode" (some 0) with
  accessFlags := 49
  interfaces := #[]
  cf := some (fileOf pool2 8 #[.nestMembers #[126, 48]] #[{ accessFlags := 8, nameIndex := 166, descriptorIndex := 167, attributes := #[] }] 49 2 #[] #[{ accessFlags := 25, nameIndex := 140, descriptorIndex := 32, attributes := #[] }, { accessFlags := 25, nameIndex := 143, descriptorIndex := 32, attributes := #[] }, { accessFlags := 25, nameIndex := 145, descriptorIndex := 32, attributes := #[] }, { accessFlags := 26, nameIndex := 147, descriptorIndex := 32, attributes := #[] }, { accessFlags := 26, nameIndex := 149, descriptorIndex := 32, attributes := #[] }, { accessFlags := 26, nameIndex := 150, descriptorIndex := 32, attributes := #[] }, { accessFlags := 26, nameIndex := 152, descriptorIndex := 32, attributes := #[] }, { accessFlags := 26, nameIndex := 154, descriptorIndex := 155, attributes := #[] }, { accessFlags := 18, nameIndex := 27, descriptorIndex := 28, attributes := #[] }, { accessFlags := 18, nameIndex := 31, descriptorIndex := 32, attributes := #[] }, { accessFlags := 18, nameIndex := 39, descriptorIndex := 32, attributes := #[] }, { accessFlags := 2, nameIndex := 35, descriptorIndex := 36, attributes := #[] }, { accessFlags := 2, nameIndex := 42, descriptorIndex := 32, attributes := #[] }, { accessFlags := 2, nameIndex := 45, descriptorIndex := 46, attributes := #[] }])
  fields := #[{ name := "PIN1", type := .int, accessFlags := 25, slot := 0, constantValue := 0 }, { name := "ADM1", type := .int, accessFlags := 25, slot := 1, constantValue := 0 }, { name := "LENGTH", type := .int, accessFlags := 25, slot := 2, constantValue := 0 }, { name := "PIN_TRIES", type := .int, accessFlags := 26, slot := 3, constantValue := 0 }, { name := "UNBLOCK_TRIES", type := .int, accessFlags := 26, slot := 4, constantValue := 0 }, { name := "MIN_PIN_DIGITS", type := .int, accessFlags := 26, slot := 5, constantValue := 0 }, { name := "UNIVERSAL_PIN", type := .int, accessFlags := 26, slot := 6, constantValue := 0 }, { name := "PAD", type := .byte, accessFlags := 26, slot := 7, constantValue := 0 }, { name := "purpose", type := (.object "com/example/tessera/tessera/platform/SecretCode$Purpose"), accessFlags := 18, slot := 0, constantValue := 0 }, { name := "keyReference", type := .int, accessFlags := 18, slot := 1, constantValue := 0 }, { name := "maxTries", type := .int, accessFlags := 18, slot := 2, constantValue := 0 }, { name := "value", type := (.array .byte), accessFlags := 2, slot := 3, constantValue := 0 }, { name := "triesLeft", type := .int, accessFlags := 2, slot := 4, constantValue := 0 }, { name := "enabled", type := .boolean, accessFlags := 2, slot := 5, constantValue := 0 }]
  methods := #[k2m0]
  instanceTypes := #[(.object "com/example/tessera/tessera/platform/SecretCode$Purpose"), .int, .int, (.array .byte), .int, .boolean]
  staticTypes := #[.int, .int, .int, .int, .int, .int, .int, .byte]
  resolved := Array.replicate 223 none
  statics := none }

def pool3 : Array CpInfo := pool [(1, u "java/lang/Cloneable"), (0, .class_ 1), (0, u "java/lang/Object"), (0, .class_ 3)] 3

/-- java/lang/Cloneable -/
def k3 : Class := { plain "java/lang/Cloneable" (some 0) with
  accessFlags := 1537
  interfaces := #[]
  cf := some (fileOf pool3 2 #[] #[] 1537 4 #[] #[])
  fields := #[]
  methods := #[]
  instanceTypes := #[]
  staticTypes := #[]
  resolved := Array.replicate 8 none
  statics := none }

def pool4 : Array CpInfo := pool [(1, u "java/io/Serializable"), (0, .class_ 1), (0, u "java/lang/Object"), (0, .class_ 3)] 3

/-- java/io/Serializable -/
def k4 : Class := { plain "java/io/Serializable" (some 0) with
  accessFlags := 1537
  interfaces := #[]
  cf := some (fileOf pool4 2 #[] #[] 1537 4 #[] #[])
  fields := #[]
  methods := #[]
  instanceTypes := #[]
  staticTypes := #[]
  resolved := Array.replicate 8 none
  statics := none }

/-- the primitive byte -/
def k5 : Class := { plain "byte" none with kind := .primitive 'B', accessFlags := 0x411 }
/-- [B -/
def k6 : Class := { plain "[B" (some 0) with kind := .array 5 .byte, interfaces := #[3, 4], accessFlags := 1041 }

/-- the primitive int -/
def k7 : Class := { plain "int" none with kind := .primitive 'I', accessFlags := 0x411 }
/-- [I -/
def k8 : Class := { plain "[I" (some 0) with kind := .array 7 .int, interfaces := #[3, 4], accessFlags := 1041 }

def heap : Heap := #[]
def classes : Array Class := #[k0, k1, k2, k3, k4, k5, k6, k7, k8]
def interned : List (Array UInt16 × Addr) := []
def slotsUsed : Nat := 0
def theMethod : MethodId := ⟨1, 4⟩
def args0 : Array Value := #[.long 5, .int 40]
def aboutOver (below : List Frame) : State where
  vm := { classes := classes, interned := interned.toArray }
  heap := heap
  slotsUsed := slotsUsed
  threads := #[{ frames := .invoking theMethod args0 :: below }]
def below0 : List Frame := [.native { method := ⟨0, 0⟩, args := #[] }]
def about1 : State := aboutOver below0
def p0 : Program := .bare "" "" ""
def e0 : Env := launch0.env 0 0 0
theorem w_frames : about1.frames = Frame.invoking theMethod args0 :: below0 := rfl
set_option maxRecDepth 65536 in
theorem w_args : argsFit about1.vm theMethod args0 = true := by decide +kernel
set_option maxRecDepth 65536 in
theorem w_heap : heapFits about1 = true := by decide +kernel
set_option maxRecDepth 65536 in
theorem w_runnable : about1.curStatus? = some .runnable := by decide +kernel
set_option maxRecDepth 65536 in
theorem w_alone : about1.alone = true := by decide +kernel
set_option maxRecDepth 65536 in
theorem w_named : about1.methodNamed? x = some theMethod := by decide +kernel
set_option maxRecDepth 65536 in
theorem w_hears : about1.hears theMethod below0 = true := by decide +kernel
set_option maxRecDepth 65536 in
theorem w_ripe : about1.ripe theMethod args0 below0 = true := by decide +kernel
theorem w_running : about1.status = .running := rfl
set_option maxRecDepth 65536 in
theorem w_room : about1.hasRoom e0.platform room_1 = true :=
  launch0.hasRoom_least _ room_1 (by decide +kernel) (by decide +kernel) (by decide +kernel) (by decide +kernel) (by decide +kernel) (by decide +kernel)
theorem allAtoms_all (ts : List Jvm.Cond) (a : Array Jvm.Value) (st : Jvm.State) : (allAtoms ts).before a st = ts.all (fun c => c.before a st) := by
  induction ts with
  | nil => rfl
  | cons c t ih =>
    show (Jvm.Cond.and c (allAtoms t)).before a st = _
    rw [Jvm.Cond.before_and, ih, List.all_cons]
def words1 : List Jvm.Cond := Jvm.Cond.code x code maxLocals ret :: tables_1
/-- a 'code' word, met by the world's own term for the bytes: nothing is compared byte by byte -/
theorem code_word {y : MethodName} {bytes : ByteArray} {mx : Nat} {rt : Option FieldType} {a : Array Value} {s : State} {m : MethodId} {meth : Method} {c : Code} (h1 : s.methodNamed? y = some m) (h2 : s.vm.method? m = some meth) (h3 : meth.code = some c) (h4 : c.code = bytes)
    (h5 : (c.maxLocals == mx && c.exceptionTable.isEmpty && decide (c.maxStack ≤ mostOperands) && decide (meth.sig.returnType = rt) && !meth.locks && decide (parseMethodDescriptor y.desc = some meth.sig)) = true) : (Jvm.Cond.code y bytes mx rt).before a s = true := by
  simp only [Bool.and_eq_true, beq_iff_eq, Bool.not_eq_true', decide_eq_true_eq] at h5
  obtain ⟨⟨⟨⟨⟨g1, g2⟩, g3⟩, g4⟩, g5⟩, g6⟩ := h5
  simp [Cond.before, Cond.holds, Cond.value, h1, h2, h3, h4, g1, g2, g3, g4, g5, g6]
def isCode : Jvm.Cond → Bool
  | .code _ _ _ _ => true
  | _ => false
theorem all_split {L : List Jvm.Cond} {P : Jvm.Cond → Bool} (h1 : L.all (fun c => isCode c || P c) = true) (h2 : ∀ c ∈ L.filter isCode, P c = true) : L.all P = true := by
  refine List.all_eq_true.mpr fun c hc => ?_
  have h := List.all_eq_true.mp h1 c hc
  rcases Bool.eq_false_or_eq_true (isCode c) with hi | hi
  · exact h2 c (List.mem_filter.mpr ⟨hc, hi⟩)
  · simpa [hi] using h
set_option maxRecDepth 65536 in
theorem w_c0 : (Jvm.Cond.code x code maxLocals ret).before args0 about1 = true := code_word (m := ⟨1, 4⟩) (meth := k1m4) (c := k1c4) (by decide +kernel) rfl rfl rfl (by decide +kernel)
set_option maxRecDepth 65536 in
theorem w_c1 : (Jvm.Cond.code ({ cls := "com/example/tessera/tessera/platform/SecretCodeIsPinValuePinLaw", name := "pick", desc := "(JII)B" } : Jvm.MethodName) method_2_code (6 : Nat) (Option.some Jvm.ClassFile.FieldType.byte)).before args0 about1 = true := code_word (m := ⟨1, 1⟩) (meth := k1m1) (c := k1c1) (by decide +kernel) rfl rfl rfl (by decide +kernel)
set_option maxRecDepth 65536 in
theorem w_c2 : (Jvm.Cond.code ({ cls := "com/example/tessera/tessera/platform/SecretCodeIsPinValuePinLaw", name := "d", desc := "(B)Z" } : Jvm.MethodName) method_3_code (1 : Nat) (Option.some Jvm.ClassFile.FieldType.boolean)).before args0 about1 = true := code_word (m := ⟨1, 2⟩) (meth := k1m2) (c := k1c2) (by decide +kernel) rfl rfl rfl (by decide +kernel)
set_option maxRecDepth 65536 in
theorem w_c3 : (Jvm.Cond.code ({ cls := "com/example/tessera/tessera/platform/SecretCode", name := "isPinValue", desc := "([B)Z" } : Jvm.MethodName) prog_52_method_7_code (3 : Nat) (Option.some Jvm.ClassFile.FieldType.boolean)).before args0 about1 = true := code_word (m := ⟨2, 0⟩) (meth := k2m0) (c := k2c0) (by decide +kernel) rfl rfl rfl (by decide +kernel)
set_option maxRecDepth 65536 in
theorem w_c4 : (Jvm.Cond.code ({ cls := "com/example/tessera/tessera/platform/SecretCodeIsPinValuePinLaw", name := "p", desc := "(B)Z" } : Jvm.MethodName) method_4_code (1 : Nat) (Option.some Jvm.ClassFile.FieldType.boolean)).before args0 about1 = true := code_word (m := ⟨1, 3⟩) (meth := k1m3) (c := k1c3) (by decide +kernel) rfl rfl rfl (by decide +kernel)
def codes1 : List Jvm.Cond := [Jvm.Cond.code x code maxLocals ret, Jvm.Cond.code ({ cls := "com/example/tessera/tessera/platform/SecretCodeIsPinValuePinLaw", name := "pick", desc := "(JII)B" } : Jvm.MethodName) method_2_code (6 : Nat) (Option.some Jvm.ClassFile.FieldType.byte), Jvm.Cond.code ({ cls := "com/example/tessera/tessera/platform/SecretCodeIsPinValuePinLaw", name := "d", desc := "(B)Z" } : Jvm.MethodName) method_3_code (1 : Nat) (Option.some Jvm.ClassFile.FieldType.boolean), Jvm.Cond.code ({ cls := "com/example/tessera/tessera/platform/SecretCode", name := "isPinValue", desc := "([B)Z" } : Jvm.MethodName) prog_52_method_7_code (3 : Nat) (Option.some Jvm.ClassFile.FieldType.boolean), Jvm.Cond.code ({ cls := "com/example/tessera/tessera/platform/SecretCodeIsPinValuePinLaw", name := "p", desc := "(B)Z" } : Jvm.MethodName) method_4_code (1 : Nat) (Option.some Jvm.ClassFile.FieldType.boolean)]
set_option maxRecDepth 65536 in
theorem codes_eq : words1.filter isCode = codes1 := rfl
theorem w_codes : ∀ c ∈ words1.filter isCode, c.before args0 about1 = true := by
  rw [codes_eq]
  intro c hc
  simp only [codes1, List.mem_cons, List.not_mem_nil, or_false] at hc
  rcases hc with rfl | rfl | rfl | rfl | rfl
  · exact w_c0
  · exact w_c1
  · exact w_c2
  · exact w_c3
  · exact w_c4
set_option maxRecDepth 65536 in
theorem w_t1 : words1.all (fun c => isCode c || c.before args0 about1) = true := by decide +kernel
theorem w_tables : (allAtoms (Jvm.Cond.code x code maxLocals ret :: tables_1)).before args0 about1 = true := by
  rw [allAtoms_all]
  show words1.all (fun c => c.before args0 about1) = true
  refine all_split ?_ w_codes
  rw [w_t1]
set_option maxRecDepth 65536 in
theorem w_case : (Jvm.Cond.and given_1 narrow_1).before args0 about1 = true := by decide +kernel
theorem w_applies : (headSpec (Jvm.Cond.code x code maxLocals ret :: tables_1) room_1).applies x e0.platform about1 = true :=
  (Spec.applies_iff w_frames).mpr ⟨w_running, w_runnable, w_alone, w_named, w_hears, w_ripe, w_room, w_tables⟩
theorem atStart : AtStart classFile x code maxLocals ret World_1 tables_1 room_1 Calls_1 rest_1 Pre_1 launch0 p0 e0 about1 theMethod args0 below0 :=
  ⟨lists_1, trivial, launch0.admits_env _ _ _, launch0.least_env, fairChoices_fair.cas, fairChoices_fair.clock, w_frames, w_args, w_heap, w_applies, trivial, trivial, w_case⟩
end start1
theorem witness_1 : WitnessClaimed_1 := ⟨start1.p0, start1.e0, start1.about1, start1.theMethod, start1.args0, start1.below0, start1.atStart⟩
end Jvm.Pilot.@@N@@
