import JvmDerived
import JvmDerived.Pilot.@@N@@Statement
import JvmDerived.Pilot.@@N@@Code
set_option linter.unusedVariables false
set_option linter.unusedSimpArgs false
namespace Jvm.RoadKit
open Sem ClassFile Op Lib Jvm.Stand Jvm.Free Jvm.LawKit
section New
variable {p : Program} {l : Launch} {e : Env} {R : Room} {s : State} {m : MethodId} {args : Array Value} {below : List Frame} {meth : Method} {c : Code} {T : State} {locs : List Loc} {cells slots : Nat}
theorem retI (X : Stand p l e R s m args below meth c T locs cells slots) (hx : p.tables.exec = Jvm.exec) {pc : Nat} {Ls : Array Slot} {z : Int32} {rest : List Value} (hret : meth.sig.returnType = some .int) (hd : decode c.code pc = .ok (.ireturn, 1)) {fs : List Frame}
    (hl : ∀ (f : JFrame) (acts : List Action), f.method = m → f.locked = none → f.entered = [] → (doReturn e (T.setTop f) acts (some (.int z))).1 = T.setFrames fs) : Steps p.tables e below (T.setTop (mkF m pc Ls (.int z :: rest))) (T.setFrames fs) := by
  have hm' : T.vm.method? m = some meth := X.method'
  have hn : narrow .int (.int z) = .int z := rfl
  show Steps p.tables e below (T.setTop { method := m, pc := pc, locals := Ls, stack := _ :: rest, locked := none }) _
  jvm_step X.here [X.here.top, hx, hd, hm', hret, hn]
  first | (intro acts; rw [hl _ acts rfl rfl rfl]) | rw [hl _ _ rfl rfl rfl]
  exact Steps.refl _
end New
end Jvm.RoadKit
namespace Jvm.Pilot.@@N@@
open Jvm Jvm.ClassFile Sem Op Lib Jvm.Free Jvm.Stand Jvm.LawKit Jvm.RoadKit Bundle Jvm.Pilot.@@N@@.Jvm.D
def own_Ends (p : Program) (e : Env) (below : List Frame) (T : State) (g : JFrame) (P : Outcome → State → Prop) : Prop := ∃ s₂ o, Steps p.tables e below (T.setTop g) s₂ ∧ s₂.status = .running ∧ Ended s₂ below o ∧ P o s₂
theorem own_go {p : Program} {e : Env} {below : List Frame} {T T' : State} {g g' : JFrame} {P : Outcome → State → Prop} (h : ∀ t, Steps p.tables e below (T'.setTop g') t → Steps p.tables e below (T.setTop g) t) (k : own_Ends p e below T' g' P) : own_Ends p e below T g P := by
  obtain ⟨a, o, q, r⟩ := k
  exact ⟨a, o, h _ q, r⟩
def own_Len (Z : State) (h : Heap) (a : Addr) (ty : FieldType) (n : Int32) : Prop := ∃ c : Cell, Arr Z h a c ty ∧ c.slots.size = n.toNatClampNeg ∧ ¬ n < 0
theorem own_Len.lt {Z : State} {h : Heap} {a : Addr} {ty : FieldType} {n : Int32} (F : own_Len Z h a ty n) : a < h.size := by obtain ⟨c, A, -⟩ := F; exact A.lt
theorem own_Len.ext {Z : State} {h h' : Heap} {a : Addr} {ty : FieldType} {n : Int32} (F : own_Len Z h a ty n) (E : Ext h h') : own_Len Z h' a ty n := by obtain ⟨c, A, r⟩ := F; exact ⟨c, A.ext E, r⟩
theorem own_Len.other {Z : State} {h h' : Heap} {a b : Addr} {ty : FieldType} {n : Int32} {sl : Nat} {v : Value} (F : own_Len Z h b ty n) (W : Wr h h' a sl v) (q : b ≠ a) : own_Len Z h' b ty n := by obtain ⟨c, A, r⟩ := F; exact ⟨c, A.other W q, r⟩
theorem own_Len.same {Z : State} {h h' : Heap} {a : Addr} {ty : FieldType} {n : Int32} {sl : Nat} {v : Value} (F : own_Len Z h a ty n) (W : Wr h h' a sl v) : own_Len Z h' a ty n := by obtain ⟨c, A, r1, r2⟩ := F; exact ⟨_, A.same W, by rw [sz_set]; exact r1, r2⟩
theorem own_Len.keep {Z : State} {h h' : Heap} {a : Addr} {ty : FieldType} {n : Int32} {ws : List Addr} (F : own_Len Z h a ty n) (K : Keep h h' ws) (q : a ∉ ws) : own_Len Z h' a ty n := by obtain ⟨c, A, r⟩ := F; exact ⟨c, ⟨K.2.1 a c A.1 q, A.2⟩, r⟩
theorem own_as {p : Program} {e : Env} {below : List Frame} {T : State} {g g' : JFrame} {P : Outcome → State → Prop} (h : g = g') (k : own_Ends p e below T g' P) : own_Ends p e below T g P := h ▸ k

def own_pin (k : Int32) : Int32 := if (k &&& (127 : Int32)) < (1 : Int32) then (if k = (17 : Int32) then 1 else 0) else if (8 : Int32) < (k &&& (127 : Int32)) then (if k = (17 : Int32) then 1 else 0) else 1
def own_exp (k : Int32) : Int32 := if k < (1 : Int32) ∨ (8 : Int32) < k then (if k < (129 : Int32) ∨ (136 : Int32) < k then (if k = (17 : Int32) then 1 else 0) else 1) else 1
theorem own_fin : ∀ k : Fin 256, own_pin (Int32.ofInt (k.val : Int)) = own_exp (Int32.ofInt (k.val : Int)) := by decide +kernel
theorem own_same (x : Int32) : own_pin (x &&& (255 : Int32)) = own_exp (x &&& (255 : Int32)) := by
  have h := c_mask x 255 8 (by decide) (by decide)
  generalize x &&& (255 : Int32) = c at h
  have hi : (0 : Int) ≤ c.toInt ∧ c.toInt < 256 := by omega
  have hk := own_fin ⟨c.toInt.toNat, by omega⟩
  have e : ((c.toInt.toNat : Nat) : Int) = c.toInt := by omega
  simp only [e, Int32.ofInt_toInt] at hk
  exact hk
theorem d1_0 : decode prog_52_method_6_code 0 = .ok (.iload_n 0, 1) := by decide +kernel
theorem d1_1 : decode prog_52_method_6_code 1 = .ok (.bipush 127, 2) := by decide +kernel
theorem d1_3 : decode prog_52_method_6_code 3 = .ok (.iand, 1) := by decide +kernel
theorem d1_4 : decode prog_52_method_6_code 4 = .ok (.istore_n 1, 1) := by decide +kernel
theorem d1_5 : decode prog_52_method_6_code 5 = .ok (.iload_n 1, 1) := by decide +kernel
theorem d1_6 : decode prog_52_method_6_code 6 = .ok (.iconst 1, 1) := by decide +kernel
theorem d1_7 : decode prog_52_method_6_code 7 = .ok (.if_icmp .lt 9, 3) := by decide +kernel
theorem d1_10 : decode prog_52_method_6_code 10 = .ok (.iload_n 1, 1) := by decide +kernel
theorem d1_11 : decode prog_52_method_6_code 11 = .ok (.bipush 8, 2) := by decide +kernel
theorem d1_13 : decode prog_52_method_6_code 13 = .ok (.if_icmp .le 9, 3) := by decide +kernel
theorem d1_16 : decode prog_52_method_6_code 16 = .ok (.iload_n 0, 1) := by decide +kernel
theorem d1_17 : decode prog_52_method_6_code 17 = .ok (.bipush 17, 2) := by decide +kernel
theorem d1_19 : decode prog_52_method_6_code 19 = .ok (.if_icmp .ne 7, 3) := by decide +kernel
theorem d1_22 : decode prog_52_method_6_code 22 = .ok (.iconst 1, 1) := by decide +kernel
theorem d1_23 : decode prog_52_method_6_code 23 = .ok (.goto 4, 3) := by decide +kernel
theorem d1_26 : decode prog_52_method_6_code 26 = .ok (.iconst 0, 1) := by decide +kernel
theorem d1_27 : decode prog_52_method_6_code 27 = .ok (.ireturn, 1) := by decide +kernel
theorem pn_1 : plainName "com/example/tessera/tessera/platform/SecretCode" = true := by first | (simp [plainName, overriddenIn]; done) | decide +kernel
theorem ef_1 (m : MethodId) (p0 : Int32) : entryFrame m #[(.int p0)] 2 = mkF m 0 #[.val (.int p0), .unset] [] := by first | (simp [entryFrame, mkF, argsToLocals, Value.category]; done) | rfl
def Q_rm1 (Z : State) (p0 : Int32) (h0 : Heap) (n0 : Nat) (v : Option Value) (h : Heap) (L : List Loc) : Prop := v = some (.int (own_pin p0)) ∧ Fr n0 L ∧ h = h0
set_option maxRecDepth 65536 in
set_option maxHeartbeats 40000000 in
theorem rm1 (l : Launch) (Z : State) (a0 : Array Value) (hw : ∀ d ∈ tables_1, d.before a0 Z = true) (ws : List Jvm.Cond) (p0 : Int32) (h0 : Heap) (n0 : Nat) (Z0 : n0 ≤ h0.size) :
    MetFree l (⟨"com/example/tessera/tessera/platform/SecretCode", "isPin", "(I)Z"⟩ : MethodName) (head1 (Jvm.Cond.code (⟨"com/example/tessera/tessera/platform/SecretCode", "isPin", "(I)Z"⟩ : MethodName) prog_52_method_6_code 2 (some .boolean) :: ws) ({ frames := 0, cells := 0, slots := 0, locals := 0 } : Room)) (fun a U => a = #[(.int p0)] ∧ Z.Warmed39 U.vm ∧ U.heap = h0) (fun _ _ _ _ _ => True) (fun _ U o U' => ∃ v L, o = .returned v ∧ Q_rm1 Z p0 h0 n0 v U'.heap L ∧ FrameEnd U o U' L ({ frames := 0, cells := 0, slots := 0, locals := 0 } : Room).cells ({ frames := 0, cells := 0, slots := 0, locals := 0 } : Room).slots) := by
  refine MetFree.of_bodySF (plainFor_of_name pn_1) hisR ?_
  intro p e s m args below meth c s₁ Bd hml0 hP hK
  obtain ⟨rfl, hZ, hh⟩ := hP
  have hx := Bd.exec
  have hby := Bd.bytes
  have hml : c.maxLocals = 2 := hml0
  have hown : s.vm.findClass "com/example/tessera/tessera/platform/SecretCode" = some m.cls := findClass_of_methodNamed Bd.named
  have hnm := (name_of_methodNamed Bd.named Bd.method).1
  have X0 : Stand p l e ({ frames := 0, cells := 0, slots := 0, locals := 0 } : Room) s m #[(.int p0)] below meth c s₁ [] 0 0 := Stand.of_body Bd
  have e0 : s₁.heap = h0 := by rw [← hh, Bd.state]; rfl
  have N0 := Fr.nil n0
  have K0 := Keep.refl h0 []
  refine own_as (ef_1 m p0) ?_
  show own_Ends p e below s₁ (mkF m 0 #[.val (.int p0), .unset] []) _
  refine own_go (fun _ => XS.iloadN X0.here hx rfl (hb hby d1_0) rfl) ?_
  show own_Ends p e below s₁ (mkF m 1 #[.val (.int p0), .unset] [(.int p0)]) _
  refine own_go (fun _ => XS.bipush X0.here hx rfl (hb hby d1_1)) ?_
  show own_Ends p e below s₁ (mkF m 3 #[.val (.int p0), .unset] [(.int (127 : Int32)), (.int p0)]) _
  refine own_go (fun _ => XS.iand X0.here hx rfl (hb hby d1_3) rfl) ?_
  show own_Ends p e below s₁ (mkF m 4 #[.val (.int p0), .unset] [(.int (p0 &&& (127 : Int32)))]) _
  refine own_go (fun _ => XS.istoreN X0.here hx rfl (hb hby d1_4) rfl (l' := #[.val (.int p0), .val (.int (p0 &&& (127 : Int32)))]) rfl) ?_
  show own_Ends p e below s₁ (mkF m 5 #[.val (.int p0), .val (.int (p0 &&& (127 : Int32)))] []) _
  refine own_go (fun _ => XS.iloadN X0.here hx rfl (hb hby d1_5) rfl) ?_
  show own_Ends p e below s₁ (mkF m 6 #[.val (.int p0), .val (.int (p0 &&& (127 : Int32)))] [(.int (p0 &&& (127 : Int32)))]) _
  refine own_go (fun _ => XS.iconst X0.here hx rfl (hb hby d1_6)) ?_
  show own_Ends p e below s₁ (mkF m 7 #[.val (.int p0), .val (.int (p0 &&& (127 : Int32)))] [(.int (1 : Int32)), (.int (p0 &&& (127 : Int32)))]) _
  by_cases hc7 : (p0 &&& (127 : Int32)) < (1 : Int32)
  · refine own_go (fun _ => XS.icmpYes X0.here hx rfl (pc0 := 7) (pc' := 16) rfl (hb hby d1_7) rfl (tlt hc7).1 (by decide) (by decide)) ?_
    show own_Ends p e below s₁ (mkF m 16 #[.val (.int p0), .val (.int (p0 &&& (127 : Int32)))] []) _
    refine own_go (fun _ => XS.iloadN X0.here hx rfl (hb hby d1_16) rfl) ?_
    show own_Ends p e below s₁ (mkF m 17 #[.val (.int p0), .val (.int (p0 &&& (127 : Int32)))] [(.int p0)]) _
    refine own_go (fun _ => XS.bipush X0.here hx rfl (hb hby d1_17)) ?_
    show own_Ends p e below s₁ (mkF m 19 #[.val (.int p0), .val (.int (p0 &&& (127 : Int32)))] [(.int (17 : Int32)), (.int p0)]) _
    by_cases hc19 : p0 = (17 : Int32)
    · refine own_go (fun _ => XS.icmpNo X0.here hx rfl (hb hby d1_19) rfl (teq hc19).2) ?_
      show own_Ends p e below s₁ (mkF m 22 #[.val (.int p0), .val (.int (p0 &&& (127 : Int32)))] []) _
      refine own_go (fun _ => XS.iconst X0.here hx rfl (hb hby d1_22)) ?_
      show own_Ends p e below s₁ (mkF m 23 #[.val (.int p0), .val (.int (p0 &&& (127 : Int32)))] [(.int (1 : Int32))]) _
      refine own_go (fun _ => XS.goto X0.here hx rfl (pc0 := 23) (pc' := 27) rfl (hb hby d1_23) (by decide) (by decide)) ?_
      show own_Ends p e below s₁ (mkF m 27 #[.val (.int p0), .val (.int (p0 &&& (127 : Int32)))] [(.int (1 : Int32))]) _
      obtain ⟨fs, hr, hrun, hended, hW, hsame⟩ := X0.leave (v := some (.int (1 : Int32))) (fun h => by rw [Bd.returns] at h; cases h)
      refine ⟨_, _, retN X0 hx (t := .boolean) Bd.returns (by simp) (hb hby d1_27) hr, hrun, hended, _, _, rfl, ?_, ⟨_, rfl⟩, hW, hsame.mono (by decide) (by decide)⟩
      show Q_rm1 Z p0 h0 n0 _ s₁.heap _
      rw [e0]
      exact ⟨by simp [own_pin, hc7, hc19], N0, rfl⟩
    · refine own_go (fun _ => XS.icmpYes X0.here hx rfl (pc0 := 19) (pc' := 26) rfl (hb hby d1_19) rfl (feq hc19).2 (by decide) (by decide)) ?_
      show own_Ends p e below s₁ (mkF m 26 #[.val (.int p0), .val (.int (p0 &&& (127 : Int32)))] []) _
      refine own_go (fun _ => XS.iconst X0.here hx rfl (hb hby d1_26)) ?_
      show own_Ends p e below s₁ (mkF m 27 #[.val (.int p0), .val (.int (p0 &&& (127 : Int32)))] [(.int (0 : Int32))]) _
      obtain ⟨fs, hr, hrun, hended, hW, hsame⟩ := X0.leave (v := some (.int (0 : Int32))) (fun h => by rw [Bd.returns] at h; cases h)
      refine ⟨_, _, retN X0 hx (t := .boolean) Bd.returns (by simp) (hb hby d1_27) hr, hrun, hended, _, _, rfl, ?_, ⟨_, rfl⟩, hW, hsame.mono (by decide) (by decide)⟩
      show Q_rm1 Z p0 h0 n0 _ s₁.heap _
      rw [e0]
      exact ⟨by simp [own_pin, hc7, hc19], N0, rfl⟩
  · refine own_go (fun _ => XS.icmpNo X0.here hx rfl (hb hby d1_7) rfl (flt hc7).1) ?_
    show own_Ends p e below s₁ (mkF m 10 #[.val (.int p0), .val (.int (p0 &&& (127 : Int32)))] []) _
    refine own_go (fun _ => XS.iloadN X0.here hx rfl (hb hby d1_10) rfl) ?_
    show own_Ends p e below s₁ (mkF m 11 #[.val (.int p0), .val (.int (p0 &&& (127 : Int32)))] [(.int (p0 &&& (127 : Int32)))]) _
    refine own_go (fun _ => XS.bipush X0.here hx rfl (hb hby d1_11)) ?_
    show own_Ends p e below s₁ (mkF m 13 #[.val (.int p0), .val (.int (p0 &&& (127 : Int32)))] [(.int (8 : Int32)), (.int (p0 &&& (127 : Int32)))]) _
    by_cases hc13 : (8 : Int32) < (p0 &&& (127 : Int32))
    · refine own_go (fun _ => XS.icmpNo X0.here hx rfl (hb hby d1_13) rfl (tlt hc13).2.2.2) ?_
      show own_Ends p e below s₁ (mkF m 16 #[.val (.int p0), .val (.int (p0 &&& (127 : Int32)))] []) _
      refine own_go (fun _ => XS.iloadN X0.here hx rfl (hb hby d1_16) rfl) ?_
      show own_Ends p e below s₁ (mkF m 17 #[.val (.int p0), .val (.int (p0 &&& (127 : Int32)))] [(.int p0)]) _
      refine own_go (fun _ => XS.bipush X0.here hx rfl (hb hby d1_17)) ?_
      show own_Ends p e below s₁ (mkF m 19 #[.val (.int p0), .val (.int (p0 &&& (127 : Int32)))] [(.int (17 : Int32)), (.int p0)]) _
      by_cases hc19 : p0 = (17 : Int32)
      · refine own_go (fun _ => XS.icmpNo X0.here hx rfl (hb hby d1_19) rfl (teq hc19).2) ?_
        show own_Ends p e below s₁ (mkF m 22 #[.val (.int p0), .val (.int (p0 &&& (127 : Int32)))] []) _
        refine own_go (fun _ => XS.iconst X0.here hx rfl (hb hby d1_22)) ?_
        show own_Ends p e below s₁ (mkF m 23 #[.val (.int p0), .val (.int (p0 &&& (127 : Int32)))] [(.int (1 : Int32))]) _
        refine own_go (fun _ => XS.goto X0.here hx rfl (pc0 := 23) (pc' := 27) rfl (hb hby d1_23) (by decide) (by decide)) ?_
        show own_Ends p e below s₁ (mkF m 27 #[.val (.int p0), .val (.int (p0 &&& (127 : Int32)))] [(.int (1 : Int32))]) _
        obtain ⟨fs, hr, hrun, hended, hW, hsame⟩ := X0.leave (v := some (.int (1 : Int32))) (fun h => by rw [Bd.returns] at h; cases h)
        refine ⟨_, _, retN X0 hx (t := .boolean) Bd.returns (by simp) (hb hby d1_27) hr, hrun, hended, _, _, rfl, ?_, ⟨_, rfl⟩, hW, hsame.mono (by decide) (by decide)⟩
        show Q_rm1 Z p0 h0 n0 _ s₁.heap _
        rw [e0]
        exact ⟨by simp [own_pin, hc7, hc13, hc19], N0, rfl⟩
      · refine own_go (fun _ => XS.icmpYes X0.here hx rfl (pc0 := 19) (pc' := 26) rfl (hb hby d1_19) rfl (feq hc19).2 (by decide) (by decide)) ?_
        show own_Ends p e below s₁ (mkF m 26 #[.val (.int p0), .val (.int (p0 &&& (127 : Int32)))] []) _
        refine own_go (fun _ => XS.iconst X0.here hx rfl (hb hby d1_26)) ?_
        show own_Ends p e below s₁ (mkF m 27 #[.val (.int p0), .val (.int (p0 &&& (127 : Int32)))] [(.int (0 : Int32))]) _
        obtain ⟨fs, hr, hrun, hended, hW, hsame⟩ := X0.leave (v := some (.int (0 : Int32))) (fun h => by rw [Bd.returns] at h; cases h)
        refine ⟨_, _, retN X0 hx (t := .boolean) Bd.returns (by simp) (hb hby d1_27) hr, hrun, hended, _, _, rfl, ?_, ⟨_, rfl⟩, hW, hsame.mono (by decide) (by decide)⟩
        show Q_rm1 Z p0 h0 n0 _ s₁.heap _
        rw [e0]
        exact ⟨by simp [own_pin, hc7, hc13, hc19], N0, rfl⟩
    · refine own_go (fun _ => XS.icmpYes X0.here hx rfl (pc0 := 13) (pc' := 22) rfl (hb hby d1_13) rfl (flt hc13).2.2.2 (by decide) (by decide)) ?_
      show own_Ends p e below s₁ (mkF m 22 #[.val (.int p0), .val (.int (p0 &&& (127 : Int32)))] []) _
      refine own_go (fun _ => XS.iconst X0.here hx rfl (hb hby d1_22)) ?_
      show own_Ends p e below s₁ (mkF m 23 #[.val (.int p0), .val (.int (p0 &&& (127 : Int32)))] [(.int (1 : Int32))]) _
      refine own_go (fun _ => XS.goto X0.here hx rfl (pc0 := 23) (pc' := 27) rfl (hb hby d1_23) (by decide) (by decide)) ?_
      show own_Ends p e below s₁ (mkF m 27 #[.val (.int p0), .val (.int (p0 &&& (127 : Int32)))] [(.int (1 : Int32))]) _
      obtain ⟨fs, hr, hrun, hended, hW, hsame⟩ := X0.leave (v := some (.int (1 : Int32))) (fun h => by rw [Bd.returns] at h; cases h)
      refine ⟨_, _, retN X0 hx (t := .boolean) Bd.returns (by simp) (hb hby d1_27) hr, hrun, hended, _, _, rfl, ?_, ⟨_, rfl⟩, hW, hsame.mono (by decide) (by decide)⟩
      show Q_rm1 Z p0 h0 n0 _ s₁.heap _
      rw [e0]
      exact ⟨by simp [own_pin, hc7, hc13], N0, rfl⟩
theorem pn_0 : plainName "com/example/tessera/tessera/platform/SecretCodeIsPinPinLaw" = true := by first | (simp [plainName, overriddenIn]; done) | decide +kernel
theorem ef_0 (m : MethodId) (p0 : Int32) : entryFrame m #[(.int p0)] maxLocals = mkF m 0 #[.val (.int p0), .unset, .unset] [] := by first | (simp [entryFrame, mkF, argsToLocals, Value.category, maxLocals]; done) | rfl
def Q_rm0 (Z : State) (p0 : Int32) (h0 : Heap) (n0 : Nat) (v : Option Value) (h : Heap) (L : List Loc) : Prop := v = some (.int 1) ∧ Fr n0 L
theorem pd_0 : parseMethodDescriptor "(I)Z" = some ⟨[.int], some .boolean⟩ := by decide +kernel
set_option maxRecDepth 65536 in
set_option maxHeartbeats 40000000 in
theorem rm0 (l : Launch) (Z : State) (a0 : Array Value) (hw : ∀ d ∈ tables_1, d.before a0 Z = true) (ws : List Jvm.Cond) (p0 : Int32) (h0 : Heap) (n0 : Nat) (Z0 : n0 ≤ h0.size) :
    MetFree l x (head1 (Jvm.Cond.code x code maxLocals ret :: ws) room_1) (fun a U => a = #[(.int p0)] ∧ Z.Warmed39 U.vm ∧ U.heap = h0) (fun _ _ _ _ _ => True) (fun _ U o U' => ∃ v L, o = .returned v ∧ Q_rm0 Z p0 h0 n0 v U'.heap L ∧ FrameEnd U o U' L room_1.cells room_1.slots) := by
  refine MetFree.of_bodySF (plainFor_of_name pn_0) hisR ?_
  intro p e s m args below meth c s₁ Bd hml0 hP hK
  obtain ⟨rfl, hZ, hh⟩ := hP
  have hx := Bd.exec
  have hby := Bd.bytes
  have hml : c.maxLocals = 3 := hml0
  have hown : s.vm.findClass "com/example/tessera/tessera/platform/SecretCodeIsPinPinLaw" = some m.cls := findClass_of_methodNamed Bd.named
  have hnm := (name_of_methodNamed Bd.named Bd.method).1
  have X0 : Stand p l e room_1 s m #[(.int p0)] below meth c s₁ [] 0 0 := Stand.of_body Bd
  have e0 : s₁.heap = h0 := by rw [← hh, Bd.state]; rfl
  have N0 := Fr.nil n0
  have K0 := Keep.refl h0 []
  refine own_as (ef_0 m p0) ?_
  show own_Ends p e below s₁ (mkF m 0 #[.val (.int p0), .unset, .unset] []) _
  refine own_go (fun _ => XS.iloadN X0.here hx rfl (hb hby at_0) rfl) ?_
  show own_Ends p e below s₁ (mkF m 1 #[.val (.int p0), .unset, .unset] [(.int p0)]) _
  refine own_go (fun _ => XS.sipush X0.here hx rfl (hb hby at_1)) ?_
  show own_Ends p e below s₁ (mkF m 4 #[.val (.int p0), .unset, .unset] [(.int (255 : Int32)), (.int p0)]) _
  refine own_go (fun _ => XS.iand X0.here hx rfl (hb hby at_4) rfl) ?_
  show own_Ends p e below s₁ (mkF m 5 #[.val (.int p0), .unset, .unset] [(.int (p0 &&& (255 : Int32)))]) _
  refine own_go (fun _ => XS.istoreN X0.here hx rfl (hb hby at_5) rfl (l' := #[.val (.int p0), .val (.int (p0 &&& (255 : Int32))), .unset]) rfl) ?_
  show own_Ends p e below s₁ (mkF m 6 #[.val (.int p0), .val (.int (p0 &&& (255 : Int32))), .unset] []) _
  refine own_go (fun _ => XS.iloadN X0.here hx rfl (hb hby at_6) rfl) ?_
  show own_Ends p e below s₁ (mkF m 7 #[.val (.int p0), .val (.int (p0 &&& (255 : Int32))), .unset] [(.int (p0 &&& (255 : Int32)))]) _
  refine own_go (fun _ => XS.iconst X0.here hx rfl (hb hby at_7)) ?_
  show own_Ends p e below s₁ (mkF m 8 #[.val (.int p0), .val (.int (p0 &&& (255 : Int32))), .unset] [(.int (1 : Int32)), (.int (p0 &&& (255 : Int32)))]) _
  by_cases hc8 : (p0 &&& (255 : Int32)) < (1 : Int32)
  · refine own_go (fun _ => XS.icmpYes X0.here hx rfl (pc0 := 8) (pc' := 22) rfl (hb hby at_8) rfl (tlt hc8).1 (by decide) (by decide)) ?_
    show own_Ends p e below s₁ (mkF m 22 #[.val (.int p0), .val (.int (p0 &&& (255 : Int32))), .unset] []) _
    refine own_go (fun _ => XS.iloadN X0.here hx rfl (hb hby at_22) rfl) ?_
    show own_Ends p e below s₁ (mkF m 23 #[.val (.int p0), .val (.int (p0 &&& (255 : Int32))), .unset] [(.int (p0 &&& (255 : Int32)))]) _
    refine own_go (fun _ => XS.sipush X0.here hx rfl (hb hby at_23)) ?_
    show own_Ends p e below s₁ (mkF m 26 #[.val (.int p0), .val (.int (p0 &&& (255 : Int32))), .unset] [(.int (129 : Int32)), (.int (p0 &&& (255 : Int32)))]) _
    by_cases hc26 : (p0 &&& (255 : Int32)) < (129 : Int32)
    · refine own_go (fun _ => XS.icmpYes X0.here hx rfl (pc0 := 26) (pc' := 41) rfl (hb hby at_26) rfl (tlt hc26).1 (by decide) (by decide)) ?_
      show own_Ends p e below s₁ (mkF m 41 #[.val (.int p0), .val (.int (p0 &&& (255 : Int32))), .unset] []) _
      refine own_go (fun _ => XS.iloadN X0.here hx rfl (hb hby at_41) rfl) ?_
      show own_Ends p e below s₁ (mkF m 42 #[.val (.int p0), .val (.int (p0 &&& (255 : Int32))), .unset] [(.int (p0 &&& (255 : Int32)))]) _
      refine own_go (fun _ => XS.bipush X0.here hx rfl (hb hby at_42)) ?_
      show own_Ends p e below s₁ (mkF m 44 #[.val (.int p0), .val (.int (p0 &&& (255 : Int32))), .unset] [(.int (17 : Int32)), (.int (p0 &&& (255 : Int32)))]) _
      by_cases hc44 : (p0 &&& (255 : Int32)) = (17 : Int32)
      · refine own_go (fun _ => XS.icmpNo X0.here hx rfl (hb hby at_44) rfl (teq hc44).2) ?_
        show own_Ends p e below s₁ (mkF m 47 #[.val (.int p0), .val (.int (p0 &&& (255 : Int32))), .unset] []) _
        refine own_go (fun _ => XS.iconst X0.here hx rfl (hb hby at_47)) ?_
        show own_Ends p e below s₁ (mkF m 48 #[.val (.int p0), .val (.int (p0 &&& (255 : Int32))), .unset] [(.int (1 : Int32))]) _
        refine own_go (fun _ => XS.istoreN X0.here hx rfl (hb hby at_48) rfl (l' := #[.val (.int p0), .val (.int (p0 &&& (255 : Int32))), .val (.int (1 : Int32))]) rfl) ?_
        show own_Ends p e below s₁ (mkF m 49 #[.val (.int p0), .val (.int (p0 &&& (255 : Int32))), .val (.int (1 : Int32))] []) _
        refine own_go (fun _ => XS.goto X0.here hx rfl (pc0 := 49) (pc' := 54) rfl (hb hby at_49) (by decide) (by decide)) ?_
        show own_Ends p e below s₁ (mkF m 54 #[.val (.int p0), .val (.int (p0 &&& (255 : Int32))), .val (.int (1 : Int32))] []) _
        refine own_go (fun _ => XS.iloadN X0.here hx rfl (hb hby at_54) rfl) ?_
        show own_Ends p e below s₁ (mkF m 55 #[.val (.int p0), .val (.int (p0 &&& (255 : Int32))), .val (.int (1 : Int32))] [(.int (p0 &&& (255 : Int32)))]) _
        obtain ⟨_, _, ⟨T1, L1, k1, n1⟩, -, X1, ⟨Lc1, hQ1, l1, y1, z1⟩, st1⟩ := Jvm.LawKit.callS X0 hx (y := (⟨"com/example/tessera/tessera/platform/SecretCode", "isPin", "(I)Z"⟩ : MethodName)) hown (mvT hZ (hw _ (List.mem_of_getElem? (i := 0) rfl))) (mvT hZ (hw _ (List.mem_of_getElem? (i := 1) rfl))) (mvT hZ (hw _ (List.mem_of_getElem? (i := 2) rfl))) (mvT hZ (hw _ (List.mem_of_getElem? (i := 3) rfl))) (by decide) (backOf (W := 0) (rm1 l Z a0 hw [] ((p0 &&& (255 : Int32)))  h0 n0 Z0 ) hZ (hw _ (List.mem_of_getElem? (i := 3) rfl)) (hw _ (List.mem_of_getElem? (i := 2) rfl)) (by decide) (by decide)) (g := (mkF m 55 #[.val (.int p0), .val (.int (p0 &&& (255 : Int32))), .val (.int (1 : Int32))] [(.int (p0 &&& (255 : Int32)))])) rfl (by rw [hml]; rfl) (argsL := [(.int (p0 &&& (255 : Int32)))]) (rest := []) (lenOf pd_0 rfl) rfl (by show 2 * 0 + _ ≤ _; exact Nat.le_of_eq rfl) (hb hby at_55) (fun _ _ => ⟨rfl, e0, (by decide : 0 + 0 ≤ _), (by decide : 0 + 0 ≤ _)⟩)
        dsimp only [Pt.U, Pt.locs, Pt.cells, Pt.slots] at X1 l1 y1 z1 st1 hQ1
        subst l1 y1 z1
        refine own_go st1 ?_
        obtain ⟨rfl, N1q, eh1⟩ := hQ1
        have N1 := Fr.app N0 N1q
        show own_Ends p e below T1 (mkF m 58 #[.val (.int p0), .val (.int (p0 &&& (255 : Int32))), .val (.int (1 : Int32))] [(.int (own_pin (p0 &&& (255 : Int32))))]) _
        refine own_go (fun _ => XS.iloadN X1.here hx rfl (hb hby at_58) rfl) ?_
        show own_Ends p e below T1 (mkF m 59 #[.val (.int p0), .val (.int (p0 &&& (255 : Int32))), .val (.int (1 : Int32))] [(.int (1 : Int32)), (.int (own_pin (p0 &&& (255 : Int32))))]) _
        refine own_go (fun _ => XS.icmpNo X1.here hx rfl (hb hby at_59) rfl (teq (show (own_pin (p0 &&& (255 : Int32))) = (1 : Int32) from (own_same _).trans (by simp [own_exp, hc8, hc26, hc44]))).2) ?_
        show own_Ends p e below T1 (mkF m 62 #[.val (.int p0), .val (.int (p0 &&& (255 : Int32))), .val (.int (1 : Int32))] []) _
        refine own_go (fun _ => XS.iconst X1.here hx rfl (hb hby at_62)) ?_
        show own_Ends p e below T1 (mkF m 63 #[.val (.int p0), .val (.int (p0 &&& (255 : Int32))), .val (.int (1 : Int32))] [(.int (1 : Int32))]) _
        refine own_go (fun _ => XS.goto X1.here hx rfl (pc0 := 63) (pc' := 67) rfl (hb hby at_63) (by decide) (by decide)) ?_
        show own_Ends p e below T1 (mkF m 67 #[.val (.int p0), .val (.int (p0 &&& (255 : Int32))), .val (.int (1 : Int32))] [(.int (1 : Int32))]) _
        obtain ⟨fs, hr, hrun, hended, hW, hsame⟩ := X1.leave (v := some (.int (1 : Int32))) (fun h => by rw [Bd.returns] at h; cases h)
        refine ⟨_, _, retN X1 hx (t := .boolean) Bd.returns (by simp) (hb hby at_67) hr, hrun, hended, _, _, rfl, ?_, ⟨_, rfl⟩, hW, hsame.mono (by decide) (by decide)⟩
        show Q_rm0 Z p0 h0 n0 _ T1.heap _
        rw [eh1]
        exact ⟨rfl, N1⟩
      · refine own_go (fun _ => XS.icmpYes X0.here hx rfl (pc0 := 44) (pc' := 52) rfl (hb hby at_44) rfl (feq hc44).2 (by decide) (by decide)) ?_
        show own_Ends p e below s₁ (mkF m 52 #[.val (.int p0), .val (.int (p0 &&& (255 : Int32))), .unset] []) _
        refine own_go (fun _ => XS.iconst X0.here hx rfl (hb hby at_52)) ?_
        show own_Ends p e below s₁ (mkF m 53 #[.val (.int p0), .val (.int (p0 &&& (255 : Int32))), .unset] [(.int (0 : Int32))]) _
        refine own_go (fun _ => XS.istoreN X0.here hx rfl (hb hby at_53) rfl (l' := #[.val (.int p0), .val (.int (p0 &&& (255 : Int32))), .val (.int (0 : Int32))]) rfl) ?_
        show own_Ends p e below s₁ (mkF m 54 #[.val (.int p0), .val (.int (p0 &&& (255 : Int32))), .val (.int (0 : Int32))] []) _
        refine own_go (fun _ => XS.iloadN X0.here hx rfl (hb hby at_54) rfl) ?_
        show own_Ends p e below s₁ (mkF m 55 #[.val (.int p0), .val (.int (p0 &&& (255 : Int32))), .val (.int (0 : Int32))] [(.int (p0 &&& (255 : Int32)))]) _
        obtain ⟨_, _, ⟨T2, L2, k2, n2⟩, -, X2, ⟨Lc2, hQ2, l2, y2, z2⟩, st2⟩ := Jvm.LawKit.callS X0 hx (y := (⟨"com/example/tessera/tessera/platform/SecretCode", "isPin", "(I)Z"⟩ : MethodName)) hown (mvT hZ (hw _ (List.mem_of_getElem? (i := 0) rfl))) (mvT hZ (hw _ (List.mem_of_getElem? (i := 1) rfl))) (mvT hZ (hw _ (List.mem_of_getElem? (i := 2) rfl))) (mvT hZ (hw _ (List.mem_of_getElem? (i := 3) rfl))) (by decide) (backOf (W := 0) (rm1 l Z a0 hw [] ((p0 &&& (255 : Int32)))  h0 n0 Z0 ) hZ (hw _ (List.mem_of_getElem? (i := 3) rfl)) (hw _ (List.mem_of_getElem? (i := 2) rfl)) (by decide) (by decide)) (g := (mkF m 55 #[.val (.int p0), .val (.int (p0 &&& (255 : Int32))), .val (.int (0 : Int32))] [(.int (p0 &&& (255 : Int32)))])) rfl (by rw [hml]; rfl) (argsL := [(.int (p0 &&& (255 : Int32)))]) (rest := []) (lenOf pd_0 rfl) rfl (by show 2 * 0 + _ ≤ _; exact Nat.le_of_eq rfl) (hb hby at_55) (fun _ _ => ⟨rfl, e0, (by decide : 0 + 0 ≤ _), (by decide : 0 + 0 ≤ _)⟩)
        dsimp only [Pt.U, Pt.locs, Pt.cells, Pt.slots] at X2 l2 y2 z2 st2 hQ2
        subst l2 y2 z2
        refine own_go st2 ?_
        obtain ⟨rfl, N2q, eh2⟩ := hQ2
        have N2 := Fr.app N0 N2q
        show own_Ends p e below T2 (mkF m 58 #[.val (.int p0), .val (.int (p0 &&& (255 : Int32))), .val (.int (0 : Int32))] [(.int (own_pin (p0 &&& (255 : Int32))))]) _
        refine own_go (fun _ => XS.iloadN X2.here hx rfl (hb hby at_58) rfl) ?_
        show own_Ends p e below T2 (mkF m 59 #[.val (.int p0), .val (.int (p0 &&& (255 : Int32))), .val (.int (0 : Int32))] [(.int (0 : Int32)), (.int (own_pin (p0 &&& (255 : Int32))))]) _
        refine own_go (fun _ => XS.icmpNo X2.here hx rfl (hb hby at_59) rfl (teq (show (own_pin (p0 &&& (255 : Int32))) = (0 : Int32) from (own_same _).trans (by simp [own_exp, hc8, hc26, hc44]))).2) ?_
        show own_Ends p e below T2 (mkF m 62 #[.val (.int p0), .val (.int (p0 &&& (255 : Int32))), .val (.int (0 : Int32))] []) _
        refine own_go (fun _ => XS.iconst X2.here hx rfl (hb hby at_62)) ?_
        show own_Ends p e below T2 (mkF m 63 #[.val (.int p0), .val (.int (p0 &&& (255 : Int32))), .val (.int (0 : Int32))] [(.int (1 : Int32))]) _
        refine own_go (fun _ => XS.goto X2.here hx rfl (pc0 := 63) (pc' := 67) rfl (hb hby at_63) (by decide) (by decide)) ?_
        show own_Ends p e below T2 (mkF m 67 #[.val (.int p0), .val (.int (p0 &&& (255 : Int32))), .val (.int (0 : Int32))] [(.int (1 : Int32))]) _
        obtain ⟨fs, hr, hrun, hended, hW, hsame⟩ := X2.leave (v := some (.int (1 : Int32))) (fun h => by rw [Bd.returns] at h; cases h)
        refine ⟨_, _, retN X2 hx (t := .boolean) Bd.returns (by simp) (hb hby at_67) hr, hrun, hended, _, _, rfl, ?_, ⟨_, rfl⟩, hW, hsame.mono (by decide) (by decide)⟩
        show Q_rm0 Z p0 h0 n0 _ T2.heap _
        rw [eh2]
        exact ⟨rfl, N2⟩
    · refine own_go (fun _ => XS.icmpNo X0.here hx rfl (hb hby at_26) rfl (flt hc26).1) ?_
      show own_Ends p e below s₁ (mkF m 29 #[.val (.int p0), .val (.int (p0 &&& (255 : Int32))), .unset] []) _
      refine own_go (fun _ => XS.iloadN X0.here hx rfl (hb hby at_29) rfl) ?_
      show own_Ends p e below s₁ (mkF m 30 #[.val (.int p0), .val (.int (p0 &&& (255 : Int32))), .unset] [(.int (p0 &&& (255 : Int32)))]) _
      refine own_go (fun _ => XS.sipush X0.here hx rfl (hb hby at_30)) ?_
      show own_Ends p e below s₁ (mkF m 33 #[.val (.int p0), .val (.int (p0 &&& (255 : Int32))), .unset] [(.int (136 : Int32)), (.int (p0 &&& (255 : Int32)))]) _
      by_cases hc33 : (136 : Int32) < (p0 &&& (255 : Int32))
      · refine own_go (fun _ => XS.icmpYes X0.here hx rfl (pc0 := 33) (pc' := 41) rfl (hb hby at_33) rfl (tlt hc33).2.2.1 (by decide) (by decide)) ?_
        show own_Ends p e below s₁ (mkF m 41 #[.val (.int p0), .val (.int (p0 &&& (255 : Int32))), .unset] []) _
        refine own_go (fun _ => XS.iloadN X0.here hx rfl (hb hby at_41) rfl) ?_
        show own_Ends p e below s₁ (mkF m 42 #[.val (.int p0), .val (.int (p0 &&& (255 : Int32))), .unset] [(.int (p0 &&& (255 : Int32)))]) _
        refine own_go (fun _ => XS.bipush X0.here hx rfl (hb hby at_42)) ?_
        show own_Ends p e below s₁ (mkF m 44 #[.val (.int p0), .val (.int (p0 &&& (255 : Int32))), .unset] [(.int (17 : Int32)), (.int (p0 &&& (255 : Int32)))]) _
        by_cases hc44 : (p0 &&& (255 : Int32)) = (17 : Int32)
        · refine own_go (fun _ => XS.icmpNo X0.here hx rfl (hb hby at_44) rfl (teq hc44).2) ?_
          show own_Ends p e below s₁ (mkF m 47 #[.val (.int p0), .val (.int (p0 &&& (255 : Int32))), .unset] []) _
          refine own_go (fun _ => XS.iconst X0.here hx rfl (hb hby at_47)) ?_
          show own_Ends p e below s₁ (mkF m 48 #[.val (.int p0), .val (.int (p0 &&& (255 : Int32))), .unset] [(.int (1 : Int32))]) _
          refine own_go (fun _ => XS.istoreN X0.here hx rfl (hb hby at_48) rfl (l' := #[.val (.int p0), .val (.int (p0 &&& (255 : Int32))), .val (.int (1 : Int32))]) rfl) ?_
          show own_Ends p e below s₁ (mkF m 49 #[.val (.int p0), .val (.int (p0 &&& (255 : Int32))), .val (.int (1 : Int32))] []) _
          refine own_go (fun _ => XS.goto X0.here hx rfl (pc0 := 49) (pc' := 54) rfl (hb hby at_49) (by decide) (by decide)) ?_
          show own_Ends p e below s₁ (mkF m 54 #[.val (.int p0), .val (.int (p0 &&& (255 : Int32))), .val (.int (1 : Int32))] []) _
          refine own_go (fun _ => XS.iloadN X0.here hx rfl (hb hby at_54) rfl) ?_
          show own_Ends p e below s₁ (mkF m 55 #[.val (.int p0), .val (.int (p0 &&& (255 : Int32))), .val (.int (1 : Int32))] [(.int (p0 &&& (255 : Int32)))]) _
          obtain ⟨_, _, ⟨T3, L3, k3, n3⟩, -, X3, ⟨Lc3, hQ3, l3, y3, z3⟩, st3⟩ := Jvm.LawKit.callS X0 hx (y := (⟨"com/example/tessera/tessera/platform/SecretCode", "isPin", "(I)Z"⟩ : MethodName)) hown (mvT hZ (hw _ (List.mem_of_getElem? (i := 0) rfl))) (mvT hZ (hw _ (List.mem_of_getElem? (i := 1) rfl))) (mvT hZ (hw _ (List.mem_of_getElem? (i := 2) rfl))) (mvT hZ (hw _ (List.mem_of_getElem? (i := 3) rfl))) (by decide) (backOf (W := 0) (rm1 l Z a0 hw [] ((p0 &&& (255 : Int32)))  h0 n0 Z0 ) hZ (hw _ (List.mem_of_getElem? (i := 3) rfl)) (hw _ (List.mem_of_getElem? (i := 2) rfl)) (by decide) (by decide)) (g := (mkF m 55 #[.val (.int p0), .val (.int (p0 &&& (255 : Int32))), .val (.int (1 : Int32))] [(.int (p0 &&& (255 : Int32)))])) rfl (by rw [hml]; rfl) (argsL := [(.int (p0 &&& (255 : Int32)))]) (rest := []) (lenOf pd_0 rfl) rfl (by show 2 * 0 + _ ≤ _; exact Nat.le_of_eq rfl) (hb hby at_55) (fun _ _ => ⟨rfl, e0, (by decide : 0 + 0 ≤ _), (by decide : 0 + 0 ≤ _)⟩)
          dsimp only [Pt.U, Pt.locs, Pt.cells, Pt.slots] at X3 l3 y3 z3 st3 hQ3
          subst l3 y3 z3
          refine own_go st3 ?_
          obtain ⟨rfl, N3q, eh3⟩ := hQ3
          have N3 := Fr.app N0 N3q
          show own_Ends p e below T3 (mkF m 58 #[.val (.int p0), .val (.int (p0 &&& (255 : Int32))), .val (.int (1 : Int32))] [(.int (own_pin (p0 &&& (255 : Int32))))]) _
          refine own_go (fun _ => XS.iloadN X3.here hx rfl (hb hby at_58) rfl) ?_
          show own_Ends p e below T3 (mkF m 59 #[.val (.int p0), .val (.int (p0 &&& (255 : Int32))), .val (.int (1 : Int32))] [(.int (1 : Int32)), (.int (own_pin (p0 &&& (255 : Int32))))]) _
          refine own_go (fun _ => XS.icmpNo X3.here hx rfl (hb hby at_59) rfl (teq (show (own_pin (p0 &&& (255 : Int32))) = (1 : Int32) from (own_same _).trans (by simp [own_exp, hc8, hc26, hc33, hc44]))).2) ?_
          show own_Ends p e below T3 (mkF m 62 #[.val (.int p0), .val (.int (p0 &&& (255 : Int32))), .val (.int (1 : Int32))] []) _
          refine own_go (fun _ => XS.iconst X3.here hx rfl (hb hby at_62)) ?_
          show own_Ends p e below T3 (mkF m 63 #[.val (.int p0), .val (.int (p0 &&& (255 : Int32))), .val (.int (1 : Int32))] [(.int (1 : Int32))]) _
          refine own_go (fun _ => XS.goto X3.here hx rfl (pc0 := 63) (pc' := 67) rfl (hb hby at_63) (by decide) (by decide)) ?_
          show own_Ends p e below T3 (mkF m 67 #[.val (.int p0), .val (.int (p0 &&& (255 : Int32))), .val (.int (1 : Int32))] [(.int (1 : Int32))]) _
          obtain ⟨fs, hr, hrun, hended, hW, hsame⟩ := X3.leave (v := some (.int (1 : Int32))) (fun h => by rw [Bd.returns] at h; cases h)
          refine ⟨_, _, retN X3 hx (t := .boolean) Bd.returns (by simp) (hb hby at_67) hr, hrun, hended, _, _, rfl, ?_, ⟨_, rfl⟩, hW, hsame.mono (by decide) (by decide)⟩
          show Q_rm0 Z p0 h0 n0 _ T3.heap _
          rw [eh3]
          exact ⟨rfl, N3⟩
        · refine own_go (fun _ => XS.icmpYes X0.here hx rfl (pc0 := 44) (pc' := 52) rfl (hb hby at_44) rfl (feq hc44).2 (by decide) (by decide)) ?_
          show own_Ends p e below s₁ (mkF m 52 #[.val (.int p0), .val (.int (p0 &&& (255 : Int32))), .unset] []) _
          refine own_go (fun _ => XS.iconst X0.here hx rfl (hb hby at_52)) ?_
          show own_Ends p e below s₁ (mkF m 53 #[.val (.int p0), .val (.int (p0 &&& (255 : Int32))), .unset] [(.int (0 : Int32))]) _
          refine own_go (fun _ => XS.istoreN X0.here hx rfl (hb hby at_53) rfl (l' := #[.val (.int p0), .val (.int (p0 &&& (255 : Int32))), .val (.int (0 : Int32))]) rfl) ?_
          show own_Ends p e below s₁ (mkF m 54 #[.val (.int p0), .val (.int (p0 &&& (255 : Int32))), .val (.int (0 : Int32))] []) _
          refine own_go (fun _ => XS.iloadN X0.here hx rfl (hb hby at_54) rfl) ?_
          show own_Ends p e below s₁ (mkF m 55 #[.val (.int p0), .val (.int (p0 &&& (255 : Int32))), .val (.int (0 : Int32))] [(.int (p0 &&& (255 : Int32)))]) _
          obtain ⟨_, _, ⟨T4, L4, k4, n4⟩, -, X4, ⟨Lc4, hQ4, l4, y4, z4⟩, st4⟩ := Jvm.LawKit.callS X0 hx (y := (⟨"com/example/tessera/tessera/platform/SecretCode", "isPin", "(I)Z"⟩ : MethodName)) hown (mvT hZ (hw _ (List.mem_of_getElem? (i := 0) rfl))) (mvT hZ (hw _ (List.mem_of_getElem? (i := 1) rfl))) (mvT hZ (hw _ (List.mem_of_getElem? (i := 2) rfl))) (mvT hZ (hw _ (List.mem_of_getElem? (i := 3) rfl))) (by decide) (backOf (W := 0) (rm1 l Z a0 hw [] ((p0 &&& (255 : Int32)))  h0 n0 Z0 ) hZ (hw _ (List.mem_of_getElem? (i := 3) rfl)) (hw _ (List.mem_of_getElem? (i := 2) rfl)) (by decide) (by decide)) (g := (mkF m 55 #[.val (.int p0), .val (.int (p0 &&& (255 : Int32))), .val (.int (0 : Int32))] [(.int (p0 &&& (255 : Int32)))])) rfl (by rw [hml]; rfl) (argsL := [(.int (p0 &&& (255 : Int32)))]) (rest := []) (lenOf pd_0 rfl) rfl (by show 2 * 0 + _ ≤ _; exact Nat.le_of_eq rfl) (hb hby at_55) (fun _ _ => ⟨rfl, e0, (by decide : 0 + 0 ≤ _), (by decide : 0 + 0 ≤ _)⟩)
          dsimp only [Pt.U, Pt.locs, Pt.cells, Pt.slots] at X4 l4 y4 z4 st4 hQ4
          subst l4 y4 z4
          refine own_go st4 ?_
          obtain ⟨rfl, N4q, eh4⟩ := hQ4
          have N4 := Fr.app N0 N4q
          show own_Ends p e below T4 (mkF m 58 #[.val (.int p0), .val (.int (p0 &&& (255 : Int32))), .val (.int (0 : Int32))] [(.int (own_pin (p0 &&& (255 : Int32))))]) _
          refine own_go (fun _ => XS.iloadN X4.here hx rfl (hb hby at_58) rfl) ?_
          show own_Ends p e below T4 (mkF m 59 #[.val (.int p0), .val (.int (p0 &&& (255 : Int32))), .val (.int (0 : Int32))] [(.int (0 : Int32)), (.int (own_pin (p0 &&& (255 : Int32))))]) _
          refine own_go (fun _ => XS.icmpNo X4.here hx rfl (hb hby at_59) rfl (teq (show (own_pin (p0 &&& (255 : Int32))) = (0 : Int32) from (own_same _).trans (by simp [own_exp, hc8, hc26, hc33, hc44]))).2) ?_
          show own_Ends p e below T4 (mkF m 62 #[.val (.int p0), .val (.int (p0 &&& (255 : Int32))), .val (.int (0 : Int32))] []) _
          refine own_go (fun _ => XS.iconst X4.here hx rfl (hb hby at_62)) ?_
          show own_Ends p e below T4 (mkF m 63 #[.val (.int p0), .val (.int (p0 &&& (255 : Int32))), .val (.int (0 : Int32))] [(.int (1 : Int32))]) _
          refine own_go (fun _ => XS.goto X4.here hx rfl (pc0 := 63) (pc' := 67) rfl (hb hby at_63) (by decide) (by decide)) ?_
          show own_Ends p e below T4 (mkF m 67 #[.val (.int p0), .val (.int (p0 &&& (255 : Int32))), .val (.int (0 : Int32))] [(.int (1 : Int32))]) _
          obtain ⟨fs, hr, hrun, hended, hW, hsame⟩ := X4.leave (v := some (.int (1 : Int32))) (fun h => by rw [Bd.returns] at h; cases h)
          refine ⟨_, _, retN X4 hx (t := .boolean) Bd.returns (by simp) (hb hby at_67) hr, hrun, hended, _, _, rfl, ?_, ⟨_, rfl⟩, hW, hsame.mono (by decide) (by decide)⟩
          show Q_rm0 Z p0 h0 n0 _ T4.heap _
          rw [eh4]
          exact ⟨rfl, N4⟩
      · refine own_go (fun _ => XS.icmpNo X0.here hx rfl (hb hby at_33) rfl (flt hc33).2.2.1) ?_
        show own_Ends p e below s₁ (mkF m 36 #[.val (.int p0), .val (.int (p0 &&& (255 : Int32))), .unset] []) _
        refine own_go (fun _ => XS.iconst X0.here hx rfl (hb hby at_36)) ?_
        show own_Ends p e below s₁ (mkF m 37 #[.val (.int p0), .val (.int (p0 &&& (255 : Int32))), .unset] [(.int (1 : Int32))]) _
        refine own_go (fun _ => XS.istoreN X0.here hx rfl (hb hby at_37) rfl (l' := #[.val (.int p0), .val (.int (p0 &&& (255 : Int32))), .val (.int (1 : Int32))]) rfl) ?_
        show own_Ends p e below s₁ (mkF m 38 #[.val (.int p0), .val (.int (p0 &&& (255 : Int32))), .val (.int (1 : Int32))] []) _
        refine own_go (fun _ => XS.goto X0.here hx rfl (pc0 := 38) (pc' := 54) rfl (hb hby at_38) (by decide) (by decide)) ?_
        show own_Ends p e below s₁ (mkF m 54 #[.val (.int p0), .val (.int (p0 &&& (255 : Int32))), .val (.int (1 : Int32))] []) _
        refine own_go (fun _ => XS.iloadN X0.here hx rfl (hb hby at_54) rfl) ?_
        show own_Ends p e below s₁ (mkF m 55 #[.val (.int p0), .val (.int (p0 &&& (255 : Int32))), .val (.int (1 : Int32))] [(.int (p0 &&& (255 : Int32)))]) _
        obtain ⟨_, _, ⟨T5, L5, k5, n5⟩, -, X5, ⟨Lc5, hQ5, l5, y5, z5⟩, st5⟩ := Jvm.LawKit.callS X0 hx (y := (⟨"com/example/tessera/tessera/platform/SecretCode", "isPin", "(I)Z"⟩ : MethodName)) hown (mvT hZ (hw _ (List.mem_of_getElem? (i := 0) rfl))) (mvT hZ (hw _ (List.mem_of_getElem? (i := 1) rfl))) (mvT hZ (hw _ (List.mem_of_getElem? (i := 2) rfl))) (mvT hZ (hw _ (List.mem_of_getElem? (i := 3) rfl))) (by decide) (backOf (W := 0) (rm1 l Z a0 hw [] ((p0 &&& (255 : Int32)))  h0 n0 Z0 ) hZ (hw _ (List.mem_of_getElem? (i := 3) rfl)) (hw _ (List.mem_of_getElem? (i := 2) rfl)) (by decide) (by decide)) (g := (mkF m 55 #[.val (.int p0), .val (.int (p0 &&& (255 : Int32))), .val (.int (1 : Int32))] [(.int (p0 &&& (255 : Int32)))])) rfl (by rw [hml]; rfl) (argsL := [(.int (p0 &&& (255 : Int32)))]) (rest := []) (lenOf pd_0 rfl) rfl (by show 2 * 0 + _ ≤ _; exact Nat.le_of_eq rfl) (hb hby at_55) (fun _ _ => ⟨rfl, e0, (by decide : 0 + 0 ≤ _), (by decide : 0 + 0 ≤ _)⟩)
        dsimp only [Pt.U, Pt.locs, Pt.cells, Pt.slots] at X5 l5 y5 z5 st5 hQ5
        subst l5 y5 z5
        refine own_go st5 ?_
        obtain ⟨rfl, N5q, eh5⟩ := hQ5
        have N5 := Fr.app N0 N5q
        show own_Ends p e below T5 (mkF m 58 #[.val (.int p0), .val (.int (p0 &&& (255 : Int32))), .val (.int (1 : Int32))] [(.int (own_pin (p0 &&& (255 : Int32))))]) _
        refine own_go (fun _ => XS.iloadN X5.here hx rfl (hb hby at_58) rfl) ?_
        show own_Ends p e below T5 (mkF m 59 #[.val (.int p0), .val (.int (p0 &&& (255 : Int32))), .val (.int (1 : Int32))] [(.int (1 : Int32)), (.int (own_pin (p0 &&& (255 : Int32))))]) _
        refine own_go (fun _ => XS.icmpNo X5.here hx rfl (hb hby at_59) rfl (teq (show (own_pin (p0 &&& (255 : Int32))) = (1 : Int32) from (own_same _).trans (by simp [own_exp, hc8, hc26, hc33]))).2) ?_
        show own_Ends p e below T5 (mkF m 62 #[.val (.int p0), .val (.int (p0 &&& (255 : Int32))), .val (.int (1 : Int32))] []) _
        refine own_go (fun _ => XS.iconst X5.here hx rfl (hb hby at_62)) ?_
        show own_Ends p e below T5 (mkF m 63 #[.val (.int p0), .val (.int (p0 &&& (255 : Int32))), .val (.int (1 : Int32))] [(.int (1 : Int32))]) _
        refine own_go (fun _ => XS.goto X5.here hx rfl (pc0 := 63) (pc' := 67) rfl (hb hby at_63) (by decide) (by decide)) ?_
        show own_Ends p e below T5 (mkF m 67 #[.val (.int p0), .val (.int (p0 &&& (255 : Int32))), .val (.int (1 : Int32))] [(.int (1 : Int32))]) _
        obtain ⟨fs, hr, hrun, hended, hW, hsame⟩ := X5.leave (v := some (.int (1 : Int32))) (fun h => by rw [Bd.returns] at h; cases h)
        refine ⟨_, _, retN X5 hx (t := .boolean) Bd.returns (by simp) (hb hby at_67) hr, hrun, hended, _, _, rfl, ?_, ⟨_, rfl⟩, hW, hsame.mono (by decide) (by decide)⟩
        show Q_rm0 Z p0 h0 n0 _ T5.heap _
        rw [eh5]
        exact ⟨rfl, N5⟩
  · refine own_go (fun _ => XS.icmpNo X0.here hx rfl (hb hby at_8) rfl (flt hc8).1) ?_
    show own_Ends p e below s₁ (mkF m 11 #[.val (.int p0), .val (.int (p0 &&& (255 : Int32))), .unset] []) _
    refine own_go (fun _ => XS.iloadN X0.here hx rfl (hb hby at_11) rfl) ?_
    show own_Ends p e below s₁ (mkF m 12 #[.val (.int p0), .val (.int (p0 &&& (255 : Int32))), .unset] [(.int (p0 &&& (255 : Int32)))]) _
    refine own_go (fun _ => XS.bipush X0.here hx rfl (hb hby at_12)) ?_
    show own_Ends p e below s₁ (mkF m 14 #[.val (.int p0), .val (.int (p0 &&& (255 : Int32))), .unset] [(.int (8 : Int32)), (.int (p0 &&& (255 : Int32)))]) _
    by_cases hc14 : (8 : Int32) < (p0 &&& (255 : Int32))
    · refine own_go (fun _ => XS.icmpYes X0.here hx rfl (pc0 := 14) (pc' := 22) rfl (hb hby at_14) rfl (tlt hc14).2.2.1 (by decide) (by decide)) ?_
      show own_Ends p e below s₁ (mkF m 22 #[.val (.int p0), .val (.int (p0 &&& (255 : Int32))), .unset] []) _
      refine own_go (fun _ => XS.iloadN X0.here hx rfl (hb hby at_22) rfl) ?_
      show own_Ends p e below s₁ (mkF m 23 #[.val (.int p0), .val (.int (p0 &&& (255 : Int32))), .unset] [(.int (p0 &&& (255 : Int32)))]) _
      refine own_go (fun _ => XS.sipush X0.here hx rfl (hb hby at_23)) ?_
      show own_Ends p e below s₁ (mkF m 26 #[.val (.int p0), .val (.int (p0 &&& (255 : Int32))), .unset] [(.int (129 : Int32)), (.int (p0 &&& (255 : Int32)))]) _
      by_cases hc26 : (p0 &&& (255 : Int32)) < (129 : Int32)
      · refine own_go (fun _ => XS.icmpYes X0.here hx rfl (pc0 := 26) (pc' := 41) rfl (hb hby at_26) rfl (tlt hc26).1 (by decide) (by decide)) ?_
        show own_Ends p e below s₁ (mkF m 41 #[.val (.int p0), .val (.int (p0 &&& (255 : Int32))), .unset] []) _
        refine own_go (fun _ => XS.iloadN X0.here hx rfl (hb hby at_41) rfl) ?_
        show own_Ends p e below s₁ (mkF m 42 #[.val (.int p0), .val (.int (p0 &&& (255 : Int32))), .unset] [(.int (p0 &&& (255 : Int32)))]) _
        refine own_go (fun _ => XS.bipush X0.here hx rfl (hb hby at_42)) ?_
        show own_Ends p e below s₁ (mkF m 44 #[.val (.int p0), .val (.int (p0 &&& (255 : Int32))), .unset] [(.int (17 : Int32)), (.int (p0 &&& (255 : Int32)))]) _
        by_cases hc44 : (p0 &&& (255 : Int32)) = (17 : Int32)
        · refine own_go (fun _ => XS.icmpNo X0.here hx rfl (hb hby at_44) rfl (teq hc44).2) ?_
          show own_Ends p e below s₁ (mkF m 47 #[.val (.int p0), .val (.int (p0 &&& (255 : Int32))), .unset] []) _
          refine own_go (fun _ => XS.iconst X0.here hx rfl (hb hby at_47)) ?_
          show own_Ends p e below s₁ (mkF m 48 #[.val (.int p0), .val (.int (p0 &&& (255 : Int32))), .unset] [(.int (1 : Int32))]) _
          refine own_go (fun _ => XS.istoreN X0.here hx rfl (hb hby at_48) rfl (l' := #[.val (.int p0), .val (.int (p0 &&& (255 : Int32))), .val (.int (1 : Int32))]) rfl) ?_
          show own_Ends p e below s₁ (mkF m 49 #[.val (.int p0), .val (.int (p0 &&& (255 : Int32))), .val (.int (1 : Int32))] []) _
          refine own_go (fun _ => XS.goto X0.here hx rfl (pc0 := 49) (pc' := 54) rfl (hb hby at_49) (by decide) (by decide)) ?_
          show own_Ends p e below s₁ (mkF m 54 #[.val (.int p0), .val (.int (p0 &&& (255 : Int32))), .val (.int (1 : Int32))] []) _
          refine own_go (fun _ => XS.iloadN X0.here hx rfl (hb hby at_54) rfl) ?_
          show own_Ends p e below s₁ (mkF m 55 #[.val (.int p0), .val (.int (p0 &&& (255 : Int32))), .val (.int (1 : Int32))] [(.int (p0 &&& (255 : Int32)))]) _
          obtain ⟨_, _, ⟨T6, L6, k6, n6⟩, -, X6, ⟨Lc6, hQ6, l6, y6, z6⟩, st6⟩ := Jvm.LawKit.callS X0 hx (y := (⟨"com/example/tessera/tessera/platform/SecretCode", "isPin", "(I)Z"⟩ : MethodName)) hown (mvT hZ (hw _ (List.mem_of_getElem? (i := 0) rfl))) (mvT hZ (hw _ (List.mem_of_getElem? (i := 1) rfl))) (mvT hZ (hw _ (List.mem_of_getElem? (i := 2) rfl))) (mvT hZ (hw _ (List.mem_of_getElem? (i := 3) rfl))) (by decide) (backOf (W := 0) (rm1 l Z a0 hw [] ((p0 &&& (255 : Int32)))  h0 n0 Z0 ) hZ (hw _ (List.mem_of_getElem? (i := 3) rfl)) (hw _ (List.mem_of_getElem? (i := 2) rfl)) (by decide) (by decide)) (g := (mkF m 55 #[.val (.int p0), .val (.int (p0 &&& (255 : Int32))), .val (.int (1 : Int32))] [(.int (p0 &&& (255 : Int32)))])) rfl (by rw [hml]; rfl) (argsL := [(.int (p0 &&& (255 : Int32)))]) (rest := []) (lenOf pd_0 rfl) rfl (by show 2 * 0 + _ ≤ _; exact Nat.le_of_eq rfl) (hb hby at_55) (fun _ _ => ⟨rfl, e0, (by decide : 0 + 0 ≤ _), (by decide : 0 + 0 ≤ _)⟩)
          dsimp only [Pt.U, Pt.locs, Pt.cells, Pt.slots] at X6 l6 y6 z6 st6 hQ6
          subst l6 y6 z6
          refine own_go st6 ?_
          obtain ⟨rfl, N6q, eh6⟩ := hQ6
          have N6 := Fr.app N0 N6q
          show own_Ends p e below T6 (mkF m 58 #[.val (.int p0), .val (.int (p0 &&& (255 : Int32))), .val (.int (1 : Int32))] [(.int (own_pin (p0 &&& (255 : Int32))))]) _
          refine own_go (fun _ => XS.iloadN X6.here hx rfl (hb hby at_58) rfl) ?_
          show own_Ends p e below T6 (mkF m 59 #[.val (.int p0), .val (.int (p0 &&& (255 : Int32))), .val (.int (1 : Int32))] [(.int (1 : Int32)), (.int (own_pin (p0 &&& (255 : Int32))))]) _
          refine own_go (fun _ => XS.icmpNo X6.here hx rfl (hb hby at_59) rfl (teq (show (own_pin (p0 &&& (255 : Int32))) = (1 : Int32) from (own_same _).trans (by simp [own_exp, hc8, hc14, hc26, hc44]))).2) ?_
          show own_Ends p e below T6 (mkF m 62 #[.val (.int p0), .val (.int (p0 &&& (255 : Int32))), .val (.int (1 : Int32))] []) _
          refine own_go (fun _ => XS.iconst X6.here hx rfl (hb hby at_62)) ?_
          show own_Ends p e below T6 (mkF m 63 #[.val (.int p0), .val (.int (p0 &&& (255 : Int32))), .val (.int (1 : Int32))] [(.int (1 : Int32))]) _
          refine own_go (fun _ => XS.goto X6.here hx rfl (pc0 := 63) (pc' := 67) rfl (hb hby at_63) (by decide) (by decide)) ?_
          show own_Ends p e below T6 (mkF m 67 #[.val (.int p0), .val (.int (p0 &&& (255 : Int32))), .val (.int (1 : Int32))] [(.int (1 : Int32))]) _
          obtain ⟨fs, hr, hrun, hended, hW, hsame⟩ := X6.leave (v := some (.int (1 : Int32))) (fun h => by rw [Bd.returns] at h; cases h)
          refine ⟨_, _, retN X6 hx (t := .boolean) Bd.returns (by simp) (hb hby at_67) hr, hrun, hended, _, _, rfl, ?_, ⟨_, rfl⟩, hW, hsame.mono (by decide) (by decide)⟩
          show Q_rm0 Z p0 h0 n0 _ T6.heap _
          rw [eh6]
          exact ⟨rfl, N6⟩
        · refine own_go (fun _ => XS.icmpYes X0.here hx rfl (pc0 := 44) (pc' := 52) rfl (hb hby at_44) rfl (feq hc44).2 (by decide) (by decide)) ?_
          show own_Ends p e below s₁ (mkF m 52 #[.val (.int p0), .val (.int (p0 &&& (255 : Int32))), .unset] []) _
          refine own_go (fun _ => XS.iconst X0.here hx rfl (hb hby at_52)) ?_
          show own_Ends p e below s₁ (mkF m 53 #[.val (.int p0), .val (.int (p0 &&& (255 : Int32))), .unset] [(.int (0 : Int32))]) _
          refine own_go (fun _ => XS.istoreN X0.here hx rfl (hb hby at_53) rfl (l' := #[.val (.int p0), .val (.int (p0 &&& (255 : Int32))), .val (.int (0 : Int32))]) rfl) ?_
          show own_Ends p e below s₁ (mkF m 54 #[.val (.int p0), .val (.int (p0 &&& (255 : Int32))), .val (.int (0 : Int32))] []) _
          refine own_go (fun _ => XS.iloadN X0.here hx rfl (hb hby at_54) rfl) ?_
          show own_Ends p e below s₁ (mkF m 55 #[.val (.int p0), .val (.int (p0 &&& (255 : Int32))), .val (.int (0 : Int32))] [(.int (p0 &&& (255 : Int32)))]) _
          obtain ⟨_, _, ⟨T7, L7, k7, n7⟩, -, X7, ⟨Lc7, hQ7, l7, y7, z7⟩, st7⟩ := Jvm.LawKit.callS X0 hx (y := (⟨"com/example/tessera/tessera/platform/SecretCode", "isPin", "(I)Z"⟩ : MethodName)) hown (mvT hZ (hw _ (List.mem_of_getElem? (i := 0) rfl))) (mvT hZ (hw _ (List.mem_of_getElem? (i := 1) rfl))) (mvT hZ (hw _ (List.mem_of_getElem? (i := 2) rfl))) (mvT hZ (hw _ (List.mem_of_getElem? (i := 3) rfl))) (by decide) (backOf (W := 0) (rm1 l Z a0 hw [] ((p0 &&& (255 : Int32)))  h0 n0 Z0 ) hZ (hw _ (List.mem_of_getElem? (i := 3) rfl)) (hw _ (List.mem_of_getElem? (i := 2) rfl)) (by decide) (by decide)) (g := (mkF m 55 #[.val (.int p0), .val (.int (p0 &&& (255 : Int32))), .val (.int (0 : Int32))] [(.int (p0 &&& (255 : Int32)))])) rfl (by rw [hml]; rfl) (argsL := [(.int (p0 &&& (255 : Int32)))]) (rest := []) (lenOf pd_0 rfl) rfl (by show 2 * 0 + _ ≤ _; exact Nat.le_of_eq rfl) (hb hby at_55) (fun _ _ => ⟨rfl, e0, (by decide : 0 + 0 ≤ _), (by decide : 0 + 0 ≤ _)⟩)
          dsimp only [Pt.U, Pt.locs, Pt.cells, Pt.slots] at X7 l7 y7 z7 st7 hQ7
          subst l7 y7 z7
          refine own_go st7 ?_
          obtain ⟨rfl, N7q, eh7⟩ := hQ7
          have N7 := Fr.app N0 N7q
          show own_Ends p e below T7 (mkF m 58 #[.val (.int p0), .val (.int (p0 &&& (255 : Int32))), .val (.int (0 : Int32))] [(.int (own_pin (p0 &&& (255 : Int32))))]) _
          refine own_go (fun _ => XS.iloadN X7.here hx rfl (hb hby at_58) rfl) ?_
          show own_Ends p e below T7 (mkF m 59 #[.val (.int p0), .val (.int (p0 &&& (255 : Int32))), .val (.int (0 : Int32))] [(.int (0 : Int32)), (.int (own_pin (p0 &&& (255 : Int32))))]) _
          refine own_go (fun _ => XS.icmpNo X7.here hx rfl (hb hby at_59) rfl (teq (show (own_pin (p0 &&& (255 : Int32))) = (0 : Int32) from (own_same _).trans (by simp [own_exp, hc8, hc14, hc26, hc44]))).2) ?_
          show own_Ends p e below T7 (mkF m 62 #[.val (.int p0), .val (.int (p0 &&& (255 : Int32))), .val (.int (0 : Int32))] []) _
          refine own_go (fun _ => XS.iconst X7.here hx rfl (hb hby at_62)) ?_
          show own_Ends p e below T7 (mkF m 63 #[.val (.int p0), .val (.int (p0 &&& (255 : Int32))), .val (.int (0 : Int32))] [(.int (1 : Int32))]) _
          refine own_go (fun _ => XS.goto X7.here hx rfl (pc0 := 63) (pc' := 67) rfl (hb hby at_63) (by decide) (by decide)) ?_
          show own_Ends p e below T7 (mkF m 67 #[.val (.int p0), .val (.int (p0 &&& (255 : Int32))), .val (.int (0 : Int32))] [(.int (1 : Int32))]) _
          obtain ⟨fs, hr, hrun, hended, hW, hsame⟩ := X7.leave (v := some (.int (1 : Int32))) (fun h => by rw [Bd.returns] at h; cases h)
          refine ⟨_, _, retN X7 hx (t := .boolean) Bd.returns (by simp) (hb hby at_67) hr, hrun, hended, _, _, rfl, ?_, ⟨_, rfl⟩, hW, hsame.mono (by decide) (by decide)⟩
          show Q_rm0 Z p0 h0 n0 _ T7.heap _
          rw [eh7]
          exact ⟨rfl, N7⟩
      · refine own_go (fun _ => XS.icmpNo X0.here hx rfl (hb hby at_26) rfl (flt hc26).1) ?_
        show own_Ends p e below s₁ (mkF m 29 #[.val (.int p0), .val (.int (p0 &&& (255 : Int32))), .unset] []) _
        refine own_go (fun _ => XS.iloadN X0.here hx rfl (hb hby at_29) rfl) ?_
        show own_Ends p e below s₁ (mkF m 30 #[.val (.int p0), .val (.int (p0 &&& (255 : Int32))), .unset] [(.int (p0 &&& (255 : Int32)))]) _
        refine own_go (fun _ => XS.sipush X0.here hx rfl (hb hby at_30)) ?_
        show own_Ends p e below s₁ (mkF m 33 #[.val (.int p0), .val (.int (p0 &&& (255 : Int32))), .unset] [(.int (136 : Int32)), (.int (p0 &&& (255 : Int32)))]) _
        by_cases hc33 : (136 : Int32) < (p0 &&& (255 : Int32))
        · refine own_go (fun _ => XS.icmpYes X0.here hx rfl (pc0 := 33) (pc' := 41) rfl (hb hby at_33) rfl (tlt hc33).2.2.1 (by decide) (by decide)) ?_
          show own_Ends p e below s₁ (mkF m 41 #[.val (.int p0), .val (.int (p0 &&& (255 : Int32))), .unset] []) _
          refine own_go (fun _ => XS.iloadN X0.here hx rfl (hb hby at_41) rfl) ?_
          show own_Ends p e below s₁ (mkF m 42 #[.val (.int p0), .val (.int (p0 &&& (255 : Int32))), .unset] [(.int (p0 &&& (255 : Int32)))]) _
          refine own_go (fun _ => XS.bipush X0.here hx rfl (hb hby at_42)) ?_
          show own_Ends p e below s₁ (mkF m 44 #[.val (.int p0), .val (.int (p0 &&& (255 : Int32))), .unset] [(.int (17 : Int32)), (.int (p0 &&& (255 : Int32)))]) _
          by_cases hc44 : (p0 &&& (255 : Int32)) = (17 : Int32)
          · refine own_go (fun _ => XS.icmpNo X0.here hx rfl (hb hby at_44) rfl (teq hc44).2) ?_
            show own_Ends p e below s₁ (mkF m 47 #[.val (.int p0), .val (.int (p0 &&& (255 : Int32))), .unset] []) _
            refine own_go (fun _ => XS.iconst X0.here hx rfl (hb hby at_47)) ?_
            show own_Ends p e below s₁ (mkF m 48 #[.val (.int p0), .val (.int (p0 &&& (255 : Int32))), .unset] [(.int (1 : Int32))]) _
            refine own_go (fun _ => XS.istoreN X0.here hx rfl (hb hby at_48) rfl (l' := #[.val (.int p0), .val (.int (p0 &&& (255 : Int32))), .val (.int (1 : Int32))]) rfl) ?_
            show own_Ends p e below s₁ (mkF m 49 #[.val (.int p0), .val (.int (p0 &&& (255 : Int32))), .val (.int (1 : Int32))] []) _
            refine own_go (fun _ => XS.goto X0.here hx rfl (pc0 := 49) (pc' := 54) rfl (hb hby at_49) (by decide) (by decide)) ?_
            show own_Ends p e below s₁ (mkF m 54 #[.val (.int p0), .val (.int (p0 &&& (255 : Int32))), .val (.int (1 : Int32))] []) _
            refine own_go (fun _ => XS.iloadN X0.here hx rfl (hb hby at_54) rfl) ?_
            show own_Ends p e below s₁ (mkF m 55 #[.val (.int p0), .val (.int (p0 &&& (255 : Int32))), .val (.int (1 : Int32))] [(.int (p0 &&& (255 : Int32)))]) _
            obtain ⟨_, _, ⟨T8, L8, k8, n8⟩, -, X8, ⟨Lc8, hQ8, l8, y8, z8⟩, st8⟩ := Jvm.LawKit.callS X0 hx (y := (⟨"com/example/tessera/tessera/platform/SecretCode", "isPin", "(I)Z"⟩ : MethodName)) hown (mvT hZ (hw _ (List.mem_of_getElem? (i := 0) rfl))) (mvT hZ (hw _ (List.mem_of_getElem? (i := 1) rfl))) (mvT hZ (hw _ (List.mem_of_getElem? (i := 2) rfl))) (mvT hZ (hw _ (List.mem_of_getElem? (i := 3) rfl))) (by decide) (backOf (W := 0) (rm1 l Z a0 hw [] ((p0 &&& (255 : Int32)))  h0 n0 Z0 ) hZ (hw _ (List.mem_of_getElem? (i := 3) rfl)) (hw _ (List.mem_of_getElem? (i := 2) rfl)) (by decide) (by decide)) (g := (mkF m 55 #[.val (.int p0), .val (.int (p0 &&& (255 : Int32))), .val (.int (1 : Int32))] [(.int (p0 &&& (255 : Int32)))])) rfl (by rw [hml]; rfl) (argsL := [(.int (p0 &&& (255 : Int32)))]) (rest := []) (lenOf pd_0 rfl) rfl (by show 2 * 0 + _ ≤ _; exact Nat.le_of_eq rfl) (hb hby at_55) (fun _ _ => ⟨rfl, e0, (by decide : 0 + 0 ≤ _), (by decide : 0 + 0 ≤ _)⟩)
            dsimp only [Pt.U, Pt.locs, Pt.cells, Pt.slots] at X8 l8 y8 z8 st8 hQ8
            subst l8 y8 z8
            refine own_go st8 ?_
            obtain ⟨rfl, N8q, eh8⟩ := hQ8
            have N8 := Fr.app N0 N8q
            show own_Ends p e below T8 (mkF m 58 #[.val (.int p0), .val (.int (p0 &&& (255 : Int32))), .val (.int (1 : Int32))] [(.int (own_pin (p0 &&& (255 : Int32))))]) _
            refine own_go (fun _ => XS.iloadN X8.here hx rfl (hb hby at_58) rfl) ?_
            show own_Ends p e below T8 (mkF m 59 #[.val (.int p0), .val (.int (p0 &&& (255 : Int32))), .val (.int (1 : Int32))] [(.int (1 : Int32)), (.int (own_pin (p0 &&& (255 : Int32))))]) _
            refine own_go (fun _ => XS.icmpNo X8.here hx rfl (hb hby at_59) rfl (teq (show (own_pin (p0 &&& (255 : Int32))) = (1 : Int32) from (own_same _).trans (by simp [own_exp, hc8, hc14, hc26, hc33, hc44]))).2) ?_
            show own_Ends p e below T8 (mkF m 62 #[.val (.int p0), .val (.int (p0 &&& (255 : Int32))), .val (.int (1 : Int32))] []) _
            refine own_go (fun _ => XS.iconst X8.here hx rfl (hb hby at_62)) ?_
            show own_Ends p e below T8 (mkF m 63 #[.val (.int p0), .val (.int (p0 &&& (255 : Int32))), .val (.int (1 : Int32))] [(.int (1 : Int32))]) _
            refine own_go (fun _ => XS.goto X8.here hx rfl (pc0 := 63) (pc' := 67) rfl (hb hby at_63) (by decide) (by decide)) ?_
            show own_Ends p e below T8 (mkF m 67 #[.val (.int p0), .val (.int (p0 &&& (255 : Int32))), .val (.int (1 : Int32))] [(.int (1 : Int32))]) _
            obtain ⟨fs, hr, hrun, hended, hW, hsame⟩ := X8.leave (v := some (.int (1 : Int32))) (fun h => by rw [Bd.returns] at h; cases h)
            refine ⟨_, _, retN X8 hx (t := .boolean) Bd.returns (by simp) (hb hby at_67) hr, hrun, hended, _, _, rfl, ?_, ⟨_, rfl⟩, hW, hsame.mono (by decide) (by decide)⟩
            show Q_rm0 Z p0 h0 n0 _ T8.heap _
            rw [eh8]
            exact ⟨rfl, N8⟩
          · refine own_go (fun _ => XS.icmpYes X0.here hx rfl (pc0 := 44) (pc' := 52) rfl (hb hby at_44) rfl (feq hc44).2 (by decide) (by decide)) ?_
            show own_Ends p e below s₁ (mkF m 52 #[.val (.int p0), .val (.int (p0 &&& (255 : Int32))), .unset] []) _
            refine own_go (fun _ => XS.iconst X0.here hx rfl (hb hby at_52)) ?_
            show own_Ends p e below s₁ (mkF m 53 #[.val (.int p0), .val (.int (p0 &&& (255 : Int32))), .unset] [(.int (0 : Int32))]) _
            refine own_go (fun _ => XS.istoreN X0.here hx rfl (hb hby at_53) rfl (l' := #[.val (.int p0), .val (.int (p0 &&& (255 : Int32))), .val (.int (0 : Int32))]) rfl) ?_
            show own_Ends p e below s₁ (mkF m 54 #[.val (.int p0), .val (.int (p0 &&& (255 : Int32))), .val (.int (0 : Int32))] []) _
            refine own_go (fun _ => XS.iloadN X0.here hx rfl (hb hby at_54) rfl) ?_
            show own_Ends p e below s₁ (mkF m 55 #[.val (.int p0), .val (.int (p0 &&& (255 : Int32))), .val (.int (0 : Int32))] [(.int (p0 &&& (255 : Int32)))]) _
            obtain ⟨_, _, ⟨T9, L9, k9, n9⟩, -, X9, ⟨Lc9, hQ9, l9, y9, z9⟩, st9⟩ := Jvm.LawKit.callS X0 hx (y := (⟨"com/example/tessera/tessera/platform/SecretCode", "isPin", "(I)Z"⟩ : MethodName)) hown (mvT hZ (hw _ (List.mem_of_getElem? (i := 0) rfl))) (mvT hZ (hw _ (List.mem_of_getElem? (i := 1) rfl))) (mvT hZ (hw _ (List.mem_of_getElem? (i := 2) rfl))) (mvT hZ (hw _ (List.mem_of_getElem? (i := 3) rfl))) (by decide) (backOf (W := 0) (rm1 l Z a0 hw [] ((p0 &&& (255 : Int32)))  h0 n0 Z0 ) hZ (hw _ (List.mem_of_getElem? (i := 3) rfl)) (hw _ (List.mem_of_getElem? (i := 2) rfl)) (by decide) (by decide)) (g := (mkF m 55 #[.val (.int p0), .val (.int (p0 &&& (255 : Int32))), .val (.int (0 : Int32))] [(.int (p0 &&& (255 : Int32)))])) rfl (by rw [hml]; rfl) (argsL := [(.int (p0 &&& (255 : Int32)))]) (rest := []) (lenOf pd_0 rfl) rfl (by show 2 * 0 + _ ≤ _; exact Nat.le_of_eq rfl) (hb hby at_55) (fun _ _ => ⟨rfl, e0, (by decide : 0 + 0 ≤ _), (by decide : 0 + 0 ≤ _)⟩)
            dsimp only [Pt.U, Pt.locs, Pt.cells, Pt.slots] at X9 l9 y9 z9 st9 hQ9
            subst l9 y9 z9
            refine own_go st9 ?_
            obtain ⟨rfl, N9q, eh9⟩ := hQ9
            have N9 := Fr.app N0 N9q
            show own_Ends p e below T9 (mkF m 58 #[.val (.int p0), .val (.int (p0 &&& (255 : Int32))), .val (.int (0 : Int32))] [(.int (own_pin (p0 &&& (255 : Int32))))]) _
            refine own_go (fun _ => XS.iloadN X9.here hx rfl (hb hby at_58) rfl) ?_
            show own_Ends p e below T9 (mkF m 59 #[.val (.int p0), .val (.int (p0 &&& (255 : Int32))), .val (.int (0 : Int32))] [(.int (0 : Int32)), (.int (own_pin (p0 &&& (255 : Int32))))]) _
            refine own_go (fun _ => XS.icmpNo X9.here hx rfl (hb hby at_59) rfl (teq (show (own_pin (p0 &&& (255 : Int32))) = (0 : Int32) from (own_same _).trans (by simp [own_exp, hc8, hc14, hc26, hc33, hc44]))).2) ?_
            show own_Ends p e below T9 (mkF m 62 #[.val (.int p0), .val (.int (p0 &&& (255 : Int32))), .val (.int (0 : Int32))] []) _
            refine own_go (fun _ => XS.iconst X9.here hx rfl (hb hby at_62)) ?_
            show own_Ends p e below T9 (mkF m 63 #[.val (.int p0), .val (.int (p0 &&& (255 : Int32))), .val (.int (0 : Int32))] [(.int (1 : Int32))]) _
            refine own_go (fun _ => XS.goto X9.here hx rfl (pc0 := 63) (pc' := 67) rfl (hb hby at_63) (by decide) (by decide)) ?_
            show own_Ends p e below T9 (mkF m 67 #[.val (.int p0), .val (.int (p0 &&& (255 : Int32))), .val (.int (0 : Int32))] [(.int (1 : Int32))]) _
            obtain ⟨fs, hr, hrun, hended, hW, hsame⟩ := X9.leave (v := some (.int (1 : Int32))) (fun h => by rw [Bd.returns] at h; cases h)
            refine ⟨_, _, retN X9 hx (t := .boolean) Bd.returns (by simp) (hb hby at_67) hr, hrun, hended, _, _, rfl, ?_, ⟨_, rfl⟩, hW, hsame.mono (by decide) (by decide)⟩
            show Q_rm0 Z p0 h0 n0 _ T9.heap _
            rw [eh9]
            exact ⟨rfl, N9⟩
        · refine own_go (fun _ => XS.icmpNo X0.here hx rfl (hb hby at_33) rfl (flt hc33).2.2.1) ?_
          show own_Ends p e below s₁ (mkF m 36 #[.val (.int p0), .val (.int (p0 &&& (255 : Int32))), .unset] []) _
          refine own_go (fun _ => XS.iconst X0.here hx rfl (hb hby at_36)) ?_
          show own_Ends p e below s₁ (mkF m 37 #[.val (.int p0), .val (.int (p0 &&& (255 : Int32))), .unset] [(.int (1 : Int32))]) _
          refine own_go (fun _ => XS.istoreN X0.here hx rfl (hb hby at_37) rfl (l' := #[.val (.int p0), .val (.int (p0 &&& (255 : Int32))), .val (.int (1 : Int32))]) rfl) ?_
          show own_Ends p e below s₁ (mkF m 38 #[.val (.int p0), .val (.int (p0 &&& (255 : Int32))), .val (.int (1 : Int32))] []) _
          refine own_go (fun _ => XS.goto X0.here hx rfl (pc0 := 38) (pc' := 54) rfl (hb hby at_38) (by decide) (by decide)) ?_
          show own_Ends p e below s₁ (mkF m 54 #[.val (.int p0), .val (.int (p0 &&& (255 : Int32))), .val (.int (1 : Int32))] []) _
          refine own_go (fun _ => XS.iloadN X0.here hx rfl (hb hby at_54) rfl) ?_
          show own_Ends p e below s₁ (mkF m 55 #[.val (.int p0), .val (.int (p0 &&& (255 : Int32))), .val (.int (1 : Int32))] [(.int (p0 &&& (255 : Int32)))]) _
          obtain ⟨_, _, ⟨T10, L10, k10, n10⟩, -, X10, ⟨Lc10, hQ10, l10, y10, z10⟩, st10⟩ := Jvm.LawKit.callS X0 hx (y := (⟨"com/example/tessera/tessera/platform/SecretCode", "isPin", "(I)Z"⟩ : MethodName)) hown (mvT hZ (hw _ (List.mem_of_getElem? (i := 0) rfl))) (mvT hZ (hw _ (List.mem_of_getElem? (i := 1) rfl))) (mvT hZ (hw _ (List.mem_of_getElem? (i := 2) rfl))) (mvT hZ (hw _ (List.mem_of_getElem? (i := 3) rfl))) (by decide) (backOf (W := 0) (rm1 l Z a0 hw [] ((p0 &&& (255 : Int32)))  h0 n0 Z0 ) hZ (hw _ (List.mem_of_getElem? (i := 3) rfl)) (hw _ (List.mem_of_getElem? (i := 2) rfl)) (by decide) (by decide)) (g := (mkF m 55 #[.val (.int p0), .val (.int (p0 &&& (255 : Int32))), .val (.int (1 : Int32))] [(.int (p0 &&& (255 : Int32)))])) rfl (by rw [hml]; rfl) (argsL := [(.int (p0 &&& (255 : Int32)))]) (rest := []) (lenOf pd_0 rfl) rfl (by show 2 * 0 + _ ≤ _; exact Nat.le_of_eq rfl) (hb hby at_55) (fun _ _ => ⟨rfl, e0, (by decide : 0 + 0 ≤ _), (by decide : 0 + 0 ≤ _)⟩)
          dsimp only [Pt.U, Pt.locs, Pt.cells, Pt.slots] at X10 l10 y10 z10 st10 hQ10
          subst l10 y10 z10
          refine own_go st10 ?_
          obtain ⟨rfl, N10q, eh10⟩ := hQ10
          have N10 := Fr.app N0 N10q
          show own_Ends p e below T10 (mkF m 58 #[.val (.int p0), .val (.int (p0 &&& (255 : Int32))), .val (.int (1 : Int32))] [(.int (own_pin (p0 &&& (255 : Int32))))]) _
          refine own_go (fun _ => XS.iloadN X10.here hx rfl (hb hby at_58) rfl) ?_
          show own_Ends p e below T10 (mkF m 59 #[.val (.int p0), .val (.int (p0 &&& (255 : Int32))), .val (.int (1 : Int32))] [(.int (1 : Int32)), (.int (own_pin (p0 &&& (255 : Int32))))]) _
          refine own_go (fun _ => XS.icmpNo X10.here hx rfl (hb hby at_59) rfl (teq (show (own_pin (p0 &&& (255 : Int32))) = (1 : Int32) from (own_same _).trans (by simp [own_exp, hc8, hc14, hc26, hc33]))).2) ?_
          show own_Ends p e below T10 (mkF m 62 #[.val (.int p0), .val (.int (p0 &&& (255 : Int32))), .val (.int (1 : Int32))] []) _
          refine own_go (fun _ => XS.iconst X10.here hx rfl (hb hby at_62)) ?_
          show own_Ends p e below T10 (mkF m 63 #[.val (.int p0), .val (.int (p0 &&& (255 : Int32))), .val (.int (1 : Int32))] [(.int (1 : Int32))]) _
          refine own_go (fun _ => XS.goto X10.here hx rfl (pc0 := 63) (pc' := 67) rfl (hb hby at_63) (by decide) (by decide)) ?_
          show own_Ends p e below T10 (mkF m 67 #[.val (.int p0), .val (.int (p0 &&& (255 : Int32))), .val (.int (1 : Int32))] [(.int (1 : Int32))]) _
          obtain ⟨fs, hr, hrun, hended, hW, hsame⟩ := X10.leave (v := some (.int (1 : Int32))) (fun h => by rw [Bd.returns] at h; cases h)
          refine ⟨_, _, retN X10 hx (t := .boolean) Bd.returns (by simp) (hb hby at_67) hr, hrun, hended, _, _, rfl, ?_, ⟨_, rfl⟩, hW, hsame.mono (by decide) (by decide)⟩
          show Q_rm0 Z p0 h0 n0 _ T10.heap _
          rw [eh10]
          exact ⟨rfl, N10⟩
    · refine own_go (fun _ => XS.icmpNo X0.here hx rfl (hb hby at_14) rfl (flt hc14).2.2.1) ?_
      show own_Ends p e below s₁ (mkF m 17 #[.val (.int p0), .val (.int (p0 &&& (255 : Int32))), .unset] []) _
      refine own_go (fun _ => XS.iconst X0.here hx rfl (hb hby at_17)) ?_
      show own_Ends p e below s₁ (mkF m 18 #[.val (.int p0), .val (.int (p0 &&& (255 : Int32))), .unset] [(.int (1 : Int32))]) _
      refine own_go (fun _ => XS.istoreN X0.here hx rfl (hb hby at_18) rfl (l' := #[.val (.int p0), .val (.int (p0 &&& (255 : Int32))), .val (.int (1 : Int32))]) rfl) ?_
      show own_Ends p e below s₁ (mkF m 19 #[.val (.int p0), .val (.int (p0 &&& (255 : Int32))), .val (.int (1 : Int32))] []) _
      refine own_go (fun _ => XS.goto X0.here hx rfl (pc0 := 19) (pc' := 54) rfl (hb hby at_19) (by decide) (by decide)) ?_
      show own_Ends p e below s₁ (mkF m 54 #[.val (.int p0), .val (.int (p0 &&& (255 : Int32))), .val (.int (1 : Int32))] []) _
      refine own_go (fun _ => XS.iloadN X0.here hx rfl (hb hby at_54) rfl) ?_
      show own_Ends p e below s₁ (mkF m 55 #[.val (.int p0), .val (.int (p0 &&& (255 : Int32))), .val (.int (1 : Int32))] [(.int (p0 &&& (255 : Int32)))]) _
      obtain ⟨_, _, ⟨T11, L11, k11, n11⟩, -, X11, ⟨Lc11, hQ11, l11, y11, z11⟩, st11⟩ := Jvm.LawKit.callS X0 hx (y := (⟨"com/example/tessera/tessera/platform/SecretCode", "isPin", "(I)Z"⟩ : MethodName)) hown (mvT hZ (hw _ (List.mem_of_getElem? (i := 0) rfl))) (mvT hZ (hw _ (List.mem_of_getElem? (i := 1) rfl))) (mvT hZ (hw _ (List.mem_of_getElem? (i := 2) rfl))) (mvT hZ (hw _ (List.mem_of_getElem? (i := 3) rfl))) (by decide) (backOf (W := 0) (rm1 l Z a0 hw [] ((p0 &&& (255 : Int32)))  h0 n0 Z0 ) hZ (hw _ (List.mem_of_getElem? (i := 3) rfl)) (hw _ (List.mem_of_getElem? (i := 2) rfl)) (by decide) (by decide)) (g := (mkF m 55 #[.val (.int p0), .val (.int (p0 &&& (255 : Int32))), .val (.int (1 : Int32))] [(.int (p0 &&& (255 : Int32)))])) rfl (by rw [hml]; rfl) (argsL := [(.int (p0 &&& (255 : Int32)))]) (rest := []) (lenOf pd_0 rfl) rfl (by show 2 * 0 + _ ≤ _; exact Nat.le_of_eq rfl) (hb hby at_55) (fun _ _ => ⟨rfl, e0, (by decide : 0 + 0 ≤ _), (by decide : 0 + 0 ≤ _)⟩)
      dsimp only [Pt.U, Pt.locs, Pt.cells, Pt.slots] at X11 l11 y11 z11 st11 hQ11
      subst l11 y11 z11
      refine own_go st11 ?_
      obtain ⟨rfl, N11q, eh11⟩ := hQ11
      have N11 := Fr.app N0 N11q
      show own_Ends p e below T11 (mkF m 58 #[.val (.int p0), .val (.int (p0 &&& (255 : Int32))), .val (.int (1 : Int32))] [(.int (own_pin (p0 &&& (255 : Int32))))]) _
      refine own_go (fun _ => XS.iloadN X11.here hx rfl (hb hby at_58) rfl) ?_
      show own_Ends p e below T11 (mkF m 59 #[.val (.int p0), .val (.int (p0 &&& (255 : Int32))), .val (.int (1 : Int32))] [(.int (1 : Int32)), (.int (own_pin (p0 &&& (255 : Int32))))]) _
      refine own_go (fun _ => XS.icmpNo X11.here hx rfl (hb hby at_59) rfl (teq (show (own_pin (p0 &&& (255 : Int32))) = (1 : Int32) from (own_same _).trans (by simp [own_exp, hc8, hc14]))).2) ?_
      show own_Ends p e below T11 (mkF m 62 #[.val (.int p0), .val (.int (p0 &&& (255 : Int32))), .val (.int (1 : Int32))] []) _
      refine own_go (fun _ => XS.iconst X11.here hx rfl (hb hby at_62)) ?_
      show own_Ends p e below T11 (mkF m 63 #[.val (.int p0), .val (.int (p0 &&& (255 : Int32))), .val (.int (1 : Int32))] [(.int (1 : Int32))]) _
      refine own_go (fun _ => XS.goto X11.here hx rfl (pc0 := 63) (pc' := 67) rfl (hb hby at_63) (by decide) (by decide)) ?_
      show own_Ends p e below T11 (mkF m 67 #[.val (.int p0), .val (.int (p0 &&& (255 : Int32))), .val (.int (1 : Int32))] [(.int (1 : Int32))]) _
      obtain ⟨fs, hr, hrun, hended, hW, hsame⟩ := X11.leave (v := some (.int (1 : Int32))) (fun h => by rw [Bd.returns] at h; cases h)
      refine ⟨_, _, retN X11 hx (t := .boolean) Bd.returns (by simp) (hb hby at_67) hr, hrun, hended, _, _, rfl, ?_, ⟨_, rfl⟩, hW, hsame.mono (by decide) (by decide)⟩
      show Q_rm0 Z p0 h0 n0 _ T11.heap _
      rw [eh11]
      exact ⟨rfl, N11⟩
set_option maxRecDepth 65536 in
set_option maxHeartbeats 40000000 in
theorem comes_1 {Post : Tables → Env → Array Value → State → Outcome → State → Prop} (hpost : ∀ tb e args s v u, (limb_1_1.after args s (.returned v) u = true ∧ limb_1_2.after args s (.returned v) u = true ∧ True) → FrameEnd s (.returned v) u (Jvm.fieldLocs frame_1_writes args s ++ Jvm.arrayLocs frame_1_arrays args s ++ Jvm.staticLocs frame_1_statics s) 0 0 → Post tb e args s (.returned v) u) :
    ArmFor flags0 classFile x code maxLocals ret World_1 tables_1 room_1 Calls_1 rest_1 Pre_1 Post := by
  intro l hfl _ _ p e ha hc hk s m args below hf hA hF happ hP
  obtain ⟨hcalls, hrest, hpre⟩ := hP
  obtain ⟨-, -, -, hnamed, -, -, -, hat⟩ := (Spec.applies_iff hf).mp happ
  obtain ⟨hg, hn⟩ := and_e (Cond.before_iff.mp (show (Jvm.Cond.and given_1 narrow_1).before args s = true from hpre))
  obtain ⟨gv1, gv2⟩ := and_e hg
  obtain ⟨w0, rfl⟩ : ∃ w0 : Value, args = #[w0] := by
    have hs : args.size = 1 := by simpa [Cond.value, given_1] using gv1
    obtain ⟨L⟩ := args
    match L, hs with
    | [w0], _ => exact ⟨w0, rfl⟩
  have hw := fun d (hd : d ∈ tables_1) => atoms_spec (ws := Jvm.Cond.code x code maxLocals ret :: tables_1) hat d (List.mem_cons_of_mem _ hd)
  obtain ⟨i0, ei0⟩ := is_v gv2
  obtain rfl : w0 = (.int i0) := Option.some.inj ei0
  obtain ⟨n, o, h1, h2, h3, _, L, rfl, ⟨rfl, N⟩, hq⟩ := rm0 l s _ hw tables_1 i0 s.heap s.heap.size (Nat.le_refl _) p e ha hc hk s m _ below hf ((Spec.applies_iff_loose hf).mp happ).1 ⟨rfl, State.Warmed39.refl s, rfl⟩ trivial
  refine ⟨n, _, h1, h2, h3, hpost _ _ _ _ _ _ ⟨Cond.after_iff.mpr rfl, Cond.after_iff.mpr (eq_i res_at (Term.int_eval (1)) rfl), trivial⟩ ⟨hq.1, hq.2.1, (hq.2.2.sift fun y hy => Or.inr (N y hy)).mono (by decide) (by decide)⟩⟩
theorem main_1_1 : Claimed_1_1 := comes_1 fun _ _ _ _ _ _ h hF => ⟨h.1, hF⟩
theorem main_1_2 : Claimed_1_2 := comes_1 fun _ _ _ _ _ _ h hF => ⟨h.2.1, hF⟩
end Jvm.Pilot.@@N@@
namespace Jvm.Pilot.@@N@@
open Jvm Jvm.ClassFile Sem Op Lib Jvm.Free Jvm.Stand Jvm.Pilot.@@N@@.Jvm.D
/-! MADE BY PROGRAM (witnessworld.py) out of the Statement's table words and the real class files: 9 classes; the members and pool entries that the words name. The judged class is class 1, her method 1. -/
namespace start1
open Jvm.ClassFile
def u (s : String) : CpInfo := .utf8 (stringToUtf16 s)
/-- a pool by its gaps: so many unusable entries, then the entry; so many at the end -/
def gap : Nat → List CpInfo → List CpInfo
  | 0, r => r
  | n + 1, r => .unusable :: gap n r
def poolList (es : List (Nat × CpInfo)) (last : Nat) : List CpInfo := es.foldr (fun e r => gap e.1 (e.2 :: r)) (gap last [])
def pool (es : List (Nat × CpInfo)) (last : Nat) : Array CpInfo := ⟨poolList es last⟩
def fileOf (pool : Array CpInfo) (this : Nat) (attrs : Array Attribute := #[]) (ms : Array MethodInfo := #[]) (fl : Nat := 33) (sup : Nat := 0) (ifs : Array Nat := #[]) (fds : Array FieldInfo := #[]) : ClassFile where
  minorVersion := 0
  majorVersion := 65
  constantPool := pool
  accessFlags := fl
  thisClass := this
  superClass := sup
  interfaces := ifs
  fields := fds
  methods := ms
  attributes := attrs
def plain (name : String) (sup : Option ClassId) : Class where
  name := name
  kind := .ordinary
  loader := none
  accessFlags := 33
  super := sup
  interfaces := #[]
  cf := none
  fields := #[]
  methods := #[]
  instanceTypes := #[]
  staticTypes := #[]
  resolved := #[]
  callSites := []
  init := .initialized
  statics := none
  mirror := none

def pool0 : Array CpInfo := pool [(5, u "<init>"), (0, u "()V"), (1, .class_ 10), (1, u "java/lang/Object")] 113

def k0m0 : Method := { name := "<init>", desc := "()V", sig := { parameters := [], returnType := none }, accessFlags := 1, code := none }
/-- java/lang/Object -/
def k0 : Class := { plain "java/lang/Object" none with
  accessFlags := 33
  interfaces := #[]
  cf := some (fileOf pool0 8 #[] #[{ accessFlags := 1, nameIndex := 5, descriptorIndex := 6, attributes := #[] }] 33 0 #[] #[])
  fields := #[]
  methods := #[k0m0]
  instanceTypes := #[]
  staticTypes := #[]
  resolved := Array.replicate 124 none
  statics := none }

def pool1 : Array CpInfo := pool [(2, .class_ 4), (1, u "java/lang/Object"), (0, u "<init>"), (0, u "()V"), (0, .methodref 8 9), (0, .class_ 10), (0, .nameAndType 11 12), (0, u "com/example/tessera/tessera/platform/SecretCode"), (0, u "isPin"), (0, u "(I)Z"), (0, .class_ 14), (0, u "com/example/tessera/tessera/platform/SecretCodeIsPinPinLaw"), (2, u "law")] 3

def k1m0 : Method := { name := "<init>", desc := "()V", sig := { parameters := [], returnType := none }, accessFlags := 1, code := none }
def k1c1 : Code := { maxStack := 2, maxLocals := 3, code := code, exceptionTable := #[], attributes := #[] }
def k1m1 : Method := { name := "law", desc := "(I)Z", sig := { parameters := [.int], returnType := some .boolean }, accessFlags := 9, code := some k1c1 }
/-- com/example/tessera/tessera/platform/SecretCodeIsPinPinLaw -/
def k1 : Class := { plain "com/example/tessera/tessera/platform/SecretCodeIsPinPinLaw" (some 0) with
  accessFlags := 49
  interfaces := #[]
  cf := some (fileOf pool1 13 #[] #[{ accessFlags := 1, nameIndex := 5, descriptorIndex := 6, attributes := #[] }, { accessFlags := 9, nameIndex := 17, descriptorIndex := 12, attributes := #[] }] 49 2 #[] #[])
  fields := #[]
  methods := #[k1m0, k1m1]
  instanceTypes := #[]
  staticTypes := #[]
  resolved := Array.replicate 21 none
  statics := none }

def pool2 : Array CpInfo := pool [(2, .class_ 4), (1, u "java/lang/Object"), (3, .class_ 10), (1, u "com/example/tessera/tessera/platform/SecretCode"), (16, u "purpose"), (0, u "Lcom/example/tessera/tessera/platform/SecretCode$Purpose;"), (2, u "keyReference"), (0, u "I"), (2, u "value"), (0, u "[B"), (2, u "maxTries"), (2, u "triesLeft"), (2, u "enabled"), (0, u "Z"), (1, .class_ 50), (1, u "com/example/tessera/tessera/platform/SecretCode$Purpose"), (75, .class_ 127), (0, u "com/example/tessera/tessera/platform/SecretCode$State"), (12, u "PIN1"), (2, u "ADM1"), (1, u "LENGTH"), (1, u "PIN_TRIES"), (1, u "UNBLOCK_TRIES"), (0, u "MIN_PIN_DIGITS"), (1, u "UNIVERSAL_PIN"), (1, u "PAD"), (0, u "B"), (8, u "isPin"), (0, u "(I)Z")] 57

def k2c0 : Code := { maxStack := 2, maxLocals := 2, code := prog_52_method_6_code, exceptionTable := #[], attributes := #[] }
def k2m0 : Method := { name := "isPin", desc := "(I)Z", sig := { parameters := [.int], returnType := some .boolean }, accessFlags := 8, code := some k2c0 }
/-- com/example/tessera/tessera/platform/SecretCode -/
def k2 : Class := { plain "com/example/tessera/tessera/platform/SecretCode" (some 0) with
  accessFlags := 49
  interfaces := #[]
  cf := some (fileOf pool2 8 #[.nestMembers #[126, 48]] #[{ accessFlags := 8, nameIndex := 164, descriptorIndex := 165, attributes := #[] }] 49 2 #[] #[{ accessFlags := 25, nameIndex := 140, descriptorIndex := 32, attributes := #[] }, { accessFlags := 25, nameIndex := 143, descriptorIndex := 32, attributes := #[] }, { accessFlags := 25, nameIndex := 145, descriptorIndex := 32, attributes := #[] }, { accessFlags := 26, nameIndex := 147, descriptorIndex := 32, attributes := #[] }, { accessFlags := 26, nameIndex := 149, descriptorIndex := 32, attributes := #[] }, { accessFlags := 26, nameIndex := 150, descriptorIndex := 32, attributes := #[] }, { accessFlags := 26, nameIndex := 152, descriptorIndex := 32, attributes := #[] }, { accessFlags := 26, nameIndex := 154, descriptorIndex := 155, attributes := #[] }, { accessFlags := 18, nameIndex := 27, descriptorIndex := 28, attributes := #[] }, { accessFlags := 18, nameIndex := 31, descriptorIndex := 32, attributes := #[] }, { accessFlags := 18, nameIndex := 39, descriptorIndex := 32, attributes := #[] }, { accessFlags := 2, nameIndex := 35, descriptorIndex := 36, attributes := #[] }, { accessFlags := 2, nameIndex := 42, descriptorIndex := 32, attributes := #[] }, { accessFlags := 2, nameIndex := 45, descriptorIndex := 46, attributes := #[] }])
  fields := #[{ name := "PIN1", type := .int, accessFlags := 25, slot := 0, constantValue := 0 }, { name := "ADM1", type := .int, accessFlags := 25, slot := 1, constantValue := 0 }, { name := "LENGTH", type := .int, accessFlags := 25, slot := 2, constantValue := 0 }, { name := "PIN_TRIES", type := .int, accessFlags := 26, slot := 3, constantValue := 0 }, { name := "UNBLOCK_TRIES", type := .int, accessFlags := 26, slot := 4, constantValue := 0 }, { name := "MIN_PIN_DIGITS", type := .int, accessFlags := 26, slot := 5, constantValue := 0 }, { name := "UNIVERSAL_PIN", type := .int, accessFlags := 26, slot := 6, constantValue := 0 }, { name := "PAD", type := .byte, accessFlags := 26, slot := 7, constantValue := 0 }, { name := "purpose", type := (.object "com/example/tessera/tessera/platform/SecretCode$Purpose"), accessFlags := 18, slot := 0, constantValue := 0 }, { name := "keyReference", type := .int, accessFlags := 18, slot := 1, constantValue := 0 }, { name := "maxTries", type := .int, accessFlags := 18, slot := 2, constantValue := 0 }, { name := "value", type := (.array .byte), accessFlags := 2, slot := 3, constantValue := 0 }, { name := "triesLeft", type := .int, accessFlags := 2, slot := 4, constantValue := 0 }, { name := "enabled", type := .boolean, accessFlags := 2, slot := 5, constantValue := 0 }]
  methods := #[k2m0]
  instanceTypes := #[(.object "com/example/tessera/tessera/platform/SecretCode$Purpose"), .int, .int, (.array .byte), .int, .boolean]
  staticTypes := #[.int, .int, .int, .int, .int, .int, .int, .byte]
  resolved := Array.replicate 223 none
  statics := none }

def pool3 : Array CpInfo := pool [(1, u "java/lang/Cloneable"), (0, .class_ 1), (0, u "java/lang/Object"), (0, .class_ 3)] 3

/-- java/lang/Cloneable -/
def k3 : Class := { plain "java/lang/Cloneable" (some 0) with
  accessFlags := 1537
  interfaces := #[]
  cf := some (fileOf pool3 2 #[] #[] 1537 4 #[] #[])
  fields := #[]
  methods := #[]
  instanceTypes := #[]
  staticTypes := #[]
  resolved := Array.replicate 8 none
  statics := none }

def pool4 : Array CpInfo := pool [(1, u "java/io/Serializable"), (0, .class_ 1), (0, u "java/lang/Object"), (0, .class_ 3)] 3

/-- java/io/Serializable -/
def k4 : Class := { plain "java/io/Serializable" (some 0) with
  accessFlags := 1537
  interfaces := #[]
  cf := some (fileOf pool4 2 #[] #[] 1537 4 #[] #[])
  fields := #[]
  methods := #[]
  instanceTypes := #[]
  staticTypes := #[]
  resolved := Array.replicate 8 none
  statics := none }

/-- the primitive byte -/
def k5 : Class := { plain "byte" none with kind := .primitive 'B', accessFlags := 0x411 }
/-- [B -/
def k6 : Class := { plain "[B" (some 0) with kind := .array 5 .byte, interfaces := #[3, 4], accessFlags := 1041 }

/-- the primitive int -/
def k7 : Class := { plain "int" none with kind := .primitive 'I', accessFlags := 0x411 }
/-- [I -/
def k8 : Class := { plain "[I" (some 0) with kind := .array 7 .int, interfaces := #[3, 4], accessFlags := 1041 }

def heap : Heap := #[]
def classes : Array Class := #[k0, k1, k2, k3, k4, k5, k6, k7, k8]
def interned : List (Array UInt16 × Addr) := []
def slotsUsed : Nat := 0
def theMethod : MethodId := ⟨1, 1⟩
def args0 : Array Value := #[.int 5]
def aboutOver (below : List Frame) : State where
  vm := { classes := classes, interned := interned.toArray }
  heap := heap
  slotsUsed := slotsUsed
  threads := #[{ frames := .invoking theMethod args0 :: below }]
def below0 : List Frame := [.native { method := ⟨0, 0⟩, args := #[] }]
def about1 : State := aboutOver below0
def p0 : Program := .bare "" "" ""
def e0 : Env := launch0.env 0 0 0
theorem w_frames : about1.frames = Frame.invoking theMethod args0 :: below0 := rfl
set_option maxRecDepth 65536 in
theorem w_args : argsFit about1.vm theMethod args0 = true := by decide +kernel
set_option maxRecDepth 65536 in
theorem w_heap : heapFits about1 = true := by decide +kernel
set_option maxRecDepth 65536 in
theorem w_runnable : about1.curStatus? = some .runnable := by decide +kernel
set_option maxRecDepth 65536 in
theorem w_alone : about1.alone = true := by decide +kernel
set_option maxRecDepth 65536 in
theorem w_named : about1.methodNamed? x = some theMethod := by decide +kernel
set_option maxRecDepth 65536 in
theorem w_hears : about1.hears theMethod below0 = true := by decide +kernel
set_option maxRecDepth 65536 in
theorem w_ripe : about1.ripe theMethod args0 below0 = true := by decide +kernel
theorem w_running : about1.status = .running := rfl
set_option maxRecDepth 65536 in
theorem w_room : about1.hasRoom e0.platform room_1 = true :=
  launch0.hasRoom_least _ room_1 (by decide +kernel) (by decide +kernel) (by decide +kernel) (by decide +kernel) (by decide +kernel) (by decide +kernel)
theorem allAtoms_all (ts : List Jvm.Cond) (a : Array Jvm.Value) (st : Jvm.State) : (allAtoms ts).before a st = ts.all (fun c => c.before a st) := by
  induction ts with
  | nil => rfl
  | cons c t ih =>
    show (Jvm.Cond.and c (allAtoms t)).before a st = _
    rw [Jvm.Cond.before_and, ih, List.all_cons]
def words1 : List Jvm.Cond := Jvm.Cond.code x code maxLocals ret :: tables_1
/-- a 'code' word, met by the world's own term for the bytes: nothing is compared byte by byte -/
theorem code_word {y : MethodName} {bytes : ByteArray} {mx : Nat} {rt : Option FieldType} {a : Array Value} {s : State} {m : MethodId} {meth : Method} {c : Code} (h1 : s.methodNamed? y = some m) (h2 : s.vm.method? m = some meth) (h3 : meth.code = some c) (h4 : c.code = bytes)
    (h5 : (c.maxLocals == mx && c.exceptionTable.isEmpty && decide (c.maxStack ≤ mostOperands) && decide (meth.sig.returnType = rt) && !meth.locks && decide (parseMethodDescriptor y.desc = some meth.sig)) = true) : (Jvm.Cond.code y bytes mx rt).before a s = true := by
  simp only [Bool.and_eq_true, beq_iff_eq, Bool.not_eq_true', decide_eq_true_eq] at h5
  obtain ⟨⟨⟨⟨⟨g1, g2⟩, g3⟩, g4⟩, g5⟩, g6⟩ := h5
  simp [Cond.before, Cond.holds, Cond.value, h1, h2, h3, h4, g1, g2, g3, g4, g5, g6]
def isCode : Jvm.Cond → Bool
  | .code _ _ _ _ => true
  | _ => false
theorem all_split {L : List Jvm.Cond} {P : Jvm.Cond → Bool} (h1 : L.all (fun c => isCode c || P c) = true) (h2 : ∀ c ∈ L.filter isCode, P c = true) : L.all P = true := by
  refine List.all_eq_true.mpr fun c hc => ?_
  have h := List.all_eq_true.mp h1 c hc
  rcases Bool.eq_false_or_eq_true (isCode c) with hi | hi
  · exact h2 c (List.mem_filter.mpr ⟨hc, hi⟩)
  · simpa [hi] using h
set_option maxRecDepth 65536 in
theorem w_c0 : (Jvm.Cond.code x code maxLocals ret).before args0 about1 = true := code_word (m := ⟨1, 1⟩) (meth := k1m1) (c := k1c1) (by decide +kernel) rfl rfl rfl (by decide +kernel)
set_option maxRecDepth 65536 in
theorem w_c1 : (Jvm.Cond.code ({ cls := "com/example/tessera/tessera/platform/SecretCode", name := "isPin", desc := "(I)Z" } : Jvm.MethodName) prog_52_method_6_code (2 : Nat) (Option.some Jvm.ClassFile.FieldType.boolean)).before args0 about1 = true := code_word (m := ⟨2, 0⟩) (meth := k2m0) (c := k2c0) (by decide +kernel) rfl rfl rfl (by decide +kernel)
def codes1 : List Jvm.Cond := [Jvm.Cond.code x code maxLocals ret, Jvm.Cond.code ({ cls := "com/example/tessera/tessera/platform/SecretCode", name := "isPin", desc := "(I)Z" } : Jvm.MethodName) prog_52_method_6_code (2 : Nat) (Option.some Jvm.ClassFile.FieldType.boolean)]
set_option maxRecDepth 65536 in
theorem codes_eq : words1.filter isCode = codes1 := rfl
theorem w_codes : ∀ c ∈ words1.filter isCode, c.before args0 about1 = true := by
  rw [codes_eq]
  intro c hc
  simp only [codes1, List.mem_cons, List.not_mem_nil, or_false] at hc
  rcases hc with rfl | rfl
  · exact w_c0
  · exact w_c1
set_option maxRecDepth 65536 in
theorem w_t1 : words1.all (fun c => isCode c || c.before args0 about1) = true := by decide +kernel
theorem w_tables : (allAtoms (Jvm.Cond.code x code maxLocals ret :: tables_1)).before args0 about1 = true := by
  rw [allAtoms_all]
  show words1.all (fun c => c.before args0 about1) = true
  refine all_split ?_ w_codes
  rw [w_t1]
set_option maxRecDepth 65536 in
theorem w_case : (Jvm.Cond.and given_1 narrow_1).before args0 about1 = true := by decide +kernel
theorem w_applies : (headSpec (Jvm.Cond.code x code maxLocals ret :: tables_1) room_1).applies x e0.platform about1 = true :=
  (Spec.applies_iff w_frames).mpr ⟨w_running, w_runnable, w_alone, w_named, w_hears, w_ripe, w_room, w_tables⟩
theorem atStart : AtStart classFile x code maxLocals ret World_1 tables_1 room_1 Calls_1 rest_1 Pre_1 launch0 p0 e0 about1 theMethod args0 below0 :=
  ⟨lists_1, trivial, launch0.admits_env _ _ _, launch0.least_env, fairChoices_fair.cas, fairChoices_fair.clock, w_frames, w_args, w_heap, w_applies, trivial, trivial, w_case⟩
end start1
theorem witness_1 : WitnessClaimed_1 := ⟨start1.p0, start1.e0, start1.about1, start1.theMethod, start1.args0, start1.below0, start1.atStart⟩
end Jvm.Pilot.@@N@@
