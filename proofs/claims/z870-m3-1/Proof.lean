import JvmDerived
import JvmDerived.Pilot.@@N@@Statement
import JvmDerived.Pilot.@@N@@Code
set_option linter.unusedVariables false
set_option linter.unusedSimpArgs false
namespace Jvm.RoadKit
open Sem ClassFile Op Lib Jvm.Stand Jvm.Free Jvm.LawKit
section New
variable {p : Program} {l : Launch} {e : Env} {R : Room} {s : State} {m : MethodId} {args : Array Value} {below : List Frame} {meth : Method} {c : Code} {T : State} {locs : List Loc} {cells slots : Nat}
theorem retI (X : Stand p l e R s m args below meth c T locs cells slots) (hx : p.tables.exec = Jvm.exec) {pc : Nat} {Ls : Array Slot} {z : Int32} {rest : List Value} (hret : meth.sig.returnType = some .int) (hd : decode c.code pc = .ok (.ireturn, 1)) {fs : List Frame}
    (hl : ∀ (f : JFrame) (acts : List Action), f.method = m → f.locked = none → f.entered = [] → (doReturn e (T.setTop f) acts (some (.int z))).1 = T.setFrames fs) : Steps p.tables e below (T.setTop (mkF m pc Ls (.int z :: rest))) (T.setFrames fs) := by
  have hm' : T.vm.method? m = some meth := X.method'
  have hn : narrow .int (.int z) = .int z := rfl
  show Steps p.tables e below (T.setTop { method := m, pc := pc, locals := Ls, stack := _ :: rest, locked := none }) _
  jvm_step X.here [X.here.top, hx, hd, hm', hret, hn]
  first | (intro acts; rw [hl _ acts rfl rfl rfl]) | rw [hl _ _ rfl rfl rfl]
  exact Steps.refl _
end New
end Jvm.RoadKit
namespace Jvm.Pilot.@@N@@
open Jvm Jvm.ClassFile Sem Op Lib Jvm.Free Jvm.Stand Jvm.LawKit Jvm.RoadKit Bundle Jvm.Pilot.@@N@@.Jvm.D
def own_Ends (p : Program) (e : Env) (below : List Frame) (T : State) (g : JFrame) (P : Outcome → State → Prop) : Prop := ∃ s₂ o, Steps p.tables e below (T.setTop g) s₂ ∧ s₂.status = .running ∧ Ended s₂ below o ∧ P o s₂
theorem own_go {p : Program} {e : Env} {below : List Frame} {T T' : State} {g g' : JFrame} {P : Outcome → State → Prop} (h : ∀ t, Steps p.tables e below (T'.setTop g') t → Steps p.tables e below (T.setTop g) t) (k : own_Ends p e below T' g' P) : own_Ends p e below T g P := by
  obtain ⟨a, o, q, r⟩ := k
  exact ⟨a, o, h _ q, r⟩
def own_Len (Z : State) (h : Heap) (a : Addr) (ty : FieldType) (n : Int32) : Prop := ∃ c : Cell, Arr Z h a c ty ∧ c.slots.size = n.toNatClampNeg ∧ ¬ n < 0
theorem own_Len.lt {Z : State} {h : Heap} {a : Addr} {ty : FieldType} {n : Int32} (F : own_Len Z h a ty n) : a < h.size := by obtain ⟨c, A, -⟩ := F; exact A.lt
theorem own_Len.ext {Z : State} {h h' : Heap} {a : Addr} {ty : FieldType} {n : Int32} (F : own_Len Z h a ty n) (E : Ext h h') : own_Len Z h' a ty n := by obtain ⟨c, A, r⟩ := F; exact ⟨c, A.ext E, r⟩
theorem own_Len.other {Z : State} {h h' : Heap} {a b : Addr} {ty : FieldType} {n : Int32} {sl : Nat} {v : Value} (F : own_Len Z h b ty n) (W : Wr h h' a sl v) (q : b ≠ a) : own_Len Z h' b ty n := by obtain ⟨c, A, r⟩ := F; exact ⟨c, A.other W q, r⟩
theorem own_Len.same {Z : State} {h h' : Heap} {a : Addr} {ty : FieldType} {n : Int32} {sl : Nat} {v : Value} (F : own_Len Z h a ty n) (W : Wr h h' a sl v) : own_Len Z h' a ty n := by obtain ⟨c, A, r1, r2⟩ := F; exact ⟨_, A.same W, by rw [sz_set]; exact r1, r2⟩
theorem own_Len.keep {Z : State} {h h' : Heap} {a : Addr} {ty : FieldType} {n : Int32} {ws : List Addr} (F : own_Len Z h a ty n) (K : Keep h h' ws) (q : a ∉ ws) : own_Len Z h' a ty n := by obtain ⟨c, A, r⟩ := F; exact ⟨c, ⟨K.2.1 a c A.1 q, A.2⟩, r⟩
theorem own_as {p : Program} {e : Env} {below : List Frame} {T : State} {g g' : JFrame} {P : Outcome → State → Prop} (h : g = g') (k : own_Ends p e below T g' P) : own_Ends p e below T g P := h ▸ k

def own_iri (c : Int32) : Int32 := if (32 : Int32) < c then (if c = 34 ∨ c = 60 ∨ c = 62 ∨ c = 92 ∨ c = 94 ∨ c = 96 ∨ c = 123 ∨ c = 124 ∨ c = 125 then 0 else 1) else 0
def own_bit (w : Int64) (c : Int32) : Int64 := ((w.toUInt64 >>> (c &&& 0x3f).toInt64.toUInt64).toInt64) &&& (1 : Int64)
def own_exp (c : Int32) : Int32 := if c < (0 : Int32) then 0 else if c < (128 : Int32) then (if c < (64 : Int32) then (if own_bit (5764607548804038655 : Int64) c = (0 : Int64) then 1 else 0) else (if own_bit (4035225271761108992 : Int64) (c - (64 : Int32)) = (0 : Int64) then 1 else 0)) else 1
theorem own_fin : ∀ k : Fin 128, own_iri (Int32.ofInt (k.val : Int)) = own_exp (Int32.ofInt (k.val : Int)) := by decide +kernel
theorem own_same (c : Int32) : own_iri c = own_exp c := by
  by_cases h0 : c < 0
  · have h1 : ¬ (32 : Int32) < c := by
      rw [Int32.lt_iff_toInt_lt] at h0 ⊢
      have e1 : (32 : Int32).toInt = 32 := by decide
      have e2 : (0 : Int32).toInt = 0 := by decide
      omega
    simp [own_iri, own_exp, h0, h1]
  · by_cases h1 : c < 128
    · have hi : (0 : Int) ≤ c.toInt ∧ c.toInt < 128 := by
        rw [Int32.lt_iff_toInt_lt] at h0 h1
        have e1 : (128 : Int32).toInt = 128 := by decide
        have e2 : (0 : Int32).toInt = 0 := by decide
        omega
      have hk := own_fin ⟨c.toInt.toNat, by omega⟩
      have e : ((c.toInt.toNat : Nat) : Int) = c.toInt := by omega
      simp only [e, Int32.ofInt_toInt] at hk
      exact hk
    · have q : ∀ n : Int32, n.toInt < 128 → ¬ c = n := fun n hn e => by
        rw [Int32.lt_iff_toInt_lt] at h1
        have e1 : (128 : Int32).toInt = 128 := by decide
        rw [e] at h1
        omega
      have h2 : (32 : Int32) < c := by
        rw [Int32.lt_iff_toInt_lt] at h1 ⊢
        have e1 : (128 : Int32).toInt = 128 := by decide
        have e2 : (32 : Int32).toInt = 32 := by decide
        omega
      simp [own_iri, own_exp, h0, h1, h2, q 34 (by decide), q 60 (by decide), q 62 (by decide), q 92 (by decide), q 94 (by decide), q 96 (by decide), q 123 (by decide), q 124 (by decide), q 125 (by decide)]
theorem d1_0 : decode prog_19_method_5_code 0 = .ok (.iload_n 0, 1) := by decide +kernel
theorem d1_1 : decode prog_19_method_5_code 1 = .ok (.bipush 32, 2) := by decide +kernel
theorem d1_3 : decode prog_19_method_5_code 3 = .ok (.if_icmp .gt 5, 3) := by decide +kernel
theorem d1_6 : decode prog_19_method_5_code 6 = .ok (.iconst 0, 1) := by decide +kernel
theorem d1_7 : decode prog_19_method_5_code 7 = .ok (.ireturn, 1) := by decide +kernel
theorem d1_8 : decode prog_19_method_5_code 8 = .ok (.iload_n 0, 1) := by decide +kernel
theorem d1_9 : decode prog_19_method_5_code 9 = .ok (.lookupswitch 85 #[(34, 83), (60, 83), (62, 83), (92, 83), (94, 83), (96, 83), (123, 83), (124, 83), (125, 83)], 83) := by decide +kernel
theorem d1_92 : decode prog_19_method_5_code 92 = .ok (.iconst 0, 1) := by decide +kernel
theorem d1_93 : decode prog_19_method_5_code 93 = .ok (.ireturn, 1) := by decide +kernel
theorem d1_94 : decode prog_19_method_5_code 94 = .ok (.iconst 1, 1) := by decide +kernel
theorem d1_95 : decode prog_19_method_5_code 95 = .ok (.ireturn, 1) := by decide +kernel
theorem pn_1 : plainName "com/example/graphtide/graphtide/rdf/CharClasses" = true := by first | (simp [plainName, overriddenIn]; done) | decide +kernel
theorem ef_1 (m : MethodId) (p0 : Int32) : entryFrame m #[(.int p0)] 1 = mkF m 0 #[.val (.int p0)] [] := by first | (simp [entryFrame, mkF, argsToLocals, Value.category]; done) | rfl
def Q_rm1 (Z : State) (p0 : Int32) (h0 : Heap) (n0 : Nat) (v : Option Value) (h : Heap) (L : List Loc) : Prop := v = some (.int (own_iri p0)) ∧ Fr n0 L ∧ h = h0
set_option maxRecDepth 65536 in
set_option maxHeartbeats 40000000 in
theorem rm1 (l : Launch) (Z : State) (a0 : Array Value) (hw : ∀ d ∈ tables_1, d.before a0 Z = true) (ws : List Jvm.Cond) (p0 : Int32) (h0 : Heap) (n0 : Nat) (Z0 : n0 ≤ h0.size) :
    MetFree l (⟨"com/example/graphtide/graphtide/rdf/CharClasses", "isIriChar", "(I)Z"⟩ : MethodName) (head1 (Jvm.Cond.code (⟨"com/example/graphtide/graphtide/rdf/CharClasses", "isIriChar", "(I)Z"⟩ : MethodName) prog_19_method_5_code 1 (some .boolean) :: ws) ({ frames := 0, cells := 0, slots := 0, locals := 0 } : Room)) (fun a U => a = #[(.int p0)] ∧ Z.Warmed39 U.vm ∧ U.heap = h0) (fun _ _ _ _ _ => True) (fun _ U o U' => ∃ v L, o = .returned v ∧ Q_rm1 Z p0 h0 n0 v U'.heap L ∧ FrameEnd U o U' L ({ frames := 0, cells := 0, slots := 0, locals := 0 } : Room).cells ({ frames := 0, cells := 0, slots := 0, locals := 0 } : Room).slots) := by
  refine MetFree.of_bodySF (plainFor_of_name pn_1) hisR ?_
  intro p e s m args below meth c s₁ Bd hml0 hP hK
  obtain ⟨rfl, hZ, hh⟩ := hP
  have hx := Bd.exec
  have hby := Bd.bytes
  have hml : c.maxLocals = 1 := hml0
  have hown : s.vm.findClass "com/example/graphtide/graphtide/rdf/CharClasses" = some m.cls := findClass_of_methodNamed Bd.named
  have hnm := (name_of_methodNamed Bd.named Bd.method).1
  have X0 : Stand p l e ({ frames := 0, cells := 0, slots := 0, locals := 0 } : Room) s m #[(.int p0)] below meth c s₁ [] 0 0 := Stand.of_body Bd
  have e0 : s₁.heap = h0 := by rw [← hh, Bd.state]; rfl
  have N0 := Fr.nil n0
  have K0 := Keep.refl h0 []
  refine own_as (ef_1 m p0) ?_
  show own_Ends p e below s₁ (mkF m 0 #[.val (.int p0)] []) _
  refine own_go (fun _ => XS.iloadN X0.here hx rfl (hb hby d1_0) rfl) ?_
  show own_Ends p e below s₁ (mkF m 1 #[.val (.int p0)] [(.int p0)]) _
  refine own_go (fun _ => XS.bipush X0.here hx rfl (hb hby d1_1)) ?_
  show own_Ends p e below s₁ (mkF m 3 #[.val (.int p0)] [(.int (32 : Int32)), (.int p0)]) _
  by_cases hc3 : (32 : Int32) < p0
  · refine own_go (fun _ => XS.icmpYes X0.here hx rfl (pc0 := 3) (pc' := 8) rfl (hb hby d1_3) rfl (tlt hc3).2.2.1 (by decide) (by decide)) ?_
    show own_Ends p e below s₁ (mkF m 8 #[.val (.int p0)] []) _
    refine own_go (fun _ => XS.iloadN X0.here hx rfl (hb hby d1_8) rfl) ?_
    show own_Ends p e below s₁ (mkF m 9 #[.val (.int p0)] [(.int p0)]) _
    by_cases hs9_34 : p0 = (34 : Int32)
    · refine own_go (fun t => Stand.lookupswitchHit X0 hx (g := (mkF m 9 #[.val (.int p0)] [(.int p0)])) rfl rfl (hb hby d1_9) (by decide) (a := 34) (off := 83) (by rw [hs9_34]; decide) (show (0 : Int) ≤ ((9 : Nat) : Int) + 83 by decide) t) ?_
      show own_Ends p e below s₁ (mkF m 92 #[.val (.int p0)] []) _
      refine own_go (fun _ => XS.iconst X0.here hx rfl (hb hby d1_92)) ?_
      show own_Ends p e below s₁ (mkF m 93 #[.val (.int p0)] [(.int (0 : Int32))]) _
      obtain ⟨fs, hr, hrun, hended, hW, hsame⟩ := X0.leave (v := some (.int (0 : Int32))) (fun h => by rw [Bd.returns] at h; cases h)
      refine ⟨_, _, retN X0 hx (t := .boolean) Bd.returns (by simp) (hb hby d1_93) hr, hrun, hended, _, _, rfl, ?_, ⟨_, rfl⟩, hW, hsame.mono (by decide) (by decide)⟩
      show Q_rm1 Z p0 h0 n0 _ s₁.heap _
      rw [e0]
      exact ⟨by simp [own_iri, hc3, hs9_34], N0, rfl⟩
    · have hn9_34 := hs9_34
      by_cases hs9_60 : p0 = (60 : Int32)
      · refine own_go (fun t => Stand.lookupswitchHit X0 hx (g := (mkF m 9 #[.val (.int p0)] [(.int p0)])) rfl rfl (hb hby d1_9) (by decide) (a := 60) (off := 83) (by rw [hs9_60]; decide) (show (0 : Int) ≤ ((9 : Nat) : Int) + 83 by decide) t) ?_
        show own_Ends p e below s₁ (mkF m 92 #[.val (.int p0)] []) _
        refine own_go (fun _ => XS.iconst X0.here hx rfl (hb hby d1_92)) ?_
        show own_Ends p e below s₁ (mkF m 93 #[.val (.int p0)] [(.int (0 : Int32))]) _
        obtain ⟨fs, hr, hrun, hended, hW, hsame⟩ := X0.leave (v := some (.int (0 : Int32))) (fun h => by rw [Bd.returns] at h; cases h)
        refine ⟨_, _, retN X0 hx (t := .boolean) Bd.returns (by simp) (hb hby d1_93) hr, hrun, hended, _, _, rfl, ?_, ⟨_, rfl⟩, hW, hsame.mono (by decide) (by decide)⟩
        show Q_rm1 Z p0 h0 n0 _ s₁.heap _
        rw [e0]
        exact ⟨by simp [own_iri, hc3, hs9_34, hs9_60], N0, rfl⟩
      · have hn9_60 := hs9_60
        by_cases hs9_62 : p0 = (62 : Int32)
        · refine own_go (fun t => Stand.lookupswitchHit X0 hx (g := (mkF m 9 #[.val (.int p0)] [(.int p0)])) rfl rfl (hb hby d1_9) (by decide) (a := 62) (off := 83) (by rw [hs9_62]; decide) (show (0 : Int) ≤ ((9 : Nat) : Int) + 83 by decide) t) ?_
          show own_Ends p e below s₁ (mkF m 92 #[.val (.int p0)] []) _
          refine own_go (fun _ => XS.iconst X0.here hx rfl (hb hby d1_92)) ?_
          show own_Ends p e below s₁ (mkF m 93 #[.val (.int p0)] [(.int (0 : Int32))]) _
          obtain ⟨fs, hr, hrun, hended, hW, hsame⟩ := X0.leave (v := some (.int (0 : Int32))) (fun h => by rw [Bd.returns] at h; cases h)
          refine ⟨_, _, retN X0 hx (t := .boolean) Bd.returns (by simp) (hb hby d1_93) hr, hrun, hended, _, _, rfl, ?_, ⟨_, rfl⟩, hW, hsame.mono (by decide) (by decide)⟩
          show Q_rm1 Z p0 h0 n0 _ s₁.heap _
          rw [e0]
          exact ⟨by simp [own_iri, hc3, hs9_34, hs9_60, hs9_62], N0, rfl⟩
        · have hn9_62 := hs9_62
          by_cases hs9_92 : p0 = (92 : Int32)
          · refine own_go (fun t => Stand.lookupswitchHit X0 hx (g := (mkF m 9 #[.val (.int p0)] [(.int p0)])) rfl rfl (hb hby d1_9) (by decide) (a := 92) (off := 83) (by rw [hs9_92]; decide) (show (0 : Int) ≤ ((9 : Nat) : Int) + 83 by decide) t) ?_
            show own_Ends p e below s₁ (mkF m 92 #[.val (.int p0)] []) _
            refine own_go (fun _ => XS.iconst X0.here hx rfl (hb hby d1_92)) ?_
            show own_Ends p e below s₁ (mkF m 93 #[.val (.int p0)] [(.int (0 : Int32))]) _
            obtain ⟨fs, hr, hrun, hended, hW, hsame⟩ := X0.leave (v := some (.int (0 : Int32))) (fun h => by rw [Bd.returns] at h; cases h)
            refine ⟨_, _, retN X0 hx (t := .boolean) Bd.returns (by simp) (hb hby d1_93) hr, hrun, hended, _, _, rfl, ?_, ⟨_, rfl⟩, hW, hsame.mono (by decide) (by decide)⟩
            show Q_rm1 Z p0 h0 n0 _ s₁.heap _
            rw [e0]
            exact ⟨by simp [own_iri, hc3, hs9_34, hs9_60, hs9_62, hs9_92], N0, rfl⟩
          · have hn9_92 := hs9_92
            by_cases hs9_94 : p0 = (94 : Int32)
            · refine own_go (fun t => Stand.lookupswitchHit X0 hx (g := (mkF m 9 #[.val (.int p0)] [(.int p0)])) rfl rfl (hb hby d1_9) (by decide) (a := 94) (off := 83) (by rw [hs9_94]; decide) (show (0 : Int) ≤ ((9 : Nat) : Int) + 83 by decide) t) ?_
              show own_Ends p e below s₁ (mkF m 92 #[.val (.int p0)] []) _
              refine own_go (fun _ => XS.iconst X0.here hx rfl (hb hby d1_92)) ?_
              show own_Ends p e below s₁ (mkF m 93 #[.val (.int p0)] [(.int (0 : Int32))]) _
              obtain ⟨fs, hr, hrun, hended, hW, hsame⟩ := X0.leave (v := some (.int (0 : Int32))) (fun h => by rw [Bd.returns] at h; cases h)
              refine ⟨_, _, retN X0 hx (t := .boolean) Bd.returns (by simp) (hb hby d1_93) hr, hrun, hended, _, _, rfl, ?_, ⟨_, rfl⟩, hW, hsame.mono (by decide) (by decide)⟩
              show Q_rm1 Z p0 h0 n0 _ s₁.heap _
              rw [e0]
              exact ⟨by simp [own_iri, hc3, hs9_34, hs9_60, hs9_62, hs9_92, hs9_94], N0, rfl⟩
            · have hn9_94 := hs9_94
              by_cases hs9_96 : p0 = (96 : Int32)
              · refine own_go (fun t => Stand.lookupswitchHit X0 hx (g := (mkF m 9 #[.val (.int p0)] [(.int p0)])) rfl rfl (hb hby d1_9) (by decide) (a := 96) (off := 83) (by rw [hs9_96]; decide) (show (0 : Int) ≤ ((9 : Nat) : Int) + 83 by decide) t) ?_
                show own_Ends p e below s₁ (mkF m 92 #[.val (.int p0)] []) _
                refine own_go (fun _ => XS.iconst X0.here hx rfl (hb hby d1_92)) ?_
                show own_Ends p e below s₁ (mkF m 93 #[.val (.int p0)] [(.int (0 : Int32))]) _
                obtain ⟨fs, hr, hrun, hended, hW, hsame⟩ := X0.leave (v := some (.int (0 : Int32))) (fun h => by rw [Bd.returns] at h; cases h)
                refine ⟨_, _, retN X0 hx (t := .boolean) Bd.returns (by simp) (hb hby d1_93) hr, hrun, hended, _, _, rfl, ?_, ⟨_, rfl⟩, hW, hsame.mono (by decide) (by decide)⟩
                show Q_rm1 Z p0 h0 n0 _ s₁.heap _
                rw [e0]
                exact ⟨by simp [own_iri, hc3, hs9_34, hs9_60, hs9_62, hs9_92, hs9_94, hs9_96], N0, rfl⟩
              · have hn9_96 := hs9_96
                by_cases hs9_123 : p0 = (123 : Int32)
                · refine own_go (fun t => Stand.lookupswitchHit X0 hx (g := (mkF m 9 #[.val (.int p0)] [(.int p0)])) rfl rfl (hb hby d1_9) (by decide) (a := 123) (off := 83) (by rw [hs9_123]; decide) (show (0 : Int) ≤ ((9 : Nat) : Int) + 83 by decide) t) ?_
                  show own_Ends p e below s₁ (mkF m 92 #[.val (.int p0)] []) _
                  refine own_go (fun _ => XS.iconst X0.here hx rfl (hb hby d1_92)) ?_
                  show own_Ends p e below s₁ (mkF m 93 #[.val (.int p0)] [(.int (0 : Int32))]) _
                  obtain ⟨fs, hr, hrun, hended, hW, hsame⟩ := X0.leave (v := some (.int (0 : Int32))) (fun h => by rw [Bd.returns] at h; cases h)
                  refine ⟨_, _, retN X0 hx (t := .boolean) Bd.returns (by simp) (hb hby d1_93) hr, hrun, hended, _, _, rfl, ?_, ⟨_, rfl⟩, hW, hsame.mono (by decide) (by decide)⟩
                  show Q_rm1 Z p0 h0 n0 _ s₁.heap _
                  rw [e0]
                  exact ⟨by simp [own_iri, hc3, hs9_34, hs9_60, hs9_62, hs9_92, hs9_94, hs9_96, hs9_123], N0, rfl⟩
                · have hn9_123 := hs9_123
                  by_cases hs9_124 : p0 = (124 : Int32)
                  · refine own_go (fun t => Stand.lookupswitchHit X0 hx (g := (mkF m 9 #[.val (.int p0)] [(.int p0)])) rfl rfl (hb hby d1_9) (by decide) (a := 124) (off := 83) (by rw [hs9_124]; decide) (show (0 : Int) ≤ ((9 : Nat) : Int) + 83 by decide) t) ?_
                    show own_Ends p e below s₁ (mkF m 92 #[.val (.int p0)] []) _
                    refine own_go (fun _ => XS.iconst X0.here hx rfl (hb hby d1_92)) ?_
                    show own_Ends p e below s₁ (mkF m 93 #[.val (.int p0)] [(.int (0 : Int32))]) _
                    obtain ⟨fs, hr, hrun, hended, hW, hsame⟩ := X0.leave (v := some (.int (0 : Int32))) (fun h => by rw [Bd.returns] at h; cases h)
                    refine ⟨_, _, retN X0 hx (t := .boolean) Bd.returns (by simp) (hb hby d1_93) hr, hrun, hended, _, _, rfl, ?_, ⟨_, rfl⟩, hW, hsame.mono (by decide) (by decide)⟩
                    show Q_rm1 Z p0 h0 n0 _ s₁.heap _
                    rw [e0]
                    exact ⟨by simp [own_iri, hc3, hs9_34, hs9_60, hs9_62, hs9_92, hs9_94, hs9_96, hs9_123, hs9_124], N0, rfl⟩
                  · have hn9_124 := hs9_124
                    by_cases hs9_125 : p0 = (125 : Int32)
                    · refine own_go (fun t => Stand.lookupswitchHit X0 hx (g := (mkF m 9 #[.val (.int p0)] [(.int p0)])) rfl rfl (hb hby d1_9) (by decide) (a := 125) (off := 83) (by rw [hs9_125]; decide) (show (0 : Int) ≤ ((9 : Nat) : Int) + 83 by decide) t) ?_
                      show own_Ends p e below s₁ (mkF m 92 #[.val (.int p0)] []) _
                      refine own_go (fun _ => XS.iconst X0.here hx rfl (hb hby d1_92)) ?_
                      show own_Ends p e below s₁ (mkF m 93 #[.val (.int p0)] [(.int (0 : Int32))]) _
                      obtain ⟨fs, hr, hrun, hended, hW, hsame⟩ := X0.leave (v := some (.int (0 : Int32))) (fun h => by rw [Bd.returns] at h; cases h)
                      refine ⟨_, _, retN X0 hx (t := .boolean) Bd.returns (by simp) (hb hby d1_93) hr, hrun, hended, _, _, rfl, ?_, ⟨_, rfl⟩, hW, hsame.mono (by decide) (by decide)⟩
                      show Q_rm1 Z p0 h0 n0 _ s₁.heap _
                      rw [e0]
                      exact ⟨by simp [own_iri, hc3, hs9_34, hs9_60, hs9_62, hs9_92, hs9_94, hs9_96, hs9_123, hs9_124, hs9_125], N0, rfl⟩
                    · have hn9_125 := hs9_125
                      refine own_go (fun t => Stand.lookupswitchMiss X0 hx (g := (mkF m 9 #[.val (.int p0)] [(.int p0)])) rfl rfl (hb hby d1_9) (by decide) (find_miss (by simp only [List.mem_cons, List.not_mem_nil, or_false, forall_eq_or_imp, forall_eq, ne_eq]; exact ⟨fun q => hs9_34 (Int32.toInt_inj.mp q.symm), fun q => hs9_60 (Int32.toInt_inj.mp q.symm), fun q => hs9_62 (Int32.toInt_inj.mp q.symm), fun q => hs9_92 (Int32.toInt_inj.mp q.symm), fun q => hs9_94 (Int32.toInt_inj.mp q.symm), fun q => hs9_96 (Int32.toInt_inj.mp q.symm), fun q => hs9_123 (Int32.toInt_inj.mp q.symm), fun q => hs9_124 (Int32.toInt_inj.mp q.symm), fun q => hs9_125 (Int32.toInt_inj.mp q.symm)⟩)) (show (0 : Int) ≤ ((9 : Nat) : Int) + 85 by decide) t) ?_
                      show own_Ends p e below s₁ (mkF m 94 #[.val (.int p0)] []) _
                      refine own_go (fun _ => XS.iconst X0.here hx rfl (hb hby d1_94)) ?_
                      show own_Ends p e below s₁ (mkF m 95 #[.val (.int p0)] [(.int (1 : Int32))]) _
                      obtain ⟨fs, hr, hrun, hended, hW, hsame⟩ := X0.leave (v := some (.int (1 : Int32))) (fun h => by rw [Bd.returns] at h; cases h)
                      refine ⟨_, _, retN X0 hx (t := .boolean) Bd.returns (by simp) (hb hby d1_95) hr, hrun, hended, _, _, rfl, ?_, ⟨_, rfl⟩, hW, hsame.mono (by decide) (by decide)⟩
                      show Q_rm1 Z p0 h0 n0 _ s₁.heap _
                      rw [e0]
                      exact ⟨by simp [own_iri, hc3, hs9_34, hs9_60, hs9_62, hs9_92, hs9_94, hs9_96, hs9_123, hs9_124, hs9_125], N0, rfl⟩
  · refine own_go (fun _ => XS.icmpNo X0.here hx rfl (hb hby d1_3) rfl (flt hc3).2.2.1) ?_
    show own_Ends p e below s₁ (mkF m 6 #[.val (.int p0)] []) _
    refine own_go (fun _ => XS.iconst X0.here hx rfl (hb hby d1_6)) ?_
    show own_Ends p e below s₁ (mkF m 7 #[.val (.int p0)] [(.int (0 : Int32))]) _
    obtain ⟨fs, hr, hrun, hended, hW, hsame⟩ := X0.leave (v := some (.int (0 : Int32))) (fun h => by rw [Bd.returns] at h; cases h)
    refine ⟨_, _, retN X0 hx (t := .boolean) Bd.returns (by simp) (hb hby d1_7) hr, hrun, hended, _, _, rfl, ?_, ⟨_, rfl⟩, hW, hsame.mono (by decide) (by decide)⟩
    show Q_rm1 Z p0 h0 n0 _ s₁.heap _
    rw [e0]
    exact ⟨by simp [own_iri, hc3], N0, rfl⟩
theorem d2_0 : decode method_2_code 0 = .ok (.iload_n 0, 1) := by decide +kernel
theorem d2_1 : decode method_2_code 1 = .ok (.ifCond .ge 5, 3) := by decide +kernel
theorem d2_4 : decode method_2_code 4 = .ok (.iconst 0, 1) := by decide +kernel
theorem d2_5 : decode method_2_code 5 = .ok (.ireturn, 1) := by decide +kernel
theorem d2_6 : decode method_2_code 6 = .ok (.iload_n 0, 1) := by decide +kernel
theorem d2_7 : decode method_2_code 7 = .ok (.sipush 128, 3) := by decide +kernel
theorem d2_10 : decode method_2_code 10 = .ok (.if_icmp .lt 5, 3) := by decide +kernel
theorem d2_13 : decode method_2_code 13 = .ok (.iconst 1, 1) := by decide +kernel
theorem d2_14 : decode method_2_code 14 = .ok (.ireturn, 1) := by decide +kernel
theorem d2_15 : decode method_2_code 15 = .ok (.iload_n 0, 1) := by decide +kernel
theorem d2_16 : decode method_2_code 16 = .ok (.bipush 64, 2) := by decide +kernel
theorem d2_18 : decode method_2_code 18 = .ok (.if_icmp .ge 21, 3) := by decide +kernel
theorem d2_21 : decode method_2_code 21 = .ok (.ldc2_w 9, 3) := by decide +kernel
theorem d2_24 : decode method_2_code 24 = .ok (.iload_n 0, 1) := by decide +kernel
theorem d2_25 : decode method_2_code 25 = .ok (.lushr, 1) := by decide +kernel
theorem d2_26 : decode method_2_code 26 = .ok (.lconst 1, 1) := by decide +kernel
theorem d2_27 : decode method_2_code 27 = .ok (.land, 1) := by decide +kernel
theorem d2_28 : decode method_2_code 28 = .ok (.lconst 0, 1) := by decide +kernel
theorem d2_29 : decode method_2_code 29 = .ok (.lcmp, 1) := by decide +kernel
theorem d2_30 : decode method_2_code 30 = .ok (.ifCond .ne 7, 3) := by decide +kernel
theorem d2_33 : decode method_2_code 33 = .ok (.iconst 1, 1) := by decide +kernel
theorem d2_34 : decode method_2_code 34 = .ok (.goto 4, 3) := by decide +kernel
theorem d2_37 : decode method_2_code 37 = .ok (.iconst 0, 1) := by decide +kernel
theorem d2_38 : decode method_2_code 38 = .ok (.ireturn, 1) := by decide +kernel
theorem d2_39 : decode method_2_code 39 = .ok (.ldc2_w 11, 3) := by decide +kernel
theorem d2_42 : decode method_2_code 42 = .ok (.iload_n 0, 1) := by decide +kernel
theorem d2_43 : decode method_2_code 43 = .ok (.bipush 64, 2) := by decide +kernel
theorem d2_45 : decode method_2_code 45 = .ok (.isub, 1) := by decide +kernel
theorem d2_46 : decode method_2_code 46 = .ok (.lushr, 1) := by decide +kernel
theorem d2_47 : decode method_2_code 47 = .ok (.lconst 1, 1) := by decide +kernel
theorem d2_48 : decode method_2_code 48 = .ok (.land, 1) := by decide +kernel
theorem d2_49 : decode method_2_code 49 = .ok (.lconst 0, 1) := by decide +kernel
theorem d2_50 : decode method_2_code 50 = .ok (.lcmp, 1) := by decide +kernel
theorem d2_51 : decode method_2_code 51 = .ok (.ifCond .ne 7, 3) := by decide +kernel
theorem d2_54 : decode method_2_code 54 = .ok (.iconst 1, 1) := by decide +kernel
theorem d2_55 : decode method_2_code 55 = .ok (.goto 4, 3) := by decide +kernel
theorem d2_58 : decode method_2_code 58 = .ok (.iconst 0, 1) := by decide +kernel
theorem d2_59 : decode method_2_code 59 = .ok (.ireturn, 1) := by decide +kernel
theorem pn_2 : plainName "com/example/graphtide/graphtide/rdf/CharClassesIsIriCharPinLaw" = true := by first | (simp [plainName, overriddenIn]; done) | decide +kernel
theorem ef_2 (m : MethodId) (p0 : Int32) : entryFrame m #[(.int p0)] 1 = mkF m 0 #[.val (.int p0)] [] := by first | (simp [entryFrame, mkF, argsToLocals, Value.category]; done) | rfl
def Q_rm2 (Z : State) (p0 : Int32) (h0 : Heap) (n0 : Nat) (v : Option Value) (h : Heap) (L : List Loc) : Prop := v = some (.int (own_exp p0)) ∧ Fr n0 L ∧ h = h0
set_option maxRecDepth 65536 in
set_option maxHeartbeats 40000000 in
theorem rm2 (l : Launch) (Z : State) (a0 : Array Value) (hw : ∀ d ∈ tables_1, d.before a0 Z = true) (ws : List Jvm.Cond) (p0 : Int32) (h0 : Heap) (n0 : Nat) (Z0 : n0 ≤ h0.size) :
    MetFree l (⟨"com/example/graphtide/graphtide/rdf/CharClassesIsIriCharPinLaw", "expected", "(I)Z"⟩ : MethodName) (head1 (Jvm.Cond.code (⟨"com/example/graphtide/graphtide/rdf/CharClassesIsIriCharPinLaw", "expected", "(I)Z"⟩ : MethodName) method_2_code 1 (some .boolean) :: ws) ({ frames := 0, cells := 0, slots := 0, locals := 0 } : Room)) (fun a U => a = #[(.int p0)] ∧ Z.Warmed39 U.vm ∧ U.heap = h0) (fun _ _ _ _ _ => True) (fun _ U o U' => ∃ v L, o = .returned v ∧ Q_rm2 Z p0 h0 n0 v U'.heap L ∧ FrameEnd U o U' L ({ frames := 0, cells := 0, slots := 0, locals := 0 } : Room).cells ({ frames := 0, cells := 0, slots := 0, locals := 0 } : Room).slots) := by
  refine MetFree.of_bodySF (plainFor_of_name pn_2) hisR ?_
  intro p e s m args below meth c s₁ Bd hml0 hP hK
  obtain ⟨rfl, hZ, hh⟩ := hP
  have hx := Bd.exec
  have hby := Bd.bytes
  have hml : c.maxLocals = 1 := hml0
  have hown : s.vm.findClass "com/example/graphtide/graphtide/rdf/CharClassesIsIriCharPinLaw" = some m.cls := findClass_of_methodNamed Bd.named
  have hnm := (name_of_methodNamed Bd.named Bd.method).1
  have X0 : Stand p l e ({ frames := 0, cells := 0, slots := 0, locals := 0 } : Room) s m #[(.int p0)] below meth c s₁ [] 0 0 := Stand.of_body Bd
  have e0 : s₁.heap = h0 := by rw [← hh, Bd.state]; rfl
  have N0 := Fr.nil n0
  have K0 := Keep.refl h0 []
  refine own_as (ef_2 m p0) ?_
  show own_Ends p e below s₁ (mkF m 0 #[.val (.int p0)] []) _
  refine own_go (fun _ => XS.iloadN X0.here hx rfl (hb hby d2_0) rfl) ?_
  show own_Ends p e below s₁ (mkF m 1 #[.val (.int p0)] [(.int p0)]) _
  by_cases hc1 : p0 < (0 : Int32)
  · refine own_go (fun _ => XS.ifNo X0.here hx rfl (hb hby d2_1) rfl ((if0 _ _).trans (tlt hc1).2.1)) ?_
    show own_Ends p e below s₁ (mkF m 4 #[.val (.int p0)] []) _
    refine own_go (fun _ => XS.iconst X0.here hx rfl (hb hby d2_4)) ?_
    show own_Ends p e below s₁ (mkF m 5 #[.val (.int p0)] [(.int (0 : Int32))]) _
    obtain ⟨fs, hr, hrun, hended, hW, hsame⟩ := X0.leave (v := some (.int (0 : Int32))) (fun h => by rw [Bd.returns] at h; cases h)
    refine ⟨_, _, retN X0 hx (t := .boolean) Bd.returns (by simp) (hb hby d2_5) hr, hrun, hended, _, _, rfl, ?_, ⟨_, rfl⟩, hW, hsame.mono (by decide) (by decide)⟩
    show Q_rm2 Z p0 h0 n0 _ s₁.heap _
    rw [e0]
    exact ⟨by simp [own_exp, hc1], N0, rfl⟩
  · refine own_go (fun _ => XS.ifYes X0.here hx rfl (pc0 := 1) (pc' := 6) rfl (hb hby d2_1) rfl ((if0 _ _).trans (flt hc1).2.1) (by decide) (by decide)) ?_
    show own_Ends p e below s₁ (mkF m 6 #[.val (.int p0)] []) _
    refine own_go (fun _ => XS.iloadN X0.here hx rfl (hb hby d2_6) rfl) ?_
    show own_Ends p e below s₁ (mkF m 7 #[.val (.int p0)] [(.int p0)]) _
    refine own_go (fun _ => XS.sipush X0.here hx rfl (hb hby d2_7)) ?_
    show own_Ends p e below s₁ (mkF m 10 #[.val (.int p0)] [(.int (128 : Int32)), (.int p0)]) _
    by_cases hc10 : p0 < (128 : Int32)
    · refine own_go (fun _ => XS.icmpYes X0.here hx rfl (pc0 := 10) (pc' := 15) rfl (hb hby d2_10) rfl (tlt hc10).1 (by decide) (by decide)) ?_
      show own_Ends p e below s₁ (mkF m 15 #[.val (.int p0)] []) _
      refine own_go (fun _ => XS.iloadN X0.here hx rfl (hb hby d2_15) rfl) ?_
      show own_Ends p e below s₁ (mkF m 16 #[.val (.int p0)] [(.int p0)]) _
      refine own_go (fun _ => XS.bipush X0.here hx rfl (hb hby d2_16)) ?_
      show own_Ends p e below s₁ (mkF m 18 #[.val (.int p0)] [(.int (64 : Int32)), (.int p0)]) _
      by_cases hc18 : p0 < (64 : Int32)
      · refine own_go (fun _ => XS.icmpNo X0.here hx rfl (hb hby d2_18) rfl (tlt hc18).2.1) ?_
        show own_Ends p e below s₁ (mkF m 21 #[.val (.int p0)] []) _
        refine own_go (X0.ldc2Long hx hown (mvT hZ (hw _ (List.mem_of_getElem? (i := 8) rfl))) (g := (mkF m 21 #[.val (.int p0)] [])) rfl (hb hby d2_21)) ?_
        show own_Ends p e below s₁ (mkF m 24 #[.val (.int p0)] [(.long (5764607548804038655 : Int64))]) _
        refine own_go (fun _ => XS.iloadN X0.here hx rfl (hb hby d2_24) rfl) ?_
        show own_Ends p e below s₁ (mkF m 25 #[.val (.int p0)] [(.int p0), (.long (5764607548804038655 : Int64))]) _
        refine own_go (fun _ => XS.lushr X0.here hx rfl (hb hby d2_25) rfl) ?_
        show own_Ends p e below s₁ (mkF m 26 #[.val (.int p0)] [(.long (((5764607548804038655 : Int64).toUInt64 >>> (p0 &&& 0x3f).toInt64.toUInt64).toInt64))]) _
        refine own_go (fun _ => XS.lconst X0.here hx rfl (hb hby d2_26)) ?_
        show own_Ends p e below s₁ (mkF m 27 #[.val (.int p0)] [(.long (1 : Int64)), (.long (((5764607548804038655 : Int64).toUInt64 >>> (p0 &&& 0x3f).toInt64.toUInt64).toInt64))]) _
        refine own_go (fun _ => XS.land X0.here hx rfl (hb hby d2_27) rfl) ?_
        show own_Ends p e below s₁ (mkF m 28 #[.val (.int p0)] [(.long ((((5764607548804038655 : Int64).toUInt64 >>> (p0 &&& 0x3f).toInt64.toUInt64).toInt64) &&& (1 : Int64)))]) _
        refine own_go (fun _ => XS.lconst X0.here hx rfl (hb hby d2_28)) ?_
        show own_Ends p e below s₁ (mkF m 29 #[.val (.int p0)] [(.long (0 : Int64)), (.long ((((5764607548804038655 : Int64).toUInt64 >>> (p0 &&& 0x3f).toInt64.toUInt64).toInt64) &&& (1 : Int64)))]) _
        refine own_go (fun _ => XS.lcmp X0.here hx rfl (hb hby d2_29) rfl) ?_
        show own_Ends p e below s₁ (mkF m 30 #[.val (.int p0)] [(.int (lcmpW ((((5764607548804038655 : Int64).toUInt64 >>> (p0 &&& 0x3f).toInt64.toUInt64).toInt64) &&& (1 : Int64)) (0 : Int64)))]) _
        by_cases hc30 : ((((5764607548804038655 : Int64).toUInt64 >>> (p0 &&& 0x3f).toInt64.toUInt64).toInt64) &&& (1 : Int64)) = (0 : Int64)
        · refine own_go (fun _ => XS.ifNo X0.here hx rfl (hb hby d2_30) rfl ((if0 _ _).trans (teq ((lw_eq ((((5764607548804038655 : Int64).toUInt64 >>> (p0 &&& 0x3f).toInt64.toUInt64).toInt64) &&& (1 : Int64)) (0 : Int64)).mpr hc30)).2)) ?_
          show own_Ends p e below s₁ (mkF m 33 #[.val (.int p0)] []) _
          refine own_go (fun _ => XS.iconst X0.here hx rfl (hb hby d2_33)) ?_
          show own_Ends p e below s₁ (mkF m 34 #[.val (.int p0)] [(.int (1 : Int32))]) _
          refine own_go (fun _ => XS.goto X0.here hx rfl (pc0 := 34) (pc' := 38) rfl (hb hby d2_34) (by decide) (by decide)) ?_
          show own_Ends p e below s₁ (mkF m 38 #[.val (.int p0)] [(.int (1 : Int32))]) _
          obtain ⟨fs, hr, hrun, hended, hW, hsame⟩ := X0.leave (v := some (.int (1 : Int32))) (fun h => by rw [Bd.returns] at h; cases h)
          refine ⟨_, _, retN X0 hx (t := .boolean) Bd.returns (by simp) (hb hby d2_38) hr, hrun, hended, _, _, rfl, ?_, ⟨_, rfl⟩, hW, hsame.mono (by decide) (by decide)⟩
          show Q_rm2 Z p0 h0 n0 _ s₁.heap _
          rw [e0]
          exact ⟨by simp [own_exp, hc1, hc10, hc18, show own_bit (5764607548804038655 : Int64) p0 = 0 from hc30], N0, rfl⟩
        · refine own_go (fun _ => XS.ifYes X0.here hx rfl (pc0 := 30) (pc' := 37) rfl (hb hby d2_30) rfl ((if0 _ _).trans (feq (fun q => hc30 ((lw_eq ((((5764607548804038655 : Int64).toUInt64 >>> (p0 &&& 0x3f).toInt64.toUInt64).toInt64) &&& (1 : Int64)) (0 : Int64)).mp q))).2) (by decide) (by decide)) ?_
          show own_Ends p e below s₁ (mkF m 37 #[.val (.int p0)] []) _
          refine own_go (fun _ => XS.iconst X0.here hx rfl (hb hby d2_37)) ?_
          show own_Ends p e below s₁ (mkF m 38 #[.val (.int p0)] [(.int (0 : Int32))]) _
          obtain ⟨fs, hr, hrun, hended, hW, hsame⟩ := X0.leave (v := some (.int (0 : Int32))) (fun h => by rw [Bd.returns] at h; cases h)
          refine ⟨_, _, retN X0 hx (t := .boolean) Bd.returns (by simp) (hb hby d2_38) hr, hrun, hended, _, _, rfl, ?_, ⟨_, rfl⟩, hW, hsame.mono (by decide) (by decide)⟩
          show Q_rm2 Z p0 h0 n0 _ s₁.heap _
          rw [e0]
          exact ⟨by simp [own_exp, hc1, hc10, hc18, show ¬ own_bit (5764607548804038655 : Int64) p0 = 0 from hc30], N0, rfl⟩
      · refine own_go (fun _ => XS.icmpYes X0.here hx rfl (pc0 := 18) (pc' := 39) rfl (hb hby d2_18) rfl (flt hc18).2.1 (by decide) (by decide)) ?_
        show own_Ends p e below s₁ (mkF m 39 #[.val (.int p0)] []) _
        refine own_go (X0.ldc2Long hx hown (mvT hZ (hw _ (List.mem_of_getElem? (i := 9) rfl))) (g := (mkF m 39 #[.val (.int p0)] [])) rfl (hb hby d2_39)) ?_
        show own_Ends p e below s₁ (mkF m 42 #[.val (.int p0)] [(.long (4035225271761108992 : Int64))]) _
        refine own_go (fun _ => XS.iloadN X0.here hx rfl (hb hby d2_42) rfl) ?_
        show own_Ends p e below s₁ (mkF m 43 #[.val (.int p0)] [(.int p0), (.long (4035225271761108992 : Int64))]) _
        refine own_go (fun _ => XS.bipush X0.here hx rfl (hb hby d2_43)) ?_
        show own_Ends p e below s₁ (mkF m 45 #[.val (.int p0)] [(.int (64 : Int32)), (.int p0), (.long (4035225271761108992 : Int64))]) _
        refine own_go (fun _ => XS.isub X0.here hx rfl (hb hby d2_45) rfl) ?_
        show own_Ends p e below s₁ (mkF m 46 #[.val (.int p0)] [(.int (p0 - (64 : Int32))), (.long (4035225271761108992 : Int64))]) _
        refine own_go (fun _ => XS.lushr X0.here hx rfl (hb hby d2_46) rfl) ?_
        show own_Ends p e below s₁ (mkF m 47 #[.val (.int p0)] [(.long (((4035225271761108992 : Int64).toUInt64 >>> ((p0 - (64 : Int32)) &&& 0x3f).toInt64.toUInt64).toInt64))]) _
        refine own_go (fun _ => XS.lconst X0.here hx rfl (hb hby d2_47)) ?_
        show own_Ends p e below s₁ (mkF m 48 #[.val (.int p0)] [(.long (1 : Int64)), (.long (((4035225271761108992 : Int64).toUInt64 >>> ((p0 - (64 : Int32)) &&& 0x3f).toInt64.toUInt64).toInt64))]) _
        refine own_go (fun _ => XS.land X0.here hx rfl (hb hby d2_48) rfl) ?_
        show own_Ends p e below s₁ (mkF m 49 #[.val (.int p0)] [(.long ((((4035225271761108992 : Int64).toUInt64 >>> ((p0 - (64 : Int32)) &&& 0x3f).toInt64.toUInt64).toInt64) &&& (1 : Int64)))]) _
        refine own_go (fun _ => XS.lconst X0.here hx rfl (hb hby d2_49)) ?_
        show own_Ends p e below s₁ (mkF m 50 #[.val (.int p0)] [(.long (0 : Int64)), (.long ((((4035225271761108992 : Int64).toUInt64 >>> ((p0 - (64 : Int32)) &&& 0x3f).toInt64.toUInt64).toInt64) &&& (1 : Int64)))]) _
        refine own_go (fun _ => XS.lcmp X0.here hx rfl (hb hby d2_50) rfl) ?_
        show own_Ends p e below s₁ (mkF m 51 #[.val (.int p0)] [(.int (lcmpW ((((4035225271761108992 : Int64).toUInt64 >>> ((p0 - (64 : Int32)) &&& 0x3f).toInt64.toUInt64).toInt64) &&& (1 : Int64)) (0 : Int64)))]) _
        by_cases hc51 : ((((4035225271761108992 : Int64).toUInt64 >>> ((p0 - (64 : Int32)) &&& 0x3f).toInt64.toUInt64).toInt64) &&& (1 : Int64)) = (0 : Int64)
        · refine own_go (fun _ => XS.ifNo X0.here hx rfl (hb hby d2_51) rfl ((if0 _ _).trans (teq ((lw_eq ((((4035225271761108992 : Int64).toUInt64 >>> ((p0 - (64 : Int32)) &&& 0x3f).toInt64.toUInt64).toInt64) &&& (1 : Int64)) (0 : Int64)).mpr hc51)).2)) ?_
          show own_Ends p e below s₁ (mkF m 54 #[.val (.int p0)] []) _
          refine own_go (fun _ => XS.iconst X0.here hx rfl (hb hby d2_54)) ?_
          show own_Ends p e below s₁ (mkF m 55 #[.val (.int p0)] [(.int (1 : Int32))]) _
          refine own_go (fun _ => XS.goto X0.here hx rfl (pc0 := 55) (pc' := 59) rfl (hb hby d2_55) (by decide) (by decide)) ?_
          show own_Ends p e below s₁ (mkF m 59 #[.val (.int p0)] [(.int (1 : Int32))]) _
          obtain ⟨fs, hr, hrun, hended, hW, hsame⟩ := X0.leave (v := some (.int (1 : Int32))) (fun h => by rw [Bd.returns] at h; cases h)
          refine ⟨_, _, retN X0 hx (t := .boolean) Bd.returns (by simp) (hb hby d2_59) hr, hrun, hended, _, _, rfl, ?_, ⟨_, rfl⟩, hW, hsame.mono (by decide) (by decide)⟩
          show Q_rm2 Z p0 h0 n0 _ s₁.heap _
          rw [e0]
          exact ⟨by simp [own_exp, hc1, hc10, hc18, show own_bit (4035225271761108992 : Int64) (p0 - (64 : Int32)) = 0 from hc51], N0, rfl⟩
        · refine own_go (fun _ => XS.ifYes X0.here hx rfl (pc0 := 51) (pc' := 58) rfl (hb hby d2_51) rfl ((if0 _ _).trans (feq (fun q => hc51 ((lw_eq ((((4035225271761108992 : Int64).toUInt64 >>> ((p0 - (64 : Int32)) &&& 0x3f).toInt64.toUInt64).toInt64) &&& (1 : Int64)) (0 : Int64)).mp q))).2) (by decide) (by decide)) ?_
          show own_Ends p e below s₁ (mkF m 58 #[.val (.int p0)] []) _
          refine own_go (fun _ => XS.iconst X0.here hx rfl (hb hby d2_58)) ?_
          show own_Ends p e below s₁ (mkF m 59 #[.val (.int p0)] [(.int (0 : Int32))]) _
          obtain ⟨fs, hr, hrun, hended, hW, hsame⟩ := X0.leave (v := some (.int (0 : Int32))) (fun h => by rw [Bd.returns] at h; cases h)
          refine ⟨_, _, retN X0 hx (t := .boolean) Bd.returns (by simp) (hb hby d2_59) hr, hrun, hended, _, _, rfl, ?_, ⟨_, rfl⟩, hW, hsame.mono (by decide) (by decide)⟩
          show Q_rm2 Z p0 h0 n0 _ s₁.heap _
          rw [e0]
          exact ⟨by simp [own_exp, hc1, hc10, hc18, show ¬ own_bit (4035225271761108992 : Int64) (p0 - (64 : Int32)) = 0 from hc51], N0, rfl⟩
    · refine own_go (fun _ => XS.icmpNo X0.here hx rfl (hb hby d2_10) rfl (flt hc10).1) ?_
      show own_Ends p e below s₁ (mkF m 13 #[.val (.int p0)] []) _
      refine own_go (fun _ => XS.iconst X0.here hx rfl (hb hby d2_13)) ?_
      show own_Ends p e below s₁ (mkF m 14 #[.val (.int p0)] [(.int (1 : Int32))]) _
      obtain ⟨fs, hr, hrun, hended, hW, hsame⟩ := X0.leave (v := some (.int (1 : Int32))) (fun h => by rw [Bd.returns] at h; cases h)
      refine ⟨_, _, retN X0 hx (t := .boolean) Bd.returns (by simp) (hb hby d2_14) hr, hrun, hended, _, _, rfl, ?_, ⟨_, rfl⟩, hW, hsame.mono (by decide) (by decide)⟩
      show Q_rm2 Z p0 h0 n0 _ s₁.heap _
      rw [e0]
      exact ⟨by simp [own_exp, hc1, hc10], N0, rfl⟩
theorem pn_0 : plainName "com/example/graphtide/graphtide/rdf/CharClassesIsIriCharPinLaw" = true := by first | (simp [plainName, overriddenIn]; done) | decide +kernel
theorem ef_0 (m : MethodId) (p0 : Int32) (p1 : Int32) : entryFrame m #[(.int p0), (.int p1)] maxLocals = mkF m 0 #[.val (.int p0), .val (.int p1), .unset] [] := by first | (simp [entryFrame, mkF, argsToLocals, Value.category, maxLocals]; done) | rfl
def Q_rm0 (Z : State) (p0 : Int32) (p1 : Int32) (h0 : Heap) (n0 : Nat) (v : Option Value) (h : Heap) (L : List Loc) : Prop := v = some (.int 1) ∧ Fr n0 L
theorem pd_0 : parseMethodDescriptor "(I)Z" = some ⟨[.int], some .boolean⟩ := by decide +kernel
set_option maxRecDepth 65536 in
set_option maxHeartbeats 40000000 in
theorem rm0 (l : Launch) (Z : State) (a0 : Array Value) (hw : ∀ d ∈ tables_1, d.before a0 Z = true) (ws : List Jvm.Cond) (p0 : Int32) (p1 : Int32) (h0 : Heap) (n0 : Nat) (Z0 : n0 ≤ h0.size) :
    MetFree l x (head1 (Jvm.Cond.code x code maxLocals ret :: ws) room_1) (fun a U => a = #[(.int p0), (.int p1)] ∧ Z.Warmed39 U.vm ∧ U.heap = h0) (fun _ _ _ _ _ => True) (fun _ U o U' => ∃ v L, o = .returned v ∧ Q_rm0 Z p0 p1 h0 n0 v U'.heap L ∧ FrameEnd U o U' L room_1.cells room_1.slots) := by
  refine MetFree.of_bodySF (plainFor_of_name pn_0) hisR ?_
  intro p e s m args below meth c s₁ Bd hml0 hP hK
  obtain ⟨rfl, hZ, hh⟩ := hP
  have hx := Bd.exec
  have hby := Bd.bytes
  have hml : c.maxLocals = 3 := hml0
  have hown : s.vm.findClass "com/example/graphtide/graphtide/rdf/CharClassesIsIriCharPinLaw" = some m.cls := findClass_of_methodNamed Bd.named
  have hnm := (name_of_methodNamed Bd.named Bd.method).1
  have X0 : Stand p l e room_1 s m #[(.int p0), (.int p1)] below meth c s₁ [] 0 0 := Stand.of_body Bd
  have e0 : s₁.heap = h0 := by rw [← hh, Bd.state]; rfl
  have N0 := Fr.nil n0
  have K0 := Keep.refl h0 []
  refine own_as (ef_0 m p0 p1) ?_
  show own_Ends p e below s₁ (mkF m 0 #[.val (.int p0), .val (.int p1), .unset] []) _
  refine own_go (fun _ => XS.iloadN X0.here hx rfl (hb hby at_0) rfl) ?_
  show own_Ends p e below s₁ (mkF m 1 #[.val (.int p0), .val (.int p1), .unset] [(.int p1)]) _
  refine own_go (fun _ => XS.iconst X0.here hx rfl (hb hby at_1)) ?_
  show own_Ends p e below s₁ (mkF m 2 #[.val (.int p0), .val (.int p1), .unset] [(.int (1 : Int32)), (.int p1)]) _
  refine own_go (fun _ => XS.iand X0.here hx rfl (hb hby at_2) rfl) ?_
  show own_Ends p e below s₁ (mkF m 3 #[.val (.int p0), .val (.int p1), .unset] [(.int (p1 &&& (1 : Int32)))]) _
  by_cases hc3 : (p1 &&& (1 : Int32)) = (0 : Int32)
  · refine own_go (fun _ => XS.ifYes X0.here hx rfl (pc0 := 3) (pc' := 10) rfl (hb hby at_3) rfl ((if0 _ _).trans (teq hc3).1) (by decide) (by decide)) ?_
    show own_Ends p e below s₁ (mkF m 10 #[.val (.int p0), .val (.int p1), .unset] []) _
    refine own_go (fun _ => XS.iloadN X0.here hx rfl (hb hby at_10) rfl) ?_
    show own_Ends p e below s₁ (mkF m 11 #[.val (.int p0), .val (.int p1), .unset] [(.int p0)]) _
    refine own_go (fun _ => XS.sipush X0.here hx rfl (hb hby at_11)) ?_
    show own_Ends p e below s₁ (mkF m 14 #[.val (.int p0), .val (.int p1), .unset] [(.int (255 : Int32)), (.int p0)]) _
    refine own_go (fun _ => XS.iand X0.here hx rfl (hb hby at_14) rfl) ?_
    show own_Ends p e below s₁ (mkF m 15 #[.val (.int p0), .val (.int p1), .unset] [(.int (p0 &&& (255 : Int32)))]) _
    refine own_go (fun _ => XS.istoreN X0.here hx rfl (hb hby at_15) rfl (l' := #[.val (.int p0), .val (.int p1), .val (.int (p0 &&& (255 : Int32)))]) rfl) ?_
    show own_Ends p e below s₁ (mkF m 16 #[.val (.int p0), .val (.int p1), .val (.int (p0 &&& (255 : Int32)))] []) _
    refine own_go (fun _ => XS.iloadN X0.here hx rfl (hb hby at_16) rfl) ?_
    show own_Ends p e below s₁ (mkF m 17 #[.val (.int p0), .val (.int p1), .val (.int (p0 &&& (255 : Int32)))] [(.int (p0 &&& (255 : Int32)))]) _
    obtain ⟨_, _, ⟨T1, L1, k1, n1⟩, -, X1, ⟨Lc1, hQ1, l1, y1, z1⟩, st1⟩ := Jvm.LawKit.callS X0 hx (y := (⟨"com/example/graphtide/graphtide/rdf/CharClasses", "isIriChar", "(I)Z"⟩ : MethodName)) hown (mvT hZ (hw _ (List.mem_of_getElem? (i := 0) rfl))) (mvT hZ (hw _ (List.mem_of_getElem? (i := 1) rfl))) (mvT hZ (hw _ (List.mem_of_getElem? (i := 2) rfl))) (mvT hZ (hw _ (List.mem_of_getElem? (i := 3) rfl))) (by decide) (backOf (W := 0) (rm1 l Z a0 hw [] ((p0 &&& (255 : Int32)))  h0 n0 Z0 ) hZ (hw _ (List.mem_of_getElem? (i := 3) rfl)) (hw _ (List.mem_of_getElem? (i := 2) rfl)) (by decide) (by decide)) (g := (mkF m 17 #[.val (.int p0), .val (.int p1), .val (.int (p0 &&& (255 : Int32)))] [(.int (p0 &&& (255 : Int32)))])) rfl (by rw [hml]; rfl) (argsL := [(.int (p0 &&& (255 : Int32)))]) (rest := []) (lenOf pd_0 rfl) rfl (by show 2 * 0 + _ ≤ _; exact Nat.le_of_eq rfl) (hb hby at_17) (fun _ _ => ⟨rfl, e0, (by decide : 0 + 0 ≤ _), (by decide : 0 + 0 ≤ _)⟩)
    dsimp only [Pt.U, Pt.locs, Pt.cells, Pt.slots] at X1 l1 y1 z1 st1 hQ1
    subst l1 y1 z1
    refine own_go st1 ?_
    obtain ⟨rfl, N1q, eh1⟩ := hQ1
    have N1 := Fr.app N0 N1q
    show own_Ends p e below T1 (mkF m 20 #[.val (.int p0), .val (.int p1), .val (.int (p0 &&& (255 : Int32)))] [(.int (own_iri (p0 &&& (255 : Int32))))]) _
    refine own_go (fun _ => XS.iloadN X1.here hx rfl (hb hby at_20) rfl) ?_
    show own_Ends p e below T1 (mkF m 21 #[.val (.int p0), .val (.int p1), .val (.int (p0 &&& (255 : Int32)))] [(.int (p0 &&& (255 : Int32))), (.int (own_iri (p0 &&& (255 : Int32))))]) _
    obtain ⟨_, _, ⟨T2, L2, k2, n2⟩, -, X2, ⟨Lc2, hQ2, l2, y2, z2⟩, st2⟩ := Jvm.LawKit.callS X1 hx (y := (⟨"com/example/graphtide/graphtide/rdf/CharClassesIsIriCharPinLaw", "expected", "(I)Z"⟩ : MethodName)) hown (mvT hZ (hw _ (List.mem_of_getElem? (i := 4) rfl))) (mvT hZ (hw _ (List.mem_of_getElem? (i := 5) rfl))) (mvT hZ (hw _ (List.mem_of_getElem? (i := 6) rfl))) (mvT hZ (hw _ (List.mem_of_getElem? (i := 7) rfl))) (by decide) (backOf (W := 1) (rm2 l Z a0 hw [] ((p0 &&& (255 : Int32)))  h0 n0 Z0 ) hZ (hw _ (List.mem_of_getElem? (i := 7) rfl)) (hw _ (List.mem_of_getElem? (i := 6) rfl)) (by decide) (by decide)) (g := (mkF m 21 #[.val (.int p0), .val (.int p1), .val (.int (p0 &&& (255 : Int32)))] [(.int (p0 &&& (255 : Int32))), (.int (own_iri (p0 &&& (255 : Int32))))])) rfl (by rw [hml]; rfl) (argsL := [(.int (p0 &&& (255 : Int32)))]) (rest := [(.int (own_iri (p0 &&& (255 : Int32))))]) (lenOf pd_0 rfl) rfl (by show 2 * 0 + _ ≤ _; exact Nat.le_of_eq rfl) (hb hby at_21) (fun _ _ => ⟨rfl, eh1, (by decide : 0 + 0 ≤ _), (by decide : 0 + 0 ≤ _)⟩)
    dsimp only [Pt.U, Pt.locs, Pt.cells, Pt.slots] at X2 l2 y2 z2 st2 hQ2
    subst l2 y2 z2
    refine own_go st2 ?_
    obtain ⟨rfl, N2q, eh2⟩ := hQ2
    have N2 := Fr.app N1 N2q
    show own_Ends p e below T2 (mkF m 24 #[.val (.int p0), .val (.int p1), .val (.int (p0 &&& (255 : Int32)))] [(.int (own_exp (p0 &&& (255 : Int32)))), (.int (own_iri (p0 &&& (255 : Int32))))]) _
    refine own_go (fun _ => XS.icmpNo X2.here hx rfl (hb hby at_24) rfl (teq (show (own_iri (p0 &&& (255 : Int32))) = (own_exp (p0 &&& (255 : Int32))) from own_same _)).2) ?_
    show own_Ends p e below T2 (mkF m 27 #[.val (.int p0), .val (.int p1), .val (.int (p0 &&& (255 : Int32)))] []) _
    refine own_go (fun _ => XS.iconst X2.here hx rfl (hb hby at_27)) ?_
    show own_Ends p e below T2 (mkF m 28 #[.val (.int p0), .val (.int p1), .val (.int (p0 &&& (255 : Int32)))] [(.int (1 : Int32))]) _
    refine own_go (fun _ => XS.goto X2.here hx rfl (pc0 := 28) (pc' := 32) rfl (hb hby at_28) (by decide) (by decide)) ?_
    show own_Ends p e below T2 (mkF m 32 #[.val (.int p0), .val (.int p1), .val (.int (p0 &&& (255 : Int32)))] [(.int (1 : Int32))]) _
    obtain ⟨fs, hr, hrun, hended, hW, hsame⟩ := X2.leave (v := some (.int (1 : Int32))) (fun h => by rw [Bd.returns] at h; cases h)
    refine ⟨_, _, retN X2 hx (t := .boolean) Bd.returns (by simp) (hb hby at_32) hr, hrun, hended, _, _, rfl, ?_, ⟨_, rfl⟩, hW, hsame.mono (by decide) (by decide)⟩
    show Q_rm0 Z p0 p1 h0 n0 _ T2.heap _
    rw [eh2]
    exact ⟨rfl, N2⟩
  · refine own_go (fun _ => XS.ifNo X0.here hx rfl (hb hby at_3) rfl ((if0 _ _).trans (feq hc3).1)) ?_
    show own_Ends p e below s₁ (mkF m 6 #[.val (.int p0), .val (.int p1), .unset] []) _
    refine own_go (fun _ => XS.iloadN X0.here hx rfl (hb hby at_6) rfl) ?_
    show own_Ends p e below s₁ (mkF m 7 #[.val (.int p0), .val (.int p1), .unset] [(.int p0)]) _
    refine own_go (fun _ => XS.goto X0.here hx rfl (pc0 := 7) (pc' := 15) rfl (hb hby at_7) (by decide) (by decide)) ?_
    show own_Ends p e below s₁ (mkF m 15 #[.val (.int p0), .val (.int p1), .unset] [(.int p0)]) _
    refine own_go (fun _ => XS.istoreN X0.here hx rfl (hb hby at_15) rfl (l' := #[.val (.int p0), .val (.int p1), .val (.int p0)]) rfl) ?_
    show own_Ends p e below s₁ (mkF m 16 #[.val (.int p0), .val (.int p1), .val (.int p0)] []) _
    refine own_go (fun _ => XS.iloadN X0.here hx rfl (hb hby at_16) rfl) ?_
    show own_Ends p e below s₁ (mkF m 17 #[.val (.int p0), .val (.int p1), .val (.int p0)] [(.int p0)]) _
    obtain ⟨_, _, ⟨T3, L3, k3, n3⟩, -, X3, ⟨Lc3, hQ3, l3, y3, z3⟩, st3⟩ := Jvm.LawKit.callS X0 hx (y := (⟨"com/example/graphtide/graphtide/rdf/CharClasses", "isIriChar", "(I)Z"⟩ : MethodName)) hown (mvT hZ (hw _ (List.mem_of_getElem? (i := 0) rfl))) (mvT hZ (hw _ (List.mem_of_getElem? (i := 1) rfl))) (mvT hZ (hw _ (List.mem_of_getElem? (i := 2) rfl))) (mvT hZ (hw _ (List.mem_of_getElem? (i := 3) rfl))) (by decide) (backOf (W := 0) (rm1 l Z a0 hw [] p0  h0 n0 Z0 ) hZ (hw _ (List.mem_of_getElem? (i := 3) rfl)) (hw _ (List.mem_of_getElem? (i := 2) rfl)) (by decide) (by decide)) (g := (mkF m 17 #[.val (.int p0), .val (.int p1), .val (.int p0)] [(.int p0)])) rfl (by rw [hml]; rfl) (argsL := [(.int p0)]) (rest := []) (lenOf pd_0 rfl) rfl (by show 2 * 0 + _ ≤ _; exact Nat.le_of_eq rfl) (hb hby at_17) (fun _ _ => ⟨rfl, e0, (by decide : 0 + 0 ≤ _), (by decide : 0 + 0 ≤ _)⟩)
    dsimp only [Pt.U, Pt.locs, Pt.cells, Pt.slots] at X3 l3 y3 z3 st3 hQ3
    subst l3 y3 z3
    refine own_go st3 ?_
    obtain ⟨rfl, N3q, eh3⟩ := hQ3
    have N3 := Fr.app N0 N3q
    show own_Ends p e below T3 (mkF m 20 #[.val (.int p0), .val (.int p1), .val (.int p0)] [(.int (own_iri p0))]) _
    refine own_go (fun _ => XS.iloadN X3.here hx rfl (hb hby at_20) rfl) ?_
    show own_Ends p e below T3 (mkF m 21 #[.val (.int p0), .val (.int p1), .val (.int p0)] [(.int p0), (.int (own_iri p0))]) _
    obtain ⟨_, _, ⟨T4, L4, k4, n4⟩, -, X4, ⟨Lc4, hQ4, l4, y4, z4⟩, st4⟩ := Jvm.LawKit.callS X3 hx (y := (⟨"com/example/graphtide/graphtide/rdf/CharClassesIsIriCharPinLaw", "expected", "(I)Z"⟩ : MethodName)) hown (mvT hZ (hw _ (List.mem_of_getElem? (i := 4) rfl))) (mvT hZ (hw _ (List.mem_of_getElem? (i := 5) rfl))) (mvT hZ (hw _ (List.mem_of_getElem? (i := 6) rfl))) (mvT hZ (hw _ (List.mem_of_getElem? (i := 7) rfl))) (by decide) (backOf (W := 1) (rm2 l Z a0 hw [] p0  h0 n0 Z0 ) hZ (hw _ (List.mem_of_getElem? (i := 7) rfl)) (hw _ (List.mem_of_getElem? (i := 6) rfl)) (by decide) (by decide)) (g := (mkF m 21 #[.val (.int p0), .val (.int p1), .val (.int p0)] [(.int p0), (.int (own_iri p0))])) rfl (by rw [hml]; rfl) (argsL := [(.int p0)]) (rest := [(.int (own_iri p0))]) (lenOf pd_0 rfl) rfl (by show 2 * 0 + _ ≤ _; exact Nat.le_of_eq rfl) (hb hby at_21) (fun _ _ => ⟨rfl, eh3, (by decide : 0 + 0 ≤ _), (by decide : 0 + 0 ≤ _)⟩)
    dsimp only [Pt.U, Pt.locs, Pt.cells, Pt.slots] at X4 l4 y4 z4 st4 hQ4
    subst l4 y4 z4
    refine own_go st4 ?_
    obtain ⟨rfl, N4q, eh4⟩ := hQ4
    have N4 := Fr.app N3 N4q
    show own_Ends p e below T4 (mkF m 24 #[.val (.int p0), .val (.int p1), .val (.int p0)] [(.int (own_exp p0)), (.int (own_iri p0))]) _
    refine own_go (fun _ => XS.icmpNo X4.here hx rfl (hb hby at_24) rfl (teq (show (own_iri p0) = (own_exp p0) from own_same _)).2) ?_
    show own_Ends p e below T4 (mkF m 27 #[.val (.int p0), .val (.int p1), .val (.int p0)] []) _
    refine own_go (fun _ => XS.iconst X4.here hx rfl (hb hby at_27)) ?_
    show own_Ends p e below T4 (mkF m 28 #[.val (.int p0), .val (.int p1), .val (.int p0)] [(.int (1 : Int32))]) _
    refine own_go (fun _ => XS.goto X4.here hx rfl (pc0 := 28) (pc' := 32) rfl (hb hby at_28) (by decide) (by decide)) ?_
    show own_Ends p e below T4 (mkF m 32 #[.val (.int p0), .val (.int p1), .val (.int p0)] [(.int (1 : Int32))]) _
    obtain ⟨fs, hr, hrun, hended, hW, hsame⟩ := X4.leave (v := some (.int (1 : Int32))) (fun h => by rw [Bd.returns] at h; cases h)
    refine ⟨_, _, retN X4 hx (t := .boolean) Bd.returns (by simp) (hb hby at_32) hr, hrun, hended, _, _, rfl, ?_, ⟨_, rfl⟩, hW, hsame.mono (by decide) (by decide)⟩
    show Q_rm0 Z p0 p1 h0 n0 _ T4.heap _
    rw [eh4]
    exact ⟨rfl, N4⟩
set_option maxRecDepth 65536 in
set_option maxHeartbeats 40000000 in
theorem comes_1 {Post : Tables → Env → Array Value → State → Outcome → State → Prop} (hpost : ∀ tb e args s v u, (limb_1_1.after args s (.returned v) u = true ∧ limb_1_2.after args s (.returned v) u = true ∧ True) → FrameEnd s (.returned v) u (Jvm.fieldLocs frame_1_writes args s ++ Jvm.arrayLocs frame_1_arrays args s ++ Jvm.staticLocs frame_1_statics s) 0 0 → Post tb e args s (.returned v) u) :
    ArmFor flags0 classFile x code maxLocals ret World_1 tables_1 room_1 Calls_1 rest_1 Pre_1 Post := by
  intro l hfl _ _ p e ha hc hk s m args below hf hA hF happ hP
  obtain ⟨hcalls, hrest, hpre⟩ := hP
  obtain ⟨-, -, -, hnamed, -, -, -, hat⟩ := (Spec.applies_iff hf).mp happ
  obtain ⟨hg, hn⟩ := and_e (Cond.before_iff.mp (show (Jvm.Cond.and given_1 narrow_1).before args s = true from hpre))
  obtain ⟨gv1, gv2⟩ := and_e hg
  obtain ⟨gv3, gv4⟩ := and_e gv2
  obtain ⟨w0, w1, rfl⟩ : ∃ w0 w1 : Value, args = #[w0, w1] := by
    have hs : args.size = 2 := by simpa [Cond.value, given_1] using gv1
    obtain ⟨L⟩ := args
    match L, hs with
    | [w0, w1], _ => exact ⟨w0, w1, rfl⟩
  have hw := fun d (hd : d ∈ tables_1) => atoms_spec (ws := Jvm.Cond.code x code maxLocals ret :: tables_1) hat d (List.mem_cons_of_mem _ hd)
  obtain ⟨i0, ei0⟩ := is_v gv3
  obtain rfl : w0 = (.int i0) := Option.some.inj ei0
  obtain ⟨i1, ei1⟩ := is_v gv4
  obtain rfl : w1 = (.int i1) := Option.some.inj ei1
  obtain ⟨n, o, h1, h2, h3, _, L, rfl, ⟨rfl, N⟩, hq⟩ := rm0 l s _ hw tables_1 i0 i1 s.heap s.heap.size (Nat.le_refl _) p e ha hc hk s m _ below hf ((Spec.applies_iff_loose hf).mp happ).1 ⟨rfl, State.Warmed39.refl s, rfl⟩ trivial
  refine ⟨n, _, h1, h2, h3, hpost _ _ _ _ _ _ ⟨Cond.after_iff.mpr rfl, Cond.after_iff.mpr (eq_i res_at (Term.int_eval (1)) rfl), trivial⟩ ⟨hq.1, hq.2.1, (hq.2.2.sift fun y hy => Or.inr (N y hy)).mono (by decide) (by decide)⟩⟩
theorem main_1_1 : Claimed_1_1 := comes_1 fun _ _ _ _ _ _ h hF => ⟨h.1, hF⟩
theorem main_1_2 : Claimed_1_2 := comes_1 fun _ _ _ _ _ _ h hF => ⟨h.2.1, hF⟩
end Jvm.Pilot.@@N@@
namespace Jvm.Pilot.@@N@@
open Jvm Jvm.ClassFile Sem Op Lib Jvm.Free Jvm.Stand Jvm.Pilot.@@N@@.Jvm.D
/-! MADE BY PROGRAM (witnessworld.py) out of the Statement's table words and the real class files: 9 classes; the members and pool entries that the words name. The judged class is class 1, her method 2. -/
namespace start1
open Jvm.ClassFile
def u (s : String) : CpInfo := .utf8 (stringToUtf16 s)
/-- a pool by its gaps: so many unusable entries, then the entry; so many at the end -/
def gap : Nat → List CpInfo → List CpInfo
  | 0, r => r
  | n + 1, r => .unusable :: gap n r
def poolList (es : List (Nat × CpInfo)) (last : Nat) : List CpInfo := es.foldr (fun e r => gap e.1 (e.2 :: r)) (gap last [])
def pool (es : List (Nat × CpInfo)) (last : Nat) : Array CpInfo := ⟨poolList es last⟩
def fileOf (pool : Array CpInfo) (this : Nat) (attrs : Array Attribute := #[]) (ms : Array MethodInfo := #[]) (fl : Nat := 33) (sup : Nat := 0) (ifs : Array Nat := #[]) (fds : Array FieldInfo := #[]) : ClassFile where
  minorVersion := 0
  majorVersion := 65
  constantPool := pool
  accessFlags := fl
  thisClass := this
  superClass := sup
  interfaces := ifs
  fields := fds
  methods := ms
  attributes := attrs
def plain (name : String) (sup : Option ClassId) : Class where
  name := name
  kind := .ordinary
  loader := none
  accessFlags := 33
  super := sup
  interfaces := #[]
  cf := none
  fields := #[]
  methods := #[]
  instanceTypes := #[]
  staticTypes := #[]
  resolved := #[]
  callSites := []
  init := .initialized
  statics := none
  mirror := none

def pool0 : Array CpInfo := pool [(5, u "<init>"), (0, u "()V"), (1, .class_ 10), (1, u "java/lang/Object")] 113

def k0m0 : Method := { name := "<init>", desc := "()V", sig := { parameters := [], returnType := none }, accessFlags := 1, code := none }
/-- java/lang/Object -/
def k0 : Class := { plain "java/lang/Object" none with
  accessFlags := 33
  interfaces := #[]
  cf := some (fileOf pool0 8 #[] #[{ accessFlags := 1, nameIndex := 5, descriptorIndex := 6, attributes := #[] }] 33 0 #[] #[])
  fields := #[]
  methods := #[k0m0]
  instanceTypes := #[]
  staticTypes := #[]
  resolved := Array.replicate 124 none
  statics := none }

def pool1 : Array CpInfo := pool [(2, .class_ 4), (1, u "java/lang/Object"), (0, u "<init>"), (0, u "()V"), (0, .class_ 8), (0, u "com/example/graphtide/graphtide/rdf/CharClassesIsIriCharPinLaw"), (0, .long 5764607548804038655), (1, .long 4035225271761108992), (1, .methodref 14 15), (0, .class_ 16), (0, .nameAndType 17 18), (0, u "com/example/graphtide/graphtide/rdf/CharClasses"), (0, u "isIriChar"), (0, u "(I)Z"), (0, .methodref 7 20), (0, .nameAndType 21 18), (0, u "expected"), (0, u "FORBIDDEN_LO"), (0, u "J"), (1, u "FORBIDDEN_HI"), (3, u "law"), (0, u "(II)Z")] 2

def k1m0 : Method := { name := "<init>", desc := "()V", sig := { parameters := [], returnType := none }, accessFlags := 1, code := none }
def k1c1 : Code := { maxStack := 4, maxLocals := 1, code := method_2_code, exceptionTable := #[], attributes := #[] }
def k1m1 : Method := { name := "expected", desc := "(I)Z", sig := { parameters := [.int], returnType := some .boolean }, accessFlags := 10, code := some k1c1 }
def k1c2 : Code := { maxStack := 2, maxLocals := 3, code := code, exceptionTable := #[], attributes := #[] }
def k1m2 : Method := { name := "law", desc := "(II)Z", sig := { parameters := [.int, .int], returnType := some .boolean }, accessFlags := 9, code := some k1c2 }
/-- com/example/graphtide/graphtide/rdf/CharClassesIsIriCharPinLaw -/
def k1 : Class := { plain "com/example/graphtide/graphtide/rdf/CharClassesIsIriCharPinLaw" (some 0) with
  accessFlags := 49
  interfaces := #[]
  cf := some (fileOf pool1 7 #[] #[{ accessFlags := 1, nameIndex := 5, descriptorIndex := 6, attributes := #[] }, { accessFlags := 10, nameIndex := 21, descriptorIndex := 18, attributes := #[] }, { accessFlags := 9, nameIndex := 29, descriptorIndex := 30, attributes := #[] }] 49 2 #[] #[{ accessFlags := 26, nameIndex := 22, descriptorIndex := 23, attributes := #[] }, { accessFlags := 26, nameIndex := 25, descriptorIndex := 23, attributes := #[] }])
  fields := #[{ name := "FORBIDDEN_LO", type := .long, accessFlags := 26, slot := 0, constantValue := 0 }, { name := "FORBIDDEN_HI", type := .long, accessFlags := 26, slot := 1, constantValue := 0 }]
  methods := #[k1m0, k1m1, k1m2]
  instanceTypes := #[]
  staticTypes := #[.long, .long]
  resolved := Array.replicate 33 none
  statics := none }

def pool2 : Array CpInfo := pool [(2, .class_ 4), (1, u "java/lang/Object"), (0, u "<init>"), (0, u "()V"), (30, .class_ 39), (1, u "com/example/graphtide/graphtide/rdf/CharClasses"), (1, u "(I)Z"), (14, u "UNKNOWN_STRING_ESCAPE"), (0, u "Ljava/lang/String;"), (12, u "isIriChar")] 21

def k2m0 : Method := { name := "<init>", desc := "()V", sig := { parameters := [], returnType := none }, accessFlags := 2, code := none }
def k2c1 : Code := { maxStack := 2, maxLocals := 1, code := prog_19_method_5_code, exceptionTable := #[], attributes := #[] }
def k2m1 : Method := { name := "isIriChar", desc := "(I)Z", sig := { parameters := [.int], returnType := some .boolean }, accessFlags := 9, code := some k2c1 }
/-- com/example/graphtide/graphtide/rdf/CharClasses -/
def k2 : Class := { plain "com/example/graphtide/graphtide/rdf/CharClasses" (some 0) with
  accessFlags := 49
  interfaces := #[]
  cf := some (fileOf pool2 37 #[] #[{ accessFlags := 2, nameIndex := 5, descriptorIndex := 6, attributes := #[] }, { accessFlags := 9, nameIndex := 70, descriptorIndex := 41, attributes := #[] }] 49 2 #[] #[{ accessFlags := 25, nameIndex := 56, descriptorIndex := 57, attributes := #[] }])
  fields := #[{ name := "UNKNOWN_STRING_ESCAPE", type := (.object "java/lang/String"), accessFlags := 25, slot := 0, constantValue := 0 }]
  methods := #[k2m0, k2m1]
  instanceTypes := #[]
  staticTypes := #[(.object "java/lang/String")]
  resolved := Array.replicate 92 none
  statics := none }

def pool3 : Array CpInfo := pool [(1, u "java/lang/Cloneable"), (0, .class_ 1), (0, u "java/lang/Object"), (0, .class_ 3)] 3

/-- java/lang/Cloneable -/
def k3 : Class := { plain "java/lang/Cloneable" (some 0) with
  accessFlags := 1537
  interfaces := #[]
  cf := some (fileOf pool3 2 #[] #[] 1537 4 #[] #[])
  fields := #[]
  methods := #[]
  instanceTypes := #[]
  staticTypes := #[]
  resolved := Array.replicate 8 none
  statics := none }

def pool4 : Array CpInfo := pool [(1, u "java/io/Serializable"), (0, .class_ 1), (0, u "java/lang/Object"), (0, .class_ 3)] 3

/-- java/io/Serializable -/
def k4 : Class := { plain "java/io/Serializable" (some 0) with
  accessFlags := 1537
  interfaces := #[]
  cf := some (fileOf pool4 2 #[] #[] 1537 4 #[] #[])
  fields := #[]
  methods := #[]
  instanceTypes := #[]
  staticTypes := #[]
  resolved := Array.replicate 8 none
  statics := none }

/-- the primitive byte -/
def k5 : Class := { plain "byte" none with kind := .primitive 'B', accessFlags := 0x411 }
/-- [B -/
def k6 : Class := { plain "[B" (some 0) with kind := .array 5 .byte, interfaces := #[3, 4], accessFlags := 1041 }

/-- the primitive int -/
def k7 : Class := { plain "int" none with kind := .primitive 'I', accessFlags := 0x411 }
/-- [I -/
def k8 : Class := { plain "[I" (some 0) with kind := .array 7 .int, interfaces := #[3, 4], accessFlags := 1041 }

def heap : Heap := #[]
def classes : Array Class := #[k0, k1, k2, k3, k4, k5, k6, k7, k8]
def interned : List (Array UInt16 × Addr) := []
def slotsUsed : Nat := 0
def theMethod : MethodId := ⟨1, 2⟩
def args0 : Array Value := #[.int 65, .int 1]
def aboutOver (below : List Frame) : State where
  vm := { classes := classes, interned := interned.toArray }
  heap := heap
  slotsUsed := slotsUsed
  threads := #[{ frames := .invoking theMethod args0 :: below }]
def below0 : List Frame := [.native { method := ⟨0, 0⟩, args := #[] }]
def about1 : State := aboutOver below0
def p0 : Program := .bare "" "" ""
def e0 : Env := launch0.env 0 0 0
theorem w_frames : about1.frames = Frame.invoking theMethod args0 :: below0 := rfl
set_option maxRecDepth 65536 in
theorem w_args : argsFit about1.vm theMethod args0 = true := by decide +kernel
set_option maxRecDepth 65536 in
theorem w_heap : heapFits about1 = true := by decide +kernel
set_option maxRecDepth 65536 in
theorem w_runnable : about1.curStatus? = some .runnable := by decide +kernel
set_option maxRecDepth 65536 in
theorem w_alone : about1.alone = true := by decide +kernel
set_option maxRecDepth 65536 in
theorem w_named : about1.methodNamed? x = some theMethod := by decide +kernel
set_option maxRecDepth 65536 in
theorem w_hears : about1.hears theMethod below0 = true := by decide +kernel
set_option maxRecDepth 65536 in
theorem w_ripe : about1.ripe theMethod args0 below0 = true := by decide +kernel
theorem w_running : about1.status = .running := rfl
set_option maxRecDepth 65536 in
theorem w_room : about1.hasRoom e0.platform room_1 = true :=
  launch0.hasRoom_least _ room_1 (by decide +kernel) (by decide +kernel) (by decide +kernel) (by decide +kernel) (by decide +kernel) (by decide +kernel)
theorem allAtoms_all (ts : List Jvm.Cond) (a : Array Jvm.Value) (st : Jvm.State) : (allAtoms ts).before a st = ts.all (fun c => c.before a st) := by
  induction ts with
  | nil => rfl
  | cons c t ih =>
    show (Jvm.Cond.and c (allAtoms t)).before a st = _
    rw [Jvm.Cond.before_and, ih, List.all_cons]
def words1 : List Jvm.Cond := Jvm.Cond.code x code maxLocals ret :: tables_1
/-- a 'code' word, met by the world's own term for the bytes: nothing is compared byte by byte -/
theorem code_word {y : MethodName} {bytes : ByteArray} {mx : Nat} {rt : Option FieldType} {a : Array Value} {s : State} {m : MethodId} {meth : Method} {c : Code} (h1 : s.methodNamed? y = some m) (h2 : s.vm.method? m = some meth) (h3 : meth.code = some c) (h4 : c.code = bytes)
    (h5 : (c.maxLocals == mx && c.exceptionTable.isEmpty && decide (c.maxStack ≤ mostOperands) && decide (meth.sig.returnType = rt) && !meth.locks && decide (parseMethodDescriptor y.desc = some meth.sig)) = true) : (Jvm.Cond.code y bytes mx rt).before a s = true := by
  simp only [Bool.and_eq_true, beq_iff_eq, Bool.not_eq_true', decide_eq_true_eq] at h5
  obtain ⟨⟨⟨⟨⟨g1, g2⟩, g3⟩, g4⟩, g5⟩, g6⟩ := h5
  simp [Cond.before, Cond.holds, Cond.value, h1, h2, h3, h4, g1, g2, g3, g4, g5, g6]
def isCode : Jvm.Cond → Bool
  | .code _ _ _ _ => true
  | _ => false
theorem all_split {L : List Jvm.Cond} {P : Jvm.Cond → Bool} (h1 : L.all (fun c => isCode c || P c) = true) (h2 : ∀ c ∈ L.filter isCode, P c = true) : L.all P = true := by
  refine List.all_eq_true.mpr fun c hc => ?_
  have h := List.all_eq_true.mp h1 c hc
  rcases Bool.eq_false_or_eq_true (isCode c) with hi | hi
  · exact h2 c (List.mem_filter.mpr ⟨hc, hi⟩)
  · simpa [hi] using h
set_option maxRecDepth 65536 in
theorem w_c0 : (Jvm.Cond.code x code maxLocals ret).before args0 about1 = true := code_word (m := ⟨1, 2⟩) (meth := k1m2) (c := k1c2) (by decide +kernel) rfl rfl rfl (by decide +kernel)
set_option maxRecDepth 65536 in
theorem w_c1 : (Jvm.Cond.code ({ cls := "com/example/graphtide/graphtide/rdf/CharClasses", name := "isIriChar", desc := "(I)Z" } : Jvm.MethodName) prog_19_method_5_code (1 : Nat) (Option.some Jvm.ClassFile.FieldType.boolean)).before args0 about1 = true := code_word (m := ⟨2, 1⟩) (meth := k2m1) (c := k2c1) (by decide +kernel) rfl rfl rfl (by decide +kernel)
set_option maxRecDepth 65536 in
theorem w_c2 : (Jvm.Cond.code ({ cls := "com/example/graphtide/graphtide/rdf/CharClassesIsIriCharPinLaw", name := "expected", desc := "(I)Z" } : Jvm.MethodName) method_2_code (1 : Nat) (Option.some Jvm.ClassFile.FieldType.boolean)).before args0 about1 = true := code_word (m := ⟨1, 1⟩) (meth := k1m1) (c := k1c1) (by decide +kernel) rfl rfl rfl (by decide +kernel)
def codes1 : List Jvm.Cond := [Jvm.Cond.code x code maxLocals ret, Jvm.Cond.code ({ cls := "com/example/graphtide/graphtide/rdf/CharClasses", name := "isIriChar", desc := "(I)Z" } : Jvm.MethodName) prog_19_method_5_code (1 : Nat) (Option.some Jvm.ClassFile.FieldType.boolean), Jvm.Cond.code ({ cls := "com/example/graphtide/graphtide/rdf/CharClassesIsIriCharPinLaw", name := "expected", desc := "(I)Z" } : Jvm.MethodName) method_2_code (1 : Nat) (Option.some Jvm.ClassFile.FieldType.boolean)]
set_option maxRecDepth 65536 in
theorem codes_eq : words1.filter isCode = codes1 := rfl
theorem w_codes : ∀ c ∈ words1.filter isCode, c.before args0 about1 = true := by
  rw [codes_eq]
  intro c hc
  simp only [codes1, List.mem_cons, List.not_mem_nil, or_false] at hc
  rcases hc with rfl | rfl | rfl
  · exact w_c0
  · exact w_c1
  · exact w_c2
set_option maxRecDepth 65536 in
theorem w_t1 : words1.all (fun c => isCode c || c.before args0 about1) = true := by decide +kernel
theorem w_tables : (allAtoms (Jvm.Cond.code x code maxLocals ret :: tables_1)).before args0 about1 = true := by
  rw [allAtoms_all]
  show words1.all (fun c => c.before args0 about1) = true
  refine all_split ?_ w_codes
  rw [w_t1]
set_option maxRecDepth 65536 in
theorem w_case : (Jvm.Cond.and given_1 narrow_1).before args0 about1 = true := by decide +kernel
theorem w_applies : (headSpec (Jvm.Cond.code x code maxLocals ret :: tables_1) room_1).applies x e0.platform about1 = true :=
  (Spec.applies_iff w_frames).mpr ⟨w_running, w_runnable, w_alone, w_named, w_hears, w_ripe, w_room, w_tables⟩
theorem atStart : AtStart classFile x code maxLocals ret World_1 tables_1 room_1 Calls_1 rest_1 Pre_1 launch0 p0 e0 about1 theMethod args0 below0 :=
  ⟨lists_1, trivial, launch0.admits_env _ _ _, launch0.least_env, fairChoices_fair.cas, fairChoices_fair.clock, w_frames, w_args, w_heap, w_applies, trivial, trivial, w_case⟩
end start1
theorem witness_1 : WitnessClaimed_1 := ⟨start1.p0, start1.e0, start1.about1, start1.theMethod, start1.args0, start1.below0, start1.atStart⟩
end Jvm.Pilot.@@N@@
