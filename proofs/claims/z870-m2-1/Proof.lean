import JvmDerived
import JvmDerived.Pilot.@@N@@Statement
import JvmDerived.Pilot.@@N@@Code
set_option linter.unusedVariables false
set_option linter.unusedSimpArgs false
namespace Jvm.RoadKit
open Sem ClassFile Op Lib Jvm.Stand Jvm.Free Jvm.LawKit
section New
variable {p : Program} {l : Launch} {e : Env} {R : Room} {s : State} {m : MethodId} {args : Array Value} {below : List Frame} {meth : Method} {c : Code} {T : State} {locs : List Loc} {cells slots : Nat}
theorem retI (X : Stand p l e R s m args below meth c T locs cells slots) (hx : p.tables.exec = Jvm.exec) {pc : Nat} {Ls : Array Slot} {z : Int32} {rest : List Value} (hret : meth.sig.returnType = some .int) (hd : decode c.code pc = .ok (.ireturn, 1)) {fs : List Frame}
    (hl : ∀ (f : JFrame) (acts : List Action), f.method = m → f.locked = none → f.entered = [] → (doReturn e (T.setTop f) acts (some (.int z))).1 = T.setFrames fs) : Steps p.tables e below (T.setTop (mkF m pc Ls (.int z :: rest))) (T.setFrames fs) := by
  have hm' : T.vm.method? m = some meth := X.method'
  have hn : narrow .int (.int z) = .int z := rfl
  show Steps p.tables e below (T.setTop { method := m, pc := pc, locals := Ls, stack := _ :: rest, locked := none }) _
  jvm_step X.here [X.here.top, hx, hd, hm', hret, hn]
  first | (intro acts; rw [hl _ acts rfl rfl rfl]) | rw [hl _ _ rfl rfl rfl]
  exact Steps.refl _
end New
end Jvm.RoadKit
namespace Jvm.Pilot.@@N@@
open Jvm Jvm.ClassFile Sem Op Lib Jvm.Free Jvm.Stand Jvm.LawKit Jvm.RoadKit Bundle Jvm.Pilot.@@N@@.Jvm.D
def own_Ends (p : Program) (e : Env) (below : List Frame) (T : State) (g : JFrame) (P : Outcome → State → Prop) : Prop := ∃ s₂ o, Steps p.tables e below (T.setTop g) s₂ ∧ s₂.status = .running ∧ Ended s₂ below o ∧ P o s₂
theorem own_go {p : Program} {e : Env} {below : List Frame} {T T' : State} {g g' : JFrame} {P : Outcome → State → Prop} (h : ∀ t, Steps p.tables e below (T'.setTop g') t → Steps p.tables e below (T.setTop g) t) (k : own_Ends p e below T' g' P) : own_Ends p e below T g P := by
  obtain ⟨a, o, q, r⟩ := k
  exact ⟨a, o, h _ q, r⟩
def own_Len (Z : State) (h : Heap) (a : Addr) (ty : FieldType) (n : Int32) : Prop := ∃ c : Cell, Arr Z h a c ty ∧ c.slots.size = n.toNatClampNeg ∧ ¬ n < 0
theorem own_Len.lt {Z : State} {h : Heap} {a : Addr} {ty : FieldType} {n : Int32} (F : own_Len Z h a ty n) : a < h.size := by obtain ⟨c, A, -⟩ := F; exact A.lt
theorem own_Len.ext {Z : State} {h h' : Heap} {a : Addr} {ty : FieldType} {n : Int32} (F : own_Len Z h a ty n) (E : Ext h h') : own_Len Z h' a ty n := by obtain ⟨c, A, r⟩ := F; exact ⟨c, A.ext E, r⟩
theorem own_Len.other {Z : State} {h h' : Heap} {a b : Addr} {ty : FieldType} {n : Int32} {sl : Nat} {v : Value} (F : own_Len Z h b ty n) (W : Wr h h' a sl v) (q : b ≠ a) : own_Len Z h' b ty n := by obtain ⟨c, A, r⟩ := F; exact ⟨c, A.other W q, r⟩
theorem own_Len.same {Z : State} {h h' : Heap} {a : Addr} {ty : FieldType} {n : Int32} {sl : Nat} {v : Value} (F : own_Len Z h a ty n) (W : Wr h h' a sl v) : own_Len Z h' a ty n := by obtain ⟨c, A, r1, r2⟩ := F; exact ⟨_, A.same W, by rw [sz_set]; exact r1, r2⟩
theorem own_Len.keep {Z : State} {h h' : Heap} {a : Addr} {ty : FieldType} {n : Int32} {ws : List Addr} (F : own_Len Z h a ty n) (K : Keep h h' ws) (q : a ∉ ws) : own_Len Z h' a ty n := by obtain ⟨c, A, r⟩ := F; exact ⟨c, ⟨K.2.1 a c A.1 q, A.2⟩, r⟩
theorem own_as {p : Program} {e : Env} {below : List Frame} {T : State} {g g' : JFrame} {P : Outcome → State → Prop} (h : g = g') (k : own_Ends p e below T g' P) : own_Ends p e below T g P := h ▸ k

def own_idx (x : Int32) : Int32 := if x = (116 : Int32) then (0 : Int32) else if x = (98 : Int32) then (1 : Int32) else if x = (110 : Int32) then (2 : Int32) else if x = (114 : Int32) then (3 : Int32) else if x = (102 : Int32) then (4 : Int32) else if x = (34 : Int32) then (5 : Int32) else if x = (39 : Int32) then (6 : Int32) else if x = (92 : Int32) then (7 : Int32) else (-1 : Int32)
def own_une (x : Int32) : Int32 := if x = (34 : Int32) then x else if x = (39 : Int32) then x else if x = (92 : Int32) then x else if x = (98 : Int32) then (8 : Int32) else if x = (102 : Int32) then (12 : Int32) else if x = (110 : Int32) then (10 : Int32) else if x = (114 : Int32) then (13 : Int32) else if x = (116 : Int32) then (9 : Int32) else (-1 : Int32)
def own_key (j : Int32) : Int32 := ([116, 98, 110, 114, 102, 34, 39, 92] : List Int32).getD j.toNatClampNeg 0
theorem own_getD (l : List Int32) (i : Nat) : (l.map Value.int).getD i (.int (0 : Int32)) = .int (l.getD i 0) := by
  induction l generalizing i with
  | nil => rfl
  | cons a t ih => cases i with
    | zero => rfl
    | succ i => exact ih i
theorem own_seven (x : Int32) : ¬ (x &&& (7 : Int32)) < 0 ∧ (x &&& (7 : Int32)) < (8 : Int32) := by
  have h := c_mask x 7 3 (by decide) (by decide)
  have e0 : (0 : Int32).toInt = 0 := by decide
  have e8 : (8 : Int32).toInt = 8 := by decide
  rw [Int32.lt_iff_toInt_lt, Int32.lt_iff_toInt_lt, e0, e8]
  omega
theorem own_cases (x : Int32) : (own_idx x = (0 : Int32) ∧ own_une x = (9 : Int32)) ∨ (own_idx x = (1 : Int32) ∧ own_une x = (8 : Int32)) ∨ (own_idx x = (2 : Int32) ∧ own_une x = (10 : Int32)) ∨ (own_idx x = (3 : Int32) ∧ own_une x = (13 : Int32)) ∨ (own_idx x = (4 : Int32) ∧ own_une x = (12 : Int32)) ∨ (own_idx x = (5 : Int32) ∧ own_une x = (34 : Int32)) ∨ (own_idx x = (6 : Int32) ∧ own_une x = (39 : Int32)) ∨ (own_idx x = (7 : Int32) ∧ own_une x = (92 : Int32)) ∨ (own_idx x = (-1 : Int32) ∧ own_une x = (-1 : Int32)) := by
  by_cases h0 : x = (116 : Int32)
  · exact Or.inl ⟨by rw [h0]; decide, by rw [h0]; decide⟩
  by_cases h1 : x = (98 : Int32)
  · exact Or.inr (Or.inl ⟨by rw [h1]; decide, by rw [h1]; decide⟩)
  by_cases h2 : x = (110 : Int32)
  · exact Or.inr (Or.inr (Or.inl ⟨by rw [h2]; decide, by rw [h2]; decide⟩))
  by_cases h3 : x = (114 : Int32)
  · exact Or.inr (Or.inr (Or.inr (Or.inl ⟨by rw [h3]; decide, by rw [h3]; decide⟩)))
  by_cases h4 : x = (102 : Int32)
  · exact Or.inr (Or.inr (Or.inr (Or.inr (Or.inl ⟨by rw [h4]; decide, by rw [h4]; decide⟩))))
  by_cases h5 : x = (34 : Int32)
  · exact Or.inr (Or.inr (Or.inr (Or.inr (Or.inr (Or.inl ⟨by rw [h5]; decide, by rw [h5]; decide⟩)))))
  by_cases h6 : x = (39 : Int32)
  · exact Or.inr (Or.inr (Or.inr (Or.inr (Or.inr (Or.inr (Or.inl ⟨by rw [h6]; decide, by rw [h6]; decide⟩))))))
  by_cases h7 : x = (92 : Int32)
  · exact Or.inr (Or.inr (Or.inr (Or.inr (Or.inr (Or.inr (Or.inr (Or.inl ⟨by rw [h7]; decide, by rw [h7]; decide⟩)))))))
  exact Or.inr (Or.inr (Or.inr (Or.inr (Or.inr (Or.inr (Or.inr (Or.inr (⟨by simp [own_idx, h0, h1, h2, h3, h4, h5, h6, h7], by simp [own_une, h0, h1, h2, h3, h4, h5, h6, h7]⟩))))))))
theorem d1_0 : decode method_3_code 0 = .ok (.iload_n 1, 1) := by decide +kernel
theorem d1_1 : decode method_3_code 1 = .ok (.aload_n 0, 1) := by decide +kernel
theorem d1_2 : decode method_3_code 2 = .ok (.iconst 0, 1) := by decide +kernel
theorem d1_3 : decode method_3_code 3 = .ok (.iaload, 1) := by decide +kernel
theorem d1_4 : decode method_3_code 4 = .ok (.if_icmp .ne 5, 3) := by decide +kernel
theorem d1_7 : decode method_3_code 7 = .ok (.iconst 0, 1) := by decide +kernel
theorem d1_8 : decode method_3_code 8 = .ok (.ireturn, 1) := by decide +kernel
theorem d1_9 : decode method_3_code 9 = .ok (.iload_n 1, 1) := by decide +kernel
theorem d1_10 : decode method_3_code 10 = .ok (.aload_n 0, 1) := by decide +kernel
theorem d1_11 : decode method_3_code 11 = .ok (.iconst 1, 1) := by decide +kernel
theorem d1_12 : decode method_3_code 12 = .ok (.iaload, 1) := by decide +kernel
theorem d1_13 : decode method_3_code 13 = .ok (.if_icmp .ne 5, 3) := by decide +kernel
theorem d1_16 : decode method_3_code 16 = .ok (.iconst 1, 1) := by decide +kernel
theorem d1_17 : decode method_3_code 17 = .ok (.ireturn, 1) := by decide +kernel
theorem d1_18 : decode method_3_code 18 = .ok (.iload_n 1, 1) := by decide +kernel
theorem d1_19 : decode method_3_code 19 = .ok (.aload_n 0, 1) := by decide +kernel
theorem d1_20 : decode method_3_code 20 = .ok (.iconst 2, 1) := by decide +kernel
theorem d1_21 : decode method_3_code 21 = .ok (.iaload, 1) := by decide +kernel
theorem d1_22 : decode method_3_code 22 = .ok (.if_icmp .ne 5, 3) := by decide +kernel
theorem d1_25 : decode method_3_code 25 = .ok (.iconst 2, 1) := by decide +kernel
theorem d1_26 : decode method_3_code 26 = .ok (.ireturn, 1) := by decide +kernel
theorem d1_27 : decode method_3_code 27 = .ok (.iload_n 1, 1) := by decide +kernel
theorem d1_28 : decode method_3_code 28 = .ok (.aload_n 0, 1) := by decide +kernel
theorem d1_29 : decode method_3_code 29 = .ok (.iconst 3, 1) := by decide +kernel
theorem d1_30 : decode method_3_code 30 = .ok (.iaload, 1) := by decide +kernel
theorem d1_31 : decode method_3_code 31 = .ok (.if_icmp .ne 5, 3) := by decide +kernel
theorem d1_34 : decode method_3_code 34 = .ok (.iconst 3, 1) := by decide +kernel
theorem d1_35 : decode method_3_code 35 = .ok (.ireturn, 1) := by decide +kernel
theorem d1_36 : decode method_3_code 36 = .ok (.iload_n 1, 1) := by decide +kernel
theorem d1_37 : decode method_3_code 37 = .ok (.aload_n 0, 1) := by decide +kernel
theorem d1_38 : decode method_3_code 38 = .ok (.iconst 4, 1) := by decide +kernel
theorem d1_39 : decode method_3_code 39 = .ok (.iaload, 1) := by decide +kernel
theorem d1_40 : decode method_3_code 40 = .ok (.if_icmp .ne 5, 3) := by decide +kernel
theorem d1_43 : decode method_3_code 43 = .ok (.iconst 4, 1) := by decide +kernel
theorem d1_44 : decode method_3_code 44 = .ok (.ireturn, 1) := by decide +kernel
theorem d1_45 : decode method_3_code 45 = .ok (.iload_n 1, 1) := by decide +kernel
theorem d1_46 : decode method_3_code 46 = .ok (.aload_n 0, 1) := by decide +kernel
theorem d1_47 : decode method_3_code 47 = .ok (.iconst 5, 1) := by decide +kernel
theorem d1_48 : decode method_3_code 48 = .ok (.iaload, 1) := by decide +kernel
theorem d1_49 : decode method_3_code 49 = .ok (.if_icmp .ne 5, 3) := by decide +kernel
theorem d1_52 : decode method_3_code 52 = .ok (.iconst 5, 1) := by decide +kernel
theorem d1_53 : decode method_3_code 53 = .ok (.ireturn, 1) := by decide +kernel
theorem d1_54 : decode method_3_code 54 = .ok (.iload_n 1, 1) := by decide +kernel
theorem d1_55 : decode method_3_code 55 = .ok (.aload_n 0, 1) := by decide +kernel
theorem d1_56 : decode method_3_code 56 = .ok (.bipush 6, 2) := by decide +kernel
theorem d1_58 : decode method_3_code 58 = .ok (.iaload, 1) := by decide +kernel
theorem d1_59 : decode method_3_code 59 = .ok (.if_icmp .ne 6, 3) := by decide +kernel
theorem d1_62 : decode method_3_code 62 = .ok (.bipush 6, 2) := by decide +kernel
theorem d1_64 : decode method_3_code 64 = .ok (.ireturn, 1) := by decide +kernel
theorem d1_65 : decode method_3_code 65 = .ok (.iload_n 1, 1) := by decide +kernel
theorem d1_66 : decode method_3_code 66 = .ok (.aload_n 0, 1) := by decide +kernel
theorem d1_67 : decode method_3_code 67 = .ok (.bipush 7, 2) := by decide +kernel
theorem d1_69 : decode method_3_code 69 = .ok (.iaload, 1) := by decide +kernel
theorem d1_70 : decode method_3_code 70 = .ok (.if_icmp .ne 6, 3) := by decide +kernel
theorem d1_73 : decode method_3_code 73 = .ok (.bipush 7, 2) := by decide +kernel
theorem d1_75 : decode method_3_code 75 = .ok (.ireturn, 1) := by decide +kernel
theorem d1_76 : decode method_3_code 76 = .ok (.iconst (-1), 1) := by decide +kernel
theorem d1_77 : decode method_3_code 77 = .ok (.ireturn, 1) := by decide +kernel
theorem pn_1 : plainName "com/example/graphtide/graphtide/rdf/CharClassesUnescapePinLaw" = true := by first | (simp [plainName, overriddenIn]; done) | decide +kernel
theorem ef_1 (m : MethodId) (a : Addr) (x : Int32) : entryFrame m #[(.ref a), (.int x)] 2 = mkF m 0 #[.val (.ref a), .val (.int x)] [] := by first | (simp [entryFrame, mkF, argsToLocals, Value.category]; done) | rfl
def Q_rmIdx (Z : State) (a : Addr) (x : Int32) (kl : ClassId) (h0 : Heap) (n0 : Nat) (v : Option Value) (h : Heap) (L : List Loc) : Prop := v = some (.int (own_idx x)) ∧ Fr n0 L ∧ h = h0
set_option maxRecDepth 65536 in
set_option maxHeartbeats 40000000 in
theorem rmIdx (l : Launch) (Z : State) (a0 : Array Value) (hw : ∀ d ∈ tables_1, d.before a0 Z = true) (ws : List Jvm.Cond) (a : Addr) (x : Int32) (kl : ClassId) (h0 : Heap) (n0 : Nat) (Z0 : n0 ≤ h0.size) (V_a : Arv Z h0 a kl .int (8 : Int32) [(.int (116 : Int32)), (.int (98 : Int32)), (.int (110 : Int32)), (.int (114 : Int32)), (.int (102 : Int32)), (.int (34 : Int32)), (.int (39 : Int32)), (.int (92 : Int32))] (.int (0 : Int32))) :
    MetFree l (⟨"com/example/graphtide/graphtide/rdf/CharClassesUnescapePinLaw", "indexOf", "([II)I"⟩ : MethodName) (head1 (Jvm.Cond.code (⟨"com/example/graphtide/graphtide/rdf/CharClassesUnescapePinLaw", "indexOf", "([II)I"⟩ : MethodName) method_3_code 2 (some .int) :: ws) ({ frames := 0, cells := 0, slots := 0, locals := 0 } : Room)) (fun aa U => aa = #[(.ref a), (.int x)] ∧ Z.Warmed39 U.vm ∧ U.heap = h0) (fun _ _ _ _ _ => True) (fun _ U ou U' => ∃ v L, ou = .returned v ∧ Q_rmIdx Z a x kl h0 n0 v U'.heap L ∧ FrameEnd U ou U' L ({ frames := 0, cells := 0, slots := 0, locals := 0 } : Room).cells ({ frames := 0, cells := 0, slots := 0, locals := 0 } : Room).slots) := by
  refine MetFree.of_bodySF (plainFor_of_name pn_1) hisR ?_
  intro p e s m args below meth c s₁ Bd hml0 hP hK
  obtain ⟨rfl, hZ, hh⟩ := hP
  have hx := Bd.exec
  have hby := Bd.bytes
  have hml : c.maxLocals = 2 := hml0
  have hown : s.vm.findClass "com/example/graphtide/graphtide/rdf/CharClassesUnescapePinLaw" = some m.cls := findClass_of_methodNamed Bd.named
  have hnm := (name_of_methodNamed Bd.named Bd.method).1
  have X0 : Stand p l e ({ frames := 0, cells := 0, slots := 0, locals := 0 } : Room) s m #[(.ref a), (.int x)] below meth c s₁ [] 0 0 := Stand.of_body Bd
  have e0 : s₁.heap = h0 := by rw [← hh, Bd.state]; rfl
  have N0 := Fr.nil n0
  have K0 := Keep.refl h0 []
  refine own_as (ef_1 m a x) ?_
  show own_Ends p e below s₁ (mkF m 0 #[.val (.ref a), .val (.int x)] []) _
  refine own_go (fun _ => XS.iloadN X0.here hx rfl (hb hby d1_0) rfl) ?_
  show own_Ends p e below s₁ (mkF m 1 #[.val (.ref a), .val (.int x)] [(.int x)]) _
  refine own_go (fun _ => XS.aloadN X0.here hx rfl (hb hby d1_1) rfl rfl) ?_
  show own_Ends p e below s₁ (mkF m 2 #[.val (.ref a), .val (.int x)] [(.ref a), (.int x)]) _
  refine own_go (fun _ => XS.iconst X0.here hx rfl (hb hby d1_2)) ?_
  show own_Ends p e below s₁ (mkF m 3 #[.val (.ref a), .val (.int x)] [(.int (0 : Int32)), (.ref a), (.int x)]) _
  obtain ⟨cl_1, Ar_1, q_1, S_1, M_1, H_1, G_1⟩ := V_a
  have hin1 : ¬ ((0 : Int32) < 0 ∨ cl_1.slots.size ≤ ((0 : Int32)).toNatClampNeg) := inb_of S_1 ⟨by decide, by decide⟩
  have hat1 : cl_1.slots[((0 : Int32)).toNatClampNeg]? = some (.int (116 : Int32)) := Has.at H_1 hin1 (rfl)
  refine own_go (X0.iaload hx (j := (0 : Int32)) (v := (.int (116 : Int32))) (by rw [e0]; exact Ar_1.1) (State.isArrayOf_alike hZ.alike Ar_1.2.1) Ar_1.2.2 hin1 hat1 (g := (mkF m 3 #[.val (.ref a), .val (.int x)] [(.int (0 : Int32)), (.ref a), (.int x)])) rfl rfl (hb hby d1_3)) ?_
  have V_a_r1 : Arv Z h0 a kl .int (8 : Int32) [(.int (116 : Int32)), (.int (98 : Int32)), (.int (110 : Int32)), (.int (114 : Int32)), (.int (102 : Int32)), (.int (34 : Int32)), (.int (39 : Int32)), (.int (92 : Int32))] (.int (0 : Int32)) := ⟨cl_1, Ar_1, q_1, S_1, M_1, H_1, G_1⟩
  show own_Ends p e below s₁ (mkF m 4 #[.val (.ref a), .val (.int x)] [(.int (116 : Int32)), (.int x)]) _
  by_cases hc4 : x = (116 : Int32)
  · refine own_go (fun _ => XS.icmpNo X0.here hx rfl (hb hby d1_4) rfl (teq hc4).2) ?_
    show own_Ends p e below s₁ (mkF m 7 #[.val (.ref a), .val (.int x)] []) _
    refine own_go (fun _ => XS.iconst X0.here hx rfl (hb hby d1_7)) ?_
    show own_Ends p e below s₁ (mkF m 8 #[.val (.ref a), .val (.int x)] [(.int (0 : Int32))]) _
    obtain ⟨fs, hr, hrun, hended, hW, hsame⟩ := X0.leave (v := some (.int (0 : Int32))) (fun h => by rw [Bd.returns] at h; cases h)
    refine ⟨_, _, retI X0 hx Bd.returns (hb hby d1_8) hr, hrun, hended, _, _, rfl, ?_, ⟨_, rfl⟩, hW, hsame.mono (by decide) (by decide)⟩
    show Q_rmIdx Z a x kl h0 n0 _ s₁.heap _
    rw [e0]
    exact ⟨by unfold own_idx; rw [if_pos hc4], N0, rfl⟩
  · refine own_go (fun _ => XS.icmpYes X0.here hx rfl (pc0 := 4) (pc' := 9) rfl (hb hby d1_4) rfl (feq hc4).2 (by decide) (by decide)) ?_
    show own_Ends p e below s₁ (mkF m 9 #[.val (.ref a), .val (.int x)] []) _
    refine own_go (fun _ => XS.iloadN X0.here hx rfl (hb hby d1_9) rfl) ?_
    show own_Ends p e below s₁ (mkF m 10 #[.val (.ref a), .val (.int x)] [(.int x)]) _
    refine own_go (fun _ => XS.aloadN X0.here hx rfl (hb hby d1_10) rfl rfl) ?_
    show own_Ends p e below s₁ (mkF m 11 #[.val (.ref a), .val (.int x)] [(.ref a), (.int x)]) _
    refine own_go (fun _ => XS.iconst X0.here hx rfl (hb hby d1_11)) ?_
    show own_Ends p e below s₁ (mkF m 12 #[.val (.ref a), .val (.int x)] [(.int (1 : Int32)), (.ref a), (.int x)]) _
    obtain ⟨cl_2, Ar_2, q_2, S_2, M_2, H_2, G_2⟩ := V_a_r1
    have hin2 : ¬ ((1 : Int32) < 0 ∨ cl_2.slots.size ≤ ((1 : Int32)).toNatClampNeg) := inb_of S_2 ⟨by decide, by decide⟩
    have hat2 : cl_2.slots[((1 : Int32)).toNatClampNeg]? = some (.int (98 : Int32)) := Has.at H_2 hin2 (rfl)
    refine own_go (X0.iaload hx (j := (1 : Int32)) (v := (.int (98 : Int32))) (by rw [e0]; exact Ar_2.1) (State.isArrayOf_alike hZ.alike Ar_2.2.1) Ar_2.2.2 hin2 hat2 (g := (mkF m 12 #[.val (.ref a), .val (.int x)] [(.int (1 : Int32)), (.ref a), (.int x)])) rfl rfl (hb hby d1_12)) ?_
    have V_a_r2 : Arv Z h0 a kl .int (8 : Int32) [(.int (116 : Int32)), (.int (98 : Int32)), (.int (110 : Int32)), (.int (114 : Int32)), (.int (102 : Int32)), (.int (34 : Int32)), (.int (39 : Int32)), (.int (92 : Int32))] (.int (0 : Int32)) := ⟨cl_2, Ar_2, q_2, S_2, M_2, H_2, G_2⟩
    show own_Ends p e below s₁ (mkF m 13 #[.val (.ref a), .val (.int x)] [(.int (98 : Int32)), (.int x)]) _
    by_cases hc13 : x = (98 : Int32)
    · refine own_go (fun _ => XS.icmpNo X0.here hx rfl (hb hby d1_13) rfl (teq hc13).2) ?_
      show own_Ends p e below s₁ (mkF m 16 #[.val (.ref a), .val (.int x)] []) _
      refine own_go (fun _ => XS.iconst X0.here hx rfl (hb hby d1_16)) ?_
      show own_Ends p e below s₁ (mkF m 17 #[.val (.ref a), .val (.int x)] [(.int (1 : Int32))]) _
      obtain ⟨fs, hr, hrun, hended, hW, hsame⟩ := X0.leave (v := some (.int (1 : Int32))) (fun h => by rw [Bd.returns] at h; cases h)
      refine ⟨_, _, retI X0 hx Bd.returns (hb hby d1_17) hr, hrun, hended, _, _, rfl, ?_, ⟨_, rfl⟩, hW, hsame.mono (by decide) (by decide)⟩
      show Q_rmIdx Z a x kl h0 n0 _ s₁.heap _
      rw [e0]
      exact ⟨by unfold own_idx; rw [if_neg hc4, if_pos hc13], N0, rfl⟩
    · refine own_go (fun _ => XS.icmpYes X0.here hx rfl (pc0 := 13) (pc' := 18) rfl (hb hby d1_13) rfl (feq hc13).2 (by decide) (by decide)) ?_
      show own_Ends p e below s₁ (mkF m 18 #[.val (.ref a), .val (.int x)] []) _
      refine own_go (fun _ => XS.iloadN X0.here hx rfl (hb hby d1_18) rfl) ?_
      show own_Ends p e below s₁ (mkF m 19 #[.val (.ref a), .val (.int x)] [(.int x)]) _
      refine own_go (fun _ => XS.aloadN X0.here hx rfl (hb hby d1_19) rfl rfl) ?_
      show own_Ends p e below s₁ (mkF m 20 #[.val (.ref a), .val (.int x)] [(.ref a), (.int x)]) _
      refine own_go (fun _ => XS.iconst X0.here hx rfl (hb hby d1_20)) ?_
      show own_Ends p e below s₁ (mkF m 21 #[.val (.ref a), .val (.int x)] [(.int (2 : Int32)), (.ref a), (.int x)]) _
      obtain ⟨cl_3, Ar_3, q_3, S_3, M_3, H_3, G_3⟩ := V_a_r2
      have hin3 : ¬ ((2 : Int32) < 0 ∨ cl_3.slots.size ≤ ((2 : Int32)).toNatClampNeg) := inb_of S_3 ⟨by decide, by decide⟩
      have hat3 : cl_3.slots[((2 : Int32)).toNatClampNeg]? = some (.int (110 : Int32)) := Has.at H_3 hin3 (rfl)
      refine own_go (X0.iaload hx (j := (2 : Int32)) (v := (.int (110 : Int32))) (by rw [e0]; exact Ar_3.1) (State.isArrayOf_alike hZ.alike Ar_3.2.1) Ar_3.2.2 hin3 hat3 (g := (mkF m 21 #[.val (.ref a), .val (.int x)] [(.int (2 : Int32)), (.ref a), (.int x)])) rfl rfl (hb hby d1_21)) ?_
      have V_a_r3 : Arv Z h0 a kl .int (8 : Int32) [(.int (116 : Int32)), (.int (98 : Int32)), (.int (110 : Int32)), (.int (114 : Int32)), (.int (102 : Int32)), (.int (34 : Int32)), (.int (39 : Int32)), (.int (92 : Int32))] (.int (0 : Int32)) := ⟨cl_3, Ar_3, q_3, S_3, M_3, H_3, G_3⟩
      show own_Ends p e below s₁ (mkF m 22 #[.val (.ref a), .val (.int x)] [(.int (110 : Int32)), (.int x)]) _
      by_cases hc22 : x = (110 : Int32)
      · refine own_go (fun _ => XS.icmpNo X0.here hx rfl (hb hby d1_22) rfl (teq hc22).2) ?_
        show own_Ends p e below s₁ (mkF m 25 #[.val (.ref a), .val (.int x)] []) _
        refine own_go (fun _ => XS.iconst X0.here hx rfl (hb hby d1_25)) ?_
        show own_Ends p e below s₁ (mkF m 26 #[.val (.ref a), .val (.int x)] [(.int (2 : Int32))]) _
        obtain ⟨fs, hr, hrun, hended, hW, hsame⟩ := X0.leave (v := some (.int (2 : Int32))) (fun h => by rw [Bd.returns] at h; cases h)
        refine ⟨_, _, retI X0 hx Bd.returns (hb hby d1_26) hr, hrun, hended, _, _, rfl, ?_, ⟨_, rfl⟩, hW, hsame.mono (by decide) (by decide)⟩
        show Q_rmIdx Z a x kl h0 n0 _ s₁.heap _
        rw [e0]
        exact ⟨by unfold own_idx; rw [if_neg hc4, if_neg hc13, if_pos hc22], N0, rfl⟩
      · refine own_go (fun _ => XS.icmpYes X0.here hx rfl (pc0 := 22) (pc' := 27) rfl (hb hby d1_22) rfl (feq hc22).2 (by decide) (by decide)) ?_
        show own_Ends p e below s₁ (mkF m 27 #[.val (.ref a), .val (.int x)] []) _
        refine own_go (fun _ => XS.iloadN X0.here hx rfl (hb hby d1_27) rfl) ?_
        show own_Ends p e below s₁ (mkF m 28 #[.val (.ref a), .val (.int x)] [(.int x)]) _
        refine own_go (fun _ => XS.aloadN X0.here hx rfl (hb hby d1_28) rfl rfl) ?_
        show own_Ends p e below s₁ (mkF m 29 #[.val (.ref a), .val (.int x)] [(.ref a), (.int x)]) _
        refine own_go (fun _ => XS.iconst X0.here hx rfl (hb hby d1_29)) ?_
        show own_Ends p e below s₁ (mkF m 30 #[.val (.ref a), .val (.int x)] [(.int (3 : Int32)), (.ref a), (.int x)]) _
        obtain ⟨cl_4, Ar_4, q_4, S_4, M_4, H_4, G_4⟩ := V_a_r3
        have hin4 : ¬ ((3 : Int32) < 0 ∨ cl_4.slots.size ≤ ((3 : Int32)).toNatClampNeg) := inb_of S_4 ⟨by decide, by decide⟩
        have hat4 : cl_4.slots[((3 : Int32)).toNatClampNeg]? = some (.int (114 : Int32)) := Has.at H_4 hin4 (rfl)
        refine own_go (X0.iaload hx (j := (3 : Int32)) (v := (.int (114 : Int32))) (by rw [e0]; exact Ar_4.1) (State.isArrayOf_alike hZ.alike Ar_4.2.1) Ar_4.2.2 hin4 hat4 (g := (mkF m 30 #[.val (.ref a), .val (.int x)] [(.int (3 : Int32)), (.ref a), (.int x)])) rfl rfl (hb hby d1_30)) ?_
        have V_a_r4 : Arv Z h0 a kl .int (8 : Int32) [(.int (116 : Int32)), (.int (98 : Int32)), (.int (110 : Int32)), (.int (114 : Int32)), (.int (102 : Int32)), (.int (34 : Int32)), (.int (39 : Int32)), (.int (92 : Int32))] (.int (0 : Int32)) := ⟨cl_4, Ar_4, q_4, S_4, M_4, H_4, G_4⟩
        show own_Ends p e below s₁ (mkF m 31 #[.val (.ref a), .val (.int x)] [(.int (114 : Int32)), (.int x)]) _
        by_cases hc31 : x = (114 : Int32)
        · refine own_go (fun _ => XS.icmpNo X0.here hx rfl (hb hby d1_31) rfl (teq hc31).2) ?_
          show own_Ends p e below s₁ (mkF m 34 #[.val (.ref a), .val (.int x)] []) _
          refine own_go (fun _ => XS.iconst X0.here hx rfl (hb hby d1_34)) ?_
          show own_Ends p e below s₁ (mkF m 35 #[.val (.ref a), .val (.int x)] [(.int (3 : Int32))]) _
          obtain ⟨fs, hr, hrun, hended, hW, hsame⟩ := X0.leave (v := some (.int (3 : Int32))) (fun h => by rw [Bd.returns] at h; cases h)
          refine ⟨_, _, retI X0 hx Bd.returns (hb hby d1_35) hr, hrun, hended, _, _, rfl, ?_, ⟨_, rfl⟩, hW, hsame.mono (by decide) (by decide)⟩
          show Q_rmIdx Z a x kl h0 n0 _ s₁.heap _
          rw [e0]
          exact ⟨by unfold own_idx; rw [if_neg hc4, if_neg hc13, if_neg hc22, if_pos hc31], N0, rfl⟩
        · refine own_go (fun _ => XS.icmpYes X0.here hx rfl (pc0 := 31) (pc' := 36) rfl (hb hby d1_31) rfl (feq hc31).2 (by decide) (by decide)) ?_
          show own_Ends p e below s₁ (mkF m 36 #[.val (.ref a), .val (.int x)] []) _
          refine own_go (fun _ => XS.iloadN X0.here hx rfl (hb hby d1_36) rfl) ?_
          show own_Ends p e below s₁ (mkF m 37 #[.val (.ref a), .val (.int x)] [(.int x)]) _
          refine own_go (fun _ => XS.aloadN X0.here hx rfl (hb hby d1_37) rfl rfl) ?_
          show own_Ends p e below s₁ (mkF m 38 #[.val (.ref a), .val (.int x)] [(.ref a), (.int x)]) _
          refine own_go (fun _ => XS.iconst X0.here hx rfl (hb hby d1_38)) ?_
          show own_Ends p e below s₁ (mkF m 39 #[.val (.ref a), .val (.int x)] [(.int (4 : Int32)), (.ref a), (.int x)]) _
          obtain ⟨cl_5, Ar_5, q_5, S_5, M_5, H_5, G_5⟩ := V_a_r4
          have hin5 : ¬ ((4 : Int32) < 0 ∨ cl_5.slots.size ≤ ((4 : Int32)).toNatClampNeg) := inb_of S_5 ⟨by decide, by decide⟩
          have hat5 : cl_5.slots[((4 : Int32)).toNatClampNeg]? = some (.int (102 : Int32)) := Has.at H_5 hin5 (rfl)
          refine own_go (X0.iaload hx (j := (4 : Int32)) (v := (.int (102 : Int32))) (by rw [e0]; exact Ar_5.1) (State.isArrayOf_alike hZ.alike Ar_5.2.1) Ar_5.2.2 hin5 hat5 (g := (mkF m 39 #[.val (.ref a), .val (.int x)] [(.int (4 : Int32)), (.ref a), (.int x)])) rfl rfl (hb hby d1_39)) ?_
          have V_a_r5 : Arv Z h0 a kl .int (8 : Int32) [(.int (116 : Int32)), (.int (98 : Int32)), (.int (110 : Int32)), (.int (114 : Int32)), (.int (102 : Int32)), (.int (34 : Int32)), (.int (39 : Int32)), (.int (92 : Int32))] (.int (0 : Int32)) := ⟨cl_5, Ar_5, q_5, S_5, M_5, H_5, G_5⟩
          show own_Ends p e below s₁ (mkF m 40 #[.val (.ref a), .val (.int x)] [(.int (102 : Int32)), (.int x)]) _
          by_cases hc40 : x = (102 : Int32)
          · refine own_go (fun _ => XS.icmpNo X0.here hx rfl (hb hby d1_40) rfl (teq hc40).2) ?_
            show own_Ends p e below s₁ (mkF m 43 #[.val (.ref a), .val (.int x)] []) _
            refine own_go (fun _ => XS.iconst X0.here hx rfl (hb hby d1_43)) ?_
            show own_Ends p e below s₁ (mkF m 44 #[.val (.ref a), .val (.int x)] [(.int (4 : Int32))]) _
            obtain ⟨fs, hr, hrun, hended, hW, hsame⟩ := X0.leave (v := some (.int (4 : Int32))) (fun h => by rw [Bd.returns] at h; cases h)
            refine ⟨_, _, retI X0 hx Bd.returns (hb hby d1_44) hr, hrun, hended, _, _, rfl, ?_, ⟨_, rfl⟩, hW, hsame.mono (by decide) (by decide)⟩
            show Q_rmIdx Z a x kl h0 n0 _ s₁.heap _
            rw [e0]
            exact ⟨by unfold own_idx; rw [if_neg hc4, if_neg hc13, if_neg hc22, if_neg hc31, if_pos hc40], N0, rfl⟩
          · refine own_go (fun _ => XS.icmpYes X0.here hx rfl (pc0 := 40) (pc' := 45) rfl (hb hby d1_40) rfl (feq hc40).2 (by decide) (by decide)) ?_
            show own_Ends p e below s₁ (mkF m 45 #[.val (.ref a), .val (.int x)] []) _
            refine own_go (fun _ => XS.iloadN X0.here hx rfl (hb hby d1_45) rfl) ?_
            show own_Ends p e below s₁ (mkF m 46 #[.val (.ref a), .val (.int x)] [(.int x)]) _
            refine own_go (fun _ => XS.aloadN X0.here hx rfl (hb hby d1_46) rfl rfl) ?_
            show own_Ends p e below s₁ (mkF m 47 #[.val (.ref a), .val (.int x)] [(.ref a), (.int x)]) _
            refine own_go (fun _ => XS.iconst X0.here hx rfl (hb hby d1_47)) ?_
            show own_Ends p e below s₁ (mkF m 48 #[.val (.ref a), .val (.int x)] [(.int (5 : Int32)), (.ref a), (.int x)]) _
            obtain ⟨cl_6, Ar_6, q_6, S_6, M_6, H_6, G_6⟩ := V_a_r5
            have hin6 : ¬ ((5 : Int32) < 0 ∨ cl_6.slots.size ≤ ((5 : Int32)).toNatClampNeg) := inb_of S_6 ⟨by decide, by decide⟩
            have hat6 : cl_6.slots[((5 : Int32)).toNatClampNeg]? = some (.int (34 : Int32)) := Has.at H_6 hin6 (rfl)
            refine own_go (X0.iaload hx (j := (5 : Int32)) (v := (.int (34 : Int32))) (by rw [e0]; exact Ar_6.1) (State.isArrayOf_alike hZ.alike Ar_6.2.1) Ar_6.2.2 hin6 hat6 (g := (mkF m 48 #[.val (.ref a), .val (.int x)] [(.int (5 : Int32)), (.ref a), (.int x)])) rfl rfl (hb hby d1_48)) ?_
            have V_a_r6 : Arv Z h0 a kl .int (8 : Int32) [(.int (116 : Int32)), (.int (98 : Int32)), (.int (110 : Int32)), (.int (114 : Int32)), (.int (102 : Int32)), (.int (34 : Int32)), (.int (39 : Int32)), (.int (92 : Int32))] (.int (0 : Int32)) := ⟨cl_6, Ar_6, q_6, S_6, M_6, H_6, G_6⟩
            show own_Ends p e below s₁ (mkF m 49 #[.val (.ref a), .val (.int x)] [(.int (34 : Int32)), (.int x)]) _
            by_cases hc49 : x = (34 : Int32)
            · refine own_go (fun _ => XS.icmpNo X0.here hx rfl (hb hby d1_49) rfl (teq hc49).2) ?_
              show own_Ends p e below s₁ (mkF m 52 #[.val (.ref a), .val (.int x)] []) _
              refine own_go (fun _ => XS.iconst X0.here hx rfl (hb hby d1_52)) ?_
              show own_Ends p e below s₁ (mkF m 53 #[.val (.ref a), .val (.int x)] [(.int (5 : Int32))]) _
              obtain ⟨fs, hr, hrun, hended, hW, hsame⟩ := X0.leave (v := some (.int (5 : Int32))) (fun h => by rw [Bd.returns] at h; cases h)
              refine ⟨_, _, retI X0 hx Bd.returns (hb hby d1_53) hr, hrun, hended, _, _, rfl, ?_, ⟨_, rfl⟩, hW, hsame.mono (by decide) (by decide)⟩
              show Q_rmIdx Z a x kl h0 n0 _ s₁.heap _
              rw [e0]
              exact ⟨by unfold own_idx; rw [if_neg hc4, if_neg hc13, if_neg hc22, if_neg hc31, if_neg hc40, if_pos hc49], N0, rfl⟩
            · refine own_go (fun _ => XS.icmpYes X0.here hx rfl (pc0 := 49) (pc' := 54) rfl (hb hby d1_49) rfl (feq hc49).2 (by decide) (by decide)) ?_
              show own_Ends p e below s₁ (mkF m 54 #[.val (.ref a), .val (.int x)] []) _
              refine own_go (fun _ => XS.iloadN X0.here hx rfl (hb hby d1_54) rfl) ?_
              show own_Ends p e below s₁ (mkF m 55 #[.val (.ref a), .val (.int x)] [(.int x)]) _
              refine own_go (fun _ => XS.aloadN X0.here hx rfl (hb hby d1_55) rfl rfl) ?_
              show own_Ends p e below s₁ (mkF m 56 #[.val (.ref a), .val (.int x)] [(.ref a), (.int x)]) _
              refine own_go (fun _ => XS.bipush X0.here hx rfl (hb hby d1_56)) ?_
              show own_Ends p e below s₁ (mkF m 58 #[.val (.ref a), .val (.int x)] [(.int (6 : Int32)), (.ref a), (.int x)]) _
              obtain ⟨cl_7, Ar_7, q_7, S_7, M_7, H_7, G_7⟩ := V_a_r6
              have hin7 : ¬ ((6 : Int32) < 0 ∨ cl_7.slots.size ≤ ((6 : Int32)).toNatClampNeg) := inb_of S_7 ⟨by decide, by decide⟩
              have hat7 : cl_7.slots[((6 : Int32)).toNatClampNeg]? = some (.int (39 : Int32)) := Has.at H_7 hin7 (rfl)
              refine own_go (X0.iaload hx (j := (6 : Int32)) (v := (.int (39 : Int32))) (by rw [e0]; exact Ar_7.1) (State.isArrayOf_alike hZ.alike Ar_7.2.1) Ar_7.2.2 hin7 hat7 (g := (mkF m 58 #[.val (.ref a), .val (.int x)] [(.int (6 : Int32)), (.ref a), (.int x)])) rfl rfl (hb hby d1_58)) ?_
              have V_a_r7 : Arv Z h0 a kl .int (8 : Int32) [(.int (116 : Int32)), (.int (98 : Int32)), (.int (110 : Int32)), (.int (114 : Int32)), (.int (102 : Int32)), (.int (34 : Int32)), (.int (39 : Int32)), (.int (92 : Int32))] (.int (0 : Int32)) := ⟨cl_7, Ar_7, q_7, S_7, M_7, H_7, G_7⟩
              show own_Ends p e below s₁ (mkF m 59 #[.val (.ref a), .val (.int x)] [(.int (39 : Int32)), (.int x)]) _
              by_cases hc59 : x = (39 : Int32)
              · refine own_go (fun _ => XS.icmpNo X0.here hx rfl (hb hby d1_59) rfl (teq hc59).2) ?_
                show own_Ends p e below s₁ (mkF m 62 #[.val (.ref a), .val (.int x)] []) _
                refine own_go (fun _ => XS.bipush X0.here hx rfl (hb hby d1_62)) ?_
                show own_Ends p e below s₁ (mkF m 64 #[.val (.ref a), .val (.int x)] [(.int (6 : Int32))]) _
                obtain ⟨fs, hr, hrun, hended, hW, hsame⟩ := X0.leave (v := some (.int (6 : Int32))) (fun h => by rw [Bd.returns] at h; cases h)
                refine ⟨_, _, retI X0 hx Bd.returns (hb hby d1_64) hr, hrun, hended, _, _, rfl, ?_, ⟨_, rfl⟩, hW, hsame.mono (by decide) (by decide)⟩
                show Q_rmIdx Z a x kl h0 n0 _ s₁.heap _
                rw [e0]
                exact ⟨by unfold own_idx; rw [if_neg hc4, if_neg hc13, if_neg hc22, if_neg hc31, if_neg hc40, if_neg hc49, if_pos hc59], N0, rfl⟩
              · refine own_go (fun _ => XS.icmpYes X0.here hx rfl (pc0 := 59) (pc' := 65) rfl (hb hby d1_59) rfl (feq hc59).2 (by decide) (by decide)) ?_
                show own_Ends p e below s₁ (mkF m 65 #[.val (.ref a), .val (.int x)] []) _
                refine own_go (fun _ => XS.iloadN X0.here hx rfl (hb hby d1_65) rfl) ?_
                show own_Ends p e below s₁ (mkF m 66 #[.val (.ref a), .val (.int x)] [(.int x)]) _
                refine own_go (fun _ => XS.aloadN X0.here hx rfl (hb hby d1_66) rfl rfl) ?_
                show own_Ends p e below s₁ (mkF m 67 #[.val (.ref a), .val (.int x)] [(.ref a), (.int x)]) _
                refine own_go (fun _ => XS.bipush X0.here hx rfl (hb hby d1_67)) ?_
                show own_Ends p e below s₁ (mkF m 69 #[.val (.ref a), .val (.int x)] [(.int (7 : Int32)), (.ref a), (.int x)]) _
                obtain ⟨cl_8, Ar_8, q_8, S_8, M_8, H_8, G_8⟩ := V_a_r7
                have hin8 : ¬ ((7 : Int32) < 0 ∨ cl_8.slots.size ≤ ((7 : Int32)).toNatClampNeg) := inb_of S_8 ⟨by decide, by decide⟩
                have hat8 : cl_8.slots[((7 : Int32)).toNatClampNeg]? = some (.int (92 : Int32)) := Has.at H_8 hin8 (rfl)
                refine own_go (X0.iaload hx (j := (7 : Int32)) (v := (.int (92 : Int32))) (by rw [e0]; exact Ar_8.1) (State.isArrayOf_alike hZ.alike Ar_8.2.1) Ar_8.2.2 hin8 hat8 (g := (mkF m 69 #[.val (.ref a), .val (.int x)] [(.int (7 : Int32)), (.ref a), (.int x)])) rfl rfl (hb hby d1_69)) ?_
                have V_a_r8 : Arv Z h0 a kl .int (8 : Int32) [(.int (116 : Int32)), (.int (98 : Int32)), (.int (110 : Int32)), (.int (114 : Int32)), (.int (102 : Int32)), (.int (34 : Int32)), (.int (39 : Int32)), (.int (92 : Int32))] (.int (0 : Int32)) := ⟨cl_8, Ar_8, q_8, S_8, M_8, H_8, G_8⟩
                show own_Ends p e below s₁ (mkF m 70 #[.val (.ref a), .val (.int x)] [(.int (92 : Int32)), (.int x)]) _
                by_cases hc70 : x = (92 : Int32)
                · refine own_go (fun _ => XS.icmpNo X0.here hx rfl (hb hby d1_70) rfl (teq hc70).2) ?_
                  show own_Ends p e below s₁ (mkF m 73 #[.val (.ref a), .val (.int x)] []) _
                  refine own_go (fun _ => XS.bipush X0.here hx rfl (hb hby d1_73)) ?_
                  show own_Ends p e below s₁ (mkF m 75 #[.val (.ref a), .val (.int x)] [(.int (7 : Int32))]) _
                  obtain ⟨fs, hr, hrun, hended, hW, hsame⟩ := X0.leave (v := some (.int (7 : Int32))) (fun h => by rw [Bd.returns] at h; cases h)
                  refine ⟨_, _, retI X0 hx Bd.returns (hb hby d1_75) hr, hrun, hended, _, _, rfl, ?_, ⟨_, rfl⟩, hW, hsame.mono (by decide) (by decide)⟩
                  show Q_rmIdx Z a x kl h0 n0 _ s₁.heap _
                  rw [e0]
                  exact ⟨by unfold own_idx; rw [if_neg hc4, if_neg hc13, if_neg hc22, if_neg hc31, if_neg hc40, if_neg hc49, if_neg hc59, if_pos hc70], N0, rfl⟩
                · refine own_go (fun _ => XS.icmpYes X0.here hx rfl (pc0 := 70) (pc' := 76) rfl (hb hby d1_70) rfl (feq hc70).2 (by decide) (by decide)) ?_
                  show own_Ends p e below s₁ (mkF m 76 #[.val (.ref a), .val (.int x)] []) _
                  refine own_go (fun _ => XS.iconst X0.here hx rfl (hb hby d1_76)) ?_
                  show own_Ends p e below s₁ (mkF m 77 #[.val (.ref a), .val (.int x)] [(.int (-1 : Int32))]) _
                  obtain ⟨fs, hr, hrun, hended, hW, hsame⟩ := X0.leave (v := some (.int (-1 : Int32))) (fun h => by rw [Bd.returns] at h; cases h)
                  refine ⟨_, _, retI X0 hx Bd.returns (hb hby d1_77) hr, hrun, hended, _, _, rfl, ?_, ⟨_, rfl⟩, hW, hsame.mono (by decide) (by decide)⟩
                  show Q_rmIdx Z a x kl h0 n0 _ s₁.heap _
                  rw [e0]
                  exact ⟨by unfold own_idx; rw [if_neg hc4, if_neg hc13, if_neg hc22, if_neg hc31, if_neg hc40, if_neg hc49, if_neg hc59, if_neg hc70], N0, rfl⟩
theorem d2_0 : decode prog_19_method_2_code 0 = .ok (.iload_n 0, 1) := by decide +kernel
theorem d2_1 : decode prog_19_method_2_code 1 = .ok (.lookupswitch 104 #[(34, 100), (39, 100), (92, 100), (98, 80), (102, 95), (110, 85), (114, 90), (116, 75)], 75) := by decide +kernel
theorem d2_76 : decode prog_19_method_2_code 76 = .ok (.bipush 9, 2) := by decide +kernel
theorem d2_78 : decode prog_19_method_2_code 78 = .ok (.goto 28, 3) := by decide +kernel
theorem d2_81 : decode prog_19_method_2_code 81 = .ok (.bipush 8, 2) := by decide +kernel
theorem d2_83 : decode prog_19_method_2_code 83 = .ok (.goto 23, 3) := by decide +kernel
theorem d2_86 : decode prog_19_method_2_code 86 = .ok (.bipush 10, 2) := by decide +kernel
theorem d2_88 : decode prog_19_method_2_code 88 = .ok (.goto 18, 3) := by decide +kernel
theorem d2_91 : decode prog_19_method_2_code 91 = .ok (.bipush 13, 2) := by decide +kernel
theorem d2_93 : decode prog_19_method_2_code 93 = .ok (.goto 13, 3) := by decide +kernel
theorem d2_96 : decode prog_19_method_2_code 96 = .ok (.bipush 12, 2) := by decide +kernel
theorem d2_98 : decode prog_19_method_2_code 98 = .ok (.goto 8, 3) := by decide +kernel
theorem d2_101 : decode prog_19_method_2_code 101 = .ok (.iload_n 0, 1) := by decide +kernel
theorem d2_102 : decode prog_19_method_2_code 102 = .ok (.goto 4, 3) := by decide +kernel
theorem d2_105 : decode prog_19_method_2_code 105 = .ok (.iconst (-1), 1) := by decide +kernel
theorem d2_106 : decode prog_19_method_2_code 106 = .ok (.ireturn, 1) := by decide +kernel
theorem pn_2 : plainName "com/example/graphtide/graphtide/rdf/CharClasses" = true := by first | (simp [plainName, overriddenIn]; done) | decide +kernel
theorem ef_2 (m : MethodId) (x : Int32) : entryFrame m #[(.int x)] 1 = mkF m 0 #[.val (.int x)] [] := by first | (simp [entryFrame, mkF, argsToLocals, Value.category]; done) | rfl
def Q_rmUne (Z : State) (x : Int32) (h0 : Heap) (n0 : Nat) (v : Option Value) (h : Heap) (L : List Loc) : Prop := v = some (.int (own_une x)) ∧ Fr n0 L ∧ h = h0
set_option maxRecDepth 65536 in
set_option maxHeartbeats 40000000 in
theorem rmUne (l : Launch) (Z : State) (a0 : Array Value) (hw : ∀ d ∈ tables_1, d.before a0 Z = true) (ws : List Jvm.Cond) (x : Int32) (h0 : Heap) (n0 : Nat) (Z0 : n0 ≤ h0.size) :
    MetFree l (⟨"com/example/graphtide/graphtide/rdf/CharClasses", "unescape", "(I)I"⟩ : MethodName) (head1 (Jvm.Cond.code (⟨"com/example/graphtide/graphtide/rdf/CharClasses", "unescape", "(I)I"⟩ : MethodName) prog_19_method_2_code 1 (some .int) :: ws) ({ frames := 0, cells := 0, slots := 0, locals := 0 } : Room)) (fun aa U => aa = #[(.int x)] ∧ Z.Warmed39 U.vm ∧ U.heap = h0) (fun _ _ _ _ _ => True) (fun _ U ou U' => ∃ v L, ou = .returned v ∧ Q_rmUne Z x h0 n0 v U'.heap L ∧ FrameEnd U ou U' L ({ frames := 0, cells := 0, slots := 0, locals := 0 } : Room).cells ({ frames := 0, cells := 0, slots := 0, locals := 0 } : Room).slots) := by
  refine MetFree.of_bodySF (plainFor_of_name pn_2) hisR ?_
  intro p e s m args below meth c s₁ Bd hml0 hP hK
  obtain ⟨rfl, hZ, hh⟩ := hP
  have hx := Bd.exec
  have hby := Bd.bytes
  have hml : c.maxLocals = 1 := hml0
  have hown : s.vm.findClass "com/example/graphtide/graphtide/rdf/CharClasses" = some m.cls := findClass_of_methodNamed Bd.named
  have hnm := (name_of_methodNamed Bd.named Bd.method).1
  have X0 : Stand p l e ({ frames := 0, cells := 0, slots := 0, locals := 0 } : Room) s m #[(.int x)] below meth c s₁ [] 0 0 := Stand.of_body Bd
  have e0 : s₁.heap = h0 := by rw [← hh, Bd.state]; rfl
  have N0 := Fr.nil n0
  have K0 := Keep.refl h0 []
  refine own_as (ef_2 m x) ?_
  show own_Ends p e below s₁ (mkF m 0 #[.val (.int x)] []) _
  refine own_go (fun _ => XS.iloadN X0.here hx rfl (hb hby d2_0) rfl) ?_
  show own_Ends p e below s₁ (mkF m 1 #[.val (.int x)] [(.int x)]) _
  by_cases hs1_34 : x = (34 : Int32)
  · refine own_go (fun t => Stand.lookupswitchHit X0 hx (g := (mkF m 1 #[.val (.int x)] [(.int x)])) rfl rfl (hb hby d2_1) (by decide) (a := 34) (off := 100) (by rw [hs1_34]; decide) (show (0 : Int) ≤ ((1 : Nat) : Int) + 100 by decide) t) ?_
    show own_Ends p e below s₁ (mkF m 101 #[.val (.int x)] []) _
    refine own_go (fun _ => XS.iloadN X0.here hx rfl (hb hby d2_101) rfl) ?_
    show own_Ends p e below s₁ (mkF m 102 #[.val (.int x)] [(.int x)]) _
    refine own_go (fun _ => XS.goto X0.here hx rfl (pc0 := 102) (pc' := 106) rfl (hb hby d2_102) (by decide) (by decide)) ?_
    show own_Ends p e below s₁ (mkF m 106 #[.val (.int x)] [(.int x)]) _
    obtain ⟨fs, hr, hrun, hended, hW, hsame⟩ := X0.leave (v := some (.int x)) (fun h => by rw [Bd.returns] at h; cases h)
    refine ⟨_, _, retI X0 hx Bd.returns (hb hby d2_106) hr, hrun, hended, _, _, rfl, ?_, ⟨_, rfl⟩, hW, hsame.mono (by decide) (by decide)⟩
    show Q_rmUne Z x h0 n0 _ s₁.heap _
    rw [e0]
    exact ⟨by unfold own_une; rw [if_pos hs1_34], N0, rfl⟩
  · have hn1_34 := hs1_34
    by_cases hs1_39 : x = (39 : Int32)
    · refine own_go (fun t => Stand.lookupswitchHit X0 hx (g := (mkF m 1 #[.val (.int x)] [(.int x)])) rfl rfl (hb hby d2_1) (by decide) (a := 39) (off := 100) (by rw [hs1_39]; decide) (show (0 : Int) ≤ ((1 : Nat) : Int) + 100 by decide) t) ?_
      show own_Ends p e below s₁ (mkF m 101 #[.val (.int x)] []) _
      refine own_go (fun _ => XS.iloadN X0.here hx rfl (hb hby d2_101) rfl) ?_
      show own_Ends p e below s₁ (mkF m 102 #[.val (.int x)] [(.int x)]) _
      refine own_go (fun _ => XS.goto X0.here hx rfl (pc0 := 102) (pc' := 106) rfl (hb hby d2_102) (by decide) (by decide)) ?_
      show own_Ends p e below s₁ (mkF m 106 #[.val (.int x)] [(.int x)]) _
      obtain ⟨fs, hr, hrun, hended, hW, hsame⟩ := X0.leave (v := some (.int x)) (fun h => by rw [Bd.returns] at h; cases h)
      refine ⟨_, _, retI X0 hx Bd.returns (hb hby d2_106) hr, hrun, hended, _, _, rfl, ?_, ⟨_, rfl⟩, hW, hsame.mono (by decide) (by decide)⟩
      show Q_rmUne Z x h0 n0 _ s₁.heap _
      rw [e0]
      exact ⟨by unfold own_une; rw [if_neg hs1_34, if_pos hs1_39], N0, rfl⟩
    · have hn1_39 := hs1_39
      by_cases hs1_92 : x = (92 : Int32)
      · refine own_go (fun t => Stand.lookupswitchHit X0 hx (g := (mkF m 1 #[.val (.int x)] [(.int x)])) rfl rfl (hb hby d2_1) (by decide) (a := 92) (off := 100) (by rw [hs1_92]; decide) (show (0 : Int) ≤ ((1 : Nat) : Int) + 100 by decide) t) ?_
        show own_Ends p e below s₁ (mkF m 101 #[.val (.int x)] []) _
        refine own_go (fun _ => XS.iloadN X0.here hx rfl (hb hby d2_101) rfl) ?_
        show own_Ends p e below s₁ (mkF m 102 #[.val (.int x)] [(.int x)]) _
        refine own_go (fun _ => XS.goto X0.here hx rfl (pc0 := 102) (pc' := 106) rfl (hb hby d2_102) (by decide) (by decide)) ?_
        show own_Ends p e below s₁ (mkF m 106 #[.val (.int x)] [(.int x)]) _
        obtain ⟨fs, hr, hrun, hended, hW, hsame⟩ := X0.leave (v := some (.int x)) (fun h => by rw [Bd.returns] at h; cases h)
        refine ⟨_, _, retI X0 hx Bd.returns (hb hby d2_106) hr, hrun, hended, _, _, rfl, ?_, ⟨_, rfl⟩, hW, hsame.mono (by decide) (by decide)⟩
        show Q_rmUne Z x h0 n0 _ s₁.heap _
        rw [e0]
        exact ⟨by unfold own_une; rw [if_neg hs1_34, if_neg hs1_39, if_pos hs1_92], N0, rfl⟩
      · have hn1_92 := hs1_92
        by_cases hs1_98 : x = (98 : Int32)
        · refine own_go (fun t => Stand.lookupswitchHit X0 hx (g := (mkF m 1 #[.val (.int x)] [(.int x)])) rfl rfl (hb hby d2_1) (by decide) (a := 98) (off := 80) (by rw [hs1_98]; decide) (show (0 : Int) ≤ ((1 : Nat) : Int) + 80 by decide) t) ?_
          show own_Ends p e below s₁ (mkF m 81 #[.val (.int x)] []) _
          refine own_go (fun _ => XS.bipush X0.here hx rfl (hb hby d2_81)) ?_
          show own_Ends p e below s₁ (mkF m 83 #[.val (.int x)] [(.int (8 : Int32))]) _
          refine own_go (fun _ => XS.goto X0.here hx rfl (pc0 := 83) (pc' := 106) rfl (hb hby d2_83) (by decide) (by decide)) ?_
          show own_Ends p e below s₁ (mkF m 106 #[.val (.int x)] [(.int (8 : Int32))]) _
          obtain ⟨fs, hr, hrun, hended, hW, hsame⟩ := X0.leave (v := some (.int (8 : Int32))) (fun h => by rw [Bd.returns] at h; cases h)
          refine ⟨_, _, retI X0 hx Bd.returns (hb hby d2_106) hr, hrun, hended, _, _, rfl, ?_, ⟨_, rfl⟩, hW, hsame.mono (by decide) (by decide)⟩
          show Q_rmUne Z x h0 n0 _ s₁.heap _
          rw [e0]
          exact ⟨by unfold own_une; rw [if_neg hs1_34, if_neg hs1_39, if_neg hs1_92, if_pos hs1_98], N0, rfl⟩
        · have hn1_98 := hs1_98
          by_cases hs1_102 : x = (102 : Int32)
          · refine own_go (fun t => Stand.lookupswitchHit X0 hx (g := (mkF m 1 #[.val (.int x)] [(.int x)])) rfl rfl (hb hby d2_1) (by decide) (a := 102) (off := 95) (by rw [hs1_102]; decide) (show (0 : Int) ≤ ((1 : Nat) : Int) + 95 by decide) t) ?_
            show own_Ends p e below s₁ (mkF m 96 #[.val (.int x)] []) _
            refine own_go (fun _ => XS.bipush X0.here hx rfl (hb hby d2_96)) ?_
            show own_Ends p e below s₁ (mkF m 98 #[.val (.int x)] [(.int (12 : Int32))]) _
            refine own_go (fun _ => XS.goto X0.here hx rfl (pc0 := 98) (pc' := 106) rfl (hb hby d2_98) (by decide) (by decide)) ?_
            show own_Ends p e below s₁ (mkF m 106 #[.val (.int x)] [(.int (12 : Int32))]) _
            obtain ⟨fs, hr, hrun, hended, hW, hsame⟩ := X0.leave (v := some (.int (12 : Int32))) (fun h => by rw [Bd.returns] at h; cases h)
            refine ⟨_, _, retI X0 hx Bd.returns (hb hby d2_106) hr, hrun, hended, _, _, rfl, ?_, ⟨_, rfl⟩, hW, hsame.mono (by decide) (by decide)⟩
            show Q_rmUne Z x h0 n0 _ s₁.heap _
            rw [e0]
            exact ⟨by unfold own_une; rw [if_neg hs1_34, if_neg hs1_39, if_neg hs1_92, if_neg hs1_98, if_pos hs1_102], N0, rfl⟩
          · have hn1_102 := hs1_102
            by_cases hs1_110 : x = (110 : Int32)
            · refine own_go (fun t => Stand.lookupswitchHit X0 hx (g := (mkF m 1 #[.val (.int x)] [(.int x)])) rfl rfl (hb hby d2_1) (by decide) (a := 110) (off := 85) (by rw [hs1_110]; decide) (show (0 : Int) ≤ ((1 : Nat) : Int) + 85 by decide) t) ?_
              show own_Ends p e below s₁ (mkF m 86 #[.val (.int x)] []) _
              refine own_go (fun _ => XS.bipush X0.here hx rfl (hb hby d2_86)) ?_
              show own_Ends p e below s₁ (mkF m 88 #[.val (.int x)] [(.int (10 : Int32))]) _
              refine own_go (fun _ => XS.goto X0.here hx rfl (pc0 := 88) (pc' := 106) rfl (hb hby d2_88) (by decide) (by decide)) ?_
              show own_Ends p e below s₁ (mkF m 106 #[.val (.int x)] [(.int (10 : Int32))]) _
              obtain ⟨fs, hr, hrun, hended, hW, hsame⟩ := X0.leave (v := some (.int (10 : Int32))) (fun h => by rw [Bd.returns] at h; cases h)
              refine ⟨_, _, retI X0 hx Bd.returns (hb hby d2_106) hr, hrun, hended, _, _, rfl, ?_, ⟨_, rfl⟩, hW, hsame.mono (by decide) (by decide)⟩
              show Q_rmUne Z x h0 n0 _ s₁.heap _
              rw [e0]
              exact ⟨by unfold own_une; rw [if_neg hs1_34, if_neg hs1_39, if_neg hs1_92, if_neg hs1_98, if_neg hs1_102, if_pos hs1_110], N0, rfl⟩
            · have hn1_110 := hs1_110
              by_cases hs1_114 : x = (114 : Int32)
              · refine own_go (fun t => Stand.lookupswitchHit X0 hx (g := (mkF m 1 #[.val (.int x)] [(.int x)])) rfl rfl (hb hby d2_1) (by decide) (a := 114) (off := 90) (by rw [hs1_114]; decide) (show (0 : Int) ≤ ((1 : Nat) : Int) + 90 by decide) t) ?_
                show own_Ends p e below s₁ (mkF m 91 #[.val (.int x)] []) _
                refine own_go (fun _ => XS.bipush X0.here hx rfl (hb hby d2_91)) ?_
                show own_Ends p e below s₁ (mkF m 93 #[.val (.int x)] [(.int (13 : Int32))]) _
                refine own_go (fun _ => XS.goto X0.here hx rfl (pc0 := 93) (pc' := 106) rfl (hb hby d2_93) (by decide) (by decide)) ?_
                show own_Ends p e below s₁ (mkF m 106 #[.val (.int x)] [(.int (13 : Int32))]) _
                obtain ⟨fs, hr, hrun, hended, hW, hsame⟩ := X0.leave (v := some (.int (13 : Int32))) (fun h => by rw [Bd.returns] at h; cases h)
                refine ⟨_, _, retI X0 hx Bd.returns (hb hby d2_106) hr, hrun, hended, _, _, rfl, ?_, ⟨_, rfl⟩, hW, hsame.mono (by decide) (by decide)⟩
                show Q_rmUne Z x h0 n0 _ s₁.heap _
                rw [e0]
                exact ⟨by unfold own_une; rw [if_neg hs1_34, if_neg hs1_39, if_neg hs1_92, if_neg hs1_98, if_neg hs1_102, if_neg hs1_110, if_pos hs1_114], N0, rfl⟩
              · have hn1_114 := hs1_114
                by_cases hs1_116 : x = (116 : Int32)
                · refine own_go (fun t => Stand.lookupswitchHit X0 hx (g := (mkF m 1 #[.val (.int x)] [(.int x)])) rfl rfl (hb hby d2_1) (by decide) (a := 116) (off := 75) (by rw [hs1_116]; decide) (show (0 : Int) ≤ ((1 : Nat) : Int) + 75 by decide) t) ?_
                  show own_Ends p e below s₁ (mkF m 76 #[.val (.int x)] []) _
                  refine own_go (fun _ => XS.bipush X0.here hx rfl (hb hby d2_76)) ?_
                  show own_Ends p e below s₁ (mkF m 78 #[.val (.int x)] [(.int (9 : Int32))]) _
                  refine own_go (fun _ => XS.goto X0.here hx rfl (pc0 := 78) (pc' := 106) rfl (hb hby d2_78) (by decide) (by decide)) ?_
                  show own_Ends p e below s₁ (mkF m 106 #[.val (.int x)] [(.int (9 : Int32))]) _
                  obtain ⟨fs, hr, hrun, hended, hW, hsame⟩ := X0.leave (v := some (.int (9 : Int32))) (fun h => by rw [Bd.returns] at h; cases h)
                  refine ⟨_, _, retI X0 hx Bd.returns (hb hby d2_106) hr, hrun, hended, _, _, rfl, ?_, ⟨_, rfl⟩, hW, hsame.mono (by decide) (by decide)⟩
                  show Q_rmUne Z x h0 n0 _ s₁.heap _
                  rw [e0]
                  exact ⟨by unfold own_une; rw [if_neg hs1_34, if_neg hs1_39, if_neg hs1_92, if_neg hs1_98, if_neg hs1_102, if_neg hs1_110, if_neg hs1_114, if_pos hs1_116], N0, rfl⟩
                · have hn1_116 := hs1_116
                  refine own_go (fun t => Stand.lookupswitchMiss X0 hx (g := (mkF m 1 #[.val (.int x)] [(.int x)])) rfl rfl (hb hby d2_1) (by decide) (find_miss (by simp only [List.mem_cons, List.not_mem_nil, or_false, forall_eq_or_imp, forall_eq, ne_eq]; exact ⟨fun q => hs1_34 (Int32.toInt_inj.mp q.symm), fun q => hs1_39 (Int32.toInt_inj.mp q.symm), fun q => hs1_92 (Int32.toInt_inj.mp q.symm), fun q => hs1_98 (Int32.toInt_inj.mp q.symm), fun q => hs1_102 (Int32.toInt_inj.mp q.symm), fun q => hs1_110 (Int32.toInt_inj.mp q.symm), fun q => hs1_114 (Int32.toInt_inj.mp q.symm), fun q => hs1_116 (Int32.toInt_inj.mp q.symm)⟩)) (show (0 : Int) ≤ ((1 : Nat) : Int) + 104 by decide) t) ?_
                  show own_Ends p e below s₁ (mkF m 105 #[.val (.int x)] []) _
                  refine own_go (fun _ => XS.iconst X0.here hx rfl (hb hby d2_105)) ?_
                  show own_Ends p e below s₁ (mkF m 106 #[.val (.int x)] [(.int (-1 : Int32))]) _
                  obtain ⟨fs, hr, hrun, hended, hW, hsame⟩ := X0.leave (v := some (.int (-1 : Int32))) (fun h => by rw [Bd.returns] at h; cases h)
                  refine ⟨_, _, retI X0 hx Bd.returns (hb hby d2_106) hr, hrun, hended, _, _, rfl, ?_, ⟨_, rfl⟩, hW, hsame.mono (by decide) (by decide)⟩
                  show Q_rmUne Z x h0 n0 _ s₁.heap _
                  rw [e0]
                  exact ⟨by unfold own_une; rw [if_neg hs1_34, if_neg hs1_39, if_neg hs1_92, if_neg hs1_98, if_neg hs1_102, if_neg hs1_110, if_neg hs1_114, if_neg hs1_116], N0, rfl⟩
theorem pn_0 : plainName "com/example/graphtide/graphtide/rdf/CharClassesUnescapePinLaw" = true := by first | (simp [plainName, overriddenIn]; done) | decide +kernel
theorem ef_0 (m : MethodId) (p0 : Int32) (p1 : Int32) : entryFrame m #[(.int p0), (.int p1)] maxLocals = mkF m 0 #[.val (.int p0), .val (.int p1), .unset, .unset, .unset, .unset, .unset] [] := by first | (simp [entryFrame, mkF, argsToLocals, Value.category, maxLocals]; done) | rfl
def Q_rm0 (Z : State) (p0 : Int32) (p1 : Int32) (h0 : Heap) (n0 : Nat) (v : Option Value) (h : Heap) (L : List Loc) : Prop := v = some (.int 1) ∧ Fr n0 L
theorem pd_0 : parseMethodDescriptor "([II)I" = some ⟨[(.array .int), .int], some .int⟩ := by decide +kernel
theorem pd_1 : parseMethodDescriptor "(I)I" = some ⟨[.int], some .int⟩ := by decide +kernel
set_option maxRecDepth 65536 in
set_option maxHeartbeats 40000000 in
theorem rm0 (l : Launch) (Z : State) (a0 : Array Value) (hw : ∀ d ∈ tables_1, d.before a0 Z = true) (ws : List Jvm.Cond) (p0 : Int32) (p1 : Int32) (h0 : Heap) (n0 : Nat) (Z0 : n0 ≤ h0.size) :
    MetFree l x (head1 (Jvm.Cond.code x code maxLocals ret :: ws) room_1) (fun aa U => aa = #[(.int p0), (.int p1)] ∧ Z.Warmed39 U.vm ∧ U.heap = h0) (fun _ _ _ _ _ => True) (fun _ U ou U' => ∃ v L, ou = .returned v ∧ Q_rm0 Z p0 p1 h0 n0 v U'.heap L ∧ FrameEnd U ou U' L room_1.cells room_1.slots) := by
  refine MetFree.of_bodySF (plainFor_of_name pn_0) hisR ?_
  intro p e s m args below meth c s₁ Bd hml0 hP hK
  obtain ⟨rfl, hZ, hh⟩ := hP
  have hx := Bd.exec
  have hby := Bd.bytes
  have hml : c.maxLocals = 7 := hml0
  have hown : s.vm.findClass "com/example/graphtide/graphtide/rdf/CharClassesUnescapePinLaw" = some m.cls := findClass_of_methodNamed Bd.named
  have hnm := (name_of_methodNamed Bd.named Bd.method).1
  have X0 : Stand p l e room_1 s m #[(.int p0), (.int p1)] below meth c s₁ [] 0 0 := Stand.of_body Bd
  have e0 : s₁.heap = h0 := by rw [← hh, Bd.state]; rfl
  have N0 := Fr.nil n0
  have K0 := Keep.refl h0 []
  refine own_as (ef_0 m p0 p1) ?_
  show own_Ends p e below s₁ (mkF m 0 #[.val (.int p0), .val (.int p1), .unset, .unset, .unset, .unset, .unset] []) _
  refine own_go (fun _ => XS.bipush X0.here hx rfl (hb hby at_0)) ?_
  show own_Ends p e below s₁ (mkF m 2 #[.val (.int p0), .val (.int p1), .unset, .unset, .unset, .unset, .unset] [(.int (8 : Int32))]) _
  obtain ⟨T1, h1, k1, X1, e1, E1, A1, st1⟩ := newP X0 hx hZ (hw _ (List.mem_of_getElem? (i := 0) rfl)) e0 (g := (mkF m 2 #[.val (.int p0), .val (.int p1), .unset, .unset, .unset, .unset, .unset] [(.int (8 : Int32))])) rfl (hb hby at_2) rfl (by decide) (cap := 8) (by decide) (by decide) (by decide) (by decide)
  obtain ⟨b1, g1⟩ : ∃ z, z = h0.size := ⟨_, rfl⟩
  rw [← g1] at A1 st1
  refine own_go st1 ?_
  have g_b1 : n0 ≤ b1 := Nat.le_trans Z0 (Nat.le_of_eq g1.symm)
  have sz_b1 : h0.size ≤ b1 := Nat.le_trans K0.1 (Nat.le_of_eq g1.symm)
  have K1 := K0.ext E1
  have Z1 : n0 ≤ h1.size := Nat.le_trans Z0 K1.1
  have V_b1 : Arv Z h1 b1 k1 .int (8 : Int32) [(.int (0 : Int32)), (.int (0 : Int32)), (.int (0 : Int32)), (.int (0 : Int32)), (.int (0 : Int32)), (.int (0 : Int32)), (.int (0 : Int32)), (.int (0 : Int32))] (.int (0 : Int32)) := (Arv.new A1 (by decide)).pad (pad_rep [] (.int (0 : Int32)) 8)
  show own_Ends p e below T1 (mkF m 4 #[.val (.int p0), .val (.int p1), .unset, .unset, .unset, .unset, .unset] [(.ref b1)]) _
  refine own_go (fun _ => XS.dup X1.here hx rfl (hb hby at_4) rfl rfl) ?_
  show own_Ends p e below T1 (mkF m 5 #[.val (.int p0), .val (.int p1), .unset, .unset, .unset, .unset, .unset] [(.ref b1), (.ref b1)]) _
  refine own_go (fun _ => XS.iconst X1.here hx rfl (hb hby at_5)) ?_
  show own_Ends p e below T1 (mkF m 6 #[.val (.int p0), .val (.int p1), .unset, .unset, .unset, .unset, .unset] [(.int (0 : Int32)), (.ref b1), (.ref b1)]) _
  refine own_go (fun _ => XS.bipush X1.here hx rfl (hb hby at_6)) ?_
  show own_Ends p e below T1 (mkF m 8 #[.val (.int p0), .val (.int p1), .unset, .unset, .unset, .unset, .unset] [(.int (116 : Int32)), (.int (0 : Int32)), (.ref b1), (.ref b1)]) _
  obtain ⟨cl_2, Ar_2, q_2, S_2, M_2, H_2, G_2⟩ := V_b1
  have hin2 : ¬ ((0 : Int32) < 0 ∨ cl_2.slots.size ≤ ((0 : Int32)).toNatClampNeg) := inb_of S_2 ⟨by decide, by decide⟩
  obtain ⟨T2, h2, X2, e2, W2, st2⟩ := stI X1 hx hZ e1 Ar_2 (j := (0 : Int32)) hin2 (g := (mkF m 8 #[.val (.int p0), .val (.int p1), .unset, .unset, .unset, .unset, .unset] [(.int (116 : Int32)), (.int (0 : Int32)), (.ref b1), (.ref b1)])) rfl rfl (hb hby at_8)
  refine own_go st2 ?_
  have V_b1_2 : Arv Z h2 b1 k1 .int (8 : Int32) [(.int (116 : Int32)), (.int (0 : Int32)), (.int (0 : Int32)), (.int (0 : Int32)), (.int (0 : Int32)), (.int (0 : Int32)), (.int (0 : Int32)), (.int (0 : Int32))] (.int (0 : Int32)) := Arv.set Ar_2 q_2 S_2 M_2 H_2 G_2 rfl W2 0 rfl (Nat.le_of_ble_eq_true rfl)
  have N2 := Fr.snoc X2 N0 g_b1
  have K2 := K1.wr W2 (Or.inr sz_b1)
  have Z2 : n0 ≤ h2.size := Nat.le_trans Z0 K2.1
  show own_Ends p e below T2 (mkF m 9 #[.val (.int p0), .val (.int p1), .unset, .unset, .unset, .unset, .unset] [(.ref b1)]) _
  refine own_go (fun _ => XS.dup X2.here hx rfl (hb hby at_9) rfl rfl) ?_
  show own_Ends p e below T2 (mkF m 10 #[.val (.int p0), .val (.int p1), .unset, .unset, .unset, .unset, .unset] [(.ref b1), (.ref b1)]) _
  refine own_go (fun _ => XS.iconst X2.here hx rfl (hb hby at_10)) ?_
  show own_Ends p e below T2 (mkF m 11 #[.val (.int p0), .val (.int p1), .unset, .unset, .unset, .unset, .unset] [(.int (1 : Int32)), (.ref b1), (.ref b1)]) _
  refine own_go (fun _ => XS.bipush X2.here hx rfl (hb hby at_11)) ?_
  show own_Ends p e below T2 (mkF m 13 #[.val (.int p0), .val (.int p1), .unset, .unset, .unset, .unset, .unset] [(.int (98 : Int32)), (.int (1 : Int32)), (.ref b1), (.ref b1)]) _
  obtain ⟨cl_3, Ar_3, q_3, S_3, M_3, H_3, G_3⟩ := V_b1_2
  have hin3 : ¬ ((1 : Int32) < 0 ∨ cl_3.slots.size ≤ ((1 : Int32)).toNatClampNeg) := inb_of S_3 ⟨by decide, by decide⟩
  obtain ⟨T3, h3, X3, e3, W3, st3⟩ := stI X2 hx hZ e2 Ar_3 (j := (1 : Int32)) hin3 (g := (mkF m 13 #[.val (.int p0), .val (.int p1), .unset, .unset, .unset, .unset, .unset] [(.int (98 : Int32)), (.int (1 : Int32)), (.ref b1), (.ref b1)])) rfl rfl (hb hby at_13)
  refine own_go st3 ?_
  have V_b1_3 : Arv Z h3 b1 k1 .int (8 : Int32) [(.int (116 : Int32)), (.int (98 : Int32)), (.int (0 : Int32)), (.int (0 : Int32)), (.int (0 : Int32)), (.int (0 : Int32)), (.int (0 : Int32)), (.int (0 : Int32))] (.int (0 : Int32)) := Arv.set Ar_3 q_3 S_3 M_3 H_3 G_3 rfl W3 1 rfl (Nat.le_of_ble_eq_true rfl)
  have N3 := Fr.snoc X3 N2 g_b1
  have K3 := K2.wr W3 (Or.inr sz_b1)
  have Z3 : n0 ≤ h3.size := Nat.le_trans Z0 K3.1
  show own_Ends p e below T3 (mkF m 14 #[.val (.int p0), .val (.int p1), .unset, .unset, .unset, .unset, .unset] [(.ref b1)]) _
  refine own_go (fun _ => XS.dup X3.here hx rfl (hb hby at_14) rfl rfl) ?_
  show own_Ends p e below T3 (mkF m 15 #[.val (.int p0), .val (.int p1), .unset, .unset, .unset, .unset, .unset] [(.ref b1), (.ref b1)]) _
  refine own_go (fun _ => XS.iconst X3.here hx rfl (hb hby at_15)) ?_
  show own_Ends p e below T3 (mkF m 16 #[.val (.int p0), .val (.int p1), .unset, .unset, .unset, .unset, .unset] [(.int (2 : Int32)), (.ref b1), (.ref b1)]) _
  refine own_go (fun _ => XS.bipush X3.here hx rfl (hb hby at_16)) ?_
  show own_Ends p e below T3 (mkF m 18 #[.val (.int p0), .val (.int p1), .unset, .unset, .unset, .unset, .unset] [(.int (110 : Int32)), (.int (2 : Int32)), (.ref b1), (.ref b1)]) _
  obtain ⟨cl_4, Ar_4, q_4, S_4, M_4, H_4, G_4⟩ := V_b1_3
  have hin4 : ¬ ((2 : Int32) < 0 ∨ cl_4.slots.size ≤ ((2 : Int32)).toNatClampNeg) := inb_of S_4 ⟨by decide, by decide⟩
  obtain ⟨T4, h4, X4, e4, W4, st4⟩ := stI X3 hx hZ e3 Ar_4 (j := (2 : Int32)) hin4 (g := (mkF m 18 #[.val (.int p0), .val (.int p1), .unset, .unset, .unset, .unset, .unset] [(.int (110 : Int32)), (.int (2 : Int32)), (.ref b1), (.ref b1)])) rfl rfl (hb hby at_18)
  refine own_go st4 ?_
  have V_b1_4 : Arv Z h4 b1 k1 .int (8 : Int32) [(.int (116 : Int32)), (.int (98 : Int32)), (.int (110 : Int32)), (.int (0 : Int32)), (.int (0 : Int32)), (.int (0 : Int32)), (.int (0 : Int32)), (.int (0 : Int32))] (.int (0 : Int32)) := Arv.set Ar_4 q_4 S_4 M_4 H_4 G_4 rfl W4 2 rfl (Nat.le_of_ble_eq_true rfl)
  have N4 := Fr.snoc X4 N3 g_b1
  have K4 := K3.wr W4 (Or.inr sz_b1)
  have Z4 : n0 ≤ h4.size := Nat.le_trans Z0 K4.1
  show own_Ends p e below T4 (mkF m 19 #[.val (.int p0), .val (.int p1), .unset, .unset, .unset, .unset, .unset] [(.ref b1)]) _
  refine own_go (fun _ => XS.dup X4.here hx rfl (hb hby at_19) rfl rfl) ?_
  show own_Ends p e below T4 (mkF m 20 #[.val (.int p0), .val (.int p1), .unset, .unset, .unset, .unset, .unset] [(.ref b1), (.ref b1)]) _
  refine own_go (fun _ => XS.iconst X4.here hx rfl (hb hby at_20)) ?_
  show own_Ends p e below T4 (mkF m 21 #[.val (.int p0), .val (.int p1), .unset, .unset, .unset, .unset, .unset] [(.int (3 : Int32)), (.ref b1), (.ref b1)]) _
  refine own_go (fun _ => XS.bipush X4.here hx rfl (hb hby at_21)) ?_
  show own_Ends p e below T4 (mkF m 23 #[.val (.int p0), .val (.int p1), .unset, .unset, .unset, .unset, .unset] [(.int (114 : Int32)), (.int (3 : Int32)), (.ref b1), (.ref b1)]) _
  obtain ⟨cl_5, Ar_5, q_5, S_5, M_5, H_5, G_5⟩ := V_b1_4
  have hin5 : ¬ ((3 : Int32) < 0 ∨ cl_5.slots.size ≤ ((3 : Int32)).toNatClampNeg) := inb_of S_5 ⟨by decide, by decide⟩
  obtain ⟨T5, h5, X5, e5, W5, st5⟩ := stI X4 hx hZ e4 Ar_5 (j := (3 : Int32)) hin5 (g := (mkF m 23 #[.val (.int p0), .val (.int p1), .unset, .unset, .unset, .unset, .unset] [(.int (114 : Int32)), (.int (3 : Int32)), (.ref b1), (.ref b1)])) rfl rfl (hb hby at_23)
  refine own_go st5 ?_
  have V_b1_5 : Arv Z h5 b1 k1 .int (8 : Int32) [(.int (116 : Int32)), (.int (98 : Int32)), (.int (110 : Int32)), (.int (114 : Int32)), (.int (0 : Int32)), (.int (0 : Int32)), (.int (0 : Int32)), (.int (0 : Int32))] (.int (0 : Int32)) := Arv.set Ar_5 q_5 S_5 M_5 H_5 G_5 rfl W5 3 rfl (Nat.le_of_ble_eq_true rfl)
  have N5 := Fr.snoc X5 N4 g_b1
  have K5 := K4.wr W5 (Or.inr sz_b1)
  have Z5 : n0 ≤ h5.size := Nat.le_trans Z0 K5.1
  show own_Ends p e below T5 (mkF m 24 #[.val (.int p0), .val (.int p1), .unset, .unset, .unset, .unset, .unset] [(.ref b1)]) _
  refine own_go (fun _ => XS.dup X5.here hx rfl (hb hby at_24) rfl rfl) ?_
  show own_Ends p e below T5 (mkF m 25 #[.val (.int p0), .val (.int p1), .unset, .unset, .unset, .unset, .unset] [(.ref b1), (.ref b1)]) _
  refine own_go (fun _ => XS.iconst X5.here hx rfl (hb hby at_25)) ?_
  show own_Ends p e below T5 (mkF m 26 #[.val (.int p0), .val (.int p1), .unset, .unset, .unset, .unset, .unset] [(.int (4 : Int32)), (.ref b1), (.ref b1)]) _
  refine own_go (fun _ => XS.bipush X5.here hx rfl (hb hby at_26)) ?_
  show own_Ends p e below T5 (mkF m 28 #[.val (.int p0), .val (.int p1), .unset, .unset, .unset, .unset, .unset] [(.int (102 : Int32)), (.int (4 : Int32)), (.ref b1), (.ref b1)]) _
  obtain ⟨cl_6, Ar_6, q_6, S_6, M_6, H_6, G_6⟩ := V_b1_5
  have hin6 : ¬ ((4 : Int32) < 0 ∨ cl_6.slots.size ≤ ((4 : Int32)).toNatClampNeg) := inb_of S_6 ⟨by decide, by decide⟩
  obtain ⟨T6, h6, X6, e6, W6, st6⟩ := stI X5 hx hZ e5 Ar_6 (j := (4 : Int32)) hin6 (g := (mkF m 28 #[.val (.int p0), .val (.int p1), .unset, .unset, .unset, .unset, .unset] [(.int (102 : Int32)), (.int (4 : Int32)), (.ref b1), (.ref b1)])) rfl rfl (hb hby at_28)
  refine own_go st6 ?_
  have V_b1_6 : Arv Z h6 b1 k1 .int (8 : Int32) [(.int (116 : Int32)), (.int (98 : Int32)), (.int (110 : Int32)), (.int (114 : Int32)), (.int (102 : Int32)), (.int (0 : Int32)), (.int (0 : Int32)), (.int (0 : Int32))] (.int (0 : Int32)) := Arv.set Ar_6 q_6 S_6 M_6 H_6 G_6 rfl W6 4 rfl (Nat.le_of_ble_eq_true rfl)
  have N6 := Fr.snoc X6 N5 g_b1
  have K6 := K5.wr W6 (Or.inr sz_b1)
  have Z6 : n0 ≤ h6.size := Nat.le_trans Z0 K6.1
  show own_Ends p e below T6 (mkF m 29 #[.val (.int p0), .val (.int p1), .unset, .unset, .unset, .unset, .unset] [(.ref b1)]) _
  refine own_go (fun _ => XS.dup X6.here hx rfl (hb hby at_29) rfl rfl) ?_
  show own_Ends p e below T6 (mkF m 30 #[.val (.int p0), .val (.int p1), .unset, .unset, .unset, .unset, .unset] [(.ref b1), (.ref b1)]) _
  refine own_go (fun _ => XS.iconst X6.here hx rfl (hb hby at_30)) ?_
  show own_Ends p e below T6 (mkF m 31 #[.val (.int p0), .val (.int p1), .unset, .unset, .unset, .unset, .unset] [(.int (5 : Int32)), (.ref b1), (.ref b1)]) _
  refine own_go (fun _ => XS.bipush X6.here hx rfl (hb hby at_31)) ?_
  show own_Ends p e below T6 (mkF m 33 #[.val (.int p0), .val (.int p1), .unset, .unset, .unset, .unset, .unset] [(.int (34 : Int32)), (.int (5 : Int32)), (.ref b1), (.ref b1)]) _
  obtain ⟨cl_7, Ar_7, q_7, S_7, M_7, H_7, G_7⟩ := V_b1_6
  have hin7 : ¬ ((5 : Int32) < 0 ∨ cl_7.slots.size ≤ ((5 : Int32)).toNatClampNeg) := inb_of S_7 ⟨by decide, by decide⟩
  obtain ⟨T7, h7, X7, e7, W7, st7⟩ := stI X6 hx hZ e6 Ar_7 (j := (5 : Int32)) hin7 (g := (mkF m 33 #[.val (.int p0), .val (.int p1), .unset, .unset, .unset, .unset, .unset] [(.int (34 : Int32)), (.int (5 : Int32)), (.ref b1), (.ref b1)])) rfl rfl (hb hby at_33)
  refine own_go st7 ?_
  have V_b1_7 : Arv Z h7 b1 k1 .int (8 : Int32) [(.int (116 : Int32)), (.int (98 : Int32)), (.int (110 : Int32)), (.int (114 : Int32)), (.int (102 : Int32)), (.int (34 : Int32)), (.int (0 : Int32)), (.int (0 : Int32))] (.int (0 : Int32)) := Arv.set Ar_7 q_7 S_7 M_7 H_7 G_7 rfl W7 5 rfl (Nat.le_of_ble_eq_true rfl)
  have N7 := Fr.snoc X7 N6 g_b1
  have K7 := K6.wr W7 (Or.inr sz_b1)
  have Z7 : n0 ≤ h7.size := Nat.le_trans Z0 K7.1
  show own_Ends p e below T7 (mkF m 34 #[.val (.int p0), .val (.int p1), .unset, .unset, .unset, .unset, .unset] [(.ref b1)]) _
  refine own_go (fun _ => XS.dup X7.here hx rfl (hb hby at_34) rfl rfl) ?_
  show own_Ends p e below T7 (mkF m 35 #[.val (.int p0), .val (.int p1), .unset, .unset, .unset, .unset, .unset] [(.ref b1), (.ref b1)]) _
  refine own_go (fun _ => XS.bipush X7.here hx rfl (hb hby at_35)) ?_
  show own_Ends p e below T7 (mkF m 37 #[.val (.int p0), .val (.int p1), .unset, .unset, .unset, .unset, .unset] [(.int (6 : Int32)), (.ref b1), (.ref b1)]) _
  refine own_go (fun _ => XS.bipush X7.here hx rfl (hb hby at_37)) ?_
  show own_Ends p e below T7 (mkF m 39 #[.val (.int p0), .val (.int p1), .unset, .unset, .unset, .unset, .unset] [(.int (39 : Int32)), (.int (6 : Int32)), (.ref b1), (.ref b1)]) _
  obtain ⟨cl_8, Ar_8, q_8, S_8, M_8, H_8, G_8⟩ := V_b1_7
  have hin8 : ¬ ((6 : Int32) < 0 ∨ cl_8.slots.size ≤ ((6 : Int32)).toNatClampNeg) := inb_of S_8 ⟨by decide, by decide⟩
  obtain ⟨T8, h8, X8, e8, W8, st8⟩ := stI X7 hx hZ e7 Ar_8 (j := (6 : Int32)) hin8 (g := (mkF m 39 #[.val (.int p0), .val (.int p1), .unset, .unset, .unset, .unset, .unset] [(.int (39 : Int32)), (.int (6 : Int32)), (.ref b1), (.ref b1)])) rfl rfl (hb hby at_39)
  refine own_go st8 ?_
  have V_b1_8 : Arv Z h8 b1 k1 .int (8 : Int32) [(.int (116 : Int32)), (.int (98 : Int32)), (.int (110 : Int32)), (.int (114 : Int32)), (.int (102 : Int32)), (.int (34 : Int32)), (.int (39 : Int32)), (.int (0 : Int32))] (.int (0 : Int32)) := Arv.set Ar_8 q_8 S_8 M_8 H_8 G_8 rfl W8 6 rfl (Nat.le_of_ble_eq_true rfl)
  have N8 := Fr.snoc X8 N7 g_b1
  have K8 := K7.wr W8 (Or.inr sz_b1)
  have Z8 : n0 ≤ h8.size := Nat.le_trans Z0 K8.1
  show own_Ends p e below T8 (mkF m 40 #[.val (.int p0), .val (.int p1), .unset, .unset, .unset, .unset, .unset] [(.ref b1)]) _
  refine own_go (fun _ => XS.dup X8.here hx rfl (hb hby at_40) rfl rfl) ?_
  show own_Ends p e below T8 (mkF m 41 #[.val (.int p0), .val (.int p1), .unset, .unset, .unset, .unset, .unset] [(.ref b1), (.ref b1)]) _
  refine own_go (fun _ => XS.bipush X8.here hx rfl (hb hby at_41)) ?_
  show own_Ends p e below T8 (mkF m 43 #[.val (.int p0), .val (.int p1), .unset, .unset, .unset, .unset, .unset] [(.int (7 : Int32)), (.ref b1), (.ref b1)]) _
  refine own_go (fun _ => XS.bipush X8.here hx rfl (hb hby at_43)) ?_
  show own_Ends p e below T8 (mkF m 45 #[.val (.int p0), .val (.int p1), .unset, .unset, .unset, .unset, .unset] [(.int (92 : Int32)), (.int (7 : Int32)), (.ref b1), (.ref b1)]) _
  obtain ⟨cl_9, Ar_9, q_9, S_9, M_9, H_9, G_9⟩ := V_b1_8
  have hin9 : ¬ ((7 : Int32) < 0 ∨ cl_9.slots.size ≤ ((7 : Int32)).toNatClampNeg) := inb_of S_9 ⟨by decide, by decide⟩
  obtain ⟨T9, h9, X9, e9, W9, st9⟩ := stI X8 hx hZ e8 Ar_9 (j := (7 : Int32)) hin9 (g := (mkF m 45 #[.val (.int p0), .val (.int p1), .unset, .unset, .unset, .unset, .unset] [(.int (92 : Int32)), (.int (7 : Int32)), (.ref b1), (.ref b1)])) rfl rfl (hb hby at_45)
  refine own_go st9 ?_
  have V_b1_9 : Arv Z h9 b1 k1 .int (8 : Int32) [(.int (116 : Int32)), (.int (98 : Int32)), (.int (110 : Int32)), (.int (114 : Int32)), (.int (102 : Int32)), (.int (34 : Int32)), (.int (39 : Int32)), (.int (92 : Int32))] (.int (0 : Int32)) := Arv.set Ar_9 q_9 S_9 M_9 H_9 G_9 rfl W9 7 rfl (Nat.le_of_ble_eq_true rfl)
  have N9 := Fr.snoc X9 N8 g_b1
  have K9 := K8.wr W9 (Or.inr sz_b1)
  have Z9 : n0 ≤ h9.size := Nat.le_trans Z0 K9.1
  show own_Ends p e below T9 (mkF m 46 #[.val (.int p0), .val (.int p1), .unset, .unset, .unset, .unset, .unset] [(.ref b1)]) _
  refine own_go (fun _ => XS.astoreN X9.here hx rfl (hb hby at_46) rfl rfl (l' := #[.val (.int p0), .val (.int p1), .val (.ref b1), .unset, .unset, .unset, .unset]) rfl) ?_
  show own_Ends p e below T9 (mkF m 47 #[.val (.int p0), .val (.int p1), .val (.ref b1), .unset, .unset, .unset, .unset] []) _
  refine own_go (fun _ => XS.bipush X9.here hx rfl (hb hby at_47)) ?_
  show own_Ends p e below T9 (mkF m 49 #[.val (.int p0), .val (.int p1), .val (.ref b1), .unset, .unset, .unset, .unset] [(.int (8 : Int32))]) _
  obtain ⟨T10, h10, k10, X10, e10, E10, A10, st10⟩ := newP X9 hx hZ (hw _ (List.mem_of_getElem? (i := 0) rfl)) e9 (g := (mkF m 49 #[.val (.int p0), .val (.int p1), .val (.ref b1), .unset, .unset, .unset, .unset] [(.int (8 : Int32))])) rfl (hb hby at_49) rfl (by decide) (cap := 8) (by decide) (by decide) (by decide) (by decide)
  obtain ⟨b10, g10⟩ : ∃ z, z = h9.size := ⟨_, rfl⟩
  rw [← g10] at A10 st10
  refine own_go st10 ?_
  have g_b10 : n0 ≤ b10 := Nat.le_trans Z9 (Nat.le_of_eq g10.symm)
  have sz_b10 : h0.size ≤ b10 := Nat.le_trans K9.1 (Nat.le_of_eq g10.symm)
  have ne_b1_b10 : b1 ≠ b10 := Nat.ne_of_lt (Nat.lt_of_lt_of_le V_b1_9.lt (Nat.le_of_eq g10.symm))
  replace V_b1_9 := V_b1_9.ext E10
  have K10 := K9.ext E10
  have Z10 : n0 ≤ h10.size := Nat.le_trans Z0 K10.1
  have V_b10 : Arv Z h10 b10 k10 .int (8 : Int32) [(.int (0 : Int32)), (.int (0 : Int32)), (.int (0 : Int32)), (.int (0 : Int32)), (.int (0 : Int32)), (.int (0 : Int32)), (.int (0 : Int32)), (.int (0 : Int32))] (.int (0 : Int32)) := (Arv.new A10 (by decide)).pad (pad_rep [] (.int (0 : Int32)) 8)
  show own_Ends p e below T10 (mkF m 51 #[.val (.int p0), .val (.int p1), .val (.ref b1), .unset, .unset, .unset, .unset] [(.ref b10)]) _
  refine own_go (fun _ => XS.dup X10.here hx rfl (hb hby at_51) rfl rfl) ?_
  show own_Ends p e below T10 (mkF m 52 #[.val (.int p0), .val (.int p1), .val (.ref b1), .unset, .unset, .unset, .unset] [(.ref b10), (.ref b10)]) _
  refine own_go (fun _ => XS.iconst X10.here hx rfl (hb hby at_52)) ?_
  show own_Ends p e below T10 (mkF m 53 #[.val (.int p0), .val (.int p1), .val (.ref b1), .unset, .unset, .unset, .unset] [(.int (0 : Int32)), (.ref b10), (.ref b10)]) _
  refine own_go (fun _ => XS.bipush X10.here hx rfl (hb hby at_53)) ?_
  show own_Ends p e below T10 (mkF m 55 #[.val (.int p0), .val (.int p1), .val (.ref b1), .unset, .unset, .unset, .unset] [(.int (9 : Int32)), (.int (0 : Int32)), (.ref b10), (.ref b10)]) _
  obtain ⟨cl_11, Ar_11, q_11, S_11, M_11, H_11, G_11⟩ := V_b10
  have hin11 : ¬ ((0 : Int32) < 0 ∨ cl_11.slots.size ≤ ((0 : Int32)).toNatClampNeg) := inb_of S_11 ⟨by decide, by decide⟩
  obtain ⟨T11, h11, X11, e11, W11, st11⟩ := stI X10 hx hZ e10 Ar_11 (j := (0 : Int32)) hin11 (g := (mkF m 55 #[.val (.int p0), .val (.int p1), .val (.ref b1), .unset, .unset, .unset, .unset] [(.int (9 : Int32)), (.int (0 : Int32)), (.ref b10), (.ref b10)])) rfl rfl (hb hby at_55)
  refine own_go st11 ?_
  have V_b10_11 : Arv Z h11 b10 k10 .int (8 : Int32) [(.int (9 : Int32)), (.int (0 : Int32)), (.int (0 : Int32)), (.int (0 : Int32)), (.int (0 : Int32)), (.int (0 : Int32)), (.int (0 : Int32)), (.int (0 : Int32))] (.int (0 : Int32)) := Arv.set Ar_11 q_11 S_11 M_11 H_11 G_11 rfl W11 0 rfl (Nat.le_of_ble_eq_true rfl)
  replace V_b1_9 := V_b1_9.other W11 ne_b1_b10
  have N11 := Fr.snoc X11 N9 g_b10
  have K11 := K10.wr W11 (Or.inr sz_b10)
  have Z11 : n0 ≤ h11.size := Nat.le_trans Z0 K11.1
  show own_Ends p e below T11 (mkF m 56 #[.val (.int p0), .val (.int p1), .val (.ref b1), .unset, .unset, .unset, .unset] [(.ref b10)]) _
  refine own_go (fun _ => XS.dup X11.here hx rfl (hb hby at_56) rfl rfl) ?_
  show own_Ends p e below T11 (mkF m 57 #[.val (.int p0), .val (.int p1), .val (.ref b1), .unset, .unset, .unset, .unset] [(.ref b10), (.ref b10)]) _
  refine own_go (fun _ => XS.iconst X11.here hx rfl (hb hby at_57)) ?_
  show own_Ends p e below T11 (mkF m 58 #[.val (.int p0), .val (.int p1), .val (.ref b1), .unset, .unset, .unset, .unset] [(.int (1 : Int32)), (.ref b10), (.ref b10)]) _
  refine own_go (fun _ => XS.bipush X11.here hx rfl (hb hby at_58)) ?_
  show own_Ends p e below T11 (mkF m 60 #[.val (.int p0), .val (.int p1), .val (.ref b1), .unset, .unset, .unset, .unset] [(.int (8 : Int32)), (.int (1 : Int32)), (.ref b10), (.ref b10)]) _
  obtain ⟨cl_12, Ar_12, q_12, S_12, M_12, H_12, G_12⟩ := V_b10_11
  have hin12 : ¬ ((1 : Int32) < 0 ∨ cl_12.slots.size ≤ ((1 : Int32)).toNatClampNeg) := inb_of S_12 ⟨by decide, by decide⟩
  obtain ⟨T12, h12, X12, e12, W12, st12⟩ := stI X11 hx hZ e11 Ar_12 (j := (1 : Int32)) hin12 (g := (mkF m 60 #[.val (.int p0), .val (.int p1), .val (.ref b1), .unset, .unset, .unset, .unset] [(.int (8 : Int32)), (.int (1 : Int32)), (.ref b10), (.ref b10)])) rfl rfl (hb hby at_60)
  refine own_go st12 ?_
  have V_b10_12 : Arv Z h12 b10 k10 .int (8 : Int32) [(.int (9 : Int32)), (.int (8 : Int32)), (.int (0 : Int32)), (.int (0 : Int32)), (.int (0 : Int32)), (.int (0 : Int32)), (.int (0 : Int32)), (.int (0 : Int32))] (.int (0 : Int32)) := Arv.set Ar_12 q_12 S_12 M_12 H_12 G_12 rfl W12 1 rfl (Nat.le_of_ble_eq_true rfl)
  replace V_b1_9 := V_b1_9.other W12 ne_b1_b10
  have N12 := Fr.snoc X12 N11 g_b10
  have K12 := K11.wr W12 (Or.inr sz_b10)
  have Z12 : n0 ≤ h12.size := Nat.le_trans Z0 K12.1
  show own_Ends p e below T12 (mkF m 61 #[.val (.int p0), .val (.int p1), .val (.ref b1), .unset, .unset, .unset, .unset] [(.ref b10)]) _
  refine own_go (fun _ => XS.dup X12.here hx rfl (hb hby at_61) rfl rfl) ?_
  show own_Ends p e below T12 (mkF m 62 #[.val (.int p0), .val (.int p1), .val (.ref b1), .unset, .unset, .unset, .unset] [(.ref b10), (.ref b10)]) _
  refine own_go (fun _ => XS.iconst X12.here hx rfl (hb hby at_62)) ?_
  show own_Ends p e below T12 (mkF m 63 #[.val (.int p0), .val (.int p1), .val (.ref b1), .unset, .unset, .unset, .unset] [(.int (2 : Int32)), (.ref b10), (.ref b10)]) _
  refine own_go (fun _ => XS.bipush X12.here hx rfl (hb hby at_63)) ?_
  show own_Ends p e below T12 (mkF m 65 #[.val (.int p0), .val (.int p1), .val (.ref b1), .unset, .unset, .unset, .unset] [(.int (10 : Int32)), (.int (2 : Int32)), (.ref b10), (.ref b10)]) _
  obtain ⟨cl_13, Ar_13, q_13, S_13, M_13, H_13, G_13⟩ := V_b10_12
  have hin13 : ¬ ((2 : Int32) < 0 ∨ cl_13.slots.size ≤ ((2 : Int32)).toNatClampNeg) := inb_of S_13 ⟨by decide, by decide⟩
  obtain ⟨T13, h13, X13, e13, W13, st13⟩ := stI X12 hx hZ e12 Ar_13 (j := (2 : Int32)) hin13 (g := (mkF m 65 #[.val (.int p0), .val (.int p1), .val (.ref b1), .unset, .unset, .unset, .unset] [(.int (10 : Int32)), (.int (2 : Int32)), (.ref b10), (.ref b10)])) rfl rfl (hb hby at_65)
  refine own_go st13 ?_
  have V_b10_13 : Arv Z h13 b10 k10 .int (8 : Int32) [(.int (9 : Int32)), (.int (8 : Int32)), (.int (10 : Int32)), (.int (0 : Int32)), (.int (0 : Int32)), (.int (0 : Int32)), (.int (0 : Int32)), (.int (0 : Int32))] (.int (0 : Int32)) := Arv.set Ar_13 q_13 S_13 M_13 H_13 G_13 rfl W13 2 rfl (Nat.le_of_ble_eq_true rfl)
  replace V_b1_9 := V_b1_9.other W13 ne_b1_b10
  have N13 := Fr.snoc X13 N12 g_b10
  have K13 := K12.wr W13 (Or.inr sz_b10)
  have Z13 : n0 ≤ h13.size := Nat.le_trans Z0 K13.1
  show own_Ends p e below T13 (mkF m 66 #[.val (.int p0), .val (.int p1), .val (.ref b1), .unset, .unset, .unset, .unset] [(.ref b10)]) _
  refine own_go (fun _ => XS.dup X13.here hx rfl (hb hby at_66) rfl rfl) ?_
  show own_Ends p e below T13 (mkF m 67 #[.val (.int p0), .val (.int p1), .val (.ref b1), .unset, .unset, .unset, .unset] [(.ref b10), (.ref b10)]) _
  refine own_go (fun _ => XS.iconst X13.here hx rfl (hb hby at_67)) ?_
  show own_Ends p e below T13 (mkF m 68 #[.val (.int p0), .val (.int p1), .val (.ref b1), .unset, .unset, .unset, .unset] [(.int (3 : Int32)), (.ref b10), (.ref b10)]) _
  refine own_go (fun _ => XS.bipush X13.here hx rfl (hb hby at_68)) ?_
  show own_Ends p e below T13 (mkF m 70 #[.val (.int p0), .val (.int p1), .val (.ref b1), .unset, .unset, .unset, .unset] [(.int (13 : Int32)), (.int (3 : Int32)), (.ref b10), (.ref b10)]) _
  obtain ⟨cl_14, Ar_14, q_14, S_14, M_14, H_14, G_14⟩ := V_b10_13
  have hin14 : ¬ ((3 : Int32) < 0 ∨ cl_14.slots.size ≤ ((3 : Int32)).toNatClampNeg) := inb_of S_14 ⟨by decide, by decide⟩
  obtain ⟨T14, h14, X14, e14, W14, st14⟩ := stI X13 hx hZ e13 Ar_14 (j := (3 : Int32)) hin14 (g := (mkF m 70 #[.val (.int p0), .val (.int p1), .val (.ref b1), .unset, .unset, .unset, .unset] [(.int (13 : Int32)), (.int (3 : Int32)), (.ref b10), (.ref b10)])) rfl rfl (hb hby at_70)
  refine own_go st14 ?_
  have V_b10_14 : Arv Z h14 b10 k10 .int (8 : Int32) [(.int (9 : Int32)), (.int (8 : Int32)), (.int (10 : Int32)), (.int (13 : Int32)), (.int (0 : Int32)), (.int (0 : Int32)), (.int (0 : Int32)), (.int (0 : Int32))] (.int (0 : Int32)) := Arv.set Ar_14 q_14 S_14 M_14 H_14 G_14 rfl W14 3 rfl (Nat.le_of_ble_eq_true rfl)
  replace V_b1_9 := V_b1_9.other W14 ne_b1_b10
  have N14 := Fr.snoc X14 N13 g_b10
  have K14 := K13.wr W14 (Or.inr sz_b10)
  have Z14 : n0 ≤ h14.size := Nat.le_trans Z0 K14.1
  show own_Ends p e below T14 (mkF m 71 #[.val (.int p0), .val (.int p1), .val (.ref b1), .unset, .unset, .unset, .unset] [(.ref b10)]) _
  refine own_go (fun _ => XS.dup X14.here hx rfl (hb hby at_71) rfl rfl) ?_
  show own_Ends p e below T14 (mkF m 72 #[.val (.int p0), .val (.int p1), .val (.ref b1), .unset, .unset, .unset, .unset] [(.ref b10), (.ref b10)]) _
  refine own_go (fun _ => XS.iconst X14.here hx rfl (hb hby at_72)) ?_
  show own_Ends p e below T14 (mkF m 73 #[.val (.int p0), .val (.int p1), .val (.ref b1), .unset, .unset, .unset, .unset] [(.int (4 : Int32)), (.ref b10), (.ref b10)]) _
  refine own_go (fun _ => XS.bipush X14.here hx rfl (hb hby at_73)) ?_
  show own_Ends p e below T14 (mkF m 75 #[.val (.int p0), .val (.int p1), .val (.ref b1), .unset, .unset, .unset, .unset] [(.int (12 : Int32)), (.int (4 : Int32)), (.ref b10), (.ref b10)]) _
  obtain ⟨cl_15, Ar_15, q_15, S_15, M_15, H_15, G_15⟩ := V_b10_14
  have hin15 : ¬ ((4 : Int32) < 0 ∨ cl_15.slots.size ≤ ((4 : Int32)).toNatClampNeg) := inb_of S_15 ⟨by decide, by decide⟩
  obtain ⟨T15, h15, X15, e15, W15, st15⟩ := stI X14 hx hZ e14 Ar_15 (j := (4 : Int32)) hin15 (g := (mkF m 75 #[.val (.int p0), .val (.int p1), .val (.ref b1), .unset, .unset, .unset, .unset] [(.int (12 : Int32)), (.int (4 : Int32)), (.ref b10), (.ref b10)])) rfl rfl (hb hby at_75)
  refine own_go st15 ?_
  have V_b10_15 : Arv Z h15 b10 k10 .int (8 : Int32) [(.int (9 : Int32)), (.int (8 : Int32)), (.int (10 : Int32)), (.int (13 : Int32)), (.int (12 : Int32)), (.int (0 : Int32)), (.int (0 : Int32)), (.int (0 : Int32))] (.int (0 : Int32)) := Arv.set Ar_15 q_15 S_15 M_15 H_15 G_15 rfl W15 4 rfl (Nat.le_of_ble_eq_true rfl)
  replace V_b1_9 := V_b1_9.other W15 ne_b1_b10
  have N15 := Fr.snoc X15 N14 g_b10
  have K15 := K14.wr W15 (Or.inr sz_b10)
  have Z15 : n0 ≤ h15.size := Nat.le_trans Z0 K15.1
  show own_Ends p e below T15 (mkF m 76 #[.val (.int p0), .val (.int p1), .val (.ref b1), .unset, .unset, .unset, .unset] [(.ref b10)]) _
  refine own_go (fun _ => XS.dup X15.here hx rfl (hb hby at_76) rfl rfl) ?_
  show own_Ends p e below T15 (mkF m 77 #[.val (.int p0), .val (.int p1), .val (.ref b1), .unset, .unset, .unset, .unset] [(.ref b10), (.ref b10)]) _
  refine own_go (fun _ => XS.iconst X15.here hx rfl (hb hby at_77)) ?_
  show own_Ends p e below T15 (mkF m 78 #[.val (.int p0), .val (.int p1), .val (.ref b1), .unset, .unset, .unset, .unset] [(.int (5 : Int32)), (.ref b10), (.ref b10)]) _
  refine own_go (fun _ => XS.bipush X15.here hx rfl (hb hby at_78)) ?_
  show own_Ends p e below T15 (mkF m 80 #[.val (.int p0), .val (.int p1), .val (.ref b1), .unset, .unset, .unset, .unset] [(.int (34 : Int32)), (.int (5 : Int32)), (.ref b10), (.ref b10)]) _
  obtain ⟨cl_16, Ar_16, q_16, S_16, M_16, H_16, G_16⟩ := V_b10_15
  have hin16 : ¬ ((5 : Int32) < 0 ∨ cl_16.slots.size ≤ ((5 : Int32)).toNatClampNeg) := inb_of S_16 ⟨by decide, by decide⟩
  obtain ⟨T16, h16, X16, e16, W16, st16⟩ := stI X15 hx hZ e15 Ar_16 (j := (5 : Int32)) hin16 (g := (mkF m 80 #[.val (.int p0), .val (.int p1), .val (.ref b1), .unset, .unset, .unset, .unset] [(.int (34 : Int32)), (.int (5 : Int32)), (.ref b10), (.ref b10)])) rfl rfl (hb hby at_80)
  refine own_go st16 ?_
  have V_b10_16 : Arv Z h16 b10 k10 .int (8 : Int32) [(.int (9 : Int32)), (.int (8 : Int32)), (.int (10 : Int32)), (.int (13 : Int32)), (.int (12 : Int32)), (.int (34 : Int32)), (.int (0 : Int32)), (.int (0 : Int32))] (.int (0 : Int32)) := Arv.set Ar_16 q_16 S_16 M_16 H_16 G_16 rfl W16 5 rfl (Nat.le_of_ble_eq_true rfl)
  replace V_b1_9 := V_b1_9.other W16 ne_b1_b10
  have N16 := Fr.snoc X16 N15 g_b10
  have K16 := K15.wr W16 (Or.inr sz_b10)
  have Z16 : n0 ≤ h16.size := Nat.le_trans Z0 K16.1
  show own_Ends p e below T16 (mkF m 81 #[.val (.int p0), .val (.int p1), .val (.ref b1), .unset, .unset, .unset, .unset] [(.ref b10)]) _
  refine own_go (fun _ => XS.dup X16.here hx rfl (hb hby at_81) rfl rfl) ?_
  show own_Ends p e below T16 (mkF m 82 #[.val (.int p0), .val (.int p1), .val (.ref b1), .unset, .unset, .unset, .unset] [(.ref b10), (.ref b10)]) _
  refine own_go (fun _ => XS.bipush X16.here hx rfl (hb hby at_82)) ?_
  show own_Ends p e below T16 (mkF m 84 #[.val (.int p0), .val (.int p1), .val (.ref b1), .unset, .unset, .unset, .unset] [(.int (6 : Int32)), (.ref b10), (.ref b10)]) _
  refine own_go (fun _ => XS.bipush X16.here hx rfl (hb hby at_84)) ?_
  show own_Ends p e below T16 (mkF m 86 #[.val (.int p0), .val (.int p1), .val (.ref b1), .unset, .unset, .unset, .unset] [(.int (39 : Int32)), (.int (6 : Int32)), (.ref b10), (.ref b10)]) _
  obtain ⟨cl_17, Ar_17, q_17, S_17, M_17, H_17, G_17⟩ := V_b10_16
  have hin17 : ¬ ((6 : Int32) < 0 ∨ cl_17.slots.size ≤ ((6 : Int32)).toNatClampNeg) := inb_of S_17 ⟨by decide, by decide⟩
  obtain ⟨T17, h17, X17, e17, W17, st17⟩ := stI X16 hx hZ e16 Ar_17 (j := (6 : Int32)) hin17 (g := (mkF m 86 #[.val (.int p0), .val (.int p1), .val (.ref b1), .unset, .unset, .unset, .unset] [(.int (39 : Int32)), (.int (6 : Int32)), (.ref b10), (.ref b10)])) rfl rfl (hb hby at_86)
  refine own_go st17 ?_
  have V_b10_17 : Arv Z h17 b10 k10 .int (8 : Int32) [(.int (9 : Int32)), (.int (8 : Int32)), (.int (10 : Int32)), (.int (13 : Int32)), (.int (12 : Int32)), (.int (34 : Int32)), (.int (39 : Int32)), (.int (0 : Int32))] (.int (0 : Int32)) := Arv.set Ar_17 q_17 S_17 M_17 H_17 G_17 rfl W17 6 rfl (Nat.le_of_ble_eq_true rfl)
  replace V_b1_9 := V_b1_9.other W17 ne_b1_b10
  have N17 := Fr.snoc X17 N16 g_b10
  have K17 := K16.wr W17 (Or.inr sz_b10)
  have Z17 : n0 ≤ h17.size := Nat.le_trans Z0 K17.1
  show own_Ends p e below T17 (mkF m 87 #[.val (.int p0), .val (.int p1), .val (.ref b1), .unset, .unset, .unset, .unset] [(.ref b10)]) _
  refine own_go (fun _ => XS.dup X17.here hx rfl (hb hby at_87) rfl rfl) ?_
  show own_Ends p e below T17 (mkF m 88 #[.val (.int p0), .val (.int p1), .val (.ref b1), .unset, .unset, .unset, .unset] [(.ref b10), (.ref b10)]) _
  refine own_go (fun _ => XS.bipush X17.here hx rfl (hb hby at_88)) ?_
  show own_Ends p e below T17 (mkF m 90 #[.val (.int p0), .val (.int p1), .val (.ref b1), .unset, .unset, .unset, .unset] [(.int (7 : Int32)), (.ref b10), (.ref b10)]) _
  refine own_go (fun _ => XS.bipush X17.here hx rfl (hb hby at_90)) ?_
  show own_Ends p e below T17 (mkF m 92 #[.val (.int p0), .val (.int p1), .val (.ref b1), .unset, .unset, .unset, .unset] [(.int (92 : Int32)), (.int (7 : Int32)), (.ref b10), (.ref b10)]) _
  obtain ⟨cl_18, Ar_18, q_18, S_18, M_18, H_18, G_18⟩ := V_b10_17
  have hin18 : ¬ ((7 : Int32) < 0 ∨ cl_18.slots.size ≤ ((7 : Int32)).toNatClampNeg) := inb_of S_18 ⟨by decide, by decide⟩
  obtain ⟨T18, h18, X18, e18, W18, st18⟩ := stI X17 hx hZ e17 Ar_18 (j := (7 : Int32)) hin18 (g := (mkF m 92 #[.val (.int p0), .val (.int p1), .val (.ref b1), .unset, .unset, .unset, .unset] [(.int (92 : Int32)), (.int (7 : Int32)), (.ref b10), (.ref b10)])) rfl rfl (hb hby at_92)
  refine own_go st18 ?_
  have V_b10_18 : Arv Z h18 b10 k10 .int (8 : Int32) [(.int (9 : Int32)), (.int (8 : Int32)), (.int (10 : Int32)), (.int (13 : Int32)), (.int (12 : Int32)), (.int (34 : Int32)), (.int (39 : Int32)), (.int (92 : Int32))] (.int (0 : Int32)) := Arv.set Ar_18 q_18 S_18 M_18 H_18 G_18 rfl W18 7 rfl (Nat.le_of_ble_eq_true rfl)
  replace V_b1_9 := V_b1_9.other W18 ne_b1_b10
  have N18 := Fr.snoc X18 N17 g_b10
  have K18 := K17.wr W18 (Or.inr sz_b10)
  have Z18 : n0 ≤ h18.size := Nat.le_trans Z0 K18.1
  show own_Ends p e below T18 (mkF m 93 #[.val (.int p0), .val (.int p1), .val (.ref b1), .unset, .unset, .unset, .unset] [(.ref b10)]) _
  refine own_go (fun _ => XS.astoreN X18.here hx rfl (hb hby at_93) rfl rfl (l' := #[.val (.int p0), .val (.int p1), .val (.ref b1), .val (.ref b10), .unset, .unset, .unset]) rfl) ?_
  show own_Ends p e below T18 (mkF m 94 #[.val (.int p0), .val (.int p1), .val (.ref b1), .val (.ref b10), .unset, .unset, .unset] []) _
  have J124 : ∀ (x : Int32), own_Ends p e below T18 (mkF m 124 #[.val (.int p0), .val (.int p1), .val (.ref b1), .val (.ref b10), .val (.int x), .unset, .unset] []) (fun ou U' => ∃ v L, ou = .returned v ∧ Q_rm0 Z p0 p1 h0 n0 v U'.heap L ∧ FrameEnd s ou U' L room_1.cells room_1.slots) := by
    intro x
    show own_Ends p e below T18 (mkF m 124 #[.val (.int p0), .val (.int p1), .val (.ref b1), .val (.ref b10), .val (.int x), .unset, .unset] []) _
    refine own_go (fun _ => XS.aloadN X18.here hx rfl (hb hby at_124) rfl rfl) ?_
    show own_Ends p e below T18 (mkF m 125 #[.val (.int p0), .val (.int p1), .val (.ref b1), .val (.ref b10), .val (.int x), .unset, .unset] [(.ref b1)]) _
    refine own_go (fun _ => XS.iload X18.here hx rfl (hb hby at_125) rfl) ?_
    show own_Ends p e below T18 (mkF m 127 #[.val (.int p0), .val (.int p1), .val (.ref b1), .val (.ref b10), .val (.int x), .unset, .unset] [(.int x), (.ref b1)]) _
    obtain ⟨_, _, ⟨T19, L19, k19, n19⟩, -, X19, ⟨Lc19, hQ19, l19, y19, z19⟩, st19⟩ := Jvm.LawKit.callS X18 hx (y := (⟨"com/example/graphtide/graphtide/rdf/CharClassesUnescapePinLaw", "indexOf", "([II)I"⟩ : MethodName)) hown (mvT hZ (hw _ (List.mem_of_getElem? (i := 1) rfl))) (mvT hZ (hw _ (List.mem_of_getElem? (i := 2) rfl))) (mvT hZ (hw _ (List.mem_of_getElem? (i := 3) rfl))) (mvT hZ (hw _ (List.mem_of_getElem? (i := 4) rfl))) (by decide) (backOf (W := 0) (rmIdx l Z a0 hw [] b1 x k1 h18 n0 Z18 V_b1_9) hZ (hw _ (List.mem_of_getElem? (i := 4) rfl)) (hw _ (List.mem_of_getElem? (i := 3) rfl)) (by decide) (by decide)) (g := (mkF m 127 #[.val (.int p0), .val (.int p1), .val (.ref b1), .val (.ref b10), .val (.int x), .unset, .unset] [(.int x), (.ref b1)])) rfl (by rw [hml]; rfl) (argsL := [(.ref b1), (.int x)]) (rest := []) (lenOf pd_0 rfl) rfl (by show 2 * 0 + _ ≤ _; exact Nat.le_of_eq rfl) (hb hby at_127) (fun _ _ => ⟨rfl, e18, (by decide : 2 + 0 ≤ _), (by decide : 16 + 0 ≤ _)⟩)
    dsimp only [Pt.U, Pt.locs, Pt.cells, Pt.slots] at X19 l19 y19 z19 st19 hQ19
    subst l19 y19 z19
    refine own_go st19 ?_
    obtain ⟨rfl, N19q, eh19⟩ := hQ19
    have N19 := Fr.app N18 N19q
    show own_Ends p e below T19 (mkF m 130 #[.val (.int p0), .val (.int p1), .val (.ref b1), .val (.ref b10), .val (.int x), .unset, .unset] [(.int (own_idx x))]) _
    refine own_go (fun _ => XS.istore X19.here hx rfl (hb hby at_130) rfl (l' := #[.val (.int p0), .val (.int p1), .val (.ref b1), .val (.ref b10), .val (.int x), .val (.int (own_idx x)), .unset]) rfl) ?_
    show own_Ends p e below T19 (mkF m 132 #[.val (.int p0), .val (.int p1), .val (.ref b1), .val (.ref b10), .val (.int x), .val (.int (own_idx x)), .unset] []) _
    obtain hi | hi | hi | hi | hi | hi | hi | hi | hi := own_cases x
    · rw [hi.1]
      show own_Ends p e below T19 (mkF m 132 #[.val (.int p0), .val (.int p1), .val (.ref b1), .val (.ref b10), .val (.int x), .val (.int (0 : Int32)), .unset] []) _
      refine own_go (fun _ => XS.iload X19.here hx rfl (hb hby at_132) rfl) ?_
      show own_Ends p e below T19 (mkF m 134 #[.val (.int p0), .val (.int p1), .val (.ref b1), .val (.ref b10), .val (.int x), .val (.int (0 : Int32)), .unset] [(.int (0 : Int32))]) _
      refine own_go (fun _ => XS.ifYes X19.here hx rfl (pc0 := 134) (pc' := 141) rfl (hb hby at_134) rfl ((if0 _ _).trans (flt (show ¬ ((0 : Int32) < (0 : Int32)) from by decide)).2.1) (by decide) (by decide)) ?_
      show own_Ends p e below T19 (mkF m 141 #[.val (.int p0), .val (.int p1), .val (.ref b1), .val (.ref b10), .val (.int x), .val (.int (0 : Int32)), .unset] []) _
      refine own_go (fun _ => XS.aloadN X19.here hx rfl (hb hby at_141) rfl rfl) ?_
      show own_Ends p e below T19 (mkF m 142 #[.val (.int p0), .val (.int p1), .val (.ref b1), .val (.ref b10), .val (.int x), .val (.int (0 : Int32)), .unset] [(.ref b10)]) _
      refine own_go (fun _ => XS.iload X19.here hx rfl (hb hby at_142) rfl) ?_
      show own_Ends p e below T19 (mkF m 144 #[.val (.int p0), .val (.int p1), .val (.ref b1), .val (.ref b10), .val (.int x), .val (.int (0 : Int32)), .unset] [(.int (0 : Int32)), (.ref b10)]) _
      obtain ⟨cl_20, Ar_20, q_20, S_20, M_20, H_20, G_20⟩ := V_b10_18
      have hin20 : ¬ ((0 : Int32) < 0 ∨ cl_20.slots.size ≤ ((0 : Int32)).toNatClampNeg) := inb_of S_20 ⟨by decide, by decide⟩
      have hat20 : cl_20.slots[((0 : Int32)).toNatClampNeg]? = some (.int (9 : Int32)) := Has.at H_20 hin20 (rfl)
      refine own_go (X19.iaload hx (j := (0 : Int32)) (v := (.int (9 : Int32))) (by rw [eh19]; exact Ar_20.1) (State.isArrayOf_alike hZ.alike Ar_20.2.1) Ar_20.2.2 hin20 hat20 (g := (mkF m 144 #[.val (.int p0), .val (.int p1), .val (.ref b1), .val (.ref b10), .val (.int x), .val (.int (0 : Int32)), .unset] [(.int (0 : Int32)), (.ref b10)])) rfl rfl (hb hby at_144)) ?_
      have V_b10_r20 : Arv Z h18 b10 k10 .int (8 : Int32) [(.int (9 : Int32)), (.int (8 : Int32)), (.int (10 : Int32)), (.int (13 : Int32)), (.int (12 : Int32)), (.int (34 : Int32)), (.int (39 : Int32)), (.int (92 : Int32))] (.int (0 : Int32)) := ⟨cl_20, Ar_20, q_20, S_20, M_20, H_20, G_20⟩
      show own_Ends p e below T19 (mkF m 145 #[.val (.int p0), .val (.int p1), .val (.ref b1), .val (.ref b10), .val (.int x), .val (.int (0 : Int32)), .unset] [(.int (9 : Int32))]) _
      refine own_go (fun _ => XS.istore X19.here hx rfl (hb hby at_145) rfl (l' := #[.val (.int p0), .val (.int p1), .val (.ref b1), .val (.ref b10), .val (.int x), .val (.int (0 : Int32)), .val (.int (9 : Int32))]) rfl) ?_
      show own_Ends p e below T19 (mkF m 147 #[.val (.int p0), .val (.int p1), .val (.ref b1), .val (.ref b10), .val (.int x), .val (.int (0 : Int32)), .val (.int (9 : Int32))] []) _
      refine own_go (fun _ => XS.iload X19.here hx rfl (hb hby at_147) rfl) ?_
      show own_Ends p e below T19 (mkF m 149 #[.val (.int p0), .val (.int p1), .val (.ref b1), .val (.ref b10), .val (.int x), .val (.int (0 : Int32)), .val (.int (9 : Int32))] [(.int x)]) _
      obtain ⟨_, _, ⟨T21, L21, k21, n21⟩, -, X21, ⟨Lc21, hQ21, l21, y21, z21⟩, st21⟩ := Jvm.LawKit.callS X19 hx (y := (⟨"com/example/graphtide/graphtide/rdf/CharClasses", "unescape", "(I)I"⟩ : MethodName)) hown (mvT hZ (hw _ (List.mem_of_getElem? (i := 5) rfl))) (mvT hZ (hw _ (List.mem_of_getElem? (i := 6) rfl))) (mvT hZ (hw _ (List.mem_of_getElem? (i := 7) rfl))) (mvT hZ (hw _ (List.mem_of_getElem? (i := 8) rfl))) (by decide) (backOf (W := 0) (rmUne l Z a0 hw [] x  h18 n0 Z18 ) hZ (hw _ (List.mem_of_getElem? (i := 8) rfl)) (hw _ (List.mem_of_getElem? (i := 7) rfl)) (by decide) (by decide)) (g := (mkF m 149 #[.val (.int p0), .val (.int p1), .val (.ref b1), .val (.ref b10), .val (.int x), .val (.int (0 : Int32)), .val (.int (9 : Int32))] [(.int x)])) rfl (by rw [hml]; rfl) (argsL := [(.int x)]) (rest := []) (lenOf pd_1 rfl) rfl (by show 2 * 0 + _ ≤ _; exact Nat.le_of_eq rfl) (hb hby at_149) (fun _ _ => ⟨rfl, eh19, (by decide : 2 + 0 ≤ _), (by decide : 16 + 0 ≤ _)⟩)
      dsimp only [Pt.U, Pt.locs, Pt.cells, Pt.slots] at X21 l21 y21 z21 st21 hQ21
      subst l21 y21 z21
      refine own_go st21 ?_
      obtain ⟨rfl, N21q, eh21⟩ := hQ21
      have N21 := Fr.app N19 N21q
      show own_Ends p e below T21 (mkF m 152 #[.val (.int p0), .val (.int p1), .val (.ref b1), .val (.ref b10), .val (.int x), .val (.int (0 : Int32)), .val (.int (9 : Int32))] [(.int (own_une x))]) _
      refine own_go (fun _ => XS.iload X21.here hx rfl (hb hby at_152) rfl) ?_
      show own_Ends p e below T21 (mkF m 154 #[.val (.int p0), .val (.int p1), .val (.ref b1), .val (.ref b10), .val (.int x), .val (.int (0 : Int32)), .val (.int (9 : Int32))] [(.int (9 : Int32)), (.int (own_une x))]) _
      refine own_go (fun _ => XS.icmpNo X21.here hx rfl (hb hby at_154) rfl (teq (show (own_une x) = (9 : Int32) from hi.2)).2) ?_
      show own_Ends p e below T21 (mkF m 157 #[.val (.int p0), .val (.int p1), .val (.ref b1), .val (.ref b10), .val (.int x), .val (.int (0 : Int32)), .val (.int (9 : Int32))] []) _
      refine own_go (fun _ => XS.iconst X21.here hx rfl (hb hby at_157)) ?_
      show own_Ends p e below T21 (mkF m 158 #[.val (.int p0), .val (.int p1), .val (.ref b1), .val (.ref b10), .val (.int x), .val (.int (0 : Int32)), .val (.int (9 : Int32))] [(.int (1 : Int32))]) _
      refine own_go (fun _ => XS.goto X21.here hx rfl (pc0 := 158) (pc' := 162) rfl (hb hby at_158) (by decide) (by decide)) ?_
      show own_Ends p e below T21 (mkF m 162 #[.val (.int p0), .val (.int p1), .val (.ref b1), .val (.ref b10), .val (.int x), .val (.int (0 : Int32)), .val (.int (9 : Int32))] [(.int (1 : Int32))]) _
      obtain ⟨fs, hr, hrun, hended, hW, hsame⟩ := X21.leave (v := some (.int (1 : Int32))) (fun h => by rw [Bd.returns] at h; cases h)
      refine ⟨_, _, retN X21 hx (t := .boolean) Bd.returns (by simp) (hb hby at_162) hr, hrun, hended, _, _, rfl, ?_, ⟨_, rfl⟩, hW, hsame.mono (by decide) (by decide)⟩
      show Q_rm0 Z p0 p1 h0 n0 _ T21.heap _
      rw [eh21]
      exact ⟨rfl, N21⟩
    · rw [hi.1]
      show own_Ends p e below T19 (mkF m 132 #[.val (.int p0), .val (.int p1), .val (.ref b1), .val (.ref b10), .val (.int x), .val (.int (1 : Int32)), .unset] []) _
      refine own_go (fun _ => XS.iload X19.here hx rfl (hb hby at_132) rfl) ?_
      show own_Ends p e below T19 (mkF m 134 #[.val (.int p0), .val (.int p1), .val (.ref b1), .val (.ref b10), .val (.int x), .val (.int (1 : Int32)), .unset] [(.int (1 : Int32))]) _
      refine own_go (fun _ => XS.ifYes X19.here hx rfl (pc0 := 134) (pc' := 141) rfl (hb hby at_134) rfl ((if0 _ _).trans (flt (show ¬ ((1 : Int32) < (0 : Int32)) from by decide)).2.1) (by decide) (by decide)) ?_
      show own_Ends p e below T19 (mkF m 141 #[.val (.int p0), .val (.int p1), .val (.ref b1), .val (.ref b10), .val (.int x), .val (.int (1 : Int32)), .unset] []) _
      refine own_go (fun _ => XS.aloadN X19.here hx rfl (hb hby at_141) rfl rfl) ?_
      show own_Ends p e below T19 (mkF m 142 #[.val (.int p0), .val (.int p1), .val (.ref b1), .val (.ref b10), .val (.int x), .val (.int (1 : Int32)), .unset] [(.ref b10)]) _
      refine own_go (fun _ => XS.iload X19.here hx rfl (hb hby at_142) rfl) ?_
      show own_Ends p e below T19 (mkF m 144 #[.val (.int p0), .val (.int p1), .val (.ref b1), .val (.ref b10), .val (.int x), .val (.int (1 : Int32)), .unset] [(.int (1 : Int32)), (.ref b10)]) _
      obtain ⟨cl_22, Ar_22, q_22, S_22, M_22, H_22, G_22⟩ := V_b10_18
      have hin22 : ¬ ((1 : Int32) < 0 ∨ cl_22.slots.size ≤ ((1 : Int32)).toNatClampNeg) := inb_of S_22 ⟨by decide, by decide⟩
      have hat22 : cl_22.slots[((1 : Int32)).toNatClampNeg]? = some (.int (8 : Int32)) := Has.at H_22 hin22 (rfl)
      refine own_go (X19.iaload hx (j := (1 : Int32)) (v := (.int (8 : Int32))) (by rw [eh19]; exact Ar_22.1) (State.isArrayOf_alike hZ.alike Ar_22.2.1) Ar_22.2.2 hin22 hat22 (g := (mkF m 144 #[.val (.int p0), .val (.int p1), .val (.ref b1), .val (.ref b10), .val (.int x), .val (.int (1 : Int32)), .unset] [(.int (1 : Int32)), (.ref b10)])) rfl rfl (hb hby at_144)) ?_
      have V_b10_r22 : Arv Z h18 b10 k10 .int (8 : Int32) [(.int (9 : Int32)), (.int (8 : Int32)), (.int (10 : Int32)), (.int (13 : Int32)), (.int (12 : Int32)), (.int (34 : Int32)), (.int (39 : Int32)), (.int (92 : Int32))] (.int (0 : Int32)) := ⟨cl_22, Ar_22, q_22, S_22, M_22, H_22, G_22⟩
      show own_Ends p e below T19 (mkF m 145 #[.val (.int p0), .val (.int p1), .val (.ref b1), .val (.ref b10), .val (.int x), .val (.int (1 : Int32)), .unset] [(.int (8 : Int32))]) _
      refine own_go (fun _ => XS.istore X19.here hx rfl (hb hby at_145) rfl (l' := #[.val (.int p0), .val (.int p1), .val (.ref b1), .val (.ref b10), .val (.int x), .val (.int (1 : Int32)), .val (.int (8 : Int32))]) rfl) ?_
      show own_Ends p e below T19 (mkF m 147 #[.val (.int p0), .val (.int p1), .val (.ref b1), .val (.ref b10), .val (.int x), .val (.int (1 : Int32)), .val (.int (8 : Int32))] []) _
      refine own_go (fun _ => XS.iload X19.here hx rfl (hb hby at_147) rfl) ?_
      show own_Ends p e below T19 (mkF m 149 #[.val (.int p0), .val (.int p1), .val (.ref b1), .val (.ref b10), .val (.int x), .val (.int (1 : Int32)), .val (.int (8 : Int32))] [(.int x)]) _
      obtain ⟨_, _, ⟨T23, L23, k23, n23⟩, -, X23, ⟨Lc23, hQ23, l23, y23, z23⟩, st23⟩ := Jvm.LawKit.callS X19 hx (y := (⟨"com/example/graphtide/graphtide/rdf/CharClasses", "unescape", "(I)I"⟩ : MethodName)) hown (mvT hZ (hw _ (List.mem_of_getElem? (i := 5) rfl))) (mvT hZ (hw _ (List.mem_of_getElem? (i := 6) rfl))) (mvT hZ (hw _ (List.mem_of_getElem? (i := 7) rfl))) (mvT hZ (hw _ (List.mem_of_getElem? (i := 8) rfl))) (by decide) (backOf (W := 0) (rmUne l Z a0 hw [] x  h18 n0 Z18 ) hZ (hw _ (List.mem_of_getElem? (i := 8) rfl)) (hw _ (List.mem_of_getElem? (i := 7) rfl)) (by decide) (by decide)) (g := (mkF m 149 #[.val (.int p0), .val (.int p1), .val (.ref b1), .val (.ref b10), .val (.int x), .val (.int (1 : Int32)), .val (.int (8 : Int32))] [(.int x)])) rfl (by rw [hml]; rfl) (argsL := [(.int x)]) (rest := []) (lenOf pd_1 rfl) rfl (by show 2 * 0 + _ ≤ _; exact Nat.le_of_eq rfl) (hb hby at_149) (fun _ _ => ⟨rfl, eh19, (by decide : 2 + 0 ≤ _), (by decide : 16 + 0 ≤ _)⟩)
      dsimp only [Pt.U, Pt.locs, Pt.cells, Pt.slots] at X23 l23 y23 z23 st23 hQ23
      subst l23 y23 z23
      refine own_go st23 ?_
      obtain ⟨rfl, N23q, eh23⟩ := hQ23
      have N23 := Fr.app N19 N23q
      show own_Ends p e below T23 (mkF m 152 #[.val (.int p0), .val (.int p1), .val (.ref b1), .val (.ref b10), .val (.int x), .val (.int (1 : Int32)), .val (.int (8 : Int32))] [(.int (own_une x))]) _
      refine own_go (fun _ => XS.iload X23.here hx rfl (hb hby at_152) rfl) ?_
      show own_Ends p e below T23 (mkF m 154 #[.val (.int p0), .val (.int p1), .val (.ref b1), .val (.ref b10), .val (.int x), .val (.int (1 : Int32)), .val (.int (8 : Int32))] [(.int (8 : Int32)), (.int (own_une x))]) _
      refine own_go (fun _ => XS.icmpNo X23.here hx rfl (hb hby at_154) rfl (teq (show (own_une x) = (8 : Int32) from hi.2)).2) ?_
      show own_Ends p e below T23 (mkF m 157 #[.val (.int p0), .val (.int p1), .val (.ref b1), .val (.ref b10), .val (.int x), .val (.int (1 : Int32)), .val (.int (8 : Int32))] []) _
      refine own_go (fun _ => XS.iconst X23.here hx rfl (hb hby at_157)) ?_
      show own_Ends p e below T23 (mkF m 158 #[.val (.int p0), .val (.int p1), .val (.ref b1), .val (.ref b10), .val (.int x), .val (.int (1 : Int32)), .val (.int (8 : Int32))] [(.int (1 : Int32))]) _
      refine own_go (fun _ => XS.goto X23.here hx rfl (pc0 := 158) (pc' := 162) rfl (hb hby at_158) (by decide) (by decide)) ?_
      show own_Ends p e below T23 (mkF m 162 #[.val (.int p0), .val (.int p1), .val (.ref b1), .val (.ref b10), .val (.int x), .val (.int (1 : Int32)), .val (.int (8 : Int32))] [(.int (1 : Int32))]) _
      obtain ⟨fs, hr, hrun, hended, hW, hsame⟩ := X23.leave (v := some (.int (1 : Int32))) (fun h => by rw [Bd.returns] at h; cases h)
      refine ⟨_, _, retN X23 hx (t := .boolean) Bd.returns (by simp) (hb hby at_162) hr, hrun, hended, _, _, rfl, ?_, ⟨_, rfl⟩, hW, hsame.mono (by decide) (by decide)⟩
      show Q_rm0 Z p0 p1 h0 n0 _ T23.heap _
      rw [eh23]
      exact ⟨rfl, N23⟩
    · rw [hi.1]
      show own_Ends p e below T19 (mkF m 132 #[.val (.int p0), .val (.int p1), .val (.ref b1), .val (.ref b10), .val (.int x), .val (.int (2 : Int32)), .unset] []) _
      refine own_go (fun _ => XS.iload X19.here hx rfl (hb hby at_132) rfl) ?_
      show own_Ends p e below T19 (mkF m 134 #[.val (.int p0), .val (.int p1), .val (.ref b1), .val (.ref b10), .val (.int x), .val (.int (2 : Int32)), .unset] [(.int (2 : Int32))]) _
      refine own_go (fun _ => XS.ifYes X19.here hx rfl (pc0 := 134) (pc' := 141) rfl (hb hby at_134) rfl ((if0 _ _).trans (flt (show ¬ ((2 : Int32) < (0 : Int32)) from by decide)).2.1) (by decide) (by decide)) ?_
      show own_Ends p e below T19 (mkF m 141 #[.val (.int p0), .val (.int p1), .val (.ref b1), .val (.ref b10), .val (.int x), .val (.int (2 : Int32)), .unset] []) _
      refine own_go (fun _ => XS.aloadN X19.here hx rfl (hb hby at_141) rfl rfl) ?_
      show own_Ends p e below T19 (mkF m 142 #[.val (.int p0), .val (.int p1), .val (.ref b1), .val (.ref b10), .val (.int x), .val (.int (2 : Int32)), .unset] [(.ref b10)]) _
      refine own_go (fun _ => XS.iload X19.here hx rfl (hb hby at_142) rfl) ?_
      show own_Ends p e below T19 (mkF m 144 #[.val (.int p0), .val (.int p1), .val (.ref b1), .val (.ref b10), .val (.int x), .val (.int (2 : Int32)), .unset] [(.int (2 : Int32)), (.ref b10)]) _
      obtain ⟨cl_24, Ar_24, q_24, S_24, M_24, H_24, G_24⟩ := V_b10_18
      have hin24 : ¬ ((2 : Int32) < 0 ∨ cl_24.slots.size ≤ ((2 : Int32)).toNatClampNeg) := inb_of S_24 ⟨by decide, by decide⟩
      have hat24 : cl_24.slots[((2 : Int32)).toNatClampNeg]? = some (.int (10 : Int32)) := Has.at H_24 hin24 (rfl)
      refine own_go (X19.iaload hx (j := (2 : Int32)) (v := (.int (10 : Int32))) (by rw [eh19]; exact Ar_24.1) (State.isArrayOf_alike hZ.alike Ar_24.2.1) Ar_24.2.2 hin24 hat24 (g := (mkF m 144 #[.val (.int p0), .val (.int p1), .val (.ref b1), .val (.ref b10), .val (.int x), .val (.int (2 : Int32)), .unset] [(.int (2 : Int32)), (.ref b10)])) rfl rfl (hb hby at_144)) ?_
      have V_b10_r24 : Arv Z h18 b10 k10 .int (8 : Int32) [(.int (9 : Int32)), (.int (8 : Int32)), (.int (10 : Int32)), (.int (13 : Int32)), (.int (12 : Int32)), (.int (34 : Int32)), (.int (39 : Int32)), (.int (92 : Int32))] (.int (0 : Int32)) := ⟨cl_24, Ar_24, q_24, S_24, M_24, H_24, G_24⟩
      show own_Ends p e below T19 (mkF m 145 #[.val (.int p0), .val (.int p1), .val (.ref b1), .val (.ref b10), .val (.int x), .val (.int (2 : Int32)), .unset] [(.int (10 : Int32))]) _
      refine own_go (fun _ => XS.istore X19.here hx rfl (hb hby at_145) rfl (l' := #[.val (.int p0), .val (.int p1), .val (.ref b1), .val (.ref b10), .val (.int x), .val (.int (2 : Int32)), .val (.int (10 : Int32))]) rfl) ?_
      show own_Ends p e below T19 (mkF m 147 #[.val (.int p0), .val (.int p1), .val (.ref b1), .val (.ref b10), .val (.int x), .val (.int (2 : Int32)), .val (.int (10 : Int32))] []) _
      refine own_go (fun _ => XS.iload X19.here hx rfl (hb hby at_147) rfl) ?_
      show own_Ends p e below T19 (mkF m 149 #[.val (.int p0), .val (.int p1), .val (.ref b1), .val (.ref b10), .val (.int x), .val (.int (2 : Int32)), .val (.int (10 : Int32))] [(.int x)]) _
      obtain ⟨_, _, ⟨T25, L25, k25, n25⟩, -, X25, ⟨Lc25, hQ25, l25, y25, z25⟩, st25⟩ := Jvm.LawKit.callS X19 hx (y := (⟨"com/example/graphtide/graphtide/rdf/CharClasses", "unescape", "(I)I"⟩ : MethodName)) hown (mvT hZ (hw _ (List.mem_of_getElem? (i := 5) rfl))) (mvT hZ (hw _ (List.mem_of_getElem? (i := 6) rfl))) (mvT hZ (hw _ (List.mem_of_getElem? (i := 7) rfl))) (mvT hZ (hw _ (List.mem_of_getElem? (i := 8) rfl))) (by decide) (backOf (W := 0) (rmUne l Z a0 hw [] x  h18 n0 Z18 ) hZ (hw _ (List.mem_of_getElem? (i := 8) rfl)) (hw _ (List.mem_of_getElem? (i := 7) rfl)) (by decide) (by decide)) (g := (mkF m 149 #[.val (.int p0), .val (.int p1), .val (.ref b1), .val (.ref b10), .val (.int x), .val (.int (2 : Int32)), .val (.int (10 : Int32))] [(.int x)])) rfl (by rw [hml]; rfl) (argsL := [(.int x)]) (rest := []) (lenOf pd_1 rfl) rfl (by show 2 * 0 + _ ≤ _; exact Nat.le_of_eq rfl) (hb hby at_149) (fun _ _ => ⟨rfl, eh19, (by decide : 2 + 0 ≤ _), (by decide : 16 + 0 ≤ _)⟩)
      dsimp only [Pt.U, Pt.locs, Pt.cells, Pt.slots] at X25 l25 y25 z25 st25 hQ25
      subst l25 y25 z25
      refine own_go st25 ?_
      obtain ⟨rfl, N25q, eh25⟩ := hQ25
      have N25 := Fr.app N19 N25q
      show own_Ends p e below T25 (mkF m 152 #[.val (.int p0), .val (.int p1), .val (.ref b1), .val (.ref b10), .val (.int x), .val (.int (2 : Int32)), .val (.int (10 : Int32))] [(.int (own_une x))]) _
      refine own_go (fun _ => XS.iload X25.here hx rfl (hb hby at_152) rfl) ?_
      show own_Ends p e below T25 (mkF m 154 #[.val (.int p0), .val (.int p1), .val (.ref b1), .val (.ref b10), .val (.int x), .val (.int (2 : Int32)), .val (.int (10 : Int32))] [(.int (10 : Int32)), (.int (own_une x))]) _
      refine own_go (fun _ => XS.icmpNo X25.here hx rfl (hb hby at_154) rfl (teq (show (own_une x) = (10 : Int32) from hi.2)).2) ?_
      show own_Ends p e below T25 (mkF m 157 #[.val (.int p0), .val (.int p1), .val (.ref b1), .val (.ref b10), .val (.int x), .val (.int (2 : Int32)), .val (.int (10 : Int32))] []) _
      refine own_go (fun _ => XS.iconst X25.here hx rfl (hb hby at_157)) ?_
      show own_Ends p e below T25 (mkF m 158 #[.val (.int p0), .val (.int p1), .val (.ref b1), .val (.ref b10), .val (.int x), .val (.int (2 : Int32)), .val (.int (10 : Int32))] [(.int (1 : Int32))]) _
      refine own_go (fun _ => XS.goto X25.here hx rfl (pc0 := 158) (pc' := 162) rfl (hb hby at_158) (by decide) (by decide)) ?_
      show own_Ends p e below T25 (mkF m 162 #[.val (.int p0), .val (.int p1), .val (.ref b1), .val (.ref b10), .val (.int x), .val (.int (2 : Int32)), .val (.int (10 : Int32))] [(.int (1 : Int32))]) _
      obtain ⟨fs, hr, hrun, hended, hW, hsame⟩ := X25.leave (v := some (.int (1 : Int32))) (fun h => by rw [Bd.returns] at h; cases h)
      refine ⟨_, _, retN X25 hx (t := .boolean) Bd.returns (by simp) (hb hby at_162) hr, hrun, hended, _, _, rfl, ?_, ⟨_, rfl⟩, hW, hsame.mono (by decide) (by decide)⟩
      show Q_rm0 Z p0 p1 h0 n0 _ T25.heap _
      rw [eh25]
      exact ⟨rfl, N25⟩
    · rw [hi.1]
      show own_Ends p e below T19 (mkF m 132 #[.val (.int p0), .val (.int p1), .val (.ref b1), .val (.ref b10), .val (.int x), .val (.int (3 : Int32)), .unset] []) _
      refine own_go (fun _ => XS.iload X19.here hx rfl (hb hby at_132) rfl) ?_
      show own_Ends p e below T19 (mkF m 134 #[.val (.int p0), .val (.int p1), .val (.ref b1), .val (.ref b10), .val (.int x), .val (.int (3 : Int32)), .unset] [(.int (3 : Int32))]) _
      refine own_go (fun _ => XS.ifYes X19.here hx rfl (pc0 := 134) (pc' := 141) rfl (hb hby at_134) rfl ((if0 _ _).trans (flt (show ¬ ((3 : Int32) < (0 : Int32)) from by decide)).2.1) (by decide) (by decide)) ?_
      show own_Ends p e below T19 (mkF m 141 #[.val (.int p0), .val (.int p1), .val (.ref b1), .val (.ref b10), .val (.int x), .val (.int (3 : Int32)), .unset] []) _
      refine own_go (fun _ => XS.aloadN X19.here hx rfl (hb hby at_141) rfl rfl) ?_
      show own_Ends p e below T19 (mkF m 142 #[.val (.int p0), .val (.int p1), .val (.ref b1), .val (.ref b10), .val (.int x), .val (.int (3 : Int32)), .unset] [(.ref b10)]) _
      refine own_go (fun _ => XS.iload X19.here hx rfl (hb hby at_142) rfl) ?_
      show own_Ends p e below T19 (mkF m 144 #[.val (.int p0), .val (.int p1), .val (.ref b1), .val (.ref b10), .val (.int x), .val (.int (3 : Int32)), .unset] [(.int (3 : Int32)), (.ref b10)]) _
      obtain ⟨cl_26, Ar_26, q_26, S_26, M_26, H_26, G_26⟩ := V_b10_18
      have hin26 : ¬ ((3 : Int32) < 0 ∨ cl_26.slots.size ≤ ((3 : Int32)).toNatClampNeg) := inb_of S_26 ⟨by decide, by decide⟩
      have hat26 : cl_26.slots[((3 : Int32)).toNatClampNeg]? = some (.int (13 : Int32)) := Has.at H_26 hin26 (rfl)
      refine own_go (X19.iaload hx (j := (3 : Int32)) (v := (.int (13 : Int32))) (by rw [eh19]; exact Ar_26.1) (State.isArrayOf_alike hZ.alike Ar_26.2.1) Ar_26.2.2 hin26 hat26 (g := (mkF m 144 #[.val (.int p0), .val (.int p1), .val (.ref b1), .val (.ref b10), .val (.int x), .val (.int (3 : Int32)), .unset] [(.int (3 : Int32)), (.ref b10)])) rfl rfl (hb hby at_144)) ?_
      have V_b10_r26 : Arv Z h18 b10 k10 .int (8 : Int32) [(.int (9 : Int32)), (.int (8 : Int32)), (.int (10 : Int32)), (.int (13 : Int32)), (.int (12 : Int32)), (.int (34 : Int32)), (.int (39 : Int32)), (.int (92 : Int32))] (.int (0 : Int32)) := ⟨cl_26, Ar_26, q_26, S_26, M_26, H_26, G_26⟩
      show own_Ends p e below T19 (mkF m 145 #[.val (.int p0), .val (.int p1), .val (.ref b1), .val (.ref b10), .val (.int x), .val (.int (3 : Int32)), .unset] [(.int (13 : Int32))]) _
      refine own_go (fun _ => XS.istore X19.here hx rfl (hb hby at_145) rfl (l' := #[.val (.int p0), .val (.int p1), .val (.ref b1), .val (.ref b10), .val (.int x), .val (.int (3 : Int32)), .val (.int (13 : Int32))]) rfl) ?_
      show own_Ends p e below T19 (mkF m 147 #[.val (.int p0), .val (.int p1), .val (.ref b1), .val (.ref b10), .val (.int x), .val (.int (3 : Int32)), .val (.int (13 : Int32))] []) _
      refine own_go (fun _ => XS.iload X19.here hx rfl (hb hby at_147) rfl) ?_
      show own_Ends p e below T19 (mkF m 149 #[.val (.int p0), .val (.int p1), .val (.ref b1), .val (.ref b10), .val (.int x), .val (.int (3 : Int32)), .val (.int (13 : Int32))] [(.int x)]) _
      obtain ⟨_, _, ⟨T27, L27, k27, n27⟩, -, X27, ⟨Lc27, hQ27, l27, y27, z27⟩, st27⟩ := Jvm.LawKit.callS X19 hx (y := (⟨"com/example/graphtide/graphtide/rdf/CharClasses", "unescape", "(I)I"⟩ : MethodName)) hown (mvT hZ (hw _ (List.mem_of_getElem? (i := 5) rfl))) (mvT hZ (hw _ (List.mem_of_getElem? (i := 6) rfl))) (mvT hZ (hw _ (List.mem_of_getElem? (i := 7) rfl))) (mvT hZ (hw _ (List.mem_of_getElem? (i := 8) rfl))) (by decide) (backOf (W := 0) (rmUne l Z a0 hw [] x  h18 n0 Z18 ) hZ (hw _ (List.mem_of_getElem? (i := 8) rfl)) (hw _ (List.mem_of_getElem? (i := 7) rfl)) (by decide) (by decide)) (g := (mkF m 149 #[.val (.int p0), .val (.int p1), .val (.ref b1), .val (.ref b10), .val (.int x), .val (.int (3 : Int32)), .val (.int (13 : Int32))] [(.int x)])) rfl (by rw [hml]; rfl) (argsL := [(.int x)]) (rest := []) (lenOf pd_1 rfl) rfl (by show 2 * 0 + _ ≤ _; exact Nat.le_of_eq rfl) (hb hby at_149) (fun _ _ => ⟨rfl, eh19, (by decide : 2 + 0 ≤ _), (by decide : 16 + 0 ≤ _)⟩)
      dsimp only [Pt.U, Pt.locs, Pt.cells, Pt.slots] at X27 l27 y27 z27 st27 hQ27
      subst l27 y27 z27
      refine own_go st27 ?_
      obtain ⟨rfl, N27q, eh27⟩ := hQ27
      have N27 := Fr.app N19 N27q
      show own_Ends p e below T27 (mkF m 152 #[.val (.int p0), .val (.int p1), .val (.ref b1), .val (.ref b10), .val (.int x), .val (.int (3 : Int32)), .val (.int (13 : Int32))] [(.int (own_une x))]) _
      refine own_go (fun _ => XS.iload X27.here hx rfl (hb hby at_152) rfl) ?_
      show own_Ends p e below T27 (mkF m 154 #[.val (.int p0), .val (.int p1), .val (.ref b1), .val (.ref b10), .val (.int x), .val (.int (3 : Int32)), .val (.int (13 : Int32))] [(.int (13 : Int32)), (.int (own_une x))]) _
      refine own_go (fun _ => XS.icmpNo X27.here hx rfl (hb hby at_154) rfl (teq (show (own_une x) = (13 : Int32) from hi.2)).2) ?_
      show own_Ends p e below T27 (mkF m 157 #[.val (.int p0), .val (.int p1), .val (.ref b1), .val (.ref b10), .val (.int x), .val (.int (3 : Int32)), .val (.int (13 : Int32))] []) _
      refine own_go (fun _ => XS.iconst X27.here hx rfl (hb hby at_157)) ?_
      show own_Ends p e below T27 (mkF m 158 #[.val (.int p0), .val (.int p1), .val (.ref b1), .val (.ref b10), .val (.int x), .val (.int (3 : Int32)), .val (.int (13 : Int32))] [(.int (1 : Int32))]) _
      refine own_go (fun _ => XS.goto X27.here hx rfl (pc0 := 158) (pc' := 162) rfl (hb hby at_158) (by decide) (by decide)) ?_
      show own_Ends p e below T27 (mkF m 162 #[.val (.int p0), .val (.int p1), .val (.ref b1), .val (.ref b10), .val (.int x), .val (.int (3 : Int32)), .val (.int (13 : Int32))] [(.int (1 : Int32))]) _
      obtain ⟨fs, hr, hrun, hended, hW, hsame⟩ := X27.leave (v := some (.int (1 : Int32))) (fun h => by rw [Bd.returns] at h; cases h)
      refine ⟨_, _, retN X27 hx (t := .boolean) Bd.returns (by simp) (hb hby at_162) hr, hrun, hended, _, _, rfl, ?_, ⟨_, rfl⟩, hW, hsame.mono (by decide) (by decide)⟩
      show Q_rm0 Z p0 p1 h0 n0 _ T27.heap _
      rw [eh27]
      exact ⟨rfl, N27⟩
    · rw [hi.1]
      show own_Ends p e below T19 (mkF m 132 #[.val (.int p0), .val (.int p1), .val (.ref b1), .val (.ref b10), .val (.int x), .val (.int (4 : Int32)), .unset] []) _
      refine own_go (fun _ => XS.iload X19.here hx rfl (hb hby at_132) rfl) ?_
      show own_Ends p e below T19 (mkF m 134 #[.val (.int p0), .val (.int p1), .val (.ref b1), .val (.ref b10), .val (.int x), .val (.int (4 : Int32)), .unset] [(.int (4 : Int32))]) _
      refine own_go (fun _ => XS.ifYes X19.here hx rfl (pc0 := 134) (pc' := 141) rfl (hb hby at_134) rfl ((if0 _ _).trans (flt (show ¬ ((4 : Int32) < (0 : Int32)) from by decide)).2.1) (by decide) (by decide)) ?_
      show own_Ends p e below T19 (mkF m 141 #[.val (.int p0), .val (.int p1), .val (.ref b1), .val (.ref b10), .val (.int x), .val (.int (4 : Int32)), .unset] []) _
      refine own_go (fun _ => XS.aloadN X19.here hx rfl (hb hby at_141) rfl rfl) ?_
      show own_Ends p e below T19 (mkF m 142 #[.val (.int p0), .val (.int p1), .val (.ref b1), .val (.ref b10), .val (.int x), .val (.int (4 : Int32)), .unset] [(.ref b10)]) _
      refine own_go (fun _ => XS.iload X19.here hx rfl (hb hby at_142) rfl) ?_
      show own_Ends p e below T19 (mkF m 144 #[.val (.int p0), .val (.int p1), .val (.ref b1), .val (.ref b10), .val (.int x), .val (.int (4 : Int32)), .unset] [(.int (4 : Int32)), (.ref b10)]) _
      obtain ⟨cl_28, Ar_28, q_28, S_28, M_28, H_28, G_28⟩ := V_b10_18
      have hin28 : ¬ ((4 : Int32) < 0 ∨ cl_28.slots.size ≤ ((4 : Int32)).toNatClampNeg) := inb_of S_28 ⟨by decide, by decide⟩
      have hat28 : cl_28.slots[((4 : Int32)).toNatClampNeg]? = some (.int (12 : Int32)) := Has.at H_28 hin28 (rfl)
      refine own_go (X19.iaload hx (j := (4 : Int32)) (v := (.int (12 : Int32))) (by rw [eh19]; exact Ar_28.1) (State.isArrayOf_alike hZ.alike Ar_28.2.1) Ar_28.2.2 hin28 hat28 (g := (mkF m 144 #[.val (.int p0), .val (.int p1), .val (.ref b1), .val (.ref b10), .val (.int x), .val (.int (4 : Int32)), .unset] [(.int (4 : Int32)), (.ref b10)])) rfl rfl (hb hby at_144)) ?_
      have V_b10_r28 : Arv Z h18 b10 k10 .int (8 : Int32) [(.int (9 : Int32)), (.int (8 : Int32)), (.int (10 : Int32)), (.int (13 : Int32)), (.int (12 : Int32)), (.int (34 : Int32)), (.int (39 : Int32)), (.int (92 : Int32))] (.int (0 : Int32)) := ⟨cl_28, Ar_28, q_28, S_28, M_28, H_28, G_28⟩
      show own_Ends p e below T19 (mkF m 145 #[.val (.int p0), .val (.int p1), .val (.ref b1), .val (.ref b10), .val (.int x), .val (.int (4 : Int32)), .unset] [(.int (12 : Int32))]) _
      refine own_go (fun _ => XS.istore X19.here hx rfl (hb hby at_145) rfl (l' := #[.val (.int p0), .val (.int p1), .val (.ref b1), .val (.ref b10), .val (.int x), .val (.int (4 : Int32)), .val (.int (12 : Int32))]) rfl) ?_
      show own_Ends p e below T19 (mkF m 147 #[.val (.int p0), .val (.int p1), .val (.ref b1), .val (.ref b10), .val (.int x), .val (.int (4 : Int32)), .val (.int (12 : Int32))] []) _
      refine own_go (fun _ => XS.iload X19.here hx rfl (hb hby at_147) rfl) ?_
      show own_Ends p e below T19 (mkF m 149 #[.val (.int p0), .val (.int p1), .val (.ref b1), .val (.ref b10), .val (.int x), .val (.int (4 : Int32)), .val (.int (12 : Int32))] [(.int x)]) _
      obtain ⟨_, _, ⟨T29, L29, k29, n29⟩, -, X29, ⟨Lc29, hQ29, l29, y29, z29⟩, st29⟩ := Jvm.LawKit.callS X19 hx (y := (⟨"com/example/graphtide/graphtide/rdf/CharClasses", "unescape", "(I)I"⟩ : MethodName)) hown (mvT hZ (hw _ (List.mem_of_getElem? (i := 5) rfl))) (mvT hZ (hw _ (List.mem_of_getElem? (i := 6) rfl))) (mvT hZ (hw _ (List.mem_of_getElem? (i := 7) rfl))) (mvT hZ (hw _ (List.mem_of_getElem? (i := 8) rfl))) (by decide) (backOf (W := 0) (rmUne l Z a0 hw [] x  h18 n0 Z18 ) hZ (hw _ (List.mem_of_getElem? (i := 8) rfl)) (hw _ (List.mem_of_getElem? (i := 7) rfl)) (by decide) (by decide)) (g := (mkF m 149 #[.val (.int p0), .val (.int p1), .val (.ref b1), .val (.ref b10), .val (.int x), .val (.int (4 : Int32)), .val (.int (12 : Int32))] [(.int x)])) rfl (by rw [hml]; rfl) (argsL := [(.int x)]) (rest := []) (lenOf pd_1 rfl) rfl (by show 2 * 0 + _ ≤ _; exact Nat.le_of_eq rfl) (hb hby at_149) (fun _ _ => ⟨rfl, eh19, (by decide : 2 + 0 ≤ _), (by decide : 16 + 0 ≤ _)⟩)
      dsimp only [Pt.U, Pt.locs, Pt.cells, Pt.slots] at X29 l29 y29 z29 st29 hQ29
      subst l29 y29 z29
      refine own_go st29 ?_
      obtain ⟨rfl, N29q, eh29⟩ := hQ29
      have N29 := Fr.app N19 N29q
      show own_Ends p e below T29 (mkF m 152 #[.val (.int p0), .val (.int p1), .val (.ref b1), .val (.ref b10), .val (.int x), .val (.int (4 : Int32)), .val (.int (12 : Int32))] [(.int (own_une x))]) _
      refine own_go (fun _ => XS.iload X29.here hx rfl (hb hby at_152) rfl) ?_
      show own_Ends p e below T29 (mkF m 154 #[.val (.int p0), .val (.int p1), .val (.ref b1), .val (.ref b10), .val (.int x), .val (.int (4 : Int32)), .val (.int (12 : Int32))] [(.int (12 : Int32)), (.int (own_une x))]) _
      refine own_go (fun _ => XS.icmpNo X29.here hx rfl (hb hby at_154) rfl (teq (show (own_une x) = (12 : Int32) from hi.2)).2) ?_
      show own_Ends p e below T29 (mkF m 157 #[.val (.int p0), .val (.int p1), .val (.ref b1), .val (.ref b10), .val (.int x), .val (.int (4 : Int32)), .val (.int (12 : Int32))] []) _
      refine own_go (fun _ => XS.iconst X29.here hx rfl (hb hby at_157)) ?_
      show own_Ends p e below T29 (mkF m 158 #[.val (.int p0), .val (.int p1), .val (.ref b1), .val (.ref b10), .val (.int x), .val (.int (4 : Int32)), .val (.int (12 : Int32))] [(.int (1 : Int32))]) _
      refine own_go (fun _ => XS.goto X29.here hx rfl (pc0 := 158) (pc' := 162) rfl (hb hby at_158) (by decide) (by decide)) ?_
      show own_Ends p e below T29 (mkF m 162 #[.val (.int p0), .val (.int p1), .val (.ref b1), .val (.ref b10), .val (.int x), .val (.int (4 : Int32)), .val (.int (12 : Int32))] [(.int (1 : Int32))]) _
      obtain ⟨fs, hr, hrun, hended, hW, hsame⟩ := X29.leave (v := some (.int (1 : Int32))) (fun h => by rw [Bd.returns] at h; cases h)
      refine ⟨_, _, retN X29 hx (t := .boolean) Bd.returns (by simp) (hb hby at_162) hr, hrun, hended, _, _, rfl, ?_, ⟨_, rfl⟩, hW, hsame.mono (by decide) (by decide)⟩
      show Q_rm0 Z p0 p1 h0 n0 _ T29.heap _
      rw [eh29]
      exact ⟨rfl, N29⟩
    · rw [hi.1]
      show own_Ends p e below T19 (mkF m 132 #[.val (.int p0), .val (.int p1), .val (.ref b1), .val (.ref b10), .val (.int x), .val (.int (5 : Int32)), .unset] []) _
      refine own_go (fun _ => XS.iload X19.here hx rfl (hb hby at_132) rfl) ?_
      show own_Ends p e below T19 (mkF m 134 #[.val (.int p0), .val (.int p1), .val (.ref b1), .val (.ref b10), .val (.int x), .val (.int (5 : Int32)), .unset] [(.int (5 : Int32))]) _
      refine own_go (fun _ => XS.ifYes X19.here hx rfl (pc0 := 134) (pc' := 141) rfl (hb hby at_134) rfl ((if0 _ _).trans (flt (show ¬ ((5 : Int32) < (0 : Int32)) from by decide)).2.1) (by decide) (by decide)) ?_
      show own_Ends p e below T19 (mkF m 141 #[.val (.int p0), .val (.int p1), .val (.ref b1), .val (.ref b10), .val (.int x), .val (.int (5 : Int32)), .unset] []) _
      refine own_go (fun _ => XS.aloadN X19.here hx rfl (hb hby at_141) rfl rfl) ?_
      show own_Ends p e below T19 (mkF m 142 #[.val (.int p0), .val (.int p1), .val (.ref b1), .val (.ref b10), .val (.int x), .val (.int (5 : Int32)), .unset] [(.ref b10)]) _
      refine own_go (fun _ => XS.iload X19.here hx rfl (hb hby at_142) rfl) ?_
      show own_Ends p e below T19 (mkF m 144 #[.val (.int p0), .val (.int p1), .val (.ref b1), .val (.ref b10), .val (.int x), .val (.int (5 : Int32)), .unset] [(.int (5 : Int32)), (.ref b10)]) _
      obtain ⟨cl_30, Ar_30, q_30, S_30, M_30, H_30, G_30⟩ := V_b10_18
      have hin30 : ¬ ((5 : Int32) < 0 ∨ cl_30.slots.size ≤ ((5 : Int32)).toNatClampNeg) := inb_of S_30 ⟨by decide, by decide⟩
      have hat30 : cl_30.slots[((5 : Int32)).toNatClampNeg]? = some (.int (34 : Int32)) := Has.at H_30 hin30 (rfl)
      refine own_go (X19.iaload hx (j := (5 : Int32)) (v := (.int (34 : Int32))) (by rw [eh19]; exact Ar_30.1) (State.isArrayOf_alike hZ.alike Ar_30.2.1) Ar_30.2.2 hin30 hat30 (g := (mkF m 144 #[.val (.int p0), .val (.int p1), .val (.ref b1), .val (.ref b10), .val (.int x), .val (.int (5 : Int32)), .unset] [(.int (5 : Int32)), (.ref b10)])) rfl rfl (hb hby at_144)) ?_
      have V_b10_r30 : Arv Z h18 b10 k10 .int (8 : Int32) [(.int (9 : Int32)), (.int (8 : Int32)), (.int (10 : Int32)), (.int (13 : Int32)), (.int (12 : Int32)), (.int (34 : Int32)), (.int (39 : Int32)), (.int (92 : Int32))] (.int (0 : Int32)) := ⟨cl_30, Ar_30, q_30, S_30, M_30, H_30, G_30⟩
      show own_Ends p e below T19 (mkF m 145 #[.val (.int p0), .val (.int p1), .val (.ref b1), .val (.ref b10), .val (.int x), .val (.int (5 : Int32)), .unset] [(.int (34 : Int32))]) _
      refine own_go (fun _ => XS.istore X19.here hx rfl (hb hby at_145) rfl (l' := #[.val (.int p0), .val (.int p1), .val (.ref b1), .val (.ref b10), .val (.int x), .val (.int (5 : Int32)), .val (.int (34 : Int32))]) rfl) ?_
      show own_Ends p e below T19 (mkF m 147 #[.val (.int p0), .val (.int p1), .val (.ref b1), .val (.ref b10), .val (.int x), .val (.int (5 : Int32)), .val (.int (34 : Int32))] []) _
      refine own_go (fun _ => XS.iload X19.here hx rfl (hb hby at_147) rfl) ?_
      show own_Ends p e below T19 (mkF m 149 #[.val (.int p0), .val (.int p1), .val (.ref b1), .val (.ref b10), .val (.int x), .val (.int (5 : Int32)), .val (.int (34 : Int32))] [(.int x)]) _
      obtain ⟨_, _, ⟨T31, L31, k31, n31⟩, -, X31, ⟨Lc31, hQ31, l31, y31, z31⟩, st31⟩ := Jvm.LawKit.callS X19 hx (y := (⟨"com/example/graphtide/graphtide/rdf/CharClasses", "unescape", "(I)I"⟩ : MethodName)) hown (mvT hZ (hw _ (List.mem_of_getElem? (i := 5) rfl))) (mvT hZ (hw _ (List.mem_of_getElem? (i := 6) rfl))) (mvT hZ (hw _ (List.mem_of_getElem? (i := 7) rfl))) (mvT hZ (hw _ (List.mem_of_getElem? (i := 8) rfl))) (by decide) (backOf (W := 0) (rmUne l Z a0 hw [] x  h18 n0 Z18 ) hZ (hw _ (List.mem_of_getElem? (i := 8) rfl)) (hw _ (List.mem_of_getElem? (i := 7) rfl)) (by decide) (by decide)) (g := (mkF m 149 #[.val (.int p0), .val (.int p1), .val (.ref b1), .val (.ref b10), .val (.int x), .val (.int (5 : Int32)), .val (.int (34 : Int32))] [(.int x)])) rfl (by rw [hml]; rfl) (argsL := [(.int x)]) (rest := []) (lenOf pd_1 rfl) rfl (by show 2 * 0 + _ ≤ _; exact Nat.le_of_eq rfl) (hb hby at_149) (fun _ _ => ⟨rfl, eh19, (by decide : 2 + 0 ≤ _), (by decide : 16 + 0 ≤ _)⟩)
      dsimp only [Pt.U, Pt.locs, Pt.cells, Pt.slots] at X31 l31 y31 z31 st31 hQ31
      subst l31 y31 z31
      refine own_go st31 ?_
      obtain ⟨rfl, N31q, eh31⟩ := hQ31
      have N31 := Fr.app N19 N31q
      show own_Ends p e below T31 (mkF m 152 #[.val (.int p0), .val (.int p1), .val (.ref b1), .val (.ref b10), .val (.int x), .val (.int (5 : Int32)), .val (.int (34 : Int32))] [(.int (own_une x))]) _
      refine own_go (fun _ => XS.iload X31.here hx rfl (hb hby at_152) rfl) ?_
      show own_Ends p e below T31 (mkF m 154 #[.val (.int p0), .val (.int p1), .val (.ref b1), .val (.ref b10), .val (.int x), .val (.int (5 : Int32)), .val (.int (34 : Int32))] [(.int (34 : Int32)), (.int (own_une x))]) _
      refine own_go (fun _ => XS.icmpNo X31.here hx rfl (hb hby at_154) rfl (teq (show (own_une x) = (34 : Int32) from hi.2)).2) ?_
      show own_Ends p e below T31 (mkF m 157 #[.val (.int p0), .val (.int p1), .val (.ref b1), .val (.ref b10), .val (.int x), .val (.int (5 : Int32)), .val (.int (34 : Int32))] []) _
      refine own_go (fun _ => XS.iconst X31.here hx rfl (hb hby at_157)) ?_
      show own_Ends p e below T31 (mkF m 158 #[.val (.int p0), .val (.int p1), .val (.ref b1), .val (.ref b10), .val (.int x), .val (.int (5 : Int32)), .val (.int (34 : Int32))] [(.int (1 : Int32))]) _
      refine own_go (fun _ => XS.goto X31.here hx rfl (pc0 := 158) (pc' := 162) rfl (hb hby at_158) (by decide) (by decide)) ?_
      show own_Ends p e below T31 (mkF m 162 #[.val (.int p0), .val (.int p1), .val (.ref b1), .val (.ref b10), .val (.int x), .val (.int (5 : Int32)), .val (.int (34 : Int32))] [(.int (1 : Int32))]) _
      obtain ⟨fs, hr, hrun, hended, hW, hsame⟩ := X31.leave (v := some (.int (1 : Int32))) (fun h => by rw [Bd.returns] at h; cases h)
      refine ⟨_, _, retN X31 hx (t := .boolean) Bd.returns (by simp) (hb hby at_162) hr, hrun, hended, _, _, rfl, ?_, ⟨_, rfl⟩, hW, hsame.mono (by decide) (by decide)⟩
      show Q_rm0 Z p0 p1 h0 n0 _ T31.heap _
      rw [eh31]
      exact ⟨rfl, N31⟩
    · rw [hi.1]
      show own_Ends p e below T19 (mkF m 132 #[.val (.int p0), .val (.int p1), .val (.ref b1), .val (.ref b10), .val (.int x), .val (.int (6 : Int32)), .unset] []) _
      refine own_go (fun _ => XS.iload X19.here hx rfl (hb hby at_132) rfl) ?_
      show own_Ends p e below T19 (mkF m 134 #[.val (.int p0), .val (.int p1), .val (.ref b1), .val (.ref b10), .val (.int x), .val (.int (6 : Int32)), .unset] [(.int (6 : Int32))]) _
      refine own_go (fun _ => XS.ifYes X19.here hx rfl (pc0 := 134) (pc' := 141) rfl (hb hby at_134) rfl ((if0 _ _).trans (flt (show ¬ ((6 : Int32) < (0 : Int32)) from by decide)).2.1) (by decide) (by decide)) ?_
      show own_Ends p e below T19 (mkF m 141 #[.val (.int p0), .val (.int p1), .val (.ref b1), .val (.ref b10), .val (.int x), .val (.int (6 : Int32)), .unset] []) _
      refine own_go (fun _ => XS.aloadN X19.here hx rfl (hb hby at_141) rfl rfl) ?_
      show own_Ends p e below T19 (mkF m 142 #[.val (.int p0), .val (.int p1), .val (.ref b1), .val (.ref b10), .val (.int x), .val (.int (6 : Int32)), .unset] [(.ref b10)]) _
      refine own_go (fun _ => XS.iload X19.here hx rfl (hb hby at_142) rfl) ?_
      show own_Ends p e below T19 (mkF m 144 #[.val (.int p0), .val (.int p1), .val (.ref b1), .val (.ref b10), .val (.int x), .val (.int (6 : Int32)), .unset] [(.int (6 : Int32)), (.ref b10)]) _
      obtain ⟨cl_32, Ar_32, q_32, S_32, M_32, H_32, G_32⟩ := V_b10_18
      have hin32 : ¬ ((6 : Int32) < 0 ∨ cl_32.slots.size ≤ ((6 : Int32)).toNatClampNeg) := inb_of S_32 ⟨by decide, by decide⟩
      have hat32 : cl_32.slots[((6 : Int32)).toNatClampNeg]? = some (.int (39 : Int32)) := Has.at H_32 hin32 (rfl)
      refine own_go (X19.iaload hx (j := (6 : Int32)) (v := (.int (39 : Int32))) (by rw [eh19]; exact Ar_32.1) (State.isArrayOf_alike hZ.alike Ar_32.2.1) Ar_32.2.2 hin32 hat32 (g := (mkF m 144 #[.val (.int p0), .val (.int p1), .val (.ref b1), .val (.ref b10), .val (.int x), .val (.int (6 : Int32)), .unset] [(.int (6 : Int32)), (.ref b10)])) rfl rfl (hb hby at_144)) ?_
      have V_b10_r32 : Arv Z h18 b10 k10 .int (8 : Int32) [(.int (9 : Int32)), (.int (8 : Int32)), (.int (10 : Int32)), (.int (13 : Int32)), (.int (12 : Int32)), (.int (34 : Int32)), (.int (39 : Int32)), (.int (92 : Int32))] (.int (0 : Int32)) := ⟨cl_32, Ar_32, q_32, S_32, M_32, H_32, G_32⟩
      show own_Ends p e below T19 (mkF m 145 #[.val (.int p0), .val (.int p1), .val (.ref b1), .val (.ref b10), .val (.int x), .val (.int (6 : Int32)), .unset] [(.int (39 : Int32))]) _
      refine own_go (fun _ => XS.istore X19.here hx rfl (hb hby at_145) rfl (l' := #[.val (.int p0), .val (.int p1), .val (.ref b1), .val (.ref b10), .val (.int x), .val (.int (6 : Int32)), .val (.int (39 : Int32))]) rfl) ?_
      show own_Ends p e below T19 (mkF m 147 #[.val (.int p0), .val (.int p1), .val (.ref b1), .val (.ref b10), .val (.int x), .val (.int (6 : Int32)), .val (.int (39 : Int32))] []) _
      refine own_go (fun _ => XS.iload X19.here hx rfl (hb hby at_147) rfl) ?_
      show own_Ends p e below T19 (mkF m 149 #[.val (.int p0), .val (.int p1), .val (.ref b1), .val (.ref b10), .val (.int x), .val (.int (6 : Int32)), .val (.int (39 : Int32))] [(.int x)]) _
      obtain ⟨_, _, ⟨T33, L33, k33, n33⟩, -, X33, ⟨Lc33, hQ33, l33, y33, z33⟩, st33⟩ := Jvm.LawKit.callS X19 hx (y := (⟨"com/example/graphtide/graphtide/rdf/CharClasses", "unescape", "(I)I"⟩ : MethodName)) hown (mvT hZ (hw _ (List.mem_of_getElem? (i := 5) rfl))) (mvT hZ (hw _ (List.mem_of_getElem? (i := 6) rfl))) (mvT hZ (hw _ (List.mem_of_getElem? (i := 7) rfl))) (mvT hZ (hw _ (List.mem_of_getElem? (i := 8) rfl))) (by decide) (backOf (W := 0) (rmUne l Z a0 hw [] x  h18 n0 Z18 ) hZ (hw _ (List.mem_of_getElem? (i := 8) rfl)) (hw _ (List.mem_of_getElem? (i := 7) rfl)) (by decide) (by decide)) (g := (mkF m 149 #[.val (.int p0), .val (.int p1), .val (.ref b1), .val (.ref b10), .val (.int x), .val (.int (6 : Int32)), .val (.int (39 : Int32))] [(.int x)])) rfl (by rw [hml]; rfl) (argsL := [(.int x)]) (rest := []) (lenOf pd_1 rfl) rfl (by show 2 * 0 + _ ≤ _; exact Nat.le_of_eq rfl) (hb hby at_149) (fun _ _ => ⟨rfl, eh19, (by decide : 2 + 0 ≤ _), (by decide : 16 + 0 ≤ _)⟩)
      dsimp only [Pt.U, Pt.locs, Pt.cells, Pt.slots] at X33 l33 y33 z33 st33 hQ33
      subst l33 y33 z33
      refine own_go st33 ?_
      obtain ⟨rfl, N33q, eh33⟩ := hQ33
      have N33 := Fr.app N19 N33q
      show own_Ends p e below T33 (mkF m 152 #[.val (.int p0), .val (.int p1), .val (.ref b1), .val (.ref b10), .val (.int x), .val (.int (6 : Int32)), .val (.int (39 : Int32))] [(.int (own_une x))]) _
      refine own_go (fun _ => XS.iload X33.here hx rfl (hb hby at_152) rfl) ?_
      show own_Ends p e below T33 (mkF m 154 #[.val (.int p0), .val (.int p1), .val (.ref b1), .val (.ref b10), .val (.int x), .val (.int (6 : Int32)), .val (.int (39 : Int32))] [(.int (39 : Int32)), (.int (own_une x))]) _
      refine own_go (fun _ => XS.icmpNo X33.here hx rfl (hb hby at_154) rfl (teq (show (own_une x) = (39 : Int32) from hi.2)).2) ?_
      show own_Ends p e below T33 (mkF m 157 #[.val (.int p0), .val (.int p1), .val (.ref b1), .val (.ref b10), .val (.int x), .val (.int (6 : Int32)), .val (.int (39 : Int32))] []) _
      refine own_go (fun _ => XS.iconst X33.here hx rfl (hb hby at_157)) ?_
      show own_Ends p e below T33 (mkF m 158 #[.val (.int p0), .val (.int p1), .val (.ref b1), .val (.ref b10), .val (.int x), .val (.int (6 : Int32)), .val (.int (39 : Int32))] [(.int (1 : Int32))]) _
      refine own_go (fun _ => XS.goto X33.here hx rfl (pc0 := 158) (pc' := 162) rfl (hb hby at_158) (by decide) (by decide)) ?_
      show own_Ends p e below T33 (mkF m 162 #[.val (.int p0), .val (.int p1), .val (.ref b1), .val (.ref b10), .val (.int x), .val (.int (6 : Int32)), .val (.int (39 : Int32))] [(.int (1 : Int32))]) _
      obtain ⟨fs, hr, hrun, hended, hW, hsame⟩ := X33.leave (v := some (.int (1 : Int32))) (fun h => by rw [Bd.returns] at h; cases h)
      refine ⟨_, _, retN X33 hx (t := .boolean) Bd.returns (by simp) (hb hby at_162) hr, hrun, hended, _, _, rfl, ?_, ⟨_, rfl⟩, hW, hsame.mono (by decide) (by decide)⟩
      show Q_rm0 Z p0 p1 h0 n0 _ T33.heap _
      rw [eh33]
      exact ⟨rfl, N33⟩
    · rw [hi.1]
      show own_Ends p e below T19 (mkF m 132 #[.val (.int p0), .val (.int p1), .val (.ref b1), .val (.ref b10), .val (.int x), .val (.int (7 : Int32)), .unset] []) _
      refine own_go (fun _ => XS.iload X19.here hx rfl (hb hby at_132) rfl) ?_
      show own_Ends p e below T19 (mkF m 134 #[.val (.int p0), .val (.int p1), .val (.ref b1), .val (.ref b10), .val (.int x), .val (.int (7 : Int32)), .unset] [(.int (7 : Int32))]) _
      refine own_go (fun _ => XS.ifYes X19.here hx rfl (pc0 := 134) (pc' := 141) rfl (hb hby at_134) rfl ((if0 _ _).trans (flt (show ¬ ((7 : Int32) < (0 : Int32)) from by decide)).2.1) (by decide) (by decide)) ?_
      show own_Ends p e below T19 (mkF m 141 #[.val (.int p0), .val (.int p1), .val (.ref b1), .val (.ref b10), .val (.int x), .val (.int (7 : Int32)), .unset] []) _
      refine own_go (fun _ => XS.aloadN X19.here hx rfl (hb hby at_141) rfl rfl) ?_
      show own_Ends p e below T19 (mkF m 142 #[.val (.int p0), .val (.int p1), .val (.ref b1), .val (.ref b10), .val (.int x), .val (.int (7 : Int32)), .unset] [(.ref b10)]) _
      refine own_go (fun _ => XS.iload X19.here hx rfl (hb hby at_142) rfl) ?_
      show own_Ends p e below T19 (mkF m 144 #[.val (.int p0), .val (.int p1), .val (.ref b1), .val (.ref b10), .val (.int x), .val (.int (7 : Int32)), .unset] [(.int (7 : Int32)), (.ref b10)]) _
      obtain ⟨cl_34, Ar_34, q_34, S_34, M_34, H_34, G_34⟩ := V_b10_18
      have hin34 : ¬ ((7 : Int32) < 0 ∨ cl_34.slots.size ≤ ((7 : Int32)).toNatClampNeg) := inb_of S_34 ⟨by decide, by decide⟩
      have hat34 : cl_34.slots[((7 : Int32)).toNatClampNeg]? = some (.int (92 : Int32)) := Has.at H_34 hin34 (rfl)
      refine own_go (X19.iaload hx (j := (7 : Int32)) (v := (.int (92 : Int32))) (by rw [eh19]; exact Ar_34.1) (State.isArrayOf_alike hZ.alike Ar_34.2.1) Ar_34.2.2 hin34 hat34 (g := (mkF m 144 #[.val (.int p0), .val (.int p1), .val (.ref b1), .val (.ref b10), .val (.int x), .val (.int (7 : Int32)), .unset] [(.int (7 : Int32)), (.ref b10)])) rfl rfl (hb hby at_144)) ?_
      have V_b10_r34 : Arv Z h18 b10 k10 .int (8 : Int32) [(.int (9 : Int32)), (.int (8 : Int32)), (.int (10 : Int32)), (.int (13 : Int32)), (.int (12 : Int32)), (.int (34 : Int32)), (.int (39 : Int32)), (.int (92 : Int32))] (.int (0 : Int32)) := ⟨cl_34, Ar_34, q_34, S_34, M_34, H_34, G_34⟩
      show own_Ends p e below T19 (mkF m 145 #[.val (.int p0), .val (.int p1), .val (.ref b1), .val (.ref b10), .val (.int x), .val (.int (7 : Int32)), .unset] [(.int (92 : Int32))]) _
      refine own_go (fun _ => XS.istore X19.here hx rfl (hb hby at_145) rfl (l' := #[.val (.int p0), .val (.int p1), .val (.ref b1), .val (.ref b10), .val (.int x), .val (.int (7 : Int32)), .val (.int (92 : Int32))]) rfl) ?_
      show own_Ends p e below T19 (mkF m 147 #[.val (.int p0), .val (.int p1), .val (.ref b1), .val (.ref b10), .val (.int x), .val (.int (7 : Int32)), .val (.int (92 : Int32))] []) _
      refine own_go (fun _ => XS.iload X19.here hx rfl (hb hby at_147) rfl) ?_
      show own_Ends p e below T19 (mkF m 149 #[.val (.int p0), .val (.int p1), .val (.ref b1), .val (.ref b10), .val (.int x), .val (.int (7 : Int32)), .val (.int (92 : Int32))] [(.int x)]) _
      obtain ⟨_, _, ⟨T35, L35, k35, n35⟩, -, X35, ⟨Lc35, hQ35, l35, y35, z35⟩, st35⟩ := Jvm.LawKit.callS X19 hx (y := (⟨"com/example/graphtide/graphtide/rdf/CharClasses", "unescape", "(I)I"⟩ : MethodName)) hown (mvT hZ (hw _ (List.mem_of_getElem? (i := 5) rfl))) (mvT hZ (hw _ (List.mem_of_getElem? (i := 6) rfl))) (mvT hZ (hw _ (List.mem_of_getElem? (i := 7) rfl))) (mvT hZ (hw _ (List.mem_of_getElem? (i := 8) rfl))) (by decide) (backOf (W := 0) (rmUne l Z a0 hw [] x  h18 n0 Z18 ) hZ (hw _ (List.mem_of_getElem? (i := 8) rfl)) (hw _ (List.mem_of_getElem? (i := 7) rfl)) (by decide) (by decide)) (g := (mkF m 149 #[.val (.int p0), .val (.int p1), .val (.ref b1), .val (.ref b10), .val (.int x), .val (.int (7 : Int32)), .val (.int (92 : Int32))] [(.int x)])) rfl (by rw [hml]; rfl) (argsL := [(.int x)]) (rest := []) (lenOf pd_1 rfl) rfl (by show 2 * 0 + _ ≤ _; exact Nat.le_of_eq rfl) (hb hby at_149) (fun _ _ => ⟨rfl, eh19, (by decide : 2 + 0 ≤ _), (by decide : 16 + 0 ≤ _)⟩)
      dsimp only [Pt.U, Pt.locs, Pt.cells, Pt.slots] at X35 l35 y35 z35 st35 hQ35
      subst l35 y35 z35
      refine own_go st35 ?_
      obtain ⟨rfl, N35q, eh35⟩ := hQ35
      have N35 := Fr.app N19 N35q
      show own_Ends p e below T35 (mkF m 152 #[.val (.int p0), .val (.int p1), .val (.ref b1), .val (.ref b10), .val (.int x), .val (.int (7 : Int32)), .val (.int (92 : Int32))] [(.int (own_une x))]) _
      refine own_go (fun _ => XS.iload X35.here hx rfl (hb hby at_152) rfl) ?_
      show own_Ends p e below T35 (mkF m 154 #[.val (.int p0), .val (.int p1), .val (.ref b1), .val (.ref b10), .val (.int x), .val (.int (7 : Int32)), .val (.int (92 : Int32))] [(.int (92 : Int32)), (.int (own_une x))]) _
      refine own_go (fun _ => XS.icmpNo X35.here hx rfl (hb hby at_154) rfl (teq (show (own_une x) = (92 : Int32) from hi.2)).2) ?_
      show own_Ends p e below T35 (mkF m 157 #[.val (.int p0), .val (.int p1), .val (.ref b1), .val (.ref b10), .val (.int x), .val (.int (7 : Int32)), .val (.int (92 : Int32))] []) _
      refine own_go (fun _ => XS.iconst X35.here hx rfl (hb hby at_157)) ?_
      show own_Ends p e below T35 (mkF m 158 #[.val (.int p0), .val (.int p1), .val (.ref b1), .val (.ref b10), .val (.int x), .val (.int (7 : Int32)), .val (.int (92 : Int32))] [(.int (1 : Int32))]) _
      refine own_go (fun _ => XS.goto X35.here hx rfl (pc0 := 158) (pc' := 162) rfl (hb hby at_158) (by decide) (by decide)) ?_
      show own_Ends p e below T35 (mkF m 162 #[.val (.int p0), .val (.int p1), .val (.ref b1), .val (.ref b10), .val (.int x), .val (.int (7 : Int32)), .val (.int (92 : Int32))] [(.int (1 : Int32))]) _
      obtain ⟨fs, hr, hrun, hended, hW, hsame⟩ := X35.leave (v := some (.int (1 : Int32))) (fun h => by rw [Bd.returns] at h; cases h)
      refine ⟨_, _, retN X35 hx (t := .boolean) Bd.returns (by simp) (hb hby at_162) hr, hrun, hended, _, _, rfl, ?_, ⟨_, rfl⟩, hW, hsame.mono (by decide) (by decide)⟩
      show Q_rm0 Z p0 p1 h0 n0 _ T35.heap _
      rw [eh35]
      exact ⟨rfl, N35⟩
    · rw [hi.1]
      show own_Ends p e below T19 (mkF m 132 #[.val (.int p0), .val (.int p1), .val (.ref b1), .val (.ref b10), .val (.int x), .val (.int (-1 : Int32)), .unset] []) _
      refine own_go (fun _ => XS.iload X19.here hx rfl (hb hby at_132) rfl) ?_
      show own_Ends p e below T19 (mkF m 134 #[.val (.int p0), .val (.int p1), .val (.ref b1), .val (.ref b10), .val (.int x), .val (.int (-1 : Int32)), .unset] [(.int (-1 : Int32))]) _
      refine own_go (fun _ => XS.ifNo X19.here hx rfl (hb hby at_134) rfl ((if0 _ _).trans (tlt (show (-1 : Int32) < (0 : Int32) from by decide)).2.1)) ?_
      show own_Ends p e below T19 (mkF m 137 #[.val (.int p0), .val (.int p1), .val (.ref b1), .val (.ref b10), .val (.int x), .val (.int (-1 : Int32)), .unset] []) _
      refine own_go (fun _ => XS.iconst X19.here hx rfl (hb hby at_137)) ?_
      show own_Ends p e below T19 (mkF m 138 #[.val (.int p0), .val (.int p1), .val (.ref b1), .val (.ref b10), .val (.int x), .val (.int (-1 : Int32)), .unset] [(.int (-1 : Int32))]) _
      refine own_go (fun _ => XS.goto X19.here hx rfl (pc0 := 138) (pc' := 145) rfl (hb hby at_138) (by decide) (by decide)) ?_
      show own_Ends p e below T19 (mkF m 145 #[.val (.int p0), .val (.int p1), .val (.ref b1), .val (.ref b10), .val (.int x), .val (.int (-1 : Int32)), .unset] [(.int (-1 : Int32))]) _
      refine own_go (fun _ => XS.istore X19.here hx rfl (hb hby at_145) rfl (l' := #[.val (.int p0), .val (.int p1), .val (.ref b1), .val (.ref b10), .val (.int x), .val (.int (-1 : Int32)), .val (.int (-1 : Int32))]) rfl) ?_
      show own_Ends p e below T19 (mkF m 147 #[.val (.int p0), .val (.int p1), .val (.ref b1), .val (.ref b10), .val (.int x), .val (.int (-1 : Int32)), .val (.int (-1 : Int32))] []) _
      refine own_go (fun _ => XS.iload X19.here hx rfl (hb hby at_147) rfl) ?_
      show own_Ends p e below T19 (mkF m 149 #[.val (.int p0), .val (.int p1), .val (.ref b1), .val (.ref b10), .val (.int x), .val (.int (-1 : Int32)), .val (.int (-1 : Int32))] [(.int x)]) _
      obtain ⟨_, _, ⟨T36, L36, k36, n36⟩, -, X36, ⟨Lc36, hQ36, l36, y36, z36⟩, st36⟩ := Jvm.LawKit.callS X19 hx (y := (⟨"com/example/graphtide/graphtide/rdf/CharClasses", "unescape", "(I)I"⟩ : MethodName)) hown (mvT hZ (hw _ (List.mem_of_getElem? (i := 5) rfl))) (mvT hZ (hw _ (List.mem_of_getElem? (i := 6) rfl))) (mvT hZ (hw _ (List.mem_of_getElem? (i := 7) rfl))) (mvT hZ (hw _ (List.mem_of_getElem? (i := 8) rfl))) (by decide) (backOf (W := 0) (rmUne l Z a0 hw [] x  h18 n0 Z18 ) hZ (hw _ (List.mem_of_getElem? (i := 8) rfl)) (hw _ (List.mem_of_getElem? (i := 7) rfl)) (by decide) (by decide)) (g := (mkF m 149 #[.val (.int p0), .val (.int p1), .val (.ref b1), .val (.ref b10), .val (.int x), .val (.int (-1 : Int32)), .val (.int (-1 : Int32))] [(.int x)])) rfl (by rw [hml]; rfl) (argsL := [(.int x)]) (rest := []) (lenOf pd_1 rfl) rfl (by show 2 * 0 + _ ≤ _; exact Nat.le_of_eq rfl) (hb hby at_149) (fun _ _ => ⟨rfl, eh19, (by decide : 2 + 0 ≤ _), (by decide : 16 + 0 ≤ _)⟩)
      dsimp only [Pt.U, Pt.locs, Pt.cells, Pt.slots] at X36 l36 y36 z36 st36 hQ36
      subst l36 y36 z36
      refine own_go st36 ?_
      obtain ⟨rfl, N36q, eh36⟩ := hQ36
      have N36 := Fr.app N19 N36q
      show own_Ends p e below T36 (mkF m 152 #[.val (.int p0), .val (.int p1), .val (.ref b1), .val (.ref b10), .val (.int x), .val (.int (-1 : Int32)), .val (.int (-1 : Int32))] [(.int (own_une x))]) _
      refine own_go (fun _ => XS.iload X36.here hx rfl (hb hby at_152) rfl) ?_
      show own_Ends p e below T36 (mkF m 154 #[.val (.int p0), .val (.int p1), .val (.ref b1), .val (.ref b10), .val (.int x), .val (.int (-1 : Int32)), .val (.int (-1 : Int32))] [(.int (-1 : Int32)), (.int (own_une x))]) _
      refine own_go (fun _ => XS.icmpNo X36.here hx rfl (hb hby at_154) rfl (teq (show (own_une x) = (-1 : Int32) from hi.2)).2) ?_
      show own_Ends p e below T36 (mkF m 157 #[.val (.int p0), .val (.int p1), .val (.ref b1), .val (.ref b10), .val (.int x), .val (.int (-1 : Int32)), .val (.int (-1 : Int32))] []) _
      refine own_go (fun _ => XS.iconst X36.here hx rfl (hb hby at_157)) ?_
      show own_Ends p e below T36 (mkF m 158 #[.val (.int p0), .val (.int p1), .val (.ref b1), .val (.ref b10), .val (.int x), .val (.int (-1 : Int32)), .val (.int (-1 : Int32))] [(.int (1 : Int32))]) _
      refine own_go (fun _ => XS.goto X36.here hx rfl (pc0 := 158) (pc' := 162) rfl (hb hby at_158) (by decide) (by decide)) ?_
      show own_Ends p e below T36 (mkF m 162 #[.val (.int p0), .val (.int p1), .val (.ref b1), .val (.ref b10), .val (.int x), .val (.int (-1 : Int32)), .val (.int (-1 : Int32))] [(.int (1 : Int32))]) _
      obtain ⟨fs, hr, hrun, hended, hW, hsame⟩ := X36.leave (v := some (.int (1 : Int32))) (fun h => by rw [Bd.returns] at h; cases h)
      refine ⟨_, _, retN X36 hx (t := .boolean) Bd.returns (by simp) (hb hby at_162) hr, hrun, hended, _, _, rfl, ?_, ⟨_, rfl⟩, hW, hsame.mono (by decide) (by decide)⟩
      show Q_rm0 Z p0 p1 h0 n0 _ T36.heap _
      rw [eh36]
      exact ⟨rfl, N36⟩
  refine own_go (fun _ => XS.iloadN X18.here hx rfl (hb hby at_94) rfl) ?_
  show own_Ends p e below T18 (mkF m 95 #[.val (.int p0), .val (.int p1), .val (.ref b1), .val (.ref b10), .unset, .unset, .unset] [(.int p1)]) _
  refine own_go (fun _ => XS.iconst X18.here hx rfl (hb hby at_95)) ?_
  show own_Ends p e below T18 (mkF m 96 #[.val (.int p0), .val (.int p1), .val (.ref b1), .val (.ref b10), .unset, .unset, .unset] [(.int (5 : Int32)), (.int p1)]) _
  refine own_go (fun _ => XS.iushr X18.here hx rfl (hb hby at_96) rfl) ?_
  show own_Ends p e below T18 (mkF m 97 #[.val (.int p0), .val (.int p1), .val (.ref b1), .val (.ref b10), .unset, .unset, .unset] [(.int ((p1.toUInt32 >>> ((5 : Int32) &&& 31).toUInt32).toInt32))]) _
  refine own_go (fun _ => XS.iconst X18.here hx rfl (hb hby at_97)) ?_
  show own_Ends p e below T18 (mkF m 98 #[.val (.int p0), .val (.int p1), .val (.ref b1), .val (.ref b10), .unset, .unset, .unset] [(.int (1 : Int32)), (.int ((p1.toUInt32 >>> ((5 : Int32) &&& 31).toUInt32).toInt32))]) _
  refine own_go (fun _ => XS.iand X18.here hx rfl (hb hby at_98) rfl) ?_
  show own_Ends p e below T18 (mkF m 99 #[.val (.int p0), .val (.int p1), .val (.ref b1), .val (.ref b10), .unset, .unset, .unset] [(.int (((p1.toUInt32 >>> ((5 : Int32) &&& 31).toUInt32).toInt32) &&& (1 : Int32)))]) _
  by_cases hc99 : (((p1.toUInt32 >>> ((5 : Int32) &&& 31).toUInt32).toInt32) &&& (1 : Int32)) = (0 : Int32)
  · refine own_go (fun _ => XS.ifNo X18.here hx rfl (hb hby at_99) rfl ((if0 _ _).trans (teq hc99).2)) ?_
    show own_Ends p e below T18 (mkF m 102 #[.val (.int p0), .val (.int p1), .val (.ref b1), .val (.ref b10), .unset, .unset, .unset] []) _
    refine own_go (fun _ => XS.iloadN X18.here hx rfl (hb hby at_102) rfl) ?_
    show own_Ends p e below T18 (mkF m 103 #[.val (.int p0), .val (.int p1), .val (.ref b1), .val (.ref b10), .unset, .unset, .unset] [(.int p0)]) _
    refine own_go (fun _ => XS.istore X18.here hx rfl (hb hby at_103) rfl (l' := #[.val (.int p0), .val (.int p1), .val (.ref b1), .val (.ref b10), .val (.int p0), .unset, .unset]) rfl) ?_
    show own_Ends p e below T18 (mkF m 105 #[.val (.int p0), .val (.int p1), .val (.ref b1), .val (.ref b10), .val (.int p0), .unset, .unset] []) _
    refine own_go (fun _ => XS.goto X18.here hx rfl (pc0 := 105) (pc' := 124) rfl (hb hby at_105) (by decide) (by decide)) ?_
    show own_Ends p e below T18 (mkF m 124 #[.val (.int p0), .val (.int p1), .val (.ref b1), .val (.ref b10), .val (.int p0), .unset, .unset] []) _
    exact J124 _
  · refine own_go (fun _ => XS.ifYes X18.here hx rfl (pc0 := 99) (pc' := 108) rfl (hb hby at_99) rfl ((if0 _ _).trans (feq hc99).2) (by decide) (by decide)) ?_
    show own_Ends p e below T18 (mkF m 108 #[.val (.int p0), .val (.int p1), .val (.ref b1), .val (.ref b10), .unset, .unset, .unset] []) _
    refine own_go (fun _ => XS.aloadN X18.here hx rfl (hb hby at_108) rfl rfl) ?_
    show own_Ends p e below T18 (mkF m 109 #[.val (.int p0), .val (.int p1), .val (.ref b1), .val (.ref b10), .unset, .unset, .unset] [(.ref b1)]) _
    refine own_go (fun _ => XS.iloadN X18.here hx rfl (hb hby at_109) rfl) ?_
    show own_Ends p e below T18 (mkF m 110 #[.val (.int p0), .val (.int p1), .val (.ref b1), .val (.ref b10), .unset, .unset, .unset] [(.int p1), (.ref b1)]) _
    refine own_go (fun _ => XS.bipush X18.here hx rfl (hb hby at_110)) ?_
    show own_Ends p e below T18 (mkF m 112 #[.val (.int p0), .val (.int p1), .val (.ref b1), .val (.ref b10), .unset, .unset, .unset] [(.int (7 : Int32)), (.int p1), (.ref b1)]) _
    refine own_go (fun _ => XS.iand X18.here hx rfl (hb hby at_112) rfl) ?_
    show own_Ends p e below T18 (mkF m 113 #[.val (.int p0), .val (.int p1), .val (.ref b1), .val (.ref b10), .unset, .unset, .unset] [(.int (p1 &&& (7 : Int32))), (.ref b1)]) _
    obtain ⟨cl_37, Ar_37, q_37, S_37, M_37, H_37, G_37⟩ := V_b1_9
    have hin37 : ¬ ((p1 &&& (7 : Int32)) < 0 ∨ cl_37.slots.size ≤ ((p1 &&& (7 : Int32))).toNatClampNeg) := inb_of S_37 (own_seven p1)
    have hat37 : cl_37.slots[((p1 &&& (7 : Int32))).toNatClampNeg]? = some (.int (own_key (p1 &&& (7 : Int32)))) := Has.at H_37 hin37 (own_getD [(116 : Int32), (98 : Int32), (110 : Int32), (114 : Int32), (102 : Int32), (34 : Int32), (39 : Int32), (92 : Int32)] _)
    refine own_go (X18.iaload hx (j := (p1 &&& (7 : Int32))) (v := (.int (own_key (p1 &&& (7 : Int32))))) (by rw [e18]; exact Ar_37.1) (State.isArrayOf_alike hZ.alike Ar_37.2.1) Ar_37.2.2 hin37 hat37 (g := (mkF m 113 #[.val (.int p0), .val (.int p1), .val (.ref b1), .val (.ref b10), .unset, .unset, .unset] [(.int (p1 &&& (7 : Int32))), (.ref b1)])) rfl rfl (hb hby at_113)) ?_
    have V_b1_r37 : Arv Z h18 b1 k1 .int (8 : Int32) [(.int (116 : Int32)), (.int (98 : Int32)), (.int (110 : Int32)), (.int (114 : Int32)), (.int (102 : Int32)), (.int (34 : Int32)), (.int (39 : Int32)), (.int (92 : Int32))] (.int (0 : Int32)) := ⟨cl_37, Ar_37, q_37, S_37, M_37, H_37, G_37⟩
    show own_Ends p e below T18 (mkF m 114 #[.val (.int p0), .val (.int p1), .val (.ref b1), .val (.ref b10), .unset, .unset, .unset] [(.int (own_key (p1 &&& (7 : Int32))))]) _
    refine own_go (fun _ => XS.iloadN X18.here hx rfl (hb hby at_114) rfl) ?_
    show own_Ends p e below T18 (mkF m 115 #[.val (.int p0), .val (.int p1), .val (.ref b1), .val (.ref b10), .unset, .unset, .unset] [(.int p1), (.int (own_key (p1 &&& (7 : Int32))))]) _
    refine own_go (fun _ => XS.iconst X18.here hx rfl (hb hby at_115)) ?_
    show own_Ends p e below T18 (mkF m 116 #[.val (.int p0), .val (.int p1), .val (.ref b1), .val (.ref b10), .unset, .unset, .unset] [(.int (3 : Int32)), (.int p1), (.int (own_key (p1 &&& (7 : Int32))))]) _
    refine own_go (fun _ => XS.iushr X18.here hx rfl (hb hby at_116) rfl) ?_
    show own_Ends p e below T18 (mkF m 117 #[.val (.int p0), .val (.int p1), .val (.ref b1), .val (.ref b10), .unset, .unset, .unset] [(.int ((p1.toUInt32 >>> ((3 : Int32) &&& 31).toUInt32).toInt32)), (.int (own_key (p1 &&& (7 : Int32))))]) _
    refine own_go (fun _ => XS.iconst X18.here hx rfl (hb hby at_117)) ?_
    show own_Ends p e below T18 (mkF m 118 #[.val (.int p0), .val (.int p1), .val (.ref b1), .val (.ref b10), .unset, .unset, .unset] [(.int (3 : Int32)), (.int ((p1.toUInt32 >>> ((3 : Int32) &&& 31).toUInt32).toInt32)), (.int (own_key (p1 &&& (7 : Int32))))]) _
    refine own_go (fun _ => XS.iand X18.here hx rfl (hb hby at_118) rfl) ?_
    show own_Ends p e below T18 (mkF m 119 #[.val (.int p0), .val (.int p1), .val (.ref b1), .val (.ref b10), .unset, .unset, .unset] [(.int (((p1.toUInt32 >>> ((3 : Int32) &&& 31).toUInt32).toInt32) &&& (3 : Int32))), (.int (own_key (p1 &&& (7 : Int32))))]) _
    refine own_go (fun _ => XS.iconst X18.here hx rfl (hb hby at_119)) ?_
    show own_Ends p e below T18 (mkF m 120 #[.val (.int p0), .val (.int p1), .val (.ref b1), .val (.ref b10), .unset, .unset, .unset] [(.int (1 : Int32)), (.int (((p1.toUInt32 >>> ((3 : Int32) &&& 31).toUInt32).toInt32) &&& (3 : Int32))), (.int (own_key (p1 &&& (7 : Int32))))]) _
    refine own_go (fun _ => XS.isub X18.here hx rfl (hb hby at_120) rfl) ?_
    show own_Ends p e below T18 (mkF m 121 #[.val (.int p0), .val (.int p1), .val (.ref b1), .val (.ref b10), .unset, .unset, .unset] [(.int ((((p1.toUInt32 >>> ((3 : Int32) &&& 31).toUInt32).toInt32) &&& (3 : Int32)) - (1 : Int32))), (.int (own_key (p1 &&& (7 : Int32))))]) _
    refine own_go (fun _ => XS.iadd X18.here hx rfl (hb hby at_121) rfl) ?_
    show own_Ends p e below T18 (mkF m 122 #[.val (.int p0), .val (.int p1), .val (.ref b1), .val (.ref b10), .unset, .unset, .unset] [(.int ((own_key (p1 &&& (7 : Int32))) + ((((p1.toUInt32 >>> ((3 : Int32) &&& 31).toUInt32).toInt32) &&& (3 : Int32)) - (1 : Int32))))]) _
    refine own_go (fun _ => XS.istore X18.here hx rfl (hb hby at_122) rfl (l' := #[.val (.int p0), .val (.int p1), .val (.ref b1), .val (.ref b10), .val (.int ((own_key (p1 &&& (7 : Int32))) + ((((p1.toUInt32 >>> ((3 : Int32) &&& 31).toUInt32).toInt32) &&& (3 : Int32)) - (1 : Int32)))), .unset, .unset]) rfl) ?_
    show own_Ends p e below T18 (mkF m 124 #[.val (.int p0), .val (.int p1), .val (.ref b1), .val (.ref b10), .val (.int ((own_key (p1 &&& (7 : Int32))) + ((((p1.toUInt32 >>> ((3 : Int32) &&& 31).toUInt32).toInt32) &&& (3 : Int32)) - (1 : Int32)))), .unset, .unset] []) _
    exact J124 _
set_option maxRecDepth 65536 in
set_option maxHeartbeats 40000000 in
theorem comes_1 {Post : Tables → Env → Array Value → State → Outcome → State → Prop} (hpost : ∀ tb e args s v u, (limb_1_1.after args s (.returned v) u = true ∧ limb_1_2.after args s (.returned v) u = true ∧ True) → FrameEnd s (.returned v) u (Jvm.fieldLocs frame_1_writes args s ++ Jvm.arrayLocs frame_1_arrays args s ++ Jvm.staticLocs frame_1_statics s) 16 128 → Post tb e args s (.returned v) u) :
    ArmFor flags0 classFile x code maxLocals ret World_1 tables_1 room_1 Calls_1 rest_1 Pre_1 Post := by
  intro l hfl _ _ p e ha hc hk s m args below hf hA hF happ hP
  obtain ⟨hcalls, hrest, hpre⟩ := hP
  obtain ⟨-, -, -, hnamed, -, -, -, hat⟩ := (Spec.applies_iff hf).mp happ
  obtain ⟨hg, hn⟩ := and_e (Cond.before_iff.mp (show (Jvm.Cond.and given_1 narrow_1).before args s = true from hpre))
  obtain ⟨gv1, gv2⟩ := and_e hg
  obtain ⟨gv3, gv4⟩ := and_e gv2
  obtain ⟨w0, w1, rfl⟩ : ∃ w0 w1 : Value, args = #[w0, w1] := by
    have hs : args.size = 2 := by simpa [Cond.value, given_1] using gv1
    obtain ⟨L⟩ := args
    match L, hs with
    | [w0, w1], _ => exact ⟨w0, w1, rfl⟩
  have hw := fun d (hd : d ∈ tables_1) => atoms_spec (ws := Jvm.Cond.code x code maxLocals ret :: tables_1) hat d (List.mem_cons_of_mem _ hd)
  obtain ⟨i0, ei0⟩ := is_v gv3
  obtain rfl : w0 = (.int i0) := Option.some.inj ei0
  obtain ⟨i1, ei1⟩ := is_v gv4
  obtain rfl : w1 = (.int i1) := Option.some.inj ei1
  obtain ⟨n, o, h1, h2, h3, _, L, rfl, ⟨rfl, N⟩, hq⟩ := rm0 l s _ hw tables_1 i0 i1 s.heap s.heap.size (Nat.le_refl _) p e ha hc hk s m _ below hf ((Spec.applies_iff_loose hf).mp happ).1 ⟨rfl, State.Warmed39.refl s, rfl⟩ trivial
  refine ⟨n, _, h1, h2, h3, hpost _ _ _ _ _ _ ⟨Cond.after_iff.mpr rfl, Cond.after_iff.mpr (eq_i res_at (Term.int_eval (1)) rfl), trivial⟩ ⟨hq.1, hq.2.1, (hq.2.2.sift fun y hy => Or.inr (N y hy)).mono (by decide) (by decide)⟩⟩
theorem main_1_1 : Claimed_1_1 := comes_1 fun _ _ _ _ _ _ h hF => ⟨h.1, hF⟩
theorem main_1_2 : Claimed_1_2 := comes_1 fun _ _ _ _ _ _ h hF => ⟨h.2.1, hF⟩
end Jvm.Pilot.@@N@@
namespace Jvm.Pilot.@@N@@
open Jvm Jvm.ClassFile Sem Op Lib Jvm.Free Jvm.Stand Jvm.Pilot.@@N@@.Jvm.D
/-! MADE BY PROGRAM (witnessworld.py) out of the Statement's table words and the real class files: 9 classes; the members and pool entries that the words name. The judged class is class 1, her method 1. -/
namespace start1
open Jvm.ClassFile
def u (s : String) : CpInfo := .utf8 (stringToUtf16 s)
/-- a pool by its gaps: so many unusable entries, then the entry; so many at the end -/
def gap : Nat → List CpInfo → List CpInfo
  | 0, r => r
  | n + 1, r => .unusable :: gap n r
def poolList (es : List (Nat × CpInfo)) (last : Nat) : List CpInfo := es.foldr (fun e r => gap e.1 (e.2 :: r)) (gap last [])
def pool (es : List (Nat × CpInfo)) (last : Nat) : Array CpInfo := ⟨poolList es last⟩
def fileOf (pool : Array CpInfo) (this : Nat) (attrs : Array Attribute := #[]) (ms : Array MethodInfo := #[]) (fl : Nat := 33) (sup : Nat := 0) (ifs : Array Nat := #[]) (fds : Array FieldInfo := #[]) : ClassFile where
  minorVersion := 0
  majorVersion := 65
  constantPool := pool
  accessFlags := fl
  thisClass := this
  superClass := sup
  interfaces := ifs
  fields := fds
  methods := ms
  attributes := attrs
def plain (name : String) (sup : Option ClassId) : Class where
  name := name
  kind := .ordinary
  loader := none
  accessFlags := 33
  super := sup
  interfaces := #[]
  cf := none
  fields := #[]
  methods := #[]
  instanceTypes := #[]
  staticTypes := #[]
  resolved := #[]
  callSites := []
  init := .initialized
  statics := none
  mirror := none

def pool0 : Array CpInfo := pool [(5, u "<init>"), (0, u "()V"), (1, .class_ 10), (1, u "java/lang/Object")] 113

def k0m0 : Method := { name := "<init>", desc := "()V", sig := { parameters := [], returnType := none }, accessFlags := 1, code := none }
/-- java/lang/Object -/
def k0 : Class := { plain "java/lang/Object" none with
  accessFlags := 33
  interfaces := #[]
  cf := some (fileOf pool0 8 #[] #[{ accessFlags := 1, nameIndex := 5, descriptorIndex := 6, attributes := #[] }] 33 0 #[] #[])
  fields := #[]
  methods := #[k0m0]
  instanceTypes := #[]
  staticTypes := #[]
  resolved := Array.replicate 124 none
  statics := none }

def pool1 : Array CpInfo := pool [(2, .class_ 4), (1, u "java/lang/Object"), (0, u "<init>"), (0, u "()V"), (0, .methodref 8 9), (0, .class_ 10), (0, .nameAndType 11 12), (0, u "com/example/graphtide/graphtide/rdf/CharClassesUnescapePinLaw"), (0, u "indexOf"), (0, u "([II)I"), (0, .methodref 14 15), (0, .class_ 16), (0, .nameAndType 17 18), (0, u "com/example/graphtide/graphtide/rdf/CharClasses"), (0, u "unescape"), (0, u "(I)I"), (2, u "law"), (0, u "(II)Z")] 5

def k1m0 : Method := { name := "<init>", desc := "()V", sig := { parameters := [], returnType := none }, accessFlags := 1, code := none }
def k1c1 : Code := { maxStack := 4, maxLocals := 7, code := code, exceptionTable := #[], attributes := #[] }
def k1m1 : Method := { name := "law", desc := "(II)Z", sig := { parameters := [.int, .int], returnType := some .boolean }, accessFlags := 9, code := some k1c1 }
def k1c2 : Code := { maxStack := 3, maxLocals := 2, code := method_3_code, exceptionTable := #[], attributes := #[] }
def k1m2 : Method := { name := "indexOf", desc := "([II)I", sig := { parameters := [(.array .int), .int], returnType := some .int }, accessFlags := 10, code := some k1c2 }
/-- com/example/graphtide/graphtide/rdf/CharClassesUnescapePinLaw -/
def k1 : Class := { plain "com/example/graphtide/graphtide/rdf/CharClassesUnescapePinLaw" (some 0) with
  accessFlags := 49
  interfaces := #[]
  cf := some (fileOf pool1 8 #[] #[{ accessFlags := 1, nameIndex := 5, descriptorIndex := 6, attributes := #[] }, { accessFlags := 9, nameIndex := 21, descriptorIndex := 22, attributes := #[] }, { accessFlags := 10, nameIndex := 11, descriptorIndex := 12, attributes := #[] }] 49 2 #[] #[])
  fields := #[]
  methods := #[k1m0, k1m1, k1m2]
  instanceTypes := #[]
  staticTypes := #[]
  resolved := Array.replicate 28 none
  statics := none }

def pool2 : Array CpInfo := pool [(2, .class_ 4), (1, u "java/lang/Object"), (0, u "<init>"), (0, u "()V"), (30, .class_ 39), (1, u "com/example/graphtide/graphtide/rdf/CharClasses"), (16, u "UNKNOWN_STRING_ESCAPE"), (0, u "Ljava/lang/String;"), (5, u "unescape"), (0, u "(I)I")] 27

def k2m0 : Method := { name := "<init>", desc := "()V", sig := { parameters := [], returnType := none }, accessFlags := 2, code := none }
def k2c1 : Code := { maxStack := 1, maxLocals := 1, code := prog_19_method_2_code, exceptionTable := #[], attributes := #[] }
def k2m1 : Method := { name := "unescape", desc := "(I)I", sig := { parameters := [.int], returnType := some .int }, accessFlags := 9, code := some k2c1 }
/-- com/example/graphtide/graphtide/rdf/CharClasses -/
def k2 : Class := { plain "com/example/graphtide/graphtide/rdf/CharClasses" (some 0) with
  accessFlags := 49
  interfaces := #[]
  cf := some (fileOf pool2 37 #[] #[{ accessFlags := 2, nameIndex := 5, descriptorIndex := 6, attributes := #[] }, { accessFlags := 9, nameIndex := 63, descriptorIndex := 64, attributes := #[] }] 49 2 #[] #[{ accessFlags := 25, nameIndex := 56, descriptorIndex := 57, attributes := #[] }])
  fields := #[{ name := "UNKNOWN_STRING_ESCAPE", type := (.object "java/lang/String"), accessFlags := 25, slot := 0, constantValue := 0 }]
  methods := #[k2m0, k2m1]
  instanceTypes := #[]
  staticTypes := #[(.object "java/lang/String")]
  resolved := Array.replicate 92 none
  statics := none }

def pool3 : Array CpInfo := pool [(1, u "java/lang/Cloneable"), (0, .class_ 1), (0, u "java/lang/Object"), (0, .class_ 3)] 3

/-- java/lang/Cloneable -/
def k3 : Class := { plain "java/lang/Cloneable" (some 0) with
  accessFlags := 1537
  interfaces := #[]
  cf := some (fileOf pool3 2 #[] #[] 1537 4 #[] #[])
  fields := #[]
  methods := #[]
  instanceTypes := #[]
  staticTypes := #[]
  resolved := Array.replicate 8 none
  statics := none }

def pool4 : Array CpInfo := pool [(1, u "java/io/Serializable"), (0, .class_ 1), (0, u "java/lang/Object"), (0, .class_ 3)] 3

/-- java/io/Serializable -/
def k4 : Class := { plain "java/io/Serializable" (some 0) with
  accessFlags := 1537
  interfaces := #[]
  cf := some (fileOf pool4 2 #[] #[] 1537 4 #[] #[])
  fields := #[]
  methods := #[]
  instanceTypes := #[]
  staticTypes := #[]
  resolved := Array.replicate 8 none
  statics := none }

/-- the primitive byte -/
def k5 : Class := { plain "byte" none with kind := .primitive 'B', accessFlags := 0x411 }
/-- [B -/
def k6 : Class := { plain "[B" (some 0) with kind := .array 5 .byte, interfaces := #[3, 4], accessFlags := 1041 }

/-- the primitive int -/
def k7 : Class := { plain "int" none with kind := .primitive 'I', accessFlags := 0x411 }
/-- [I -/
def k8 : Class := { plain "[I" (some 0) with kind := .array 7 .int, interfaces := #[3, 4], accessFlags := 1041 }

def heap : Heap := #[]
def classes : Array Class := #[k0, k1, k2, k3, k4, k5, k6, k7, k8]
def interned : List (Array UInt16 × Addr) := []
def slotsUsed : Nat := 0
def theMethod : MethodId := ⟨1, 1⟩
def args0 : Array Value := #[.int 5, .int 40]
def aboutOver (below : List Frame) : State where
  vm := { classes := classes, interned := interned.toArray }
  heap := heap
  slotsUsed := slotsUsed
  threads := #[{ frames := .invoking theMethod args0 :: below }]
def below0 : List Frame := [.native { method := ⟨0, 0⟩, args := #[] }]
def about1 : State := aboutOver below0
def p0 : Program := .bare "" "" ""
def e0 : Env := launch0.env 0 0 0
theorem w_frames : about1.frames = Frame.invoking theMethod args0 :: below0 := rfl
set_option maxRecDepth 65536 in
theorem w_args : argsFit about1.vm theMethod args0 = true := by decide +kernel
set_option maxRecDepth 65536 in
theorem w_heap : heapFits about1 = true := by decide +kernel
set_option maxRecDepth 65536 in
theorem w_runnable : about1.curStatus? = some .runnable := by decide +kernel
set_option maxRecDepth 65536 in
theorem w_alone : about1.alone = true := by decide +kernel
set_option maxRecDepth 65536 in
theorem w_named : about1.methodNamed? x = some theMethod := by decide +kernel
set_option maxRecDepth 65536 in
theorem w_hears : about1.hears theMethod below0 = true := by decide +kernel
set_option maxRecDepth 65536 in
theorem w_ripe : about1.ripe theMethod args0 below0 = true := by decide +kernel
theorem w_running : about1.status = .running := rfl
set_option maxRecDepth 65536 in
theorem w_room : about1.hasRoom e0.platform room_1 = true :=
  launch0.hasRoom_least _ room_1 (by decide +kernel) (by decide +kernel) (by decide +kernel) (by decide +kernel) (by decide +kernel) (by decide +kernel)
theorem allAtoms_all (ts : List Jvm.Cond) (a : Array Jvm.Value) (st : Jvm.State) : (allAtoms ts).before a st = ts.all (fun c => c.before a st) := by
  induction ts with
  | nil => rfl
  | cons c t ih =>
    show (Jvm.Cond.and c (allAtoms t)).before a st = _
    rw [Jvm.Cond.before_and, ih, List.all_cons]
def words1 : List Jvm.Cond := Jvm.Cond.code x code maxLocals ret :: tables_1
/-- a 'code' word, met by the world's own term for the bytes: nothing is compared byte by byte -/
theorem code_word {y : MethodName} {bytes : ByteArray} {mx : Nat} {rt : Option FieldType} {a : Array Value} {s : State} {m : MethodId} {meth : Method} {c : Code} (h1 : s.methodNamed? y = some m) (h2 : s.vm.method? m = some meth) (h3 : meth.code = some c) (h4 : c.code = bytes)
    (h5 : (c.maxLocals == mx && c.exceptionTable.isEmpty && decide (c.maxStack ≤ mostOperands) && decide (meth.sig.returnType = rt) && !meth.locks && decide (parseMethodDescriptor y.desc = some meth.sig)) = true) : (Jvm.Cond.code y bytes mx rt).before a s = true := by
  simp only [Bool.and_eq_true, beq_iff_eq, Bool.not_eq_true', decide_eq_true_eq] at h5
  obtain ⟨⟨⟨⟨⟨g1, g2⟩, g3⟩, g4⟩, g5⟩, g6⟩ := h5
  simp [Cond.before, Cond.holds, Cond.value, h1, h2, h3, h4, g1, g2, g3, g4, g5, g6]
def isCode : Jvm.Cond → Bool
  | .code _ _ _ _ => true
  | _ => false
theorem all_split {L : List Jvm.Cond} {P : Jvm.Cond → Bool} (h1 : L.all (fun c => isCode c || P c) = true) (h2 : ∀ c ∈ L.filter isCode, P c = true) : L.all P = true := by
  refine List.all_eq_true.mpr fun c hc => ?_
  have h := List.all_eq_true.mp h1 c hc
  rcases Bool.eq_false_or_eq_true (isCode c) with hi | hi
  · exact h2 c (List.mem_filter.mpr ⟨hc, hi⟩)
  · simpa [hi] using h
set_option maxRecDepth 65536 in
theorem w_c0 : (Jvm.Cond.code x code maxLocals ret).before args0 about1 = true := code_word (m := ⟨1, 1⟩) (meth := k1m1) (c := k1c1) (by decide +kernel) rfl rfl rfl (by decide +kernel)
set_option maxRecDepth 65536 in
theorem w_c1 : (Jvm.Cond.code ({ cls := "com/example/graphtide/graphtide/rdf/CharClassesUnescapePinLaw", name := "indexOf", desc := "([II)I" } : Jvm.MethodName) method_3_code (2 : Nat) (Option.some Jvm.ClassFile.FieldType.int)).before args0 about1 = true := code_word (m := ⟨1, 2⟩) (meth := k1m2) (c := k1c2) (by decide +kernel) rfl rfl rfl (by decide +kernel)
set_option maxRecDepth 65536 in
theorem w_c2 : (Jvm.Cond.code ({ cls := "com/example/graphtide/graphtide/rdf/CharClasses", name := "unescape", desc := "(I)I" } : Jvm.MethodName) prog_19_method_2_code (1 : Nat) (Option.some Jvm.ClassFile.FieldType.int)).before args0 about1 = true := code_word (m := ⟨2, 1⟩) (meth := k2m1) (c := k2c1) (by decide +kernel) rfl rfl rfl (by decide +kernel)
def codes1 : List Jvm.Cond := [Jvm.Cond.code x code maxLocals ret, Jvm.Cond.code ({ cls := "com/example/graphtide/graphtide/rdf/CharClassesUnescapePinLaw", name := "indexOf", desc := "([II)I" } : Jvm.MethodName) method_3_code (2 : Nat) (Option.some Jvm.ClassFile.FieldType.int), Jvm.Cond.code ({ cls := "com/example/graphtide/graphtide/rdf/CharClasses", name := "unescape", desc := "(I)I" } : Jvm.MethodName) prog_19_method_2_code (1 : Nat) (Option.some Jvm.ClassFile.FieldType.int)]
set_option maxRecDepth 65536 in
theorem codes_eq : words1.filter isCode = codes1 := rfl
theorem w_codes : ∀ c ∈ words1.filter isCode, c.before args0 about1 = true := by
  rw [codes_eq]
  intro c hc
  simp only [codes1, List.mem_cons, List.not_mem_nil, or_false] at hc
  rcases hc with rfl | rfl | rfl
  · exact w_c0
  · exact w_c1
  · exact w_c2
set_option maxRecDepth 65536 in
theorem w_t1 : words1.all (fun c => isCode c || c.before args0 about1) = true := by decide +kernel
theorem w_tables : (allAtoms (Jvm.Cond.code x code maxLocals ret :: tables_1)).before args0 about1 = true := by
  rw [allAtoms_all]
  show words1.all (fun c => c.before args0 about1) = true
  refine all_split ?_ w_codes
  rw [w_t1]
set_option maxRecDepth 65536 in
theorem w_case : (Jvm.Cond.and given_1 narrow_1).before args0 about1 = true := by decide +kernel
theorem w_applies : (headSpec (Jvm.Cond.code x code maxLocals ret :: tables_1) room_1).applies x e0.platform about1 = true :=
  (Spec.applies_iff w_frames).mpr ⟨w_running, w_runnable, w_alone, w_named, w_hears, w_ripe, w_room, w_tables⟩
theorem atStart : AtStart classFile x code maxLocals ret World_1 tables_1 room_1 Calls_1 rest_1 Pre_1 launch0 p0 e0 about1 theMethod args0 below0 :=
  ⟨lists_1, trivial, launch0.admits_env _ _ _, launch0.least_env, fairChoices_fair.cas, fairChoices_fair.clock, w_frames, w_args, w_heap, w_applies, trivial, trivial, w_case⟩
end start1
theorem witness_1 : WitnessClaimed_1 := ⟨start1.p0, start1.e0, start1.about1, start1.theMethod, start1.args0, start1.below0, start1.atStart⟩
end Jvm.Pilot.@@N@@
