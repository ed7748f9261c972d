import JvmDerived
import JvmDerived.Pilot.@@N@@Statement
import JvmDerived.Pilot.@@N@@Code
set_option linter.unusedVariables false
set_option linter.unusedSimpArgs false
namespace Jvm.RoadKit
open Sem ClassFile Op Lib Jvm.Stand Jvm.Free Jvm.LawKit
section New
variable {p : Program} {l : Launch} {e : Env} {R : Room} {s : State} {m : MethodId} {args : Array Value} {below : List Frame} {meth : Method} {c : Code} {T : State} {locs : List Loc} {cells slots : Nat}
theorem retI (X : Stand p l e R s m args below meth c T locs cells slots) (hx : p.tables.exec = Jvm.exec) {pc : Nat} {Ls : Array Slot} {z : Int32} {rest : List Value} (hret : meth.sig.returnType = some .int) (hd : decode c.code pc = .ok (.ireturn, 1)) {fs : List Frame}
    (hl : ∀ (f : JFrame) (acts : List Action), f.method = m → f.locked = none → f.entered = [] → (doReturn e (T.setTop f) acts (some (.int z))).1 = T.setFrames fs) : Steps p.tables e below (T.setTop (mkF m pc Ls (.int z :: rest))) (T.setFrames fs) := by
  have hm' : T.vm.method? m = some meth := X.method'
  have hn : narrow .int (.int z) = .int z := rfl
  show Steps p.tables e below (T.setTop { method := m, pc := pc, locals := Ls, stack := _ :: rest, locked := none }) _
  jvm_step X.here [X.here.top, hx, hd, hm', hret, hn]
  first | (intro acts; rw [hl _ acts rfl rfl rfl]) | rw [hl _ _ rfl rfl rfl]
  exact Steps.refl _
end New
end Jvm.RoadKit
namespace Jvm.Pilot.@@N@@
open Jvm Jvm.ClassFile Sem Op Lib Jvm.Free Jvm.Stand Jvm.LawKit Jvm.RoadKit Bundle Jvm.Pilot.@@N@@.Jvm.D
def own_Ends (p : Program) (e : Env) (below : List Frame) (T : State) (g : JFrame) (P : Outcome → State → Prop) : Prop := ∃ s₂ o, Steps p.tables e below (T.setTop g) s₂ ∧ s₂.status = .running ∧ Ended s₂ below o ∧ P o s₂
theorem own_go {p : Program} {e : Env} {below : List Frame} {T T' : State} {g g' : JFrame} {P : Outcome → State → Prop} (h : ∀ t, Steps p.tables e below (T'.setTop g') t → Steps p.tables e below (T.setTop g) t) (k : own_Ends p e below T' g' P) : own_Ends p e below T g P := by
  obtain ⟨a, o, q, r⟩ := k
  exact ⟨a, o, h _ q, r⟩
def own_Len (Z : State) (h : Heap) (a : Addr) (ty : FieldType) (n : Int32) : Prop := ∃ c : Cell, Arr Z h a c ty ∧ c.slots.size = n.toNatClampNeg ∧ ¬ n < 0
theorem own_Len.lt {Z : State} {h : Heap} {a : Addr} {ty : FieldType} {n : Int32} (F : own_Len Z h a ty n) : a < h.size := by obtain ⟨c, A, -⟩ := F; exact A.lt
theorem own_Len.ext {Z : State} {h h' : Heap} {a : Addr} {ty : FieldType} {n : Int32} (F : own_Len Z h a ty n) (E : Ext h h') : own_Len Z h' a ty n := by obtain ⟨c, A, r⟩ := F; exact ⟨c, A.ext E, r⟩
theorem own_Len.other {Z : State} {h h' : Heap} {a b : Addr} {ty : FieldType} {n : Int32} {sl : Nat} {v : Value} (F : own_Len Z h b ty n) (W : Wr h h' a sl v) (q : b ≠ a) : own_Len Z h' b ty n := by obtain ⟨c, A, r⟩ := F; exact ⟨c, A.other W q, r⟩
theorem own_Len.same {Z : State} {h h' : Heap} {a : Addr} {ty : FieldType} {n : Int32} {sl : Nat} {v : Value} (F : own_Len Z h a ty n) (W : Wr h h' a sl v) : own_Len Z h' a ty n := by obtain ⟨c, A, r1, r2⟩ := F; exact ⟨_, A.same W, by rw [sz_set]; exact r1, r2⟩
theorem own_Len.keep {Z : State} {h h' : Heap} {a : Addr} {ty : FieldType} {n : Int32} {ws : List Addr} (F : own_Len Z h a ty n) (K : Keep h h' ws) (q : a ∉ ws) : own_Len Z h' a ty n := by obtain ⟨c, A, r⟩ := F; exact ⟨c, ⟨K.2.1 a c A.1 q, A.2⟩, r⟩
theorem own_as {p : Program} {e : Env} {below : List Frame} {T : State} {g g' : JFrame} {P : Outcome → State → Prop} (h : g = g') (k : own_Ends p e below T g' P) : own_Ends p e below T g P := h ▸ k

theorem own_e0 {a b : Int32} (h : a = b) (q : a = (0 : Int32)) : b = (0 : Int32) := h ▸ q
theorem own_e1 {a b : Int32} (h : a = b) (q : ¬ a = (0 : Int32)) : ¬ b = (0 : Int32) := h ▸ q
theorem own_eq {a b c d : Int32} (h : a = b) (g : c = d) (q : b = d) : a = c := h.trans (q.trans g.symm)

def own_ge (c x : Int32) : Int32 := if c < x then 0 else 1
def own_inside (c : Int32) : Int32 := if (((((((((((((((((((((((((((((own_ge c (65 : Int32)) + (own_ge c (91 : Int32))) + (own_ge c (97 : Int32))) + (own_ge c (123 : Int32))) + (own_ge c (192 : Int32))) + (own_ge c (215 : Int32))) + (own_ge c (216 : Int32))) + (own_ge c (247 : Int32))) + (own_ge c (248 : Int32))) + (own_ge c (768 : Int32))) + (own_ge c (880 : Int32))) + (own_ge c (894 : Int32))) + (own_ge c (895 : Int32))) + (own_ge c (8192 : Int32))) + (own_ge c (8204 : Int32))) + (own_ge c (8206 : Int32))) + (own_ge c (8304 : Int32))) + (own_ge c (8592 : Int32))) + (own_ge c (11264 : Int32))) + (own_ge c (12272 : Int32))) + (own_ge c (12289 : Int32))) + (own_ge c (55296 : Int32))) + (own_ge c (63744 : Int32))) + (own_ge c (64976 : Int32))) + (own_ge c (65008 : Int32))) + (own_ge c (65534 : Int32))) + (own_ge c (65536 : Int32))) + (own_ge c (983040 : Int32))) &&& (1 : Int32)) = (1 : Int32) then 1 else 0
theorem own_insP {c z0 z1 z2 z3 z4 z5 z6 z7 z8 z9 z10 z11 z12 z13 z14 z15 z16 z17 z18 z19 z20 z21 z22 z23 z24 z25 z26 z27 : Int32} (h0 : z0 = own_ge c (65 : Int32)) (h1 : z1 = own_ge c (91 : Int32)) (h2 : z2 = own_ge c (97 : Int32)) (h3 : z3 = own_ge c (123 : Int32)) (h4 : z4 = own_ge c (192 : Int32)) (h5 : z5 = own_ge c (215 : Int32)) (h6 : z6 = own_ge c (216 : Int32)) (h7 : z7 = own_ge c (247 : Int32)) (h8 : z8 = own_ge c (248 : Int32)) (h9 : z9 = own_ge c (768 : Int32)) (h10 : z10 = own_ge c (880 : Int32)) (h11 : z11 = own_ge c (894 : Int32)) (h12 : z12 = own_ge c (895 : Int32)) (h13 : z13 = own_ge c (8192 : Int32)) (h14 : z14 = own_ge c (8204 : Int32)) (h15 : z15 = own_ge c (8206 : Int32)) (h16 : z16 = own_ge c (8304 : Int32)) (h17 : z17 = own_ge c (8592 : Int32)) (h18 : z18 = own_ge c (11264 : Int32)) (h19 : z19 = own_ge c (12272 : Int32)) (h20 : z20 = own_ge c (12289 : Int32)) (h21 : z21 = own_ge c (55296 : Int32)) (h22 : z22 = own_ge c (63744 : Int32)) (h23 : z23 = own_ge c (64976 : Int32)) (h24 : z24 = own_ge c (65008 : Int32)) (h25 : z25 = own_ge c (65534 : Int32)) (h26 : z26 = own_ge c (65536 : Int32)) (h27 : z27 = own_ge c (983040 : Int32)) (q : (((((((((((((((((((((((((((((z0 + z1) + z2) + z3) + z4) + z5) + z6) + z7) + z8) + z9) + z10) + z11) + z12) + z13) + z14) + z15) + z16) + z17) + z18) + z19) + z20) + z21) + z22) + z23) + z24) + z25) + z26) + z27) &&& (1 : Int32)) = (1 : Int32))) : (1 : Int32) = own_inside c := by
  subst h0 h1 h2 h3 h4 h5 h6 h7 h8 h9 h10 h11 h12 h13 h14 h15 h16 h17 h18 h19 h20 h21 h22 h23 h24 h25 h26 h27
  exact (if_pos q).symm
theorem own_insN {c z0 z1 z2 z3 z4 z5 z6 z7 z8 z9 z10 z11 z12 z13 z14 z15 z16 z17 z18 z19 z20 z21 z22 z23 z24 z25 z26 z27 : Int32} (h0 : z0 = own_ge c (65 : Int32)) (h1 : z1 = own_ge c (91 : Int32)) (h2 : z2 = own_ge c (97 : Int32)) (h3 : z3 = own_ge c (123 : Int32)) (h4 : z4 = own_ge c (192 : Int32)) (h5 : z5 = own_ge c (215 : Int32)) (h6 : z6 = own_ge c (216 : Int32)) (h7 : z7 = own_ge c (247 : Int32)) (h8 : z8 = own_ge c (248 : Int32)) (h9 : z9 = own_ge c (768 : Int32)) (h10 : z10 = own_ge c (880 : Int32)) (h11 : z11 = own_ge c (894 : Int32)) (h12 : z12 = own_ge c (895 : Int32)) (h13 : z13 = own_ge c (8192 : Int32)) (h14 : z14 = own_ge c (8204 : Int32)) (h15 : z15 = own_ge c (8206 : Int32)) (h16 : z16 = own_ge c (8304 : Int32)) (h17 : z17 = own_ge c (8592 : Int32)) (h18 : z18 = own_ge c (11264 : Int32)) (h19 : z19 = own_ge c (12272 : Int32)) (h20 : z20 = own_ge c (12289 : Int32)) (h21 : z21 = own_ge c (55296 : Int32)) (h22 : z22 = own_ge c (63744 : Int32)) (h23 : z23 = own_ge c (64976 : Int32)) (h24 : z24 = own_ge c (65008 : Int32)) (h25 : z25 = own_ge c (65534 : Int32)) (h26 : z26 = own_ge c (65536 : Int32)) (h27 : z27 = own_ge c (983040 : Int32)) (q : ¬ (((((((((((((((((((((((((((((z0 + z1) + z2) + z3) + z4) + z5) + z6) + z7) + z8) + z9) + z10) + z11) + z12) + z13) + z14) + z15) + z16) + z17) + z18) + z19) + z20) + z21) + z22) + z23) + z24) + z25) + z26) + z27) &&& (1 : Int32)) = (1 : Int32))) : (0 : Int32) = own_inside c := by
  subst h0 h1 h2 h3 h4 h5 h6 h7 h8 h9 h10 h11 h12 h13 h14 h15 h16 h17 h18 h19 h20 h21 h22 h23 h24 h25 h26 h27
  exact (if_neg q).symm
def own_base (c : Int32) : Int32 := if (c < (65 : Int32) ∨ (90 : Int32) < c) ∧ (c < (97 : Int32) ∨ (122 : Int32) < c) ∧ (c < (192 : Int32) ∨ (214 : Int32) < c) ∧ (c < (216 : Int32) ∨ (246 : Int32) < c) ∧ (c < (248 : Int32) ∨ (767 : Int32) < c) ∧ (c < (880 : Int32) ∨ (893 : Int32) < c) ∧ (c < (895 : Int32) ∨ (8191 : Int32) < c) ∧ (c < (8204 : Int32) ∨ (8205 : Int32) < c) ∧ (c < (8304 : Int32) ∨ (8591 : Int32) < c) ∧ (c < (11264 : Int32) ∨ (12271 : Int32) < c) ∧ (c < (12289 : Int32) ∨ (55295 : Int32) < c) ∧ (c < (63744 : Int32) ∨ (64975 : Int32) < c) ∧ (c < (65008 : Int32) ∨ (65533 : Int32) < c) ∧ (c < (65536 : Int32) ∨ (983039 : Int32) < c) then 0 else 1
theorem own_hi {c b b' : Int32} (h : ¬ c < b') (q : ¬ b' < b) : own_ge c b = (1 : Int32) := if_neg fun r => by rw [Int32.lt_iff_toInt_lt] at *; omega
theorem own_lo {c b b' : Int32} (h : c < b') (q : ¬ b < b') : own_ge c b = (0 : Int32) := if_pos (by rw [Int32.lt_iff_toInt_lt] at *; omega)
theorem own_lt {c b b' : Int32} (h : c < b') (q : ¬ b < b') : c < b := by rw [Int32.lt_iff_toInt_lt] at *; omega
theorem own_gt {c b b' : Int32} (h : ¬ c < b') (q : b < b') : b < c := by rw [Int32.lt_iff_toInt_lt] at *; omega
theorem own_hit0 {c : Int32} (h : ¬ c < (65 : Int32)) (h' : c < (91 : Int32)) : own_base c = (1 : Int32) := if_neg fun q => by
  rcases q.1 with r | r
  · exact h r
  · rw [Int32.lt_iff_toInt_lt] at r h'
    rw [show (90 : Int32).toInt = 90 by decide] at r
    rw [show (91 : Int32).toInt = 91 by decide] at h'
    omega
theorem own_hit1 {c : Int32} (h : ¬ c < (97 : Int32)) (h' : c < (123 : Int32)) : own_base c = (1 : Int32) := if_neg fun q => by
  rcases q.2.1 with r | r
  · exact h r
  · rw [Int32.lt_iff_toInt_lt] at r h'
    rw [show (122 : Int32).toInt = 122 by decide] at r
    rw [show (123 : Int32).toInt = 123 by decide] at h'
    omega
theorem own_hit2 {c : Int32} (h : ¬ c < (192 : Int32)) (h' : c < (215 : Int32)) : own_base c = (1 : Int32) := if_neg fun q => by
  rcases q.2.2.1 with r | r
  · exact h r
  · rw [Int32.lt_iff_toInt_lt] at r h'
    rw [show (214 : Int32).toInt = 214 by decide] at r
    rw [show (215 : Int32).toInt = 215 by decide] at h'
    omega
theorem own_hit3 {c : Int32} (h : ¬ c < (216 : Int32)) (h' : c < (247 : Int32)) : own_base c = (1 : Int32) := if_neg fun q => by
  rcases q.2.2.2.1 with r | r
  · exact h r
  · rw [Int32.lt_iff_toInt_lt] at r h'
    rw [show (246 : Int32).toInt = 246 by decide] at r
    rw [show (247 : Int32).toInt = 247 by decide] at h'
    omega
theorem own_hit4 {c : Int32} (h : ¬ c < (248 : Int32)) (h' : c < (768 : Int32)) : own_base c = (1 : Int32) := if_neg fun q => by
  rcases q.2.2.2.2.1 with r | r
  · exact h r
  · rw [Int32.lt_iff_toInt_lt] at r h'
    rw [show (767 : Int32).toInt = 767 by decide] at r
    rw [show (768 : Int32).toInt = 768 by decide] at h'
    omega
theorem own_hit5 {c : Int32} (h : ¬ c < (880 : Int32)) (h' : c < (894 : Int32)) : own_base c = (1 : Int32) := if_neg fun q => by
  rcases q.2.2.2.2.2.1 with r | r
  · exact h r
  · rw [Int32.lt_iff_toInt_lt] at r h'
    rw [show (893 : Int32).toInt = 893 by decide] at r
    rw [show (894 : Int32).toInt = 894 by decide] at h'
    omega
theorem own_hit6 {c : Int32} (h : ¬ c < (895 : Int32)) (h' : c < (8192 : Int32)) : own_base c = (1 : Int32) := if_neg fun q => by
  rcases q.2.2.2.2.2.2.1 with r | r
  · exact h r
  · rw [Int32.lt_iff_toInt_lt] at r h'
    rw [show (8191 : Int32).toInt = 8191 by decide] at r
    rw [show (8192 : Int32).toInt = 8192 by decide] at h'
    omega
theorem own_hit7 {c : Int32} (h : ¬ c < (8204 : Int32)) (h' : c < (8206 : Int32)) : own_base c = (1 : Int32) := if_neg fun q => by
  rcases q.2.2.2.2.2.2.2.1 with r | r
  · exact h r
  · rw [Int32.lt_iff_toInt_lt] at r h'
    rw [show (8205 : Int32).toInt = 8205 by decide] at r
    rw [show (8206 : Int32).toInt = 8206 by decide] at h'
    omega
theorem own_hit8 {c : Int32} (h : ¬ c < (8304 : Int32)) (h' : c < (8592 : Int32)) : own_base c = (1 : Int32) := if_neg fun q => by
  rcases q.2.2.2.2.2.2.2.2.1 with r | r
  · exact h r
  · rw [Int32.lt_iff_toInt_lt] at r h'
    rw [show (8591 : Int32).toInt = 8591 by decide] at r
    rw [show (8592 : Int32).toInt = 8592 by decide] at h'
    omega
theorem own_hit9 {c : Int32} (h : ¬ c < (11264 : Int32)) (h' : c < (12272 : Int32)) : own_base c = (1 : Int32) := if_neg fun q => by
  rcases q.2.2.2.2.2.2.2.2.2.1 with r | r
  · exact h r
  · rw [Int32.lt_iff_toInt_lt] at r h'
    rw [show (12271 : Int32).toInt = 12271 by decide] at r
    rw [show (12272 : Int32).toInt = 12272 by decide] at h'
    omega
theorem own_hit10 {c : Int32} (h : ¬ c < (12289 : Int32)) (h' : c < (55296 : Int32)) : own_base c = (1 : Int32) := if_neg fun q => by
  rcases q.2.2.2.2.2.2.2.2.2.2.1 with r | r
  · exact h r
  · rw [Int32.lt_iff_toInt_lt] at r h'
    rw [show (55295 : Int32).toInt = 55295 by decide] at r
    rw [show (55296 : Int32).toInt = 55296 by decide] at h'
    omega
theorem own_hit11 {c : Int32} (h : ¬ c < (63744 : Int32)) (h' : c < (64976 : Int32)) : own_base c = (1 : Int32) := if_neg fun q => by
  rcases q.2.2.2.2.2.2.2.2.2.2.2.1 with r | r
  · exact h r
  · rw [Int32.lt_iff_toInt_lt] at r h'
    rw [show (64975 : Int32).toInt = 64975 by decide] at r
    rw [show (64976 : Int32).toInt = 64976 by decide] at h'
    omega
theorem own_hit12 {c : Int32} (h : ¬ c < (65008 : Int32)) (h' : c < (65534 : Int32)) : own_base c = (1 : Int32) := if_neg fun q => by
  rcases q.2.2.2.2.2.2.2.2.2.2.2.2.1 with r | r
  · exact h r
  · rw [Int32.lt_iff_toInt_lt] at r h'
    rw [show (65533 : Int32).toInt = 65533 by decide] at r
    rw [show (65534 : Int32).toInt = 65534 by decide] at h'
    omega
theorem own_hit13 {c : Int32} (h : ¬ c < (65536 : Int32)) (h' : c < (983040 : Int32)) : own_base c = (1 : Int32) := if_neg fun q => by
  rcases q.2.2.2.2.2.2.2.2.2.2.2.2.2 with r | r
  · exact h r
  · rw [Int32.lt_iff_toInt_lt] at r h'
    rw [show (983039 : Int32).toInt = 983039 by decide] at r
    rw [show (983040 : Int32).toInt = 983040 by decide] at h'
    omega
set_option maxRecDepth 65536 in
theorem own_same (c : Int32) : own_base c = own_inside c := by
  by_cases h0 : c < (65 : Int32)
  · exact (show own_base c = (0 : Int32) from if_pos ⟨Or.inl (own_lt h0 (by decide)), Or.inl (own_lt h0 (by decide)), Or.inl (own_lt h0 (by decide)), Or.inl (own_lt h0 (by decide)), Or.inl (own_lt h0 (by decide)), Or.inl (own_lt h0 (by decide)), Or.inl (own_lt h0 (by decide)), Or.inl (own_lt h0 (by decide)), Or.inl (own_lt h0 (by decide)), Or.inl (own_lt h0 (by decide)), Or.inl (own_lt h0 (by decide)), Or.inl (own_lt h0 (by decide)), Or.inl (own_lt h0 (by decide)), Or.inl (own_lt h0 (by decide))⟩).trans (show own_inside c = (0 : Int32) from by unfold own_inside; simp only [show own_ge c (65 : Int32) = (0 : Int32) from own_lo h0 (by decide), show own_ge c (91 : Int32) = (0 : Int32) from own_lo h0 (by decide), show own_ge c (97 : Int32) = (0 : Int32) from own_lo h0 (by decide), show own_ge c (123 : Int32) = (0 : Int32) from own_lo h0 (by decide), show own_ge c (192 : Int32) = (0 : Int32) from own_lo h0 (by decide), show own_ge c (215 : Int32) = (0 : Int32) from own_lo h0 (by decide), show own_ge c (216 : Int32) = (0 : Int32) from own_lo h0 (by decide), show own_ge c (247 : Int32) = (0 : Int32) from own_lo h0 (by decide), show own_ge c (248 : Int32) = (0 : Int32) from own_lo h0 (by decide), show own_ge c (768 : Int32) = (0 : Int32) from own_lo h0 (by decide), show own_ge c (880 : Int32) = (0 : Int32) from own_lo h0 (by decide), show own_ge c (894 : Int32) = (0 : Int32) from own_lo h0 (by decide), show own_ge c (895 : Int32) = (0 : Int32) from own_lo h0 (by decide), show own_ge c (8192 : Int32) = (0 : Int32) from own_lo h0 (by decide), show own_ge c (8204 : Int32) = (0 : Int32) from own_lo h0 (by decide), show own_ge c (8206 : Int32) = (0 : Int32) from own_lo h0 (by decide), show own_ge c (8304 : Int32) = (0 : Int32) from own_lo h0 (by decide), show own_ge c (8592 : Int32) = (0 : Int32) from own_lo h0 (by decide), show own_ge c (11264 : Int32) = (0 : Int32) from own_lo h0 (by decide), show own_ge c (12272 : Int32) = (0 : Int32) from own_lo h0 (by decide), show own_ge c (12289 : Int32) = (0 : Int32) from own_lo h0 (by decide), show own_ge c (55296 : Int32) = (0 : Int32) from own_lo h0 (by decide), show own_ge c (63744 : Int32) = (0 : Int32) from own_lo h0 (by decide), show own_ge c (64976 : Int32) = (0 : Int32) from own_lo h0 (by decide), show own_ge c (65008 : Int32) = (0 : Int32) from own_lo h0 (by decide), show own_ge c (65534 : Int32) = (0 : Int32) from own_lo h0 (by decide), show own_ge c (65536 : Int32) = (0 : Int32) from own_lo h0 (by decide), show own_ge c (983040 : Int32) = (0 : Int32) from own_lo h0 (by decide)]; decide).symm
  by_cases h1 : c < (91 : Int32)
  · exact (show own_base c = (1 : Int32) from own_hit0 h0 h1).trans (show own_inside c = (1 : Int32) from by unfold own_inside; simp only [show own_ge c (65 : Int32) = (1 : Int32) from own_hi h0 (by decide), show own_ge c (91 : Int32) = (0 : Int32) from own_lo h1 (by decide), show own_ge c (97 : Int32) = (0 : Int32) from own_lo h1 (by decide), show own_ge c (123 : Int32) = (0 : Int32) from own_lo h1 (by decide), show own_ge c (192 : Int32) = (0 : Int32) from own_lo h1 (by decide), show own_ge c (215 : Int32) = (0 : Int32) from own_lo h1 (by decide), show own_ge c (216 : Int32) = (0 : Int32) from own_lo h1 (by decide), show own_ge c (247 : Int32) = (0 : Int32) from own_lo h1 (by decide), show own_ge c (248 : Int32) = (0 : Int32) from own_lo h1 (by decide), show own_ge c (768 : Int32) = (0 : Int32) from own_lo h1 (by decide), show own_ge c (880 : Int32) = (0 : Int32) from own_lo h1 (by decide), show own_ge c (894 : Int32) = (0 : Int32) from own_lo h1 (by decide), show own_ge c (895 : Int32) = (0 : Int32) from own_lo h1 (by decide), show own_ge c (8192 : Int32) = (0 : Int32) from own_lo h1 (by decide), show own_ge c (8204 : Int32) = (0 : Int32) from own_lo h1 (by decide), show own_ge c (8206 : Int32) = (0 : Int32) from own_lo h1 (by decide), show own_ge c (8304 : Int32) = (0 : Int32) from own_lo h1 (by decide), show own_ge c (8592 : Int32) = (0 : Int32) from own_lo h1 (by decide), show own_ge c (11264 : Int32) = (0 : Int32) from own_lo h1 (by decide), show own_ge c (12272 : Int32) = (0 : Int32) from own_lo h1 (by decide), show own_ge c (12289 : Int32) = (0 : Int32) from own_lo h1 (by decide), show own_ge c (55296 : Int32) = (0 : Int32) from own_lo h1 (by decide), show own_ge c (63744 : Int32) = (0 : Int32) from own_lo h1 (by decide), show own_ge c (64976 : Int32) = (0 : Int32) from own_lo h1 (by decide), show own_ge c (65008 : Int32) = (0 : Int32) from own_lo h1 (by decide), show own_ge c (65534 : Int32) = (0 : Int32) from own_lo h1 (by decide), show own_ge c (65536 : Int32) = (0 : Int32) from own_lo h1 (by decide), show own_ge c (983040 : Int32) = (0 : Int32) from own_lo h1 (by decide)]; decide).symm
  by_cases h2 : c < (97 : Int32)
  · exact (show own_base c = (0 : Int32) from if_pos ⟨Or.inr (own_gt h1 (by decide)), Or.inl (own_lt h2 (by decide)), Or.inl (own_lt h2 (by decide)), Or.inl (own_lt h2 (by decide)), Or.inl (own_lt h2 (by decide)), Or.inl (own_lt h2 (by decide)), Or.inl (own_lt h2 (by decide)), Or.inl (own_lt h2 (by decide)), Or.inl (own_lt h2 (by decide)), Or.inl (own_lt h2 (by decide)), Or.inl (own_lt h2 (by decide)), Or.inl (own_lt h2 (by decide)), Or.inl (own_lt h2 (by decide)), Or.inl (own_lt h2 (by decide))⟩).trans (show own_inside c = (0 : Int32) from by unfold own_inside; simp only [show own_ge c (65 : Int32) = (1 : Int32) from own_hi h1 (by decide), show own_ge c (91 : Int32) = (1 : Int32) from own_hi h1 (by decide), show own_ge c (97 : Int32) = (0 : Int32) from own_lo h2 (by decide), show own_ge c (123 : Int32) = (0 : Int32) from own_lo h2 (by decide), show own_ge c (192 : Int32) = (0 : Int32) from own_lo h2 (by decide), show own_ge c (215 : Int32) = (0 : Int32) from own_lo h2 (by decide), show own_ge c (216 : Int32) = (0 : Int32) from own_lo h2 (by decide), show own_ge c (247 : Int32) = (0 : Int32) from own_lo h2 (by decide), show own_ge c (248 : Int32) = (0 : Int32) from own_lo h2 (by decide), show own_ge c (768 : Int32) = (0 : Int32) from own_lo h2 (by decide), show own_ge c (880 : Int32) = (0 : Int32) from own_lo h2 (by decide), show own_ge c (894 : Int32) = (0 : Int32) from own_lo h2 (by decide), show own_ge c (895 : Int32) = (0 : Int32) from own_lo h2 (by decide), show own_ge c (8192 : Int32) = (0 : Int32) from own_lo h2 (by decide), show own_ge c (8204 : Int32) = (0 : Int32) from own_lo h2 (by decide), show own_ge c (8206 : Int32) = (0 : Int32) from own_lo h2 (by decide), show own_ge c (8304 : Int32) = (0 : Int32) from own_lo h2 (by decide), show own_ge c (8592 : Int32) = (0 : Int32) from own_lo h2 (by decide), show own_ge c (11264 : Int32) = (0 : Int32) from own_lo h2 (by decide), show own_ge c (12272 : Int32) = (0 : Int32) from own_lo h2 (by decide), show own_ge c (12289 : Int32) = (0 : Int32) from own_lo h2 (by decide), show own_ge c (55296 : Int32) = (0 : Int32) from own_lo h2 (by decide), show own_ge c (63744 : Int32) = (0 : Int32) from own_lo h2 (by decide), show own_ge c (64976 : Int32) = (0 : Int32) from own_lo h2 (by decide), show own_ge c (65008 : Int32) = (0 : Int32) from own_lo h2 (by decide), show own_ge c (65534 : Int32) = (0 : Int32) from own_lo h2 (by decide), show own_ge c (65536 : Int32) = (0 : Int32) from own_lo h2 (by decide), show own_ge c (983040 : Int32) = (0 : Int32) from own_lo h2 (by decide)]; decide).symm
  by_cases h3 : c < (123 : Int32)
  · exact (show own_base c = (1 : Int32) from own_hit1 h2 h3).trans (show own_inside c = (1 : Int32) from by unfold own_inside; simp only [show own_ge c (65 : Int32) = (1 : Int32) from own_hi h2 (by decide), show own_ge c (91 : Int32) = (1 : Int32) from own_hi h2 (by decide), show own_ge c (97 : Int32) = (1 : Int32) from own_hi h2 (by decide), show own_ge c (123 : Int32) = (0 : Int32) from own_lo h3 (by decide), show own_ge c (192 : Int32) = (0 : Int32) from own_lo h3 (by decide), show own_ge c (215 : Int32) = (0 : Int32) from own_lo h3 (by decide), show own_ge c (216 : Int32) = (0 : Int32) from own_lo h3 (by decide), show own_ge c (247 : Int32) = (0 : Int32) from own_lo h3 (by decide), show own_ge c (248 : Int32) = (0 : Int32) from own_lo h3 (by decide), show own_ge c (768 : Int32) = (0 : Int32) from own_lo h3 (by decide), show own_ge c (880 : Int32) = (0 : Int32) from own_lo h3 (by decide), show own_ge c (894 : Int32) = (0 : Int32) from own_lo h3 (by decide), show own_ge c (895 : Int32) = (0 : Int32) from own_lo h3 (by decide), show own_ge c (8192 : Int32) = (0 : Int32) from own_lo h3 (by decide), show own_ge c (8204 : Int32) = (0 : Int32) from own_lo h3 (by decide), show own_ge c (8206 : Int32) = (0 : Int32) from own_lo h3 (by decide), show own_ge c (8304 : Int32) = (0 : Int32) from own_lo h3 (by decide), show own_ge c (8592 : Int32) = (0 : Int32) from own_lo h3 (by decide), show own_ge c (11264 : Int32) = (0 : Int32) from own_lo h3 (by decide), show own_ge c (12272 : Int32) = (0 : Int32) from own_lo h3 (by decide), show own_ge c (12289 : Int32) = (0 : Int32) from own_lo h3 (by decide), show own_ge c (55296 : Int32) = (0 : Int32) from own_lo h3 (by decide), show own_ge c (63744 : Int32) = (0 : Int32) from own_lo h3 (by decide), show own_ge c (64976 : Int32) = (0 : Int32) from own_lo h3 (by decide), show own_ge c (65008 : Int32) = (0 : Int32) from own_lo h3 (by decide), show own_ge c (65534 : Int32) = (0 : Int32) from own_lo h3 (by decide), show own_ge c (65536 : Int32) = (0 : Int32) from own_lo h3 (by decide), show own_ge c (983040 : Int32) = (0 : Int32) from own_lo h3 (by decide)]; decide).symm
  by_cases h4 : c < (192 : Int32)
  · exact (show own_base c = (0 : Int32) from if_pos ⟨Or.inr (own_gt h3 (by decide)), Or.inr (own_gt h3 (by decide)), Or.inl (own_lt h4 (by decide)), Or.inl (own_lt h4 (by decide)), Or.inl (own_lt h4 (by decide)), Or.inl (own_lt h4 (by decide)), Or.inl (own_lt h4 (by decide)), Or.inl (own_lt h4 (by decide)), Or.inl (own_lt h4 (by decide)), Or.inl (own_lt h4 (by decide)), Or.inl (own_lt h4 (by decide)), Or.inl (own_lt h4 (by decide)), Or.inl (own_lt h4 (by decide)), Or.inl (own_lt h4 (by decide))⟩).trans (show own_inside c = (0 : Int32) from by unfold own_inside; simp only [show own_ge c (65 : Int32) = (1 : Int32) from own_hi h3 (by decide), show own_ge c (91 : Int32) = (1 : Int32) from own_hi h3 (by decide), show own_ge c (97 : Int32) = (1 : Int32) from own_hi h3 (by decide), show own_ge c (123 : Int32) = (1 : Int32) from own_hi h3 (by decide), show own_ge c (192 : Int32) = (0 : Int32) from own_lo h4 (by decide), show own_ge c (215 : Int32) = (0 : Int32) from own_lo h4 (by decide), show own_ge c (216 : Int32) = (0 : Int32) from own_lo h4 (by decide), show own_ge c (247 : Int32) = (0 : Int32) from own_lo h4 (by decide), show own_ge c (248 : Int32) = (0 : Int32) from own_lo h4 (by decide), show own_ge c (768 : Int32) = (0 : Int32) from own_lo h4 (by decide), show own_ge c (880 : Int32) = (0 : Int32) from own_lo h4 (by decide), show own_ge c (894 : Int32) = (0 : Int32) from own_lo h4 (by decide), show own_ge c (895 : Int32) = (0 : Int32) from own_lo h4 (by decide), show own_ge c (8192 : Int32) = (0 : Int32) from own_lo h4 (by decide), show own_ge c (8204 : Int32) = (0 : Int32) from own_lo h4 (by decide), show own_ge c (8206 : Int32) = (0 : Int32) from own_lo h4 (by decide), show own_ge c (8304 : Int32) = (0 : Int32) from own_lo h4 (by decide), show own_ge c (8592 : Int32) = (0 : Int32) from own_lo h4 (by decide), show own_ge c (11264 : Int32) = (0 : Int32) from own_lo h4 (by decide), show own_ge c (12272 : Int32) = (0 : Int32) from own_lo h4 (by decide), show own_ge c (12289 : Int32) = (0 : Int32) from own_lo h4 (by decide), show own_ge c (55296 : Int32) = (0 : Int32) from own_lo h4 (by decide), show own_ge c (63744 : Int32) = (0 : Int32) from own_lo h4 (by decide), show own_ge c (64976 : Int32) = (0 : Int32) from own_lo h4 (by decide), show own_ge c (65008 : Int32) = (0 : Int32) from own_lo h4 (by decide), show own_ge c (65534 : Int32) = (0 : Int32) from own_lo h4 (by decide), show own_ge c (65536 : Int32) = (0 : Int32) from own_lo h4 (by decide), show own_ge c (983040 : Int32) = (0 : Int32) from own_lo h4 (by decide)]; decide).symm
  by_cases h5 : c < (215 : Int32)
  · exact (show own_base c = (1 : Int32) from own_hit2 h4 h5).trans (show own_inside c = (1 : Int32) from by unfold own_inside; simp only [show own_ge c (65 : Int32) = (1 : Int32) from own_hi h4 (by decide), show own_ge c (91 : Int32) = (1 : Int32) from own_hi h4 (by decide), show own_ge c (97 : Int32) = (1 : Int32) from own_hi h4 (by decide), show own_ge c (123 : Int32) = (1 : Int32) from own_hi h4 (by decide), show own_ge c (192 : Int32) = (1 : Int32) from own_hi h4 (by decide), show own_ge c (215 : Int32) = (0 : Int32) from own_lo h5 (by decide), show own_ge c (216 : Int32) = (0 : Int32) from own_lo h5 (by decide), show own_ge c (247 : Int32) = (0 : Int32) from own_lo h5 (by decide), show own_ge c (248 : Int32) = (0 : Int32) from own_lo h5 (by decide), show own_ge c (768 : Int32) = (0 : Int32) from own_lo h5 (by decide), show own_ge c (880 : Int32) = (0 : Int32) from own_lo h5 (by decide), show own_ge c (894 : Int32) = (0 : Int32) from own_lo h5 (by decide), show own_ge c (895 : Int32) = (0 : Int32) from own_lo h5 (by decide), show own_ge c (8192 : Int32) = (0 : Int32) from own_lo h5 (by decide), show own_ge c (8204 : Int32) = (0 : Int32) from own_lo h5 (by decide), show own_ge c (8206 : Int32) = (0 : Int32) from own_lo h5 (by decide), show own_ge c (8304 : Int32) = (0 : Int32) from own_lo h5 (by decide), show own_ge c (8592 : Int32) = (0 : Int32) from own_lo h5 (by decide), show own_ge c (11264 : Int32) = (0 : Int32) from own_lo h5 (by decide), show own_ge c (12272 : Int32) = (0 : Int32) from own_lo h5 (by decide), show own_ge c (12289 : Int32) = (0 : Int32) from own_lo h5 (by decide), show own_ge c (55296 : Int32) = (0 : Int32) from own_lo h5 (by decide), show own_ge c (63744 : Int32) = (0 : Int32) from own_lo h5 (by decide), show own_ge c (64976 : Int32) = (0 : Int32) from own_lo h5 (by decide), show own_ge c (65008 : Int32) = (0 : Int32) from own_lo h5 (by decide), show own_ge c (65534 : Int32) = (0 : Int32) from own_lo h5 (by decide), show own_ge c (65536 : Int32) = (0 : Int32) from own_lo h5 (by decide), show own_ge c (983040 : Int32) = (0 : Int32) from own_lo h5 (by decide)]; decide).symm
  by_cases h6 : c < (216 : Int32)
  · exact (show own_base c = (0 : Int32) from if_pos ⟨Or.inr (own_gt h5 (by decide)), Or.inr (own_gt h5 (by decide)), Or.inr (own_gt h5 (by decide)), Or.inl (own_lt h6 (by decide)), Or.inl (own_lt h6 (by decide)), Or.inl (own_lt h6 (by decide)), Or.inl (own_lt h6 (by decide)), Or.inl (own_lt h6 (by decide)), Or.inl (own_lt h6 (by decide)), Or.inl (own_lt h6 (by decide)), Or.inl (own_lt h6 (by decide)), Or.inl (own_lt h6 (by decide)), Or.inl (own_lt h6 (by decide)), Or.inl (own_lt h6 (by decide))⟩).trans (show own_inside c = (0 : Int32) from by unfold own_inside; simp only [show own_ge c (65 : Int32) = (1 : Int32) from own_hi h5 (by decide), show own_ge c (91 : Int32) = (1 : Int32) from own_hi h5 (by decide), show own_ge c (97 : Int32) = (1 : Int32) from own_hi h5 (by decide), show own_ge c (123 : Int32) = (1 : Int32) from own_hi h5 (by decide), show own_ge c (192 : Int32) = (1 : Int32) from own_hi h5 (by decide), show own_ge c (215 : Int32) = (1 : Int32) from own_hi h5 (by decide), show own_ge c (216 : Int32) = (0 : Int32) from own_lo h6 (by decide), show own_ge c (247 : Int32) = (0 : Int32) from own_lo h6 (by decide), show own_ge c (248 : Int32) = (0 : Int32) from own_lo h6 (by decide), show own_ge c (768 : Int32) = (0 : Int32) from own_lo h6 (by decide), show own_ge c (880 : Int32) = (0 : Int32) from own_lo h6 (by decide), show own_ge c (894 : Int32) = (0 : Int32) from own_lo h6 (by decide), show own_ge c (895 : Int32) = (0 : Int32) from own_lo h6 (by decide), show own_ge c (8192 : Int32) = (0 : Int32) from own_lo h6 (by decide), show own_ge c (8204 : Int32) = (0 : Int32) from own_lo h6 (by decide), show own_ge c (8206 : Int32) = (0 : Int32) from own_lo h6 (by decide), show own_ge c (8304 : Int32) = (0 : Int32) from own_lo h6 (by decide), show own_ge c (8592 : Int32) = (0 : Int32) from own_lo h6 (by decide), show own_ge c (11264 : Int32) = (0 : Int32) from own_lo h6 (by decide), show own_ge c (12272 : Int32) = (0 : Int32) from own_lo h6 (by decide), show own_ge c (12289 : Int32) = (0 : Int32) from own_lo h6 (by decide), show own_ge c (55296 : Int32) = (0 : Int32) from own_lo h6 (by decide), show own_ge c (63744 : Int32) = (0 : Int32) from own_lo h6 (by decide), show own_ge c (64976 : Int32) = (0 : Int32) from own_lo h6 (by decide), show own_ge c (65008 : Int32) = (0 : Int32) from own_lo h6 (by decide), show own_ge c (65534 : Int32) = (0 : Int32) from own_lo h6 (by decide), show own_ge c (65536 : Int32) = (0 : Int32) from own_lo h6 (by decide), show own_ge c (983040 : Int32) = (0 : Int32) from own_lo h6 (by decide)]; decide).symm
  by_cases h7 : c < (247 : Int32)
  · exact (show own_base c = (1 : Int32) from own_hit3 h6 h7).trans (show own_inside c = (1 : Int32) from by unfold own_inside; simp only [show own_ge c (65 : Int32) = (1 : Int32) from own_hi h6 (by decide), show own_ge c (91 : Int32) = (1 : Int32) from own_hi h6 (by decide), show own_ge c (97 : Int32) = (1 : Int32) from own_hi h6 (by decide), show own_ge c (123 : Int32) = (1 : Int32) from own_hi h6 (by decide), show own_ge c (192 : Int32) = (1 : Int32) from own_hi h6 (by decide), show own_ge c (215 : Int32) = (1 : Int32) from own_hi h6 (by decide), show own_ge c (216 : Int32) = (1 : Int32) from own_hi h6 (by decide), show own_ge c (247 : Int32) = (0 : Int32) from own_lo h7 (by decide), show own_ge c (248 : Int32) = (0 : Int32) from own_lo h7 (by decide), show own_ge c (768 : Int32) = (0 : Int32) from own_lo h7 (by decide), show own_ge c (880 : Int32) = (0 : Int32) from own_lo h7 (by decide), show own_ge c (894 : Int32) = (0 : Int32) from own_lo h7 (by decide), show own_ge c (895 : Int32) = (0 : Int32) from own_lo h7 (by decide), show own_ge c (8192 : Int32) = (0 : Int32) from own_lo h7 (by decide), show own_ge c (8204 : Int32) = (0 : Int32) from own_lo h7 (by decide), show own_ge c (8206 : Int32) = (0 : Int32) from own_lo h7 (by decide), show own_ge c (8304 : Int32) = (0 : Int32) from own_lo h7 (by decide), show own_ge c (8592 : Int32) = (0 : Int32) from own_lo h7 (by decide), show own_ge c (11264 : Int32) = (0 : Int32) from own_lo h7 (by decide), show own_ge c (12272 : Int32) = (0 : Int32) from own_lo h7 (by decide), show own_ge c (12289 : Int32) = (0 : Int32) from own_lo h7 (by decide), show own_ge c (55296 : Int32) = (0 : Int32) from own_lo h7 (by decide), show own_ge c (63744 : Int32) = (0 : Int32) from own_lo h7 (by decide), show own_ge c (64976 : Int32) = (0 : Int32) from own_lo h7 (by decide), show own_ge c (65008 : Int32) = (0 : Int32) from own_lo h7 (by decide), show own_ge c (65534 : Int32) = (0 : Int32) from own_lo h7 (by decide), show own_ge c (65536 : Int32) = (0 : Int32) from own_lo h7 (by decide), show own_ge c (983040 : Int32) = (0 : Int32) from own_lo h7 (by decide)]; decide).symm
  by_cases h8 : c < (248 : Int32)
  · exact (show own_base c = (0 : Int32) from if_pos ⟨Or.inr (own_gt h7 (by decide)), Or.inr (own_gt h7 (by decide)), Or.inr (own_gt h7 (by decide)), Or.inr (own_gt h7 (by decide)), Or.inl (own_lt h8 (by decide)), Or.inl (own_lt h8 (by decide)), Or.inl (own_lt h8 (by decide)), Or.inl (own_lt h8 (by decide)), Or.inl (own_lt h8 (by decide)), Or.inl (own_lt h8 (by decide)), Or.inl (own_lt h8 (by decide)), Or.inl (own_lt h8 (by decide)), Or.inl (own_lt h8 (by decide)), Or.inl (own_lt h8 (by decide))⟩).trans (show own_inside c = (0 : Int32) from by unfold own_inside; simp only [show own_ge c (65 : Int32) = (1 : Int32) from own_hi h7 (by decide), show own_ge c (91 : Int32) = (1 : Int32) from own_hi h7 (by decide), show own_ge c (97 : Int32) = (1 : Int32) from own_hi h7 (by decide), show own_ge c (123 : Int32) = (1 : Int32) from own_hi h7 (by decide), show own_ge c (192 : Int32) = (1 : Int32) from own_hi h7 (by decide), show own_ge c (215 : Int32) = (1 : Int32) from own_hi h7 (by decide), show own_ge c (216 : Int32) = (1 : Int32) from own_hi h7 (by decide), show own_ge c (247 : Int32) = (1 : Int32) from own_hi h7 (by decide), show own_ge c (248 : Int32) = (0 : Int32) from own_lo h8 (by decide), show own_ge c (768 : Int32) = (0 : Int32) from own_lo h8 (by decide), show own_ge c (880 : Int32) = (0 : Int32) from own_lo h8 (by decide), show own_ge c (894 : Int32) = (0 : Int32) from own_lo h8 (by decide), show own_ge c (895 : Int32) = (0 : Int32) from own_lo h8 (by decide), show own_ge c (8192 : Int32) = (0 : Int32) from own_lo h8 (by decide), show own_ge c (8204 : Int32) = (0 : Int32) from own_lo h8 (by decide), show own_ge c (8206 : Int32) = (0 : Int32) from own_lo h8 (by decide), show own_ge c (8304 : Int32) = (0 : Int32) from own_lo h8 (by decide), show own_ge c (8592 : Int32) = (0 : Int32) from own_lo h8 (by decide), show own_ge c (11264 : Int32) = (0 : Int32) from own_lo h8 (by decide), show own_ge c (12272 : Int32) = (0 : Int32) from own_lo h8 (by decide), show own_ge c (12289 : Int32) = (0 : Int32) from own_lo h8 (by decide), show own_ge c (55296 : Int32) = (0 : Int32) from own_lo h8 (by decide), show own_ge c (63744 : Int32) = (0 : Int32) from own_lo h8 (by decide), show own_ge c (64976 : Int32) = (0 : Int32) from own_lo h8 (by decide), show own_ge c (65008 : Int32) = (0 : Int32) from own_lo h8 (by decide), show own_ge c (65534 : Int32) = (0 : Int32) from own_lo h8 (by decide), show own_ge c (65536 : Int32) = (0 : Int32) from own_lo h8 (by decide), show own_ge c (983040 : Int32) = (0 : Int32) from own_lo h8 (by decide)]; decide).symm
  by_cases h9 : c < (768 : Int32)
  · exact (show own_base c = (1 : Int32) from own_hit4 h8 h9).trans (show own_inside c = (1 : Int32) from by unfold own_inside; simp only [show own_ge c (65 : Int32) = (1 : Int32) from own_hi h8 (by decide), show own_ge c (91 : Int32) = (1 : Int32) from own_hi h8 (by decide), show own_ge c (97 : Int32) = (1 : Int32) from own_hi h8 (by decide), show own_ge c (123 : Int32) = (1 : Int32) from own_hi h8 (by decide), show own_ge c (192 : Int32) = (1 : Int32) from own_hi h8 (by decide), show own_ge c (215 : Int32) = (1 : Int32) from own_hi h8 (by decide), show own_ge c (216 : Int32) = (1 : Int32) from own_hi h8 (by decide), show own_ge c (247 : Int32) = (1 : Int32) from own_hi h8 (by decide), show own_ge c (248 : Int32) = (1 : Int32) from own_hi h8 (by decide), show own_ge c (768 : Int32) = (0 : Int32) from own_lo h9 (by decide), show own_ge c (880 : Int32) = (0 : Int32) from own_lo h9 (by decide), show own_ge c (894 : Int32) = (0 : Int32) from own_lo h9 (by decide), show own_ge c (895 : Int32) = (0 : Int32) from own_lo h9 (by decide), show own_ge c (8192 : Int32) = (0 : Int32) from own_lo h9 (by decide), show own_ge c (8204 : Int32) = (0 : Int32) from own_lo h9 (by decide), show own_ge c (8206 : Int32) = (0 : Int32) from own_lo h9 (by decide), show own_ge c (8304 : Int32) = (0 : Int32) from own_lo h9 (by decide), show own_ge c (8592 : Int32) = (0 : Int32) from own_lo h9 (by decide), show own_ge c (11264 : Int32) = (0 : Int32) from own_lo h9 (by decide), show own_ge c (12272 : Int32) = (0 : Int32) from own_lo h9 (by decide), show own_ge c (12289 : Int32) = (0 : Int32) from own_lo h9 (by decide), show own_ge c (55296 : Int32) = (0 : Int32) from own_lo h9 (by decide), show own_ge c (63744 : Int32) = (0 : Int32) from own_lo h9 (by decide), show own_ge c (64976 : Int32) = (0 : Int32) from own_lo h9 (by decide), show own_ge c (65008 : Int32) = (0 : Int32) from own_lo h9 (by decide), show own_ge c (65534 : Int32) = (0 : Int32) from own_lo h9 (by decide), show own_ge c (65536 : Int32) = (0 : Int32) from own_lo h9 (by decide), show own_ge c (983040 : Int32) = (0 : Int32) from own_lo h9 (by decide)]; decide).symm
  by_cases h10 : c < (880 : Int32)
  · exact (show own_base c = (0 : Int32) from if_pos ⟨Or.inr (own_gt h9 (by decide)), Or.inr (own_gt h9 (by decide)), Or.inr (own_gt h9 (by decide)), Or.inr (own_gt h9 (by decide)), Or.inr (own_gt h9 (by decide)), Or.inl (own_lt h10 (by decide)), Or.inl (own_lt h10 (by decide)), Or.inl (own_lt h10 (by decide)), Or.inl (own_lt h10 (by decide)), Or.inl (own_lt h10 (by decide)), Or.inl (own_lt h10 (by decide)), Or.inl (own_lt h10 (by decide)), Or.inl (own_lt h10 (by decide)), Or.inl (own_lt h10 (by decide))⟩).trans (show own_inside c = (0 : Int32) from by unfold own_inside; simp only [show own_ge c (65 : Int32) = (1 : Int32) from own_hi h9 (by decide), show own_ge c (91 : Int32) = (1 : Int32) from own_hi h9 (by decide), show own_ge c (97 : Int32) = (1 : Int32) from own_hi h9 (by decide), show own_ge c (123 : Int32) = (1 : Int32) from own_hi h9 (by decide), show own_ge c (192 : Int32) = (1 : Int32) from own_hi h9 (by decide), show own_ge c (215 : Int32) = (1 : Int32) from own_hi h9 (by decide), show own_ge c (216 : Int32) = (1 : Int32) from own_hi h9 (by decide), show own_ge c (247 : Int32) = (1 : Int32) from own_hi h9 (by decide), show own_ge c (248 : Int32) = (1 : Int32) from own_hi h9 (by decide), show own_ge c (768 : Int32) = (1 : Int32) from own_hi h9 (by decide), show own_ge c (880 : Int32) = (0 : Int32) from own_lo h10 (by decide), show own_ge c (894 : Int32) = (0 : Int32) from own_lo h10 (by decide), show own_ge c (895 : Int32) = (0 : Int32) from own_lo h10 (by decide), show own_ge c (8192 : Int32) = (0 : Int32) from own_lo h10 (by decide), show own_ge c (8204 : Int32) = (0 : Int32) from own_lo h10 (by decide), show own_ge c (8206 : Int32) = (0 : Int32) from own_lo h10 (by decide), show own_ge c (8304 : Int32) = (0 : Int32) from own_lo h10 (by decide), show own_ge c (8592 : Int32) = (0 : Int32) from own_lo h10 (by decide), show own_ge c (11264 : Int32) = (0 : Int32) from own_lo h10 (by decide), show own_ge c (12272 : Int32) = (0 : Int32) from own_lo h10 (by decide), show own_ge c (12289 : Int32) = (0 : Int32) from own_lo h10 (by decide), show own_ge c (55296 : Int32) = (0 : Int32) from own_lo h10 (by decide), show own_ge c (63744 : Int32) = (0 : Int32) from own_lo h10 (by decide), show own_ge c (64976 : Int32) = (0 : Int32) from own_lo h10 (by decide), show own_ge c (65008 : Int32) = (0 : Int32) from own_lo h10 (by decide), show own_ge c (65534 : Int32) = (0 : Int32) from own_lo h10 (by decide), show own_ge c (65536 : Int32) = (0 : Int32) from own_lo h10 (by decide), show own_ge c (983040 : Int32) = (0 : Int32) from own_lo h10 (by decide)]; decide).symm
  by_cases h11 : c < (894 : Int32)
  · exact (show own_base c = (1 : Int32) from own_hit5 h10 h11).trans (show own_inside c = (1 : Int32) from by unfold own_inside; simp only [show own_ge c (65 : Int32) = (1 : Int32) from own_hi h10 (by decide), show own_ge c (91 : Int32) = (1 : Int32) from own_hi h10 (by decide), show own_ge c (97 : Int32) = (1 : Int32) from own_hi h10 (by decide), show own_ge c (123 : Int32) = (1 : Int32) from own_hi h10 (by decide), show own_ge c (192 : Int32) = (1 : Int32) from own_hi h10 (by decide), show own_ge c (215 : Int32) = (1 : Int32) from own_hi h10 (by decide), show own_ge c (216 : Int32) = (1 : Int32) from own_hi h10 (by decide), show own_ge c (247 : Int32) = (1 : Int32) from own_hi h10 (by decide), show own_ge c (248 : Int32) = (1 : Int32) from own_hi h10 (by decide), show own_ge c (768 : Int32) = (1 : Int32) from own_hi h10 (by decide), show own_ge c (880 : Int32) = (1 : Int32) from own_hi h10 (by decide), show own_ge c (894 : Int32) = (0 : Int32) from own_lo h11 (by decide), show own_ge c (895 : Int32) = (0 : Int32) from own_lo h11 (by decide), show own_ge c (8192 : Int32) = (0 : Int32) from own_lo h11 (by decide), show own_ge c (8204 : Int32) = (0 : Int32) from own_lo h11 (by decide), show own_ge c (8206 : Int32) = (0 : Int32) from own_lo h11 (by decide), show own_ge c (8304 : Int32) = (0 : Int32) from own_lo h11 (by decide), show own_ge c (8592 : Int32) = (0 : Int32) from own_lo h11 (by decide), show own_ge c (11264 : Int32) = (0 : Int32) from own_lo h11 (by decide), show own_ge c (12272 : Int32) = (0 : Int32) from own_lo h11 (by decide), show own_ge c (12289 : Int32) = (0 : Int32) from own_lo h11 (by decide), show own_ge c (55296 : Int32) = (0 : Int32) from own_lo h11 (by decide), show own_ge c (63744 : Int32) = (0 : Int32) from own_lo h11 (by decide), show own_ge c (64976 : Int32) = (0 : Int32) from own_lo h11 (by decide), show own_ge c (65008 : Int32) = (0 : Int32) from own_lo h11 (by decide), show own_ge c (65534 : Int32) = (0 : Int32) from own_lo h11 (by decide), show own_ge c (65536 : Int32) = (0 : Int32) from own_lo h11 (by decide), show own_ge c (983040 : Int32) = (0 : Int32) from own_lo h11 (by decide)]; decide).symm
  by_cases h12 : c < (895 : Int32)
  · exact (show own_base c = (0 : Int32) from if_pos ⟨Or.inr (own_gt h11 (by decide)), Or.inr (own_gt h11 (by decide)), Or.inr (own_gt h11 (by decide)), Or.inr (own_gt h11 (by decide)), Or.inr (own_gt h11 (by decide)), Or.inr (own_gt h11 (by decide)), Or.inl (own_lt h12 (by decide)), Or.inl (own_lt h12 (by decide)), Or.inl (own_lt h12 (by decide)), Or.inl (own_lt h12 (by decide)), Or.inl (own_lt h12 (by decide)), Or.inl (own_lt h12 (by decide)), Or.inl (own_lt h12 (by decide)), Or.inl (own_lt h12 (by decide))⟩).trans (show own_inside c = (0 : Int32) from by unfold own_inside; simp only [show own_ge c (65 : Int32) = (1 : Int32) from own_hi h11 (by decide), show own_ge c (91 : Int32) = (1 : Int32) from own_hi h11 (by decide), show own_ge c (97 : Int32) = (1 : Int32) from own_hi h11 (by decide), show own_ge c (123 : Int32) = (1 : Int32) from own_hi h11 (by decide), show own_ge c (192 : Int32) = (1 : Int32) from own_hi h11 (by decide), show own_ge c (215 : Int32) = (1 : Int32) from own_hi h11 (by decide), show own_ge c (216 : Int32) = (1 : Int32) from own_hi h11 (by decide), show own_ge c (247 : Int32) = (1 : Int32) from own_hi h11 (by decide), show own_ge c (248 : Int32) = (1 : Int32) from own_hi h11 (by decide), show own_ge c (768 : Int32) = (1 : Int32) from own_hi h11 (by decide), show own_ge c (880 : Int32) = (1 : Int32) from own_hi h11 (by decide), show own_ge c (894 : Int32) = (1 : Int32) from own_hi h11 (by decide), show own_ge c (895 : Int32) = (0 : Int32) from own_lo h12 (by decide), show own_ge c (8192 : Int32) = (0 : Int32) from own_lo h12 (by decide), show own_ge c (8204 : Int32) = (0 : Int32) from own_lo h12 (by decide), show own_ge c (8206 : Int32) = (0 : Int32) from own_lo h12 (by decide), show own_ge c (8304 : Int32) = (0 : Int32) from own_lo h12 (by decide), show own_ge c (8592 : Int32) = (0 : Int32) from own_lo h12 (by decide), show own_ge c (11264 : Int32) = (0 : Int32) from own_lo h12 (by decide), show own_ge c (12272 : Int32) = (0 : Int32) from own_lo h12 (by decide), show own_ge c (12289 : Int32) = (0 : Int32) from own_lo h12 (by decide), show own_ge c (55296 : Int32) = (0 : Int32) from own_lo h12 (by decide), show own_ge c (63744 : Int32) = (0 : Int32) from own_lo h12 (by decide), show own_ge c (64976 : Int32) = (0 : Int32) from own_lo h12 (by decide), show own_ge c (65008 : Int32) = (0 : Int32) from own_lo h12 (by decide), show own_ge c (65534 : Int32) = (0 : Int32) from own_lo h12 (by decide), show own_ge c (65536 : Int32) = (0 : Int32) from own_lo h12 (by decide), show own_ge c (983040 : Int32) = (0 : Int32) from own_lo h12 (by decide)]; decide).symm
  by_cases h13 : c < (8192 : Int32)
  · exact (show own_base c = (1 : Int32) from own_hit6 h12 h13).trans (show own_inside c = (1 : Int32) from by unfold own_inside; simp only [show own_ge c (65 : Int32) = (1 : Int32) from own_hi h12 (by decide), show own_ge c (91 : Int32) = (1 : Int32) from own_hi h12 (by decide), show own_ge c (97 : Int32) = (1 : Int32) from own_hi h12 (by decide), show own_ge c (123 : Int32) = (1 : Int32) from own_hi h12 (by decide), show own_ge c (192 : Int32) = (1 : Int32) from own_hi h12 (by decide), show own_ge c (215 : Int32) = (1 : Int32) from own_hi h12 (by decide), show own_ge c (216 : Int32) = (1 : Int32) from own_hi h12 (by decide), show own_ge c (247 : Int32) = (1 : Int32) from own_hi h12 (by decide), show own_ge c (248 : Int32) = (1 : Int32) from own_hi h12 (by decide), show own_ge c (768 : Int32) = (1 : Int32) from own_hi h12 (by decide), show own_ge c (880 : Int32) = (1 : Int32) from own_hi h12 (by decide), show own_ge c (894 : Int32) = (1 : Int32) from own_hi h12 (by decide), show own_ge c (895 : Int32) = (1 : Int32) from own_hi h12 (by decide), show own_ge c (8192 : Int32) = (0 : Int32) from own_lo h13 (by decide), show own_ge c (8204 : Int32) = (0 : Int32) from own_lo h13 (by decide), show own_ge c (8206 : Int32) = (0 : Int32) from own_lo h13 (by decide), show own_ge c (8304 : Int32) = (0 : Int32) from own_lo h13 (by decide), show own_ge c (8592 : Int32) = (0 : Int32) from own_lo h13 (by decide), show own_ge c (11264 : Int32) = (0 : Int32) from own_lo h13 (by decide), show own_ge c (12272 : Int32) = (0 : Int32) from own_lo h13 (by decide), show own_ge c (12289 : Int32) = (0 : Int32) from own_lo h13 (by decide), show own_ge c (55296 : Int32) = (0 : Int32) from own_lo h13 (by decide), show own_ge c (63744 : Int32) = (0 : Int32) from own_lo h13 (by decide), show own_ge c (64976 : Int32) = (0 : Int32) from own_lo h13 (by decide), show own_ge c (65008 : Int32) = (0 : Int32) from own_lo h13 (by decide), show own_ge c (65534 : Int32) = (0 : Int32) from own_lo h13 (by decide), show own_ge c (65536 : Int32) = (0 : Int32) from own_lo h13 (by decide), show own_ge c (983040 : Int32) = (0 : Int32) from own_lo h13 (by decide)]; decide).symm
  by_cases h14 : c < (8204 : Int32)
  · exact (show own_base c = (0 : Int32) from if_pos ⟨Or.inr (own_gt h13 (by decide)), Or.inr (own_gt h13 (by decide)), Or.inr (own_gt h13 (by decide)), Or.inr (own_gt h13 (by decide)), Or.inr (own_gt h13 (by decide)), Or.inr (own_gt h13 (by decide)), Or.inr (own_gt h13 (by decide)), Or.inl (own_lt h14 (by decide)), Or.inl (own_lt h14 (by decide)), Or.inl (own_lt h14 (by decide)), Or.inl (own_lt h14 (by decide)), Or.inl (own_lt h14 (by decide)), Or.inl (own_lt h14 (by decide)), Or.inl (own_lt h14 (by decide))⟩).trans (show own_inside c = (0 : Int32) from by unfold own_inside; simp only [show own_ge c (65 : Int32) = (1 : Int32) from own_hi h13 (by decide), show own_ge c (91 : Int32) = (1 : Int32) from own_hi h13 (by decide), show own_ge c (97 : Int32) = (1 : Int32) from own_hi h13 (by decide), show own_ge c (123 : Int32) = (1 : Int32) from own_hi h13 (by decide), show own_ge c (192 : Int32) = (1 : Int32) from own_hi h13 (by decide), show own_ge c (215 : Int32) = (1 : Int32) from own_hi h13 (by decide), show own_ge c (216 : Int32) = (1 : Int32) from own_hi h13 (by decide), show own_ge c (247 : Int32) = (1 : Int32) from own_hi h13 (by decide), show own_ge c (248 : Int32) = (1 : Int32) from own_hi h13 (by decide), show own_ge c (768 : Int32) = (1 : Int32) from own_hi h13 (by decide), show own_ge c (880 : Int32) = (1 : Int32) from own_hi h13 (by decide), show own_ge c (894 : Int32) = (1 : Int32) from own_hi h13 (by decide), show own_ge c (895 : Int32) = (1 : Int32) from own_hi h13 (by decide), show own_ge c (8192 : Int32) = (1 : Int32) from own_hi h13 (by decide), show own_ge c (8204 : Int32) = (0 : Int32) from own_lo h14 (by decide), show own_ge c (8206 : Int32) = (0 : Int32) from own_lo h14 (by decide), show own_ge c (8304 : Int32) = (0 : Int32) from own_lo h14 (by decide), show own_ge c (8592 : Int32) = (0 : Int32) from own_lo h14 (by decide), show own_ge c (11264 : Int32) = (0 : Int32) from own_lo h14 (by decide), show own_ge c (12272 : Int32) = (0 : Int32) from own_lo h14 (by decide), show own_ge c (12289 : Int32) = (0 : Int32) from own_lo h14 (by decide), show own_ge c (55296 : Int32) = (0 : Int32) from own_lo h14 (by decide), show own_ge c (63744 : Int32) = (0 : Int32) from own_lo h14 (by decide), show own_ge c (64976 : Int32) = (0 : Int32) from own_lo h14 (by decide), show own_ge c (65008 : Int32) = (0 : Int32) from own_lo h14 (by decide), show own_ge c (65534 : Int32) = (0 : Int32) from own_lo h14 (by decide), show own_ge c (65536 : Int32) = (0 : Int32) from own_lo h14 (by decide), show own_ge c (983040 : Int32) = (0 : Int32) from own_lo h14 (by decide)]; decide).symm
  by_cases h15 : c < (8206 : Int32)
  · exact (show own_base c = (1 : Int32) from own_hit7 h14 h15).trans (show own_inside c = (1 : Int32) from by unfold own_inside; simp only [show own_ge c (65 : Int32) = (1 : Int32) from own_hi h14 (by decide), show own_ge c (91 : Int32) = (1 : Int32) from own_hi h14 (by decide), show own_ge c (97 : Int32) = (1 : Int32) from own_hi h14 (by decide), show own_ge c (123 : Int32) = (1 : Int32) from own_hi h14 (by decide), show own_ge c (192 : Int32) = (1 : Int32) from own_hi h14 (by decide), show own_ge c (215 : Int32) = (1 : Int32) from own_hi h14 (by decide), show own_ge c (216 : Int32) = (1 : Int32) from own_hi h14 (by decide), show own_ge c (247 : Int32) = (1 : Int32) from own_hi h14 (by decide), show own_ge c (248 : Int32) = (1 : Int32) from own_hi h14 (by decide), show own_ge c (768 : Int32) = (1 : Int32) from own_hi h14 (by decide), show own_ge c (880 : Int32) = (1 : Int32) from own_hi h14 (by decide), show own_ge c (894 : Int32) = (1 : Int32) from own_hi h14 (by decide), show own_ge c (895 : Int32) = (1 : Int32) from own_hi h14 (by decide), show own_ge c (8192 : Int32) = (1 : Int32) from own_hi h14 (by decide), show own_ge c (8204 : Int32) = (1 : Int32) from own_hi h14 (by decide), show own_ge c (8206 : Int32) = (0 : Int32) from own_lo h15 (by decide), show own_ge c (8304 : Int32) = (0 : Int32) from own_lo h15 (by decide), show own_ge c (8592 : Int32) = (0 : Int32) from own_lo h15 (by decide), show own_ge c (11264 : Int32) = (0 : Int32) from own_lo h15 (by decide), show own_ge c (12272 : Int32) = (0 : Int32) from own_lo h15 (by decide), show own_ge c (12289 : Int32) = (0 : Int32) from own_lo h15 (by decide), show own_ge c (55296 : Int32) = (0 : Int32) from own_lo h15 (by decide), show own_ge c (63744 : Int32) = (0 : Int32) from own_lo h15 (by decide), show own_ge c (64976 : Int32) = (0 : Int32) from own_lo h15 (by decide), show own_ge c (65008 : Int32) = (0 : Int32) from own_lo h15 (by decide), show own_ge c (65534 : Int32) = (0 : Int32) from own_lo h15 (by decide), show own_ge c (65536 : Int32) = (0 : Int32) from own_lo h15 (by decide), show own_ge c (983040 : Int32) = (0 : Int32) from own_lo h15 (by decide)]; decide).symm
  by_cases h16 : c < (8304 : Int32)
  · exact (show own_base c = (0 : Int32) from if_pos ⟨Or.inr (own_gt h15 (by decide)), Or.inr (own_gt h15 (by decide)), Or.inr (own_gt h15 (by decide)), Or.inr (own_gt h15 (by decide)), Or.inr (own_gt h15 (by decide)), Or.inr (own_gt h15 (by decide)), Or.inr (own_gt h15 (by decide)), Or.inr (own_gt h15 (by decide)), Or.inl (own_lt h16 (by decide)), Or.inl (own_lt h16 (by decide)), Or.inl (own_lt h16 (by decide)), Or.inl (own_lt h16 (by decide)), Or.inl (own_lt h16 (by decide)), Or.inl (own_lt h16 (by decide))⟩).trans (show own_inside c = (0 : Int32) from by unfold own_inside; simp only [show own_ge c (65 : Int32) = (1 : Int32) from own_hi h15 (by decide), show own_ge c (91 : Int32) = (1 : Int32) from own_hi h15 (by decide), show own_ge c (97 : Int32) = (1 : Int32) from own_hi h15 (by decide), show own_ge c (123 : Int32) = (1 : Int32) from own_hi h15 (by decide), show own_ge c (192 : Int32) = (1 : Int32) from own_hi h15 (by decide), show own_ge c (215 : Int32) = (1 : Int32) from own_hi h15 (by decide), show own_ge c (216 : Int32) = (1 : Int32) from own_hi h15 (by decide), show own_ge c (247 : Int32) = (1 : Int32) from own_hi h15 (by decide), show own_ge c (248 : Int32) = (1 : Int32) from own_hi h15 (by decide), show own_ge c (768 : Int32) = (1 : Int32) from own_hi h15 (by decide), show own_ge c (880 : Int32) = (1 : Int32) from own_hi h15 (by decide), show own_ge c (894 : Int32) = (1 : Int32) from own_hi h15 (by decide), show own_ge c (895 : Int32) = (1 : Int32) from own_hi h15 (by decide), show own_ge c (8192 : Int32) = (1 : Int32) from own_hi h15 (by decide), show own_ge c (8204 : Int32) = (1 : Int32) from own_hi h15 (by decide), show own_ge c (8206 : Int32) = (1 : Int32) from own_hi h15 (by decide), show own_ge c (8304 : Int32) = (0 : Int32) from own_lo h16 (by decide), show own_ge c (8592 : Int32) = (0 : Int32) from own_lo h16 (by decide), show own_ge c (11264 : Int32) = (0 : Int32) from own_lo h16 (by decide), show own_ge c (12272 : Int32) = (0 : Int32) from own_lo h16 (by decide), show own_ge c (12289 : Int32) = (0 : Int32) from own_lo h16 (by decide), show own_ge c (55296 : Int32) = (0 : Int32) from own_lo h16 (by decide), show own_ge c (63744 : Int32) = (0 : Int32) from own_lo h16 (by decide), show own_ge c (64976 : Int32) = (0 : Int32) from own_lo h16 (by decide), show own_ge c (65008 : Int32) = (0 : Int32) from own_lo h16 (by decide), show own_ge c (65534 : Int32) = (0 : Int32) from own_lo h16 (by decide), show own_ge c (65536 : Int32) = (0 : Int32) from own_lo h16 (by decide), show own_ge c (983040 : Int32) = (0 : Int32) from own_lo h16 (by decide)]; decide).symm
  by_cases h17 : c < (8592 : Int32)
  · exact (show own_base c = (1 : Int32) from own_hit8 h16 h17).trans (show own_inside c = (1 : Int32) from by unfold own_inside; simp only [show own_ge c (65 : Int32) = (1 : Int32) from own_hi h16 (by decide), show own_ge c (91 : Int32) = (1 : Int32) from own_hi h16 (by decide), show own_ge c (97 : Int32) = (1 : Int32) from own_hi h16 (by decide), show own_ge c (123 : Int32) = (1 : Int32) from own_hi h16 (by decide), show own_ge c (192 : Int32) = (1 : Int32) from own_hi h16 (by decide), show own_ge c (215 : Int32) = (1 : Int32) from own_hi h16 (by decide), show own_ge c (216 : Int32) = (1 : Int32) from own_hi h16 (by decide), show own_ge c (247 : Int32) = (1 : Int32) from own_hi h16 (by decide), show own_ge c (248 : Int32) = (1 : Int32) from own_hi h16 (by decide), show own_ge c (768 : Int32) = (1 : Int32) from own_hi h16 (by decide), show own_ge c (880 : Int32) = (1 : Int32) from own_hi h16 (by decide), show own_ge c (894 : Int32) = (1 : Int32) from own_hi h16 (by decide), show own_ge c (895 : Int32) = (1 : Int32) from own_hi h16 (by decide), show own_ge c (8192 : Int32) = (1 : Int32) from own_hi h16 (by decide), show own_ge c (8204 : Int32) = (1 : Int32) from own_hi h16 (by decide), show own_ge c (8206 : Int32) = (1 : Int32) from own_hi h16 (by decide), show own_ge c (8304 : Int32) = (1 : Int32) from own_hi h16 (by decide), show own_ge c (8592 : Int32) = (0 : Int32) from own_lo h17 (by decide), show own_ge c (11264 : Int32) = (0 : Int32) from own_lo h17 (by decide), show own_ge c (12272 : Int32) = (0 : Int32) from own_lo h17 (by decide), show own_ge c (12289 : Int32) = (0 : Int32) from own_lo h17 (by decide), show own_ge c (55296 : Int32) = (0 : Int32) from own_lo h17 (by decide), show own_ge c (63744 : Int32) = (0 : Int32) from own_lo h17 (by decide), show own_ge c (64976 : Int32) = (0 : Int32) from own_lo h17 (by decide), show own_ge c (65008 : Int32) = (0 : Int32) from own_lo h17 (by decide), show own_ge c (65534 : Int32) = (0 : Int32) from own_lo h17 (by decide), show own_ge c (65536 : Int32) = (0 : Int32) from own_lo h17 (by decide), show own_ge c (983040 : Int32) = (0 : Int32) from own_lo h17 (by decide)]; decide).symm
  by_cases h18 : c < (11264 : Int32)
  · exact (show own_base c = (0 : Int32) from if_pos ⟨Or.inr (own_gt h17 (by decide)), Or.inr (own_gt h17 (by decide)), Or.inr (own_gt h17 (by decide)), Or.inr (own_gt h17 (by decide)), Or.inr (own_gt h17 (by decide)), Or.inr (own_gt h17 (by decide)), Or.inr (own_gt h17 (by decide)), Or.inr (own_gt h17 (by decide)), Or.inr (own_gt h17 (by decide)), Or.inl (own_lt h18 (by decide)), Or.inl (own_lt h18 (by decide)), Or.inl (own_lt h18 (by decide)), Or.inl (own_lt h18 (by decide)), Or.inl (own_lt h18 (by decide))⟩).trans (show own_inside c = (0 : Int32) from by unfold own_inside; simp only [show own_ge c (65 : Int32) = (1 : Int32) from own_hi h17 (by decide), show own_ge c (91 : Int32) = (1 : Int32) from own_hi h17 (by decide), show own_ge c (97 : Int32) = (1 : Int32) from own_hi h17 (by decide), show own_ge c (123 : Int32) = (1 : Int32) from own_hi h17 (by decide), show own_ge c (192 : Int32) = (1 : Int32) from own_hi h17 (by decide), show own_ge c (215 : Int32) = (1 : Int32) from own_hi h17 (by decide), show own_ge c (216 : Int32) = (1 : Int32) from own_hi h17 (by decide), show own_ge c (247 : Int32) = (1 : Int32) from own_hi h17 (by decide), show own_ge c (248 : Int32) = (1 : Int32) from own_hi h17 (by decide), show own_ge c (768 : Int32) = (1 : Int32) from own_hi h17 (by decide), show own_ge c (880 : Int32) = (1 : Int32) from own_hi h17 (by decide), show own_ge c (894 : Int32) = (1 : Int32) from own_hi h17 (by decide), show own_ge c (895 : Int32) = (1 : Int32) from own_hi h17 (by decide), show own_ge c (8192 : Int32) = (1 : Int32) from own_hi h17 (by decide), show own_ge c (8204 : Int32) = (1 : Int32) from own_hi h17 (by decide), show own_ge c (8206 : Int32) = (1 : Int32) from own_hi h17 (by decide), show own_ge c (8304 : Int32) = (1 : Int32) from own_hi h17 (by decide), show own_ge c (8592 : Int32) = (1 : Int32) from own_hi h17 (by decide), show own_ge c (11264 : Int32) = (0 : Int32) from own_lo h18 (by decide), show own_ge c (12272 : Int32) = (0 : Int32) from own_lo h18 (by decide), show own_ge c (12289 : Int32) = (0 : Int32) from own_lo h18 (by decide), show own_ge c (55296 : Int32) = (0 : Int32) from own_lo h18 (by decide), show own_ge c (63744 : Int32) = (0 : Int32) from own_lo h18 (by decide), show own_ge c (64976 : Int32) = (0 : Int32) from own_lo h18 (by decide), show own_ge c (65008 : Int32) = (0 : Int32) from own_lo h18 (by decide), show own_ge c (65534 : Int32) = (0 : Int32) from own_lo h18 (by decide), show own_ge c (65536 : Int32) = (0 : Int32) from own_lo h18 (by decide), show own_ge c (983040 : Int32) = (0 : Int32) from own_lo h18 (by decide)]; decide).symm
  by_cases h19 : c < (12272 : Int32)
  · exact (show own_base c = (1 : Int32) from own_hit9 h18 h19).trans (show own_inside c = (1 : Int32) from by unfold own_inside; simp only [show own_ge c (65 : Int32) = (1 : Int32) from own_hi h18 (by decide), show own_ge c (91 : Int32) = (1 : Int32) from own_hi h18 (by decide), show own_ge c (97 : Int32) = (1 : Int32) from own_hi h18 (by decide), show own_ge c (123 : Int32) = (1 : Int32) from own_hi h18 (by decide), show own_ge c (192 : Int32) = (1 : Int32) from own_hi h18 (by decide), show own_ge c (215 : Int32) = (1 : Int32) from own_hi h18 (by decide), show own_ge c (216 : Int32) = (1 : Int32) from own_hi h18 (by decide), show own_ge c (247 : Int32) = (1 : Int32) from own_hi h18 (by decide), show own_ge c (248 : Int32) = (1 : Int32) from own_hi h18 (by decide), show own_ge c (768 : Int32) = (1 : Int32) from own_hi h18 (by decide), show own_ge c (880 : Int32) = (1 : Int32) from own_hi h18 (by decide), show own_ge c (894 : Int32) = (1 : Int32) from own_hi h18 (by decide), show own_ge c (895 : Int32) = (1 : Int32) from own_hi h18 (by decide), show own_ge c (8192 : Int32) = (1 : Int32) from own_hi h18 (by decide), show own_ge c (8204 : Int32) = (1 : Int32) from own_hi h18 (by decide), show own_ge c (8206 : Int32) = (1 : Int32) from own_hi h18 (by decide), show own_ge c (8304 : Int32) = (1 : Int32) from own_hi h18 (by decide), show own_ge c (8592 : Int32) = (1 : Int32) from own_hi h18 (by decide), show own_ge c (11264 : Int32) = (1 : Int32) from own_hi h18 (by decide), show own_ge c (12272 : Int32) = (0 : Int32) from own_lo h19 (by decide), show own_ge c (12289 : Int32) = (0 : Int32) from own_lo h19 (by decide), show own_ge c (55296 : Int32) = (0 : Int32) from own_lo h19 (by decide), show own_ge c (63744 : Int32) = (0 : Int32) from own_lo h19 (by decide), show own_ge c (64976 : Int32) = (0 : Int32) from own_lo h19 (by decide), show own_ge c (65008 : Int32) = (0 : Int32) from own_lo h19 (by decide), show own_ge c (65534 : Int32) = (0 : Int32) from own_lo h19 (by decide), show own_ge c (65536 : Int32) = (0 : Int32) from own_lo h19 (by decide), show own_ge c (983040 : Int32) = (0 : Int32) from own_lo h19 (by decide)]; decide).symm
  by_cases h20 : c < (12289 : Int32)
  · exact (show own_base c = (0 : Int32) from if_pos ⟨Or.inr (own_gt h19 (by decide)), Or.inr (own_gt h19 (by decide)), Or.inr (own_gt h19 (by decide)), Or.inr (own_gt h19 (by decide)), Or.inr (own_gt h19 (by decide)), Or.inr (own_gt h19 (by decide)), Or.inr (own_gt h19 (by decide)), Or.inr (own_gt h19 (by decide)), Or.inr (own_gt h19 (by decide)), Or.inr (own_gt h19 (by decide)), Or.inl (own_lt h20 (by decide)), Or.inl (own_lt h20 (by decide)), Or.inl (own_lt h20 (by decide)), Or.inl (own_lt h20 (by decide))⟩).trans (show own_inside c = (0 : Int32) from by unfold own_inside; simp only [show own_ge c (65 : Int32) = (1 : Int32) from own_hi h19 (by decide), show own_ge c (91 : Int32) = (1 : Int32) from own_hi h19 (by decide), show own_ge c (97 : Int32) = (1 : Int32) from own_hi h19 (by decide), show own_ge c (123 : Int32) = (1 : Int32) from own_hi h19 (by decide), show own_ge c (192 : Int32) = (1 : Int32) from own_hi h19 (by decide), show own_ge c (215 : Int32) = (1 : Int32) from own_hi h19 (by decide), show own_ge c (216 : Int32) = (1 : Int32) from own_hi h19 (by decide), show own_ge c (247 : Int32) = (1 : Int32) from own_hi h19 (by decide), show own_ge c (248 : Int32) = (1 : Int32) from own_hi h19 (by decide), show own_ge c (768 : Int32) = (1 : Int32) from own_hi h19 (by decide), show own_ge c (880 : Int32) = (1 : Int32) from own_hi h19 (by decide), show own_ge c (894 : Int32) = (1 : Int32) from own_hi h19 (by decide), show own_ge c (895 : Int32) = (1 : Int32) from own_hi h19 (by decide), show own_ge c (8192 : Int32) = (1 : Int32) from own_hi h19 (by decide), show own_ge c (8204 : Int32) = (1 : Int32) from own_hi h19 (by decide), show own_ge c (8206 : Int32) = (1 : Int32) from own_hi h19 (by decide), show own_ge c (8304 : Int32) = (1 : Int32) from own_hi h19 (by decide), show own_ge c (8592 : Int32) = (1 : Int32) from own_hi h19 (by decide), show own_ge c (11264 : Int32) = (1 : Int32) from own_hi h19 (by decide), show own_ge c (12272 : Int32) = (1 : Int32) from own_hi h19 (by decide), show own_ge c (12289 : Int32) = (0 : Int32) from own_lo h20 (by decide), show own_ge c (55296 : Int32) = (0 : Int32) from own_lo h20 (by decide), show own_ge c (63744 : Int32) = (0 : Int32) from own_lo h20 (by decide), show own_ge c (64976 : Int32) = (0 : Int32) from own_lo h20 (by decide), show own_ge c (65008 : Int32) = (0 : Int32) from own_lo h20 (by decide), show own_ge c (65534 : Int32) = (0 : Int32) from own_lo h20 (by decide), show own_ge c (65536 : Int32) = (0 : Int32) from own_lo h20 (by decide), show own_ge c (983040 : Int32) = (0 : Int32) from own_lo h20 (by decide)]; decide).symm
  by_cases h21 : c < (55296 : Int32)
  · exact (show own_base c = (1 : Int32) from own_hit10 h20 h21).trans (show own_inside c = (1 : Int32) from by unfold own_inside; simp only [show own_ge c (65 : Int32) = (1 : Int32) from own_hi h20 (by decide), show own_ge c (91 : Int32) = (1 : Int32) from own_hi h20 (by decide), show own_ge c (97 : Int32) = (1 : Int32) from own_hi h20 (by decide), show own_ge c (123 : Int32) = (1 : Int32) from own_hi h20 (by decide), show own_ge c (192 : Int32) = (1 : Int32) from own_hi h20 (by decide), show own_ge c (215 : Int32) = (1 : Int32) from own_hi h20 (by decide), show own_ge c (216 : Int32) = (1 : Int32) from own_hi h20 (by decide), show own_ge c (247 : Int32) = (1 : Int32) from own_hi h20 (by decide), show own_ge c (248 : Int32) = (1 : Int32) from own_hi h20 (by decide), show own_ge c (768 : Int32) = (1 : Int32) from own_hi h20 (by decide), show own_ge c (880 : Int32) = (1 : Int32) from own_hi h20 (by decide), show own_ge c (894 : Int32) = (1 : Int32) from own_hi h20 (by decide), show own_ge c (895 : Int32) = (1 : Int32) from own_hi h20 (by decide), show own_ge c (8192 : Int32) = (1 : Int32) from own_hi h20 (by decide), show own_ge c (8204 : Int32) = (1 : Int32) from own_hi h20 (by decide), show own_ge c (8206 : Int32) = (1 : Int32) from own_hi h20 (by decide), show own_ge c (8304 : Int32) = (1 : Int32) from own_hi h20 (by decide), show own_ge c (8592 : Int32) = (1 : Int32) from own_hi h20 (by decide), show own_ge c (11264 : Int32) = (1 : Int32) from own_hi h20 (by decide), show own_ge c (12272 : Int32) = (1 : Int32) from own_hi h20 (by decide), show own_ge c (12289 : Int32) = (1 : Int32) from own_hi h20 (by decide), show own_ge c (55296 : Int32) = (0 : Int32) from own_lo h21 (by decide), show own_ge c (63744 : Int32) = (0 : Int32) from own_lo h21 (by decide), show own_ge c (64976 : Int32) = (0 : Int32) from own_lo h21 (by decide), show own_ge c (65008 : Int32) = (0 : Int32) from own_lo h21 (by decide), show own_ge c (65534 : Int32) = (0 : Int32) from own_lo h21 (by decide), show own_ge c (65536 : Int32) = (0 : Int32) from own_lo h21 (by decide), show own_ge c (983040 : Int32) = (0 : Int32) from own_lo h21 (by decide)]; decide).symm
  by_cases h22 : c < (63744 : Int32)
  · exact (show own_base c = (0 : Int32) from if_pos ⟨Or.inr (own_gt h21 (by decide)), Or.inr (own_gt h21 (by decide)), Or.inr (own_gt h21 (by decide)), Or.inr (own_gt h21 (by decide)), Or.inr (own_gt h21 (by decide)), Or.inr (own_gt h21 (by decide)), Or.inr (own_gt h21 (by decide)), Or.inr (own_gt h21 (by decide)), Or.inr (own_gt h21 (by decide)), Or.inr (own_gt h21 (by decide)), Or.inr (own_gt h21 (by decide)), Or.inl (own_lt h22 (by decide)), Or.inl (own_lt h22 (by decide)), Or.inl (own_lt h22 (by decide))⟩).trans (show own_inside c = (0 : Int32) from by unfold own_inside; simp only [show own_ge c (65 : Int32) = (1 : Int32) from own_hi h21 (by decide), show own_ge c (91 : Int32) = (1 : Int32) from own_hi h21 (by decide), show own_ge c (97 : Int32) = (1 : Int32) from own_hi h21 (by decide), show own_ge c (123 : Int32) = (1 : Int32) from own_hi h21 (by decide), show own_ge c (192 : Int32) = (1 : Int32) from own_hi h21 (by decide), show own_ge c (215 : Int32) = (1 : Int32) from own_hi h21 (by decide), show own_ge c (216 : Int32) = (1 : Int32) from own_hi h21 (by decide), show own_ge c (247 : Int32) = (1 : Int32) from own_hi h21 (by decide), show own_ge c (248 : Int32) = (1 : Int32) from own_hi h21 (by decide), show own_ge c (768 : Int32) = (1 : Int32) from own_hi h21 (by decide), show own_ge c (880 : Int32) = (1 : Int32) from own_hi h21 (by decide), show own_ge c (894 : Int32) = (1 : Int32) from own_hi h21 (by decide), show own_ge c (895 : Int32) = (1 : Int32) from own_hi h21 (by decide), show own_ge c (8192 : Int32) = (1 : Int32) from own_hi h21 (by decide), show own_ge c (8204 : Int32) = (1 : Int32) from own_hi h21 (by decide), show own_ge c (8206 : Int32) = (1 : Int32) from own_hi h21 (by decide), show own_ge c (8304 : Int32) = (1 : Int32) from own_hi h21 (by decide), show own_ge c (8592 : Int32) = (1 : Int32) from own_hi h21 (by decide), show own_ge c (11264 : Int32) = (1 : Int32) from own_hi h21 (by decide), show own_ge c (12272 : Int32) = (1 : Int32) from own_hi h21 (by decide), show own_ge c (12289 : Int32) = (1 : Int32) from own_hi h21 (by decide), show own_ge c (55296 : Int32) = (1 : Int32) from own_hi h21 (by decide), show own_ge c (63744 : Int32) = (0 : Int32) from own_lo h22 (by decide), show own_ge c (64976 : Int32) = (0 : Int32) from own_lo h22 (by decide), show own_ge c (65008 : Int32) = (0 : Int32) from own_lo h22 (by decide), show own_ge c (65534 : Int32) = (0 : Int32) from own_lo h22 (by decide), show own_ge c (65536 : Int32) = (0 : Int32) from own_lo h22 (by decide), show own_ge c (983040 : Int32) = (0 : Int32) from own_lo h22 (by decide)]; decide).symm
  by_cases h23 : c < (64976 : Int32)
  · exact (show own_base c = (1 : Int32) from own_hit11 h22 h23).trans (show own_inside c = (1 : Int32) from by unfold own_inside; simp only [show own_ge c (65 : Int32) = (1 : Int32) from own_hi h22 (by decide), show own_ge c (91 : Int32) = (1 : Int32) from own_hi h22 (by decide), show own_ge c (97 : Int32) = (1 : Int32) from own_hi h22 (by decide), show own_ge c (123 : Int32) = (1 : Int32) from own_hi h22 (by decide), show own_ge c (192 : Int32) = (1 : Int32) from own_hi h22 (by decide), show own_ge c (215 : Int32) = (1 : Int32) from own_hi h22 (by decide), show own_ge c (216 : Int32) = (1 : Int32) from own_hi h22 (by decide), show own_ge c (247 : Int32) = (1 : Int32) from own_hi h22 (by decide), show own_ge c (248 : Int32) = (1 : Int32) from own_hi h22 (by decide), show own_ge c (768 : Int32) = (1 : Int32) from own_hi h22 (by decide), show own_ge c (880 : Int32) = (1 : Int32) from own_hi h22 (by decide), show own_ge c (894 : Int32) = (1 : Int32) from own_hi h22 (by decide), show own_ge c (895 : Int32) = (1 : Int32) from own_hi h22 (by decide), show own_ge c (8192 : Int32) = (1 : Int32) from own_hi h22 (by decide), show own_ge c (8204 : Int32) = (1 : Int32) from own_hi h22 (by decide), show own_ge c (8206 : Int32) = (1 : Int32) from own_hi h22 (by decide), show own_ge c (8304 : Int32) = (1 : Int32) from own_hi h22 (by decide), show own_ge c (8592 : Int32) = (1 : Int32) from own_hi h22 (by decide), show own_ge c (11264 : Int32) = (1 : Int32) from own_hi h22 (by decide), show own_ge c (12272 : Int32) = (1 : Int32) from own_hi h22 (by decide), show own_ge c (12289 : Int32) = (1 : Int32) from own_hi h22 (by decide), show own_ge c (55296 : Int32) = (1 : Int32) from own_hi h22 (by decide), show own_ge c (63744 : Int32) = (1 : Int32) from own_hi h22 (by decide), show own_ge c (64976 : Int32) = (0 : Int32) from own_lo h23 (by decide), show own_ge c (65008 : Int32) = (0 : Int32) from own_lo h23 (by decide), show own_ge c (65534 : Int32) = (0 : Int32) from own_lo h23 (by decide), show own_ge c (65536 : Int32) = (0 : Int32) from own_lo h23 (by decide), show own_ge c (983040 : Int32) = (0 : Int32) from own_lo h23 (by decide)]; decide).symm
  by_cases h24 : c < (65008 : Int32)
  · exact (show own_base c = (0 : Int32) from if_pos ⟨Or.inr (own_gt h23 (by decide)), Or.inr (own_gt h23 (by decide)), Or.inr (own_gt h23 (by decide)), Or.inr (own_gt h23 (by decide)), Or.inr (own_gt h23 (by decide)), Or.inr (own_gt h23 (by decide)), Or.inr (own_gt h23 (by decide)), Or.inr (own_gt h23 (by decide)), Or.inr (own_gt h23 (by decide)), Or.inr (own_gt h23 (by decide)), Or.inr (own_gt h23 (by decide)), Or.inr (own_gt h23 (by decide)), Or.inl (own_lt h24 (by decide)), Or.inl (own_lt h24 (by decide))⟩).trans (show own_inside c = (0 : Int32) from by unfold own_inside; simp only [show own_ge c (65 : Int32) = (1 : Int32) from own_hi h23 (by decide), show own_ge c (91 : Int32) = (1 : Int32) from own_hi h23 (by decide), show own_ge c (97 : Int32) = (1 : Int32) from own_hi h23 (by decide), show own_ge c (123 : Int32) = (1 : Int32) from own_hi h23 (by decide), show own_ge c (192 : Int32) = (1 : Int32) from own_hi h23 (by decide), show own_ge c (215 : Int32) = (1 : Int32) from own_hi h23 (by decide), show own_ge c (216 : Int32) = (1 : Int32) from own_hi h23 (by decide), show own_ge c (247 : Int32) = (1 : Int32) from own_hi h23 (by decide), show own_ge c (248 : Int32) = (1 : Int32) from own_hi h23 (by decide), show own_ge c (768 : Int32) = (1 : Int32) from own_hi h23 (by decide), show own_ge c (880 : Int32) = (1 : Int32) from own_hi h23 (by decide), show own_ge c (894 : Int32) = (1 : Int32) from own_hi h23 (by decide), show own_ge c (895 : Int32) = (1 : Int32) from own_hi h23 (by decide), show own_ge c (8192 : Int32) = (1 : Int32) from own_hi h23 (by decide), show own_ge c (8204 : Int32) = (1 : Int32) from own_hi h23 (by decide), show own_ge c (8206 : Int32) = (1 : Int32) from own_hi h23 (by decide), show own_ge c (8304 : Int32) = (1 : Int32) from own_hi h23 (by decide), show own_ge c (8592 : Int32) = (1 : Int32) from own_hi h23 (by decide), show own_ge c (11264 : Int32) = (1 : Int32) from own_hi h23 (by decide), show own_ge c (12272 : Int32) = (1 : Int32) from own_hi h23 (by decide), show own_ge c (12289 : Int32) = (1 : Int32) from own_hi h23 (by decide), show own_ge c (55296 : Int32) = (1 : Int32) from own_hi h23 (by decide), show own_ge c (63744 : Int32) = (1 : Int32) from own_hi h23 (by decide), show own_ge c (64976 : Int32) = (1 : Int32) from own_hi h23 (by decide), show own_ge c (65008 : Int32) = (0 : Int32) from own_lo h24 (by decide), show own_ge c (65534 : Int32) = (0 : Int32) from own_lo h24 (by decide), show own_ge c (65536 : Int32) = (0 : Int32) from own_lo h24 (by decide), show own_ge c (983040 : Int32) = (0 : Int32) from own_lo h24 (by decide)]; decide).symm
  by_cases h25 : c < (65534 : Int32)
  · exact (show own_base c = (1 : Int32) from own_hit12 h24 h25).trans (show own_inside c = (1 : Int32) from by unfold own_inside; simp only [show own_ge c (65 : Int32) = (1 : Int32) from own_hi h24 (by decide), show own_ge c (91 : Int32) = (1 : Int32) from own_hi h24 (by decide), show own_ge c (97 : Int32) = (1 : Int32) from own_hi h24 (by decide), show own_ge c (123 : Int32) = (1 : Int32) from own_hi h24 (by decide), show own_ge c (192 : Int32) = (1 : Int32) from own_hi h24 (by decide), show own_ge c (215 : Int32) = (1 : Int32) from own_hi h24 (by decide), show own_ge c (216 : Int32) = (1 : Int32) from own_hi h24 (by decide), show own_ge c (247 : Int32) = (1 : Int32) from own_hi h24 (by decide), show own_ge c (248 : Int32) = (1 : Int32) from own_hi h24 (by decide), show own_ge c (768 : Int32) = (1 : Int32) from own_hi h24 (by decide), show own_ge c (880 : Int32) = (1 : Int32) from own_hi h24 (by decide), show own_ge c (894 : Int32) = (1 : Int32) from own_hi h24 (by decide), show own_ge c (895 : Int32) = (1 : Int32) from own_hi h24 (by decide), show own_ge c (8192 : Int32) = (1 : Int32) from own_hi h24 (by decide), show own_ge c (8204 : Int32) = (1 : Int32) from own_hi h24 (by decide), show own_ge c (8206 : Int32) = (1 : Int32) from own_hi h24 (by decide), show own_ge c (8304 : Int32) = (1 : Int32) from own_hi h24 (by decide), show own_ge c (8592 : Int32) = (1 : Int32) from own_hi h24 (by decide), show own_ge c (11264 : Int32) = (1 : Int32) from own_hi h24 (by decide), show own_ge c (12272 : Int32) = (1 : Int32) from own_hi h24 (by decide), show own_ge c (12289 : Int32) = (1 : Int32) from own_hi h24 (by decide), show own_ge c (55296 : Int32) = (1 : Int32) from own_hi h24 (by decide), show own_ge c (63744 : Int32) = (1 : Int32) from own_hi h24 (by decide), show own_ge c (64976 : Int32) = (1 : Int32) from own_hi h24 (by decide), show own_ge c (65008 : Int32) = (1 : Int32) from own_hi h24 (by decide), show own_ge c (65534 : Int32) = (0 : Int32) from own_lo h25 (by decide), show own_ge c (65536 : Int32) = (0 : Int32) from own_lo h25 (by decide), show own_ge c (983040 : Int32) = (0 : Int32) from own_lo h25 (by decide)]; decide).symm
  by_cases h26 : c < (65536 : Int32)
  · exact (show own_base c = (0 : Int32) from if_pos ⟨Or.inr (own_gt h25 (by decide)), Or.inr (own_gt h25 (by decide)), Or.inr (own_gt h25 (by decide)), Or.inr (own_gt h25 (by decide)), Or.inr (own_gt h25 (by decide)), Or.inr (own_gt h25 (by decide)), Or.inr (own_gt h25 (by decide)), Or.inr (own_gt h25 (by decide)), Or.inr (own_gt h25 (by decide)), Or.inr (own_gt h25 (by decide)), Or.inr (own_gt h25 (by decide)), Or.inr (own_gt h25 (by decide)), Or.inr (own_gt h25 (by decide)), Or.inl (own_lt h26 (by decide))⟩).trans (show own_inside c = (0 : Int32) from by unfold own_inside; simp only [show own_ge c (65 : Int32) = (1 : Int32) from own_hi h25 (by decide), show own_ge c (91 : Int32) = (1 : Int32) from own_hi h25 (by decide), show own_ge c (97 : Int32) = (1 : Int32) from own_hi h25 (by decide), show own_ge c (123 : Int32) = (1 : Int32) from own_hi h25 (by decide), show own_ge c (192 : Int32) = (1 : Int32) from own_hi h25 (by decide), show own_ge c (215 : Int32) = (1 : Int32) from own_hi h25 (by decide), show own_ge c (216 : Int32) = (1 : Int32) from own_hi h25 (by decide), show own_ge c (247 : Int32) = (1 : Int32) from own_hi h25 (by decide), show own_ge c (248 : Int32) = (1 : Int32) from own_hi h25 (by decide), show own_ge c (768 : Int32) = (1 : Int32) from own_hi h25 (by decide), show own_ge c (880 : Int32) = (1 : Int32) from own_hi h25 (by decide), show own_ge c (894 : Int32) = (1 : Int32) from own_hi h25 (by decide), show own_ge c (895 : Int32) = (1 : Int32) from own_hi h25 (by decide), show own_ge c (8192 : Int32) = (1 : Int32) from own_hi h25 (by decide), show own_ge c (8204 : Int32) = (1 : Int32) from own_hi h25 (by decide), show own_ge c (8206 : Int32) = (1 : Int32) from own_hi h25 (by decide), show own_ge c (8304 : Int32) = (1 : Int32) from own_hi h25 (by decide), show own_ge c (8592 : Int32) = (1 : Int32) from own_hi h25 (by decide), show own_ge c (11264 : Int32) = (1 : Int32) from own_hi h25 (by decide), show own_ge c (12272 : Int32) = (1 : Int32) from own_hi h25 (by decide), show own_ge c (12289 : Int32) = (1 : Int32) from own_hi h25 (by decide), show own_ge c (55296 : Int32) = (1 : Int32) from own_hi h25 (by decide), show own_ge c (63744 : Int32) = (1 : Int32) from own_hi h25 (by decide), show own_ge c (64976 : Int32) = (1 : Int32) from own_hi h25 (by decide), show own_ge c (65008 : Int32) = (1 : Int32) from own_hi h25 (by decide), show own_ge c (65534 : Int32) = (1 : Int32) from own_hi h25 (by decide), show own_ge c (65536 : Int32) = (0 : Int32) from own_lo h26 (by decide), show own_ge c (983040 : Int32) = (0 : Int32) from own_lo h26 (by decide)]; decide).symm
  by_cases h27 : c < (983040 : Int32)
  · exact (show own_base c = (1 : Int32) from own_hit13 h26 h27).trans (show own_inside c = (1 : Int32) from by unfold own_inside; simp only [show own_ge c (65 : Int32) = (1 : Int32) from own_hi h26 (by decide), show own_ge c (91 : Int32) = (1 : Int32) from own_hi h26 (by decide), show own_ge c (97 : Int32) = (1 : Int32) from own_hi h26 (by decide), show own_ge c (123 : Int32) = (1 : Int32) from own_hi h26 (by decide), show own_ge c (192 : Int32) = (1 : Int32) from own_hi h26 (by decide), show own_ge c (215 : Int32) = (1 : Int32) from own_hi h26 (by decide), show own_ge c (216 : Int32) = (1 : Int32) from own_hi h26 (by decide), show own_ge c (247 : Int32) = (1 : Int32) from own_hi h26 (by decide), show own_ge c (248 : Int32) = (1 : Int32) from own_hi h26 (by decide), show own_ge c (768 : Int32) = (1 : Int32) from own_hi h26 (by decide), show own_ge c (880 : Int32) = (1 : Int32) from own_hi h26 (by decide), show own_ge c (894 : Int32) = (1 : Int32) from own_hi h26 (by decide), show own_ge c (895 : Int32) = (1 : Int32) from own_hi h26 (by decide), show own_ge c (8192 : Int32) = (1 : Int32) from own_hi h26 (by decide), show own_ge c (8204 : Int32) = (1 : Int32) from own_hi h26 (by decide), show own_ge c (8206 : Int32) = (1 : Int32) from own_hi h26 (by decide), show own_ge c (8304 : Int32) = (1 : Int32) from own_hi h26 (by decide), show own_ge c (8592 : Int32) = (1 : Int32) from own_hi h26 (by decide), show own_ge c (11264 : Int32) = (1 : Int32) from own_hi h26 (by decide), show own_ge c (12272 : Int32) = (1 : Int32) from own_hi h26 (by decide), show own_ge c (12289 : Int32) = (1 : Int32) from own_hi h26 (by decide), show own_ge c (55296 : Int32) = (1 : Int32) from own_hi h26 (by decide), show own_ge c (63744 : Int32) = (1 : Int32) from own_hi h26 (by decide), show own_ge c (64976 : Int32) = (1 : Int32) from own_hi h26 (by decide), show own_ge c (65008 : Int32) = (1 : Int32) from own_hi h26 (by decide), show own_ge c (65534 : Int32) = (1 : Int32) from own_hi h26 (by decide), show own_ge c (65536 : Int32) = (1 : Int32) from own_hi h26 (by decide), show own_ge c (983040 : Int32) = (0 : Int32) from own_lo h27 (by decide)]; decide).symm
  exact (show own_base c = (0 : Int32) from if_pos ⟨Or.inr (own_gt h27 (by decide)), Or.inr (own_gt h27 (by decide)), Or.inr (own_gt h27 (by decide)), Or.inr (own_gt h27 (by decide)), Or.inr (own_gt h27 (by decide)), Or.inr (own_gt h27 (by decide)), Or.inr (own_gt h27 (by decide)), Or.inr (own_gt h27 (by decide)), Or.inr (own_gt h27 (by decide)), Or.inr (own_gt h27 (by decide)), Or.inr (own_gt h27 (by decide)), Or.inr (own_gt h27 (by decide)), Or.inr (own_gt h27 (by decide)), Or.inr (own_gt h27 (by decide))⟩).trans (show own_inside c = (0 : Int32) from by unfold own_inside; simp only [show own_ge c (65 : Int32) = (1 : Int32) from own_hi h27 (by decide), show own_ge c (91 : Int32) = (1 : Int32) from own_hi h27 (by decide), show own_ge c (97 : Int32) = (1 : Int32) from own_hi h27 (by decide), show own_ge c (123 : Int32) = (1 : Int32) from own_hi h27 (by decide), show own_ge c (192 : Int32) = (1 : Int32) from own_hi h27 (by decide), show own_ge c (215 : Int32) = (1 : Int32) from own_hi h27 (by decide), show own_ge c (216 : Int32) = (1 : Int32) from own_hi h27 (by decide), show own_ge c (247 : Int32) = (1 : Int32) from own_hi h27 (by decide), show own_ge c (248 : Int32) = (1 : Int32) from own_hi h27 (by decide), show own_ge c (768 : Int32) = (1 : Int32) from own_hi h27 (by decide), show own_ge c (880 : Int32) = (1 : Int32) from own_hi h27 (by decide), show own_ge c (894 : Int32) = (1 : Int32) from own_hi h27 (by decide), show own_ge c (895 : Int32) = (1 : Int32) from own_hi h27 (by decide), show own_ge c (8192 : Int32) = (1 : Int32) from own_hi h27 (by decide), show own_ge c (8204 : Int32) = (1 : Int32) from own_hi h27 (by decide), show own_ge c (8206 : Int32) = (1 : Int32) from own_hi h27 (by decide), show own_ge c (8304 : Int32) = (1 : Int32) from own_hi h27 (by decide), show own_ge c (8592 : Int32) = (1 : Int32) from own_hi h27 (by decide), show own_ge c (11264 : Int32) = (1 : Int32) from own_hi h27 (by decide), show own_ge c (12272 : Int32) = (1 : Int32) from own_hi h27 (by decide), show own_ge c (12289 : Int32) = (1 : Int32) from own_hi h27 (by decide), show own_ge c (55296 : Int32) = (1 : Int32) from own_hi h27 (by decide), show own_ge c (63744 : Int32) = (1 : Int32) from own_hi h27 (by decide), show own_ge c (64976 : Int32) = (1 : Int32) from own_hi h27 (by decide), show own_ge c (65008 : Int32) = (1 : Int32) from own_hi h27 (by decide), show own_ge c (65534 : Int32) = (1 : Int32) from own_hi h27 (by decide), show own_ge c (65536 : Int32) = (1 : Int32) from own_hi h27 (by decide), show own_ge c (983040 : Int32) = (1 : Int32) from own_hi h27 (by decide)]; decide).symm
theorem own_getD (l : List Int32) (i : Nat) : (l.map Value.int).getD i (.int (0 : Int32)) = .int (l.getD i 0) := by
  induction l generalizing i with
  | nil => rfl
  | cons a t ih => cases i with
    | zero => rfl
    | succ i => exact ih i
def own_b (j : Int32) : Int32 := ([65, 91, 97, 123, 192, 215, 216, 247, 248, 768, 880, 894, 895, 8192, 8204, 8206, 8304, 8592, 11264, 12272, 12289, 55296, 63744, 64976, 65008, 65534, 65536, 983040] : List Int32).getD j.toNatClampNeg 0
theorem own_mod (x : Int32) : ¬ ((x &&& (2147483647 : Int32)) % (28 : Int32)) < 0 ∧ ((x &&& (2147483647 : Int32)) % (28 : Int32)) < (28 : Int32) := by
  have h := c_mask x 2147483647 31 (by decide) (by decide)
  have e0 : (0 : Int32).toInt = 0 := by decide
  have e8 : (28 : Int32).toInt = 28 := by decide
  have h1 := (c_irem (x &&& 2147483647) 28 28 e8).1 (by omega)
  rw [Int32.lt_iff_toInt_lt, Int32.lt_iff_toInt_lt, e0, e8]
  omega
theorem d4_0 : decode method_4_code 0 = .ok (.iload_n 0, 1) := by decide +kernel
theorem d4_1 : decode method_4_code 1 = .ok (.iload_n 1, 1) := by decide +kernel
theorem d4_2 : decode method_4_code 2 = .ok (.if_icmp .lt 7, 3) := by decide +kernel
theorem d4_5 : decode method_4_code 5 = .ok (.iconst 1, 1) := by decide +kernel
theorem d4_6 : decode method_4_code 6 = .ok (.goto 4, 3) := by decide +kernel
theorem d4_9 : decode method_4_code 9 = .ok (.iconst 0, 1) := by decide +kernel
theorem d4_10 : decode method_4_code 10 = .ok (.ireturn, 1) := by decide +kernel
theorem pn_4 : plainName "com/example/graphtide/graphtide/rdf/CharClassesIsPnCharsBasePinLaw" = true := by first | (simp [plainName, overriddenIn]; done) | decide +kernel
theorem ef_4 (m : MethodId) (c_ : Int32) (x : Int32) : entryFrame m #[(.int c_), (.int x)] 2 = mkF m 0 #[.val (.int c_), .val (.int x)] [] := by first | (simp [entryFrame, mkF, argsToLocals, Value.category]; done) | rfl
def Q_rmGe (Z : State) (c_ : Int32) (x : Int32) (h0 : Heap) (n0 : Nat) (v : Option Value) (h : Heap) (L : List Loc) : Prop := ∃ z_ : Int32, v = some (.int z_) ∧ z_ = own_ge c_ x ∧ Fr n0 L ∧ h = h0
set_option maxRecDepth 65536 in
set_option maxHeartbeats 40000000 in
theorem rmGe (l : Launch) (Z : State) (a0 : Array Value) (hw : ∀ d ∈ tables_1, d.before a0 Z = true) (ws : List Jvm.Cond) (c_ : Int32) (x : Int32) (h0 : Heap) (n0 : Nat) (Z0 : n0 ≤ h0.size) :
    MetFree l (⟨"com/example/graphtide/graphtide/rdf/CharClassesIsPnCharsBasePinLaw", "ge", "(II)I"⟩ : MethodName) (head1 (Jvm.Cond.code (⟨"com/example/graphtide/graphtide/rdf/CharClassesIsPnCharsBasePinLaw", "ge", "(II)I"⟩ : MethodName) method_4_code 2 (some .int) :: ws) ({ frames := 0, cells := 0, slots := 0, locals := 0 } : Room)) (fun aa U => aa = #[(.int c_), (.int x)] ∧ Z.Warmed39 U.vm ∧ U.heap = h0) (fun _ _ _ _ _ => True) (fun _ U ou U' => ∃ v L, ou = .returned v ∧ Q_rmGe Z c_ x h0 n0 v U'.heap L ∧ FrameEnd U ou U' L ({ frames := 0, cells := 0, slots := 0, locals := 0 } : Room).cells ({ frames := 0, cells := 0, slots := 0, locals := 0 } : Room).slots) := by
  refine MetFree.of_bodySF (plainFor_of_name pn_4) hisR ?_
  intro p e s m args below meth c s₁ Bd hml0 hP hK
  obtain ⟨rfl, hZ, hh⟩ := hP
  have hx := Bd.exec
  have hby := Bd.bytes
  have hml : c.maxLocals = 2 := hml0
  have hown : s.vm.findClass "com/example/graphtide/graphtide/rdf/CharClassesIsPnCharsBasePinLaw" = some m.cls := findClass_of_methodNamed Bd.named
  have hnm := (name_of_methodNamed Bd.named Bd.method).1
  have X0 : Stand p l e ({ frames := 0, cells := 0, slots := 0, locals := 0 } : Room) s m #[(.int c_), (.int x)] below meth c s₁ [] 0 0 := Stand.of_body Bd
  have e0 : s₁.heap = h0 := by rw [← hh, Bd.state]; rfl
  have N0 := Fr.nil n0
  have K0 := Keep.refl h0 []
  refine own_as (ef_4 m c_ x) ?_
  show own_Ends p e below s₁ (mkF m 0 #[.val (.int c_), .val (.int x)] []) _
  refine own_go (fun _ => XS.iloadN X0.here hx rfl (hb hby d4_0) rfl) ?_
  show own_Ends p e below s₁ (mkF m 1 #[.val (.int c_), .val (.int x)] [(.int c_)]) _
  refine own_go (fun _ => XS.iloadN X0.here hx rfl (hb hby d4_1) rfl) ?_
  show own_Ends p e below s₁ (mkF m 2 #[.val (.int c_), .val (.int x)] [(.int x), (.int c_)]) _
  by_cases hc2 : c_ < x
  · refine own_go (fun _ => XS.icmpYes X0.here hx rfl (pc0 := 2) (pc' := 9) rfl (hb hby d4_2) rfl (tlt hc2).1 (by decide) (by decide)) ?_
    show own_Ends p e below s₁ (mkF m 9 #[.val (.int c_), .val (.int x)] []) _
    refine own_go (fun _ => XS.iconst X0.here hx rfl (hb hby d4_9)) ?_
    show own_Ends p e below s₁ (mkF m 10 #[.val (.int c_), .val (.int x)] [(.int (0 : Int32))]) _
    obtain ⟨fs, hr, hrun, hended, hW, hsame⟩ := X0.leave (v := some (.int (0 : Int32))) (fun h => by rw [Bd.returns] at h; cases h)
    refine ⟨_, _, retI X0 hx Bd.returns (hb hby d4_10) hr, hrun, hended, _, _, rfl, ?_, ⟨_, rfl⟩, hW, hsame.mono (by decide) (by decide)⟩
    show Q_rmGe Z c_ x h0 n0 _ s₁.heap _
    rw [e0]
    exact ⟨_, rfl, by unfold own_ge; rw [if_pos hc2], N0, rfl⟩
  · refine own_go (fun _ => XS.icmpNo X0.here hx rfl (hb hby d4_2) rfl (flt hc2).1) ?_
    show own_Ends p e below s₁ (mkF m 5 #[.val (.int c_), .val (.int x)] []) _
    refine own_go (fun _ => XS.iconst X0.here hx rfl (hb hby d4_5)) ?_
    show own_Ends p e below s₁ (mkF m 6 #[.val (.int c_), .val (.int x)] [(.int (1 : Int32))]) _
    refine own_go (fun _ => XS.goto X0.here hx rfl (pc0 := 6) (pc' := 10) rfl (hb hby d4_6) (by decide) (by decide)) ?_
    show own_Ends p e below s₁ (mkF m 10 #[.val (.int c_), .val (.int x)] [(.int (1 : Int32))]) _
    obtain ⟨fs, hr, hrun, hended, hW, hsame⟩ := X0.leave (v := some (.int (1 : Int32))) (fun h => by rw [Bd.returns] at h; cases h)
    refine ⟨_, _, retI X0 hx Bd.returns (hb hby d4_10) hr, hrun, hended, _, _, rfl, ?_, ⟨_, rfl⟩, hW, hsame.mono (by decide) (by decide)⟩
    show Q_rmGe Z c_ x h0 n0 _ s₁.heap _
    rw [e0]
    exact ⟨_, rfl, by unfold own_ge; rw [if_neg hc2], N0, rfl⟩
theorem d1_0 : decode method_3_code 0 = .ok (.bipush 28, 2) := by decide +kernel
theorem d1_2 : decode method_3_code 2 = .ok (.newarray .int, 2) := by decide +kernel
theorem d1_4 : decode method_3_code 4 = .ok (.dup, 1) := by decide +kernel
theorem d1_5 : decode method_3_code 5 = .ok (.iconst 0, 1) := by decide +kernel
theorem d1_6 : decode method_3_code 6 = .ok (.bipush 65, 2) := by decide +kernel
theorem d1_8 : decode method_3_code 8 = .ok (.iastore, 1) := by decide +kernel
theorem d1_9 : decode method_3_code 9 = .ok (.dup, 1) := by decide +kernel
theorem d1_10 : decode method_3_code 10 = .ok (.iconst 1, 1) := by decide +kernel
theorem d1_11 : decode method_3_code 11 = .ok (.bipush 91, 2) := by decide +kernel
theorem d1_13 : decode method_3_code 13 = .ok (.iastore, 1) := by decide +kernel
theorem d1_14 : decode method_3_code 14 = .ok (.dup, 1) := by decide +kernel
theorem d1_15 : decode method_3_code 15 = .ok (.iconst 2, 1) := by decide +kernel
theorem d1_16 : decode method_3_code 16 = .ok (.bipush 97, 2) := by decide +kernel
theorem d1_18 : decode method_3_code 18 = .ok (.iastore, 1) := by decide +kernel
theorem d1_19 : decode method_3_code 19 = .ok (.dup, 1) := by decide +kernel
theorem d1_20 : decode method_3_code 20 = .ok (.iconst 3, 1) := by decide +kernel
theorem d1_21 : decode method_3_code 21 = .ok (.bipush 123, 2) := by decide +kernel
theorem d1_23 : decode method_3_code 23 = .ok (.iastore, 1) := by decide +kernel
theorem d1_24 : decode method_3_code 24 = .ok (.dup, 1) := by decide +kernel
theorem d1_25 : decode method_3_code 25 = .ok (.iconst 4, 1) := by decide +kernel
theorem d1_26 : decode method_3_code 26 = .ok (.sipush 192, 3) := by decide +kernel
theorem d1_29 : decode method_3_code 29 = .ok (.iastore, 1) := by decide +kernel
theorem d1_30 : decode method_3_code 30 = .ok (.dup, 1) := by decide +kernel
theorem d1_31 : decode method_3_code 31 = .ok (.iconst 5, 1) := by decide +kernel
theorem d1_32 : decode method_3_code 32 = .ok (.sipush 215, 3) := by decide +kernel
theorem d1_35 : decode method_3_code 35 = .ok (.iastore, 1) := by decide +kernel
theorem d1_36 : decode method_3_code 36 = .ok (.dup, 1) := by decide +kernel
theorem d1_37 : decode method_3_code 37 = .ok (.bipush 6, 2) := by decide +kernel
theorem d1_39 : decode method_3_code 39 = .ok (.sipush 216, 3) := by decide +kernel
theorem d1_42 : decode method_3_code 42 = .ok (.iastore, 1) := by decide +kernel
theorem d1_43 : decode method_3_code 43 = .ok (.dup, 1) := by decide +kernel
theorem d1_44 : decode method_3_code 44 = .ok (.bipush 7, 2) := by decide +kernel
theorem d1_46 : decode method_3_code 46 = .ok (.sipush 247, 3) := by decide +kernel
theorem d1_49 : decode method_3_code 49 = .ok (.iastore, 1) := by decide +kernel
theorem d1_50 : decode method_3_code 50 = .ok (.dup, 1) := by decide +kernel
theorem d1_51 : decode method_3_code 51 = .ok (.bipush 8, 2) := by decide +kernel
theorem d1_53 : decode method_3_code 53 = .ok (.sipush 248, 3) := by decide +kernel
theorem d1_56 : decode method_3_code 56 = .ok (.iastore, 1) := by decide +kernel
theorem d1_57 : decode method_3_code 57 = .ok (.dup, 1) := by decide +kernel
theorem d1_58 : decode method_3_code 58 = .ok (.bipush 9, 2) := by decide +kernel
theorem d1_60 : decode method_3_code 60 = .ok (.sipush 768, 3) := by decide +kernel
theorem d1_63 : decode method_3_code 63 = .ok (.iastore, 1) := by decide +kernel
theorem d1_64 : decode method_3_code 64 = .ok (.dup, 1) := by decide +kernel
theorem d1_65 : decode method_3_code 65 = .ok (.bipush 10, 2) := by decide +kernel
theorem d1_67 : decode method_3_code 67 = .ok (.sipush 880, 3) := by decide +kernel
theorem d1_70 : decode method_3_code 70 = .ok (.iastore, 1) := by decide +kernel
theorem d1_71 : decode method_3_code 71 = .ok (.dup, 1) := by decide +kernel
theorem d1_72 : decode method_3_code 72 = .ok (.bipush 11, 2) := by decide +kernel
theorem d1_74 : decode method_3_code 74 = .ok (.sipush 894, 3) := by decide +kernel
theorem d1_77 : decode method_3_code 77 = .ok (.iastore, 1) := by decide +kernel
theorem d1_78 : decode method_3_code 78 = .ok (.dup, 1) := by decide +kernel
theorem d1_79 : decode method_3_code 79 = .ok (.bipush 12, 2) := by decide +kernel
theorem d1_81 : decode method_3_code 81 = .ok (.sipush 895, 3) := by decide +kernel
theorem d1_84 : decode method_3_code 84 = .ok (.iastore, 1) := by decide +kernel
theorem d1_85 : decode method_3_code 85 = .ok (.dup, 1) := by decide +kernel
theorem d1_86 : decode method_3_code 86 = .ok (.bipush 13, 2) := by decide +kernel
theorem d1_88 : decode method_3_code 88 = .ok (.sipush 8192, 3) := by decide +kernel
theorem d1_91 : decode method_3_code 91 = .ok (.iastore, 1) := by decide +kernel
theorem d1_92 : decode method_3_code 92 = .ok (.dup, 1) := by decide +kernel
theorem d1_93 : decode method_3_code 93 = .ok (.bipush 14, 2) := by decide +kernel
theorem d1_95 : decode method_3_code 95 = .ok (.sipush 8204, 3) := by decide +kernel
theorem d1_98 : decode method_3_code 98 = .ok (.iastore, 1) := by decide +kernel
theorem d1_99 : decode method_3_code 99 = .ok (.dup, 1) := by decide +kernel
theorem d1_100 : decode method_3_code 100 = .ok (.bipush 15, 2) := by decide +kernel
theorem d1_102 : decode method_3_code 102 = .ok (.sipush 8206, 3) := by decide +kernel
theorem d1_105 : decode method_3_code 105 = .ok (.iastore, 1) := by decide +kernel
theorem d1_106 : decode method_3_code 106 = .ok (.dup, 1) := by decide +kernel
theorem d1_107 : decode method_3_code 107 = .ok (.bipush 16, 2) := by decide +kernel
theorem d1_109 : decode method_3_code 109 = .ok (.sipush 8304, 3) := by decide +kernel
theorem d1_112 : decode method_3_code 112 = .ok (.iastore, 1) := by decide +kernel
theorem d1_113 : decode method_3_code 113 = .ok (.dup, 1) := by decide +kernel
theorem d1_114 : decode method_3_code 114 = .ok (.bipush 17, 2) := by decide +kernel
theorem d1_116 : decode method_3_code 116 = .ok (.sipush 8592, 3) := by decide +kernel
theorem d1_119 : decode method_3_code 119 = .ok (.iastore, 1) := by decide +kernel
theorem d1_120 : decode method_3_code 120 = .ok (.dup, 1) := by decide +kernel
theorem d1_121 : decode method_3_code 121 = .ok (.bipush 18, 2) := by decide +kernel
theorem d1_123 : decode method_3_code 123 = .ok (.sipush 11264, 3) := by decide +kernel
theorem d1_126 : decode method_3_code 126 = .ok (.iastore, 1) := by decide +kernel
theorem d1_127 : decode method_3_code 127 = .ok (.dup, 1) := by decide +kernel
theorem d1_128 : decode method_3_code 128 = .ok (.bipush 19, 2) := by decide +kernel
theorem d1_130 : decode method_3_code 130 = .ok (.sipush 12272, 3) := by decide +kernel
theorem d1_133 : decode method_3_code 133 = .ok (.iastore, 1) := by decide +kernel
theorem d1_134 : decode method_3_code 134 = .ok (.dup, 1) := by decide +kernel
theorem d1_135 : decode method_3_code 135 = .ok (.bipush 20, 2) := by decide +kernel
theorem d1_137 : decode method_3_code 137 = .ok (.sipush 12289, 3) := by decide +kernel
theorem d1_140 : decode method_3_code 140 = .ok (.iastore, 1) := by decide +kernel
theorem d1_141 : decode method_3_code 141 = .ok (.dup, 1) := by decide +kernel
theorem d1_142 : decode method_3_code 142 = .ok (.bipush 21, 2) := by decide +kernel
theorem d1_144 : decode method_3_code 144 = .ok (.ldc 24, 2) := by decide +kernel
theorem d1_146 : decode method_3_code 146 = .ok (.iastore, 1) := by decide +kernel
theorem d1_147 : decode method_3_code 147 = .ok (.dup, 1) := by decide +kernel
theorem d1_148 : decode method_3_code 148 = .ok (.bipush 22, 2) := by decide +kernel
theorem d1_150 : decode method_3_code 150 = .ok (.ldc 25, 2) := by decide +kernel
theorem d1_152 : decode method_3_code 152 = .ok (.iastore, 1) := by decide +kernel
theorem d1_153 : decode method_3_code 153 = .ok (.dup, 1) := by decide +kernel
theorem d1_154 : decode method_3_code 154 = .ok (.bipush 23, 2) := by decide +kernel
theorem d1_156 : decode method_3_code 156 = .ok (.ldc 26, 2) := by decide +kernel
theorem d1_158 : decode method_3_code 158 = .ok (.iastore, 1) := by decide +kernel
theorem d1_159 : decode method_3_code 159 = .ok (.dup, 1) := by decide +kernel
theorem d1_160 : decode method_3_code 160 = .ok (.bipush 24, 2) := by decide +kernel
theorem d1_162 : decode method_3_code 162 = .ok (.ldc 27, 2) := by decide +kernel
theorem d1_164 : decode method_3_code 164 = .ok (.iastore, 1) := by decide +kernel
theorem d1_165 : decode method_3_code 165 = .ok (.dup, 1) := by decide +kernel
theorem d1_166 : decode method_3_code 166 = .ok (.bipush 25, 2) := by decide +kernel
theorem d1_168 : decode method_3_code 168 = .ok (.ldc 28, 2) := by decide +kernel
theorem d1_170 : decode method_3_code 170 = .ok (.iastore, 1) := by decide +kernel
theorem d1_171 : decode method_3_code 171 = .ok (.dup, 1) := by decide +kernel
theorem d1_172 : decode method_3_code 172 = .ok (.bipush 26, 2) := by decide +kernel
theorem d1_174 : decode method_3_code 174 = .ok (.ldc 29, 2) := by decide +kernel
theorem d1_176 : decode method_3_code 176 = .ok (.iastore, 1) := by decide +kernel
theorem d1_177 : decode method_3_code 177 = .ok (.dup, 1) := by decide +kernel
theorem d1_178 : decode method_3_code 178 = .ok (.bipush 27, 2) := by decide +kernel
theorem d1_180 : decode method_3_code 180 = .ok (.ldc 30, 2) := by decide +kernel
theorem d1_182 : decode method_3_code 182 = .ok (.iastore, 1) := by decide +kernel
theorem d1_183 : decode method_3_code 183 = .ok (.areturn, 1) := by decide +kernel
theorem pn_1 : plainName "com/example/graphtide/graphtide/rdf/CharClassesIsPnCharsBasePinLaw" = true := by first | (simp [plainName, overriddenIn]; done) | decide +kernel
theorem ef_1 (m : MethodId)  : entryFrame m #[] 0 = mkF m 0 #[] [] := by first | (simp [entryFrame, mkF, argsToLocals, Value.category]; done) | rfl
def Q_rmBounds (Z : State)  (h0 : Heap) (n0 : Nat) (v : Option Value) (h : Heap) (L : List Loc) : Prop := ∃ (b : Addr) (kl : ClassId), v = some (.ref b) ∧ Fr n0 L ∧ Keep h0 h [] ∧ n0 ≤ b ∧ h0.size ≤ b ∧ Arv Z h b kl .int (28 : Int32) [(.int (65 : Int32)), (.int (91 : Int32)), (.int (97 : Int32)), (.int (123 : Int32)), (.int (192 : Int32)), (.int (215 : Int32)), (.int (216 : Int32)), (.int (247 : Int32)), (.int (248 : Int32)), (.int (768 : Int32)), (.int (880 : Int32)), (.int (894 : Int32)), (.int (895 : Int32)), (.int (8192 : Int32)), (.int (8204 : Int32)), (.int (8206 : Int32)), (.int (8304 : Int32)), (.int (8592 : Int32)), (.int (11264 : Int32)), (.int (12272 : Int32)), (.int (12289 : Int32)), (.int (55296 : Int32)), (.int (63744 : Int32)), (.int (64976 : Int32)), (.int (65008 : Int32)), (.int (65534 : Int32)), (.int (65536 : Int32)), (.int (983040 : Int32))] (.int (0 : Int32))
set_option maxRecDepth 65536 in
set_option maxHeartbeats 40000000 in
theorem rmBounds (l : Launch) (Z : State) (a0 : Array Value) (hw : ∀ d ∈ tables_1, d.before a0 Z = true) (ws : List Jvm.Cond)  (h0 : Heap) (n0 : Nat) (Z0 : n0 ≤ h0.size) :
    MetFree l (⟨"com/example/graphtide/graphtide/rdf/CharClassesIsPnCharsBasePinLaw", "bounds", "()[I"⟩ : MethodName) (head1 (Jvm.Cond.code (⟨"com/example/graphtide/graphtide/rdf/CharClassesIsPnCharsBasePinLaw", "bounds", "()[I"⟩ : MethodName) method_3_code 0 (some (.array .int)) :: ws) ({ frames := 0, cells := 1, slots := 28, locals := 0 } : Room)) (fun aa U => aa = #[] ∧ Z.Warmed39 U.vm ∧ U.heap = h0) (fun _ _ _ _ _ => True) (fun _ U ou U' => ∃ v L, ou = .returned v ∧ Q_rmBounds Z  h0 n0 v U'.heap L ∧ FrameEnd U ou U' L ({ frames := 0, cells := 1, slots := 28, locals := 0 } : Room).cells ({ frames := 0, cells := 1, slots := 28, locals := 0 } : Room).slots) := by
  refine MetFree.of_bodySF (plainFor_of_name pn_1) hisR ?_
  intro p e s m args below meth c s₁ Bd hml0 hP hK
  obtain ⟨rfl, hZ, hh⟩ := hP
  have hx := Bd.exec
  have hby := Bd.bytes
  have hml : c.maxLocals = 0 := hml0
  have hown : s.vm.findClass "com/example/graphtide/graphtide/rdf/CharClassesIsPnCharsBasePinLaw" = some m.cls := findClass_of_methodNamed Bd.named
  have hnm := (name_of_methodNamed Bd.named Bd.method).1
  have X0 : Stand p l e ({ frames := 0, cells := 1, slots := 28, locals := 0 } : Room) s m #[] below meth c s₁ [] 0 0 := Stand.of_body Bd
  have e0 : s₁.heap = h0 := by rw [← hh, Bd.state]; rfl
  have N0 := Fr.nil n0
  have K0 := Keep.refl h0 []
  refine own_as (ef_1 m ) ?_
  show own_Ends p e below s₁ (mkF m 0 #[] []) _
  refine own_go (fun _ => XS.bipush X0.here hx rfl (hb hby d1_0)) ?_
  show own_Ends p e below s₁ (mkF m 2 #[] [(.int (28 : Int32))]) _
  obtain ⟨T1, h1, k1, X1, e1, E1, A1, st1⟩ := newP X0 hx hZ (hw _ (List.mem_of_getElem? (i := 4) rfl)) e0 (g := (mkF m 2 #[] [(.int (28 : Int32))])) rfl (hb hby d1_2) rfl (by decide) (cap := 28) (by decide) (by decide) (by decide) (by decide)
  obtain ⟨b1, g1⟩ : ∃ z, z = h0.size := ⟨_, rfl⟩
  rw [← g1] at A1 st1
  refine own_go st1 ?_
  have g_b1 : n0 ≤ b1 := Nat.le_trans Z0 (Nat.le_of_eq g1.symm)
  have sz_b1 : h0.size ≤ b1 := Nat.le_trans K0.1 (Nat.le_of_eq g1.symm)
  have K1 := K0.ext E1
  have Z1 : n0 ≤ h1.size := Nat.le_trans Z0 K1.1
  have V_b1 : Arv Z h1 b1 k1 .int (28 : Int32) [(.int (0 : Int32)), (.int (0 : Int32)), (.int (0 : Int32)), (.int (0 : Int32)), (.int (0 : Int32)), (.int (0 : Int32)), (.int (0 : Int32)), (.int (0 : Int32)), (.int (0 : Int32)), (.int (0 : Int32)), (.int (0 : Int32)), (.int (0 : Int32)), (.int (0 : Int32)), (.int (0 : Int32)), (.int (0 : Int32)), (.int (0 : Int32)), (.int (0 : Int32)), (.int (0 : Int32)), (.int (0 : Int32)), (.int (0 : Int32)), (.int (0 : Int32)), (.int (0 : Int32)), (.int (0 : Int32)), (.int (0 : Int32)), (.int (0 : Int32)), (.int (0 : Int32)), (.int (0 : Int32)), (.int (0 : Int32))] (.int (0 : Int32)) := (Arv.new A1 (by decide)).pad (pad_rep [] (.int (0 : Int32)) 28)
  show own_Ends p e below T1 (mkF m 4 #[] [(.ref b1)]) _
  refine own_go (fun _ => XS.dup X1.here hx rfl (hb hby d1_4) rfl rfl) ?_
  show own_Ends p e below T1 (mkF m 5 #[] [(.ref b1), (.ref b1)]) _
  refine own_go (fun _ => XS.iconst X1.here hx rfl (hb hby d1_5)) ?_
  show own_Ends p e below T1 (mkF m 6 #[] [(.int (0 : Int32)), (.ref b1), (.ref b1)]) _
  refine own_go (fun _ => XS.bipush X1.here hx rfl (hb hby d1_6)) ?_
  show own_Ends p e below T1 (mkF m 8 #[] [(.int (65 : Int32)), (.int (0 : Int32)), (.ref b1), (.ref b1)]) _
  obtain ⟨cl_2, Ar_2, q_2, S_2, M_2, H_2, G_2⟩ := V_b1
  have hin2 : ¬ ((0 : Int32) < 0 ∨ cl_2.slots.size ≤ ((0 : Int32)).toNatClampNeg) := inb_of S_2 ⟨by decide, by decide⟩
  obtain ⟨T2, h2, X2, e2, W2, st2⟩ := stI X1 hx hZ e1 Ar_2 (j := (0 : Int32)) hin2 (g := (mkF m 8 #[] [(.int (65 : Int32)), (.int (0 : Int32)), (.ref b1), (.ref b1)])) rfl rfl (hb hby d1_8)
  refine own_go st2 ?_
  have V_b1_2 : Arv Z h2 b1 k1 .int (28 : Int32) [(.int (65 : Int32)), (.int (0 : Int32)), (.int (0 : Int32)), (.int (0 : Int32)), (.int (0 : Int32)), (.int (0 : Int32)), (.int (0 : Int32)), (.int (0 : Int32)), (.int (0 : Int32)), (.int (0 : Int32)), (.int (0 : Int32)), (.int (0 : Int32)), (.int (0 : Int32)), (.int (0 : Int32)), (.int (0 : Int32)), (.int (0 : Int32)), (.int (0 : Int32)), (.int (0 : Int32)), (.int (0 : Int32)), (.int (0 : Int32)), (.int (0 : Int32)), (.int (0 : Int32)), (.int (0 : Int32)), (.int (0 : Int32)), (.int (0 : Int32)), (.int (0 : Int32)), (.int (0 : Int32)), (.int (0 : Int32))] (.int (0 : Int32)) := Arv.set Ar_2 q_2 S_2 M_2 H_2 G_2 rfl W2 0 rfl (Nat.le_of_ble_eq_true rfl)
  have N2 := Fr.snoc X2 N0 g_b1
  have K2 := K1.wr W2 (Or.inr sz_b1)
  have Z2 : n0 ≤ h2.size := Nat.le_trans Z0 K2.1
  show own_Ends p e below T2 (mkF m 9 #[] [(.ref b1)]) _
  refine own_go (fun _ => XS.dup X2.here hx rfl (hb hby d1_9) rfl rfl) ?_
  show own_Ends p e below T2 (mkF m 10 #[] [(.ref b1), (.ref b1)]) _
  refine own_go (fun _ => XS.iconst X2.here hx rfl (hb hby d1_10)) ?_
  show own_Ends p e below T2 (mkF m 11 #[] [(.int (1 : Int32)), (.ref b1), (.ref b1)]) _
  refine own_go (fun _ => XS.bipush X2.here hx rfl (hb hby d1_11)) ?_
  show own_Ends p e below T2 (mkF m 13 #[] [(.int (91 : Int32)), (.int (1 : Int32)), (.ref b1), (.ref b1)]) _
  obtain ⟨cl_3, Ar_3, q_3, S_3, M_3, H_3, G_3⟩ := V_b1_2
  have hin3 : ¬ ((1 : Int32) < 0 ∨ cl_3.slots.size ≤ ((1 : Int32)).toNatClampNeg) := inb_of S_3 ⟨by decide, by decide⟩
  obtain ⟨T3, h3, X3, e3, W3, st3⟩ := stI X2 hx hZ e2 Ar_3 (j := (1 : Int32)) hin3 (g := (mkF m 13 #[] [(.int (91 : Int32)), (.int (1 : Int32)), (.ref b1), (.ref b1)])) rfl rfl (hb hby d1_13)
  refine own_go st3 ?_
  have V_b1_3 : Arv Z h3 b1 k1 .int (28 : Int32) [(.int (65 : Int32)), (.int (91 : Int32)), (.int (0 : Int32)), (.int (0 : Int32)), (.int (0 : Int32)), (.int (0 : Int32)), (.int (0 : Int32)), (.int (0 : Int32)), (.int (0 : Int32)), (.int (0 : Int32)), (.int (0 : Int32)), (.int (0 : Int32)), (.int (0 : Int32)), (.int (0 : Int32)), (.int (0 : Int32)), (.int (0 : Int32)), (.int (0 : Int32)), (.int (0 : Int32)), (.int (0 : Int32)), (.int (0 : Int32)), (.int (0 : Int32)), (.int (0 : Int32)), (.int (0 : Int32)), (.int (0 : Int32)), (.int (0 : Int32)), (.int (0 : Int32)), (.int (0 : Int32)), (.int (0 : Int32))] (.int (0 : Int32)) := Arv.set Ar_3 q_3 S_3 M_3 H_3 G_3 rfl W3 1 rfl (Nat.le_of_ble_eq_true rfl)
  have N3 := Fr.snoc X3 N2 g_b1
  have K3 := K2.wr W3 (Or.inr sz_b1)
  have Z3 : n0 ≤ h3.size := Nat.le_trans Z0 K3.1
  show own_Ends p e below T3 (mkF m 14 #[] [(.ref b1)]) _
  refine own_go (fun _ => XS.dup X3.here hx rfl (hb hby d1_14) rfl rfl) ?_
  show own_Ends p e below T3 (mkF m 15 #[] [(.ref b1), (.ref b1)]) _
  refine own_go (fun _ => XS.iconst X3.here hx rfl (hb hby d1_15)) ?_
  show own_Ends p e below T3 (mkF m 16 #[] [(.int (2 : Int32)), (.ref b1), (.ref b1)]) _
  refine own_go (fun _ => XS.bipush X3.here hx rfl (hb hby d1_16)) ?_
  show own_Ends p e below T3 (mkF m 18 #[] [(.int (97 : Int32)), (.int (2 : Int32)), (.ref b1), (.ref b1)]) _
  obtain ⟨cl_4, Ar_4, q_4, S_4, M_4, H_4, G_4⟩ := V_b1_3
  have hin4 : ¬ ((2 : Int32) < 0 ∨ cl_4.slots.size ≤ ((2 : Int32)).toNatClampNeg) := inb_of S_4 ⟨by decide, by decide⟩
  obtain ⟨T4, h4, X4, e4, W4, st4⟩ := stI X3 hx hZ e3 Ar_4 (j := (2 : Int32)) hin4 (g := (mkF m 18 #[] [(.int (97 : Int32)), (.int (2 : Int32)), (.ref b1), (.ref b1)])) rfl rfl (hb hby d1_18)
  refine own_go st4 ?_
  have V_b1_4 : Arv Z h4 b1 k1 .int (28 : Int32) [(.int (65 : Int32)), (.int (91 : Int32)), (.int (97 : Int32)), (.int (0 : Int32)), (.int (0 : Int32)), (.int (0 : Int32)), (.int (0 : Int32)), (.int (0 : Int32)), (.int (0 : Int32)), (.int (0 : Int32)), (.int (0 : Int32)), (.int (0 : Int32)), (.int (0 : Int32)), (.int (0 : Int32)), (.int (0 : Int32)), (.int (0 : Int32)), (.int (0 : Int32)), (.int (0 : Int32)), (.int (0 : Int32)), (.int (0 : Int32)), (.int (0 : Int32)), (.int (0 : Int32)), (.int (0 : Int32)), (.int (0 : Int32)), (.int (0 : Int32)), (.int (0 : Int32)), (.int (0 : Int32)), (.int (0 : Int32))] (.int (0 : Int32)) := Arv.set Ar_4 q_4 S_4 M_4 H_4 G_4 rfl W4 2 rfl (Nat.le_of_ble_eq_true rfl)
  have N4 := Fr.snoc X4 N3 g_b1
  have K4 := K3.wr W4 (Or.inr sz_b1)
  have Z4 : n0 ≤ h4.size := Nat.le_trans Z0 K4.1
  show own_Ends p e below T4 (mkF m 19 #[] [(.ref b1)]) _
  refine own_go (fun _ => XS.dup X4.here hx rfl (hb hby d1_19) rfl rfl) ?_
  show own_Ends p e below T4 (mkF m 20 #[] [(.ref b1), (.ref b1)]) _
  refine own_go (fun _ => XS.iconst X4.here hx rfl (hb hby d1_20)) ?_
  show own_Ends p e below T4 (mkF m 21 #[] [(.int (3 : Int32)), (.ref b1), (.ref b1)]) _
  refine own_go (fun _ => XS.bipush X4.here hx rfl (hb hby d1_21)) ?_
  show own_Ends p e below T4 (mkF m 23 #[] [(.int (123 : Int32)), (.int (3 : Int32)), (.ref b1), (.ref b1)]) _
  obtain ⟨cl_5, Ar_5, q_5, S_5, M_5, H_5, G_5⟩ := V_b1_4
  have hin5 : ¬ ((3 : Int32) < 0 ∨ cl_5.slots.size ≤ ((3 : Int32)).toNatClampNeg) := inb_of S_5 ⟨by decide, by decide⟩
  obtain ⟨T5, h5, X5, e5, W5, st5⟩ := stI X4 hx hZ e4 Ar_5 (j := (3 : Int32)) hin5 (g := (mkF m 23 #[] [(.int (123 : Int32)), (.int (3 : Int32)), (.ref b1), (.ref b1)])) rfl rfl (hb hby d1_23)
  refine own_go st5 ?_
  have V_b1_5 : Arv Z h5 b1 k1 .int (28 : Int32) [(.int (65 : Int32)), (.int (91 : Int32)), (.int (97 : Int32)), (.int (123 : Int32)), (.int (0 : Int32)), (.int (0 : Int32)), (.int (0 : Int32)), (.int (0 : Int32)), (.int (0 : Int32)), (.int (0 : Int32)), (.int (0 : Int32)), (.int (0 : Int32)), (.int (0 : Int32)), (.int (0 : Int32)), (.int (0 : Int32)), (.int (0 : Int32)), (.int (0 : Int32)), (.int (0 : Int32)), (.int (0 : Int32)), (.int (0 : Int32)), (.int (0 : Int32)), (.int (0 : Int32)), (.int (0 : Int32)), (.int (0 : Int32)), (.int (0 : Int32)), (.int (0 : Int32)), (.int (0 : Int32)), (.int (0 : Int32))] (.int (0 : Int32)) := Arv.set Ar_5 q_5 S_5 M_5 H_5 G_5 rfl W5 3 rfl (Nat.le_of_ble_eq_true rfl)
  have N5 := Fr.snoc X5 N4 g_b1
  have K5 := K4.wr W5 (Or.inr sz_b1)
  have Z5 : n0 ≤ h5.size := Nat.le_trans Z0 K5.1
  show own_Ends p e below T5 (mkF m 24 #[] [(.ref b1)]) _
  refine own_go (fun _ => XS.dup X5.here hx rfl (hb hby d1_24) rfl rfl) ?_
  show own_Ends p e below T5 (mkF m 25 #[] [(.ref b1), (.ref b1)]) _
  refine own_go (fun _ => XS.iconst X5.here hx rfl (hb hby d1_25)) ?_
  show own_Ends p e below T5 (mkF m 26 #[] [(.int (4 : Int32)), (.ref b1), (.ref b1)]) _
  refine own_go (fun _ => XS.sipush X5.here hx rfl (hb hby d1_26)) ?_
  show own_Ends p e below T5 (mkF m 29 #[] [(.int (192 : Int32)), (.int (4 : Int32)), (.ref b1), (.ref b1)]) _
  obtain ⟨cl_6, Ar_6, q_6, S_6, M_6, H_6, G_6⟩ := V_b1_5
  have hin6 : ¬ ((4 : Int32) < 0 ∨ cl_6.slots.size ≤ ((4 : Int32)).toNatClampNeg) := inb_of S_6 ⟨by decide, by decide⟩
  obtain ⟨T6, h6, X6, e6, W6, st6⟩ := stI X5 hx hZ e5 Ar_6 (j := (4 : Int32)) hin6 (g := (mkF m 29 #[] [(.int (192 : Int32)), (.int (4 : Int32)), (.ref b1), (.ref b1)])) rfl rfl (hb hby d1_29)
  refine own_go st6 ?_
  have V_b1_6 : Arv Z h6 b1 k1 .int (28 : Int32) [(.int (65 : Int32)), (.int (91 : Int32)), (.int (97 : Int32)), (.int (123 : Int32)), (.int (192 : Int32)), (.int (0 : Int32)), (.int (0 : Int32)), (.int (0 : Int32)), (.int (0 : Int32)), (.int (0 : Int32)), (.int (0 : Int32)), (.int (0 : Int32)), (.int (0 : Int32)), (.int (0 : Int32)), (.int (0 : Int32)), (.int (0 : Int32)), (.int (0 : Int32)), (.int (0 : Int32)), (.int (0 : Int32)), (.int (0 : Int32)), (.int (0 : Int32)), (.int (0 : Int32)), (.int (0 : Int32)), (.int (0 : Int32)), (.int (0 : Int32)), (.int (0 : Int32)), (.int (0 : Int32)), (.int (0 : Int32))] (.int (0 : Int32)) := Arv.set Ar_6 q_6 S_6 M_6 H_6 G_6 rfl W6 4 rfl (Nat.le_of_ble_eq_true rfl)
  have N6 := Fr.snoc X6 N5 g_b1
  have K6 := K5.wr W6 (Or.inr sz_b1)
  have Z6 : n0 ≤ h6.size := Nat.le_trans Z0 K6.1
  show own_Ends p e below T6 (mkF m 30 #[] [(.ref b1)]) _
  refine own_go (fun _ => XS.dup X6.here hx rfl (hb hby d1_30) rfl rfl) ?_
  show own_Ends p e below T6 (mkF m 31 #[] [(.ref b1), (.ref b1)]) _
  refine own_go (fun _ => XS.iconst X6.here hx rfl (hb hby d1_31)) ?_
  show own_Ends p e below T6 (mkF m 32 #[] [(.int (5 : Int32)), (.ref b1), (.ref b1)]) _
  refine own_go (fun _ => XS.sipush X6.here hx rfl (hb hby d1_32)) ?_
  show own_Ends p e below T6 (mkF m 35 #[] [(.int (215 : Int32)), (.int (5 : Int32)), (.ref b1), (.ref b1)]) _
  obtain ⟨cl_7, Ar_7, q_7, S_7, M_7, H_7, G_7⟩ := V_b1_6
  have hin7 : ¬ ((5 : Int32) < 0 ∨ cl_7.slots.size ≤ ((5 : Int32)).toNatClampNeg) := inb_of S_7 ⟨by decide, by decide⟩
  obtain ⟨T7, h7, X7, e7, W7, st7⟩ := stI X6 hx hZ e6 Ar_7 (j := (5 : Int32)) hin7 (g := (mkF m 35 #[] [(.int (215 : Int32)), (.int (5 : Int32)), (.ref b1), (.ref b1)])) rfl rfl (hb hby d1_35)
  refine own_go st7 ?_
  have V_b1_7 : Arv Z h7 b1 k1 .int (28 : Int32) [(.int (65 : Int32)), (.int (91 : Int32)), (.int (97 : Int32)), (.int (123 : Int32)), (.int (192 : Int32)), (.int (215 : Int32)), (.int (0 : Int32)), (.int (0 : Int32)), (.int (0 : Int32)), (.int (0 : Int32)), (.int (0 : Int32)), (.int (0 : Int32)), (.int (0 : Int32)), (.int (0 : Int32)), (.int (0 : Int32)), (.int (0 : Int32)), (.int (0 : Int32)), (.int (0 : Int32)), (.int (0 : Int32)), (.int (0 : Int32)), (.int (0 : Int32)), (.int (0 : Int32)), (.int (0 : Int32)), (.int (0 : Int32)), (.int (0 : Int32)), (.int (0 : Int32)), (.int (0 : Int32)), (.int (0 : Int32))] (.int (0 : Int32)) := Arv.set Ar_7 q_7 S_7 M_7 H_7 G_7 rfl W7 5 rfl (Nat.le_of_ble_eq_true rfl)
  have N7 := Fr.snoc X7 N6 g_b1
  have K7 := K6.wr W7 (Or.inr sz_b1)
  have Z7 : n0 ≤ h7.size := Nat.le_trans Z0 K7.1
  show own_Ends p e below T7 (mkF m 36 #[] [(.ref b1)]) _
  refine own_go (fun _ => XS.dup X7.here hx rfl (hb hby d1_36) rfl rfl) ?_
  show own_Ends p e below T7 (mkF m 37 #[] [(.ref b1), (.ref b1)]) _
  refine own_go (fun _ => XS.bipush X7.here hx rfl (hb hby d1_37)) ?_
  show own_Ends p e below T7 (mkF m 39 #[] [(.int (6 : Int32)), (.ref b1), (.ref b1)]) _
  refine own_go (fun _ => XS.sipush X7.here hx rfl (hb hby d1_39)) ?_
  show own_Ends p e below T7 (mkF m 42 #[] [(.int (216 : Int32)), (.int (6 : Int32)), (.ref b1), (.ref b1)]) _
  obtain ⟨cl_8, Ar_8, q_8, S_8, M_8, H_8, G_8⟩ := V_b1_7
  have hin8 : ¬ ((6 : Int32) < 0 ∨ cl_8.slots.size ≤ ((6 : Int32)).toNatClampNeg) := inb_of S_8 ⟨by decide, by decide⟩
  obtain ⟨T8, h8, X8, e8, W8, st8⟩ := stI X7 hx hZ e7 Ar_8 (j := (6 : Int32)) hin8 (g := (mkF m 42 #[] [(.int (216 : Int32)), (.int (6 : Int32)), (.ref b1), (.ref b1)])) rfl rfl (hb hby d1_42)
  refine own_go st8 ?_
  have V_b1_8 : Arv Z h8 b1 k1 .int (28 : Int32) [(.int (65 : Int32)), (.int (91 : Int32)), (.int (97 : Int32)), (.int (123 : Int32)), (.int (192 : Int32)), (.int (215 : Int32)), (.int (216 : Int32)), (.int (0 : Int32)), (.int (0 : Int32)), (.int (0 : Int32)), (.int (0 : Int32)), (.int (0 : Int32)), (.int (0 : Int32)), (.int (0 : Int32)), (.int (0 : Int32)), (.int (0 : Int32)), (.int (0 : Int32)), (.int (0 : Int32)), (.int (0 : Int32)), (.int (0 : Int32)), (.int (0 : Int32)), (.int (0 : Int32)), (.int (0 : Int32)), (.int (0 : Int32)), (.int (0 : Int32)), (.int (0 : Int32)), (.int (0 : Int32)), (.int (0 : Int32))] (.int (0 : Int32)) := Arv.set Ar_8 q_8 S_8 M_8 H_8 G_8 rfl W8 6 rfl (Nat.le_of_ble_eq_true rfl)
  have N8 := Fr.snoc X8 N7 g_b1
  have K8 := K7.wr W8 (Or.inr sz_b1)
  have Z8 : n0 ≤ h8.size := Nat.le_trans Z0 K8.1
  show own_Ends p e below T8 (mkF m 43 #[] [(.ref b1)]) _
  refine own_go (fun _ => XS.dup X8.here hx rfl (hb hby d1_43) rfl rfl) ?_
  show own_Ends p e below T8 (mkF m 44 #[] [(.ref b1), (.ref b1)]) _
  refine own_go (fun _ => XS.bipush X8.here hx rfl (hb hby d1_44)) ?_
  show own_Ends p e below T8 (mkF m 46 #[] [(.int (7 : Int32)), (.ref b1), (.ref b1)]) _
  refine own_go (fun _ => XS.sipush X8.here hx rfl (hb hby d1_46)) ?_
  show own_Ends p e below T8 (mkF m 49 #[] [(.int (247 : Int32)), (.int (7 : Int32)), (.ref b1), (.ref b1)]) _
  obtain ⟨cl_9, Ar_9, q_9, S_9, M_9, H_9, G_9⟩ := V_b1_8
  have hin9 : ¬ ((7 : Int32) < 0 ∨ cl_9.slots.size ≤ ((7 : Int32)).toNatClampNeg) := inb_of S_9 ⟨by decide, by decide⟩
  obtain ⟨T9, h9, X9, e9, W9, st9⟩ := stI X8 hx hZ e8 Ar_9 (j := (7 : Int32)) hin9 (g := (mkF m 49 #[] [(.int (247 : Int32)), (.int (7 : Int32)), (.ref b1), (.ref b1)])) rfl rfl (hb hby d1_49)
  refine own_go st9 ?_
  have V_b1_9 : Arv Z h9 b1 k1 .int (28 : Int32) [(.int (65 : Int32)), (.int (91 : Int32)), (.int (97 : Int32)), (.int (123 : Int32)), (.int (192 : Int32)), (.int (215 : Int32)), (.int (216 : Int32)), (.int (247 : Int32)), (.int (0 : Int32)), (.int (0 : Int32)), (.int (0 : Int32)), (.int (0 : Int32)), (.int (0 : Int32)), (.int (0 : Int32)), (.int (0 : Int32)), (.int (0 : Int32)), (.int (0 : Int32)), (.int (0 : Int32)), (.int (0 : Int32)), (.int (0 : Int32)), (.int (0 : Int32)), (.int (0 : Int32)), (.int (0 : Int32)), (.int (0 : Int32)), (.int (0 : Int32)), (.int (0 : Int32)), (.int (0 : Int32)), (.int (0 : Int32))] (.int (0 : Int32)) := Arv.set Ar_9 q_9 S_9 M_9 H_9 G_9 rfl W9 7 rfl (Nat.le_of_ble_eq_true rfl)
  have N9 := Fr.snoc X9 N8 g_b1
  have K9 := K8.wr W9 (Or.inr sz_b1)
  have Z9 : n0 ≤ h9.size := Nat.le_trans Z0 K9.1
  show own_Ends p e below T9 (mkF m 50 #[] [(.ref b1)]) _
  refine own_go (fun _ => XS.dup X9.here hx rfl (hb hby d1_50) rfl rfl) ?_
  show own_Ends p e below T9 (mkF m 51 #[] [(.ref b1), (.ref b1)]) _
  refine own_go (fun _ => XS.bipush X9.here hx rfl (hb hby d1_51)) ?_
  show own_Ends p e below T9 (mkF m 53 #[] [(.int (8 : Int32)), (.ref b1), (.ref b1)]) _
  refine own_go (fun _ => XS.sipush X9.here hx rfl (hb hby d1_53)) ?_
  show own_Ends p e below T9 (mkF m 56 #[] [(.int (248 : Int32)), (.int (8 : Int32)), (.ref b1), (.ref b1)]) _
  obtain ⟨cl_10, Ar_10, q_10, S_10, M_10, H_10, G_10⟩ := V_b1_9
  have hin10 : ¬ ((8 : Int32) < 0 ∨ cl_10.slots.size ≤ ((8 : Int32)).toNatClampNeg) := inb_of S_10 ⟨by decide, by decide⟩
  obtain ⟨T10, h10, X10, e10, W10, st10⟩ := stI X9 hx hZ e9 Ar_10 (j := (8 : Int32)) hin10 (g := (mkF m 56 #[] [(.int (248 : Int32)), (.int (8 : Int32)), (.ref b1), (.ref b1)])) rfl rfl (hb hby d1_56)
  refine own_go st10 ?_
  have V_b1_10 : Arv Z h10 b1 k1 .int (28 : Int32) [(.int (65 : Int32)), (.int (91 : Int32)), (.int (97 : Int32)), (.int (123 : Int32)), (.int (192 : Int32)), (.int (215 : Int32)), (.int (216 : Int32)), (.int (247 : Int32)), (.int (248 : Int32)), (.int (0 : Int32)), (.int (0 : Int32)), (.int (0 : Int32)), (.int (0 : Int32)), (.int (0 : Int32)), (.int (0 : Int32)), (.int (0 : Int32)), (.int (0 : Int32)), (.int (0 : Int32)), (.int (0 : Int32)), (.int (0 : Int32)), (.int (0 : Int32)), (.int (0 : Int32)), (.int (0 : Int32)), (.int (0 : Int32)), (.int (0 : Int32)), (.int (0 : Int32)), (.int (0 : Int32)), (.int (0 : Int32))] (.int (0 : Int32)) := Arv.set Ar_10 q_10 S_10 M_10 H_10 G_10 rfl W10 8 rfl (Nat.le_of_ble_eq_true rfl)
  have N10 := Fr.snoc X10 N9 g_b1
  have K10 := K9.wr W10 (Or.inr sz_b1)
  have Z10 : n0 ≤ h10.size := Nat.le_trans Z0 K10.1
  show own_Ends p e below T10 (mkF m 57 #[] [(.ref b1)]) _
  refine own_go (fun _ => XS.dup X10.here hx rfl (hb hby d1_57) rfl rfl) ?_
  show own_Ends p e below T10 (mkF m 58 #[] [(.ref b1), (.ref b1)]) _
  refine own_go (fun _ => XS.bipush X10.here hx rfl (hb hby d1_58)) ?_
  show own_Ends p e below T10 (mkF m 60 #[] [(.int (9 : Int32)), (.ref b1), (.ref b1)]) _
  refine own_go (fun _ => XS.sipush X10.here hx rfl (hb hby d1_60)) ?_
  show own_Ends p e below T10 (mkF m 63 #[] [(.int (768 : Int32)), (.int (9 : Int32)), (.ref b1), (.ref b1)]) _
  obtain ⟨cl_11, Ar_11, q_11, S_11, M_11, H_11, G_11⟩ := V_b1_10
  have hin11 : ¬ ((9 : Int32) < 0 ∨ cl_11.slots.size ≤ ((9 : Int32)).toNatClampNeg) := inb_of S_11 ⟨by decide, by decide⟩
  obtain ⟨T11, h11, X11, e11, W11, st11⟩ := stI X10 hx hZ e10 Ar_11 (j := (9 : Int32)) hin11 (g := (mkF m 63 #[] [(.int (768 : Int32)), (.int (9 : Int32)), (.ref b1), (.ref b1)])) rfl rfl (hb hby d1_63)
  refine own_go st11 ?_
  have V_b1_11 : Arv Z h11 b1 k1 .int (28 : Int32) [(.int (65 : Int32)), (.int (91 : Int32)), (.int (97 : Int32)), (.int (123 : Int32)), (.int (192 : Int32)), (.int (215 : Int32)), (.int (216 : Int32)), (.int (247 : Int32)), (.int (248 : Int32)), (.int (768 : Int32)), (.int (0 : Int32)), (.int (0 : Int32)), (.int (0 : Int32)), (.int (0 : Int32)), (.int (0 : Int32)), (.int (0 : Int32)), (.int (0 : Int32)), (.int (0 : Int32)), (.int (0 : Int32)), (.int (0 : Int32)), (.int (0 : Int32)), (.int (0 : Int32)), (.int (0 : Int32)), (.int (0 : Int32)), (.int (0 : Int32)), (.int (0 : Int32)), (.int (0 : Int32)), (.int (0 : Int32))] (.int (0 : Int32)) := Arv.set Ar_11 q_11 S_11 M_11 H_11 G_11 rfl W11 9 rfl (Nat.le_of_ble_eq_true rfl)
  have N11 := Fr.snoc X11 N10 g_b1
  have K11 := K10.wr W11 (Or.inr sz_b1)
  have Z11 : n0 ≤ h11.size := Nat.le_trans Z0 K11.1
  show own_Ends p e below T11 (mkF m 64 #[] [(.ref b1)]) _
  refine own_go (fun _ => XS.dup X11.here hx rfl (hb hby d1_64) rfl rfl) ?_
  show own_Ends p e below T11 (mkF m 65 #[] [(.ref b1), (.ref b1)]) _
  refine own_go (fun _ => XS.bipush X11.here hx rfl (hb hby d1_65)) ?_
  show own_Ends p e below T11 (mkF m 67 #[] [(.int (10 : Int32)), (.ref b1), (.ref b1)]) _
  refine own_go (fun _ => XS.sipush X11.here hx rfl (hb hby d1_67)) ?_
  show own_Ends p e below T11 (mkF m 70 #[] [(.int (880 : Int32)), (.int (10 : Int32)), (.ref b1), (.ref b1)]) _
  obtain ⟨cl_12, Ar_12, q_12, S_12, M_12, H_12, G_12⟩ := V_b1_11
  have hin12 : ¬ ((10 : Int32) < 0 ∨ cl_12.slots.size ≤ ((10 : Int32)).toNatClampNeg) := inb_of S_12 ⟨by decide, by decide⟩
  obtain ⟨T12, h12, X12, e12, W12, st12⟩ := stI X11 hx hZ e11 Ar_12 (j := (10 : Int32)) hin12 (g := (mkF m 70 #[] [(.int (880 : Int32)), (.int (10 : Int32)), (.ref b1), (.ref b1)])) rfl rfl (hb hby d1_70)
  refine own_go st12 ?_
  have V_b1_12 : Arv Z h12 b1 k1 .int (28 : Int32) [(.int (65 : Int32)), (.int (91 : Int32)), (.int (97 : Int32)), (.int (123 : Int32)), (.int (192 : Int32)), (.int (215 : Int32)), (.int (216 : Int32)), (.int (247 : Int32)), (.int (248 : Int32)), (.int (768 : Int32)), (.int (880 : Int32)), (.int (0 : Int32)), (.int (0 : Int32)), (.int (0 : Int32)), (.int (0 : Int32)), (.int (0 : Int32)), (.int (0 : Int32)), (.int (0 : Int32)), (.int (0 : Int32)), (.int (0 : Int32)), (.int (0 : Int32)), (.int (0 : Int32)), (.int (0 : Int32)), (.int (0 : Int32)), (.int (0 : Int32)), (.int (0 : Int32)), (.int (0 : Int32)), (.int (0 : Int32))] (.int (0 : Int32)) := Arv.set Ar_12 q_12 S_12 M_12 H_12 G_12 rfl W12 10 rfl (Nat.le_of_ble_eq_true rfl)
  have N12 := Fr.snoc X12 N11 g_b1
  have K12 := K11.wr W12 (Or.inr sz_b1)
  have Z12 : n0 ≤ h12.size := Nat.le_trans Z0 K12.1
  show own_Ends p e below T12 (mkF m 71 #[] [(.ref b1)]) _
  refine own_go (fun _ => XS.dup X12.here hx rfl (hb hby d1_71) rfl rfl) ?_
  show own_Ends p e below T12 (mkF m 72 #[] [(.ref b1), (.ref b1)]) _
  refine own_go (fun _ => XS.bipush X12.here hx rfl (hb hby d1_72)) ?_
  show own_Ends p e below T12 (mkF m 74 #[] [(.int (11 : Int32)), (.ref b1), (.ref b1)]) _
  refine own_go (fun _ => XS.sipush X12.here hx rfl (hb hby d1_74)) ?_
  show own_Ends p e below T12 (mkF m 77 #[] [(.int (894 : Int32)), (.int (11 : Int32)), (.ref b1), (.ref b1)]) _
  obtain ⟨cl_13, Ar_13, q_13, S_13, M_13, H_13, G_13⟩ := V_b1_12
  have hin13 : ¬ ((11 : Int32) < 0 ∨ cl_13.slots.size ≤ ((11 : Int32)).toNatClampNeg) := inb_of S_13 ⟨by decide, by decide⟩
  obtain ⟨T13, h13, X13, e13, W13, st13⟩ := stI X12 hx hZ e12 Ar_13 (j := (11 : Int32)) hin13 (g := (mkF m 77 #[] [(.int (894 : Int32)), (.int (11 : Int32)), (.ref b1), (.ref b1)])) rfl rfl (hb hby d1_77)
  refine own_go st13 ?_
  have V_b1_13 : Arv Z h13 b1 k1 .int (28 : Int32) [(.int (65 : Int32)), (.int (91 : Int32)), (.int (97 : Int32)), (.int (123 : Int32)), (.int (192 : Int32)), (.int (215 : Int32)), (.int (216 : Int32)), (.int (247 : Int32)), (.int (248 : Int32)), (.int (768 : Int32)), (.int (880 : Int32)), (.int (894 : Int32)), (.int (0 : Int32)), (.int (0 : Int32)), (.int (0 : Int32)), (.int (0 : Int32)), (.int (0 : Int32)), (.int (0 : Int32)), (.int (0 : Int32)), (.int (0 : Int32)), (.int (0 : Int32)), (.int (0 : Int32)), (.int (0 : Int32)), (.int (0 : Int32)), (.int (0 : Int32)), (.int (0 : Int32)), (.int (0 : Int32)), (.int (0 : Int32))] (.int (0 : Int32)) := Arv.set Ar_13 q_13 S_13 M_13 H_13 G_13 rfl W13 11 rfl (Nat.le_of_ble_eq_true rfl)
  have N13 := Fr.snoc X13 N12 g_b1
  have K13 := K12.wr W13 (Or.inr sz_b1)
  have Z13 : n0 ≤ h13.size := Nat.le_trans Z0 K13.1
  show own_Ends p e below T13 (mkF m 78 #[] [(.ref b1)]) _
  refine own_go (fun _ => XS.dup X13.here hx rfl (hb hby d1_78) rfl rfl) ?_
  show own_Ends p e below T13 (mkF m 79 #[] [(.ref b1), (.ref b1)]) _
  refine own_go (fun _ => XS.bipush X13.here hx rfl (hb hby d1_79)) ?_
  show own_Ends p e below T13 (mkF m 81 #[] [(.int (12 : Int32)), (.ref b1), (.ref b1)]) _
  refine own_go (fun _ => XS.sipush X13.here hx rfl (hb hby d1_81)) ?_
  show own_Ends p e below T13 (mkF m 84 #[] [(.int (895 : Int32)), (.int (12 : Int32)), (.ref b1), (.ref b1)]) _
  obtain ⟨cl_14, Ar_14, q_14, S_14, M_14, H_14, G_14⟩ := V_b1_13
  have hin14 : ¬ ((12 : Int32) < 0 ∨ cl_14.slots.size ≤ ((12 : Int32)).toNatClampNeg) := inb_of S_14 ⟨by decide, by decide⟩
  obtain ⟨T14, h14, X14, e14, W14, st14⟩ := stI X13 hx hZ e13 Ar_14 (j := (12 : Int32)) hin14 (g := (mkF m 84 #[] [(.int (895 : Int32)), (.int (12 : Int32)), (.ref b1), (.ref b1)])) rfl rfl (hb hby d1_84)
  refine own_go st14 ?_
  have V_b1_14 : Arv Z h14 b1 k1 .int (28 : Int32) [(.int (65 : Int32)), (.int (91 : Int32)), (.int (97 : Int32)), (.int (123 : Int32)), (.int (192 : Int32)), (.int (215 : Int32)), (.int (216 : Int32)), (.int (247 : Int32)), (.int (248 : Int32)), (.int (768 : Int32)), (.int (880 : Int32)), (.int (894 : Int32)), (.int (895 : Int32)), (.int (0 : Int32)), (.int (0 : Int32)), (.int (0 : Int32)), (.int (0 : Int32)), (.int (0 : Int32)), (.int (0 : Int32)), (.int (0 : Int32)), (.int (0 : Int32)), (.int (0 : Int32)), (.int (0 : Int32)), (.int (0 : Int32)), (.int (0 : Int32)), (.int (0 : Int32)), (.int (0 : Int32)), (.int (0 : Int32))] (.int (0 : Int32)) := Arv.set Ar_14 q_14 S_14 M_14 H_14 G_14 rfl W14 12 rfl (Nat.le_of_ble_eq_true rfl)
  have N14 := Fr.snoc X14 N13 g_b1
  have K14 := K13.wr W14 (Or.inr sz_b1)
  have Z14 : n0 ≤ h14.size := Nat.le_trans Z0 K14.1
  show own_Ends p e below T14 (mkF m 85 #[] [(.ref b1)]) _
  refine own_go (fun _ => XS.dup X14.here hx rfl (hb hby d1_85) rfl rfl) ?_
  show own_Ends p e below T14 (mkF m 86 #[] [(.ref b1), (.ref b1)]) _
  refine own_go (fun _ => XS.bipush X14.here hx rfl (hb hby d1_86)) ?_
  show own_Ends p e below T14 (mkF m 88 #[] [(.int (13 : Int32)), (.ref b1), (.ref b1)]) _
  refine own_go (fun _ => XS.sipush X14.here hx rfl (hb hby d1_88)) ?_
  show own_Ends p e below T14 (mkF m 91 #[] [(.int (8192 : Int32)), (.int (13 : Int32)), (.ref b1), (.ref b1)]) _
  obtain ⟨cl_15, Ar_15, q_15, S_15, M_15, H_15, G_15⟩ := V_b1_14
  have hin15 : ¬ ((13 : Int32) < 0 ∨ cl_15.slots.size ≤ ((13 : Int32)).toNatClampNeg) := inb_of S_15 ⟨by decide, by decide⟩
  obtain ⟨T15, h15, X15, e15, W15, st15⟩ := stI X14 hx hZ e14 Ar_15 (j := (13 : Int32)) hin15 (g := (mkF m 91 #[] [(.int (8192 : Int32)), (.int (13 : Int32)), (.ref b1), (.ref b1)])) rfl rfl (hb hby d1_91)
  refine own_go st15 ?_
  have V_b1_15 : Arv Z h15 b1 k1 .int (28 : Int32) [(.int (65 : Int32)), (.int (91 : Int32)), (.int (97 : Int32)), (.int (123 : Int32)), (.int (192 : Int32)), (.int (215 : Int32)), (.int (216 : Int32)), (.int (247 : Int32)), (.int (248 : Int32)), (.int (768 : Int32)), (.int (880 : Int32)), (.int (894 : Int32)), (.int (895 : Int32)), (.int (8192 : Int32)), (.int (0 : Int32)), (.int (0 : Int32)), (.int (0 : Int32)), (.int (0 : Int32)), (.int (0 : Int32)), (.int (0 : Int32)), (.int (0 : Int32)), (.int (0 : Int32)), (.int (0 : Int32)), (.int (0 : Int32)), (.int (0 : Int32)), (.int (0 : Int32)), (.int (0 : Int32)), (.int (0 : Int32))] (.int (0 : Int32)) := Arv.set Ar_15 q_15 S_15 M_15 H_15 G_15 rfl W15 13 rfl (Nat.le_of_ble_eq_true rfl)
  have N15 := Fr.snoc X15 N14 g_b1
  have K15 := K14.wr W15 (Or.inr sz_b1)
  have Z15 : n0 ≤ h15.size := Nat.le_trans Z0 K15.1
  show own_Ends p e below T15 (mkF m 92 #[] [(.ref b1)]) _
  refine own_go (fun _ => XS.dup X15.here hx rfl (hb hby d1_92) rfl rfl) ?_
  show own_Ends p e below T15 (mkF m 93 #[] [(.ref b1), (.ref b1)]) _
  refine own_go (fun _ => XS.bipush X15.here hx rfl (hb hby d1_93)) ?_
  show own_Ends p e below T15 (mkF m 95 #[] [(.int (14 : Int32)), (.ref b1), (.ref b1)]) _
  refine own_go (fun _ => XS.sipush X15.here hx rfl (hb hby d1_95)) ?_
  show own_Ends p e below T15 (mkF m 98 #[] [(.int (8204 : Int32)), (.int (14 : Int32)), (.ref b1), (.ref b1)]) _
  obtain ⟨cl_16, Ar_16, q_16, S_16, M_16, H_16, G_16⟩ := V_b1_15
  have hin16 : ¬ ((14 : Int32) < 0 ∨ cl_16.slots.size ≤ ((14 : Int32)).toNatClampNeg) := inb_of S_16 ⟨by decide, by decide⟩
  obtain ⟨T16, h16, X16, e16, W16, st16⟩ := stI X15 hx hZ e15 Ar_16 (j := (14 : Int32)) hin16 (g := (mkF m 98 #[] [(.int (8204 : Int32)), (.int (14 : Int32)), (.ref b1), (.ref b1)])) rfl rfl (hb hby d1_98)
  refine own_go st16 ?_
  have V_b1_16 : Arv Z h16 b1 k1 .int (28 : Int32) [(.int (65 : Int32)), (.int (91 : Int32)), (.int (97 : Int32)), (.int (123 : Int32)), (.int (192 : Int32)), (.int (215 : Int32)), (.int (216 : Int32)), (.int (247 : Int32)), (.int (248 : Int32)), (.int (768 : Int32)), (.int (880 : Int32)), (.int (894 : Int32)), (.int (895 : Int32)), (.int (8192 : Int32)), (.int (8204 : Int32)), (.int (0 : Int32)), (.int (0 : Int32)), (.int (0 : Int32)), (.int (0 : Int32)), (.int (0 : Int32)), (.int (0 : Int32)), (.int (0 : Int32)), (.int (0 : Int32)), (.int (0 : Int32)), (.int (0 : Int32)), (.int (0 : Int32)), (.int (0 : Int32)), (.int (0 : Int32))] (.int (0 : Int32)) := Arv.set Ar_16 q_16 S_16 M_16 H_16 G_16 rfl W16 14 rfl (Nat.le_of_ble_eq_true rfl)
  have N16 := Fr.snoc X16 N15 g_b1
  have K16 := K15.wr W16 (Or.inr sz_b1)
  have Z16 : n0 ≤ h16.size := Nat.le_trans Z0 K16.1
  show own_Ends p e below T16 (mkF m 99 #[] [(.ref b1)]) _
  refine own_go (fun _ => XS.dup X16.here hx rfl (hb hby d1_99) rfl rfl) ?_
  show own_Ends p e below T16 (mkF m 100 #[] [(.ref b1), (.ref b1)]) _
  refine own_go (fun _ => XS.bipush X16.here hx rfl (hb hby d1_100)) ?_
  show own_Ends p e below T16 (mkF m 102 #[] [(.int (15 : Int32)), (.ref b1), (.ref b1)]) _
  refine own_go (fun _ => XS.sipush X16.here hx rfl (hb hby d1_102)) ?_
  show own_Ends p e below T16 (mkF m 105 #[] [(.int (8206 : Int32)), (.int (15 : Int32)), (.ref b1), (.ref b1)]) _
  obtain ⟨cl_17, Ar_17, q_17, S_17, M_17, H_17, G_17⟩ := V_b1_16
  have hin17 : ¬ ((15 : Int32) < 0 ∨ cl_17.slots.size ≤ ((15 : Int32)).toNatClampNeg) := inb_of S_17 ⟨by decide, by decide⟩
  obtain ⟨T17, h17, X17, e17, W17, st17⟩ := stI X16 hx hZ e16 Ar_17 (j := (15 : Int32)) hin17 (g := (mkF m 105 #[] [(.int (8206 : Int32)), (.int (15 : Int32)), (.ref b1), (.ref b1)])) rfl rfl (hb hby d1_105)
  refine own_go st17 ?_
  have V_b1_17 : Arv Z h17 b1 k1 .int (28 : Int32) [(.int (65 : Int32)), (.int (91 : Int32)), (.int (97 : Int32)), (.int (123 : Int32)), (.int (192 : Int32)), (.int (215 : Int32)), (.int (216 : Int32)), (.int (247 : Int32)), (.int (248 : Int32)), (.int (768 : Int32)), (.int (880 : Int32)), (.int (894 : Int32)), (.int (895 : Int32)), (.int (8192 : Int32)), (.int (8204 : Int32)), (.int (8206 : Int32)), (.int (0 : Int32)), (.int (0 : Int32)), (.int (0 : Int32)), (.int (0 : Int32)), (.int (0 : Int32)), (.int (0 : Int32)), (.int (0 : Int32)), (.int (0 : Int32)), (.int (0 : Int32)), (.int (0 : Int32)), (.int (0 : Int32)), (.int (0 : Int32))] (.int (0 : Int32)) := Arv.set Ar_17 q_17 S_17 M_17 H_17 G_17 rfl W17 15 rfl (Nat.le_of_ble_eq_true rfl)
  have N17 := Fr.snoc X17 N16 g_b1
  have K17 := K16.wr W17 (Or.inr sz_b1)
  have Z17 : n0 ≤ h17.size := Nat.le_trans Z0 K17.1
  show own_Ends p e below T17 (mkF m 106 #[] [(.ref b1)]) _
  refine own_go (fun _ => XS.dup X17.here hx rfl (hb hby d1_106) rfl rfl) ?_
  show own_Ends p e below T17 (mkF m 107 #[] [(.ref b1), (.ref b1)]) _
  refine own_go (fun _ => XS.bipush X17.here hx rfl (hb hby d1_107)) ?_
  show own_Ends p e below T17 (mkF m 109 #[] [(.int (16 : Int32)), (.ref b1), (.ref b1)]) _
  refine own_go (fun _ => XS.sipush X17.here hx rfl (hb hby d1_109)) ?_
  show own_Ends p e below T17 (mkF m 112 #[] [(.int (8304 : Int32)), (.int (16 : Int32)), (.ref b1), (.ref b1)]) _
  obtain ⟨cl_18, Ar_18, q_18, S_18, M_18, H_18, G_18⟩ := V_b1_17
  have hin18 : ¬ ((16 : Int32) < 0 ∨ cl_18.slots.size ≤ ((16 : Int32)).toNatClampNeg) := inb_of S_18 ⟨by decide, by decide⟩
  obtain ⟨T18, h18, X18, e18, W18, st18⟩ := stI X17 hx hZ e17 Ar_18 (j := (16 : Int32)) hin18 (g := (mkF m 112 #[] [(.int (8304 : Int32)), (.int (16 : Int32)), (.ref b1), (.ref b1)])) rfl rfl (hb hby d1_112)
  refine own_go st18 ?_
  have V_b1_18 : Arv Z h18 b1 k1 .int (28 : Int32) [(.int (65 : Int32)), (.int (91 : Int32)), (.int (97 : Int32)), (.int (123 : Int32)), (.int (192 : Int32)), (.int (215 : Int32)), (.int (216 : Int32)), (.int (247 : Int32)), (.int (248 : Int32)), (.int (768 : Int32)), (.int (880 : Int32)), (.int (894 : Int32)), (.int (895 : Int32)), (.int (8192 : Int32)), (.int (8204 : Int32)), (.int (8206 : Int32)), (.int (8304 : Int32)), (.int (0 : Int32)), (.int (0 : Int32)), (.int (0 : Int32)), (.int (0 : Int32)), (.int (0 : Int32)), (.int (0 : Int32)), (.int (0 : Int32)), (.int (0 : Int32)), (.int (0 : Int32)), (.int (0 : Int32)), (.int (0 : Int32))] (.int (0 : Int32)) := Arv.set Ar_18 q_18 S_18 M_18 H_18 G_18 rfl W18 16 rfl (Nat.le_of_ble_eq_true rfl)
  have N18 := Fr.snoc X18 N17 g_b1
  have K18 := K17.wr W18 (Or.inr sz_b1)
  have Z18 : n0 ≤ h18.size := Nat.le_trans Z0 K18.1
  show own_Ends p e below T18 (mkF m 113 #[] [(.ref b1)]) _
  refine own_go (fun _ => XS.dup X18.here hx rfl (hb hby d1_113) rfl rfl) ?_
  show own_Ends p e below T18 (mkF m 114 #[] [(.ref b1), (.ref b1)]) _
  refine own_go (fun _ => XS.bipush X18.here hx rfl (hb hby d1_114)) ?_
  show own_Ends p e below T18 (mkF m 116 #[] [(.int (17 : Int32)), (.ref b1), (.ref b1)]) _
  refine own_go (fun _ => XS.sipush X18.here hx rfl (hb hby d1_116)) ?_
  show own_Ends p e below T18 (mkF m 119 #[] [(.int (8592 : Int32)), (.int (17 : Int32)), (.ref b1), (.ref b1)]) _
  obtain ⟨cl_19, Ar_19, q_19, S_19, M_19, H_19, G_19⟩ := V_b1_18
  have hin19 : ¬ ((17 : Int32) < 0 ∨ cl_19.slots.size ≤ ((17 : Int32)).toNatClampNeg) := inb_of S_19 ⟨by decide, by decide⟩
  obtain ⟨T19, h19, X19, e19, W19, st19⟩ := stI X18 hx hZ e18 Ar_19 (j := (17 : Int32)) hin19 (g := (mkF m 119 #[] [(.int (8592 : Int32)), (.int (17 : Int32)), (.ref b1), (.ref b1)])) rfl rfl (hb hby d1_119)
  refine own_go st19 ?_
  have V_b1_19 : Arv Z h19 b1 k1 .int (28 : Int32) [(.int (65 : Int32)), (.int (91 : Int32)), (.int (97 : Int32)), (.int (123 : Int32)), (.int (192 : Int32)), (.int (215 : Int32)), (.int (216 : Int32)), (.int (247 : Int32)), (.int (248 : Int32)), (.int (768 : Int32)), (.int (880 : Int32)), (.int (894 : Int32)), (.int (895 : Int32)), (.int (8192 : Int32)), (.int (8204 : Int32)), (.int (8206 : Int32)), (.int (8304 : Int32)), (.int (8592 : Int32)), (.int (0 : Int32)), (.int (0 : Int32)), (.int (0 : Int32)), (.int (0 : Int32)), (.int (0 : Int32)), (.int (0 : Int32)), (.int (0 : Int32)), (.int (0 : Int32)), (.int (0 : Int32)), (.int (0 : Int32))] (.int (0 : Int32)) := Arv.set Ar_19 q_19 S_19 M_19 H_19 G_19 rfl W19 17 rfl (Nat.le_of_ble_eq_true rfl)
  have N19 := Fr.snoc X19 N18 g_b1
  have K19 := K18.wr W19 (Or.inr sz_b1)
  have Z19 : n0 ≤ h19.size := Nat.le_trans Z0 K19.1
  show own_Ends p e below T19 (mkF m 120 #[] [(.ref b1)]) _
  refine own_go (fun _ => XS.dup X19.here hx rfl (hb hby d1_120) rfl rfl) ?_
  show own_Ends p e below T19 (mkF m 121 #[] [(.ref b1), (.ref b1)]) _
  refine own_go (fun _ => XS.bipush X19.here hx rfl (hb hby d1_121)) ?_
  show own_Ends p e below T19 (mkF m 123 #[] [(.int (18 : Int32)), (.ref b1), (.ref b1)]) _
  refine own_go (fun _ => XS.sipush X19.here hx rfl (hb hby d1_123)) ?_
  show own_Ends p e below T19 (mkF m 126 #[] [(.int (11264 : Int32)), (.int (18 : Int32)), (.ref b1), (.ref b1)]) _
  obtain ⟨cl_20, Ar_20, q_20, S_20, M_20, H_20, G_20⟩ := V_b1_19
  have hin20 : ¬ ((18 : Int32) < 0 ∨ cl_20.slots.size ≤ ((18 : Int32)).toNatClampNeg) := inb_of S_20 ⟨by decide, by decide⟩
  obtain ⟨T20, h20, X20, e20, W20, st20⟩ := stI X19 hx hZ e19 Ar_20 (j := (18 : Int32)) hin20 (g := (mkF m 126 #[] [(.int (11264 : Int32)), (.int (18 : Int32)), (.ref b1), (.ref b1)])) rfl rfl (hb hby d1_126)
  refine own_go st20 ?_
  have V_b1_20 : Arv Z h20 b1 k1 .int (28 : Int32) [(.int (65 : Int32)), (.int (91 : Int32)), (.int (97 : Int32)), (.int (123 : Int32)), (.int (192 : Int32)), (.int (215 : Int32)), (.int (216 : Int32)), (.int (247 : Int32)), (.int (248 : Int32)), (.int (768 : Int32)), (.int (880 : Int32)), (.int (894 : Int32)), (.int (895 : Int32)), (.int (8192 : Int32)), (.int (8204 : Int32)), (.int (8206 : Int32)), (.int (8304 : Int32)), (.int (8592 : Int32)), (.int (11264 : Int32)), (.int (0 : Int32)), (.int (0 : Int32)), (.int (0 : Int32)), (.int (0 : Int32)), (.int (0 : Int32)), (.int (0 : Int32)), (.int (0 : Int32)), (.int (0 : Int32)), (.int (0 : Int32))] (.int (0 : Int32)) := Arv.set Ar_20 q_20 S_20 M_20 H_20 G_20 rfl W20 18 rfl (Nat.le_of_ble_eq_true rfl)
  have N20 := Fr.snoc X20 N19 g_b1
  have K20 := K19.wr W20 (Or.inr sz_b1)
  have Z20 : n0 ≤ h20.size := Nat.le_trans Z0 K20.1
  show own_Ends p e below T20 (mkF m 127 #[] [(.ref b1)]) _
  refine own_go (fun _ => XS.dup X20.here hx rfl (hb hby d1_127) rfl rfl) ?_
  show own_Ends p e below T20 (mkF m 128 #[] [(.ref b1), (.ref b1)]) _
  refine own_go (fun _ => XS.bipush X20.here hx rfl (hb hby d1_128)) ?_
  show own_Ends p e below T20 (mkF m 130 #[] [(.int (19 : Int32)), (.ref b1), (.ref b1)]) _
  refine own_go (fun _ => XS.sipush X20.here hx rfl (hb hby d1_130)) ?_
  show own_Ends p e below T20 (mkF m 133 #[] [(.int (12272 : Int32)), (.int (19 : Int32)), (.ref b1), (.ref b1)]) _
  obtain ⟨cl_21, Ar_21, q_21, S_21, M_21, H_21, G_21⟩ := V_b1_20
  have hin21 : ¬ ((19 : Int32) < 0 ∨ cl_21.slots.size ≤ ((19 : Int32)).toNatClampNeg) := inb_of S_21 ⟨by decide, by decide⟩
  obtain ⟨T21, h21, X21, e21, W21, st21⟩ := stI X20 hx hZ e20 Ar_21 (j := (19 : Int32)) hin21 (g := (mkF m 133 #[] [(.int (12272 : Int32)), (.int (19 : Int32)), (.ref b1), (.ref b1)])) rfl rfl (hb hby d1_133)
  refine own_go st21 ?_
  have V_b1_21 : Arv Z h21 b1 k1 .int (28 : Int32) [(.int (65 : Int32)), (.int (91 : Int32)), (.int (97 : Int32)), (.int (123 : Int32)), (.int (192 : Int32)), (.int (215 : Int32)), (.int (216 : Int32)), (.int (247 : Int32)), (.int (248 : Int32)), (.int (768 : Int32)), (.int (880 : Int32)), (.int (894 : Int32)), (.int (895 : Int32)), (.int (8192 : Int32)), (.int (8204 : Int32)), (.int (8206 : Int32)), (.int (8304 : Int32)), (.int (8592 : Int32)), (.int (11264 : Int32)), (.int (12272 : Int32)), (.int (0 : Int32)), (.int (0 : Int32)), (.int (0 : Int32)), (.int (0 : Int32)), (.int (0 : Int32)), (.int (0 : Int32)), (.int (0 : Int32)), (.int (0 : Int32))] (.int (0 : Int32)) := Arv.set Ar_21 q_21 S_21 M_21 H_21 G_21 rfl W21 19 rfl (Nat.le_of_ble_eq_true rfl)
  have N21 := Fr.snoc X21 N20 g_b1
  have K21 := K20.wr W21 (Or.inr sz_b1)
  have Z21 : n0 ≤ h21.size := Nat.le_trans Z0 K21.1
  show own_Ends p e below T21 (mkF m 134 #[] [(.ref b1)]) _
  refine own_go (fun _ => XS.dup X21.here hx rfl (hb hby d1_134) rfl rfl) ?_
  show own_Ends p e below T21 (mkF m 135 #[] [(.ref b1), (.ref b1)]) _
  refine own_go (fun _ => XS.bipush X21.here hx rfl (hb hby d1_135)) ?_
  show own_Ends p e below T21 (mkF m 137 #[] [(.int (20 : Int32)), (.ref b1), (.ref b1)]) _
  refine own_go (fun _ => XS.sipush X21.here hx rfl (hb hby d1_137)) ?_
  show own_Ends p e below T21 (mkF m 140 #[] [(.int (12289 : Int32)), (.int (20 : Int32)), (.ref b1), (.ref b1)]) _
  obtain ⟨cl_22, Ar_22, q_22, S_22, M_22, H_22, G_22⟩ := V_b1_21
  have hin22 : ¬ ((20 : Int32) < 0 ∨ cl_22.slots.size ≤ ((20 : Int32)).toNatClampNeg) := inb_of S_22 ⟨by decide, by decide⟩
  obtain ⟨T22, h22, X22, e22, W22, st22⟩ := stI X21 hx hZ e21 Ar_22 (j := (20 : Int32)) hin22 (g := (mkF m 140 #[] [(.int (12289 : Int32)), (.int (20 : Int32)), (.ref b1), (.ref b1)])) rfl rfl (hb hby d1_140)
  refine own_go st22 ?_
  have V_b1_22 : Arv Z h22 b1 k1 .int (28 : Int32) [(.int (65 : Int32)), (.int (91 : Int32)), (.int (97 : Int32)), (.int (123 : Int32)), (.int (192 : Int32)), (.int (215 : Int32)), (.int (216 : Int32)), (.int (247 : Int32)), (.int (248 : Int32)), (.int (768 : Int32)), (.int (880 : Int32)), (.int (894 : Int32)), (.int (895 : Int32)), (.int (8192 : Int32)), (.int (8204 : Int32)), (.int (8206 : Int32)), (.int (8304 : Int32)), (.int (8592 : Int32)), (.int (11264 : Int32)), (.int (12272 : Int32)), (.int (12289 : Int32)), (.int (0 : Int32)), (.int (0 : Int32)), (.int (0 : Int32)), (.int (0 : Int32)), (.int (0 : Int32)), (.int (0 : Int32)), (.int (0 : Int32))] (.int (0 : Int32)) := Arv.set Ar_22 q_22 S_22 M_22 H_22 G_22 rfl W22 20 rfl (Nat.le_of_ble_eq_true rfl)
  have N22 := Fr.snoc X22 N21 g_b1
  have K22 := K21.wr W22 (Or.inr sz_b1)
  have Z22 : n0 ≤ h22.size := Nat.le_trans Z0 K22.1
  show own_Ends p e below T22 (mkF m 141 #[] [(.ref b1)]) _
  refine own_go (fun _ => XS.dup X22.here hx rfl (hb hby d1_141) rfl rfl) ?_
  show own_Ends p e below T22 (mkF m 142 #[] [(.ref b1), (.ref b1)]) _
  refine own_go (fun _ => XS.bipush X22.here hx rfl (hb hby d1_142)) ?_
  show own_Ends p e below T22 (mkF m 144 #[] [(.int (21 : Int32)), (.ref b1), (.ref b1)]) _
  refine own_go (X22.ldcInt hx hown (mvT hZ (hw _ (List.mem_of_getElem? (i := 5) rfl))) (g := (mkF m 144 #[] [(.int (21 : Int32)), (.ref b1), (.ref b1)])) rfl (hb hby d1_144)) ?_
  show own_Ends p e below T22 (mkF m 146 #[] [(.int (55296 : Int32)), (.int (21 : Int32)), (.ref b1), (.ref b1)]) _
  obtain ⟨cl_23, Ar_23, q_23, S_23, M_23, H_23, G_23⟩ := V_b1_22
  have hin23 : ¬ ((21 : Int32) < 0 ∨ cl_23.slots.size ≤ ((21 : Int32)).toNatClampNeg) := inb_of S_23 ⟨by decide, by decide⟩
  obtain ⟨T23, h23, X23, e23, W23, st23⟩ := stI X22 hx hZ e22 Ar_23 (j := (21 : Int32)) hin23 (g := (mkF m 146 #[] [(.int (55296 : Int32)), (.int (21 : Int32)), (.ref b1), (.ref b1)])) rfl rfl (hb hby d1_146)
  refine own_go st23 ?_
  have V_b1_23 : Arv Z h23 b1 k1 .int (28 : Int32) [(.int (65 : Int32)), (.int (91 : Int32)), (.int (97 : Int32)), (.int (123 : Int32)), (.int (192 : Int32)), (.int (215 : Int32)), (.int (216 : Int32)), (.int (247 : Int32)), (.int (248 : Int32)), (.int (768 : Int32)), (.int (880 : Int32)), (.int (894 : Int32)), (.int (895 : Int32)), (.int (8192 : Int32)), (.int (8204 : Int32)), (.int (8206 : Int32)), (.int (8304 : Int32)), (.int (8592 : Int32)), (.int (11264 : Int32)), (.int (12272 : Int32)), (.int (12289 : Int32)), (.int (55296 : Int32)), (.int (0 : Int32)), (.int (0 : Int32)), (.int (0 : Int32)), (.int (0 : Int32)), (.int (0 : Int32)), (.int (0 : Int32))] (.int (0 : Int32)) := Arv.set Ar_23 q_23 S_23 M_23 H_23 G_23 rfl W23 21 rfl (Nat.le_of_ble_eq_true rfl)
  have N23 := Fr.snoc X23 N22 g_b1
  have K23 := K22.wr W23 (Or.inr sz_b1)
  have Z23 : n0 ≤ h23.size := Nat.le_trans Z0 K23.1
  show own_Ends p e below T23 (mkF m 147 #[] [(.ref b1)]) _
  refine own_go (fun _ => XS.dup X23.here hx rfl (hb hby d1_147) rfl rfl) ?_
  show own_Ends p e below T23 (mkF m 148 #[] [(.ref b1), (.ref b1)]) _
  refine own_go (fun _ => XS.bipush X23.here hx rfl (hb hby d1_148)) ?_
  show own_Ends p e below T23 (mkF m 150 #[] [(.int (22 : Int32)), (.ref b1), (.ref b1)]) _
  refine own_go (X23.ldcInt hx hown (mvT hZ (hw _ (List.mem_of_getElem? (i := 6) rfl))) (g := (mkF m 150 #[] [(.int (22 : Int32)), (.ref b1), (.ref b1)])) rfl (hb hby d1_150)) ?_
  show own_Ends p e below T23 (mkF m 152 #[] [(.int (63744 : Int32)), (.int (22 : Int32)), (.ref b1), (.ref b1)]) _
  obtain ⟨cl_24, Ar_24, q_24, S_24, M_24, H_24, G_24⟩ := V_b1_23
  have hin24 : ¬ ((22 : Int32) < 0 ∨ cl_24.slots.size ≤ ((22 : Int32)).toNatClampNeg) := inb_of S_24 ⟨by decide, by decide⟩
  obtain ⟨T24, h24, X24, e24, W24, st24⟩ := stI X23 hx hZ e23 Ar_24 (j := (22 : Int32)) hin24 (g := (mkF m 152 #[] [(.int (63744 : Int32)), (.int (22 : Int32)), (.ref b1), (.ref b1)])) rfl rfl (hb hby d1_152)
  refine own_go st24 ?_
  have V_b1_24 : Arv Z h24 b1 k1 .int (28 : Int32) [(.int (65 : Int32)), (.int (91 : Int32)), (.int (97 : Int32)), (.int (123 : Int32)), (.int (192 : Int32)), (.int (215 : Int32)), (.int (216 : Int32)), (.int (247 : Int32)), (.int (248 : Int32)), (.int (768 : Int32)), (.int (880 : Int32)), (.int (894 : Int32)), (.int (895 : Int32)), (.int (8192 : Int32)), (.int (8204 : Int32)), (.int (8206 : Int32)), (.int (8304 : Int32)), (.int (8592 : Int32)), (.int (11264 : Int32)), (.int (12272 : Int32)), (.int (12289 : Int32)), (.int (55296 : Int32)), (.int (63744 : Int32)), (.int (0 : Int32)), (.int (0 : Int32)), (.int (0 : Int32)), (.int (0 : Int32)), (.int (0 : Int32))] (.int (0 : Int32)) := Arv.set Ar_24 q_24 S_24 M_24 H_24 G_24 rfl W24 22 rfl (Nat.le_of_ble_eq_true rfl)
  have N24 := Fr.snoc X24 N23 g_b1
  have K24 := K23.wr W24 (Or.inr sz_b1)
  have Z24 : n0 ≤ h24.size := Nat.le_trans Z0 K24.1
  show own_Ends p e below T24 (mkF m 153 #[] [(.ref b1)]) _
  refine own_go (fun _ => XS.dup X24.here hx rfl (hb hby d1_153) rfl rfl) ?_
  show own_Ends p e below T24 (mkF m 154 #[] [(.ref b1), (.ref b1)]) _
  refine own_go (fun _ => XS.bipush X24.here hx rfl (hb hby d1_154)) ?_
  show own_Ends p e below T24 (mkF m 156 #[] [(.int (23 : Int32)), (.ref b1), (.ref b1)]) _
  refine own_go (X24.ldcInt hx hown (mvT hZ (hw _ (List.mem_of_getElem? (i := 7) rfl))) (g := (mkF m 156 #[] [(.int (23 : Int32)), (.ref b1), (.ref b1)])) rfl (hb hby d1_156)) ?_
  show own_Ends p e below T24 (mkF m 158 #[] [(.int (64976 : Int32)), (.int (23 : Int32)), (.ref b1), (.ref b1)]) _
  obtain ⟨cl_25, Ar_25, q_25, S_25, M_25, H_25, G_25⟩ := V_b1_24
  have hin25 : ¬ ((23 : Int32) < 0 ∨ cl_25.slots.size ≤ ((23 : Int32)).toNatClampNeg) := inb_of S_25 ⟨by decide, by decide⟩
  obtain ⟨T25, h25, X25, e25, W25, st25⟩ := stI X24 hx hZ e24 Ar_25 (j := (23 : Int32)) hin25 (g := (mkF m 158 #[] [(.int (64976 : Int32)), (.int (23 : Int32)), (.ref b1), (.ref b1)])) rfl rfl (hb hby d1_158)
  refine own_go st25 ?_
  have V_b1_25 : Arv Z h25 b1 k1 .int (28 : Int32) [(.int (65 : Int32)), (.int (91 : Int32)), (.int (97 : Int32)), (.int (123 : Int32)), (.int (192 : Int32)), (.int (215 : Int32)), (.int (216 : Int32)), (.int (247 : Int32)), (.int (248 : Int32)), (.int (768 : Int32)), (.int (880 : Int32)), (.int (894 : Int32)), (.int (895 : Int32)), (.int (8192 : Int32)), (.int (8204 : Int32)), (.int (8206 : Int32)), (.int (8304 : Int32)), (.int (8592 : Int32)), (.int (11264 : Int32)), (.int (12272 : Int32)), (.int (12289 : Int32)), (.int (55296 : Int32)), (.int (63744 : Int32)), (.int (64976 : Int32)), (.int (0 : Int32)), (.int (0 : Int32)), (.int (0 : Int32)), (.int (0 : Int32))] (.int (0 : Int32)) := Arv.set Ar_25 q_25 S_25 M_25 H_25 G_25 rfl W25 23 rfl (Nat.le_of_ble_eq_true rfl)
  have N25 := Fr.snoc X25 N24 g_b1
  have K25 := K24.wr W25 (Or.inr sz_b1)
  have Z25 : n0 ≤ h25.size := Nat.le_trans Z0 K25.1
  show own_Ends p e below T25 (mkF m 159 #[] [(.ref b1)]) _
  refine own_go (fun _ => XS.dup X25.here hx rfl (hb hby d1_159) rfl rfl) ?_
  show own_Ends p e below T25 (mkF m 160 #[] [(.ref b1), (.ref b1)]) _
  refine own_go (fun _ => XS.bipush X25.here hx rfl (hb hby d1_160)) ?_
  show own_Ends p e below T25 (mkF m 162 #[] [(.int (24 : Int32)), (.ref b1), (.ref b1)]) _
  refine own_go (X25.ldcInt hx hown (mvT hZ (hw _ (List.mem_of_getElem? (i := 8) rfl))) (g := (mkF m 162 #[] [(.int (24 : Int32)), (.ref b1), (.ref b1)])) rfl (hb hby d1_162)) ?_
  show own_Ends p e below T25 (mkF m 164 #[] [(.int (65008 : Int32)), (.int (24 : Int32)), (.ref b1), (.ref b1)]) _
  obtain ⟨cl_26, Ar_26, q_26, S_26, M_26, H_26, G_26⟩ := V_b1_25
  have hin26 : ¬ ((24 : Int32) < 0 ∨ cl_26.slots.size ≤ ((24 : Int32)).toNatClampNeg) := inb_of S_26 ⟨by decide, by decide⟩
  obtain ⟨T26, h26, X26, e26, W26, st26⟩ := stI X25 hx hZ e25 Ar_26 (j := (24 : Int32)) hin26 (g := (mkF m 164 #[] [(.int (65008 : Int32)), (.int (24 : Int32)), (.ref b1), (.ref b1)])) rfl rfl (hb hby d1_164)
  refine own_go st26 ?_
  have V_b1_26 : Arv Z h26 b1 k1 .int (28 : Int32) [(.int (65 : Int32)), (.int (91 : Int32)), (.int (97 : Int32)), (.int (123 : Int32)), (.int (192 : Int32)), (.int (215 : Int32)), (.int (216 : Int32)), (.int (247 : Int32)), (.int (248 : Int32)), (.int (768 : Int32)), (.int (880 : Int32)), (.int (894 : Int32)), (.int (895 : Int32)), (.int (8192 : Int32)), (.int (8204 : Int32)), (.int (8206 : Int32)), (.int (8304 : Int32)), (.int (8592 : Int32)), (.int (11264 : Int32)), (.int (12272 : Int32)), (.int (12289 : Int32)), (.int (55296 : Int32)), (.int (63744 : Int32)), (.int (64976 : Int32)), (.int (65008 : Int32)), (.int (0 : Int32)), (.int (0 : Int32)), (.int (0 : Int32))] (.int (0 : Int32)) := Arv.set Ar_26 q_26 S_26 M_26 H_26 G_26 rfl W26 24 rfl (Nat.le_of_ble_eq_true rfl)
  have N26 := Fr.snoc X26 N25 g_b1
  have K26 := K25.wr W26 (Or.inr sz_b1)
  have Z26 : n0 ≤ h26.size := Nat.le_trans Z0 K26.1
  show own_Ends p e below T26 (mkF m 165 #[] [(.ref b1)]) _
  refine own_go (fun _ => XS.dup X26.here hx rfl (hb hby d1_165) rfl rfl) ?_
  show own_Ends p e below T26 (mkF m 166 #[] [(.ref b1), (.ref b1)]) _
  refine own_go (fun _ => XS.bipush X26.here hx rfl (hb hby d1_166)) ?_
  show own_Ends p e below T26 (mkF m 168 #[] [(.int (25 : Int32)), (.ref b1), (.ref b1)]) _
  refine own_go (X26.ldcInt hx hown (mvT hZ (hw _ (List.mem_of_getElem? (i := 9) rfl))) (g := (mkF m 168 #[] [(.int (25 : Int32)), (.ref b1), (.ref b1)])) rfl (hb hby d1_168)) ?_
  show own_Ends p e below T26 (mkF m 170 #[] [(.int (65534 : Int32)), (.int (25 : Int32)), (.ref b1), (.ref b1)]) _
  obtain ⟨cl_27, Ar_27, q_27, S_27, M_27, H_27, G_27⟩ := V_b1_26
  have hin27 : ¬ ((25 : Int32) < 0 ∨ cl_27.slots.size ≤ ((25 : Int32)).toNatClampNeg) := inb_of S_27 ⟨by decide, by decide⟩
  obtain ⟨T27, h27, X27, e27, W27, st27⟩ := stI X26 hx hZ e26 Ar_27 (j := (25 : Int32)) hin27 (g := (mkF m 170 #[] [(.int (65534 : Int32)), (.int (25 : Int32)), (.ref b1), (.ref b1)])) rfl rfl (hb hby d1_170)
  refine own_go st27 ?_
  have V_b1_27 : Arv Z h27 b1 k1 .int (28 : Int32) [(.int (65 : Int32)), (.int (91 : Int32)), (.int (97 : Int32)), (.int (123 : Int32)), (.int (192 : Int32)), (.int (215 : Int32)), (.int (216 : Int32)), (.int (247 : Int32)), (.int (248 : Int32)), (.int (768 : Int32)), (.int (880 : Int32)), (.int (894 : Int32)), (.int (895 : Int32)), (.int (8192 : Int32)), (.int (8204 : Int32)), (.int (8206 : Int32)), (.int (8304 : Int32)), (.int (8592 : Int32)), (.int (11264 : Int32)), (.int (12272 : Int32)), (.int (12289 : Int32)), (.int (55296 : Int32)), (.int (63744 : Int32)), (.int (64976 : Int32)), (.int (65008 : Int32)), (.int (65534 : Int32)), (.int (0 : Int32)), (.int (0 : Int32))] (.int (0 : Int32)) := Arv.set Ar_27 q_27 S_27 M_27 H_27 G_27 rfl W27 25 rfl (Nat.le_of_ble_eq_true rfl)
  have N27 := Fr.snoc X27 N26 g_b1
  have K27 := K26.wr W27 (Or.inr sz_b1)
  have Z27 : n0 ≤ h27.size := Nat.le_trans Z0 K27.1
  show own_Ends p e below T27 (mkF m 171 #[] [(.ref b1)]) _
  refine own_go (fun _ => XS.dup X27.here hx rfl (hb hby d1_171) rfl rfl) ?_
  show own_Ends p e below T27 (mkF m 172 #[] [(.ref b1), (.ref b1)]) _
  refine own_go (fun _ => XS.bipush X27.here hx rfl (hb hby d1_172)) ?_
  show own_Ends p e below T27 (mkF m 174 #[] [(.int (26 : Int32)), (.ref b1), (.ref b1)]) _
  refine own_go (X27.ldcInt hx hown (mvT hZ (hw _ (List.mem_of_getElem? (i := 10) rfl))) (g := (mkF m 174 #[] [(.int (26 : Int32)), (.ref b1), (.ref b1)])) rfl (hb hby d1_174)) ?_
  show own_Ends p e below T27 (mkF m 176 #[] [(.int (65536 : Int32)), (.int (26 : Int32)), (.ref b1), (.ref b1)]) _
  obtain ⟨cl_28, Ar_28, q_28, S_28, M_28, H_28, G_28⟩ := V_b1_27
  have hin28 : ¬ ((26 : Int32) < 0 ∨ cl_28.slots.size ≤ ((26 : Int32)).toNatClampNeg) := inb_of S_28 ⟨by decide, by decide⟩
  obtain ⟨T28, h28, X28, e28, W28, st28⟩ := stI X27 hx hZ e27 Ar_28 (j := (26 : Int32)) hin28 (g := (mkF m 176 #[] [(.int (65536 : Int32)), (.int (26 : Int32)), (.ref b1), (.ref b1)])) rfl rfl (hb hby d1_176)
  refine own_go st28 ?_
  have V_b1_28 : Arv Z h28 b1 k1 .int (28 : Int32) [(.int (65 : Int32)), (.int (91 : Int32)), (.int (97 : Int32)), (.int (123 : Int32)), (.int (192 : Int32)), (.int (215 : Int32)), (.int (216 : Int32)), (.int (247 : Int32)), (.int (248 : Int32)), (.int (768 : Int32)), (.int (880 : Int32)), (.int (894 : Int32)), (.int (895 : Int32)), (.int (8192 : Int32)), (.int (8204 : Int32)), (.int (8206 : Int32)), (.int (8304 : Int32)), (.int (8592 : Int32)), (.int (11264 : Int32)), (.int (12272 : Int32)), (.int (12289 : Int32)), (.int (55296 : Int32)), (.int (63744 : Int32)), (.int (64976 : Int32)), (.int (65008 : Int32)), (.int (65534 : Int32)), (.int (65536 : Int32)), (.int (0 : Int32))] (.int (0 : Int32)) := Arv.set Ar_28 q_28 S_28 M_28 H_28 G_28 rfl W28 26 rfl (Nat.le_of_ble_eq_true rfl)
  have N28 := Fr.snoc X28 N27 g_b1
  have K28 := K27.wr W28 (Or.inr sz_b1)
  have Z28 : n0 ≤ h28.size := Nat.le_trans Z0 K28.1
  show own_Ends p e below T28 (mkF m 177 #[] [(.ref b1)]) _
  refine own_go (fun _ => XS.dup X28.here hx rfl (hb hby d1_177) rfl rfl) ?_
  show own_Ends p e below T28 (mkF m 178 #[] [(.ref b1), (.ref b1)]) _
  refine own_go (fun _ => XS.bipush X28.here hx rfl (hb hby d1_178)) ?_
  show own_Ends p e below T28 (mkF m 180 #[] [(.int (27 : Int32)), (.ref b1), (.ref b1)]) _
  refine own_go (X28.ldcInt hx hown (mvT hZ (hw _ (List.mem_of_getElem? (i := 11) rfl))) (g := (mkF m 180 #[] [(.int (27 : Int32)), (.ref b1), (.ref b1)])) rfl (hb hby d1_180)) ?_
  show own_Ends p e below T28 (mkF m 182 #[] [(.int (983040 : Int32)), (.int (27 : Int32)), (.ref b1), (.ref b1)]) _
  obtain ⟨cl_29, Ar_29, q_29, S_29, M_29, H_29, G_29⟩ := V_b1_28
  have hin29 : ¬ ((27 : Int32) < 0 ∨ cl_29.slots.size ≤ ((27 : Int32)).toNatClampNeg) := inb_of S_29 ⟨by decide, by decide⟩
  obtain ⟨T29, h29, X29, e29, W29, st29⟩ := stI X28 hx hZ e28 Ar_29 (j := (27 : Int32)) hin29 (g := (mkF m 182 #[] [(.int (983040 : Int32)), (.int (27 : Int32)), (.ref b1), (.ref b1)])) rfl rfl (hb hby d1_182)
  refine own_go st29 ?_
  have V_b1_29 : Arv Z h29 b1 k1 .int (28 : Int32) [(.int (65 : Int32)), (.int (91 : Int32)), (.int (97 : Int32)), (.int (123 : Int32)), (.int (192 : Int32)), (.int (215 : Int32)), (.int (216 : Int32)), (.int (247 : Int32)), (.int (248 : Int32)), (.int (768 : Int32)), (.int (880 : Int32)), (.int (894 : Int32)), (.int (895 : Int32)), (.int (8192 : Int32)), (.int (8204 : Int32)), (.int (8206 : Int32)), (.int (8304 : Int32)), (.int (8592 : Int32)), (.int (11264 : Int32)), (.int (12272 : Int32)), (.int (12289 : Int32)), (.int (55296 : Int32)), (.int (63744 : Int32)), (.int (64976 : Int32)), (.int (65008 : Int32)), (.int (65534 : Int32)), (.int (65536 : Int32)), (.int (983040 : Int32))] (.int (0 : Int32)) := Arv.set Ar_29 q_29 S_29 M_29 H_29 G_29 rfl W29 27 rfl (Nat.le_of_ble_eq_true rfl)
  have N29 := Fr.snoc X29 N28 g_b1
  have K29 := K28.wr W29 (Or.inr sz_b1)
  have Z29 : n0 ≤ h29.size := Nat.le_trans Z0 K29.1
  show own_Ends p e below T29 (mkF m 183 #[] [(.ref b1)]) _
  obtain ⟨fs, hr, hrun, hended, hW, hsame⟩ := X29.leave (v := some (.ref b1)) (fun h => by rw [Bd.returns] at h; cases h)
  refine ⟨_, _, retOut X29 hx Bd.returns rfl (Or.inr (Or.inr (Or.inr (Or.inr ⟨rfl, rfl, rfl⟩)))) (hb hby d1_183) hr, hrun, hended, _, _, rfl, ?_, ⟨_, rfl⟩, hW, hsame.mono (by decide) (by decide)⟩
  show Q_rmBounds Z  h0 n0 _ T29.heap _
  rw [e29]
  exact ⟨_, _, rfl, N29, K29, g_b1, sz_b1, V_b1_29⟩
theorem d2_0 : decode prog_19_method_6_code 0 = .ok (.iload_n 0, 1) := by decide +kernel
theorem d2_1 : decode prog_19_method_6_code 1 = .ok (.bipush 65, 2) := by decide +kernel
theorem d2_3 : decode prog_19_method_6_code 3 = .ok (.if_icmp .lt 9, 3) := by decide +kernel
theorem d2_6 : decode prog_19_method_6_code 6 = .ok (.iload_n 0, 1) := by decide +kernel
theorem d2_7 : decode prog_19_method_6_code 7 = .ok (.bipush 90, 2) := by decide +kernel
theorem d2_9 : decode prog_19_method_6_code 9 = .ok (.if_icmp .le 176, 3) := by decide +kernel
theorem d2_12 : decode prog_19_method_6_code 12 = .ok (.iload_n 0, 1) := by decide +kernel
theorem d2_13 : decode prog_19_method_6_code 13 = .ok (.bipush 97, 2) := by decide +kernel
theorem d2_15 : decode prog_19_method_6_code 15 = .ok (.if_icmp .lt 9, 3) := by decide +kernel
theorem d2_18 : decode prog_19_method_6_code 18 = .ok (.iload_n 0, 1) := by decide +kernel
theorem d2_19 : decode prog_19_method_6_code 19 = .ok (.bipush 122, 2) := by decide +kernel
theorem d2_21 : decode prog_19_method_6_code 21 = .ok (.if_icmp .le 164, 3) := by decide +kernel
theorem d2_24 : decode prog_19_method_6_code 24 = .ok (.iload_n 0, 1) := by decide +kernel
theorem d2_25 : decode prog_19_method_6_code 25 = .ok (.sipush 192, 3) := by decide +kernel
theorem d2_28 : decode prog_19_method_6_code 28 = .ok (.if_icmp .lt 10, 3) := by decide +kernel
theorem d2_31 : decode prog_19_method_6_code 31 = .ok (.iload_n 0, 1) := by decide +kernel
theorem d2_32 : decode prog_19_method_6_code 32 = .ok (.sipush 214, 3) := by decide +kernel
theorem d2_35 : decode prog_19_method_6_code 35 = .ok (.if_icmp .le 150, 3) := by decide +kernel
theorem d2_38 : decode prog_19_method_6_code 38 = .ok (.iload_n 0, 1) := by decide +kernel
theorem d2_39 : decode prog_19_method_6_code 39 = .ok (.sipush 216, 3) := by decide +kernel
theorem d2_42 : decode prog_19_method_6_code 42 = .ok (.if_icmp .lt 10, 3) := by decide +kernel
theorem d2_45 : decode prog_19_method_6_code 45 = .ok (.iload_n 0, 1) := by decide +kernel
theorem d2_46 : decode prog_19_method_6_code 46 = .ok (.sipush 246, 3) := by decide +kernel
theorem d2_49 : decode prog_19_method_6_code 49 = .ok (.if_icmp .le 136, 3) := by decide +kernel
theorem d2_52 : decode prog_19_method_6_code 52 = .ok (.iload_n 0, 1) := by decide +kernel
theorem d2_53 : decode prog_19_method_6_code 53 = .ok (.sipush 248, 3) := by decide +kernel
theorem d2_56 : decode prog_19_method_6_code 56 = .ok (.if_icmp .lt 10, 3) := by decide +kernel
theorem d2_59 : decode prog_19_method_6_code 59 = .ok (.iload_n 0, 1) := by decide +kernel
theorem d2_60 : decode prog_19_method_6_code 60 = .ok (.sipush 767, 3) := by decide +kernel
theorem d2_63 : decode prog_19_method_6_code 63 = .ok (.if_icmp .le 122, 3) := by decide +kernel
theorem d2_66 : decode prog_19_method_6_code 66 = .ok (.iload_n 0, 1) := by decide +kernel
theorem d2_67 : decode prog_19_method_6_code 67 = .ok (.sipush 880, 3) := by decide +kernel
theorem d2_70 : decode prog_19_method_6_code 70 = .ok (.if_icmp .lt 10, 3) := by decide +kernel
theorem d2_73 : decode prog_19_method_6_code 73 = .ok (.iload_n 0, 1) := by decide +kernel
theorem d2_74 : decode prog_19_method_6_code 74 = .ok (.sipush 893, 3) := by decide +kernel
theorem d2_77 : decode prog_19_method_6_code 77 = .ok (.if_icmp .le 108, 3) := by decide +kernel
theorem d2_80 : decode prog_19_method_6_code 80 = .ok (.iload_n 0, 1) := by decide +kernel
theorem d2_81 : decode prog_19_method_6_code 81 = .ok (.sipush 895, 3) := by decide +kernel
theorem d2_84 : decode prog_19_method_6_code 84 = .ok (.if_icmp .lt 10, 3) := by decide +kernel
theorem d2_87 : decode prog_19_method_6_code 87 = .ok (.iload_n 0, 1) := by decide +kernel
theorem d2_88 : decode prog_19_method_6_code 88 = .ok (.sipush 8191, 3) := by decide +kernel
theorem d2_91 : decode prog_19_method_6_code 91 = .ok (.if_icmp .le 94, 3) := by decide +kernel
theorem d2_94 : decode prog_19_method_6_code 94 = .ok (.iload_n 0, 1) := by decide +kernel
theorem d2_95 : decode prog_19_method_6_code 95 = .ok (.sipush 8204, 3) := by decide +kernel
theorem d2_98 : decode prog_19_method_6_code 98 = .ok (.if_icmp .lt 10, 3) := by decide +kernel
theorem d2_101 : decode prog_19_method_6_code 101 = .ok (.iload_n 0, 1) := by decide +kernel
theorem d2_102 : decode prog_19_method_6_code 102 = .ok (.sipush 8205, 3) := by decide +kernel
theorem d2_105 : decode prog_19_method_6_code 105 = .ok (.if_icmp .le 80, 3) := by decide +kernel
theorem d2_108 : decode prog_19_method_6_code 108 = .ok (.iload_n 0, 1) := by decide +kernel
theorem d2_109 : decode prog_19_method_6_code 109 = .ok (.sipush 8304, 3) := by decide +kernel
theorem d2_112 : decode prog_19_method_6_code 112 = .ok (.if_icmp .lt 10, 3) := by decide +kernel
theorem d2_115 : decode prog_19_method_6_code 115 = .ok (.iload_n 0, 1) := by decide +kernel
theorem d2_116 : decode prog_19_method_6_code 116 = .ok (.sipush 8591, 3) := by decide +kernel
theorem d2_119 : decode prog_19_method_6_code 119 = .ok (.if_icmp .le 66, 3) := by decide +kernel
theorem d2_122 : decode prog_19_method_6_code 122 = .ok (.iload_n 0, 1) := by decide +kernel
theorem d2_123 : decode prog_19_method_6_code 123 = .ok (.sipush 11264, 3) := by decide +kernel
theorem d2_126 : decode prog_19_method_6_code 126 = .ok (.if_icmp .lt 10, 3) := by decide +kernel
theorem d2_129 : decode prog_19_method_6_code 129 = .ok (.iload_n 0, 1) := by decide +kernel
theorem d2_130 : decode prog_19_method_6_code 130 = .ok (.sipush 12271, 3) := by decide +kernel
theorem d2_133 : decode prog_19_method_6_code 133 = .ok (.if_icmp .le 52, 3) := by decide +kernel
theorem d2_136 : decode prog_19_method_6_code 136 = .ok (.iload_n 0, 1) := by decide +kernel
theorem d2_137 : decode prog_19_method_6_code 137 = .ok (.sipush 12289, 3) := by decide +kernel
theorem d2_140 : decode prog_19_method_6_code 140 = .ok (.if_icmp .lt 9, 3) := by decide +kernel
theorem d2_143 : decode prog_19_method_6_code 143 = .ok (.iload_n 0, 1) := by decide +kernel
theorem d2_144 : decode prog_19_method_6_code 144 = .ok (.ldc 29, 2) := by decide +kernel
theorem d2_146 : decode prog_19_method_6_code 146 = .ok (.if_icmp .le 39, 3) := by decide +kernel
theorem d2_149 : decode prog_19_method_6_code 149 = .ok (.iload_n 0, 1) := by decide +kernel
theorem d2_150 : decode prog_19_method_6_code 150 = .ok (.ldc 30, 2) := by decide +kernel
theorem d2_152 : decode prog_19_method_6_code 152 = .ok (.if_icmp .lt 9, 3) := by decide +kernel
theorem d2_155 : decode prog_19_method_6_code 155 = .ok (.iload_n 0, 1) := by decide +kernel
theorem d2_156 : decode prog_19_method_6_code 156 = .ok (.ldc 31, 2) := by decide +kernel
theorem d2_158 : decode prog_19_method_6_code 158 = .ok (.if_icmp .le 27, 3) := by decide +kernel
theorem d2_161 : decode prog_19_method_6_code 161 = .ok (.iload_n 0, 1) := by decide +kernel
theorem d2_162 : decode prog_19_method_6_code 162 = .ok (.ldc 32, 2) := by decide +kernel
theorem d2_164 : decode prog_19_method_6_code 164 = .ok (.if_icmp .lt 9, 3) := by decide +kernel
theorem d2_167 : decode prog_19_method_6_code 167 = .ok (.iload_n 0, 1) := by decide +kernel
theorem d2_168 : decode prog_19_method_6_code 168 = .ok (.ldc 33, 2) := by decide +kernel
theorem d2_170 : decode prog_19_method_6_code 170 = .ok (.if_icmp .le 15, 3) := by decide +kernel
theorem d2_173 : decode prog_19_method_6_code 173 = .ok (.iload_n 0, 1) := by decide +kernel
theorem d2_174 : decode prog_19_method_6_code 174 = .ok (.ldc 34, 2) := by decide +kernel
theorem d2_176 : decode prog_19_method_6_code 176 = .ok (.if_icmp .lt 13, 3) := by decide +kernel
theorem d2_179 : decode prog_19_method_6_code 179 = .ok (.iload_n 0, 1) := by decide +kernel
theorem d2_180 : decode prog_19_method_6_code 180 = .ok (.ldc 35, 2) := by decide +kernel
theorem d2_182 : decode prog_19_method_6_code 182 = .ok (.if_icmp .gt 7, 3) := by decide +kernel
theorem d2_185 : decode prog_19_method_6_code 185 = .ok (.iconst 1, 1) := by decide +kernel
theorem d2_186 : decode prog_19_method_6_code 186 = .ok (.goto 4, 3) := by decide +kernel
theorem d2_189 : decode prog_19_method_6_code 189 = .ok (.iconst 0, 1) := by decide +kernel
theorem d2_190 : decode prog_19_method_6_code 190 = .ok (.ireturn, 1) := by decide +kernel
theorem pn_2 : plainName "com/example/graphtide/graphtide/rdf/CharClasses" = true := by first | (simp [plainName, overriddenIn]; done) | decide +kernel
theorem ef_2 (m : MethodId) (c_ : Int32) : entryFrame m #[(.int c_)] 1 = mkF m 0 #[.val (.int c_)] [] := by first | (simp [entryFrame, mkF, argsToLocals, Value.category]; done) | rfl
def Q_rmBase (Z : State) (c_ : Int32) (h0 : Heap) (n0 : Nat) (v : Option Value) (h : Heap) (L : List Loc) : Prop := ∃ z_ : Int32, v = some (.int z_) ∧ z_ = own_base c_ ∧ Fr n0 L ∧ h = h0
set_option maxRecDepth 65536 in
set_option maxHeartbeats 40000000 in
theorem rmBase (l : Launch) (Z : State) (a0 : Array Value) (hw : ∀ d ∈ tables_1, d.before a0 Z = true) (ws : List Jvm.Cond) (c_ : Int32) (h0 : Heap) (n0 : Nat) (Z0 : n0 ≤ h0.size) :
    MetFree l (⟨"com/example/graphtide/graphtide/rdf/CharClasses", "isPnCharsBase", "(I)Z"⟩ : MethodName) (head1 (Jvm.Cond.code (⟨"com/example/graphtide/graphtide/rdf/CharClasses", "isPnCharsBase", "(I)Z"⟩ : MethodName) prog_19_method_6_code 1 (some .boolean) :: ws) ({ frames := 0, cells := 0, slots := 0, locals := 0 } : Room)) (fun aa U => aa = #[(.int c_)] ∧ Z.Warmed39 U.vm ∧ U.heap = h0) (fun _ _ _ _ _ => True) (fun _ U ou U' => ∃ v L, ou = .returned v ∧ Q_rmBase Z c_ h0 n0 v U'.heap L ∧ FrameEnd U ou U' L ({ frames := 0, cells := 0, slots := 0, locals := 0 } : Room).cells ({ frames := 0, cells := 0, slots := 0, locals := 0 } : Room).slots) := by
  refine MetFree.of_bodySF (plainFor_of_name pn_2) hisR ?_
  intro p e s m args below meth c s₁ Bd hml0 hP hK
  obtain ⟨rfl, hZ, hh⟩ := hP
  have hx := Bd.exec
  have hby := Bd.bytes
  have hml : c.maxLocals = 1 := hml0
  have hown : s.vm.findClass "com/example/graphtide/graphtide/rdf/CharClasses" = some m.cls := findClass_of_methodNamed Bd.named
  have hnm := (name_of_methodNamed Bd.named Bd.method).1
  have X0 : Stand p l e ({ frames := 0, cells := 0, slots := 0, locals := 0 } : Room) s m #[(.int c_)] below meth c s₁ [] 0 0 := Stand.of_body Bd
  have e0 : s₁.heap = h0 := by rw [← hh, Bd.state]; rfl
  have N0 := Fr.nil n0
  have K0 := Keep.refl h0 []
  refine own_as (ef_2 m c_) ?_
  show own_Ends p e below s₁ (mkF m 0 #[.val (.int c_)] []) _
  have J13 : (c_ < (65 : Int32) ∨ (90 : Int32) < c_) → (c_ < (97 : Int32) ∨ (122 : Int32) < c_) → (c_ < (192 : Int32) ∨ (214 : Int32) < c_) → (c_ < (216 : Int32) ∨ (246 : Int32) < c_) → (c_ < (248 : Int32) ∨ (767 : Int32) < c_) → (c_ < (880 : Int32) ∨ (893 : Int32) < c_) → (c_ < (895 : Int32) ∨ (8191 : Int32) < c_) → (c_ < (8204 : Int32) ∨ (8205 : Int32) < c_) → (c_ < (8304 : Int32) ∨ (8591 : Int32) < c_) → (c_ < (11264 : Int32) ∨ (12271 : Int32) < c_) → (c_ < (12289 : Int32) ∨ (55295 : Int32) < c_) → (c_ < (63744 : Int32) ∨ (64975 : Int32) < c_) → (c_ < (65008 : Int32) ∨ (65533 : Int32) < c_) → own_Ends p e below s₁ (mkF m 173 #[.val (.int c_)] []) (fun ou U' => ∃ v L, ou = .returned v ∧ Q_rmBase Z c_ h0 n0 v U'.heap L ∧ FrameEnd s ou U' L ({ frames := 0, cells := 0, slots := 0, locals := 0 } : Room).cells ({ frames := 0, cells := 0, slots := 0, locals := 0 } : Room).slots) := by
    intro mi0 mi1 mi2 mi3 mi4 mi5 mi6 mi7 mi8 mi9 mi10 mi11 mi12
    show own_Ends p e below s₁ (mkF m 173 #[.val (.int c_)] []) _
    refine own_go (fun _ => XS.iloadN X0.here hx rfl (hb hby d2_173) rfl) ?_
    show own_Ends p e below s₁ (mkF m 174 #[.val (.int c_)] [(.int c_)]) _
    refine own_go (X0.ldcInt hx hown (mvT hZ (hw _ (List.mem_of_getElem? (i := 19) rfl))) (g := (mkF m 174 #[.val (.int c_)] [(.int c_)])) rfl (hb hby d2_174)) ?_
    show own_Ends p e below s₁ (mkF m 176 #[.val (.int c_)] [(.int (65536 : Int32)), (.int c_)]) _
    by_cases hc176 : c_ < (65536 : Int32)
    · refine own_go (fun _ => XS.icmpYes X0.here hx rfl (pc0 := 176) (pc' := 189) rfl (hb hby d2_176) rfl (tlt hc176).1 (by decide) (by decide)) ?_
      show own_Ends p e below s₁ (mkF m 189 #[.val (.int c_)] []) _
      refine own_go (fun _ => XS.iconst X0.here hx rfl (hb hby d2_189)) ?_
      show own_Ends p e below s₁ (mkF m 190 #[.val (.int c_)] [(.int (0 : Int32))]) _
      obtain ⟨fs, hr, hrun, hended, hW, hsame⟩ := X0.leave (v := some (.int (0 : Int32))) (fun h => by rw [Bd.returns] at h; cases h)
      refine ⟨_, _, retN X0 hx (t := .boolean) Bd.returns (by simp) (hb hby d2_190) hr, hrun, hended, _, _, rfl, ?_, ⟨_, rfl⟩, hW, hsame.mono (by decide) (by decide)⟩
      show Q_rmBase Z c_ h0 n0 _ s₁.heap _
      rw [e0]
      exact ⟨_, rfl, by exact (show (0 : Int32) = own_base c_ from (if_pos ⟨mi0, mi1, mi2, mi3, mi4, mi5, mi6, mi7, mi8, mi9, mi10, mi11, mi12, (Or.inl hc176)⟩).symm), N0, rfl⟩
    · refine own_go (fun _ => XS.icmpNo X0.here hx rfl (hb hby d2_176) rfl (flt hc176).1) ?_
      show own_Ends p e below s₁ (mkF m 179 #[.val (.int c_)] []) _
      refine own_go (fun _ => XS.iloadN X0.here hx rfl (hb hby d2_179) rfl) ?_
      show own_Ends p e below s₁ (mkF m 180 #[.val (.int c_)] [(.int c_)]) _
      refine own_go (X0.ldcInt hx hown (mvT hZ (hw _ (List.mem_of_getElem? (i := 29) rfl))) (g := (mkF m 180 #[.val (.int c_)] [(.int c_)])) rfl (hb hby d2_180)) ?_
      show own_Ends p e below s₁ (mkF m 182 #[.val (.int c_)] [(.int (983039 : Int32)), (.int c_)]) _
      by_cases hc182 : (983039 : Int32) < c_
      · refine own_go (fun _ => XS.icmpYes X0.here hx rfl (pc0 := 182) (pc' := 189) rfl (hb hby d2_182) rfl (tlt hc182).2.2.1 (by decide) (by decide)) ?_
        show own_Ends p e below s₁ (mkF m 189 #[.val (.int c_)] []) _
        refine own_go (fun _ => XS.iconst X0.here hx rfl (hb hby d2_189)) ?_
        show own_Ends p e below s₁ (mkF m 190 #[.val (.int c_)] [(.int (0 : Int32))]) _
        obtain ⟨fs, hr, hrun, hended, hW, hsame⟩ := X0.leave (v := some (.int (0 : Int32))) (fun h => by rw [Bd.returns] at h; cases h)
        refine ⟨_, _, retN X0 hx (t := .boolean) Bd.returns (by simp) (hb hby d2_190) hr, hrun, hended, _, _, rfl, ?_, ⟨_, rfl⟩, hW, hsame.mono (by decide) (by decide)⟩
        show Q_rmBase Z c_ h0 n0 _ s₁.heap _
        rw [e0]
        exact ⟨_, rfl, by exact (show (0 : Int32) = own_base c_ from (if_pos ⟨mi0, mi1, mi2, mi3, mi4, mi5, mi6, mi7, mi8, mi9, mi10, mi11, mi12, (Or.inr hc182)⟩).symm), N0, rfl⟩
      · refine own_go (fun _ => XS.icmpNo X0.here hx rfl (hb hby d2_182) rfl (flt hc182).2.2.1) ?_
        show own_Ends p e below s₁ (mkF m 185 #[.val (.int c_)] []) _
        refine own_go (fun _ => XS.iconst X0.here hx rfl (hb hby d2_185)) ?_
        show own_Ends p e below s₁ (mkF m 186 #[.val (.int c_)] [(.int (1 : Int32))]) _
        refine own_go (fun _ => XS.goto X0.here hx rfl (pc0 := 186) (pc' := 190) rfl (hb hby d2_186) (by decide) (by decide)) ?_
        show own_Ends p e below s₁ (mkF m 190 #[.val (.int c_)] [(.int (1 : Int32))]) _
        obtain ⟨fs, hr, hrun, hended, hW, hsame⟩ := X0.leave (v := some (.int (1 : Int32))) (fun h => by rw [Bd.returns] at h; cases h)
        refine ⟨_, _, retN X0 hx (t := .boolean) Bd.returns (by simp) (hb hby d2_190) hr, hrun, hended, _, _, rfl, ?_, ⟨_, rfl⟩, hW, hsame.mono (by decide) (by decide)⟩
        show Q_rmBase Z c_ h0 n0 _ s₁.heap _
        rw [e0]
        exact ⟨_, rfl, by exact (show (1 : Int32) = own_base c_ from (if_neg fun q => Or.elim (q.2.2.2.2.2.2.2.2.2.2.2.2.2) hc176 hc182).symm), N0, rfl⟩
  have J12 : (c_ < (65 : Int32) ∨ (90 : Int32) < c_) → (c_ < (97 : Int32) ∨ (122 : Int32) < c_) → (c_ < (192 : Int32) ∨ (214 : Int32) < c_) → (c_ < (216 : Int32) ∨ (246 : Int32) < c_) → (c_ < (248 : Int32) ∨ (767 : Int32) < c_) → (c_ < (880 : Int32) ∨ (893 : Int32) < c_) → (c_ < (895 : Int32) ∨ (8191 : Int32) < c_) → (c_ < (8204 : Int32) ∨ (8205 : Int32) < c_) → (c_ < (8304 : Int32) ∨ (8591 : Int32) < c_) → (c_ < (11264 : Int32) ∨ (12271 : Int32) < c_) → (c_ < (12289 : Int32) ∨ (55295 : Int32) < c_) → (c_ < (63744 : Int32) ∨ (64975 : Int32) < c_) → own_Ends p e below s₁ (mkF m 161 #[.val (.int c_)] []) (fun ou U' => ∃ v L, ou = .returned v ∧ Q_rmBase Z c_ h0 n0 v U'.heap L ∧ FrameEnd s ou U' L ({ frames := 0, cells := 0, slots := 0, locals := 0 } : Room).cells ({ frames := 0, cells := 0, slots := 0, locals := 0 } : Room).slots) := by
    intro mi0 mi1 mi2 mi3 mi4 mi5 mi6 mi7 mi8 mi9 mi10 mi11
    show own_Ends p e below s₁ (mkF m 161 #[.val (.int c_)] []) _
    refine own_go (fun _ => XS.iloadN X0.here hx rfl (hb hby d2_161) rfl) ?_
    show own_Ends p e below s₁ (mkF m 162 #[.val (.int c_)] [(.int c_)]) _
    refine own_go (X0.ldcInt hx hown (mvT hZ (hw _ (List.mem_of_getElem? (i := 18) rfl))) (g := (mkF m 162 #[.val (.int c_)] [(.int c_)])) rfl (hb hby d2_162)) ?_
    show own_Ends p e below s₁ (mkF m 164 #[.val (.int c_)] [(.int (65008 : Int32)), (.int c_)]) _
    by_cases hc164 : c_ < (65008 : Int32)
    · refine own_go (fun _ => XS.icmpYes X0.here hx rfl (pc0 := 164) (pc' := 173) rfl (hb hby d2_164) rfl (tlt hc164).1 (by decide) (by decide)) ?_
      show own_Ends p e below s₁ (mkF m 173 #[.val (.int c_)] []) _
      exact J13 mi0 mi1 mi2 mi3 mi4 mi5 mi6 mi7 mi8 mi9 mi10 mi11 (Or.inl hc164)
    · refine own_go (fun _ => XS.icmpNo X0.here hx rfl (hb hby d2_164) rfl (flt hc164).1) ?_
      show own_Ends p e below s₁ (mkF m 167 #[.val (.int c_)] []) _
      refine own_go (fun _ => XS.iloadN X0.here hx rfl (hb hby d2_167) rfl) ?_
      show own_Ends p e below s₁ (mkF m 168 #[.val (.int c_)] [(.int c_)]) _
      refine own_go (X0.ldcInt hx hown (mvT hZ (hw _ (List.mem_of_getElem? (i := 28) rfl))) (g := (mkF m 168 #[.val (.int c_)] [(.int c_)])) rfl (hb hby d2_168)) ?_
      show own_Ends p e below s₁ (mkF m 170 #[.val (.int c_)] [(.int (65533 : Int32)), (.int c_)]) _
      by_cases hc170 : (65533 : Int32) < c_
      · refine own_go (fun _ => XS.icmpNo X0.here hx rfl (hb hby d2_170) rfl (tlt hc170).2.2.2) ?_
        show own_Ends p e below s₁ (mkF m 173 #[.val (.int c_)] []) _
        exact J13 mi0 mi1 mi2 mi3 mi4 mi5 mi6 mi7 mi8 mi9 mi10 mi11 (Or.inr hc170)
      · refine own_go (fun _ => XS.icmpYes X0.here hx rfl (pc0 := 170) (pc' := 185) rfl (hb hby d2_170) rfl (flt hc170).2.2.2 (by decide) (by decide)) ?_
        show own_Ends p e below s₁ (mkF m 185 #[.val (.int c_)] []) _
        refine own_go (fun _ => XS.iconst X0.here hx rfl (hb hby d2_185)) ?_
        show own_Ends p e below s₁ (mkF m 186 #[.val (.int c_)] [(.int (1 : Int32))]) _
        refine own_go (fun _ => XS.goto X0.here hx rfl (pc0 := 186) (pc' := 190) rfl (hb hby d2_186) (by decide) (by decide)) ?_
        show own_Ends p e below s₁ (mkF m 190 #[.val (.int c_)] [(.int (1 : Int32))]) _
        obtain ⟨fs, hr, hrun, hended, hW, hsame⟩ := X0.leave (v := some (.int (1 : Int32))) (fun h => by rw [Bd.returns] at h; cases h)
        refine ⟨_, _, retN X0 hx (t := .boolean) Bd.returns (by simp) (hb hby d2_190) hr, hrun, hended, _, _, rfl, ?_, ⟨_, rfl⟩, hW, hsame.mono (by decide) (by decide)⟩
        show Q_rmBase Z c_ h0 n0 _ s₁.heap _
        rw [e0]
        exact ⟨_, rfl, by exact (show (1 : Int32) = own_base c_ from (if_neg fun q => Or.elim (q.2.2.2.2.2.2.2.2.2.2.2.2.1) hc164 hc170).symm), N0, rfl⟩
  have J11 : (c_ < (65 : Int32) ∨ (90 : Int32) < c_) → (c_ < (97 : Int32) ∨ (122 : Int32) < c_) → (c_ < (192 : Int32) ∨ (214 : Int32) < c_) → (c_ < (216 : Int32) ∨ (246 : Int32) < c_) → (c_ < (248 : Int32) ∨ (767 : Int32) < c_) → (c_ < (880 : Int32) ∨ (893 : Int32) < c_) → (c_ < (895 : Int32) ∨ (8191 : Int32) < c_) → (c_ < (8204 : Int32) ∨ (8205 : Int32) < c_) → (c_ < (8304 : Int32) ∨ (8591 : Int32) < c_) → (c_ < (11264 : Int32) ∨ (12271 : Int32) < c_) → (c_ < (12289 : Int32) ∨ (55295 : Int32) < c_) → own_Ends p e below s₁ (mkF m 149 #[.val (.int c_)] []) (fun ou U' => ∃ v L, ou = .returned v ∧ Q_rmBase Z c_ h0 n0 v U'.heap L ∧ FrameEnd s ou U' L ({ frames := 0, cells := 0, slots := 0, locals := 0 } : Room).cells ({ frames := 0, cells := 0, slots := 0, locals := 0 } : Room).slots) := by
    intro mi0 mi1 mi2 mi3 mi4 mi5 mi6 mi7 mi8 mi9 mi10
    show own_Ends p e below s₁ (mkF m 149 #[.val (.int c_)] []) _
    refine own_go (fun _ => XS.iloadN X0.here hx rfl (hb hby d2_149) rfl) ?_
    show own_Ends p e below s₁ (mkF m 150 #[.val (.int c_)] [(.int c_)]) _
    refine own_go (X0.ldcInt hx hown (mvT hZ (hw _ (List.mem_of_getElem? (i := 17) rfl))) (g := (mkF m 150 #[.val (.int c_)] [(.int c_)])) rfl (hb hby d2_150)) ?_
    show own_Ends p e below s₁ (mkF m 152 #[.val (.int c_)] [(.int (63744 : Int32)), (.int c_)]) _
    by_cases hc152 : c_ < (63744 : Int32)
    · refine own_go (fun _ => XS.icmpYes X0.here hx rfl (pc0 := 152) (pc' := 161) rfl (hb hby d2_152) rfl (tlt hc152).1 (by decide) (by decide)) ?_
      show own_Ends p e below s₁ (mkF m 161 #[.val (.int c_)] []) _
      exact J12 mi0 mi1 mi2 mi3 mi4 mi5 mi6 mi7 mi8 mi9 mi10 (Or.inl hc152)
    · refine own_go (fun _ => XS.icmpNo X0.here hx rfl (hb hby d2_152) rfl (flt hc152).1) ?_
      show own_Ends p e below s₁ (mkF m 155 #[.val (.int c_)] []) _
      refine own_go (fun _ => XS.iloadN X0.here hx rfl (hb hby d2_155) rfl) ?_
      show own_Ends p e below s₁ (mkF m 156 #[.val (.int c_)] [(.int c_)]) _
      refine own_go (X0.ldcInt hx hown (mvT hZ (hw _ (List.mem_of_getElem? (i := 27) rfl))) (g := (mkF m 156 #[.val (.int c_)] [(.int c_)])) rfl (hb hby d2_156)) ?_
      show own_Ends p e below s₁ (mkF m 158 #[.val (.int c_)] [(.int (64975 : Int32)), (.int c_)]) _
      by_cases hc158 : (64975 : Int32) < c_
      · refine own_go (fun _ => XS.icmpNo X0.here hx rfl (hb hby d2_158) rfl (tlt hc158).2.2.2) ?_
        show own_Ends p e below s₁ (mkF m 161 #[.val (.int c_)] []) _
        exact J12 mi0 mi1 mi2 mi3 mi4 mi5 mi6 mi7 mi8 mi9 mi10 (Or.inr hc158)
      · refine own_go (fun _ => XS.icmpYes X0.here hx rfl (pc0 := 158) (pc' := 185) rfl (hb hby d2_158) rfl (flt hc158).2.2.2 (by decide) (by decide)) ?_
        show own_Ends p e below s₁ (mkF m 185 #[.val (.int c_)] []) _
        refine own_go (fun _ => XS.iconst X0.here hx rfl (hb hby d2_185)) ?_
        show own_Ends p e below s₁ (mkF m 186 #[.val (.int c_)] [(.int (1 : Int32))]) _
        refine own_go (fun _ => XS.goto X0.here hx rfl (pc0 := 186) (pc' := 190) rfl (hb hby d2_186) (by decide) (by decide)) ?_
        show own_Ends p e below s₁ (mkF m 190 #[.val (.int c_)] [(.int (1 : Int32))]) _
        obtain ⟨fs, hr, hrun, hended, hW, hsame⟩ := X0.leave (v := some (.int (1 : Int32))) (fun h => by rw [Bd.returns] at h; cases h)
        refine ⟨_, _, retN X0 hx (t := .boolean) Bd.returns (by simp) (hb hby d2_190) hr, hrun, hended, _, _, rfl, ?_, ⟨_, rfl⟩, hW, hsame.mono (by decide) (by decide)⟩
        show Q_rmBase Z c_ h0 n0 _ s₁.heap _
        rw [e0]
        exact ⟨_, rfl, by exact (show (1 : Int32) = own_base c_ from (if_neg fun q => Or.elim (q.2.2.2.2.2.2.2.2.2.2.2.1) hc152 hc158).symm), N0, rfl⟩
  have J10 : (c_ < (65 : Int32) ∨ (90 : Int32) < c_) → (c_ < (97 : Int32) ∨ (122 : Int32) < c_) → (c_ < (192 : Int32) ∨ (214 : Int32) < c_) → (c_ < (216 : Int32) ∨ (246 : Int32) < c_) → (c_ < (248 : Int32) ∨ (767 : Int32) < c_) → (c_ < (880 : Int32) ∨ (893 : Int32) < c_) → (c_ < (895 : Int32) ∨ (8191 : Int32) < c_) → (c_ < (8204 : Int32) ∨ (8205 : Int32) < c_) → (c_ < (8304 : Int32) ∨ (8591 : Int32) < c_) → (c_ < (11264 : Int32) ∨ (12271 : Int32) < c_) → own_Ends p e below s₁ (mkF m 136 #[.val (.int c_)] []) (fun ou U' => ∃ v L, ou = .returned v ∧ Q_rmBase Z c_ h0 n0 v U'.heap L ∧ FrameEnd s ou U' L ({ frames := 0, cells := 0, slots := 0, locals := 0 } : Room).cells ({ frames := 0, cells := 0, slots := 0, locals := 0 } : Room).slots) := by
    intro mi0 mi1 mi2 mi3 mi4 mi5 mi6 mi7 mi8 mi9
    show own_Ends p e below s₁ (mkF m 136 #[.val (.int c_)] []) _
    refine own_go (fun _ => XS.iloadN X0.here hx rfl (hb hby d2_136) rfl) ?_
    show own_Ends p e below s₁ (mkF m 137 #[.val (.int c_)] [(.int c_)]) _
    refine own_go (fun _ => XS.sipush X0.here hx rfl (hb hby d2_137)) ?_
    show own_Ends p e below s₁ (mkF m 140 #[.val (.int c_)] [(.int (12289 : Int32)), (.int c_)]) _
    by_cases hc140 : c_ < (12289 : Int32)
    · refine own_go (fun _ => XS.icmpYes X0.here hx rfl (pc0 := 140) (pc' := 149) rfl (hb hby d2_140) rfl (tlt hc140).1 (by decide) (by decide)) ?_
      show own_Ends p e below s₁ (mkF m 149 #[.val (.int c_)] []) _
      exact J11 mi0 mi1 mi2 mi3 mi4 mi5 mi6 mi7 mi8 mi9 (Or.inl hc140)
    · refine own_go (fun _ => XS.icmpNo X0.here hx rfl (hb hby d2_140) rfl (flt hc140).1) ?_
      show own_Ends p e below s₁ (mkF m 143 #[.val (.int c_)] []) _
      refine own_go (fun _ => XS.iloadN X0.here hx rfl (hb hby d2_143) rfl) ?_
      show own_Ends p e below s₁ (mkF m 144 #[.val (.int c_)] [(.int c_)]) _
      refine own_go (X0.ldcInt hx hown (mvT hZ (hw _ (List.mem_of_getElem? (i := 26) rfl))) (g := (mkF m 144 #[.val (.int c_)] [(.int c_)])) rfl (hb hby d2_144)) ?_
      show own_Ends p e below s₁ (mkF m 146 #[.val (.int c_)] [(.int (55295 : Int32)), (.int c_)]) _
      by_cases hc146 : (55295 : Int32) < c_
      · refine own_go (fun _ => XS.icmpNo X0.here hx rfl (hb hby d2_146) rfl (tlt hc146).2.2.2) ?_
        show own_Ends p e below s₁ (mkF m 149 #[.val (.int c_)] []) _
        exact J11 mi0 mi1 mi2 mi3 mi4 mi5 mi6 mi7 mi8 mi9 (Or.inr hc146)
      · refine own_go (fun _ => XS.icmpYes X0.here hx rfl (pc0 := 146) (pc' := 185) rfl (hb hby d2_146) rfl (flt hc146).2.2.2 (by decide) (by decide)) ?_
        show own_Ends p e below s₁ (mkF m 185 #[.val (.int c_)] []) _
        refine own_go (fun _ => XS.iconst X0.here hx rfl (hb hby d2_185)) ?_
        show own_Ends p e below s₁ (mkF m 186 #[.val (.int c_)] [(.int (1 : Int32))]) _
        refine own_go (fun _ => XS.goto X0.here hx rfl (pc0 := 186) (pc' := 190) rfl (hb hby d2_186) (by decide) (by decide)) ?_
        show own_Ends p e below s₁ (mkF m 190 #[.val (.int c_)] [(.int (1 : Int32))]) _
        obtain ⟨fs, hr, hrun, hended, hW, hsame⟩ := X0.leave (v := some (.int (1 : Int32))) (fun h => by rw [Bd.returns] at h; cases h)
        refine ⟨_, _, retN X0 hx (t := .boolean) Bd.returns (by simp) (hb hby d2_190) hr, hrun, hended, _, _, rfl, ?_, ⟨_, rfl⟩, hW, hsame.mono (by decide) (by decide)⟩
        show Q_rmBase Z c_ h0 n0 _ s₁.heap _
        rw [e0]
        exact ⟨_, rfl, by exact (show (1 : Int32) = own_base c_ from (if_neg fun q => Or.elim (q.2.2.2.2.2.2.2.2.2.2.1) hc140 hc146).symm), N0, rfl⟩
  have J9 : (c_ < (65 : Int32) ∨ (90 : Int32) < c_) → (c_ < (97 : Int32) ∨ (122 : Int32) < c_) → (c_ < (192 : Int32) ∨ (214 : Int32) < c_) → (c_ < (216 : Int32) ∨ (246 : Int32) < c_) → (c_ < (248 : Int32) ∨ (767 : Int32) < c_) → (c_ < (880 : Int32) ∨ (893 : Int32) < c_) → (c_ < (895 : Int32) ∨ (8191 : Int32) < c_) → (c_ < (8204 : Int32) ∨ (8205 : Int32) < c_) → (c_ < (8304 : Int32) ∨ (8591 : Int32) < c_) → own_Ends p e below s₁ (mkF m 122 #[.val (.int c_)] []) (fun ou U' => ∃ v L, ou = .returned v ∧ Q_rmBase Z c_ h0 n0 v U'.heap L ∧ FrameEnd s ou U' L ({ frames := 0, cells := 0, slots := 0, locals := 0 } : Room).cells ({ frames := 0, cells := 0, slots := 0, locals := 0 } : Room).slots) := by
    intro mi0 mi1 mi2 mi3 mi4 mi5 mi6 mi7 mi8
    show own_Ends p e below s₁ (mkF m 122 #[.val (.int c_)] []) _
    refine own_go (fun _ => XS.iloadN X0.here hx rfl (hb hby d2_122) rfl) ?_
    show own_Ends p e below s₁ (mkF m 123 #[.val (.int c_)] [(.int c_)]) _
    refine own_go (fun _ => XS.sipush X0.here hx rfl (hb hby d2_123)) ?_
    show own_Ends p e below s₁ (mkF m 126 #[.val (.int c_)] [(.int (11264 : Int32)), (.int c_)]) _
    by_cases hc126 : c_ < (11264 : Int32)
    · refine own_go (fun _ => XS.icmpYes X0.here hx rfl (pc0 := 126) (pc' := 136) rfl (hb hby d2_126) rfl (tlt hc126).1 (by decide) (by decide)) ?_
      show own_Ends p e below s₁ (mkF m 136 #[.val (.int c_)] []) _
      exact J10 mi0 mi1 mi2 mi3 mi4 mi5 mi6 mi7 mi8 (Or.inl hc126)
    · refine own_go (fun _ => XS.icmpNo X0.here hx rfl (hb hby d2_126) rfl (flt hc126).1) ?_
      show own_Ends p e below s₁ (mkF m 129 #[.val (.int c_)] []) _
      refine own_go (fun _ => XS.iloadN X0.here hx rfl (hb hby d2_129) rfl) ?_
      show own_Ends p e below s₁ (mkF m 130 #[.val (.int c_)] [(.int c_)]) _
      refine own_go (fun _ => XS.sipush X0.here hx rfl (hb hby d2_130)) ?_
      show own_Ends p e below s₁ (mkF m 133 #[.val (.int c_)] [(.int (12271 : Int32)), (.int c_)]) _
      by_cases hc133 : (12271 : Int32) < c_
      · refine own_go (fun _ => XS.icmpNo X0.here hx rfl (hb hby d2_133) rfl (tlt hc133).2.2.2) ?_
        show own_Ends p e below s₁ (mkF m 136 #[.val (.int c_)] []) _
        exact J10 mi0 mi1 mi2 mi3 mi4 mi5 mi6 mi7 mi8 (Or.inr hc133)
      · refine own_go (fun _ => XS.icmpYes X0.here hx rfl (pc0 := 133) (pc' := 185) rfl (hb hby d2_133) rfl (flt hc133).2.2.2 (by decide) (by decide)) ?_
        show own_Ends p e below s₁ (mkF m 185 #[.val (.int c_)] []) _
        refine own_go (fun _ => XS.iconst X0.here hx rfl (hb hby d2_185)) ?_
        show own_Ends p e below s₁ (mkF m 186 #[.val (.int c_)] [(.int (1 : Int32))]) _
        refine own_go (fun _ => XS.goto X0.here hx rfl (pc0 := 186) (pc' := 190) rfl (hb hby d2_186) (by decide) (by decide)) ?_
        show own_Ends p e below s₁ (mkF m 190 #[.val (.int c_)] [(.int (1 : Int32))]) _
        obtain ⟨fs, hr, hrun, hended, hW, hsame⟩ := X0.leave (v := some (.int (1 : Int32))) (fun h => by rw [Bd.returns] at h; cases h)
        refine ⟨_, _, retN X0 hx (t := .boolean) Bd.returns (by simp) (hb hby d2_190) hr, hrun, hended, _, _, rfl, ?_, ⟨_, rfl⟩, hW, hsame.mono (by decide) (by decide)⟩
        show Q_rmBase Z c_ h0 n0 _ s₁.heap _
        rw [e0]
        exact ⟨_, rfl, by exact (show (1 : Int32) = own_base c_ from (if_neg fun q => Or.elim (q.2.2.2.2.2.2.2.2.2.1) hc126 hc133).symm), N0, rfl⟩
  have J8 : (c_ < (65 : Int32) ∨ (90 : Int32) < c_) → (c_ < (97 : Int32) ∨ (122 : Int32) < c_) → (c_ < (192 : Int32) ∨ (214 : Int32) < c_) → (c_ < (216 : Int32) ∨ (246 : Int32) < c_) → (c_ < (248 : Int32) ∨ (767 : Int32) < c_) → (c_ < (880 : Int32) ∨ (893 : Int32) < c_) → (c_ < (895 : Int32) ∨ (8191 : Int32) < c_) → (c_ < (8204 : Int32) ∨ (8205 : Int32) < c_) → own_Ends p e below s₁ (mkF m 108 #[.val (.int c_)] []) (fun ou U' => ∃ v L, ou = .returned v ∧ Q_rmBase Z c_ h0 n0 v U'.heap L ∧ FrameEnd s ou U' L ({ frames := 0, cells := 0, slots := 0, locals := 0 } : Room).cells ({ frames := 0, cells := 0, slots := 0, locals := 0 } : Room).slots) := by
    intro mi0 mi1 mi2 mi3 mi4 mi5 mi6 mi7
    show own_Ends p e below s₁ (mkF m 108 #[.val (.int c_)] []) _
    refine own_go (fun _ => XS.iloadN X0.here hx rfl (hb hby d2_108) rfl) ?_
    show own_Ends p e below s₁ (mkF m 109 #[.val (.int c_)] [(.int c_)]) _
    refine own_go (fun _ => XS.sipush X0.here hx rfl (hb hby d2_109)) ?_
    show own_Ends p e below s₁ (mkF m 112 #[.val (.int c_)] [(.int (8304 : Int32)), (.int c_)]) _
    by_cases hc112 : c_ < (8304 : Int32)
    · refine own_go (fun _ => XS.icmpYes X0.here hx rfl (pc0 := 112) (pc' := 122) rfl (hb hby d2_112) rfl (tlt hc112).1 (by decide) (by decide)) ?_
      show own_Ends p e below s₁ (mkF m 122 #[.val (.int c_)] []) _
      exact J9 mi0 mi1 mi2 mi3 mi4 mi5 mi6 mi7 (Or.inl hc112)
    · refine own_go (fun _ => XS.icmpNo X0.here hx rfl (hb hby d2_112) rfl (flt hc112).1) ?_
      show own_Ends p e below s₁ (mkF m 115 #[.val (.int c_)] []) _
      refine own_go (fun _ => XS.iloadN X0.here hx rfl (hb hby d2_115) rfl) ?_
      show own_Ends p e below s₁ (mkF m 116 #[.val (.int c_)] [(.int c_)]) _
      refine own_go (fun _ => XS.sipush X0.here hx rfl (hb hby d2_116)) ?_
      show own_Ends p e below s₁ (mkF m 119 #[.val (.int c_)] [(.int (8591 : Int32)), (.int c_)]) _
      by_cases hc119 : (8591 : Int32) < c_
      · refine own_go (fun _ => XS.icmpNo X0.here hx rfl (hb hby d2_119) rfl (tlt hc119).2.2.2) ?_
        show own_Ends p e below s₁ (mkF m 122 #[.val (.int c_)] []) _
        exact J9 mi0 mi1 mi2 mi3 mi4 mi5 mi6 mi7 (Or.inr hc119)
      · refine own_go (fun _ => XS.icmpYes X0.here hx rfl (pc0 := 119) (pc' := 185) rfl (hb hby d2_119) rfl (flt hc119).2.2.2 (by decide) (by decide)) ?_
        show own_Ends p e below s₁ (mkF m 185 #[.val (.int c_)] []) _
        refine own_go (fun _ => XS.iconst X0.here hx rfl (hb hby d2_185)) ?_
        show own_Ends p e below s₁ (mkF m 186 #[.val (.int c_)] [(.int (1 : Int32))]) _
        refine own_go (fun _ => XS.goto X0.here hx rfl (pc0 := 186) (pc' := 190) rfl (hb hby d2_186) (by decide) (by decide)) ?_
        show own_Ends p e below s₁ (mkF m 190 #[.val (.int c_)] [(.int (1 : Int32))]) _
        obtain ⟨fs, hr, hrun, hended, hW, hsame⟩ := X0.leave (v := some (.int (1 : Int32))) (fun h => by rw [Bd.returns] at h; cases h)
        refine ⟨_, _, retN X0 hx (t := .boolean) Bd.returns (by simp) (hb hby d2_190) hr, hrun, hended, _, _, rfl, ?_, ⟨_, rfl⟩, hW, hsame.mono (by decide) (by decide)⟩
        show Q_rmBase Z c_ h0 n0 _ s₁.heap _
        rw [e0]
        exact ⟨_, rfl, by exact (show (1 : Int32) = own_base c_ from (if_neg fun q => Or.elim (q.2.2.2.2.2.2.2.2.1) hc112 hc119).symm), N0, rfl⟩
  have J7 : (c_ < (65 : Int32) ∨ (90 : Int32) < c_) → (c_ < (97 : Int32) ∨ (122 : Int32) < c_) → (c_ < (192 : Int32) ∨ (214 : Int32) < c_) → (c_ < (216 : Int32) ∨ (246 : Int32) < c_) → (c_ < (248 : Int32) ∨ (767 : Int32) < c_) → (c_ < (880 : Int32) ∨ (893 : Int32) < c_) → (c_ < (895 : Int32) ∨ (8191 : Int32) < c_) → own_Ends p e below s₁ (mkF m 94 #[.val (.int c_)] []) (fun ou U' => ∃ v L, ou = .returned v ∧ Q_rmBase Z c_ h0 n0 v U'.heap L ∧ FrameEnd s ou U' L ({ frames := 0, cells := 0, slots := 0, locals := 0 } : Room).cells ({ frames := 0, cells := 0, slots := 0, locals := 0 } : Room).slots) := by
    intro mi0 mi1 mi2 mi3 mi4 mi5 mi6
    show own_Ends p e below s₁ (mkF m 94 #[.val (.int c_)] []) _
    refine own_go (fun _ => XS.iloadN X0.here hx rfl (hb hby d2_94) rfl) ?_
    show own_Ends p e below s₁ (mkF m 95 #[.val (.int c_)] [(.int c_)]) _
    refine own_go (fun _ => XS.sipush X0.here hx rfl (hb hby d2_95)) ?_
    show own_Ends p e below s₁ (mkF m 98 #[.val (.int c_)] [(.int (8204 : Int32)), (.int c_)]) _
    by_cases hc98 : c_ < (8204 : Int32)
    · refine own_go (fun _ => XS.icmpYes X0.here hx rfl (pc0 := 98) (pc' := 108) rfl (hb hby d2_98) rfl (tlt hc98).1 (by decide) (by decide)) ?_
      show own_Ends p e below s₁ (mkF m 108 #[.val (.int c_)] []) _
      exact J8 mi0 mi1 mi2 mi3 mi4 mi5 mi6 (Or.inl hc98)
    · refine own_go (fun _ => XS.icmpNo X0.here hx rfl (hb hby d2_98) rfl (flt hc98).1) ?_
      show own_Ends p e below s₁ (mkF m 101 #[.val (.int c_)] []) _
      refine own_go (fun _ => XS.iloadN X0.here hx rfl (hb hby d2_101) rfl) ?_
      show own_Ends p e below s₁ (mkF m 102 #[.val (.int c_)] [(.int c_)]) _
      refine own_go (fun _ => XS.sipush X0.here hx rfl (hb hby d2_102)) ?_
      show own_Ends p e below s₁ (mkF m 105 #[.val (.int c_)] [(.int (8205 : Int32)), (.int c_)]) _
      by_cases hc105 : (8205 : Int32) < c_
      · refine own_go (fun _ => XS.icmpNo X0.here hx rfl (hb hby d2_105) rfl (tlt hc105).2.2.2) ?_
        show own_Ends p e below s₁ (mkF m 108 #[.val (.int c_)] []) _
        exact J8 mi0 mi1 mi2 mi3 mi4 mi5 mi6 (Or.inr hc105)
      · refine own_go (fun _ => XS.icmpYes X0.here hx rfl (pc0 := 105) (pc' := 185) rfl (hb hby d2_105) rfl (flt hc105).2.2.2 (by decide) (by decide)) ?_
        show own_Ends p e below s₁ (mkF m 185 #[.val (.int c_)] []) _
        refine own_go (fun _ => XS.iconst X0.here hx rfl (hb hby d2_185)) ?_
        show own_Ends p e below s₁ (mkF m 186 #[.val (.int c_)] [(.int (1 : Int32))]) _
        refine own_go (fun _ => XS.goto X0.here hx rfl (pc0 := 186) (pc' := 190) rfl (hb hby d2_186) (by decide) (by decide)) ?_
        show own_Ends p e below s₁ (mkF m 190 #[.val (.int c_)] [(.int (1 : Int32))]) _
        obtain ⟨fs, hr, hrun, hended, hW, hsame⟩ := X0.leave (v := some (.int (1 : Int32))) (fun h => by rw [Bd.returns] at h; cases h)
        refine ⟨_, _, retN X0 hx (t := .boolean) Bd.returns (by simp) (hb hby d2_190) hr, hrun, hended, _, _, rfl, ?_, ⟨_, rfl⟩, hW, hsame.mono (by decide) (by decide)⟩
        show Q_rmBase Z c_ h0 n0 _ s₁.heap _
        rw [e0]
        exact ⟨_, rfl, by exact (show (1 : Int32) = own_base c_ from (if_neg fun q => Or.elim (q.2.2.2.2.2.2.2.1) hc98 hc105).symm), N0, rfl⟩
  have J6 : (c_ < (65 : Int32) ∨ (90 : Int32) < c_) → (c_ < (97 : Int32) ∨ (122 : Int32) < c_) → (c_ < (192 : Int32) ∨ (214 : Int32) < c_) → (c_ < (216 : Int32) ∨ (246 : Int32) < c_) → (c_ < (248 : Int32) ∨ (767 : Int32) < c_) → (c_ < (880 : Int32) ∨ (893 : Int32) < c_) → own_Ends p e below s₁ (mkF m 80 #[.val (.int c_)] []) (fun ou U' => ∃ v L, ou = .returned v ∧ Q_rmBase Z c_ h0 n0 v U'.heap L ∧ FrameEnd s ou U' L ({ frames := 0, cells := 0, slots := 0, locals := 0 } : Room).cells ({ frames := 0, cells := 0, slots := 0, locals := 0 } : Room).slots) := by
    intro mi0 mi1 mi2 mi3 mi4 mi5
    show own_Ends p e below s₁ (mkF m 80 #[.val (.int c_)] []) _
    refine own_go (fun _ => XS.iloadN X0.here hx rfl (hb hby d2_80) rfl) ?_
    show own_Ends p e below s₁ (mkF m 81 #[.val (.int c_)] [(.int c_)]) _
    refine own_go (fun _ => XS.sipush X0.here hx rfl (hb hby d2_81)) ?_
    show own_Ends p e below s₁ (mkF m 84 #[.val (.int c_)] [(.int (895 : Int32)), (.int c_)]) _
    by_cases hc84 : c_ < (895 : Int32)
    · refine own_go (fun _ => XS.icmpYes X0.here hx rfl (pc0 := 84) (pc' := 94) rfl (hb hby d2_84) rfl (tlt hc84).1 (by decide) (by decide)) ?_
      show own_Ends p e below s₁ (mkF m 94 #[.val (.int c_)] []) _
      exact J7 mi0 mi1 mi2 mi3 mi4 mi5 (Or.inl hc84)
    · refine own_go (fun _ => XS.icmpNo X0.here hx rfl (hb hby d2_84) rfl (flt hc84).1) ?_
      show own_Ends p e below s₁ (mkF m 87 #[.val (.int c_)] []) _
      refine own_go (fun _ => XS.iloadN X0.here hx rfl (hb hby d2_87) rfl) ?_
      show own_Ends p e below s₁ (mkF m 88 #[.val (.int c_)] [(.int c_)]) _
      refine own_go (fun _ => XS.sipush X0.here hx rfl (hb hby d2_88)) ?_
      show own_Ends p e below s₁ (mkF m 91 #[.val (.int c_)] [(.int (8191 : Int32)), (.int c_)]) _
      by_cases hc91 : (8191 : Int32) < c_
      · refine own_go (fun _ => XS.icmpNo X0.here hx rfl (hb hby d2_91) rfl (tlt hc91).2.2.2) ?_
        show own_Ends p e below s₁ (mkF m 94 #[.val (.int c_)] []) _
        exact J7 mi0 mi1 mi2 mi3 mi4 mi5 (Or.inr hc91)
      · refine own_go (fun _ => XS.icmpYes X0.here hx rfl (pc0 := 91) (pc' := 185) rfl (hb hby d2_91) rfl (flt hc91).2.2.2 (by decide) (by decide)) ?_
        show own_Ends p e below s₁ (mkF m 185 #[.val (.int c_)] []) _
        refine own_go (fun _ => XS.iconst X0.here hx rfl (hb hby d2_185)) ?_
        show own_Ends p e below s₁ (mkF m 186 #[.val (.int c_)] [(.int (1 : Int32))]) _
        refine own_go (fun _ => XS.goto X0.here hx rfl (pc0 := 186) (pc' := 190) rfl (hb hby d2_186) (by decide) (by decide)) ?_
        show own_Ends p e below s₁ (mkF m 190 #[.val (.int c_)] [(.int (1 : Int32))]) _
        obtain ⟨fs, hr, hrun, hended, hW, hsame⟩ := X0.leave (v := some (.int (1 : Int32))) (fun h => by rw [Bd.returns] at h; cases h)
        refine ⟨_, _, retN X0 hx (t := .boolean) Bd.returns (by simp) (hb hby d2_190) hr, hrun, hended, _, _, rfl, ?_, ⟨_, rfl⟩, hW, hsame.mono (by decide) (by decide)⟩
        show Q_rmBase Z c_ h0 n0 _ s₁.heap _
        rw [e0]
        exact ⟨_, rfl, by exact (show (1 : Int32) = own_base c_ from (if_neg fun q => Or.elim (q.2.2.2.2.2.2.1) hc84 hc91).symm), N0, rfl⟩
  have J5 : (c_ < (65 : Int32) ∨ (90 : Int32) < c_) → (c_ < (97 : Int32) ∨ (122 : Int32) < c_) → (c_ < (192 : Int32) ∨ (214 : Int32) < c_) → (c_ < (216 : Int32) ∨ (246 : Int32) < c_) → (c_ < (248 : Int32) ∨ (767 : Int32) < c_) → own_Ends p e below s₁ (mkF m 66 #[.val (.int c_)] []) (fun ou U' => ∃ v L, ou = .returned v ∧ Q_rmBase Z c_ h0 n0 v U'.heap L ∧ FrameEnd s ou U' L ({ frames := 0, cells := 0, slots := 0, locals := 0 } : Room).cells ({ frames := 0, cells := 0, slots := 0, locals := 0 } : Room).slots) := by
    intro mi0 mi1 mi2 mi3 mi4
    show own_Ends p e below s₁ (mkF m 66 #[.val (.int c_)] []) _
    refine own_go (fun _ => XS.iloadN X0.here hx rfl (hb hby d2_66) rfl) ?_
    show own_Ends p e below s₁ (mkF m 67 #[.val (.int c_)] [(.int c_)]) _
    refine own_go (fun _ => XS.sipush X0.here hx rfl (hb hby d2_67)) ?_
    show own_Ends p e below s₁ (mkF m 70 #[.val (.int c_)] [(.int (880 : Int32)), (.int c_)]) _
    by_cases hc70 : c_ < (880 : Int32)
    · refine own_go (fun _ => XS.icmpYes X0.here hx rfl (pc0 := 70) (pc' := 80) rfl (hb hby d2_70) rfl (tlt hc70).1 (by decide) (by decide)) ?_
      show own_Ends p e below s₁ (mkF m 80 #[.val (.int c_)] []) _
      exact J6 mi0 mi1 mi2 mi3 mi4 (Or.inl hc70)
    · refine own_go (fun _ => XS.icmpNo X0.here hx rfl (hb hby d2_70) rfl (flt hc70).1) ?_
      show own_Ends p e below s₁ (mkF m 73 #[.val (.int c_)] []) _
      refine own_go (fun _ => XS.iloadN X0.here hx rfl (hb hby d2_73) rfl) ?_
      show own_Ends p e below s₁ (mkF m 74 #[.val (.int c_)] [(.int c_)]) _
      refine own_go (fun _ => XS.sipush X0.here hx rfl (hb hby d2_74)) ?_
      show own_Ends p e below s₁ (mkF m 77 #[.val (.int c_)] [(.int (893 : Int32)), (.int c_)]) _
      by_cases hc77 : (893 : Int32) < c_
      · refine own_go (fun _ => XS.icmpNo X0.here hx rfl (hb hby d2_77) rfl (tlt hc77).2.2.2) ?_
        show own_Ends p e below s₁ (mkF m 80 #[.val (.int c_)] []) _
        exact J6 mi0 mi1 mi2 mi3 mi4 (Or.inr hc77)
      · refine own_go (fun _ => XS.icmpYes X0.here hx rfl (pc0 := 77) (pc' := 185) rfl (hb hby d2_77) rfl (flt hc77).2.2.2 (by decide) (by decide)) ?_
        show own_Ends p e below s₁ (mkF m 185 #[.val (.int c_)] []) _
        refine own_go (fun _ => XS.iconst X0.here hx rfl (hb hby d2_185)) ?_
        show own_Ends p e below s₁ (mkF m 186 #[.val (.int c_)] [(.int (1 : Int32))]) _
        refine own_go (fun _ => XS.goto X0.here hx rfl (pc0 := 186) (pc' := 190) rfl (hb hby d2_186) (by decide) (by decide)) ?_
        show own_Ends p e below s₁ (mkF m 190 #[.val (.int c_)] [(.int (1 : Int32))]) _
        obtain ⟨fs, hr, hrun, hended, hW, hsame⟩ := X0.leave (v := some (.int (1 : Int32))) (fun h => by rw [Bd.returns] at h; cases h)
        refine ⟨_, _, retN X0 hx (t := .boolean) Bd.returns (by simp) (hb hby d2_190) hr, hrun, hended, _, _, rfl, ?_, ⟨_, rfl⟩, hW, hsame.mono (by decide) (by decide)⟩
        show Q_rmBase Z c_ h0 n0 _ s₁.heap _
        rw [e0]
        exact ⟨_, rfl, by exact (show (1 : Int32) = own_base c_ from (if_neg fun q => Or.elim (q.2.2.2.2.2.1) hc70 hc77).symm), N0, rfl⟩
  have J4 : (c_ < (65 : Int32) ∨ (90 : Int32) < c_) → (c_ < (97 : Int32) ∨ (122 : Int32) < c_) → (c_ < (192 : Int32) ∨ (214 : Int32) < c_) → (c_ < (216 : Int32) ∨ (246 : Int32) < c_) → own_Ends p e below s₁ (mkF m 52 #[.val (.int c_)] []) (fun ou U' => ∃ v L, ou = .returned v ∧ Q_rmBase Z c_ h0 n0 v U'.heap L ∧ FrameEnd s ou U' L ({ frames := 0, cells := 0, slots := 0, locals := 0 } : Room).cells ({ frames := 0, cells := 0, slots := 0, locals := 0 } : Room).slots) := by
    intro mi0 mi1 mi2 mi3
    show own_Ends p e below s₁ (mkF m 52 #[.val (.int c_)] []) _
    refine own_go (fun _ => XS.iloadN X0.here hx rfl (hb hby d2_52) rfl) ?_
    show own_Ends p e below s₁ (mkF m 53 #[.val (.int c_)] [(.int c_)]) _
    refine own_go (fun _ => XS.sipush X0.here hx rfl (hb hby d2_53)) ?_
    show own_Ends p e below s₁ (mkF m 56 #[.val (.int c_)] [(.int (248 : Int32)), (.int c_)]) _
    by_cases hc56 : c_ < (248 : Int32)
    · refine own_go (fun _ => XS.icmpYes X0.here hx rfl (pc0 := 56) (pc' := 66) rfl (hb hby d2_56) rfl (tlt hc56).1 (by decide) (by decide)) ?_
      show own_Ends p e below s₁ (mkF m 66 #[.val (.int c_)] []) _
      exact J5 mi0 mi1 mi2 mi3 (Or.inl hc56)
    · refine own_go (fun _ => XS.icmpNo X0.here hx rfl (hb hby d2_56) rfl (flt hc56).1) ?_
      show own_Ends p e below s₁ (mkF m 59 #[.val (.int c_)] []) _
      refine own_go (fun _ => XS.iloadN X0.here hx rfl (hb hby d2_59) rfl) ?_
      show own_Ends p e below s₁ (mkF m 60 #[.val (.int c_)] [(.int c_)]) _
      refine own_go (fun _ => XS.sipush X0.here hx rfl (hb hby d2_60)) ?_
      show own_Ends p e below s₁ (mkF m 63 #[.val (.int c_)] [(.int (767 : Int32)), (.int c_)]) _
      by_cases hc63 : (767 : Int32) < c_
      · refine own_go (fun _ => XS.icmpNo X0.here hx rfl (hb hby d2_63) rfl (tlt hc63).2.2.2) ?_
        show own_Ends p e below s₁ (mkF m 66 #[.val (.int c_)] []) _
        exact J5 mi0 mi1 mi2 mi3 (Or.inr hc63)
      · refine own_go (fun _ => XS.icmpYes X0.here hx rfl (pc0 := 63) (pc' := 185) rfl (hb hby d2_63) rfl (flt hc63).2.2.2 (by decide) (by decide)) ?_
        show own_Ends p e below s₁ (mkF m 185 #[.val (.int c_)] []) _
        refine own_go (fun _ => XS.iconst X0.here hx rfl (hb hby d2_185)) ?_
        show own_Ends p e below s₁ (mkF m 186 #[.val (.int c_)] [(.int (1 : Int32))]) _
        refine own_go (fun _ => XS.goto X0.here hx rfl (pc0 := 186) (pc' := 190) rfl (hb hby d2_186) (by decide) (by decide)) ?_
        show own_Ends p e below s₁ (mkF m 190 #[.val (.int c_)] [(.int (1 : Int32))]) _
        obtain ⟨fs, hr, hrun, hended, hW, hsame⟩ := X0.leave (v := some (.int (1 : Int32))) (fun h => by rw [Bd.returns] at h; cases h)
        refine ⟨_, _, retN X0 hx (t := .boolean) Bd.returns (by simp) (hb hby d2_190) hr, hrun, hended, _, _, rfl, ?_, ⟨_, rfl⟩, hW, hsame.mono (by decide) (by decide)⟩
        show Q_rmBase Z c_ h0 n0 _ s₁.heap _
        rw [e0]
        exact ⟨_, rfl, by exact (show (1 : Int32) = own_base c_ from (if_neg fun q => Or.elim (q.2.2.2.2.1) hc56 hc63).symm), N0, rfl⟩
  have J3 : (c_ < (65 : Int32) ∨ (90 : Int32) < c_) → (c_ < (97 : Int32) ∨ (122 : Int32) < c_) → (c_ < (192 : Int32) ∨ (214 : Int32) < c_) → own_Ends p e below s₁ (mkF m 38 #[.val (.int c_)] []) (fun ou U' => ∃ v L, ou = .returned v ∧ Q_rmBase Z c_ h0 n0 v U'.heap L ∧ FrameEnd s ou U' L ({ frames := 0, cells := 0, slots := 0, locals := 0 } : Room).cells ({ frames := 0, cells := 0, slots := 0, locals := 0 } : Room).slots) := by
    intro mi0 mi1 mi2
    show own_Ends p e below s₁ (mkF m 38 #[.val (.int c_)] []) _
    refine own_go (fun _ => XS.iloadN X0.here hx rfl (hb hby d2_38) rfl) ?_
    show own_Ends p e below s₁ (mkF m 39 #[.val (.int c_)] [(.int c_)]) _
    refine own_go (fun _ => XS.sipush X0.here hx rfl (hb hby d2_39)) ?_
    show own_Ends p e below s₁ (mkF m 42 #[.val (.int c_)] [(.int (216 : Int32)), (.int c_)]) _
    by_cases hc42 : c_ < (216 : Int32)
    · refine own_go (fun _ => XS.icmpYes X0.here hx rfl (pc0 := 42) (pc' := 52) rfl (hb hby d2_42) rfl (tlt hc42).1 (by decide) (by decide)) ?_
      show own_Ends p e below s₁ (mkF m 52 #[.val (.int c_)] []) _
      exact J4 mi0 mi1 mi2 (Or.inl hc42)
    · refine own_go (fun _ => XS.icmpNo X0.here hx rfl (hb hby d2_42) rfl (flt hc42).1) ?_
      show own_Ends p e below s₁ (mkF m 45 #[.val (.int c_)] []) _
      refine own_go (fun _ => XS.iloadN X0.here hx rfl (hb hby d2_45) rfl) ?_
      show own_Ends p e below s₁ (mkF m 46 #[.val (.int c_)] [(.int c_)]) _
      refine own_go (fun _ => XS.sipush X0.here hx rfl (hb hby d2_46)) ?_
      show own_Ends p e below s₁ (mkF m 49 #[.val (.int c_)] [(.int (246 : Int32)), (.int c_)]) _
      by_cases hc49 : (246 : Int32) < c_
      · refine own_go (fun _ => XS.icmpNo X0.here hx rfl (hb hby d2_49) rfl (tlt hc49).2.2.2) ?_
        show own_Ends p e below s₁ (mkF m 52 #[.val (.int c_)] []) _
        exact J4 mi0 mi1 mi2 (Or.inr hc49)
      · refine own_go (fun _ => XS.icmpYes X0.here hx rfl (pc0 := 49) (pc' := 185) rfl (hb hby d2_49) rfl (flt hc49).2.2.2 (by decide) (by decide)) ?_
        show own_Ends p e below s₁ (mkF m 185 #[.val (.int c_)] []) _
        refine own_go (fun _ => XS.iconst X0.here hx rfl (hb hby d2_185)) ?_
        show own_Ends p e below s₁ (mkF m 186 #[.val (.int c_)] [(.int (1 : Int32))]) _
        refine own_go (fun _ => XS.goto X0.here hx rfl (pc0 := 186) (pc' := 190) rfl (hb hby d2_186) (by decide) (by decide)) ?_
        show own_Ends p e below s₁ (mkF m 190 #[.val (.int c_)] [(.int (1 : Int32))]) _
        obtain ⟨fs, hr, hrun, hended, hW, hsame⟩ := X0.leave (v := some (.int (1 : Int32))) (fun h => by rw [Bd.returns] at h; cases h)
        refine ⟨_, _, retN X0 hx (t := .boolean) Bd.returns (by simp) (hb hby d2_190) hr, hrun, hended, _, _, rfl, ?_, ⟨_, rfl⟩, hW, hsame.mono (by decide) (by decide)⟩
        show Q_rmBase Z c_ h0 n0 _ s₁.heap _
        rw [e0]
        exact ⟨_, rfl, by exact (show (1 : Int32) = own_base c_ from (if_neg fun q => Or.elim (q.2.2.2.1) hc42 hc49).symm), N0, rfl⟩
  have J2 : (c_ < (65 : Int32) ∨ (90 : Int32) < c_) → (c_ < (97 : Int32) ∨ (122 : Int32) < c_) → own_Ends p e below s₁ (mkF m 24 #[.val (.int c_)] []) (fun ou U' => ∃ v L, ou = .returned v ∧ Q_rmBase Z c_ h0 n0 v U'.heap L ∧ FrameEnd s ou U' L ({ frames := 0, cells := 0, slots := 0, locals := 0 } : Room).cells ({ frames := 0, cells := 0, slots := 0, locals := 0 } : Room).slots) := by
    intro mi0 mi1
    show own_Ends p e below s₁ (mkF m 24 #[.val (.int c_)] []) _
    refine own_go (fun _ => XS.iloadN X0.here hx rfl (hb hby d2_24) rfl) ?_
    show own_Ends p e below s₁ (mkF m 25 #[.val (.int c_)] [(.int c_)]) _
    refine own_go (fun _ => XS.sipush X0.here hx rfl (hb hby d2_25)) ?_
    show own_Ends p e below s₁ (mkF m 28 #[.val (.int c_)] [(.int (192 : Int32)), (.int c_)]) _
    by_cases hc28 : c_ < (192 : Int32)
    · refine own_go (fun _ => XS.icmpYes X0.here hx rfl (pc0 := 28) (pc' := 38) rfl (hb hby d2_28) rfl (tlt hc28).1 (by decide) (by decide)) ?_
      show own_Ends p e below s₁ (mkF m 38 #[.val (.int c_)] []) _
      exact J3 mi0 mi1 (Or.inl hc28)
    · refine own_go (fun _ => XS.icmpNo X0.here hx rfl (hb hby d2_28) rfl (flt hc28).1) ?_
      show own_Ends p e below s₁ (mkF m 31 #[.val (.int c_)] []) _
      refine own_go (fun _ => XS.iloadN X0.here hx rfl (hb hby d2_31) rfl) ?_
      show own_Ends p e below s₁ (mkF m 32 #[.val (.int c_)] [(.int c_)]) _
      refine own_go (fun _ => XS.sipush X0.here hx rfl (hb hby d2_32)) ?_
      show own_Ends p e below s₁ (mkF m 35 #[.val (.int c_)] [(.int (214 : Int32)), (.int c_)]) _
      by_cases hc35 : (214 : Int32) < c_
      · refine own_go (fun _ => XS.icmpNo X0.here hx rfl (hb hby d2_35) rfl (tlt hc35).2.2.2) ?_
        show own_Ends p e below s₁ (mkF m 38 #[.val (.int c_)] []) _
        exact J3 mi0 mi1 (Or.inr hc35)
      · refine own_go (fun _ => XS.icmpYes X0.here hx rfl (pc0 := 35) (pc' := 185) rfl (hb hby d2_35) rfl (flt hc35).2.2.2 (by decide) (by decide)) ?_
        show own_Ends p e below s₁ (mkF m 185 #[.val (.int c_)] []) _
        refine own_go (fun _ => XS.iconst X0.here hx rfl (hb hby d2_185)) ?_
        show own_Ends p e below s₁ (mkF m 186 #[.val (.int c_)] [(.int (1 : Int32))]) _
        refine own_go (fun _ => XS.goto X0.here hx rfl (pc0 := 186) (pc' := 190) rfl (hb hby d2_186) (by decide) (by decide)) ?_
        show own_Ends p e below s₁ (mkF m 190 #[.val (.int c_)] [(.int (1 : Int32))]) _
        obtain ⟨fs, hr, hrun, hended, hW, hsame⟩ := X0.leave (v := some (.int (1 : Int32))) (fun h => by rw [Bd.returns] at h; cases h)
        refine ⟨_, _, retN X0 hx (t := .boolean) Bd.returns (by simp) (hb hby d2_190) hr, hrun, hended, _, _, rfl, ?_, ⟨_, rfl⟩, hW, hsame.mono (by decide) (by decide)⟩
        show Q_rmBase Z c_ h0 n0 _ s₁.heap _
        rw [e0]
        exact ⟨_, rfl, by exact (show (1 : Int32) = own_base c_ from (if_neg fun q => Or.elim (q.2.2.1) hc28 hc35).symm), N0, rfl⟩
  have J1 : (c_ < (65 : Int32) ∨ (90 : Int32) < c_) → own_Ends p e below s₁ (mkF m 12 #[.val (.int c_)] []) (fun ou U' => ∃ v L, ou = .returned v ∧ Q_rmBase Z c_ h0 n0 v U'.heap L ∧ FrameEnd s ou U' L ({ frames := 0, cells := 0, slots := 0, locals := 0 } : Room).cells ({ frames := 0, cells := 0, slots := 0, locals := 0 } : Room).slots) := by
    intro mi0
    show own_Ends p e below s₁ (mkF m 12 #[.val (.int c_)] []) _
    refine own_go (fun _ => XS.iloadN X0.here hx rfl (hb hby d2_12) rfl) ?_
    show own_Ends p e below s₁ (mkF m 13 #[.val (.int c_)] [(.int c_)]) _
    refine own_go (fun _ => XS.bipush X0.here hx rfl (hb hby d2_13)) ?_
    show own_Ends p e below s₁ (mkF m 15 #[.val (.int c_)] [(.int (97 : Int32)), (.int c_)]) _
    by_cases hc15 : c_ < (97 : Int32)
    · refine own_go (fun _ => XS.icmpYes X0.here hx rfl (pc0 := 15) (pc' := 24) rfl (hb hby d2_15) rfl (tlt hc15).1 (by decide) (by decide)) ?_
      show own_Ends p e below s₁ (mkF m 24 #[.val (.int c_)] []) _
      exact J2 mi0 (Or.inl hc15)
    · refine own_go (fun _ => XS.icmpNo X0.here hx rfl (hb hby d2_15) rfl (flt hc15).1) ?_
      show own_Ends p e below s₁ (mkF m 18 #[.val (.int c_)] []) _
      refine own_go (fun _ => XS.iloadN X0.here hx rfl (hb hby d2_18) rfl) ?_
      show own_Ends p e below s₁ (mkF m 19 #[.val (.int c_)] [(.int c_)]) _
      refine own_go (fun _ => XS.bipush X0.here hx rfl (hb hby d2_19)) ?_
      show own_Ends p e below s₁ (mkF m 21 #[.val (.int c_)] [(.int (122 : Int32)), (.int c_)]) _
      by_cases hc21 : (122 : Int32) < c_
      · refine own_go (fun _ => XS.icmpNo X0.here hx rfl (hb hby d2_21) rfl (tlt hc21).2.2.2) ?_
        show own_Ends p e below s₁ (mkF m 24 #[.val (.int c_)] []) _
        exact J2 mi0 (Or.inr hc21)
      · refine own_go (fun _ => XS.icmpYes X0.here hx rfl (pc0 := 21) (pc' := 185) rfl (hb hby d2_21) rfl (flt hc21).2.2.2 (by decide) (by decide)) ?_
        show own_Ends p e below s₁ (mkF m 185 #[.val (.int c_)] []) _
        refine own_go (fun _ => XS.iconst X0.here hx rfl (hb hby d2_185)) ?_
        show own_Ends p e below s₁ (mkF m 186 #[.val (.int c_)] [(.int (1 : Int32))]) _
        refine own_go (fun _ => XS.goto X0.here hx rfl (pc0 := 186) (pc' := 190) rfl (hb hby d2_186) (by decide) (by decide)) ?_
        show own_Ends p e below s₁ (mkF m 190 #[.val (.int c_)] [(.int (1 : Int32))]) _
        obtain ⟨fs, hr, hrun, hended, hW, hsame⟩ := X0.leave (v := some (.int (1 : Int32))) (fun h => by rw [Bd.returns] at h; cases h)
        refine ⟨_, _, retN X0 hx (t := .boolean) Bd.returns (by simp) (hb hby d2_190) hr, hrun, hended, _, _, rfl, ?_, ⟨_, rfl⟩, hW, hsame.mono (by decide) (by decide)⟩
        show Q_rmBase Z c_ h0 n0 _ s₁.heap _
        rw [e0]
        exact ⟨_, rfl, by exact (show (1 : Int32) = own_base c_ from (if_neg fun q => Or.elim (q.2.1) hc15 hc21).symm), N0, rfl⟩
  refine own_go (fun _ => XS.iloadN X0.here hx rfl (hb hby d2_0) rfl) ?_
  show own_Ends p e below s₁ (mkF m 1 #[.val (.int c_)] [(.int c_)]) _
  refine own_go (fun _ => XS.bipush X0.here hx rfl (hb hby d2_1)) ?_
  show own_Ends p e below s₁ (mkF m 3 #[.val (.int c_)] [(.int (65 : Int32)), (.int c_)]) _
  by_cases hc3 : c_ < (65 : Int32)
  · refine own_go (fun _ => XS.icmpYes X0.here hx rfl (pc0 := 3) (pc' := 12) rfl (hb hby d2_3) rfl (tlt hc3).1 (by decide) (by decide)) ?_
    show own_Ends p e below s₁ (mkF m 12 #[.val (.int c_)] []) _
    exact J1  (Or.inl hc3)
  · refine own_go (fun _ => XS.icmpNo X0.here hx rfl (hb hby d2_3) rfl (flt hc3).1) ?_
    show own_Ends p e below s₁ (mkF m 6 #[.val (.int c_)] []) _
    refine own_go (fun _ => XS.iloadN X0.here hx rfl (hb hby d2_6) rfl) ?_
    show own_Ends p e below s₁ (mkF m 7 #[.val (.int c_)] [(.int c_)]) _
    refine own_go (fun _ => XS.bipush X0.here hx rfl (hb hby d2_7)) ?_
    show own_Ends p e below s₁ (mkF m 9 #[.val (.int c_)] [(.int (90 : Int32)), (.int c_)]) _
    by_cases hc9 : (90 : Int32) < c_
    · refine own_go (fun _ => XS.icmpNo X0.here hx rfl (hb hby d2_9) rfl (tlt hc9).2.2.2) ?_
      show own_Ends p e below s₁ (mkF m 12 #[.val (.int c_)] []) _
      exact J1  (Or.inr hc9)
    · refine own_go (fun _ => XS.icmpYes X0.here hx rfl (pc0 := 9) (pc' := 185) rfl (hb hby d2_9) rfl (flt hc9).2.2.2 (by decide) (by decide)) ?_
      show own_Ends p e below s₁ (mkF m 185 #[.val (.int c_)] []) _
      refine own_go (fun _ => XS.iconst X0.here hx rfl (hb hby d2_185)) ?_
      show own_Ends p e below s₁ (mkF m 186 #[.val (.int c_)] [(.int (1 : Int32))]) _
      refine own_go (fun _ => XS.goto X0.here hx rfl (pc0 := 186) (pc' := 190) rfl (hb hby d2_186) (by decide) (by decide)) ?_
      show own_Ends p e below s₁ (mkF m 190 #[.val (.int c_)] [(.int (1 : Int32))]) _
      obtain ⟨fs, hr, hrun, hended, hW, hsame⟩ := X0.leave (v := some (.int (1 : Int32))) (fun h => by rw [Bd.returns] at h; cases h)
      refine ⟨_, _, retN X0 hx (t := .boolean) Bd.returns (by simp) (hb hby d2_190) hr, hrun, hended, _, _, rfl, ?_, ⟨_, rfl⟩, hW, hsame.mono (by decide) (by decide)⟩
      show Q_rmBase Z c_ h0 n0 _ s₁.heap _
      rw [e0]
      exact ⟨_, rfl, by exact (show (1 : Int32) = own_base c_ from (if_neg fun q => Or.elim (q.1) hc3 hc9).symm), N0, rfl⟩
theorem d3_0 : decode method_5_code 0 = .ok (.iload_n 1, 1) := by decide +kernel
theorem d3_1 : decode method_5_code 1 = .ok (.aload_n 0, 1) := by decide +kernel
theorem d3_2 : decode method_5_code 2 = .ok (.iconst 0, 1) := by decide +kernel
theorem d3_3 : decode method_5_code 3 = .ok (.iaload, 1) := by decide +kernel
theorem d3_4 : decode method_5_code 4 = .ok (.invokestatic 31, 3) := by decide +kernel
theorem d3_7 : decode method_5_code 7 = .ok (.iload_n 1, 1) := by decide +kernel
theorem d3_8 : decode method_5_code 8 = .ok (.aload_n 0, 1) := by decide +kernel
theorem d3_9 : decode method_5_code 9 = .ok (.iconst 1, 1) := by decide +kernel
theorem d3_10 : decode method_5_code 10 = .ok (.iaload, 1) := by decide +kernel
theorem d3_11 : decode method_5_code 11 = .ok (.invokestatic 31, 3) := by decide +kernel
theorem d3_14 : decode method_5_code 14 = .ok (.iadd, 1) := by decide +kernel
theorem d3_15 : decode method_5_code 15 = .ok (.iload_n 1, 1) := by decide +kernel
theorem d3_16 : decode method_5_code 16 = .ok (.aload_n 0, 1) := by decide +kernel
theorem d3_17 : decode method_5_code 17 = .ok (.iconst 2, 1) := by decide +kernel
theorem d3_18 : decode method_5_code 18 = .ok (.iaload, 1) := by decide +kernel
theorem d3_19 : decode method_5_code 19 = .ok (.invokestatic 31, 3) := by decide +kernel
theorem d3_22 : decode method_5_code 22 = .ok (.iadd, 1) := by decide +kernel
theorem d3_23 : decode method_5_code 23 = .ok (.iload_n 1, 1) := by decide +kernel
theorem d3_24 : decode method_5_code 24 = .ok (.aload_n 0, 1) := by decide +kernel
theorem d3_25 : decode method_5_code 25 = .ok (.iconst 3, 1) := by decide +kernel
theorem d3_26 : decode method_5_code 26 = .ok (.iaload, 1) := by decide +kernel
theorem d3_27 : decode method_5_code 27 = .ok (.invokestatic 31, 3) := by decide +kernel
theorem d3_30 : decode method_5_code 30 = .ok (.iadd, 1) := by decide +kernel
theorem d3_31 : decode method_5_code 31 = .ok (.iload_n 1, 1) := by decide +kernel
theorem d3_32 : decode method_5_code 32 = .ok (.aload_n 0, 1) := by decide +kernel
theorem d3_33 : decode method_5_code 33 = .ok (.iconst 4, 1) := by decide +kernel
theorem d3_34 : decode method_5_code 34 = .ok (.iaload, 1) := by decide +kernel
theorem d3_35 : decode method_5_code 35 = .ok (.invokestatic 31, 3) := by decide +kernel
theorem d3_38 : decode method_5_code 38 = .ok (.iadd, 1) := by decide +kernel
theorem d3_39 : decode method_5_code 39 = .ok (.iload_n 1, 1) := by decide +kernel
theorem d3_40 : decode method_5_code 40 = .ok (.aload_n 0, 1) := by decide +kernel
theorem d3_41 : decode method_5_code 41 = .ok (.iconst 5, 1) := by decide +kernel
theorem d3_42 : decode method_5_code 42 = .ok (.iaload, 1) := by decide +kernel
theorem d3_43 : decode method_5_code 43 = .ok (.invokestatic 31, 3) := by decide +kernel
theorem d3_46 : decode method_5_code 46 = .ok (.iadd, 1) := by decide +kernel
theorem d3_47 : decode method_5_code 47 = .ok (.iload_n 1, 1) := by decide +kernel
theorem d3_48 : decode method_5_code 48 = .ok (.aload_n 0, 1) := by decide +kernel
theorem d3_49 : decode method_5_code 49 = .ok (.bipush 6, 2) := by decide +kernel
theorem d3_51 : decode method_5_code 51 = .ok (.iaload, 1) := by decide +kernel
theorem d3_52 : decode method_5_code 52 = .ok (.invokestatic 31, 3) := by decide +kernel
theorem d3_55 : decode method_5_code 55 = .ok (.iadd, 1) := by decide +kernel
theorem d3_56 : decode method_5_code 56 = .ok (.iload_n 1, 1) := by decide +kernel
theorem d3_57 : decode method_5_code 57 = .ok (.aload_n 0, 1) := by decide +kernel
theorem d3_58 : decode method_5_code 58 = .ok (.bipush 7, 2) := by decide +kernel
theorem d3_60 : decode method_5_code 60 = .ok (.iaload, 1) := by decide +kernel
theorem d3_61 : decode method_5_code 61 = .ok (.invokestatic 31, 3) := by decide +kernel
theorem d3_64 : decode method_5_code 64 = .ok (.iadd, 1) := by decide +kernel
theorem d3_65 : decode method_5_code 65 = .ok (.iload_n 1, 1) := by decide +kernel
theorem d3_66 : decode method_5_code 66 = .ok (.aload_n 0, 1) := by decide +kernel
theorem d3_67 : decode method_5_code 67 = .ok (.bipush 8, 2) := by decide +kernel
theorem d3_69 : decode method_5_code 69 = .ok (.iaload, 1) := by decide +kernel
theorem d3_70 : decode method_5_code 70 = .ok (.invokestatic 31, 3) := by decide +kernel
theorem d3_73 : decode method_5_code 73 = .ok (.iadd, 1) := by decide +kernel
theorem d3_74 : decode method_5_code 74 = .ok (.iload_n 1, 1) := by decide +kernel
theorem d3_75 : decode method_5_code 75 = .ok (.aload_n 0, 1) := by decide +kernel
theorem d3_76 : decode method_5_code 76 = .ok (.bipush 9, 2) := by decide +kernel
theorem d3_78 : decode method_5_code 78 = .ok (.iaload, 1) := by decide +kernel
theorem d3_79 : decode method_5_code 79 = .ok (.invokestatic 31, 3) := by decide +kernel
theorem d3_82 : decode method_5_code 82 = .ok (.iadd, 1) := by decide +kernel
theorem d3_83 : decode method_5_code 83 = .ok (.iload_n 1, 1) := by decide +kernel
theorem d3_84 : decode method_5_code 84 = .ok (.aload_n 0, 1) := by decide +kernel
theorem d3_85 : decode method_5_code 85 = .ok (.bipush 10, 2) := by decide +kernel
theorem d3_87 : decode method_5_code 87 = .ok (.iaload, 1) := by decide +kernel
theorem d3_88 : decode method_5_code 88 = .ok (.invokestatic 31, 3) := by decide +kernel
theorem d3_91 : decode method_5_code 91 = .ok (.iadd, 1) := by decide +kernel
theorem d3_92 : decode method_5_code 92 = .ok (.iload_n 1, 1) := by decide +kernel
theorem d3_93 : decode method_5_code 93 = .ok (.aload_n 0, 1) := by decide +kernel
theorem d3_94 : decode method_5_code 94 = .ok (.bipush 11, 2) := by decide +kernel
theorem d3_96 : decode method_5_code 96 = .ok (.iaload, 1) := by decide +kernel
theorem d3_97 : decode method_5_code 97 = .ok (.invokestatic 31, 3) := by decide +kernel
theorem d3_100 : decode method_5_code 100 = .ok (.iadd, 1) := by decide +kernel
theorem d3_101 : decode method_5_code 101 = .ok (.iload_n 1, 1) := by decide +kernel
theorem d3_102 : decode method_5_code 102 = .ok (.aload_n 0, 1) := by decide +kernel
theorem d3_103 : decode method_5_code 103 = .ok (.bipush 12, 2) := by decide +kernel
theorem d3_105 : decode method_5_code 105 = .ok (.iaload, 1) := by decide +kernel
theorem d3_106 : decode method_5_code 106 = .ok (.invokestatic 31, 3) := by decide +kernel
theorem d3_109 : decode method_5_code 109 = .ok (.iadd, 1) := by decide +kernel
theorem d3_110 : decode method_5_code 110 = .ok (.iload_n 1, 1) := by decide +kernel
theorem d3_111 : decode method_5_code 111 = .ok (.aload_n 0, 1) := by decide +kernel
theorem d3_112 : decode method_5_code 112 = .ok (.bipush 13, 2) := by decide +kernel
theorem d3_114 : decode method_5_code 114 = .ok (.iaload, 1) := by decide +kernel
theorem d3_115 : decode method_5_code 115 = .ok (.invokestatic 31, 3) := by decide +kernel
theorem d3_118 : decode method_5_code 118 = .ok (.iadd, 1) := by decide +kernel
theorem d3_119 : decode method_5_code 119 = .ok (.iload_n 1, 1) := by decide +kernel
theorem d3_120 : decode method_5_code 120 = .ok (.aload_n 0, 1) := by decide +kernel
theorem d3_121 : decode method_5_code 121 = .ok (.bipush 14, 2) := by decide +kernel
theorem d3_123 : decode method_5_code 123 = .ok (.iaload, 1) := by decide +kernel
theorem d3_124 : decode method_5_code 124 = .ok (.invokestatic 31, 3) := by decide +kernel
theorem d3_127 : decode method_5_code 127 = .ok (.iadd, 1) := by decide +kernel
theorem d3_128 : decode method_5_code 128 = .ok (.iload_n 1, 1) := by decide +kernel
theorem d3_129 : decode method_5_code 129 = .ok (.aload_n 0, 1) := by decide +kernel
theorem d3_130 : decode method_5_code 130 = .ok (.bipush 15, 2) := by decide +kernel
theorem d3_132 : decode method_5_code 132 = .ok (.iaload, 1) := by decide +kernel
theorem d3_133 : decode method_5_code 133 = .ok (.invokestatic 31, 3) := by decide +kernel
theorem d3_136 : decode method_5_code 136 = .ok (.iadd, 1) := by decide +kernel
theorem d3_137 : decode method_5_code 137 = .ok (.iload_n 1, 1) := by decide +kernel
theorem d3_138 : decode method_5_code 138 = .ok (.aload_n 0, 1) := by decide +kernel
theorem d3_139 : decode method_5_code 139 = .ok (.bipush 16, 2) := by decide +kernel
theorem d3_141 : decode method_5_code 141 = .ok (.iaload, 1) := by decide +kernel
theorem d3_142 : decode method_5_code 142 = .ok (.invokestatic 31, 3) := by decide +kernel
theorem d3_145 : decode method_5_code 145 = .ok (.iadd, 1) := by decide +kernel
theorem d3_146 : decode method_5_code 146 = .ok (.iload_n 1, 1) := by decide +kernel
theorem d3_147 : decode method_5_code 147 = .ok (.aload_n 0, 1) := by decide +kernel
theorem d3_148 : decode method_5_code 148 = .ok (.bipush 17, 2) := by decide +kernel
theorem d3_150 : decode method_5_code 150 = .ok (.iaload, 1) := by decide +kernel
theorem d3_151 : decode method_5_code 151 = .ok (.invokestatic 31, 3) := by decide +kernel
theorem d3_154 : decode method_5_code 154 = .ok (.iadd, 1) := by decide +kernel
theorem d3_155 : decode method_5_code 155 = .ok (.iload_n 1, 1) := by decide +kernel
theorem d3_156 : decode method_5_code 156 = .ok (.aload_n 0, 1) := by decide +kernel
theorem d3_157 : decode method_5_code 157 = .ok (.bipush 18, 2) := by decide +kernel
theorem d3_159 : decode method_5_code 159 = .ok (.iaload, 1) := by decide +kernel
theorem d3_160 : decode method_5_code 160 = .ok (.invokestatic 31, 3) := by decide +kernel
theorem d3_163 : decode method_5_code 163 = .ok (.iadd, 1) := by decide +kernel
theorem d3_164 : decode method_5_code 164 = .ok (.iload_n 1, 1) := by decide +kernel
theorem d3_165 : decode method_5_code 165 = .ok (.aload_n 0, 1) := by decide +kernel
theorem d3_166 : decode method_5_code 166 = .ok (.bipush 19, 2) := by decide +kernel
theorem d3_168 : decode method_5_code 168 = .ok (.iaload, 1) := by decide +kernel
theorem d3_169 : decode method_5_code 169 = .ok (.invokestatic 31, 3) := by decide +kernel
theorem d3_172 : decode method_5_code 172 = .ok (.iadd, 1) := by decide +kernel
theorem d3_173 : decode method_5_code 173 = .ok (.iload_n 1, 1) := by decide +kernel
theorem d3_174 : decode method_5_code 174 = .ok (.aload_n 0, 1) := by decide +kernel
theorem d3_175 : decode method_5_code 175 = .ok (.bipush 20, 2) := by decide +kernel
theorem d3_177 : decode method_5_code 177 = .ok (.iaload, 1) := by decide +kernel
theorem d3_178 : decode method_5_code 178 = .ok (.invokestatic 31, 3) := by decide +kernel
theorem d3_181 : decode method_5_code 181 = .ok (.iadd, 1) := by decide +kernel
theorem d3_182 : decode method_5_code 182 = .ok (.iload_n 1, 1) := by decide +kernel
theorem d3_183 : decode method_5_code 183 = .ok (.aload_n 0, 1) := by decide +kernel
theorem d3_184 : decode method_5_code 184 = .ok (.bipush 21, 2) := by decide +kernel
theorem d3_186 : decode method_5_code 186 = .ok (.iaload, 1) := by decide +kernel
theorem d3_187 : decode method_5_code 187 = .ok (.invokestatic 31, 3) := by decide +kernel
theorem d3_190 : decode method_5_code 190 = .ok (.iadd, 1) := by decide +kernel
theorem d3_191 : decode method_5_code 191 = .ok (.iload_n 1, 1) := by decide +kernel
theorem d3_192 : decode method_5_code 192 = .ok (.aload_n 0, 1) := by decide +kernel
theorem d3_193 : decode method_5_code 193 = .ok (.bipush 22, 2) := by decide +kernel
theorem d3_195 : decode method_5_code 195 = .ok (.iaload, 1) := by decide +kernel
theorem d3_196 : decode method_5_code 196 = .ok (.invokestatic 31, 3) := by decide +kernel
theorem d3_199 : decode method_5_code 199 = .ok (.iadd, 1) := by decide +kernel
theorem d3_200 : decode method_5_code 200 = .ok (.iload_n 1, 1) := by decide +kernel
theorem d3_201 : decode method_5_code 201 = .ok (.aload_n 0, 1) := by decide +kernel
theorem d3_202 : decode method_5_code 202 = .ok (.bipush 23, 2) := by decide +kernel
theorem d3_204 : decode method_5_code 204 = .ok (.iaload, 1) := by decide +kernel
theorem d3_205 : decode method_5_code 205 = .ok (.invokestatic 31, 3) := by decide +kernel
theorem d3_208 : decode method_5_code 208 = .ok (.iadd, 1) := by decide +kernel
theorem d3_209 : decode method_5_code 209 = .ok (.iload_n 1, 1) := by decide +kernel
theorem d3_210 : decode method_5_code 210 = .ok (.aload_n 0, 1) := by decide +kernel
theorem d3_211 : decode method_5_code 211 = .ok (.bipush 24, 2) := by decide +kernel
theorem d3_213 : decode method_5_code 213 = .ok (.iaload, 1) := by decide +kernel
theorem d3_214 : decode method_5_code 214 = .ok (.invokestatic 31, 3) := by decide +kernel
theorem d3_217 : decode method_5_code 217 = .ok (.iadd, 1) := by decide +kernel
theorem d3_218 : decode method_5_code 218 = .ok (.iload_n 1, 1) := by decide +kernel
theorem d3_219 : decode method_5_code 219 = .ok (.aload_n 0, 1) := by decide +kernel
theorem d3_220 : decode method_5_code 220 = .ok (.bipush 25, 2) := by decide +kernel
theorem d3_222 : decode method_5_code 222 = .ok (.iaload, 1) := by decide +kernel
theorem d3_223 : decode method_5_code 223 = .ok (.invokestatic 31, 3) := by decide +kernel
theorem d3_226 : decode method_5_code 226 = .ok (.iadd, 1) := by decide +kernel
theorem d3_227 : decode method_5_code 227 = .ok (.iload_n 1, 1) := by decide +kernel
theorem d3_228 : decode method_5_code 228 = .ok (.aload_n 0, 1) := by decide +kernel
theorem d3_229 : decode method_5_code 229 = .ok (.bipush 26, 2) := by decide +kernel
theorem d3_231 : decode method_5_code 231 = .ok (.iaload, 1) := by decide +kernel
theorem d3_232 : decode method_5_code 232 = .ok (.invokestatic 31, 3) := by decide +kernel
theorem d3_235 : decode method_5_code 235 = .ok (.iadd, 1) := by decide +kernel
theorem d3_236 : decode method_5_code 236 = .ok (.iload_n 1, 1) := by decide +kernel
theorem d3_237 : decode method_5_code 237 = .ok (.aload_n 0, 1) := by decide +kernel
theorem d3_238 : decode method_5_code 238 = .ok (.bipush 27, 2) := by decide +kernel
theorem d3_240 : decode method_5_code 240 = .ok (.iaload, 1) := by decide +kernel
theorem d3_241 : decode method_5_code 241 = .ok (.invokestatic 31, 3) := by decide +kernel
theorem d3_244 : decode method_5_code 244 = .ok (.iadd, 1) := by decide +kernel
theorem d3_245 : decode method_5_code 245 = .ok (.istore_n 2, 1) := by decide +kernel
theorem d3_246 : decode method_5_code 246 = .ok (.iload_n 2, 1) := by decide +kernel
theorem d3_247 : decode method_5_code 247 = .ok (.iconst 1, 1) := by decide +kernel
theorem d3_248 : decode method_5_code 248 = .ok (.iand, 1) := by decide +kernel
theorem d3_249 : decode method_5_code 249 = .ok (.iconst 1, 1) := by decide +kernel
theorem d3_250 : decode method_5_code 250 = .ok (.if_icmp .ne 7, 3) := by decide +kernel
theorem d3_253 : decode method_5_code 253 = .ok (.iconst 1, 1) := by decide +kernel
theorem d3_254 : decode method_5_code 254 = .ok (.goto 4, 3) := by decide +kernel
theorem d3_257 : decode method_5_code 257 = .ok (.iconst 0, 1) := by decide +kernel
theorem d3_258 : decode method_5_code 258 = .ok (.ireturn, 1) := by decide +kernel
theorem pn_3 : plainName "com/example/graphtide/graphtide/rdf/CharClassesIsPnCharsBasePinLaw" = true := by first | (simp [plainName, overriddenIn]; done) | decide +kernel
theorem ef_3 (m : MethodId) (a : Addr) (c_ : Int32) : entryFrame m #[(.ref a), (.int c_)] 3 = mkF m 0 #[.val (.ref a), .val (.int c_), .unset] [] := by first | (simp [entryFrame, mkF, argsToLocals, Value.category]; done) | rfl
def Q_rmIns (Z : State) (a : Addr) (c_ : Int32) (kl : ClassId) (h0 : Heap) (n0 : Nat) (v : Option Value) (h : Heap) (L : List Loc) : Prop := ∃ z_ : Int32, v = some (.int z_) ∧ z_ = own_inside c_ ∧ Fr n0 L ∧ h = h0
theorem pd_0 : parseMethodDescriptor "(II)I" = some ⟨[.int, .int], some .int⟩ := by decide +kernel
set_option maxRecDepth 65536 in
set_option maxHeartbeats 40000000 in
theorem rmIns (l : Launch) (Z : State) (a0 : Array Value) (hw : ∀ d ∈ tables_1, d.before a0 Z = true) (ws : List Jvm.Cond) (a : Addr) (c_ : Int32) (kl : ClassId) (h0 : Heap) (n0 : Nat) (Z0 : n0 ≤ h0.size) (V_a : Arv Z h0 a kl .int (28 : Int32) [(.int (65 : Int32)), (.int (91 : Int32)), (.int (97 : Int32)), (.int (123 : Int32)), (.int (192 : Int32)), (.int (215 : Int32)), (.int (216 : Int32)), (.int (247 : Int32)), (.int (248 : Int32)), (.int (768 : Int32)), (.int (880 : Int32)), (.int (894 : Int32)), (.int (895 : Int32)), (.int (8192 : Int32)), (.int (8204 : Int32)), (.int (8206 : Int32)), (.int (8304 : Int32)), (.int (8592 : Int32)), (.int (11264 : Int32)), (.int (12272 : Int32)), (.int (12289 : Int32)), (.int (55296 : Int32)), (.int (63744 : Int32)), (.int (64976 : Int32)), (.int (65008 : Int32)), (.int (65534 : Int32)), (.int (65536 : Int32)), (.int (983040 : Int32))] (.int (0 : Int32))) :
    MetFree l (⟨"com/example/graphtide/graphtide/rdf/CharClassesIsPnCharsBasePinLaw", "inside", "([II)Z"⟩ : MethodName) (head1 (Jvm.Cond.code (⟨"com/example/graphtide/graphtide/rdf/CharClassesIsPnCharsBasePinLaw", "inside", "([II)Z"⟩ : MethodName) method_5_code 3 (some .boolean) :: ws) ({ frames := 1, cells := 0, slots := 0, locals := 14 } : Room)) (fun aa U => aa = #[(.ref a), (.int c_)] ∧ Z.Warmed39 U.vm ∧ U.heap = h0) (fun _ _ _ _ _ => True) (fun _ U ou U' => ∃ v L, ou = .returned v ∧ Q_rmIns Z a c_ kl h0 n0 v U'.heap L ∧ FrameEnd U ou U' L ({ frames := 1, cells := 0, slots := 0, locals := 14 } : Room).cells ({ frames := 1, cells := 0, slots := 0, locals := 14 } : Room).slots) := by
  refine MetFree.of_bodySF (plainFor_of_name pn_3) hisR ?_
  intro p e s m args below meth c s₁ Bd hml0 hP hK
  obtain ⟨rfl, hZ, hh⟩ := hP
  have hx := Bd.exec
  have hby := Bd.bytes
  have hml : c.maxLocals = 3 := hml0
  have hown : s.vm.findClass "com/example/graphtide/graphtide/rdf/CharClassesIsPnCharsBasePinLaw" = some m.cls := findClass_of_methodNamed Bd.named
  have hnm := (name_of_methodNamed Bd.named Bd.method).1
  have X0 : Stand p l e ({ frames := 1, cells := 0, slots := 0, locals := 14 } : Room) s m #[(.ref a), (.int c_)] below meth c s₁ [] 0 0 := Stand.of_body Bd
  have e0 : s₁.heap = h0 := by rw [← hh, Bd.state]; rfl
  have N0 := Fr.nil n0
  have K0 := Keep.refl h0 []
  refine own_as (ef_3 m a c_) ?_
  show own_Ends p e below s₁ (mkF m 0 #[.val (.ref a), .val (.int c_), .unset] []) _
  refine own_go (fun _ => XS.iloadN X0.here hx rfl (hb hby d3_0) rfl) ?_
  show own_Ends p e below s₁ (mkF m 1 #[.val (.ref a), .val (.int c_), .unset] [(.int c_)]) _
  refine own_go (fun _ => XS.aloadN X0.here hx rfl (hb hby d3_1) rfl rfl) ?_
  show own_Ends p e below s₁ (mkF m 2 #[.val (.ref a), .val (.int c_), .unset] [(.ref a), (.int c_)]) _
  refine own_go (fun _ => XS.iconst X0.here hx rfl (hb hby d3_2)) ?_
  show own_Ends p e below s₁ (mkF m 3 #[.val (.ref a), .val (.int c_), .unset] [(.int (0 : Int32)), (.ref a), (.int c_)]) _
  obtain ⟨cl_1, Ar_1, q_1, S_1, M_1, H_1, G_1⟩ := id V_a
  have hin1 : ¬ ((0 : Int32) < 0 ∨ cl_1.slots.size ≤ ((0 : Int32)).toNatClampNeg) := inb_of S_1 ⟨by decide, by decide⟩
  have hat1 : cl_1.slots[((0 : Int32)).toNatClampNeg]? = some (.int (65 : Int32)) := Has.at H_1 hin1 (rfl)
  refine own_go (X0.iaload hx (j := (0 : Int32)) (v := (.int (65 : Int32))) (by rw [e0]; exact Ar_1.1) (State.isArrayOf_alike hZ.alike Ar_1.2.1) Ar_1.2.2 hin1 hat1 (g := (mkF m 3 #[.val (.ref a), .val (.int c_), .unset] [(.int (0 : Int32)), (.ref a), (.int c_)])) rfl rfl (hb hby d3_3)) ?_
  clear hat1 hin1 G_1 H_1 M_1 S_1 q_1 Ar_1
  try clear cl_1
  show own_Ends p e below s₁ (mkF m 4 #[.val (.ref a), .val (.int c_), .unset] [(.int (65 : Int32)), (.int c_)]) _
  obtain ⟨_, _, ⟨T2, L2, k2, n2⟩, -, X2, ⟨Lc2, hQ2, l2, y2, z2⟩, st2⟩ := Jvm.LawKit.callS X0 hx (y := (⟨"com/example/graphtide/graphtide/rdf/CharClassesIsPnCharsBasePinLaw", "ge", "(II)I"⟩ : MethodName)) hown (mvT hZ (hw _ (List.mem_of_getElem? (i := 23) rfl))) (mvT hZ (hw _ (List.mem_of_getElem? (i := 24) rfl))) (mvT hZ (hw _ (List.mem_of_getElem? (i := 2) rfl))) (mvT hZ (hw _ (List.mem_of_getElem? (i := 25) rfl))) (by decide) (backOf (W := 0) (rmGe l Z a0 hw [] c_ ((65 : Int32))  h0 n0 Z0 ) hZ (hw _ (List.mem_of_getElem? (i := 25) rfl)) (hw _ (List.mem_of_getElem? (i := 2) rfl)) (by decide) (by decide)) (g := (mkF m 4 #[.val (.ref a), .val (.int c_), .unset] [(.int (65 : Int32)), (.int c_)])) rfl (by rw [hml]; rfl) (argsL := [(.int c_), (.int (65 : Int32))]) (rest := []) (lenOf pd_0 rfl) rfl (by show 2 * 0 + _ ≤ _; exact Nat.le_of_eq rfl) (hb hby d3_4) (fun _ _ => ⟨rfl, e0, (by decide : 0 + 0 ≤ _), (by decide : 0 + 0 ≤ _)⟩)
  dsimp only [Pt.U, Pt.locs, Pt.cells, Pt.slots] at X2 l2 y2 z2 st2 hQ2
  replace y2 : k2 = 0 := y2
  replace z2 : n2 = 0 := z2
  subst l2 y2 z2
  refine own_go st2 ?_
  obtain ⟨zz2, rfl, hzz2, N2q, eh2⟩ := hQ2
  have N2 := Fr.app N0 N2q
  show own_Ends p e below T2 (mkF m 7 #[.val (.ref a), .val (.int c_), .unset] [(.int zz2)]) _
  suffices Jt2 : ∀ (T_ : State) (L_ : List Loc), Stand p l e ({ frames := 1, cells := 0, slots := 0, locals := 14 } : Room) s m #[(.ref a), (.int c_)] below meth c T_ L_ 0 0 → T_.heap = h0 → Fr n0 L_ → own_Ends p e below T_ (mkF m 7 #[.val (.ref a), .val (.int c_), .unset] [(.int zz2)]) (fun ou U' => ∃ v L, ou = .returned v ∧ Q_rmIns Z a c_ kl h0 n0 v U'.heap L ∧ FrameEnd s ou U' L ({ frames := 1, cells := 0, slots := 0, locals := 14 } : Room).cells ({ frames := 1, cells := 0, slots := 0, locals := 14 } : Room).slots) from Jt2 _ _ X2 eh2 N2
  clear st2 X2 N2 N2q eh2
  try clear Lc2
  try clear T2
  intro T2t L2t X2t eT2t N2t
  refine own_go (fun _ => XS.iloadN X2t.here hx rfl (hb hby d3_7) rfl) ?_
  show own_Ends p e below T2t (mkF m 8 #[.val (.ref a), .val (.int c_), .unset] [(.int c_), (.int zz2)]) _
  refine own_go (fun _ => XS.aloadN X2t.here hx rfl (hb hby d3_8) rfl rfl) ?_
  show own_Ends p e below T2t (mkF m 9 #[.val (.ref a), .val (.int c_), .unset] [(.ref a), (.int c_), (.int zz2)]) _
  refine own_go (fun _ => XS.iconst X2t.here hx rfl (hb hby d3_9)) ?_
  show own_Ends p e below T2t (mkF m 10 #[.val (.ref a), .val (.int c_), .unset] [(.int (1 : Int32)), (.ref a), (.int c_), (.int zz2)]) _
  obtain ⟨cl_3, Ar_3, q_3, S_3, M_3, H_3, G_3⟩ := id V_a
  have hin3 : ¬ ((1 : Int32) < 0 ∨ cl_3.slots.size ≤ ((1 : Int32)).toNatClampNeg) := inb_of S_3 ⟨by decide, by decide⟩
  have hat3 : cl_3.slots[((1 : Int32)).toNatClampNeg]? = some (.int (91 : Int32)) := Has.at H_3 hin3 (rfl)
  refine own_go (X2t.iaload hx (j := (1 : Int32)) (v := (.int (91 : Int32))) (by rw [eT2t]; exact Ar_3.1) (State.isArrayOf_alike hZ.alike Ar_3.2.1) Ar_3.2.2 hin3 hat3 (g := (mkF m 10 #[.val (.ref a), .val (.int c_), .unset] [(.int (1 : Int32)), (.ref a), (.int c_), (.int zz2)])) rfl rfl (hb hby d3_10)) ?_
  clear hat3 hin3 G_3 H_3 M_3 S_3 q_3 Ar_3
  try clear cl_3
  show own_Ends p e below T2t (mkF m 11 #[.val (.ref a), .val (.int c_), .unset] [(.int (91 : Int32)), (.int c_), (.int zz2)]) _
  obtain ⟨_, _, ⟨T4, L4, k4, n4⟩, -, X4, ⟨Lc4, hQ4, l4, y4, z4⟩, st4⟩ := Jvm.LawKit.callS X2t hx (y := (⟨"com/example/graphtide/graphtide/rdf/CharClassesIsPnCharsBasePinLaw", "ge", "(II)I"⟩ : MethodName)) hown (mvT hZ (hw _ (List.mem_of_getElem? (i := 23) rfl))) (mvT hZ (hw _ (List.mem_of_getElem? (i := 24) rfl))) (mvT hZ (hw _ (List.mem_of_getElem? (i := 2) rfl))) (mvT hZ (hw _ (List.mem_of_getElem? (i := 25) rfl))) (by decide) (backOf (W := 1) (rmGe l Z a0 hw [] c_ ((91 : Int32))  h0 n0 Z0 ) hZ (hw _ (List.mem_of_getElem? (i := 25) rfl)) (hw _ (List.mem_of_getElem? (i := 2) rfl)) (by decide) (by decide)) (g := (mkF m 11 #[.val (.ref a), .val (.int c_), .unset] [(.int (91 : Int32)), (.int c_), (.int zz2)])) rfl (by rw [hml]; rfl) (argsL := [(.int c_), (.int (91 : Int32))]) (rest := [(.int zz2)]) (lenOf pd_0 rfl) rfl (by show 2 * 0 + _ ≤ _; exact Nat.le_of_eq rfl) (hb hby d3_11) (fun _ _ => ⟨rfl, eT2t, (by decide : 0 + 0 ≤ _), (by decide : 0 + 0 ≤ _)⟩)
  dsimp only [Pt.U, Pt.locs, Pt.cells, Pt.slots] at X4 l4 y4 z4 st4 hQ4
  replace y4 : k4 = 0 := y4
  replace z4 : n4 = 0 := z4
  subst l4 y4 z4
  refine own_go st4 ?_
  obtain ⟨zz4, rfl, hzz4, N4q, eh4⟩ := hQ4
  have N4 := Fr.app N2t N4q
  show own_Ends p e below T4 (mkF m 14 #[.val (.ref a), .val (.int c_), .unset] [(.int zz4), (.int zz2)]) _
  suffices Jt4 : ∀ (T_ : State) (L_ : List Loc), Stand p l e ({ frames := 1, cells := 0, slots := 0, locals := 14 } : Room) s m #[(.ref a), (.int c_)] below meth c T_ L_ 0 0 → T_.heap = h0 → Fr n0 L_ → own_Ends p e below T_ (mkF m 14 #[.val (.ref a), .val (.int c_), .unset] [(.int zz4), (.int zz2)]) (fun ou U' => ∃ v L, ou = .returned v ∧ Q_rmIns Z a c_ kl h0 n0 v U'.heap L ∧ FrameEnd s ou U' L ({ frames := 1, cells := 0, slots := 0, locals := 14 } : Room).cells ({ frames := 1, cells := 0, slots := 0, locals := 14 } : Room).slots) from Jt4 _ _ X4 eh4 N4
  clear st4 X4 N4 N4q eh4
  try clear Lc4
  try clear T4
  try clear N2t
  try clear eT2t
  try clear X2t
  try clear L2t
  try clear T2t
  intro T4t L4t X4t eT4t N4t
  refine own_go (fun _ => XS.iadd X4t.here hx rfl (hb hby d3_14) rfl) ?_
  show own_Ends p e below T4t (mkF m 15 #[.val (.ref a), .val (.int c_), .unset] [(.int (zz2 + zz4))]) _
  refine own_go (fun _ => XS.iloadN X4t.here hx rfl (hb hby d3_15) rfl) ?_
  show own_Ends p e below T4t (mkF m 16 #[.val (.ref a), .val (.int c_), .unset] [(.int c_), (.int (zz2 + zz4))]) _
  refine own_go (fun _ => XS.aloadN X4t.here hx rfl (hb hby d3_16) rfl rfl) ?_
  show own_Ends p e below T4t (mkF m 17 #[.val (.ref a), .val (.int c_), .unset] [(.ref a), (.int c_), (.int (zz2 + zz4))]) _
  refine own_go (fun _ => XS.iconst X4t.here hx rfl (hb hby d3_17)) ?_
  show own_Ends p e below T4t (mkF m 18 #[.val (.ref a), .val (.int c_), .unset] [(.int (2 : Int32)), (.ref a), (.int c_), (.int (zz2 + zz4))]) _
  obtain ⟨cl_5, Ar_5, q_5, S_5, M_5, H_5, G_5⟩ := id V_a
  have hin5 : ¬ ((2 : Int32) < 0 ∨ cl_5.slots.size ≤ ((2 : Int32)).toNatClampNeg) := inb_of S_5 ⟨by decide, by decide⟩
  have hat5 : cl_5.slots[((2 : Int32)).toNatClampNeg]? = some (.int (97 : Int32)) := Has.at H_5 hin5 (rfl)
  refine own_go (X4t.iaload hx (j := (2 : Int32)) (v := (.int (97 : Int32))) (by rw [eT4t]; exact Ar_5.1) (State.isArrayOf_alike hZ.alike Ar_5.2.1) Ar_5.2.2 hin5 hat5 (g := (mkF m 18 #[.val (.ref a), .val (.int c_), .unset] [(.int (2 : Int32)), (.ref a), (.int c_), (.int (zz2 + zz4))])) rfl rfl (hb hby d3_18)) ?_
  clear hat5 hin5 G_5 H_5 M_5 S_5 q_5 Ar_5
  try clear cl_5
  show own_Ends p e below T4t (mkF m 19 #[.val (.ref a), .val (.int c_), .unset] [(.int (97 : Int32)), (.int c_), (.int (zz2 + zz4))]) _
  obtain ⟨_, _, ⟨T6, L6, k6, n6⟩, -, X6, ⟨Lc6, hQ6, l6, y6, z6⟩, st6⟩ := Jvm.LawKit.callS X4t hx (y := (⟨"com/example/graphtide/graphtide/rdf/CharClassesIsPnCharsBasePinLaw", "ge", "(II)I"⟩ : MethodName)) hown (mvT hZ (hw _ (List.mem_of_getElem? (i := 23) rfl))) (mvT hZ (hw _ (List.mem_of_getElem? (i := 24) rfl))) (mvT hZ (hw _ (List.mem_of_getElem? (i := 2) rfl))) (mvT hZ (hw _ (List.mem_of_getElem? (i := 25) rfl))) (by decide) (backOf (W := 1) (rmGe l Z a0 hw [] c_ ((97 : Int32))  h0 n0 Z0 ) hZ (hw _ (List.mem_of_getElem? (i := 25) rfl)) (hw _ (List.mem_of_getElem? (i := 2) rfl)) (by decide) (by decide)) (g := (mkF m 19 #[.val (.ref a), .val (.int c_), .unset] [(.int (97 : Int32)), (.int c_), (.int (zz2 + zz4))])) rfl (by rw [hml]; rfl) (argsL := [(.int c_), (.int (97 : Int32))]) (rest := [(.int (zz2 + zz4))]) (lenOf pd_0 rfl) rfl (by show 2 * 0 + _ ≤ _; exact Nat.le_of_eq rfl) (hb hby d3_19) (fun _ _ => ⟨rfl, eT4t, (by decide : 0 + 0 ≤ _), (by decide : 0 + 0 ≤ _)⟩)
  dsimp only [Pt.U, Pt.locs, Pt.cells, Pt.slots] at X6 l6 y6 z6 st6 hQ6
  replace y6 : k6 = 0 := y6
  replace z6 : n6 = 0 := z6
  subst l6 y6 z6
  refine own_go st6 ?_
  obtain ⟨zz6, rfl, hzz6, N6q, eh6⟩ := hQ6
  have N6 := Fr.app N4t N6q
  show own_Ends p e below T6 (mkF m 22 #[.val (.ref a), .val (.int c_), .unset] [(.int zz6), (.int (zz2 + zz4))]) _
  suffices Jt6 : ∀ (T_ : State) (L_ : List Loc), Stand p l e ({ frames := 1, cells := 0, slots := 0, locals := 14 } : Room) s m #[(.ref a), (.int c_)] below meth c T_ L_ 0 0 → T_.heap = h0 → Fr n0 L_ → own_Ends p e below T_ (mkF m 22 #[.val (.ref a), .val (.int c_), .unset] [(.int zz6), (.int (zz2 + zz4))]) (fun ou U' => ∃ v L, ou = .returned v ∧ Q_rmIns Z a c_ kl h0 n0 v U'.heap L ∧ FrameEnd s ou U' L ({ frames := 1, cells := 0, slots := 0, locals := 14 } : Room).cells ({ frames := 1, cells := 0, slots := 0, locals := 14 } : Room).slots) from Jt6 _ _ X6 eh6 N6
  clear st6 X6 N6 N6q eh6
  try clear Lc6
  try clear T6
  try clear N4t
  try clear eT4t
  try clear X4t
  try clear L4t
  try clear T4t
  intro T6t L6t X6t eT6t N6t
  refine own_go (fun _ => XS.iadd X6t.here hx rfl (hb hby d3_22) rfl) ?_
  show own_Ends p e below T6t (mkF m 23 #[.val (.ref a), .val (.int c_), .unset] [(.int ((zz2 + zz4) + zz6))]) _
  refine own_go (fun _ => XS.iloadN X6t.here hx rfl (hb hby d3_23) rfl) ?_
  show own_Ends p e below T6t (mkF m 24 #[.val (.ref a), .val (.int c_), .unset] [(.int c_), (.int ((zz2 + zz4) + zz6))]) _
  refine own_go (fun _ => XS.aloadN X6t.here hx rfl (hb hby d3_24) rfl rfl) ?_
  show own_Ends p e below T6t (mkF m 25 #[.val (.ref a), .val (.int c_), .unset] [(.ref a), (.int c_), (.int ((zz2 + zz4) + zz6))]) _
  refine own_go (fun _ => XS.iconst X6t.here hx rfl (hb hby d3_25)) ?_
  show own_Ends p e below T6t (mkF m 26 #[.val (.ref a), .val (.int c_), .unset] [(.int (3 : Int32)), (.ref a), (.int c_), (.int ((zz2 + zz4) + zz6))]) _
  obtain ⟨cl_7, Ar_7, q_7, S_7, M_7, H_7, G_7⟩ := id V_a
  have hin7 : ¬ ((3 : Int32) < 0 ∨ cl_7.slots.size ≤ ((3 : Int32)).toNatClampNeg) := inb_of S_7 ⟨by decide, by decide⟩
  have hat7 : cl_7.slots[((3 : Int32)).toNatClampNeg]? = some (.int (123 : Int32)) := Has.at H_7 hin7 (rfl)
  refine own_go (X6t.iaload hx (j := (3 : Int32)) (v := (.int (123 : Int32))) (by rw [eT6t]; exact Ar_7.1) (State.isArrayOf_alike hZ.alike Ar_7.2.1) Ar_7.2.2 hin7 hat7 (g := (mkF m 26 #[.val (.ref a), .val (.int c_), .unset] [(.int (3 : Int32)), (.ref a), (.int c_), (.int ((zz2 + zz4) + zz6))])) rfl rfl (hb hby d3_26)) ?_
  clear hat7 hin7 G_7 H_7 M_7 S_7 q_7 Ar_7
  try clear cl_7
  show own_Ends p e below T6t (mkF m 27 #[.val (.ref a), .val (.int c_), .unset] [(.int (123 : Int32)), (.int c_), (.int ((zz2 + zz4) + zz6))]) _
  obtain ⟨_, _, ⟨T8, L8, k8, n8⟩, -, X8, ⟨Lc8, hQ8, l8, y8, z8⟩, st8⟩ := Jvm.LawKit.callS X6t hx (y := (⟨"com/example/graphtide/graphtide/rdf/CharClassesIsPnCharsBasePinLaw", "ge", "(II)I"⟩ : MethodName)) hown (mvT hZ (hw _ (List.mem_of_getElem? (i := 23) rfl))) (mvT hZ (hw _ (List.mem_of_getElem? (i := 24) rfl))) (mvT hZ (hw _ (List.mem_of_getElem? (i := 2) rfl))) (mvT hZ (hw _ (List.mem_of_getElem? (i := 25) rfl))) (by decide) (backOf (W := 1) (rmGe l Z a0 hw [] c_ ((123 : Int32))  h0 n0 Z0 ) hZ (hw _ (List.mem_of_getElem? (i := 25) rfl)) (hw _ (List.mem_of_getElem? (i := 2) rfl)) (by decide) (by decide)) (g := (mkF m 27 #[.val (.ref a), .val (.int c_), .unset] [(.int (123 : Int32)), (.int c_), (.int ((zz2 + zz4) + zz6))])) rfl (by rw [hml]; rfl) (argsL := [(.int c_), (.int (123 : Int32))]) (rest := [(.int ((zz2 + zz4) + zz6))]) (lenOf pd_0 rfl) rfl (by show 2 * 0 + _ ≤ _; exact Nat.le_of_eq rfl) (hb hby d3_27) (fun _ _ => ⟨rfl, eT6t, (by decide : 0 + 0 ≤ _), (by decide : 0 + 0 ≤ _)⟩)
  dsimp only [Pt.U, Pt.locs, Pt.cells, Pt.slots] at X8 l8 y8 z8 st8 hQ8
  replace y8 : k8 = 0 := y8
  replace z8 : n8 = 0 := z8
  subst l8 y8 z8
  refine own_go st8 ?_
  obtain ⟨zz8, rfl, hzz8, N8q, eh8⟩ := hQ8
  have N8 := Fr.app N6t N8q
  show own_Ends p e below T8 (mkF m 30 #[.val (.ref a), .val (.int c_), .unset] [(.int zz8), (.int ((zz2 + zz4) + zz6))]) _
  suffices Jt8 : ∀ (T_ : State) (L_ : List Loc), Stand p l e ({ frames := 1, cells := 0, slots := 0, locals := 14 } : Room) s m #[(.ref a), (.int c_)] below meth c T_ L_ 0 0 → T_.heap = h0 → Fr n0 L_ → own_Ends p e below T_ (mkF m 30 #[.val (.ref a), .val (.int c_), .unset] [(.int zz8), (.int ((zz2 + zz4) + zz6))]) (fun ou U' => ∃ v L, ou = .returned v ∧ Q_rmIns Z a c_ kl h0 n0 v U'.heap L ∧ FrameEnd s ou U' L ({ frames := 1, cells := 0, slots := 0, locals := 14 } : Room).cells ({ frames := 1, cells := 0, slots := 0, locals := 14 } : Room).slots) from Jt8 _ _ X8 eh8 N8
  clear st8 X8 N8 N8q eh8
  try clear Lc8
  try clear T8
  try clear N6t
  try clear eT6t
  try clear X6t
  try clear L6t
  try clear T6t
  intro T8t L8t X8t eT8t N8t
  refine own_go (fun _ => XS.iadd X8t.here hx rfl (hb hby d3_30) rfl) ?_
  show own_Ends p e below T8t (mkF m 31 #[.val (.ref a), .val (.int c_), .unset] [(.int (((zz2 + zz4) + zz6) + zz8))]) _
  refine own_go (fun _ => XS.iloadN X8t.here hx rfl (hb hby d3_31) rfl) ?_
  show own_Ends p e below T8t (mkF m 32 #[.val (.ref a), .val (.int c_), .unset] [(.int c_), (.int (((zz2 + zz4) + zz6) + zz8))]) _
  refine own_go (fun _ => XS.aloadN X8t.here hx rfl (hb hby d3_32) rfl rfl) ?_
  show own_Ends p e below T8t (mkF m 33 #[.val (.ref a), .val (.int c_), .unset] [(.ref a), (.int c_), (.int (((zz2 + zz4) + zz6) + zz8))]) _
  refine own_go (fun _ => XS.iconst X8t.here hx rfl (hb hby d3_33)) ?_
  show own_Ends p e below T8t (mkF m 34 #[.val (.ref a), .val (.int c_), .unset] [(.int (4 : Int32)), (.ref a), (.int c_), (.int (((zz2 + zz4) + zz6) + zz8))]) _
  obtain ⟨cl_9, Ar_9, q_9, S_9, M_9, H_9, G_9⟩ := id V_a
  have hin9 : ¬ ((4 : Int32) < 0 ∨ cl_9.slots.size ≤ ((4 : Int32)).toNatClampNeg) := inb_of S_9 ⟨by decide, by decide⟩
  have hat9 : cl_9.slots[((4 : Int32)).toNatClampNeg]? = some (.int (192 : Int32)) := Has.at H_9 hin9 (rfl)
  refine own_go (X8t.iaload hx (j := (4 : Int32)) (v := (.int (192 : Int32))) (by rw [eT8t]; exact Ar_9.1) (State.isArrayOf_alike hZ.alike Ar_9.2.1) Ar_9.2.2 hin9 hat9 (g := (mkF m 34 #[.val (.ref a), .val (.int c_), .unset] [(.int (4 : Int32)), (.ref a), (.int c_), (.int (((zz2 + zz4) + zz6) + zz8))])) rfl rfl (hb hby d3_34)) ?_
  clear hat9 hin9 G_9 H_9 M_9 S_9 q_9 Ar_9
  try clear cl_9
  show own_Ends p e below T8t (mkF m 35 #[.val (.ref a), .val (.int c_), .unset] [(.int (192 : Int32)), (.int c_), (.int (((zz2 + zz4) + zz6) + zz8))]) _
  obtain ⟨_, _, ⟨T10, L10, k10, n10⟩, -, X10, ⟨Lc10, hQ10, l10, y10, z10⟩, st10⟩ := Jvm.LawKit.callS X8t hx (y := (⟨"com/example/graphtide/graphtide/rdf/CharClassesIsPnCharsBasePinLaw", "ge", "(II)I"⟩ : MethodName)) hown (mvT hZ (hw _ (List.mem_of_getElem? (i := 23) rfl))) (mvT hZ (hw _ (List.mem_of_getElem? (i := 24) rfl))) (mvT hZ (hw _ (List.mem_of_getElem? (i := 2) rfl))) (mvT hZ (hw _ (List.mem_of_getElem? (i := 25) rfl))) (by decide) (backOf (W := 1) (rmGe l Z a0 hw [] c_ ((192 : Int32))  h0 n0 Z0 ) hZ (hw _ (List.mem_of_getElem? (i := 25) rfl)) (hw _ (List.mem_of_getElem? (i := 2) rfl)) (by decide) (by decide)) (g := (mkF m 35 #[.val (.ref a), .val (.int c_), .unset] [(.int (192 : Int32)), (.int c_), (.int (((zz2 + zz4) + zz6) + zz8))])) rfl (by rw [hml]; rfl) (argsL := [(.int c_), (.int (192 : Int32))]) (rest := [(.int (((zz2 + zz4) + zz6) + zz8))]) (lenOf pd_0 rfl) rfl (by show 2 * 0 + _ ≤ _; exact Nat.le_of_eq rfl) (hb hby d3_35) (fun _ _ => ⟨rfl, eT8t, (by decide : 0 + 0 ≤ _), (by decide : 0 + 0 ≤ _)⟩)
  dsimp only [Pt.U, Pt.locs, Pt.cells, Pt.slots] at X10 l10 y10 z10 st10 hQ10
  replace y10 : k10 = 0 := y10
  replace z10 : n10 = 0 := z10
  subst l10 y10 z10
  refine own_go st10 ?_
  obtain ⟨zz10, rfl, hzz10, N10q, eh10⟩ := hQ10
  have N10 := Fr.app N8t N10q
  show own_Ends p e below T10 (mkF m 38 #[.val (.ref a), .val (.int c_), .unset] [(.int zz10), (.int (((zz2 + zz4) + zz6) + zz8))]) _
  suffices Jt10 : ∀ (T_ : State) (L_ : List Loc), Stand p l e ({ frames := 1, cells := 0, slots := 0, locals := 14 } : Room) s m #[(.ref a), (.int c_)] below meth c T_ L_ 0 0 → T_.heap = h0 → Fr n0 L_ → own_Ends p e below T_ (mkF m 38 #[.val (.ref a), .val (.int c_), .unset] [(.int zz10), (.int (((zz2 + zz4) + zz6) + zz8))]) (fun ou U' => ∃ v L, ou = .returned v ∧ Q_rmIns Z a c_ kl h0 n0 v U'.heap L ∧ FrameEnd s ou U' L ({ frames := 1, cells := 0, slots := 0, locals := 14 } : Room).cells ({ frames := 1, cells := 0, slots := 0, locals := 14 } : Room).slots) from Jt10 _ _ X10 eh10 N10
  clear st10 X10 N10 N10q eh10
  try clear Lc10
  try clear T10
  try clear N8t
  try clear eT8t
  try clear X8t
  try clear L8t
  try clear T8t
  intro T10t L10t X10t eT10t N10t
  refine own_go (fun _ => XS.iadd X10t.here hx rfl (hb hby d3_38) rfl) ?_
  show own_Ends p e below T10t (mkF m 39 #[.val (.ref a), .val (.int c_), .unset] [(.int ((((zz2 + zz4) + zz6) + zz8) + zz10))]) _
  refine own_go (fun _ => XS.iloadN X10t.here hx rfl (hb hby d3_39) rfl) ?_
  show own_Ends p e below T10t (mkF m 40 #[.val (.ref a), .val (.int c_), .unset] [(.int c_), (.int ((((zz2 + zz4) + zz6) + zz8) + zz10))]) _
  refine own_go (fun _ => XS.aloadN X10t.here hx rfl (hb hby d3_40) rfl rfl) ?_
  show own_Ends p e below T10t (mkF m 41 #[.val (.ref a), .val (.int c_), .unset] [(.ref a), (.int c_), (.int ((((zz2 + zz4) + zz6) + zz8) + zz10))]) _
  refine own_go (fun _ => XS.iconst X10t.here hx rfl (hb hby d3_41)) ?_
  show own_Ends p e below T10t (mkF m 42 #[.val (.ref a), .val (.int c_), .unset] [(.int (5 : Int32)), (.ref a), (.int c_), (.int ((((zz2 + zz4) + zz6) + zz8) + zz10))]) _
  obtain ⟨cl_11, Ar_11, q_11, S_11, M_11, H_11, G_11⟩ := id V_a
  have hin11 : ¬ ((5 : Int32) < 0 ∨ cl_11.slots.size ≤ ((5 : Int32)).toNatClampNeg) := inb_of S_11 ⟨by decide, by decide⟩
  have hat11 : cl_11.slots[((5 : Int32)).toNatClampNeg]? = some (.int (215 : Int32)) := Has.at H_11 hin11 (rfl)
  refine own_go (X10t.iaload hx (j := (5 : Int32)) (v := (.int (215 : Int32))) (by rw [eT10t]; exact Ar_11.1) (State.isArrayOf_alike hZ.alike Ar_11.2.1) Ar_11.2.2 hin11 hat11 (g := (mkF m 42 #[.val (.ref a), .val (.int c_), .unset] [(.int (5 : Int32)), (.ref a), (.int c_), (.int ((((zz2 + zz4) + zz6) + zz8) + zz10))])) rfl rfl (hb hby d3_42)) ?_
  clear hat11 hin11 G_11 H_11 M_11 S_11 q_11 Ar_11
  try clear cl_11
  show own_Ends p e below T10t (mkF m 43 #[.val (.ref a), .val (.int c_), .unset] [(.int (215 : Int32)), (.int c_), (.int ((((zz2 + zz4) + zz6) + zz8) + zz10))]) _
  obtain ⟨_, _, ⟨T12, L12, k12, n12⟩, -, X12, ⟨Lc12, hQ12, l12, y12, z12⟩, st12⟩ := Jvm.LawKit.callS X10t hx (y := (⟨"com/example/graphtide/graphtide/rdf/CharClassesIsPnCharsBasePinLaw", "ge", "(II)I"⟩ : MethodName)) hown (mvT hZ (hw _ (List.mem_of_getElem? (i := 23) rfl))) (mvT hZ (hw _ (List.mem_of_getElem? (i := 24) rfl))) (mvT hZ (hw _ (List.mem_of_getElem? (i := 2) rfl))) (mvT hZ (hw _ (List.mem_of_getElem? (i := 25) rfl))) (by decide) (backOf (W := 1) (rmGe l Z a0 hw [] c_ ((215 : Int32))  h0 n0 Z0 ) hZ (hw _ (List.mem_of_getElem? (i := 25) rfl)) (hw _ (List.mem_of_getElem? (i := 2) rfl)) (by decide) (by decide)) (g := (mkF m 43 #[.val (.ref a), .val (.int c_), .unset] [(.int (215 : Int32)), (.int c_), (.int ((((zz2 + zz4) + zz6) + zz8) + zz10))])) rfl (by rw [hml]; rfl) (argsL := [(.int c_), (.int (215 : Int32))]) (rest := [(.int ((((zz2 + zz4) + zz6) + zz8) + zz10))]) (lenOf pd_0 rfl) rfl (by show 2 * 0 + _ ≤ _; exact Nat.le_of_eq rfl) (hb hby d3_43) (fun _ _ => ⟨rfl, eT10t, (by decide : 0 + 0 ≤ _), (by decide : 0 + 0 ≤ _)⟩)
  dsimp only [Pt.U, Pt.locs, Pt.cells, Pt.slots] at X12 l12 y12 z12 st12 hQ12
  replace y12 : k12 = 0 := y12
  replace z12 : n12 = 0 := z12
  subst l12 y12 z12
  refine own_go st12 ?_
  obtain ⟨zz12, rfl, hzz12, N12q, eh12⟩ := hQ12
  have N12 := Fr.app N10t N12q
  show own_Ends p e below T12 (mkF m 46 #[.val (.ref a), .val (.int c_), .unset] [(.int zz12), (.int ((((zz2 + zz4) + zz6) + zz8) + zz10))]) _
  suffices Jt12 : ∀ (T_ : State) (L_ : List Loc), Stand p l e ({ frames := 1, cells := 0, slots := 0, locals := 14 } : Room) s m #[(.ref a), (.int c_)] below meth c T_ L_ 0 0 → T_.heap = h0 → Fr n0 L_ → own_Ends p e below T_ (mkF m 46 #[.val (.ref a), .val (.int c_), .unset] [(.int zz12), (.int ((((zz2 + zz4) + zz6) + zz8) + zz10))]) (fun ou U' => ∃ v L, ou = .returned v ∧ Q_rmIns Z a c_ kl h0 n0 v U'.heap L ∧ FrameEnd s ou U' L ({ frames := 1, cells := 0, slots := 0, locals := 14 } : Room).cells ({ frames := 1, cells := 0, slots := 0, locals := 14 } : Room).slots) from Jt12 _ _ X12 eh12 N12
  clear st12 X12 N12 N12q eh12
  try clear Lc12
  try clear T12
  try clear N10t
  try clear eT10t
  try clear X10t
  try clear L10t
  try clear T10t
  intro T12t L12t X12t eT12t N12t
  refine own_go (fun _ => XS.iadd X12t.here hx rfl (hb hby d3_46) rfl) ?_
  show own_Ends p e below T12t (mkF m 47 #[.val (.ref a), .val (.int c_), .unset] [(.int (((((zz2 + zz4) + zz6) + zz8) + zz10) + zz12))]) _
  refine own_go (fun _ => XS.iloadN X12t.here hx rfl (hb hby d3_47) rfl) ?_
  show own_Ends p e below T12t (mkF m 48 #[.val (.ref a), .val (.int c_), .unset] [(.int c_), (.int (((((zz2 + zz4) + zz6) + zz8) + zz10) + zz12))]) _
  refine own_go (fun _ => XS.aloadN X12t.here hx rfl (hb hby d3_48) rfl rfl) ?_
  show own_Ends p e below T12t (mkF m 49 #[.val (.ref a), .val (.int c_), .unset] [(.ref a), (.int c_), (.int (((((zz2 + zz4) + zz6) + zz8) + zz10) + zz12))]) _
  refine own_go (fun _ => XS.bipush X12t.here hx rfl (hb hby d3_49)) ?_
  show own_Ends p e below T12t (mkF m 51 #[.val (.ref a), .val (.int c_), .unset] [(.int (6 : Int32)), (.ref a), (.int c_), (.int (((((zz2 + zz4) + zz6) + zz8) + zz10) + zz12))]) _
  obtain ⟨cl_13, Ar_13, q_13, S_13, M_13, H_13, G_13⟩ := id V_a
  have hin13 : ¬ ((6 : Int32) < 0 ∨ cl_13.slots.size ≤ ((6 : Int32)).toNatClampNeg) := inb_of S_13 ⟨by decide, by decide⟩
  have hat13 : cl_13.slots[((6 : Int32)).toNatClampNeg]? = some (.int (216 : Int32)) := Has.at H_13 hin13 (rfl)
  refine own_go (X12t.iaload hx (j := (6 : Int32)) (v := (.int (216 : Int32))) (by rw [eT12t]; exact Ar_13.1) (State.isArrayOf_alike hZ.alike Ar_13.2.1) Ar_13.2.2 hin13 hat13 (g := (mkF m 51 #[.val (.ref a), .val (.int c_), .unset] [(.int (6 : Int32)), (.ref a), (.int c_), (.int (((((zz2 + zz4) + zz6) + zz8) + zz10) + zz12))])) rfl rfl (hb hby d3_51)) ?_
  clear hat13 hin13 G_13 H_13 M_13 S_13 q_13 Ar_13
  try clear cl_13
  show own_Ends p e below T12t (mkF m 52 #[.val (.ref a), .val (.int c_), .unset] [(.int (216 : Int32)), (.int c_), (.int (((((zz2 + zz4) + zz6) + zz8) + zz10) + zz12))]) _
  obtain ⟨_, _, ⟨T14, L14, k14, n14⟩, -, X14, ⟨Lc14, hQ14, l14, y14, z14⟩, st14⟩ := Jvm.LawKit.callS X12t hx (y := (⟨"com/example/graphtide/graphtide/rdf/CharClassesIsPnCharsBasePinLaw", "ge", "(II)I"⟩ : MethodName)) hown (mvT hZ (hw _ (List.mem_of_getElem? (i := 23) rfl))) (mvT hZ (hw _ (List.mem_of_getElem? (i := 24) rfl))) (mvT hZ (hw _ (List.mem_of_getElem? (i := 2) rfl))) (mvT hZ (hw _ (List.mem_of_getElem? (i := 25) rfl))) (by decide) (backOf (W := 1) (rmGe l Z a0 hw [] c_ ((216 : Int32))  h0 n0 Z0 ) hZ (hw _ (List.mem_of_getElem? (i := 25) rfl)) (hw _ (List.mem_of_getElem? (i := 2) rfl)) (by decide) (by decide)) (g := (mkF m 52 #[.val (.ref a), .val (.int c_), .unset] [(.int (216 : Int32)), (.int c_), (.int (((((zz2 + zz4) + zz6) + zz8) + zz10) + zz12))])) rfl (by rw [hml]; rfl) (argsL := [(.int c_), (.int (216 : Int32))]) (rest := [(.int (((((zz2 + zz4) + zz6) + zz8) + zz10) + zz12))]) (lenOf pd_0 rfl) rfl (by show 2 * 0 + _ ≤ _; exact Nat.le_of_eq rfl) (hb hby d3_52) (fun _ _ => ⟨rfl, eT12t, (by decide : 0 + 0 ≤ _), (by decide : 0 + 0 ≤ _)⟩)
  dsimp only [Pt.U, Pt.locs, Pt.cells, Pt.slots] at X14 l14 y14 z14 st14 hQ14
  replace y14 : k14 = 0 := y14
  replace z14 : n14 = 0 := z14
  subst l14 y14 z14
  refine own_go st14 ?_
  obtain ⟨zz14, rfl, hzz14, N14q, eh14⟩ := hQ14
  have N14 := Fr.app N12t N14q
  show own_Ends p e below T14 (mkF m 55 #[.val (.ref a), .val (.int c_), .unset] [(.int zz14), (.int (((((zz2 + zz4) + zz6) + zz8) + zz10) + zz12))]) _
  suffices Jt14 : ∀ (T_ : State) (L_ : List Loc), Stand p l e ({ frames := 1, cells := 0, slots := 0, locals := 14 } : Room) s m #[(.ref a), (.int c_)] below meth c T_ L_ 0 0 → T_.heap = h0 → Fr n0 L_ → own_Ends p e below T_ (mkF m 55 #[.val (.ref a), .val (.int c_), .unset] [(.int zz14), (.int (((((zz2 + zz4) + zz6) + zz8) + zz10) + zz12))]) (fun ou U' => ∃ v L, ou = .returned v ∧ Q_rmIns Z a c_ kl h0 n0 v U'.heap L ∧ FrameEnd s ou U' L ({ frames := 1, cells := 0, slots := 0, locals := 14 } : Room).cells ({ frames := 1, cells := 0, slots := 0, locals := 14 } : Room).slots) from Jt14 _ _ X14 eh14 N14
  clear st14 X14 N14 N14q eh14
  try clear Lc14
  try clear T14
  try clear N12t
  try clear eT12t
  try clear X12t
  try clear L12t
  try clear T12t
  intro T14t L14t X14t eT14t N14t
  refine own_go (fun _ => XS.iadd X14t.here hx rfl (hb hby d3_55) rfl) ?_
  show own_Ends p e below T14t (mkF m 56 #[.val (.ref a), .val (.int c_), .unset] [(.int ((((((zz2 + zz4) + zz6) + zz8) + zz10) + zz12) + zz14))]) _
  refine own_go (fun _ => XS.iloadN X14t.here hx rfl (hb hby d3_56) rfl) ?_
  show own_Ends p e below T14t (mkF m 57 #[.val (.ref a), .val (.int c_), .unset] [(.int c_), (.int ((((((zz2 + zz4) + zz6) + zz8) + zz10) + zz12) + zz14))]) _
  refine own_go (fun _ => XS.aloadN X14t.here hx rfl (hb hby d3_57) rfl rfl) ?_
  show own_Ends p e below T14t (mkF m 58 #[.val (.ref a), .val (.int c_), .unset] [(.ref a), (.int c_), (.int ((((((zz2 + zz4) + zz6) + zz8) + zz10) + zz12) + zz14))]) _
  refine own_go (fun _ => XS.bipush X14t.here hx rfl (hb hby d3_58)) ?_
  show own_Ends p e below T14t (mkF m 60 #[.val (.ref a), .val (.int c_), .unset] [(.int (7 : Int32)), (.ref a), (.int c_), (.int ((((((zz2 + zz4) + zz6) + zz8) + zz10) + zz12) + zz14))]) _
  obtain ⟨cl_15, Ar_15, q_15, S_15, M_15, H_15, G_15⟩ := id V_a
  have hin15 : ¬ ((7 : Int32) < 0 ∨ cl_15.slots.size ≤ ((7 : Int32)).toNatClampNeg) := inb_of S_15 ⟨by decide, by decide⟩
  have hat15 : cl_15.slots[((7 : Int32)).toNatClampNeg]? = some (.int (247 : Int32)) := Has.at H_15 hin15 (rfl)
  refine own_go (X14t.iaload hx (j := (7 : Int32)) (v := (.int (247 : Int32))) (by rw [eT14t]; exact Ar_15.1) (State.isArrayOf_alike hZ.alike Ar_15.2.1) Ar_15.2.2 hin15 hat15 (g := (mkF m 60 #[.val (.ref a), .val (.int c_), .unset] [(.int (7 : Int32)), (.ref a), (.int c_), (.int ((((((zz2 + zz4) + zz6) + zz8) + zz10) + zz12) + zz14))])) rfl rfl (hb hby d3_60)) ?_
  clear hat15 hin15 G_15 H_15 M_15 S_15 q_15 Ar_15
  try clear cl_15
  show own_Ends p e below T14t (mkF m 61 #[.val (.ref a), .val (.int c_), .unset] [(.int (247 : Int32)), (.int c_), (.int ((((((zz2 + zz4) + zz6) + zz8) + zz10) + zz12) + zz14))]) _
  obtain ⟨_, _, ⟨T16, L16, k16, n16⟩, -, X16, ⟨Lc16, hQ16, l16, y16, z16⟩, st16⟩ := Jvm.LawKit.callS X14t hx (y := (⟨"com/example/graphtide/graphtide/rdf/CharClassesIsPnCharsBasePinLaw", "ge", "(II)I"⟩ : MethodName)) hown (mvT hZ (hw _ (List.mem_of_getElem? (i := 23) rfl))) (mvT hZ (hw _ (List.mem_of_getElem? (i := 24) rfl))) (mvT hZ (hw _ (List.mem_of_getElem? (i := 2) rfl))) (mvT hZ (hw _ (List.mem_of_getElem? (i := 25) rfl))) (by decide) (backOf (W := 1) (rmGe l Z a0 hw [] c_ ((247 : Int32))  h0 n0 Z0 ) hZ (hw _ (List.mem_of_getElem? (i := 25) rfl)) (hw _ (List.mem_of_getElem? (i := 2) rfl)) (by decide) (by decide)) (g := (mkF m 61 #[.val (.ref a), .val (.int c_), .unset] [(.int (247 : Int32)), (.int c_), (.int ((((((zz2 + zz4) + zz6) + zz8) + zz10) + zz12) + zz14))])) rfl (by rw [hml]; rfl) (argsL := [(.int c_), (.int (247 : Int32))]) (rest := [(.int ((((((zz2 + zz4) + zz6) + zz8) + zz10) + zz12) + zz14))]) (lenOf pd_0 rfl) rfl (by show 2 * 0 + _ ≤ _; exact Nat.le_of_eq rfl) (hb hby d3_61) (fun _ _ => ⟨rfl, eT14t, (by decide : 0 + 0 ≤ _), (by decide : 0 + 0 ≤ _)⟩)
  dsimp only [Pt.U, Pt.locs, Pt.cells, Pt.slots] at X16 l16 y16 z16 st16 hQ16
  replace y16 : k16 = 0 := y16
  replace z16 : n16 = 0 := z16
  subst l16 y16 z16
  refine own_go st16 ?_
  obtain ⟨zz16, rfl, hzz16, N16q, eh16⟩ := hQ16
  have N16 := Fr.app N14t N16q
  show own_Ends p e below T16 (mkF m 64 #[.val (.ref a), .val (.int c_), .unset] [(.int zz16), (.int ((((((zz2 + zz4) + zz6) + zz8) + zz10) + zz12) + zz14))]) _
  suffices Jt16 : ∀ (T_ : State) (L_ : List Loc), Stand p l e ({ frames := 1, cells := 0, slots := 0, locals := 14 } : Room) s m #[(.ref a), (.int c_)] below meth c T_ L_ 0 0 → T_.heap = h0 → Fr n0 L_ → own_Ends p e below T_ (mkF m 64 #[.val (.ref a), .val (.int c_), .unset] [(.int zz16), (.int ((((((zz2 + zz4) + zz6) + zz8) + zz10) + zz12) + zz14))]) (fun ou U' => ∃ v L, ou = .returned v ∧ Q_rmIns Z a c_ kl h0 n0 v U'.heap L ∧ FrameEnd s ou U' L ({ frames := 1, cells := 0, slots := 0, locals := 14 } : Room).cells ({ frames := 1, cells := 0, slots := 0, locals := 14 } : Room).slots) from Jt16 _ _ X16 eh16 N16
  clear st16 X16 N16 N16q eh16
  try clear Lc16
  try clear T16
  try clear N14t
  try clear eT14t
  try clear X14t
  try clear L14t
  try clear T14t
  intro T16t L16t X16t eT16t N16t
  refine own_go (fun _ => XS.iadd X16t.here hx rfl (hb hby d3_64) rfl) ?_
  show own_Ends p e below T16t (mkF m 65 #[.val (.ref a), .val (.int c_), .unset] [(.int (((((((zz2 + zz4) + zz6) + zz8) + zz10) + zz12) + zz14) + zz16))]) _
  refine own_go (fun _ => XS.iloadN X16t.here hx rfl (hb hby d3_65) rfl) ?_
  show own_Ends p e below T16t (mkF m 66 #[.val (.ref a), .val (.int c_), .unset] [(.int c_), (.int (((((((zz2 + zz4) + zz6) + zz8) + zz10) + zz12) + zz14) + zz16))]) _
  refine own_go (fun _ => XS.aloadN X16t.here hx rfl (hb hby d3_66) rfl rfl) ?_
  show own_Ends p e below T16t (mkF m 67 #[.val (.ref a), .val (.int c_), .unset] [(.ref a), (.int c_), (.int (((((((zz2 + zz4) + zz6) + zz8) + zz10) + zz12) + zz14) + zz16))]) _
  refine own_go (fun _ => XS.bipush X16t.here hx rfl (hb hby d3_67)) ?_
  show own_Ends p e below T16t (mkF m 69 #[.val (.ref a), .val (.int c_), .unset] [(.int (8 : Int32)), (.ref a), (.int c_), (.int (((((((zz2 + zz4) + zz6) + zz8) + zz10) + zz12) + zz14) + zz16))]) _
  obtain ⟨cl_17, Ar_17, q_17, S_17, M_17, H_17, G_17⟩ := id V_a
  have hin17 : ¬ ((8 : Int32) < 0 ∨ cl_17.slots.size ≤ ((8 : Int32)).toNatClampNeg) := inb_of S_17 ⟨by decide, by decide⟩
  have hat17 : cl_17.slots[((8 : Int32)).toNatClampNeg]? = some (.int (248 : Int32)) := Has.at H_17 hin17 (rfl)
  refine own_go (X16t.iaload hx (j := (8 : Int32)) (v := (.int (248 : Int32))) (by rw [eT16t]; exact Ar_17.1) (State.isArrayOf_alike hZ.alike Ar_17.2.1) Ar_17.2.2 hin17 hat17 (g := (mkF m 69 #[.val (.ref a), .val (.int c_), .unset] [(.int (8 : Int32)), (.ref a), (.int c_), (.int (((((((zz2 + zz4) + zz6) + zz8) + zz10) + zz12) + zz14) + zz16))])) rfl rfl (hb hby d3_69)) ?_
  clear hat17 hin17 G_17 H_17 M_17 S_17 q_17 Ar_17
  try clear cl_17
  show own_Ends p e below T16t (mkF m 70 #[.val (.ref a), .val (.int c_), .unset] [(.int (248 : Int32)), (.int c_), (.int (((((((zz2 + zz4) + zz6) + zz8) + zz10) + zz12) + zz14) + zz16))]) _
  obtain ⟨_, _, ⟨T18, L18, k18, n18⟩, -, X18, ⟨Lc18, hQ18, l18, y18, z18⟩, st18⟩ := Jvm.LawKit.callS X16t hx (y := (⟨"com/example/graphtide/graphtide/rdf/CharClassesIsPnCharsBasePinLaw", "ge", "(II)I"⟩ : MethodName)) hown (mvT hZ (hw _ (List.mem_of_getElem? (i := 23) rfl))) (mvT hZ (hw _ (List.mem_of_getElem? (i := 24) rfl))) (mvT hZ (hw _ (List.mem_of_getElem? (i := 2) rfl))) (mvT hZ (hw _ (List.mem_of_getElem? (i := 25) rfl))) (by decide) (backOf (W := 1) (rmGe l Z a0 hw [] c_ ((248 : Int32))  h0 n0 Z0 ) hZ (hw _ (List.mem_of_getElem? (i := 25) rfl)) (hw _ (List.mem_of_getElem? (i := 2) rfl)) (by decide) (by decide)) (g := (mkF m 70 #[.val (.ref a), .val (.int c_), .unset] [(.int (248 : Int32)), (.int c_), (.int (((((((zz2 + zz4) + zz6) + zz8) + zz10) + zz12) + zz14) + zz16))])) rfl (by rw [hml]; rfl) (argsL := [(.int c_), (.int (248 : Int32))]) (rest := [(.int (((((((zz2 + zz4) + zz6) + zz8) + zz10) + zz12) + zz14) + zz16))]) (lenOf pd_0 rfl) rfl (by show 2 * 0 + _ ≤ _; exact Nat.le_of_eq rfl) (hb hby d3_70) (fun _ _ => ⟨rfl, eT16t, (by decide : 0 + 0 ≤ _), (by decide : 0 + 0 ≤ _)⟩)
  dsimp only [Pt.U, Pt.locs, Pt.cells, Pt.slots] at X18 l18 y18 z18 st18 hQ18
  replace y18 : k18 = 0 := y18
  replace z18 : n18 = 0 := z18
  subst l18 y18 z18
  refine own_go st18 ?_
  obtain ⟨zz18, rfl, hzz18, N18q, eh18⟩ := hQ18
  have N18 := Fr.app N16t N18q
  show own_Ends p e below T18 (mkF m 73 #[.val (.ref a), .val (.int c_), .unset] [(.int zz18), (.int (((((((zz2 + zz4) + zz6) + zz8) + zz10) + zz12) + zz14) + zz16))]) _
  suffices Jt18 : ∀ (T_ : State) (L_ : List Loc), Stand p l e ({ frames := 1, cells := 0, slots := 0, locals := 14 } : Room) s m #[(.ref a), (.int c_)] below meth c T_ L_ 0 0 → T_.heap = h0 → Fr n0 L_ → own_Ends p e below T_ (mkF m 73 #[.val (.ref a), .val (.int c_), .unset] [(.int zz18), (.int (((((((zz2 + zz4) + zz6) + zz8) + zz10) + zz12) + zz14) + zz16))]) (fun ou U' => ∃ v L, ou = .returned v ∧ Q_rmIns Z a c_ kl h0 n0 v U'.heap L ∧ FrameEnd s ou U' L ({ frames := 1, cells := 0, slots := 0, locals := 14 } : Room).cells ({ frames := 1, cells := 0, slots := 0, locals := 14 } : Room).slots) from Jt18 _ _ X18 eh18 N18
  clear st18 X18 N18 N18q eh18
  try clear Lc18
  try clear T18
  try clear N16t
  try clear eT16t
  try clear X16t
  try clear L16t
  try clear T16t
  intro T18t L18t X18t eT18t N18t
  refine own_go (fun _ => XS.iadd X18t.here hx rfl (hb hby d3_73) rfl) ?_
  show own_Ends p e below T18t (mkF m 74 #[.val (.ref a), .val (.int c_), .unset] [(.int ((((((((zz2 + zz4) + zz6) + zz8) + zz10) + zz12) + zz14) + zz16) + zz18))]) _
  refine own_go (fun _ => XS.iloadN X18t.here hx rfl (hb hby d3_74) rfl) ?_
  show own_Ends p e below T18t (mkF m 75 #[.val (.ref a), .val (.int c_), .unset] [(.int c_), (.int ((((((((zz2 + zz4) + zz6) + zz8) + zz10) + zz12) + zz14) + zz16) + zz18))]) _
  refine own_go (fun _ => XS.aloadN X18t.here hx rfl (hb hby d3_75) rfl rfl) ?_
  show own_Ends p e below T18t (mkF m 76 #[.val (.ref a), .val (.int c_), .unset] [(.ref a), (.int c_), (.int ((((((((zz2 + zz4) + zz6) + zz8) + zz10) + zz12) + zz14) + zz16) + zz18))]) _
  refine own_go (fun _ => XS.bipush X18t.here hx rfl (hb hby d3_76)) ?_
  show own_Ends p e below T18t (mkF m 78 #[.val (.ref a), .val (.int c_), .unset] [(.int (9 : Int32)), (.ref a), (.int c_), (.int ((((((((zz2 + zz4) + zz6) + zz8) + zz10) + zz12) + zz14) + zz16) + zz18))]) _
  obtain ⟨cl_19, Ar_19, q_19, S_19, M_19, H_19, G_19⟩ := id V_a
  have hin19 : ¬ ((9 : Int32) < 0 ∨ cl_19.slots.size ≤ ((9 : Int32)).toNatClampNeg) := inb_of S_19 ⟨by decide, by decide⟩
  have hat19 : cl_19.slots[((9 : Int32)).toNatClampNeg]? = some (.int (768 : Int32)) := Has.at H_19 hin19 (rfl)
  refine own_go (X18t.iaload hx (j := (9 : Int32)) (v := (.int (768 : Int32))) (by rw [eT18t]; exact Ar_19.1) (State.isArrayOf_alike hZ.alike Ar_19.2.1) Ar_19.2.2 hin19 hat19 (g := (mkF m 78 #[.val (.ref a), .val (.int c_), .unset] [(.int (9 : Int32)), (.ref a), (.int c_), (.int ((((((((zz2 + zz4) + zz6) + zz8) + zz10) + zz12) + zz14) + zz16) + zz18))])) rfl rfl (hb hby d3_78)) ?_
  clear hat19 hin19 G_19 H_19 M_19 S_19 q_19 Ar_19
  try clear cl_19
  show own_Ends p e below T18t (mkF m 79 #[.val (.ref a), .val (.int c_), .unset] [(.int (768 : Int32)), (.int c_), (.int ((((((((zz2 + zz4) + zz6) + zz8) + zz10) + zz12) + zz14) + zz16) + zz18))]) _
  obtain ⟨_, _, ⟨T20, L20, k20, n20⟩, -, X20, ⟨Lc20, hQ20, l20, y20, z20⟩, st20⟩ := Jvm.LawKit.callS X18t hx (y := (⟨"com/example/graphtide/graphtide/rdf/CharClassesIsPnCharsBasePinLaw", "ge", "(II)I"⟩ : MethodName)) hown (mvT hZ (hw _ (List.mem_of_getElem? (i := 23) rfl))) (mvT hZ (hw _ (List.mem_of_getElem? (i := 24) rfl))) (mvT hZ (hw _ (List.mem_of_getElem? (i := 2) rfl))) (mvT hZ (hw _ (List.mem_of_getElem? (i := 25) rfl))) (by decide) (backOf (W := 1) (rmGe l Z a0 hw [] c_ ((768 : Int32))  h0 n0 Z0 ) hZ (hw _ (List.mem_of_getElem? (i := 25) rfl)) (hw _ (List.mem_of_getElem? (i := 2) rfl)) (by decide) (by decide)) (g := (mkF m 79 #[.val (.ref a), .val (.int c_), .unset] [(.int (768 : Int32)), (.int c_), (.int ((((((((zz2 + zz4) + zz6) + zz8) + zz10) + zz12) + zz14) + zz16) + zz18))])) rfl (by rw [hml]; rfl) (argsL := [(.int c_), (.int (768 : Int32))]) (rest := [(.int ((((((((zz2 + zz4) + zz6) + zz8) + zz10) + zz12) + zz14) + zz16) + zz18))]) (lenOf pd_0 rfl) rfl (by show 2 * 0 + _ ≤ _; exact Nat.le_of_eq rfl) (hb hby d3_79) (fun _ _ => ⟨rfl, eT18t, (by decide : 0 + 0 ≤ _), (by decide : 0 + 0 ≤ _)⟩)
  dsimp only [Pt.U, Pt.locs, Pt.cells, Pt.slots] at X20 l20 y20 z20 st20 hQ20
  replace y20 : k20 = 0 := y20
  replace z20 : n20 = 0 := z20
  subst l20 y20 z20
  refine own_go st20 ?_
  obtain ⟨zz20, rfl, hzz20, N20q, eh20⟩ := hQ20
  have N20 := Fr.app N18t N20q
  show own_Ends p e below T20 (mkF m 82 #[.val (.ref a), .val (.int c_), .unset] [(.int zz20), (.int ((((((((zz2 + zz4) + zz6) + zz8) + zz10) + zz12) + zz14) + zz16) + zz18))]) _
  suffices Jt20 : ∀ (T_ : State) (L_ : List Loc), Stand p l e ({ frames := 1, cells := 0, slots := 0, locals := 14 } : Room) s m #[(.ref a), (.int c_)] below meth c T_ L_ 0 0 → T_.heap = h0 → Fr n0 L_ → own_Ends p e below T_ (mkF m 82 #[.val (.ref a), .val (.int c_), .unset] [(.int zz20), (.int ((((((((zz2 + zz4) + zz6) + zz8) + zz10) + zz12) + zz14) + zz16) + zz18))]) (fun ou U' => ∃ v L, ou = .returned v ∧ Q_rmIns Z a c_ kl h0 n0 v U'.heap L ∧ FrameEnd s ou U' L ({ frames := 1, cells := 0, slots := 0, locals := 14 } : Room).cells ({ frames := 1, cells := 0, slots := 0, locals := 14 } : Room).slots) from Jt20 _ _ X20 eh20 N20
  clear st20 X20 N20 N20q eh20
  try clear Lc20
  try clear T20
  try clear N18t
  try clear eT18t
  try clear X18t
  try clear L18t
  try clear T18t
  intro T20t L20t X20t eT20t N20t
  refine own_go (fun _ => XS.iadd X20t.here hx rfl (hb hby d3_82) rfl) ?_
  show own_Ends p e below T20t (mkF m 83 #[.val (.ref a), .val (.int c_), .unset] [(.int (((((((((zz2 + zz4) + zz6) + zz8) + zz10) + zz12) + zz14) + zz16) + zz18) + zz20))]) _
  refine own_go (fun _ => XS.iloadN X20t.here hx rfl (hb hby d3_83) rfl) ?_
  show own_Ends p e below T20t (mkF m 84 #[.val (.ref a), .val (.int c_), .unset] [(.int c_), (.int (((((((((zz2 + zz4) + zz6) + zz8) + zz10) + zz12) + zz14) + zz16) + zz18) + zz20))]) _
  refine own_go (fun _ => XS.aloadN X20t.here hx rfl (hb hby d3_84) rfl rfl) ?_
  show own_Ends p e below T20t (mkF m 85 #[.val (.ref a), .val (.int c_), .unset] [(.ref a), (.int c_), (.int (((((((((zz2 + zz4) + zz6) + zz8) + zz10) + zz12) + zz14) + zz16) + zz18) + zz20))]) _
  refine own_go (fun _ => XS.bipush X20t.here hx rfl (hb hby d3_85)) ?_
  show own_Ends p e below T20t (mkF m 87 #[.val (.ref a), .val (.int c_), .unset] [(.int (10 : Int32)), (.ref a), (.int c_), (.int (((((((((zz2 + zz4) + zz6) + zz8) + zz10) + zz12) + zz14) + zz16) + zz18) + zz20))]) _
  obtain ⟨cl_21, Ar_21, q_21, S_21, M_21, H_21, G_21⟩ := id V_a
  have hin21 : ¬ ((10 : Int32) < 0 ∨ cl_21.slots.size ≤ ((10 : Int32)).toNatClampNeg) := inb_of S_21 ⟨by decide, by decide⟩
  have hat21 : cl_21.slots[((10 : Int32)).toNatClampNeg]? = some (.int (880 : Int32)) := Has.at H_21 hin21 (rfl)
  refine own_go (X20t.iaload hx (j := (10 : Int32)) (v := (.int (880 : Int32))) (by rw [eT20t]; exact Ar_21.1) (State.isArrayOf_alike hZ.alike Ar_21.2.1) Ar_21.2.2 hin21 hat21 (g := (mkF m 87 #[.val (.ref a), .val (.int c_), .unset] [(.int (10 : Int32)), (.ref a), (.int c_), (.int (((((((((zz2 + zz4) + zz6) + zz8) + zz10) + zz12) + zz14) + zz16) + zz18) + zz20))])) rfl rfl (hb hby d3_87)) ?_
  clear hat21 hin21 G_21 H_21 M_21 S_21 q_21 Ar_21
  try clear cl_21
  show own_Ends p e below T20t (mkF m 88 #[.val (.ref a), .val (.int c_), .unset] [(.int (880 : Int32)), (.int c_), (.int (((((((((zz2 + zz4) + zz6) + zz8) + zz10) + zz12) + zz14) + zz16) + zz18) + zz20))]) _
  obtain ⟨_, _, ⟨T22, L22, k22, n22⟩, -, X22, ⟨Lc22, hQ22, l22, y22, z22⟩, st22⟩ := Jvm.LawKit.callS X20t hx (y := (⟨"com/example/graphtide/graphtide/rdf/CharClassesIsPnCharsBasePinLaw", "ge", "(II)I"⟩ : MethodName)) hown (mvT hZ (hw _ (List.mem_of_getElem? (i := 23) rfl))) (mvT hZ (hw _ (List.mem_of_getElem? (i := 24) rfl))) (mvT hZ (hw _ (List.mem_of_getElem? (i := 2) rfl))) (mvT hZ (hw _ (List.mem_of_getElem? (i := 25) rfl))) (by decide) (backOf (W := 1) (rmGe l Z a0 hw [] c_ ((880 : Int32))  h0 n0 Z0 ) hZ (hw _ (List.mem_of_getElem? (i := 25) rfl)) (hw _ (List.mem_of_getElem? (i := 2) rfl)) (by decide) (by decide)) (g := (mkF m 88 #[.val (.ref a), .val (.int c_), .unset] [(.int (880 : Int32)), (.int c_), (.int (((((((((zz2 + zz4) + zz6) + zz8) + zz10) + zz12) + zz14) + zz16) + zz18) + zz20))])) rfl (by rw [hml]; rfl) (argsL := [(.int c_), (.int (880 : Int32))]) (rest := [(.int (((((((((zz2 + zz4) + zz6) + zz8) + zz10) + zz12) + zz14) + zz16) + zz18) + zz20))]) (lenOf pd_0 rfl) rfl (by show 2 * 0 + _ ≤ _; exact Nat.le_of_eq rfl) (hb hby d3_88) (fun _ _ => ⟨rfl, eT20t, (by decide : 0 + 0 ≤ _), (by decide : 0 + 0 ≤ _)⟩)
  dsimp only [Pt.U, Pt.locs, Pt.cells, Pt.slots] at X22 l22 y22 z22 st22 hQ22
  replace y22 : k22 = 0 := y22
  replace z22 : n22 = 0 := z22
  subst l22 y22 z22
  refine own_go st22 ?_
  obtain ⟨zz22, rfl, hzz22, N22q, eh22⟩ := hQ22
  have N22 := Fr.app N20t N22q
  show own_Ends p e below T22 (mkF m 91 #[.val (.ref a), .val (.int c_), .unset] [(.int zz22), (.int (((((((((zz2 + zz4) + zz6) + zz8) + zz10) + zz12) + zz14) + zz16) + zz18) + zz20))]) _
  suffices Jt22 : ∀ (T_ : State) (L_ : List Loc), Stand p l e ({ frames := 1, cells := 0, slots := 0, locals := 14 } : Room) s m #[(.ref a), (.int c_)] below meth c T_ L_ 0 0 → T_.heap = h0 → Fr n0 L_ → own_Ends p e below T_ (mkF m 91 #[.val (.ref a), .val (.int c_), .unset] [(.int zz22), (.int (((((((((zz2 + zz4) + zz6) + zz8) + zz10) + zz12) + zz14) + zz16) + zz18) + zz20))]) (fun ou U' => ∃ v L, ou = .returned v ∧ Q_rmIns Z a c_ kl h0 n0 v U'.heap L ∧ FrameEnd s ou U' L ({ frames := 1, cells := 0, slots := 0, locals := 14 } : Room).cells ({ frames := 1, cells := 0, slots := 0, locals := 14 } : Room).slots) from Jt22 _ _ X22 eh22 N22
  clear st22 X22 N22 N22q eh22
  try clear Lc22
  try clear T22
  try clear N20t
  try clear eT20t
  try clear X20t
  try clear L20t
  try clear T20t
  intro T22t L22t X22t eT22t N22t
  refine own_go (fun _ => XS.iadd X22t.here hx rfl (hb hby d3_91) rfl) ?_
  show own_Ends p e below T22t (mkF m 92 #[.val (.ref a), .val (.int c_), .unset] [(.int ((((((((((zz2 + zz4) + zz6) + zz8) + zz10) + zz12) + zz14) + zz16) + zz18) + zz20) + zz22))]) _
  refine own_go (fun _ => XS.iloadN X22t.here hx rfl (hb hby d3_92) rfl) ?_
  show own_Ends p e below T22t (mkF m 93 #[.val (.ref a), .val (.int c_), .unset] [(.int c_), (.int ((((((((((zz2 + zz4) + zz6) + zz8) + zz10) + zz12) + zz14) + zz16) + zz18) + zz20) + zz22))]) _
  refine own_go (fun _ => XS.aloadN X22t.here hx rfl (hb hby d3_93) rfl rfl) ?_
  show own_Ends p e below T22t (mkF m 94 #[.val (.ref a), .val (.int c_), .unset] [(.ref a), (.int c_), (.int ((((((((((zz2 + zz4) + zz6) + zz8) + zz10) + zz12) + zz14) + zz16) + zz18) + zz20) + zz22))]) _
  refine own_go (fun _ => XS.bipush X22t.here hx rfl (hb hby d3_94)) ?_
  show own_Ends p e below T22t (mkF m 96 #[.val (.ref a), .val (.int c_), .unset] [(.int (11 : Int32)), (.ref a), (.int c_), (.int ((((((((((zz2 + zz4) + zz6) + zz8) + zz10) + zz12) + zz14) + zz16) + zz18) + zz20) + zz22))]) _
  obtain ⟨cl_23, Ar_23, q_23, S_23, M_23, H_23, G_23⟩ := id V_a
  have hin23 : ¬ ((11 : Int32) < 0 ∨ cl_23.slots.size ≤ ((11 : Int32)).toNatClampNeg) := inb_of S_23 ⟨by decide, by decide⟩
  have hat23 : cl_23.slots[((11 : Int32)).toNatClampNeg]? = some (.int (894 : Int32)) := Has.at H_23 hin23 (rfl)
  refine own_go (X22t.iaload hx (j := (11 : Int32)) (v := (.int (894 : Int32))) (by rw [eT22t]; exact Ar_23.1) (State.isArrayOf_alike hZ.alike Ar_23.2.1) Ar_23.2.2 hin23 hat23 (g := (mkF m 96 #[.val (.ref a), .val (.int c_), .unset] [(.int (11 : Int32)), (.ref a), (.int c_), (.int ((((((((((zz2 + zz4) + zz6) + zz8) + zz10) + zz12) + zz14) + zz16) + zz18) + zz20) + zz22))])) rfl rfl (hb hby d3_96)) ?_
  clear hat23 hin23 G_23 H_23 M_23 S_23 q_23 Ar_23
  try clear cl_23
  show own_Ends p e below T22t (mkF m 97 #[.val (.ref a), .val (.int c_), .unset] [(.int (894 : Int32)), (.int c_), (.int ((((((((((zz2 + zz4) + zz6) + zz8) + zz10) + zz12) + zz14) + zz16) + zz18) + zz20) + zz22))]) _
  obtain ⟨_, _, ⟨T24, L24, k24, n24⟩, -, X24, ⟨Lc24, hQ24, l24, y24, z24⟩, st24⟩ := Jvm.LawKit.callS X22t hx (y := (⟨"com/example/graphtide/graphtide/rdf/CharClassesIsPnCharsBasePinLaw", "ge", "(II)I"⟩ : MethodName)) hown (mvT hZ (hw _ (List.mem_of_getElem? (i := 23) rfl))) (mvT hZ (hw _ (List.mem_of_getElem? (i := 24) rfl))) (mvT hZ (hw _ (List.mem_of_getElem? (i := 2) rfl))) (mvT hZ (hw _ (List.mem_of_getElem? (i := 25) rfl))) (by decide) (backOf (W := 1) (rmGe l Z a0 hw [] c_ ((894 : Int32))  h0 n0 Z0 ) hZ (hw _ (List.mem_of_getElem? (i := 25) rfl)) (hw _ (List.mem_of_getElem? (i := 2) rfl)) (by decide) (by decide)) (g := (mkF m 97 #[.val (.ref a), .val (.int c_), .unset] [(.int (894 : Int32)), (.int c_), (.int ((((((((((zz2 + zz4) + zz6) + zz8) + zz10) + zz12) + zz14) + zz16) + zz18) + zz20) + zz22))])) rfl (by rw [hml]; rfl) (argsL := [(.int c_), (.int (894 : Int32))]) (rest := [(.int ((((((((((zz2 + zz4) + zz6) + zz8) + zz10) + zz12) + zz14) + zz16) + zz18) + zz20) + zz22))]) (lenOf pd_0 rfl) rfl (by show 2 * 0 + _ ≤ _; exact Nat.le_of_eq rfl) (hb hby d3_97) (fun _ _ => ⟨rfl, eT22t, (by decide : 0 + 0 ≤ _), (by decide : 0 + 0 ≤ _)⟩)
  dsimp only [Pt.U, Pt.locs, Pt.cells, Pt.slots] at X24 l24 y24 z24 st24 hQ24
  replace y24 : k24 = 0 := y24
  replace z24 : n24 = 0 := z24
  subst l24 y24 z24
  refine own_go st24 ?_
  obtain ⟨zz24, rfl, hzz24, N24q, eh24⟩ := hQ24
  have N24 := Fr.app N22t N24q
  show own_Ends p e below T24 (mkF m 100 #[.val (.ref a), .val (.int c_), .unset] [(.int zz24), (.int ((((((((((zz2 + zz4) + zz6) + zz8) + zz10) + zz12) + zz14) + zz16) + zz18) + zz20) + zz22))]) _
  suffices Jt24 : ∀ (T_ : State) (L_ : List Loc), Stand p l e ({ frames := 1, cells := 0, slots := 0, locals := 14 } : Room) s m #[(.ref a), (.int c_)] below meth c T_ L_ 0 0 → T_.heap = h0 → Fr n0 L_ → own_Ends p e below T_ (mkF m 100 #[.val (.ref a), .val (.int c_), .unset] [(.int zz24), (.int ((((((((((zz2 + zz4) + zz6) + zz8) + zz10) + zz12) + zz14) + zz16) + zz18) + zz20) + zz22))]) (fun ou U' => ∃ v L, ou = .returned v ∧ Q_rmIns Z a c_ kl h0 n0 v U'.heap L ∧ FrameEnd s ou U' L ({ frames := 1, cells := 0, slots := 0, locals := 14 } : Room).cells ({ frames := 1, cells := 0, slots := 0, locals := 14 } : Room).slots) from Jt24 _ _ X24 eh24 N24
  clear st24 X24 N24 N24q eh24
  try clear Lc24
  try clear T24
  try clear N22t
  try clear eT22t
  try clear X22t
  try clear L22t
  try clear T22t
  intro T24t L24t X24t eT24t N24t
  refine own_go (fun _ => XS.iadd X24t.here hx rfl (hb hby d3_100) rfl) ?_
  show own_Ends p e below T24t (mkF m 101 #[.val (.ref a), .val (.int c_), .unset] [(.int (((((((((((zz2 + zz4) + zz6) + zz8) + zz10) + zz12) + zz14) + zz16) + zz18) + zz20) + zz22) + zz24))]) _
  refine own_go (fun _ => XS.iloadN X24t.here hx rfl (hb hby d3_101) rfl) ?_
  show own_Ends p e below T24t (mkF m 102 #[.val (.ref a), .val (.int c_), .unset] [(.int c_), (.int (((((((((((zz2 + zz4) + zz6) + zz8) + zz10) + zz12) + zz14) + zz16) + zz18) + zz20) + zz22) + zz24))]) _
  refine own_go (fun _ => XS.aloadN X24t.here hx rfl (hb hby d3_102) rfl rfl) ?_
  show own_Ends p e below T24t (mkF m 103 #[.val (.ref a), .val (.int c_), .unset] [(.ref a), (.int c_), (.int (((((((((((zz2 + zz4) + zz6) + zz8) + zz10) + zz12) + zz14) + zz16) + zz18) + zz20) + zz22) + zz24))]) _
  refine own_go (fun _ => XS.bipush X24t.here hx rfl (hb hby d3_103)) ?_
  show own_Ends p e below T24t (mkF m 105 #[.val (.ref a), .val (.int c_), .unset] [(.int (12 : Int32)), (.ref a), (.int c_), (.int (((((((((((zz2 + zz4) + zz6) + zz8) + zz10) + zz12) + zz14) + zz16) + zz18) + zz20) + zz22) + zz24))]) _
  obtain ⟨cl_25, Ar_25, q_25, S_25, M_25, H_25, G_25⟩ := id V_a
  have hin25 : ¬ ((12 : Int32) < 0 ∨ cl_25.slots.size ≤ ((12 : Int32)).toNatClampNeg) := inb_of S_25 ⟨by decide, by decide⟩
  have hat25 : cl_25.slots[((12 : Int32)).toNatClampNeg]? = some (.int (895 : Int32)) := Has.at H_25 hin25 (rfl)
  refine own_go (X24t.iaload hx (j := (12 : Int32)) (v := (.int (895 : Int32))) (by rw [eT24t]; exact Ar_25.1) (State.isArrayOf_alike hZ.alike Ar_25.2.1) Ar_25.2.2 hin25 hat25 (g := (mkF m 105 #[.val (.ref a), .val (.int c_), .unset] [(.int (12 : Int32)), (.ref a), (.int c_), (.int (((((((((((zz2 + zz4) + zz6) + zz8) + zz10) + zz12) + zz14) + zz16) + zz18) + zz20) + zz22) + zz24))])) rfl rfl (hb hby d3_105)) ?_
  clear hat25 hin25 G_25 H_25 M_25 S_25 q_25 Ar_25
  try clear cl_25
  show own_Ends p e below T24t (mkF m 106 #[.val (.ref a), .val (.int c_), .unset] [(.int (895 : Int32)), (.int c_), (.int (((((((((((zz2 + zz4) + zz6) + zz8) + zz10) + zz12) + zz14) + zz16) + zz18) + zz20) + zz22) + zz24))]) _
  obtain ⟨_, _, ⟨T26, L26, k26, n26⟩, -, X26, ⟨Lc26, hQ26, l26, y26, z26⟩, st26⟩ := Jvm.LawKit.callS X24t hx (y := (⟨"com/example/graphtide/graphtide/rdf/CharClassesIsPnCharsBasePinLaw", "ge", "(II)I"⟩ : MethodName)) hown (mvT hZ (hw _ (List.mem_of_getElem? (i := 23) rfl))) (mvT hZ (hw _ (List.mem_of_getElem? (i := 24) rfl))) (mvT hZ (hw _ (List.mem_of_getElem? (i := 2) rfl))) (mvT hZ (hw _ (List.mem_of_getElem? (i := 25) rfl))) (by decide) (backOf (W := 1) (rmGe l Z a0 hw [] c_ ((895 : Int32))  h0 n0 Z0 ) hZ (hw _ (List.mem_of_getElem? (i := 25) rfl)) (hw _ (List.mem_of_getElem? (i := 2) rfl)) (by decide) (by decide)) (g := (mkF m 106 #[.val (.ref a), .val (.int c_), .unset] [(.int (895 : Int32)), (.int c_), (.int (((((((((((zz2 + zz4) + zz6) + zz8) + zz10) + zz12) + zz14) + zz16) + zz18) + zz20) + zz22) + zz24))])) rfl (by rw [hml]; rfl) (argsL := [(.int c_), (.int (895 : Int32))]) (rest := [(.int (((((((((((zz2 + zz4) + zz6) + zz8) + zz10) + zz12) + zz14) + zz16) + zz18) + zz20) + zz22) + zz24))]) (lenOf pd_0 rfl) rfl (by show 2 * 0 + _ ≤ _; exact Nat.le_of_eq rfl) (hb hby d3_106) (fun _ _ => ⟨rfl, eT24t, (by decide : 0 + 0 ≤ _), (by decide : 0 + 0 ≤ _)⟩)
  dsimp only [Pt.U, Pt.locs, Pt.cells, Pt.slots] at X26 l26 y26 z26 st26 hQ26
  replace y26 : k26 = 0 := y26
  replace z26 : n26 = 0 := z26
  subst l26 y26 z26
  refine own_go st26 ?_
  obtain ⟨zz26, rfl, hzz26, N26q, eh26⟩ := hQ26
  have N26 := Fr.app N24t N26q
  show own_Ends p e below T26 (mkF m 109 #[.val (.ref a), .val (.int c_), .unset] [(.int zz26), (.int (((((((((((zz2 + zz4) + zz6) + zz8) + zz10) + zz12) + zz14) + zz16) + zz18) + zz20) + zz22) + zz24))]) _
  suffices Jt26 : ∀ (T_ : State) (L_ : List Loc), Stand p l e ({ frames := 1, cells := 0, slots := 0, locals := 14 } : Room) s m #[(.ref a), (.int c_)] below meth c T_ L_ 0 0 → T_.heap = h0 → Fr n0 L_ → own_Ends p e below T_ (mkF m 109 #[.val (.ref a), .val (.int c_), .unset] [(.int zz26), (.int (((((((((((zz2 + zz4) + zz6) + zz8) + zz10) + zz12) + zz14) + zz16) + zz18) + zz20) + zz22) + zz24))]) (fun ou U' => ∃ v L, ou = .returned v ∧ Q_rmIns Z a c_ kl h0 n0 v U'.heap L ∧ FrameEnd s ou U' L ({ frames := 1, cells := 0, slots := 0, locals := 14 } : Room).cells ({ frames := 1, cells := 0, slots := 0, locals := 14 } : Room).slots) from Jt26 _ _ X26 eh26 N26
  clear st26 X26 N26 N26q eh26
  try clear Lc26
  try clear T26
  try clear N24t
  try clear eT24t
  try clear X24t
  try clear L24t
  try clear T24t
  intro T26t L26t X26t eT26t N26t
  refine own_go (fun _ => XS.iadd X26t.here hx rfl (hb hby d3_109) rfl) ?_
  show own_Ends p e below T26t (mkF m 110 #[.val (.ref a), .val (.int c_), .unset] [(.int ((((((((((((zz2 + zz4) + zz6) + zz8) + zz10) + zz12) + zz14) + zz16) + zz18) + zz20) + zz22) + zz24) + zz26))]) _
  refine own_go (fun _ => XS.iloadN X26t.here hx rfl (hb hby d3_110) rfl) ?_
  show own_Ends p e below T26t (mkF m 111 #[.val (.ref a), .val (.int c_), .unset] [(.int c_), (.int ((((((((((((zz2 + zz4) + zz6) + zz8) + zz10) + zz12) + zz14) + zz16) + zz18) + zz20) + zz22) + zz24) + zz26))]) _
  refine own_go (fun _ => XS.aloadN X26t.here hx rfl (hb hby d3_111) rfl rfl) ?_
  show own_Ends p e below T26t (mkF m 112 #[.val (.ref a), .val (.int c_), .unset] [(.ref a), (.int c_), (.int ((((((((((((zz2 + zz4) + zz6) + zz8) + zz10) + zz12) + zz14) + zz16) + zz18) + zz20) + zz22) + zz24) + zz26))]) _
  refine own_go (fun _ => XS.bipush X26t.here hx rfl (hb hby d3_112)) ?_
  show own_Ends p e below T26t (mkF m 114 #[.val (.ref a), .val (.int c_), .unset] [(.int (13 : Int32)), (.ref a), (.int c_), (.int ((((((((((((zz2 + zz4) + zz6) + zz8) + zz10) + zz12) + zz14) + zz16) + zz18) + zz20) + zz22) + zz24) + zz26))]) _
  obtain ⟨cl_27, Ar_27, q_27, S_27, M_27, H_27, G_27⟩ := id V_a
  have hin27 : ¬ ((13 : Int32) < 0 ∨ cl_27.slots.size ≤ ((13 : Int32)).toNatClampNeg) := inb_of S_27 ⟨by decide, by decide⟩
  have hat27 : cl_27.slots[((13 : Int32)).toNatClampNeg]? = some (.int (8192 : Int32)) := Has.at H_27 hin27 (rfl)
  refine own_go (X26t.iaload hx (j := (13 : Int32)) (v := (.int (8192 : Int32))) (by rw [eT26t]; exact Ar_27.1) (State.isArrayOf_alike hZ.alike Ar_27.2.1) Ar_27.2.2 hin27 hat27 (g := (mkF m 114 #[.val (.ref a), .val (.int c_), .unset] [(.int (13 : Int32)), (.ref a), (.int c_), (.int ((((((((((((zz2 + zz4) + zz6) + zz8) + zz10) + zz12) + zz14) + zz16) + zz18) + zz20) + zz22) + zz24) + zz26))])) rfl rfl (hb hby d3_114)) ?_
  clear hat27 hin27 G_27 H_27 M_27 S_27 q_27 Ar_27
  try clear cl_27
  show own_Ends p e below T26t (mkF m 115 #[.val (.ref a), .val (.int c_), .unset] [(.int (8192 : Int32)), (.int c_), (.int ((((((((((((zz2 + zz4) + zz6) + zz8) + zz10) + zz12) + zz14) + zz16) + zz18) + zz20) + zz22) + zz24) + zz26))]) _
  obtain ⟨_, _, ⟨T28, L28, k28, n28⟩, -, X28, ⟨Lc28, hQ28, l28, y28, z28⟩, st28⟩ := Jvm.LawKit.callS X26t hx (y := (⟨"com/example/graphtide/graphtide/rdf/CharClassesIsPnCharsBasePinLaw", "ge", "(II)I"⟩ : MethodName)) hown (mvT hZ (hw _ (List.mem_of_getElem? (i := 23) rfl))) (mvT hZ (hw _ (List.mem_of_getElem? (i := 24) rfl))) (mvT hZ (hw _ (List.mem_of_getElem? (i := 2) rfl))) (mvT hZ (hw _ (List.mem_of_getElem? (i := 25) rfl))) (by decide) (backOf (W := 1) (rmGe l Z a0 hw [] c_ ((8192 : Int32))  h0 n0 Z0 ) hZ (hw _ (List.mem_of_getElem? (i := 25) rfl)) (hw _ (List.mem_of_getElem? (i := 2) rfl)) (by decide) (by decide)) (g := (mkF m 115 #[.val (.ref a), .val (.int c_), .unset] [(.int (8192 : Int32)), (.int c_), (.int ((((((((((((zz2 + zz4) + zz6) + zz8) + zz10) + zz12) + zz14) + zz16) + zz18) + zz20) + zz22) + zz24) + zz26))])) rfl (by rw [hml]; rfl) (argsL := [(.int c_), (.int (8192 : Int32))]) (rest := [(.int ((((((((((((zz2 + zz4) + zz6) + zz8) + zz10) + zz12) + zz14) + zz16) + zz18) + zz20) + zz22) + zz24) + zz26))]) (lenOf pd_0 rfl) rfl (by show 2 * 0 + _ ≤ _; exact Nat.le_of_eq rfl) (hb hby d3_115) (fun _ _ => ⟨rfl, eT26t, (by decide : 0 + 0 ≤ _), (by decide : 0 + 0 ≤ _)⟩)
  dsimp only [Pt.U, Pt.locs, Pt.cells, Pt.slots] at X28 l28 y28 z28 st28 hQ28
  replace y28 : k28 = 0 := y28
  replace z28 : n28 = 0 := z28
  subst l28 y28 z28
  refine own_go st28 ?_
  obtain ⟨zz28, rfl, hzz28, N28q, eh28⟩ := hQ28
  have N28 := Fr.app N26t N28q
  show own_Ends p e below T28 (mkF m 118 #[.val (.ref a), .val (.int c_), .unset] [(.int zz28), (.int ((((((((((((zz2 + zz4) + zz6) + zz8) + zz10) + zz12) + zz14) + zz16) + zz18) + zz20) + zz22) + zz24) + zz26))]) _
  suffices Jt28 : ∀ (T_ : State) (L_ : List Loc), Stand p l e ({ frames := 1, cells := 0, slots := 0, locals := 14 } : Room) s m #[(.ref a), (.int c_)] below meth c T_ L_ 0 0 → T_.heap = h0 → Fr n0 L_ → own_Ends p e below T_ (mkF m 118 #[.val (.ref a), .val (.int c_), .unset] [(.int zz28), (.int ((((((((((((zz2 + zz4) + zz6) + zz8) + zz10) + zz12) + zz14) + zz16) + zz18) + zz20) + zz22) + zz24) + zz26))]) (fun ou U' => ∃ v L, ou = .returned v ∧ Q_rmIns Z a c_ kl h0 n0 v U'.heap L ∧ FrameEnd s ou U' L ({ frames := 1, cells := 0, slots := 0, locals := 14 } : Room).cells ({ frames := 1, cells := 0, slots := 0, locals := 14 } : Room).slots) from Jt28 _ _ X28 eh28 N28
  clear st28 X28 N28 N28q eh28
  try clear Lc28
  try clear T28
  try clear N26t
  try clear eT26t
  try clear X26t
  try clear L26t
  try clear T26t
  intro T28t L28t X28t eT28t N28t
  refine own_go (fun _ => XS.iadd X28t.here hx rfl (hb hby d3_118) rfl) ?_
  show own_Ends p e below T28t (mkF m 119 #[.val (.ref a), .val (.int c_), .unset] [(.int (((((((((((((zz2 + zz4) + zz6) + zz8) + zz10) + zz12) + zz14) + zz16) + zz18) + zz20) + zz22) + zz24) + zz26) + zz28))]) _
  refine own_go (fun _ => XS.iloadN X28t.here hx rfl (hb hby d3_119) rfl) ?_
  show own_Ends p e below T28t (mkF m 120 #[.val (.ref a), .val (.int c_), .unset] [(.int c_), (.int (((((((((((((zz2 + zz4) + zz6) + zz8) + zz10) + zz12) + zz14) + zz16) + zz18) + zz20) + zz22) + zz24) + zz26) + zz28))]) _
  refine own_go (fun _ => XS.aloadN X28t.here hx rfl (hb hby d3_120) rfl rfl) ?_
  show own_Ends p e below T28t (mkF m 121 #[.val (.ref a), .val (.int c_), .unset] [(.ref a), (.int c_), (.int (((((((((((((zz2 + zz4) + zz6) + zz8) + zz10) + zz12) + zz14) + zz16) + zz18) + zz20) + zz22) + zz24) + zz26) + zz28))]) _
  refine own_go (fun _ => XS.bipush X28t.here hx rfl (hb hby d3_121)) ?_
  show own_Ends p e below T28t (mkF m 123 #[.val (.ref a), .val (.int c_), .unset] [(.int (14 : Int32)), (.ref a), (.int c_), (.int (((((((((((((zz2 + zz4) + zz6) + zz8) + zz10) + zz12) + zz14) + zz16) + zz18) + zz20) + zz22) + zz24) + zz26) + zz28))]) _
  obtain ⟨cl_29, Ar_29, q_29, S_29, M_29, H_29, G_29⟩ := id V_a
  have hin29 : ¬ ((14 : Int32) < 0 ∨ cl_29.slots.size ≤ ((14 : Int32)).toNatClampNeg) := inb_of S_29 ⟨by decide, by decide⟩
  have hat29 : cl_29.slots[((14 : Int32)).toNatClampNeg]? = some (.int (8204 : Int32)) := Has.at H_29 hin29 (rfl)
  refine own_go (X28t.iaload hx (j := (14 : Int32)) (v := (.int (8204 : Int32))) (by rw [eT28t]; exact Ar_29.1) (State.isArrayOf_alike hZ.alike Ar_29.2.1) Ar_29.2.2 hin29 hat29 (g := (mkF m 123 #[.val (.ref a), .val (.int c_), .unset] [(.int (14 : Int32)), (.ref a), (.int c_), (.int (((((((((((((zz2 + zz4) + zz6) + zz8) + zz10) + zz12) + zz14) + zz16) + zz18) + zz20) + zz22) + zz24) + zz26) + zz28))])) rfl rfl (hb hby d3_123)) ?_
  clear hat29 hin29 G_29 H_29 M_29 S_29 q_29 Ar_29
  try clear cl_29
  show own_Ends p e below T28t (mkF m 124 #[.val (.ref a), .val (.int c_), .unset] [(.int (8204 : Int32)), (.int c_), (.int (((((((((((((zz2 + zz4) + zz6) + zz8) + zz10) + zz12) + zz14) + zz16) + zz18) + zz20) + zz22) + zz24) + zz26) + zz28))]) _
  obtain ⟨_, _, ⟨T30, L30, k30, n30⟩, -, X30, ⟨Lc30, hQ30, l30, y30, z30⟩, st30⟩ := Jvm.LawKit.callS X28t hx (y := (⟨"com/example/graphtide/graphtide/rdf/CharClassesIsPnCharsBasePinLaw", "ge", "(II)I"⟩ : MethodName)) hown (mvT hZ (hw _ (List.mem_of_getElem? (i := 23) rfl))) (mvT hZ (hw _ (List.mem_of_getElem? (i := 24) rfl))) (mvT hZ (hw _ (List.mem_of_getElem? (i := 2) rfl))) (mvT hZ (hw _ (List.mem_of_getElem? (i := 25) rfl))) (by decide) (backOf (W := 1) (rmGe l Z a0 hw [] c_ ((8204 : Int32))  h0 n0 Z0 ) hZ (hw _ (List.mem_of_getElem? (i := 25) rfl)) (hw _ (List.mem_of_getElem? (i := 2) rfl)) (by decide) (by decide)) (g := (mkF m 124 #[.val (.ref a), .val (.int c_), .unset] [(.int (8204 : Int32)), (.int c_), (.int (((((((((((((zz2 + zz4) + zz6) + zz8) + zz10) + zz12) + zz14) + zz16) + zz18) + zz20) + zz22) + zz24) + zz26) + zz28))])) rfl (by rw [hml]; rfl) (argsL := [(.int c_), (.int (8204 : Int32))]) (rest := [(.int (((((((((((((zz2 + zz4) + zz6) + zz8) + zz10) + zz12) + zz14) + zz16) + zz18) + zz20) + zz22) + zz24) + zz26) + zz28))]) (lenOf pd_0 rfl) rfl (by show 2 * 0 + _ ≤ _; exact Nat.le_of_eq rfl) (hb hby d3_124) (fun _ _ => ⟨rfl, eT28t, (by decide : 0 + 0 ≤ _), (by decide : 0 + 0 ≤ _)⟩)
  dsimp only [Pt.U, Pt.locs, Pt.cells, Pt.slots] at X30 l30 y30 z30 st30 hQ30
  replace y30 : k30 = 0 := y30
  replace z30 : n30 = 0 := z30
  subst l30 y30 z30
  refine own_go st30 ?_
  obtain ⟨zz30, rfl, hzz30, N30q, eh30⟩ := hQ30
  have N30 := Fr.app N28t N30q
  show own_Ends p e below T30 (mkF m 127 #[.val (.ref a), .val (.int c_), .unset] [(.int zz30), (.int (((((((((((((zz2 + zz4) + zz6) + zz8) + zz10) + zz12) + zz14) + zz16) + zz18) + zz20) + zz22) + zz24) + zz26) + zz28))]) _
  suffices Jt30 : ∀ (T_ : State) (L_ : List Loc), Stand p l e ({ frames := 1, cells := 0, slots := 0, locals := 14 } : Room) s m #[(.ref a), (.int c_)] below meth c T_ L_ 0 0 → T_.heap = h0 → Fr n0 L_ → own_Ends p e below T_ (mkF m 127 #[.val (.ref a), .val (.int c_), .unset] [(.int zz30), (.int (((((((((((((zz2 + zz4) + zz6) + zz8) + zz10) + zz12) + zz14) + zz16) + zz18) + zz20) + zz22) + zz24) + zz26) + zz28))]) (fun ou U' => ∃ v L, ou = .returned v ∧ Q_rmIns Z a c_ kl h0 n0 v U'.heap L ∧ FrameEnd s ou U' L ({ frames := 1, cells := 0, slots := 0, locals := 14 } : Room).cells ({ frames := 1, cells := 0, slots := 0, locals := 14 } : Room).slots) from Jt30 _ _ X30 eh30 N30
  clear st30 X30 N30 N30q eh30
  try clear Lc30
  try clear T30
  try clear N28t
  try clear eT28t
  try clear X28t
  try clear L28t
  try clear T28t
  intro T30t L30t X30t eT30t N30t
  refine own_go (fun _ => XS.iadd X30t.here hx rfl (hb hby d3_127) rfl) ?_
  show own_Ends p e below T30t (mkF m 128 #[.val (.ref a), .val (.int c_), .unset] [(.int ((((((((((((((zz2 + zz4) + zz6) + zz8) + zz10) + zz12) + zz14) + zz16) + zz18) + zz20) + zz22) + zz24) + zz26) + zz28) + zz30))]) _
  refine own_go (fun _ => XS.iloadN X30t.here hx rfl (hb hby d3_128) rfl) ?_
  show own_Ends p e below T30t (mkF m 129 #[.val (.ref a), .val (.int c_), .unset] [(.int c_), (.int ((((((((((((((zz2 + zz4) + zz6) + zz8) + zz10) + zz12) + zz14) + zz16) + zz18) + zz20) + zz22) + zz24) + zz26) + zz28) + zz30))]) _
  refine own_go (fun _ => XS.aloadN X30t.here hx rfl (hb hby d3_129) rfl rfl) ?_
  show own_Ends p e below T30t (mkF m 130 #[.val (.ref a), .val (.int c_), .unset] [(.ref a), (.int c_), (.int ((((((((((((((zz2 + zz4) + zz6) + zz8) + zz10) + zz12) + zz14) + zz16) + zz18) + zz20) + zz22) + zz24) + zz26) + zz28) + zz30))]) _
  refine own_go (fun _ => XS.bipush X30t.here hx rfl (hb hby d3_130)) ?_
  show own_Ends p e below T30t (mkF m 132 #[.val (.ref a), .val (.int c_), .unset] [(.int (15 : Int32)), (.ref a), (.int c_), (.int ((((((((((((((zz2 + zz4) + zz6) + zz8) + zz10) + zz12) + zz14) + zz16) + zz18) + zz20) + zz22) + zz24) + zz26) + zz28) + zz30))]) _
  obtain ⟨cl_31, Ar_31, q_31, S_31, M_31, H_31, G_31⟩ := id V_a
  have hin31 : ¬ ((15 : Int32) < 0 ∨ cl_31.slots.size ≤ ((15 : Int32)).toNatClampNeg) := inb_of S_31 ⟨by decide, by decide⟩
  have hat31 : cl_31.slots[((15 : Int32)).toNatClampNeg]? = some (.int (8206 : Int32)) := Has.at H_31 hin31 (rfl)
  refine own_go (X30t.iaload hx (j := (15 : Int32)) (v := (.int (8206 : Int32))) (by rw [eT30t]; exact Ar_31.1) (State.isArrayOf_alike hZ.alike Ar_31.2.1) Ar_31.2.2 hin31 hat31 (g := (mkF m 132 #[.val (.ref a), .val (.int c_), .unset] [(.int (15 : Int32)), (.ref a), (.int c_), (.int ((((((((((((((zz2 + zz4) + zz6) + zz8) + zz10) + zz12) + zz14) + zz16) + zz18) + zz20) + zz22) + zz24) + zz26) + zz28) + zz30))])) rfl rfl (hb hby d3_132)) ?_
  clear hat31 hin31 G_31 H_31 M_31 S_31 q_31 Ar_31
  try clear cl_31
  show own_Ends p e below T30t (mkF m 133 #[.val (.ref a), .val (.int c_), .unset] [(.int (8206 : Int32)), (.int c_), (.int ((((((((((((((zz2 + zz4) + zz6) + zz8) + zz10) + zz12) + zz14) + zz16) + zz18) + zz20) + zz22) + zz24) + zz26) + zz28) + zz30))]) _
  obtain ⟨_, _, ⟨T32, L32, k32, n32⟩, -, X32, ⟨Lc32, hQ32, l32, y32, z32⟩, st32⟩ := Jvm.LawKit.callS X30t hx (y := (⟨"com/example/graphtide/graphtide/rdf/CharClassesIsPnCharsBasePinLaw", "ge", "(II)I"⟩ : MethodName)) hown (mvT hZ (hw _ (List.mem_of_getElem? (i := 23) rfl))) (mvT hZ (hw _ (List.mem_of_getElem? (i := 24) rfl))) (mvT hZ (hw _ (List.mem_of_getElem? (i := 2) rfl))) (mvT hZ (hw _ (List.mem_of_getElem? (i := 25) rfl))) (by decide) (backOf (W := 1) (rmGe l Z a0 hw [] c_ ((8206 : Int32))  h0 n0 Z0 ) hZ (hw _ (List.mem_of_getElem? (i := 25) rfl)) (hw _ (List.mem_of_getElem? (i := 2) rfl)) (by decide) (by decide)) (g := (mkF m 133 #[.val (.ref a), .val (.int c_), .unset] [(.int (8206 : Int32)), (.int c_), (.int ((((((((((((((zz2 + zz4) + zz6) + zz8) + zz10) + zz12) + zz14) + zz16) + zz18) + zz20) + zz22) + zz24) + zz26) + zz28) + zz30))])) rfl (by rw [hml]; rfl) (argsL := [(.int c_), (.int (8206 : Int32))]) (rest := [(.int ((((((((((((((zz2 + zz4) + zz6) + zz8) + zz10) + zz12) + zz14) + zz16) + zz18) + zz20) + zz22) + zz24) + zz26) + zz28) + zz30))]) (lenOf pd_0 rfl) rfl (by show 2 * 0 + _ ≤ _; exact Nat.le_of_eq rfl) (hb hby d3_133) (fun _ _ => ⟨rfl, eT30t, (by decide : 0 + 0 ≤ _), (by decide : 0 + 0 ≤ _)⟩)
  dsimp only [Pt.U, Pt.locs, Pt.cells, Pt.slots] at X32 l32 y32 z32 st32 hQ32
  replace y32 : k32 = 0 := y32
  replace z32 : n32 = 0 := z32
  subst l32 y32 z32
  refine own_go st32 ?_
  obtain ⟨zz32, rfl, hzz32, N32q, eh32⟩ := hQ32
  have N32 := Fr.app N30t N32q
  show own_Ends p e below T32 (mkF m 136 #[.val (.ref a), .val (.int c_), .unset] [(.int zz32), (.int ((((((((((((((zz2 + zz4) + zz6) + zz8) + zz10) + zz12) + zz14) + zz16) + zz18) + zz20) + zz22) + zz24) + zz26) + zz28) + zz30))]) _
  suffices Jt32 : ∀ (T_ : State) (L_ : List Loc), Stand p l e ({ frames := 1, cells := 0, slots := 0, locals := 14 } : Room) s m #[(.ref a), (.int c_)] below meth c T_ L_ 0 0 → T_.heap = h0 → Fr n0 L_ → own_Ends p e below T_ (mkF m 136 #[.val (.ref a), .val (.int c_), .unset] [(.int zz32), (.int ((((((((((((((zz2 + zz4) + zz6) + zz8) + zz10) + zz12) + zz14) + zz16) + zz18) + zz20) + zz22) + zz24) + zz26) + zz28) + zz30))]) (fun ou U' => ∃ v L, ou = .returned v ∧ Q_rmIns Z a c_ kl h0 n0 v U'.heap L ∧ FrameEnd s ou U' L ({ frames := 1, cells := 0, slots := 0, locals := 14 } : Room).cells ({ frames := 1, cells := 0, slots := 0, locals := 14 } : Room).slots) from Jt32 _ _ X32 eh32 N32
  clear st32 X32 N32 N32q eh32
  try clear Lc32
  try clear T32
  try clear N30t
  try clear eT30t
  try clear X30t
  try clear L30t
  try clear T30t
  intro T32t L32t X32t eT32t N32t
  refine own_go (fun _ => XS.iadd X32t.here hx rfl (hb hby d3_136) rfl) ?_
  show own_Ends p e below T32t (mkF m 137 #[.val (.ref a), .val (.int c_), .unset] [(.int (((((((((((((((zz2 + zz4) + zz6) + zz8) + zz10) + zz12) + zz14) + zz16) + zz18) + zz20) + zz22) + zz24) + zz26) + zz28) + zz30) + zz32))]) _
  refine own_go (fun _ => XS.iloadN X32t.here hx rfl (hb hby d3_137) rfl) ?_
  show own_Ends p e below T32t (mkF m 138 #[.val (.ref a), .val (.int c_), .unset] [(.int c_), (.int (((((((((((((((zz2 + zz4) + zz6) + zz8) + zz10) + zz12) + zz14) + zz16) + zz18) + zz20) + zz22) + zz24) + zz26) + zz28) + zz30) + zz32))]) _
  refine own_go (fun _ => XS.aloadN X32t.here hx rfl (hb hby d3_138) rfl rfl) ?_
  show own_Ends p e below T32t (mkF m 139 #[.val (.ref a), .val (.int c_), .unset] [(.ref a), (.int c_), (.int (((((((((((((((zz2 + zz4) + zz6) + zz8) + zz10) + zz12) + zz14) + zz16) + zz18) + zz20) + zz22) + zz24) + zz26) + zz28) + zz30) + zz32))]) _
  refine own_go (fun _ => XS.bipush X32t.here hx rfl (hb hby d3_139)) ?_
  show own_Ends p e below T32t (mkF m 141 #[.val (.ref a), .val (.int c_), .unset] [(.int (16 : Int32)), (.ref a), (.int c_), (.int (((((((((((((((zz2 + zz4) + zz6) + zz8) + zz10) + zz12) + zz14) + zz16) + zz18) + zz20) + zz22) + zz24) + zz26) + zz28) + zz30) + zz32))]) _
  obtain ⟨cl_33, Ar_33, q_33, S_33, M_33, H_33, G_33⟩ := id V_a
  have hin33 : ¬ ((16 : Int32) < 0 ∨ cl_33.slots.size ≤ ((16 : Int32)).toNatClampNeg) := inb_of S_33 ⟨by decide, by decide⟩
  have hat33 : cl_33.slots[((16 : Int32)).toNatClampNeg]? = some (.int (8304 : Int32)) := Has.at H_33 hin33 (rfl)
  refine own_go (X32t.iaload hx (j := (16 : Int32)) (v := (.int (8304 : Int32))) (by rw [eT32t]; exact Ar_33.1) (State.isArrayOf_alike hZ.alike Ar_33.2.1) Ar_33.2.2 hin33 hat33 (g := (mkF m 141 #[.val (.ref a), .val (.int c_), .unset] [(.int (16 : Int32)), (.ref a), (.int c_), (.int (((((((((((((((zz2 + zz4) + zz6) + zz8) + zz10) + zz12) + zz14) + zz16) + zz18) + zz20) + zz22) + zz24) + zz26) + zz28) + zz30) + zz32))])) rfl rfl (hb hby d3_141)) ?_
  clear hat33 hin33 G_33 H_33 M_33 S_33 q_33 Ar_33
  try clear cl_33
  show own_Ends p e below T32t (mkF m 142 #[.val (.ref a), .val (.int c_), .unset] [(.int (8304 : Int32)), (.int c_), (.int (((((((((((((((zz2 + zz4) + zz6) + zz8) + zz10) + zz12) + zz14) + zz16) + zz18) + zz20) + zz22) + zz24) + zz26) + zz28) + zz30) + zz32))]) _
  obtain ⟨_, _, ⟨T34, L34, k34, n34⟩, -, X34, ⟨Lc34, hQ34, l34, y34, z34⟩, st34⟩ := Jvm.LawKit.callS X32t hx (y := (⟨"com/example/graphtide/graphtide/rdf/CharClassesIsPnCharsBasePinLaw", "ge", "(II)I"⟩ : MethodName)) hown (mvT hZ (hw _ (List.mem_of_getElem? (i := 23) rfl))) (mvT hZ (hw _ (List.mem_of_getElem? (i := 24) rfl))) (mvT hZ (hw _ (List.mem_of_getElem? (i := 2) rfl))) (mvT hZ (hw _ (List.mem_of_getElem? (i := 25) rfl))) (by decide) (backOf (W := 1) (rmGe l Z a0 hw [] c_ ((8304 : Int32))  h0 n0 Z0 ) hZ (hw _ (List.mem_of_getElem? (i := 25) rfl)) (hw _ (List.mem_of_getElem? (i := 2) rfl)) (by decide) (by decide)) (g := (mkF m 142 #[.val (.ref a), .val (.int c_), .unset] [(.int (8304 : Int32)), (.int c_), (.int (((((((((((((((zz2 + zz4) + zz6) + zz8) + zz10) + zz12) + zz14) + zz16) + zz18) + zz20) + zz22) + zz24) + zz26) + zz28) + zz30) + zz32))])) rfl (by rw [hml]; rfl) (argsL := [(.int c_), (.int (8304 : Int32))]) (rest := [(.int (((((((((((((((zz2 + zz4) + zz6) + zz8) + zz10) + zz12) + zz14) + zz16) + zz18) + zz20) + zz22) + zz24) + zz26) + zz28) + zz30) + zz32))]) (lenOf pd_0 rfl) rfl (by show 2 * 0 + _ ≤ _; exact Nat.le_of_eq rfl) (hb hby d3_142) (fun _ _ => ⟨rfl, eT32t, (by decide : 0 + 0 ≤ _), (by decide : 0 + 0 ≤ _)⟩)
  dsimp only [Pt.U, Pt.locs, Pt.cells, Pt.slots] at X34 l34 y34 z34 st34 hQ34
  replace y34 : k34 = 0 := y34
  replace z34 : n34 = 0 := z34
  subst l34 y34 z34
  refine own_go st34 ?_
  obtain ⟨zz34, rfl, hzz34, N34q, eh34⟩ := hQ34
  have N34 := Fr.app N32t N34q
  show own_Ends p e below T34 (mkF m 145 #[.val (.ref a), .val (.int c_), .unset] [(.int zz34), (.int (((((((((((((((zz2 + zz4) + zz6) + zz8) + zz10) + zz12) + zz14) + zz16) + zz18) + zz20) + zz22) + zz24) + zz26) + zz28) + zz30) + zz32))]) _
  suffices Jt34 : ∀ (T_ : State) (L_ : List Loc), Stand p l e ({ frames := 1, cells := 0, slots := 0, locals := 14 } : Room) s m #[(.ref a), (.int c_)] below meth c T_ L_ 0 0 → T_.heap = h0 → Fr n0 L_ → own_Ends p e below T_ (mkF m 145 #[.val (.ref a), .val (.int c_), .unset] [(.int zz34), (.int (((((((((((((((zz2 + zz4) + zz6) + zz8) + zz10) + zz12) + zz14) + zz16) + zz18) + zz20) + zz22) + zz24) + zz26) + zz28) + zz30) + zz32))]) (fun ou U' => ∃ v L, ou = .returned v ∧ Q_rmIns Z a c_ kl h0 n0 v U'.heap L ∧ FrameEnd s ou U' L ({ frames := 1, cells := 0, slots := 0, locals := 14 } : Room).cells ({ frames := 1, cells := 0, slots := 0, locals := 14 } : Room).slots) from Jt34 _ _ X34 eh34 N34
  clear st34 X34 N34 N34q eh34
  try clear Lc34
  try clear T34
  try clear N32t
  try clear eT32t
  try clear X32t
  try clear L32t
  try clear T32t
  intro T34t L34t X34t eT34t N34t
  refine own_go (fun _ => XS.iadd X34t.here hx rfl (hb hby d3_145) rfl) ?_
  show own_Ends p e below T34t (mkF m 146 #[.val (.ref a), .val (.int c_), .unset] [(.int ((((((((((((((((zz2 + zz4) + zz6) + zz8) + zz10) + zz12) + zz14) + zz16) + zz18) + zz20) + zz22) + zz24) + zz26) + zz28) + zz30) + zz32) + zz34))]) _
  refine own_go (fun _ => XS.iloadN X34t.here hx rfl (hb hby d3_146) rfl) ?_
  show own_Ends p e below T34t (mkF m 147 #[.val (.ref a), .val (.int c_), .unset] [(.int c_), (.int ((((((((((((((((zz2 + zz4) + zz6) + zz8) + zz10) + zz12) + zz14) + zz16) + zz18) + zz20) + zz22) + zz24) + zz26) + zz28) + zz30) + zz32) + zz34))]) _
  refine own_go (fun _ => XS.aloadN X34t.here hx rfl (hb hby d3_147) rfl rfl) ?_
  show own_Ends p e below T34t (mkF m 148 #[.val (.ref a), .val (.int c_), .unset] [(.ref a), (.int c_), (.int ((((((((((((((((zz2 + zz4) + zz6) + zz8) + zz10) + zz12) + zz14) + zz16) + zz18) + zz20) + zz22) + zz24) + zz26) + zz28) + zz30) + zz32) + zz34))]) _
  refine own_go (fun _ => XS.bipush X34t.here hx rfl (hb hby d3_148)) ?_
  show own_Ends p e below T34t (mkF m 150 #[.val (.ref a), .val (.int c_), .unset] [(.int (17 : Int32)), (.ref a), (.int c_), (.int ((((((((((((((((zz2 + zz4) + zz6) + zz8) + zz10) + zz12) + zz14) + zz16) + zz18) + zz20) + zz22) + zz24) + zz26) + zz28) + zz30) + zz32) + zz34))]) _
  obtain ⟨cl_35, Ar_35, q_35, S_35, M_35, H_35, G_35⟩ := id V_a
  have hin35 : ¬ ((17 : Int32) < 0 ∨ cl_35.slots.size ≤ ((17 : Int32)).toNatClampNeg) := inb_of S_35 ⟨by decide, by decide⟩
  have hat35 : cl_35.slots[((17 : Int32)).toNatClampNeg]? = some (.int (8592 : Int32)) := Has.at H_35 hin35 (rfl)
  refine own_go (X34t.iaload hx (j := (17 : Int32)) (v := (.int (8592 : Int32))) (by rw [eT34t]; exact Ar_35.1) (State.isArrayOf_alike hZ.alike Ar_35.2.1) Ar_35.2.2 hin35 hat35 (g := (mkF m 150 #[.val (.ref a), .val (.int c_), .unset] [(.int (17 : Int32)), (.ref a), (.int c_), (.int ((((((((((((((((zz2 + zz4) + zz6) + zz8) + zz10) + zz12) + zz14) + zz16) + zz18) + zz20) + zz22) + zz24) + zz26) + zz28) + zz30) + zz32) + zz34))])) rfl rfl (hb hby d3_150)) ?_
  clear hat35 hin35 G_35 H_35 M_35 S_35 q_35 Ar_35
  try clear cl_35
  show own_Ends p e below T34t (mkF m 151 #[.val (.ref a), .val (.int c_), .unset] [(.int (8592 : Int32)), (.int c_), (.int ((((((((((((((((zz2 + zz4) + zz6) + zz8) + zz10) + zz12) + zz14) + zz16) + zz18) + zz20) + zz22) + zz24) + zz26) + zz28) + zz30) + zz32) + zz34))]) _
  obtain ⟨_, _, ⟨T36, L36, k36, n36⟩, -, X36, ⟨Lc36, hQ36, l36, y36, z36⟩, st36⟩ := Jvm.LawKit.callS X34t hx (y := (⟨"com/example/graphtide/graphtide/rdf/CharClassesIsPnCharsBasePinLaw", "ge", "(II)I"⟩ : MethodName)) hown (mvT hZ (hw _ (List.mem_of_getElem? (i := 23) rfl))) (mvT hZ (hw _ (List.mem_of_getElem? (i := 24) rfl))) (mvT hZ (hw _ (List.mem_of_getElem? (i := 2) rfl))) (mvT hZ (hw _ (List.mem_of_getElem? (i := 25) rfl))) (by decide) (backOf (W := 1) (rmGe l Z a0 hw [] c_ ((8592 : Int32))  h0 n0 Z0 ) hZ (hw _ (List.mem_of_getElem? (i := 25) rfl)) (hw _ (List.mem_of_getElem? (i := 2) rfl)) (by decide) (by decide)) (g := (mkF m 151 #[.val (.ref a), .val (.int c_), .unset] [(.int (8592 : Int32)), (.int c_), (.int ((((((((((((((((zz2 + zz4) + zz6) + zz8) + zz10) + zz12) + zz14) + zz16) + zz18) + zz20) + zz22) + zz24) + zz26) + zz28) + zz30) + zz32) + zz34))])) rfl (by rw [hml]; rfl) (argsL := [(.int c_), (.int (8592 : Int32))]) (rest := [(.int ((((((((((((((((zz2 + zz4) + zz6) + zz8) + zz10) + zz12) + zz14) + zz16) + zz18) + zz20) + zz22) + zz24) + zz26) + zz28) + zz30) + zz32) + zz34))]) (lenOf pd_0 rfl) rfl (by show 2 * 0 + _ ≤ _; exact Nat.le_of_eq rfl) (hb hby d3_151) (fun _ _ => ⟨rfl, eT34t, (by decide : 0 + 0 ≤ _), (by decide : 0 + 0 ≤ _)⟩)
  dsimp only [Pt.U, Pt.locs, Pt.cells, Pt.slots] at X36 l36 y36 z36 st36 hQ36
  replace y36 : k36 = 0 := y36
  replace z36 : n36 = 0 := z36
  subst l36 y36 z36
  refine own_go st36 ?_
  obtain ⟨zz36, rfl, hzz36, N36q, eh36⟩ := hQ36
  have N36 := Fr.app N34t N36q
  show own_Ends p e below T36 (mkF m 154 #[.val (.ref a), .val (.int c_), .unset] [(.int zz36), (.int ((((((((((((((((zz2 + zz4) + zz6) + zz8) + zz10) + zz12) + zz14) + zz16) + zz18) + zz20) + zz22) + zz24) + zz26) + zz28) + zz30) + zz32) + zz34))]) _
  suffices Jt36 : ∀ (T_ : State) (L_ : List Loc), Stand p l e ({ frames := 1, cells := 0, slots := 0, locals := 14 } : Room) s m #[(.ref a), (.int c_)] below meth c T_ L_ 0 0 → T_.heap = h0 → Fr n0 L_ → own_Ends p e below T_ (mkF m 154 #[.val (.ref a), .val (.int c_), .unset] [(.int zz36), (.int ((((((((((((((((zz2 + zz4) + zz6) + zz8) + zz10) + zz12) + zz14) + zz16) + zz18) + zz20) + zz22) + zz24) + zz26) + zz28) + zz30) + zz32) + zz34))]) (fun ou U' => ∃ v L, ou = .returned v ∧ Q_rmIns Z a c_ kl h0 n0 v U'.heap L ∧ FrameEnd s ou U' L ({ frames := 1, cells := 0, slots := 0, locals := 14 } : Room).cells ({ frames := 1, cells := 0, slots := 0, locals := 14 } : Room).slots) from Jt36 _ _ X36 eh36 N36
  clear st36 X36 N36 N36q eh36
  try clear Lc36
  try clear T36
  try clear N34t
  try clear eT34t
  try clear X34t
  try clear L34t
  try clear T34t
  intro T36t L36t X36t eT36t N36t
  refine own_go (fun _ => XS.iadd X36t.here hx rfl (hb hby d3_154) rfl) ?_
  show own_Ends p e below T36t (mkF m 155 #[.val (.ref a), .val (.int c_), .unset] [(.int (((((((((((((((((zz2 + zz4) + zz6) + zz8) + zz10) + zz12) + zz14) + zz16) + zz18) + zz20) + zz22) + zz24) + zz26) + zz28) + zz30) + zz32) + zz34) + zz36))]) _
  refine own_go (fun _ => XS.iloadN X36t.here hx rfl (hb hby d3_155) rfl) ?_
  show own_Ends p e below T36t (mkF m 156 #[.val (.ref a), .val (.int c_), .unset] [(.int c_), (.int (((((((((((((((((zz2 + zz4) + zz6) + zz8) + zz10) + zz12) + zz14) + zz16) + zz18) + zz20) + zz22) + zz24) + zz26) + zz28) + zz30) + zz32) + zz34) + zz36))]) _
  refine own_go (fun _ => XS.aloadN X36t.here hx rfl (hb hby d3_156) rfl rfl) ?_
  show own_Ends p e below T36t (mkF m 157 #[.val (.ref a), .val (.int c_), .unset] [(.ref a), (.int c_), (.int (((((((((((((((((zz2 + zz4) + zz6) + zz8) + zz10) + zz12) + zz14) + zz16) + zz18) + zz20) + zz22) + zz24) + zz26) + zz28) + zz30) + zz32) + zz34) + zz36))]) _
  refine own_go (fun _ => XS.bipush X36t.here hx rfl (hb hby d3_157)) ?_
  show own_Ends p e below T36t (mkF m 159 #[.val (.ref a), .val (.int c_), .unset] [(.int (18 : Int32)), (.ref a), (.int c_), (.int (((((((((((((((((zz2 + zz4) + zz6) + zz8) + zz10) + zz12) + zz14) + zz16) + zz18) + zz20) + zz22) + zz24) + zz26) + zz28) + zz30) + zz32) + zz34) + zz36))]) _
  obtain ⟨cl_37, Ar_37, q_37, S_37, M_37, H_37, G_37⟩ := id V_a
  have hin37 : ¬ ((18 : Int32) < 0 ∨ cl_37.slots.size ≤ ((18 : Int32)).toNatClampNeg) := inb_of S_37 ⟨by decide, by decide⟩
  have hat37 : cl_37.slots[((18 : Int32)).toNatClampNeg]? = some (.int (11264 : Int32)) := Has.at H_37 hin37 (rfl)
  refine own_go (X36t.iaload hx (j := (18 : Int32)) (v := (.int (11264 : Int32))) (by rw [eT36t]; exact Ar_37.1) (State.isArrayOf_alike hZ.alike Ar_37.2.1) Ar_37.2.2 hin37 hat37 (g := (mkF m 159 #[.val (.ref a), .val (.int c_), .unset] [(.int (18 : Int32)), (.ref a), (.int c_), (.int (((((((((((((((((zz2 + zz4) + zz6) + zz8) + zz10) + zz12) + zz14) + zz16) + zz18) + zz20) + zz22) + zz24) + zz26) + zz28) + zz30) + zz32) + zz34) + zz36))])) rfl rfl (hb hby d3_159)) ?_
  clear hat37 hin37 G_37 H_37 M_37 S_37 q_37 Ar_37
  try clear cl_37
  show own_Ends p e below T36t (mkF m 160 #[.val (.ref a), .val (.int c_), .unset] [(.int (11264 : Int32)), (.int c_), (.int (((((((((((((((((zz2 + zz4) + zz6) + zz8) + zz10) + zz12) + zz14) + zz16) + zz18) + zz20) + zz22) + zz24) + zz26) + zz28) + zz30) + zz32) + zz34) + zz36))]) _
  obtain ⟨_, _, ⟨T38, L38, k38, n38⟩, -, X38, ⟨Lc38, hQ38, l38, y38, z38⟩, st38⟩ := Jvm.LawKit.callS X36t hx (y := (⟨"com/example/graphtide/graphtide/rdf/CharClassesIsPnCharsBasePinLaw", "ge", "(II)I"⟩ : MethodName)) hown (mvT hZ (hw _ (List.mem_of_getElem? (i := 23) rfl))) (mvT hZ (hw _ (List.mem_of_getElem? (i := 24) rfl))) (mvT hZ (hw _ (List.mem_of_getElem? (i := 2) rfl))) (mvT hZ (hw _ (List.mem_of_getElem? (i := 25) rfl))) (by decide) (backOf (W := 1) (rmGe l Z a0 hw [] c_ ((11264 : Int32))  h0 n0 Z0 ) hZ (hw _ (List.mem_of_getElem? (i := 25) rfl)) (hw _ (List.mem_of_getElem? (i := 2) rfl)) (by decide) (by decide)) (g := (mkF m 160 #[.val (.ref a), .val (.int c_), .unset] [(.int (11264 : Int32)), (.int c_), (.int (((((((((((((((((zz2 + zz4) + zz6) + zz8) + zz10) + zz12) + zz14) + zz16) + zz18) + zz20) + zz22) + zz24) + zz26) + zz28) + zz30) + zz32) + zz34) + zz36))])) rfl (by rw [hml]; rfl) (argsL := [(.int c_), (.int (11264 : Int32))]) (rest := [(.int (((((((((((((((((zz2 + zz4) + zz6) + zz8) + zz10) + zz12) + zz14) + zz16) + zz18) + zz20) + zz22) + zz24) + zz26) + zz28) + zz30) + zz32) + zz34) + zz36))]) (lenOf pd_0 rfl) rfl (by show 2 * 0 + _ ≤ _; exact Nat.le_of_eq rfl) (hb hby d3_160) (fun _ _ => ⟨rfl, eT36t, (by decide : 0 + 0 ≤ _), (by decide : 0 + 0 ≤ _)⟩)
  dsimp only [Pt.U, Pt.locs, Pt.cells, Pt.slots] at X38 l38 y38 z38 st38 hQ38
  replace y38 : k38 = 0 := y38
  replace z38 : n38 = 0 := z38
  subst l38 y38 z38
  refine own_go st38 ?_
  obtain ⟨zz38, rfl, hzz38, N38q, eh38⟩ := hQ38
  have N38 := Fr.app N36t N38q
  show own_Ends p e below T38 (mkF m 163 #[.val (.ref a), .val (.int c_), .unset] [(.int zz38), (.int (((((((((((((((((zz2 + zz4) + zz6) + zz8) + zz10) + zz12) + zz14) + zz16) + zz18) + zz20) + zz22) + zz24) + zz26) + zz28) + zz30) + zz32) + zz34) + zz36))]) _
  suffices Jt38 : ∀ (T_ : State) (L_ : List Loc), Stand p l e ({ frames := 1, cells := 0, slots := 0, locals := 14 } : Room) s m #[(.ref a), (.int c_)] below meth c T_ L_ 0 0 → T_.heap = h0 → Fr n0 L_ → own_Ends p e below T_ (mkF m 163 #[.val (.ref a), .val (.int c_), .unset] [(.int zz38), (.int (((((((((((((((((zz2 + zz4) + zz6) + zz8) + zz10) + zz12) + zz14) + zz16) + zz18) + zz20) + zz22) + zz24) + zz26) + zz28) + zz30) + zz32) + zz34) + zz36))]) (fun ou U' => ∃ v L, ou = .returned v ∧ Q_rmIns Z a c_ kl h0 n0 v U'.heap L ∧ FrameEnd s ou U' L ({ frames := 1, cells := 0, slots := 0, locals := 14 } : Room).cells ({ frames := 1, cells := 0, slots := 0, locals := 14 } : Room).slots) from Jt38 _ _ X38 eh38 N38
  clear st38 X38 N38 N38q eh38
  try clear Lc38
  try clear T38
  try clear N36t
  try clear eT36t
  try clear X36t
  try clear L36t
  try clear T36t
  intro T38t L38t X38t eT38t N38t
  refine own_go (fun _ => XS.iadd X38t.here hx rfl (hb hby d3_163) rfl) ?_
  show own_Ends p e below T38t (mkF m 164 #[.val (.ref a), .val (.int c_), .unset] [(.int ((((((((((((((((((zz2 + zz4) + zz6) + zz8) + zz10) + zz12) + zz14) + zz16) + zz18) + zz20) + zz22) + zz24) + zz26) + zz28) + zz30) + zz32) + zz34) + zz36) + zz38))]) _
  refine own_go (fun _ => XS.iloadN X38t.here hx rfl (hb hby d3_164) rfl) ?_
  show own_Ends p e below T38t (mkF m 165 #[.val (.ref a), .val (.int c_), .unset] [(.int c_), (.int ((((((((((((((((((zz2 + zz4) + zz6) + zz8) + zz10) + zz12) + zz14) + zz16) + zz18) + zz20) + zz22) + zz24) + zz26) + zz28) + zz30) + zz32) + zz34) + zz36) + zz38))]) _
  refine own_go (fun _ => XS.aloadN X38t.here hx rfl (hb hby d3_165) rfl rfl) ?_
  show own_Ends p e below T38t (mkF m 166 #[.val (.ref a), .val (.int c_), .unset] [(.ref a), (.int c_), (.int ((((((((((((((((((zz2 + zz4) + zz6) + zz8) + zz10) + zz12) + zz14) + zz16) + zz18) + zz20) + zz22) + zz24) + zz26) + zz28) + zz30) + zz32) + zz34) + zz36) + zz38))]) _
  refine own_go (fun _ => XS.bipush X38t.here hx rfl (hb hby d3_166)) ?_
  show own_Ends p e below T38t (mkF m 168 #[.val (.ref a), .val (.int c_), .unset] [(.int (19 : Int32)), (.ref a), (.int c_), (.int ((((((((((((((((((zz2 + zz4) + zz6) + zz8) + zz10) + zz12) + zz14) + zz16) + zz18) + zz20) + zz22) + zz24) + zz26) + zz28) + zz30) + zz32) + zz34) + zz36) + zz38))]) _
  obtain ⟨cl_39, Ar_39, q_39, S_39, M_39, H_39, G_39⟩ := id V_a
  have hin39 : ¬ ((19 : Int32) < 0 ∨ cl_39.slots.size ≤ ((19 : Int32)).toNatClampNeg) := inb_of S_39 ⟨by decide, by decide⟩
  have hat39 : cl_39.slots[((19 : Int32)).toNatClampNeg]? = some (.int (12272 : Int32)) := Has.at H_39 hin39 (rfl)
  refine own_go (X38t.iaload hx (j := (19 : Int32)) (v := (.int (12272 : Int32))) (by rw [eT38t]; exact Ar_39.1) (State.isArrayOf_alike hZ.alike Ar_39.2.1) Ar_39.2.2 hin39 hat39 (g := (mkF m 168 #[.val (.ref a), .val (.int c_), .unset] [(.int (19 : Int32)), (.ref a), (.int c_), (.int ((((((((((((((((((zz2 + zz4) + zz6) + zz8) + zz10) + zz12) + zz14) + zz16) + zz18) + zz20) + zz22) + zz24) + zz26) + zz28) + zz30) + zz32) + zz34) + zz36) + zz38))])) rfl rfl (hb hby d3_168)) ?_
  clear hat39 hin39 G_39 H_39 M_39 S_39 q_39 Ar_39
  try clear cl_39
  show own_Ends p e below T38t (mkF m 169 #[.val (.ref a), .val (.int c_), .unset] [(.int (12272 : Int32)), (.int c_), (.int ((((((((((((((((((zz2 + zz4) + zz6) + zz8) + zz10) + zz12) + zz14) + zz16) + zz18) + zz20) + zz22) + zz24) + zz26) + zz28) + zz30) + zz32) + zz34) + zz36) + zz38))]) _
  obtain ⟨_, _, ⟨T40, L40, k40, n40⟩, -, X40, ⟨Lc40, hQ40, l40, y40, z40⟩, st40⟩ := Jvm.LawKit.callS X38t hx (y := (⟨"com/example/graphtide/graphtide/rdf/CharClassesIsPnCharsBasePinLaw", "ge", "(II)I"⟩ : MethodName)) hown (mvT hZ (hw _ (List.mem_of_getElem? (i := 23) rfl))) (mvT hZ (hw _ (List.mem_of_getElem? (i := 24) rfl))) (mvT hZ (hw _ (List.mem_of_getElem? (i := 2) rfl))) (mvT hZ (hw _ (List.mem_of_getElem? (i := 25) rfl))) (by decide) (backOf (W := 1) (rmGe l Z a0 hw [] c_ ((12272 : Int32))  h0 n0 Z0 ) hZ (hw _ (List.mem_of_getElem? (i := 25) rfl)) (hw _ (List.mem_of_getElem? (i := 2) rfl)) (by decide) (by decide)) (g := (mkF m 169 #[.val (.ref a), .val (.int c_), .unset] [(.int (12272 : Int32)), (.int c_), (.int ((((((((((((((((((zz2 + zz4) + zz6) + zz8) + zz10) + zz12) + zz14) + zz16) + zz18) + zz20) + zz22) + zz24) + zz26) + zz28) + zz30) + zz32) + zz34) + zz36) + zz38))])) rfl (by rw [hml]; rfl) (argsL := [(.int c_), (.int (12272 : Int32))]) (rest := [(.int ((((((((((((((((((zz2 + zz4) + zz6) + zz8) + zz10) + zz12) + zz14) + zz16) + zz18) + zz20) + zz22) + zz24) + zz26) + zz28) + zz30) + zz32) + zz34) + zz36) + zz38))]) (lenOf pd_0 rfl) rfl (by show 2 * 0 + _ ≤ _; exact Nat.le_of_eq rfl) (hb hby d3_169) (fun _ _ => ⟨rfl, eT38t, (by decide : 0 + 0 ≤ _), (by decide : 0 + 0 ≤ _)⟩)
  dsimp only [Pt.U, Pt.locs, Pt.cells, Pt.slots] at X40 l40 y40 z40 st40 hQ40
  replace y40 : k40 = 0 := y40
  replace z40 : n40 = 0 := z40
  subst l40 y40 z40
  refine own_go st40 ?_
  obtain ⟨zz40, rfl, hzz40, N40q, eh40⟩ := hQ40
  have N40 := Fr.app N38t N40q
  show own_Ends p e below T40 (mkF m 172 #[.val (.ref a), .val (.int c_), .unset] [(.int zz40), (.int ((((((((((((((((((zz2 + zz4) + zz6) + zz8) + zz10) + zz12) + zz14) + zz16) + zz18) + zz20) + zz22) + zz24) + zz26) + zz28) + zz30) + zz32) + zz34) + zz36) + zz38))]) _
  suffices Jt40 : ∀ (T_ : State) (L_ : List Loc), Stand p l e ({ frames := 1, cells := 0, slots := 0, locals := 14 } : Room) s m #[(.ref a), (.int c_)] below meth c T_ L_ 0 0 → T_.heap = h0 → Fr n0 L_ → own_Ends p e below T_ (mkF m 172 #[.val (.ref a), .val (.int c_), .unset] [(.int zz40), (.int ((((((((((((((((((zz2 + zz4) + zz6) + zz8) + zz10) + zz12) + zz14) + zz16) + zz18) + zz20) + zz22) + zz24) + zz26) + zz28) + zz30) + zz32) + zz34) + zz36) + zz38))]) (fun ou U' => ∃ v L, ou = .returned v ∧ Q_rmIns Z a c_ kl h0 n0 v U'.heap L ∧ FrameEnd s ou U' L ({ frames := 1, cells := 0, slots := 0, locals := 14 } : Room).cells ({ frames := 1, cells := 0, slots := 0, locals := 14 } : Room).slots) from Jt40 _ _ X40 eh40 N40
  clear st40 X40 N40 N40q eh40
  try clear Lc40
  try clear T40
  try clear N38t
  try clear eT38t
  try clear X38t
  try clear L38t
  try clear T38t
  intro T40t L40t X40t eT40t N40t
  refine own_go (fun _ => XS.iadd X40t.here hx rfl (hb hby d3_172) rfl) ?_
  show own_Ends p e below T40t (mkF m 173 #[.val (.ref a), .val (.int c_), .unset] [(.int (((((((((((((((((((zz2 + zz4) + zz6) + zz8) + zz10) + zz12) + zz14) + zz16) + zz18) + zz20) + zz22) + zz24) + zz26) + zz28) + zz30) + zz32) + zz34) + zz36) + zz38) + zz40))]) _
  refine own_go (fun _ => XS.iloadN X40t.here hx rfl (hb hby d3_173) rfl) ?_
  show own_Ends p e below T40t (mkF m 174 #[.val (.ref a), .val (.int c_), .unset] [(.int c_), (.int (((((((((((((((((((zz2 + zz4) + zz6) + zz8) + zz10) + zz12) + zz14) + zz16) + zz18) + zz20) + zz22) + zz24) + zz26) + zz28) + zz30) + zz32) + zz34) + zz36) + zz38) + zz40))]) _
  refine own_go (fun _ => XS.aloadN X40t.here hx rfl (hb hby d3_174) rfl rfl) ?_
  show own_Ends p e below T40t (mkF m 175 #[.val (.ref a), .val (.int c_), .unset] [(.ref a), (.int c_), (.int (((((((((((((((((((zz2 + zz4) + zz6) + zz8) + zz10) + zz12) + zz14) + zz16) + zz18) + zz20) + zz22) + zz24) + zz26) + zz28) + zz30) + zz32) + zz34) + zz36) + zz38) + zz40))]) _
  refine own_go (fun _ => XS.bipush X40t.here hx rfl (hb hby d3_175)) ?_
  show own_Ends p e below T40t (mkF m 177 #[.val (.ref a), .val (.int c_), .unset] [(.int (20 : Int32)), (.ref a), (.int c_), (.int (((((((((((((((((((zz2 + zz4) + zz6) + zz8) + zz10) + zz12) + zz14) + zz16) + zz18) + zz20) + zz22) + zz24) + zz26) + zz28) + zz30) + zz32) + zz34) + zz36) + zz38) + zz40))]) _
  obtain ⟨cl_41, Ar_41, q_41, S_41, M_41, H_41, G_41⟩ := id V_a
  have hin41 : ¬ ((20 : Int32) < 0 ∨ cl_41.slots.size ≤ ((20 : Int32)).toNatClampNeg) := inb_of S_41 ⟨by decide, by decide⟩
  have hat41 : cl_41.slots[((20 : Int32)).toNatClampNeg]? = some (.int (12289 : Int32)) := Has.at H_41 hin41 (rfl)
  refine own_go (X40t.iaload hx (j := (20 : Int32)) (v := (.int (12289 : Int32))) (by rw [eT40t]; exact Ar_41.1) (State.isArrayOf_alike hZ.alike Ar_41.2.1) Ar_41.2.2 hin41 hat41 (g := (mkF m 177 #[.val (.ref a), .val (.int c_), .unset] [(.int (20 : Int32)), (.ref a), (.int c_), (.int (((((((((((((((((((zz2 + zz4) + zz6) + zz8) + zz10) + zz12) + zz14) + zz16) + zz18) + zz20) + zz22) + zz24) + zz26) + zz28) + zz30) + zz32) + zz34) + zz36) + zz38) + zz40))])) rfl rfl (hb hby d3_177)) ?_
  clear hat41 hin41 G_41 H_41 M_41 S_41 q_41 Ar_41
  try clear cl_41
  show own_Ends p e below T40t (mkF m 178 #[.val (.ref a), .val (.int c_), .unset] [(.int (12289 : Int32)), (.int c_), (.int (((((((((((((((((((zz2 + zz4) + zz6) + zz8) + zz10) + zz12) + zz14) + zz16) + zz18) + zz20) + zz22) + zz24) + zz26) + zz28) + zz30) + zz32) + zz34) + zz36) + zz38) + zz40))]) _
  obtain ⟨_, _, ⟨T42, L42, k42, n42⟩, -, X42, ⟨Lc42, hQ42, l42, y42, z42⟩, st42⟩ := Jvm.LawKit.callS X40t hx (y := (⟨"com/example/graphtide/graphtide/rdf/CharClassesIsPnCharsBasePinLaw", "ge", "(II)I"⟩ : MethodName)) hown (mvT hZ (hw _ (List.mem_of_getElem? (i := 23) rfl))) (mvT hZ (hw _ (List.mem_of_getElem? (i := 24) rfl))) (mvT hZ (hw _ (List.mem_of_getElem? (i := 2) rfl))) (mvT hZ (hw _ (List.mem_of_getElem? (i := 25) rfl))) (by decide) (backOf (W := 1) (rmGe l Z a0 hw [] c_ ((12289 : Int32))  h0 n0 Z0 ) hZ (hw _ (List.mem_of_getElem? (i := 25) rfl)) (hw _ (List.mem_of_getElem? (i := 2) rfl)) (by decide) (by decide)) (g := (mkF m 178 #[.val (.ref a), .val (.int c_), .unset] [(.int (12289 : Int32)), (.int c_), (.int (((((((((((((((((((zz2 + zz4) + zz6) + zz8) + zz10) + zz12) + zz14) + zz16) + zz18) + zz20) + zz22) + zz24) + zz26) + zz28) + zz30) + zz32) + zz34) + zz36) + zz38) + zz40))])) rfl (by rw [hml]; rfl) (argsL := [(.int c_), (.int (12289 : Int32))]) (rest := [(.int (((((((((((((((((((zz2 + zz4) + zz6) + zz8) + zz10) + zz12) + zz14) + zz16) + zz18) + zz20) + zz22) + zz24) + zz26) + zz28) + zz30) + zz32) + zz34) + zz36) + zz38) + zz40))]) (lenOf pd_0 rfl) rfl (by show 2 * 0 + _ ≤ _; exact Nat.le_of_eq rfl) (hb hby d3_178) (fun _ _ => ⟨rfl, eT40t, (by decide : 0 + 0 ≤ _), (by decide : 0 + 0 ≤ _)⟩)
  dsimp only [Pt.U, Pt.locs, Pt.cells, Pt.slots] at X42 l42 y42 z42 st42 hQ42
  replace y42 : k42 = 0 := y42
  replace z42 : n42 = 0 := z42
  subst l42 y42 z42
  refine own_go st42 ?_
  obtain ⟨zz42, rfl, hzz42, N42q, eh42⟩ := hQ42
  have N42 := Fr.app N40t N42q
  show own_Ends p e below T42 (mkF m 181 #[.val (.ref a), .val (.int c_), .unset] [(.int zz42), (.int (((((((((((((((((((zz2 + zz4) + zz6) + zz8) + zz10) + zz12) + zz14) + zz16) + zz18) + zz20) + zz22) + zz24) + zz26) + zz28) + zz30) + zz32) + zz34) + zz36) + zz38) + zz40))]) _
  suffices Jt42 : ∀ (T_ : State) (L_ : List Loc), Stand p l e ({ frames := 1, cells := 0, slots := 0, locals := 14 } : Room) s m #[(.ref a), (.int c_)] below meth c T_ L_ 0 0 → T_.heap = h0 → Fr n0 L_ → own_Ends p e below T_ (mkF m 181 #[.val (.ref a), .val (.int c_), .unset] [(.int zz42), (.int (((((((((((((((((((zz2 + zz4) + zz6) + zz8) + zz10) + zz12) + zz14) + zz16) + zz18) + zz20) + zz22) + zz24) + zz26) + zz28) + zz30) + zz32) + zz34) + zz36) + zz38) + zz40))]) (fun ou U' => ∃ v L, ou = .returned v ∧ Q_rmIns Z a c_ kl h0 n0 v U'.heap L ∧ FrameEnd s ou U' L ({ frames := 1, cells := 0, slots := 0, locals := 14 } : Room).cells ({ frames := 1, cells := 0, slots := 0, locals := 14 } : Room).slots) from Jt42 _ _ X42 eh42 N42
  clear st42 X42 N42 N42q eh42
  try clear Lc42
  try clear T42
  try clear N40t
  try clear eT40t
  try clear X40t
  try clear L40t
  try clear T40t
  intro T42t L42t X42t eT42t N42t
  refine own_go (fun _ => XS.iadd X42t.here hx rfl (hb hby d3_181) rfl) ?_
  show own_Ends p e below T42t (mkF m 182 #[.val (.ref a), .val (.int c_), .unset] [(.int ((((((((((((((((((((zz2 + zz4) + zz6) + zz8) + zz10) + zz12) + zz14) + zz16) + zz18) + zz20) + zz22) + zz24) + zz26) + zz28) + zz30) + zz32) + zz34) + zz36) + zz38) + zz40) + zz42))]) _
  refine own_go (fun _ => XS.iloadN X42t.here hx rfl (hb hby d3_182) rfl) ?_
  show own_Ends p e below T42t (mkF m 183 #[.val (.ref a), .val (.int c_), .unset] [(.int c_), (.int ((((((((((((((((((((zz2 + zz4) + zz6) + zz8) + zz10) + zz12) + zz14) + zz16) + zz18) + zz20) + zz22) + zz24) + zz26) + zz28) + zz30) + zz32) + zz34) + zz36) + zz38) + zz40) + zz42))]) _
  refine own_go (fun _ => XS.aloadN X42t.here hx rfl (hb hby d3_183) rfl rfl) ?_
  show own_Ends p e below T42t (mkF m 184 #[.val (.ref a), .val (.int c_), .unset] [(.ref a), (.int c_), (.int ((((((((((((((((((((zz2 + zz4) + zz6) + zz8) + zz10) + zz12) + zz14) + zz16) + zz18) + zz20) + zz22) + zz24) + zz26) + zz28) + zz30) + zz32) + zz34) + zz36) + zz38) + zz40) + zz42))]) _
  refine own_go (fun _ => XS.bipush X42t.here hx rfl (hb hby d3_184)) ?_
  show own_Ends p e below T42t (mkF m 186 #[.val (.ref a), .val (.int c_), .unset] [(.int (21 : Int32)), (.ref a), (.int c_), (.int ((((((((((((((((((((zz2 + zz4) + zz6) + zz8) + zz10) + zz12) + zz14) + zz16) + zz18) + zz20) + zz22) + zz24) + zz26) + zz28) + zz30) + zz32) + zz34) + zz36) + zz38) + zz40) + zz42))]) _
  obtain ⟨cl_43, Ar_43, q_43, S_43, M_43, H_43, G_43⟩ := id V_a
  have hin43 : ¬ ((21 : Int32) < 0 ∨ cl_43.slots.size ≤ ((21 : Int32)).toNatClampNeg) := inb_of S_43 ⟨by decide, by decide⟩
  have hat43 : cl_43.slots[((21 : Int32)).toNatClampNeg]? = some (.int (55296 : Int32)) := Has.at H_43 hin43 (rfl)
  refine own_go (X42t.iaload hx (j := (21 : Int32)) (v := (.int (55296 : Int32))) (by rw [eT42t]; exact Ar_43.1) (State.isArrayOf_alike hZ.alike Ar_43.2.1) Ar_43.2.2 hin43 hat43 (g := (mkF m 186 #[.val (.ref a), .val (.int c_), .unset] [(.int (21 : Int32)), (.ref a), (.int c_), (.int ((((((((((((((((((((zz2 + zz4) + zz6) + zz8) + zz10) + zz12) + zz14) + zz16) + zz18) + zz20) + zz22) + zz24) + zz26) + zz28) + zz30) + zz32) + zz34) + zz36) + zz38) + zz40) + zz42))])) rfl rfl (hb hby d3_186)) ?_
  clear hat43 hin43 G_43 H_43 M_43 S_43 q_43 Ar_43
  try clear cl_43
  show own_Ends p e below T42t (mkF m 187 #[.val (.ref a), .val (.int c_), .unset] [(.int (55296 : Int32)), (.int c_), (.int ((((((((((((((((((((zz2 + zz4) + zz6) + zz8) + zz10) + zz12) + zz14) + zz16) + zz18) + zz20) + zz22) + zz24) + zz26) + zz28) + zz30) + zz32) + zz34) + zz36) + zz38) + zz40) + zz42))]) _
  obtain ⟨_, _, ⟨T44, L44, k44, n44⟩, -, X44, ⟨Lc44, hQ44, l44, y44, z44⟩, st44⟩ := Jvm.LawKit.callS X42t hx (y := (⟨"com/example/graphtide/graphtide/rdf/CharClassesIsPnCharsBasePinLaw", "ge", "(II)I"⟩ : MethodName)) hown (mvT hZ (hw _ (List.mem_of_getElem? (i := 23) rfl))) (mvT hZ (hw _ (List.mem_of_getElem? (i := 24) rfl))) (mvT hZ (hw _ (List.mem_of_getElem? (i := 2) rfl))) (mvT hZ (hw _ (List.mem_of_getElem? (i := 25) rfl))) (by decide) (backOf (W := 1) (rmGe l Z a0 hw [] c_ ((55296 : Int32))  h0 n0 Z0 ) hZ (hw _ (List.mem_of_getElem? (i := 25) rfl)) (hw _ (List.mem_of_getElem? (i := 2) rfl)) (by decide) (by decide)) (g := (mkF m 187 #[.val (.ref a), .val (.int c_), .unset] [(.int (55296 : Int32)), (.int c_), (.int ((((((((((((((((((((zz2 + zz4) + zz6) + zz8) + zz10) + zz12) + zz14) + zz16) + zz18) + zz20) + zz22) + zz24) + zz26) + zz28) + zz30) + zz32) + zz34) + zz36) + zz38) + zz40) + zz42))])) rfl (by rw [hml]; rfl) (argsL := [(.int c_), (.int (55296 : Int32))]) (rest := [(.int ((((((((((((((((((((zz2 + zz4) + zz6) + zz8) + zz10) + zz12) + zz14) + zz16) + zz18) + zz20) + zz22) + zz24) + zz26) + zz28) + zz30) + zz32) + zz34) + zz36) + zz38) + zz40) + zz42))]) (lenOf pd_0 rfl) rfl (by show 2 * 0 + _ ≤ _; exact Nat.le_of_eq rfl) (hb hby d3_187) (fun _ _ => ⟨rfl, eT42t, (by decide : 0 + 0 ≤ _), (by decide : 0 + 0 ≤ _)⟩)
  dsimp only [Pt.U, Pt.locs, Pt.cells, Pt.slots] at X44 l44 y44 z44 st44 hQ44
  replace y44 : k44 = 0 := y44
  replace z44 : n44 = 0 := z44
  subst l44 y44 z44
  refine own_go st44 ?_
  obtain ⟨zz44, rfl, hzz44, N44q, eh44⟩ := hQ44
  have N44 := Fr.app N42t N44q
  show own_Ends p e below T44 (mkF m 190 #[.val (.ref a), .val (.int c_), .unset] [(.int zz44), (.int ((((((((((((((((((((zz2 + zz4) + zz6) + zz8) + zz10) + zz12) + zz14) + zz16) + zz18) + zz20) + zz22) + zz24) + zz26) + zz28) + zz30) + zz32) + zz34) + zz36) + zz38) + zz40) + zz42))]) _
  suffices Jt44 : ∀ (T_ : State) (L_ : List Loc), Stand p l e ({ frames := 1, cells := 0, slots := 0, locals := 14 } : Room) s m #[(.ref a), (.int c_)] below meth c T_ L_ 0 0 → T_.heap = h0 → Fr n0 L_ → own_Ends p e below T_ (mkF m 190 #[.val (.ref a), .val (.int c_), .unset] [(.int zz44), (.int ((((((((((((((((((((zz2 + zz4) + zz6) + zz8) + zz10) + zz12) + zz14) + zz16) + zz18) + zz20) + zz22) + zz24) + zz26) + zz28) + zz30) + zz32) + zz34) + zz36) + zz38) + zz40) + zz42))]) (fun ou U' => ∃ v L, ou = .returned v ∧ Q_rmIns Z a c_ kl h0 n0 v U'.heap L ∧ FrameEnd s ou U' L ({ frames := 1, cells := 0, slots := 0, locals := 14 } : Room).cells ({ frames := 1, cells := 0, slots := 0, locals := 14 } : Room).slots) from Jt44 _ _ X44 eh44 N44
  clear st44 X44 N44 N44q eh44
  try clear Lc44
  try clear T44
  try clear N42t
  try clear eT42t
  try clear X42t
  try clear L42t
  try clear T42t
  intro T44t L44t X44t eT44t N44t
  refine own_go (fun _ => XS.iadd X44t.here hx rfl (hb hby d3_190) rfl) ?_
  show own_Ends p e below T44t (mkF m 191 #[.val (.ref a), .val (.int c_), .unset] [(.int (((((((((((((((((((((zz2 + zz4) + zz6) + zz8) + zz10) + zz12) + zz14) + zz16) + zz18) + zz20) + zz22) + zz24) + zz26) + zz28) + zz30) + zz32) + zz34) + zz36) + zz38) + zz40) + zz42) + zz44))]) _
  refine own_go (fun _ => XS.iloadN X44t.here hx rfl (hb hby d3_191) rfl) ?_
  show own_Ends p e below T44t (mkF m 192 #[.val (.ref a), .val (.int c_), .unset] [(.int c_), (.int (((((((((((((((((((((zz2 + zz4) + zz6) + zz8) + zz10) + zz12) + zz14) + zz16) + zz18) + zz20) + zz22) + zz24) + zz26) + zz28) + zz30) + zz32) + zz34) + zz36) + zz38) + zz40) + zz42) + zz44))]) _
  refine own_go (fun _ => XS.aloadN X44t.here hx rfl (hb hby d3_192) rfl rfl) ?_
  show own_Ends p e below T44t (mkF m 193 #[.val (.ref a), .val (.int c_), .unset] [(.ref a), (.int c_), (.int (((((((((((((((((((((zz2 + zz4) + zz6) + zz8) + zz10) + zz12) + zz14) + zz16) + zz18) + zz20) + zz22) + zz24) + zz26) + zz28) + zz30) + zz32) + zz34) + zz36) + zz38) + zz40) + zz42) + zz44))]) _
  refine own_go (fun _ => XS.bipush X44t.here hx rfl (hb hby d3_193)) ?_
  show own_Ends p e below T44t (mkF m 195 #[.val (.ref a), .val (.int c_), .unset] [(.int (22 : Int32)), (.ref a), (.int c_), (.int (((((((((((((((((((((zz2 + zz4) + zz6) + zz8) + zz10) + zz12) + zz14) + zz16) + zz18) + zz20) + zz22) + zz24) + zz26) + zz28) + zz30) + zz32) + zz34) + zz36) + zz38) + zz40) + zz42) + zz44))]) _
  obtain ⟨cl_45, Ar_45, q_45, S_45, M_45, H_45, G_45⟩ := id V_a
  have hin45 : ¬ ((22 : Int32) < 0 ∨ cl_45.slots.size ≤ ((22 : Int32)).toNatClampNeg) := inb_of S_45 ⟨by decide, by decide⟩
  have hat45 : cl_45.slots[((22 : Int32)).toNatClampNeg]? = some (.int (63744 : Int32)) := Has.at H_45 hin45 (rfl)
  refine own_go (X44t.iaload hx (j := (22 : Int32)) (v := (.int (63744 : Int32))) (by rw [eT44t]; exact Ar_45.1) (State.isArrayOf_alike hZ.alike Ar_45.2.1) Ar_45.2.2 hin45 hat45 (g := (mkF m 195 #[.val (.ref a), .val (.int c_), .unset] [(.int (22 : Int32)), (.ref a), (.int c_), (.int (((((((((((((((((((((zz2 + zz4) + zz6) + zz8) + zz10) + zz12) + zz14) + zz16) + zz18) + zz20) + zz22) + zz24) + zz26) + zz28) + zz30) + zz32) + zz34) + zz36) + zz38) + zz40) + zz42) + zz44))])) rfl rfl (hb hby d3_195)) ?_
  clear hat45 hin45 G_45 H_45 M_45 S_45 q_45 Ar_45
  try clear cl_45
  show own_Ends p e below T44t (mkF m 196 #[.val (.ref a), .val (.int c_), .unset] [(.int (63744 : Int32)), (.int c_), (.int (((((((((((((((((((((zz2 + zz4) + zz6) + zz8) + zz10) + zz12) + zz14) + zz16) + zz18) + zz20) + zz22) + zz24) + zz26) + zz28) + zz30) + zz32) + zz34) + zz36) + zz38) + zz40) + zz42) + zz44))]) _
  obtain ⟨_, _, ⟨T46, L46, k46, n46⟩, -, X46, ⟨Lc46, hQ46, l46, y46, z46⟩, st46⟩ := Jvm.LawKit.callS X44t hx (y := (⟨"com/example/graphtide/graphtide/rdf/CharClassesIsPnCharsBasePinLaw", "ge", "(II)I"⟩ : MethodName)) hown (mvT hZ (hw _ (List.mem_of_getElem? (i := 23) rfl))) (mvT hZ (hw _ (List.mem_of_getElem? (i := 24) rfl))) (mvT hZ (hw _ (List.mem_of_getElem? (i := 2) rfl))) (mvT hZ (hw _ (List.mem_of_getElem? (i := 25) rfl))) (by decide) (backOf (W := 1) (rmGe l Z a0 hw [] c_ ((63744 : Int32))  h0 n0 Z0 ) hZ (hw _ (List.mem_of_getElem? (i := 25) rfl)) (hw _ (List.mem_of_getElem? (i := 2) rfl)) (by decide) (by decide)) (g := (mkF m 196 #[.val (.ref a), .val (.int c_), .unset] [(.int (63744 : Int32)), (.int c_), (.int (((((((((((((((((((((zz2 + zz4) + zz6) + zz8) + zz10) + zz12) + zz14) + zz16) + zz18) + zz20) + zz22) + zz24) + zz26) + zz28) + zz30) + zz32) + zz34) + zz36) + zz38) + zz40) + zz42) + zz44))])) rfl (by rw [hml]; rfl) (argsL := [(.int c_), (.int (63744 : Int32))]) (rest := [(.int (((((((((((((((((((((zz2 + zz4) + zz6) + zz8) + zz10) + zz12) + zz14) + zz16) + zz18) + zz20) + zz22) + zz24) + zz26) + zz28) + zz30) + zz32) + zz34) + zz36) + zz38) + zz40) + zz42) + zz44))]) (lenOf pd_0 rfl) rfl (by show 2 * 0 + _ ≤ _; exact Nat.le_of_eq rfl) (hb hby d3_196) (fun _ _ => ⟨rfl, eT44t, (by decide : 0 + 0 ≤ _), (by decide : 0 + 0 ≤ _)⟩)
  dsimp only [Pt.U, Pt.locs, Pt.cells, Pt.slots] at X46 l46 y46 z46 st46 hQ46
  replace y46 : k46 = 0 := y46
  replace z46 : n46 = 0 := z46
  subst l46 y46 z46
  refine own_go st46 ?_
  obtain ⟨zz46, rfl, hzz46, N46q, eh46⟩ := hQ46
  have N46 := Fr.app N44t N46q
  show own_Ends p e below T46 (mkF m 199 #[.val (.ref a), .val (.int c_), .unset] [(.int zz46), (.int (((((((((((((((((((((zz2 + zz4) + zz6) + zz8) + zz10) + zz12) + zz14) + zz16) + zz18) + zz20) + zz22) + zz24) + zz26) + zz28) + zz30) + zz32) + zz34) + zz36) + zz38) + zz40) + zz42) + zz44))]) _
  suffices Jt46 : ∀ (T_ : State) (L_ : List Loc), Stand p l e ({ frames := 1, cells := 0, slots := 0, locals := 14 } : Room) s m #[(.ref a), (.int c_)] below meth c T_ L_ 0 0 → T_.heap = h0 → Fr n0 L_ → own_Ends p e below T_ (mkF m 199 #[.val (.ref a), .val (.int c_), .unset] [(.int zz46), (.int (((((((((((((((((((((zz2 + zz4) + zz6) + zz8) + zz10) + zz12) + zz14) + zz16) + zz18) + zz20) + zz22) + zz24) + zz26) + zz28) + zz30) + zz32) + zz34) + zz36) + zz38) + zz40) + zz42) + zz44))]) (fun ou U' => ∃ v L, ou = .returned v ∧ Q_rmIns Z a c_ kl h0 n0 v U'.heap L ∧ FrameEnd s ou U' L ({ frames := 1, cells := 0, slots := 0, locals := 14 } : Room).cells ({ frames := 1, cells := 0, slots := 0, locals := 14 } : Room).slots) from Jt46 _ _ X46 eh46 N46
  clear st46 X46 N46 N46q eh46
  try clear Lc46
  try clear T46
  try clear N44t
  try clear eT44t
  try clear X44t
  try clear L44t
  try clear T44t
  intro T46t L46t X46t eT46t N46t
  refine own_go (fun _ => XS.iadd X46t.here hx rfl (hb hby d3_199) rfl) ?_
  show own_Ends p e below T46t (mkF m 200 #[.val (.ref a), .val (.int c_), .unset] [(.int ((((((((((((((((((((((zz2 + zz4) + zz6) + zz8) + zz10) + zz12) + zz14) + zz16) + zz18) + zz20) + zz22) + zz24) + zz26) + zz28) + zz30) + zz32) + zz34) + zz36) + zz38) + zz40) + zz42) + zz44) + zz46))]) _
  refine own_go (fun _ => XS.iloadN X46t.here hx rfl (hb hby d3_200) rfl) ?_
  show own_Ends p e below T46t (mkF m 201 #[.val (.ref a), .val (.int c_), .unset] [(.int c_), (.int ((((((((((((((((((((((zz2 + zz4) + zz6) + zz8) + zz10) + zz12) + zz14) + zz16) + zz18) + zz20) + zz22) + zz24) + zz26) + zz28) + zz30) + zz32) + zz34) + zz36) + zz38) + zz40) + zz42) + zz44) + zz46))]) _
  refine own_go (fun _ => XS.aloadN X46t.here hx rfl (hb hby d3_201) rfl rfl) ?_
  show own_Ends p e below T46t (mkF m 202 #[.val (.ref a), .val (.int c_), .unset] [(.ref a), (.int c_), (.int ((((((((((((((((((((((zz2 + zz4) + zz6) + zz8) + zz10) + zz12) + zz14) + zz16) + zz18) + zz20) + zz22) + zz24) + zz26) + zz28) + zz30) + zz32) + zz34) + zz36) + zz38) + zz40) + zz42) + zz44) + zz46))]) _
  refine own_go (fun _ => XS.bipush X46t.here hx rfl (hb hby d3_202)) ?_
  show own_Ends p e below T46t (mkF m 204 #[.val (.ref a), .val (.int c_), .unset] [(.int (23 : Int32)), (.ref a), (.int c_), (.int ((((((((((((((((((((((zz2 + zz4) + zz6) + zz8) + zz10) + zz12) + zz14) + zz16) + zz18) + zz20) + zz22) + zz24) + zz26) + zz28) + zz30) + zz32) + zz34) + zz36) + zz38) + zz40) + zz42) + zz44) + zz46))]) _
  obtain ⟨cl_47, Ar_47, q_47, S_47, M_47, H_47, G_47⟩ := id V_a
  have hin47 : ¬ ((23 : Int32) < 0 ∨ cl_47.slots.size ≤ ((23 : Int32)).toNatClampNeg) := inb_of S_47 ⟨by decide, by decide⟩
  have hat47 : cl_47.slots[((23 : Int32)).toNatClampNeg]? = some (.int (64976 : Int32)) := Has.at H_47 hin47 (rfl)
  refine own_go (X46t.iaload hx (j := (23 : Int32)) (v := (.int (64976 : Int32))) (by rw [eT46t]; exact Ar_47.1) (State.isArrayOf_alike hZ.alike Ar_47.2.1) Ar_47.2.2 hin47 hat47 (g := (mkF m 204 #[.val (.ref a), .val (.int c_), .unset] [(.int (23 : Int32)), (.ref a), (.int c_), (.int ((((((((((((((((((((((zz2 + zz4) + zz6) + zz8) + zz10) + zz12) + zz14) + zz16) + zz18) + zz20) + zz22) + zz24) + zz26) + zz28) + zz30) + zz32) + zz34) + zz36) + zz38) + zz40) + zz42) + zz44) + zz46))])) rfl rfl (hb hby d3_204)) ?_
  clear hat47 hin47 G_47 H_47 M_47 S_47 q_47 Ar_47
  try clear cl_47
  show own_Ends p e below T46t (mkF m 205 #[.val (.ref a), .val (.int c_), .unset] [(.int (64976 : Int32)), (.int c_), (.int ((((((((((((((((((((((zz2 + zz4) + zz6) + zz8) + zz10) + zz12) + zz14) + zz16) + zz18) + zz20) + zz22) + zz24) + zz26) + zz28) + zz30) + zz32) + zz34) + zz36) + zz38) + zz40) + zz42) + zz44) + zz46))]) _
  obtain ⟨_, _, ⟨T48, L48, k48, n48⟩, -, X48, ⟨Lc48, hQ48, l48, y48, z48⟩, st48⟩ := Jvm.LawKit.callS X46t hx (y := (⟨"com/example/graphtide/graphtide/rdf/CharClassesIsPnCharsBasePinLaw", "ge", "(II)I"⟩ : MethodName)) hown (mvT hZ (hw _ (List.mem_of_getElem? (i := 23) rfl))) (mvT hZ (hw _ (List.mem_of_getElem? (i := 24) rfl))) (mvT hZ (hw _ (List.mem_of_getElem? (i := 2) rfl))) (mvT hZ (hw _ (List.mem_of_getElem? (i := 25) rfl))) (by decide) (backOf (W := 1) (rmGe l Z a0 hw [] c_ ((64976 : Int32))  h0 n0 Z0 ) hZ (hw _ (List.mem_of_getElem? (i := 25) rfl)) (hw _ (List.mem_of_getElem? (i := 2) rfl)) (by decide) (by decide)) (g := (mkF m 205 #[.val (.ref a), .val (.int c_), .unset] [(.int (64976 : Int32)), (.int c_), (.int ((((((((((((((((((((((zz2 + zz4) + zz6) + zz8) + zz10) + zz12) + zz14) + zz16) + zz18) + zz20) + zz22) + zz24) + zz26) + zz28) + zz30) + zz32) + zz34) + zz36) + zz38) + zz40) + zz42) + zz44) + zz46))])) rfl (by rw [hml]; rfl) (argsL := [(.int c_), (.int (64976 : Int32))]) (rest := [(.int ((((((((((((((((((((((zz2 + zz4) + zz6) + zz8) + zz10) + zz12) + zz14) + zz16) + zz18) + zz20) + zz22) + zz24) + zz26) + zz28) + zz30) + zz32) + zz34) + zz36) + zz38) + zz40) + zz42) + zz44) + zz46))]) (lenOf pd_0 rfl) rfl (by show 2 * 0 + _ ≤ _; exact Nat.le_of_eq rfl) (hb hby d3_205) (fun _ _ => ⟨rfl, eT46t, (by decide : 0 + 0 ≤ _), (by decide : 0 + 0 ≤ _)⟩)
  dsimp only [Pt.U, Pt.locs, Pt.cells, Pt.slots] at X48 l48 y48 z48 st48 hQ48
  replace y48 : k48 = 0 := y48
  replace z48 : n48 = 0 := z48
  subst l48 y48 z48
  refine own_go st48 ?_
  obtain ⟨zz48, rfl, hzz48, N48q, eh48⟩ := hQ48
  have N48 := Fr.app N46t N48q
  show own_Ends p e below T48 (mkF m 208 #[.val (.ref a), .val (.int c_), .unset] [(.int zz48), (.int ((((((((((((((((((((((zz2 + zz4) + zz6) + zz8) + zz10) + zz12) + zz14) + zz16) + zz18) + zz20) + zz22) + zz24) + zz26) + zz28) + zz30) + zz32) + zz34) + zz36) + zz38) + zz40) + zz42) + zz44) + zz46))]) _
  suffices Jt48 : ∀ (T_ : State) (L_ : List Loc), Stand p l e ({ frames := 1, cells := 0, slots := 0, locals := 14 } : Room) s m #[(.ref a), (.int c_)] below meth c T_ L_ 0 0 → T_.heap = h0 → Fr n0 L_ → own_Ends p e below T_ (mkF m 208 #[.val (.ref a), .val (.int c_), .unset] [(.int zz48), (.int ((((((((((((((((((((((zz2 + zz4) + zz6) + zz8) + zz10) + zz12) + zz14) + zz16) + zz18) + zz20) + zz22) + zz24) + zz26) + zz28) + zz30) + zz32) + zz34) + zz36) + zz38) + zz40) + zz42) + zz44) + zz46))]) (fun ou U' => ∃ v L, ou = .returned v ∧ Q_rmIns Z a c_ kl h0 n0 v U'.heap L ∧ FrameEnd s ou U' L ({ frames := 1, cells := 0, slots := 0, locals := 14 } : Room).cells ({ frames := 1, cells := 0, slots := 0, locals := 14 } : Room).slots) from Jt48 _ _ X48 eh48 N48
  clear st48 X48 N48 N48q eh48
  try clear Lc48
  try clear T48
  try clear N46t
  try clear eT46t
  try clear X46t
  try clear L46t
  try clear T46t
  intro T48t L48t X48t eT48t N48t
  refine own_go (fun _ => XS.iadd X48t.here hx rfl (hb hby d3_208) rfl) ?_
  show own_Ends p e below T48t (mkF m 209 #[.val (.ref a), .val (.int c_), .unset] [(.int (((((((((((((((((((((((zz2 + zz4) + zz6) + zz8) + zz10) + zz12) + zz14) + zz16) + zz18) + zz20) + zz22) + zz24) + zz26) + zz28) + zz30) + zz32) + zz34) + zz36) + zz38) + zz40) + zz42) + zz44) + zz46) + zz48))]) _
  refine own_go (fun _ => XS.iloadN X48t.here hx rfl (hb hby d3_209) rfl) ?_
  show own_Ends p e below T48t (mkF m 210 #[.val (.ref a), .val (.int c_), .unset] [(.int c_), (.int (((((((((((((((((((((((zz2 + zz4) + zz6) + zz8) + zz10) + zz12) + zz14) + zz16) + zz18) + zz20) + zz22) + zz24) + zz26) + zz28) + zz30) + zz32) + zz34) + zz36) + zz38) + zz40) + zz42) + zz44) + zz46) + zz48))]) _
  refine own_go (fun _ => XS.aloadN X48t.here hx rfl (hb hby d3_210) rfl rfl) ?_
  show own_Ends p e below T48t (mkF m 211 #[.val (.ref a), .val (.int c_), .unset] [(.ref a), (.int c_), (.int (((((((((((((((((((((((zz2 + zz4) + zz6) + zz8) + zz10) + zz12) + zz14) + zz16) + zz18) + zz20) + zz22) + zz24) + zz26) + zz28) + zz30) + zz32) + zz34) + zz36) + zz38) + zz40) + zz42) + zz44) + zz46) + zz48))]) _
  refine own_go (fun _ => XS.bipush X48t.here hx rfl (hb hby d3_211)) ?_
  show own_Ends p e below T48t (mkF m 213 #[.val (.ref a), .val (.int c_), .unset] [(.int (24 : Int32)), (.ref a), (.int c_), (.int (((((((((((((((((((((((zz2 + zz4) + zz6) + zz8) + zz10) + zz12) + zz14) + zz16) + zz18) + zz20) + zz22) + zz24) + zz26) + zz28) + zz30) + zz32) + zz34) + zz36) + zz38) + zz40) + zz42) + zz44) + zz46) + zz48))]) _
  obtain ⟨cl_49, Ar_49, q_49, S_49, M_49, H_49, G_49⟩ := id V_a
  have hin49 : ¬ ((24 : Int32) < 0 ∨ cl_49.slots.size ≤ ((24 : Int32)).toNatClampNeg) := inb_of S_49 ⟨by decide, by decide⟩
  have hat49 : cl_49.slots[((24 : Int32)).toNatClampNeg]? = some (.int (65008 : Int32)) := Has.at H_49 hin49 (rfl)
  refine own_go (X48t.iaload hx (j := (24 : Int32)) (v := (.int (65008 : Int32))) (by rw [eT48t]; exact Ar_49.1) (State.isArrayOf_alike hZ.alike Ar_49.2.1) Ar_49.2.2 hin49 hat49 (g := (mkF m 213 #[.val (.ref a), .val (.int c_), .unset] [(.int (24 : Int32)), (.ref a), (.int c_), (.int (((((((((((((((((((((((zz2 + zz4) + zz6) + zz8) + zz10) + zz12) + zz14) + zz16) + zz18) + zz20) + zz22) + zz24) + zz26) + zz28) + zz30) + zz32) + zz34) + zz36) + zz38) + zz40) + zz42) + zz44) + zz46) + zz48))])) rfl rfl (hb hby d3_213)) ?_
  clear hat49 hin49 G_49 H_49 M_49 S_49 q_49 Ar_49
  try clear cl_49
  show own_Ends p e below T48t (mkF m 214 #[.val (.ref a), .val (.int c_), .unset] [(.int (65008 : Int32)), (.int c_), (.int (((((((((((((((((((((((zz2 + zz4) + zz6) + zz8) + zz10) + zz12) + zz14) + zz16) + zz18) + zz20) + zz22) + zz24) + zz26) + zz28) + zz30) + zz32) + zz34) + zz36) + zz38) + zz40) + zz42) + zz44) + zz46) + zz48))]) _
  obtain ⟨_, _, ⟨T50, L50, k50, n50⟩, -, X50, ⟨Lc50, hQ50, l50, y50, z50⟩, st50⟩ := Jvm.LawKit.callS X48t hx (y := (⟨"com/example/graphtide/graphtide/rdf/CharClassesIsPnCharsBasePinLaw", "ge", "(II)I"⟩ : MethodName)) hown (mvT hZ (hw _ (List.mem_of_getElem? (i := 23) rfl))) (mvT hZ (hw _ (List.mem_of_getElem? (i := 24) rfl))) (mvT hZ (hw _ (List.mem_of_getElem? (i := 2) rfl))) (mvT hZ (hw _ (List.mem_of_getElem? (i := 25) rfl))) (by decide) (backOf (W := 1) (rmGe l Z a0 hw [] c_ ((65008 : Int32))  h0 n0 Z0 ) hZ (hw _ (List.mem_of_getElem? (i := 25) rfl)) (hw _ (List.mem_of_getElem? (i := 2) rfl)) (by decide) (by decide)) (g := (mkF m 214 #[.val (.ref a), .val (.int c_), .unset] [(.int (65008 : Int32)), (.int c_), (.int (((((((((((((((((((((((zz2 + zz4) + zz6) + zz8) + zz10) + zz12) + zz14) + zz16) + zz18) + zz20) + zz22) + zz24) + zz26) + zz28) + zz30) + zz32) + zz34) + zz36) + zz38) + zz40) + zz42) + zz44) + zz46) + zz48))])) rfl (by rw [hml]; rfl) (argsL := [(.int c_), (.int (65008 : Int32))]) (rest := [(.int (((((((((((((((((((((((zz2 + zz4) + zz6) + zz8) + zz10) + zz12) + zz14) + zz16) + zz18) + zz20) + zz22) + zz24) + zz26) + zz28) + zz30) + zz32) + zz34) + zz36) + zz38) + zz40) + zz42) + zz44) + zz46) + zz48))]) (lenOf pd_0 rfl) rfl (by show 2 * 0 + _ ≤ _; exact Nat.le_of_eq rfl) (hb hby d3_214) (fun _ _ => ⟨rfl, eT48t, (by decide : 0 + 0 ≤ _), (by decide : 0 + 0 ≤ _)⟩)
  dsimp only [Pt.U, Pt.locs, Pt.cells, Pt.slots] at X50 l50 y50 z50 st50 hQ50
  replace y50 : k50 = 0 := y50
  replace z50 : n50 = 0 := z50
  subst l50 y50 z50
  refine own_go st50 ?_
  obtain ⟨zz50, rfl, hzz50, N50q, eh50⟩ := hQ50
  have N50 := Fr.app N48t N50q
  show own_Ends p e below T50 (mkF m 217 #[.val (.ref a), .val (.int c_), .unset] [(.int zz50), (.int (((((((((((((((((((((((zz2 + zz4) + zz6) + zz8) + zz10) + zz12) + zz14) + zz16) + zz18) + zz20) + zz22) + zz24) + zz26) + zz28) + zz30) + zz32) + zz34) + zz36) + zz38) + zz40) + zz42) + zz44) + zz46) + zz48))]) _
  suffices Jt50 : ∀ (T_ : State) (L_ : List Loc), Stand p l e ({ frames := 1, cells := 0, slots := 0, locals := 14 } : Room) s m #[(.ref a), (.int c_)] below meth c T_ L_ 0 0 → T_.heap = h0 → Fr n0 L_ → own_Ends p e below T_ (mkF m 217 #[.val (.ref a), .val (.int c_), .unset] [(.int zz50), (.int (((((((((((((((((((((((zz2 + zz4) + zz6) + zz8) + zz10) + zz12) + zz14) + zz16) + zz18) + zz20) + zz22) + zz24) + zz26) + zz28) + zz30) + zz32) + zz34) + zz36) + zz38) + zz40) + zz42) + zz44) + zz46) + zz48))]) (fun ou U' => ∃ v L, ou = .returned v ∧ Q_rmIns Z a c_ kl h0 n0 v U'.heap L ∧ FrameEnd s ou U' L ({ frames := 1, cells := 0, slots := 0, locals := 14 } : Room).cells ({ frames := 1, cells := 0, slots := 0, locals := 14 } : Room).slots) from Jt50 _ _ X50 eh50 N50
  clear st50 X50 N50 N50q eh50
  try clear Lc50
  try clear T50
  try clear N48t
  try clear eT48t
  try clear X48t
  try clear L48t
  try clear T48t
  intro T50t L50t X50t eT50t N50t
  refine own_go (fun _ => XS.iadd X50t.here hx rfl (hb hby d3_217) rfl) ?_
  show own_Ends p e below T50t (mkF m 218 #[.val (.ref a), .val (.int c_), .unset] [(.int ((((((((((((((((((((((((zz2 + zz4) + zz6) + zz8) + zz10) + zz12) + zz14) + zz16) + zz18) + zz20) + zz22) + zz24) + zz26) + zz28) + zz30) + zz32) + zz34) + zz36) + zz38) + zz40) + zz42) + zz44) + zz46) + zz48) + zz50))]) _
  refine own_go (fun _ => XS.iloadN X50t.here hx rfl (hb hby d3_218) rfl) ?_
  show own_Ends p e below T50t (mkF m 219 #[.val (.ref a), .val (.int c_), .unset] [(.int c_), (.int ((((((((((((((((((((((((zz2 + zz4) + zz6) + zz8) + zz10) + zz12) + zz14) + zz16) + zz18) + zz20) + zz22) + zz24) + zz26) + zz28) + zz30) + zz32) + zz34) + zz36) + zz38) + zz40) + zz42) + zz44) + zz46) + zz48) + zz50))]) _
  refine own_go (fun _ => XS.aloadN X50t.here hx rfl (hb hby d3_219) rfl rfl) ?_
  show own_Ends p e below T50t (mkF m 220 #[.val (.ref a), .val (.int c_), .unset] [(.ref a), (.int c_), (.int ((((((((((((((((((((((((zz2 + zz4) + zz6) + zz8) + zz10) + zz12) + zz14) + zz16) + zz18) + zz20) + zz22) + zz24) + zz26) + zz28) + zz30) + zz32) + zz34) + zz36) + zz38) + zz40) + zz42) + zz44) + zz46) + zz48) + zz50))]) _
  refine own_go (fun _ => XS.bipush X50t.here hx rfl (hb hby d3_220)) ?_
  show own_Ends p e below T50t (mkF m 222 #[.val (.ref a), .val (.int c_), .unset] [(.int (25 : Int32)), (.ref a), (.int c_), (.int ((((((((((((((((((((((((zz2 + zz4) + zz6) + zz8) + zz10) + zz12) + zz14) + zz16) + zz18) + zz20) + zz22) + zz24) + zz26) + zz28) + zz30) + zz32) + zz34) + zz36) + zz38) + zz40) + zz42) + zz44) + zz46) + zz48) + zz50))]) _
  obtain ⟨cl_51, Ar_51, q_51, S_51, M_51, H_51, G_51⟩ := id V_a
  have hin51 : ¬ ((25 : Int32) < 0 ∨ cl_51.slots.size ≤ ((25 : Int32)).toNatClampNeg) := inb_of S_51 ⟨by decide, by decide⟩
  have hat51 : cl_51.slots[((25 : Int32)).toNatClampNeg]? = some (.int (65534 : Int32)) := Has.at H_51 hin51 (rfl)
  refine own_go (X50t.iaload hx (j := (25 : Int32)) (v := (.int (65534 : Int32))) (by rw [eT50t]; exact Ar_51.1) (State.isArrayOf_alike hZ.alike Ar_51.2.1) Ar_51.2.2 hin51 hat51 (g := (mkF m 222 #[.val (.ref a), .val (.int c_), .unset] [(.int (25 : Int32)), (.ref a), (.int c_), (.int ((((((((((((((((((((((((zz2 + zz4) + zz6) + zz8) + zz10) + zz12) + zz14) + zz16) + zz18) + zz20) + zz22) + zz24) + zz26) + zz28) + zz30) + zz32) + zz34) + zz36) + zz38) + zz40) + zz42) + zz44) + zz46) + zz48) + zz50))])) rfl rfl (hb hby d3_222)) ?_
  clear hat51 hin51 G_51 H_51 M_51 S_51 q_51 Ar_51
  try clear cl_51
  show own_Ends p e below T50t (mkF m 223 #[.val (.ref a), .val (.int c_), .unset] [(.int (65534 : Int32)), (.int c_), (.int ((((((((((((((((((((((((zz2 + zz4) + zz6) + zz8) + zz10) + zz12) + zz14) + zz16) + zz18) + zz20) + zz22) + zz24) + zz26) + zz28) + zz30) + zz32) + zz34) + zz36) + zz38) + zz40) + zz42) + zz44) + zz46) + zz48) + zz50))]) _
  obtain ⟨_, _, ⟨T52, L52, k52, n52⟩, -, X52, ⟨Lc52, hQ52, l52, y52, z52⟩, st52⟩ := Jvm.LawKit.callS X50t hx (y := (⟨"com/example/graphtide/graphtide/rdf/CharClassesIsPnCharsBasePinLaw", "ge", "(II)I"⟩ : MethodName)) hown (mvT hZ (hw _ (List.mem_of_getElem? (i := 23) rfl))) (mvT hZ (hw _ (List.mem_of_getElem? (i := 24) rfl))) (mvT hZ (hw _ (List.mem_of_getElem? (i := 2) rfl))) (mvT hZ (hw _ (List.mem_of_getElem? (i := 25) rfl))) (by decide) (backOf (W := 1) (rmGe l Z a0 hw [] c_ ((65534 : Int32))  h0 n0 Z0 ) hZ (hw _ (List.mem_of_getElem? (i := 25) rfl)) (hw _ (List.mem_of_getElem? (i := 2) rfl)) (by decide) (by decide)) (g := (mkF m 223 #[.val (.ref a), .val (.int c_), .unset] [(.int (65534 : Int32)), (.int c_), (.int ((((((((((((((((((((((((zz2 + zz4) + zz6) + zz8) + zz10) + zz12) + zz14) + zz16) + zz18) + zz20) + zz22) + zz24) + zz26) + zz28) + zz30) + zz32) + zz34) + zz36) + zz38) + zz40) + zz42) + zz44) + zz46) + zz48) + zz50))])) rfl (by rw [hml]; rfl) (argsL := [(.int c_), (.int (65534 : Int32))]) (rest := [(.int ((((((((((((((((((((((((zz2 + zz4) + zz6) + zz8) + zz10) + zz12) + zz14) + zz16) + zz18) + zz20) + zz22) + zz24) + zz26) + zz28) + zz30) + zz32) + zz34) + zz36) + zz38) + zz40) + zz42) + zz44) + zz46) + zz48) + zz50))]) (lenOf pd_0 rfl) rfl (by show 2 * 0 + _ ≤ _; exact Nat.le_of_eq rfl) (hb hby d3_223) (fun _ _ => ⟨rfl, eT50t, (by decide : 0 + 0 ≤ _), (by decide : 0 + 0 ≤ _)⟩)
  dsimp only [Pt.U, Pt.locs, Pt.cells, Pt.slots] at X52 l52 y52 z52 st52 hQ52
  replace y52 : k52 = 0 := y52
  replace z52 : n52 = 0 := z52
  subst l52 y52 z52
  refine own_go st52 ?_
  obtain ⟨zz52, rfl, hzz52, N52q, eh52⟩ := hQ52
  have N52 := Fr.app N50t N52q
  show own_Ends p e below T52 (mkF m 226 #[.val (.ref a), .val (.int c_), .unset] [(.int zz52), (.int ((((((((((((((((((((((((zz2 + zz4) + zz6) + zz8) + zz10) + zz12) + zz14) + zz16) + zz18) + zz20) + zz22) + zz24) + zz26) + zz28) + zz30) + zz32) + zz34) + zz36) + zz38) + zz40) + zz42) + zz44) + zz46) + zz48) + zz50))]) _
  suffices Jt52 : ∀ (T_ : State) (L_ : List Loc), Stand p l e ({ frames := 1, cells := 0, slots := 0, locals := 14 } : Room) s m #[(.ref a), (.int c_)] below meth c T_ L_ 0 0 → T_.heap = h0 → Fr n0 L_ → own_Ends p e below T_ (mkF m 226 #[.val (.ref a), .val (.int c_), .unset] [(.int zz52), (.int ((((((((((((((((((((((((zz2 + zz4) + zz6) + zz8) + zz10) + zz12) + zz14) + zz16) + zz18) + zz20) + zz22) + zz24) + zz26) + zz28) + zz30) + zz32) + zz34) + zz36) + zz38) + zz40) + zz42) + zz44) + zz46) + zz48) + zz50))]) (fun ou U' => ∃ v L, ou = .returned v ∧ Q_rmIns Z a c_ kl h0 n0 v U'.heap L ∧ FrameEnd s ou U' L ({ frames := 1, cells := 0, slots := 0, locals := 14 } : Room).cells ({ frames := 1, cells := 0, slots := 0, locals := 14 } : Room).slots) from Jt52 _ _ X52 eh52 N52
  clear st52 X52 N52 N52q eh52
  try clear Lc52
  try clear T52
  try clear N50t
  try clear eT50t
  try clear X50t
  try clear L50t
  try clear T50t
  intro T52t L52t X52t eT52t N52t
  refine own_go (fun _ => XS.iadd X52t.here hx rfl (hb hby d3_226) rfl) ?_
  show own_Ends p e below T52t (mkF m 227 #[.val (.ref a), .val (.int c_), .unset] [(.int (((((((((((((((((((((((((zz2 + zz4) + zz6) + zz8) + zz10) + zz12) + zz14) + zz16) + zz18) + zz20) + zz22) + zz24) + zz26) + zz28) + zz30) + zz32) + zz34) + zz36) + zz38) + zz40) + zz42) + zz44) + zz46) + zz48) + zz50) + zz52))]) _
  refine own_go (fun _ => XS.iloadN X52t.here hx rfl (hb hby d3_227) rfl) ?_
  show own_Ends p e below T52t (mkF m 228 #[.val (.ref a), .val (.int c_), .unset] [(.int c_), (.int (((((((((((((((((((((((((zz2 + zz4) + zz6) + zz8) + zz10) + zz12) + zz14) + zz16) + zz18) + zz20) + zz22) + zz24) + zz26) + zz28) + zz30) + zz32) + zz34) + zz36) + zz38) + zz40) + zz42) + zz44) + zz46) + zz48) + zz50) + zz52))]) _
  refine own_go (fun _ => XS.aloadN X52t.here hx rfl (hb hby d3_228) rfl rfl) ?_
  show own_Ends p e below T52t (mkF m 229 #[.val (.ref a), .val (.int c_), .unset] [(.ref a), (.int c_), (.int (((((((((((((((((((((((((zz2 + zz4) + zz6) + zz8) + zz10) + zz12) + zz14) + zz16) + zz18) + zz20) + zz22) + zz24) + zz26) + zz28) + zz30) + zz32) + zz34) + zz36) + zz38) + zz40) + zz42) + zz44) + zz46) + zz48) + zz50) + zz52))]) _
  refine own_go (fun _ => XS.bipush X52t.here hx rfl (hb hby d3_229)) ?_
  show own_Ends p e below T52t (mkF m 231 #[.val (.ref a), .val (.int c_), .unset] [(.int (26 : Int32)), (.ref a), (.int c_), (.int (((((((((((((((((((((((((zz2 + zz4) + zz6) + zz8) + zz10) + zz12) + zz14) + zz16) + zz18) + zz20) + zz22) + zz24) + zz26) + zz28) + zz30) + zz32) + zz34) + zz36) + zz38) + zz40) + zz42) + zz44) + zz46) + zz48) + zz50) + zz52))]) _
  obtain ⟨cl_53, Ar_53, q_53, S_53, M_53, H_53, G_53⟩ := id V_a
  have hin53 : ¬ ((26 : Int32) < 0 ∨ cl_53.slots.size ≤ ((26 : Int32)).toNatClampNeg) := inb_of S_53 ⟨by decide, by decide⟩
  have hat53 : cl_53.slots[((26 : Int32)).toNatClampNeg]? = some (.int (65536 : Int32)) := Has.at H_53 hin53 (rfl)
  refine own_go (X52t.iaload hx (j := (26 : Int32)) (v := (.int (65536 : Int32))) (by rw [eT52t]; exact Ar_53.1) (State.isArrayOf_alike hZ.alike Ar_53.2.1) Ar_53.2.2 hin53 hat53 (g := (mkF m 231 #[.val (.ref a), .val (.int c_), .unset] [(.int (26 : Int32)), (.ref a), (.int c_), (.int (((((((((((((((((((((((((zz2 + zz4) + zz6) + zz8) + zz10) + zz12) + zz14) + zz16) + zz18) + zz20) + zz22) + zz24) + zz26) + zz28) + zz30) + zz32) + zz34) + zz36) + zz38) + zz40) + zz42) + zz44) + zz46) + zz48) + zz50) + zz52))])) rfl rfl (hb hby d3_231)) ?_
  clear hat53 hin53 G_53 H_53 M_53 S_53 q_53 Ar_53
  try clear cl_53
  show own_Ends p e below T52t (mkF m 232 #[.val (.ref a), .val (.int c_), .unset] [(.int (65536 : Int32)), (.int c_), (.int (((((((((((((((((((((((((zz2 + zz4) + zz6) + zz8) + zz10) + zz12) + zz14) + zz16) + zz18) + zz20) + zz22) + zz24) + zz26) + zz28) + zz30) + zz32) + zz34) + zz36) + zz38) + zz40) + zz42) + zz44) + zz46) + zz48) + zz50) + zz52))]) _
  obtain ⟨_, _, ⟨T54, L54, k54, n54⟩, -, X54, ⟨Lc54, hQ54, l54, y54, z54⟩, st54⟩ := Jvm.LawKit.callS X52t hx (y := (⟨"com/example/graphtide/graphtide/rdf/CharClassesIsPnCharsBasePinLaw", "ge", "(II)I"⟩ : MethodName)) hown (mvT hZ (hw _ (List.mem_of_getElem? (i := 23) rfl))) (mvT hZ (hw _ (List.mem_of_getElem? (i := 24) rfl))) (mvT hZ (hw _ (List.mem_of_getElem? (i := 2) rfl))) (mvT hZ (hw _ (List.mem_of_getElem? (i := 25) rfl))) (by decide) (backOf (W := 1) (rmGe l Z a0 hw [] c_ ((65536 : Int32))  h0 n0 Z0 ) hZ (hw _ (List.mem_of_getElem? (i := 25) rfl)) (hw _ (List.mem_of_getElem? (i := 2) rfl)) (by decide) (by decide)) (g := (mkF m 232 #[.val (.ref a), .val (.int c_), .unset] [(.int (65536 : Int32)), (.int c_), (.int (((((((((((((((((((((((((zz2 + zz4) + zz6) + zz8) + zz10) + zz12) + zz14) + zz16) + zz18) + zz20) + zz22) + zz24) + zz26) + zz28) + zz30) + zz32) + zz34) + zz36) + zz38) + zz40) + zz42) + zz44) + zz46) + zz48) + zz50) + zz52))])) rfl (by rw [hml]; rfl) (argsL := [(.int c_), (.int (65536 : Int32))]) (rest := [(.int (((((((((((((((((((((((((zz2 + zz4) + zz6) + zz8) + zz10) + zz12) + zz14) + zz16) + zz18) + zz20) + zz22) + zz24) + zz26) + zz28) + zz30) + zz32) + zz34) + zz36) + zz38) + zz40) + zz42) + zz44) + zz46) + zz48) + zz50) + zz52))]) (lenOf pd_0 rfl) rfl (by show 2 * 0 + _ ≤ _; exact Nat.le_of_eq rfl) (hb hby d3_232) (fun _ _ => ⟨rfl, eT52t, (by decide : 0 + 0 ≤ _), (by decide : 0 + 0 ≤ _)⟩)
  dsimp only [Pt.U, Pt.locs, Pt.cells, Pt.slots] at X54 l54 y54 z54 st54 hQ54
  replace y54 : k54 = 0 := y54
  replace z54 : n54 = 0 := z54
  subst l54 y54 z54
  refine own_go st54 ?_
  obtain ⟨zz54, rfl, hzz54, N54q, eh54⟩ := hQ54
  have N54 := Fr.app N52t N54q
  show own_Ends p e below T54 (mkF m 235 #[.val (.ref a), .val (.int c_), .unset] [(.int zz54), (.int (((((((((((((((((((((((((zz2 + zz4) + zz6) + zz8) + zz10) + zz12) + zz14) + zz16) + zz18) + zz20) + zz22) + zz24) + zz26) + zz28) + zz30) + zz32) + zz34) + zz36) + zz38) + zz40) + zz42) + zz44) + zz46) + zz48) + zz50) + zz52))]) _
  suffices Jt54 : ∀ (T_ : State) (L_ : List Loc), Stand p l e ({ frames := 1, cells := 0, slots := 0, locals := 14 } : Room) s m #[(.ref a), (.int c_)] below meth c T_ L_ 0 0 → T_.heap = h0 → Fr n0 L_ → own_Ends p e below T_ (mkF m 235 #[.val (.ref a), .val (.int c_), .unset] [(.int zz54), (.int (((((((((((((((((((((((((zz2 + zz4) + zz6) + zz8) + zz10) + zz12) + zz14) + zz16) + zz18) + zz20) + zz22) + zz24) + zz26) + zz28) + zz30) + zz32) + zz34) + zz36) + zz38) + zz40) + zz42) + zz44) + zz46) + zz48) + zz50) + zz52))]) (fun ou U' => ∃ v L, ou = .returned v ∧ Q_rmIns Z a c_ kl h0 n0 v U'.heap L ∧ FrameEnd s ou U' L ({ frames := 1, cells := 0, slots := 0, locals := 14 } : Room).cells ({ frames := 1, cells := 0, slots := 0, locals := 14 } : Room).slots) from Jt54 _ _ X54 eh54 N54
  clear st54 X54 N54 N54q eh54
  try clear Lc54
  try clear T54
  try clear N52t
  try clear eT52t
  try clear X52t
  try clear L52t
  try clear T52t
  intro T54t L54t X54t eT54t N54t
  refine own_go (fun _ => XS.iadd X54t.here hx rfl (hb hby d3_235) rfl) ?_
  show own_Ends p e below T54t (mkF m 236 #[.val (.ref a), .val (.int c_), .unset] [(.int ((((((((((((((((((((((((((zz2 + zz4) + zz6) + zz8) + zz10) + zz12) + zz14) + zz16) + zz18) + zz20) + zz22) + zz24) + zz26) + zz28) + zz30) + zz32) + zz34) + zz36) + zz38) + zz40) + zz42) + zz44) + zz46) + zz48) + zz50) + zz52) + zz54))]) _
  refine own_go (fun _ => XS.iloadN X54t.here hx rfl (hb hby d3_236) rfl) ?_
  show own_Ends p e below T54t (mkF m 237 #[.val (.ref a), .val (.int c_), .unset] [(.int c_), (.int ((((((((((((((((((((((((((zz2 + zz4) + zz6) + zz8) + zz10) + zz12) + zz14) + zz16) + zz18) + zz20) + zz22) + zz24) + zz26) + zz28) + zz30) + zz32) + zz34) + zz36) + zz38) + zz40) + zz42) + zz44) + zz46) + zz48) + zz50) + zz52) + zz54))]) _
  refine own_go (fun _ => XS.aloadN X54t.here hx rfl (hb hby d3_237) rfl rfl) ?_
  show own_Ends p e below T54t (mkF m 238 #[.val (.ref a), .val (.int c_), .unset] [(.ref a), (.int c_), (.int ((((((((((((((((((((((((((zz2 + zz4) + zz6) + zz8) + zz10) + zz12) + zz14) + zz16) + zz18) + zz20) + zz22) + zz24) + zz26) + zz28) + zz30) + zz32) + zz34) + zz36) + zz38) + zz40) + zz42) + zz44) + zz46) + zz48) + zz50) + zz52) + zz54))]) _
  refine own_go (fun _ => XS.bipush X54t.here hx rfl (hb hby d3_238)) ?_
  show own_Ends p e below T54t (mkF m 240 #[.val (.ref a), .val (.int c_), .unset] [(.int (27 : Int32)), (.ref a), (.int c_), (.int ((((((((((((((((((((((((((zz2 + zz4) + zz6) + zz8) + zz10) + zz12) + zz14) + zz16) + zz18) + zz20) + zz22) + zz24) + zz26) + zz28) + zz30) + zz32) + zz34) + zz36) + zz38) + zz40) + zz42) + zz44) + zz46) + zz48) + zz50) + zz52) + zz54))]) _
  obtain ⟨cl_55, Ar_55, q_55, S_55, M_55, H_55, G_55⟩ := id V_a
  have hin55 : ¬ ((27 : Int32) < 0 ∨ cl_55.slots.size ≤ ((27 : Int32)).toNatClampNeg) := inb_of S_55 ⟨by decide, by decide⟩
  have hat55 : cl_55.slots[((27 : Int32)).toNatClampNeg]? = some (.int (983040 : Int32)) := Has.at H_55 hin55 (rfl)
  refine own_go (X54t.iaload hx (j := (27 : Int32)) (v := (.int (983040 : Int32))) (by rw [eT54t]; exact Ar_55.1) (State.isArrayOf_alike hZ.alike Ar_55.2.1) Ar_55.2.2 hin55 hat55 (g := (mkF m 240 #[.val (.ref a), .val (.int c_), .unset] [(.int (27 : Int32)), (.ref a), (.int c_), (.int ((((((((((((((((((((((((((zz2 + zz4) + zz6) + zz8) + zz10) + zz12) + zz14) + zz16) + zz18) + zz20) + zz22) + zz24) + zz26) + zz28) + zz30) + zz32) + zz34) + zz36) + zz38) + zz40) + zz42) + zz44) + zz46) + zz48) + zz50) + zz52) + zz54))])) rfl rfl (hb hby d3_240)) ?_
  clear hat55 hin55 G_55 H_55 M_55 S_55 q_55 Ar_55
  try clear cl_55
  show own_Ends p e below T54t (mkF m 241 #[.val (.ref a), .val (.int c_), .unset] [(.int (983040 : Int32)), (.int c_), (.int ((((((((((((((((((((((((((zz2 + zz4) + zz6) + zz8) + zz10) + zz12) + zz14) + zz16) + zz18) + zz20) + zz22) + zz24) + zz26) + zz28) + zz30) + zz32) + zz34) + zz36) + zz38) + zz40) + zz42) + zz44) + zz46) + zz48) + zz50) + zz52) + zz54))]) _
  obtain ⟨_, _, ⟨T56, L56, k56, n56⟩, -, X56, ⟨Lc56, hQ56, l56, y56, z56⟩, st56⟩ := Jvm.LawKit.callS X54t hx (y := (⟨"com/example/graphtide/graphtide/rdf/CharClassesIsPnCharsBasePinLaw", "ge", "(II)I"⟩ : MethodName)) hown (mvT hZ (hw _ (List.mem_of_getElem? (i := 23) rfl))) (mvT hZ (hw _ (List.mem_of_getElem? (i := 24) rfl))) (mvT hZ (hw _ (List.mem_of_getElem? (i := 2) rfl))) (mvT hZ (hw _ (List.mem_of_getElem? (i := 25) rfl))) (by decide) (backOf (W := 1) (rmGe l Z a0 hw [] c_ ((983040 : Int32))  h0 n0 Z0 ) hZ (hw _ (List.mem_of_getElem? (i := 25) rfl)) (hw _ (List.mem_of_getElem? (i := 2) rfl)) (by decide) (by decide)) (g := (mkF m 241 #[.val (.ref a), .val (.int c_), .unset] [(.int (983040 : Int32)), (.int c_), (.int ((((((((((((((((((((((((((zz2 + zz4) + zz6) + zz8) + zz10) + zz12) + zz14) + zz16) + zz18) + zz20) + zz22) + zz24) + zz26) + zz28) + zz30) + zz32) + zz34) + zz36) + zz38) + zz40) + zz42) + zz44) + zz46) + zz48) + zz50) + zz52) + zz54))])) rfl (by rw [hml]; rfl) (argsL := [(.int c_), (.int (983040 : Int32))]) (rest := [(.int ((((((((((((((((((((((((((zz2 + zz4) + zz6) + zz8) + zz10) + zz12) + zz14) + zz16) + zz18) + zz20) + zz22) + zz24) + zz26) + zz28) + zz30) + zz32) + zz34) + zz36) + zz38) + zz40) + zz42) + zz44) + zz46) + zz48) + zz50) + zz52) + zz54))]) (lenOf pd_0 rfl) rfl (by show 2 * 0 + _ ≤ _; exact Nat.le_of_eq rfl) (hb hby d3_241) (fun _ _ => ⟨rfl, eT54t, (by decide : 0 + 0 ≤ _), (by decide : 0 + 0 ≤ _)⟩)
  dsimp only [Pt.U, Pt.locs, Pt.cells, Pt.slots] at X56 l56 y56 z56 st56 hQ56
  replace y56 : k56 = 0 := y56
  replace z56 : n56 = 0 := z56
  subst l56 y56 z56
  refine own_go st56 ?_
  obtain ⟨zz56, rfl, hzz56, N56q, eh56⟩ := hQ56
  have N56 := Fr.app N54t N56q
  show own_Ends p e below T56 (mkF m 244 #[.val (.ref a), .val (.int c_), .unset] [(.int zz56), (.int ((((((((((((((((((((((((((zz2 + zz4) + zz6) + zz8) + zz10) + zz12) + zz14) + zz16) + zz18) + zz20) + zz22) + zz24) + zz26) + zz28) + zz30) + zz32) + zz34) + zz36) + zz38) + zz40) + zz42) + zz44) + zz46) + zz48) + zz50) + zz52) + zz54))]) _
  suffices Jt56 : ∀ (T_ : State) (L_ : List Loc), Stand p l e ({ frames := 1, cells := 0, slots := 0, locals := 14 } : Room) s m #[(.ref a), (.int c_)] below meth c T_ L_ 0 0 → T_.heap = h0 → Fr n0 L_ → own_Ends p e below T_ (mkF m 244 #[.val (.ref a), .val (.int c_), .unset] [(.int zz56), (.int ((((((((((((((((((((((((((zz2 + zz4) + zz6) + zz8) + zz10) + zz12) + zz14) + zz16) + zz18) + zz20) + zz22) + zz24) + zz26) + zz28) + zz30) + zz32) + zz34) + zz36) + zz38) + zz40) + zz42) + zz44) + zz46) + zz48) + zz50) + zz52) + zz54))]) (fun ou U' => ∃ v L, ou = .returned v ∧ Q_rmIns Z a c_ kl h0 n0 v U'.heap L ∧ FrameEnd s ou U' L ({ frames := 1, cells := 0, slots := 0, locals := 14 } : Room).cells ({ frames := 1, cells := 0, slots := 0, locals := 14 } : Room).slots) from Jt56 _ _ X56 eh56 N56
  clear st56 X56 N56 N56q eh56
  try clear Lc56
  try clear T56
  try clear N54t
  try clear eT54t
  try clear X54t
  try clear L54t
  try clear T54t
  intro T56t L56t X56t eT56t N56t
  refine own_go (fun _ => XS.iadd X56t.here hx rfl (hb hby d3_244) rfl) ?_
  show own_Ends p e below T56t (mkF m 245 #[.val (.ref a), .val (.int c_), .unset] [(.int (((((((((((((((((((((((((((zz2 + zz4) + zz6) + zz8) + zz10) + zz12) + zz14) + zz16) + zz18) + zz20) + zz22) + zz24) + zz26) + zz28) + zz30) + zz32) + zz34) + zz36) + zz38) + zz40) + zz42) + zz44) + zz46) + zz48) + zz50) + zz52) + zz54) + zz56))]) _
  refine own_go (fun _ => XS.istoreN X56t.here hx rfl (hb hby d3_245) rfl (l' := #[.val (.ref a), .val (.int c_), .val (.int (((((((((((((((((((((((((((zz2 + zz4) + zz6) + zz8) + zz10) + zz12) + zz14) + zz16) + zz18) + zz20) + zz22) + zz24) + zz26) + zz28) + zz30) + zz32) + zz34) + zz36) + zz38) + zz40) + zz42) + zz44) + zz46) + zz48) + zz50) + zz52) + zz54) + zz56))]) rfl) ?_
  show own_Ends p e below T56t (mkF m 246 #[.val (.ref a), .val (.int c_), .val (.int (((((((((((((((((((((((((((zz2 + zz4) + zz6) + zz8) + zz10) + zz12) + zz14) + zz16) + zz18) + zz20) + zz22) + zz24) + zz26) + zz28) + zz30) + zz32) + zz34) + zz36) + zz38) + zz40) + zz42) + zz44) + zz46) + zz48) + zz50) + zz52) + zz54) + zz56))] []) _
  refine own_go (fun _ => XS.iloadN X56t.here hx rfl (hb hby d3_246) rfl) ?_
  show own_Ends p e below T56t (mkF m 247 #[.val (.ref a), .val (.int c_), .val (.int (((((((((((((((((((((((((((zz2 + zz4) + zz6) + zz8) + zz10) + zz12) + zz14) + zz16) + zz18) + zz20) + zz22) + zz24) + zz26) + zz28) + zz30) + zz32) + zz34) + zz36) + zz38) + zz40) + zz42) + zz44) + zz46) + zz48) + zz50) + zz52) + zz54) + zz56))] [(.int (((((((((((((((((((((((((((zz2 + zz4) + zz6) + zz8) + zz10) + zz12) + zz14) + zz16) + zz18) + zz20) + zz22) + zz24) + zz26) + zz28) + zz30) + zz32) + zz34) + zz36) + zz38) + zz40) + zz42) + zz44) + zz46) + zz48) + zz50) + zz52) + zz54) + zz56))]) _
  refine own_go (fun _ => XS.iconst X56t.here hx rfl (hb hby d3_247)) ?_
  show own_Ends p e below T56t (mkF m 248 #[.val (.ref a), .val (.int c_), .val (.int (((((((((((((((((((((((((((zz2 + zz4) + zz6) + zz8) + zz10) + zz12) + zz14) + zz16) + zz18) + zz20) + zz22) + zz24) + zz26) + zz28) + zz30) + zz32) + zz34) + zz36) + zz38) + zz40) + zz42) + zz44) + zz46) + zz48) + zz50) + zz52) + zz54) + zz56))] [(.int (1 : Int32)), (.int (((((((((((((((((((((((((((zz2 + zz4) + zz6) + zz8) + zz10) + zz12) + zz14) + zz16) + zz18) + zz20) + zz22) + zz24) + zz26) + zz28) + zz30) + zz32) + zz34) + zz36) + zz38) + zz40) + zz42) + zz44) + zz46) + zz48) + zz50) + zz52) + zz54) + zz56))]) _
  refine own_go (fun _ => XS.iand X56t.here hx rfl (hb hby d3_248) rfl) ?_
  show own_Ends p e below T56t (mkF m 249 #[.val (.ref a), .val (.int c_), .val (.int (((((((((((((((((((((((((((zz2 + zz4) + zz6) + zz8) + zz10) + zz12) + zz14) + zz16) + zz18) + zz20) + zz22) + zz24) + zz26) + zz28) + zz30) + zz32) + zz34) + zz36) + zz38) + zz40) + zz42) + zz44) + zz46) + zz48) + zz50) + zz52) + zz54) + zz56))] [(.int ((((((((((((((((((((((((((((zz2 + zz4) + zz6) + zz8) + zz10) + zz12) + zz14) + zz16) + zz18) + zz20) + zz22) + zz24) + zz26) + zz28) + zz30) + zz32) + zz34) + zz36) + zz38) + zz40) + zz42) + zz44) + zz46) + zz48) + zz50) + zz52) + zz54) + zz56) &&& (1 : Int32)))]) _
  refine own_go (fun _ => XS.iconst X56t.here hx rfl (hb hby d3_249)) ?_
  show own_Ends p e below T56t (mkF m 250 #[.val (.ref a), .val (.int c_), .val (.int (((((((((((((((((((((((((((zz2 + zz4) + zz6) + zz8) + zz10) + zz12) + zz14) + zz16) + zz18) + zz20) + zz22) + zz24) + zz26) + zz28) + zz30) + zz32) + zz34) + zz36) + zz38) + zz40) + zz42) + zz44) + zz46) + zz48) + zz50) + zz52) + zz54) + zz56))] [(.int (1 : Int32)), (.int ((((((((((((((((((((((((((((zz2 + zz4) + zz6) + zz8) + zz10) + zz12) + zz14) + zz16) + zz18) + zz20) + zz22) + zz24) + zz26) + zz28) + zz30) + zz32) + zz34) + zz36) + zz38) + zz40) + zz42) + zz44) + zz46) + zz48) + zz50) + zz52) + zz54) + zz56) &&& (1 : Int32)))]) _
  by_cases hc250 : ((((((((((((((((((((((((((((zz2 + zz4) + zz6) + zz8) + zz10) + zz12) + zz14) + zz16) + zz18) + zz20) + zz22) + zz24) + zz26) + zz28) + zz30) + zz32) + zz34) + zz36) + zz38) + zz40) + zz42) + zz44) + zz46) + zz48) + zz50) + zz52) + zz54) + zz56) &&& (1 : Int32)) = (1 : Int32)
  · refine own_go (fun _ => XS.icmpNo X56t.here hx rfl (hb hby d3_250) rfl (teq hc250).2) ?_
    show own_Ends p e below T56t (mkF m 253 #[.val (.ref a), .val (.int c_), .val (.int (((((((((((((((((((((((((((zz2 + zz4) + zz6) + zz8) + zz10) + zz12) + zz14) + zz16) + zz18) + zz20) + zz22) + zz24) + zz26) + zz28) + zz30) + zz32) + zz34) + zz36) + zz38) + zz40) + zz42) + zz44) + zz46) + zz48) + zz50) + zz52) + zz54) + zz56))] []) _
    refine own_go (fun _ => XS.iconst X56t.here hx rfl (hb hby d3_253)) ?_
    show own_Ends p e below T56t (mkF m 254 #[.val (.ref a), .val (.int c_), .val (.int (((((((((((((((((((((((((((zz2 + zz4) + zz6) + zz8) + zz10) + zz12) + zz14) + zz16) + zz18) + zz20) + zz22) + zz24) + zz26) + zz28) + zz30) + zz32) + zz34) + zz36) + zz38) + zz40) + zz42) + zz44) + zz46) + zz48) + zz50) + zz52) + zz54) + zz56))] [(.int (1 : Int32))]) _
    refine own_go (fun _ => XS.goto X56t.here hx rfl (pc0 := 254) (pc' := 258) rfl (hb hby d3_254) (by decide) (by decide)) ?_
    show own_Ends p e below T56t (mkF m 258 #[.val (.ref a), .val (.int c_), .val (.int (((((((((((((((((((((((((((zz2 + zz4) + zz6) + zz8) + zz10) + zz12) + zz14) + zz16) + zz18) + zz20) + zz22) + zz24) + zz26) + zz28) + zz30) + zz32) + zz34) + zz36) + zz38) + zz40) + zz42) + zz44) + zz46) + zz48) + zz50) + zz52) + zz54) + zz56))] [(.int (1 : Int32))]) _
    obtain ⟨fs, hr, hrun, hended, hW, hsame⟩ := X56t.leave (v := some (.int (1 : Int32))) (fun h => by rw [Bd.returns] at h; cases h)
    refine ⟨_, _, retN X56t hx (t := .boolean) Bd.returns (by simp) (hb hby d3_258) hr, hrun, hended, _, _, rfl, ?_, ⟨_, rfl⟩, hW, hsame.mono (by decide) (by decide)⟩
    show Q_rmIns Z a c_ kl h0 n0 _ T56t.heap _
    rw [eT56t]
    exact ⟨_, rfl, by exact own_insP hzz2 hzz4 hzz6 hzz8 hzz10 hzz12 hzz14 hzz16 hzz18 hzz20 hzz22 hzz24 hzz26 hzz28 hzz30 hzz32 hzz34 hzz36 hzz38 hzz40 hzz42 hzz44 hzz46 hzz48 hzz50 hzz52 hzz54 hzz56 hc250, N56t, rfl⟩
  · refine own_go (fun _ => XS.icmpYes X56t.here hx rfl (pc0 := 250) (pc' := 257) rfl (hb hby d3_250) rfl (feq hc250).2 (by decide) (by decide)) ?_
    show own_Ends p e below T56t (mkF m 257 #[.val (.ref a), .val (.int c_), .val (.int (((((((((((((((((((((((((((zz2 + zz4) + zz6) + zz8) + zz10) + zz12) + zz14) + zz16) + zz18) + zz20) + zz22) + zz24) + zz26) + zz28) + zz30) + zz32) + zz34) + zz36) + zz38) + zz40) + zz42) + zz44) + zz46) + zz48) + zz50) + zz52) + zz54) + zz56))] []) _
    refine own_go (fun _ => XS.iconst X56t.here hx rfl (hb hby d3_257)) ?_
    show own_Ends p e below T56t (mkF m 258 #[.val (.ref a), .val (.int c_), .val (.int (((((((((((((((((((((((((((zz2 + zz4) + zz6) + zz8) + zz10) + zz12) + zz14) + zz16) + zz18) + zz20) + zz22) + zz24) + zz26) + zz28) + zz30) + zz32) + zz34) + zz36) + zz38) + zz40) + zz42) + zz44) + zz46) + zz48) + zz50) + zz52) + zz54) + zz56))] [(.int (0 : Int32))]) _
    obtain ⟨fs, hr, hrun, hended, hW, hsame⟩ := X56t.leave (v := some (.int (0 : Int32))) (fun h => by rw [Bd.returns] at h; cases h)
    refine ⟨_, _, retN X56t hx (t := .boolean) Bd.returns (by simp) (hb hby d3_258) hr, hrun, hended, _, _, rfl, ?_, ⟨_, rfl⟩, hW, hsame.mono (by decide) (by decide)⟩
    show Q_rmIns Z a c_ kl h0 n0 _ T56t.heap _
    rw [eT56t]
    exact ⟨_, rfl, by exact own_insN hzz2 hzz4 hzz6 hzz8 hzz10 hzz12 hzz14 hzz16 hzz18 hzz20 hzz22 hzz24 hzz26 hzz28 hzz30 hzz32 hzz34 hzz36 hzz38 hzz40 hzz42 hzz44 hzz46 hzz48 hzz50 hzz52 hzz54 hzz56 hc250, N56t, rfl⟩
theorem pn_0 : plainName "com/example/graphtide/graphtide/rdf/CharClassesIsPnCharsBasePinLaw" = true := by first | (simp [plainName, overriddenIn]; done) | decide +kernel
theorem ef_0 (m : MethodId) (p0 : Int32) (p1 : Int32) (p2 : Int32) : entryFrame m #[(.int p0), (.int p1), (.int p2)] maxLocals = mkF m 0 #[.val (.int p0), .val (.int p1), .val (.int p2), .unset, .unset, .unset, .unset] [] := by first | (simp [entryFrame, mkF, argsToLocals, Value.category, maxLocals]; done) | rfl
def Q_rm0 (Z : State) (p0 : Int32) (p1 : Int32) (p2 : Int32) (h0 : Heap) (n0 : Nat) (v : Option Value) (h : Heap) (L : List Loc) : Prop := v = some (.int 1) ∧ Fr n0 L
theorem pd_1 : parseMethodDescriptor "()[I" = some ⟨[], some (.array .int)⟩ := by decide +kernel
theorem pd_2 : parseMethodDescriptor "(I)Z" = some ⟨[.int], some .boolean⟩ := by decide +kernel
theorem pd_3 : parseMethodDescriptor "([II)Z" = some ⟨[(.array .int), .int], some .boolean⟩ := by decide +kernel
set_option maxRecDepth 65536 in
set_option maxHeartbeats 40000000 in
theorem rm0 (l : Launch) (Z : State) (a0 : Array Value) (hw : ∀ d ∈ tables_1, d.before a0 Z = true) (ws : List Jvm.Cond) (p0 : Int32) (p1 : Int32) (p2 : Int32) (h0 : Heap) (n0 : Nat) (Z0 : n0 ≤ h0.size) :
    MetFree l x (head1 (Jvm.Cond.code x code maxLocals ret :: ws) room_1) (fun aa U => aa = #[(.int p0), (.int p1), (.int p2)] ∧ Z.Warmed39 U.vm ∧ U.heap = h0) (fun _ _ _ _ _ => True) (fun _ U ou U' => ∃ v L, ou = .returned v ∧ Q_rm0 Z p0 p1 p2 h0 n0 v U'.heap L ∧ FrameEnd U ou U' L room_1.cells room_1.slots) := by
  refine MetFree.of_bodySF (plainFor_of_name pn_0) hisR ?_
  intro p e s m args below meth c s₁ Bd hml0 hP hK
  obtain ⟨rfl, hZ, hh⟩ := hP
  have hx := Bd.exec
  have hby := Bd.bytes
  have hml : c.maxLocals = 7 := hml0
  have hown : s.vm.findClass "com/example/graphtide/graphtide/rdf/CharClassesIsPnCharsBasePinLaw" = some m.cls := findClass_of_methodNamed Bd.named
  have hnm := (name_of_methodNamed Bd.named Bd.method).1
  have X0 : Stand p l e room_1 s m #[(.int p0), (.int p1), (.int p2)] below meth c s₁ [] 0 0 := Stand.of_body Bd
  have e0 : s₁.heap = h0 := by rw [← hh, Bd.state]; rfl
  have N0 := Fr.nil n0
  have K0 := Keep.refl h0 []
  refine own_as (ef_0 m p0 p1 p2) ?_
  show own_Ends p e below s₁ (mkF m 0 #[.val (.int p0), .val (.int p1), .val (.int p2), .unset, .unset, .unset, .unset] []) _
  obtain ⟨_, _, ⟨T1, L1, k1, n1⟩, -, X1, ⟨Lc1, hQ1, l1, y1, z1⟩, st1⟩ := Jvm.LawKit.callS X0 hx (y := (⟨"com/example/graphtide/graphtide/rdf/CharClassesIsPnCharsBasePinLaw", "bounds", "()[I"⟩ : MethodName)) hown (mvT hZ (hw _ (List.mem_of_getElem? (i := 0) rfl))) (mvT hZ (hw _ (List.mem_of_getElem? (i := 1) rfl))) (mvT hZ (hw _ (List.mem_of_getElem? (i := 2) rfl))) (mvT hZ (hw _ (List.mem_of_getElem? (i := 3) rfl))) (by decide) (backOf (W := 0) (rmBounds l Z a0 hw []   h0 n0 Z0 ) hZ (hw _ (List.mem_of_getElem? (i := 3) rfl)) (hw _ (List.mem_of_getElem? (i := 2) rfl)) (by decide) (by decide)) (g := (mkF m 0 #[.val (.int p0), .val (.int p1), .val (.int p2), .unset, .unset, .unset, .unset] [])) rfl (by rw [hml]; rfl) (argsL := []) (rest := []) (lenOf pd_1 rfl) rfl (by show 2 * 0 + _ ≤ _; exact Nat.le_of_eq rfl) (hb hby at_0) (fun _ _ => ⟨rfl, e0, (by decide : 0 + 1 ≤ _), (by decide : 0 + 28 ≤ _)⟩)
  dsimp only [Pt.U, Pt.locs, Pt.cells, Pt.slots] at X1 l1 y1 z1 st1 hQ1
  replace y1 : k1 = 1 := y1
  replace z1 : n1 = 28 := z1
  subst l1 y1 z1
  refine own_go st1 ?_
  obtain ⟨bb1, kl1, rfl, N1q, Kq1, g_bb1, sz_bb1, V_bb1⟩ := hQ1
  have K1 := K0.trans Kq1 all0
  have Z1 : n0 ≤ T1.heap.size := Nat.le_trans Z0 K1.1
  have N1 := Fr.app N0 N1q
  show own_Ends p e below T1 (mkF m 3 #[.val (.int p0), .val (.int p1), .val (.int p2), .unset, .unset, .unset, .unset] [(.ref bb1)]) _
  refine own_go (fun _ => XS.astoreN X1.here hx rfl (hb hby at_3) rfl rfl (l' := #[.val (.int p0), .val (.int p1), .val (.int p2), .val (.ref bb1), .unset, .unset, .unset]) rfl) ?_
  show own_Ends p e below T1 (mkF m 4 #[.val (.int p0), .val (.int p1), .val (.int p2), .val (.ref bb1), .unset, .unset, .unset] []) _
  refine own_go (fun _ => XS.aloadN X1.here hx rfl (hb hby at_4) rfl rfl) ?_
  show own_Ends p e below T1 (mkF m 5 #[.val (.int p0), .val (.int p1), .val (.int p2), .val (.ref bb1), .unset, .unset, .unset] [(.ref bb1)]) _
  refine own_go (fun _ => XS.iloadN X1.here hx rfl (hb hby at_5) rfl) ?_
  show own_Ends p e below T1 (mkF m 6 #[.val (.int p0), .val (.int p1), .val (.int p2), .val (.ref bb1), .unset, .unset, .unset] [(.int p1), (.ref bb1)]) _
  refine own_go (X1.ldcInt hx hown (mvT hZ (hw _ (List.mem_of_getElem? (i := 12) rfl))) (g := (mkF m 6 #[.val (.int p0), .val (.int p1), .val (.int p2), .val (.ref bb1), .unset, .unset, .unset] [(.int p1), (.ref bb1)])) rfl (hb hby at_6)) ?_
  show own_Ends p e below T1 (mkF m 8 #[.val (.int p0), .val (.int p1), .val (.int p2), .val (.ref bb1), .unset, .unset, .unset] [(.int (2147483647 : Int32)), (.int p1), (.ref bb1)]) _
  refine own_go (fun _ => XS.iand X1.here hx rfl (hb hby at_8) rfl) ?_
  show own_Ends p e below T1 (mkF m 9 #[.val (.int p0), .val (.int p1), .val (.int p2), .val (.ref bb1), .unset, .unset, .unset] [(.int (p1 &&& (2147483647 : Int32))), (.ref bb1)]) _
  refine own_go (fun _ => XS.bipush X1.here hx rfl (hb hby at_9)) ?_
  show own_Ends p e below T1 (mkF m 11 #[.val (.int p0), .val (.int p1), .val (.int p2), .val (.ref bb1), .unset, .unset, .unset] [(.int (28 : Int32)), (.int (p1 &&& (2147483647 : Int32))), (.ref bb1)]) _
  refine own_go (fun _ => iremM X1 hx rfl (hb hby at_11) rfl (by decide)) ?_
  show own_Ends p e below T1 (mkF m 12 #[.val (.int p0), .val (.int p1), .val (.int p2), .val (.ref bb1), .unset, .unset, .unset] [(.int ((p1 &&& (2147483647 : Int32)) % (28 : Int32))), (.ref bb1)]) _
  obtain ⟨cl_2, Ar_2, q_2, S_2, M_2, H_2, G_2⟩ := id V_bb1
  have hin2 : ¬ (((p1 &&& (2147483647 : Int32)) % (28 : Int32)) < 0 ∨ cl_2.slots.size ≤ (((p1 &&& (2147483647 : Int32)) % (28 : Int32))).toNatClampNeg) := inb_of S_2 (own_mod p1)
  have hat2 : cl_2.slots[(((p1 &&& (2147483647 : Int32)) % (28 : Int32))).toNatClampNeg]? = some (.int (own_b ((p1 &&& (2147483647 : Int32)) % (28 : Int32)))) := Has.at H_2 hin2 (own_getD [(65 : Int32), (91 : Int32), (97 : Int32), (123 : Int32), (192 : Int32), (215 : Int32), (216 : Int32), (247 : Int32), (248 : Int32), (768 : Int32), (880 : Int32), (894 : Int32), (895 : Int32), (8192 : Int32), (8204 : Int32), (8206 : Int32), (8304 : Int32), (8592 : Int32), (11264 : Int32), (12272 : Int32), (12289 : Int32), (55296 : Int32), (63744 : Int32), (64976 : Int32), (65008 : Int32), (65534 : Int32), (65536 : Int32), (983040 : Int32)] _)
  refine own_go (X1.iaload hx (j := ((p1 &&& (2147483647 : Int32)) % (28 : Int32))) (v := (.int (own_b ((p1 &&& (2147483647 : Int32)) % (28 : Int32))))) Ar_2.1 (State.isArrayOf_alike hZ.alike Ar_2.2.1) Ar_2.2.2 hin2 hat2 (g := (mkF m 12 #[.val (.int p0), .val (.int p1), .val (.int p2), .val (.ref bb1), .unset, .unset, .unset] [(.int ((p1 &&& (2147483647 : Int32)) % (28 : Int32))), (.ref bb1)])) rfl rfl (hb hby at_12)) ?_
  clear hat2 hin2 G_2 H_2 M_2 S_2 q_2 Ar_2
  try clear cl_2
  show own_Ends p e below T1 (mkF m 13 #[.val (.int p0), .val (.int p1), .val (.int p2), .val (.ref bb1), .unset, .unset, .unset] [(.int (own_b ((p1 &&& (2147483647 : Int32)) % (28 : Int32))))]) _
  refine own_go (fun _ => XS.iloadN X1.here hx rfl (hb hby at_13) rfl) ?_
  show own_Ends p e below T1 (mkF m 14 #[.val (.int p0), .val (.int p1), .val (.int p2), .val (.ref bb1), .unset, .unset, .unset] [(.int p2), (.int (own_b ((p1 &&& (2147483647 : Int32)) % (28 : Int32))))]) _
  refine own_go (fun _ => XS.iconst X1.here hx rfl (hb hby at_14)) ?_
  show own_Ends p e below T1 (mkF m 15 #[.val (.int p0), .val (.int p1), .val (.int p2), .val (.ref bb1), .unset, .unset, .unset] [(.int (4 : Int32)), (.int p2), (.int (own_b ((p1 &&& (2147483647 : Int32)) % (28 : Int32))))]) _
  refine own_go (fun _ => iremM X1 hx rfl (hb hby at_15) rfl (by decide)) ?_
  show own_Ends p e below T1 (mkF m 16 #[.val (.int p0), .val (.int p1), .val (.int p2), .val (.ref bb1), .unset, .unset, .unset] [(.int (p2 % (4 : Int32))), (.int (own_b ((p1 &&& (2147483647 : Int32)) % (28 : Int32))))]) _
  refine own_go (fun _ => XS.iadd X1.here hx rfl (hb hby at_16) rfl) ?_
  show own_Ends p e below T1 (mkF m 17 #[.val (.int p0), .val (.int p1), .val (.int p2), .val (.ref bb1), .unset, .unset, .unset] [(.int ((own_b ((p1 &&& (2147483647 : Int32)) % (28 : Int32))) + (p2 % (4 : Int32))))]) _
  refine own_go (fun _ => XS.iconst X1.here hx rfl (hb hby at_17)) ?_
  show own_Ends p e below T1 (mkF m 18 #[.val (.int p0), .val (.int p1), .val (.int p2), .val (.ref bb1), .unset, .unset, .unset] [(.int (2 : Int32)), (.int ((own_b ((p1 &&& (2147483647 : Int32)) % (28 : Int32))) + (p2 % (4 : Int32))))]) _
  refine own_go (fun _ => XS.isub X1.here hx rfl (hb hby at_18) rfl) ?_
  show own_Ends p e below T1 (mkF m 19 #[.val (.int p0), .val (.int p1), .val (.int p2), .val (.ref bb1), .unset, .unset, .unset] [(.int (((own_b ((p1 &&& (2147483647 : Int32)) % (28 : Int32))) + (p2 % (4 : Int32))) - (2 : Int32)))]) _
  refine own_go (fun _ => XS.istore X1.here hx rfl (hb hby at_19) rfl (l' := #[.val (.int p0), .val (.int p1), .val (.int p2), .val (.ref bb1), .val (.int (((own_b ((p1 &&& (2147483647 : Int32)) % (28 : Int32))) + (p2 % (4 : Int32))) - (2 : Int32))), .unset, .unset]) rfl) ?_
  show own_Ends p e below T1 (mkF m 21 #[.val (.int p0), .val (.int p1), .val (.int p2), .val (.ref bb1), .val (.int (((own_b ((p1 &&& (2147483647 : Int32)) % (28 : Int32))) + (p2 % (4 : Int32))) - (2 : Int32))), .unset, .unset] []) _
  generalize hpp : (((own_b ((p1 &&& (2147483647 : Int32)) % (28 : Int32))) + (p2 % (4 : Int32))) - (2 : Int32)) = pp
  refine own_go (fun _ => XS.iloadN X1.here hx rfl (hb hby at_21) rfl) ?_
  show own_Ends p e below T1 (mkF m 22 #[.val (.int p0), .val (.int p1), .val (.int p2), .val (.ref bb1), .val (.int pp), .unset, .unset] [(.int p0)]) _
  obtain ⟨_, _, ⟨T3, L3, k3, n3⟩, -, X3, ⟨Lc3, hQ3, l3, y3, z3⟩, st3⟩ := Jvm.LawKit.callS X1 hx (y := (⟨"com/example/graphtide/graphtide/rdf/CharClasses", "isPnCharsBase", "(I)Z"⟩ : MethodName)) hown (mvT hZ (hw _ (List.mem_of_getElem? (i := 13) rfl))) (mvT hZ (hw _ (List.mem_of_getElem? (i := 14) rfl))) (mvT hZ (hw _ (List.mem_of_getElem? (i := 15) rfl))) (mvT hZ (hw _ (List.mem_of_getElem? (i := 16) rfl))) (by decide) (backOf (W := 0) (rmBase l Z a0 hw [] p0  (T1.heap) n0 Z1 ) hZ (hw _ (List.mem_of_getElem? (i := 16) rfl)) (hw _ (List.mem_of_getElem? (i := 15) rfl)) (by decide) (by decide)) (g := (mkF m 22 #[.val (.int p0), .val (.int p1), .val (.int p2), .val (.ref bb1), .val (.int pp), .unset, .unset] [(.int p0)])) rfl (by rw [hml]; rfl) (argsL := [(.int p0)]) (rest := []) (lenOf pd_2 rfl) rfl (by show 2 * 0 + _ ≤ _; exact Nat.le_of_eq rfl) (hb hby at_22) (fun _ _ => ⟨rfl, rfl, (by decide : 1 + 0 ≤ _), (by decide : 28 + 0 ≤ _)⟩)
  dsimp only [Pt.U, Pt.locs, Pt.cells, Pt.slots] at X3 l3 y3 z3 st3 hQ3
  replace y3 : k3 = 1 := y3
  replace z3 : n3 = 28 := z3
  subst l3 y3 z3
  refine own_go st3 ?_
  obtain ⟨zz3, rfl, hzz3, N3q, eh3⟩ := hQ3
  have N3 := Fr.app N1 N3q
  show own_Ends p e below T3 (mkF m 25 #[.val (.int p0), .val (.int p1), .val (.int p2), .val (.ref bb1), .val (.int pp), .unset, .unset] [(.int zz3)]) _
  suffices Jt3 : ∀ (T_ : State) (L_ : List Loc), Stand p l e room_1 s m #[(.int p0), (.int p1), (.int p2)] below meth c T_ L_ 1 28 → T_.heap = T1.heap → Fr n0 L_ → own_Ends p e below T_ (mkF m 25 #[.val (.int p0), .val (.int p1), .val (.int p2), .val (.ref bb1), .val (.int pp), .unset, .unset] [(.int zz3)]) (fun ou U' => ∃ v L, ou = .returned v ∧ Q_rm0 Z p0 p1 p2 h0 n0 v U'.heap L ∧ FrameEnd s ou U' L room_1.cells room_1.slots) from Jt3 _ _ X3 eh3 N3
  clear st3 X3 N3 N3q eh3
  try clear Lc3
  try clear T3
  intro T3t L3t X3t eT3t N3t
  refine own_go (fun _ => XS.aloadN X3t.here hx rfl (hb hby at_25) rfl rfl) ?_
  show own_Ends p e below T3t (mkF m 26 #[.val (.int p0), .val (.int p1), .val (.int p2), .val (.ref bb1), .val (.int pp), .unset, .unset] [(.ref bb1), (.int zz3)]) _
  refine own_go (fun _ => XS.iloadN X3t.here hx rfl (hb hby at_26) rfl) ?_
  show own_Ends p e below T3t (mkF m 27 #[.val (.int p0), .val (.int p1), .val (.int p2), .val (.ref bb1), .val (.int pp), .unset, .unset] [(.int p0), (.ref bb1), (.int zz3)]) _
  obtain ⟨_, _, ⟨T4, L4, k4, n4⟩, -, X4, ⟨Lc4, hQ4, l4, y4, z4⟩, st4⟩ := Jvm.LawKit.callS X3t hx (y := (⟨"com/example/graphtide/graphtide/rdf/CharClassesIsPnCharsBasePinLaw", "inside", "([II)Z"⟩ : MethodName)) hown (mvT hZ (hw _ (List.mem_of_getElem? (i := 20) rfl))) (mvT hZ (hw _ (List.mem_of_getElem? (i := 21) rfl))) (mvT hZ (hw _ (List.mem_of_getElem? (i := 2) rfl))) (mvT hZ (hw _ (List.mem_of_getElem? (i := 22) rfl))) (by decide) (backOf (W := 1) (rmIns l Z a0 hw [] bb1 p0 kl1 (T1.heap) n0 Z1 V_bb1) hZ (hw _ (List.mem_of_getElem? (i := 22) rfl)) (hw _ (List.mem_of_getElem? (i := 2) rfl)) (by decide) (by decide)) (g := (mkF m 27 #[.val (.int p0), .val (.int p1), .val (.int p2), .val (.ref bb1), .val (.int pp), .unset, .unset] [(.int p0), (.ref bb1), (.int zz3)])) rfl (by rw [hml]; rfl) (argsL := [(.ref bb1), (.int p0)]) (rest := [(.int zz3)]) (lenOf pd_3 rfl) rfl (by show 2 * 0 + _ ≤ _; exact Nat.le_of_eq rfl) (hb hby at_27) (fun _ _ => ⟨rfl, eT3t, (by decide : 1 + 0 ≤ _), (by decide : 28 + 0 ≤ _)⟩)
  dsimp only [Pt.U, Pt.locs, Pt.cells, Pt.slots] at X4 l4 y4 z4 st4 hQ4
  replace y4 : k4 = 1 := y4
  replace z4 : n4 = 28 := z4
  subst l4 y4 z4
  refine own_go st4 ?_
  obtain ⟨zz4, rfl, hzz4, N4q, eh4⟩ := hQ4
  have N4 := Fr.app N3t N4q
  show own_Ends p e below T4 (mkF m 30 #[.val (.int p0), .val (.int p1), .val (.int p2), .val (.ref bb1), .val (.int pp), .unset, .unset] [(.int zz4), (.int zz3)]) _
  suffices Jt4 : ∀ (T_ : State) (L_ : List Loc), Stand p l e room_1 s m #[(.int p0), (.int p1), (.int p2)] below meth c T_ L_ 1 28 → T_.heap = T1.heap → Fr n0 L_ → own_Ends p e below T_ (mkF m 30 #[.val (.int p0), .val (.int p1), .val (.int p2), .val (.ref bb1), .val (.int pp), .unset, .unset] [(.int zz4), (.int zz3)]) (fun ou U' => ∃ v L, ou = .returned v ∧ Q_rm0 Z p0 p1 p2 h0 n0 v U'.heap L ∧ FrameEnd s ou U' L room_1.cells room_1.slots) from Jt4 _ _ X4 eh4 N4
  clear st4 X4 N4 N4q eh4
  try clear Lc4
  try clear T4
  try clear N3t
  try clear eT3t
  try clear X3t
  try clear L3t
  try clear T3t
  intro T4t L4t X4t eT4t N4t
  refine own_go (fun _ => XS.icmpNo X4t.here hx rfl (hb hby at_30) rfl (teq (show zz3 = zz4 from own_eq hzz3 hzz4 (own_same _))).2) ?_
  show own_Ends p e below T4t (mkF m 33 #[.val (.int p0), .val (.int p1), .val (.int p2), .val (.ref bb1), .val (.int pp), .unset, .unset] []) _
  refine own_go (fun _ => XS.iconst X4t.here hx rfl (hb hby at_33)) ?_
  show own_Ends p e below T4t (mkF m 34 #[.val (.int p0), .val (.int p1), .val (.int p2), .val (.ref bb1), .val (.int pp), .unset, .unset] [(.int (1 : Int32))]) _
  refine own_go (fun _ => XS.goto X4t.here hx rfl (pc0 := 34) (pc' := 38) rfl (hb hby at_34) (by decide) (by decide)) ?_
  show own_Ends p e below T4t (mkF m 38 #[.val (.int p0), .val (.int p1), .val (.int p2), .val (.ref bb1), .val (.int pp), .unset, .unset] [(.int (1 : Int32))]) _
  refine own_go (fun _ => XS.istore X4t.here hx rfl (hb hby at_38) rfl (l' := #[.val (.int p0), .val (.int p1), .val (.int p2), .val (.ref bb1), .val (.int pp), .val (.int (1 : Int32)), .unset]) rfl) ?_
  show own_Ends p e below T4t (mkF m 40 #[.val (.int p0), .val (.int p1), .val (.int p2), .val (.ref bb1), .val (.int pp), .val (.int (1 : Int32)), .unset] []) _
  refine own_go (fun _ => XS.iload X4t.here hx rfl (hb hby at_40) rfl) ?_
  show own_Ends p e below T4t (mkF m 42 #[.val (.int p0), .val (.int p1), .val (.int p2), .val (.ref bb1), .val (.int pp), .val (.int (1 : Int32)), .unset] [(.int pp)]) _
  obtain ⟨_, _, ⟨T5, L5, k5, n5⟩, -, X5, ⟨Lc5, hQ5, l5, y5, z5⟩, st5⟩ := Jvm.LawKit.callS X4t hx (y := (⟨"com/example/graphtide/graphtide/rdf/CharClasses", "isPnCharsBase", "(I)Z"⟩ : MethodName)) hown (mvT hZ (hw _ (List.mem_of_getElem? (i := 13) rfl))) (mvT hZ (hw _ (List.mem_of_getElem? (i := 14) rfl))) (mvT hZ (hw _ (List.mem_of_getElem? (i := 15) rfl))) (mvT hZ (hw _ (List.mem_of_getElem? (i := 16) rfl))) (by decide) (backOf (W := 0) (rmBase l Z a0 hw [] pp  (T1.heap) n0 Z1 ) hZ (hw _ (List.mem_of_getElem? (i := 16) rfl)) (hw _ (List.mem_of_getElem? (i := 15) rfl)) (by decide) (by decide)) (g := (mkF m 42 #[.val (.int p0), .val (.int p1), .val (.int p2), .val (.ref bb1), .val (.int pp), .val (.int (1 : Int32)), .unset] [(.int pp)])) rfl (by rw [hml]; rfl) (argsL := [(.int pp)]) (rest := []) (lenOf pd_2 rfl) rfl (by show 2 * 0 + _ ≤ _; exact Nat.le_of_eq rfl) (hb hby at_42) (fun _ _ => ⟨rfl, eT4t, (by decide : 1 + 0 ≤ _), (by decide : 28 + 0 ≤ _)⟩)
  dsimp only [Pt.U, Pt.locs, Pt.cells, Pt.slots] at X5 l5 y5 z5 st5 hQ5
  replace y5 : k5 = 1 := y5
  replace z5 : n5 = 28 := z5
  subst l5 y5 z5
  refine own_go st5 ?_
  obtain ⟨zz5, rfl, hzz5, N5q, eh5⟩ := hQ5
  have N5 := Fr.app N4t N5q
  show own_Ends p e below T5 (mkF m 45 #[.val (.int p0), .val (.int p1), .val (.int p2), .val (.ref bb1), .val (.int pp), .val (.int (1 : Int32)), .unset] [(.int zz5)]) _
  suffices Jt5 : ∀ (T_ : State) (L_ : List Loc), Stand p l e room_1 s m #[(.int p0), (.int p1), (.int p2)] below meth c T_ L_ 1 28 → T_.heap = T1.heap → Fr n0 L_ → own_Ends p e below T_ (mkF m 45 #[.val (.int p0), .val (.int p1), .val (.int p2), .val (.ref bb1), .val (.int pp), .val (.int (1 : Int32)), .unset] [(.int zz5)]) (fun ou U' => ∃ v L, ou = .returned v ∧ Q_rm0 Z p0 p1 p2 h0 n0 v U'.heap L ∧ FrameEnd s ou U' L room_1.cells room_1.slots) from Jt5 _ _ X5 eh5 N5
  clear st5 X5 N5 N5q eh5
  try clear Lc5
  try clear T5
  try clear N4t
  try clear eT4t
  try clear X4t
  try clear L4t
  try clear T4t
  intro T5t L5t X5t eT5t N5t
  refine own_go (fun _ => XS.aloadN X5t.here hx rfl (hb hby at_45) rfl rfl) ?_
  show own_Ends p e below T5t (mkF m 46 #[.val (.int p0), .val (.int p1), .val (.int p2), .val (.ref bb1), .val (.int pp), .val (.int (1 : Int32)), .unset] [(.ref bb1), (.int zz5)]) _
  refine own_go (fun _ => XS.iload X5t.here hx rfl (hb hby at_46) rfl) ?_
  show own_Ends p e below T5t (mkF m 48 #[.val (.int p0), .val (.int p1), .val (.int p2), .val (.ref bb1), .val (.int pp), .val (.int (1 : Int32)), .unset] [(.int pp), (.ref bb1), (.int zz5)]) _
  obtain ⟨_, _, ⟨T6, L6, k6, n6⟩, -, X6, ⟨Lc6, hQ6, l6, y6, z6⟩, st6⟩ := Jvm.LawKit.callS X5t hx (y := (⟨"com/example/graphtide/graphtide/rdf/CharClassesIsPnCharsBasePinLaw", "inside", "([II)Z"⟩ : MethodName)) hown (mvT hZ (hw _ (List.mem_of_getElem? (i := 20) rfl))) (mvT hZ (hw _ (List.mem_of_getElem? (i := 21) rfl))) (mvT hZ (hw _ (List.mem_of_getElem? (i := 2) rfl))) (mvT hZ (hw _ (List.mem_of_getElem? (i := 22) rfl))) (by decide) (backOf (W := 1) (rmIns l Z a0 hw [] bb1 pp kl1 (T1.heap) n0 Z1 V_bb1) hZ (hw _ (List.mem_of_getElem? (i := 22) rfl)) (hw _ (List.mem_of_getElem? (i := 2) rfl)) (by decide) (by decide)) (g := (mkF m 48 #[.val (.int p0), .val (.int p1), .val (.int p2), .val (.ref bb1), .val (.int pp), .val (.int (1 : Int32)), .unset] [(.int pp), (.ref bb1), (.int zz5)])) rfl (by rw [hml]; rfl) (argsL := [(.ref bb1), (.int pp)]) (rest := [(.int zz5)]) (lenOf pd_3 rfl) rfl (by show 2 * 0 + _ ≤ _; exact Nat.le_of_eq rfl) (hb hby at_48) (fun _ _ => ⟨rfl, eT5t, (by decide : 1 + 0 ≤ _), (by decide : 28 + 0 ≤ _)⟩)
  dsimp only [Pt.U, Pt.locs, Pt.cells, Pt.slots] at X6 l6 y6 z6 st6 hQ6
  replace y6 : k6 = 1 := y6
  replace z6 : n6 = 28 := z6
  subst l6 y6 z6
  refine own_go st6 ?_
  obtain ⟨zz6, rfl, hzz6, N6q, eh6⟩ := hQ6
  have N6 := Fr.app N5t N6q
  show own_Ends p e below T6 (mkF m 51 #[.val (.int p0), .val (.int p1), .val (.int p2), .val (.ref bb1), .val (.int pp), .val (.int (1 : Int32)), .unset] [(.int zz6), (.int zz5)]) _
  suffices Jt6 : ∀ (T_ : State) (L_ : List Loc), Stand p l e room_1 s m #[(.int p0), (.int p1), (.int p2)] below meth c T_ L_ 1 28 → T_.heap = T1.heap → Fr n0 L_ → own_Ends p e below T_ (mkF m 51 #[.val (.int p0), .val (.int p1), .val (.int p2), .val (.ref bb1), .val (.int pp), .val (.int (1 : Int32)), .unset] [(.int zz6), (.int zz5)]) (fun ou U' => ∃ v L, ou = .returned v ∧ Q_rm0 Z p0 p1 p2 h0 n0 v U'.heap L ∧ FrameEnd s ou U' L room_1.cells room_1.slots) from Jt6 _ _ X6 eh6 N6
  clear st6 X6 N6 N6q eh6
  try clear Lc6
  try clear T6
  try clear N5t
  try clear eT5t
  try clear X5t
  try clear L5t
  try clear T5t
  intro T6t L6t X6t eT6t N6t
  refine own_go (fun _ => XS.icmpNo X6t.here hx rfl (hb hby at_51) rfl (teq (show zz5 = zz6 from own_eq hzz5 hzz6 (own_same _))).2) ?_
  show own_Ends p e below T6t (mkF m 54 #[.val (.int p0), .val (.int p1), .val (.int p2), .val (.ref bb1), .val (.int pp), .val (.int (1 : Int32)), .unset] []) _
  refine own_go (fun _ => XS.iconst X6t.here hx rfl (hb hby at_54)) ?_
  show own_Ends p e below T6t (mkF m 55 #[.val (.int p0), .val (.int p1), .val (.int p2), .val (.ref bb1), .val (.int pp), .val (.int (1 : Int32)), .unset] [(.int (1 : Int32))]) _
  refine own_go (fun _ => XS.goto X6t.here hx rfl (pc0 := 55) (pc' := 59) rfl (hb hby at_55) (by decide) (by decide)) ?_
  show own_Ends p e below T6t (mkF m 59 #[.val (.int p0), .val (.int p1), .val (.int p2), .val (.ref bb1), .val (.int pp), .val (.int (1 : Int32)), .unset] [(.int (1 : Int32))]) _
  refine own_go (fun _ => XS.istore X6t.here hx rfl (hb hby at_59) rfl (l' := #[.val (.int p0), .val (.int p1), .val (.int p2), .val (.ref bb1), .val (.int pp), .val (.int (1 : Int32)), .val (.int (1 : Int32))]) rfl) ?_
  show own_Ends p e below T6t (mkF m 61 #[.val (.int p0), .val (.int p1), .val (.int p2), .val (.ref bb1), .val (.int pp), .val (.int (1 : Int32)), .val (.int (1 : Int32))] []) _
  refine own_go (fun _ => XS.iload X6t.here hx rfl (hb hby at_61) rfl) ?_
  show own_Ends p e below T6t (mkF m 63 #[.val (.int p0), .val (.int p1), .val (.int p2), .val (.ref bb1), .val (.int pp), .val (.int (1 : Int32)), .val (.int (1 : Int32))] [(.int (1 : Int32))]) _
  refine own_go (fun _ => XS.ifNo X6t.here hx rfl (hb hby at_63) rfl ((if0 _ _).trans (feq (show ¬ ((1 : Int32) = (0 : Int32)) from by decide)).1)) ?_
  show own_Ends p e below T6t (mkF m 66 #[.val (.int p0), .val (.int p1), .val (.int p2), .val (.ref bb1), .val (.int pp), .val (.int (1 : Int32)), .val (.int (1 : Int32))] []) _
  refine own_go (fun _ => XS.iload X6t.here hx rfl (hb hby at_66) rfl) ?_
  show own_Ends p e below T6t (mkF m 68 #[.val (.int p0), .val (.int p1), .val (.int p2), .val (.ref bb1), .val (.int pp), .val (.int (1 : Int32)), .val (.int (1 : Int32))] [(.int (1 : Int32))]) _
  refine own_go (fun _ => XS.ifNo X6t.here hx rfl (hb hby at_68) rfl ((if0 _ _).trans (feq (show ¬ ((1 : Int32) = (0 : Int32)) from by decide)).1)) ?_
  show own_Ends p e below T6t (mkF m 71 #[.val (.int p0), .val (.int p1), .val (.int p2), .val (.ref bb1), .val (.int pp), .val (.int (1 : Int32)), .val (.int (1 : Int32))] []) _
  refine own_go (fun _ => XS.iconst X6t.here hx rfl (hb hby at_71)) ?_
  show own_Ends p e below T6t (mkF m 72 #[.val (.int p0), .val (.int p1), .val (.int p2), .val (.ref bb1), .val (.int pp), .val (.int (1 : Int32)), .val (.int (1 : Int32))] [(.int (1 : Int32))]) _
  refine own_go (fun _ => XS.goto X6t.here hx rfl (pc0 := 72) (pc' := 76) rfl (hb hby at_72) (by decide) (by decide)) ?_
  show own_Ends p e below T6t (mkF m 76 #[.val (.int p0), .val (.int p1), .val (.int p2), .val (.ref bb1), .val (.int pp), .val (.int (1 : Int32)), .val (.int (1 : Int32))] [(.int (1 : Int32))]) _
  obtain ⟨fs, hr, hrun, hended, hW, hsame⟩ := X6t.leave (v := some (.int (1 : Int32))) (fun h => by rw [Bd.returns] at h; cases h)
  refine ⟨_, _, retN X6t hx (t := .boolean) Bd.returns (by simp) (hb hby at_76) hr, hrun, hended, _, _, rfl, ?_, ⟨_, rfl⟩, hW, hsame.mono (by decide) (by decide)⟩
  show Q_rm0 Z p0 p1 p2 h0 n0 _ T6t.heap _
  rw [eT6t]
  exact ⟨rfl, N6t⟩
set_option maxRecDepth 65536 in
set_option maxHeartbeats 40000000 in
theorem comes_1 {Post : Tables → Env → Array Value → State → Outcome → State → Prop} (hpost : ∀ tb e args s v u, (limb_1_1.after args s (.returned v) u = true ∧ limb_1_2.after args s (.returned v) u = true ∧ True) → FrameEnd s (.returned v) u (Jvm.fieldLocs frame_1_writes args s ++ Jvm.arrayLocs frame_1_arrays args s ++ Jvm.staticLocs frame_1_statics s) 16 128 → Post tb e args s (.returned v) u) :
    ArmFor flags0 classFile x code maxLocals ret World_1 tables_1 room_1 Calls_1 rest_1 Pre_1 Post := by
  intro l hfl _ _ p e ha hc hk s m args below hf hA hF happ hP
  obtain ⟨hcalls, hrest, hpre⟩ := hP
  obtain ⟨-, -, -, hnamed, -, -, -, hat⟩ := (Spec.applies_iff hf).mp happ
  obtain ⟨hg, hn⟩ := and_e (Cond.before_iff.mp (show (Jvm.Cond.and given_1 narrow_1).before args s = true from hpre))
  obtain ⟨gv1, gv2⟩ := and_e hg
  obtain ⟨gv3, gv4⟩ := and_e gv2
  obtain ⟨gv5, gv6⟩ := and_e gv4
  obtain ⟨w0, w1, w2, rfl⟩ : ∃ w0 w1 w2 : Value, args = #[w0, w1, w2] := by
    have hs : args.size = 3 := by simpa [Cond.value, given_1] using gv1
    obtain ⟨L⟩ := args
    match L, hs with
    | [w0, w1, w2], _ => exact ⟨w0, w1, w2, rfl⟩
  have hw := fun d (hd : d ∈ tables_1) => atoms_spec (ws := Jvm.Cond.code x code maxLocals ret :: tables_1) hat d (List.mem_cons_of_mem _ hd)
  obtain ⟨i0, ei0⟩ := is_v gv3
  obtain rfl : w0 = (.int i0) := Option.some.inj ei0
  obtain ⟨i1, ei1⟩ := is_v gv5
  obtain rfl : w1 = (.int i1) := Option.some.inj ei1
  obtain ⟨i2, ei2⟩ := is_v gv6
  obtain rfl : w2 = (.int i2) := Option.some.inj ei2
  obtain ⟨n, o, h1, h2, h3, _, L, rfl, ⟨rfl, N⟩, hq⟩ := rm0 l s _ hw tables_1 i0 i1 i2 s.heap s.heap.size (Nat.le_refl _) p e ha hc hk s m _ below hf ((Spec.applies_iff_loose hf).mp happ).1 ⟨rfl, State.Warmed39.refl s, rfl⟩ trivial
  refine ⟨n, _, h1, h2, h3, hpost _ _ _ _ _ _ ⟨Cond.after_iff.mpr rfl, Cond.after_iff.mpr (eq_i res_at (Term.int_eval (1)) rfl), trivial⟩ ⟨hq.1, hq.2.1, (hq.2.2.sift fun y hy => Or.inr (N y hy)).mono (by decide) (by decide)⟩⟩
theorem main_1_1 : Claimed_1_1 := comes_1 fun _ _ _ _ _ _ h hF => ⟨h.1, hF⟩
theorem main_1_2 : Claimed_1_2 := comes_1 fun _ _ _ _ _ _ h hF => ⟨h.2.1, hF⟩
end Jvm.Pilot.@@N@@
namespace Jvm.Pilot.@@N@@
open Jvm Jvm.ClassFile Sem Op Lib Jvm.Free Jvm.Stand Jvm.Pilot.@@N@@.Jvm.D
/-! MADE BY PROGRAM (witnessworld.py) out of the Statement's table words and the real class files: 9 classes; the members and pool entries that the words name. The judged class is class 1, her method 1. -/
namespace start1
open Jvm.ClassFile
def u (s : String) : CpInfo := .utf8 (stringToUtf16 s)
/-- a pool by its gaps: so many unusable entries, then the entry; so many at the end -/
def gap : Nat → List CpInfo → List CpInfo
  | 0, r => r
  | n + 1, r => .unusable :: gap n r
def poolList (es : List (Nat × CpInfo)) (last : Nat) : List CpInfo := es.foldr (fun e r => gap e.1 (e.2 :: r)) (gap last [])
def pool (es : List (Nat × CpInfo)) (last : Nat) : Array CpInfo := ⟨poolList es last⟩
def fileOf (pool : Array CpInfo) (this : Nat) (attrs : Array Attribute := #[]) (ms : Array MethodInfo := #[]) (fl : Nat := 33) (sup : Nat := 0) (ifs : Array Nat := #[]) (fds : Array FieldInfo := #[]) : ClassFile where
  minorVersion := 0
  majorVersion := 65
  constantPool := pool
  accessFlags := fl
  thisClass := this
  superClass := sup
  interfaces := ifs
  fields := fds
  methods := ms
  attributes := attrs
def plain (name : String) (sup : Option ClassId) : Class where
  name := name
  kind := .ordinary
  loader := none
  accessFlags := 33
  super := sup
  interfaces := #[]
  cf := none
  fields := #[]
  methods := #[]
  instanceTypes := #[]
  staticTypes := #[]
  resolved := #[]
  callSites := []
  init := .initialized
  statics := none
  mirror := none

def pool0 : Array CpInfo := pool [(5, u "<init>"), (0, u "()V"), (1, .class_ 10), (1, u "java/lang/Object")] 113

def k0m0 : Method := { name := "<init>", desc := "()V", sig := { parameters := [], returnType := none }, accessFlags := 1, code := none }
/-- java/lang/Object -/
def k0 : Class := { plain "java/lang/Object" none with
  accessFlags := 33
  interfaces := #[]
  cf := some (fileOf pool0 8 #[] #[{ accessFlags := 1, nameIndex := 5, descriptorIndex := 6, attributes := #[] }] 33 0 #[] #[])
  fields := #[]
  methods := #[k0m0]
  instanceTypes := #[]
  staticTypes := #[]
  resolved := Array.replicate 124 none
  statics := none }

def pool1 : Array CpInfo := pool [(2, .class_ 4), (1, u "java/lang/Object"), (0, u "<init>"), (0, u "()V"), (0, .methodref 8 9), (0, .class_ 10), (0, .nameAndType 11 12), (0, u "com/example/graphtide/graphtide/rdf/CharClassesIsPnCharsBasePinLaw"), (0, u "bounds"), (0, u "()[I"), (0, .integer 2147483647), (0, .methodref 15 16), (0, .class_ 17), (0, .nameAndType 18 19), (0, u "com/example/graphtide/graphtide/rdf/CharClasses"), (0, u "isPnCharsBase"), (0, u "(I)Z"), (0, .methodref 8 21), (0, .nameAndType 22 23), (0, u "inside"), (0, u "([II)Z"), (0, .integer 55296), (0, .integer 63744), (0, .integer 64976), (0, .integer 65008), (0, .integer 65534), (0, .integer 65536), (0, .integer 983040), (0, .methodref 8 32), (0, .nameAndType 33 34), (0, u "ge"), (0, u "(II)I"), (2, u "law"), (0, u "(III)Z")] 5

def k1m0 : Method := { name := "<init>", desc := "()V", sig := { parameters := [], returnType := none }, accessFlags := 2, code := none }
def k1c1 : Code := { maxStack := 3, maxLocals := 7, code := code, exceptionTable := #[], attributes := #[] }
def k1m1 : Method := { name := "law", desc := "(III)Z", sig := { parameters := [.int, .int, .int], returnType := some .boolean }, accessFlags := 9, code := some k1c1 }
def k1c2 : Code := { maxStack := 4, maxLocals := 0, code := method_3_code, exceptionTable := #[], attributes := #[] }
def k1m2 : Method := { name := "bounds", desc := "()[I", sig := { parameters := [], returnType := some (.array .int) }, accessFlags := 10, code := some k1c2 }
def k1c3 : Code := { maxStack := 2, maxLocals := 2, code := method_4_code, exceptionTable := #[], attributes := #[] }
def k1m3 : Method := { name := "ge", desc := "(II)I", sig := { parameters := [.int, .int], returnType := some .int }, accessFlags := 10, code := some k1c3 }
def k1c4 : Code := { maxStack := 4, maxLocals := 3, code := method_5_code, exceptionTable := #[], attributes := #[] }
def k1m4 : Method := { name := "inside", desc := "([II)Z", sig := { parameters := [(.array .int), .int], returnType := some .boolean }, accessFlags := 10, code := some k1c4 }
/-- com/example/graphtide/graphtide/rdf/CharClassesIsPnCharsBasePinLaw -/
def k1 : Class := { plain "com/example/graphtide/graphtide/rdf/CharClassesIsPnCharsBasePinLaw" (some 0) with
  accessFlags := 49
  interfaces := #[]
  cf := some (fileOf pool1 8 #[] #[{ accessFlags := 2, nameIndex := 5, descriptorIndex := 6, attributes := #[] }, { accessFlags := 9, nameIndex := 37, descriptorIndex := 38, attributes := #[] }, { accessFlags := 10, nameIndex := 11, descriptorIndex := 12, attributes := #[] }, { accessFlags := 10, nameIndex := 33, descriptorIndex := 34, attributes := #[] }, { accessFlags := 10, nameIndex := 22, descriptorIndex := 23, attributes := #[] }] 49 2 #[] #[])
  fields := #[]
  methods := #[k1m0, k1m1, k1m2, k1m3, k1m4]
  instanceTypes := #[]
  staticTypes := #[]
  resolved := Array.replicate 44 none
  statics := none }

def pool2 : Array CpInfo := pool [(2, .class_ 4), (1, u "java/lang/Object"), (0, u "<init>"), (0, u "()V"), (22, .integer 55295), (0, .integer 63744), (0, .integer 64975), (0, .integer 65008), (0, .integer 65533), (0, .integer 65536), (0, .integer 983039), (1, .class_ 39), (1, u "com/example/graphtide/graphtide/rdf/CharClasses"), (0, u "isPnCharsBase"), (0, u "(I)Z"), (14, u "UNKNOWN_STRING_ESCAPE"), (0, u "Ljava/lang/String;")] 34

def k2m0 : Method := { name := "<init>", desc := "()V", sig := { parameters := [], returnType := none }, accessFlags := 2, code := none }
def k2c1 : Code := { maxStack := 2, maxLocals := 1, code := prog_19_method_6_code, exceptionTable := #[], attributes := #[] }
def k2m1 : Method := { name := "isPnCharsBase", desc := "(I)Z", sig := { parameters := [.int], returnType := some .boolean }, accessFlags := 9, code := some k2c1 }
/-- com/example/graphtide/graphtide/rdf/CharClasses -/
def k2 : Class := { plain "com/example/graphtide/graphtide/rdf/CharClasses" (some 0) with
  accessFlags := 49
  interfaces := #[]
  cf := some (fileOf pool2 37 #[] #[{ accessFlags := 2, nameIndex := 5, descriptorIndex := 6, attributes := #[] }, { accessFlags := 9, nameIndex := 40, descriptorIndex := 41, attributes := #[] }] 49 2 #[] #[{ accessFlags := 25, nameIndex := 56, descriptorIndex := 57, attributes := #[] }])
  fields := #[{ name := "UNKNOWN_STRING_ESCAPE", type := (.object "java/lang/String"), accessFlags := 25, slot := 0, constantValue := 0 }]
  methods := #[k2m0, k2m1]
  instanceTypes := #[]
  staticTypes := #[(.object "java/lang/String")]
  resolved := Array.replicate 92 none
  statics := none }

def pool3 : Array CpInfo := pool [(1, u "java/lang/Cloneable"), (0, .class_ 1), (0, u "java/lang/Object"), (0, .class_ 3)] 3

/-- java/lang/Cloneable -/
def k3 : Class := { plain "java/lang/Cloneable" (some 0) with
  accessFlags := 1537
  interfaces := #[]
  cf := some (fileOf pool3 2 #[] #[] 1537 4 #[] #[])
  fields := #[]
  methods := #[]
  instanceTypes := #[]
  staticTypes := #[]
  resolved := Array.replicate 8 none
  statics := none }

def pool4 : Array CpInfo := pool [(1, u "java/io/Serializable"), (0, .class_ 1), (0, u "java/lang/Object"), (0, .class_ 3)] 3

/-- java/io/Serializable -/
def k4 : Class := { plain "java/io/Serializable" (some 0) with
  accessFlags := 1537
  interfaces := #[]
  cf := some (fileOf pool4 2 #[] #[] 1537 4 #[] #[])
  fields := #[]
  methods := #[]
  instanceTypes := #[]
  staticTypes := #[]
  resolved := Array.replicate 8 none
  statics := none }

/-- the primitive byte -/
def k5 : Class := { plain "byte" none with kind := .primitive 'B', accessFlags := 0x411 }
/-- [B -/
def k6 : Class := { plain "[B" (some 0) with kind := .array 5 .byte, interfaces := #[3, 4], accessFlags := 1041 }

/-- the primitive int -/
def k7 : Class := { plain "int" none with kind := .primitive 'I', accessFlags := 0x411 }
/-- [I -/
def k8 : Class := { plain "[I" (some 0) with kind := .array 7 .int, interfaces := #[3, 4], accessFlags := 1041 }

def heap : Heap := #[]
def classes : Array Class := #[k0, k1, k2, k3, k4, k5, k6, k7, k8]
def interned : List (Array UInt16 × Addr) := []
def slotsUsed : Nat := 0
def theMethod : MethodId := ⟨1, 1⟩
def args0 : Array Value := #[.int 5, .int 40, .int 2]
def aboutOver (below : List Frame) : State where
  vm := { classes := classes, interned := interned.toArray }
  heap := heap
  slotsUsed := slotsUsed
  threads := #[{ frames := .invoking theMethod args0 :: below }]
def below0 : List Frame := [.native { method := ⟨0, 0⟩, args := #[] }]
def about1 : State := aboutOver below0
def p0 : Program := .bare "" "" ""
def e0 : Env := launch0.env 0 0 0
theorem w_frames : about1.frames = Frame.invoking theMethod args0 :: below0 := rfl
set_option maxRecDepth 65536 in
theorem w_args : argsFit about1.vm theMethod args0 = true := by decide +kernel
set_option maxRecDepth 65536 in
theorem w_heap : heapFits about1 = true := by decide +kernel
set_option maxRecDepth 65536 in
theorem w_runnable : about1.curStatus? = some .runnable := by decide +kernel
set_option maxRecDepth 65536 in
theorem w_alone : about1.alone = true := by decide +kernel
set_option maxRecDepth 65536 in
theorem w_named : about1.methodNamed? x = some theMethod := by decide +kernel
set_option maxRecDepth 65536 in
theorem w_hears : about1.hears theMethod below0 = true := by decide +kernel
set_option maxRecDepth 65536 in
theorem w_ripe : about1.ripe theMethod args0 below0 = true := by decide +kernel
theorem w_running : about1.status = .running := rfl
set_option maxRecDepth 65536 in
theorem w_room : about1.hasRoom e0.platform room_1 = true :=
  launch0.hasRoom_least _ room_1 (by decide +kernel) (by decide +kernel) (by decide +kernel) (by decide +kernel) (by decide +kernel) (by decide +kernel)
theorem allAtoms_all (ts : List Jvm.Cond) (a : Array Jvm.Value) (st : Jvm.State) : (allAtoms ts).before a st = ts.all (fun c => c.before a st) := by
  induction ts with
  | nil => rfl
  | cons c t ih =>
    show (Jvm.Cond.and c (allAtoms t)).before a st = _
    rw [Jvm.Cond.before_and, ih, List.all_cons]
def words1 : List Jvm.Cond := Jvm.Cond.code x code maxLocals ret :: tables_1
/-- a 'code' word, met by the world's own term for the bytes: nothing is compared byte by byte -/
theorem code_word {y : MethodName} {bytes : ByteArray} {mx : Nat} {rt : Option FieldType} {a : Array Value} {s : State} {m : MethodId} {meth : Method} {c : Code} (h1 : s.methodNamed? y = some m) (h2 : s.vm.method? m = some meth) (h3 : meth.code = some c) (h4 : c.code = bytes)
    (h5 : (c.maxLocals == mx && c.exceptionTable.isEmpty && decide (c.maxStack ≤ mostOperands) && decide (meth.sig.returnType = rt) && !meth.locks && decide (parseMethodDescriptor y.desc = some meth.sig)) = true) : (Jvm.Cond.code y bytes mx rt).before a s = true := by
  simp only [Bool.and_eq_true, beq_iff_eq, Bool.not_eq_true', decide_eq_true_eq] at h5
  obtain ⟨⟨⟨⟨⟨g1, g2⟩, g3⟩, g4⟩, g5⟩, g6⟩ := h5
  simp [Cond.before, Cond.holds, Cond.value, h1, h2, h3, h4, g1, g2, g3, g4, g5, g6]
def isCode : Jvm.Cond → Bool
  | .code _ _ _ _ => true
  | _ => false
theorem all_split {L : List Jvm.Cond} {P : Jvm.Cond → Bool} (h1 : L.all (fun c => isCode c || P c) = true) (h2 : ∀ c ∈ L.filter isCode, P c = true) : L.all P = true := by
  refine List.all_eq_true.mpr fun c hc => ?_
  have h := List.all_eq_true.mp h1 c hc
  rcases Bool.eq_false_or_eq_true (isCode c) with hi | hi
  · exact h2 c (List.mem_filter.mpr ⟨hc, hi⟩)
  · simpa [hi] using h
set_option maxRecDepth 65536 in
theorem w_c0 : (Jvm.Cond.code x code maxLocals ret).before args0 about1 = true := code_word (m := ⟨1, 1⟩) (meth := k1m1) (c := k1c1) (by decide +kernel) rfl rfl rfl (by decide +kernel)
set_option maxRecDepth 65536 in
theorem w_c1 : (Jvm.Cond.code ({ cls := "com/example/graphtide/graphtide/rdf/CharClassesIsPnCharsBasePinLaw", name := "bounds", desc := "()[I" } : Jvm.MethodName) method_3_code (0 : Nat) (Option.some (Jvm.ClassFile.FieldType.array Jvm.ClassFile.FieldType.int))).before args0 about1 = true := code_word (m := ⟨1, 2⟩) (meth := k1m2) (c := k1c2) (by decide +kernel) rfl rfl rfl (by decide +kernel)
set_option maxRecDepth 65536 in
theorem w_c2 : (Jvm.Cond.code ({ cls := "com/example/graphtide/graphtide/rdf/CharClasses", name := "isPnCharsBase", desc := "(I)Z" } : Jvm.MethodName) prog_19_method_6_code (1 : Nat) (Option.some Jvm.ClassFile.FieldType.boolean)).before args0 about1 = true := code_word (m := ⟨2, 1⟩) (meth := k2m1) (c := k2c1) (by decide +kernel) rfl rfl rfl (by decide +kernel)
set_option maxRecDepth 65536 in
theorem w_c3 : (Jvm.Cond.code ({ cls := "com/example/graphtide/graphtide/rdf/CharClassesIsPnCharsBasePinLaw", name := "inside", desc := "([II)Z" } : Jvm.MethodName) method_5_code (3 : Nat) (Option.some Jvm.ClassFile.FieldType.boolean)).before args0 about1 = true := code_word (m := ⟨1, 4⟩) (meth := k1m4) (c := k1c4) (by decide +kernel) rfl rfl rfl (by decide +kernel)
set_option maxRecDepth 65536 in
theorem w_c4 : (Jvm.Cond.code ({ cls := "com/example/graphtide/graphtide/rdf/CharClassesIsPnCharsBasePinLaw", name := "ge", desc := "(II)I" } : Jvm.MethodName) method_4_code (2 : Nat) (Option.some Jvm.ClassFile.FieldType.int)).before args0 about1 = true := code_word (m := ⟨1, 3⟩) (meth := k1m3) (c := k1c3) (by decide +kernel) rfl rfl rfl (by decide +kernel)
def codes1 : List Jvm.Cond := [Jvm.Cond.code x code maxLocals ret, Jvm.Cond.code ({ cls := "com/example/graphtide/graphtide/rdf/CharClassesIsPnCharsBasePinLaw", name := "bounds", desc := "()[I" } : Jvm.MethodName) method_3_code (0 : Nat) (Option.some (Jvm.ClassFile.FieldType.array Jvm.ClassFile.FieldType.int)), Jvm.Cond.code ({ cls := "com/example/graphtide/graphtide/rdf/CharClasses", name := "isPnCharsBase", desc := "(I)Z" } : Jvm.MethodName) prog_19_method_6_code (1 : Nat) (Option.some Jvm.ClassFile.FieldType.boolean), Jvm.Cond.code ({ cls := "com/example/graphtide/graphtide/rdf/CharClassesIsPnCharsBasePinLaw", name := "inside", desc := "([II)Z" } : Jvm.MethodName) method_5_code (3 : Nat) (Option.some Jvm.ClassFile.FieldType.boolean), Jvm.Cond.code ({ cls := "com/example/graphtide/graphtide/rdf/CharClassesIsPnCharsBasePinLaw", name := "ge", desc := "(II)I" } : Jvm.MethodName) method_4_code (2 : Nat) (Option.some Jvm.ClassFile.FieldType.int)]
set_option maxRecDepth 65536 in
theorem codes_eq : words1.filter isCode = codes1 := rfl
theorem w_codes : ∀ c ∈ words1.filter isCode, c.before args0 about1 = true := by
  rw [codes_eq]
  intro c hc
  simp only [codes1, List.mem_cons, List.not_mem_nil, or_false] at hc
  rcases hc with rfl | rfl | rfl | rfl | rfl
  · exact w_c0
  · exact w_c1
  · exact w_c2
  · exact w_c3
  · exact w_c4
set_option maxRecDepth 65536 in
theorem w_t1 : (words1.take 24).all (fun c => isCode c || c.before args0 about1) = true := by decide +kernel
set_option maxRecDepth 65536 in
theorem w_t2 : (words1.drop 24).all (fun c => isCode c || c.before args0 about1) = true := by decide +kernel
theorem w_tables : (allAtoms (Jvm.Cond.code x code maxLocals ret :: tables_1)).before args0 about1 = true := by
  rw [allAtoms_all]
  show words1.all (fun c => c.before args0 about1) = true
  refine all_split ?_ w_codes
  rw [← List.take_append_drop 24 words1, List.all_append, w_t1, w_t2]
  rfl
set_option maxRecDepth 65536 in
theorem w_case : (Jvm.Cond.and given_1 narrow_1).before args0 about1 = true := by decide +kernel
theorem w_applies : (headSpec (Jvm.Cond.code x code maxLocals ret :: tables_1) room_1).applies x e0.platform about1 = true :=
  (Spec.applies_iff w_frames).mpr ⟨w_running, w_runnable, w_alone, w_named, w_hears, w_ripe, w_room, w_tables⟩
theorem atStart : AtStart classFile x code maxLocals ret World_1 tables_1 room_1 Calls_1 rest_1 Pre_1 launch0 p0 e0 about1 theMethod args0 below0 :=
  ⟨lists_1, trivial, launch0.admits_env _ _ _, launch0.least_env, fairChoices_fair.cas, fairChoices_fair.clock, w_frames, w_args, w_heap, w_applies, trivial, trivial, w_case⟩
end start1
theorem witness_1 : WitnessClaimed_1 := ⟨start1.p0, start1.e0, start1.about1, start1.theMethod, start1.args0, start1.below0, start1.atStart⟩
end Jvm.Pilot.@@N@@
