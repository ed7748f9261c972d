import JvmDerived
import JvmDerived.Pilot.@@N@@Statement
import JvmDerived.Pilot.@@N@@Code
set_option linter.unusedVariables false
set_option linter.unusedSimpArgs false
namespace Jvm.RoadKit
open Sem ClassFile Op Lib Jvm.Stand Jvm.Free Jvm.LawKit
section New
variable {p : Program} {l : Launch} {e : Env} {R : Room} {s : State} {m : MethodId} {args : Array Value} {below : List Frame} {meth : Method} {c : Code} {T : State} {locs : List Loc} {cells slots : Nat}
theorem retI (X : Stand p l e R s m args below meth c T locs cells slots) (hx : p.tables.exec = Jvm.exec) {pc : Nat} {Ls : Array Slot} {z : Int32} {rest : List Value} (hret : meth.sig.returnType = some .int) (hd : decode c.code pc = .ok (.ireturn, 1)) {fs : List Frame}
    (hl : ∀ (f : JFrame) (acts : List Action), f.method = m → f.locked = none → f.entered = [] → (doReturn e (T.setTop f) acts (some (.int z))).1 = T.setFrames fs) : Steps p.tables e below (T.setTop (mkF m pc Ls (.int z :: rest))) (T.setFrames fs) := by
  have hm' : T.vm.method? m = some meth := X.method'
  have hn : narrow .int (.int z) = .int z := rfl
  show Steps p.tables e below (T.setTop { method := m, pc := pc, locals := Ls, stack := _ :: rest, locked := none }) _
  jvm_step X.here [X.here.top, hx, hd, hm', hret, hn]
  first | (intro acts; rw [hl _ acts rfl rfl rfl]) | rw [hl _ _ rfl rfl rfl]
  exact Steps.refl _
end New
end Jvm.RoadKit
namespace Jvm.Pilot.@@N@@
open Jvm Jvm.ClassFile Sem Op Lib Jvm.Free Jvm.Stand Jvm.LawKit Jvm.RoadKit Bundle Jvm.Pilot.@@N@@.Jvm.D
def own_Ends (p : Program) (e : Env) (below : List Frame) (T : State) (g : JFrame) (P : Outcome → State → Prop) : Prop := ∃ s₂ o, Steps p.tables e below (T.setTop g) s₂ ∧ s₂.status = .running ∧ Ended s₂ below o ∧ P o s₂
theorem own_go {p : Program} {e : Env} {below : List Frame} {T T' : State} {g g' : JFrame} {P : Outcome → State → Prop} (h : ∀ t, Steps p.tables e below (T'.setTop g') t → Steps p.tables e below (T.setTop g) t) (k : own_Ends p e below T' g' P) : own_Ends p e below T g P := by
  obtain ⟨a, o, q, r⟩ := k
  exact ⟨a, o, h _ q, r⟩
def own_Len (Z : State) (h : Heap) (a : Addr) (ty : FieldType) (n : Int32) : Prop := ∃ c : Cell, Arr Z h a c ty ∧ c.slots.size = n.toNatClampNeg ∧ ¬ n < 0
theorem own_Len.lt {Z : State} {h : Heap} {a : Addr} {ty : FieldType} {n : Int32} (F : own_Len Z h a ty n) : a < h.size := by obtain ⟨c, A, -⟩ := F; exact A.lt
theorem own_Len.ext {Z : State} {h h' : Heap} {a : Addr} {ty : FieldType} {n : Int32} (F : own_Len Z h a ty n) (E : Ext h h') : own_Len Z h' a ty n := by obtain ⟨c, A, r⟩ := F; exact ⟨c, A.ext E, r⟩
theorem own_Len.other {Z : State} {h h' : Heap} {a b : Addr} {ty : FieldType} {n : Int32} {sl : Nat} {v : Value} (F : own_Len Z h b ty n) (W : Wr h h' a sl v) (q : b ≠ a) : own_Len Z h' b ty n := by obtain ⟨c, A, r⟩ := F; exact ⟨c, A.other W q, r⟩
theorem own_Len.same {Z : State} {h h' : Heap} {a : Addr} {ty : FieldType} {n : Int32} {sl : Nat} {v : Value} (F : own_Len Z h a ty n) (W : Wr h h' a sl v) : own_Len Z h' a ty n := by obtain ⟨c, A, r1, r2⟩ := F; exact ⟨_, A.same W, by rw [sz_set]; exact r1, r2⟩
theorem own_Len.keep {Z : State} {h h' : Heap} {a : Addr} {ty : FieldType} {n : Int32} {ws : List Addr} (F : own_Len Z h a ty n) (K : Keep h h' ws) (q : a ∉ ws) : own_Len Z h' a ty n := by obtain ⟨c, A, r⟩ := F; exact ⟨c, ⟨K.2.1 a c A.1 q, A.2⟩, r⟩
theorem own_as {p : Program} {e : Env} {below : List Frame} {T : State} {g g' : JFrame} {P : Outcome → State → Prop} (h : g = g') (k : own_Ends p e below T g' P) : own_Ends p e below T g P := h ▸ k

def own_times (a b : Int64) : Int64 := if a = (0 : Int64) then 0 else if b = (0 : Int64) then 0 else if ((9223372036854775807 : Int64) / b) < a then (9223372036854775807 : Int64) else a * b
theorem own_max : ((9223372036854775807 : Int64)).toInt = 9223372036854775807 := by decide
theorem own_zero : (0 : Int64).toInt = 0 := by decide
theorem own_nn (x : Int64) (q : Int32) : 0 ≤ (((x &&& (9223372036854775807 : Int64)).toUInt64 >>> (q &&& 0x3f).toInt64.toUInt64).toInt64).toInt := by
  have h := c_maskL x (9223372036854775807 : Int64) 63 (by decide) (by decide)
  generalize x &&& (9223372036854775807 : Int64) = y at h
  obtain ⟨k, hk⟩ : ∃ k, q.toBitVec.toNat % 64 = k := ⟨_, rfl⟩
  by_cases h0 : 0 < k
  · have h1 := c_lushr y q k hk h0
    rw [h1]
    exact Int.ediv_nonneg (by omega) (by exact Int.natCast_nonneg _)
  · have e : (q &&& 0x3f).toInt64.toUInt64 = 0 := by
      have h2 := (sm64 q k hk).1
      have h3 : k = 0 := by omega
      subst h3
      apply UInt64.toBitVec_inj.mp
      exact h2
    rw [e, UInt64.shiftRight_zero]
    show 0 ≤ y.toInt
    omega
theorem own_pos {a : Int64} (h : 0 ≤ a.toInt) (q : ¬ a = (0 : Int64)) : 0 < a.toInt := by
  have h1 : a.toInt ≠ 0 := fun e => q (Int64.toInt_inj.mp (by rw [e, own_zero]))
  omega
theorem own_div (c b : Int64) (hc : 0 ≤ c.toInt) (hb : 0 < b.toInt) : (c / b).toInt = c.toInt / b.toInt := by
  have q : b ≠ -1 := fun e => by rw [e] at hb; exact absurd hb (by decide)
  exact (c_ldiv c b b.toInt rfl q).1 hc
theorem own_mul {a b : Int64} (ha : 0 < a.toInt) (hb : 0 < b.toInt) (q : a.toInt ≤ 9223372036854775807 / b.toInt) : (a * b).toInt = a.toInt * b.toInt := by
  have h1 : a.toInt * b.toInt ≤ 9223372036854775807 := (Int.le_ediv_iff_mul_le hb).mp q
  have h2 : 0 < a.toInt * b.toInt := Int.mul_pos ha hb
  have h3 := c_lmul a b
  have r := rng64 (a * b)
  generalize a.toInt * b.toInt = P at h1 h2 h3
  omega
theorem own_sat {a b : Int64} (ha : 0 ≤ a.toInt) (hb : 0 ≤ b.toInt) (za : ¬ a = (0 : Int64)) (zb : ¬ b = (0 : Int64)) (q : (((9223372036854775807 : Int64) - (1 : Int64)) / b) < a) : own_times a b = (9223372036854775807 : Int64) := by
  have pa := own_pos ha za
  have pb := own_pos hb zb
  unfold own_times
  rw [if_neg za, if_neg zb]
  by_cases h : ((9223372036854775807 : Int64) / b) < a
  · rw [if_pos h]
  · rw [if_neg h]
    rw [Int64.lt_iff_toInt_lt] at h q
    have e9 : ((9223372036854775807 : Int64) - (1 : Int64)).toInt = 9223372036854775806 := by decide
    rw [own_div _ _ (by rw [own_max]; decide) pb, own_max] at h
    rw [own_div _ _ (by rw [e9]; decide) pb, e9] at q
    have m := own_mul pa pb (by omega)
    have h1 : a.toInt * b.toInt ≤ 9223372036854775807 := (Int.le_ediv_iff_mul_le pb).mp (by omega)
    have h2 : 9223372036854775806 < a.toInt * b.toInt := (Int.ediv_lt_iff_lt_mul pb).mp q
    apply Int64.toInt_inj.mp
    rw [m, own_max]
    omega
theorem own_uns {a b : Int64} (ha : 0 ≤ a.toInt) (hb : 0 ≤ b.toInt) (za : ¬ a = (0 : Int64)) (zb : ¬ b = (0 : Int64)) (q : ¬ (((9223372036854775807 : Int64) - (1 : Int64)) / b) < a) : own_times a b = a * b := by
  have pa := own_pos ha za
  have pb := own_pos hb zb
  unfold own_times
  rw [if_neg za, if_neg zb]
  have h : ¬ ((9223372036854775807 : Int64) / b) < a := by
    rw [Int64.lt_iff_toInt_lt] at q ⊢
    have e9 : ((9223372036854775807 : Int64) - (1 : Int64)).toInt = 9223372036854775806 := by decide
    rw [own_div _ _ (by rw [own_max]; decide) pb, own_max]
    rw [own_div _ _ (by rw [e9]; decide) pb, e9] at q
    have := Int.ediv_le_ediv pb (show (9223372036854775806 : Int) ≤ 9223372036854775807 by decide)
    omega
  rw [if_neg h]
theorem d1_0 : decode prog_31_method_5_code 0 = .ok (.lload_n 0, 1) := by decide +kernel
theorem d1_1 : decode prog_31_method_5_code 1 = .ok (.lconst 0, 1) := by decide +kernel
theorem d1_2 : decode prog_31_method_5_code 2 = .ok (.lcmp, 1) := by decide +kernel
theorem d1_3 : decode prog_31_method_5_code 3 = .ok (.ifCond .eq 9, 3) := by decide +kernel
theorem d1_6 : decode prog_31_method_5_code 6 = .ok (.lload_n 2, 1) := by decide +kernel
theorem d1_7 : decode prog_31_method_5_code 7 = .ok (.lconst 0, 1) := by decide +kernel
theorem d1_8 : decode prog_31_method_5_code 8 = .ok (.lcmp, 1) := by decide +kernel
theorem d1_9 : decode prog_31_method_5_code 9 = .ok (.ifCond .ne 7, 3) := by decide +kernel
theorem d1_12 : decode prog_31_method_5_code 12 = .ok (.lconst 0, 1) := by decide +kernel
theorem d1_13 : decode prog_31_method_5_code 13 = .ok (.goto 22, 3) := by decide +kernel
theorem d1_16 : decode prog_31_method_5_code 16 = .ok (.lload_n 0, 1) := by decide +kernel
theorem d1_17 : decode prog_31_method_5_code 17 = .ok (.ldc2_w 21, 3) := by decide +kernel
theorem d1_20 : decode prog_31_method_5_code 20 = .ok (.lload_n 2, 1) := by decide +kernel
theorem d1_21 : decode prog_31_method_5_code 21 = .ok (.ldiv, 1) := by decide +kernel
theorem d1_22 : decode prog_31_method_5_code 22 = .ok (.lcmp, 1) := by decide +kernel
theorem d1_23 : decode prog_31_method_5_code 23 = .ok (.ifCond .le 9, 3) := by decide +kernel
theorem d1_26 : decode prog_31_method_5_code 26 = .ok (.ldc2_w 21, 3) := by decide +kernel
theorem d1_29 : decode prog_31_method_5_code 29 = .ok (.goto 6, 3) := by decide +kernel
theorem d1_32 : decode prog_31_method_5_code 32 = .ok (.lload_n 0, 1) := by decide +kernel
theorem d1_33 : decode prog_31_method_5_code 33 = .ok (.lload_n 2, 1) := by decide +kernel
theorem d1_34 : decode prog_31_method_5_code 34 = .ok (.lmul, 1) := by decide +kernel
theorem d1_35 : decode prog_31_method_5_code 35 = .ok (.lreturn, 1) := by decide +kernel
theorem pn_1 : plainName "com/example/topic_contracts/topiccontracts/contract/RegexPart" = true := by first | (simp [plainName, overriddenIn]; done) | decide +kernel
theorem ef_1 (m : MethodId) (q0 : Int64) (q1 : Int64) : entryFrame m #[(.long q0), (.long q1)] 4 = mkF m 0 #[.val (.long q0), .second, .val (.long q1), .second] [] := by first | (simp [entryFrame, mkF, argsToLocals, Value.category]; done) | rfl
def Q_rm1 (Z : State) (q0 : Int64) (q1 : Int64) (h0 : Heap) (n0 : Nat) (v : Option Value) (h : Heap) (L : List Loc) : Prop := v = some (.long (own_times q0 q1)) ∧ Fr n0 L ∧ h = h0
set_option maxRecDepth 65536 in
set_option maxHeartbeats 40000000 in
theorem rm1 (l : Launch) (Z : State) (a0 : Array Value) (hw : ∀ d ∈ tables_1, d.before a0 Z = true) (ws : List Jvm.Cond) (q0 : Int64) (q1 : Int64) (h0 : Heap) (n0 : Nat) (Z0 : n0 ≤ h0.size) :
    MetFree l (⟨"com/example/topic_contracts/topiccontracts/contract/RegexPart", "times", "(JJ)J"⟩ : MethodName) (head1 (Jvm.Cond.code (⟨"com/example/topic_contracts/topiccontracts/contract/RegexPart", "times", "(JJ)J"⟩ : MethodName) prog_31_method_5_code 4 (some .long) :: ws) ({ frames := 0, cells := 0, slots := 0, locals := 0 } : Room)) (fun a U => a = #[(.long q0), (.long q1)] ∧ Z.Warmed39 U.vm ∧ U.heap = h0) (fun _ _ _ _ _ => True) (fun _ U ou U' => ∃ v L, ou = .returned v ∧ Q_rm1 Z q0 q1 h0 n0 v U'.heap L ∧ FrameEnd U ou U' L ({ frames := 0, cells := 0, slots := 0, locals := 0 } : Room).cells ({ frames := 0, cells := 0, slots := 0, locals := 0 } : Room).slots) := by
  refine MetFree.of_bodySF (plainFor_of_name pn_1) hisR ?_
  intro p e s m args below meth c s₁ Bd hml0 hP hK
  obtain ⟨rfl, hZ, hh⟩ := hP
  have hx := Bd.exec
  have hby := Bd.bytes
  have hml : c.maxLocals = 4 := hml0
  have hown : s.vm.findClass "com/example/topic_contracts/topiccontracts/contract/RegexPart" = some m.cls := findClass_of_methodNamed Bd.named
  have hnm := (name_of_methodNamed Bd.named Bd.method).1
  have X0 : Stand p l e ({ frames := 0, cells := 0, slots := 0, locals := 0 } : Room) s m #[(.long q0), (.long q1)] below meth c s₁ [] 0 0 := Stand.of_body Bd
  have e0 : s₁.heap = h0 := by rw [← hh, Bd.state]; rfl
  have N0 := Fr.nil n0
  have K0 := Keep.refl h0 []
  refine own_as (ef_1 m q0 q1) ?_
  show own_Ends p e below s₁ (mkF m 0 #[.val (.long q0), .second, .val (.long q1), .second] []) _
  refine own_go (fun _ => XS.lloadN X0.here hx rfl (hb hby d1_0) rfl) ?_
  show own_Ends p e below s₁ (mkF m 1 #[.val (.long q0), .second, .val (.long q1), .second] [(.long q0)]) _
  refine own_go (fun _ => XS.lconst X0.here hx rfl (hb hby d1_1)) ?_
  show own_Ends p e below s₁ (mkF m 2 #[.val (.long q0), .second, .val (.long q1), .second] [(.long (0 : Int64)), (.long q0)]) _
  refine own_go (fun _ => XS.lcmp X0.here hx rfl (hb hby d1_2) rfl) ?_
  show own_Ends p e below s₁ (mkF m 3 #[.val (.long q0), .second, .val (.long q1), .second] [(.int (lcmpW q0 (0 : Int64)))]) _
  by_cases hc3 : q0 = (0 : Int64)
  · refine own_go (fun _ => XS.ifYes X0.here hx rfl (pc0 := 3) (pc' := 12) rfl (hb hby d1_3) rfl ((if0 _ _).trans (teq ((lw_eq q0 (0 : Int64)).mpr hc3)).1) (by decide) (by decide)) ?_
    show own_Ends p e below s₁ (mkF m 12 #[.val (.long q0), .second, .val (.long q1), .second] []) _
    refine own_go (fun _ => XS.lconst X0.here hx rfl (hb hby d1_12)) ?_
    show own_Ends p e below s₁ (mkF m 13 #[.val (.long q0), .second, .val (.long q1), .second] [(.long (0 : Int64))]) _
    refine own_go (fun _ => XS.goto X0.here hx rfl (pc0 := 13) (pc' := 35) rfl (hb hby d1_13) (by decide) (by decide)) ?_
    show own_Ends p e below s₁ (mkF m 35 #[.val (.long q0), .second, .val (.long q1), .second] [(.long (0 : Int64))]) _
    obtain ⟨fs, hr, hrun, hended, hW, hsame⟩ := X0.leave (v := some (.long (0 : Int64))) (fun h => by rw [Bd.returns] at h; cases h)
    refine ⟨_, _, retOut X0 hx Bd.returns rfl (Or.inr (Or.inl ⟨rfl, rfl, _, rfl⟩)) (hb hby d1_35) hr, hrun, hended, _, _, rfl, ?_, ⟨_, rfl⟩, hW, hsame.mono (by decide) (by decide)⟩
    show Q_rm1 Z q0 q1 h0 n0 _ s₁.heap _
    rw [e0]
    exact ⟨by simp [own_times, hc3], N0, rfl⟩
  · refine own_go (fun _ => XS.ifNo X0.here hx rfl (hb hby d1_3) rfl ((if0 _ _).trans (feq (fun q => hc3 ((lw_eq q0 (0 : Int64)).mp q))).1)) ?_
    show own_Ends p e below s₁ (mkF m 6 #[.val (.long q0), .second, .val (.long q1), .second] []) _
    refine own_go (fun _ => XS.lloadN X0.here hx rfl (hb hby d1_6) rfl) ?_
    show own_Ends p e below s₁ (mkF m 7 #[.val (.long q0), .second, .val (.long q1), .second] [(.long q1)]) _
    refine own_go (fun _ => XS.lconst X0.here hx rfl (hb hby d1_7)) ?_
    show own_Ends p e below s₁ (mkF m 8 #[.val (.long q0), .second, .val (.long q1), .second] [(.long (0 : Int64)), (.long q1)]) _
    refine own_go (fun _ => XS.lcmp X0.here hx rfl (hb hby d1_8) rfl) ?_
    show own_Ends p e below s₁ (mkF m 9 #[.val (.long q0), .second, .val (.long q1), .second] [(.int (lcmpW q1 (0 : Int64)))]) _
    by_cases hc9 : q1 = (0 : Int64)
    · refine own_go (fun _ => XS.ifNo X0.here hx rfl (hb hby d1_9) rfl ((if0 _ _).trans (teq ((lw_eq q1 (0 : Int64)).mpr hc9)).2)) ?_
      show own_Ends p e below s₁ (mkF m 12 #[.val (.long q0), .second, .val (.long q1), .second] []) _
      refine own_go (fun _ => XS.lconst X0.here hx rfl (hb hby d1_12)) ?_
      show own_Ends p e below s₁ (mkF m 13 #[.val (.long q0), .second, .val (.long q1), .second] [(.long (0 : Int64))]) _
      refine own_go (fun _ => XS.goto X0.here hx rfl (pc0 := 13) (pc' := 35) rfl (hb hby d1_13) (by decide) (by decide)) ?_
      show own_Ends p e below s₁ (mkF m 35 #[.val (.long q0), .second, .val (.long q1), .second] [(.long (0 : Int64))]) _
      obtain ⟨fs, hr, hrun, hended, hW, hsame⟩ := X0.leave (v := some (.long (0 : Int64))) (fun h => by rw [Bd.returns] at h; cases h)
      refine ⟨_, _, retOut X0 hx Bd.returns rfl (Or.inr (Or.inl ⟨rfl, rfl, _, rfl⟩)) (hb hby d1_35) hr, hrun, hended, _, _, rfl, ?_, ⟨_, rfl⟩, hW, hsame.mono (by decide) (by decide)⟩
      show Q_rm1 Z q0 q1 h0 n0 _ s₁.heap _
      rw [e0]
      exact ⟨by simp [own_times, hc3, hc9], N0, rfl⟩
    · refine own_go (fun _ => XS.ifYes X0.here hx rfl (pc0 := 9) (pc' := 16) rfl (hb hby d1_9) rfl ((if0 _ _).trans (feq (fun q => hc9 ((lw_eq q1 (0 : Int64)).mp q))).2) (by decide) (by decide)) ?_
      show own_Ends p e below s₁ (mkF m 16 #[.val (.long q0), .second, .val (.long q1), .second] []) _
      refine own_go (fun _ => XS.lloadN X0.here hx rfl (hb hby d1_16) rfl) ?_
      show own_Ends p e below s₁ (mkF m 17 #[.val (.long q0), .second, .val (.long q1), .second] [(.long q0)]) _
      refine own_go (X0.ldc2Long hx hown (mvT hZ (hw _ (List.mem_of_getElem? (i := 5) rfl))) (g := (mkF m 17 #[.val (.long q0), .second, .val (.long q1), .second] [(.long q0)])) rfl (hb hby d1_17)) ?_
      show own_Ends p e below s₁ (mkF m 20 #[.val (.long q0), .second, .val (.long q1), .second] [(.long (9223372036854775807 : Int64)), (.long q0)]) _
      refine own_go (fun _ => XS.lloadN X0.here hx rfl (hb hby d1_20) rfl) ?_
      show own_Ends p e below s₁ (mkF m 21 #[.val (.long q0), .second, .val (.long q1), .second] [(.long q1), (.long (9223372036854775807 : Int64)), (.long q0)]) _
      refine own_go (fun _ => XS.ldiv X0.here hx rfl (hb hby d1_21) rfl hc9) ?_
      show own_Ends p e below s₁ (mkF m 22 #[.val (.long q0), .second, .val (.long q1), .second] [(.long ((9223372036854775807 : Int64) / q1)), (.long q0)]) _
      refine own_go (fun _ => XS.lcmp X0.here hx rfl (hb hby d1_22) rfl) ?_
      show own_Ends p e below s₁ (mkF m 23 #[.val (.long q0), .second, .val (.long q1), .second] [(.int (lcmpW q0 ((9223372036854775807 : Int64) / q1)))]) _
      by_cases hc23 : ((9223372036854775807 : Int64) / q1) < q0
      · refine own_go (fun _ => XS.ifNo X0.here hx rfl (hb hby d1_23) rfl ((if0 _ _).trans (tlt ((lw_gt q0 ((9223372036854775807 : Int64) / q1)).mpr hc23)).2.2.2)) ?_
        show own_Ends p e below s₁ (mkF m 26 #[.val (.long q0), .second, .val (.long q1), .second] []) _
        refine own_go (X0.ldc2Long hx hown (mvT hZ (hw _ (List.mem_of_getElem? (i := 5) rfl))) (g := (mkF m 26 #[.val (.long q0), .second, .val (.long q1), .second] [])) rfl (hb hby d1_26)) ?_
        show own_Ends p e below s₁ (mkF m 29 #[.val (.long q0), .second, .val (.long q1), .second] [(.long (9223372036854775807 : Int64))]) _
        refine own_go (fun _ => XS.goto X0.here hx rfl (pc0 := 29) (pc' := 35) rfl (hb hby d1_29) (by decide) (by decide)) ?_
        show own_Ends p e below s₁ (mkF m 35 #[.val (.long q0), .second, .val (.long q1), .second] [(.long (9223372036854775807 : Int64))]) _
        obtain ⟨fs, hr, hrun, hended, hW, hsame⟩ := X0.leave (v := some (.long (9223372036854775807 : Int64))) (fun h => by rw [Bd.returns] at h; cases h)
        refine ⟨_, _, retOut X0 hx Bd.returns rfl (Or.inr (Or.inl ⟨rfl, rfl, _, rfl⟩)) (hb hby d1_35) hr, hrun, hended, _, _, rfl, ?_, ⟨_, rfl⟩, hW, hsame.mono (by decide) (by decide)⟩
        show Q_rm1 Z q0 q1 h0 n0 _ s₁.heap _
        rw [e0]
        exact ⟨by simp [own_times, hc3, hc9, hc23], N0, rfl⟩
      · refine own_go (fun _ => XS.ifYes X0.here hx rfl (pc0 := 23) (pc' := 32) rfl (hb hby d1_23) rfl ((if0 _ _).trans (flt (fun q => hc23 ((lw_gt q0 ((9223372036854775807 : Int64) / q1)).mp q))).2.2.2) (by decide) (by decide)) ?_
        show own_Ends p e below s₁ (mkF m 32 #[.val (.long q0), .second, .val (.long q1), .second] []) _
        refine own_go (fun _ => XS.lloadN X0.here hx rfl (hb hby d1_32) rfl) ?_
        show own_Ends p e below s₁ (mkF m 33 #[.val (.long q0), .second, .val (.long q1), .second] [(.long q0)]) _
        refine own_go (fun _ => XS.lloadN X0.here hx rfl (hb hby d1_33) rfl) ?_
        show own_Ends p e below s₁ (mkF m 34 #[.val (.long q0), .second, .val (.long q1), .second] [(.long q1), (.long q0)]) _
        refine own_go (fun _ => XS.lmul X0.here hx rfl (hb hby d1_34) rfl) ?_
        show own_Ends p e below s₁ (mkF m 35 #[.val (.long q0), .second, .val (.long q1), .second] [(.long (q0 * q1))]) _
        obtain ⟨fs, hr, hrun, hended, hW, hsame⟩ := X0.leave (v := some (.long (q0 * q1))) (fun h => by rw [Bd.returns] at h; cases h)
        refine ⟨_, _, retOut X0 hx Bd.returns rfl (Or.inr (Or.inl ⟨rfl, rfl, _, rfl⟩)) (hb hby d1_35) hr, hrun, hended, _, _, rfl, ?_, ⟨_, rfl⟩, hW, hsame.mono (by decide) (by decide)⟩
        show Q_rm1 Z q0 q1 h0 n0 _ s₁.heap _
        rw [e0]
        exact ⟨by simp [own_times, hc3, hc9, hc23], N0, rfl⟩
theorem pn_0 : plainName "com/example/topic_contracts/topiccontracts/contract/RegexPartTimesPinLaw" = true := by first | (simp [plainName, overriddenIn]; done) | decide +kernel
theorem ef_0 (m : MethodId) (q0 : Int64) (q1 : Int64) (p2 : Int32) (p3 : Int32) : entryFrame m #[(.long q0), (.long q1), (.int p2), (.int p3)] maxLocals = mkF m 0 #[.val (.long q0), .second, .val (.long q1), .second, .val (.int p2), .val (.int p3), .unset, .unset, .unset, .unset, .unset, .unset, .unset, .unset, .unset] [] := by first | (simp [entryFrame, mkF, argsToLocals, Value.category, maxLocals]; done) | rfl
def Q_rm0 (Z : State) (q0 : Int64) (q1 : Int64) (p2 : Int32) (p3 : Int32) (h0 : Heap) (n0 : Nat) (v : Option Value) (h : Heap) (L : List Loc) : Prop := v = some (.int 1) ∧ Fr n0 L
theorem pd_0 : parseMethodDescriptor "(JJ)J" = some ⟨[.long, .long], some .long⟩ := by decide +kernel
set_option maxRecDepth 65536 in
set_option maxHeartbeats 40000000 in
theorem rm0 (l : Launch) (Z : State) (a0 : Array Value) (hw : ∀ d ∈ tables_1, d.before a0 Z = true) (ws : List Jvm.Cond) (q0 : Int64) (q1 : Int64) (p2 : Int32) (p3 : Int32) (h0 : Heap) (n0 : Nat) (Z0 : n0 ≤ h0.size) :
    MetFree l x (head1 (Jvm.Cond.code x code maxLocals ret :: ws) room_1) (fun a U => a = #[(.long q0), (.long q1), (.int p2), (.int p3)] ∧ Z.Warmed39 U.vm ∧ U.heap = h0) (fun _ _ _ _ _ => True) (fun _ U ou U' => ∃ v L, ou = .returned v ∧ Q_rm0 Z q0 q1 p2 p3 h0 n0 v U'.heap L ∧ FrameEnd U ou U' L room_1.cells room_1.slots) := by
  refine MetFree.of_bodySF (plainFor_of_name pn_0) hisR ?_
  intro p e s m args below meth c s₁ Bd hml0 hP hK
  obtain ⟨rfl, hZ, hh⟩ := hP
  have hx := Bd.exec
  have hby := Bd.bytes
  have hml : c.maxLocals = 15 := hml0
  have hown : s.vm.findClass "com/example/topic_contracts/topiccontracts/contract/RegexPartTimesPinLaw" = some m.cls := findClass_of_methodNamed Bd.named
  have hnm := (name_of_methodNamed Bd.named Bd.method).1
  have X0 : Stand p l e room_1 s m #[(.long q0), (.long q1), (.int p2), (.int p3)] below meth c s₁ [] 0 0 := Stand.of_body Bd
  have e0 : s₁.heap = h0 := by rw [← hh, Bd.state]; rfl
  have N0 := Fr.nil n0
  have K0 := Keep.refl h0 []
  refine own_as (ef_0 m q0 q1 p2 p3) ?_
  show own_Ends p e below s₁ (mkF m 0 #[.val (.long q0), .second, .val (.long q1), .second, .val (.int p2), .val (.int p3), .unset, .unset, .unset, .unset, .unset, .unset, .unset, .unset, .unset] []) _
  refine own_go (X0.ldc2Long hx hown (mvT hZ (hw _ (List.mem_of_getElem? (i := 0) rfl))) (g := (mkF m 0 #[.val (.long q0), .second, .val (.long q1), .second, .val (.int p2), .val (.int p3), .unset, .unset, .unset, .unset, .unset, .unset, .unset, .unset, .unset] [])) rfl (hb hby at_0)) ?_
  show own_Ends p e below s₁ (mkF m 3 #[.val (.long q0), .second, .val (.long q1), .second, .val (.int p2), .val (.int p3), .unset, .unset, .unset, .unset, .unset, .unset, .unset, .unset, .unset] [(.long (9223372036854775807 : Int64))]) _
  refine own_go (fun _ => XS.lstore X0.here hx rfl (hb hby at_3) rfl (l' := #[.val (.long q0), .second, .val (.long q1), .second, .val (.int p2), .val (.int p3), .val (.long (9223372036854775807 : Int64)), .second, .unset, .unset, .unset, .unset, .unset, .unset, .unset]) rfl) ?_
  show own_Ends p e below s₁ (mkF m 5 #[.val (.long q0), .second, .val (.long q1), .second, .val (.int p2), .val (.int p3), .val (.long (9223372036854775807 : Int64)), .second, .unset, .unset, .unset, .unset, .unset, .unset, .unset] []) _
  refine own_go (fun _ => XS.lloadN X0.here hx rfl (hb hby at_5) rfl) ?_
  show own_Ends p e below s₁ (mkF m 6 #[.val (.long q0), .second, .val (.long q1), .second, .val (.int p2), .val (.int p3), .val (.long (9223372036854775807 : Int64)), .second, .unset, .unset, .unset, .unset, .unset, .unset, .unset] [(.long q0)]) _
  refine own_go (fun _ => XS.lload X0.here hx rfl (hb hby at_6) rfl) ?_
  show own_Ends p e below s₁ (mkF m 8 #[.val (.long q0), .second, .val (.long q1), .second, .val (.int p2), .val (.int p3), .val (.long (9223372036854775807 : Int64)), .second, .unset, .unset, .unset, .unset, .unset, .unset, .unset] [(.long (9223372036854775807 : Int64)), (.long q0)]) _
  refine own_go (fun _ => XS.land X0.here hx rfl (hb hby at_8) rfl) ?_
  show own_Ends p e below s₁ (mkF m 9 #[.val (.long q0), .second, .val (.long q1), .second, .val (.int p2), .val (.int p3), .val (.long (9223372036854775807 : Int64)), .second, .unset, .unset, .unset, .unset, .unset, .unset, .unset] [(.long (q0 &&& (9223372036854775807 : Int64)))]) _
  refine own_go (fun _ => XS.iload X0.here hx rfl (hb hby at_9) rfl) ?_
  show own_Ends p e below s₁ (mkF m 11 #[.val (.long q0), .second, .val (.long q1), .second, .val (.int p2), .val (.int p3), .val (.long (9223372036854775807 : Int64)), .second, .unset, .unset, .unset, .unset, .unset, .unset, .unset] [(.int p2), (.long (q0 &&& (9223372036854775807 : Int64)))]) _
  refine own_go (fun _ => XS.bipush X0.here hx rfl (hb hby at_11)) ?_
  show own_Ends p e below s₁ (mkF m 13 #[.val (.long q0), .second, .val (.long q1), .second, .val (.int p2), .val (.int p3), .val (.long (9223372036854775807 : Int64)), .second, .unset, .unset, .unset, .unset, .unset, .unset, .unset] [(.int (63 : Int32)), (.int p2), (.long (q0 &&& (9223372036854775807 : Int64)))]) _
  refine own_go (fun _ => XS.iand X0.here hx rfl (hb hby at_13) rfl) ?_
  show own_Ends p e below s₁ (mkF m 14 #[.val (.long q0), .second, .val (.long q1), .second, .val (.int p2), .val (.int p3), .val (.long (9223372036854775807 : Int64)), .second, .unset, .unset, .unset, .unset, .unset, .unset, .unset] [(.int (p2 &&& (63 : Int32))), (.long (q0 &&& (9223372036854775807 : Int64)))]) _
  refine own_go (fun _ => XS.lushr X0.here hx rfl (hb hby at_14) rfl) ?_
  show own_Ends p e below s₁ (mkF m 15 #[.val (.long q0), .second, .val (.long q1), .second, .val (.int p2), .val (.int p3), .val (.long (9223372036854775807 : Int64)), .second, .unset, .unset, .unset, .unset, .unset, .unset, .unset] [(.long (((q0 &&& (9223372036854775807 : Int64)).toUInt64 >>> ((p2 &&& (63 : Int32)) &&& 0x3f).toInt64.toUInt64).toInt64))]) _
  refine own_go (fun _ => XS.lstore X0.here hx rfl (hb hby at_15) rfl (l' := #[.val (.long q0), .second, .val (.long q1), .second, .val (.int p2), .val (.int p3), .val (.long (9223372036854775807 : Int64)), .second, .val (.long (((q0 &&& (9223372036854775807 : Int64)).toUInt64 >>> ((p2 &&& (63 : Int32)) &&& 0x3f).toInt64.toUInt64).toInt64)), .second, .unset, .unset, .unset, .unset, .unset]) rfl) ?_
  show own_Ends p e below s₁ (mkF m 17 #[.val (.long q0), .second, .val (.long q1), .second, .val (.int p2), .val (.int p3), .val (.long (9223372036854775807 : Int64)), .second, .val (.long (((q0 &&& (9223372036854775807 : Int64)).toUInt64 >>> ((p2 &&& (63 : Int32)) &&& 0x3f).toInt64.toUInt64).toInt64)), .second, .unset, .unset, .unset, .unset, .unset] []) _
  have na := own_nn q0 (p2 &&& (63 : Int32))
  generalize eqa : (((q0 &&& (9223372036854775807 : Int64)).toUInt64 >>> ((p2 &&& (63 : Int32)) &&& 0x3f).toInt64.toUInt64).toInt64) = a at na ⊢
  refine own_go (fun _ => XS.lloadN X0.here hx rfl (hb hby at_17) rfl) ?_
  show own_Ends p e below s₁ (mkF m 18 #[.val (.long q0), .second, .val (.long q1), .second, .val (.int p2), .val (.int p3), .val (.long (9223372036854775807 : Int64)), .second, .val (.long a), .second, .unset, .unset, .unset, .unset, .unset] [(.long q1)]) _
  refine own_go (fun _ => XS.lload X0.here hx rfl (hb hby at_18) rfl) ?_
  show own_Ends p e below s₁ (mkF m 20 #[.val (.long q0), .second, .val (.long q1), .second, .val (.int p2), .val (.int p3), .val (.long (9223372036854775807 : Int64)), .second, .val (.long a), .second, .unset, .unset, .unset, .unset, .unset] [(.long (9223372036854775807 : Int64)), (.long q1)]) _
  refine own_go (fun _ => XS.land X0.here hx rfl (hb hby at_20) rfl) ?_
  show own_Ends p e below s₁ (mkF m 21 #[.val (.long q0), .second, .val (.long q1), .second, .val (.int p2), .val (.int p3), .val (.long (9223372036854775807 : Int64)), .second, .val (.long a), .second, .unset, .unset, .unset, .unset, .unset] [(.long (q1 &&& (9223372036854775807 : Int64)))]) _
  refine own_go (fun _ => XS.iload X0.here hx rfl (hb hby at_21) rfl) ?_
  show own_Ends p e below s₁ (mkF m 23 #[.val (.long q0), .second, .val (.long q1), .second, .val (.int p2), .val (.int p3), .val (.long (9223372036854775807 : Int64)), .second, .val (.long a), .second, .unset, .unset, .unset, .unset, .unset] [(.int p3), (.long (q1 &&& (9223372036854775807 : Int64)))]) _
  refine own_go (fun _ => XS.bipush X0.here hx rfl (hb hby at_23)) ?_
  show own_Ends p e below s₁ (mkF m 25 #[.val (.long q0), .second, .val (.long q1), .second, .val (.int p2), .val (.int p3), .val (.long (9223372036854775807 : Int64)), .second, .val (.long a), .second, .unset, .unset, .unset, .unset, .unset] [(.int (63 : Int32)), (.int p3), (.long (q1 &&& (9223372036854775807 : Int64)))]) _
  refine own_go (fun _ => XS.iand X0.here hx rfl (hb hby at_25) rfl) ?_
  show own_Ends p e below s₁ (mkF m 26 #[.val (.long q0), .second, .val (.long q1), .second, .val (.int p2), .val (.int p3), .val (.long (9223372036854775807 : Int64)), .second, .val (.long a), .second, .unset, .unset, .unset, .unset, .unset] [(.int (p3 &&& (63 : Int32))), (.long (q1 &&& (9223372036854775807 : Int64)))]) _
  refine own_go (fun _ => XS.lushr X0.here hx rfl (hb hby at_26) rfl) ?_
  show own_Ends p e below s₁ (mkF m 27 #[.val (.long q0), .second, .val (.long q1), .second, .val (.int p2), .val (.int p3), .val (.long (9223372036854775807 : Int64)), .second, .val (.long a), .second, .unset, .unset, .unset, .unset, .unset] [(.long (((q1 &&& (9223372036854775807 : Int64)).toUInt64 >>> ((p3 &&& (63 : Int32)) &&& 0x3f).toInt64.toUInt64).toInt64))]) _
  refine own_go (fun _ => XS.lstore X0.here hx rfl (hb hby at_27) rfl (l' := #[.val (.long q0), .second, .val (.long q1), .second, .val (.int p2), .val (.int p3), .val (.long (9223372036854775807 : Int64)), .second, .val (.long a), .second, .val (.long (((q1 &&& (9223372036854775807 : Int64)).toUInt64 >>> ((p3 &&& (63 : Int32)) &&& 0x3f).toInt64.toUInt64).toInt64)), .second, .unset, .unset, .unset]) rfl) ?_
  show own_Ends p e below s₁ (mkF m 29 #[.val (.long q0), .second, .val (.long q1), .second, .val (.int p2), .val (.int p3), .val (.long (9223372036854775807 : Int64)), .second, .val (.long a), .second, .val (.long (((q1 &&& (9223372036854775807 : Int64)).toUInt64 >>> ((p3 &&& (63 : Int32)) &&& 0x3f).toInt64.toUInt64).toInt64)), .second, .unset, .unset, .unset] []) _
  have nb := own_nn q1 (p3 &&& (63 : Int32))
  generalize eqb : (((q1 &&& (9223372036854775807 : Int64)).toUInt64 >>> ((p3 &&& (63 : Int32)) &&& 0x3f).toInt64.toUInt64).toInt64) = b at nb ⊢
  refine own_go (fun _ => XS.lload X0.here hx rfl (hb hby at_29) rfl) ?_
  show own_Ends p e below s₁ (mkF m 31 #[.val (.long q0), .second, .val (.long q1), .second, .val (.int p2), .val (.int p3), .val (.long (9223372036854775807 : Int64)), .second, .val (.long a), .second, .val (.long b), .second, .unset, .unset, .unset] [(.long a)]) _
  refine own_go (fun _ => XS.lload X0.here hx rfl (hb hby at_31) rfl) ?_
  show own_Ends p e below s₁ (mkF m 33 #[.val (.long q0), .second, .val (.long q1), .second, .val (.int p2), .val (.int p3), .val (.long (9223372036854775807 : Int64)), .second, .val (.long a), .second, .val (.long b), .second, .unset, .unset, .unset] [(.long b), (.long a)]) _
  obtain ⟨_, _, ⟨T1, L1, k1, n1⟩, -, X1, ⟨Lc1, hQ1, l1, y1, z1⟩, st1⟩ := Jvm.LawKit.callS X0 hx (y := (⟨"com/example/topic_contracts/topiccontracts/contract/RegexPart", "times", "(JJ)J"⟩ : MethodName)) hown (mvT hZ (hw _ (List.mem_of_getElem? (i := 1) rfl))) (mvT hZ (hw _ (List.mem_of_getElem? (i := 2) rfl))) (mvT hZ (hw _ (List.mem_of_getElem? (i := 3) rfl))) (mvT hZ (hw _ (List.mem_of_getElem? (i := 4) rfl))) (by decide) (backOf (W := 0) (rm1 l Z a0 hw [] a b  h0 n0 Z0 ) hZ (hw _ (List.mem_of_getElem? (i := 4) rfl)) (hw _ (List.mem_of_getElem? (i := 3) rfl)) (by decide) (by decide)) (g := (mkF m 33 #[.val (.long q0), .second, .val (.long q1), .second, .val (.int p2), .val (.int p3), .val (.long (9223372036854775807 : Int64)), .second, .val (.long a), .second, .val (.long b), .second, .unset, .unset, .unset] [(.long b), (.long a)])) rfl (by rw [hml]; rfl) (argsL := [(.long a), (.long b)]) (rest := []) (lenOf pd_0 rfl) rfl (by show 2 * 0 + _ ≤ _; exact Nat.le_of_eq rfl) (hb hby at_33) (fun _ _ => ⟨rfl, e0, (by decide : 0 + 0 ≤ _), (by decide : 0 + 0 ≤ _)⟩)
  dsimp only [Pt.U, Pt.locs, Pt.cells, Pt.slots] at X1 l1 y1 z1 st1 hQ1
  subst l1 y1 z1
  refine own_go st1 ?_
  obtain ⟨rfl, N1q, eh1⟩ := hQ1
  have N1 := Fr.app N0 N1q
  show own_Ends p e below T1 (mkF m 36 #[.val (.long q0), .second, .val (.long q1), .second, .val (.int p2), .val (.int p3), .val (.long (9223372036854775807 : Int64)), .second, .val (.long a), .second, .val (.long b), .second, .unset, .unset, .unset] [(.long (own_times a b))]) _
  refine own_go (fun _ => XS.lstore X1.here hx rfl (hb hby at_36) rfl (l' := #[.val (.long q0), .second, .val (.long q1), .second, .val (.int p2), .val (.int p3), .val (.long (9223372036854775807 : Int64)), .second, .val (.long a), .second, .val (.long b), .second, .val (.long (own_times a b)), .second, .unset]) rfl) ?_
  show own_Ends p e below T1 (mkF m 38 #[.val (.long q0), .second, .val (.long q1), .second, .val (.int p2), .val (.int p3), .val (.long (9223372036854775807 : Int64)), .second, .val (.long a), .second, .val (.long b), .second, .val (.long (own_times a b)), .second, .unset] []) _
  refine own_go (fun _ => XS.lload X1.here hx rfl (hb hby at_38) rfl) ?_
  show own_Ends p e below T1 (mkF m 40 #[.val (.long q0), .second, .val (.long q1), .second, .val (.int p2), .val (.int p3), .val (.long (9223372036854775807 : Int64)), .second, .val (.long a), .second, .val (.long b), .second, .val (.long (own_times a b)), .second, .unset] [(.long a)]) _
  refine own_go (fun _ => XS.lconst X1.here hx rfl (hb hby at_40)) ?_
  show own_Ends p e below T1 (mkF m 41 #[.val (.long q0), .second, .val (.long q1), .second, .val (.int p2), .val (.int p3), .val (.long (9223372036854775807 : Int64)), .second, .val (.long a), .second, .val (.long b), .second, .val (.long (own_times a b)), .second, .unset] [(.long (0 : Int64)), (.long a)]) _
  refine own_go (fun _ => XS.lcmp X1.here hx rfl (hb hby at_41) rfl) ?_
  show own_Ends p e below T1 (mkF m 42 #[.val (.long q0), .second, .val (.long q1), .second, .val (.int p2), .val (.int p3), .val (.long (9223372036854775807 : Int64)), .second, .val (.long a), .second, .val (.long b), .second, .val (.long (own_times a b)), .second, .unset] [(.int (lcmpW a (0 : Int64)))]) _
  by_cases hc42 : a = (0 : Int64)
  · refine own_go (fun _ => XS.ifYes X1.here hx rfl (pc0 := 42) (pc' := 52) rfl (hb hby at_42) rfl ((if0 _ _).trans (teq ((lw_eq a (0 : Int64)).mpr hc42)).1) (by decide) (by decide)) ?_
    show own_Ends p e below T1 (mkF m 52 #[.val (.long q0), .second, .val (.long q1), .second, .val (.int p2), .val (.int p3), .val (.long (9223372036854775807 : Int64)), .second, .val (.long a), .second, .val (.long b), .second, .val (.long (own_times a b)), .second, .unset] []) _
    refine own_go (fun _ => XS.lload X1.here hx rfl (hb hby at_52) rfl) ?_
    show own_Ends p e below T1 (mkF m 54 #[.val (.long q0), .second, .val (.long q1), .second, .val (.int p2), .val (.int p3), .val (.long (9223372036854775807 : Int64)), .second, .val (.long a), .second, .val (.long b), .second, .val (.long (own_times a b)), .second, .unset] [(.long (own_times a b))]) _
    refine own_go (fun _ => XS.lconst X1.here hx rfl (hb hby at_54)) ?_
    show own_Ends p e below T1 (mkF m 55 #[.val (.long q0), .second, .val (.long q1), .second, .val (.int p2), .val (.int p3), .val (.long (9223372036854775807 : Int64)), .second, .val (.long a), .second, .val (.long b), .second, .val (.long (own_times a b)), .second, .unset] [(.long (0 : Int64)), (.long (own_times a b))]) _
    refine own_go (fun _ => XS.lcmp X1.here hx rfl (hb hby at_55) rfl) ?_
    show own_Ends p e below T1 (mkF m 56 #[.val (.long q0), .second, .val (.long q1), .second, .val (.int p2), .val (.int p3), .val (.long (9223372036854775807 : Int64)), .second, .val (.long a), .second, .val (.long b), .second, .val (.long (own_times a b)), .second, .unset] [(.int (lcmpW (own_times a b) (0 : Int64)))]) _
    refine own_go (fun _ => XS.ifNo X1.here hx rfl (hb hby at_56) rfl ((if0 _ _).trans (teq ((lw_eq (own_times a b) (0 : Int64)).mpr (show (own_times a b) = (0 : Int64) from (by simp [own_times, hc42])))).2)) ?_
    show own_Ends p e below T1 (mkF m 59 #[.val (.long q0), .second, .val (.long q1), .second, .val (.int p2), .val (.int p3), .val (.long (9223372036854775807 : Int64)), .second, .val (.long a), .second, .val (.long b), .second, .val (.long (own_times a b)), .second, .unset] []) _
    refine own_go (fun _ => XS.iconst X1.here hx rfl (hb hby at_59)) ?_
    show own_Ends p e below T1 (mkF m 60 #[.val (.long q0), .second, .val (.long q1), .second, .val (.int p2), .val (.int p3), .val (.long (9223372036854775807 : Int64)), .second, .val (.long a), .second, .val (.long b), .second, .val (.long (own_times a b)), .second, .unset] [(.int (1 : Int32))]) _
    refine own_go (fun _ => XS.goto X1.here hx rfl (pc0 := 60) (pc' := 64) rfl (hb hby at_60) (by decide) (by decide)) ?_
    show own_Ends p e below T1 (mkF m 64 #[.val (.long q0), .second, .val (.long q1), .second, .val (.int p2), .val (.int p3), .val (.long (9223372036854775807 : Int64)), .second, .val (.long a), .second, .val (.long b), .second, .val (.long (own_times a b)), .second, .unset] [(.int (1 : Int32))]) _
    obtain ⟨fs, hr, hrun, hended, hW, hsame⟩ := X1.leave (v := some (.int (1 : Int32))) (fun h => by rw [Bd.returns] at h; cases h)
    refine ⟨_, _, retN X1 hx (t := .boolean) Bd.returns (by simp) (hb hby at_64) hr, hrun, hended, _, _, rfl, ?_, ⟨_, rfl⟩, hW, hsame.mono (by decide) (by decide)⟩
    show Q_rm0 Z q0 q1 p2 p3 h0 n0 _ T1.heap _
    rw [eh1]
    exact ⟨rfl, N1⟩
  · refine own_go (fun _ => XS.ifNo X1.here hx rfl (hb hby at_42) rfl ((if0 _ _).trans (feq (fun q => hc42 ((lw_eq a (0 : Int64)).mp q))).1)) ?_
    show own_Ends p e below T1 (mkF m 45 #[.val (.long q0), .second, .val (.long q1), .second, .val (.int p2), .val (.int p3), .val (.long (9223372036854775807 : Int64)), .second, .val (.long a), .second, .val (.long b), .second, .val (.long (own_times a b)), .second, .unset] []) _
    refine own_go (fun _ => XS.lload X1.here hx rfl (hb hby at_45) rfl) ?_
    show own_Ends p e below T1 (mkF m 47 #[.val (.long q0), .second, .val (.long q1), .second, .val (.int p2), .val (.int p3), .val (.long (9223372036854775807 : Int64)), .second, .val (.long a), .second, .val (.long b), .second, .val (.long (own_times a b)), .second, .unset] [(.long b)]) _
    refine own_go (fun _ => XS.lconst X1.here hx rfl (hb hby at_47)) ?_
    show own_Ends p e below T1 (mkF m 48 #[.val (.long q0), .second, .val (.long q1), .second, .val (.int p2), .val (.int p3), .val (.long (9223372036854775807 : Int64)), .second, .val (.long a), .second, .val (.long b), .second, .val (.long (own_times a b)), .second, .unset] [(.long (0 : Int64)), (.long b)]) _
    refine own_go (fun _ => XS.lcmp X1.here hx rfl (hb hby at_48) rfl) ?_
    show own_Ends p e below T1 (mkF m 49 #[.val (.long q0), .second, .val (.long q1), .second, .val (.int p2), .val (.int p3), .val (.long (9223372036854775807 : Int64)), .second, .val (.long a), .second, .val (.long b), .second, .val (.long (own_times a b)), .second, .unset] [(.int (lcmpW b (0 : Int64)))]) _
    by_cases hc49 : b = (0 : Int64)
    · refine own_go (fun _ => XS.ifNo X1.here hx rfl (hb hby at_49) rfl ((if0 _ _).trans (teq ((lw_eq b (0 : Int64)).mpr hc49)).2)) ?_
      show own_Ends p e below T1 (mkF m 52 #[.val (.long q0), .second, .val (.long q1), .second, .val (.int p2), .val (.int p3), .val (.long (9223372036854775807 : Int64)), .second, .val (.long a), .second, .val (.long b), .second, .val (.long (own_times a b)), .second, .unset] []) _
      refine own_go (fun _ => XS.lload X1.here hx rfl (hb hby at_52) rfl) ?_
      show own_Ends p e below T1 (mkF m 54 #[.val (.long q0), .second, .val (.long q1), .second, .val (.int p2), .val (.int p3), .val (.long (9223372036854775807 : Int64)), .second, .val (.long a), .second, .val (.long b), .second, .val (.long (own_times a b)), .second, .unset] [(.long (own_times a b))]) _
      refine own_go (fun _ => XS.lconst X1.here hx rfl (hb hby at_54)) ?_
      show own_Ends p e below T1 (mkF m 55 #[.val (.long q0), .second, .val (.long q1), .second, .val (.int p2), .val (.int p3), .val (.long (9223372036854775807 : Int64)), .second, .val (.long a), .second, .val (.long b), .second, .val (.long (own_times a b)), .second, .unset] [(.long (0 : Int64)), (.long (own_times a b))]) _
      refine own_go (fun _ => XS.lcmp X1.here hx rfl (hb hby at_55) rfl) ?_
      show own_Ends p e below T1 (mkF m 56 #[.val (.long q0), .second, .val (.long q1), .second, .val (.int p2), .val (.int p3), .val (.long (9223372036854775807 : Int64)), .second, .val (.long a), .second, .val (.long b), .second, .val (.long (own_times a b)), .second, .unset] [(.int (lcmpW (own_times a b) (0 : Int64)))]) _
      refine own_go (fun _ => XS.ifNo X1.here hx rfl (hb hby at_56) rfl ((if0 _ _).trans (teq ((lw_eq (own_times a b) (0 : Int64)).mpr (show (own_times a b) = (0 : Int64) from (by simp [own_times, hc42, hc49])))).2)) ?_
      show own_Ends p e below T1 (mkF m 59 #[.val (.long q0), .second, .val (.long q1), .second, .val (.int p2), .val (.int p3), .val (.long (9223372036854775807 : Int64)), .second, .val (.long a), .second, .val (.long b), .second, .val (.long (own_times a b)), .second, .unset] []) _
      refine own_go (fun _ => XS.iconst X1.here hx rfl (hb hby at_59)) ?_
      show own_Ends p e below T1 (mkF m 60 #[.val (.long q0), .second, .val (.long q1), .second, .val (.int p2), .val (.int p3), .val (.long (9223372036854775807 : Int64)), .second, .val (.long a), .second, .val (.long b), .second, .val (.long (own_times a b)), .second, .unset] [(.int (1 : Int32))]) _
      refine own_go (fun _ => XS.goto X1.here hx rfl (pc0 := 60) (pc' := 64) rfl (hb hby at_60) (by decide) (by decide)) ?_
      show own_Ends p e below T1 (mkF m 64 #[.val (.long q0), .second, .val (.long q1), .second, .val (.int p2), .val (.int p3), .val (.long (9223372036854775807 : Int64)), .second, .val (.long a), .second, .val (.long b), .second, .val (.long (own_times a b)), .second, .unset] [(.int (1 : Int32))]) _
      obtain ⟨fs, hr, hrun, hended, hW, hsame⟩ := X1.leave (v := some (.int (1 : Int32))) (fun h => by rw [Bd.returns] at h; cases h)
      refine ⟨_, _, retN X1 hx (t := .boolean) Bd.returns (by simp) (hb hby at_64) hr, hrun, hended, _, _, rfl, ?_, ⟨_, rfl⟩, hW, hsame.mono (by decide) (by decide)⟩
      show Q_rm0 Z q0 q1 p2 p3 h0 n0 _ T1.heap _
      rw [eh1]
      exact ⟨rfl, N1⟩
    · refine own_go (fun _ => XS.ifYes X1.here hx rfl (pc0 := 49) (pc' := 65) rfl (hb hby at_49) rfl ((if0 _ _).trans (feq (fun q => hc49 ((lw_eq b (0 : Int64)).mp q))).2) (by decide) (by decide)) ?_
      show own_Ends p e below T1 (mkF m 65 #[.val (.long q0), .second, .val (.long q1), .second, .val (.int p2), .val (.int p3), .val (.long (9223372036854775807 : Int64)), .second, .val (.long a), .second, .val (.long b), .second, .val (.long (own_times a b)), .second, .unset] []) _
      refine own_go (fun _ => XS.lload X1.here hx rfl (hb hby at_65) rfl) ?_
      show own_Ends p e below T1 (mkF m 67 #[.val (.long q0), .second, .val (.long q1), .second, .val (.int p2), .val (.int p3), .val (.long (9223372036854775807 : Int64)), .second, .val (.long a), .second, .val (.long b), .second, .val (.long (own_times a b)), .second, .unset] [(.long a)]) _
      refine own_go (fun _ => XS.lload X1.here hx rfl (hb hby at_67) rfl) ?_
      show own_Ends p e below T1 (mkF m 69 #[.val (.long q0), .second, .val (.long q1), .second, .val (.int p2), .val (.int p3), .val (.long (9223372036854775807 : Int64)), .second, .val (.long a), .second, .val (.long b), .second, .val (.long (own_times a b)), .second, .unset] [(.long (9223372036854775807 : Int64)), (.long a)]) _
      refine own_go (fun _ => XS.lconst X1.here hx rfl (hb hby at_69)) ?_
      show own_Ends p e below T1 (mkF m 70 #[.val (.long q0), .second, .val (.long q1), .second, .val (.int p2), .val (.int p3), .val (.long (9223372036854775807 : Int64)), .second, .val (.long a), .second, .val (.long b), .second, .val (.long (own_times a b)), .second, .unset] [(.long (1 : Int64)), (.long (9223372036854775807 : Int64)), (.long a)]) _
      refine own_go (fun _ => XS.lsub X1.here hx rfl (hb hby at_70) rfl) ?_
      show own_Ends p e below T1 (mkF m 71 #[.val (.long q0), .second, .val (.long q1), .second, .val (.int p2), .val (.int p3), .val (.long (9223372036854775807 : Int64)), .second, .val (.long a), .second, .val (.long b), .second, .val (.long (own_times a b)), .second, .unset] [(.long (9223372036854775806 : Int64)), (.long a)]) _
      refine own_go (fun _ => XS.lload X1.here hx rfl (hb hby at_71) rfl) ?_
      show own_Ends p e below T1 (mkF m 73 #[.val (.long q0), .second, .val (.long q1), .second, .val (.int p2), .val (.int p3), .val (.long (9223372036854775807 : Int64)), .second, .val (.long a), .second, .val (.long b), .second, .val (.long (own_times a b)), .second, .unset] [(.long b), (.long (9223372036854775806 : Int64)), (.long a)]) _
      refine own_go (fun _ => XS.ldiv X1.here hx rfl (hb hby at_73) rfl hc49) ?_
      show own_Ends p e below T1 (mkF m 74 #[.val (.long q0), .second, .val (.long q1), .second, .val (.int p2), .val (.int p3), .val (.long (9223372036854775807 : Int64)), .second, .val (.long a), .second, .val (.long b), .second, .val (.long (own_times a b)), .second, .unset] [(.long ((9223372036854775806 : Int64) / b)), (.long a)]) _
      refine own_go (fun _ => XS.lcmp X1.here hx rfl (hb hby at_74) rfl) ?_
      show own_Ends p e below T1 (mkF m 75 #[.val (.long q0), .second, .val (.long q1), .second, .val (.int p2), .val (.int p3), .val (.long (9223372036854775807 : Int64)), .second, .val (.long a), .second, .val (.long b), .second, .val (.long (own_times a b)), .second, .unset] [(.int (lcmpW a ((9223372036854775806 : Int64) / b)))]) _
      by_cases hc75 : ((9223372036854775806 : Int64) / b) < a
      · refine own_go (fun _ => XS.ifNo X1.here hx rfl (hb hby at_75) rfl ((if0 _ _).trans (tlt ((lw_gt a ((9223372036854775806 : Int64) / b)).mpr hc75)).2.2.2)) ?_
        show own_Ends p e below T1 (mkF m 78 #[.val (.long q0), .second, .val (.long q1), .second, .val (.int p2), .val (.int p3), .val (.long (9223372036854775807 : Int64)), .second, .val (.long a), .second, .val (.long b), .second, .val (.long (own_times a b)), .second, .unset] []) _
        refine own_go (fun _ => XS.iconst X1.here hx rfl (hb hby at_78)) ?_
        show own_Ends p e below T1 (mkF m 79 #[.val (.long q0), .second, .val (.long q1), .second, .val (.int p2), .val (.int p3), .val (.long (9223372036854775807 : Int64)), .second, .val (.long a), .second, .val (.long b), .second, .val (.long (own_times a b)), .second, .unset] [(.int (1 : Int32))]) _
        refine own_go (fun _ => XS.goto X1.here hx rfl (pc0 := 79) (pc' := 83) rfl (hb hby at_79) (by decide) (by decide)) ?_
        show own_Ends p e below T1 (mkF m 83 #[.val (.long q0), .second, .val (.long q1), .second, .val (.int p2), .val (.int p3), .val (.long (9223372036854775807 : Int64)), .second, .val (.long a), .second, .val (.long b), .second, .val (.long (own_times a b)), .second, .unset] [(.int (1 : Int32))]) _
        refine own_go (fun _ => XS.istore X1.here hx rfl (hb hby at_83) rfl (l' := #[.val (.long q0), .second, .val (.long q1), .second, .val (.int p2), .val (.int p3), .val (.long (9223372036854775807 : Int64)), .second, .val (.long a), .second, .val (.long b), .second, .val (.long (own_times a b)), .second, .val (.int (1 : Int32))]) rfl) ?_
        show own_Ends p e below T1 (mkF m 85 #[.val (.long q0), .second, .val (.long q1), .second, .val (.int p2), .val (.int p3), .val (.long (9223372036854775807 : Int64)), .second, .val (.long a), .second, .val (.long b), .second, .val (.long (own_times a b)), .second, .val (.int (1 : Int32))] []) _
        refine own_go (fun _ => XS.iload X1.here hx rfl (hb hby at_85) rfl) ?_
        show own_Ends p e below T1 (mkF m 87 #[.val (.long q0), .second, .val (.long q1), .second, .val (.int p2), .val (.int p3), .val (.long (9223372036854775807 : Int64)), .second, .val (.long a), .second, .val (.long b), .second, .val (.long (own_times a b)), .second, .val (.int (1 : Int32))] [(.int (1 : Int32))]) _
        refine own_go (fun _ => XS.ifNo X1.here hx rfl (hb hby at_87) rfl ((if0 _ _).trans (feq (show ¬ ((1 : Int32) = (0 : Int32)) from by decide)).1)) ?_
        show own_Ends p e below T1 (mkF m 90 #[.val (.long q0), .second, .val (.long q1), .second, .val (.int p2), .val (.int p3), .val (.long (9223372036854775807 : Int64)), .second, .val (.long a), .second, .val (.long b), .second, .val (.long (own_times a b)), .second, .val (.int (1 : Int32))] []) _
        refine own_go (fun _ => XS.lload X1.here hx rfl (hb hby at_90) rfl) ?_
        show own_Ends p e below T1 (mkF m 92 #[.val (.long q0), .second, .val (.long q1), .second, .val (.int p2), .val (.int p3), .val (.long (9223372036854775807 : Int64)), .second, .val (.long a), .second, .val (.long b), .second, .val (.long (own_times a b)), .second, .val (.int (1 : Int32))] [(.long (own_times a b))]) _
        refine own_go (fun _ => XS.lload X1.here hx rfl (hb hby at_92) rfl) ?_
        show own_Ends p e below T1 (mkF m 94 #[.val (.long q0), .second, .val (.long q1), .second, .val (.int p2), .val (.int p3), .val (.long (9223372036854775807 : Int64)), .second, .val (.long a), .second, .val (.long b), .second, .val (.long (own_times a b)), .second, .val (.int (1 : Int32))] [(.long (9223372036854775807 : Int64)), (.long (own_times a b))]) _
        refine own_go (fun _ => XS.lcmp X1.here hx rfl (hb hby at_94) rfl) ?_
        show own_Ends p e below T1 (mkF m 95 #[.val (.long q0), .second, .val (.long q1), .second, .val (.int p2), .val (.int p3), .val (.long (9223372036854775807 : Int64)), .second, .val (.long a), .second, .val (.long b), .second, .val (.long (own_times a b)), .second, .val (.int (1 : Int32))] [(.int (lcmpW (own_times a b) (9223372036854775807 : Int64)))]) _
        refine own_go (fun _ => XS.ifNo X1.here hx rfl (hb hby at_95) rfl ((if0 _ _).trans (teq ((lw_eq (own_times a b) (9223372036854775807 : Int64)).mpr (show (own_times a b) = (9223372036854775807 : Int64) from own_sat na nb hc42 hc49 hc75))).2)) ?_
        show own_Ends p e below T1 (mkF m 98 #[.val (.long q0), .second, .val (.long q1), .second, .val (.int p2), .val (.int p3), .val (.long (9223372036854775807 : Int64)), .second, .val (.long a), .second, .val (.long b), .second, .val (.long (own_times a b)), .second, .val (.int (1 : Int32))] []) _
        refine own_go (fun _ => XS.iconst X1.here hx rfl (hb hby at_98)) ?_
        show own_Ends p e below T1 (mkF m 99 #[.val (.long q0), .second, .val (.long q1), .second, .val (.int p2), .val (.int p3), .val (.long (9223372036854775807 : Int64)), .second, .val (.long a), .second, .val (.long b), .second, .val (.long (own_times a b)), .second, .val (.int (1 : Int32))] [(.int (1 : Int32))]) _
        refine own_go (fun _ => XS.goto X1.here hx rfl (pc0 := 99) (pc' := 103) rfl (hb hby at_99) (by decide) (by decide)) ?_
        show own_Ends p e below T1 (mkF m 103 #[.val (.long q0), .second, .val (.long q1), .second, .val (.int p2), .val (.int p3), .val (.long (9223372036854775807 : Int64)), .second, .val (.long a), .second, .val (.long b), .second, .val (.long (own_times a b)), .second, .val (.int (1 : Int32))] [(.int (1 : Int32))]) _
        obtain ⟨fs, hr, hrun, hended, hW, hsame⟩ := X1.leave (v := some (.int (1 : Int32))) (fun h => by rw [Bd.returns] at h; cases h)
        refine ⟨_, _, retN X1 hx (t := .boolean) Bd.returns (by simp) (hb hby at_103) hr, hrun, hended, _, _, rfl, ?_, ⟨_, rfl⟩, hW, hsame.mono (by decide) (by decide)⟩
        show Q_rm0 Z q0 q1 p2 p3 h0 n0 _ T1.heap _
        rw [eh1]
        exact ⟨rfl, N1⟩
      · refine own_go (fun _ => XS.ifYes X1.here hx rfl (pc0 := 75) (pc' := 82) rfl (hb hby at_75) rfl ((if0 _ _).trans (flt (fun q => hc75 ((lw_gt a ((9223372036854775806 : Int64) / b)).mp q))).2.2.2) (by decide) (by decide)) ?_
        show own_Ends p e below T1 (mkF m 82 #[.val (.long q0), .second, .val (.long q1), .second, .val (.int p2), .val (.int p3), .val (.long (9223372036854775807 : Int64)), .second, .val (.long a), .second, .val (.long b), .second, .val (.long (own_times a b)), .second, .unset] []) _
        refine own_go (fun _ => XS.iconst X1.here hx rfl (hb hby at_82)) ?_
        show own_Ends p e below T1 (mkF m 83 #[.val (.long q0), .second, .val (.long q1), .second, .val (.int p2), .val (.int p3), .val (.long (9223372036854775807 : Int64)), .second, .val (.long a), .second, .val (.long b), .second, .val (.long (own_times a b)), .second, .unset] [(.int (0 : Int32))]) _
        refine own_go (fun _ => XS.istore X1.here hx rfl (hb hby at_83) rfl (l' := #[.val (.long q0), .second, .val (.long q1), .second, .val (.int p2), .val (.int p3), .val (.long (9223372036854775807 : Int64)), .second, .val (.long a), .second, .val (.long b), .second, .val (.long (own_times a b)), .second, .val (.int (0 : Int32))]) rfl) ?_
        show own_Ends p e below T1 (mkF m 85 #[.val (.long q0), .second, .val (.long q1), .second, .val (.int p2), .val (.int p3), .val (.long (9223372036854775807 : Int64)), .second, .val (.long a), .second, .val (.long b), .second, .val (.long (own_times a b)), .second, .val (.int (0 : Int32))] []) _
        refine own_go (fun _ => XS.iload X1.here hx rfl (hb hby at_85) rfl) ?_
        show own_Ends p e below T1 (mkF m 87 #[.val (.long q0), .second, .val (.long q1), .second, .val (.int p2), .val (.int p3), .val (.long (9223372036854775807 : Int64)), .second, .val (.long a), .second, .val (.long b), .second, .val (.long (own_times a b)), .second, .val (.int (0 : Int32))] [(.int (0 : Int32))]) _
        refine own_go (fun _ => XS.ifYes X1.here hx rfl (pc0 := 87) (pc' := 104) rfl (hb hby at_87) rfl ((if0 _ _).trans (teq (show (0 : Int32) = (0 : Int32) from by decide)).1) (by decide) (by decide)) ?_
        show own_Ends p e below T1 (mkF m 104 #[.val (.long q0), .second, .val (.long q1), .second, .val (.int p2), .val (.int p3), .val (.long (9223372036854775807 : Int64)), .second, .val (.long a), .second, .val (.long b), .second, .val (.long (own_times a b)), .second, .val (.int (0 : Int32))] []) _
        refine own_go (fun _ => XS.lload X1.here hx rfl (hb hby at_104) rfl) ?_
        show own_Ends p e below T1 (mkF m 106 #[.val (.long q0), .second, .val (.long q1), .second, .val (.int p2), .val (.int p3), .val (.long (9223372036854775807 : Int64)), .second, .val (.long a), .second, .val (.long b), .second, .val (.long (own_times a b)), .second, .val (.int (0 : Int32))] [(.long (own_times a b))]) _
        refine own_go (fun _ => XS.lload X1.here hx rfl (hb hby at_106) rfl) ?_
        show own_Ends p e below T1 (mkF m 108 #[.val (.long q0), .second, .val (.long q1), .second, .val (.int p2), .val (.int p3), .val (.long (9223372036854775807 : Int64)), .second, .val (.long a), .second, .val (.long b), .second, .val (.long (own_times a b)), .second, .val (.int (0 : Int32))] [(.long a), (.long (own_times a b))]) _
        refine own_go (fun _ => XS.lload X1.here hx rfl (hb hby at_108) rfl) ?_
        show own_Ends p e below T1 (mkF m 110 #[.val (.long q0), .second, .val (.long q1), .second, .val (.int p2), .val (.int p3), .val (.long (9223372036854775807 : Int64)), .second, .val (.long a), .second, .val (.long b), .second, .val (.long (own_times a b)), .second, .val (.int (0 : Int32))] [(.long b), (.long a), (.long (own_times a b))]) _
        refine own_go (fun _ => XS.lmul X1.here hx rfl (hb hby at_110) rfl) ?_
        show own_Ends p e below T1 (mkF m 111 #[.val (.long q0), .second, .val (.long q1), .second, .val (.int p2), .val (.int p3), .val (.long (9223372036854775807 : Int64)), .second, .val (.long a), .second, .val (.long b), .second, .val (.long (own_times a b)), .second, .val (.int (0 : Int32))] [(.long (a * b)), (.long (own_times a b))]) _
        refine own_go (fun _ => XS.lcmp X1.here hx rfl (hb hby at_111) rfl) ?_
        show own_Ends p e below T1 (mkF m 112 #[.val (.long q0), .second, .val (.long q1), .second, .val (.int p2), .val (.int p3), .val (.long (9223372036854775807 : Int64)), .second, .val (.long a), .second, .val (.long b), .second, .val (.long (own_times a b)), .second, .val (.int (0 : Int32))] [(.int (lcmpW (own_times a b) (a * b)))]) _
        refine own_go (fun _ => XS.ifNo X1.here hx rfl (hb hby at_112) rfl ((if0 _ _).trans (teq ((lw_eq (own_times a b) (a * b)).mpr (show (own_times a b) = (a * b) from own_uns na nb hc42 hc49 hc75))).2)) ?_
        show own_Ends p e below T1 (mkF m 115 #[.val (.long q0), .second, .val (.long q1), .second, .val (.int p2), .val (.int p3), .val (.long (9223372036854775807 : Int64)), .second, .val (.long a), .second, .val (.long b), .second, .val (.long (own_times a b)), .second, .val (.int (0 : Int32))] []) _
        refine own_go (fun _ => XS.iconst X1.here hx rfl (hb hby at_115)) ?_
        show own_Ends p e below T1 (mkF m 116 #[.val (.long q0), .second, .val (.long q1), .second, .val (.int p2), .val (.int p3), .val (.long (9223372036854775807 : Int64)), .second, .val (.long a), .second, .val (.long b), .second, .val (.long (own_times a b)), .second, .val (.int (0 : Int32))] [(.int (1 : Int32))]) _
        refine own_go (fun _ => XS.goto X1.here hx rfl (pc0 := 116) (pc' := 120) rfl (hb hby at_116) (by decide) (by decide)) ?_
        show own_Ends p e below T1 (mkF m 120 #[.val (.long q0), .second, .val (.long q1), .second, .val (.int p2), .val (.int p3), .val (.long (9223372036854775807 : Int64)), .second, .val (.long a), .second, .val (.long b), .second, .val (.long (own_times a b)), .second, .val (.int (0 : Int32))] [(.int (1 : Int32))]) _
        obtain ⟨fs, hr, hrun, hended, hW, hsame⟩ := X1.leave (v := some (.int (1 : Int32))) (fun h => by rw [Bd.returns] at h; cases h)
        refine ⟨_, _, retN X1 hx (t := .boolean) Bd.returns (by simp) (hb hby at_120) hr, hrun, hended, _, _, rfl, ?_, ⟨_, rfl⟩, hW, hsame.mono (by decide) (by decide)⟩
        show Q_rm0 Z q0 q1 p2 p3 h0 n0 _ T1.heap _
        rw [eh1]
        exact ⟨rfl, N1⟩
set_option maxRecDepth 65536 in
set_option maxHeartbeats 40000000 in
theorem comes_1 {Post : Tables → Env → Array Value → State → Outcome → State → Prop} (hpost : ∀ tb e args s v u, (limb_1_1.after args s (.returned v) u = true ∧ limb_1_2.after args s (.returned v) u = true ∧ True) → FrameEnd s (.returned v) u (Jvm.fieldLocs frame_1_writes args s ++ Jvm.arrayLocs frame_1_arrays args s ++ Jvm.staticLocs frame_1_statics s) 0 0 → Post tb e args s (.returned v) u) :
    ArmFor flags0 classFile x code maxLocals ret World_1 tables_1 room_1 Calls_1 rest_1 Pre_1 Post := by
  intro l hfl _ _ p e ha hc hk s m args below hf hA hF happ hP
  obtain ⟨hcalls, hrest, hpre⟩ := hP
  obtain ⟨-, -, -, hnamed, -, -, -, hat⟩ := (Spec.applies_iff hf).mp happ
  obtain ⟨hg, hn⟩ := and_e (Cond.before_iff.mp (show (Jvm.Cond.and given_1 narrow_1).before args s = true from hpre))
  obtain ⟨gv1, gv2⟩ := and_e hg
  obtain ⟨gv3, gv4⟩ := and_e gv2
  obtain ⟨gv5, gv6⟩ := and_e gv4
  obtain ⟨gv7, gv8⟩ := and_e gv6
  obtain ⟨w0, w1, w2, w3, rfl⟩ : ∃ w0 w1 w2 w3 : Value, args = #[w0, w1, w2, w3] := by
    have hs : args.size = 4 := by simpa [Cond.value, given_1] using gv1
    obtain ⟨L⟩ := args
    match L, hs with
    | [w0, w1, w2, w3], _ => exact ⟨w0, w1, w2, w3, rfl⟩
  have hw := fun d (hd : d ∈ tables_1) => atoms_spec (ws := Jvm.Cond.code x code maxLocals ret :: tables_1) hat d (List.mem_cons_of_mem _ hd)
  obtain ⟨i0, ei0⟩ := isL_v gv3
  obtain rfl : w0 = (.long i0) := Option.some.inj ei0
  obtain ⟨i1, ei1⟩ := isL_v gv5
  obtain rfl : w1 = (.long i1) := Option.some.inj ei1
  obtain ⟨i2, ei2⟩ := is_v gv7
  obtain rfl : w2 = (.int i2) := Option.some.inj ei2
  obtain ⟨i3, ei3⟩ := is_v gv8
  obtain rfl : w3 = (.int i3) := Option.some.inj ei3
  obtain ⟨n, o, h1, h2, h3, _, L, rfl, ⟨rfl, N⟩, hq⟩ := rm0 l s _ hw tables_1 i0 i1 i2 i3 s.heap s.heap.size (Nat.le_refl _) p e ha hc hk s m _ below hf ((Spec.applies_iff_loose hf).mp happ).1 ⟨rfl, State.Warmed39.refl s, rfl⟩ trivial
  refine ⟨n, _, h1, h2, h3, hpost _ _ _ _ _ _ ⟨Cond.after_iff.mpr rfl, Cond.after_iff.mpr (eq_i res_at (Term.int_eval (1)) rfl), trivial⟩ ⟨hq.1, hq.2.1, (hq.2.2.sift fun y hy => Or.inr (N y hy)).mono (by decide) (by decide)⟩⟩
theorem main_1_1 : Claimed_1_1 := comes_1 fun _ _ _ _ _ _ h hF => ⟨h.1, hF⟩
theorem main_1_2 : Claimed_1_2 := comes_1 fun _ _ _ _ _ _ h hF => ⟨h.2.1, hF⟩
end Jvm.Pilot.@@N@@
namespace Jvm.Pilot.@@N@@
open Jvm Jvm.ClassFile Sem Op Lib Jvm.Free Jvm.Stand Jvm.Pilot.@@N@@.Jvm.D
/-! MADE BY PROGRAM (witnessworld.py) out of the Statement's table words and the real class files: 9 classes; the members and pool entries that the words name. The judged class is class 1, her method 1. -/
namespace start1
open Jvm.ClassFile
def u (s : String) : CpInfo := .utf8 (stringToUtf16 s)
/-- a pool by its gaps: so many unusable entries, then the entry; so many at the end -/
def gap : Nat → List CpInfo → List CpInfo
  | 0, r => r
  | n + 1, r => .unusable :: gap n r
def poolList (es : List (Nat × CpInfo)) (last : Nat) : List CpInfo := es.foldr (fun e r => gap e.1 (e.2 :: r)) (gap last [])
def pool (es : List (Nat × CpInfo)) (last : Nat) : Array CpInfo := ⟨poolList es last⟩
def fileOf (pool : Array CpInfo) (this : Nat) (attrs : Array Attribute := #[]) (ms : Array MethodInfo := #[]) (fl : Nat := 33) (sup : Nat := 0) (ifs : Array Nat := #[]) (fds : Array FieldInfo := #[]) : ClassFile where
  minorVersion := 0
  majorVersion := 65
  constantPool := pool
  accessFlags := fl
  thisClass := this
  superClass := sup
  interfaces := ifs
  fields := fds
  methods := ms
  attributes := attrs
def plain (name : String) (sup : Option ClassId) : Class where
  name := name
  kind := .ordinary
  loader := none
  accessFlags := 33
  super := sup
  interfaces := #[]
  cf := none
  fields := #[]
  methods := #[]
  instanceTypes := #[]
  staticTypes := #[]
  resolved := #[]
  callSites := []
  init := .initialized
  statics := none
  mirror := none

def pool0 : Array CpInfo := pool [(5, u "<init>"), (0, u "()V"), (1, .class_ 10), (1, u "java/lang/Object")] 113

def k0m0 : Method := { name := "<init>", desc := "()V", sig := { parameters := [], returnType := none }, accessFlags := 1, code := none }
/-- java/lang/Object -/
def k0 : Class := { plain "java/lang/Object" none with
  accessFlags := 33
  interfaces := #[]
  cf := some (fileOf pool0 8 #[] #[{ accessFlags := 1, nameIndex := 5, descriptorIndex := 6, attributes := #[] }] 33 0 #[] #[])
  fields := #[]
  methods := #[k0m0]
  instanceTypes := #[]
  staticTypes := #[]
  resolved := Array.replicate 124 none
  statics := none }

def pool1 : Array CpInfo := pool [(2, .class_ 4), (1, u "java/lang/Object"), (0, u "<init>"), (0, u "()V"), (2, .long 9223372036854775807), (1, .methodref 12 13), (0, .class_ 14), (0, .nameAndType 15 16), (0, u "com/example/topic_contracts/topiccontracts/contract/RegexPart"), (0, u "times"), (0, u "(JJ)J"), (0, .class_ 18), (0, u "com/example/topic_contracts/topiccontracts/contract/RegexPartTimesPinLaw"), (2, u "law"), (0, u "(JJII)Z")] 3

def k1m0 : Method := { name := "<init>", desc := "()V", sig := { parameters := [], returnType := none }, accessFlags := 1, code := none }
def k1c1 : Code := { maxStack := 6, maxLocals := 15, code := code, exceptionTable := #[], attributes := #[] }
def k1m1 : Method := { name := "law", desc := "(JJII)Z", sig := { parameters := [.long, .long, .int, .int], returnType := some .boolean }, accessFlags := 9, code := some k1c1 }
/-- com/example/topic_contracts/topiccontracts/contract/RegexPartTimesPinLaw -/
def k1 : Class := { plain "com/example/topic_contracts/topiccontracts/contract/RegexPartTimesPinLaw" (some 0) with
  accessFlags := 49
  interfaces := #[]
  cf := some (fileOf pool1 17 #[] #[{ accessFlags := 1, nameIndex := 5, descriptorIndex := 6, attributes := #[] }, { accessFlags := 9, nameIndex := 21, descriptorIndex := 22, attributes := #[] }] 49 2 #[] #[])
  fields := #[]
  methods := #[k1m0, k1m1]
  instanceTypes := #[]
  staticTypes := #[]
  resolved := Array.replicate 26 none
  statics := none }

def pool2 : Array CpInfo := pool [(4, .class_ 6), (1, u "java/lang/Object"), (3, .class_ 12), (1, u "com/example/topic_contracts/topiccontracts/contract/RegexPart"), (0, u "min"), (0, u "J"), (2, u "max"), (2, u "size"), (0, .long 9223372036854775807), (1, u "UNBOUNDED"), (1, u "READABLE"), (0, u "Ljava/lang/String;"), (11, u "times"), (0, u "(JJ)J"), (5, .class_ 46), (0, u "com/example/topic_contracts/topiccontracts/contract/RegexPart$Repeat"), (0, .class_ 48), (0, u "com/example/topic_contracts/topiccontracts/contract/RegexPart$Choice"), (0, .class_ 50), (0, u "com/example/topic_contracts/topiccontracts/contract/RegexPart$Sequence"), (0, .class_ 52), (0, u "com/example/topic_contracts/topiccontracts/contract/RegexPart$CharSet"), (0, .class_ 54), (0, u "com/example/topic_contracts/topiccontracts/contract/RegexPart$Look"), (0, .class_ 56), (0, u "com/example/topic_contracts/topiccontracts/contract/RegexPart$Anchor")] 12

def k2c0 : Code := { maxStack := 6, maxLocals := 4, code := prog_31_method_5_code, exceptionTable := #[], attributes := #[] }
def k2m0 : Method := { name := "times", desc := "(JJ)J", sig := { parameters := [.long, .long], returnType := some .long }, accessFlags := 8, code := some k2c0 }
/-- com/example/topic_contracts/topiccontracts/contract/RegexPart -/
def k2 : Class := { plain "com/example/topic_contracts/topiccontracts/contract/RegexPart" (some 0) with
  accessFlags := 1056
  interfaces := #[]
  cf := some (fileOf pool2 10 #[.nestMembers #[45, 47, 49, 51, 53, 55]] #[{ accessFlags := 8, nameIndex := 38, descriptorIndex := 39, attributes := #[] }] 1056 4 #[] #[{ accessFlags := 24, nameIndex := 23, descriptorIndex := 14, attributes := #[] }, { accessFlags := 26, nameIndex := 25, descriptorIndex := 26, attributes := #[] }, { accessFlags := 16, nameIndex := 13, descriptorIndex := 14, attributes := #[] }, { accessFlags := 16, nameIndex := 17, descriptorIndex := 14, attributes := #[] }, { accessFlags := 16, nameIndex := 20, descriptorIndex := 14, attributes := #[] }])
  fields := #[{ name := "UNBOUNDED", type := .long, accessFlags := 24, slot := 0, constantValue := 0 }, { name := "READABLE", type := (.object "java/lang/String"), accessFlags := 26, slot := 1, constantValue := 0 }, { name := "min", type := .long, accessFlags := 16, slot := 0, constantValue := 0 }, { name := "max", type := .long, accessFlags := 16, slot := 1, constantValue := 0 }, { name := "size", type := .long, accessFlags := 16, slot := 2, constantValue := 0 }]
  methods := #[k2m0]
  instanceTypes := #[.long, .long, .long]
  staticTypes := #[.long, (.object "java/lang/String")]
  resolved := Array.replicate 69 none
  statics := none }

def pool3 : Array CpInfo := pool [(1, u "java/lang/Cloneable"), (0, .class_ 1), (0, u "java/lang/Object"), (0, .class_ 3)] 3

/-- java/lang/Cloneable -/
def k3 : Class := { plain "java/lang/Cloneable" (some 0) with
  accessFlags := 1537
  interfaces := #[]
  cf := some (fileOf pool3 2 #[] #[] 1537 4 #[] #[])
  fields := #[]
  methods := #[]
  instanceTypes := #[]
  staticTypes := #[]
  resolved := Array.replicate 8 none
  statics := none }

def pool4 : Array CpInfo := pool [(1, u "java/io/Serializable"), (0, .class_ 1), (0, u "java/lang/Object"), (0, .class_ 3)] 3

/-- java/io/Serializable -/
def k4 : Class := { plain "java/io/Serializable" (some 0) with
  accessFlags := 1537
  interfaces := #[]
  cf := some (fileOf pool4 2 #[] #[] 1537 4 #[] #[])
  fields := #[]
  methods := #[]
  instanceTypes := #[]
  staticTypes := #[]
  resolved := Array.replicate 8 none
  statics := none }

/-- the primitive byte -/
def k5 : Class := { plain "byte" none with kind := .primitive 'B', accessFlags := 0x411 }
/-- [B -/
def k6 : Class := { plain "[B" (some 0) with kind := .array 5 .byte, interfaces := #[3, 4], accessFlags := 1041 }

/-- the primitive int -/
def k7 : Class := { plain "int" none with kind := .primitive 'I', accessFlags := 0x411 }
/-- [I -/
def k8 : Class := { plain "[I" (some 0) with kind := .array 7 .int, interfaces := #[3, 4], accessFlags := 1041 }

def heap : Heap := #[]
def classes : Array Class := #[k0, k1, k2, k3, k4, k5, k6, k7, k8]
def interned : List (Array UInt16 × Addr) := []
def slotsUsed : Nat := 0
def theMethod : MethodId := ⟨1, 1⟩
def args0 : Array Value := #[.long 5, .long 7, .int 3, .int 4]
def aboutOver (below : List Frame) : State where
  vm := { classes := classes, interned := interned.toArray }
  heap := heap
  slotsUsed := slotsUsed
  threads := #[{ frames := .invoking theMethod args0 :: below }]
def below0 : List Frame := [.native { method := ⟨0, 0⟩, args := #[] }]
def about1 : State := aboutOver below0
def p0 : Program := .bare "" "" ""
def e0 : Env := launch0.env 0 0 0
theorem w_frames : about1.frames = Frame.invoking theMethod args0 :: below0 := rfl
set_option maxRecDepth 65536 in
theorem w_args : argsFit about1.vm theMethod args0 = true := by decide +kernel
set_option maxRecDepth 65536 in
theorem w_heap : heapFits about1 = true := by decide +kernel
set_option maxRecDepth 65536 in
theorem w_runnable : about1.curStatus? = some .runnable := by decide +kernel
set_option maxRecDepth 65536 in
theorem w_alone : about1.alone = true := by decide +kernel
set_option maxRecDepth 65536 in
theorem w_named : about1.methodNamed? x = some theMethod := by decide +kernel
set_option maxRecDepth 65536 in
theorem w_hears : about1.hears theMethod below0 = true := by decide +kernel
set_option maxRecDepth 65536 in
theorem w_ripe : about1.ripe theMethod args0 below0 = true := by decide +kernel
theorem w_running : about1.status = .running := rfl
set_option maxRecDepth 65536 in
theorem w_room : about1.hasRoom e0.platform room_1 = true :=
  launch0.hasRoom_least _ room_1 (by decide +kernel) (by decide +kernel) (by decide +kernel) (by decide +kernel) (by decide +kernel) (by decide +kernel)
theorem allAtoms_all (ts : List Jvm.Cond) (a : Array Jvm.Value) (st : Jvm.State) : (allAtoms ts).before a st = ts.all (fun c => c.before a st) := by
  induction ts with
  | nil => rfl
  | cons c t ih =>
    show (Jvm.Cond.and c (allAtoms t)).before a st = _
    rw [Jvm.Cond.before_and, ih, List.all_cons]
def words1 : List Jvm.Cond := Jvm.Cond.code x code maxLocals ret :: tables_1
/-- a 'code' word, met by the world's own term for the bytes: nothing is compared byte by byte -/
theorem code_word {y : MethodName} {bytes : ByteArray} {mx : Nat} {rt : Option FieldType} {a : Array Value} {s : State} {m : MethodId} {meth : Method} {c : Code} (h1 : s.methodNamed? y = some m) (h2 : s.vm.method? m = some meth) (h3 : meth.code = some c) (h4 : c.code = bytes)
    (h5 : (c.maxLocals == mx && c.exceptionTable.isEmpty && decide (c.maxStack ≤ mostOperands) && decide (meth.sig.returnType = rt) && !meth.locks && decide (parseMethodDescriptor y.desc = some meth.sig)) = true) : (Jvm.Cond.code y bytes mx rt).before a s = true := by
  simp only [Bool.and_eq_true, beq_iff_eq, Bool.not_eq_true', decide_eq_true_eq] at h5
  obtain ⟨⟨⟨⟨⟨g1, g2⟩, g3⟩, g4⟩, g5⟩, g6⟩ := h5
  simp [Cond.before, Cond.holds, Cond.value, h1, h2, h3, h4, g1, g2, g3, g4, g5, g6]
def isCode : Jvm.Cond → Bool
  | .code _ _ _ _ => true
  | _ => false
theorem all_split {L : List Jvm.Cond} {P : Jvm.Cond → Bool} (h1 : L.all (fun c => isCode c || P c) = true) (h2 : ∀ c ∈ L.filter isCode, P c = true) : L.all P = true := by
  refine List.all_eq_true.mpr fun c hc => ?_
  have h := List.all_eq_true.mp h1 c hc
  rcases Bool.eq_false_or_eq_true (isCode c) with hi | hi
  · exact h2 c (List.mem_filter.mpr ⟨hc, hi⟩)
  · simpa [hi] using h
set_option maxRecDepth 65536 in
theorem w_c0 : (Jvm.Cond.code x code maxLocals ret).before args0 about1 = true := code_word (m := ⟨1, 1⟩) (meth := k1m1) (c := k1c1) (by decide +kernel) rfl rfl rfl (by decide +kernel)
set_option maxRecDepth 65536 in
theorem w_c1 : (Jvm.Cond.code ({ cls := "com/example/topic_contracts/topiccontracts/contract/RegexPart", name := "times", desc := "(JJ)J" } : Jvm.MethodName) prog_31_method_5_code (4 : Nat) (Option.some Jvm.ClassFile.FieldType.long)).before args0 about1 = true := code_word (m := ⟨2, 0⟩) (meth := k2m0) (c := k2c0) (by decide +kernel) rfl rfl rfl (by decide +kernel)
def codes1 : List Jvm.Cond := [Jvm.Cond.code x code maxLocals ret, Jvm.Cond.code ({ cls := "com/example/topic_contracts/topiccontracts/contract/RegexPart", name := "times", desc := "(JJ)J" } : Jvm.MethodName) prog_31_method_5_code (4 : Nat) (Option.some Jvm.ClassFile.FieldType.long)]
set_option maxRecDepth 65536 in
theorem codes_eq : words1.filter isCode = codes1 := rfl
theorem w_codes : ∀ c ∈ words1.filter isCode, c.before args0 about1 = true := by
  rw [codes_eq]
  intro c hc
  simp only [codes1, List.mem_cons, List.not_mem_nil, or_false] at hc
  rcases hc with rfl | rfl
  · exact w_c0
  · exact w_c1
set_option maxRecDepth 65536 in
theorem w_t1 : words1.all (fun c => isCode c || c.before args0 about1) = true := by decide +kernel
theorem w_tables : (allAtoms (Jvm.Cond.code x code maxLocals ret :: tables_1)).before args0 about1 = true := by
  rw [allAtoms_all]
  show words1.all (fun c => c.before args0 about1) = true
  refine all_split ?_ w_codes
  rw [w_t1]
set_option maxRecDepth 65536 in
theorem w_case : (Jvm.Cond.and given_1 narrow_1).before args0 about1 = true := by decide +kernel
theorem w_applies : (headSpec (Jvm.Cond.code x code maxLocals ret :: tables_1) room_1).applies x e0.platform about1 = true :=
  (Spec.applies_iff w_frames).mpr ⟨w_running, w_runnable, w_alone, w_named, w_hears, w_ripe, w_room, w_tables⟩
theorem atStart : AtStart classFile x code maxLocals ret World_1 tables_1 room_1 Calls_1 rest_1 Pre_1 launch0 p0 e0 about1 theMethod args0 below0 :=
  ⟨lists_1, trivial, launch0.admits_env _ _ _, launch0.least_env, fairChoices_fair.cas, fairChoices_fair.clock, w_frames, w_args, w_heap, w_applies, trivial, trivial, w_case⟩
end start1
theorem witness_1 : WitnessClaimed_1 := ⟨start1.p0, start1.e0, start1.about1, start1.theMethod, start1.args0, start1.below0, start1.atStart⟩
end Jvm.Pilot.@@N@@
