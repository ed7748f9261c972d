import JvmDerived
import JvmDerived.Pilot.@@N@@Statement
import JvmDerived.Pilot.@@N@@Code
set_option linter.unusedVariables false
set_option linter.unusedSimpArgs false
namespace Jvm.RoadKit
open Sem ClassFile Op Lib Jvm.Stand Jvm.Free Jvm.LawKit
section New
variable {p : Program} {l : Launch} {e : Env} {R : Room} {s : State} {m : MethodId} {args : Array Value} {below : List Frame} {meth : Method} {c : Code} {T : State} {locs : List Loc} {cells slots : Nat}
theorem retI (X : Stand p l e R s m args below meth c T locs cells slots) (hx : p.tables.exec = Jvm.exec) {pc : Nat} {Ls : Array Slot} {z : Int32} {rest : List Value} (hret : meth.sig.returnType = some .int) (hd : decode c.code pc = .ok (.ireturn, 1)) {fs : List Frame}
    (hl : ∀ (f : JFrame) (acts : List Action), f.method = m → f.locked = none → f.entered = [] → (doReturn e (T.setTop f) acts (some (.int z))).1 = T.setFrames fs) : Steps p.tables e below (T.setTop (mkF m pc Ls (.int z :: rest))) (T.setFrames fs) := by
  have hm' : T.vm.method? m = some meth := X.method'
  have hn : narrow .int (.int z) = .int z := rfl
  show Steps p.tables e below (T.setTop { method := m, pc := pc, locals := Ls, stack := _ :: rest, locked := none }) _
  jvm_step X.here [X.here.top, hx, hd, hm', hret, hn]
  first | (intro acts; rw [hl _ acts rfl rfl rfl]) | rw [hl _ _ rfl rfl rfl]
  exact Steps.refl _
end New
end Jvm.RoadKit
namespace Jvm.Pilot.@@N@@
open Jvm Jvm.ClassFile Sem Op Lib Jvm.Free Jvm.Stand Jvm.LawKit Jvm.RoadKit Bundle Jvm.Pilot.@@N@@.Jvm.D
def own_Ends (p : Program) (e : Env) (below : List Frame) (T : State) (g : JFrame) (P : Outcome → State → Prop) : Prop := ∃ s₂ o, Steps p.tables e below (T.setTop g) s₂ ∧ s₂.status = .running ∧ Ended s₂ below o ∧ P o s₂
theorem own_go {p : Program} {e : Env} {below : List Frame} {T T' : State} {g g' : JFrame} {P : Outcome → State → Prop} (h : ∀ t, Steps p.tables e below (T'.setTop g') t → Steps p.tables e below (T.setTop g) t) (k : own_Ends p e below T' g' P) : own_Ends p e below T g P := by
  obtain ⟨a, o, q, r⟩ := k
  exact ⟨a, o, h _ q, r⟩
def own_Len (Z : State) (h : Heap) (a : Addr) (ty : FieldType) (n : Int32) : Prop := ∃ c : Cell, Arr Z h a c ty ∧ c.slots.size = n.toNatClampNeg ∧ ¬ n < 0
theorem own_Len.lt {Z : State} {h : Heap} {a : Addr} {ty : FieldType} {n : Int32} (F : own_Len Z h a ty n) : a < h.size := by obtain ⟨c, A, -⟩ := F; exact A.lt
theorem own_Len.ext {Z : State} {h h' : Heap} {a : Addr} {ty : FieldType} {n : Int32} (F : own_Len Z h a ty n) (E : Ext h h') : own_Len Z h' a ty n := by obtain ⟨c, A, r⟩ := F; exact ⟨c, A.ext E, r⟩
theorem own_Len.other {Z : State} {h h' : Heap} {a b : Addr} {ty : FieldType} {n : Int32} {sl : Nat} {v : Value} (F : own_Len Z h b ty n) (W : Wr h h' a sl v) (q : b ≠ a) : own_Len Z h' b ty n := by obtain ⟨c, A, r⟩ := F; exact ⟨c, A.other W q, r⟩
theorem own_Len.same {Z : State} {h h' : Heap} {a : Addr} {ty : FieldType} {n : Int32} {sl : Nat} {v : Value} (F : own_Len Z h a ty n) (W : Wr h h' a sl v) : own_Len Z h' a ty n := by obtain ⟨c, A, r1, r2⟩ := F; exact ⟨_, A.same W, by rw [sz_set]; exact r1, r2⟩
theorem own_Len.keep {Z : State} {h h' : Heap} {a : Addr} {ty : FieldType} {n : Int32} {ws : List Addr} (F : own_Len Z h a ty n) (K : Keep h h' ws) (q : a ∉ ws) : own_Len Z h' a ty n := by obtain ⟨c, A, r⟩ := F; exact ⟨c, ⟨K.2.1 a c A.1 q, A.2⟩, r⟩
theorem own_as {p : Program} {e : Env} {below : List Frame} {T : State} {g g' : JFrame} {P : Outcome → State → Prop} (h : g = g') (k : own_Ends p e below T g' P) : own_Ends p e below T g P := h ▸ k

theorem own_ltC {x c : Int32} (n : Int) (h : c.toInt = n) : x < c ↔ x.toInt < n := by rw [Int32.lt_iff_toInt_lt, h]
theorem own_Clt {x c : Int32} (n : Int) (h : c.toInt = n) : c < x ↔ n < x.toInt := by rw [Int32.lt_iff_toInt_lt, h]
theorem own_eqC {x c : Int32} (n : Int) (h : c.toInt = n) : x = c ↔ x.toInt = n := by rw [← Int32.toInt_inj, h]
theorem own_lt2 {x y : Int32} : x < y ↔ x.toInt < y.toInt := Int32.lt_iff_toInt_lt
theorem own_lt {c b b' : Int32} (h : c < b') (q : ¬ b < b') : c < b := by rw [Int32.lt_iff_toInt_lt] at *; omega
theorem own_nlt {c b b' : Int32} (h : ¬ c < b') (q : ¬ b' < b) : ¬ c < b := by rw [Int32.lt_iff_toInt_lt] at *; omega
theorem own_gt {c b b' : Int32} (h : ¬ c < b') (q : b < b') : b < c := by rw [Int32.lt_iff_toInt_lt] at *; omega
theorem own_ngt {c b b' : Int32} (h : c < b') (q : b'.toInt ≤ b.toInt + 1) : ¬ b < c := by rw [Int32.lt_iff_toInt_lt] at *; omega
theorem own_eq {c b b' : Int32} (h : ¬ c < b) (h2 : c < b') (q : b'.toInt ≤ b.toInt + 1) : c = b := by rw [Int32.lt_iff_toInt_lt] at *; exact Int32.toInt_inj.mp (by omega)
theorem own_ne1 {c b b' : Int32} (h : ¬ c < b') (q : b < b') : ¬ c = b := fun e => by rw [e] at h; exact h q
theorem own_ne2 {c b b' : Int32} (h : c < b') (q : ¬ b < b') : ¬ c = b := fun e => by rw [e] at h; exact q h
def own_P1 (s e l a b c : Int32) : Prop := (194 ≤ l.toInt ∧ l.toInt ≤ 223) ∧ s.toInt + 1 < e.toInt ∧ (128 ≤ a.toInt ∧ a.toInt ≤ 191)
def own_P2 (s e l a b c : Int32) : Prop := (224 ≤ l.toInt ∧ l.toInt ≤ 239) ∧ s.toInt + 2 < e.toInt ∧ (128 ≤ a.toInt ∧ a.toInt ≤ 191) ∧ (l.toInt = 224 → 160 ≤ a.toInt) ∧ (l.toInt = 237 → a.toInt ≤ 159) ∧ (128 ≤ b.toInt ∧ b.toInt ≤ 191)
def own_P3 (s e l a b c : Int32) : Prop := (240 ≤ l.toInt ∧ l.toInt ≤ 244) ∧ s.toInt + 3 < e.toInt ∧ (128 ≤ a.toInt ∧ a.toInt ≤ 191) ∧ (l.toInt = 240 → 144 ≤ a.toInt) ∧ (l.toInt = 244 → a.toInt ≤ 143) ∧ (128 ≤ b.toInt ∧ b.toInt ≤ 191) ∧ (128 ≤ c.toInt ∧ c.toInt ≤ 191)
/-- what the answer is -/
def own_A (s e l a b c v : Int32) : Prop := (own_P1 s e l a b c → v = s + 2) ∧ (own_P2 s e l a b c → v = s + 3) ∧ (own_P3 s e l a b c → v = s + 4) ∧ (¬ own_P1 s e l a b c → ¬ own_P2 s e l a b c → ¬ own_P3 s e l a b c → v = -1)
theorem own_A_uniq {s e l a b c v w : Int32} (h : own_A s e l a b c v) (k : own_A s e l a b c w) : v = w := by
  by_cases q1 : own_P1 s e l a b c
  · rw [h.1 q1, k.1 q1]
  · by_cases q2 : own_P2 s e l a b c
    · rw [h.2.1 q2, k.2.1 q2]
    · by_cases q3 : own_P3 s e l a b c
      · rw [h.2.2.1 q3, k.2.2.1 q3]
      · rw [h.2.2.2 q1 q2 q3, k.2.2.2 q1 q2 q3]
theorem own_A0 {s e l a b c : Int32} (h1 : ¬ own_P1 s e l a b c) (h2 : ¬ own_P2 s e l a b c) (h3 : ¬ own_P3 s e l a b c) : own_A s e l a b c (-1 : Int32) := ⟨fun q => absurd q h1, fun q => absurd q h2, fun q => absurd q h3, fun _ _ _ => rfl⟩
theorem own_A1 {s e l a b c v : Int32} (h : own_P1 s e l a b c) (hv : v = s + 2) : own_A s e l a b c v := ⟨fun _ => hv, fun q => absurd h.1 (by have := q.1; omega), fun q => absurd h.1 (by have := q.1; omega), fun q _ _ => absurd h q⟩
theorem own_A2 {s e l a b c v : Int32} (h : own_P2 s e l a b c) (hv : v = s + 3) : own_A s e l a b c v := ⟨fun q => absurd h.1 (by have := q.1; omega), fun _ => hv, fun q => absurd h.1 (by have := q.1; omega), fun _ q _ => absurd h q⟩
theorem own_A3 {s e l a b c v : Int32} (h : own_P3 s e l a b c) (hv : v = s + 4) : own_A s e l a b c v := ⟨fun q => absurd h.1 (by have := q.1; omega), fun q => absurd h.1 (by have := q.1; omega), fun _ => hv, fun _ _ q => absurd h q⟩
theorem own_s (s : Int32) (h : 0 ≤ s.toInt ∧ s.toInt ≤ 1) : (s + (1 : Int32)).toInt = s.toInt + 1 ∧ (s + (2 : Int32)).toInt = s.toInt + 2 ∧ (s + (3 : Int32)).toInt = s.toInt + 3 ∧ ((s + (1 : Int32)) + (1 : Int32)).toInt = s.toInt + 2 ∧ ((s + (2 : Int32)) + (1 : Int32)).toInt = s.toInt + 3 ∧ ((s + (3 : Int32)) + (1 : Int32)).toInt = s.toInt + 4 := by
  have e1 : (1 : Int32).toInt = 1 := by decide
  have e2 : (2 : Int32).toInt = 2 := by decide
  have e3 : (3 : Int32).toInt = 3 := by decide
  have a1 := c_iadd s 1
  have a2 := c_iadd s 2
  have a3 := c_iadd s 3
  have a4 := c_iadd (s + 1) 1
  have a5 := c_iadd (s + 2) 1
  have a6 := c_iadd (s + 3) 1
  have r1 := rng32 (s + 1)
  have r2 := rng32 (s + 2)
  have r3 := rng32 (s + 3)
  have r4 := rng32 (s + 1 + 1)
  have r5 := rng32 (s + 2 + 1)
  have r6 := rng32 (s + 3 + 1)
  omega
theorem own_in (s : Int32) (h : 0 ≤ s.toInt ∧ s.toInt ≤ 1) : (¬ s < 0 ∧ s < (6 : Int32)) ∧ (¬ (s + (1 : Int32)) < 0 ∧ (s + (1 : Int32)) < (6 : Int32)) ∧ (¬ (s + (2 : Int32)) < 0 ∧ (s + (2 : Int32)) < (6 : Int32)) ∧ (¬ (s + (3 : Int32)) < 0 ∧ (s + (3 : Int32)) < (6 : Int32)) := by
  obtain ⟨q1, q2, q3, -⟩ := own_s s h
  have e0 : (0 : Int32).toInt = 0 := by decide
  have e6 : (6 : Int32).toInt = 6 := by decide
  simp only [Int32.lt_iff_toInt_lt, e0, e6]
  omega
theorem own_as2 (s : Int32) : (s + (1 : Int32)) + (1 : Int32) = s + 2 := by rw [Int32.add_assoc]; rfl
theorem own_as3 (s : Int32) : (s + (2 : Int32)) + (1 : Int32) = s + 3 := by rw [Int32.add_assoc]; rfl
theorem own_as4 (s : Int32) : (s + (3 : Int32)) + (1 : Int32) = s + 4 := by rw [Int32.add_assoc]; rfl
theorem own_sh (c : Int32) : (c >>> ((6 : Int32) &&& 31)).toInt = c.toInt / 64 := c_ishr c 6 6 (by decide)
theorem own_t256 : ∀ k : Fin 256, ((Int32.ofInt (k.val : Int) &&& (192 : Int32)) = (128 : Int32)) ↔ (128 ≤ k.val ∧ k.val < 192) := by decide +kernel
theorem own_top {c : Int32} (h : 0 ≤ c.toInt ∧ c.toInt < 256) : ((c &&& (192 : Int32)) = (128 : Int32)) ↔ (128 ≤ c.toInt ∧ c.toInt < 192) := by
  have q := own_t256 ⟨c.toInt.toNat, by omega⟩
  have e : ((c.toInt.toNat : Nat) : Int) = c.toInt := by omega
  simp only [e, Int32.ofInt_toInt] at q
  rw [q]
  omega
theorem own_or {a b : Int32} (k : Nat) (hk : k ≤ 24) (ha : a.toInt % (2 ^ k : Nat) = 0) (h0 : 0 ≤ a.toInt) (h1 : a.toInt < 16777216) (hb : 0 ≤ b.toInt) (hb1 : b.toInt < (2 ^ k : Nat)) : (a ||| b).toInt = a.toInt + b.toInt := by
  have q := c_or a b k (by omega) _ rfl ha hb hb1
  have h4 : 2 ^ k ≤ 2 ^ 24 := Nat.pow_le_pow_right (by decide) hk
  have r := rng32 (a ||| b)
  omega
theorem own_c2 (l a : Int32) : (((l &&& (31 : Int32)) <<< ((6 : Int32) &&& 31)) ||| (a &&& (63 : Int32))).toInt = l.toInt % 32 * 64 + a.toInt % 64 := by
  have m1 := c_mask l 31 5 (by decide) (by decide)
  have m2 := c_mask a 63 6 (by decide) (by decide)
  have s1 := c_ishl (l &&& 31) 6 6 (by decide)
  have r1 := rng32 ((l &&& 31) <<< ((6 : Int32) &&& 31))
  have e1 : ((l &&& 31) <<< ((6 : Int32) &&& 31)).toInt = l.toInt % 32 * 64 := by omega
  rw [own_or 6 (by decide) (by omega) (by omega) (by omega) (by omega) (by omega), e1]
  omega
theorem own_c3 (l a b : Int32) : ((((l &&& (15 : Int32)) <<< ((12 : Int32) &&& 31)) ||| ((a &&& (63 : Int32)) <<< ((6 : Int32) &&& 31))) ||| (b &&& (63 : Int32))).toInt = l.toInt % 16 * 4096 + a.toInt % 64 * 64 + b.toInt % 64 := by
  have m1 := c_mask l 15 4 (by decide) (by decide)
  have m2 := c_mask a 63 6 (by decide) (by decide)
  have m3 := c_mask b 63 6 (by decide) (by decide)
  have s1 := c_ishl (l &&& 15) 12 12 (by decide)
  have s2 := c_ishl (a &&& 63) 6 6 (by decide)
  have r1 := rng32 ((l &&& 15) <<< ((12 : Int32) &&& 31))
  have r2 := rng32 ((a &&& 63) <<< ((6 : Int32) &&& 31))
  have e1 : ((l &&& 15) <<< ((12 : Int32) &&& 31)).toInt = l.toInt % 16 * 4096 := by omega
  have e2 : ((a &&& 63) <<< ((6 : Int32) &&& 31)).toInt = a.toInt % 64 * 64 := by omega
  have o1 := own_or (a := (l &&& 15) <<< ((12 : Int32) &&& 31)) (b := (a &&& 63) <<< ((6 : Int32) &&& 31)) 12 (by decide) (by omega) (by omega) (by omega) (by omega) (by omega)
  rw [own_or 6 (by decide) (by omega) (by omega) (by omega) (by omega) (by omega), o1, e1, e2]
  omega
theorem own_c4 (l a b c : Int32) : (((((l &&& (7 : Int32)) <<< ((18 : Int32) &&& 31)) ||| ((a &&& (63 : Int32)) <<< ((12 : Int32) &&& 31))) ||| ((b &&& (63 : Int32)) <<< ((6 : Int32) &&& 31))) ||| (c &&& (63 : Int32))).toInt = l.toInt % 8 * 262144 + a.toInt % 64 * 4096 + b.toInt % 64 * 64 + c.toInt % 64 := by
  have m1 := c_mask l 7 3 (by decide) (by decide)
  have m2 := c_mask a 63 6 (by decide) (by decide)
  have m3 := c_mask b 63 6 (by decide) (by decide)
  have m4 := c_mask c 63 6 (by decide) (by decide)
  have s1 := c_ishl (l &&& 7) 18 18 (by decide)
  have s2 := c_ishl (a &&& 63) 12 12 (by decide)
  have s3 := c_ishl (b &&& 63) 6 6 (by decide)
  have r1 := rng32 ((l &&& 7) <<< ((18 : Int32) &&& 31))
  have r2 := rng32 ((a &&& 63) <<< ((12 : Int32) &&& 31))
  have r3 := rng32 ((b &&& 63) <<< ((6 : Int32) &&& 31))
  have e1 : ((l &&& 7) <<< ((18 : Int32) &&& 31)).toInt = l.toInt % 8 * 262144 := by omega
  have e2 : ((a &&& 63) <<< ((12 : Int32) &&& 31)).toInt = a.toInt % 64 * 4096 := by omega
  have e3 : ((b &&& 63) <<< ((6 : Int32) &&& 31)).toInt = b.toInt % 64 * 64 := by omega
  have o1 := own_or (a := (l &&& 7) <<< ((18 : Int32) &&& 31)) (b := (a &&& 63) <<< ((12 : Int32) &&& 31)) 18 (by decide) (by omega) (by omega) (by omega) (by omega) (by omega)
  have o2 := own_or (a := ((l &&& 7) <<< ((18 : Int32) &&& 31)) ||| ((a &&& 63) <<< ((12 : Int32) &&& 31))) (b := (b &&& 63) <<< ((6 : Int32) &&& 31)) 12 (by decide) (by omega) (by omega) (by omega) (by omega) (by omega)
  rw [own_or 6 (by decide) (by omega) (by omega) (by omega) (by omega) (by omega), o2, o1, e1, e2, e3]
  omega
theorem own_nb (x : Int32) : (nar .byte (x.toInt8.toInt32)) &&& (255 : Int32) = x &&& (255 : Int32) := by
  apply Int32.toInt_inj.mp
  show (x.toInt8.toInt32.toInt8.toInt32 &&& (255 : Int32)).toInt = _
  rw [c_mask _ 255 8 (by decide) (by decide), c_mask x 255 8 (by decide) (by decide)]
  have h1 := (c_i2b x).1
  have h2 := (c_i2b (x.toInt8.toInt32)).1
  omega
theorem own_ld (x : Int32) : 0 ≤ (x &&& (255 : Int32)).toInt ∧ (x &&& (255 : Int32)).toInt < 256 := by
  have h := c_mask x 255 8 (by decide) (by decide)
  omega
theorem own_same {x : Int32} (h : 0 ≤ x.toInt ∧ x.toInt < 256) : x &&& (255 : Int32) = x := by
  have q := c_mask x 255 8 (by decide) (by decide)
  exact Int32.toInt_inj.mp (by omega)
theorem own_bit (x : Int32) : (x &&& (1 : Int32)) = (0 : Int32) ∨ (x &&& (1 : Int32)) = (1 : Int32) := and_one x
theorem d1_0 : decode prog_61_method_2_code 0 = .ok (.aload_n 0, 1) := by decide +kernel
theorem d1_1 : decode prog_61_method_2_code 1 = .ok (.iload_n 1, 1) := by decide +kernel
theorem d1_2 : decode prog_61_method_2_code 2 = .ok (.baload, 1) := by decide +kernel
theorem d1_3 : decode prog_61_method_2_code 3 = .ok (.sipush 255, 3) := by decide +kernel
theorem d1_6 : decode prog_61_method_2_code 6 = .ok (.iand, 1) := by decide +kernel
theorem d1_7 : decode prog_61_method_2_code 7 = .ok (.istore_n 3, 1) := by decide +kernel
theorem d1_8 : decode prog_61_method_2_code 8 = .ok (.iconst 0, 1) := by decide +kernel
theorem d1_9 : decode prog_61_method_2_code 9 = .ok (.istore 4, 2) := by decide +kernel
theorem d1_11 : decode prog_61_method_2_code 11 = .ok (.sipush 128, 3) := by decide +kernel
theorem d1_14 : decode prog_61_method_2_code 14 = .ok (.istore 5, 2) := by decide +kernel
theorem d1_16 : decode prog_61_method_2_code 16 = .ok (.sipush 191, 3) := by decide +kernel
theorem d1_19 : decode prog_61_method_2_code 19 = .ok (.istore 6, 2) := by decide +kernel
theorem d1_21 : decode prog_61_method_2_code 21 = .ok (.iload_n 3, 1) := by decide +kernel
theorem d1_22 : decode prog_61_method_2_code 22 = .ok (.sipush 194, 3) := by decide +kernel
theorem d1_25 : decode prog_61_method_2_code 25 = .ok (.if_icmp .lt 16, 3) := by decide +kernel
theorem d1_28 : decode prog_61_method_2_code 28 = .ok (.iload_n 3, 1) := by decide +kernel
theorem d1_29 : decode prog_61_method_2_code 29 = .ok (.sipush 223, 3) := by decide +kernel
theorem d1_32 : decode prog_61_method_2_code 32 = .ok (.if_icmp .gt 9, 3) := by decide +kernel
theorem d1_35 : decode prog_61_method_2_code 35 = .ok (.iconst 1, 1) := by decide +kernel
theorem d1_36 : decode prog_61_method_2_code 36 = .ok (.istore 4, 2) := by decide +kernel
theorem d1_38 : decode prog_61_method_2_code 38 = .ok (.goto 112, 3) := by decide +kernel
theorem d1_41 : decode prog_61_method_2_code 41 = .ok (.iload_n 3, 1) := by decide +kernel
theorem d1_42 : decode prog_61_method_2_code 42 = .ok (.sipush 224, 3) := by decide +kernel
theorem d1_45 : decode prog_61_method_2_code 45 = .ok (.if_icmp .lt 52, 3) := by decide +kernel
theorem d1_48 : decode prog_61_method_2_code 48 = .ok (.iload_n 3, 1) := by decide +kernel
theorem d1_49 : decode prog_61_method_2_code 49 = .ok (.sipush 239, 3) := by decide +kernel
theorem d1_52 : decode prog_61_method_2_code 52 = .ok (.if_icmp .gt 45, 3) := by decide +kernel
theorem d1_55 : decode prog_61_method_2_code 55 = .ok (.iconst 2, 1) := by decide +kernel
theorem d1_56 : decode prog_61_method_2_code 56 = .ok (.istore 4, 2) := by decide +kernel
theorem d1_58 : decode prog_61_method_2_code 58 = .ok (.iload_n 3, 1) := by decide +kernel
theorem d1_59 : decode prog_61_method_2_code 59 = .ok (.sipush 224, 3) := by decide +kernel
theorem d1_62 : decode prog_61_method_2_code 62 = .ok (.if_icmp .ne 9, 3) := by decide +kernel
theorem d1_65 : decode prog_61_method_2_code 65 = .ok (.sipush 160, 3) := by decide +kernel
theorem d1_68 : decode prog_61_method_2_code 68 = .ok (.goto 6, 3) := by decide +kernel
theorem d1_71 : decode prog_61_method_2_code 71 = .ok (.sipush 128, 3) := by decide +kernel
theorem d1_74 : decode prog_61_method_2_code 74 = .ok (.istore 5, 2) := by decide +kernel
theorem d1_76 : decode prog_61_method_2_code 76 = .ok (.iload_n 3, 1) := by decide +kernel
theorem d1_77 : decode prog_61_method_2_code 77 = .ok (.sipush 237, 3) := by decide +kernel
theorem d1_80 : decode prog_61_method_2_code 80 = .ok (.if_icmp .ne 9, 3) := by decide +kernel
theorem d1_83 : decode prog_61_method_2_code 83 = .ok (.sipush 159, 3) := by decide +kernel
theorem d1_86 : decode prog_61_method_2_code 86 = .ok (.goto 6, 3) := by decide +kernel
theorem d1_89 : decode prog_61_method_2_code 89 = .ok (.sipush 191, 3) := by decide +kernel
theorem d1_92 : decode prog_61_method_2_code 92 = .ok (.istore 6, 2) := by decide +kernel
theorem d1_94 : decode prog_61_method_2_code 94 = .ok (.goto 56, 3) := by decide +kernel
theorem d1_97 : decode prog_61_method_2_code 97 = .ok (.iload_n 3, 1) := by decide +kernel
theorem d1_98 : decode prog_61_method_2_code 98 = .ok (.sipush 240, 3) := by decide +kernel
theorem d1_101 : decode prog_61_method_2_code 101 = .ok (.if_icmp .lt 49, 3) := by decide +kernel
theorem d1_104 : decode prog_61_method_2_code 104 = .ok (.iload_n 3, 1) := by decide +kernel
theorem d1_105 : decode prog_61_method_2_code 105 = .ok (.sipush 244, 3) := by decide +kernel
theorem d1_108 : decode prog_61_method_2_code 108 = .ok (.if_icmp .gt 42, 3) := by decide +kernel
theorem d1_111 : decode prog_61_method_2_code 111 = .ok (.iconst 3, 1) := by decide +kernel
theorem d1_112 : decode prog_61_method_2_code 112 = .ok (.istore 4, 2) := by decide +kernel
theorem d1_114 : decode prog_61_method_2_code 114 = .ok (.iload_n 3, 1) := by decide +kernel
theorem d1_115 : decode prog_61_method_2_code 115 = .ok (.sipush 240, 3) := by decide +kernel
theorem d1_118 : decode prog_61_method_2_code 118 = .ok (.if_icmp .ne 9, 3) := by decide +kernel
theorem d1_121 : decode prog_61_method_2_code 121 = .ok (.sipush 144, 3) := by decide +kernel
theorem d1_124 : decode prog_61_method_2_code 124 = .ok (.goto 6, 3) := by decide +kernel
theorem d1_127 : decode prog_61_method_2_code 127 = .ok (.sipush 128, 3) := by decide +kernel
theorem d1_130 : decode prog_61_method_2_code 130 = .ok (.istore 5, 2) := by decide +kernel
theorem d1_132 : decode prog_61_method_2_code 132 = .ok (.iload_n 3, 1) := by decide +kernel
theorem d1_133 : decode prog_61_method_2_code 133 = .ok (.sipush 244, 3) := by decide +kernel
theorem d1_136 : decode prog_61_method_2_code 136 = .ok (.if_icmp .ne 9, 3) := by decide +kernel
theorem d1_139 : decode prog_61_method_2_code 139 = .ok (.sipush 143, 3) := by decide +kernel
theorem d1_142 : decode prog_61_method_2_code 142 = .ok (.goto 6, 3) := by decide +kernel
theorem d1_145 : decode prog_61_method_2_code 145 = .ok (.sipush 191, 3) := by decide +kernel
theorem d1_148 : decode prog_61_method_2_code 148 = .ok (.istore 6, 2) := by decide +kernel
theorem d1_150 : decode prog_61_method_2_code 150 = .ok (.iload 4, 2) := by decide +kernel
theorem d1_152 : decode prog_61_method_2_code 152 = .ok (.ifCond .le 15, 3) := by decide +kernel
theorem d1_155 : decode prog_61_method_2_code 155 = .ok (.iload_n 1, 1) := by decide +kernel
theorem d1_156 : decode prog_61_method_2_code 156 = .ok (.iload 4, 2) := by decide +kernel
theorem d1_158 : decode prog_61_method_2_code 158 = .ok (.iadd, 1) := by decide +kernel
theorem d1_159 : decode prog_61_method_2_code 159 = .ok (.iload_n 2, 1) := by decide +kernel
theorem d1_160 : decode prog_61_method_2_code 160 = .ok (.if_icmp .ge 7, 3) := by decide +kernel
theorem d1_163 : decode prog_61_method_2_code 163 = .ok (.iconst 1, 1) := by decide +kernel
theorem d1_164 : decode prog_61_method_2_code 164 = .ok (.goto 4, 3) := by decide +kernel
theorem d1_167 : decode prog_61_method_2_code 167 = .ok (.iconst 0, 1) := by decide +kernel
theorem d1_168 : decode prog_61_method_2_code 168 = .ok (.istore 7, 2) := by decide +kernel
theorem d1_170 : decode prog_61_method_2_code 170 = .ok (.iconst 1, 1) := by decide +kernel
theorem d1_171 : decode prog_61_method_2_code 171 = .ok (.istore 8, 2) := by decide +kernel
theorem d1_173 : decode prog_61_method_2_code 173 = .ok (.iload 7, 2) := by decide +kernel
theorem d1_175 : decode prog_61_method_2_code 175 = .ok (.ifCond .eq 72, 3) := by decide +kernel
theorem d1_178 : decode prog_61_method_2_code 178 = .ok (.iload 8, 2) := by decide +kernel
theorem d1_180 : decode prog_61_method_2_code 180 = .ok (.iload 4, 2) := by decide +kernel
theorem d1_182 : decode prog_61_method_2_code 182 = .ok (.if_icmp .gt 65, 3) := by decide +kernel
theorem d1_185 : decode prog_61_method_2_code 185 = .ok (.aload_n 0, 1) := by decide +kernel
theorem d1_186 : decode prog_61_method_2_code 186 = .ok (.iload_n 1, 1) := by decide +kernel
theorem d1_187 : decode prog_61_method_2_code 187 = .ok (.iload 8, 2) := by decide +kernel
theorem d1_189 : decode prog_61_method_2_code 189 = .ok (.iadd, 1) := by decide +kernel
theorem d1_190 : decode prog_61_method_2_code 190 = .ok (.baload, 1) := by decide +kernel
theorem d1_191 : decode prog_61_method_2_code 191 = .ok (.sipush 255, 3) := by decide +kernel
theorem d1_194 : decode prog_61_method_2_code 194 = .ok (.iand, 1) := by decide +kernel
theorem d1_195 : decode prog_61_method_2_code 195 = .ok (.istore 9, 2) := by decide +kernel
theorem d1_197 : decode prog_61_method_2_code 197 = .ok (.iload 8, 2) := by decide +kernel
theorem d1_199 : decode prog_61_method_2_code 199 = .ok (.iconst 1, 1) := by decide +kernel
theorem d1_200 : decode prog_61_method_2_code 200 = .ok (.if_icmp .ne 25, 3) := by decide +kernel
theorem d1_203 : decode prog_61_method_2_code 203 = .ok (.iload 9, 2) := by decide +kernel
theorem d1_205 : decode prog_61_method_2_code 205 = .ok (.iload 5, 2) := by decide +kernel
theorem d1_207 : decode prog_61_method_2_code 207 = .ok (.if_icmp .lt 14, 3) := by decide +kernel
theorem d1_210 : decode prog_61_method_2_code 210 = .ok (.iload 9, 2) := by decide +kernel
theorem d1_212 : decode prog_61_method_2_code 212 = .ok (.iload 6, 2) := by decide +kernel
theorem d1_214 : decode prog_61_method_2_code 214 = .ok (.if_icmp .gt 7, 3) := by decide +kernel
theorem d1_217 : decode prog_61_method_2_code 217 = .ok (.iconst 1, 1) := by decide +kernel
theorem d1_218 : decode prog_61_method_2_code 218 = .ok (.goto 21, 3) := by decide +kernel
theorem d1_221 : decode prog_61_method_2_code 221 = .ok (.iconst 0, 1) := by decide +kernel
theorem d1_222 : decode prog_61_method_2_code 222 = .ok (.goto 17, 3) := by decide +kernel
theorem d1_225 : decode prog_61_method_2_code 225 = .ok (.iload 9, 2) := by decide +kernel
theorem d1_227 : decode prog_61_method_2_code 227 = .ok (.bipush 6, 2) := by decide +kernel
theorem d1_229 : decode prog_61_method_2_code 229 = .ok (.ishr, 1) := by decide +kernel
theorem d1_230 : decode prog_61_method_2_code 230 = .ok (.iconst 2, 1) := by decide +kernel
theorem d1_231 : decode prog_61_method_2_code 231 = .ok (.if_icmp .ne 7, 3) := by decide +kernel
theorem d1_234 : decode prog_61_method_2_code 234 = .ok (.iconst 1, 1) := by decide +kernel
theorem d1_235 : decode prog_61_method_2_code 235 = .ok (.goto 4, 3) := by decide +kernel
theorem d1_238 : decode prog_61_method_2_code 238 = .ok (.iconst 0, 1) := by decide +kernel
theorem d1_239 : decode prog_61_method_2_code 239 = .ok (.istore 7, 2) := by decide +kernel
theorem d1_241 : decode prog_61_method_2_code 241 = .ok (.iinc 8 1, 3) := by decide +kernel
theorem d1_244 : decode prog_61_method_2_code 244 = .ok (.goto (-71), 3) := by decide +kernel
theorem d1_247 : decode prog_61_method_2_code 247 = .ok (.iload 7, 2) := by decide +kernel
theorem d1_249 : decode prog_61_method_2_code 249 = .ok (.ifCond .eq 12, 3) := by decide +kernel
theorem d1_252 : decode prog_61_method_2_code 252 = .ok (.iload_n 1, 1) := by decide +kernel
theorem d1_253 : decode prog_61_method_2_code 253 = .ok (.iload 4, 2) := by decide +kernel
theorem d1_255 : decode prog_61_method_2_code 255 = .ok (.iadd, 1) := by decide +kernel
theorem d1_256 : decode prog_61_method_2_code 256 = .ok (.iconst 1, 1) := by decide +kernel
theorem d1_257 : decode prog_61_method_2_code 257 = .ok (.iadd, 1) := by decide +kernel
theorem d1_258 : decode prog_61_method_2_code 258 = .ok (.goto 4, 3) := by decide +kernel
theorem d1_261 : decode prog_61_method_2_code 261 = .ok (.iconst (-1), 1) := by decide +kernel
theorem d1_262 : decode prog_61_method_2_code 262 = .ok (.ireturn, 1) := by decide +kernel
theorem pn_1 : plainName "com/example/excedent/excedent/io/Utf8" = true := by first | (simp [plainName, overriddenIn]; done) | decide +kernel
theorem ef_1 (m : MethodId) (a : Addr) (s_ : Int32) (en : Int32) : entryFrame m #[(.ref a), (.int s_), (.int en)] 10 = mkF m 0 #[.val (.ref a), .val (.int s_), .val (.int en), .unset, .unset, .unset, .unset, .unset, .unset, .unset] [] := by first | (simp [entryFrame, mkF, argsToLocals, Value.category]; done) | rfl
def Q_rmSeq (Z : State) (a : Addr) (s_ : Int32) (en : Int32) (kl : ClassId) (vs : List Value) (t_0 : Int32) (t_1 : Int32) (t_2 : Int32) (t_3 : Int32) (ld : Int32) (c1 : Int32) (c2 : Int32) (c3 : Int32) (h0 : Heap) (n0 : Nat) (v : Option Value) (h : Heap) (L : List Loc) : Prop := ∃ z : Int32, v = some (.int z) ∧ own_A s_ en ld c1 c2 c3 z ∧ Fr n0 L ∧ h = h0
set_option maxRecDepth 65536 in
set_option maxHeartbeats 40000000 in
theorem rmSeq (l : Launch) (Z : State) (a0 : Array Value) (hw : ∀ d ∈ tables_1, d.before a0 Z = true) (ws : List Jvm.Cond) (a : Addr) (s_ : Int32) (en : Int32) (kl : ClassId) (vs : List Value) (t_0 : Int32) (t_1 : Int32) (t_2 : Int32) (t_3 : Int32) (ld : Int32) (c1 : Int32) (c2 : Int32) (c3 : Int32) (h0 : Heap) (n0 : Nat) (Z0 : n0 ≤ h0.size) (V_a : Arv Z h0 a kl .byte (6 : Int32) vs (.int (0 : Int32))) (hs : 0 ≤ s_.toInt ∧ s_.toInt ≤ 1) (hld : 0 ≤ ld.toInt ∧ ld.toInt < 256) (hc1 : 0 ≤ c1.toInt ∧ c1.toInt < 256) (hc2 : 0 ≤ c2.toInt ∧ c2.toInt < 256) (hc3 : 0 ≤ c3.toInt ∧ c3.toInt < 256) (hva0 : vs.getD (s_).toNatClampNeg (.int (0 : Int32)) = .int t_0) (hva1 : vs.getD ((s_ + (1 : Int32))).toNatClampNeg (.int (0 : Int32)) = .int t_1) (hva2 : vs.getD ((s_ + (2 : Int32))).toNatClampNeg (.int (0 : Int32)) = .int t_2) (hva3 : vs.getD ((s_ + (3 : Int32))).toNatClampNeg (.int (0 : Int32)) = .int t_3) (hl0 : (t_0 &&& (255 : Int32)) = ld) (hl1 : (t_1 &&& (255 : Int32)) = c1) (hl2 : (t_2 &&& (255 : Int32)) = c2) (hl3 : (t_3 &&& (255 : Int32)) = c3) :
    MetFree l (⟨"com/example/excedent/excedent/io/Utf8", "sequenceEnd", "([BII)I"⟩ : MethodName) (head1 (Jvm.Cond.code (⟨"com/example/excedent/excedent/io/Utf8", "sequenceEnd", "([BII)I"⟩ : MethodName) prog_61_method_2_code 10 (some .int) :: ws) ({ frames := 0, cells := 0, slots := 0, locals := 0 } : Room)) (fun aa U => aa = #[(.ref a), (.int s_), (.int en)] ∧ Z.Warmed39 U.vm ∧ U.heap = h0) (fun _ _ _ _ _ => True) (fun _ U ou U' => ∃ v L, ou = .returned v ∧ Q_rmSeq Z a s_ en kl vs t_0 t_1 t_2 t_3 ld c1 c2 c3 h0 n0 v U'.heap L ∧ FrameEnd U ou U' L ({ frames := 0, cells := 0, slots := 0, locals := 0 } : Room).cells ({ frames := 0, cells := 0, slots := 0, locals := 0 } : Room).slots) := by
  refine MetFree.of_bodySF (plainFor_of_name pn_1) hisR ?_
  intro p e s m args below meth c s₁ Bd hml0 hP hK
  obtain ⟨rfl, hZ, hh⟩ := hP
  have hx := Bd.exec
  have hby := Bd.bytes
  have hml : c.maxLocals = 10 := hml0
  have hown : s.vm.findClass "com/example/excedent/excedent/io/Utf8" = some m.cls := findClass_of_methodNamed Bd.named
  have hnm := (name_of_methodNamed Bd.named Bd.method).1
  have X0 : Stand p l e ({ frames := 0, cells := 0, slots := 0, locals := 0 } : Room) s m #[(.ref a), (.int s_), (.int en)] below meth c s₁ [] 0 0 := Stand.of_body Bd
  have e0 : s₁.heap = h0 := by rw [← hh, Bd.state]; rfl
  have N0 := Fr.nil n0
  have K0 := Keep.refl h0 []
  refine own_as (ef_1 m a s_ en) ?_
  show own_Ends p e below s₁ (mkF m 0 #[.val (.ref a), .val (.int s_), .val (.int en), .unset, .unset, .unset, .unset, .unset, .unset, .unset] []) _
  refine own_go (fun _ => XS.aloadN X0.here hx rfl (hb hby d1_0) rfl rfl) ?_
  refine own_go (fun _ => XS.iloadN X0.here hx rfl (hb hby d1_1) rfl) ?_
  obtain ⟨cl_1, Ar_1, q_1, S_1, M_1, H_1, G_1⟩ := V_a
  have hin1 : ¬ (s_ < 0 ∨ cl_1.slots.size ≤ (s_).toNatClampNeg) := inb_of S_1 (own_in s_ hs).1
  have hat1 : cl_1.slots[(s_).toNatClampNeg]? = some (.int t_0) := Has.at H_1 hin1 (hva0)
  refine own_go (X0.baloadBytes hx (j := s_) (v := (.int t_0)) (by rw [e0]; exact Ar_1.1) (State.isArrayOf_alike hZ.alike Ar_1.2.1) Ar_1.2.2 hin1 hat1 (g := (mkF m 2 #[.val (.ref a), .val (.int s_), .val (.int en), .unset, .unset, .unset, .unset, .unset, .unset, .unset] [(.int s_), (.ref a)])) rfl rfl (hb hby d1_2)) ?_
  have V_a_r1 : Arv Z h0 a kl .byte (6 : Int32) vs (.int (0 : Int32)) := ⟨cl_1, Ar_1, q_1, S_1, M_1, H_1, G_1⟩
  show own_Ends p e below s₁ (mkF m 3 #[.val (.ref a), .val (.int s_), .val (.int en), .unset, .unset, .unset, .unset, .unset, .unset, .unset] [(.int t_0)]) _
  refine own_go (fun _ => XS.sipush X0.here hx rfl (hb hby d1_3)) ?_
  refine own_go (fun _ => XS.iand X0.here hx rfl (hb hby d1_6) rfl) ?_
  show own_Ends p e below s₁ (mkF m 7 #[.val (.ref a), .val (.int s_), .val (.int en), .unset, .unset, .unset, .unset, .unset, .unset, .unset] [(.int (t_0 &&& (255 : Int32)))]) _
  refine own_go (fun _ => XS.istoreN X0.here hx rfl (hb hby d1_7) rfl (l' := #[.val (.ref a), .val (.int s_), .val (.int en), .val (.int (t_0 &&& (255 : Int32))), .unset, .unset, .unset, .unset, .unset, .unset]) rfl) ?_
  show own_Ends p e below s₁ (mkF m 8 #[.val (.ref a), .val (.int s_), .val (.int en), .val (.int (t_0 &&& (255 : Int32))), .unset, .unset, .unset, .unset, .unset, .unset] []) _
  rw [hl0]
  show own_Ends p e below s₁ (mkF m 8 #[.val (.ref a), .val (.int s_), .val (.int en), .val (.int ld), .unset, .unset, .unset, .unset, .unset, .unset] []) _
  refine own_go (fun _ => XS.iconst X0.here hx rfl (hb hby d1_8)) ?_
  refine own_go (fun _ => XS.istore X0.here hx rfl (hb hby d1_9) rfl (l' := #[.val (.ref a), .val (.int s_), .val (.int en), .val (.int ld), .val (.int (0 : Int32)), .unset, .unset, .unset, .unset, .unset]) rfl) ?_
  show own_Ends p e below s₁ (mkF m 11 #[.val (.ref a), .val (.int s_), .val (.int en), .val (.int ld), .val (.int (0 : Int32)), .unset, .unset, .unset, .unset, .unset] []) _
  refine own_go (fun _ => XS.sipush X0.here hx rfl (hb hby d1_11)) ?_
  refine own_go (fun _ => XS.istore X0.here hx rfl (hb hby d1_14) rfl (l' := #[.val (.ref a), .val (.int s_), .val (.int en), .val (.int ld), .val (.int (0 : Int32)), .val (.int (128 : Int32)), .unset, .unset, .unset, .unset]) rfl) ?_
  show own_Ends p e below s₁ (mkF m 16 #[.val (.ref a), .val (.int s_), .val (.int en), .val (.int ld), .val (.int (0 : Int32)), .val (.int (128 : Int32)), .unset, .unset, .unset, .unset] []) _
  refine own_go (fun _ => XS.sipush X0.here hx rfl (hb hby d1_16)) ?_
  refine own_go (fun _ => XS.istore X0.here hx rfl (hb hby d1_19) rfl (l' := #[.val (.ref a), .val (.int s_), .val (.int en), .val (.int ld), .val (.int (0 : Int32)), .val (.int (128 : Int32)), .val (.int (191 : Int32)), .unset, .unset, .unset]) rfl) ?_
  show own_Ends p e below s₁ (mkF m 21 #[.val (.ref a), .val (.int s_), .val (.int en), .val (.int ld), .val (.int (0 : Int32)), .val (.int (128 : Int32)), .val (.int (191 : Int32)), .unset, .unset, .unset] []) _
  by_cases kc0 : ld < (194 : Int32)
  · refine own_go (fun _ => XS.iloadN X0.here hx rfl (hb hby d1_21) rfl) ?_
    refine own_go (fun _ => XS.sipush X0.here hx rfl (hb hby d1_22)) ?_
    show own_Ends p e below s₁ (mkF m 25 #[.val (.ref a), .val (.int s_), .val (.int en), .val (.int ld), .val (.int (0 : Int32)), .val (.int (128 : Int32)), .val (.int (191 : Int32)), .unset, .unset, .unset] [(.int (194 : Int32)), (.int ld)]) _
    refine own_go (fun _ => XS.icmpYes X0.here hx rfl (pc0 := 25) (pc' := 41) rfl (hb hby d1_25) rfl (tlt (show ld < (194 : Int32) from own_lt kc0 (by decide))).1 (by decide) (by decide)) ?_
    show own_Ends p e below s₁ (mkF m 41 #[.val (.ref a), .val (.int s_), .val (.int en), .val (.int ld), .val (.int (0 : Int32)), .val (.int (128 : Int32)), .val (.int (191 : Int32)), .unset, .unset, .unset] []) _
    refine own_go (fun _ => XS.iloadN X0.here hx rfl (hb hby d1_41) rfl) ?_
    refine own_go (fun _ => XS.sipush X0.here hx rfl (hb hby d1_42)) ?_
    show own_Ends p e below s₁ (mkF m 45 #[.val (.ref a), .val (.int s_), .val (.int en), .val (.int ld), .val (.int (0 : Int32)), .val (.int (128 : Int32)), .val (.int (191 : Int32)), .unset, .unset, .unset] [(.int (224 : Int32)), (.int ld)]) _
    refine own_go (fun _ => XS.icmpYes X0.here hx rfl (pc0 := 45) (pc' := 97) rfl (hb hby d1_45) rfl (tlt (show ld < (224 : Int32) from own_lt kc0 (by decide))).1 (by decide) (by decide)) ?_
    show own_Ends p e below s₁ (mkF m 97 #[.val (.ref a), .val (.int s_), .val (.int en), .val (.int ld), .val (.int (0 : Int32)), .val (.int (128 : Int32)), .val (.int (191 : Int32)), .unset, .unset, .unset] []) _
    refine own_go (fun _ => XS.iloadN X0.here hx rfl (hb hby d1_97) rfl) ?_
    refine own_go (fun _ => XS.sipush X0.here hx rfl (hb hby d1_98)) ?_
    show own_Ends p e below s₁ (mkF m 101 #[.val (.ref a), .val (.int s_), .val (.int en), .val (.int ld), .val (.int (0 : Int32)), .val (.int (128 : Int32)), .val (.int (191 : Int32)), .unset, .unset, .unset] [(.int (240 : Int32)), (.int ld)]) _
    refine own_go (fun _ => XS.icmpYes X0.here hx rfl (pc0 := 101) (pc' := 150) rfl (hb hby d1_101) rfl (tlt (show ld < (240 : Int32) from own_lt kc0 (by decide))).1 (by decide) (by decide)) ?_
    show own_Ends p e below s₁ (mkF m 150 #[.val (.ref a), .val (.int s_), .val (.int en), .val (.int ld), .val (.int (0 : Int32)), .val (.int (128 : Int32)), .val (.int (191 : Int32)), .unset, .unset, .unset] []) _
    refine own_go (fun _ => XS.iload X0.here hx rfl (hb hby d1_150) rfl) ?_
    show own_Ends p e below s₁ (mkF m 152 #[.val (.ref a), .val (.int s_), .val (.int en), .val (.int ld), .val (.int (0 : Int32)), .val (.int (128 : Int32)), .val (.int (191 : Int32)), .unset, .unset, .unset] [(.int (0 : Int32))]) _
    refine own_go (fun _ => XS.ifYes X0.here hx rfl (pc0 := 152) (pc' := 167) rfl (hb hby d1_152) rfl ((if0 _ _).trans (flt (show ¬ ((0 : Int32) < (0 : Int32)) from by decide)).2.2.2) (by decide) (by decide)) ?_
    show own_Ends p e below s₁ (mkF m 167 #[.val (.ref a), .val (.int s_), .val (.int en), .val (.int ld), .val (.int (0 : Int32)), .val (.int (128 : Int32)), .val (.int (191 : Int32)), .unset, .unset, .unset] []) _
    refine own_go (fun _ => XS.iconst X0.here hx rfl (hb hby d1_167)) ?_
    refine own_go (fun _ => XS.istore X0.here hx rfl (hb hby d1_168) rfl (l' := #[.val (.ref a), .val (.int s_), .val (.int en), .val (.int ld), .val (.int (0 : Int32)), .val (.int (128 : Int32)), .val (.int (191 : Int32)), .val (.int (0 : Int32)), .unset, .unset]) rfl) ?_
    show own_Ends p e below s₁ (mkF m 170 #[.val (.ref a), .val (.int s_), .val (.int en), .val (.int ld), .val (.int (0 : Int32)), .val (.int (128 : Int32)), .val (.int (191 : Int32)), .val (.int (0 : Int32)), .unset, .unset] []) _
    refine own_go (fun _ => XS.iconst X0.here hx rfl (hb hby d1_170)) ?_
    refine own_go (fun _ => XS.istore X0.here hx rfl (hb hby d1_171) rfl (l' := #[.val (.ref a), .val (.int s_), .val (.int en), .val (.int ld), .val (.int (0 : Int32)), .val (.int (128 : Int32)), .val (.int (191 : Int32)), .val (.int (0 : Int32)), .val (.int (1 : Int32)), .unset]) rfl) ?_
    show own_Ends p e below s₁ (mkF m 173 #[.val (.ref a), .val (.int s_), .val (.int en), .val (.int ld), .val (.int (0 : Int32)), .val (.int (128 : Int32)), .val (.int (191 : Int32)), .val (.int (0 : Int32)), .val (.int (1 : Int32)), .unset] []) _
    refine own_go (fun _ => XS.iload X0.here hx rfl (hb hby d1_173) rfl) ?_
    show own_Ends p e below s₁ (mkF m 175 #[.val (.ref a), .val (.int s_), .val (.int en), .val (.int ld), .val (.int (0 : Int32)), .val (.int (128 : Int32)), .val (.int (191 : Int32)), .val (.int (0 : Int32)), .val (.int (1 : Int32)), .unset] [(.int (0 : Int32))]) _
    refine own_go (fun _ => XS.ifYes X0.here hx rfl (pc0 := 175) (pc' := 247) rfl (hb hby d1_175) rfl ((if0 _ _).trans (teq (show (0 : Int32) = (0 : Int32) from by decide)).1) (by decide) (by decide)) ?_
    show own_Ends p e below s₁ (mkF m 247 #[.val (.ref a), .val (.int s_), .val (.int en), .val (.int ld), .val (.int (0 : Int32)), .val (.int (128 : Int32)), .val (.int (191 : Int32)), .val (.int (0 : Int32)), .val (.int (1 : Int32)), .unset] []) _
    refine own_go (fun _ => XS.iload X0.here hx rfl (hb hby d1_247) rfl) ?_
    show own_Ends p e below s₁ (mkF m 249 #[.val (.ref a), .val (.int s_), .val (.int en), .val (.int ld), .val (.int (0 : Int32)), .val (.int (128 : Int32)), .val (.int (191 : Int32)), .val (.int (0 : Int32)), .val (.int (1 : Int32)), .unset] [(.int (0 : Int32))]) _
    refine own_go (fun _ => XS.ifYes X0.here hx rfl (pc0 := 249) (pc' := 261) rfl (hb hby d1_249) rfl ((if0 _ _).trans (teq (show (0 : Int32) = (0 : Int32) from by decide)).1) (by decide) (by decide)) ?_
    show own_Ends p e below s₁ (mkF m 261 #[.val (.ref a), .val (.int s_), .val (.int en), .val (.int ld), .val (.int (0 : Int32)), .val (.int (128 : Int32)), .val (.int (191 : Int32)), .val (.int (0 : Int32)), .val (.int (1 : Int32)), .unset] []) _
    refine own_go (fun _ => XS.iconst X0.here hx rfl (hb hby d1_261)) ?_
    obtain ⟨fs, hr, hrun, hended, hW, hsame⟩ := X0.leave (v := some (.int (-1 : Int32))) (fun h => by rw [Bd.returns] at h; cases h)
    refine ⟨_, _, retI X0 hx Bd.returns (hb hby d1_262) hr, hrun, hended, _, _, rfl, ?_, ⟨_, rfl⟩, hW, hsame.mono (by decide) (by decide)⟩
    show Q_rmSeq Z a s_ en kl vs t_0 t_1 t_2 t_3 ld c1 c2 c3 h0 n0 _ s₁.heap _
    rw [e0]
    refine ⟨_, rfl, ?_, N0, rfl⟩
    obtain ⟨z1, z2, z3, z4, z5, z6⟩ := own_s s_ hs
    have t0 := (own_ltC (194) (by decide)).mp kc0
    have y0 := own_sh c2
    have y1 := own_sh c3
    exact own_A0 (by unfold own_P1; omega) (by unfold own_P2; omega) (by unfold own_P3; omega)
  · by_cases kc1 : ld < (224 : Int32)
    · refine own_go (fun _ => XS.iloadN X0.here hx rfl (hb hby d1_21) rfl) ?_
      refine own_go (fun _ => XS.sipush X0.here hx rfl (hb hby d1_22)) ?_
      show own_Ends p e below s₁ (mkF m 25 #[.val (.ref a), .val (.int s_), .val (.int en), .val (.int ld), .val (.int (0 : Int32)), .val (.int (128 : Int32)), .val (.int (191 : Int32)), .unset, .unset, .unset] [(.int (194 : Int32)), (.int ld)]) _
      refine own_go (fun _ => XS.icmpNo X0.here hx rfl (hb hby d1_25) rfl (flt (show ¬ (ld < (194 : Int32)) from own_nlt kc0 (by decide))).1) ?_
      show own_Ends p e below s₁ (mkF m 28 #[.val (.ref a), .val (.int s_), .val (.int en), .val (.int ld), .val (.int (0 : Int32)), .val (.int (128 : Int32)), .val (.int (191 : Int32)), .unset, .unset, .unset] []) _
      refine own_go (fun _ => XS.iloadN X0.here hx rfl (hb hby d1_28) rfl) ?_
      refine own_go (fun _ => XS.sipush X0.here hx rfl (hb hby d1_29)) ?_
      show own_Ends p e below s₁ (mkF m 32 #[.val (.ref a), .val (.int s_), .val (.int en), .val (.int ld), .val (.int (0 : Int32)), .val (.int (128 : Int32)), .val (.int (191 : Int32)), .unset, .unset, .unset] [(.int (223 : Int32)), (.int ld)]) _
      refine own_go (fun _ => XS.icmpNo X0.here hx rfl (hb hby d1_32) rfl (flt (show ¬ ((223 : Int32) < ld) from own_ngt kc1 (by decide))).2.2.1) ?_
      show own_Ends p e below s₁ (mkF m 35 #[.val (.ref a), .val (.int s_), .val (.int en), .val (.int ld), .val (.int (0 : Int32)), .val (.int (128 : Int32)), .val (.int (191 : Int32)), .unset, .unset, .unset] []) _
      refine own_go (fun _ => XS.iconst X0.here hx rfl (hb hby d1_35)) ?_
      refine own_go (fun _ => XS.istore X0.here hx rfl (hb hby d1_36) rfl (l' := #[.val (.ref a), .val (.int s_), .val (.int en), .val (.int ld), .val (.int (1 : Int32)), .val (.int (128 : Int32)), .val (.int (191 : Int32)), .unset, .unset, .unset]) rfl) ?_
      show own_Ends p e below s₁ (mkF m 38 #[.val (.ref a), .val (.int s_), .val (.int en), .val (.int ld), .val (.int (1 : Int32)), .val (.int (128 : Int32)), .val (.int (191 : Int32)), .unset, .unset, .unset] []) _
      refine own_go (fun _ => XS.goto X0.here hx rfl (pc0 := 38) (pc' := 150) rfl (hb hby d1_38) (by decide) (by decide)) ?_
      refine own_go (fun _ => XS.iload X0.here hx rfl (hb hby d1_150) rfl) ?_
      show own_Ends p e below s₁ (mkF m 152 #[.val (.ref a), .val (.int s_), .val (.int en), .val (.int ld), .val (.int (1 : Int32)), .val (.int (128 : Int32)), .val (.int (191 : Int32)), .unset, .unset, .unset] [(.int (1 : Int32))]) _
      refine own_go (fun _ => XS.ifNo X0.here hx rfl (hb hby d1_152) rfl ((if0 _ _).trans (tlt (show (0 : Int32) < (1 : Int32) from by decide)).2.2.2)) ?_
      show own_Ends p e below s₁ (mkF m 155 #[.val (.ref a), .val (.int s_), .val (.int en), .val (.int ld), .val (.int (1 : Int32)), .val (.int (128 : Int32)), .val (.int (191 : Int32)), .unset, .unset, .unset] []) _
      refine own_go (fun _ => XS.iloadN X0.here hx rfl (hb hby d1_155) rfl) ?_
      refine own_go (fun _ => XS.iload X0.here hx rfl (hb hby d1_156) rfl) ?_
      refine own_go (fun _ => XS.iadd X0.here hx rfl (hb hby d1_158) rfl) ?_
      show own_Ends p e below s₁ (mkF m 159 #[.val (.ref a), .val (.int s_), .val (.int en), .val (.int ld), .val (.int (1 : Int32)), .val (.int (128 : Int32)), .val (.int (191 : Int32)), .unset, .unset, .unset] [(.int (s_ + (1 : Int32)))]) _
      refine own_go (fun _ => XS.iloadN X0.here hx rfl (hb hby d1_159) rfl) ?_
      show own_Ends p e below s₁ (mkF m 160 #[.val (.ref a), .val (.int s_), .val (.int en), .val (.int ld), .val (.int (1 : Int32)), .val (.int (128 : Int32)), .val (.int (191 : Int32)), .unset, .unset, .unset] [(.int en), (.int (s_ + (1 : Int32)))]) _
      by_cases hc160 : (s_ + (1 : Int32)) < en
      · refine own_go (fun _ => XS.icmpNo X0.here hx rfl (hb hby d1_160) rfl (tlt hc160).2.1) ?_
        show own_Ends p e below s₁ (mkF m 163 #[.val (.ref a), .val (.int s_), .val (.int en), .val (.int ld), .val (.int (1 : Int32)), .val (.int (128 : Int32)), .val (.int (191 : Int32)), .unset, .unset, .unset] []) _
        refine own_go (fun _ => XS.iconst X0.here hx rfl (hb hby d1_163)) ?_
        refine own_go (fun _ => XS.goto X0.here hx rfl (pc0 := 164) (pc' := 168) rfl (hb hby d1_164) (by decide) (by decide)) ?_
        refine own_go (fun _ => XS.istore X0.here hx rfl (hb hby d1_168) rfl (l' := #[.val (.ref a), .val (.int s_), .val (.int en), .val (.int ld), .val (.int (1 : Int32)), .val (.int (128 : Int32)), .val (.int (191 : Int32)), .val (.int (1 : Int32)), .unset, .unset]) rfl) ?_
        show own_Ends p e below s₁ (mkF m 170 #[.val (.ref a), .val (.int s_), .val (.int en), .val (.int ld), .val (.int (1 : Int32)), .val (.int (128 : Int32)), .val (.int (191 : Int32)), .val (.int (1 : Int32)), .unset, .unset] []) _
        refine own_go (fun _ => XS.iconst X0.here hx rfl (hb hby d1_170)) ?_
        refine own_go (fun _ => XS.istore X0.here hx rfl (hb hby d1_171) rfl (l' := #[.val (.ref a), .val (.int s_), .val (.int en), .val (.int ld), .val (.int (1 : Int32)), .val (.int (128 : Int32)), .val (.int (191 : Int32)), .val (.int (1 : Int32)), .val (.int (1 : Int32)), .unset]) rfl) ?_
        show own_Ends p e below s₁ (mkF m 173 #[.val (.ref a), .val (.int s_), .val (.int en), .val (.int ld), .val (.int (1 : Int32)), .val (.int (128 : Int32)), .val (.int (191 : Int32)), .val (.int (1 : Int32)), .val (.int (1 : Int32)), .unset] []) _
        refine own_go (fun _ => XS.iload X0.here hx rfl (hb hby d1_173) rfl) ?_
        show own_Ends p e below s₁ (mkF m 175 #[.val (.ref a), .val (.int s_), .val (.int en), .val (.int ld), .val (.int (1 : Int32)), .val (.int (128 : Int32)), .val (.int (191 : Int32)), .val (.int (1 : Int32)), .val (.int (1 : Int32)), .unset] [(.int (1 : Int32))]) _
        refine own_go (fun _ => XS.ifNo X0.here hx rfl (hb hby d1_175) rfl ((if0 _ _).trans (feq (show ¬ ((1 : Int32) = (0 : Int32)) from by decide)).1)) ?_
        show own_Ends p e below s₁ (mkF m 178 #[.val (.ref a), .val (.int s_), .val (.int en), .val (.int ld), .val (.int (1 : Int32)), .val (.int (128 : Int32)), .val (.int (191 : Int32)), .val (.int (1 : Int32)), .val (.int (1 : Int32)), .unset] []) _
        refine own_go (fun _ => XS.iload X0.here hx rfl (hb hby d1_178) rfl) ?_
        refine own_go (fun _ => XS.iload X0.here hx rfl (hb hby d1_180) rfl) ?_
        show own_Ends p e below s₁ (mkF m 182 #[.val (.ref a), .val (.int s_), .val (.int en), .val (.int ld), .val (.int (1 : Int32)), .val (.int (128 : Int32)), .val (.int (191 : Int32)), .val (.int (1 : Int32)), .val (.int (1 : Int32)), .unset] [(.int (1 : Int32)), (.int (1 : Int32))]) _
        refine own_go (fun _ => XS.icmpNo X0.here hx rfl (hb hby d1_182) rfl (flt (show ¬ ((1 : Int32) < (1 : Int32)) from by decide)).2.2.1) ?_
        show own_Ends p e below s₁ (mkF m 185 #[.val (.ref a), .val (.int s_), .val (.int en), .val (.int ld), .val (.int (1 : Int32)), .val (.int (128 : Int32)), .val (.int (191 : Int32)), .val (.int (1 : Int32)), .val (.int (1 : Int32)), .unset] []) _
        refine own_go (fun _ => XS.aloadN X0.here hx rfl (hb hby d1_185) rfl rfl) ?_
        refine own_go (fun _ => XS.iloadN X0.here hx rfl (hb hby d1_186) rfl) ?_
        refine own_go (fun _ => XS.iload X0.here hx rfl (hb hby d1_187) rfl) ?_
        refine own_go (fun _ => XS.iadd X0.here hx rfl (hb hby d1_189) rfl) ?_
        show own_Ends p e below s₁ (mkF m 190 #[.val (.ref a), .val (.int s_), .val (.int en), .val (.int ld), .val (.int (1 : Int32)), .val (.int (128 : Int32)), .val (.int (191 : Int32)), .val (.int (1 : Int32)), .val (.int (1 : Int32)), .unset] [(.int (s_ + (1 : Int32))), (.ref a)]) _
        obtain ⟨cl_2, Ar_2, q_2, S_2, M_2, H_2, G_2⟩ := V_a_r1
        have hin2 : ¬ ((s_ + (1 : Int32)) < 0 ∨ cl_2.slots.size ≤ ((s_ + (1 : Int32))).toNatClampNeg) := inb_of S_2 (own_in s_ hs).2.1
        have hat2 : cl_2.slots[((s_ + (1 : Int32))).toNatClampNeg]? = some (.int t_1) := Has.at H_2 hin2 (hva1)
        refine own_go (X0.baloadBytes hx (j := (s_ + (1 : Int32))) (v := (.int t_1)) (by rw [e0]; exact Ar_2.1) (State.isArrayOf_alike hZ.alike Ar_2.2.1) Ar_2.2.2 hin2 hat2 (g := (mkF m 190 #[.val (.ref a), .val (.int s_), .val (.int en), .val (.int ld), .val (.int (1 : Int32)), .val (.int (128 : Int32)), .val (.int (191 : Int32)), .val (.int (1 : Int32)), .val (.int (1 : Int32)), .unset] [(.int (s_ + (1 : Int32))), (.ref a)])) rfl rfl (hb hby d1_190)) ?_
        have V_a_r2 : Arv Z h0 a kl .byte (6 : Int32) vs (.int (0 : Int32)) := ⟨cl_2, Ar_2, q_2, S_2, M_2, H_2, G_2⟩
        show own_Ends p e below s₁ (mkF m 191 #[.val (.ref a), .val (.int s_), .val (.int en), .val (.int ld), .val (.int (1 : Int32)), .val (.int (128 : Int32)), .val (.int (191 : Int32)), .val (.int (1 : Int32)), .val (.int (1 : Int32)), .unset] [(.int t_1)]) _
        refine own_go (fun _ => XS.sipush X0.here hx rfl (hb hby d1_191)) ?_
        refine own_go (fun _ => XS.iand X0.here hx rfl (hb hby d1_194) rfl) ?_
        show own_Ends p e below s₁ (mkF m 195 #[.val (.ref a), .val (.int s_), .val (.int en), .val (.int ld), .val (.int (1 : Int32)), .val (.int (128 : Int32)), .val (.int (191 : Int32)), .val (.int (1 : Int32)), .val (.int (1 : Int32)), .unset] [(.int (t_1 &&& (255 : Int32)))]) _
        refine own_go (fun _ => XS.istore X0.here hx rfl (hb hby d1_195) rfl (l' := #[.val (.ref a), .val (.int s_), .val (.int en), .val (.int ld), .val (.int (1 : Int32)), .val (.int (128 : Int32)), .val (.int (191 : Int32)), .val (.int (1 : Int32)), .val (.int (1 : Int32)), .val (.int (t_1 &&& (255 : Int32)))]) rfl) ?_
        show own_Ends p e below s₁ (mkF m 197 #[.val (.ref a), .val (.int s_), .val (.int en), .val (.int ld), .val (.int (1 : Int32)), .val (.int (128 : Int32)), .val (.int (191 : Int32)), .val (.int (1 : Int32)), .val (.int (1 : Int32)), .val (.int (t_1 &&& (255 : Int32)))] []) _
        rw [hl1]
        show own_Ends p e below s₁ (mkF m 197 #[.val (.ref a), .val (.int s_), .val (.int en), .val (.int ld), .val (.int (1 : Int32)), .val (.int (128 : Int32)), .val (.int (191 : Int32)), .val (.int (1 : Int32)), .val (.int (1 : Int32)), .val (.int c1)] []) _
        refine own_go (fun _ => XS.iload X0.here hx rfl (hb hby d1_197) rfl) ?_
        refine own_go (fun _ => XS.iconst X0.here hx rfl (hb hby d1_199)) ?_
        show own_Ends p e below s₁ (mkF m 200 #[.val (.ref a), .val (.int s_), .val (.int en), .val (.int ld), .val (.int (1 : Int32)), .val (.int (128 : Int32)), .val (.int (191 : Int32)), .val (.int (1 : Int32)), .val (.int (1 : Int32)), .val (.int c1)] [(.int (1 : Int32)), (.int (1 : Int32))]) _
        refine own_go (fun _ => XS.icmpNo X0.here hx rfl (hb hby d1_200) rfl (teq (show (1 : Int32) = (1 : Int32) from by decide)).2) ?_
        show own_Ends p e below s₁ (mkF m 203 #[.val (.ref a), .val (.int s_), .val (.int en), .val (.int ld), .val (.int (1 : Int32)), .val (.int (128 : Int32)), .val (.int (191 : Int32)), .val (.int (1 : Int32)), .val (.int (1 : Int32)), .val (.int c1)] []) _
        refine own_go (fun _ => XS.iload X0.here hx rfl (hb hby d1_203) rfl) ?_
        refine own_go (fun _ => XS.iload X0.here hx rfl (hb hby d1_205) rfl) ?_
        show own_Ends p e below s₁ (mkF m 207 #[.val (.ref a), .val (.int s_), .val (.int en), .val (.int ld), .val (.int (1 : Int32)), .val (.int (128 : Int32)), .val (.int (191 : Int32)), .val (.int (1 : Int32)), .val (.int (1 : Int32)), .val (.int c1)] [(.int (128 : Int32)), (.int c1)]) _
        by_cases hc207 : c1 < (128 : Int32)
        · refine own_go (fun _ => XS.icmpYes X0.here hx rfl (pc0 := 207) (pc' := 221) rfl (hb hby d1_207) rfl (tlt hc207).1 (by decide) (by decide)) ?_
          show own_Ends p e below s₁ (mkF m 221 #[.val (.ref a), .val (.int s_), .val (.int en), .val (.int ld), .val (.int (1 : Int32)), .val (.int (128 : Int32)), .val (.int (191 : Int32)), .val (.int (1 : Int32)), .val (.int (1 : Int32)), .val (.int c1)] []) _
          refine own_go (fun _ => XS.iconst X0.here hx rfl (hb hby d1_221)) ?_
          refine own_go (fun _ => XS.goto X0.here hx rfl (pc0 := 222) (pc' := 239) rfl (hb hby d1_222) (by decide) (by decide)) ?_
          refine own_go (fun _ => XS.istore X0.here hx rfl (hb hby d1_239) rfl (l' := #[.val (.ref a), .val (.int s_), .val (.int en), .val (.int ld), .val (.int (1 : Int32)), .val (.int (128 : Int32)), .val (.int (191 : Int32)), .val (.int (0 : Int32)), .val (.int (1 : Int32)), .val (.int c1)]) rfl) ?_
          show own_Ends p e below s₁ (mkF m 241 #[.val (.ref a), .val (.int s_), .val (.int en), .val (.int ld), .val (.int (1 : Int32)), .val (.int (128 : Int32)), .val (.int (191 : Int32)), .val (.int (0 : Int32)), .val (.int (1 : Int32)), .val (.int c1)] []) _
          refine own_go (fun _ => XS.iinc X0.here hx rfl (hb hby d1_241) rfl (l' := #[.val (.ref a), .val (.int s_), .val (.int en), .val (.int ld), .val (.int (1 : Int32)), .val (.int (128 : Int32)), .val (.int (191 : Int32)), .val (.int (0 : Int32)), .val (.int (2 : Int32)), .val (.int c1)]) rfl) ?_
          show own_Ends p e below s₁ (mkF m 244 #[.val (.ref a), .val (.int s_), .val (.int en), .val (.int ld), .val (.int (1 : Int32)), .val (.int (128 : Int32)), .val (.int (191 : Int32)), .val (.int (0 : Int32)), .val (.int (2 : Int32)), .val (.int c1)] []) _
          refine own_go (fun _ => XS.goto X0.here hx rfl (pc0 := 244) (pc' := 173) rfl (hb hby d1_244) (by decide) (by decide)) ?_
          refine own_go (fun _ => XS.iload X0.here hx rfl (hb hby d1_173) rfl) ?_
          show own_Ends p e below s₁ (mkF m 175 #[.val (.ref a), .val (.int s_), .val (.int en), .val (.int ld), .val (.int (1 : Int32)), .val (.int (128 : Int32)), .val (.int (191 : Int32)), .val (.int (0 : Int32)), .val (.int (2 : Int32)), .val (.int c1)] [(.int (0 : Int32))]) _
          refine own_go (fun _ => XS.ifYes X0.here hx rfl (pc0 := 175) (pc' := 247) rfl (hb hby d1_175) rfl ((if0 _ _).trans (teq (show (0 : Int32) = (0 : Int32) from by decide)).1) (by decide) (by decide)) ?_
          show own_Ends p e below s₁ (mkF m 247 #[.val (.ref a), .val (.int s_), .val (.int en), .val (.int ld), .val (.int (1 : Int32)), .val (.int (128 : Int32)), .val (.int (191 : Int32)), .val (.int (0 : Int32)), .val (.int (2 : Int32)), .val (.int c1)] []) _
          refine own_go (fun _ => XS.iload X0.here hx rfl (hb hby d1_247) rfl) ?_
          show own_Ends p e below s₁ (mkF m 249 #[.val (.ref a), .val (.int s_), .val (.int en), .val (.int ld), .val (.int (1 : Int32)), .val (.int (128 : Int32)), .val (.int (191 : Int32)), .val (.int (0 : Int32)), .val (.int (2 : Int32)), .val (.int c1)] [(.int (0 : Int32))]) _
          refine own_go (fun _ => XS.ifYes X0.here hx rfl (pc0 := 249) (pc' := 261) rfl (hb hby d1_249) rfl ((if0 _ _).trans (teq (show (0 : Int32) = (0 : Int32) from by decide)).1) (by decide) (by decide)) ?_
          show own_Ends p e below s₁ (mkF m 261 #[.val (.ref a), .val (.int s_), .val (.int en), .val (.int ld), .val (.int (1 : Int32)), .val (.int (128 : Int32)), .val (.int (191 : Int32)), .val (.int (0 : Int32)), .val (.int (2 : Int32)), .val (.int c1)] []) _
          refine own_go (fun _ => XS.iconst X0.here hx rfl (hb hby d1_261)) ?_
          obtain ⟨fs, hr, hrun, hended, hW, hsame⟩ := X0.leave (v := some (.int (-1 : Int32))) (fun h => by rw [Bd.returns] at h; cases h)
          refine ⟨_, _, retI X0 hx Bd.returns (hb hby d1_262) hr, hrun, hended, _, _, rfl, ?_, ⟨_, rfl⟩, hW, hsame.mono (by decide) (by decide)⟩
          show Q_rmSeq Z a s_ en kl vs t_0 t_1 t_2 t_3 ld c1 c2 c3 h0 n0 _ s₁.heap _
          rw [e0]
          refine ⟨_, rfl, ?_, N0, rfl⟩
          obtain ⟨z1, z2, z3, z4, z5, z6⟩ := own_s s_ hs
          have t0 := (not_congr (own_ltC (194) (by decide))).mp kc0
          have t1 := (own_ltC (224) (by decide)).mp kc1
          have t2 := (own_lt2).mp hc160
          have t3 := (own_ltC (128) (by decide)).mp hc207
          have y0 := own_sh c2
          have y1 := own_sh c3
          exact own_A0 (by unfold own_P1; omega) (by unfold own_P2; omega) (by unfold own_P3; omega)
        · refine own_go (fun _ => XS.icmpNo X0.here hx rfl (hb hby d1_207) rfl (flt hc207).1) ?_
          show own_Ends p e below s₁ (mkF m 210 #[.val (.ref a), .val (.int s_), .val (.int en), .val (.int ld), .val (.int (1 : Int32)), .val (.int (128 : Int32)), .val (.int (191 : Int32)), .val (.int (1 : Int32)), .val (.int (1 : Int32)), .val (.int c1)] []) _
          refine own_go (fun _ => XS.iload X0.here hx rfl (hb hby d1_210) rfl) ?_
          refine own_go (fun _ => XS.iload X0.here hx rfl (hb hby d1_212) rfl) ?_
          show own_Ends p e below s₁ (mkF m 214 #[.val (.ref a), .val (.int s_), .val (.int en), .val (.int ld), .val (.int (1 : Int32)), .val (.int (128 : Int32)), .val (.int (191 : Int32)), .val (.int (1 : Int32)), .val (.int (1 : Int32)), .val (.int c1)] [(.int (191 : Int32)), (.int c1)]) _
          by_cases hc214 : (191 : Int32) < c1
          · refine own_go (fun _ => XS.icmpYes X0.here hx rfl (pc0 := 214) (pc' := 221) rfl (hb hby d1_214) rfl (tlt hc214).2.2.1 (by decide) (by decide)) ?_
            show own_Ends p e below s₁ (mkF m 221 #[.val (.ref a), .val (.int s_), .val (.int en), .val (.int ld), .val (.int (1 : Int32)), .val (.int (128 : Int32)), .val (.int (191 : Int32)), .val (.int (1 : Int32)), .val (.int (1 : Int32)), .val (.int c1)] []) _
            refine own_go (fun _ => XS.iconst X0.here hx rfl (hb hby d1_221)) ?_
            refine own_go (fun _ => XS.goto X0.here hx rfl (pc0 := 222) (pc' := 239) rfl (hb hby d1_222) (by decide) (by decide)) ?_
            refine own_go (fun _ => XS.istore X0.here hx rfl (hb hby d1_239) rfl (l' := #[.val (.ref a), .val (.int s_), .val (.int en), .val (.int ld), .val (.int (1 : Int32)), .val (.int (128 : Int32)), .val (.int (191 : Int32)), .val (.int (0 : Int32)), .val (.int (1 : Int32)), .val (.int c1)]) rfl) ?_
            show own_Ends p e below s₁ (mkF m 241 #[.val (.ref a), .val (.int s_), .val (.int en), .val (.int ld), .val (.int (1 : Int32)), .val (.int (128 : Int32)), .val (.int (191 : Int32)), .val (.int (0 : Int32)), .val (.int (1 : Int32)), .val (.int c1)] []) _
            refine own_go (fun _ => XS.iinc X0.here hx rfl (hb hby d1_241) rfl (l' := #[.val (.ref a), .val (.int s_), .val (.int en), .val (.int ld), .val (.int (1 : Int32)), .val (.int (128 : Int32)), .val (.int (191 : Int32)), .val (.int (0 : Int32)), .val (.int (2 : Int32)), .val (.int c1)]) rfl) ?_
            show own_Ends p e below s₁ (mkF m 244 #[.val (.ref a), .val (.int s_), .val (.int en), .val (.int ld), .val (.int (1 : Int32)), .val (.int (128 : Int32)), .val (.int (191 : Int32)), .val (.int (0 : Int32)), .val (.int (2 : Int32)), .val (.int c1)] []) _
            refine own_go (fun _ => XS.goto X0.here hx rfl (pc0 := 244) (pc' := 173) rfl (hb hby d1_244) (by decide) (by decide)) ?_
            refine own_go (fun _ => XS.iload X0.here hx rfl (hb hby d1_173) rfl) ?_
            show own_Ends p e below s₁ (mkF m 175 #[.val (.ref a), .val (.int s_), .val (.int en), .val (.int ld), .val (.int (1 : Int32)), .val (.int (128 : Int32)), .val (.int (191 : Int32)), .val (.int (0 : Int32)), .val (.int (2 : Int32)), .val (.int c1)] [(.int (0 : Int32))]) _
            refine own_go (fun _ => XS.ifYes X0.here hx rfl (pc0 := 175) (pc' := 247) rfl (hb hby d1_175) rfl ((if0 _ _).trans (teq (show (0 : Int32) = (0 : Int32) from by decide)).1) (by decide) (by decide)) ?_
            show own_Ends p e below s₁ (mkF m 247 #[.val (.ref a), .val (.int s_), .val (.int en), .val (.int ld), .val (.int (1 : Int32)), .val (.int (128 : Int32)), .val (.int (191 : Int32)), .val (.int (0 : Int32)), .val (.int (2 : Int32)), .val (.int c1)] []) _
            refine own_go (fun _ => XS.iload X0.here hx rfl (hb hby d1_247) rfl) ?_
            show own_Ends p e below s₁ (mkF m 249 #[.val (.ref a), .val (.int s_), .val (.int en), .val (.int ld), .val (.int (1 : Int32)), .val (.int (128 : Int32)), .val (.int (191 : Int32)), .val (.int (0 : Int32)), .val (.int (2 : Int32)), .val (.int c1)] [(.int (0 : Int32))]) _
            refine own_go (fun _ => XS.ifYes X0.here hx rfl (pc0 := 249) (pc' := 261) rfl (hb hby d1_249) rfl ((if0 _ _).trans (teq (show (0 : Int32) = (0 : Int32) from by decide)).1) (by decide) (by decide)) ?_
            show own_Ends p e below s₁ (mkF m 261 #[.val (.ref a), .val (.int s_), .val (.int en), .val (.int ld), .val (.int (1 : Int32)), .val (.int (128 : Int32)), .val (.int (191 : Int32)), .val (.int (0 : Int32)), .val (.int (2 : Int32)), .val (.int c1)] []) _
            refine own_go (fun _ => XS.iconst X0.here hx rfl (hb hby d1_261)) ?_
            obtain ⟨fs, hr, hrun, hended, hW, hsame⟩ := X0.leave (v := some (.int (-1 : Int32))) (fun h => by rw [Bd.returns] at h; cases h)
            refine ⟨_, _, retI X0 hx Bd.returns (hb hby d1_262) hr, hrun, hended, _, _, rfl, ?_, ⟨_, rfl⟩, hW, hsame.mono (by decide) (by decide)⟩
            show Q_rmSeq Z a s_ en kl vs t_0 t_1 t_2 t_3 ld c1 c2 c3 h0 n0 _ s₁.heap _
            rw [e0]
            refine ⟨_, rfl, ?_, N0, rfl⟩
            obtain ⟨z1, z2, z3, z4, z5, z6⟩ := own_s s_ hs
            have t0 := (not_congr (own_ltC (194) (by decide))).mp kc0
            have t1 := (own_ltC (224) (by decide)).mp kc1
            have t2 := (own_lt2).mp hc160
            have t3 := (not_congr (own_ltC (128) (by decide))).mp hc207
            have t4 := (own_Clt (191) (by decide)).mp hc214
            have y0 := own_sh c2
            have y1 := own_sh c3
            exact own_A0 (by unfold own_P1; omega) (by unfold own_P2; omega) (by unfold own_P3; omega)
          · refine own_go (fun _ => XS.icmpNo X0.here hx rfl (hb hby d1_214) rfl (flt hc214).2.2.1) ?_
            show own_Ends p e below s₁ (mkF m 217 #[.val (.ref a), .val (.int s_), .val (.int en), .val (.int ld), .val (.int (1 : Int32)), .val (.int (128 : Int32)), .val (.int (191 : Int32)), .val (.int (1 : Int32)), .val (.int (1 : Int32)), .val (.int c1)] []) _
            refine own_go (fun _ => XS.iconst X0.here hx rfl (hb hby d1_217)) ?_
            refine own_go (fun _ => XS.goto X0.here hx rfl (pc0 := 218) (pc' := 239) rfl (hb hby d1_218) (by decide) (by decide)) ?_
            refine own_go (fun _ => XS.istore X0.here hx rfl (hb hby d1_239) rfl (l' := #[.val (.ref a), .val (.int s_), .val (.int en), .val (.int ld), .val (.int (1 : Int32)), .val (.int (128 : Int32)), .val (.int (191 : Int32)), .val (.int (1 : Int32)), .val (.int (1 : Int32)), .val (.int c1)]) rfl) ?_
            show own_Ends p e below s₁ (mkF m 241 #[.val (.ref a), .val (.int s_), .val (.int en), .val (.int ld), .val (.int (1 : Int32)), .val (.int (128 : Int32)), .val (.int (191 : Int32)), .val (.int (1 : Int32)), .val (.int (1 : Int32)), .val (.int c1)] []) _
            refine own_go (fun _ => XS.iinc X0.here hx rfl (hb hby d1_241) rfl (l' := #[.val (.ref a), .val (.int s_), .val (.int en), .val (.int ld), .val (.int (1 : Int32)), .val (.int (128 : Int32)), .val (.int (191 : Int32)), .val (.int (1 : Int32)), .val (.int (2 : Int32)), .val (.int c1)]) rfl) ?_
            show own_Ends p e below s₁ (mkF m 244 #[.val (.ref a), .val (.int s_), .val (.int en), .val (.int ld), .val (.int (1 : Int32)), .val (.int (128 : Int32)), .val (.int (191 : Int32)), .val (.int (1 : Int32)), .val (.int (2 : Int32)), .val (.int c1)] []) _
            refine own_go (fun _ => XS.goto X0.here hx rfl (pc0 := 244) (pc' := 173) rfl (hb hby d1_244) (by decide) (by decide)) ?_
            refine own_go (fun _ => XS.iload X0.here hx rfl (hb hby d1_173) rfl) ?_
            show own_Ends p e below s₁ (mkF m 175 #[.val (.ref a), .val (.int s_), .val (.int en), .val (.int ld), .val (.int (1 : Int32)), .val (.int (128 : Int32)), .val (.int (191 : Int32)), .val (.int (1 : Int32)), .val (.int (2 : Int32)), .val (.int c1)] [(.int (1 : Int32))]) _
            refine own_go (fun _ => XS.ifNo X0.here hx rfl (hb hby d1_175) rfl ((if0 _ _).trans (feq (show ¬ ((1 : Int32) = (0 : Int32)) from by decide)).1)) ?_
            show own_Ends p e below s₁ (mkF m 178 #[.val (.ref a), .val (.int s_), .val (.int en), .val (.int ld), .val (.int (1 : Int32)), .val (.int (128 : Int32)), .val (.int (191 : Int32)), .val (.int (1 : Int32)), .val (.int (2 : Int32)), .val (.int c1)] []) _
            refine own_go (fun _ => XS.iload X0.here hx rfl (hb hby d1_178) rfl) ?_
            refine own_go (fun _ => XS.iload X0.here hx rfl (hb hby d1_180) rfl) ?_
            show own_Ends p e below s₁ (mkF m 182 #[.val (.ref a), .val (.int s_), .val (.int en), .val (.int ld), .val (.int (1 : Int32)), .val (.int (128 : Int32)), .val (.int (191 : Int32)), .val (.int (1 : Int32)), .val (.int (2 : Int32)), .val (.int c1)] [(.int (1 : Int32)), (.int (2 : Int32))]) _
            refine own_go (fun _ => XS.icmpYes X0.here hx rfl (pc0 := 182) (pc' := 247) rfl (hb hby d1_182) rfl (tlt (show (1 : Int32) < (2 : Int32) from by decide)).2.2.1 (by decide) (by decide)) ?_
            show own_Ends p e below s₁ (mkF m 247 #[.val (.ref a), .val (.int s_), .val (.int en), .val (.int ld), .val (.int (1 : Int32)), .val (.int (128 : Int32)), .val (.int (191 : Int32)), .val (.int (1 : Int32)), .val (.int (2 : Int32)), .val (.int c1)] []) _
            refine own_go (fun _ => XS.iload X0.here hx rfl (hb hby d1_247) rfl) ?_
            show own_Ends p e below s₁ (mkF m 249 #[.val (.ref a), .val (.int s_), .val (.int en), .val (.int ld), .val (.int (1 : Int32)), .val (.int (128 : Int32)), .val (.int (191 : Int32)), .val (.int (1 : Int32)), .val (.int (2 : Int32)), .val (.int c1)] [(.int (1 : Int32))]) _
            refine own_go (fun _ => XS.ifNo X0.here hx rfl (hb hby d1_249) rfl ((if0 _ _).trans (feq (show ¬ ((1 : Int32) = (0 : Int32)) from by decide)).1)) ?_
            show own_Ends p e below s₁ (mkF m 252 #[.val (.ref a), .val (.int s_), .val (.int en), .val (.int ld), .val (.int (1 : Int32)), .val (.int (128 : Int32)), .val (.int (191 : Int32)), .val (.int (1 : Int32)), .val (.int (2 : Int32)), .val (.int c1)] []) _
            refine own_go (fun _ => XS.iloadN X0.here hx rfl (hb hby d1_252) rfl) ?_
            refine own_go (fun _ => XS.iload X0.here hx rfl (hb hby d1_253) rfl) ?_
            refine own_go (fun _ => XS.iadd X0.here hx rfl (hb hby d1_255) rfl) ?_
            show own_Ends p e below s₁ (mkF m 256 #[.val (.ref a), .val (.int s_), .val (.int en), .val (.int ld), .val (.int (1 : Int32)), .val (.int (128 : Int32)), .val (.int (191 : Int32)), .val (.int (1 : Int32)), .val (.int (2 : Int32)), .val (.int c1)] [(.int (s_ + (1 : Int32)))]) _
            refine own_go (fun _ => XS.iconst X0.here hx rfl (hb hby d1_256)) ?_
            refine own_go (fun _ => XS.iadd X0.here hx rfl (hb hby d1_257) rfl) ?_
            show own_Ends p e below s₁ (mkF m 258 #[.val (.ref a), .val (.int s_), .val (.int en), .val (.int ld), .val (.int (1 : Int32)), .val (.int (128 : Int32)), .val (.int (191 : Int32)), .val (.int (1 : Int32)), .val (.int (2 : Int32)), .val (.int c1)] [(.int ((s_ + (1 : Int32)) + (1 : Int32)))]) _
            refine own_go (fun _ => XS.goto X0.here hx rfl (pc0 := 258) (pc' := 262) rfl (hb hby d1_258) (by decide) (by decide)) ?_
            obtain ⟨fs, hr, hrun, hended, hW, hsame⟩ := X0.leave (v := some (.int ((s_ + (1 : Int32)) + (1 : Int32)))) (fun h => by rw [Bd.returns] at h; cases h)
            refine ⟨_, _, retI X0 hx Bd.returns (hb hby d1_262) hr, hrun, hended, _, _, rfl, ?_, ⟨_, rfl⟩, hW, hsame.mono (by decide) (by decide)⟩
            show Q_rmSeq Z a s_ en kl vs t_0 t_1 t_2 t_3 ld c1 c2 c3 h0 n0 _ s₁.heap _
            rw [e0]
            refine ⟨_, rfl, ?_, N0, rfl⟩
            obtain ⟨z1, z2, z3, z4, z5, z6⟩ := own_s s_ hs
            have t0 := (not_congr (own_ltC (194) (by decide))).mp kc0
            have t1 := (own_ltC (224) (by decide)).mp kc1
            have t2 := (own_lt2).mp hc160
            have t3 := (not_congr (own_ltC (128) (by decide))).mp hc207
            have t4 := (not_congr (own_Clt (191) (by decide))).mp hc214
            have y0 := own_sh c2
            have y1 := own_sh c3
            exact own_A1 (by unfold own_P1; omega) (own_as2 _)
      · refine own_go (fun _ => XS.icmpYes X0.here hx rfl (pc0 := 160) (pc' := 167) rfl (hb hby d1_160) rfl (flt hc160).2.1 (by decide) (by decide)) ?_
        show own_Ends p e below s₁ (mkF m 167 #[.val (.ref a), .val (.int s_), .val (.int en), .val (.int ld), .val (.int (1 : Int32)), .val (.int (128 : Int32)), .val (.int (191 : Int32)), .unset, .unset, .unset] []) _
        refine own_go (fun _ => XS.iconst X0.here hx rfl (hb hby d1_167)) ?_
        refine own_go (fun _ => XS.istore X0.here hx rfl (hb hby d1_168) rfl (l' := #[.val (.ref a), .val (.int s_), .val (.int en), .val (.int ld), .val (.int (1 : Int32)), .val (.int (128 : Int32)), .val (.int (191 : Int32)), .val (.int (0 : Int32)), .unset, .unset]) rfl) ?_
        show own_Ends p e below s₁ (mkF m 170 #[.val (.ref a), .val (.int s_), .val (.int en), .val (.int ld), .val (.int (1 : Int32)), .val (.int (128 : Int32)), .val (.int (191 : Int32)), .val (.int (0 : Int32)), .unset, .unset] []) _
        refine own_go (fun _ => XS.iconst X0.here hx rfl (hb hby d1_170)) ?_
        refine own_go (fun _ => XS.istore X0.here hx rfl (hb hby d1_171) rfl (l' := #[.val (.ref a), .val (.int s_), .val (.int en), .val (.int ld), .val (.int (1 : Int32)), .val (.int (128 : Int32)), .val (.int (191 : Int32)), .val (.int (0 : Int32)), .val (.int (1 : Int32)), .unset]) rfl) ?_
        show own_Ends p e below s₁ (mkF m 173 #[.val (.ref a), .val (.int s_), .val (.int en), .val (.int ld), .val (.int (1 : Int32)), .val (.int (128 : Int32)), .val (.int (191 : Int32)), .val (.int (0 : Int32)), .val (.int (1 : Int32)), .unset] []) _
        refine own_go (fun _ => XS.iload X0.here hx rfl (hb hby d1_173) rfl) ?_
        show own_Ends p e below s₁ (mkF m 175 #[.val (.ref a), .val (.int s_), .val (.int en), .val (.int ld), .val (.int (1 : Int32)), .val (.int (128 : Int32)), .val (.int (191 : Int32)), .val (.int (0 : Int32)), .val (.int (1 : Int32)), .unset] [(.int (0 : Int32))]) _
        refine own_go (fun _ => XS.ifYes X0.here hx rfl (pc0 := 175) (pc' := 247) rfl (hb hby d1_175) rfl ((if0 _ _).trans (teq (show (0 : Int32) = (0 : Int32) from by decide)).1) (by decide) (by decide)) ?_
        show own_Ends p e below s₁ (mkF m 247 #[.val (.ref a), .val (.int s_), .val (.int en), .val (.int ld), .val (.int (1 : Int32)), .val (.int (128 : Int32)), .val (.int (191 : Int32)), .val (.int (0 : Int32)), .val (.int (1 : Int32)), .unset] []) _
        refine own_go (fun _ => XS.iload X0.here hx rfl (hb hby d1_247) rfl) ?_
        show own_Ends p e below s₁ (mkF m 249 #[.val (.ref a), .val (.int s_), .val (.int en), .val (.int ld), .val (.int (1 : Int32)), .val (.int (128 : Int32)), .val (.int (191 : Int32)), .val (.int (0 : Int32)), .val (.int (1 : Int32)), .unset] [(.int (0 : Int32))]) _
        refine own_go (fun _ => XS.ifYes X0.here hx rfl (pc0 := 249) (pc' := 261) rfl (hb hby d1_249) rfl ((if0 _ _).trans (teq (show (0 : Int32) = (0 : Int32) from by decide)).1) (by decide) (by decide)) ?_
        show own_Ends p e below s₁ (mkF m 261 #[.val (.ref a), .val (.int s_), .val (.int en), .val (.int ld), .val (.int (1 : Int32)), .val (.int (128 : Int32)), .val (.int (191 : Int32)), .val (.int (0 : Int32)), .val (.int (1 : Int32)), .unset] []) _
        refine own_go (fun _ => XS.iconst X0.here hx rfl (hb hby d1_261)) ?_
        obtain ⟨fs, hr, hrun, hended, hW, hsame⟩ := X0.leave (v := some (.int (-1 : Int32))) (fun h => by rw [Bd.returns] at h; cases h)
        refine ⟨_, _, retI X0 hx Bd.returns (hb hby d1_262) hr, hrun, hended, _, _, rfl, ?_, ⟨_, rfl⟩, hW, hsame.mono (by decide) (by decide)⟩
        show Q_rmSeq Z a s_ en kl vs t_0 t_1 t_2 t_3 ld c1 c2 c3 h0 n0 _ s₁.heap _
        rw [e0]
        refine ⟨_, rfl, ?_, N0, rfl⟩
        obtain ⟨z1, z2, z3, z4, z5, z6⟩ := own_s s_ hs
        have t0 := (not_congr (own_ltC (194) (by decide))).mp kc0
        have t1 := (own_ltC (224) (by decide)).mp kc1
        have t2 := (not_congr (own_lt2)).mp hc160
        have y0 := own_sh c2
        have y1 := own_sh c3
        exact own_A0 (by unfold own_P1; omega) (by unfold own_P2; omega) (by unfold own_P3; omega)
    · by_cases kc2 : ld < (225 : Int32)
      · refine own_go (fun _ => XS.iloadN X0.here hx rfl (hb hby d1_21) rfl) ?_
        refine own_go (fun _ => XS.sipush X0.here hx rfl (hb hby d1_22)) ?_
        show own_Ends p e below s₁ (mkF m 25 #[.val (.ref a), .val (.int s_), .val (.int en), .val (.int ld), .val (.int (0 : Int32)), .val (.int (128 : Int32)), .val (.int (191 : Int32)), .unset, .unset, .unset] [(.int (194 : Int32)), (.int ld)]) _
        refine own_go (fun _ => XS.icmpNo X0.here hx rfl (hb hby d1_25) rfl (flt (show ¬ (ld < (194 : Int32)) from own_nlt kc1 (by decide))).1) ?_
        show own_Ends p e below s₁ (mkF m 28 #[.val (.ref a), .val (.int s_), .val (.int en), .val (.int ld), .val (.int (0 : Int32)), .val (.int (128 : Int32)), .val (.int (191 : Int32)), .unset, .unset, .unset] []) _
        refine own_go (fun _ => XS.iloadN X0.here hx rfl (hb hby d1_28) rfl) ?_
        refine own_go (fun _ => XS.sipush X0.here hx rfl (hb hby d1_29)) ?_
        show own_Ends p e below s₁ (mkF m 32 #[.val (.ref a), .val (.int s_), .val (.int en), .val (.int ld), .val (.int (0 : Int32)), .val (.int (128 : Int32)), .val (.int (191 : Int32)), .unset, .unset, .unset] [(.int (223 : Int32)), (.int ld)]) _
        refine own_go (fun _ => XS.icmpYes X0.here hx rfl (pc0 := 32) (pc' := 41) rfl (hb hby d1_32) rfl (tlt (show (223 : Int32) < ld from own_gt kc1 (by decide))).2.2.1 (by decide) (by decide)) ?_
        show own_Ends p e below s₁ (mkF m 41 #[.val (.ref a), .val (.int s_), .val (.int en), .val (.int ld), .val (.int (0 : Int32)), .val (.int (128 : Int32)), .val (.int (191 : Int32)), .unset, .unset, .unset] []) _
        refine own_go (fun _ => XS.iloadN X0.here hx rfl (hb hby d1_41) rfl) ?_
        refine own_go (fun _ => XS.sipush X0.here hx rfl (hb hby d1_42)) ?_
        show own_Ends p e below s₁ (mkF m 45 #[.val (.ref a), .val (.int s_), .val (.int en), .val (.int ld), .val (.int (0 : Int32)), .val (.int (128 : Int32)), .val (.int (191 : Int32)), .unset, .unset, .unset] [(.int (224 : Int32)), (.int ld)]) _
        refine own_go (fun _ => XS.icmpNo X0.here hx rfl (hb hby d1_45) rfl (flt (show ¬ (ld < (224 : Int32)) from own_nlt kc1 (by decide))).1) ?_
        show own_Ends p e below s₁ (mkF m 48 #[.val (.ref a), .val (.int s_), .val (.int en), .val (.int ld), .val (.int (0 : Int32)), .val (.int (128 : Int32)), .val (.int (191 : Int32)), .unset, .unset, .unset] []) _
        refine own_go (fun _ => XS.iloadN X0.here hx rfl (hb hby d1_48) rfl) ?_
        refine own_go (fun _ => XS.sipush X0.here hx rfl (hb hby d1_49)) ?_
        show own_Ends p e below s₁ (mkF m 52 #[.val (.ref a), .val (.int s_), .val (.int en), .val (.int ld), .val (.int (0 : Int32)), .val (.int (128 : Int32)), .val (.int (191 : Int32)), .unset, .unset, .unset] [(.int (239 : Int32)), (.int ld)]) _
        refine own_go (fun _ => XS.icmpNo X0.here hx rfl (hb hby d1_52) rfl (flt (show ¬ ((239 : Int32) < ld) from own_ngt kc2 (by decide))).2.2.1) ?_
        show own_Ends p e below s₁ (mkF m 55 #[.val (.ref a), .val (.int s_), .val (.int en), .val (.int ld), .val (.int (0 : Int32)), .val (.int (128 : Int32)), .val (.int (191 : Int32)), .unset, .unset, .unset] []) _
        refine own_go (fun _ => XS.iconst X0.here hx rfl (hb hby d1_55)) ?_
        refine own_go (fun _ => XS.istore X0.here hx rfl (hb hby d1_56) rfl (l' := #[.val (.ref a), .val (.int s_), .val (.int en), .val (.int ld), .val (.int (2 : Int32)), .val (.int (128 : Int32)), .val (.int (191 : Int32)), .unset, .unset, .unset]) rfl) ?_
        show own_Ends p e below s₁ (mkF m 58 #[.val (.ref a), .val (.int s_), .val (.int en), .val (.int ld), .val (.int (2 : Int32)), .val (.int (128 : Int32)), .val (.int (191 : Int32)), .unset, .unset, .unset] []) _
        refine own_go (fun _ => XS.iloadN X0.here hx rfl (hb hby d1_58) rfl) ?_
        refine own_go (fun _ => XS.sipush X0.here hx rfl (hb hby d1_59)) ?_
        show own_Ends p e below s₁ (mkF m 62 #[.val (.ref a), .val (.int s_), .val (.int en), .val (.int ld), .val (.int (2 : Int32)), .val (.int (128 : Int32)), .val (.int (191 : Int32)), .unset, .unset, .unset] [(.int (224 : Int32)), (.int ld)]) _
        refine own_go (fun _ => XS.icmpNo X0.here hx rfl (hb hby d1_62) rfl (teq (show ld = (224 : Int32) from own_eq kc1 kc2 (by decide))).2) ?_
        show own_Ends p e below s₁ (mkF m 65 #[.val (.ref a), .val (.int s_), .val (.int en), .val (.int ld), .val (.int (2 : Int32)), .val (.int (128 : Int32)), .val (.int (191 : Int32)), .unset, .unset, .unset] []) _
        refine own_go (fun _ => XS.sipush X0.here hx rfl (hb hby d1_65)) ?_
        refine own_go (fun _ => XS.goto X0.here hx rfl (pc0 := 68) (pc' := 74) rfl (hb hby d1_68) (by decide) (by decide)) ?_
        refine own_go (fun _ => XS.istore X0.here hx rfl (hb hby d1_74) rfl (l' := #[.val (.ref a), .val (.int s_), .val (.int en), .val (.int ld), .val (.int (2 : Int32)), .val (.int (160 : Int32)), .val (.int (191 : Int32)), .unset, .unset, .unset]) rfl) ?_
        show own_Ends p e below s₁ (mkF m 76 #[.val (.ref a), .val (.int s_), .val (.int en), .val (.int ld), .val (.int (2 : Int32)), .val (.int (160 : Int32)), .val (.int (191 : Int32)), .unset, .unset, .unset] []) _
        refine own_go (fun _ => XS.iloadN X0.here hx rfl (hb hby d1_76) rfl) ?_
        refine own_go (fun _ => XS.sipush X0.here hx rfl (hb hby d1_77)) ?_
        show own_Ends p e below s₁ (mkF m 80 #[.val (.ref a), .val (.int s_), .val (.int en), .val (.int ld), .val (.int (2 : Int32)), .val (.int (160 : Int32)), .val (.int (191 : Int32)), .unset, .unset, .unset] [(.int (237 : Int32)), (.int ld)]) _
        refine own_go (fun _ => XS.icmpYes X0.here hx rfl (pc0 := 80) (pc' := 89) rfl (hb hby d1_80) rfl (feq (show ¬ (ld = (237 : Int32)) from own_ne2 kc2 (by decide))).2 (by decide) (by decide)) ?_
        show own_Ends p e below s₁ (mkF m 89 #[.val (.ref a), .val (.int s_), .val (.int en), .val (.int ld), .val (.int (2 : Int32)), .val (.int (160 : Int32)), .val (.int (191 : Int32)), .unset, .unset, .unset] []) _
        refine own_go (fun _ => XS.sipush X0.here hx rfl (hb hby d1_89)) ?_
        refine own_go (fun _ => XS.istore X0.here hx rfl (hb hby d1_92) rfl (l' := #[.val (.ref a), .val (.int s_), .val (.int en), .val (.int ld), .val (.int (2 : Int32)), .val (.int (160 : Int32)), .val (.int (191 : Int32)), .unset, .unset, .unset]) rfl) ?_
        show own_Ends p e below s₁ (mkF m 94 #[.val (.ref a), .val (.int s_), .val (.int en), .val (.int ld), .val (.int (2 : Int32)), .val (.int (160 : Int32)), .val (.int (191 : Int32)), .unset, .unset, .unset] []) _
        refine own_go (fun _ => XS.goto X0.here hx rfl (pc0 := 94) (pc' := 150) rfl (hb hby d1_94) (by decide) (by decide)) ?_
        refine own_go (fun _ => XS.iload X0.here hx rfl (hb hby d1_150) rfl) ?_
        show own_Ends p e below s₁ (mkF m 152 #[.val (.ref a), .val (.int s_), .val (.int en), .val (.int ld), .val (.int (2 : Int32)), .val (.int (160 : Int32)), .val (.int (191 : Int32)), .unset, .unset, .unset] [(.int (2 : Int32))]) _
        refine own_go (fun _ => XS.ifNo X0.here hx rfl (hb hby d1_152) rfl ((if0 _ _).trans (tlt (show (0 : Int32) < (2 : Int32) from by decide)).2.2.2)) ?_
        show own_Ends p e below s₁ (mkF m 155 #[.val (.ref a), .val (.int s_), .val (.int en), .val (.int ld), .val (.int (2 : Int32)), .val (.int (160 : Int32)), .val (.int (191 : Int32)), .unset, .unset, .unset] []) _
        refine own_go (fun _ => XS.iloadN X0.here hx rfl (hb hby d1_155) rfl) ?_
        refine own_go (fun _ => XS.iload X0.here hx rfl (hb hby d1_156) rfl) ?_
        refine own_go (fun _ => XS.iadd X0.here hx rfl (hb hby d1_158) rfl) ?_
        show own_Ends p e below s₁ (mkF m 159 #[.val (.ref a), .val (.int s_), .val (.int en), .val (.int ld), .val (.int (2 : Int32)), .val (.int (160 : Int32)), .val (.int (191 : Int32)), .unset, .unset, .unset] [(.int (s_ + (2 : Int32)))]) _
        refine own_go (fun _ => XS.iloadN X0.here hx rfl (hb hby d1_159) rfl) ?_
        show own_Ends p e below s₁ (mkF m 160 #[.val (.ref a), .val (.int s_), .val (.int en), .val (.int ld), .val (.int (2 : Int32)), .val (.int (160 : Int32)), .val (.int (191 : Int32)), .unset, .unset, .unset] [(.int en), (.int (s_ + (2 : Int32)))]) _
        by_cases hc160 : (s_ + (2 : Int32)) < en
        · refine own_go (fun _ => XS.icmpNo X0.here hx rfl (hb hby d1_160) rfl (tlt hc160).2.1) ?_
          show own_Ends p e below s₁ (mkF m 163 #[.val (.ref a), .val (.int s_), .val (.int en), .val (.int ld), .val (.int (2 : Int32)), .val (.int (160 : Int32)), .val (.int (191 : Int32)), .unset, .unset, .unset] []) _
          refine own_go (fun _ => XS.iconst X0.here hx rfl (hb hby d1_163)) ?_
          refine own_go (fun _ => XS.goto X0.here hx rfl (pc0 := 164) (pc' := 168) rfl (hb hby d1_164) (by decide) (by decide)) ?_
          refine own_go (fun _ => XS.istore X0.here hx rfl (hb hby d1_168) rfl (l' := #[.val (.ref a), .val (.int s_), .val (.int en), .val (.int ld), .val (.int (2 : Int32)), .val (.int (160 : Int32)), .val (.int (191 : Int32)), .val (.int (1 : Int32)), .unset, .unset]) rfl) ?_
          show own_Ends p e below s₁ (mkF m 170 #[.val (.ref a), .val (.int s_), .val (.int en), .val (.int ld), .val (.int (2 : Int32)), .val (.int (160 : Int32)), .val (.int (191 : Int32)), .val (.int (1 : Int32)), .unset, .unset] []) _
          refine own_go (fun _ => XS.iconst X0.here hx rfl (hb hby d1_170)) ?_
          refine own_go (fun _ => XS.istore X0.here hx rfl (hb hby d1_171) rfl (l' := #[.val (.ref a), .val (.int s_), .val (.int en), .val (.int ld), .val (.int (2 : Int32)), .val (.int (160 : Int32)), .val (.int (191 : Int32)), .val (.int (1 : Int32)), .val (.int (1 : Int32)), .unset]) rfl) ?_
          show own_Ends p e below s₁ (mkF m 173 #[.val (.ref a), .val (.int s_), .val (.int en), .val (.int ld), .val (.int (2 : Int32)), .val (.int (160 : Int32)), .val (.int (191 : Int32)), .val (.int (1 : Int32)), .val (.int (1 : Int32)), .unset] []) _
          refine own_go (fun _ => XS.iload X0.here hx rfl (hb hby d1_173) rfl) ?_
          show own_Ends p e below s₁ (mkF m 175 #[.val (.ref a), .val (.int s_), .val (.int en), .val (.int ld), .val (.int (2 : Int32)), .val (.int (160 : Int32)), .val (.int (191 : Int32)), .val (.int (1 : Int32)), .val (.int (1 : Int32)), .unset] [(.int (1 : Int32))]) _
          refine own_go (fun _ => XS.ifNo X0.here hx rfl (hb hby d1_175) rfl ((if0 _ _).trans (feq (show ¬ ((1 : Int32) = (0 : Int32)) from by decide)).1)) ?_
          show own_Ends p e below s₁ (mkF m 178 #[.val (.ref a), .val (.int s_), .val (.int en), .val (.int ld), .val (.int (2 : Int32)), .val (.int (160 : Int32)), .val (.int (191 : Int32)), .val (.int (1 : Int32)), .val (.int (1 : Int32)), .unset] []) _
          refine own_go (fun _ => XS.iload X0.here hx rfl (hb hby d1_178) rfl) ?_
          refine own_go (fun _ => XS.iload X0.here hx rfl (hb hby d1_180) rfl) ?_
          show own_Ends p e below s₁ (mkF m 182 #[.val (.ref a), .val (.int s_), .val (.int en), .val (.int ld), .val (.int (2 : Int32)), .val (.int (160 : Int32)), .val (.int (191 : Int32)), .val (.int (1 : Int32)), .val (.int (1 : Int32)), .unset] [(.int (2 : Int32)), (.int (1 : Int32))]) _
          refine own_go (fun _ => XS.icmpNo X0.here hx rfl (hb hby d1_182) rfl (flt (show ¬ ((2 : Int32) < (1 : Int32)) from by decide)).2.2.1) ?_
          show own_Ends p e below s₁ (mkF m 185 #[.val (.ref a), .val (.int s_), .val (.int en), .val (.int ld), .val (.int (2 : Int32)), .val (.int (160 : Int32)), .val (.int (191 : Int32)), .val (.int (1 : Int32)), .val (.int (1 : Int32)), .unset] []) _
          refine own_go (fun _ => XS.aloadN X0.here hx rfl (hb hby d1_185) rfl rfl) ?_
          refine own_go (fun _ => XS.iloadN X0.here hx rfl (hb hby d1_186) rfl) ?_
          refine own_go (fun _ => XS.iload X0.here hx rfl (hb hby d1_187) rfl) ?_
          refine own_go (fun _ => XS.iadd X0.here hx rfl (hb hby d1_189) rfl) ?_
          show own_Ends p e below s₁ (mkF m 190 #[.val (.ref a), .val (.int s_), .val (.int en), .val (.int ld), .val (.int (2 : Int32)), .val (.int (160 : Int32)), .val (.int (191 : Int32)), .val (.int (1 : Int32)), .val (.int (1 : Int32)), .unset] [(.int (s_ + (1 : Int32))), (.ref a)]) _
          obtain ⟨cl_3, Ar_3, q_3, S_3, M_3, H_3, G_3⟩ := V_a_r1
          have hin3 : ¬ ((s_ + (1 : Int32)) < 0 ∨ cl_3.slots.size ≤ ((s_ + (1 : Int32))).toNatClampNeg) := inb_of S_3 (own_in s_ hs).2.1
          have hat3 : cl_3.slots[((s_ + (1 : Int32))).toNatClampNeg]? = some (.int t_1) := Has.at H_3 hin3 (hva1)
          refine own_go (X0.baloadBytes hx (j := (s_ + (1 : Int32))) (v := (.int t_1)) (by rw [e0]; exact Ar_3.1) (State.isArrayOf_alike hZ.alike Ar_3.2.1) Ar_3.2.2 hin3 hat3 (g := (mkF m 190 #[.val (.ref a), .val (.int s_), .val (.int en), .val (.int ld), .val (.int (2 : Int32)), .val (.int (160 : Int32)), .val (.int (191 : Int32)), .val (.int (1 : Int32)), .val (.int (1 : Int32)), .unset] [(.int (s_ + (1 : Int32))), (.ref a)])) rfl rfl (hb hby d1_190)) ?_
          have V_a_r3 : Arv Z h0 a kl .byte (6 : Int32) vs (.int (0 : Int32)) := ⟨cl_3, Ar_3, q_3, S_3, M_3, H_3, G_3⟩
          show own_Ends p e below s₁ (mkF m 191 #[.val (.ref a), .val (.int s_), .val (.int en), .val (.int ld), .val (.int (2 : Int32)), .val (.int (160 : Int32)), .val (.int (191 : Int32)), .val (.int (1 : Int32)), .val (.int (1 : Int32)), .unset] [(.int t_1)]) _
          refine own_go (fun _ => XS.sipush X0.here hx rfl (hb hby d1_191)) ?_
          refine own_go (fun _ => XS.iand X0.here hx rfl (hb hby d1_194) rfl) ?_
          show own_Ends p e below s₁ (mkF m 195 #[.val (.ref a), .val (.int s_), .val (.int en), .val (.int ld), .val (.int (2 : Int32)), .val (.int (160 : Int32)), .val (.int (191 : Int32)), .val (.int (1 : Int32)), .val (.int (1 : Int32)), .unset] [(.int (t_1 &&& (255 : Int32)))]) _
          refine own_go (fun _ => XS.istore X0.here hx rfl (hb hby d1_195) rfl (l' := #[.val (.ref a), .val (.int s_), .val (.int en), .val (.int ld), .val (.int (2 : Int32)), .val (.int (160 : Int32)), .val (.int (191 : Int32)), .val (.int (1 : Int32)), .val (.int (1 : Int32)), .val (.int (t_1 &&& (255 : Int32)))]) rfl) ?_
          show own_Ends p e below s₁ (mkF m 197 #[.val (.ref a), .val (.int s_), .val (.int en), .val (.int ld), .val (.int (2 : Int32)), .val (.int (160 : Int32)), .val (.int (191 : Int32)), .val (.int (1 : Int32)), .val (.int (1 : Int32)), .val (.int (t_1 &&& (255 : Int32)))] []) _
          rw [hl1]
          show own_Ends p e below s₁ (mkF m 197 #[.val (.ref a), .val (.int s_), .val (.int en), .val (.int ld), .val (.int (2 : Int32)), .val (.int (160 : Int32)), .val (.int (191 : Int32)), .val (.int (1 : Int32)), .val (.int (1 : Int32)), .val (.int c1)] []) _
          refine own_go (fun _ => XS.iload X0.here hx rfl (hb hby d1_197) rfl) ?_
          refine own_go (fun _ => XS.iconst X0.here hx rfl (hb hby d1_199)) ?_
          show own_Ends p e below s₁ (mkF m 200 #[.val (.ref a), .val (.int s_), .val (.int en), .val (.int ld), .val (.int (2 : Int32)), .val (.int (160 : Int32)), .val (.int (191 : Int32)), .val (.int (1 : Int32)), .val (.int (1 : Int32)), .val (.int c1)] [(.int (1 : Int32)), (.int (1 : Int32))]) _
          refine own_go (fun _ => XS.icmpNo X0.here hx rfl (hb hby d1_200) rfl (teq (show (1 : Int32) = (1 : Int32) from by decide)).2) ?_
          show own_Ends p e below s₁ (mkF m 203 #[.val (.ref a), .val (.int s_), .val (.int en), .val (.int ld), .val (.int (2 : Int32)), .val (.int (160 : Int32)), .val (.int (191 : Int32)), .val (.int (1 : Int32)), .val (.int (1 : Int32)), .val (.int c1)] []) _
          refine own_go (fun _ => XS.iload X0.here hx rfl (hb hby d1_203) rfl) ?_
          refine own_go (fun _ => XS.iload X0.here hx rfl (hb hby d1_205) rfl) ?_
          show own_Ends p e below s₁ (mkF m 207 #[.val (.ref a), .val (.int s_), .val (.int en), .val (.int ld), .val (.int (2 : Int32)), .val (.int (160 : Int32)), .val (.int (191 : Int32)), .val (.int (1 : Int32)), .val (.int (1 : Int32)), .val (.int c1)] [(.int (160 : Int32)), (.int c1)]) _
          by_cases hc207 : c1 < (160 : Int32)
          · refine own_go (fun _ => XS.icmpYes X0.here hx rfl (pc0 := 207) (pc' := 221) rfl (hb hby d1_207) rfl (tlt hc207).1 (by decide) (by decide)) ?_
            show own_Ends p e below s₁ (mkF m 221 #[.val (.ref a), .val (.int s_), .val (.int en), .val (.int ld), .val (.int (2 : Int32)), .val (.int (160 : Int32)), .val (.int (191 : Int32)), .val (.int (1 : Int32)), .val (.int (1 : Int32)), .val (.int c1)] []) _
            refine own_go (fun _ => XS.iconst X0.here hx rfl (hb hby d1_221)) ?_
            refine own_go (fun _ => XS.goto X0.here hx rfl (pc0 := 222) (pc' := 239) rfl (hb hby d1_222) (by decide) (by decide)) ?_
            refine own_go (fun _ => XS.istore X0.here hx rfl (hb hby d1_239) rfl (l' := #[.val (.ref a), .val (.int s_), .val (.int en), .val (.int ld), .val (.int (2 : Int32)), .val (.int (160 : Int32)), .val (.int (191 : Int32)), .val (.int (0 : Int32)), .val (.int (1 : Int32)), .val (.int c1)]) rfl) ?_
            show own_Ends p e below s₁ (mkF m 241 #[.val (.ref a), .val (.int s_), .val (.int en), .val (.int ld), .val (.int (2 : Int32)), .val (.int (160 : Int32)), .val (.int (191 : Int32)), .val (.int (0 : Int32)), .val (.int (1 : Int32)), .val (.int c1)] []) _
            refine own_go (fun _ => XS.iinc X0.here hx rfl (hb hby d1_241) rfl (l' := #[.val (.ref a), .val (.int s_), .val (.int en), .val (.int ld), .val (.int (2 : Int32)), .val (.int (160 : Int32)), .val (.int (191 : Int32)), .val (.int (0 : Int32)), .val (.int (2 : Int32)), .val (.int c1)]) rfl) ?_
            show own_Ends p e below s₁ (mkF m 244 #[.val (.ref a), .val (.int s_), .val (.int en), .val (.int ld), .val (.int (2 : Int32)), .val (.int (160 : Int32)), .val (.int (191 : Int32)), .val (.int (0 : Int32)), .val (.int (2 : Int32)), .val (.int c1)] []) _
            refine own_go (fun _ => XS.goto X0.here hx rfl (pc0 := 244) (pc' := 173) rfl (hb hby d1_244) (by decide) (by decide)) ?_
            refine own_go (fun _ => XS.iload X0.here hx rfl (hb hby d1_173) rfl) ?_
            show own_Ends p e below s₁ (mkF m 175 #[.val (.ref a), .val (.int s_), .val (.int en), .val (.int ld), .val (.int (2 : Int32)), .val (.int (160 : Int32)), .val (.int (191 : Int32)), .val (.int (0 : Int32)), .val (.int (2 : Int32)), .val (.int c1)] [(.int (0 : Int32))]) _
            refine own_go (fun _ => XS.ifYes X0.here hx rfl (pc0 := 175) (pc' := 247) rfl (hb hby d1_175) rfl ((if0 _ _).trans (teq (show (0 : Int32) = (0 : Int32) from by decide)).1) (by decide) (by decide)) ?_
            show own_Ends p e below s₁ (mkF m 247 #[.val (.ref a), .val (.int s_), .val (.int en), .val (.int ld), .val (.int (2 : Int32)), .val (.int (160 : Int32)), .val (.int (191 : Int32)), .val (.int (0 : Int32)), .val (.int (2 : Int32)), .val (.int c1)] []) _
            refine own_go (fun _ => XS.iload X0.here hx rfl (hb hby d1_247) rfl) ?_
            show own_Ends p e below s₁ (mkF m 249 #[.val (.ref a), .val (.int s_), .val (.int en), .val (.int ld), .val (.int (2 : Int32)), .val (.int (160 : Int32)), .val (.int (191 : Int32)), .val (.int (0 : Int32)), .val (.int (2 : Int32)), .val (.int c1)] [(.int (0 : Int32))]) _
            refine own_go (fun _ => XS.ifYes X0.here hx rfl (pc0 := 249) (pc' := 261) rfl (hb hby d1_249) rfl ((if0 _ _).trans (teq (show (0 : Int32) = (0 : Int32) from by decide)).1) (by decide) (by decide)) ?_
            show own_Ends p e below s₁ (mkF m 261 #[.val (.ref a), .val (.int s_), .val (.int en), .val (.int ld), .val (.int (2 : Int32)), .val (.int (160 : Int32)), .val (.int (191 : Int32)), .val (.int (0 : Int32)), .val (.int (2 : Int32)), .val (.int c1)] []) _
            refine own_go (fun _ => XS.iconst X0.here hx rfl (hb hby d1_261)) ?_
            obtain ⟨fs, hr, hrun, hended, hW, hsame⟩ := X0.leave (v := some (.int (-1 : Int32))) (fun h => by rw [Bd.returns] at h; cases h)
            refine ⟨_, _, retI X0 hx Bd.returns (hb hby d1_262) hr, hrun, hended, _, _, rfl, ?_, ⟨_, rfl⟩, hW, hsame.mono (by decide) (by decide)⟩
            show Q_rmSeq Z a s_ en kl vs t_0 t_1 t_2 t_3 ld c1 c2 c3 h0 n0 _ s₁.heap _
            rw [e0]
            refine ⟨_, rfl, ?_, N0, rfl⟩
            obtain ⟨z1, z2, z3, z4, z5, z6⟩ := own_s s_ hs
            have t0 := (not_congr (own_ltC (194) (by decide))).mp kc0
            have t1 := (not_congr (own_ltC (224) (by decide))).mp kc1
            have t2 := (own_ltC (225) (by decide)).mp kc2
            have t3 := (own_lt2).mp hc160
            have t4 := (own_ltC (160) (by decide)).mp hc207
            have y0 := own_sh c2
            have y1 := own_sh c3
            exact own_A0 (by unfold own_P1; omega) (by unfold own_P2; omega) (by unfold own_P3; omega)
          · refine own_go (fun _ => XS.icmpNo X0.here hx rfl (hb hby d1_207) rfl (flt hc207).1) ?_
            show own_Ends p e below s₁ (mkF m 210 #[.val (.ref a), .val (.int s_), .val (.int en), .val (.int ld), .val (.int (2 : Int32)), .val (.int (160 : Int32)), .val (.int (191 : Int32)), .val (.int (1 : Int32)), .val (.int (1 : Int32)), .val (.int c1)] []) _
            refine own_go (fun _ => XS.iload X0.here hx rfl (hb hby d1_210) rfl) ?_
            refine own_go (fun _ => XS.iload X0.here hx rfl (hb hby d1_212) rfl) ?_
            show own_Ends p e below s₁ (mkF m 214 #[.val (.ref a), .val (.int s_), .val (.int en), .val (.int ld), .val (.int (2 : Int32)), .val (.int (160 : Int32)), .val (.int (191 : Int32)), .val (.int (1 : Int32)), .val (.int (1 : Int32)), .val (.int c1)] [(.int (191 : Int32)), (.int c1)]) _
            by_cases hc214 : (191 : Int32) < c1
            · refine own_go (fun _ => XS.icmpYes X0.here hx rfl (pc0 := 214) (pc' := 221) rfl (hb hby d1_214) rfl (tlt hc214).2.2.1 (by decide) (by decide)) ?_
              show own_Ends p e below s₁ (mkF m 221 #[.val (.ref a), .val (.int s_), .val (.int en), .val (.int ld), .val (.int (2 : Int32)), .val (.int (160 : Int32)), .val (.int (191 : Int32)), .val (.int (1 : Int32)), .val (.int (1 : Int32)), .val (.int c1)] []) _
              refine own_go (fun _ => XS.iconst X0.here hx rfl (hb hby d1_221)) ?_
              refine own_go (fun _ => XS.goto X0.here hx rfl (pc0 := 222) (pc' := 239) rfl (hb hby d1_222) (by decide) (by decide)) ?_
              refine own_go (fun _ => XS.istore X0.here hx rfl (hb hby d1_239) rfl (l' := #[.val (.ref a), .val (.int s_), .val (.int en), .val (.int ld), .val (.int (2 : Int32)), .val (.int (160 : Int32)), .val (.int (191 : Int32)), .val (.int (0 : Int32)), .val (.int (1 : Int32)), .val (.int c1)]) rfl) ?_
              show own_Ends p e below s₁ (mkF m 241 #[.val (.ref a), .val (.int s_), .val (.int en), .val (.int ld), .val (.int (2 : Int32)), .val (.int (160 : Int32)), .val (.int (191 : Int32)), .val (.int (0 : Int32)), .val (.int (1 : Int32)), .val (.int c1)] []) _
              refine own_go (fun _ => XS.iinc X0.here hx rfl (hb hby d1_241) rfl (l' := #[.val (.ref a), .val (.int s_), .val (.int en), .val (.int ld), .val (.int (2 : Int32)), .val (.int (160 : Int32)), .val (.int (191 : Int32)), .val (.int (0 : Int32)), .val (.int (2 : Int32)), .val (.int c1)]) rfl) ?_
              show own_Ends p e below s₁ (mkF m 244 #[.val (.ref a), .val (.int s_), .val (.int en), .val (.int ld), .val (.int (2 : Int32)), .val (.int (160 : Int32)), .val (.int (191 : Int32)), .val (.int (0 : Int32)), .val (.int (2 : Int32)), .val (.int c1)] []) _
              refine own_go (fun _ => XS.goto X0.here hx rfl (pc0 := 244) (pc' := 173) rfl (hb hby d1_244) (by decide) (by decide)) ?_
              refine own_go (fun _ => XS.iload X0.here hx rfl (hb hby d1_173) rfl) ?_
              show own_Ends p e below s₁ (mkF m 175 #[.val (.ref a), .val (.int s_), .val (.int en), .val (.int ld), .val (.int (2 : Int32)), .val (.int (160 : Int32)), .val (.int (191 : Int32)), .val (.int (0 : Int32)), .val (.int (2 : Int32)), .val (.int c1)] [(.int (0 : Int32))]) _
              refine own_go (fun _ => XS.ifYes X0.here hx rfl (pc0 := 175) (pc' := 247) rfl (hb hby d1_175) rfl ((if0 _ _).trans (teq (show (0 : Int32) = (0 : Int32) from by decide)).1) (by decide) (by decide)) ?_
              show own_Ends p e below s₁ (mkF m 247 #[.val (.ref a), .val (.int s_), .val (.int en), .val (.int ld), .val (.int (2 : Int32)), .val (.int (160 : Int32)), .val (.int (191 : Int32)), .val (.int (0 : Int32)), .val (.int (2 : Int32)), .val (.int c1)] []) _
              refine own_go (fun _ => XS.iload X0.here hx rfl (hb hby d1_247) rfl) ?_
              show own_Ends p e below s₁ (mkF m 249 #[.val (.ref a), .val (.int s_), .val (.int en), .val (.int ld), .val (.int (2 : Int32)), .val (.int (160 : Int32)), .val (.int (191 : Int32)), .val (.int (0 : Int32)), .val (.int (2 : Int32)), .val (.int c1)] [(.int (0 : Int32))]) _
              refine own_go (fun _ => XS.ifYes X0.here hx rfl (pc0 := 249) (pc' := 261) rfl (hb hby d1_249) rfl ((if0 _ _).trans (teq (show (0 : Int32) = (0 : Int32) from by decide)).1) (by decide) (by decide)) ?_
              show own_Ends p e below s₁ (mkF m 261 #[.val (.ref a), .val (.int s_), .val (.int en), .val (.int ld), .val (.int (2 : Int32)), .val (.int (160 : Int32)), .val (.int (191 : Int32)), .val (.int (0 : Int32)), .val (.int (2 : Int32)), .val (.int c1)] []) _
              refine own_go (fun _ => XS.iconst X0.here hx rfl (hb hby d1_261)) ?_
              obtain ⟨fs, hr, hrun, hended, hW, hsame⟩ := X0.leave (v := some (.int (-1 : Int32))) (fun h => by rw [Bd.returns] at h; cases h)
              refine ⟨_, _, retI X0 hx Bd.returns (hb hby d1_262) hr, hrun, hended, _, _, rfl, ?_, ⟨_, rfl⟩, hW, hsame.mono (by decide) (by decide)⟩
              show Q_rmSeq Z a s_ en kl vs t_0 t_1 t_2 t_3 ld c1 c2 c3 h0 n0 _ s₁.heap _
              rw [e0]
              refine ⟨_, rfl, ?_, N0, rfl⟩
              obtain ⟨z1, z2, z3, z4, z5, z6⟩ := own_s s_ hs
              have t0 := (not_congr (own_ltC (194) (by decide))).mp kc0
              have t1 := (not_congr (own_ltC (224) (by decide))).mp kc1
              have t2 := (own_ltC (225) (by decide)).mp kc2
              have t3 := (own_lt2).mp hc160
              have t4 := (not_congr (own_ltC (160) (by decide))).mp hc207
              have t5 := (own_Clt (191) (by decide)).mp hc214
              have y0 := own_sh c2
              have y1 := own_sh c3
              exact own_A0 (by unfold own_P1; omega) (by unfold own_P2; omega) (by unfold own_P3; omega)
            · refine own_go (fun _ => XS.icmpNo X0.here hx rfl (hb hby d1_214) rfl (flt hc214).2.2.1) ?_
              show own_Ends p e below s₁ (mkF m 217 #[.val (.ref a), .val (.int s_), .val (.int en), .val (.int ld), .val (.int (2 : Int32)), .val (.int (160 : Int32)), .val (.int (191 : Int32)), .val (.int (1 : Int32)), .val (.int (1 : Int32)), .val (.int c1)] []) _
              refine own_go (fun _ => XS.iconst X0.here hx rfl (hb hby d1_217)) ?_
              refine own_go (fun _ => XS.goto X0.here hx rfl (pc0 := 218) (pc' := 239) rfl (hb hby d1_218) (by decide) (by decide)) ?_
              refine own_go (fun _ => XS.istore X0.here hx rfl (hb hby d1_239) rfl (l' := #[.val (.ref a), .val (.int s_), .val (.int en), .val (.int ld), .val (.int (2 : Int32)), .val (.int (160 : Int32)), .val (.int (191 : Int32)), .val (.int (1 : Int32)), .val (.int (1 : Int32)), .val (.int c1)]) rfl) ?_
              show own_Ends p e below s₁ (mkF m 241 #[.val (.ref a), .val (.int s_), .val (.int en), .val (.int ld), .val (.int (2 : Int32)), .val (.int (160 : Int32)), .val (.int (191 : Int32)), .val (.int (1 : Int32)), .val (.int (1 : Int32)), .val (.int c1)] []) _
              refine own_go (fun _ => XS.iinc X0.here hx rfl (hb hby d1_241) rfl (l' := #[.val (.ref a), .val (.int s_), .val (.int en), .val (.int ld), .val (.int (2 : Int32)), .val (.int (160 : Int32)), .val (.int (191 : Int32)), .val (.int (1 : Int32)), .val (.int (2 : Int32)), .val (.int c1)]) rfl) ?_
              show own_Ends p e below s₁ (mkF m 244 #[.val (.ref a), .val (.int s_), .val (.int en), .val (.int ld), .val (.int (2 : Int32)), .val (.int (160 : Int32)), .val (.int (191 : Int32)), .val (.int (1 : Int32)), .val (.int (2 : Int32)), .val (.int c1)] []) _
              refine own_go (fun _ => XS.goto X0.here hx rfl (pc0 := 244) (pc' := 173) rfl (hb hby d1_244) (by decide) (by decide)) ?_
              refine own_go (fun _ => XS.iload X0.here hx rfl (hb hby d1_173) rfl) ?_
              show own_Ends p e below s₁ (mkF m 175 #[.val (.ref a), .val (.int s_), .val (.int en), .val (.int ld), .val (.int (2 : Int32)), .val (.int (160 : Int32)), .val (.int (191 : Int32)), .val (.int (1 : Int32)), .val (.int (2 : Int32)), .val (.int c1)] [(.int (1 : Int32))]) _
              refine own_go (fun _ => XS.ifNo X0.here hx rfl (hb hby d1_175) rfl ((if0 _ _).trans (feq (show ¬ ((1 : Int32) = (0 : Int32)) from by decide)).1)) ?_
              show own_Ends p e below s₁ (mkF m 178 #[.val (.ref a), .val (.int s_), .val (.int en), .val (.int ld), .val (.int (2 : Int32)), .val (.int (160 : Int32)), .val (.int (191 : Int32)), .val (.int (1 : Int32)), .val (.int (2 : Int32)), .val (.int c1)] []) _
              refine own_go (fun _ => XS.iload X0.here hx rfl (hb hby d1_178) rfl) ?_
              refine own_go (fun _ => XS.iload X0.here hx rfl (hb hby d1_180) rfl) ?_
              show own_Ends p e below s₁ (mkF m 182 #[.val (.ref a), .val (.int s_), .val (.int en), .val (.int ld), .val (.int (2 : Int32)), .val (.int (160 : Int32)), .val (.int (191 : Int32)), .val (.int (1 : Int32)), .val (.int (2 : Int32)), .val (.int c1)] [(.int (2 : Int32)), (.int (2 : Int32))]) _
              refine own_go (fun _ => XS.icmpNo X0.here hx rfl (hb hby d1_182) rfl (flt (show ¬ ((2 : Int32) < (2 : Int32)) from by decide)).2.2.1) ?_
              show own_Ends p e below s₁ (mkF m 185 #[.val (.ref a), .val (.int s_), .val (.int en), .val (.int ld), .val (.int (2 : Int32)), .val (.int (160 : Int32)), .val (.int (191 : Int32)), .val (.int (1 : Int32)), .val (.int (2 : Int32)), .val (.int c1)] []) _
              refine own_go (fun _ => XS.aloadN X0.here hx rfl (hb hby d1_185) rfl rfl) ?_
              refine own_go (fun _ => XS.iloadN X0.here hx rfl (hb hby d1_186) rfl) ?_
              refine own_go (fun _ => XS.iload X0.here hx rfl (hb hby d1_187) rfl) ?_
              refine own_go (fun _ => XS.iadd X0.here hx rfl (hb hby d1_189) rfl) ?_
              show own_Ends p e below s₁ (mkF m 190 #[.val (.ref a), .val (.int s_), .val (.int en), .val (.int ld), .val (.int (2 : Int32)), .val (.int (160 : Int32)), .val (.int (191 : Int32)), .val (.int (1 : Int32)), .val (.int (2 : Int32)), .val (.int c1)] [(.int (s_ + (2 : Int32))), (.ref a)]) _
              obtain ⟨cl_4, Ar_4, q_4, S_4, M_4, H_4, G_4⟩ := V_a_r3
              have hin4 : ¬ ((s_ + (2 : Int32)) < 0 ∨ cl_4.slots.size ≤ ((s_ + (2 : Int32))).toNatClampNeg) := inb_of S_4 (own_in s_ hs).2.2.1
              have hat4 : cl_4.slots[((s_ + (2 : Int32))).toNatClampNeg]? = some (.int t_2) := Has.at H_4 hin4 (hva2)
              refine own_go (X0.baloadBytes hx (j := (s_ + (2 : Int32))) (v := (.int t_2)) (by rw [e0]; exact Ar_4.1) (State.isArrayOf_alike hZ.alike Ar_4.2.1) Ar_4.2.2 hin4 hat4 (g := (mkF m 190 #[.val (.ref a), .val (.int s_), .val (.int en), .val (.int ld), .val (.int (2 : Int32)), .val (.int (160 : Int32)), .val (.int (191 : Int32)), .val (.int (1 : Int32)), .val (.int (2 : Int32)), .val (.int c1)] [(.int (s_ + (2 : Int32))), (.ref a)])) rfl rfl (hb hby d1_190)) ?_
              have V_a_r4 : Arv Z h0 a kl .byte (6 : Int32) vs (.int (0 : Int32)) := ⟨cl_4, Ar_4, q_4, S_4, M_4, H_4, G_4⟩
              show own_Ends p e below s₁ (mkF m 191 #[.val (.ref a), .val (.int s_), .val (.int en), .val (.int ld), .val (.int (2 : Int32)), .val (.int (160 : Int32)), .val (.int (191 : Int32)), .val (.int (1 : Int32)), .val (.int (2 : Int32)), .val (.int c1)] [(.int t_2)]) _
              refine own_go (fun _ => XS.sipush X0.here hx rfl (hb hby d1_191)) ?_
              refine own_go (fun _ => XS.iand X0.here hx rfl (hb hby d1_194) rfl) ?_
              show own_Ends p e below s₁ (mkF m 195 #[.val (.ref a), .val (.int s_), .val (.int en), .val (.int ld), .val (.int (2 : Int32)), .val (.int (160 : Int32)), .val (.int (191 : Int32)), .val (.int (1 : Int32)), .val (.int (2 : Int32)), .val (.int c1)] [(.int (t_2 &&& (255 : Int32)))]) _
              refine own_go (fun _ => XS.istore X0.here hx rfl (hb hby d1_195) rfl (l' := #[.val (.ref a), .val (.int s_), .val (.int en), .val (.int ld), .val (.int (2 : Int32)), .val (.int (160 : Int32)), .val (.int (191 : Int32)), .val (.int (1 : Int32)), .val (.int (2 : Int32)), .val (.int (t_2 &&& (255 : Int32)))]) rfl) ?_
              show own_Ends p e below s₁ (mkF m 197 #[.val (.ref a), .val (.int s_), .val (.int en), .val (.int ld), .val (.int (2 : Int32)), .val (.int (160 : Int32)), .val (.int (191 : Int32)), .val (.int (1 : Int32)), .val (.int (2 : Int32)), .val (.int (t_2 &&& (255 : Int32)))] []) _
              rw [hl2]
              show own_Ends p e below s₁ (mkF m 197 #[.val (.ref a), .val (.int s_), .val (.int en), .val (.int ld), .val (.int (2 : Int32)), .val (.int (160 : Int32)), .val (.int (191 : Int32)), .val (.int (1 : Int32)), .val (.int (2 : Int32)), .val (.int c2)] []) _
              refine own_go (fun _ => XS.iload X0.here hx rfl (hb hby d1_197) rfl) ?_
              refine own_go (fun _ => XS.iconst X0.here hx rfl (hb hby d1_199)) ?_
              show own_Ends p e below s₁ (mkF m 200 #[.val (.ref a), .val (.int s_), .val (.int en), .val (.int ld), .val (.int (2 : Int32)), .val (.int (160 : Int32)), .val (.int (191 : Int32)), .val (.int (1 : Int32)), .val (.int (2 : Int32)), .val (.int c2)] [(.int (1 : Int32)), (.int (2 : Int32))]) _
              refine own_go (fun _ => XS.icmpYes X0.here hx rfl (pc0 := 200) (pc' := 225) rfl (hb hby d1_200) rfl (feq (show ¬ ((2 : Int32) = (1 : Int32)) from by decide)).2 (by decide) (by decide)) ?_
              show own_Ends p e below s₁ (mkF m 225 #[.val (.ref a), .val (.int s_), .val (.int en), .val (.int ld), .val (.int (2 : Int32)), .val (.int (160 : Int32)), .val (.int (191 : Int32)), .val (.int (1 : Int32)), .val (.int (2 : Int32)), .val (.int c2)] []) _
              refine own_go (fun _ => XS.iload X0.here hx rfl (hb hby d1_225) rfl) ?_
              refine own_go (fun _ => XS.bipush X0.here hx rfl (hb hby d1_227)) ?_
              refine own_go (fun _ => XS.ishr X0.here hx rfl (hb hby d1_229) rfl) ?_
              show own_Ends p e below s₁ (mkF m 230 #[.val (.ref a), .val (.int s_), .val (.int en), .val (.int ld), .val (.int (2 : Int32)), .val (.int (160 : Int32)), .val (.int (191 : Int32)), .val (.int (1 : Int32)), .val (.int (2 : Int32)), .val (.int c2)] [(.int (c2 >>> ((6 : Int32) &&& 31)))]) _
              refine own_go (fun _ => XS.iconst X0.here hx rfl (hb hby d1_230)) ?_
              show own_Ends p e below s₁ (mkF m 231 #[.val (.ref a), .val (.int s_), .val (.int en), .val (.int ld), .val (.int (2 : Int32)), .val (.int (160 : Int32)), .val (.int (191 : Int32)), .val (.int (1 : Int32)), .val (.int (2 : Int32)), .val (.int c2)] [(.int (2 : Int32)), (.int (c2 >>> ((6 : Int32) &&& 31)))]) _
              by_cases hc231 : (c2 >>> ((6 : Int32) &&& 31)) = (2 : Int32)
              · refine own_go (fun _ => XS.icmpNo X0.here hx rfl (hb hby d1_231) rfl (teq hc231).2) ?_
                show own_Ends p e below s₁ (mkF m 234 #[.val (.ref a), .val (.int s_), .val (.int en), .val (.int ld), .val (.int (2 : Int32)), .val (.int (160 : Int32)), .val (.int (191 : Int32)), .val (.int (1 : Int32)), .val (.int (2 : Int32)), .val (.int c2)] []) _
                refine own_go (fun _ => XS.iconst X0.here hx rfl (hb hby d1_234)) ?_
                refine own_go (fun _ => XS.goto X0.here hx rfl (pc0 := 235) (pc' := 239) rfl (hb hby d1_235) (by decide) (by decide)) ?_
                refine own_go (fun _ => XS.istore X0.here hx rfl (hb hby d1_239) rfl (l' := #[.val (.ref a), .val (.int s_), .val (.int en), .val (.int ld), .val (.int (2 : Int32)), .val (.int (160 : Int32)), .val (.int (191 : Int32)), .val (.int (1 : Int32)), .val (.int (2 : Int32)), .val (.int c2)]) rfl) ?_
                show own_Ends p e below s₁ (mkF m 241 #[.val (.ref a), .val (.int s_), .val (.int en), .val (.int ld), .val (.int (2 : Int32)), .val (.int (160 : Int32)), .val (.int (191 : Int32)), .val (.int (1 : Int32)), .val (.int (2 : Int32)), .val (.int c2)] []) _
                refine own_go (fun _ => XS.iinc X0.here hx rfl (hb hby d1_241) rfl (l' := #[.val (.ref a), .val (.int s_), .val (.int en), .val (.int ld), .val (.int (2 : Int32)), .val (.int (160 : Int32)), .val (.int (191 : Int32)), .val (.int (1 : Int32)), .val (.int (3 : Int32)), .val (.int c2)]) rfl) ?_
                show own_Ends p e below s₁ (mkF m 244 #[.val (.ref a), .val (.int s_), .val (.int en), .val (.int ld), .val (.int (2 : Int32)), .val (.int (160 : Int32)), .val (.int (191 : Int32)), .val (.int (1 : Int32)), .val (.int (3 : Int32)), .val (.int c2)] []) _
                refine own_go (fun _ => XS.goto X0.here hx rfl (pc0 := 244) (pc' := 173) rfl (hb hby d1_244) (by decide) (by decide)) ?_
                refine own_go (fun _ => XS.iload X0.here hx rfl (hb hby d1_173) rfl) ?_
                show own_Ends p e below s₁ (mkF m 175 #[.val (.ref a), .val (.int s_), .val (.int en), .val (.int ld), .val (.int (2 : Int32)), .val (.int (160 : Int32)), .val (.int (191 : Int32)), .val (.int (1 : Int32)), .val (.int (3 : Int32)), .val (.int c2)] [(.int (1 : Int32))]) _
                refine own_go (fun _ => XS.ifNo X0.here hx rfl (hb hby d1_175) rfl ((if0 _ _).trans (feq (show ¬ ((1 : Int32) = (0 : Int32)) from by decide)).1)) ?_
                show own_Ends p e below s₁ (mkF m 178 #[.val (.ref a), .val (.int s_), .val (.int en), .val (.int ld), .val (.int (2 : Int32)), .val (.int (160 : Int32)), .val (.int (191 : Int32)), .val (.int (1 : Int32)), .val (.int (3 : Int32)), .val (.int c2)] []) _
                refine own_go (fun _ => XS.iload X0.here hx rfl (hb hby d1_178) rfl) ?_
                refine own_go (fun _ => XS.iload X0.here hx rfl (hb hby d1_180) rfl) ?_
                show own_Ends p e below s₁ (mkF m 182 #[.val (.ref a), .val (.int s_), .val (.int en), .val (.int ld), .val (.int (2 : Int32)), .val (.int (160 : Int32)), .val (.int (191 : Int32)), .val (.int (1 : Int32)), .val (.int (3 : Int32)), .val (.int c2)] [(.int (2 : Int32)), (.int (3 : Int32))]) _
                refine own_go (fun _ => XS.icmpYes X0.here hx rfl (pc0 := 182) (pc' := 247) rfl (hb hby d1_182) rfl (tlt (show (2 : Int32) < (3 : Int32) from by decide)).2.2.1 (by decide) (by decide)) ?_
                show own_Ends p e below s₁ (mkF m 247 #[.val (.ref a), .val (.int s_), .val (.int en), .val (.int ld), .val (.int (2 : Int32)), .val (.int (160 : Int32)), .val (.int (191 : Int32)), .val (.int (1 : Int32)), .val (.int (3 : Int32)), .val (.int c2)] []) _
                refine own_go (fun _ => XS.iload X0.here hx rfl (hb hby d1_247) rfl) ?_
                show own_Ends p e below s₁ (mkF m 249 #[.val (.ref a), .val (.int s_), .val (.int en), .val (.int ld), .val (.int (2 : Int32)), .val (.int (160 : Int32)), .val (.int (191 : Int32)), .val (.int (1 : Int32)), .val (.int (3 : Int32)), .val (.int c2)] [(.int (1 : Int32))]) _
                refine own_go (fun _ => XS.ifNo X0.here hx rfl (hb hby d1_249) rfl ((if0 _ _).trans (feq (show ¬ ((1 : Int32) = (0 : Int32)) from by decide)).1)) ?_
                show own_Ends p e below s₁ (mkF m 252 #[.val (.ref a), .val (.int s_), .val (.int en), .val (.int ld), .val (.int (2 : Int32)), .val (.int (160 : Int32)), .val (.int (191 : Int32)), .val (.int (1 : Int32)), .val (.int (3 : Int32)), .val (.int c2)] []) _
                refine own_go (fun _ => XS.iloadN X0.here hx rfl (hb hby d1_252) rfl) ?_
                refine own_go (fun _ => XS.iload X0.here hx rfl (hb hby d1_253) rfl) ?_
                refine own_go (fun _ => XS.iadd X0.here hx rfl (hb hby d1_255) rfl) ?_
                show own_Ends p e below s₁ (mkF m 256 #[.val (.ref a), .val (.int s_), .val (.int en), .val (.int ld), .val (.int (2 : Int32)), .val (.int (160 : Int32)), .val (.int (191 : Int32)), .val (.int (1 : Int32)), .val (.int (3 : Int32)), .val (.int c2)] [(.int (s_ + (2 : Int32)))]) _
                refine own_go (fun _ => XS.iconst X0.here hx rfl (hb hby d1_256)) ?_
                refine own_go (fun _ => XS.iadd X0.here hx rfl (hb hby d1_257) rfl) ?_
                show own_Ends p e below s₁ (mkF m 258 #[.val (.ref a), .val (.int s_), .val (.int en), .val (.int ld), .val (.int (2 : Int32)), .val (.int (160 : Int32)), .val (.int (191 : Int32)), .val (.int (1 : Int32)), .val (.int (3 : Int32)), .val (.int c2)] [(.int ((s_ + (2 : Int32)) + (1 : Int32)))]) _
                refine own_go (fun _ => XS.goto X0.here hx rfl (pc0 := 258) (pc' := 262) rfl (hb hby d1_258) (by decide) (by decide)) ?_
                obtain ⟨fs, hr, hrun, hended, hW, hsame⟩ := X0.leave (v := some (.int ((s_ + (2 : Int32)) + (1 : Int32)))) (fun h => by rw [Bd.returns] at h; cases h)
                refine ⟨_, _, retI X0 hx Bd.returns (hb hby d1_262) hr, hrun, hended, _, _, rfl, ?_, ⟨_, rfl⟩, hW, hsame.mono (by decide) (by decide)⟩
                show Q_rmSeq Z a s_ en kl vs t_0 t_1 t_2 t_3 ld c1 c2 c3 h0 n0 _ s₁.heap _
                rw [e0]
                refine ⟨_, rfl, ?_, N0, rfl⟩
                obtain ⟨z1, z2, z3, z4, z5, z6⟩ := own_s s_ hs
                have t0 := (not_congr (own_ltC (194) (by decide))).mp kc0
                have t1 := (not_congr (own_ltC (224) (by decide))).mp kc1
                have t2 := (own_ltC (225) (by decide)).mp kc2
                have t3 := (own_lt2).mp hc160
                have t4 := (not_congr (own_ltC (160) (by decide))).mp hc207
                have t5 := (not_congr (own_Clt (191) (by decide))).mp hc214
                have t6 := (own_eqC (2) (by decide)).mp hc231
                have y0 := own_sh c2
                have y1 := own_sh c3
                exact own_A2 (by unfold own_P2; omega) (own_as3 _)
              · refine own_go (fun _ => XS.icmpYes X0.here hx rfl (pc0 := 231) (pc' := 238) rfl (hb hby d1_231) rfl (feq hc231).2 (by decide) (by decide)) ?_
                show own_Ends p e below s₁ (mkF m 238 #[.val (.ref a), .val (.int s_), .val (.int en), .val (.int ld), .val (.int (2 : Int32)), .val (.int (160 : Int32)), .val (.int (191 : Int32)), .val (.int (1 : Int32)), .val (.int (2 : Int32)), .val (.int c2)] []) _
                refine own_go (fun _ => XS.iconst X0.here hx rfl (hb hby d1_238)) ?_
                refine own_go (fun _ => XS.istore X0.here hx rfl (hb hby d1_239) rfl (l' := #[.val (.ref a), .val (.int s_), .val (.int en), .val (.int ld), .val (.int (2 : Int32)), .val (.int (160 : Int32)), .val (.int (191 : Int32)), .val (.int (0 : Int32)), .val (.int (2 : Int32)), .val (.int c2)]) rfl) ?_
                show own_Ends p e below s₁ (mkF m 241 #[.val (.ref a), .val (.int s_), .val (.int en), .val (.int ld), .val (.int (2 : Int32)), .val (.int (160 : Int32)), .val (.int (191 : Int32)), .val (.int (0 : Int32)), .val (.int (2 : Int32)), .val (.int c2)] []) _
                refine own_go (fun _ => XS.iinc X0.here hx rfl (hb hby d1_241) rfl (l' := #[.val (.ref a), .val (.int s_), .val (.int en), .val (.int ld), .val (.int (2 : Int32)), .val (.int (160 : Int32)), .val (.int (191 : Int32)), .val (.int (0 : Int32)), .val (.int (3 : Int32)), .val (.int c2)]) rfl) ?_
                show own_Ends p e below s₁ (mkF m 244 #[.val (.ref a), .val (.int s_), .val (.int en), .val (.int ld), .val (.int (2 : Int32)), .val (.int (160 : Int32)), .val (.int (191 : Int32)), .val (.int (0 : Int32)), .val (.int (3 : Int32)), .val (.int c2)] []) _
                refine own_go (fun _ => XS.goto X0.here hx rfl (pc0 := 244) (pc' := 173) rfl (hb hby d1_244) (by decide) (by decide)) ?_
                refine own_go (fun _ => XS.iload X0.here hx rfl (hb hby d1_173) rfl) ?_
                show own_Ends p e below s₁ (mkF m 175 #[.val (.ref a), .val (.int s_), .val (.int en), .val (.int ld), .val (.int (2 : Int32)), .val (.int (160 : Int32)), .val (.int (191 : Int32)), .val (.int (0 : Int32)), .val (.int (3 : Int32)), .val (.int c2)] [(.int (0 : Int32))]) _
                refine own_go (fun _ => XS.ifYes X0.here hx rfl (pc0 := 175) (pc' := 247) rfl (hb hby d1_175) rfl ((if0 _ _).trans (teq (show (0 : Int32) = (0 : Int32) from by decide)).1) (by decide) (by decide)) ?_
                show own_Ends p e below s₁ (mkF m 247 #[.val (.ref a), .val (.int s_), .val (.int en), .val (.int ld), .val (.int (2 : Int32)), .val (.int (160 : Int32)), .val (.int (191 : Int32)), .val (.int (0 : Int32)), .val (.int (3 : Int32)), .val (.int c2)] []) _
                refine own_go (fun _ => XS.iload X0.here hx rfl (hb hby d1_247) rfl) ?_
                show own_Ends p e below s₁ (mkF m 249 #[.val (.ref a), .val (.int s_), .val (.int en), .val (.int ld), .val (.int (2 : Int32)), .val (.int (160 : Int32)), .val (.int (191 : Int32)), .val (.int (0 : Int32)), .val (.int (3 : Int32)), .val (.int c2)] [(.int (0 : Int32))]) _
                refine own_go (fun _ => XS.ifYes X0.here hx rfl (pc0 := 249) (pc' := 261) rfl (hb hby d1_249) rfl ((if0 _ _).trans (teq (show (0 : Int32) = (0 : Int32) from by decide)).1) (by decide) (by decide)) ?_
                show own_Ends p e below s₁ (mkF m 261 #[.val (.ref a), .val (.int s_), .val (.int en), .val (.int ld), .val (.int (2 : Int32)), .val (.int (160 : Int32)), .val (.int (191 : Int32)), .val (.int (0 : Int32)), .val (.int (3 : Int32)), .val (.int c2)] []) _
                refine own_go (fun _ => XS.iconst X0.here hx rfl (hb hby d1_261)) ?_
                obtain ⟨fs, hr, hrun, hended, hW, hsame⟩ := X0.leave (v := some (.int (-1 : Int32))) (fun h => by rw [Bd.returns] at h; cases h)
                refine ⟨_, _, retI X0 hx Bd.returns (hb hby d1_262) hr, hrun, hended, _, _, rfl, ?_, ⟨_, rfl⟩, hW, hsame.mono (by decide) (by decide)⟩
                show Q_rmSeq Z a s_ en kl vs t_0 t_1 t_2 t_3 ld c1 c2 c3 h0 n0 _ s₁.heap _
                rw [e0]
                refine ⟨_, rfl, ?_, N0, rfl⟩
                obtain ⟨z1, z2, z3, z4, z5, z6⟩ := own_s s_ hs
                have t0 := (not_congr (own_ltC (194) (by decide))).mp kc0
                have t1 := (not_congr (own_ltC (224) (by decide))).mp kc1
                have t2 := (own_ltC (225) (by decide)).mp kc2
                have t3 := (own_lt2).mp hc160
                have t4 := (not_congr (own_ltC (160) (by decide))).mp hc207
                have t5 := (not_congr (own_Clt (191) (by decide))).mp hc214
                have t6 := (not_congr (own_eqC (2) (by decide))).mp hc231
                have y0 := own_sh c2
                have y1 := own_sh c3
                exact own_A0 (by unfold own_P1; omega) (by unfold own_P2; omega) (by unfold own_P3; omega)
        · refine own_go (fun _ => XS.icmpYes X0.here hx rfl (pc0 := 160) (pc' := 167) rfl (hb hby d1_160) rfl (flt hc160).2.1 (by decide) (by decide)) ?_
          show own_Ends p e below s₁ (mkF m 167 #[.val (.ref a), .val (.int s_), .val (.int en), .val (.int ld), .val (.int (2 : Int32)), .val (.int (160 : Int32)), .val (.int (191 : Int32)), .unset, .unset, .unset] []) _
          refine own_go (fun _ => XS.iconst X0.here hx rfl (hb hby d1_167)) ?_
          refine own_go (fun _ => XS.istore X0.here hx rfl (hb hby d1_168) rfl (l' := #[.val (.ref a), .val (.int s_), .val (.int en), .val (.int ld), .val (.int (2 : Int32)), .val (.int (160 : Int32)), .val (.int (191 : Int32)), .val (.int (0 : Int32)), .unset, .unset]) rfl) ?_
          show own_Ends p e below s₁ (mkF m 170 #[.val (.ref a), .val (.int s_), .val (.int en), .val (.int ld), .val (.int (2 : Int32)), .val (.int (160 : Int32)), .val (.int (191 : Int32)), .val (.int (0 : Int32)), .unset, .unset] []) _
          refine own_go (fun _ => XS.iconst X0.here hx rfl (hb hby d1_170)) ?_
          refine own_go (fun _ => XS.istore X0.here hx rfl (hb hby d1_171) rfl (l' := #[.val (.ref a), .val (.int s_), .val (.int en), .val (.int ld), .val (.int (2 : Int32)), .val (.int (160 : Int32)), .val (.int (191 : Int32)), .val (.int (0 : Int32)), .val (.int (1 : Int32)), .unset]) rfl) ?_
          show own_Ends p e below s₁ (mkF m 173 #[.val (.ref a), .val (.int s_), .val (.int en), .val (.int ld), .val (.int (2 : Int32)), .val (.int (160 : Int32)), .val (.int (191 : Int32)), .val (.int (0 : Int32)), .val (.int (1 : Int32)), .unset] []) _
          refine own_go (fun _ => XS.iload X0.here hx rfl (hb hby d1_173) rfl) ?_
          show own_Ends p e below s₁ (mkF m 175 #[.val (.ref a), .val (.int s_), .val (.int en), .val (.int ld), .val (.int (2 : Int32)), .val (.int (160 : Int32)), .val (.int (191 : Int32)), .val (.int (0 : Int32)), .val (.int (1 : Int32)), .unset] [(.int (0 : Int32))]) _
          refine own_go (fun _ => XS.ifYes X0.here hx rfl (pc0 := 175) (pc' := 247) rfl (hb hby d1_175) rfl ((if0 _ _).trans (teq (show (0 : Int32) = (0 : Int32) from by decide)).1) (by decide) (by decide)) ?_
          show own_Ends p e below s₁ (mkF m 247 #[.val (.ref a), .val (.int s_), .val (.int en), .val (.int ld), .val (.int (2 : Int32)), .val (.int (160 : Int32)), .val (.int (191 : Int32)), .val (.int (0 : Int32)), .val (.int (1 : Int32)), .unset] []) _
          refine own_go (fun _ => XS.iload X0.here hx rfl (hb hby d1_247) rfl) ?_
          show own_Ends p e below s₁ (mkF m 249 #[.val (.ref a), .val (.int s_), .val (.int en), .val (.int ld), .val (.int (2 : Int32)), .val (.int (160 : Int32)), .val (.int (191 : Int32)), .val (.int (0 : Int32)), .val (.int (1 : Int32)), .unset] [(.int (0 : Int32))]) _
          refine own_go (fun _ => XS.ifYes X0.here hx rfl (pc0 := 249) (pc' := 261) rfl (hb hby d1_249) rfl ((if0 _ _).trans (teq (show (0 : Int32) = (0 : Int32) from by decide)).1) (by decide) (by decide)) ?_
          show own_Ends p e below s₁ (mkF m 261 #[.val (.ref a), .val (.int s_), .val (.int en), .val (.int ld), .val (.int (2 : Int32)), .val (.int (160 : Int32)), .val (.int (191 : Int32)), .val (.int (0 : Int32)), .val (.int (1 : Int32)), .unset] []) _
          refine own_go (fun _ => XS.iconst X0.here hx rfl (hb hby d1_261)) ?_
          obtain ⟨fs, hr, hrun, hended, hW, hsame⟩ := X0.leave (v := some (.int (-1 : Int32))) (fun h => by rw [Bd.returns] at h; cases h)
          refine ⟨_, _, retI X0 hx Bd.returns (hb hby d1_262) hr, hrun, hended, _, _, rfl, ?_, ⟨_, rfl⟩, hW, hsame.mono (by decide) (by decide)⟩
          show Q_rmSeq Z a s_ en kl vs t_0 t_1 t_2 t_3 ld c1 c2 c3 h0 n0 _ s₁.heap _
          rw [e0]
          refine ⟨_, rfl, ?_, N0, rfl⟩
          obtain ⟨z1, z2, z3, z4, z5, z6⟩ := own_s s_ hs
          have t0 := (not_congr (own_ltC (194) (by decide))).mp kc0
          have t1 := (not_congr (own_ltC (224) (by decide))).mp kc1
          have t2 := (own_ltC (225) (by decide)).mp kc2
          have t3 := (not_congr (own_lt2)).mp hc160
          have y0 := own_sh c2
          have y1 := own_sh c3
          exact own_A0 (by unfold own_P1; omega) (by unfold own_P2; omega) (by unfold own_P3; omega)
      · by_cases kc3 : ld < (237 : Int32)
        · refine own_go (fun _ => XS.iloadN X0.here hx rfl (hb hby d1_21) rfl) ?_
          refine own_go (fun _ => XS.sipush X0.here hx rfl (hb hby d1_22)) ?_
          show own_Ends p e below s₁ (mkF m 25 #[.val (.ref a), .val (.int s_), .val (.int en), .val (.int ld), .val (.int (0 : Int32)), .val (.int (128 : Int32)), .val (.int (191 : Int32)), .unset, .unset, .unset] [(.int (194 : Int32)), (.int ld)]) _
          refine own_go (fun _ => XS.icmpNo X0.here hx rfl (hb hby d1_25) rfl (flt (show ¬ (ld < (194 : Int32)) from own_nlt kc2 (by decide))).1) ?_
          show own_Ends p e below s₁ (mkF m 28 #[.val (.ref a), .val (.int s_), .val (.int en), .val (.int ld), .val (.int (0 : Int32)), .val (.int (128 : Int32)), .val (.int (191 : Int32)), .unset, .unset, .unset] []) _
          refine own_go (fun _ => XS.iloadN X0.here hx rfl (hb hby d1_28) rfl) ?_
          refine own_go (fun _ => XS.sipush X0.here hx rfl (hb hby d1_29)) ?_
          show own_Ends p e below s₁ (mkF m 32 #[.val (.ref a), .val (.int s_), .val (.int en), .val (.int ld), .val (.int (0 : Int32)), .val (.int (128 : Int32)), .val (.int (191 : Int32)), .unset, .unset, .unset] [(.int (223 : Int32)), (.int ld)]) _
          refine own_go (fun _ => XS.icmpYes X0.here hx rfl (pc0 := 32) (pc' := 41) rfl (hb hby d1_32) rfl (tlt (show (223 : Int32) < ld from own_gt kc2 (by decide))).2.2.1 (by decide) (by decide)) ?_
          show own_Ends p e below s₁ (mkF m 41 #[.val (.ref a), .val (.int s_), .val (.int en), .val (.int ld), .val (.int (0 : Int32)), .val (.int (128 : Int32)), .val (.int (191 : Int32)), .unset, .unset, .unset] []) _
          refine own_go (fun _ => XS.iloadN X0.here hx rfl (hb hby d1_41) rfl) ?_
          refine own_go (fun _ => XS.sipush X0.here hx rfl (hb hby d1_42)) ?_
          show own_Ends p e below s₁ (mkF m 45 #[.val (.ref a), .val (.int s_), .val (.int en), .val (.int ld), .val (.int (0 : Int32)), .val (.int (128 : Int32)), .val (.int (191 : Int32)), .unset, .unset, .unset] [(.int (224 : Int32)), (.int ld)]) _
          refine own_go (fun _ => XS.icmpNo X0.here hx rfl (hb hby d1_45) rfl (flt (show ¬ (ld < (224 : Int32)) from own_nlt kc2 (by decide))).1) ?_
          show own_Ends p e below s₁ (mkF m 48 #[.val (.ref a), .val (.int s_), .val (.int en), .val (.int ld), .val (.int (0 : Int32)), .val (.int (128 : Int32)), .val (.int (191 : Int32)), .unset, .unset, .unset] []) _
          refine own_go (fun _ => XS.iloadN X0.here hx rfl (hb hby d1_48) rfl) ?_
          refine own_go (fun _ => XS.sipush X0.here hx rfl (hb hby d1_49)) ?_
          show own_Ends p e below s₁ (mkF m 52 #[.val (.ref a), .val (.int s_), .val (.int en), .val (.int ld), .val (.int (0 : Int32)), .val (.int (128 : Int32)), .val (.int (191 : Int32)), .unset, .unset, .unset] [(.int (239 : Int32)), (.int ld)]) _
          refine own_go (fun _ => XS.icmpNo X0.here hx rfl (hb hby d1_52) rfl (flt (show ¬ ((239 : Int32) < ld) from own_ngt kc3 (by decide))).2.2.1) ?_
          show own_Ends p e below s₁ (mkF m 55 #[.val (.ref a), .val (.int s_), .val (.int en), .val (.int ld), .val (.int (0 : Int32)), .val (.int (128 : Int32)), .val (.int (191 : Int32)), .unset, .unset, .unset] []) _
          refine own_go (fun _ => XS.iconst X0.here hx rfl (hb hby d1_55)) ?_
          refine own_go (fun _ => XS.istore X0.here hx rfl (hb hby d1_56) rfl (l' := #[.val (.ref a), .val (.int s_), .val (.int en), .val (.int ld), .val (.int (2 : Int32)), .val (.int (128 : Int32)), .val (.int (191 : Int32)), .unset, .unset, .unset]) rfl) ?_
          show own_Ends p e below s₁ (mkF m 58 #[.val (.ref a), .val (.int s_), .val (.int en), .val (.int ld), .val (.int (2 : Int32)), .val (.int (128 : Int32)), .val (.int (191 : Int32)), .unset, .unset, .unset] []) _
          refine own_go (fun _ => XS.iloadN X0.here hx rfl (hb hby d1_58) rfl) ?_
          refine own_go (fun _ => XS.sipush X0.here hx rfl (hb hby d1_59)) ?_
          show own_Ends p e below s₁ (mkF m 62 #[.val (.ref a), .val (.int s_), .val (.int en), .val (.int ld), .val (.int (2 : Int32)), .val (.int (128 : Int32)), .val (.int (191 : Int32)), .unset, .unset, .unset] [(.int (224 : Int32)), (.int ld)]) _
          refine own_go (fun _ => XS.icmpYes X0.here hx rfl (pc0 := 62) (pc' := 71) rfl (hb hby d1_62) rfl (feq (show ¬ (ld = (224 : Int32)) from own_ne1 kc2 (by decide))).2 (by decide) (by decide)) ?_
          show own_Ends p e below s₁ (mkF m 71 #[.val (.ref a), .val (.int s_), .val (.int en), .val (.int ld), .val (.int (2 : Int32)), .val (.int (128 : Int32)), .val (.int (191 : Int32)), .unset, .unset, .unset] []) _
          refine own_go (fun _ => XS.sipush X0.here hx rfl (hb hby d1_71)) ?_
          refine own_go (fun _ => XS.istore X0.here hx rfl (hb hby d1_74) rfl (l' := #[.val (.ref a), .val (.int s_), .val (.int en), .val (.int ld), .val (.int (2 : Int32)), .val (.int (128 : Int32)), .val (.int (191 : Int32)), .unset, .unset, .unset]) rfl) ?_
          show own_Ends p e below s₁ (mkF m 76 #[.val (.ref a), .val (.int s_), .val (.int en), .val (.int ld), .val (.int (2 : Int32)), .val (.int (128 : Int32)), .val (.int (191 : Int32)), .unset, .unset, .unset] []) _
          refine own_go (fun _ => XS.iloadN X0.here hx rfl (hb hby d1_76) rfl) ?_
          refine own_go (fun _ => XS.sipush X0.here hx rfl (hb hby d1_77)) ?_
          show own_Ends p e below s₁ (mkF m 80 #[.val (.ref a), .val (.int s_), .val (.int en), .val (.int ld), .val (.int (2 : Int32)), .val (.int (128 : Int32)), .val (.int (191 : Int32)), .unset, .unset, .unset] [(.int (237 : Int32)), (.int ld)]) _
          refine own_go (fun _ => XS.icmpYes X0.here hx rfl (pc0 := 80) (pc' := 89) rfl (hb hby d1_80) rfl (feq (show ¬ (ld = (237 : Int32)) from own_ne2 kc3 (by decide))).2 (by decide) (by decide)) ?_
          show own_Ends p e below s₁ (mkF m 89 #[.val (.ref a), .val (.int s_), .val (.int en), .val (.int ld), .val (.int (2 : Int32)), .val (.int (128 : Int32)), .val (.int (191 : Int32)), .unset, .unset, .unset] []) _
          refine own_go (fun _ => XS.sipush X0.here hx rfl (hb hby d1_89)) ?_
          refine own_go (fun _ => XS.istore X0.here hx rfl (hb hby d1_92) rfl (l' := #[.val (.ref a), .val (.int s_), .val (.int en), .val (.int ld), .val (.int (2 : Int32)), .val (.int (128 : Int32)), .val (.int (191 : Int32)), .unset, .unset, .unset]) rfl) ?_
          show own_Ends p e below s₁ (mkF m 94 #[.val (.ref a), .val (.int s_), .val (.int en), .val (.int ld), .val (.int (2 : Int32)), .val (.int (128 : Int32)), .val (.int (191 : Int32)), .unset, .unset, .unset] []) _
          refine own_go (fun _ => XS.goto X0.here hx rfl (pc0 := 94) (pc' := 150) rfl (hb hby d1_94) (by decide) (by decide)) ?_
          refine own_go (fun _ => XS.iload X0.here hx rfl (hb hby d1_150) rfl) ?_
          show own_Ends p e below s₁ (mkF m 152 #[.val (.ref a), .val (.int s_), .val (.int en), .val (.int ld), .val (.int (2 : Int32)), .val (.int (128 : Int32)), .val (.int (191 : Int32)), .unset, .unset, .unset] [(.int (2 : Int32))]) _
          refine own_go (fun _ => XS.ifNo X0.here hx rfl (hb hby d1_152) rfl ((if0 _ _).trans (tlt (show (0 : Int32) < (2 : Int32) from by decide)).2.2.2)) ?_
          show own_Ends p e below s₁ (mkF m 155 #[.val (.ref a), .val (.int s_), .val (.int en), .val (.int ld), .val (.int (2 : Int32)), .val (.int (128 : Int32)), .val (.int (191 : Int32)), .unset, .unset, .unset] []) _
          refine own_go (fun _ => XS.iloadN X0.here hx rfl (hb hby d1_155) rfl) ?_
          refine own_go (fun _ => XS.iload X0.here hx rfl (hb hby d1_156) rfl) ?_
          refine own_go (fun _ => XS.iadd X0.here hx rfl (hb hby d1_158) rfl) ?_
          show own_Ends p e below s₁ (mkF m 159 #[.val (.ref a), .val (.int s_), .val (.int en), .val (.int ld), .val (.int (2 : Int32)), .val (.int (128 : Int32)), .val (.int (191 : Int32)), .unset, .unset, .unset] [(.int (s_ + (2 : Int32)))]) _
          refine own_go (fun _ => XS.iloadN X0.here hx rfl (hb hby d1_159) rfl) ?_
          show own_Ends p e below s₁ (mkF m 160 #[.val (.ref a), .val (.int s_), .val (.int en), .val (.int ld), .val (.int (2 : Int32)), .val (.int (128 : Int32)), .val (.int (191 : Int32)), .unset, .unset, .unset] [(.int en), (.int (s_ + (2 : Int32)))]) _
          by_cases hc160 : (s_ + (2 : Int32)) < en
          · refine own_go (fun _ => XS.icmpNo X0.here hx rfl (hb hby d1_160) rfl (tlt hc160).2.1) ?_
            show own_Ends p e below s₁ (mkF m 163 #[.val (.ref a), .val (.int s_), .val (.int en), .val (.int ld), .val (.int (2 : Int32)), .val (.int (128 : Int32)), .val (.int (191 : Int32)), .unset, .unset, .unset] []) _
            refine own_go (fun _ => XS.iconst X0.here hx rfl (hb hby d1_163)) ?_
            refine own_go (fun _ => XS.goto X0.here hx rfl (pc0 := 164) (pc' := 168) rfl (hb hby d1_164) (by decide) (by decide)) ?_
            refine own_go (fun _ => XS.istore X0.here hx rfl (hb hby d1_168) rfl (l' := #[.val (.ref a), .val (.int s_), .val (.int en), .val (.int ld), .val (.int (2 : Int32)), .val (.int (128 : Int32)), .val (.int (191 : Int32)), .val (.int (1 : Int32)), .unset, .unset]) rfl) ?_
            show own_Ends p e below s₁ (mkF m 170 #[.val (.ref a), .val (.int s_), .val (.int en), .val (.int ld), .val (.int (2 : Int32)), .val (.int (128 : Int32)), .val (.int (191 : Int32)), .val (.int (1 : Int32)), .unset, .unset] []) _
            refine own_go (fun _ => XS.iconst X0.here hx rfl (hb hby d1_170)) ?_
            refine own_go (fun _ => XS.istore X0.here hx rfl (hb hby d1_171) rfl (l' := #[.val (.ref a), .val (.int s_), .val (.int en), .val (.int ld), .val (.int (2 : Int32)), .val (.int (128 : Int32)), .val (.int (191 : Int32)), .val (.int (1 : Int32)), .val (.int (1 : Int32)), .unset]) rfl) ?_
            show own_Ends p e below s₁ (mkF m 173 #[.val (.ref a), .val (.int s_), .val (.int en), .val (.int ld), .val (.int (2 : Int32)), .val (.int (128 : Int32)), .val (.int (191 : Int32)), .val (.int (1 : Int32)), .val (.int (1 : Int32)), .unset] []) _
            refine own_go (fun _ => XS.iload X0.here hx rfl (hb hby d1_173) rfl) ?_
            show own_Ends p e below s₁ (mkF m 175 #[.val (.ref a), .val (.int s_), .val (.int en), .val (.int ld), .val (.int (2 : Int32)), .val (.int (128 : Int32)), .val (.int (191 : Int32)), .val (.int (1 : Int32)), .val (.int (1 : Int32)), .unset] [(.int (1 : Int32))]) _
            refine own_go (fun _ => XS.ifNo X0.here hx rfl (hb hby d1_175) rfl ((if0 _ _).trans (feq (show ¬ ((1 : Int32) = (0 : Int32)) from by decide)).1)) ?_
            show own_Ends p e below s₁ (mkF m 178 #[.val (.ref a), .val (.int s_), .val (.int en), .val (.int ld), .val (.int (2 : Int32)), .val (.int (128 : Int32)), .val (.int (191 : Int32)), .val (.int (1 : Int32)), .val (.int (1 : Int32)), .unset] []) _
            refine own_go (fun _ => XS.iload X0.here hx rfl (hb hby d1_178) rfl) ?_
            refine own_go (fun _ => XS.iload X0.here hx rfl (hb hby d1_180) rfl) ?_
            show own_Ends p e below s₁ (mkF m 182 #[.val (.ref a), .val (.int s_), .val (.int en), .val (.int ld), .val (.int (2 : Int32)), .val (.int (128 : Int32)), .val (.int (191 : Int32)), .val (.int (1 : Int32)), .val (.int (1 : Int32)), .unset] [(.int (2 : Int32)), (.int (1 : Int32))]) _
            refine own_go (fun _ => XS.icmpNo X0.here hx rfl (hb hby d1_182) rfl (flt (show ¬ ((2 : Int32) < (1 : Int32)) from by decide)).2.2.1) ?_
            show own_Ends p e below s₁ (mkF m 185 #[.val (.ref a), .val (.int s_), .val (.int en), .val (.int ld), .val (.int (2 : Int32)), .val (.int (128 : Int32)), .val (.int (191 : Int32)), .val (.int (1 : Int32)), .val (.int (1 : Int32)), .unset] []) _
            refine own_go (fun _ => XS.aloadN X0.here hx rfl (hb hby d1_185) rfl rfl) ?_
            refine own_go (fun _ => XS.iloadN X0.here hx rfl (hb hby d1_186) rfl) ?_
            refine own_go (fun _ => XS.iload X0.here hx rfl (hb hby d1_187) rfl) ?_
            refine own_go (fun _ => XS.iadd X0.here hx rfl (hb hby d1_189) rfl) ?_
            show own_Ends p e below s₁ (mkF m 190 #[.val (.ref a), .val (.int s_), .val (.int en), .val (.int ld), .val (.int (2 : Int32)), .val (.int (128 : Int32)), .val (.int (191 : Int32)), .val (.int (1 : Int32)), .val (.int (1 : Int32)), .unset] [(.int (s_ + (1 : Int32))), (.ref a)]) _
            obtain ⟨cl_5, Ar_5, q_5, S_5, M_5, H_5, G_5⟩ := V_a_r1
            have hin5 : ¬ ((s_ + (1 : Int32)) < 0 ∨ cl_5.slots.size ≤ ((s_ + (1 : Int32))).toNatClampNeg) := inb_of S_5 (own_in s_ hs).2.1
            have hat5 : cl_5.slots[((s_ + (1 : Int32))).toNatClampNeg]? = some (.int t_1) := Has.at H_5 hin5 (hva1)
            refine own_go (X0.baloadBytes hx (j := (s_ + (1 : Int32))) (v := (.int t_1)) (by rw [e0]; exact Ar_5.1) (State.isArrayOf_alike hZ.alike Ar_5.2.1) Ar_5.2.2 hin5 hat5 (g := (mkF m 190 #[.val (.ref a), .val (.int s_), .val (.int en), .val (.int ld), .val (.int (2 : Int32)), .val (.int (128 : Int32)), .val (.int (191 : Int32)), .val (.int (1 : Int32)), .val (.int (1 : Int32)), .unset] [(.int (s_ + (1 : Int32))), (.ref a)])) rfl rfl (hb hby d1_190)) ?_
            have V_a_r5 : Arv Z h0 a kl .byte (6 : Int32) vs (.int (0 : Int32)) := ⟨cl_5, Ar_5, q_5, S_5, M_5, H_5, G_5⟩
            show own_Ends p e below s₁ (mkF m 191 #[.val (.ref a), .val (.int s_), .val (.int en), .val (.int ld), .val (.int (2 : Int32)), .val (.int (128 : Int32)), .val (.int (191 : Int32)), .val (.int (1 : Int32)), .val (.int (1 : Int32)), .unset] [(.int t_1)]) _
            refine own_go (fun _ => XS.sipush X0.here hx rfl (hb hby d1_191)) ?_
            refine own_go (fun _ => XS.iand X0.here hx rfl (hb hby d1_194) rfl) ?_
            show own_Ends p e below s₁ (mkF m 195 #[.val (.ref a), .val (.int s_), .val (.int en), .val (.int ld), .val (.int (2 : Int32)), .val (.int (128 : Int32)), .val (.int (191 : Int32)), .val (.int (1 : Int32)), .val (.int (1 : Int32)), .unset] [(.int (t_1 &&& (255 : Int32)))]) _
            refine own_go (fun _ => XS.istore X0.here hx rfl (hb hby d1_195) rfl (l' := #[.val (.ref a), .val (.int s_), .val (.int en), .val (.int ld), .val (.int (2 : Int32)), .val (.int (128 : Int32)), .val (.int (191 : Int32)), .val (.int (1 : Int32)), .val (.int (1 : Int32)), .val (.int (t_1 &&& (255 : Int32)))]) rfl) ?_
            show own_Ends p e below s₁ (mkF m 197 #[.val (.ref a), .val (.int s_), .val (.int en), .val (.int ld), .val (.int (2 : Int32)), .val (.int (128 : Int32)), .val (.int (191 : Int32)), .val (.int (1 : Int32)), .val (.int (1 : Int32)), .val (.int (t_1 &&& (255 : Int32)))] []) _
            rw [hl1]
            show own_Ends p e below s₁ (mkF m 197 #[.val (.ref a), .val (.int s_), .val (.int en), .val (.int ld), .val (.int (2 : Int32)), .val (.int (128 : Int32)), .val (.int (191 : Int32)), .val (.int (1 : Int32)), .val (.int (1 : Int32)), .val (.int c1)] []) _
            refine own_go (fun _ => XS.iload X0.here hx rfl (hb hby d1_197) rfl) ?_
            refine own_go (fun _ => XS.iconst X0.here hx rfl (hb hby d1_199)) ?_
            show own_Ends p e below s₁ (mkF m 200 #[.val (.ref a), .val (.int s_), .val (.int en), .val (.int ld), .val (.int (2 : Int32)), .val (.int (128 : Int32)), .val (.int (191 : Int32)), .val (.int (1 : Int32)), .val (.int (1 : Int32)), .val (.int c1)] [(.int (1 : Int32)), (.int (1 : Int32))]) _
            refine own_go (fun _ => XS.icmpNo X0.here hx rfl (hb hby d1_200) rfl (teq (show (1 : Int32) = (1 : Int32) from by decide)).2) ?_
            show own_Ends p e below s₁ (mkF m 203 #[.val (.ref a), .val (.int s_), .val (.int en), .val (.int ld), .val (.int (2 : Int32)), .val (.int (128 : Int32)), .val (.int (191 : Int32)), .val (.int (1 : Int32)), .val (.int (1 : Int32)), .val (.int c1)] []) _
            refine own_go (fun _ => XS.iload X0.here hx rfl (hb hby d1_203) rfl) ?_
            refine own_go (fun _ => XS.iload X0.here hx rfl (hb hby d1_205) rfl) ?_
            show own_Ends p e below s₁ (mkF m 207 #[.val (.ref a), .val (.int s_), .val (.int en), .val (.int ld), .val (.int (2 : Int32)), .val (.int (128 : Int32)), .val (.int (191 : Int32)), .val (.int (1 : Int32)), .val (.int (1 : Int32)), .val (.int c1)] [(.int (128 : Int32)), (.int c1)]) _
            by_cases hc207 : c1 < (128 : Int32)
            · refine own_go (fun _ => XS.icmpYes X0.here hx rfl (pc0 := 207) (pc' := 221) rfl (hb hby d1_207) rfl (tlt hc207).1 (by decide) (by decide)) ?_
              show own_Ends p e below s₁ (mkF m 221 #[.val (.ref a), .val (.int s_), .val (.int en), .val (.int ld), .val (.int (2 : Int32)), .val (.int (128 : Int32)), .val (.int (191 : Int32)), .val (.int (1 : Int32)), .val (.int (1 : Int32)), .val (.int c1)] []) _
              refine own_go (fun _ => XS.iconst X0.here hx rfl (hb hby d1_221)) ?_
              refine own_go (fun _ => XS.goto X0.here hx rfl (pc0 := 222) (pc' := 239) rfl (hb hby d1_222) (by decide) (by decide)) ?_
              refine own_go (fun _ => XS.istore X0.here hx rfl (hb hby d1_239) rfl (l' := #[.val (.ref a), .val (.int s_), .val (.int en), .val (.int ld), .val (.int (2 : Int32)), .val (.int (128 : Int32)), .val (.int (191 : Int32)), .val (.int (0 : Int32)), .val (.int (1 : Int32)), .val (.int c1)]) rfl) ?_
              show own_Ends p e below s₁ (mkF m 241 #[.val (.ref a), .val (.int s_), .val (.int en), .val (.int ld), .val (.int (2 : Int32)), .val (.int (128 : Int32)), .val (.int (191 : Int32)), .val (.int (0 : Int32)), .val (.int (1 : Int32)), .val (.int c1)] []) _
              refine own_go (fun _ => XS.iinc X0.here hx rfl (hb hby d1_241) rfl (l' := #[.val (.ref a), .val (.int s_), .val (.int en), .val (.int ld), .val (.int (2 : Int32)), .val (.int (128 : Int32)), .val (.int (191 : Int32)), .val (.int (0 : Int32)), .val (.int (2 : Int32)), .val (.int c1)]) rfl) ?_
              show own_Ends p e below s₁ (mkF m 244 #[.val (.ref a), .val (.int s_), .val (.int en), .val (.int ld), .val (.int (2 : Int32)), .val (.int (128 : Int32)), .val (.int (191 : Int32)), .val (.int (0 : Int32)), .val (.int (2 : Int32)), .val (.int c1)] []) _
              refine own_go (fun _ => XS.goto X0.here hx rfl (pc0 := 244) (pc' := 173) rfl (hb hby d1_244) (by decide) (by decide)) ?_
              refine own_go (fun _ => XS.iload X0.here hx rfl (hb hby d1_173) rfl) ?_
              show own_Ends p e below s₁ (mkF m 175 #[.val (.ref a), .val (.int s_), .val (.int en), .val (.int ld), .val (.int (2 : Int32)), .val (.int (128 : Int32)), .val (.int (191 : Int32)), .val (.int (0 : Int32)), .val (.int (2 : Int32)), .val (.int c1)] [(.int (0 : Int32))]) _
              refine own_go (fun _ => XS.ifYes X0.here hx rfl (pc0 := 175) (pc' := 247) rfl (hb hby d1_175) rfl ((if0 _ _).trans (teq (show (0 : Int32) = (0 : Int32) from by decide)).1) (by decide) (by decide)) ?_
              show own_Ends p e below s₁ (mkF m 247 #[.val (.ref a), .val (.int s_), .val (.int en), .val (.int ld), .val (.int (2 : Int32)), .val (.int (128 : Int32)), .val (.int (191 : Int32)), .val (.int (0 : Int32)), .val (.int (2 : Int32)), .val (.int c1)] []) _
              refine own_go (fun _ => XS.iload X0.here hx rfl (hb hby d1_247) rfl) ?_
              show own_Ends p e below s₁ (mkF m 249 #[.val (.ref a), .val (.int s_), .val (.int en), .val (.int ld), .val (.int (2 : Int32)), .val (.int (128 : Int32)), .val (.int (191 : Int32)), .val (.int (0 : Int32)), .val (.int (2 : Int32)), .val (.int c1)] [(.int (0 : Int32))]) _
              refine own_go (fun _ => XS.ifYes X0.here hx rfl (pc0 := 249) (pc' := 261) rfl (hb hby d1_249) rfl ((if0 _ _).trans (teq (show (0 : Int32) = (0 : Int32) from by decide)).1) (by decide) (by decide)) ?_
              show own_Ends p e below s₁ (mkF m 261 #[.val (.ref a), .val (.int s_), .val (.int en), .val (.int ld), .val (.int (2 : Int32)), .val (.int (128 : Int32)), .val (.int (191 : Int32)), .val (.int (0 : Int32)), .val (.int (2 : Int32)), .val (.int c1)] []) _
              refine own_go (fun _ => XS.iconst X0.here hx rfl (hb hby d1_261)) ?_
              obtain ⟨fs, hr, hrun, hended, hW, hsame⟩ := X0.leave (v := some (.int (-1 : Int32))) (fun h => by rw [Bd.returns] at h; cases h)
              refine ⟨_, _, retI X0 hx Bd.returns (hb hby d1_262) hr, hrun, hended, _, _, rfl, ?_, ⟨_, rfl⟩, hW, hsame.mono (by decide) (by decide)⟩
              show Q_rmSeq Z a s_ en kl vs t_0 t_1 t_2 t_3 ld c1 c2 c3 h0 n0 _ s₁.heap _
              rw [e0]
              refine ⟨_, rfl, ?_, N0, rfl⟩
              obtain ⟨z1, z2, z3, z4, z5, z6⟩ := own_s s_ hs
              have t0 := (not_congr (own_ltC (194) (by decide))).mp kc0
              have t1 := (not_congr (own_ltC (224) (by decide))).mp kc1
              have t2 := (not_congr (own_ltC (225) (by decide))).mp kc2
              have t3 := (own_ltC (237) (by decide)).mp kc3
              have t4 := (own_lt2).mp hc160
              have t5 := (own_ltC (128) (by decide)).mp hc207
              have y0 := own_sh c2
              have y1 := own_sh c3
              exact own_A0 (by unfold own_P1; omega) (by unfold own_P2; omega) (by unfold own_P3; omega)
            · refine own_go (fun _ => XS.icmpNo X0.here hx rfl (hb hby d1_207) rfl (flt hc207).1) ?_
              show own_Ends p e below s₁ (mkF m 210 #[.val (.ref a), .val (.int s_), .val (.int en), .val (.int ld), .val (.int (2 : Int32)), .val (.int (128 : Int32)), .val (.int (191 : Int32)), .val (.int (1 : Int32)), .val (.int (1 : Int32)), .val (.int c1)] []) _
              refine own_go (fun _ => XS.iload X0.here hx rfl (hb hby d1_210) rfl) ?_
              refine own_go (fun _ => XS.iload X0.here hx rfl (hb hby d1_212) rfl) ?_
              show own_Ends p e below s₁ (mkF m 214 #[.val (.ref a), .val (.int s_), .val (.int en), .val (.int ld), .val (.int (2 : Int32)), .val (.int (128 : Int32)), .val (.int (191 : Int32)), .val (.int (1 : Int32)), .val (.int (1 : Int32)), .val (.int c1)] [(.int (191 : Int32)), (.int c1)]) _
              by_cases hc214 : (191 : Int32) < c1
              · refine own_go (fun _ => XS.icmpYes X0.here hx rfl (pc0 := 214) (pc' := 221) rfl (hb hby d1_214) rfl (tlt hc214).2.2.1 (by decide) (by decide)) ?_
                show own_Ends p e below s₁ (mkF m 221 #[.val (.ref a), .val (.int s_), .val (.int en), .val (.int ld), .val (.int (2 : Int32)), .val (.int (128 : Int32)), .val (.int (191 : Int32)), .val (.int (1 : Int32)), .val (.int (1 : Int32)), .val (.int c1)] []) _
                refine own_go (fun _ => XS.iconst X0.here hx rfl (hb hby d1_221)) ?_
                refine own_go (fun _ => XS.goto X0.here hx rfl (pc0 := 222) (pc' := 239) rfl (hb hby d1_222) (by decide) (by decide)) ?_
                refine own_go (fun _ => XS.istore X0.here hx rfl (hb hby d1_239) rfl (l' := #[.val (.ref a), .val (.int s_), .val (.int en), .val (.int ld), .val (.int (2 : Int32)), .val (.int (128 : Int32)), .val (.int (191 : Int32)), .val (.int (0 : Int32)), .val (.int (1 : Int32)), .val (.int c1)]) rfl) ?_
                show own_Ends p e below s₁ (mkF m 241 #[.val (.ref a), .val (.int s_), .val (.int en), .val (.int ld), .val (.int (2 : Int32)), .val (.int (128 : Int32)), .val (.int (191 : Int32)), .val (.int (0 : Int32)), .val (.int (1 : Int32)), .val (.int c1)] []) _
                refine own_go (fun _ => XS.iinc X0.here hx rfl (hb hby d1_241) rfl (l' := #[.val (.ref a), .val (.int s_), .val (.int en), .val (.int ld), .val (.int (2 : Int32)), .val (.int (128 : Int32)), .val (.int (191 : Int32)), .val (.int (0 : Int32)), .val (.int (2 : Int32)), .val (.int c1)]) rfl) ?_
                show own_Ends p e below s₁ (mkF m 244 #[.val (.ref a), .val (.int s_), .val (.int en), .val (.int ld), .val (.int (2 : Int32)), .val (.int (128 : Int32)), .val (.int (191 : Int32)), .val (.int (0 : Int32)), .val (.int (2 : Int32)), .val (.int c1)] []) _
                refine own_go (fun _ => XS.goto X0.here hx rfl (pc0 := 244) (pc' := 173) rfl (hb hby d1_244) (by decide) (by decide)) ?_
                refine own_go (fun _ => XS.iload X0.here hx rfl (hb hby d1_173) rfl) ?_
                show own_Ends p e below s₁ (mkF m 175 #[.val (.ref a), .val (.int s_), .val (.int en), .val (.int ld), .val (.int (2 : Int32)), .val (.int (128 : Int32)), .val (.int (191 : Int32)), .val (.int (0 : Int32)), .val (.int (2 : Int32)), .val (.int c1)] [(.int (0 : Int32))]) _
                refine own_go (fun _ => XS.ifYes X0.here hx rfl (pc0 := 175) (pc' := 247) rfl (hb hby d1_175) rfl ((if0 _ _).trans (teq (show (0 : Int32) = (0 : Int32) from by decide)).1) (by decide) (by decide)) ?_
                show own_Ends p e below s₁ (mkF m 247 #[.val (.ref a), .val (.int s_), .val (.int en), .val (.int ld), .val (.int (2 : Int32)), .val (.int (128 : Int32)), .val (.int (191 : Int32)), .val (.int (0 : Int32)), .val (.int (2 : Int32)), .val (.int c1)] []) _
                refine own_go (fun _ => XS.iload X0.here hx rfl (hb hby d1_247) rfl) ?_
                show own_Ends p e below s₁ (mkF m 249 #[.val (.ref a), .val (.int s_), .val (.int en), .val (.int ld), .val (.int (2 : Int32)), .val (.int (128 : Int32)), .val (.int (191 : Int32)), .val (.int (0 : Int32)), .val (.int (2 : Int32)), .val (.int c1)] [(.int (0 : Int32))]) _
                refine own_go (fun _ => XS.ifYes X0.here hx rfl (pc0 := 249) (pc' := 261) rfl (hb hby d1_249) rfl ((if0 _ _).trans (teq (show (0 : Int32) = (0 : Int32) from by decide)).1) (by decide) (by decide)) ?_
                show own_Ends p e below s₁ (mkF m 261 #[.val (.ref a), .val (.int s_), .val (.int en), .val (.int ld), .val (.int (2 : Int32)), .val (.int (128 : Int32)), .val (.int (191 : Int32)), .val (.int (0 : Int32)), .val (.int (2 : Int32)), .val (.int c1)] []) _
                refine own_go (fun _ => XS.iconst X0.here hx rfl (hb hby d1_261)) ?_
                obtain ⟨fs, hr, hrun, hended, hW, hsame⟩ := X0.leave (v := some (.int (-1 : Int32))) (fun h => by rw [Bd.returns] at h; cases h)
                refine ⟨_, _, retI X0 hx Bd.returns (hb hby d1_262) hr, hrun, hended, _, _, rfl, ?_, ⟨_, rfl⟩, hW, hsame.mono (by decide) (by decide)⟩
                show Q_rmSeq Z a s_ en kl vs t_0 t_1 t_2 t_3 ld c1 c2 c3 h0 n0 _ s₁.heap _
                rw [e0]
                refine ⟨_, rfl, ?_, N0, rfl⟩
                obtain ⟨z1, z2, z3, z4, z5, z6⟩ := own_s s_ hs
                have t0 := (not_congr (own_ltC (194) (by decide))).mp kc0
                have t1 := (not_congr (own_ltC (224) (by decide))).mp kc1
                have t2 := (not_congr (own_ltC (225) (by decide))).mp kc2
                have t3 := (own_ltC (237) (by decide)).mp kc3
                have t4 := (own_lt2).mp hc160
                have t5 := (not_congr (own_ltC (128) (by decide))).mp hc207
                have t6 := (own_Clt (191) (by decide)).mp hc214
                have y0 := own_sh c2
                have y1 := own_sh c3
                exact own_A0 (by unfold own_P1; omega) (by unfold own_P2; omega) (by unfold own_P3; omega)
              · refine own_go (fun _ => XS.icmpNo X0.here hx rfl (hb hby d1_214) rfl (flt hc214).2.2.1) ?_
                show own_Ends p e below s₁ (mkF m 217 #[.val (.ref a), .val (.int s_), .val (.int en), .val (.int ld), .val (.int (2 : Int32)), .val (.int (128 : Int32)), .val (.int (191 : Int32)), .val (.int (1 : Int32)), .val (.int (1 : Int32)), .val (.int c1)] []) _
                refine own_go (fun _ => XS.iconst X0.here hx rfl (hb hby d1_217)) ?_
                refine own_go (fun _ => XS.goto X0.here hx rfl (pc0 := 218) (pc' := 239) rfl (hb hby d1_218) (by decide) (by decide)) ?_
                refine own_go (fun _ => XS.istore X0.here hx rfl (hb hby d1_239) rfl (l' := #[.val (.ref a), .val (.int s_), .val (.int en), .val (.int ld), .val (.int (2 : Int32)), .val (.int (128 : Int32)), .val (.int (191 : Int32)), .val (.int (1 : Int32)), .val (.int (1 : Int32)), .val (.int c1)]) rfl) ?_
                show own_Ends p e below s₁ (mkF m 241 #[.val (.ref a), .val (.int s_), .val (.int en), .val (.int ld), .val (.int (2 : Int32)), .val (.int (128 : Int32)), .val (.int (191 : Int32)), .val (.int (1 : Int32)), .val (.int (1 : Int32)), .val (.int c1)] []) _
                refine own_go (fun _ => XS.iinc X0.here hx rfl (hb hby d1_241) rfl (l' := #[.val (.ref a), .val (.int s_), .val (.int en), .val (.int ld), .val (.int (2 : Int32)), .val (.int (128 : Int32)), .val (.int (191 : Int32)), .val (.int (1 : Int32)), .val (.int (2 : Int32)), .val (.int c1)]) rfl) ?_
                show own_Ends p e below s₁ (mkF m 244 #[.val (.ref a), .val (.int s_), .val (.int en), .val (.int ld), .val (.int (2 : Int32)), .val (.int (128 : Int32)), .val (.int (191 : Int32)), .val (.int (1 : Int32)), .val (.int (2 : Int32)), .val (.int c1)] []) _
                refine own_go (fun _ => XS.goto X0.here hx rfl (pc0 := 244) (pc' := 173) rfl (hb hby d1_244) (by decide) (by decide)) ?_
                refine own_go (fun _ => XS.iload X0.here hx rfl (hb hby d1_173) rfl) ?_
                show own_Ends p e below s₁ (mkF m 175 #[.val (.ref a), .val (.int s_), .val (.int en), .val (.int ld), .val (.int (2 : Int32)), .val (.int (128 : Int32)), .val (.int (191 : Int32)), .val (.int (1 : Int32)), .val (.int (2 : Int32)), .val (.int c1)] [(.int (1 : Int32))]) _
                refine own_go (fun _ => XS.ifNo X0.here hx rfl (hb hby d1_175) rfl ((if0 _ _).trans (feq (show ¬ ((1 : Int32) = (0 : Int32)) from by decide)).1)) ?_
                show own_Ends p e below s₁ (mkF m 178 #[.val (.ref a), .val (.int s_), .val (.int en), .val (.int ld), .val (.int (2 : Int32)), .val (.int (128 : Int32)), .val (.int (191 : Int32)), .val (.int (1 : Int32)), .val (.int (2 : Int32)), .val (.int c1)] []) _
                refine own_go (fun _ => XS.iload X0.here hx rfl (hb hby d1_178) rfl) ?_
                refine own_go (fun _ => XS.iload X0.here hx rfl (hb hby d1_180) rfl) ?_
                show own_Ends p e below s₁ (mkF m 182 #[.val (.ref a), .val (.int s_), .val (.int en), .val (.int ld), .val (.int (2 : Int32)), .val (.int (128 : Int32)), .val (.int (191 : Int32)), .val (.int (1 : Int32)), .val (.int (2 : Int32)), .val (.int c1)] [(.int (2 : Int32)), (.int (2 : Int32))]) _
                refine own_go (fun _ => XS.icmpNo X0.here hx rfl (hb hby d1_182) rfl (flt (show ¬ ((2 : Int32) < (2 : Int32)) from by decide)).2.2.1) ?_
                show own_Ends p e below s₁ (mkF m 185 #[.val (.ref a), .val (.int s_), .val (.int en), .val (.int ld), .val (.int (2 : Int32)), .val (.int (128 : Int32)), .val (.int (191 : Int32)), .val (.int (1 : Int32)), .val (.int (2 : Int32)), .val (.int c1)] []) _
                refine own_go (fun _ => XS.aloadN X0.here hx rfl (hb hby d1_185) rfl rfl) ?_
                refine own_go (fun _ => XS.iloadN X0.here hx rfl (hb hby d1_186) rfl) ?_
                refine own_go (fun _ => XS.iload X0.here hx rfl (hb hby d1_187) rfl) ?_
                refine own_go (fun _ => XS.iadd X0.here hx rfl (hb hby d1_189) rfl) ?_
                show own_Ends p e below s₁ (mkF m 190 #[.val (.ref a), .val (.int s_), .val (.int en), .val (.int ld), .val (.int (2 : Int32)), .val (.int (128 : Int32)), .val (.int (191 : Int32)), .val (.int (1 : Int32)), .val (.int (2 : Int32)), .val (.int c1)] [(.int (s_ + (2 : Int32))), (.ref a)]) _
                obtain ⟨cl_6, Ar_6, q_6, S_6, M_6, H_6, G_6⟩ := V_a_r5
                have hin6 : ¬ ((s_ + (2 : Int32)) < 0 ∨ cl_6.slots.size ≤ ((s_ + (2 : Int32))).toNatClampNeg) := inb_of S_6 (own_in s_ hs).2.2.1
                have hat6 : cl_6.slots[((s_ + (2 : Int32))).toNatClampNeg]? = some (.int t_2) := Has.at H_6 hin6 (hva2)
                refine own_go (X0.baloadBytes hx (j := (s_ + (2 : Int32))) (v := (.int t_2)) (by rw [e0]; exact Ar_6.1) (State.isArrayOf_alike hZ.alike Ar_6.2.1) Ar_6.2.2 hin6 hat6 (g := (mkF m 190 #[.val (.ref a), .val (.int s_), .val (.int en), .val (.int ld), .val (.int (2 : Int32)), .val (.int (128 : Int32)), .val (.int (191 : Int32)), .val (.int (1 : Int32)), .val (.int (2 : Int32)), .val (.int c1)] [(.int (s_ + (2 : Int32))), (.ref a)])) rfl rfl (hb hby d1_190)) ?_
                have V_a_r6 : Arv Z h0 a kl .byte (6 : Int32) vs (.int (0 : Int32)) := ⟨cl_6, Ar_6, q_6, S_6, M_6, H_6, G_6⟩
                show own_Ends p e below s₁ (mkF m 191 #[.val (.ref a), .val (.int s_), .val (.int en), .val (.int ld), .val (.int (2 : Int32)), .val (.int (128 : Int32)), .val (.int (191 : Int32)), .val (.int (1 : Int32)), .val (.int (2 : Int32)), .val (.int c1)] [(.int t_2)]) _
                refine own_go (fun _ => XS.sipush X0.here hx rfl (hb hby d1_191)) ?_
                refine own_go (fun _ => XS.iand X0.here hx rfl (hb hby d1_194) rfl) ?_
                show own_Ends p e below s₁ (mkF m 195 #[.val (.ref a), .val (.int s_), .val (.int en), .val (.int ld), .val (.int (2 : Int32)), .val (.int (128 : Int32)), .val (.int (191 : Int32)), .val (.int (1 : Int32)), .val (.int (2 : Int32)), .val (.int c1)] [(.int (t_2 &&& (255 : Int32)))]) _
                refine own_go (fun _ => XS.istore X0.here hx rfl (hb hby d1_195) rfl (l' := #[.val (.ref a), .val (.int s_), .val (.int en), .val (.int ld), .val (.int (2 : Int32)), .val (.int (128 : Int32)), .val (.int (191 : Int32)), .val (.int (1 : Int32)), .val (.int (2 : Int32)), .val (.int (t_2 &&& (255 : Int32)))]) rfl) ?_
                show own_Ends p e below s₁ (mkF m 197 #[.val (.ref a), .val (.int s_), .val (.int en), .val (.int ld), .val (.int (2 : Int32)), .val (.int (128 : Int32)), .val (.int (191 : Int32)), .val (.int (1 : Int32)), .val (.int (2 : Int32)), .val (.int (t_2 &&& (255 : Int32)))] []) _
                rw [hl2]
                show own_Ends p e below s₁ (mkF m 197 #[.val (.ref a), .val (.int s_), .val (.int en), .val (.int ld), .val (.int (2 : Int32)), .val (.int (128 : Int32)), .val (.int (191 : Int32)), .val (.int (1 : Int32)), .val (.int (2 : Int32)), .val (.int c2)] []) _
                refine own_go (fun _ => XS.iload X0.here hx rfl (hb hby d1_197) rfl) ?_
                refine own_go (fun _ => XS.iconst X0.here hx rfl (hb hby d1_199)) ?_
                show own_Ends p e below s₁ (mkF m 200 #[.val (.ref a), .val (.int s_), .val (.int en), .val (.int ld), .val (.int (2 : Int32)), .val (.int (128 : Int32)), .val (.int (191 : Int32)), .val (.int (1 : Int32)), .val (.int (2 : Int32)), .val (.int c2)] [(.int (1 : Int32)), (.int (2 : Int32))]) _
                refine own_go (fun _ => XS.icmpYes X0.here hx rfl (pc0 := 200) (pc' := 225) rfl (hb hby d1_200) rfl (feq (show ¬ ((2 : Int32) = (1 : Int32)) from by decide)).2 (by decide) (by decide)) ?_
                show own_Ends p e below s₁ (mkF m 225 #[.val (.ref a), .val (.int s_), .val (.int en), .val (.int ld), .val (.int (2 : Int32)), .val (.int (128 : Int32)), .val (.int (191 : Int32)), .val (.int (1 : Int32)), .val (.int (2 : Int32)), .val (.int c2)] []) _
                refine own_go (fun _ => XS.iload X0.here hx rfl (hb hby d1_225) rfl) ?_
                refine own_go (fun _ => XS.bipush X0.here hx rfl (hb hby d1_227)) ?_
                refine own_go (fun _ => XS.ishr X0.here hx rfl (hb hby d1_229) rfl) ?_
                show own_Ends p e below s₁ (mkF m 230 #[.val (.ref a), .val (.int s_), .val (.int en), .val (.int ld), .val (.int (2 : Int32)), .val (.int (128 : Int32)), .val (.int (191 : Int32)), .val (.int (1 : Int32)), .val (.int (2 : Int32)), .val (.int c2)] [(.int (c2 >>> ((6 : Int32) &&& 31)))]) _
                refine own_go (fun _ => XS.iconst X0.here hx rfl (hb hby d1_230)) ?_
                show own_Ends p e below s₁ (mkF m 231 #[.val (.ref a), .val (.int s_), .val (.int en), .val (.int ld), .val (.int (2 : Int32)), .val (.int (128 : Int32)), .val (.int (191 : Int32)), .val (.int (1 : Int32)), .val (.int (2 : Int32)), .val (.int c2)] [(.int (2 : Int32)), (.int (c2 >>> ((6 : Int32) &&& 31)))]) _
                by_cases hc231 : (c2 >>> ((6 : Int32) &&& 31)) = (2 : Int32)
                · refine own_go (fun _ => XS.icmpNo X0.here hx rfl (hb hby d1_231) rfl (teq hc231).2) ?_
                  show own_Ends p e below s₁ (mkF m 234 #[.val (.ref a), .val (.int s_), .val (.int en), .val (.int ld), .val (.int (2 : Int32)), .val (.int (128 : Int32)), .val (.int (191 : Int32)), .val (.int (1 : Int32)), .val (.int (2 : Int32)), .val (.int c2)] []) _
                  refine own_go (fun _ => XS.iconst X0.here hx rfl (hb hby d1_234)) ?_
                  refine own_go (fun _ => XS.goto X0.here hx rfl (pc0 := 235) (pc' := 239) rfl (hb hby d1_235) (by decide) (by decide)) ?_
                  refine own_go (fun _ => XS.istore X0.here hx rfl (hb hby d1_239) rfl (l' := #[.val (.ref a), .val (.int s_), .val (.int en), .val (.int ld), .val (.int (2 : Int32)), .val (.int (128 : Int32)), .val (.int (191 : Int32)), .val (.int (1 : Int32)), .val (.int (2 : Int32)), .val (.int c2)]) rfl) ?_
                  show own_Ends p e below s₁ (mkF m 241 #[.val (.ref a), .val (.int s_), .val (.int en), .val (.int ld), .val (.int (2 : Int32)), .val (.int (128 : Int32)), .val (.int (191 : Int32)), .val (.int (1 : Int32)), .val (.int (2 : Int32)), .val (.int c2)] []) _
                  refine own_go (fun _ => XS.iinc X0.here hx rfl (hb hby d1_241) rfl (l' := #[.val (.ref a), .val (.int s_), .val (.int en), .val (.int ld), .val (.int (2 : Int32)), .val (.int (128 : Int32)), .val (.int (191 : Int32)), .val (.int (1 : Int32)), .val (.int (3 : Int32)), .val (.int c2)]) rfl) ?_
                  show own_Ends p e below s₁ (mkF m 244 #[.val (.ref a), .val (.int s_), .val (.int en), .val (.int ld), .val (.int (2 : Int32)), .val (.int (128 : Int32)), .val (.int (191 : Int32)), .val (.int (1 : Int32)), .val (.int (3 : Int32)), .val (.int c2)] []) _
                  refine own_go (fun _ => XS.goto X0.here hx rfl (pc0 := 244) (pc' := 173) rfl (hb hby d1_244) (by decide) (by decide)) ?_
                  refine own_go (fun _ => XS.iload X0.here hx rfl (hb hby d1_173) rfl) ?_
                  show own_Ends p e below s₁ (mkF m 175 #[.val (.ref a), .val (.int s_), .val (.int en), .val (.int ld), .val (.int (2 : Int32)), .val (.int (128 : Int32)), .val (.int (191 : Int32)), .val (.int (1 : Int32)), .val (.int (3 : Int32)), .val (.int c2)] [(.int (1 : Int32))]) _
                  refine own_go (fun _ => XS.ifNo X0.here hx rfl (hb hby d1_175) rfl ((if0 _ _).trans (feq (show ¬ ((1 : Int32) = (0 : Int32)) from by decide)).1)) ?_
                  show own_Ends p e below s₁ (mkF m 178 #[.val (.ref a), .val (.int s_), .val (.int en), .val (.int ld), .val (.int (2 : Int32)), .val (.int (128 : Int32)), .val (.int (191 : Int32)), .val (.int (1 : Int32)), .val (.int (3 : Int32)), .val (.int c2)] []) _
                  refine own_go (fun _ => XS.iload X0.here hx rfl (hb hby d1_178) rfl) ?_
                  refine own_go (fun _ => XS.iload X0.here hx rfl (hb hby d1_180) rfl) ?_
                  show own_Ends p e below s₁ (mkF m 182 #[.val (.ref a), .val (.int s_), .val (.int en), .val (.int ld), .val (.int (2 : Int32)), .val (.int (128 : Int32)), .val (.int (191 : Int32)), .val (.int (1 : Int32)), .val (.int (3 : Int32)), .val (.int c2)] [(.int (2 : Int32)), (.int (3 : Int32))]) _
                  refine own_go (fun _ => XS.icmpYes X0.here hx rfl (pc0 := 182) (pc' := 247) rfl (hb hby d1_182) rfl (tlt (show (2 : Int32) < (3 : Int32) from by decide)).2.2.1 (by decide) (by decide)) ?_
                  show own_Ends p e below s₁ (mkF m 247 #[.val (.ref a), .val (.int s_), .val (.int en), .val (.int ld), .val (.int (2 : Int32)), .val (.int (128 : Int32)), .val (.int (191 : Int32)), .val (.int (1 : Int32)), .val (.int (3 : Int32)), .val (.int c2)] []) _
                  refine own_go (fun _ => XS.iload X0.here hx rfl (hb hby d1_247) rfl) ?_
                  show own_Ends p e below s₁ (mkF m 249 #[.val (.ref a), .val (.int s_), .val (.int en), .val (.int ld), .val (.int (2 : Int32)), .val (.int (128 : Int32)), .val (.int (191 : Int32)), .val (.int (1 : Int32)), .val (.int (3 : Int32)), .val (.int c2)] [(.int (1 : Int32))]) _
                  refine own_go (fun _ => XS.ifNo X0.here hx rfl (hb hby d1_249) rfl ((if0 _ _).trans (feq (show ¬ ((1 : Int32) = (0 : Int32)) from by decide)).1)) ?_
                  show own_Ends p e below s₁ (mkF m 252 #[.val (.ref a), .val (.int s_), .val (.int en), .val (.int ld), .val (.int (2 : Int32)), .val (.int (128 : Int32)), .val (.int (191 : Int32)), .val (.int (1 : Int32)), .val (.int (3 : Int32)), .val (.int c2)] []) _
                  refine own_go (fun _ => XS.iloadN X0.here hx rfl (hb hby d1_252) rfl) ?_
                  refine own_go (fun _ => XS.iload X0.here hx rfl (hb hby d1_253) rfl) ?_
                  refine own_go (fun _ => XS.iadd X0.here hx rfl (hb hby d1_255) rfl) ?_
                  show own_Ends p e below s₁ (mkF m 256 #[.val (.ref a), .val (.int s_), .val (.int en), .val (.int ld), .val (.int (2 : Int32)), .val (.int (128 : Int32)), .val (.int (191 : Int32)), .val (.int (1 : Int32)), .val (.int (3 : Int32)), .val (.int c2)] [(.int (s_ + (2 : Int32)))]) _
                  refine own_go (fun _ => XS.iconst X0.here hx rfl (hb hby d1_256)) ?_
                  refine own_go (fun _ => XS.iadd X0.here hx rfl (hb hby d1_257) rfl) ?_
                  show own_Ends p e below s₁ (mkF m 258 #[.val (.ref a), .val (.int s_), .val (.int en), .val (.int ld), .val (.int (2 : Int32)), .val (.int (128 : Int32)), .val (.int (191 : Int32)), .val (.int (1 : Int32)), .val (.int (3 : Int32)), .val (.int c2)] [(.int ((s_ + (2 : Int32)) + (1 : Int32)))]) _
                  refine own_go (fun _ => XS.goto X0.here hx rfl (pc0 := 258) (pc' := 262) rfl (hb hby d1_258) (by decide) (by decide)) ?_
                  obtain ⟨fs, hr, hrun, hended, hW, hsame⟩ := X0.leave (v := some (.int ((s_ + (2 : Int32)) + (1 : Int32)))) (fun h => by rw [Bd.returns] at h; cases h)
                  refine ⟨_, _, retI X0 hx Bd.returns (hb hby d1_262) hr, hrun, hended, _, _, rfl, ?_, ⟨_, rfl⟩, hW, hsame.mono (by decide) (by decide)⟩
                  show Q_rmSeq Z a s_ en kl vs t_0 t_1 t_2 t_3 ld c1 c2 c3 h0 n0 _ s₁.heap _
                  rw [e0]
                  refine ⟨_, rfl, ?_, N0, rfl⟩
                  obtain ⟨z1, z2, z3, z4, z5, z6⟩ := own_s s_ hs
                  have t0 := (not_congr (own_ltC (194) (by decide))).mp kc0
                  have t1 := (not_congr (own_ltC (224) (by decide))).mp kc1
                  have t2 := (not_congr (own_ltC (225) (by decide))).mp kc2
                  have t3 := (own_ltC (237) (by decide)).mp kc3
                  have t4 := (own_lt2).mp hc160
                  have t5 := (not_congr (own_ltC (128) (by decide))).mp hc207
                  have t6 := (not_congr (own_Clt (191) (by decide))).mp hc214
                  have t7 := (own_eqC (2) (by decide)).mp hc231
                  have y0 := own_sh c2
                  have y1 := own_sh c3
                  exact own_A2 (by unfold own_P2; omega) (own_as3 _)
                · refine own_go (fun _ => XS.icmpYes X0.here hx rfl (pc0 := 231) (pc' := 238) rfl (hb hby d1_231) rfl (feq hc231).2 (by decide) (by decide)) ?_
                  show own_Ends p e below s₁ (mkF m 238 #[.val (.ref a), .val (.int s_), .val (.int en), .val (.int ld), .val (.int (2 : Int32)), .val (.int (128 : Int32)), .val (.int (191 : Int32)), .val (.int (1 : Int32)), .val (.int (2 : Int32)), .val (.int c2)] []) _
                  refine own_go (fun _ => XS.iconst X0.here hx rfl (hb hby d1_238)) ?_
                  refine own_go (fun _ => XS.istore X0.here hx rfl (hb hby d1_239) rfl (l' := #[.val (.ref a), .val (.int s_), .val (.int en), .val (.int ld), .val (.int (2 : Int32)), .val (.int (128 : Int32)), .val (.int (191 : Int32)), .val (.int (0 : Int32)), .val (.int (2 : Int32)), .val (.int c2)]) rfl) ?_
                  show own_Ends p e below s₁ (mkF m 241 #[.val (.ref a), .val (.int s_), .val (.int en), .val (.int ld), .val (.int (2 : Int32)), .val (.int (128 : Int32)), .val (.int (191 : Int32)), .val (.int (0 : Int32)), .val (.int (2 : Int32)), .val (.int c2)] []) _
                  refine own_go (fun _ => XS.iinc X0.here hx rfl (hb hby d1_241) rfl (l' := #[.val (.ref a), .val (.int s_), .val (.int en), .val (.int ld), .val (.int (2 : Int32)), .val (.int (128 : Int32)), .val (.int (191 : Int32)), .val (.int (0 : Int32)), .val (.int (3 : Int32)), .val (.int c2)]) rfl) ?_
                  show own_Ends p e below s₁ (mkF m 244 #[.val (.ref a), .val (.int s_), .val (.int en), .val (.int ld), .val (.int (2 : Int32)), .val (.int (128 : Int32)), .val (.int (191 : Int32)), .val (.int (0 : Int32)), .val (.int (3 : Int32)), .val (.int c2)] []) _
                  refine own_go (fun _ => XS.goto X0.here hx rfl (pc0 := 244) (pc' := 173) rfl (hb hby d1_244) (by decide) (by decide)) ?_
                  refine own_go (fun _ => XS.iload X0.here hx rfl (hb hby d1_173) rfl) ?_
                  show own_Ends p e below s₁ (mkF m 175 #[.val (.ref a), .val (.int s_), .val (.int en), .val (.int ld), .val (.int (2 : Int32)), .val (.int (128 : Int32)), .val (.int (191 : Int32)), .val (.int (0 : Int32)), .val (.int (3 : Int32)), .val (.int c2)] [(.int (0 : Int32))]) _
                  refine own_go (fun _ => XS.ifYes X0.here hx rfl (pc0 := 175) (pc' := 247) rfl (hb hby d1_175) rfl ((if0 _ _).trans (teq (show (0 : Int32) = (0 : Int32) from by decide)).1) (by decide) (by decide)) ?_
                  show own_Ends p e below s₁ (mkF m 247 #[.val (.ref a), .val (.int s_), .val (.int en), .val (.int ld), .val (.int (2 : Int32)), .val (.int (128 : Int32)), .val (.int (191 : Int32)), .val (.int (0 : Int32)), .val (.int (3 : Int32)), .val (.int c2)] []) _
                  refine own_go (fun _ => XS.iload X0.here hx rfl (hb hby d1_247) rfl) ?_
                  show own_Ends p e below s₁ (mkF m 249 #[.val (.ref a), .val (.int s_), .val (.int en), .val (.int ld), .val (.int (2 : Int32)), .val (.int (128 : Int32)), .val (.int (191 : Int32)), .val (.int (0 : Int32)), .val (.int (3 : Int32)), .val (.int c2)] [(.int (0 : Int32))]) _
                  refine own_go (fun _ => XS.ifYes X0.here hx rfl (pc0 := 249) (pc' := 261) rfl (hb hby d1_249) rfl ((if0 _ _).trans (teq (show (0 : Int32) = (0 : Int32) from by decide)).1) (by decide) (by decide)) ?_
                  show own_Ends p e below s₁ (mkF m 261 #[.val (.ref a), .val (.int s_), .val (.int en), .val (.int ld), .val (.int (2 : Int32)), .val (.int (128 : Int32)), .val (.int (191 : Int32)), .val (.int (0 : Int32)), .val (.int (3 : Int32)), .val (.int c2)] []) _
                  refine own_go (fun _ => XS.iconst X0.here hx rfl (hb hby d1_261)) ?_
                  obtain ⟨fs, hr, hrun, hended, hW, hsame⟩ := X0.leave (v := some (.int (-1 : Int32))) (fun h => by rw [Bd.returns] at h; cases h)
                  refine ⟨_, _, retI X0 hx Bd.returns (hb hby d1_262) hr, hrun, hended, _, _, rfl, ?_, ⟨_, rfl⟩, hW, hsame.mono (by decide) (by decide)⟩
                  show Q_rmSeq Z a s_ en kl vs t_0 t_1 t_2 t_3 ld c1 c2 c3 h0 n0 _ s₁.heap _
                  rw [e0]
                  refine ⟨_, rfl, ?_, N0, rfl⟩
                  obtain ⟨z1, z2, z3, z4, z5, z6⟩ := own_s s_ hs
                  have t0 := (not_congr (own_ltC (194) (by decide))).mp kc0
                  have t1 := (not_congr (own_ltC (224) (by decide))).mp kc1
                  have t2 := (not_congr (own_ltC (225) (by decide))).mp kc2
                  have t3 := (own_ltC (237) (by decide)).mp kc3
                  have t4 := (own_lt2).mp hc160
                  have t5 := (not_congr (own_ltC (128) (by decide))).mp hc207
                  have t6 := (not_congr (own_Clt (191) (by decide))).mp hc214
                  have t7 := (not_congr (own_eqC (2) (by decide))).mp hc231
                  have y0 := own_sh c2
                  have y1 := own_sh c3
                  exact own_A0 (by unfold own_P1; omega) (by unfold own_P2; omega) (by unfold own_P3; omega)
          · refine own_go (fun _ => XS.icmpYes X0.here hx rfl (pc0 := 160) (pc' := 167) rfl (hb hby d1_160) rfl (flt hc160).2.1 (by decide) (by decide)) ?_
            show own_Ends p e below s₁ (mkF m 167 #[.val (.ref a), .val (.int s_), .val (.int en), .val (.int ld), .val (.int (2 : Int32)), .val (.int (128 : Int32)), .val (.int (191 : Int32)), .unset, .unset, .unset] []) _
            refine own_go (fun _ => XS.iconst X0.here hx rfl (hb hby d1_167)) ?_
            refine own_go (fun _ => XS.istore X0.here hx rfl (hb hby d1_168) rfl (l' := #[.val (.ref a), .val (.int s_), .val (.int en), .val (.int ld), .val (.int (2 : Int32)), .val (.int (128 : Int32)), .val (.int (191 : Int32)), .val (.int (0 : Int32)), .unset, .unset]) rfl) ?_
            show own_Ends p e below s₁ (mkF m 170 #[.val (.ref a), .val (.int s_), .val (.int en), .val (.int ld), .val (.int (2 : Int32)), .val (.int (128 : Int32)), .val (.int (191 : Int32)), .val (.int (0 : Int32)), .unset, .unset] []) _
            refine own_go (fun _ => XS.iconst X0.here hx rfl (hb hby d1_170)) ?_
            refine own_go (fun _ => XS.istore X0.here hx rfl (hb hby d1_171) rfl (l' := #[.val (.ref a), .val (.int s_), .val (.int en), .val (.int ld), .val (.int (2 : Int32)), .val (.int (128 : Int32)), .val (.int (191 : Int32)), .val (.int (0 : Int32)), .val (.int (1 : Int32)), .unset]) rfl) ?_
            show own_Ends p e below s₁ (mkF m 173 #[.val (.ref a), .val (.int s_), .val (.int en), .val (.int ld), .val (.int (2 : Int32)), .val (.int (128 : Int32)), .val (.int (191 : Int32)), .val (.int (0 : Int32)), .val (.int (1 : Int32)), .unset] []) _
            refine own_go (fun _ => XS.iload X0.here hx rfl (hb hby d1_173) rfl) ?_
            show own_Ends p e below s₁ (mkF m 175 #[.val (.ref a), .val (.int s_), .val (.int en), .val (.int ld), .val (.int (2 : Int32)), .val (.int (128 : Int32)), .val (.int (191 : Int32)), .val (.int (0 : Int32)), .val (.int (1 : Int32)), .unset] [(.int (0 : Int32))]) _
            refine own_go (fun _ => XS.ifYes X0.here hx rfl (pc0 := 175) (pc' := 247) rfl (hb hby d1_175) rfl ((if0 _ _).trans (teq (show (0 : Int32) = (0 : Int32) from by decide)).1) (by decide) (by decide)) ?_
            show own_Ends p e below s₁ (mkF m 247 #[.val (.ref a), .val (.int s_), .val (.int en), .val (.int ld), .val (.int (2 : Int32)), .val (.int (128 : Int32)), .val (.int (191 : Int32)), .val (.int (0 : Int32)), .val (.int (1 : Int32)), .unset] []) _
            refine own_go (fun _ => XS.iload X0.here hx rfl (hb hby d1_247) rfl) ?_
            show own_Ends p e below s₁ (mkF m 249 #[.val (.ref a), .val (.int s_), .val (.int en), .val (.int ld), .val (.int (2 : Int32)), .val (.int (128 : Int32)), .val (.int (191 : Int32)), .val (.int (0 : Int32)), .val (.int (1 : Int32)), .unset] [(.int (0 : Int32))]) _
            refine own_go (fun _ => XS.ifYes X0.here hx rfl (pc0 := 249) (pc' := 261) rfl (hb hby d1_249) rfl ((if0 _ _).trans (teq (show (0 : Int32) = (0 : Int32) from by decide)).1) (by decide) (by decide)) ?_
            show own_Ends p e below s₁ (mkF m 261 #[.val (.ref a), .val (.int s_), .val (.int en), .val (.int ld), .val (.int (2 : Int32)), .val (.int (128 : Int32)), .val (.int (191 : Int32)), .val (.int (0 : Int32)), .val (.int (1 : Int32)), .unset] []) _
            refine own_go (fun _ => XS.iconst X0.here hx rfl (hb hby d1_261)) ?_
            obtain ⟨fs, hr, hrun, hended, hW, hsame⟩ := X0.leave (v := some (.int (-1 : Int32))) (fun h => by rw [Bd.returns] at h; cases h)
            refine ⟨_, _, retI X0 hx Bd.returns (hb hby d1_262) hr, hrun, hended, _, _, rfl, ?_, ⟨_, rfl⟩, hW, hsame.mono (by decide) (by decide)⟩
            show Q_rmSeq Z a s_ en kl vs t_0 t_1 t_2 t_3 ld c1 c2 c3 h0 n0 _ s₁.heap _
            rw [e0]
            refine ⟨_, rfl, ?_, N0, rfl⟩
            obtain ⟨z1, z2, z3, z4, z5, z6⟩ := own_s s_ hs
            have t0 := (not_congr (own_ltC (194) (by decide))).mp kc0
            have t1 := (not_congr (own_ltC (224) (by decide))).mp kc1
            have t2 := (not_congr (own_ltC (225) (by decide))).mp kc2
            have t3 := (own_ltC (237) (by decide)).mp kc3
            have t4 := (not_congr (own_lt2)).mp hc160
            have y0 := own_sh c2
            have y1 := own_sh c3
            exact own_A0 (by unfold own_P1; omega) (by unfold own_P2; omega) (by unfold own_P3; omega)
        · by_cases kc4 : ld < (238 : Int32)
          · refine own_go (fun _ => XS.iloadN X0.here hx rfl (hb hby d1_21) rfl) ?_
            refine own_go (fun _ => XS.sipush X0.here hx rfl (hb hby d1_22)) ?_
            show own_Ends p e below s₁ (mkF m 25 #[.val (.ref a), .val (.int s_), .val (.int en), .val (.int ld), .val (.int (0 : Int32)), .val (.int (128 : Int32)), .val (.int (191 : Int32)), .unset, .unset, .unset] [(.int (194 : Int32)), (.int ld)]) _
            refine own_go (fun _ => XS.icmpNo X0.here hx rfl (hb hby d1_25) rfl (flt (show ¬ (ld < (194 : Int32)) from own_nlt kc3 (by decide))).1) ?_
            show own_Ends p e below s₁ (mkF m 28 #[.val (.ref a), .val (.int s_), .val (.int en), .val (.int ld), .val (.int (0 : Int32)), .val (.int (128 : Int32)), .val (.int (191 : Int32)), .unset, .unset, .unset] []) _
            refine own_go (fun _ => XS.iloadN X0.here hx rfl (hb hby d1_28) rfl) ?_
            refine own_go (fun _ => XS.sipush X0.here hx rfl (hb hby d1_29)) ?_
            show own_Ends p e below s₁ (mkF m 32 #[.val (.ref a), .val (.int s_), .val (.int en), .val (.int ld), .val (.int (0 : Int32)), .val (.int (128 : Int32)), .val (.int (191 : Int32)), .unset, .unset, .unset] [(.int (223 : Int32)), (.int ld)]) _
            refine own_go (fun _ => XS.icmpYes X0.here hx rfl (pc0 := 32) (pc' := 41) rfl (hb hby d1_32) rfl (tlt (show (223 : Int32) < ld from own_gt kc3 (by decide))).2.2.1 (by decide) (by decide)) ?_
            show own_Ends p e below s₁ (mkF m 41 #[.val (.ref a), .val (.int s_), .val (.int en), .val (.int ld), .val (.int (0 : Int32)), .val (.int (128 : Int32)), .val (.int (191 : Int32)), .unset, .unset, .unset] []) _
            refine own_go (fun _ => XS.iloadN X0.here hx rfl (hb hby d1_41) rfl) ?_
            refine own_go (fun _ => XS.sipush X0.here hx rfl (hb hby d1_42)) ?_
            show own_Ends p e below s₁ (mkF m 45 #[.val (.ref a), .val (.int s_), .val (.int en), .val (.int ld), .val (.int (0 : Int32)), .val (.int (128 : Int32)), .val (.int (191 : Int32)), .unset, .unset, .unset] [(.int (224 : Int32)), (.int ld)]) _
            refine own_go (fun _ => XS.icmpNo X0.here hx rfl (hb hby d1_45) rfl (flt (show ¬ (ld < (224 : Int32)) from own_nlt kc3 (by decide))).1) ?_
            show own_Ends p e below s₁ (mkF m 48 #[.val (.ref a), .val (.int s_), .val (.int en), .val (.int ld), .val (.int (0 : Int32)), .val (.int (128 : Int32)), .val (.int (191 : Int32)), .unset, .unset, .unset] []) _
            refine own_go (fun _ => XS.iloadN X0.here hx rfl (hb hby d1_48) rfl) ?_
            refine own_go (fun _ => XS.sipush X0.here hx rfl (hb hby d1_49)) ?_
            show own_Ends p e below s₁ (mkF m 52 #[.val (.ref a), .val (.int s_), .val (.int en), .val (.int ld), .val (.int (0 : Int32)), .val (.int (128 : Int32)), .val (.int (191 : Int32)), .unset, .unset, .unset] [(.int (239 : Int32)), (.int ld)]) _
            refine own_go (fun _ => XS.icmpNo X0.here hx rfl (hb hby d1_52) rfl (flt (show ¬ ((239 : Int32) < ld) from own_ngt kc4 (by decide))).2.2.1) ?_
            show own_Ends p e below s₁ (mkF m 55 #[.val (.ref a), .val (.int s_), .val (.int en), .val (.int ld), .val (.int (0 : Int32)), .val (.int (128 : Int32)), .val (.int (191 : Int32)), .unset, .unset, .unset] []) _
            refine own_go (fun _ => XS.iconst X0.here hx rfl (hb hby d1_55)) ?_
            refine own_go (fun _ => XS.istore X0.here hx rfl (hb hby d1_56) rfl (l' := #[.val (.ref a), .val (.int s_), .val (.int en), .val (.int ld), .val (.int (2 : Int32)), .val (.int (128 : Int32)), .val (.int (191 : Int32)), .unset, .unset, .unset]) rfl) ?_
            show own_Ends p e below s₁ (mkF m 58 #[.val (.ref a), .val (.int s_), .val (.int en), .val (.int ld), .val (.int (2 : Int32)), .val (.int (128 : Int32)), .val (.int (191 : Int32)), .unset, .unset, .unset] []) _
            refine own_go (fun _ => XS.iloadN X0.here hx rfl (hb hby d1_58) rfl) ?_
            refine own_go (fun _ => XS.sipush X0.here hx rfl (hb hby d1_59)) ?_
            show own_Ends p e below s₁ (mkF m 62 #[.val (.ref a), .val (.int s_), .val (.int en), .val (.int ld), .val (.int (2 : Int32)), .val (.int (128 : Int32)), .val (.int (191 : Int32)), .unset, .unset, .unset] [(.int (224 : Int32)), (.int ld)]) _
            refine own_go (fun _ => XS.icmpYes X0.here hx rfl (pc0 := 62) (pc' := 71) rfl (hb hby d1_62) rfl (feq (show ¬ (ld = (224 : Int32)) from own_ne1 kc3 (by decide))).2 (by decide) (by decide)) ?_
            show own_Ends p e below s₁ (mkF m 71 #[.val (.ref a), .val (.int s_), .val (.int en), .val (.int ld), .val (.int (2 : Int32)), .val (.int (128 : Int32)), .val (.int (191 : Int32)), .unset, .unset, .unset] []) _
            refine own_go (fun _ => XS.sipush X0.here hx rfl (hb hby d1_71)) ?_
            refine own_go (fun _ => XS.istore X0.here hx rfl (hb hby d1_74) rfl (l' := #[.val (.ref a), .val (.int s_), .val (.int en), .val (.int ld), .val (.int (2 : Int32)), .val (.int (128 : Int32)), .val (.int (191 : Int32)), .unset, .unset, .unset]) rfl) ?_
            show own_Ends p e below s₁ (mkF m 76 #[.val (.ref a), .val (.int s_), .val (.int en), .val (.int ld), .val (.int (2 : Int32)), .val (.int (128 : Int32)), .val (.int (191 : Int32)), .unset, .unset, .unset] []) _
            refine own_go (fun _ => XS.iloadN X0.here hx rfl (hb hby d1_76) rfl) ?_
            refine own_go (fun _ => XS.sipush X0.here hx rfl (hb hby d1_77)) ?_
            show own_Ends p e below s₁ (mkF m 80 #[.val (.ref a), .val (.int s_), .val (.int en), .val (.int ld), .val (.int (2 : Int32)), .val (.int (128 : Int32)), .val (.int (191 : Int32)), .unset, .unset, .unset] [(.int (237 : Int32)), (.int ld)]) _
            refine own_go (fun _ => XS.icmpNo X0.here hx rfl (hb hby d1_80) rfl (teq (show ld = (237 : Int32) from own_eq kc3 kc4 (by decide))).2) ?_
            show own_Ends p e below s₁ (mkF m 83 #[.val (.ref a), .val (.int s_), .val (.int en), .val (.int ld), .val (.int (2 : Int32)), .val (.int (128 : Int32)), .val (.int (191 : Int32)), .unset, .unset, .unset] []) _
            refine own_go (fun _ => XS.sipush X0.here hx rfl (hb hby d1_83)) ?_
            refine own_go (fun _ => XS.goto X0.here hx rfl (pc0 := 86) (pc' := 92) rfl (hb hby d1_86) (by decide) (by decide)) ?_
            refine own_go (fun _ => XS.istore X0.here hx rfl (hb hby d1_92) rfl (l' := #[.val (.ref a), .val (.int s_), .val (.int en), .val (.int ld), .val (.int (2 : Int32)), .val (.int (128 : Int32)), .val (.int (159 : Int32)), .unset, .unset, .unset]) rfl) ?_
            show own_Ends p e below s₁ (mkF m 94 #[.val (.ref a), .val (.int s_), .val (.int en), .val (.int ld), .val (.int (2 : Int32)), .val (.int (128 : Int32)), .val (.int (159 : Int32)), .unset, .unset, .unset] []) _
            refine own_go (fun _ => XS.goto X0.here hx rfl (pc0 := 94) (pc' := 150) rfl (hb hby d1_94) (by decide) (by decide)) ?_
            refine own_go (fun _ => XS.iload X0.here hx rfl (hb hby d1_150) rfl) ?_
            show own_Ends p e below s₁ (mkF m 152 #[.val (.ref a), .val (.int s_), .val (.int en), .val (.int ld), .val (.int (2 : Int32)), .val (.int (128 : Int32)), .val (.int (159 : Int32)), .unset, .unset, .unset] [(.int (2 : Int32))]) _
            refine own_go (fun _ => XS.ifNo X0.here hx rfl (hb hby d1_152) rfl ((if0 _ _).trans (tlt (show (0 : Int32) < (2 : Int32) from by decide)).2.2.2)) ?_
            show own_Ends p e below s₁ (mkF m 155 #[.val (.ref a), .val (.int s_), .val (.int en), .val (.int ld), .val (.int (2 : Int32)), .val (.int (128 : Int32)), .val (.int (159 : Int32)), .unset, .unset, .unset] []) _
            refine own_go (fun _ => XS.iloadN X0.here hx rfl (hb hby d1_155) rfl) ?_
            refine own_go (fun _ => XS.iload X0.here hx rfl (hb hby d1_156) rfl) ?_
            refine own_go (fun _ => XS.iadd X0.here hx rfl (hb hby d1_158) rfl) ?_
            show own_Ends p e below s₁ (mkF m 159 #[.val (.ref a), .val (.int s_), .val (.int en), .val (.int ld), .val (.int (2 : Int32)), .val (.int (128 : Int32)), .val (.int (159 : Int32)), .unset, .unset, .unset] [(.int (s_ + (2 : Int32)))]) _
            refine own_go (fun _ => XS.iloadN X0.here hx rfl (hb hby d1_159) rfl) ?_
            show own_Ends p e below s₁ (mkF m 160 #[.val (.ref a), .val (.int s_), .val (.int en), .val (.int ld), .val (.int (2 : Int32)), .val (.int (128 : Int32)), .val (.int (159 : Int32)), .unset, .unset, .unset] [(.int en), (.int (s_ + (2 : Int32)))]) _
            by_cases hc160 : (s_ + (2 : Int32)) < en
            · refine own_go (fun _ => XS.icmpNo X0.here hx rfl (hb hby d1_160) rfl (tlt hc160).2.1) ?_
              show own_Ends p e below s₁ (mkF m 163 #[.val (.ref a), .val (.int s_), .val (.int en), .val (.int ld), .val (.int (2 : Int32)), .val (.int (128 : Int32)), .val (.int (159 : Int32)), .unset, .unset, .unset] []) _
              refine own_go (fun _ => XS.iconst X0.here hx rfl (hb hby d1_163)) ?_
              refine own_go (fun _ => XS.goto X0.here hx rfl (pc0 := 164) (pc' := 168) rfl (hb hby d1_164) (by decide) (by decide)) ?_
              refine own_go (fun _ => XS.istore X0.here hx rfl (hb hby d1_168) rfl (l' := #[.val (.ref a), .val (.int s_), .val (.int en), .val (.int ld), .val (.int (2 : Int32)), .val (.int (128 : Int32)), .val (.int (159 : Int32)), .val (.int (1 : Int32)), .unset, .unset]) rfl) ?_
              show own_Ends p e below s₁ (mkF m 170 #[.val (.ref a), .val (.int s_), .val (.int en), .val (.int ld), .val (.int (2 : Int32)), .val (.int (128 : Int32)), .val (.int (159 : Int32)), .val (.int (1 : Int32)), .unset, .unset] []) _
              refine own_go (fun _ => XS.iconst X0.here hx rfl (hb hby d1_170)) ?_
              refine own_go (fun _ => XS.istore X0.here hx rfl (hb hby d1_171) rfl (l' := #[.val (.ref a), .val (.int s_), .val (.int en), .val (.int ld), .val (.int (2 : Int32)), .val (.int (128 : Int32)), .val (.int (159 : Int32)), .val (.int (1 : Int32)), .val (.int (1 : Int32)), .unset]) rfl) ?_
              show own_Ends p e below s₁ (mkF m 173 #[.val (.ref a), .val (.int s_), .val (.int en), .val (.int ld), .val (.int (2 : Int32)), .val (.int (128 : Int32)), .val (.int (159 : Int32)), .val (.int (1 : Int32)), .val (.int (1 : Int32)), .unset] []) _
              refine own_go (fun _ => XS.iload X0.here hx rfl (hb hby d1_173) rfl) ?_
              show own_Ends p e below s₁ (mkF m 175 #[.val (.ref a), .val (.int s_), .val (.int en), .val (.int ld), .val (.int (2 : Int32)), .val (.int (128 : Int32)), .val (.int (159 : Int32)), .val (.int (1 : Int32)), .val (.int (1 : Int32)), .unset] [(.int (1 : Int32))]) _
              refine own_go (fun _ => XS.ifNo X0.here hx rfl (hb hby d1_175) rfl ((if0 _ _).trans (feq (show ¬ ((1 : Int32) = (0 : Int32)) from by decide)).1)) ?_
              show own_Ends p e below s₁ (mkF m 178 #[.val (.ref a), .val (.int s_), .val (.int en), .val (.int ld), .val (.int (2 : Int32)), .val (.int (128 : Int32)), .val (.int (159 : Int32)), .val (.int (1 : Int32)), .val (.int (1 : Int32)), .unset] []) _
              refine own_go (fun _ => XS.iload X0.here hx rfl (hb hby d1_178) rfl) ?_
              refine own_go (fun _ => XS.iload X0.here hx rfl (hb hby d1_180) rfl) ?_
              show own_Ends p e below s₁ (mkF m 182 #[.val (.ref a), .val (.int s_), .val (.int en), .val (.int ld), .val (.int (2 : Int32)), .val (.int (128 : Int32)), .val (.int (159 : Int32)), .val (.int (1 : Int32)), .val (.int (1 : Int32)), .unset] [(.int (2 : Int32)), (.int (1 : Int32))]) _
              refine own_go (fun _ => XS.icmpNo X0.here hx rfl (hb hby d1_182) rfl (flt (show ¬ ((2 : Int32) < (1 : Int32)) from by decide)).2.2.1) ?_
              show own_Ends p e below s₁ (mkF m 185 #[.val (.ref a), .val (.int s_), .val (.int en), .val (.int ld), .val (.int (2 : Int32)), .val (.int (128 : Int32)), .val (.int (159 : Int32)), .val (.int (1 : Int32)), .val (.int (1 : Int32)), .unset] []) _
              refine own_go (fun _ => XS.aloadN X0.here hx rfl (hb hby d1_185) rfl rfl) ?_
              refine own_go (fun _ => XS.iloadN X0.here hx rfl (hb hby d1_186) rfl) ?_
              refine own_go (fun _ => XS.iload X0.here hx rfl (hb hby d1_187) rfl) ?_
              refine own_go (fun _ => XS.iadd X0.here hx rfl (hb hby d1_189) rfl) ?_
              show own_Ends p e below s₁ (mkF m 190 #[.val (.ref a), .val (.int s_), .val (.int en), .val (.int ld), .val (.int (2 : Int32)), .val (.int (128 : Int32)), .val (.int (159 : Int32)), .val (.int (1 : Int32)), .val (.int (1 : Int32)), .unset] [(.int (s_ + (1 : Int32))), (.ref a)]) _
              obtain ⟨cl_7, Ar_7, q_7, S_7, M_7, H_7, G_7⟩ := V_a_r1
              have hin7 : ¬ ((s_ + (1 : Int32)) < 0 ∨ cl_7.slots.size ≤ ((s_ + (1 : Int32))).toNatClampNeg) := inb_of S_7 (own_in s_ hs).2.1
              have hat7 : cl_7.slots[((s_ + (1 : Int32))).toNatClampNeg]? = some (.int t_1) := Has.at H_7 hin7 (hva1)
              refine own_go (X0.baloadBytes hx (j := (s_ + (1 : Int32))) (v := (.int t_1)) (by rw [e0]; exact Ar_7.1) (State.isArrayOf_alike hZ.alike Ar_7.2.1) Ar_7.2.2 hin7 hat7 (g := (mkF m 190 #[.val (.ref a), .val (.int s_), .val (.int en), .val (.int ld), .val (.int (2 : Int32)), .val (.int (128 : Int32)), .val (.int (159 : Int32)), .val (.int (1 : Int32)), .val (.int (1 : Int32)), .unset] [(.int (s_ + (1 : Int32))), (.ref a)])) rfl rfl (hb hby d1_190)) ?_
              have V_a_r7 : Arv Z h0 a kl .byte (6 : Int32) vs (.int (0 : Int32)) := ⟨cl_7, Ar_7, q_7, S_7, M_7, H_7, G_7⟩
              show own_Ends p e below s₁ (mkF m 191 #[.val (.ref a), .val (.int s_), .val (.int en), .val (.int ld), .val (.int (2 : Int32)), .val (.int (128 : Int32)), .val (.int (159 : Int32)), .val (.int (1 : Int32)), .val (.int (1 : Int32)), .unset] [(.int t_1)]) _
              refine own_go (fun _ => XS.sipush X0.here hx rfl (hb hby d1_191)) ?_
              refine own_go (fun _ => XS.iand X0.here hx rfl (hb hby d1_194) rfl) ?_
              show own_Ends p e below s₁ (mkF m 195 #[.val (.ref a), .val (.int s_), .val (.int en), .val (.int ld), .val (.int (2 : Int32)), .val (.int (128 : Int32)), .val (.int (159 : Int32)), .val (.int (1 : Int32)), .val (.int (1 : Int32)), .unset] [(.int (t_1 &&& (255 : Int32)))]) _
              refine own_go (fun _ => XS.istore X0.here hx rfl (hb hby d1_195) rfl (l' := #[.val (.ref a), .val (.int s_), .val (.int en), .val (.int ld), .val (.int (2 : Int32)), .val (.int (128 : Int32)), .val (.int (159 : Int32)), .val (.int (1 : Int32)), .val (.int (1 : Int32)), .val (.int (t_1 &&& (255 : Int32)))]) rfl) ?_
              show own_Ends p e below s₁ (mkF m 197 #[.val (.ref a), .val (.int s_), .val (.int en), .val (.int ld), .val (.int (2 : Int32)), .val (.int (128 : Int32)), .val (.int (159 : Int32)), .val (.int (1 : Int32)), .val (.int (1 : Int32)), .val (.int (t_1 &&& (255 : Int32)))] []) _
              rw [hl1]
              show own_Ends p e below s₁ (mkF m 197 #[.val (.ref a), .val (.int s_), .val (.int en), .val (.int ld), .val (.int (2 : Int32)), .val (.int (128 : Int32)), .val (.int (159 : Int32)), .val (.int (1 : Int32)), .val (.int (1 : Int32)), .val (.int c1)] []) _
              refine own_go (fun _ => XS.iload X0.here hx rfl (hb hby d1_197) rfl) ?_
              refine own_go (fun _ => XS.iconst X0.here hx rfl (hb hby d1_199)) ?_
              show own_Ends p e below s₁ (mkF m 200 #[.val (.ref a), .val (.int s_), .val (.int en), .val (.int ld), .val (.int (2 : Int32)), .val (.int (128 : Int32)), .val (.int (159 : Int32)), .val (.int (1 : Int32)), .val (.int (1 : Int32)), .val (.int c1)] [(.int (1 : Int32)), (.int (1 : Int32))]) _
              refine own_go (fun _ => XS.icmpNo X0.here hx rfl (hb hby d1_200) rfl (teq (show (1 : Int32) = (1 : Int32) from by decide)).2) ?_
              show own_Ends p e below s₁ (mkF m 203 #[.val (.ref a), .val (.int s_), .val (.int en), .val (.int ld), .val (.int (2 : Int32)), .val (.int (128 : Int32)), .val (.int (159 : Int32)), .val (.int (1 : Int32)), .val (.int (1 : Int32)), .val (.int c1)] []) _
              refine own_go (fun _ => XS.iload X0.here hx rfl (hb hby d1_203) rfl) ?_
              refine own_go (fun _ => XS.iload X0.here hx rfl (hb hby d1_205) rfl) ?_
              show own_Ends p e below s₁ (mkF m 207 #[.val (.ref a), .val (.int s_), .val (.int en), .val (.int ld), .val (.int (2 : Int32)), .val (.int (128 : Int32)), .val (.int (159 : Int32)), .val (.int (1 : Int32)), .val (.int (1 : Int32)), .val (.int c1)] [(.int (128 : Int32)), (.int c1)]) _
              by_cases hc207 : c1 < (128 : Int32)
              · refine own_go (fun _ => XS.icmpYes X0.here hx rfl (pc0 := 207) (pc' := 221) rfl (hb hby d1_207) rfl (tlt hc207).1 (by decide) (by decide)) ?_
                show own_Ends p e below s₁ (mkF m 221 #[.val (.ref a), .val (.int s_), .val (.int en), .val (.int ld), .val (.int (2 : Int32)), .val (.int (128 : Int32)), .val (.int (159 : Int32)), .val (.int (1 : Int32)), .val (.int (1 : Int32)), .val (.int c1)] []) _
                refine own_go (fun _ => XS.iconst X0.here hx rfl (hb hby d1_221)) ?_
                refine own_go (fun _ => XS.goto X0.here hx rfl (pc0 := 222) (pc' := 239) rfl (hb hby d1_222) (by decide) (by decide)) ?_
                refine own_go (fun _ => XS.istore X0.here hx rfl (hb hby d1_239) rfl (l' := #[.val (.ref a), .val (.int s_), .val (.int en), .val (.int ld), .val (.int (2 : Int32)), .val (.int (128 : Int32)), .val (.int (159 : Int32)), .val (.int (0 : Int32)), .val (.int (1 : Int32)), .val (.int c1)]) rfl) ?_
                show own_Ends p e below s₁ (mkF m 241 #[.val (.ref a), .val (.int s_), .val (.int en), .val (.int ld), .val (.int (2 : Int32)), .val (.int (128 : Int32)), .val (.int (159 : Int32)), .val (.int (0 : Int32)), .val (.int (1 : Int32)), .val (.int c1)] []) _
                refine own_go (fun _ => XS.iinc X0.here hx rfl (hb hby d1_241) rfl (l' := #[.val (.ref a), .val (.int s_), .val (.int en), .val (.int ld), .val (.int (2 : Int32)), .val (.int (128 : Int32)), .val (.int (159 : Int32)), .val (.int (0 : Int32)), .val (.int (2 : Int32)), .val (.int c1)]) rfl) ?_
                show own_Ends p e below s₁ (mkF m 244 #[.val (.ref a), .val (.int s_), .val (.int en), .val (.int ld), .val (.int (2 : Int32)), .val (.int (128 : Int32)), .val (.int (159 : Int32)), .val (.int (0 : Int32)), .val (.int (2 : Int32)), .val (.int c1)] []) _
                refine own_go (fun _ => XS.goto X0.here hx rfl (pc0 := 244) (pc' := 173) rfl (hb hby d1_244) (by decide) (by decide)) ?_
                refine own_go (fun _ => XS.iload X0.here hx rfl (hb hby d1_173) rfl) ?_
                show own_Ends p e below s₁ (mkF m 175 #[.val (.ref a), .val (.int s_), .val (.int en), .val (.int ld), .val (.int (2 : Int32)), .val (.int (128 : Int32)), .val (.int (159 : Int32)), .val (.int (0 : Int32)), .val (.int (2 : Int32)), .val (.int c1)] [(.int (0 : Int32))]) _
                refine own_go (fun _ => XS.ifYes X0.here hx rfl (pc0 := 175) (pc' := 247) rfl (hb hby d1_175) rfl ((if0 _ _).trans (teq (show (0 : Int32) = (0 : Int32) from by decide)).1) (by decide) (by decide)) ?_
                show own_Ends p e below s₁ (mkF m 247 #[.val (.ref a), .val (.int s_), .val (.int en), .val (.int ld), .val (.int (2 : Int32)), .val (.int (128 : Int32)), .val (.int (159 : Int32)), .val (.int (0 : Int32)), .val (.int (2 : Int32)), .val (.int c1)] []) _
                refine own_go (fun _ => XS.iload X0.here hx rfl (hb hby d1_247) rfl) ?_
                show own_Ends p e below s₁ (mkF m 249 #[.val (.ref a), .val (.int s_), .val (.int en), .val (.int ld), .val (.int (2 : Int32)), .val (.int (128 : Int32)), .val (.int (159 : Int32)), .val (.int (0 : Int32)), .val (.int (2 : Int32)), .val (.int c1)] [(.int (0 : Int32))]) _
                refine own_go (fun _ => XS.ifYes X0.here hx rfl (pc0 := 249) (pc' := 261) rfl (hb hby d1_249) rfl ((if0 _ _).trans (teq (show (0 : Int32) = (0 : Int32) from by decide)).1) (by decide) (by decide)) ?_
                show own_Ends p e below s₁ (mkF m 261 #[.val (.ref a), .val (.int s_), .val (.int en), .val (.int ld), .val (.int (2 : Int32)), .val (.int (128 : Int32)), .val (.int (159 : Int32)), .val (.int (0 : Int32)), .val (.int (2 : Int32)), .val (.int c1)] []) _
                refine own_go (fun _ => XS.iconst X0.here hx rfl (hb hby d1_261)) ?_
                obtain ⟨fs, hr, hrun, hended, hW, hsame⟩ := X0.leave (v := some (.int (-1 : Int32))) (fun h => by rw [Bd.returns] at h; cases h)
                refine ⟨_, _, retI X0 hx Bd.returns (hb hby d1_262) hr, hrun, hended, _, _, rfl, ?_, ⟨_, rfl⟩, hW, hsame.mono (by decide) (by decide)⟩
                show Q_rmSeq Z a s_ en kl vs t_0 t_1 t_2 t_3 ld c1 c2 c3 h0 n0 _ s₁.heap _
                rw [e0]
                refine ⟨_, rfl, ?_, N0, rfl⟩
                obtain ⟨z1, z2, z3, z4, z5, z6⟩ := own_s s_ hs
                have t0 := (not_congr (own_ltC (194) (by decide))).mp kc0
                have t1 := (not_congr (own_ltC (224) (by decide))).mp kc1
                have t2 := (not_congr (own_ltC (225) (by decide))).mp kc2
                have t3 := (not_congr (own_ltC (237) (by decide))).mp kc3
                have t4 := (own_ltC (238) (by decide)).mp kc4
                have t5 := (own_lt2).mp hc160
                have t6 := (own_ltC (128) (by decide)).mp hc207
                have y0 := own_sh c2
                have y1 := own_sh c3
                exact own_A0 (by unfold own_P1; omega) (by unfold own_P2; omega) (by unfold own_P3; omega)
              · refine own_go (fun _ => XS.icmpNo X0.here hx rfl (hb hby d1_207) rfl (flt hc207).1) ?_
                show own_Ends p e below s₁ (mkF m 210 #[.val (.ref a), .val (.int s_), .val (.int en), .val (.int ld), .val (.int (2 : Int32)), .val (.int (128 : Int32)), .val (.int (159 : Int32)), .val (.int (1 : Int32)), .val (.int (1 : Int32)), .val (.int c1)] []) _
                refine own_go (fun _ => XS.iload X0.here hx rfl (hb hby d1_210) rfl) ?_
                refine own_go (fun _ => XS.iload X0.here hx rfl (hb hby d1_212) rfl) ?_
                show own_Ends p e below s₁ (mkF m 214 #[.val (.ref a), .val (.int s_), .val (.int en), .val (.int ld), .val (.int (2 : Int32)), .val (.int (128 : Int32)), .val (.int (159 : Int32)), .val (.int (1 : Int32)), .val (.int (1 : Int32)), .val (.int c1)] [(.int (159 : Int32)), (.int c1)]) _
                by_cases hc214 : (159 : Int32) < c1
                · refine own_go (fun _ => XS.icmpYes X0.here hx rfl (pc0 := 214) (pc' := 221) rfl (hb hby d1_214) rfl (tlt hc214).2.2.1 (by decide) (by decide)) ?_
                  show own_Ends p e below s₁ (mkF m 221 #[.val (.ref a), .val (.int s_), .val (.int en), .val (.int ld), .val (.int (2 : Int32)), .val (.int (128 : Int32)), .val (.int (159 : Int32)), .val (.int (1 : Int32)), .val (.int (1 : Int32)), .val (.int c1)] []) _
                  refine own_go (fun _ => XS.iconst X0.here hx rfl (hb hby d1_221)) ?_
                  refine own_go (fun _ => XS.goto X0.here hx rfl (pc0 := 222) (pc' := 239) rfl (hb hby d1_222) (by decide) (by decide)) ?_
                  refine own_go (fun _ => XS.istore X0.here hx rfl (hb hby d1_239) rfl (l' := #[.val (.ref a), .val (.int s_), .val (.int en), .val (.int ld), .val (.int (2 : Int32)), .val (.int (128 : Int32)), .val (.int (159 : Int32)), .val (.int (0 : Int32)), .val (.int (1 : Int32)), .val (.int c1)]) rfl) ?_
                  show own_Ends p e below s₁ (mkF m 241 #[.val (.ref a), .val (.int s_), .val (.int en), .val (.int ld), .val (.int (2 : Int32)), .val (.int (128 : Int32)), .val (.int (159 : Int32)), .val (.int (0 : Int32)), .val (.int (1 : Int32)), .val (.int c1)] []) _
                  refine own_go (fun _ => XS.iinc X0.here hx rfl (hb hby d1_241) rfl (l' := #[.val (.ref a), .val (.int s_), .val (.int en), .val (.int ld), .val (.int (2 : Int32)), .val (.int (128 : Int32)), .val (.int (159 : Int32)), .val (.int (0 : Int32)), .val (.int (2 : Int32)), .val (.int c1)]) rfl) ?_
                  show own_Ends p e below s₁ (mkF m 244 #[.val (.ref a), .val (.int s_), .val (.int en), .val (.int ld), .val (.int (2 : Int32)), .val (.int (128 : Int32)), .val (.int (159 : Int32)), .val (.int (0 : Int32)), .val (.int (2 : Int32)), .val (.int c1)] []) _
                  refine own_go (fun _ => XS.goto X0.here hx rfl (pc0 := 244) (pc' := 173) rfl (hb hby d1_244) (by decide) (by decide)) ?_
                  refine own_go (fun _ => XS.iload X0.here hx rfl (hb hby d1_173) rfl) ?_
                  show own_Ends p e below s₁ (mkF m 175 #[.val (.ref a), .val (.int s_), .val (.int en), .val (.int ld), .val (.int (2 : Int32)), .val (.int (128 : Int32)), .val (.int (159 : Int32)), .val (.int (0 : Int32)), .val (.int (2 : Int32)), .val (.int c1)] [(.int (0 : Int32))]) _
                  refine own_go (fun _ => XS.ifYes X0.here hx rfl (pc0 := 175) (pc' := 247) rfl (hb hby d1_175) rfl ((if0 _ _).trans (teq (show (0 : Int32) = (0 : Int32) from by decide)).1) (by decide) (by decide)) ?_
                  show own_Ends p e below s₁ (mkF m 247 #[.val (.ref a), .val (.int s_), .val (.int en), .val (.int ld), .val (.int (2 : Int32)), .val (.int (128 : Int32)), .val (.int (159 : Int32)), .val (.int (0 : Int32)), .val (.int (2 : Int32)), .val (.int c1)] []) _
                  refine own_go (fun _ => XS.iload X0.here hx rfl (hb hby d1_247) rfl) ?_
                  show own_Ends p e below s₁ (mkF m 249 #[.val (.ref a), .val (.int s_), .val (.int en), .val (.int ld), .val (.int (2 : Int32)), .val (.int (128 : Int32)), .val (.int (159 : Int32)), .val (.int (0 : Int32)), .val (.int (2 : Int32)), .val (.int c1)] [(.int (0 : Int32))]) _
                  refine own_go (fun _ => XS.ifYes X0.here hx rfl (pc0 := 249) (pc' := 261) rfl (hb hby d1_249) rfl ((if0 _ _).trans (teq (show (0 : Int32) = (0 : Int32) from by decide)).1) (by decide) (by decide)) ?_
                  show own_Ends p e below s₁ (mkF m 261 #[.val (.ref a), .val (.int s_), .val (.int en), .val (.int ld), .val (.int (2 : Int32)), .val (.int (128 : Int32)), .val (.int (159 : Int32)), .val (.int (0 : Int32)), .val (.int (2 : Int32)), .val (.int c1)] []) _
                  refine own_go (fun _ => XS.iconst X0.here hx rfl (hb hby d1_261)) ?_
                  obtain ⟨fs, hr, hrun, hended, hW, hsame⟩ := X0.leave (v := some (.int (-1 : Int32))) (fun h => by rw [Bd.returns] at h; cases h)
                  refine ⟨_, _, retI X0 hx Bd.returns (hb hby d1_262) hr, hrun, hended, _, _, rfl, ?_, ⟨_, rfl⟩, hW, hsame.mono (by decide) (by decide)⟩
                  show Q_rmSeq Z a s_ en kl vs t_0 t_1 t_2 t_3 ld c1 c2 c3 h0 n0 _ s₁.heap _
                  rw [e0]
                  refine ⟨_, rfl, ?_, N0, rfl⟩
                  obtain ⟨z1, z2, z3, z4, z5, z6⟩ := own_s s_ hs
                  have t0 := (not_congr (own_ltC (194) (by decide))).mp kc0
                  have t1 := (not_congr (own_ltC (224) (by decide))).mp kc1
                  have t2 := (not_congr (own_ltC (225) (by decide))).mp kc2
                  have t3 := (not_congr (own_ltC (237) (by decide))).mp kc3
                  have t4 := (own_ltC (238) (by decide)).mp kc4
                  have t5 := (own_lt2).mp hc160
                  have t6 := (not_congr (own_ltC (128) (by decide))).mp hc207
                  have t7 := (own_Clt (159) (by decide)).mp hc214
                  have y0 := own_sh c2
                  have y1 := own_sh c3
                  exact own_A0 (by unfold own_P1; omega) (by unfold own_P2; omega) (by unfold own_P3; omega)
                · refine own_go (fun _ => XS.icmpNo X0.here hx rfl (hb hby d1_214) rfl (flt hc214).2.2.1) ?_
                  show own_Ends p e below s₁ (mkF m 217 #[.val (.ref a), .val (.int s_), .val (.int en), .val (.int ld), .val (.int (2 : Int32)), .val (.int (128 : Int32)), .val (.int (159 : Int32)), .val (.int (1 : Int32)), .val (.int (1 : Int32)), .val (.int c1)] []) _
                  refine own_go (fun _ => XS.iconst X0.here hx rfl (hb hby d1_217)) ?_
                  refine own_go (fun _ => XS.goto X0.here hx rfl (pc0 := 218) (pc' := 239) rfl (hb hby d1_218) (by decide) (by decide)) ?_
                  refine own_go (fun _ => XS.istore X0.here hx rfl (hb hby d1_239) rfl (l' := #[.val (.ref a), .val (.int s_), .val (.int en), .val (.int ld), .val (.int (2 : Int32)), .val (.int (128 : Int32)), .val (.int (159 : Int32)), .val (.int (1 : Int32)), .val (.int (1 : Int32)), .val (.int c1)]) rfl) ?_
                  show own_Ends p e below s₁ (mkF m 241 #[.val (.ref a), .val (.int s_), .val (.int en), .val (.int ld), .val (.int (2 : Int32)), .val (.int (128 : Int32)), .val (.int (159 : Int32)), .val (.int (1 : Int32)), .val (.int (1 : Int32)), .val (.int c1)] []) _
                  refine own_go (fun _ => XS.iinc X0.here hx rfl (hb hby d1_241) rfl (l' := #[.val (.ref a), .val (.int s_), .val (.int en), .val (.int ld), .val (.int (2 : Int32)), .val (.int (128 : Int32)), .val (.int (159 : Int32)), .val (.int (1 : Int32)), .val (.int (2 : Int32)), .val (.int c1)]) rfl) ?_
                  show own_Ends p e below s₁ (mkF m 244 #[.val (.ref a), .val (.int s_), .val (.int en), .val (.int ld), .val (.int (2 : Int32)), .val (.int (128 : Int32)), .val (.int (159 : Int32)), .val (.int (1 : Int32)), .val (.int (2 : Int32)), .val (.int c1)] []) _
                  refine own_go (fun _ => XS.goto X0.here hx rfl (pc0 := 244) (pc' := 173) rfl (hb hby d1_244) (by decide) (by decide)) ?_
                  refine own_go (fun _ => XS.iload X0.here hx rfl (hb hby d1_173) rfl) ?_
                  show own_Ends p e below s₁ (mkF m 175 #[.val (.ref a), .val (.int s_), .val (.int en), .val (.int ld), .val (.int (2 : Int32)), .val (.int (128 : Int32)), .val (.int (159 : Int32)), .val (.int (1 : Int32)), .val (.int (2 : Int32)), .val (.int c1)] [(.int (1 : Int32))]) _
                  refine own_go (fun _ => XS.ifNo X0.here hx rfl (hb hby d1_175) rfl ((if0 _ _).trans (feq (show ¬ ((1 : Int32) = (0 : Int32)) from by decide)).1)) ?_
                  show own_Ends p e below s₁ (mkF m 178 #[.val (.ref a), .val (.int s_), .val (.int en), .val (.int ld), .val (.int (2 : Int32)), .val (.int (128 : Int32)), .val (.int (159 : Int32)), .val (.int (1 : Int32)), .val (.int (2 : Int32)), .val (.int c1)] []) _
                  refine own_go (fun _ => XS.iload X0.here hx rfl (hb hby d1_178) rfl) ?_
                  refine own_go (fun _ => XS.iload X0.here hx rfl (hb hby d1_180) rfl) ?_
                  show own_Ends p e below s₁ (mkF m 182 #[.val (.ref a), .val (.int s_), .val (.int en), .val (.int ld), .val (.int (2 : Int32)), .val (.int (128 : Int32)), .val (.int (159 : Int32)), .val (.int (1 : Int32)), .val (.int (2 : Int32)), .val (.int c1)] [(.int (2 : Int32)), (.int (2 : Int32))]) _
                  refine own_go (fun _ => XS.icmpNo X0.here hx rfl (hb hby d1_182) rfl (flt (show ¬ ((2 : Int32) < (2 : Int32)) from by decide)).2.2.1) ?_
                  show own_Ends p e below s₁ (mkF m 185 #[.val (.ref a), .val (.int s_), .val (.int en), .val (.int ld), .val (.int (2 : Int32)), .val (.int (128 : Int32)), .val (.int (159 : Int32)), .val (.int (1 : Int32)), .val (.int (2 : Int32)), .val (.int c1)] []) _
                  refine own_go (fun _ => XS.aloadN X0.here hx rfl (hb hby d1_185) rfl rfl) ?_
                  refine own_go (fun _ => XS.iloadN X0.here hx rfl (hb hby d1_186) rfl) ?_
                  refine own_go (fun _ => XS.iload X0.here hx rfl (hb hby d1_187) rfl) ?_
                  refine own_go (fun _ => XS.iadd X0.here hx rfl (hb hby d1_189) rfl) ?_
                  show own_Ends p e below s₁ (mkF m 190 #[.val (.ref a), .val (.int s_), .val (.int en), .val (.int ld), .val (.int (2 : Int32)), .val (.int (128 : Int32)), .val (.int (159 : Int32)), .val (.int (1 : Int32)), .val (.int (2 : Int32)), .val (.int c1)] [(.int (s_ + (2 : Int32))), (.ref a)]) _
                  obtain ⟨cl_8, Ar_8, q_8, S_8, M_8, H_8, G_8⟩ := V_a_r7
                  have hin8 : ¬ ((s_ + (2 : Int32)) < 0 ∨ cl_8.slots.size ≤ ((s_ + (2 : Int32))).toNatClampNeg) := inb_of S_8 (own_in s_ hs).2.2.1
                  have hat8 : cl_8.slots[((s_ + (2 : Int32))).toNatClampNeg]? = some (.int t_2) := Has.at H_8 hin8 (hva2)
                  refine own_go (X0.baloadBytes hx (j := (s_ + (2 : Int32))) (v := (.int t_2)) (by rw [e0]; exact Ar_8.1) (State.isArrayOf_alike hZ.alike Ar_8.2.1) Ar_8.2.2 hin8 hat8 (g := (mkF m 190 #[.val (.ref a), .val (.int s_), .val (.int en), .val (.int ld), .val (.int (2 : Int32)), .val (.int (128 : Int32)), .val (.int (159 : Int32)), .val (.int (1 : Int32)), .val (.int (2 : Int32)), .val (.int c1)] [(.int (s_ + (2 : Int32))), (.ref a)])) rfl rfl (hb hby d1_190)) ?_
                  have V_a_r8 : Arv Z h0 a kl .byte (6 : Int32) vs (.int (0 : Int32)) := ⟨cl_8, Ar_8, q_8, S_8, M_8, H_8, G_8⟩
                  show own_Ends p e below s₁ (mkF m 191 #[.val (.ref a), .val (.int s_), .val (.int en), .val (.int ld), .val (.int (2 : Int32)), .val (.int (128 : Int32)), .val (.int (159 : Int32)), .val (.int (1 : Int32)), .val (.int (2 : Int32)), .val (.int c1)] [(.int t_2)]) _
                  refine own_go (fun _ => XS.sipush X0.here hx rfl (hb hby d1_191)) ?_
                  refine own_go (fun _ => XS.iand X0.here hx rfl (hb hby d1_194) rfl) ?_
                  show own_Ends p e below s₁ (mkF m 195 #[.val (.ref a), .val (.int s_), .val (.int en), .val (.int ld), .val (.int (2 : Int32)), .val (.int (128 : Int32)), .val (.int (159 : Int32)), .val (.int (1 : Int32)), .val (.int (2 : Int32)), .val (.int c1)] [(.int (t_2 &&& (255 : Int32)))]) _
                  refine own_go (fun _ => XS.istore X0.here hx rfl (hb hby d1_195) rfl (l' := #[.val (.ref a), .val (.int s_), .val (.int en), .val (.int ld), .val (.int (2 : Int32)), .val (.int (128 : Int32)), .val (.int (159 : Int32)), .val (.int (1 : Int32)), .val (.int (2 : Int32)), .val (.int (t_2 &&& (255 : Int32)))]) rfl) ?_
                  show own_Ends p e below s₁ (mkF m 197 #[.val (.ref a), .val (.int s_), .val (.int en), .val (.int ld), .val (.int (2 : Int32)), .val (.int (128 : Int32)), .val (.int (159 : Int32)), .val (.int (1 : Int32)), .val (.int (2 : Int32)), .val (.int (t_2 &&& (255 : Int32)))] []) _
                  rw [hl2]
                  show own_Ends p e below s₁ (mkF m 197 #[.val (.ref a), .val (.int s_), .val (.int en), .val (.int ld), .val (.int (2 : Int32)), .val (.int (128 : Int32)), .val (.int (159 : Int32)), .val (.int (1 : Int32)), .val (.int (2 : Int32)), .val (.int c2)] []) _
                  refine own_go (fun _ => XS.iload X0.here hx rfl (hb hby d1_197) rfl) ?_
                  refine own_go (fun _ => XS.iconst X0.here hx rfl (hb hby d1_199)) ?_
                  show own_Ends p e below s₁ (mkF m 200 #[.val (.ref a), .val (.int s_), .val (.int en), .val (.int ld), .val (.int (2 : Int32)), .val (.int (128 : Int32)), .val (.int (159 : Int32)), .val (.int (1 : Int32)), .val (.int (2 : Int32)), .val (.int c2)] [(.int (1 : Int32)), (.int (2 : Int32))]) _
                  refine own_go (fun _ => XS.icmpYes X0.here hx rfl (pc0 := 200) (pc' := 225) rfl (hb hby d1_200) rfl (feq (show ¬ ((2 : Int32) = (1 : Int32)) from by decide)).2 (by decide) (by decide)) ?_
                  show own_Ends p e below s₁ (mkF m 225 #[.val (.ref a), .val (.int s_), .val (.int en), .val (.int ld), .val (.int (2 : Int32)), .val (.int (128 : Int32)), .val (.int (159 : Int32)), .val (.int (1 : Int32)), .val (.int (2 : Int32)), .val (.int c2)] []) _
                  refine own_go (fun _ => XS.iload X0.here hx rfl (hb hby d1_225) rfl) ?_
                  refine own_go (fun _ => XS.bipush X0.here hx rfl (hb hby d1_227)) ?_
                  refine own_go (fun _ => XS.ishr X0.here hx rfl (hb hby d1_229) rfl) ?_
                  show own_Ends p e below s₁ (mkF m 230 #[.val (.ref a), .val (.int s_), .val (.int en), .val (.int ld), .val (.int (2 : Int32)), .val (.int (128 : Int32)), .val (.int (159 : Int32)), .val (.int (1 : Int32)), .val (.int (2 : Int32)), .val (.int c2)] [(.int (c2 >>> ((6 : Int32) &&& 31)))]) _
                  refine own_go (fun _ => XS.iconst X0.here hx rfl (hb hby d1_230)) ?_
                  show own_Ends p e below s₁ (mkF m 231 #[.val (.ref a), .val (.int s_), .val (.int en), .val (.int ld), .val (.int (2 : Int32)), .val (.int (128 : Int32)), .val (.int (159 : Int32)), .val (.int (1 : Int32)), .val (.int (2 : Int32)), .val (.int c2)] [(.int (2 : Int32)), (.int (c2 >>> ((6 : Int32) &&& 31)))]) _
                  by_cases hc231 : (c2 >>> ((6 : Int32) &&& 31)) = (2 : Int32)
                  · refine own_go (fun _ => XS.icmpNo X0.here hx rfl (hb hby d1_231) rfl (teq hc231).2) ?_
                    show own_Ends p e below s₁ (mkF m 234 #[.val (.ref a), .val (.int s_), .val (.int en), .val (.int ld), .val (.int (2 : Int32)), .val (.int (128 : Int32)), .val (.int (159 : Int32)), .val (.int (1 : Int32)), .val (.int (2 : Int32)), .val (.int c2)] []) _
                    refine own_go (fun _ => XS.iconst X0.here hx rfl (hb hby d1_234)) ?_
                    refine own_go (fun _ => XS.goto X0.here hx rfl (pc0 := 235) (pc' := 239) rfl (hb hby d1_235) (by decide) (by decide)) ?_
                    refine own_go (fun _ => XS.istore X0.here hx rfl (hb hby d1_239) rfl (l' := #[.val (.ref a), .val (.int s_), .val (.int en), .val (.int ld), .val (.int (2 : Int32)), .val (.int (128 : Int32)), .val (.int (159 : Int32)), .val (.int (1 : Int32)), .val (.int (2 : Int32)), .val (.int c2)]) rfl) ?_
                    show own_Ends p e below s₁ (mkF m 241 #[.val (.ref a), .val (.int s_), .val (.int en), .val (.int ld), .val (.int (2 : Int32)), .val (.int (128 : Int32)), .val (.int (159 : Int32)), .val (.int (1 : Int32)), .val (.int (2 : Int32)), .val (.int c2)] []) _
                    refine own_go (fun _ => XS.iinc X0.here hx rfl (hb hby d1_241) rfl (l' := #[.val (.ref a), .val (.int s_), .val (.int en), .val (.int ld), .val (.int (2 : Int32)), .val (.int (128 : Int32)), .val (.int (159 : Int32)), .val (.int (1 : Int32)), .val (.int (3 : Int32)), .val (.int c2)]) rfl) ?_
                    show own_Ends p e below s₁ (mkF m 244 #[.val (.ref a), .val (.int s_), .val (.int en), .val (.int ld), .val (.int (2 : Int32)), .val (.int (128 : Int32)), .val (.int (159 : Int32)), .val (.int (1 : Int32)), .val (.int (3 : Int32)), .val (.int c2)] []) _
                    refine own_go (fun _ => XS.goto X0.here hx rfl (pc0 := 244) (pc' := 173) rfl (hb hby d1_244) (by decide) (by decide)) ?_
                    refine own_go (fun _ => XS.iload X0.here hx rfl (hb hby d1_173) rfl) ?_
                    show own_Ends p e below s₁ (mkF m 175 #[.val (.ref a), .val (.int s_), .val (.int en), .val (.int ld), .val (.int (2 : Int32)), .val (.int (128 : Int32)), .val (.int (159 : Int32)), .val (.int (1 : Int32)), .val (.int (3 : Int32)), .val (.int c2)] [(.int (1 : Int32))]) _
                    refine own_go (fun _ => XS.ifNo X0.here hx rfl (hb hby d1_175) rfl ((if0 _ _).trans (feq (show ¬ ((1 : Int32) = (0 : Int32)) from by decide)).1)) ?_
                    show own_Ends p e below s₁ (mkF m 178 #[.val (.ref a), .val (.int s_), .val (.int en), .val (.int ld), .val (.int (2 : Int32)), .val (.int (128 : Int32)), .val (.int (159 : Int32)), .val (.int (1 : Int32)), .val (.int (3 : Int32)), .val (.int c2)] []) _
                    refine own_go (fun _ => XS.iload X0.here hx rfl (hb hby d1_178) rfl) ?_
                    refine own_go (fun _ => XS.iload X0.here hx rfl (hb hby d1_180) rfl) ?_
                    show own_Ends p e below s₁ (mkF m 182 #[.val (.ref a), .val (.int s_), .val (.int en), .val (.int ld), .val (.int (2 : Int32)), .val (.int (128 : Int32)), .val (.int (159 : Int32)), .val (.int (1 : Int32)), .val (.int (3 : Int32)), .val (.int c2)] [(.int (2 : Int32)), (.int (3 : Int32))]) _
                    refine own_go (fun _ => XS.icmpYes X0.here hx rfl (pc0 := 182) (pc' := 247) rfl (hb hby d1_182) rfl (tlt (show (2 : Int32) < (3 : Int32) from by decide)).2.2.1 (by decide) (by decide)) ?_
                    show own_Ends p e below s₁ (mkF m 247 #[.val (.ref a), .val (.int s_), .val (.int en), .val (.int ld), .val (.int (2 : Int32)), .val (.int (128 : Int32)), .val (.int (159 : Int32)), .val (.int (1 : Int32)), .val (.int (3 : Int32)), .val (.int c2)] []) _
                    refine own_go (fun _ => XS.iload X0.here hx rfl (hb hby d1_247) rfl) ?_
                    show own_Ends p e below s₁ (mkF m 249 #[.val (.ref a), .val (.int s_), .val (.int en), .val (.int ld), .val (.int (2 : Int32)), .val (.int (128 : Int32)), .val (.int (159 : Int32)), .val (.int (1 : Int32)), .val (.int (3 : Int32)), .val (.int c2)] [(.int (1 : Int32))]) _
                    refine own_go (fun _ => XS.ifNo X0.here hx rfl (hb hby d1_249) rfl ((if0 _ _).trans (feq (show ¬ ((1 : Int32) = (0 : Int32)) from by decide)).1)) ?_
                    show own_Ends p e below s₁ (mkF m 252 #[.val (.ref a), .val (.int s_), .val (.int en), .val (.int ld), .val (.int (2 : Int32)), .val (.int (128 : Int32)), .val (.int (159 : Int32)), .val (.int (1 : Int32)), .val (.int (3 : Int32)), .val (.int c2)] []) _
                    refine own_go (fun _ => XS.iloadN X0.here hx rfl (hb hby d1_252) rfl) ?_
                    refine own_go (fun _ => XS.iload X0.here hx rfl (hb hby d1_253) rfl) ?_
                    refine own_go (fun _ => XS.iadd X0.here hx rfl (hb hby d1_255) rfl) ?_
                    show own_Ends p e below s₁ (mkF m 256 #[.val (.ref a), .val (.int s_), .val (.int en), .val (.int ld), .val (.int (2 : Int32)), .val (.int (128 : Int32)), .val (.int (159 : Int32)), .val (.int (1 : Int32)), .val (.int (3 : Int32)), .val (.int c2)] [(.int (s_ + (2 : Int32)))]) _
                    refine own_go (fun _ => XS.iconst X0.here hx rfl (hb hby d1_256)) ?_
                    refine own_go (fun _ => XS.iadd X0.here hx rfl (hb hby d1_257) rfl) ?_
                    show own_Ends p e below s₁ (mkF m 258 #[.val (.ref a), .val (.int s_), .val (.int en), .val (.int ld), .val (.int (2 : Int32)), .val (.int (128 : Int32)), .val (.int (159 : Int32)), .val (.int (1 : Int32)), .val (.int (3 : Int32)), .val (.int c2)] [(.int ((s_ + (2 : Int32)) + (1 : Int32)))]) _
                    refine own_go (fun _ => XS.goto X0.here hx rfl (pc0 := 258) (pc' := 262) rfl (hb hby d1_258) (by decide) (by decide)) ?_
                    obtain ⟨fs, hr, hrun, hended, hW, hsame⟩ := X0.leave (v := some (.int ((s_ + (2 : Int32)) + (1 : Int32)))) (fun h => by rw [Bd.returns] at h; cases h)
                    refine ⟨_, _, retI X0 hx Bd.returns (hb hby d1_262) hr, hrun, hended, _, _, rfl, ?_, ⟨_, rfl⟩, hW, hsame.mono (by decide) (by decide)⟩
                    show Q_rmSeq Z a s_ en kl vs t_0 t_1 t_2 t_3 ld c1 c2 c3 h0 n0 _ s₁.heap _
                    rw [e0]
                    refine ⟨_, rfl, ?_, N0, rfl⟩
                    obtain ⟨z1, z2, z3, z4, z5, z6⟩ := own_s s_ hs
                    have t0 := (not_congr (own_ltC (194) (by decide))).mp kc0
                    have t1 := (not_congr (own_ltC (224) (by decide))).mp kc1
                    have t2 := (not_congr (own_ltC (225) (by decide))).mp kc2
                    have t3 := (not_congr (own_ltC (237) (by decide))).mp kc3
                    have t4 := (own_ltC (238) (by decide)).mp kc4
                    have t5 := (own_lt2).mp hc160
                    have t6 := (not_congr (own_ltC (128) (by decide))).mp hc207
                    have t7 := (not_congr (own_Clt (159) (by decide))).mp hc214
                    have t8 := (own_eqC (2) (by decide)).mp hc231
                    have y0 := own_sh c2
                    have y1 := own_sh c3
                    exact own_A2 (by unfold own_P2; omega) (own_as3 _)
                  · refine own_go (fun _ => XS.icmpYes X0.here hx rfl (pc0 := 231) (pc' := 238) rfl (hb hby d1_231) rfl (feq hc231).2 (by decide) (by decide)) ?_
                    show own_Ends p e below s₁ (mkF m 238 #[.val (.ref a), .val (.int s_), .val (.int en), .val (.int ld), .val (.int (2 : Int32)), .val (.int (128 : Int32)), .val (.int (159 : Int32)), .val (.int (1 : Int32)), .val (.int (2 : Int32)), .val (.int c2)] []) _
                    refine own_go (fun _ => XS.iconst X0.here hx rfl (hb hby d1_238)) ?_
                    refine own_go (fun _ => XS.istore X0.here hx rfl (hb hby d1_239) rfl (l' := #[.val (.ref a), .val (.int s_), .val (.int en), .val (.int ld), .val (.int (2 : Int32)), .val (.int (128 : Int32)), .val (.int (159 : Int32)), .val (.int (0 : Int32)), .val (.int (2 : Int32)), .val (.int c2)]) rfl) ?_
                    show own_Ends p e below s₁ (mkF m 241 #[.val (.ref a), .val (.int s_), .val (.int en), .val (.int ld), .val (.int (2 : Int32)), .val (.int (128 : Int32)), .val (.int (159 : Int32)), .val (.int (0 : Int32)), .val (.int (2 : Int32)), .val (.int c2)] []) _
                    refine own_go (fun _ => XS.iinc X0.here hx rfl (hb hby d1_241) rfl (l' := #[.val (.ref a), .val (.int s_), .val (.int en), .val (.int ld), .val (.int (2 : Int32)), .val (.int (128 : Int32)), .val (.int (159 : Int32)), .val (.int (0 : Int32)), .val (.int (3 : Int32)), .val (.int c2)]) rfl) ?_
                    show own_Ends p e below s₁ (mkF m 244 #[.val (.ref a), .val (.int s_), .val (.int en), .val (.int ld), .val (.int (2 : Int32)), .val (.int (128 : Int32)), .val (.int (159 : Int32)), .val (.int (0 : Int32)), .val (.int (3 : Int32)), .val (.int c2)] []) _
                    refine own_go (fun _ => XS.goto X0.here hx rfl (pc0 := 244) (pc' := 173) rfl (hb hby d1_244) (by decide) (by decide)) ?_
                    refine own_go (fun _ => XS.iload X0.here hx rfl (hb hby d1_173) rfl) ?_
                    show own_Ends p e below s₁ (mkF m 175 #[.val (.ref a), .val (.int s_), .val (.int en), .val (.int ld), .val (.int (2 : Int32)), .val (.int (128 : Int32)), .val (.int (159 : Int32)), .val (.int (0 : Int32)), .val (.int (3 : Int32)), .val (.int c2)] [(.int (0 : Int32))]) _
                    refine own_go (fun _ => XS.ifYes X0.here hx rfl (pc0 := 175) (pc' := 247) rfl (hb hby d1_175) rfl ((if0 _ _).trans (teq (show (0 : Int32) = (0 : Int32) from by decide)).1) (by decide) (by decide)) ?_
                    show own_Ends p e below s₁ (mkF m 247 #[.val (.ref a), .val (.int s_), .val (.int en), .val (.int ld), .val (.int (2 : Int32)), .val (.int (128 : Int32)), .val (.int (159 : Int32)), .val (.int (0 : Int32)), .val (.int (3 : Int32)), .val (.int c2)] []) _
                    refine own_go (fun _ => XS.iload X0.here hx rfl (hb hby d1_247) rfl) ?_
                    show own_Ends p e below s₁ (mkF m 249 #[.val (.ref a), .val (.int s_), .val (.int en), .val (.int ld), .val (.int (2 : Int32)), .val (.int (128 : Int32)), .val (.int (159 : Int32)), .val (.int (0 : Int32)), .val (.int (3 : Int32)), .val (.int c2)] [(.int (0 : Int32))]) _
                    refine own_go (fun _ => XS.ifYes X0.here hx rfl (pc0 := 249) (pc' := 261) rfl (hb hby d1_249) rfl ((if0 _ _).trans (teq (show (0 : Int32) = (0 : Int32) from by decide)).1) (by decide) (by decide)) ?_
                    show own_Ends p e below s₁ (mkF m 261 #[.val (.ref a), .val (.int s_), .val (.int en), .val (.int ld), .val (.int (2 : Int32)), .val (.int (128 : Int32)), .val (.int (159 : Int32)), .val (.int (0 : Int32)), .val (.int (3 : Int32)), .val (.int c2)] []) _
                    refine own_go (fun _ => XS.iconst X0.here hx rfl (hb hby d1_261)) ?_
                    obtain ⟨fs, hr, hrun, hended, hW, hsame⟩ := X0.leave (v := some (.int (-1 : Int32))) (fun h => by rw [Bd.returns] at h; cases h)
                    refine ⟨_, _, retI X0 hx Bd.returns (hb hby d1_262) hr, hrun, hended, _, _, rfl, ?_, ⟨_, rfl⟩, hW, hsame.mono (by decide) (by decide)⟩
                    show Q_rmSeq Z a s_ en kl vs t_0 t_1 t_2 t_3 ld c1 c2 c3 h0 n0 _ s₁.heap _
                    rw [e0]
                    refine ⟨_, rfl, ?_, N0, rfl⟩
                    obtain ⟨z1, z2, z3, z4, z5, z6⟩ := own_s s_ hs
                    have t0 := (not_congr (own_ltC (194) (by decide))).mp kc0
                    have t1 := (not_congr (own_ltC (224) (by decide))).mp kc1
                    have t2 := (not_congr (own_ltC (225) (by decide))).mp kc2
                    have t3 := (not_congr (own_ltC (237) (by decide))).mp kc3
                    have t4 := (own_ltC (238) (by decide)).mp kc4
                    have t5 := (own_lt2).mp hc160
                    have t6 := (not_congr (own_ltC (128) (by decide))).mp hc207
                    have t7 := (not_congr (own_Clt (159) (by decide))).mp hc214
                    have t8 := (not_congr (own_eqC (2) (by decide))).mp hc231
                    have y0 := own_sh c2
                    have y1 := own_sh c3
                    exact own_A0 (by unfold own_P1; omega) (by unfold own_P2; omega) (by unfold own_P3; omega)
            · refine own_go (fun _ => XS.icmpYes X0.here hx rfl (pc0 := 160) (pc' := 167) rfl (hb hby d1_160) rfl (flt hc160).2.1 (by decide) (by decide)) ?_
              show own_Ends p e below s₁ (mkF m 167 #[.val (.ref a), .val (.int s_), .val (.int en), .val (.int ld), .val (.int (2 : Int32)), .val (.int (128 : Int32)), .val (.int (159 : Int32)), .unset, .unset, .unset] []) _
              refine own_go (fun _ => XS.iconst X0.here hx rfl (hb hby d1_167)) ?_
              refine own_go (fun _ => XS.istore X0.here hx rfl (hb hby d1_168) rfl (l' := #[.val (.ref a), .val (.int s_), .val (.int en), .val (.int ld), .val (.int (2 : Int32)), .val (.int (128 : Int32)), .val (.int (159 : Int32)), .val (.int (0 : Int32)), .unset, .unset]) rfl) ?_
              show own_Ends p e below s₁ (mkF m 170 #[.val (.ref a), .val (.int s_), .val (.int en), .val (.int ld), .val (.int (2 : Int32)), .val (.int (128 : Int32)), .val (.int (159 : Int32)), .val (.int (0 : Int32)), .unset, .unset] []) _
              refine own_go (fun _ => XS.iconst X0.here hx rfl (hb hby d1_170)) ?_
              refine own_go (fun _ => XS.istore X0.here hx rfl (hb hby d1_171) rfl (l' := #[.val (.ref a), .val (.int s_), .val (.int en), .val (.int ld), .val (.int (2 : Int32)), .val (.int (128 : Int32)), .val (.int (159 : Int32)), .val (.int (0 : Int32)), .val (.int (1 : Int32)), .unset]) rfl) ?_
              show own_Ends p e below s₁ (mkF m 173 #[.val (.ref a), .val (.int s_), .val (.int en), .val (.int ld), .val (.int (2 : Int32)), .val (.int (128 : Int32)), .val (.int (159 : Int32)), .val (.int (0 : Int32)), .val (.int (1 : Int32)), .unset] []) _
              refine own_go (fun _ => XS.iload X0.here hx rfl (hb hby d1_173) rfl) ?_
              show own_Ends p e below s₁ (mkF m 175 #[.val (.ref a), .val (.int s_), .val (.int en), .val (.int ld), .val (.int (2 : Int32)), .val (.int (128 : Int32)), .val (.int (159 : Int32)), .val (.int (0 : Int32)), .val (.int (1 : Int32)), .unset] [(.int (0 : Int32))]) _
              refine own_go (fun _ => XS.ifYes X0.here hx rfl (pc0 := 175) (pc' := 247) rfl (hb hby d1_175) rfl ((if0 _ _).trans (teq (show (0 : Int32) = (0 : Int32) from by decide)).1) (by decide) (by decide)) ?_
              show own_Ends p e below s₁ (mkF m 247 #[.val (.ref a), .val (.int s_), .val (.int en), .val (.int ld), .val (.int (2 : Int32)), .val (.int (128 : Int32)), .val (.int (159 : Int32)), .val (.int (0 : Int32)), .val (.int (1 : Int32)), .unset] []) _
              refine own_go (fun _ => XS.iload X0.here hx rfl (hb hby d1_247) rfl) ?_
              show own_Ends p e below s₁ (mkF m 249 #[.val (.ref a), .val (.int s_), .val (.int en), .val (.int ld), .val (.int (2 : Int32)), .val (.int (128 : Int32)), .val (.int (159 : Int32)), .val (.int (0 : Int32)), .val (.int (1 : Int32)), .unset] [(.int (0 : Int32))]) _
              refine own_go (fun _ => XS.ifYes X0.here hx rfl (pc0 := 249) (pc' := 261) rfl (hb hby d1_249) rfl ((if0 _ _).trans (teq (show (0 : Int32) = (0 : Int32) from by decide)).1) (by decide) (by decide)) ?_
              show own_Ends p e below s₁ (mkF m 261 #[.val (.ref a), .val (.int s_), .val (.int en), .val (.int ld), .val (.int (2 : Int32)), .val (.int (128 : Int32)), .val (.int (159 : Int32)), .val (.int (0 : Int32)), .val (.int (1 : Int32)), .unset] []) _
              refine own_go (fun _ => XS.iconst X0.here hx rfl (hb hby d1_261)) ?_
              obtain ⟨fs, hr, hrun, hended, hW, hsame⟩ := X0.leave (v := some (.int (-1 : Int32))) (fun h => by rw [Bd.returns] at h; cases h)
              refine ⟨_, _, retI X0 hx Bd.returns (hb hby d1_262) hr, hrun, hended, _, _, rfl, ?_, ⟨_, rfl⟩, hW, hsame.mono (by decide) (by decide)⟩
              show Q_rmSeq Z a s_ en kl vs t_0 t_1 t_2 t_3 ld c1 c2 c3 h0 n0 _ s₁.heap _
              rw [e0]
              refine ⟨_, rfl, ?_, N0, rfl⟩
              obtain ⟨z1, z2, z3, z4, z5, z6⟩ := own_s s_ hs
              have t0 := (not_congr (own_ltC (194) (by decide))).mp kc0
              have t1 := (not_congr (own_ltC (224) (by decide))).mp kc1
              have t2 := (not_congr (own_ltC (225) (by decide))).mp kc2
              have t3 := (not_congr (own_ltC (237) (by decide))).mp kc3
              have t4 := (own_ltC (238) (by decide)).mp kc4
              have t5 := (not_congr (own_lt2)).mp hc160
              have y0 := own_sh c2
              have y1 := own_sh c3
              exact own_A0 (by unfold own_P1; omega) (by unfold own_P2; omega) (by unfold own_P3; omega)
          · by_cases kc5 : ld < (240 : Int32)
            · refine own_go (fun _ => XS.iloadN X0.here hx rfl (hb hby d1_21) rfl) ?_
              refine own_go (fun _ => XS.sipush X0.here hx rfl (hb hby d1_22)) ?_
              show own_Ends p e below s₁ (mkF m 25 #[.val (.ref a), .val (.int s_), .val (.int en), .val (.int ld), .val (.int (0 : Int32)), .val (.int (128 : Int32)), .val (.int (191 : Int32)), .unset, .unset, .unset] [(.int (194 : Int32)), (.int ld)]) _
              refine own_go (fun _ => XS.icmpNo X0.here hx rfl (hb hby d1_25) rfl (flt (show ¬ (ld < (194 : Int32)) from own_nlt kc4 (by decide))).1) ?_
              show own_Ends p e below s₁ (mkF m 28 #[.val (.ref a), .val (.int s_), .val (.int en), .val (.int ld), .val (.int (0 : Int32)), .val (.int (128 : Int32)), .val (.int (191 : Int32)), .unset, .unset, .unset] []) _
              refine own_go (fun _ => XS.iloadN X0.here hx rfl (hb hby d1_28) rfl) ?_
              refine own_go (fun _ => XS.sipush X0.here hx rfl (hb hby d1_29)) ?_
              show own_Ends p e below s₁ (mkF m 32 #[.val (.ref a), .val (.int s_), .val (.int en), .val (.int ld), .val (.int (0 : Int32)), .val (.int (128 : Int32)), .val (.int (191 : Int32)), .unset, .unset, .unset] [(.int (223 : Int32)), (.int ld)]) _
              refine own_go (fun _ => XS.icmpYes X0.here hx rfl (pc0 := 32) (pc' := 41) rfl (hb hby d1_32) rfl (tlt (show (223 : Int32) < ld from own_gt kc4 (by decide))).2.2.1 (by decide) (by decide)) ?_
              show own_Ends p e below s₁ (mkF m 41 #[.val (.ref a), .val (.int s_), .val (.int en), .val (.int ld), .val (.int (0 : Int32)), .val (.int (128 : Int32)), .val (.int (191 : Int32)), .unset, .unset, .unset] []) _
              refine own_go (fun _ => XS.iloadN X0.here hx rfl (hb hby d1_41) rfl) ?_
              refine own_go (fun _ => XS.sipush X0.here hx rfl (hb hby d1_42)) ?_
              show own_Ends p e below s₁ (mkF m 45 #[.val (.ref a), .val (.int s_), .val (.int en), .val (.int ld), .val (.int (0 : Int32)), .val (.int (128 : Int32)), .val (.int (191 : Int32)), .unset, .unset, .unset] [(.int (224 : Int32)), (.int ld)]) _
              refine own_go (fun _ => XS.icmpNo X0.here hx rfl (hb hby d1_45) rfl (flt (show ¬ (ld < (224 : Int32)) from own_nlt kc4 (by decide))).1) ?_
              show own_Ends p e below s₁ (mkF m 48 #[.val (.ref a), .val (.int s_), .val (.int en), .val (.int ld), .val (.int (0 : Int32)), .val (.int (128 : Int32)), .val (.int (191 : Int32)), .unset, .unset, .unset] []) _
              refine own_go (fun _ => XS.iloadN X0.here hx rfl (hb hby d1_48) rfl) ?_
              refine own_go (fun _ => XS.sipush X0.here hx rfl (hb hby d1_49)) ?_
              show own_Ends p e below s₁ (mkF m 52 #[.val (.ref a), .val (.int s_), .val (.int en), .val (.int ld), .val (.int (0 : Int32)), .val (.int (128 : Int32)), .val (.int (191 : Int32)), .unset, .unset, .unset] [(.int (239 : Int32)), (.int ld)]) _
              refine own_go (fun _ => XS.icmpNo X0.here hx rfl (hb hby d1_52) rfl (flt (show ¬ ((239 : Int32) < ld) from own_ngt kc5 (by decide))).2.2.1) ?_
              show own_Ends p e below s₁ (mkF m 55 #[.val (.ref a), .val (.int s_), .val (.int en), .val (.int ld), .val (.int (0 : Int32)), .val (.int (128 : Int32)), .val (.int (191 : Int32)), .unset, .unset, .unset] []) _
              refine own_go (fun _ => XS.iconst X0.here hx rfl (hb hby d1_55)) ?_
              refine own_go (fun _ => XS.istore X0.here hx rfl (hb hby d1_56) rfl (l' := #[.val (.ref a), .val (.int s_), .val (.int en), .val (.int ld), .val (.int (2 : Int32)), .val (.int (128 : Int32)), .val (.int (191 : Int32)), .unset, .unset, .unset]) rfl) ?_
              show own_Ends p e below s₁ (mkF m 58 #[.val (.ref a), .val (.int s_), .val (.int en), .val (.int ld), .val (.int (2 : Int32)), .val (.int (128 : Int32)), .val (.int (191 : Int32)), .unset, .unset, .unset] []) _
              refine own_go (fun _ => XS.iloadN X0.here hx rfl (hb hby d1_58) rfl) ?_
              refine own_go (fun _ => XS.sipush X0.here hx rfl (hb hby d1_59)) ?_
              show own_Ends p e below s₁ (mkF m 62 #[.val (.ref a), .val (.int s_), .val (.int en), .val (.int ld), .val (.int (2 : Int32)), .val (.int (128 : Int32)), .val (.int (191 : Int32)), .unset, .unset, .unset] [(.int (224 : Int32)), (.int ld)]) _
              refine own_go (fun _ => XS.icmpYes X0.here hx rfl (pc0 := 62) (pc' := 71) rfl (hb hby d1_62) rfl (feq (show ¬ (ld = (224 : Int32)) from own_ne1 kc4 (by decide))).2 (by decide) (by decide)) ?_
              show own_Ends p e below s₁ (mkF m 71 #[.val (.ref a), .val (.int s_), .val (.int en), .val (.int ld), .val (.int (2 : Int32)), .val (.int (128 : Int32)), .val (.int (191 : Int32)), .unset, .unset, .unset] []) _
              refine own_go (fun _ => XS.sipush X0.here hx rfl (hb hby d1_71)) ?_
              refine own_go (fun _ => XS.istore X0.here hx rfl (hb hby d1_74) rfl (l' := #[.val (.ref a), .val (.int s_), .val (.int en), .val (.int ld), .val (.int (2 : Int32)), .val (.int (128 : Int32)), .val (.int (191 : Int32)), .unset, .unset, .unset]) rfl) ?_
              show own_Ends p e below s₁ (mkF m 76 #[.val (.ref a), .val (.int s_), .val (.int en), .val (.int ld), .val (.int (2 : Int32)), .val (.int (128 : Int32)), .val (.int (191 : Int32)), .unset, .unset, .unset] []) _
              refine own_go (fun _ => XS.iloadN X0.here hx rfl (hb hby d1_76) rfl) ?_
              refine own_go (fun _ => XS.sipush X0.here hx rfl (hb hby d1_77)) ?_
              show own_Ends p e below s₁ (mkF m 80 #[.val (.ref a), .val (.int s_), .val (.int en), .val (.int ld), .val (.int (2 : Int32)), .val (.int (128 : Int32)), .val (.int (191 : Int32)), .unset, .unset, .unset] [(.int (237 : Int32)), (.int ld)]) _
              refine own_go (fun _ => XS.icmpYes X0.here hx rfl (pc0 := 80) (pc' := 89) rfl (hb hby d1_80) rfl (feq (show ¬ (ld = (237 : Int32)) from own_ne1 kc4 (by decide))).2 (by decide) (by decide)) ?_
              show own_Ends p e below s₁ (mkF m 89 #[.val (.ref a), .val (.int s_), .val (.int en), .val (.int ld), .val (.int (2 : Int32)), .val (.int (128 : Int32)), .val (.int (191 : Int32)), .unset, .unset, .unset] []) _
              refine own_go (fun _ => XS.sipush X0.here hx rfl (hb hby d1_89)) ?_
              refine own_go (fun _ => XS.istore X0.here hx rfl (hb hby d1_92) rfl (l' := #[.val (.ref a), .val (.int s_), .val (.int en), .val (.int ld), .val (.int (2 : Int32)), .val (.int (128 : Int32)), .val (.int (191 : Int32)), .unset, .unset, .unset]) rfl) ?_
              show own_Ends p e below s₁ (mkF m 94 #[.val (.ref a), .val (.int s_), .val (.int en), .val (.int ld), .val (.int (2 : Int32)), .val (.int (128 : Int32)), .val (.int (191 : Int32)), .unset, .unset, .unset] []) _
              refine own_go (fun _ => XS.goto X0.here hx rfl (pc0 := 94) (pc' := 150) rfl (hb hby d1_94) (by decide) (by decide)) ?_
              refine own_go (fun _ => XS.iload X0.here hx rfl (hb hby d1_150) rfl) ?_
              show own_Ends p e below s₁ (mkF m 152 #[.val (.ref a), .val (.int s_), .val (.int en), .val (.int ld), .val (.int (2 : Int32)), .val (.int (128 : Int32)), .val (.int (191 : Int32)), .unset, .unset, .unset] [(.int (2 : Int32))]) _
              refine own_go (fun _ => XS.ifNo X0.here hx rfl (hb hby d1_152) rfl ((if0 _ _).trans (tlt (show (0 : Int32) < (2 : Int32) from by decide)).2.2.2)) ?_
              show own_Ends p e below s₁ (mkF m 155 #[.val (.ref a), .val (.int s_), .val (.int en), .val (.int ld), .val (.int (2 : Int32)), .val (.int (128 : Int32)), .val (.int (191 : Int32)), .unset, .unset, .unset] []) _
              refine own_go (fun _ => XS.iloadN X0.here hx rfl (hb hby d1_155) rfl) ?_
              refine own_go (fun _ => XS.iload X0.here hx rfl (hb hby d1_156) rfl) ?_
              refine own_go (fun _ => XS.iadd X0.here hx rfl (hb hby d1_158) rfl) ?_
              show own_Ends p e below s₁ (mkF m 159 #[.val (.ref a), .val (.int s_), .val (.int en), .val (.int ld), .val (.int (2 : Int32)), .val (.int (128 : Int32)), .val (.int (191 : Int32)), .unset, .unset, .unset] [(.int (s_ + (2 : Int32)))]) _
              refine own_go (fun _ => XS.iloadN X0.here hx rfl (hb hby d1_159) rfl) ?_
              show own_Ends p e below s₁ (mkF m 160 #[.val (.ref a), .val (.int s_), .val (.int en), .val (.int ld), .val (.int (2 : Int32)), .val (.int (128 : Int32)), .val (.int (191 : Int32)), .unset, .unset, .unset] [(.int en), (.int (s_ + (2 : Int32)))]) _
              by_cases hc160 : (s_ + (2 : Int32)) < en
              · refine own_go (fun _ => XS.icmpNo X0.here hx rfl (hb hby d1_160) rfl (tlt hc160).2.1) ?_
                show own_Ends p e below s₁ (mkF m 163 #[.val (.ref a), .val (.int s_), .val (.int en), .val (.int ld), .val (.int (2 : Int32)), .val (.int (128 : Int32)), .val (.int (191 : Int32)), .unset, .unset, .unset] []) _
                refine own_go (fun _ => XS.iconst X0.here hx rfl (hb hby d1_163)) ?_
                refine own_go (fun _ => XS.goto X0.here hx rfl (pc0 := 164) (pc' := 168) rfl (hb hby d1_164) (by decide) (by decide)) ?_
                refine own_go (fun _ => XS.istore X0.here hx rfl (hb hby d1_168) rfl (l' := #[.val (.ref a), .val (.int s_), .val (.int en), .val (.int ld), .val (.int (2 : Int32)), .val (.int (128 : Int32)), .val (.int (191 : Int32)), .val (.int (1 : Int32)), .unset, .unset]) rfl) ?_
                show own_Ends p e below s₁ (mkF m 170 #[.val (.ref a), .val (.int s_), .val (.int en), .val (.int ld), .val (.int (2 : Int32)), .val (.int (128 : Int32)), .val (.int (191 : Int32)), .val (.int (1 : Int32)), .unset, .unset] []) _
                refine own_go (fun _ => XS.iconst X0.here hx rfl (hb hby d1_170)) ?_
                refine own_go (fun _ => XS.istore X0.here hx rfl (hb hby d1_171) rfl (l' := #[.val (.ref a), .val (.int s_), .val (.int en), .val (.int ld), .val (.int (2 : Int32)), .val (.int (128 : Int32)), .val (.int (191 : Int32)), .val (.int (1 : Int32)), .val (.int (1 : Int32)), .unset]) rfl) ?_
                show own_Ends p e below s₁ (mkF m 173 #[.val (.ref a), .val (.int s_), .val (.int en), .val (.int ld), .val (.int (2 : Int32)), .val (.int (128 : Int32)), .val (.int (191 : Int32)), .val (.int (1 : Int32)), .val (.int (1 : Int32)), .unset] []) _
                refine own_go (fun _ => XS.iload X0.here hx rfl (hb hby d1_173) rfl) ?_
                show own_Ends p e below s₁ (mkF m 175 #[.val (.ref a), .val (.int s_), .val (.int en), .val (.int ld), .val (.int (2 : Int32)), .val (.int (128 : Int32)), .val (.int (191 : Int32)), .val (.int (1 : Int32)), .val (.int (1 : Int32)), .unset] [(.int (1 : Int32))]) _
                refine own_go (fun _ => XS.ifNo X0.here hx rfl (hb hby d1_175) rfl ((if0 _ _).trans (feq (show ¬ ((1 : Int32) = (0 : Int32)) from by decide)).1)) ?_
                show own_Ends p e below s₁ (mkF m 178 #[.val (.ref a), .val (.int s_), .val (.int en), .val (.int ld), .val (.int (2 : Int32)), .val (.int (128 : Int32)), .val (.int (191 : Int32)), .val (.int (1 : Int32)), .val (.int (1 : Int32)), .unset] []) _
                refine own_go (fun _ => XS.iload X0.here hx rfl (hb hby d1_178) rfl) ?_
                refine own_go (fun _ => XS.iload X0.here hx rfl (hb hby d1_180) rfl) ?_
                show own_Ends p e below s₁ (mkF m 182 #[.val (.ref a), .val (.int s_), .val (.int en), .val (.int ld), .val (.int (2 : Int32)), .val (.int (128 : Int32)), .val (.int (191 : Int32)), .val (.int (1 : Int32)), .val (.int (1 : Int32)), .unset] [(.int (2 : Int32)), (.int (1 : Int32))]) _
                refine own_go (fun _ => XS.icmpNo X0.here hx rfl (hb hby d1_182) rfl (flt (show ¬ ((2 : Int32) < (1 : Int32)) from by decide)).2.2.1) ?_
                show own_Ends p e below s₁ (mkF m 185 #[.val (.ref a), .val (.int s_), .val (.int en), .val (.int ld), .val (.int (2 : Int32)), .val (.int (128 : Int32)), .val (.int (191 : Int32)), .val (.int (1 : Int32)), .val (.int (1 : Int32)), .unset] []) _
                refine own_go (fun _ => XS.aloadN X0.here hx rfl (hb hby d1_185) rfl rfl) ?_
                refine own_go (fun _ => XS.iloadN X0.here hx rfl (hb hby d1_186) rfl) ?_
                refine own_go (fun _ => XS.iload X0.here hx rfl (hb hby d1_187) rfl) ?_
                refine own_go (fun _ => XS.iadd X0.here hx rfl (hb hby d1_189) rfl) ?_
                show own_Ends p e below s₁ (mkF m 190 #[.val (.ref a), .val (.int s_), .val (.int en), .val (.int ld), .val (.int (2 : Int32)), .val (.int (128 : Int32)), .val (.int (191 : Int32)), .val (.int (1 : Int32)), .val (.int (1 : Int32)), .unset] [(.int (s_ + (1 : Int32))), (.ref a)]) _
                obtain ⟨cl_9, Ar_9, q_9, S_9, M_9, H_9, G_9⟩ := V_a_r1
                have hin9 : ¬ ((s_ + (1 : Int32)) < 0 ∨ cl_9.slots.size ≤ ((s_ + (1 : Int32))).toNatClampNeg) := inb_of S_9 (own_in s_ hs).2.1
                have hat9 : cl_9.slots[((s_ + (1 : Int32))).toNatClampNeg]? = some (.int t_1) := Has.at H_9 hin9 (hva1)
                refine own_go (X0.baloadBytes hx (j := (s_ + (1 : Int32))) (v := (.int t_1)) (by rw [e0]; exact Ar_9.1) (State.isArrayOf_alike hZ.alike Ar_9.2.1) Ar_9.2.2 hin9 hat9 (g := (mkF m 190 #[.val (.ref a), .val (.int s_), .val (.int en), .val (.int ld), .val (.int (2 : Int32)), .val (.int (128 : Int32)), .val (.int (191 : Int32)), .val (.int (1 : Int32)), .val (.int (1 : Int32)), .unset] [(.int (s_ + (1 : Int32))), (.ref a)])) rfl rfl (hb hby d1_190)) ?_
                have V_a_r9 : Arv Z h0 a kl .byte (6 : Int32) vs (.int (0 : Int32)) := ⟨cl_9, Ar_9, q_9, S_9, M_9, H_9, G_9⟩
                show own_Ends p e below s₁ (mkF m 191 #[.val (.ref a), .val (.int s_), .val (.int en), .val (.int ld), .val (.int (2 : Int32)), .val (.int (128 : Int32)), .val (.int (191 : Int32)), .val (.int (1 : Int32)), .val (.int (1 : Int32)), .unset] [(.int t_1)]) _
                refine own_go (fun _ => XS.sipush X0.here hx rfl (hb hby d1_191)) ?_
                refine own_go (fun _ => XS.iand X0.here hx rfl (hb hby d1_194) rfl) ?_
                show own_Ends p e below s₁ (mkF m 195 #[.val (.ref a), .val (.int s_), .val (.int en), .val (.int ld), .val (.int (2 : Int32)), .val (.int (128 : Int32)), .val (.int (191 : Int32)), .val (.int (1 : Int32)), .val (.int (1 : Int32)), .unset] [(.int (t_1 &&& (255 : Int32)))]) _
                refine own_go (fun _ => XS.istore X0.here hx rfl (hb hby d1_195) rfl (l' := #[.val (.ref a), .val (.int s_), .val (.int en), .val (.int ld), .val (.int (2 : Int32)), .val (.int (128 : Int32)), .val (.int (191 : Int32)), .val (.int (1 : Int32)), .val (.int (1 : Int32)), .val (.int (t_1 &&& (255 : Int32)))]) rfl) ?_
                show own_Ends p e below s₁ (mkF m 197 #[.val (.ref a), .val (.int s_), .val (.int en), .val (.int ld), .val (.int (2 : Int32)), .val (.int (128 : Int32)), .val (.int (191 : Int32)), .val (.int (1 : Int32)), .val (.int (1 : Int32)), .val (.int (t_1 &&& (255 : Int32)))] []) _
                rw [hl1]
                show own_Ends p e below s₁ (mkF m 197 #[.val (.ref a), .val (.int s_), .val (.int en), .val (.int ld), .val (.int (2 : Int32)), .val (.int (128 : Int32)), .val (.int (191 : Int32)), .val (.int (1 : Int32)), .val (.int (1 : Int32)), .val (.int c1)] []) _
                refine own_go (fun _ => XS.iload X0.here hx rfl (hb hby d1_197) rfl) ?_
                refine own_go (fun _ => XS.iconst X0.here hx rfl (hb hby d1_199)) ?_
                show own_Ends p e below s₁ (mkF m 200 #[.val (.ref a), .val (.int s_), .val (.int en), .val (.int ld), .val (.int (2 : Int32)), .val (.int (128 : Int32)), .val (.int (191 : Int32)), .val (.int (1 : Int32)), .val (.int (1 : Int32)), .val (.int c1)] [(.int (1 : Int32)), (.int (1 : Int32))]) _
                refine own_go (fun _ => XS.icmpNo X0.here hx rfl (hb hby d1_200) rfl (teq (show (1 : Int32) = (1 : Int32) from by decide)).2) ?_
                show own_Ends p e below s₁ (mkF m 203 #[.val (.ref a), .val (.int s_), .val (.int en), .val (.int ld), .val (.int (2 : Int32)), .val (.int (128 : Int32)), .val (.int (191 : Int32)), .val (.int (1 : Int32)), .val (.int (1 : Int32)), .val (.int c1)] []) _
                refine own_go (fun _ => XS.iload X0.here hx rfl (hb hby d1_203) rfl) ?_
                refine own_go (fun _ => XS.iload X0.here hx rfl (hb hby d1_205) rfl) ?_
                show own_Ends p e below s₁ (mkF m 207 #[.val (.ref a), .val (.int s_), .val (.int en), .val (.int ld), .val (.int (2 : Int32)), .val (.int (128 : Int32)), .val (.int (191 : Int32)), .val (.int (1 : Int32)), .val (.int (1 : Int32)), .val (.int c1)] [(.int (128 : Int32)), (.int c1)]) _
                by_cases hc207 : c1 < (128 : Int32)
                · refine own_go (fun _ => XS.icmpYes X0.here hx rfl (pc0 := 207) (pc' := 221) rfl (hb hby d1_207) rfl (tlt hc207).1 (by decide) (by decide)) ?_
                  show own_Ends p e below s₁ (mkF m 221 #[.val (.ref a), .val (.int s_), .val (.int en), .val (.int ld), .val (.int (2 : Int32)), .val (.int (128 : Int32)), .val (.int (191 : Int32)), .val (.int (1 : Int32)), .val (.int (1 : Int32)), .val (.int c1)] []) _
                  refine own_go (fun _ => XS.iconst X0.here hx rfl (hb hby d1_221)) ?_
                  refine own_go (fun _ => XS.goto X0.here hx rfl (pc0 := 222) (pc' := 239) rfl (hb hby d1_222) (by decide) (by decide)) ?_
                  refine own_go (fun _ => XS.istore X0.here hx rfl (hb hby d1_239) rfl (l' := #[.val (.ref a), .val (.int s_), .val (.int en), .val (.int ld), .val (.int (2 : Int32)), .val (.int (128 : Int32)), .val (.int (191 : Int32)), .val (.int (0 : Int32)), .val (.int (1 : Int32)), .val (.int c1)]) rfl) ?_
                  show own_Ends p e below s₁ (mkF m 241 #[.val (.ref a), .val (.int s_), .val (.int en), .val (.int ld), .val (.int (2 : Int32)), .val (.int (128 : Int32)), .val (.int (191 : Int32)), .val (.int (0 : Int32)), .val (.int (1 : Int32)), .val (.int c1)] []) _
                  refine own_go (fun _ => XS.iinc X0.here hx rfl (hb hby d1_241) rfl (l' := #[.val (.ref a), .val (.int s_), .val (.int en), .val (.int ld), .val (.int (2 : Int32)), .val (.int (128 : Int32)), .val (.int (191 : Int32)), .val (.int (0 : Int32)), .val (.int (2 : Int32)), .val (.int c1)]) rfl) ?_
                  show own_Ends p e below s₁ (mkF m 244 #[.val (.ref a), .val (.int s_), .val (.int en), .val (.int ld), .val (.int (2 : Int32)), .val (.int (128 : Int32)), .val (.int (191 : Int32)), .val (.int (0 : Int32)), .val (.int (2 : Int32)), .val (.int c1)] []) _
                  refine own_go (fun _ => XS.goto X0.here hx rfl (pc0 := 244) (pc' := 173) rfl (hb hby d1_244) (by decide) (by decide)) ?_
                  refine own_go (fun _ => XS.iload X0.here hx rfl (hb hby d1_173) rfl) ?_
                  show own_Ends p e below s₁ (mkF m 175 #[.val (.ref a), .val (.int s_), .val (.int en), .val (.int ld), .val (.int (2 : Int32)), .val (.int (128 : Int32)), .val (.int (191 : Int32)), .val (.int (0 : Int32)), .val (.int (2 : Int32)), .val (.int c1)] [(.int (0 : Int32))]) _
                  refine own_go (fun _ => XS.ifYes X0.here hx rfl (pc0 := 175) (pc' := 247) rfl (hb hby d1_175) rfl ((if0 _ _).trans (teq (show (0 : Int32) = (0 : Int32) from by decide)).1) (by decide) (by decide)) ?_
                  show own_Ends p e below s₁ (mkF m 247 #[.val (.ref a), .val (.int s_), .val (.int en), .val (.int ld), .val (.int (2 : Int32)), .val (.int (128 : Int32)), .val (.int (191 : Int32)), .val (.int (0 : Int32)), .val (.int (2 : Int32)), .val (.int c1)] []) _
                  refine own_go (fun _ => XS.iload X0.here hx rfl (hb hby d1_247) rfl) ?_
                  show own_Ends p e below s₁ (mkF m 249 #[.val (.ref a), .val (.int s_), .val (.int en), .val (.int ld), .val (.int (2 : Int32)), .val (.int (128 : Int32)), .val (.int (191 : Int32)), .val (.int (0 : Int32)), .val (.int (2 : Int32)), .val (.int c1)] [(.int (0 : Int32))]) _
                  refine own_go (fun _ => XS.ifYes X0.here hx rfl (pc0 := 249) (pc' := 261) rfl (hb hby d1_249) rfl ((if0 _ _).trans (teq (show (0 : Int32) = (0 : Int32) from by decide)).1) (by decide) (by decide)) ?_
                  show own_Ends p e below s₁ (mkF m 261 #[.val (.ref a), .val (.int s_), .val (.int en), .val (.int ld), .val (.int (2 : Int32)), .val (.int (128 : Int32)), .val (.int (191 : Int32)), .val (.int (0 : Int32)), .val (.int (2 : Int32)), .val (.int c1)] []) _
                  refine own_go (fun _ => XS.iconst X0.here hx rfl (hb hby d1_261)) ?_
                  obtain ⟨fs, hr, hrun, hended, hW, hsame⟩ := X0.leave (v := some (.int (-1 : Int32))) (fun h => by rw [Bd.returns] at h; cases h)
                  refine ⟨_, _, retI X0 hx Bd.returns (hb hby d1_262) hr, hrun, hended, _, _, rfl, ?_, ⟨_, rfl⟩, hW, hsame.mono (by decide) (by decide)⟩
                  show Q_rmSeq Z a s_ en kl vs t_0 t_1 t_2 t_3 ld c1 c2 c3 h0 n0 _ s₁.heap _
                  rw [e0]
                  refine ⟨_, rfl, ?_, N0, rfl⟩
                  obtain ⟨z1, z2, z3, z4, z5, z6⟩ := own_s s_ hs
                  have t0 := (not_congr (own_ltC (194) (by decide))).mp kc0
                  have t1 := (not_congr (own_ltC (224) (by decide))).mp kc1
                  have t2 := (not_congr (own_ltC (225) (by decide))).mp kc2
                  have t3 := (not_congr (own_ltC (237) (by decide))).mp kc3
                  have t4 := (not_congr (own_ltC (238) (by decide))).mp kc4
                  have t5 := (own_ltC (240) (by decide)).mp kc5
                  have t6 := (own_lt2).mp hc160
                  have t7 := (own_ltC (128) (by decide)).mp hc207
                  have y0 := own_sh c2
                  have y1 := own_sh c3
                  exact own_A0 (by unfold own_P1; omega) (by unfold own_P2; omega) (by unfold own_P3; omega)
                · refine own_go (fun _ => XS.icmpNo X0.here hx rfl (hb hby d1_207) rfl (flt hc207).1) ?_
                  show own_Ends p e below s₁ (mkF m 210 #[.val (.ref a), .val (.int s_), .val (.int en), .val (.int ld), .val (.int (2 : Int32)), .val (.int (128 : Int32)), .val (.int (191 : Int32)), .val (.int (1 : Int32)), .val (.int (1 : Int32)), .val (.int c1)] []) _
                  refine own_go (fun _ => XS.iload X0.here hx rfl (hb hby d1_210) rfl) ?_
                  refine own_go (fun _ => XS.iload X0.here hx rfl (hb hby d1_212) rfl) ?_
                  show own_Ends p e below s₁ (mkF m 214 #[.val (.ref a), .val (.int s_), .val (.int en), .val (.int ld), .val (.int (2 : Int32)), .val (.int (128 : Int32)), .val (.int (191 : Int32)), .val (.int (1 : Int32)), .val (.int (1 : Int32)), .val (.int c1)] [(.int (191 : Int32)), (.int c1)]) _
                  by_cases hc214 : (191 : Int32) < c1
                  · refine own_go (fun _ => XS.icmpYes X0.here hx rfl (pc0 := 214) (pc' := 221) rfl (hb hby d1_214) rfl (tlt hc214).2.2.1 (by decide) (by decide)) ?_
                    show own_Ends p e below s₁ (mkF m 221 #[.val (.ref a), .val (.int s_), .val (.int en), .val (.int ld), .val (.int (2 : Int32)), .val (.int (128 : Int32)), .val (.int (191 : Int32)), .val (.int (1 : Int32)), .val (.int (1 : Int32)), .val (.int c1)] []) _
                    refine own_go (fun _ => XS.iconst X0.here hx rfl (hb hby d1_221)) ?_
                    refine own_go (fun _ => XS.goto X0.here hx rfl (pc0 := 222) (pc' := 239) rfl (hb hby d1_222) (by decide) (by decide)) ?_
                    refine own_go (fun _ => XS.istore X0.here hx rfl (hb hby d1_239) rfl (l' := #[.val (.ref a), .val (.int s_), .val (.int en), .val (.int ld), .val (.int (2 : Int32)), .val (.int (128 : Int32)), .val (.int (191 : Int32)), .val (.int (0 : Int32)), .val (.int (1 : Int32)), .val (.int c1)]) rfl) ?_
                    show own_Ends p e below s₁ (mkF m 241 #[.val (.ref a), .val (.int s_), .val (.int en), .val (.int ld), .val (.int (2 : Int32)), .val (.int (128 : Int32)), .val (.int (191 : Int32)), .val (.int (0 : Int32)), .val (.int (1 : Int32)), .val (.int c1)] []) _
                    refine own_go (fun _ => XS.iinc X0.here hx rfl (hb hby d1_241) rfl (l' := #[.val (.ref a), .val (.int s_), .val (.int en), .val (.int ld), .val (.int (2 : Int32)), .val (.int (128 : Int32)), .val (.int (191 : Int32)), .val (.int (0 : Int32)), .val (.int (2 : Int32)), .val (.int c1)]) rfl) ?_
                    show own_Ends p e below s₁ (mkF m 244 #[.val (.ref a), .val (.int s_), .val (.int en), .val (.int ld), .val (.int (2 : Int32)), .val (.int (128 : Int32)), .val (.int (191 : Int32)), .val (.int (0 : Int32)), .val (.int (2 : Int32)), .val (.int c1)] []) _
                    refine own_go (fun _ => XS.goto X0.here hx rfl (pc0 := 244) (pc' := 173) rfl (hb hby d1_244) (by decide) (by decide)) ?_
                    refine own_go (fun _ => XS.iload X0.here hx rfl (hb hby d1_173) rfl) ?_
                    show own_Ends p e below s₁ (mkF m 175 #[.val (.ref a), .val (.int s_), .val (.int en), .val (.int ld), .val (.int (2 : Int32)), .val (.int (128 : Int32)), .val (.int (191 : Int32)), .val (.int (0 : Int32)), .val (.int (2 : Int32)), .val (.int c1)] [(.int (0 : Int32))]) _
                    refine own_go (fun _ => XS.ifYes X0.here hx rfl (pc0 := 175) (pc' := 247) rfl (hb hby d1_175) rfl ((if0 _ _).trans (teq (show (0 : Int32) = (0 : Int32) from by decide)).1) (by decide) (by decide)) ?_
                    show own_Ends p e below s₁ (mkF m 247 #[.val (.ref a), .val (.int s_), .val (.int en), .val (.int ld), .val (.int (2 : Int32)), .val (.int (128 : Int32)), .val (.int (191 : Int32)), .val (.int (0 : Int32)), .val (.int (2 : Int32)), .val (.int c1)] []) _
                    refine own_go (fun _ => XS.iload X0.here hx rfl (hb hby d1_247) rfl) ?_
                    show own_Ends p e below s₁ (mkF m 249 #[.val (.ref a), .val (.int s_), .val (.int en), .val (.int ld), .val (.int (2 : Int32)), .val (.int (128 : Int32)), .val (.int (191 : Int32)), .val (.int (0 : Int32)), .val (.int (2 : Int32)), .val (.int c1)] [(.int (0 : Int32))]) _
                    refine own_go (fun _ => XS.ifYes X0.here hx rfl (pc0 := 249) (pc' := 261) rfl (hb hby d1_249) rfl ((if0 _ _).trans (teq (show (0 : Int32) = (0 : Int32) from by decide)).1) (by decide) (by decide)) ?_
                    show own_Ends p e below s₁ (mkF m 261 #[.val (.ref a), .val (.int s_), .val (.int en), .val (.int ld), .val (.int (2 : Int32)), .val (.int (128 : Int32)), .val (.int (191 : Int32)), .val (.int (0 : Int32)), .val (.int (2 : Int32)), .val (.int c1)] []) _
                    refine own_go (fun _ => XS.iconst X0.here hx rfl (hb hby d1_261)) ?_
                    obtain ⟨fs, hr, hrun, hended, hW, hsame⟩ := X0.leave (v := some (.int (-1 : Int32))) (fun h => by rw [Bd.returns] at h; cases h)
                    refine ⟨_, _, retI X0 hx Bd.returns (hb hby d1_262) hr, hrun, hended, _, _, rfl, ?_, ⟨_, rfl⟩, hW, hsame.mono (by decide) (by decide)⟩
                    show Q_rmSeq Z a s_ en kl vs t_0 t_1 t_2 t_3 ld c1 c2 c3 h0 n0 _ s₁.heap _
                    rw [e0]
                    refine ⟨_, rfl, ?_, N0, rfl⟩
                    obtain ⟨z1, z2, z3, z4, z5, z6⟩ := own_s s_ hs
                    have t0 := (not_congr (own_ltC (194) (by decide))).mp kc0
                    have t1 := (not_congr (own_ltC (224) (by decide))).mp kc1
                    have t2 := (not_congr (own_ltC (225) (by decide))).mp kc2
                    have t3 := (not_congr (own_ltC (237) (by decide))).mp kc3
                    have t4 := (not_congr (own_ltC (238) (by decide))).mp kc4
                    have t5 := (own_ltC (240) (by decide)).mp kc5
                    have t6 := (own_lt2).mp hc160
                    have t7 := (not_congr (own_ltC (128) (by decide))).mp hc207
                    have t8 := (own_Clt (191) (by decide)).mp hc214
                    have y0 := own_sh c2
                    have y1 := own_sh c3
                    exact own_A0 (by unfold own_P1; omega) (by unfold own_P2; omega) (by unfold own_P3; omega)
                  · refine own_go (fun _ => XS.icmpNo X0.here hx rfl (hb hby d1_214) rfl (flt hc214).2.2.1) ?_
                    show own_Ends p e below s₁ (mkF m 217 #[.val (.ref a), .val (.int s_), .val (.int en), .val (.int ld), .val (.int (2 : Int32)), .val (.int (128 : Int32)), .val (.int (191 : Int32)), .val (.int (1 : Int32)), .val (.int (1 : Int32)), .val (.int c1)] []) _
                    refine own_go (fun _ => XS.iconst X0.here hx rfl (hb hby d1_217)) ?_
                    refine own_go (fun _ => XS.goto X0.here hx rfl (pc0 := 218) (pc' := 239) rfl (hb hby d1_218) (by decide) (by decide)) ?_
                    refine own_go (fun _ => XS.istore X0.here hx rfl (hb hby d1_239) rfl (l' := #[.val (.ref a), .val (.int s_), .val (.int en), .val (.int ld), .val (.int (2 : Int32)), .val (.int (128 : Int32)), .val (.int (191 : Int32)), .val (.int (1 : Int32)), .val (.int (1 : Int32)), .val (.int c1)]) rfl) ?_
                    show own_Ends p e below s₁ (mkF m 241 #[.val (.ref a), .val (.int s_), .val (.int en), .val (.int ld), .val (.int (2 : Int32)), .val (.int (128 : Int32)), .val (.int (191 : Int32)), .val (.int (1 : Int32)), .val (.int (1 : Int32)), .val (.int c1)] []) _
                    refine own_go (fun _ => XS.iinc X0.here hx rfl (hb hby d1_241) rfl (l' := #[.val (.ref a), .val (.int s_), .val (.int en), .val (.int ld), .val (.int (2 : Int32)), .val (.int (128 : Int32)), .val (.int (191 : Int32)), .val (.int (1 : Int32)), .val (.int (2 : Int32)), .val (.int c1)]) rfl) ?_
                    show own_Ends p e below s₁ (mkF m 244 #[.val (.ref a), .val (.int s_), .val (.int en), .val (.int ld), .val (.int (2 : Int32)), .val (.int (128 : Int32)), .val (.int (191 : Int32)), .val (.int (1 : Int32)), .val (.int (2 : Int32)), .val (.int c1)] []) _
                    refine own_go (fun _ => XS.goto X0.here hx rfl (pc0 := 244) (pc' := 173) rfl (hb hby d1_244) (by decide) (by decide)) ?_
                    refine own_go (fun _ => XS.iload X0.here hx rfl (hb hby d1_173) rfl) ?_
                    show own_Ends p e below s₁ (mkF m 175 #[.val (.ref a), .val (.int s_), .val (.int en), .val (.int ld), .val (.int (2 : Int32)), .val (.int (128 : Int32)), .val (.int (191 : Int32)), .val (.int (1 : Int32)), .val (.int (2 : Int32)), .val (.int c1)] [(.int (1 : Int32))]) _
                    refine own_go (fun _ => XS.ifNo X0.here hx rfl (hb hby d1_175) rfl ((if0 _ _).trans (feq (show ¬ ((1 : Int32) = (0 : Int32)) from by decide)).1)) ?_
                    show own_Ends p e below s₁ (mkF m 178 #[.val (.ref a), .val (.int s_), .val (.int en), .val (.int ld), .val (.int (2 : Int32)), .val (.int (128 : Int32)), .val (.int (191 : Int32)), .val (.int (1 : Int32)), .val (.int (2 : Int32)), .val (.int c1)] []) _
                    refine own_go (fun _ => XS.iload X0.here hx rfl (hb hby d1_178) rfl) ?_
                    refine own_go (fun _ => XS.iload X0.here hx rfl (hb hby d1_180) rfl) ?_
                    show own_Ends p e below s₁ (mkF m 182 #[.val (.ref a), .val (.int s_), .val (.int en), .val (.int ld), .val (.int (2 : Int32)), .val (.int (128 : Int32)), .val (.int (191 : Int32)), .val (.int (1 : Int32)), .val (.int (2 : Int32)), .val (.int c1)] [(.int (2 : Int32)), (.int (2 : Int32))]) _
                    refine own_go (fun _ => XS.icmpNo X0.here hx rfl (hb hby d1_182) rfl (flt (show ¬ ((2 : Int32) < (2 : Int32)) from by decide)).2.2.1) ?_
                    show own_Ends p e below s₁ (mkF m 185 #[.val (.ref a), .val (.int s_), .val (.int en), .val (.int ld), .val (.int (2 : Int32)), .val (.int (128 : Int32)), .val (.int (191 : Int32)), .val (.int (1 : Int32)), .val (.int (2 : Int32)), .val (.int c1)] []) _
                    refine own_go (fun _ => XS.aloadN X0.here hx rfl (hb hby d1_185) rfl rfl) ?_
                    refine own_go (fun _ => XS.iloadN X0.here hx rfl (hb hby d1_186) rfl) ?_
                    refine own_go (fun _ => XS.iload X0.here hx rfl (hb hby d1_187) rfl) ?_
                    refine own_go (fun _ => XS.iadd X0.here hx rfl (hb hby d1_189) rfl) ?_
                    show own_Ends p e below s₁ (mkF m 190 #[.val (.ref a), .val (.int s_), .val (.int en), .val (.int ld), .val (.int (2 : Int32)), .val (.int (128 : Int32)), .val (.int (191 : Int32)), .val (.int (1 : Int32)), .val (.int (2 : Int32)), .val (.int c1)] [(.int (s_ + (2 : Int32))), (.ref a)]) _
                    obtain ⟨cl_10, Ar_10, q_10, S_10, M_10, H_10, G_10⟩ := V_a_r9
                    have hin10 : ¬ ((s_ + (2 : Int32)) < 0 ∨ cl_10.slots.size ≤ ((s_ + (2 : Int32))).toNatClampNeg) := inb_of S_10 (own_in s_ hs).2.2.1
                    have hat10 : cl_10.slots[((s_ + (2 : Int32))).toNatClampNeg]? = some (.int t_2) := Has.at H_10 hin10 (hva2)
                    refine own_go (X0.baloadBytes hx (j := (s_ + (2 : Int32))) (v := (.int t_2)) (by rw [e0]; exact Ar_10.1) (State.isArrayOf_alike hZ.alike Ar_10.2.1) Ar_10.2.2 hin10 hat10 (g := (mkF m 190 #[.val (.ref a), .val (.int s_), .val (.int en), .val (.int ld), .val (.int (2 : Int32)), .val (.int (128 : Int32)), .val (.int (191 : Int32)), .val (.int (1 : Int32)), .val (.int (2 : Int32)), .val (.int c1)] [(.int (s_ + (2 : Int32))), (.ref a)])) rfl rfl (hb hby d1_190)) ?_
                    have V_a_r10 : Arv Z h0 a kl .byte (6 : Int32) vs (.int (0 : Int32)) := ⟨cl_10, Ar_10, q_10, S_10, M_10, H_10, G_10⟩
                    show own_Ends p e below s₁ (mkF m 191 #[.val (.ref a), .val (.int s_), .val (.int en), .val (.int ld), .val (.int (2 : Int32)), .val (.int (128 : Int32)), .val (.int (191 : Int32)), .val (.int (1 : Int32)), .val (.int (2 : Int32)), .val (.int c1)] [(.int t_2)]) _
                    refine own_go (fun _ => XS.sipush X0.here hx rfl (hb hby d1_191)) ?_
                    refine own_go (fun _ => XS.iand X0.here hx rfl (hb hby d1_194) rfl) ?_
                    show own_Ends p e below s₁ (mkF m 195 #[.val (.ref a), .val (.int s_), .val (.int en), .val (.int ld), .val (.int (2 : Int32)), .val (.int (128 : Int32)), .val (.int (191 : Int32)), .val (.int (1 : Int32)), .val (.int (2 : Int32)), .val (.int c1)] [(.int (t_2 &&& (255 : Int32)))]) _
                    refine own_go (fun _ => XS.istore X0.here hx rfl (hb hby d1_195) rfl (l' := #[.val (.ref a), .val (.int s_), .val (.int en), .val (.int ld), .val (.int (2 : Int32)), .val (.int (128 : Int32)), .val (.int (191 : Int32)), .val (.int (1 : Int32)), .val (.int (2 : Int32)), .val (.int (t_2 &&& (255 : Int32)))]) rfl) ?_
                    show own_Ends p e below s₁ (mkF m 197 #[.val (.ref a), .val (.int s_), .val (.int en), .val (.int ld), .val (.int (2 : Int32)), .val (.int (128 : Int32)), .val (.int (191 : Int32)), .val (.int (1 : Int32)), .val (.int (2 : Int32)), .val (.int (t_2 &&& (255 : Int32)))] []) _
                    rw [hl2]
                    show own_Ends p e below s₁ (mkF m 197 #[.val (.ref a), .val (.int s_), .val (.int en), .val (.int ld), .val (.int (2 : Int32)), .val (.int (128 : Int32)), .val (.int (191 : Int32)), .val (.int (1 : Int32)), .val (.int (2 : Int32)), .val (.int c2)] []) _
                    refine own_go (fun _ => XS.iload X0.here hx rfl (hb hby d1_197) rfl) ?_
                    refine own_go (fun _ => XS.iconst X0.here hx rfl (hb hby d1_199)) ?_
                    show own_Ends p e below s₁ (mkF m 200 #[.val (.ref a), .val (.int s_), .val (.int en), .val (.int ld), .val (.int (2 : Int32)), .val (.int (128 : Int32)), .val (.int (191 : Int32)), .val (.int (1 : Int32)), .val (.int (2 : Int32)), .val (.int c2)] [(.int (1 : Int32)), (.int (2 : Int32))]) _
                    refine own_go (fun _ => XS.icmpYes X0.here hx rfl (pc0 := 200) (pc' := 225) rfl (hb hby d1_200) rfl (feq (show ¬ ((2 : Int32) = (1 : Int32)) from by decide)).2 (by decide) (by decide)) ?_
                    show own_Ends p e below s₁ (mkF m 225 #[.val (.ref a), .val (.int s_), .val (.int en), .val (.int ld), .val (.int (2 : Int32)), .val (.int (128 : Int32)), .val (.int (191 : Int32)), .val (.int (1 : Int32)), .val (.int (2 : Int32)), .val (.int c2)] []) _
                    refine own_go (fun _ => XS.iload X0.here hx rfl (hb hby d1_225) rfl) ?_
                    refine own_go (fun _ => XS.bipush X0.here hx rfl (hb hby d1_227)) ?_
                    refine own_go (fun _ => XS.ishr X0.here hx rfl (hb hby d1_229) rfl) ?_
                    show own_Ends p e below s₁ (mkF m 230 #[.val (.ref a), .val (.int s_), .val (.int en), .val (.int ld), .val (.int (2 : Int32)), .val (.int (128 : Int32)), .val (.int (191 : Int32)), .val (.int (1 : Int32)), .val (.int (2 : Int32)), .val (.int c2)] [(.int (c2 >>> ((6 : Int32) &&& 31)))]) _
                    refine own_go (fun _ => XS.iconst X0.here hx rfl (hb hby d1_230)) ?_
                    show own_Ends p e below s₁ (mkF m 231 #[.val (.ref a), .val (.int s_), .val (.int en), .val (.int ld), .val (.int (2 : Int32)), .val (.int (128 : Int32)), .val (.int (191 : Int32)), .val (.int (1 : Int32)), .val (.int (2 : Int32)), .val (.int c2)] [(.int (2 : Int32)), (.int (c2 >>> ((6 : Int32) &&& 31)))]) _
                    by_cases hc231 : (c2 >>> ((6 : Int32) &&& 31)) = (2 : Int32)
                    · refine own_go (fun _ => XS.icmpNo X0.here hx rfl (hb hby d1_231) rfl (teq hc231).2) ?_
                      show own_Ends p e below s₁ (mkF m 234 #[.val (.ref a), .val (.int s_), .val (.int en), .val (.int ld), .val (.int (2 : Int32)), .val (.int (128 : Int32)), .val (.int (191 : Int32)), .val (.int (1 : Int32)), .val (.int (2 : Int32)), .val (.int c2)] []) _
                      refine own_go (fun _ => XS.iconst X0.here hx rfl (hb hby d1_234)) ?_
                      refine own_go (fun _ => XS.goto X0.here hx rfl (pc0 := 235) (pc' := 239) rfl (hb hby d1_235) (by decide) (by decide)) ?_
                      refine own_go (fun _ => XS.istore X0.here hx rfl (hb hby d1_239) rfl (l' := #[.val (.ref a), .val (.int s_), .val (.int en), .val (.int ld), .val (.int (2 : Int32)), .val (.int (128 : Int32)), .val (.int (191 : Int32)), .val (.int (1 : Int32)), .val (.int (2 : Int32)), .val (.int c2)]) rfl) ?_
                      show own_Ends p e below s₁ (mkF m 241 #[.val (.ref a), .val (.int s_), .val (.int en), .val (.int ld), .val (.int (2 : Int32)), .val (.int (128 : Int32)), .val (.int (191 : Int32)), .val (.int (1 : Int32)), .val (.int (2 : Int32)), .val (.int c2)] []) _
                      refine own_go (fun _ => XS.iinc X0.here hx rfl (hb hby d1_241) rfl (l' := #[.val (.ref a), .val (.int s_), .val (.int en), .val (.int ld), .val (.int (2 : Int32)), .val (.int (128 : Int32)), .val (.int (191 : Int32)), .val (.int (1 : Int32)), .val (.int (3 : Int32)), .val (.int c2)]) rfl) ?_
                      show own_Ends p e below s₁ (mkF m 244 #[.val (.ref a), .val (.int s_), .val (.int en), .val (.int ld), .val (.int (2 : Int32)), .val (.int (128 : Int32)), .val (.int (191 : Int32)), .val (.int (1 : Int32)), .val (.int (3 : Int32)), .val (.int c2)] []) _
                      refine own_go (fun _ => XS.goto X0.here hx rfl (pc0 := 244) (pc' := 173) rfl (hb hby d1_244) (by decide) (by decide)) ?_
                      refine own_go (fun _ => XS.iload X0.here hx rfl (hb hby d1_173) rfl) ?_
                      show own_Ends p e below s₁ (mkF m 175 #[.val (.ref a), .val (.int s_), .val (.int en), .val (.int ld), .val (.int (2 : Int32)), .val (.int (128 : Int32)), .val (.int (191 : Int32)), .val (.int (1 : Int32)), .val (.int (3 : Int32)), .val (.int c2)] [(.int (1 : Int32))]) _
                      refine own_go (fun _ => XS.ifNo X0.here hx rfl (hb hby d1_175) rfl ((if0 _ _).trans (feq (show ¬ ((1 : Int32) = (0 : Int32)) from by decide)).1)) ?_
                      show own_Ends p e below s₁ (mkF m 178 #[.val (.ref a), .val (.int s_), .val (.int en), .val (.int ld), .val (.int (2 : Int32)), .val (.int (128 : Int32)), .val (.int (191 : Int32)), .val (.int (1 : Int32)), .val (.int (3 : Int32)), .val (.int c2)] []) _
                      refine own_go (fun _ => XS.iload X0.here hx rfl (hb hby d1_178) rfl) ?_
                      refine own_go (fun _ => XS.iload X0.here hx rfl (hb hby d1_180) rfl) ?_
                      show own_Ends p e below s₁ (mkF m 182 #[.val (.ref a), .val (.int s_), .val (.int en), .val (.int ld), .val (.int (2 : Int32)), .val (.int (128 : Int32)), .val (.int (191 : Int32)), .val (.int (1 : Int32)), .val (.int (3 : Int32)), .val (.int c2)] [(.int (2 : Int32)), (.int (3 : Int32))]) _
                      refine own_go (fun _ => XS.icmpYes X0.here hx rfl (pc0 := 182) (pc' := 247) rfl (hb hby d1_182) rfl (tlt (show (2 : Int32) < (3 : Int32) from by decide)).2.2.1 (by decide) (by decide)) ?_
                      show own_Ends p e below s₁ (mkF m 247 #[.val (.ref a), .val (.int s_), .val (.int en), .val (.int ld), .val (.int (2 : Int32)), .val (.int (128 : Int32)), .val (.int (191 : Int32)), .val (.int (1 : Int32)), .val (.int (3 : Int32)), .val (.int c2)] []) _
                      refine own_go (fun _ => XS.iload X0.here hx rfl (hb hby d1_247) rfl) ?_
                      show own_Ends p e below s₁ (mkF m 249 #[.val (.ref a), .val (.int s_), .val (.int en), .val (.int ld), .val (.int (2 : Int32)), .val (.int (128 : Int32)), .val (.int (191 : Int32)), .val (.int (1 : Int32)), .val (.int (3 : Int32)), .val (.int c2)] [(.int (1 : Int32))]) _
                      refine own_go (fun _ => XS.ifNo X0.here hx rfl (hb hby d1_249) rfl ((if0 _ _).trans (feq (show ¬ ((1 : Int32) = (0 : Int32)) from by decide)).1)) ?_
                      show own_Ends p e below s₁ (mkF m 252 #[.val (.ref a), .val (.int s_), .val (.int en), .val (.int ld), .val (.int (2 : Int32)), .val (.int (128 : Int32)), .val (.int (191 : Int32)), .val (.int (1 : Int32)), .val (.int (3 : Int32)), .val (.int c2)] []) _
                      refine own_go (fun _ => XS.iloadN X0.here hx rfl (hb hby d1_252) rfl) ?_
                      refine own_go (fun _ => XS.iload X0.here hx rfl (hb hby d1_253) rfl) ?_
                      refine own_go (fun _ => XS.iadd X0.here hx rfl (hb hby d1_255) rfl) ?_
                      show own_Ends p e below s₁ (mkF m 256 #[.val (.ref a), .val (.int s_), .val (.int en), .val (.int ld), .val (.int (2 : Int32)), .val (.int (128 : Int32)), .val (.int (191 : Int32)), .val (.int (1 : Int32)), .val (.int (3 : Int32)), .val (.int c2)] [(.int (s_ + (2 : Int32)))]) _
                      refine own_go (fun _ => XS.iconst X0.here hx rfl (hb hby d1_256)) ?_
                      refine own_go (fun _ => XS.iadd X0.here hx rfl (hb hby d1_257) rfl) ?_
                      show own_Ends p e below s₁ (mkF m 258 #[.val (.ref a), .val (.int s_), .val (.int en), .val (.int ld), .val (.int (2 : Int32)), .val (.int (128 : Int32)), .val (.int (191 : Int32)), .val (.int (1 : Int32)), .val (.int (3 : Int32)), .val (.int c2)] [(.int ((s_ + (2 : Int32)) + (1 : Int32)))]) _
                      refine own_go (fun _ => XS.goto X0.here hx rfl (pc0 := 258) (pc' := 262) rfl (hb hby d1_258) (by decide) (by decide)) ?_
                      obtain ⟨fs, hr, hrun, hended, hW, hsame⟩ := X0.leave (v := some (.int ((s_ + (2 : Int32)) + (1 : Int32)))) (fun h => by rw [Bd.returns] at h; cases h)
                      refine ⟨_, _, retI X0 hx Bd.returns (hb hby d1_262) hr, hrun, hended, _, _, rfl, ?_, ⟨_, rfl⟩, hW, hsame.mono (by decide) (by decide)⟩
                      show Q_rmSeq Z a s_ en kl vs t_0 t_1 t_2 t_3 ld c1 c2 c3 h0 n0 _ s₁.heap _
                      rw [e0]
                      refine ⟨_, rfl, ?_, N0, rfl⟩
                      obtain ⟨z1, z2, z3, z4, z5, z6⟩ := own_s s_ hs
                      have t0 := (not_congr (own_ltC (194) (by decide))).mp kc0
                      have t1 := (not_congr (own_ltC (224) (by decide))).mp kc1
                      have t2 := (not_congr (own_ltC (225) (by decide))).mp kc2
                      have t3 := (not_congr (own_ltC (237) (by decide))).mp kc3
                      have t4 := (not_congr (own_ltC (238) (by decide))).mp kc4
                      have t5 := (own_ltC (240) (by decide)).mp kc5
                      have t6 := (own_lt2).mp hc160
                      have t7 := (not_congr (own_ltC (128) (by decide))).mp hc207
                      have t8 := (not_congr (own_Clt (191) (by decide))).mp hc214
                      have t9 := (own_eqC (2) (by decide)).mp hc231
                      have y0 := own_sh c2
                      have y1 := own_sh c3
                      exact own_A2 (by unfold own_P2; omega) (own_as3 _)
                    · refine own_go (fun _ => XS.icmpYes X0.here hx rfl (pc0 := 231) (pc' := 238) rfl (hb hby d1_231) rfl (feq hc231).2 (by decide) (by decide)) ?_
                      show own_Ends p e below s₁ (mkF m 238 #[.val (.ref a), .val (.int s_), .val (.int en), .val (.int ld), .val (.int (2 : Int32)), .val (.int (128 : Int32)), .val (.int (191 : Int32)), .val (.int (1 : Int32)), .val (.int (2 : Int32)), .val (.int c2)] []) _
                      refine own_go (fun _ => XS.iconst X0.here hx rfl (hb hby d1_238)) ?_
                      refine own_go (fun _ => XS.istore X0.here hx rfl (hb hby d1_239) rfl (l' := #[.val (.ref a), .val (.int s_), .val (.int en), .val (.int ld), .val (.int (2 : Int32)), .val (.int (128 : Int32)), .val (.int (191 : Int32)), .val (.int (0 : Int32)), .val (.int (2 : Int32)), .val (.int c2)]) rfl) ?_
                      show own_Ends p e below s₁ (mkF m 241 #[.val (.ref a), .val (.int s_), .val (.int en), .val (.int ld), .val (.int (2 : Int32)), .val (.int (128 : Int32)), .val (.int (191 : Int32)), .val (.int (0 : Int32)), .val (.int (2 : Int32)), .val (.int c2)] []) _
                      refine own_go (fun _ => XS.iinc X0.here hx rfl (hb hby d1_241) rfl (l' := #[.val (.ref a), .val (.int s_), .val (.int en), .val (.int ld), .val (.int (2 : Int32)), .val (.int (128 : Int32)), .val (.int (191 : Int32)), .val (.int (0 : Int32)), .val (.int (3 : Int32)), .val (.int c2)]) rfl) ?_
                      show own_Ends p e below s₁ (mkF m 244 #[.val (.ref a), .val (.int s_), .val (.int en), .val (.int ld), .val (.int (2 : Int32)), .val (.int (128 : Int32)), .val (.int (191 : Int32)), .val (.int (0 : Int32)), .val (.int (3 : Int32)), .val (.int c2)] []) _
                      refine own_go (fun _ => XS.goto X0.here hx rfl (pc0 := 244) (pc' := 173) rfl (hb hby d1_244) (by decide) (by decide)) ?_
                      refine own_go (fun _ => XS.iload X0.here hx rfl (hb hby d1_173) rfl) ?_
                      show own_Ends p e below s₁ (mkF m 175 #[.val (.ref a), .val (.int s_), .val (.int en), .val (.int ld), .val (.int (2 : Int32)), .val (.int (128 : Int32)), .val (.int (191 : Int32)), .val (.int (0 : Int32)), .val (.int (3 : Int32)), .val (.int c2)] [(.int (0 : Int32))]) _
                      refine own_go (fun _ => XS.ifYes X0.here hx rfl (pc0 := 175) (pc' := 247) rfl (hb hby d1_175) rfl ((if0 _ _).trans (teq (show (0 : Int32) = (0 : Int32) from by decide)).1) (by decide) (by decide)) ?_
                      show own_Ends p e below s₁ (mkF m 247 #[.val (.ref a), .val (.int s_), .val (.int en), .val (.int ld), .val (.int (2 : Int32)), .val (.int (128 : Int32)), .val (.int (191 : Int32)), .val (.int (0 : Int32)), .val (.int (3 : Int32)), .val (.int c2)] []) _
                      refine own_go (fun _ => XS.iload X0.here hx rfl (hb hby d1_247) rfl) ?_
                      show own_Ends p e below s₁ (mkF m 249 #[.val (.ref a), .val (.int s_), .val (.int en), .val (.int ld), .val (.int (2 : Int32)), .val (.int (128 : Int32)), .val (.int (191 : Int32)), .val (.int (0 : Int32)), .val (.int (3 : Int32)), .val (.int c2)] [(.int (0 : Int32))]) _
                      refine own_go (fun _ => XS.ifYes X0.here hx rfl (pc0 := 249) (pc' := 261) rfl (hb hby d1_249) rfl ((if0 _ _).trans (teq (show (0 : Int32) = (0 : Int32) from by decide)).1) (by decide) (by decide)) ?_
                      show own_Ends p e below s₁ (mkF m 261 #[.val (.ref a), .val (.int s_), .val (.int en), .val (.int ld), .val (.int (2 : Int32)), .val (.int (128 : Int32)), .val (.int (191 : Int32)), .val (.int (0 : Int32)), .val (.int (3 : Int32)), .val (.int c2)] []) _
                      refine own_go (fun _ => XS.iconst X0.here hx rfl (hb hby d1_261)) ?_
                      obtain ⟨fs, hr, hrun, hended, hW, hsame⟩ := X0.leave (v := some (.int (-1 : Int32))) (fun h => by rw [Bd.returns] at h; cases h)
                      refine ⟨_, _, retI X0 hx Bd.returns (hb hby d1_262) hr, hrun, hended, _, _, rfl, ?_, ⟨_, rfl⟩, hW, hsame.mono (by decide) (by decide)⟩
                      show Q_rmSeq Z a s_ en kl vs t_0 t_1 t_2 t_3 ld c1 c2 c3 h0 n0 _ s₁.heap _
                      rw [e0]
                      refine ⟨_, rfl, ?_, N0, rfl⟩
                      obtain ⟨z1, z2, z3, z4, z5, z6⟩ := own_s s_ hs
                      have t0 := (not_congr (own_ltC (194) (by decide))).mp kc0
                      have t1 := (not_congr (own_ltC (224) (by decide))).mp kc1
                      have t2 := (not_congr (own_ltC (225) (by decide))).mp kc2
                      have t3 := (not_congr (own_ltC (237) (by decide))).mp kc3
                      have t4 := (not_congr (own_ltC (238) (by decide))).mp kc4
                      have t5 := (own_ltC (240) (by decide)).mp kc5
                      have t6 := (own_lt2).mp hc160
                      have t7 := (not_congr (own_ltC (128) (by decide))).mp hc207
                      have t8 := (not_congr (own_Clt (191) (by decide))).mp hc214
                      have t9 := (not_congr (own_eqC (2) (by decide))).mp hc231
                      have y0 := own_sh c2
                      have y1 := own_sh c3
                      exact own_A0 (by unfold own_P1; omega) (by unfold own_P2; omega) (by unfold own_P3; omega)
              · refine own_go (fun _ => XS.icmpYes X0.here hx rfl (pc0 := 160) (pc' := 167) rfl (hb hby d1_160) rfl (flt hc160).2.1 (by decide) (by decide)) ?_
                show own_Ends p e below s₁ (mkF m 167 #[.val (.ref a), .val (.int s_), .val (.int en), .val (.int ld), .val (.int (2 : Int32)), .val (.int (128 : Int32)), .val (.int (191 : Int32)), .unset, .unset, .unset] []) _
                refine own_go (fun _ => XS.iconst X0.here hx rfl (hb hby d1_167)) ?_
                refine own_go (fun _ => XS.istore X0.here hx rfl (hb hby d1_168) rfl (l' := #[.val (.ref a), .val (.int s_), .val (.int en), .val (.int ld), .val (.int (2 : Int32)), .val (.int (128 : Int32)), .val (.int (191 : Int32)), .val (.int (0 : Int32)), .unset, .unset]) rfl) ?_
                show own_Ends p e below s₁ (mkF m 170 #[.val (.ref a), .val (.int s_), .val (.int en), .val (.int ld), .val (.int (2 : Int32)), .val (.int (128 : Int32)), .val (.int (191 : Int32)), .val (.int (0 : Int32)), .unset, .unset] []) _
                refine own_go (fun _ => XS.iconst X0.here hx rfl (hb hby d1_170)) ?_
                refine own_go (fun _ => XS.istore X0.here hx rfl (hb hby d1_171) rfl (l' := #[.val (.ref a), .val (.int s_), .val (.int en), .val (.int ld), .val (.int (2 : Int32)), .val (.int (128 : Int32)), .val (.int (191 : Int32)), .val (.int (0 : Int32)), .val (.int (1 : Int32)), .unset]) rfl) ?_
                show own_Ends p e below s₁ (mkF m 173 #[.val (.ref a), .val (.int s_), .val (.int en), .val (.int ld), .val (.int (2 : Int32)), .val (.int (128 : Int32)), .val (.int (191 : Int32)), .val (.int (0 : Int32)), .val (.int (1 : Int32)), .unset] []) _
                refine own_go (fun _ => XS.iload X0.here hx rfl (hb hby d1_173) rfl) ?_
                show own_Ends p e below s₁ (mkF m 175 #[.val (.ref a), .val (.int s_), .val (.int en), .val (.int ld), .val (.int (2 : Int32)), .val (.int (128 : Int32)), .val (.int (191 : Int32)), .val (.int (0 : Int32)), .val (.int (1 : Int32)), .unset] [(.int (0 : Int32))]) _
                refine own_go (fun _ => XS.ifYes X0.here hx rfl (pc0 := 175) (pc' := 247) rfl (hb hby d1_175) rfl ((if0 _ _).trans (teq (show (0 : Int32) = (0 : Int32) from by decide)).1) (by decide) (by decide)) ?_
                show own_Ends p e below s₁ (mkF m 247 #[.val (.ref a), .val (.int s_), .val (.int en), .val (.int ld), .val (.int (2 : Int32)), .val (.int (128 : Int32)), .val (.int (191 : Int32)), .val (.int (0 : Int32)), .val (.int (1 : Int32)), .unset] []) _
                refine own_go (fun _ => XS.iload X0.here hx rfl (hb hby d1_247) rfl) ?_
                show own_Ends p e below s₁ (mkF m 249 #[.val (.ref a), .val (.int s_), .val (.int en), .val (.int ld), .val (.int (2 : Int32)), .val (.int (128 : Int32)), .val (.int (191 : Int32)), .val (.int (0 : Int32)), .val (.int (1 : Int32)), .unset] [(.int (0 : Int32))]) _
                refine own_go (fun _ => XS.ifYes X0.here hx rfl (pc0 := 249) (pc' := 261) rfl (hb hby d1_249) rfl ((if0 _ _).trans (teq (show (0 : Int32) = (0 : Int32) from by decide)).1) (by decide) (by decide)) ?_
                show own_Ends p e below s₁ (mkF m 261 #[.val (.ref a), .val (.int s_), .val (.int en), .val (.int ld), .val (.int (2 : Int32)), .val (.int (128 : Int32)), .val (.int (191 : Int32)), .val (.int (0 : Int32)), .val (.int (1 : Int32)), .unset] []) _
                refine own_go (fun _ => XS.iconst X0.here hx rfl (hb hby d1_261)) ?_
                obtain ⟨fs, hr, hrun, hended, hW, hsame⟩ := X0.leave (v := some (.int (-1 : Int32))) (fun h => by rw [Bd.returns] at h; cases h)
                refine ⟨_, _, retI X0 hx Bd.returns (hb hby d1_262) hr, hrun, hended, _, _, rfl, ?_, ⟨_, rfl⟩, hW, hsame.mono (by decide) (by decide)⟩
                show Q_rmSeq Z a s_ en kl vs t_0 t_1 t_2 t_3 ld c1 c2 c3 h0 n0 _ s₁.heap _
                rw [e0]
                refine ⟨_, rfl, ?_, N0, rfl⟩
                obtain ⟨z1, z2, z3, z4, z5, z6⟩ := own_s s_ hs
                have t0 := (not_congr (own_ltC (194) (by decide))).mp kc0
                have t1 := (not_congr (own_ltC (224) (by decide))).mp kc1
                have t2 := (not_congr (own_ltC (225) (by decide))).mp kc2
                have t3 := (not_congr (own_ltC (237) (by decide))).mp kc3
                have t4 := (not_congr (own_ltC (238) (by decide))).mp kc4
                have t5 := (own_ltC (240) (by decide)).mp kc5
                have t6 := (not_congr (own_lt2)).mp hc160
                have y0 := own_sh c2
                have y1 := own_sh c3
                exact own_A0 (by unfold own_P1; omega) (by unfold own_P2; omega) (by unfold own_P3; omega)
            · by_cases kc6 : ld < (241 : Int32)
              · refine own_go (fun _ => XS.iloadN X0.here hx rfl (hb hby d1_21) rfl) ?_
                refine own_go (fun _ => XS.sipush X0.here hx rfl (hb hby d1_22)) ?_
                show own_Ends p e below s₁ (mkF m 25 #[.val (.ref a), .val (.int s_), .val (.int en), .val (.int ld), .val (.int (0 : Int32)), .val (.int (128 : Int32)), .val (.int (191 : Int32)), .unset, .unset, .unset] [(.int (194 : Int32)), (.int ld)]) _
                refine own_go (fun _ => XS.icmpNo X0.here hx rfl (hb hby d1_25) rfl (flt (show ¬ (ld < (194 : Int32)) from own_nlt kc5 (by decide))).1) ?_
                show own_Ends p e below s₁ (mkF m 28 #[.val (.ref a), .val (.int s_), .val (.int en), .val (.int ld), .val (.int (0 : Int32)), .val (.int (128 : Int32)), .val (.int (191 : Int32)), .unset, .unset, .unset] []) _
                refine own_go (fun _ => XS.iloadN X0.here hx rfl (hb hby d1_28) rfl) ?_
                refine own_go (fun _ => XS.sipush X0.here hx rfl (hb hby d1_29)) ?_
                show own_Ends p e below s₁ (mkF m 32 #[.val (.ref a), .val (.int s_), .val (.int en), .val (.int ld), .val (.int (0 : Int32)), .val (.int (128 : Int32)), .val (.int (191 : Int32)), .unset, .unset, .unset] [(.int (223 : Int32)), (.int ld)]) _
                refine own_go (fun _ => XS.icmpYes X0.here hx rfl (pc0 := 32) (pc' := 41) rfl (hb hby d1_32) rfl (tlt (show (223 : Int32) < ld from own_gt kc5 (by decide))).2.2.1 (by decide) (by decide)) ?_
                show own_Ends p e below s₁ (mkF m 41 #[.val (.ref a), .val (.int s_), .val (.int en), .val (.int ld), .val (.int (0 : Int32)), .val (.int (128 : Int32)), .val (.int (191 : Int32)), .unset, .unset, .unset] []) _
                refine own_go (fun _ => XS.iloadN X0.here hx rfl (hb hby d1_41) rfl) ?_
                refine own_go (fun _ => XS.sipush X0.here hx rfl (hb hby d1_42)) ?_
                show own_Ends p e below s₁ (mkF m 45 #[.val (.ref a), .val (.int s_), .val (.int en), .val (.int ld), .val (.int (0 : Int32)), .val (.int (128 : Int32)), .val (.int (191 : Int32)), .unset, .unset, .unset] [(.int (224 : Int32)), (.int ld)]) _
                refine own_go (fun _ => XS.icmpNo X0.here hx rfl (hb hby d1_45) rfl (flt (show ¬ (ld < (224 : Int32)) from own_nlt kc5 (by decide))).1) ?_
                show own_Ends p e below s₁ (mkF m 48 #[.val (.ref a), .val (.int s_), .val (.int en), .val (.int ld), .val (.int (0 : Int32)), .val (.int (128 : Int32)), .val (.int (191 : Int32)), .unset, .unset, .unset] []) _
                refine own_go (fun _ => XS.iloadN X0.here hx rfl (hb hby d1_48) rfl) ?_
                refine own_go (fun _ => XS.sipush X0.here hx rfl (hb hby d1_49)) ?_
                show own_Ends p e below s₁ (mkF m 52 #[.val (.ref a), .val (.int s_), .val (.int en), .val (.int ld), .val (.int (0 : Int32)), .val (.int (128 : Int32)), .val (.int (191 : Int32)), .unset, .unset, .unset] [(.int (239 : Int32)), (.int ld)]) _
                refine own_go (fun _ => XS.icmpYes X0.here hx rfl (pc0 := 52) (pc' := 97) rfl (hb hby d1_52) rfl (tlt (show (239 : Int32) < ld from own_gt kc5 (by decide))).2.2.1 (by decide) (by decide)) ?_
                show own_Ends p e below s₁ (mkF m 97 #[.val (.ref a), .val (.int s_), .val (.int en), .val (.int ld), .val (.int (0 : Int32)), .val (.int (128 : Int32)), .val (.int (191 : Int32)), .unset, .unset, .unset] []) _
                refine own_go (fun _ => XS.iloadN X0.here hx rfl (hb hby d1_97) rfl) ?_
                refine own_go (fun _ => XS.sipush X0.here hx rfl (hb hby d1_98)) ?_
                show own_Ends p e below s₁ (mkF m 101 #[.val (.ref a), .val (.int s_), .val (.int en), .val (.int ld), .val (.int (0 : Int32)), .val (.int (128 : Int32)), .val (.int (191 : Int32)), .unset, .unset, .unset] [(.int (240 : Int32)), (.int ld)]) _
                refine own_go (fun _ => XS.icmpNo X0.here hx rfl (hb hby d1_101) rfl (flt (show ¬ (ld < (240 : Int32)) from own_nlt kc5 (by decide))).1) ?_
                show own_Ends p e below s₁ (mkF m 104 #[.val (.ref a), .val (.int s_), .val (.int en), .val (.int ld), .val (.int (0 : Int32)), .val (.int (128 : Int32)), .val (.int (191 : Int32)), .unset, .unset, .unset] []) _
                refine own_go (fun _ => XS.iloadN X0.here hx rfl (hb hby d1_104) rfl) ?_
                refine own_go (fun _ => XS.sipush X0.here hx rfl (hb hby d1_105)) ?_
                show own_Ends p e below s₁ (mkF m 108 #[.val (.ref a), .val (.int s_), .val (.int en), .val (.int ld), .val (.int (0 : Int32)), .val (.int (128 : Int32)), .val (.int (191 : Int32)), .unset, .unset, .unset] [(.int (244 : Int32)), (.int ld)]) _
                refine own_go (fun _ => XS.icmpNo X0.here hx rfl (hb hby d1_108) rfl (flt (show ¬ ((244 : Int32) < ld) from own_ngt kc6 (by decide))).2.2.1) ?_
                show own_Ends p e below s₁ (mkF m 111 #[.val (.ref a), .val (.int s_), .val (.int en), .val (.int ld), .val (.int (0 : Int32)), .val (.int (128 : Int32)), .val (.int (191 : Int32)), .unset, .unset, .unset] []) _
                refine own_go (fun _ => XS.iconst X0.here hx rfl (hb hby d1_111)) ?_
                refine own_go (fun _ => XS.istore X0.here hx rfl (hb hby d1_112) rfl (l' := #[.val (.ref a), .val (.int s_), .val (.int en), .val (.int ld), .val (.int (3 : Int32)), .val (.int (128 : Int32)), .val (.int (191 : Int32)), .unset, .unset, .unset]) rfl) ?_
                show own_Ends p e below s₁ (mkF m 114 #[.val (.ref a), .val (.int s_), .val (.int en), .val (.int ld), .val (.int (3 : Int32)), .val (.int (128 : Int32)), .val (.int (191 : Int32)), .unset, .unset, .unset] []) _
                refine own_go (fun _ => XS.iloadN X0.here hx rfl (hb hby d1_114) rfl) ?_
                refine own_go (fun _ => XS.sipush X0.here hx rfl (hb hby d1_115)) ?_
                show own_Ends p e below s₁ (mkF m 118 #[.val (.ref a), .val (.int s_), .val (.int en), .val (.int ld), .val (.int (3 : Int32)), .val (.int (128 : Int32)), .val (.int (191 : Int32)), .unset, .unset, .unset] [(.int (240 : Int32)), (.int ld)]) _
                refine own_go (fun _ => XS.icmpNo X0.here hx rfl (hb hby d1_118) rfl (teq (show ld = (240 : Int32) from own_eq kc5 kc6 (by decide))).2) ?_
                show own_Ends p e below s₁ (mkF m 121 #[.val (.ref a), .val (.int s_), .val (.int en), .val (.int ld), .val (.int (3 : Int32)), .val (.int (128 : Int32)), .val (.int (191 : Int32)), .unset, .unset, .unset] []) _
                refine own_go (fun _ => XS.sipush X0.here hx rfl (hb hby d1_121)) ?_
                refine own_go (fun _ => XS.goto X0.here hx rfl (pc0 := 124) (pc' := 130) rfl (hb hby d1_124) (by decide) (by decide)) ?_
                refine own_go (fun _ => XS.istore X0.here hx rfl (hb hby d1_130) rfl (l' := #[.val (.ref a), .val (.int s_), .val (.int en), .val (.int ld), .val (.int (3 : Int32)), .val (.int (144 : Int32)), .val (.int (191 : Int32)), .unset, .unset, .unset]) rfl) ?_
                show own_Ends p e below s₁ (mkF m 132 #[.val (.ref a), .val (.int s_), .val (.int en), .val (.int ld), .val (.int (3 : Int32)), .val (.int (144 : Int32)), .val (.int (191 : Int32)), .unset, .unset, .unset] []) _
                refine own_go (fun _ => XS.iloadN X0.here hx rfl (hb hby d1_132) rfl) ?_
                refine own_go (fun _ => XS.sipush X0.here hx rfl (hb hby d1_133)) ?_
                show own_Ends p e below s₁ (mkF m 136 #[.val (.ref a), .val (.int s_), .val (.int en), .val (.int ld), .val (.int (3 : Int32)), .val (.int (144 : Int32)), .val (.int (191 : Int32)), .unset, .unset, .unset] [(.int (244 : Int32)), (.int ld)]) _
                refine own_go (fun _ => XS.icmpYes X0.here hx rfl (pc0 := 136) (pc' := 145) rfl (hb hby d1_136) rfl (feq (show ¬ (ld = (244 : Int32)) from own_ne2 kc6 (by decide))).2 (by decide) (by decide)) ?_
                show own_Ends p e below s₁ (mkF m 145 #[.val (.ref a), .val (.int s_), .val (.int en), .val (.int ld), .val (.int (3 : Int32)), .val (.int (144 : Int32)), .val (.int (191 : Int32)), .unset, .unset, .unset] []) _
                refine own_go (fun _ => XS.sipush X0.here hx rfl (hb hby d1_145)) ?_
                refine own_go (fun _ => XS.istore X0.here hx rfl (hb hby d1_148) rfl (l' := #[.val (.ref a), .val (.int s_), .val (.int en), .val (.int ld), .val (.int (3 : Int32)), .val (.int (144 : Int32)), .val (.int (191 : Int32)), .unset, .unset, .unset]) rfl) ?_
                show own_Ends p e below s₁ (mkF m 150 #[.val (.ref a), .val (.int s_), .val (.int en), .val (.int ld), .val (.int (3 : Int32)), .val (.int (144 : Int32)), .val (.int (191 : Int32)), .unset, .unset, .unset] []) _
                refine own_go (fun _ => XS.iload X0.here hx rfl (hb hby d1_150) rfl) ?_
                show own_Ends p e below s₁ (mkF m 152 #[.val (.ref a), .val (.int s_), .val (.int en), .val (.int ld), .val (.int (3 : Int32)), .val (.int (144 : Int32)), .val (.int (191 : Int32)), .unset, .unset, .unset] [(.int (3 : Int32))]) _
                refine own_go (fun _ => XS.ifNo X0.here hx rfl (hb hby d1_152) rfl ((if0 _ _).trans (tlt (show (0 : Int32) < (3 : Int32) from by decide)).2.2.2)) ?_
                show own_Ends p e below s₁ (mkF m 155 #[.val (.ref a), .val (.int s_), .val (.int en), .val (.int ld), .val (.int (3 : Int32)), .val (.int (144 : Int32)), .val (.int (191 : Int32)), .unset, .unset, .unset] []) _
                refine own_go (fun _ => XS.iloadN X0.here hx rfl (hb hby d1_155) rfl) ?_
                refine own_go (fun _ => XS.iload X0.here hx rfl (hb hby d1_156) rfl) ?_
                refine own_go (fun _ => XS.iadd X0.here hx rfl (hb hby d1_158) rfl) ?_
                show own_Ends p e below s₁ (mkF m 159 #[.val (.ref a), .val (.int s_), .val (.int en), .val (.int ld), .val (.int (3 : Int32)), .val (.int (144 : Int32)), .val (.int (191 : Int32)), .unset, .unset, .unset] [(.int (s_ + (3 : Int32)))]) _
                refine own_go (fun _ => XS.iloadN X0.here hx rfl (hb hby d1_159) rfl) ?_
                show own_Ends p e below s₁ (mkF m 160 #[.val (.ref a), .val (.int s_), .val (.int en), .val (.int ld), .val (.int (3 : Int32)), .val (.int (144 : Int32)), .val (.int (191 : Int32)), .unset, .unset, .unset] [(.int en), (.int (s_ + (3 : Int32)))]) _
                by_cases hc160 : (s_ + (3 : Int32)) < en
                · refine own_go (fun _ => XS.icmpNo X0.here hx rfl (hb hby d1_160) rfl (tlt hc160).2.1) ?_
                  show own_Ends p e below s₁ (mkF m 163 #[.val (.ref a), .val (.int s_), .val (.int en), .val (.int ld), .val (.int (3 : Int32)), .val (.int (144 : Int32)), .val (.int (191 : Int32)), .unset, .unset, .unset] []) _
                  refine own_go (fun _ => XS.iconst X0.here hx rfl (hb hby d1_163)) ?_
                  refine own_go (fun _ => XS.goto X0.here hx rfl (pc0 := 164) (pc' := 168) rfl (hb hby d1_164) (by decide) (by decide)) ?_
                  refine own_go (fun _ => XS.istore X0.here hx rfl (hb hby d1_168) rfl (l' := #[.val (.ref a), .val (.int s_), .val (.int en), .val (.int ld), .val (.int (3 : Int32)), .val (.int (144 : Int32)), .val (.int (191 : Int32)), .val (.int (1 : Int32)), .unset, .unset]) rfl) ?_
                  show own_Ends p e below s₁ (mkF m 170 #[.val (.ref a), .val (.int s_), .val (.int en), .val (.int ld), .val (.int (3 : Int32)), .val (.int (144 : Int32)), .val (.int (191 : Int32)), .val (.int (1 : Int32)), .unset, .unset] []) _
                  refine own_go (fun _ => XS.iconst X0.here hx rfl (hb hby d1_170)) ?_
                  refine own_go (fun _ => XS.istore X0.here hx rfl (hb hby d1_171) rfl (l' := #[.val (.ref a), .val (.int s_), .val (.int en), .val (.int ld), .val (.int (3 : Int32)), .val (.int (144 : Int32)), .val (.int (191 : Int32)), .val (.int (1 : Int32)), .val (.int (1 : Int32)), .unset]) rfl) ?_
                  show own_Ends p e below s₁ (mkF m 173 #[.val (.ref a), .val (.int s_), .val (.int en), .val (.int ld), .val (.int (3 : Int32)), .val (.int (144 : Int32)), .val (.int (191 : Int32)), .val (.int (1 : Int32)), .val (.int (1 : Int32)), .unset] []) _
                  refine own_go (fun _ => XS.iload X0.here hx rfl (hb hby d1_173) rfl) ?_
                  show own_Ends p e below s₁ (mkF m 175 #[.val (.ref a), .val (.int s_), .val (.int en), .val (.int ld), .val (.int (3 : Int32)), .val (.int (144 : Int32)), .val (.int (191 : Int32)), .val (.int (1 : Int32)), .val (.int (1 : Int32)), .unset] [(.int (1 : Int32))]) _
                  refine own_go (fun _ => XS.ifNo X0.here hx rfl (hb hby d1_175) rfl ((if0 _ _).trans (feq (show ¬ ((1 : Int32) = (0 : Int32)) from by decide)).1)) ?_
                  show own_Ends p e below s₁ (mkF m 178 #[.val (.ref a), .val (.int s_), .val (.int en), .val (.int ld), .val (.int (3 : Int32)), .val (.int (144 : Int32)), .val (.int (191 : Int32)), .val (.int (1 : Int32)), .val (.int (1 : Int32)), .unset] []) _
                  refine own_go (fun _ => XS.iload X0.here hx rfl (hb hby d1_178) rfl) ?_
                  refine own_go (fun _ => XS.iload X0.here hx rfl (hb hby d1_180) rfl) ?_
                  show own_Ends p e below s₁ (mkF m 182 #[.val (.ref a), .val (.int s_), .val (.int en), .val (.int ld), .val (.int (3 : Int32)), .val (.int (144 : Int32)), .val (.int (191 : Int32)), .val (.int (1 : Int32)), .val (.int (1 : Int32)), .unset] [(.int (3 : Int32)), (.int (1 : Int32))]) _
                  refine own_go (fun _ => XS.icmpNo X0.here hx rfl (hb hby d1_182) rfl (flt (show ¬ ((3 : Int32) < (1 : Int32)) from by decide)).2.2.1) ?_
                  show own_Ends p e below s₁ (mkF m 185 #[.val (.ref a), .val (.int s_), .val (.int en), .val (.int ld), .val (.int (3 : Int32)), .val (.int (144 : Int32)), .val (.int (191 : Int32)), .val (.int (1 : Int32)), .val (.int (1 : Int32)), .unset] []) _
                  refine own_go (fun _ => XS.aloadN X0.here hx rfl (hb hby d1_185) rfl rfl) ?_
                  refine own_go (fun _ => XS.iloadN X0.here hx rfl (hb hby d1_186) rfl) ?_
                  refine own_go (fun _ => XS.iload X0.here hx rfl (hb hby d1_187) rfl) ?_
                  refine own_go (fun _ => XS.iadd X0.here hx rfl (hb hby d1_189) rfl) ?_
                  show own_Ends p e below s₁ (mkF m 190 #[.val (.ref a), .val (.int s_), .val (.int en), .val (.int ld), .val (.int (3 : Int32)), .val (.int (144 : Int32)), .val (.int (191 : Int32)), .val (.int (1 : Int32)), .val (.int (1 : Int32)), .unset] [(.int (s_ + (1 : Int32))), (.ref a)]) _
                  obtain ⟨cl_11, Ar_11, q_11, S_11, M_11, H_11, G_11⟩ := V_a_r1
                  have hin11 : ¬ ((s_ + (1 : Int32)) < 0 ∨ cl_11.slots.size ≤ ((s_ + (1 : Int32))).toNatClampNeg) := inb_of S_11 (own_in s_ hs).2.1
                  have hat11 : cl_11.slots[((s_ + (1 : Int32))).toNatClampNeg]? = some (.int t_1) := Has.at H_11 hin11 (hva1)
                  refine own_go (X0.baloadBytes hx (j := (s_ + (1 : Int32))) (v := (.int t_1)) (by rw [e0]; exact Ar_11.1) (State.isArrayOf_alike hZ.alike Ar_11.2.1) Ar_11.2.2 hin11 hat11 (g := (mkF m 190 #[.val (.ref a), .val (.int s_), .val (.int en), .val (.int ld), .val (.int (3 : Int32)), .val (.int (144 : Int32)), .val (.int (191 : Int32)), .val (.int (1 : Int32)), .val (.int (1 : Int32)), .unset] [(.int (s_ + (1 : Int32))), (.ref a)])) rfl rfl (hb hby d1_190)) ?_
                  have V_a_r11 : Arv Z h0 a kl .byte (6 : Int32) vs (.int (0 : Int32)) := ⟨cl_11, Ar_11, q_11, S_11, M_11, H_11, G_11⟩
                  show own_Ends p e below s₁ (mkF m 191 #[.val (.ref a), .val (.int s_), .val (.int en), .val (.int ld), .val (.int (3 : Int32)), .val (.int (144 : Int32)), .val (.int (191 : Int32)), .val (.int (1 : Int32)), .val (.int (1 : Int32)), .unset] [(.int t_1)]) _
                  refine own_go (fun _ => XS.sipush X0.here hx rfl (hb hby d1_191)) ?_
                  refine own_go (fun _ => XS.iand X0.here hx rfl (hb hby d1_194) rfl) ?_
                  show own_Ends p e below s₁ (mkF m 195 #[.val (.ref a), .val (.int s_), .val (.int en), .val (.int ld), .val (.int (3 : Int32)), .val (.int (144 : Int32)), .val (.int (191 : Int32)), .val (.int (1 : Int32)), .val (.int (1 : Int32)), .unset] [(.int (t_1 &&& (255 : Int32)))]) _
                  refine own_go (fun _ => XS.istore X0.here hx rfl (hb hby d1_195) rfl (l' := #[.val (.ref a), .val (.int s_), .val (.int en), .val (.int ld), .val (.int (3 : Int32)), .val (.int (144 : Int32)), .val (.int (191 : Int32)), .val (.int (1 : Int32)), .val (.int (1 : Int32)), .val (.int (t_1 &&& (255 : Int32)))]) rfl) ?_
                  show own_Ends p e below s₁ (mkF m 197 #[.val (.ref a), .val (.int s_), .val (.int en), .val (.int ld), .val (.int (3 : Int32)), .val (.int (144 : Int32)), .val (.int (191 : Int32)), .val (.int (1 : Int32)), .val (.int (1 : Int32)), .val (.int (t_1 &&& (255 : Int32)))] []) _
                  rw [hl1]
                  show own_Ends p e below s₁ (mkF m 197 #[.val (.ref a), .val (.int s_), .val (.int en), .val (.int ld), .val (.int (3 : Int32)), .val (.int (144 : Int32)), .val (.int (191 : Int32)), .val (.int (1 : Int32)), .val (.int (1 : Int32)), .val (.int c1)] []) _
                  refine own_go (fun _ => XS.iload X0.here hx rfl (hb hby d1_197) rfl) ?_
                  refine own_go (fun _ => XS.iconst X0.here hx rfl (hb hby d1_199)) ?_
                  show own_Ends p e below s₁ (mkF m 200 #[.val (.ref a), .val (.int s_), .val (.int en), .val (.int ld), .val (.int (3 : Int32)), .val (.int (144 : Int32)), .val (.int (191 : Int32)), .val (.int (1 : Int32)), .val (.int (1 : Int32)), .val (.int c1)] [(.int (1 : Int32)), (.int (1 : Int32))]) _
                  refine own_go (fun _ => XS.icmpNo X0.here hx rfl (hb hby d1_200) rfl (teq (show (1 : Int32) = (1 : Int32) from by decide)).2) ?_
                  show own_Ends p e below s₁ (mkF m 203 #[.val (.ref a), .val (.int s_), .val (.int en), .val (.int ld), .val (.int (3 : Int32)), .val (.int (144 : Int32)), .val (.int (191 : Int32)), .val (.int (1 : Int32)), .val (.int (1 : Int32)), .val (.int c1)] []) _
                  refine own_go (fun _ => XS.iload X0.here hx rfl (hb hby d1_203) rfl) ?_
                  refine own_go (fun _ => XS.iload X0.here hx rfl (hb hby d1_205) rfl) ?_
                  show own_Ends p e below s₁ (mkF m 207 #[.val (.ref a), .val (.int s_), .val (.int en), .val (.int ld), .val (.int (3 : Int32)), .val (.int (144 : Int32)), .val (.int (191 : Int32)), .val (.int (1 : Int32)), .val (.int (1 : Int32)), .val (.int c1)] [(.int (144 : Int32)), (.int c1)]) _
                  by_cases hc207 : c1 < (144 : Int32)
                  · refine own_go (fun _ => XS.icmpYes X0.here hx rfl (pc0 := 207) (pc' := 221) rfl (hb hby d1_207) rfl (tlt hc207).1 (by decide) (by decide)) ?_
                    show own_Ends p e below s₁ (mkF m 221 #[.val (.ref a), .val (.int s_), .val (.int en), .val (.int ld), .val (.int (3 : Int32)), .val (.int (144 : Int32)), .val (.int (191 : Int32)), .val (.int (1 : Int32)), .val (.int (1 : Int32)), .val (.int c1)] []) _
                    refine own_go (fun _ => XS.iconst X0.here hx rfl (hb hby d1_221)) ?_
                    refine own_go (fun _ => XS.goto X0.here hx rfl (pc0 := 222) (pc' := 239) rfl (hb hby d1_222) (by decide) (by decide)) ?_
                    refine own_go (fun _ => XS.istore X0.here hx rfl (hb hby d1_239) rfl (l' := #[.val (.ref a), .val (.int s_), .val (.int en), .val (.int ld), .val (.int (3 : Int32)), .val (.int (144 : Int32)), .val (.int (191 : Int32)), .val (.int (0 : Int32)), .val (.int (1 : Int32)), .val (.int c1)]) rfl) ?_
                    show own_Ends p e below s₁ (mkF m 241 #[.val (.ref a), .val (.int s_), .val (.int en), .val (.int ld), .val (.int (3 : Int32)), .val (.int (144 : Int32)), .val (.int (191 : Int32)), .val (.int (0 : Int32)), .val (.int (1 : Int32)), .val (.int c1)] []) _
                    refine own_go (fun _ => XS.iinc X0.here hx rfl (hb hby d1_241) rfl (l' := #[.val (.ref a), .val (.int s_), .val (.int en), .val (.int ld), .val (.int (3 : Int32)), .val (.int (144 : Int32)), .val (.int (191 : Int32)), .val (.int (0 : Int32)), .val (.int (2 : Int32)), .val (.int c1)]) rfl) ?_
                    show own_Ends p e below s₁ (mkF m 244 #[.val (.ref a), .val (.int s_), .val (.int en), .val (.int ld), .val (.int (3 : Int32)), .val (.int (144 : Int32)), .val (.int (191 : Int32)), .val (.int (0 : Int32)), .val (.int (2 : Int32)), .val (.int c1)] []) _
                    refine own_go (fun _ => XS.goto X0.here hx rfl (pc0 := 244) (pc' := 173) rfl (hb hby d1_244) (by decide) (by decide)) ?_
                    refine own_go (fun _ => XS.iload X0.here hx rfl (hb hby d1_173) rfl) ?_
                    show own_Ends p e below s₁ (mkF m 175 #[.val (.ref a), .val (.int s_), .val (.int en), .val (.int ld), .val (.int (3 : Int32)), .val (.int (144 : Int32)), .val (.int (191 : Int32)), .val (.int (0 : Int32)), .val (.int (2 : Int32)), .val (.int c1)] [(.int (0 : Int32))]) _
                    refine own_go (fun _ => XS.ifYes X0.here hx rfl (pc0 := 175) (pc' := 247) rfl (hb hby d1_175) rfl ((if0 _ _).trans (teq (show (0 : Int32) = (0 : Int32) from by decide)).1) (by decide) (by decide)) ?_
                    show own_Ends p e below s₁ (mkF m 247 #[.val (.ref a), .val (.int s_), .val (.int en), .val (.int ld), .val (.int (3 : Int32)), .val (.int (144 : Int32)), .val (.int (191 : Int32)), .val (.int (0 : Int32)), .val (.int (2 : Int32)), .val (.int c1)] []) _
                    refine own_go (fun _ => XS.iload X0.here hx rfl (hb hby d1_247) rfl) ?_
                    show own_Ends p e below s₁ (mkF m 249 #[.val (.ref a), .val (.int s_), .val (.int en), .val (.int ld), .val (.int (3 : Int32)), .val (.int (144 : Int32)), .val (.int (191 : Int32)), .val (.int (0 : Int32)), .val (.int (2 : Int32)), .val (.int c1)] [(.int (0 : Int32))]) _
                    refine own_go (fun _ => XS.ifYes X0.here hx rfl (pc0 := 249) (pc' := 261) rfl (hb hby d1_249) rfl ((if0 _ _).trans (teq (show (0 : Int32) = (0 : Int32) from by decide)).1) (by decide) (by decide)) ?_
                    show own_Ends p e below s₁ (mkF m 261 #[.val (.ref a), .val (.int s_), .val (.int en), .val (.int ld), .val (.int (3 : Int32)), .val (.int (144 : Int32)), .val (.int (191 : Int32)), .val (.int (0 : Int32)), .val (.int (2 : Int32)), .val (.int c1)] []) _
                    refine own_go (fun _ => XS.iconst X0.here hx rfl (hb hby d1_261)) ?_
                    obtain ⟨fs, hr, hrun, hended, hW, hsame⟩ := X0.leave (v := some (.int (-1 : Int32))) (fun h => by rw [Bd.returns] at h; cases h)
                    refine ⟨_, _, retI X0 hx Bd.returns (hb hby d1_262) hr, hrun, hended, _, _, rfl, ?_, ⟨_, rfl⟩, hW, hsame.mono (by decide) (by decide)⟩
                    show Q_rmSeq Z a s_ en kl vs t_0 t_1 t_2 t_3 ld c1 c2 c3 h0 n0 _ s₁.heap _
                    rw [e0]
                    refine ⟨_, rfl, ?_, N0, rfl⟩
                    obtain ⟨z1, z2, z3, z4, z5, z6⟩ := own_s s_ hs
                    have t0 := (not_congr (own_ltC (194) (by decide))).mp kc0
                    have t1 := (not_congr (own_ltC (224) (by decide))).mp kc1
                    have t2 := (not_congr (own_ltC (225) (by decide))).mp kc2
                    have t3 := (not_congr (own_ltC (237) (by decide))).mp kc3
                    have t4 := (not_congr (own_ltC (238) (by decide))).mp kc4
                    have t5 := (not_congr (own_ltC (240) (by decide))).mp kc5
                    have t6 := (own_ltC (241) (by decide)).mp kc6
                    have t7 := (own_lt2).mp hc160
                    have t8 := (own_ltC (144) (by decide)).mp hc207
                    have y0 := own_sh c2
                    have y1 := own_sh c3
                    exact own_A0 (by unfold own_P1; omega) (by unfold own_P2; omega) (by unfold own_P3; omega)
                  · refine own_go (fun _ => XS.icmpNo X0.here hx rfl (hb hby d1_207) rfl (flt hc207).1) ?_
                    show own_Ends p e below s₁ (mkF m 210 #[.val (.ref a), .val (.int s_), .val (.int en), .val (.int ld), .val (.int (3 : Int32)), .val (.int (144 : Int32)), .val (.int (191 : Int32)), .val (.int (1 : Int32)), .val (.int (1 : Int32)), .val (.int c1)] []) _
                    refine own_go (fun _ => XS.iload X0.here hx rfl (hb hby d1_210) rfl) ?_
                    refine own_go (fun _ => XS.iload X0.here hx rfl (hb hby d1_212) rfl) ?_
                    show own_Ends p e below s₁ (mkF m 214 #[.val (.ref a), .val (.int s_), .val (.int en), .val (.int ld), .val (.int (3 : Int32)), .val (.int (144 : Int32)), .val (.int (191 : Int32)), .val (.int (1 : Int32)), .val (.int (1 : Int32)), .val (.int c1)] [(.int (191 : Int32)), (.int c1)]) _
                    by_cases hc214 : (191 : Int32) < c1
                    · refine own_go (fun _ => XS.icmpYes X0.here hx rfl (pc0 := 214) (pc' := 221) rfl (hb hby d1_214) rfl (tlt hc214).2.2.1 (by decide) (by decide)) ?_
                      show own_Ends p e below s₁ (mkF m 221 #[.val (.ref a), .val (.int s_), .val (.int en), .val (.int ld), .val (.int (3 : Int32)), .val (.int (144 : Int32)), .val (.int (191 : Int32)), .val (.int (1 : Int32)), .val (.int (1 : Int32)), .val (.int c1)] []) _
                      refine own_go (fun _ => XS.iconst X0.here hx rfl (hb hby d1_221)) ?_
                      refine own_go (fun _ => XS.goto X0.here hx rfl (pc0 := 222) (pc' := 239) rfl (hb hby d1_222) (by decide) (by decide)) ?_
                      refine own_go (fun _ => XS.istore X0.here hx rfl (hb hby d1_239) rfl (l' := #[.val (.ref a), .val (.int s_), .val (.int en), .val (.int ld), .val (.int (3 : Int32)), .val (.int (144 : Int32)), .val (.int (191 : Int32)), .val (.int (0 : Int32)), .val (.int (1 : Int32)), .val (.int c1)]) rfl) ?_
                      show own_Ends p e below s₁ (mkF m 241 #[.val (.ref a), .val (.int s_), .val (.int en), .val (.int ld), .val (.int (3 : Int32)), .val (.int (144 : Int32)), .val (.int (191 : Int32)), .val (.int (0 : Int32)), .val (.int (1 : Int32)), .val (.int c1)] []) _
                      refine own_go (fun _ => XS.iinc X0.here hx rfl (hb hby d1_241) rfl (l' := #[.val (.ref a), .val (.int s_), .val (.int en), .val (.int ld), .val (.int (3 : Int32)), .val (.int (144 : Int32)), .val (.int (191 : Int32)), .val (.int (0 : Int32)), .val (.int (2 : Int32)), .val (.int c1)]) rfl) ?_
                      show own_Ends p e below s₁ (mkF m 244 #[.val (.ref a), .val (.int s_), .val (.int en), .val (.int ld), .val (.int (3 : Int32)), .val (.int (144 : Int32)), .val (.int (191 : Int32)), .val (.int (0 : Int32)), .val (.int (2 : Int32)), .val (.int c1)] []) _
                      refine own_go (fun _ => XS.goto X0.here hx rfl (pc0 := 244) (pc' := 173) rfl (hb hby d1_244) (by decide) (by decide)) ?_
                      refine own_go (fun _ => XS.iload X0.here hx rfl (hb hby d1_173) rfl) ?_
                      show own_Ends p e below s₁ (mkF m 175 #[.val (.ref a), .val (.int s_), .val (.int en), .val (.int ld), .val (.int (3 : Int32)), .val (.int (144 : Int32)), .val (.int (191 : Int32)), .val (.int (0 : Int32)), .val (.int (2 : Int32)), .val (.int c1)] [(.int (0 : Int32))]) _
                      refine own_go (fun _ => XS.ifYes X0.here hx rfl (pc0 := 175) (pc' := 247) rfl (hb hby d1_175) rfl ((if0 _ _).trans (teq (show (0 : Int32) = (0 : Int32) from by decide)).1) (by decide) (by decide)) ?_
                      show own_Ends p e below s₁ (mkF m 247 #[.val (.ref a), .val (.int s_), .val (.int en), .val (.int ld), .val (.int (3 : Int32)), .val (.int (144 : Int32)), .val (.int (191 : Int32)), .val (.int (0 : Int32)), .val (.int (2 : Int32)), .val (.int c1)] []) _
                      refine own_go (fun _ => XS.iload X0.here hx rfl (hb hby d1_247) rfl) ?_
                      show own_Ends p e below s₁ (mkF m 249 #[.val (.ref a), .val (.int s_), .val (.int en), .val (.int ld), .val (.int (3 : Int32)), .val (.int (144 : Int32)), .val (.int (191 : Int32)), .val (.int (0 : Int32)), .val (.int (2 : Int32)), .val (.int c1)] [(.int (0 : Int32))]) _
                      refine own_go (fun _ => XS.ifYes X0.here hx rfl (pc0 := 249) (pc' := 261) rfl (hb hby d1_249) rfl ((if0 _ _).trans (teq (show (0 : Int32) = (0 : Int32) from by decide)).1) (by decide) (by decide)) ?_
                      show own_Ends p e below s₁ (mkF m 261 #[.val (.ref a), .val (.int s_), .val (.int en), .val (.int ld), .val (.int (3 : Int32)), .val (.int (144 : Int32)), .val (.int (191 : Int32)), .val (.int (0 : Int32)), .val (.int (2 : Int32)), .val (.int c1)] []) _
                      refine own_go (fun _ => XS.iconst X0.here hx rfl (hb hby d1_261)) ?_
                      obtain ⟨fs, hr, hrun, hended, hW, hsame⟩ := X0.leave (v := some (.int (-1 : Int32))) (fun h => by rw [Bd.returns] at h; cases h)
                      refine ⟨_, _, retI X0 hx Bd.returns (hb hby d1_262) hr, hrun, hended, _, _, rfl, ?_, ⟨_, rfl⟩, hW, hsame.mono (by decide) (by decide)⟩
                      show Q_rmSeq Z a s_ en kl vs t_0 t_1 t_2 t_3 ld c1 c2 c3 h0 n0 _ s₁.heap _
                      rw [e0]
                      refine ⟨_, rfl, ?_, N0, rfl⟩
                      obtain ⟨z1, z2, z3, z4, z5, z6⟩ := own_s s_ hs
                      have t0 := (not_congr (own_ltC (194) (by decide))).mp kc0
                      have t1 := (not_congr (own_ltC (224) (by decide))).mp kc1
                      have t2 := (not_congr (own_ltC (225) (by decide))).mp kc2
                      have t3 := (not_congr (own_ltC (237) (by decide))).mp kc3
                      have t4 := (not_congr (own_ltC (238) (by decide))).mp kc4
                      have t5 := (not_congr (own_ltC (240) (by decide))).mp kc5
                      have t6 := (own_ltC (241) (by decide)).mp kc6
                      have t7 := (own_lt2).mp hc160
                      have t8 := (not_congr (own_ltC (144) (by decide))).mp hc207
                      have t9 := (own_Clt (191) (by decide)).mp hc214
                      have y0 := own_sh c2
                      have y1 := own_sh c3
                      exact own_A0 (by unfold own_P1; omega) (by unfold own_P2; omega) (by unfold own_P3; omega)
                    · refine own_go (fun _ => XS.icmpNo X0.here hx rfl (hb hby d1_214) rfl (flt hc214).2.2.1) ?_
                      show own_Ends p e below s₁ (mkF m 217 #[.val (.ref a), .val (.int s_), .val (.int en), .val (.int ld), .val (.int (3 : Int32)), .val (.int (144 : Int32)), .val (.int (191 : Int32)), .val (.int (1 : Int32)), .val (.int (1 : Int32)), .val (.int c1)] []) _
                      refine own_go (fun _ => XS.iconst X0.here hx rfl (hb hby d1_217)) ?_
                      refine own_go (fun _ => XS.goto X0.here hx rfl (pc0 := 218) (pc' := 239) rfl (hb hby d1_218) (by decide) (by decide)) ?_
                      refine own_go (fun _ => XS.istore X0.here hx rfl (hb hby d1_239) rfl (l' := #[.val (.ref a), .val (.int s_), .val (.int en), .val (.int ld), .val (.int (3 : Int32)), .val (.int (144 : Int32)), .val (.int (191 : Int32)), .val (.int (1 : Int32)), .val (.int (1 : Int32)), .val (.int c1)]) rfl) ?_
                      show own_Ends p e below s₁ (mkF m 241 #[.val (.ref a), .val (.int s_), .val (.int en), .val (.int ld), .val (.int (3 : Int32)), .val (.int (144 : Int32)), .val (.int (191 : Int32)), .val (.int (1 : Int32)), .val (.int (1 : Int32)), .val (.int c1)] []) _
                      refine own_go (fun _ => XS.iinc X0.here hx rfl (hb hby d1_241) rfl (l' := #[.val (.ref a), .val (.int s_), .val (.int en), .val (.int ld), .val (.int (3 : Int32)), .val (.int (144 : Int32)), .val (.int (191 : Int32)), .val (.int (1 : Int32)), .val (.int (2 : Int32)), .val (.int c1)]) rfl) ?_
                      show own_Ends p e below s₁ (mkF m 244 #[.val (.ref a), .val (.int s_), .val (.int en), .val (.int ld), .val (.int (3 : Int32)), .val (.int (144 : Int32)), .val (.int (191 : Int32)), .val (.int (1 : Int32)), .val (.int (2 : Int32)), .val (.int c1)] []) _
                      refine own_go (fun _ => XS.goto X0.here hx rfl (pc0 := 244) (pc' := 173) rfl (hb hby d1_244) (by decide) (by decide)) ?_
                      refine own_go (fun _ => XS.iload X0.here hx rfl (hb hby d1_173) rfl) ?_
                      show own_Ends p e below s₁ (mkF m 175 #[.val (.ref a), .val (.int s_), .val (.int en), .val (.int ld), .val (.int (3 : Int32)), .val (.int (144 : Int32)), .val (.int (191 : Int32)), .val (.int (1 : Int32)), .val (.int (2 : Int32)), .val (.int c1)] [(.int (1 : Int32))]) _
                      refine own_go (fun _ => XS.ifNo X0.here hx rfl (hb hby d1_175) rfl ((if0 _ _).trans (feq (show ¬ ((1 : Int32) = (0 : Int32)) from by decide)).1)) ?_
                      show own_Ends p e below s₁ (mkF m 178 #[.val (.ref a), .val (.int s_), .val (.int en), .val (.int ld), .val (.int (3 : Int32)), .val (.int (144 : Int32)), .val (.int (191 : Int32)), .val (.int (1 : Int32)), .val (.int (2 : Int32)), .val (.int c1)] []) _
                      refine own_go (fun _ => XS.iload X0.here hx rfl (hb hby d1_178) rfl) ?_
                      refine own_go (fun _ => XS.iload X0.here hx rfl (hb hby d1_180) rfl) ?_
                      show own_Ends p e below s₁ (mkF m 182 #[.val (.ref a), .val (.int s_), .val (.int en), .val (.int ld), .val (.int (3 : Int32)), .val (.int (144 : Int32)), .val (.int (191 : Int32)), .val (.int (1 : Int32)), .val (.int (2 : Int32)), .val (.int c1)] [(.int (3 : Int32)), (.int (2 : Int32))]) _
                      refine own_go (fun _ => XS.icmpNo X0.here hx rfl (hb hby d1_182) rfl (flt (show ¬ ((3 : Int32) < (2 : Int32)) from by decide)).2.2.1) ?_
                      show own_Ends p e below s₁ (mkF m 185 #[.val (.ref a), .val (.int s_), .val (.int en), .val (.int ld), .val (.int (3 : Int32)), .val (.int (144 : Int32)), .val (.int (191 : Int32)), .val (.int (1 : Int32)), .val (.int (2 : Int32)), .val (.int c1)] []) _
                      refine own_go (fun _ => XS.aloadN X0.here hx rfl (hb hby d1_185) rfl rfl) ?_
                      refine own_go (fun _ => XS.iloadN X0.here hx rfl (hb hby d1_186) rfl) ?_
                      refine own_go (fun _ => XS.iload X0.here hx rfl (hb hby d1_187) rfl) ?_
                      refine own_go (fun _ => XS.iadd X0.here hx rfl (hb hby d1_189) rfl) ?_
                      show own_Ends p e below s₁ (mkF m 190 #[.val (.ref a), .val (.int s_), .val (.int en), .val (.int ld), .val (.int (3 : Int32)), .val (.int (144 : Int32)), .val (.int (191 : Int32)), .val (.int (1 : Int32)), .val (.int (2 : Int32)), .val (.int c1)] [(.int (s_ + (2 : Int32))), (.ref a)]) _
                      obtain ⟨cl_12, Ar_12, q_12, S_12, M_12, H_12, G_12⟩ := V_a_r11
                      have hin12 : ¬ ((s_ + (2 : Int32)) < 0 ∨ cl_12.slots.size ≤ ((s_ + (2 : Int32))).toNatClampNeg) := inb_of S_12 (own_in s_ hs).2.2.1
                      have hat12 : cl_12.slots[((s_ + (2 : Int32))).toNatClampNeg]? = some (.int t_2) := Has.at H_12 hin12 (hva2)
                      refine own_go (X0.baloadBytes hx (j := (s_ + (2 : Int32))) (v := (.int t_2)) (by rw [e0]; exact Ar_12.1) (State.isArrayOf_alike hZ.alike Ar_12.2.1) Ar_12.2.2 hin12 hat12 (g := (mkF m 190 #[.val (.ref a), .val (.int s_), .val (.int en), .val (.int ld), .val (.int (3 : Int32)), .val (.int (144 : Int32)), .val (.int (191 : Int32)), .val (.int (1 : Int32)), .val (.int (2 : Int32)), .val (.int c1)] [(.int (s_ + (2 : Int32))), (.ref a)])) rfl rfl (hb hby d1_190)) ?_
                      have V_a_r12 : Arv Z h0 a kl .byte (6 : Int32) vs (.int (0 : Int32)) := ⟨cl_12, Ar_12, q_12, S_12, M_12, H_12, G_12⟩
                      show own_Ends p e below s₁ (mkF m 191 #[.val (.ref a), .val (.int s_), .val (.int en), .val (.int ld), .val (.int (3 : Int32)), .val (.int (144 : Int32)), .val (.int (191 : Int32)), .val (.int (1 : Int32)), .val (.int (2 : Int32)), .val (.int c1)] [(.int t_2)]) _
                      refine own_go (fun _ => XS.sipush X0.here hx rfl (hb hby d1_191)) ?_
                      refine own_go (fun _ => XS.iand X0.here hx rfl (hb hby d1_194) rfl) ?_
                      show own_Ends p e below s₁ (mkF m 195 #[.val (.ref a), .val (.int s_), .val (.int en), .val (.int ld), .val (.int (3 : Int32)), .val (.int (144 : Int32)), .val (.int (191 : Int32)), .val (.int (1 : Int32)), .val (.int (2 : Int32)), .val (.int c1)] [(.int (t_2 &&& (255 : Int32)))]) _
                      refine own_go (fun _ => XS.istore X0.here hx rfl (hb hby d1_195) rfl (l' := #[.val (.ref a), .val (.int s_), .val (.int en), .val (.int ld), .val (.int (3 : Int32)), .val (.int (144 : Int32)), .val (.int (191 : Int32)), .val (.int (1 : Int32)), .val (.int (2 : Int32)), .val (.int (t_2 &&& (255 : Int32)))]) rfl) ?_
                      show own_Ends p e below s₁ (mkF m 197 #[.val (.ref a), .val (.int s_), .val (.int en), .val (.int ld), .val (.int (3 : Int32)), .val (.int (144 : Int32)), .val (.int (191 : Int32)), .val (.int (1 : Int32)), .val (.int (2 : Int32)), .val (.int (t_2 &&& (255 : Int32)))] []) _
                      rw [hl2]
                      show own_Ends p e below s₁ (mkF m 197 #[.val (.ref a), .val (.int s_), .val (.int en), .val (.int ld), .val (.int (3 : Int32)), .val (.int (144 : Int32)), .val (.int (191 : Int32)), .val (.int (1 : Int32)), .val (.int (2 : Int32)), .val (.int c2)] []) _
                      refine own_go (fun _ => XS.iload X0.here hx rfl (hb hby d1_197) rfl) ?_
                      refine own_go (fun _ => XS.iconst X0.here hx rfl (hb hby d1_199)) ?_
                      show own_Ends p e below s₁ (mkF m 200 #[.val (.ref a), .val (.int s_), .val (.int en), .val (.int ld), .val (.int (3 : Int32)), .val (.int (144 : Int32)), .val (.int (191 : Int32)), .val (.int (1 : Int32)), .val (.int (2 : Int32)), .val (.int c2)] [(.int (1 : Int32)), (.int (2 : Int32))]) _
                      refine own_go (fun _ => XS.icmpYes X0.here hx rfl (pc0 := 200) (pc' := 225) rfl (hb hby d1_200) rfl (feq (show ¬ ((2 : Int32) = (1 : Int32)) from by decide)).2 (by decide) (by decide)) ?_
                      show own_Ends p e below s₁ (mkF m 225 #[.val (.ref a), .val (.int s_), .val (.int en), .val (.int ld), .val (.int (3 : Int32)), .val (.int (144 : Int32)), .val (.int (191 : Int32)), .val (.int (1 : Int32)), .val (.int (2 : Int32)), .val (.int c2)] []) _
                      refine own_go (fun _ => XS.iload X0.here hx rfl (hb hby d1_225) rfl) ?_
                      refine own_go (fun _ => XS.bipush X0.here hx rfl (hb hby d1_227)) ?_
                      refine own_go (fun _ => XS.ishr X0.here hx rfl (hb hby d1_229) rfl) ?_
                      show own_Ends p e below s₁ (mkF m 230 #[.val (.ref a), .val (.int s_), .val (.int en), .val (.int ld), .val (.int (3 : Int32)), .val (.int (144 : Int32)), .val (.int (191 : Int32)), .val (.int (1 : Int32)), .val (.int (2 : Int32)), .val (.int c2)] [(.int (c2 >>> ((6 : Int32) &&& 31)))]) _
                      refine own_go (fun _ => XS.iconst X0.here hx rfl (hb hby d1_230)) ?_
                      show own_Ends p e below s₁ (mkF m 231 #[.val (.ref a), .val (.int s_), .val (.int en), .val (.int ld), .val (.int (3 : Int32)), .val (.int (144 : Int32)), .val (.int (191 : Int32)), .val (.int (1 : Int32)), .val (.int (2 : Int32)), .val (.int c2)] [(.int (2 : Int32)), (.int (c2 >>> ((6 : Int32) &&& 31)))]) _
                      by_cases hc231 : (c2 >>> ((6 : Int32) &&& 31)) = (2 : Int32)
                      · refine own_go (fun _ => XS.icmpNo X0.here hx rfl (hb hby d1_231) rfl (teq hc231).2) ?_
                        show own_Ends p e below s₁ (mkF m 234 #[.val (.ref a), .val (.int s_), .val (.int en), .val (.int ld), .val (.int (3 : Int32)), .val (.int (144 : Int32)), .val (.int (191 : Int32)), .val (.int (1 : Int32)), .val (.int (2 : Int32)), .val (.int c2)] []) _
                        refine own_go (fun _ => XS.iconst X0.here hx rfl (hb hby d1_234)) ?_
                        refine own_go (fun _ => XS.goto X0.here hx rfl (pc0 := 235) (pc' := 239) rfl (hb hby d1_235) (by decide) (by decide)) ?_
                        refine own_go (fun _ => XS.istore X0.here hx rfl (hb hby d1_239) rfl (l' := #[.val (.ref a), .val (.int s_), .val (.int en), .val (.int ld), .val (.int (3 : Int32)), .val (.int (144 : Int32)), .val (.int (191 : Int32)), .val (.int (1 : Int32)), .val (.int (2 : Int32)), .val (.int c2)]) rfl) ?_
                        show own_Ends p e below s₁ (mkF m 241 #[.val (.ref a), .val (.int s_), .val (.int en), .val (.int ld), .val (.int (3 : Int32)), .val (.int (144 : Int32)), .val (.int (191 : Int32)), .val (.int (1 : Int32)), .val (.int (2 : Int32)), .val (.int c2)] []) _
                        refine own_go (fun _ => XS.iinc X0.here hx rfl (hb hby d1_241) rfl (l' := #[.val (.ref a), .val (.int s_), .val (.int en), .val (.int ld), .val (.int (3 : Int32)), .val (.int (144 : Int32)), .val (.int (191 : Int32)), .val (.int (1 : Int32)), .val (.int (3 : Int32)), .val (.int c2)]) rfl) ?_
                        show own_Ends p e below s₁ (mkF m 244 #[.val (.ref a), .val (.int s_), .val (.int en), .val (.int ld), .val (.int (3 : Int32)), .val (.int (144 : Int32)), .val (.int (191 : Int32)), .val (.int (1 : Int32)), .val (.int (3 : Int32)), .val (.int c2)] []) _
                        refine own_go (fun _ => XS.goto X0.here hx rfl (pc0 := 244) (pc' := 173) rfl (hb hby d1_244) (by decide) (by decide)) ?_
                        refine own_go (fun _ => XS.iload X0.here hx rfl (hb hby d1_173) rfl) ?_
                        show own_Ends p e below s₁ (mkF m 175 #[.val (.ref a), .val (.int s_), .val (.int en), .val (.int ld), .val (.int (3 : Int32)), .val (.int (144 : Int32)), .val (.int (191 : Int32)), .val (.int (1 : Int32)), .val (.int (3 : Int32)), .val (.int c2)] [(.int (1 : Int32))]) _
                        refine own_go (fun _ => XS.ifNo X0.here hx rfl (hb hby d1_175) rfl ((if0 _ _).trans (feq (show ¬ ((1 : Int32) = (0 : Int32)) from by decide)).1)) ?_
                        show own_Ends p e below s₁ (mkF m 178 #[.val (.ref a), .val (.int s_), .val (.int en), .val (.int ld), .val (.int (3 : Int32)), .val (.int (144 : Int32)), .val (.int (191 : Int32)), .val (.int (1 : Int32)), .val (.int (3 : Int32)), .val (.int c2)] []) _
                        refine own_go (fun _ => XS.iload X0.here hx rfl (hb hby d1_178) rfl) ?_
                        refine own_go (fun _ => XS.iload X0.here hx rfl (hb hby d1_180) rfl) ?_
                        show own_Ends p e below s₁ (mkF m 182 #[.val (.ref a), .val (.int s_), .val (.int en), .val (.int ld), .val (.int (3 : Int32)), .val (.int (144 : Int32)), .val (.int (191 : Int32)), .val (.int (1 : Int32)), .val (.int (3 : Int32)), .val (.int c2)] [(.int (3 : Int32)), (.int (3 : Int32))]) _
                        refine own_go (fun _ => XS.icmpNo X0.here hx rfl (hb hby d1_182) rfl (flt (show ¬ ((3 : Int32) < (3 : Int32)) from by decide)).2.2.1) ?_
                        show own_Ends p e below s₁ (mkF m 185 #[.val (.ref a), .val (.int s_), .val (.int en), .val (.int ld), .val (.int (3 : Int32)), .val (.int (144 : Int32)), .val (.int (191 : Int32)), .val (.int (1 : Int32)), .val (.int (3 : Int32)), .val (.int c2)] []) _
                        refine own_go (fun _ => XS.aloadN X0.here hx rfl (hb hby d1_185) rfl rfl) ?_
                        refine own_go (fun _ => XS.iloadN X0.here hx rfl (hb hby d1_186) rfl) ?_
                        refine own_go (fun _ => XS.iload X0.here hx rfl (hb hby d1_187) rfl) ?_
                        refine own_go (fun _ => XS.iadd X0.here hx rfl (hb hby d1_189) rfl) ?_
                        show own_Ends p e below s₁ (mkF m 190 #[.val (.ref a), .val (.int s_), .val (.int en), .val (.int ld), .val (.int (3 : Int32)), .val (.int (144 : Int32)), .val (.int (191 : Int32)), .val (.int (1 : Int32)), .val (.int (3 : Int32)), .val (.int c2)] [(.int (s_ + (3 : Int32))), (.ref a)]) _
                        obtain ⟨cl_13, Ar_13, q_13, S_13, M_13, H_13, G_13⟩ := V_a_r12
                        have hin13 : ¬ ((s_ + (3 : Int32)) < 0 ∨ cl_13.slots.size ≤ ((s_ + (3 : Int32))).toNatClampNeg) := inb_of S_13 (own_in s_ hs).2.2.2
                        have hat13 : cl_13.slots[((s_ + (3 : Int32))).toNatClampNeg]? = some (.int t_3) := Has.at H_13 hin13 (hva3)
                        refine own_go (X0.baloadBytes hx (j := (s_ + (3 : Int32))) (v := (.int t_3)) (by rw [e0]; exact Ar_13.1) (State.isArrayOf_alike hZ.alike Ar_13.2.1) Ar_13.2.2 hin13 hat13 (g := (mkF m 190 #[.val (.ref a), .val (.int s_), .val (.int en), .val (.int ld), .val (.int (3 : Int32)), .val (.int (144 : Int32)), .val (.int (191 : Int32)), .val (.int (1 : Int32)), .val (.int (3 : Int32)), .val (.int c2)] [(.int (s_ + (3 : Int32))), (.ref a)])) rfl rfl (hb hby d1_190)) ?_
                        have V_a_r13 : Arv Z h0 a kl .byte (6 : Int32) vs (.int (0 : Int32)) := ⟨cl_13, Ar_13, q_13, S_13, M_13, H_13, G_13⟩
                        show own_Ends p e below s₁ (mkF m 191 #[.val (.ref a), .val (.int s_), .val (.int en), .val (.int ld), .val (.int (3 : Int32)), .val (.int (144 : Int32)), .val (.int (191 : Int32)), .val (.int (1 : Int32)), .val (.int (3 : Int32)), .val (.int c2)] [(.int t_3)]) _
                        refine own_go (fun _ => XS.sipush X0.here hx rfl (hb hby d1_191)) ?_
                        refine own_go (fun _ => XS.iand X0.here hx rfl (hb hby d1_194) rfl) ?_
                        show own_Ends p e below s₁ (mkF m 195 #[.val (.ref a), .val (.int s_), .val (.int en), .val (.int ld), .val (.int (3 : Int32)), .val (.int (144 : Int32)), .val (.int (191 : Int32)), .val (.int (1 : Int32)), .val (.int (3 : Int32)), .val (.int c2)] [(.int (t_3 &&& (255 : Int32)))]) _
                        refine own_go (fun _ => XS.istore X0.here hx rfl (hb hby d1_195) rfl (l' := #[.val (.ref a), .val (.int s_), .val (.int en), .val (.int ld), .val (.int (3 : Int32)), .val (.int (144 : Int32)), .val (.int (191 : Int32)), .val (.int (1 : Int32)), .val (.int (3 : Int32)), .val (.int (t_3 &&& (255 : Int32)))]) rfl) ?_
                        show own_Ends p e below s₁ (mkF m 197 #[.val (.ref a), .val (.int s_), .val (.int en), .val (.int ld), .val (.int (3 : Int32)), .val (.int (144 : Int32)), .val (.int (191 : Int32)), .val (.int (1 : Int32)), .val (.int (3 : Int32)), .val (.int (t_3 &&& (255 : Int32)))] []) _
                        rw [hl3]
                        show own_Ends p e below s₁ (mkF m 197 #[.val (.ref a), .val (.int s_), .val (.int en), .val (.int ld), .val (.int (3 : Int32)), .val (.int (144 : Int32)), .val (.int (191 : Int32)), .val (.int (1 : Int32)), .val (.int (3 : Int32)), .val (.int c3)] []) _
                        refine own_go (fun _ => XS.iload X0.here hx rfl (hb hby d1_197) rfl) ?_
                        refine own_go (fun _ => XS.iconst X0.here hx rfl (hb hby d1_199)) ?_
                        show own_Ends p e below s₁ (mkF m 200 #[.val (.ref a), .val (.int s_), .val (.int en), .val (.int ld), .val (.int (3 : Int32)), .val (.int (144 : Int32)), .val (.int (191 : Int32)), .val (.int (1 : Int32)), .val (.int (3 : Int32)), .val (.int c3)] [(.int (1 : Int32)), (.int (3 : Int32))]) _
                        refine own_go (fun _ => XS.icmpYes X0.here hx rfl (pc0 := 200) (pc' := 225) rfl (hb hby d1_200) rfl (feq (show ¬ ((3 : Int32) = (1 : Int32)) from by decide)).2 (by decide) (by decide)) ?_
                        show own_Ends p e below s₁ (mkF m 225 #[.val (.ref a), .val (.int s_), .val (.int en), .val (.int ld), .val (.int (3 : Int32)), .val (.int (144 : Int32)), .val (.int (191 : Int32)), .val (.int (1 : Int32)), .val (.int (3 : Int32)), .val (.int c3)] []) _
                        refine own_go (fun _ => XS.iload X0.here hx rfl (hb hby d1_225) rfl) ?_
                        refine own_go (fun _ => XS.bipush X0.here hx rfl (hb hby d1_227)) ?_
                        refine own_go (fun _ => XS.ishr X0.here hx rfl (hb hby d1_229) rfl) ?_
                        show own_Ends p e below s₁ (mkF m 230 #[.val (.ref a), .val (.int s_), .val (.int en), .val (.int ld), .val (.int (3 : Int32)), .val (.int (144 : Int32)), .val (.int (191 : Int32)), .val (.int (1 : Int32)), .val (.int (3 : Int32)), .val (.int c3)] [(.int (c3 >>> ((6 : Int32) &&& 31)))]) _
                        refine own_go (fun _ => XS.iconst X0.here hx rfl (hb hby d1_230)) ?_
                        show own_Ends p e below s₁ (mkF m 231 #[.val (.ref a), .val (.int s_), .val (.int en), .val (.int ld), .val (.int (3 : Int32)), .val (.int (144 : Int32)), .val (.int (191 : Int32)), .val (.int (1 : Int32)), .val (.int (3 : Int32)), .val (.int c3)] [(.int (2 : Int32)), (.int (c3 >>> ((6 : Int32) &&& 31)))]) _
                        by_cases hc231_1 : (c3 >>> ((6 : Int32) &&& 31)) = (2 : Int32)
                        · refine own_go (fun _ => XS.icmpNo X0.here hx rfl (hb hby d1_231) rfl (teq hc231_1).2) ?_
                          show own_Ends p e below s₁ (mkF m 234 #[.val (.ref a), .val (.int s_), .val (.int en), .val (.int ld), .val (.int (3 : Int32)), .val (.int (144 : Int32)), .val (.int (191 : Int32)), .val (.int (1 : Int32)), .val (.int (3 : Int32)), .val (.int c3)] []) _
                          refine own_go (fun _ => XS.iconst X0.here hx rfl (hb hby d1_234)) ?_
                          refine own_go (fun _ => XS.goto X0.here hx rfl (pc0 := 235) (pc' := 239) rfl (hb hby d1_235) (by decide) (by decide)) ?_
                          refine own_go (fun _ => XS.istore X0.here hx rfl (hb hby d1_239) rfl (l' := #[.val (.ref a), .val (.int s_), .val (.int en), .val (.int ld), .val (.int (3 : Int32)), .val (.int (144 : Int32)), .val (.int (191 : Int32)), .val (.int (1 : Int32)), .val (.int (3 : Int32)), .val (.int c3)]) rfl) ?_
                          show own_Ends p e below s₁ (mkF m 241 #[.val (.ref a), .val (.int s_), .val (.int en), .val (.int ld), .val (.int (3 : Int32)), .val (.int (144 : Int32)), .val (.int (191 : Int32)), .val (.int (1 : Int32)), .val (.int (3 : Int32)), .val (.int c3)] []) _
                          refine own_go (fun _ => XS.iinc X0.here hx rfl (hb hby d1_241) rfl (l' := #[.val (.ref a), .val (.int s_), .val (.int en), .val (.int ld), .val (.int (3 : Int32)), .val (.int (144 : Int32)), .val (.int (191 : Int32)), .val (.int (1 : Int32)), .val (.int (4 : Int32)), .val (.int c3)]) rfl) ?_
                          show own_Ends p e below s₁ (mkF m 244 #[.val (.ref a), .val (.int s_), .val (.int en), .val (.int ld), .val (.int (3 : Int32)), .val (.int (144 : Int32)), .val (.int (191 : Int32)), .val (.int (1 : Int32)), .val (.int (4 : Int32)), .val (.int c3)] []) _
                          refine own_go (fun _ => XS.goto X0.here hx rfl (pc0 := 244) (pc' := 173) rfl (hb hby d1_244) (by decide) (by decide)) ?_
                          refine own_go (fun _ => XS.iload X0.here hx rfl (hb hby d1_173) rfl) ?_
                          show own_Ends p e below s₁ (mkF m 175 #[.val (.ref a), .val (.int s_), .val (.int en), .val (.int ld), .val (.int (3 : Int32)), .val (.int (144 : Int32)), .val (.int (191 : Int32)), .val (.int (1 : Int32)), .val (.int (4 : Int32)), .val (.int c3)] [(.int (1 : Int32))]) _
                          refine own_go (fun _ => XS.ifNo X0.here hx rfl (hb hby d1_175) rfl ((if0 _ _).trans (feq (show ¬ ((1 : Int32) = (0 : Int32)) from by decide)).1)) ?_
                          show own_Ends p e below s₁ (mkF m 178 #[.val (.ref a), .val (.int s_), .val (.int en), .val (.int ld), .val (.int (3 : Int32)), .val (.int (144 : Int32)), .val (.int (191 : Int32)), .val (.int (1 : Int32)), .val (.int (4 : Int32)), .val (.int c3)] []) _
                          refine own_go (fun _ => XS.iload X0.here hx rfl (hb hby d1_178) rfl) ?_
                          refine own_go (fun _ => XS.iload X0.here hx rfl (hb hby d1_180) rfl) ?_
                          show own_Ends p e below s₁ (mkF m 182 #[.val (.ref a), .val (.int s_), .val (.int en), .val (.int ld), .val (.int (3 : Int32)), .val (.int (144 : Int32)), .val (.int (191 : Int32)), .val (.int (1 : Int32)), .val (.int (4 : Int32)), .val (.int c3)] [(.int (3 : Int32)), (.int (4 : Int32))]) _
                          refine own_go (fun _ => XS.icmpYes X0.here hx rfl (pc0 := 182) (pc' := 247) rfl (hb hby d1_182) rfl (tlt (show (3 : Int32) < (4 : Int32) from by decide)).2.2.1 (by decide) (by decide)) ?_
                          show own_Ends p e below s₁ (mkF m 247 #[.val (.ref a), .val (.int s_), .val (.int en), .val (.int ld), .val (.int (3 : Int32)), .val (.int (144 : Int32)), .val (.int (191 : Int32)), .val (.int (1 : Int32)), .val (.int (4 : Int32)), .val (.int c3)] []) _
                          refine own_go (fun _ => XS.iload X0.here hx rfl (hb hby d1_247) rfl) ?_
                          show own_Ends p e below s₁ (mkF m 249 #[.val (.ref a), .val (.int s_), .val (.int en), .val (.int ld), .val (.int (3 : Int32)), .val (.int (144 : Int32)), .val (.int (191 : Int32)), .val (.int (1 : Int32)), .val (.int (4 : Int32)), .val (.int c3)] [(.int (1 : Int32))]) _
                          refine own_go (fun _ => XS.ifNo X0.here hx rfl (hb hby d1_249) rfl ((if0 _ _).trans (feq (show ¬ ((1 : Int32) = (0 : Int32)) from by decide)).1)) ?_
                          show own_Ends p e below s₁ (mkF m 252 #[.val (.ref a), .val (.int s_), .val (.int en), .val (.int ld), .val (.int (3 : Int32)), .val (.int (144 : Int32)), .val (.int (191 : Int32)), .val (.int (1 : Int32)), .val (.int (4 : Int32)), .val (.int c3)] []) _
                          refine own_go (fun _ => XS.iloadN X0.here hx rfl (hb hby d1_252) rfl) ?_
                          refine own_go (fun _ => XS.iload X0.here hx rfl (hb hby d1_253) rfl) ?_
                          refine own_go (fun _ => XS.iadd X0.here hx rfl (hb hby d1_255) rfl) ?_
                          show own_Ends p e below s₁ (mkF m 256 #[.val (.ref a), .val (.int s_), .val (.int en), .val (.int ld), .val (.int (3 : Int32)), .val (.int (144 : Int32)), .val (.int (191 : Int32)), .val (.int (1 : Int32)), .val (.int (4 : Int32)), .val (.int c3)] [(.int (s_ + (3 : Int32)))]) _
                          refine own_go (fun _ => XS.iconst X0.here hx rfl (hb hby d1_256)) ?_
                          refine own_go (fun _ => XS.iadd X0.here hx rfl (hb hby d1_257) rfl) ?_
                          show own_Ends p e below s₁ (mkF m 258 #[.val (.ref a), .val (.int s_), .val (.int en), .val (.int ld), .val (.int (3 : Int32)), .val (.int (144 : Int32)), .val (.int (191 : Int32)), .val (.int (1 : Int32)), .val (.int (4 : Int32)), .val (.int c3)] [(.int ((s_ + (3 : Int32)) + (1 : Int32)))]) _
                          refine own_go (fun _ => XS.goto X0.here hx rfl (pc0 := 258) (pc' := 262) rfl (hb hby d1_258) (by decide) (by decide)) ?_
                          obtain ⟨fs, hr, hrun, hended, hW, hsame⟩ := X0.leave (v := some (.int ((s_ + (3 : Int32)) + (1 : Int32)))) (fun h => by rw [Bd.returns] at h; cases h)
                          refine ⟨_, _, retI X0 hx Bd.returns (hb hby d1_262) hr, hrun, hended, _, _, rfl, ?_, ⟨_, rfl⟩, hW, hsame.mono (by decide) (by decide)⟩
                          show Q_rmSeq Z a s_ en kl vs t_0 t_1 t_2 t_3 ld c1 c2 c3 h0 n0 _ s₁.heap _
                          rw [e0]
                          refine ⟨_, rfl, ?_, N0, rfl⟩
                          obtain ⟨z1, z2, z3, z4, z5, z6⟩ := own_s s_ hs
                          have t0 := (not_congr (own_ltC (194) (by decide))).mp kc0
                          have t1 := (not_congr (own_ltC (224) (by decide))).mp kc1
                          have t2 := (not_congr (own_ltC (225) (by decide))).mp kc2
                          have t3 := (not_congr (own_ltC (237) (by decide))).mp kc3
                          have t4 := (not_congr (own_ltC (238) (by decide))).mp kc4
                          have t5 := (not_congr (own_ltC (240) (by decide))).mp kc5
                          have t6 := (own_ltC (241) (by decide)).mp kc6
                          have t7 := (own_lt2).mp hc160
                          have t8 := (not_congr (own_ltC (144) (by decide))).mp hc207
                          have t9 := (not_congr (own_Clt (191) (by decide))).mp hc214
                          have t10 := (own_eqC (2) (by decide)).mp hc231
                          have t11 := (own_eqC (2) (by decide)).mp hc231_1
                          have y0 := own_sh c2
                          have y1 := own_sh c3
                          exact own_A3 (by unfold own_P3; omega) (own_as4 _)
                        · refine own_go (fun _ => XS.icmpYes X0.here hx rfl (pc0 := 231) (pc' := 238) rfl (hb hby d1_231) rfl (feq hc231_1).2 (by decide) (by decide)) ?_
                          show own_Ends p e below s₁ (mkF m 238 #[.val (.ref a), .val (.int s_), .val (.int en), .val (.int ld), .val (.int (3 : Int32)), .val (.int (144 : Int32)), .val (.int (191 : Int32)), .val (.int (1 : Int32)), .val (.int (3 : Int32)), .val (.int c3)] []) _
                          refine own_go (fun _ => XS.iconst X0.here hx rfl (hb hby d1_238)) ?_
                          refine own_go (fun _ => XS.istore X0.here hx rfl (hb hby d1_239) rfl (l' := #[.val (.ref a), .val (.int s_), .val (.int en), .val (.int ld), .val (.int (3 : Int32)), .val (.int (144 : Int32)), .val (.int (191 : Int32)), .val (.int (0 : Int32)), .val (.int (3 : Int32)), .val (.int c3)]) rfl) ?_
                          show own_Ends p e below s₁ (mkF m 241 #[.val (.ref a), .val (.int s_), .val (.int en), .val (.int ld), .val (.int (3 : Int32)), .val (.int (144 : Int32)), .val (.int (191 : Int32)), .val (.int (0 : Int32)), .val (.int (3 : Int32)), .val (.int c3)] []) _
                          refine own_go (fun _ => XS.iinc X0.here hx rfl (hb hby d1_241) rfl (l' := #[.val (.ref a), .val (.int s_), .val (.int en), .val (.int ld), .val (.int (3 : Int32)), .val (.int (144 : Int32)), .val (.int (191 : Int32)), .val (.int (0 : Int32)), .val (.int (4 : Int32)), .val (.int c3)]) rfl) ?_
                          show own_Ends p e below s₁ (mkF m 244 #[.val (.ref a), .val (.int s_), .val (.int en), .val (.int ld), .val (.int (3 : Int32)), .val (.int (144 : Int32)), .val (.int (191 : Int32)), .val (.int (0 : Int32)), .val (.int (4 : Int32)), .val (.int c3)] []) _
                          refine own_go (fun _ => XS.goto X0.here hx rfl (pc0 := 244) (pc' := 173) rfl (hb hby d1_244) (by decide) (by decide)) ?_
                          refine own_go (fun _ => XS.iload X0.here hx rfl (hb hby d1_173) rfl) ?_
                          show own_Ends p e below s₁ (mkF m 175 #[.val (.ref a), .val (.int s_), .val (.int en), .val (.int ld), .val (.int (3 : Int32)), .val (.int (144 : Int32)), .val (.int (191 : Int32)), .val (.int (0 : Int32)), .val (.int (4 : Int32)), .val (.int c3)] [(.int (0 : Int32))]) _
                          refine own_go (fun _ => XS.ifYes X0.here hx rfl (pc0 := 175) (pc' := 247) rfl (hb hby d1_175) rfl ((if0 _ _).trans (teq (show (0 : Int32) = (0 : Int32) from by decide)).1) (by decide) (by decide)) ?_
                          show own_Ends p e below s₁ (mkF m 247 #[.val (.ref a), .val (.int s_), .val (.int en), .val (.int ld), .val (.int (3 : Int32)), .val (.int (144 : Int32)), .val (.int (191 : Int32)), .val (.int (0 : Int32)), .val (.int (4 : Int32)), .val (.int c3)] []) _
                          refine own_go (fun _ => XS.iload X0.here hx rfl (hb hby d1_247) rfl) ?_
                          show own_Ends p e below s₁ (mkF m 249 #[.val (.ref a), .val (.int s_), .val (.int en), .val (.int ld), .val (.int (3 : Int32)), .val (.int (144 : Int32)), .val (.int (191 : Int32)), .val (.int (0 : Int32)), .val (.int (4 : Int32)), .val (.int c3)] [(.int (0 : Int32))]) _
                          refine own_go (fun _ => XS.ifYes X0.here hx rfl (pc0 := 249) (pc' := 261) rfl (hb hby d1_249) rfl ((if0 _ _).trans (teq (show (0 : Int32) = (0 : Int32) from by decide)).1) (by decide) (by decide)) ?_
                          show own_Ends p e below s₁ (mkF m 261 #[.val (.ref a), .val (.int s_), .val (.int en), .val (.int ld), .val (.int (3 : Int32)), .val (.int (144 : Int32)), .val (.int (191 : Int32)), .val (.int (0 : Int32)), .val (.int (4 : Int32)), .val (.int c3)] []) _
                          refine own_go (fun _ => XS.iconst X0.here hx rfl (hb hby d1_261)) ?_
                          obtain ⟨fs, hr, hrun, hended, hW, hsame⟩ := X0.leave (v := some (.int (-1 : Int32))) (fun h => by rw [Bd.returns] at h; cases h)
                          refine ⟨_, _, retI X0 hx Bd.returns (hb hby d1_262) hr, hrun, hended, _, _, rfl, ?_, ⟨_, rfl⟩, hW, hsame.mono (by decide) (by decide)⟩
                          show Q_rmSeq Z a s_ en kl vs t_0 t_1 t_2 t_3 ld c1 c2 c3 h0 n0 _ s₁.heap _
                          rw [e0]
                          refine ⟨_, rfl, ?_, N0, rfl⟩
                          obtain ⟨z1, z2, z3, z4, z5, z6⟩ := own_s s_ hs
                          have t0 := (not_congr (own_ltC (194) (by decide))).mp kc0
                          have t1 := (not_congr (own_ltC (224) (by decide))).mp kc1
                          have t2 := (not_congr (own_ltC (225) (by decide))).mp kc2
                          have t3 := (not_congr (own_ltC (237) (by decide))).mp kc3
                          have t4 := (not_congr (own_ltC (238) (by decide))).mp kc4
                          have t5 := (not_congr (own_ltC (240) (by decide))).mp kc5
                          have t6 := (own_ltC (241) (by decide)).mp kc6
                          have t7 := (own_lt2).mp hc160
                          have t8 := (not_congr (own_ltC (144) (by decide))).mp hc207
                          have t9 := (not_congr (own_Clt (191) (by decide))).mp hc214
                          have t10 := (own_eqC (2) (by decide)).mp hc231
                          have t11 := (not_congr (own_eqC (2) (by decide))).mp hc231_1
                          have y0 := own_sh c2
                          have y1 := own_sh c3
                          exact own_A0 (by unfold own_P1; omega) (by unfold own_P2; omega) (by unfold own_P3; omega)
                      · refine own_go (fun _ => XS.icmpYes X0.here hx rfl (pc0 := 231) (pc' := 238) rfl (hb hby d1_231) rfl (feq hc231).2 (by decide) (by decide)) ?_
                        show own_Ends p e below s₁ (mkF m 238 #[.val (.ref a), .val (.int s_), .val (.int en), .val (.int ld), .val (.int (3 : Int32)), .val (.int (144 : Int32)), .val (.int (191 : Int32)), .val (.int (1 : Int32)), .val (.int (2 : Int32)), .val (.int c2)] []) _
                        refine own_go (fun _ => XS.iconst X0.here hx rfl (hb hby d1_238)) ?_
                        refine own_go (fun _ => XS.istore X0.here hx rfl (hb hby d1_239) rfl (l' := #[.val (.ref a), .val (.int s_), .val (.int en), .val (.int ld), .val (.int (3 : Int32)), .val (.int (144 : Int32)), .val (.int (191 : Int32)), .val (.int (0 : Int32)), .val (.int (2 : Int32)), .val (.int c2)]) rfl) ?_
                        show own_Ends p e below s₁ (mkF m 241 #[.val (.ref a), .val (.int s_), .val (.int en), .val (.int ld), .val (.int (3 : Int32)), .val (.int (144 : Int32)), .val (.int (191 : Int32)), .val (.int (0 : Int32)), .val (.int (2 : Int32)), .val (.int c2)] []) _
                        refine own_go (fun _ => XS.iinc X0.here hx rfl (hb hby d1_241) rfl (l' := #[.val (.ref a), .val (.int s_), .val (.int en), .val (.int ld), .val (.int (3 : Int32)), .val (.int (144 : Int32)), .val (.int (191 : Int32)), .val (.int (0 : Int32)), .val (.int (3 : Int32)), .val (.int c2)]) rfl) ?_
                        show own_Ends p e below s₁ (mkF m 244 #[.val (.ref a), .val (.int s_), .val (.int en), .val (.int ld), .val (.int (3 : Int32)), .val (.int (144 : Int32)), .val (.int (191 : Int32)), .val (.int (0 : Int32)), .val (.int (3 : Int32)), .val (.int c2)] []) _
                        refine own_go (fun _ => XS.goto X0.here hx rfl (pc0 := 244) (pc' := 173) rfl (hb hby d1_244) (by decide) (by decide)) ?_
                        refine own_go (fun _ => XS.iload X0.here hx rfl (hb hby d1_173) rfl) ?_
                        show own_Ends p e below s₁ (mkF m 175 #[.val (.ref a), .val (.int s_), .val (.int en), .val (.int ld), .val (.int (3 : Int32)), .val (.int (144 : Int32)), .val (.int (191 : Int32)), .val (.int (0 : Int32)), .val (.int (3 : Int32)), .val (.int c2)] [(.int (0 : Int32))]) _
                        refine own_go (fun _ => XS.ifYes X0.here hx rfl (pc0 := 175) (pc' := 247) rfl (hb hby d1_175) rfl ((if0 _ _).trans (teq (show (0 : Int32) = (0 : Int32) from by decide)).1) (by decide) (by decide)) ?_
                        show own_Ends p e below s₁ (mkF m 247 #[.val (.ref a), .val (.int s_), .val (.int en), .val (.int ld), .val (.int (3 : Int32)), .val (.int (144 : Int32)), .val (.int (191 : Int32)), .val (.int (0 : Int32)), .val (.int (3 : Int32)), .val (.int c2)] []) _
                        refine own_go (fun _ => XS.iload X0.here hx rfl (hb hby d1_247) rfl) ?_
                        show own_Ends p e below s₁ (mkF m 249 #[.val (.ref a), .val (.int s_), .val (.int en), .val (.int ld), .val (.int (3 : Int32)), .val (.int (144 : Int32)), .val (.int (191 : Int32)), .val (.int (0 : Int32)), .val (.int (3 : Int32)), .val (.int c2)] [(.int (0 : Int32))]) _
                        refine own_go (fun _ => XS.ifYes X0.here hx rfl (pc0 := 249) (pc' := 261) rfl (hb hby d1_249) rfl ((if0 _ _).trans (teq (show (0 : Int32) = (0 : Int32) from by decide)).1) (by decide) (by decide)) ?_
                        show own_Ends p e below s₁ (mkF m 261 #[.val (.ref a), .val (.int s_), .val (.int en), .val (.int ld), .val (.int (3 : Int32)), .val (.int (144 : Int32)), .val (.int (191 : Int32)), .val (.int (0 : Int32)), .val (.int (3 : Int32)), .val (.int c2)] []) _
                        refine own_go (fun _ => XS.iconst X0.here hx rfl (hb hby d1_261)) ?_
                        obtain ⟨fs, hr, hrun, hended, hW, hsame⟩ := X0.leave (v := some (.int (-1 : Int32))) (fun h => by rw [Bd.returns] at h; cases h)
                        refine ⟨_, _, retI X0 hx Bd.returns (hb hby d1_262) hr, hrun, hended, _, _, rfl, ?_, ⟨_, rfl⟩, hW, hsame.mono (by decide) (by decide)⟩
                        show Q_rmSeq Z a s_ en kl vs t_0 t_1 t_2 t_3 ld c1 c2 c3 h0 n0 _ s₁.heap _
                        rw [e0]
                        refine ⟨_, rfl, ?_, N0, rfl⟩
                        obtain ⟨z1, z2, z3, z4, z5, z6⟩ := own_s s_ hs
                        have t0 := (not_congr (own_ltC (194) (by decide))).mp kc0
                        have t1 := (not_congr (own_ltC (224) (by decide))).mp kc1
                        have t2 := (not_congr (own_ltC (225) (by decide))).mp kc2
                        have t3 := (not_congr (own_ltC (237) (by decide))).mp kc3
                        have t4 := (not_congr (own_ltC (238) (by decide))).mp kc4
                        have t5 := (not_congr (own_ltC (240) (by decide))).mp kc5
                        have t6 := (own_ltC (241) (by decide)).mp kc6
                        have t7 := (own_lt2).mp hc160
                        have t8 := (not_congr (own_ltC (144) (by decide))).mp hc207
                        have t9 := (not_congr (own_Clt (191) (by decide))).mp hc214
                        have t10 := (not_congr (own_eqC (2) (by decide))).mp hc231
                        have y0 := own_sh c2
                        have y1 := own_sh c3
                        exact own_A0 (by unfold own_P1; omega) (by unfold own_P2; omega) (by unfold own_P3; omega)
                · refine own_go (fun _ => XS.icmpYes X0.here hx rfl (pc0 := 160) (pc' := 167) rfl (hb hby d1_160) rfl (flt hc160).2.1 (by decide) (by decide)) ?_
                  show own_Ends p e below s₁ (mkF m 167 #[.val (.ref a), .val (.int s_), .val (.int en), .val (.int ld), .val (.int (3 : Int32)), .val (.int (144 : Int32)), .val (.int (191 : Int32)), .unset, .unset, .unset] []) _
                  refine own_go (fun _ => XS.iconst X0.here hx rfl (hb hby d1_167)) ?_
                  refine own_go (fun _ => XS.istore X0.here hx rfl (hb hby d1_168) rfl (l' := #[.val (.ref a), .val (.int s_), .val (.int en), .val (.int ld), .val (.int (3 : Int32)), .val (.int (144 : Int32)), .val (.int (191 : Int32)), .val (.int (0 : Int32)), .unset, .unset]) rfl) ?_
                  show own_Ends p e below s₁ (mkF m 170 #[.val (.ref a), .val (.int s_), .val (.int en), .val (.int ld), .val (.int (3 : Int32)), .val (.int (144 : Int32)), .val (.int (191 : Int32)), .val (.int (0 : Int32)), .unset, .unset] []) _
                  refine own_go (fun _ => XS.iconst X0.here hx rfl (hb hby d1_170)) ?_
                  refine own_go (fun _ => XS.istore X0.here hx rfl (hb hby d1_171) rfl (l' := #[.val (.ref a), .val (.int s_), .val (.int en), .val (.int ld), .val (.int (3 : Int32)), .val (.int (144 : Int32)), .val (.int (191 : Int32)), .val (.int (0 : Int32)), .val (.int (1 : Int32)), .unset]) rfl) ?_
                  show own_Ends p e below s₁ (mkF m 173 #[.val (.ref a), .val (.int s_), .val (.int en), .val (.int ld), .val (.int (3 : Int32)), .val (.int (144 : Int32)), .val (.int (191 : Int32)), .val (.int (0 : Int32)), .val (.int (1 : Int32)), .unset] []) _
                  refine own_go (fun _ => XS.iload X0.here hx rfl (hb hby d1_173) rfl) ?_
                  show own_Ends p e below s₁ (mkF m 175 #[.val (.ref a), .val (.int s_), .val (.int en), .val (.int ld), .val (.int (3 : Int32)), .val (.int (144 : Int32)), .val (.int (191 : Int32)), .val (.int (0 : Int32)), .val (.int (1 : Int32)), .unset] [(.int (0 : Int32))]) _
                  refine own_go (fun _ => XS.ifYes X0.here hx rfl (pc0 := 175) (pc' := 247) rfl (hb hby d1_175) rfl ((if0 _ _).trans (teq (show (0 : Int32) = (0 : Int32) from by decide)).1) (by decide) (by decide)) ?_
                  show own_Ends p e below s₁ (mkF m 247 #[.val (.ref a), .val (.int s_), .val (.int en), .val (.int ld), .val (.int (3 : Int32)), .val (.int (144 : Int32)), .val (.int (191 : Int32)), .val (.int (0 : Int32)), .val (.int (1 : Int32)), .unset] []) _
                  refine own_go (fun _ => XS.iload X0.here hx rfl (hb hby d1_247) rfl) ?_
                  show own_Ends p e below s₁ (mkF m 249 #[.val (.ref a), .val (.int s_), .val (.int en), .val (.int ld), .val (.int (3 : Int32)), .val (.int (144 : Int32)), .val (.int (191 : Int32)), .val (.int (0 : Int32)), .val (.int (1 : Int32)), .unset] [(.int (0 : Int32))]) _
                  refine own_go (fun _ => XS.ifYes X0.here hx rfl (pc0 := 249) (pc' := 261) rfl (hb hby d1_249) rfl ((if0 _ _).trans (teq (show (0 : Int32) = (0 : Int32) from by decide)).1) (by decide) (by decide)) ?_
                  show own_Ends p e below s₁ (mkF m 261 #[.val (.ref a), .val (.int s_), .val (.int en), .val (.int ld), .val (.int (3 : Int32)), .val (.int (144 : Int32)), .val (.int (191 : Int32)), .val (.int (0 : Int32)), .val (.int (1 : Int32)), .unset] []) _
                  refine own_go (fun _ => XS.iconst X0.here hx rfl (hb hby d1_261)) ?_
                  obtain ⟨fs, hr, hrun, hended, hW, hsame⟩ := X0.leave (v := some (.int (-1 : Int32))) (fun h => by rw [Bd.returns] at h; cases h)
                  refine ⟨_, _, retI X0 hx Bd.returns (hb hby d1_262) hr, hrun, hended, _, _, rfl, ?_, ⟨_, rfl⟩, hW, hsame.mono (by decide) (by decide)⟩
                  show Q_rmSeq Z a s_ en kl vs t_0 t_1 t_2 t_3 ld c1 c2 c3 h0 n0 _ s₁.heap _
                  rw [e0]
                  refine ⟨_, rfl, ?_, N0, rfl⟩
                  obtain ⟨z1, z2, z3, z4, z5, z6⟩ := own_s s_ hs
                  have t0 := (not_congr (own_ltC (194) (by decide))).mp kc0
                  have t1 := (not_congr (own_ltC (224) (by decide))).mp kc1
                  have t2 := (not_congr (own_ltC (225) (by decide))).mp kc2
                  have t3 := (not_congr (own_ltC (237) (by decide))).mp kc3
                  have t4 := (not_congr (own_ltC (238) (by decide))).mp kc4
                  have t5 := (not_congr (own_ltC (240) (by decide))).mp kc5
                  have t6 := (own_ltC (241) (by decide)).mp kc6
                  have t7 := (not_congr (own_lt2)).mp hc160
                  have y0 := own_sh c2
                  have y1 := own_sh c3
                  exact own_A0 (by unfold own_P1; omega) (by unfold own_P2; omega) (by unfold own_P3; omega)
              · by_cases kc7 : ld < (244 : Int32)
                · refine own_go (fun _ => XS.iloadN X0.here hx rfl (hb hby d1_21) rfl) ?_
                  refine own_go (fun _ => XS.sipush X0.here hx rfl (hb hby d1_22)) ?_
                  show own_Ends p e below s₁ (mkF m 25 #[.val (.ref a), .val (.int s_), .val (.int en), .val (.int ld), .val (.int (0 : Int32)), .val (.int (128 : Int32)), .val (.int (191 : Int32)), .unset, .unset, .unset] [(.int (194 : Int32)), (.int ld)]) _
                  refine own_go (fun _ => XS.icmpNo X0.here hx rfl (hb hby d1_25) rfl (flt (show ¬ (ld < (194 : Int32)) from own_nlt kc6 (by decide))).1) ?_
                  show own_Ends p e below s₁ (mkF m 28 #[.val (.ref a), .val (.int s_), .val (.int en), .val (.int ld), .val (.int (0 : Int32)), .val (.int (128 : Int32)), .val (.int (191 : Int32)), .unset, .unset, .unset] []) _
                  refine own_go (fun _ => XS.iloadN X0.here hx rfl (hb hby d1_28) rfl) ?_
                  refine own_go (fun _ => XS.sipush X0.here hx rfl (hb hby d1_29)) ?_
                  show own_Ends p e below s₁ (mkF m 32 #[.val (.ref a), .val (.int s_), .val (.int en), .val (.int ld), .val (.int (0 : Int32)), .val (.int (128 : Int32)), .val (.int (191 : Int32)), .unset, .unset, .unset] [(.int (223 : Int32)), (.int ld)]) _
                  refine own_go (fun _ => XS.icmpYes X0.here hx rfl (pc0 := 32) (pc' := 41) rfl (hb hby d1_32) rfl (tlt (show (223 : Int32) < ld from own_gt kc6 (by decide))).2.2.1 (by decide) (by decide)) ?_
                  show own_Ends p e below s₁ (mkF m 41 #[.val (.ref a), .val (.int s_), .val (.int en), .val (.int ld), .val (.int (0 : Int32)), .val (.int (128 : Int32)), .val (.int (191 : Int32)), .unset, .unset, .unset] []) _
                  refine own_go (fun _ => XS.iloadN X0.here hx rfl (hb hby d1_41) rfl) ?_
                  refine own_go (fun _ => XS.sipush X0.here hx rfl (hb hby d1_42)) ?_
                  show own_Ends p e below s₁ (mkF m 45 #[.val (.ref a), .val (.int s_), .val (.int en), .val (.int ld), .val (.int (0 : Int32)), .val (.int (128 : Int32)), .val (.int (191 : Int32)), .unset, .unset, .unset] [(.int (224 : Int32)), (.int ld)]) _
                  refine own_go (fun _ => XS.icmpNo X0.here hx rfl (hb hby d1_45) rfl (flt (show ¬ (ld < (224 : Int32)) from own_nlt kc6 (by decide))).1) ?_
                  show own_Ends p e below s₁ (mkF m 48 #[.val (.ref a), .val (.int s_), .val (.int en), .val (.int ld), .val (.int (0 : Int32)), .val (.int (128 : Int32)), .val (.int (191 : Int32)), .unset, .unset, .unset] []) _
                  refine own_go (fun _ => XS.iloadN X0.here hx rfl (hb hby d1_48) rfl) ?_
                  refine own_go (fun _ => XS.sipush X0.here hx rfl (hb hby d1_49)) ?_
                  show own_Ends p e below s₁ (mkF m 52 #[.val (.ref a), .val (.int s_), .val (.int en), .val (.int ld), .val (.int (0 : Int32)), .val (.int (128 : Int32)), .val (.int (191 : Int32)), .unset, .unset, .unset] [(.int (239 : Int32)), (.int ld)]) _
                  refine own_go (fun _ => XS.icmpYes X0.here hx rfl (pc0 := 52) (pc' := 97) rfl (hb hby d1_52) rfl (tlt (show (239 : Int32) < ld from own_gt kc6 (by decide))).2.2.1 (by decide) (by decide)) ?_
                  show own_Ends p e below s₁ (mkF m 97 #[.val (.ref a), .val (.int s_), .val (.int en), .val (.int ld), .val (.int (0 : Int32)), .val (.int (128 : Int32)), .val (.int (191 : Int32)), .unset, .unset, .unset] []) _
                  refine own_go (fun _ => XS.iloadN X0.here hx rfl (hb hby d1_97) rfl) ?_
                  refine own_go (fun _ => XS.sipush X0.here hx rfl (hb hby d1_98)) ?_
                  show own_Ends p e below s₁ (mkF m 101 #[.val (.ref a), .val (.int s_), .val (.int en), .val (.int ld), .val (.int (0 : Int32)), .val (.int (128 : Int32)), .val (.int (191 : Int32)), .unset, .unset, .unset] [(.int (240 : Int32)), (.int ld)]) _
                  refine own_go (fun _ => XS.icmpNo X0.here hx rfl (hb hby d1_101) rfl (flt (show ¬ (ld < (240 : Int32)) from own_nlt kc6 (by decide))).1) ?_
                  show own_Ends p e below s₁ (mkF m 104 #[.val (.ref a), .val (.int s_), .val (.int en), .val (.int ld), .val (.int (0 : Int32)), .val (.int (128 : Int32)), .val (.int (191 : Int32)), .unset, .unset, .unset] []) _
                  refine own_go (fun _ => XS.iloadN X0.here hx rfl (hb hby d1_104) rfl) ?_
                  refine own_go (fun _ => XS.sipush X0.here hx rfl (hb hby d1_105)) ?_
                  show own_Ends p e below s₁ (mkF m 108 #[.val (.ref a), .val (.int s_), .val (.int en), .val (.int ld), .val (.int (0 : Int32)), .val (.int (128 : Int32)), .val (.int (191 : Int32)), .unset, .unset, .unset] [(.int (244 : Int32)), (.int ld)]) _
                  refine own_go (fun _ => XS.icmpNo X0.here hx rfl (hb hby d1_108) rfl (flt (show ¬ ((244 : Int32) < ld) from own_ngt kc7 (by decide))).2.2.1) ?_
                  show own_Ends p e below s₁ (mkF m 111 #[.val (.ref a), .val (.int s_), .val (.int en), .val (.int ld), .val (.int (0 : Int32)), .val (.int (128 : Int32)), .val (.int (191 : Int32)), .unset, .unset, .unset] []) _
                  refine own_go (fun _ => XS.iconst X0.here hx rfl (hb hby d1_111)) ?_
                  refine own_go (fun _ => XS.istore X0.here hx rfl (hb hby d1_112) rfl (l' := #[.val (.ref a), .val (.int s_), .val (.int en), .val (.int ld), .val (.int (3 : Int32)), .val (.int (128 : Int32)), .val (.int (191 : Int32)), .unset, .unset, .unset]) rfl) ?_
                  show own_Ends p e below s₁ (mkF m 114 #[.val (.ref a), .val (.int s_), .val (.int en), .val (.int ld), .val (.int (3 : Int32)), .val (.int (128 : Int32)), .val (.int (191 : Int32)), .unset, .unset, .unset] []) _
                  refine own_go (fun _ => XS.iloadN X0.here hx rfl (hb hby d1_114) rfl) ?_
                  refine own_go (fun _ => XS.sipush X0.here hx rfl (hb hby d1_115)) ?_
                  show own_Ends p e below s₁ (mkF m 118 #[.val (.ref a), .val (.int s_), .val (.int en), .val (.int ld), .val (.int (3 : Int32)), .val (.int (128 : Int32)), .val (.int (191 : Int32)), .unset, .unset, .unset] [(.int (240 : Int32)), (.int ld)]) _
                  refine own_go (fun _ => XS.icmpYes X0.here hx rfl (pc0 := 118) (pc' := 127) rfl (hb hby d1_118) rfl (feq (show ¬ (ld = (240 : Int32)) from own_ne1 kc6 (by decide))).2 (by decide) (by decide)) ?_
                  show own_Ends p e below s₁ (mkF m 127 #[.val (.ref a), .val (.int s_), .val (.int en), .val (.int ld), .val (.int (3 : Int32)), .val (.int (128 : Int32)), .val (.int (191 : Int32)), .unset, .unset, .unset] []) _
                  refine own_go (fun _ => XS.sipush X0.here hx rfl (hb hby d1_127)) ?_
                  refine own_go (fun _ => XS.istore X0.here hx rfl (hb hby d1_130) rfl (l' := #[.val (.ref a), .val (.int s_), .val (.int en), .val (.int ld), .val (.int (3 : Int32)), .val (.int (128 : Int32)), .val (.int (191 : Int32)), .unset, .unset, .unset]) rfl) ?_
                  show own_Ends p e below s₁ (mkF m 132 #[.val (.ref a), .val (.int s_), .val (.int en), .val (.int ld), .val (.int (3 : Int32)), .val (.int (128 : Int32)), .val (.int (191 : Int32)), .unset, .unset, .unset] []) _
                  refine own_go (fun _ => XS.iloadN X0.here hx rfl (hb hby d1_132) rfl) ?_
                  refine own_go (fun _ => XS.sipush X0.here hx rfl (hb hby d1_133)) ?_
                  show own_Ends p e below s₁ (mkF m 136 #[.val (.ref a), .val (.int s_), .val (.int en), .val (.int ld), .val (.int (3 : Int32)), .val (.int (128 : Int32)), .val (.int (191 : Int32)), .unset, .unset, .unset] [(.int (244 : Int32)), (.int ld)]) _
                  refine own_go (fun _ => XS.icmpYes X0.here hx rfl (pc0 := 136) (pc' := 145) rfl (hb hby d1_136) rfl (feq (show ¬ (ld = (244 : Int32)) from own_ne2 kc7 (by decide))).2 (by decide) (by decide)) ?_
                  show own_Ends p e below s₁ (mkF m 145 #[.val (.ref a), .val (.int s_), .val (.int en), .val (.int ld), .val (.int (3 : Int32)), .val (.int (128 : Int32)), .val (.int (191 : Int32)), .unset, .unset, .unset] []) _
                  refine own_go (fun _ => XS.sipush X0.here hx rfl (hb hby d1_145)) ?_
                  refine own_go (fun _ => XS.istore X0.here hx rfl (hb hby d1_148) rfl (l' := #[.val (.ref a), .val (.int s_), .val (.int en), .val (.int ld), .val (.int (3 : Int32)), .val (.int (128 : Int32)), .val (.int (191 : Int32)), .unset, .unset, .unset]) rfl) ?_
                  show own_Ends p e below s₁ (mkF m 150 #[.val (.ref a), .val (.int s_), .val (.int en), .val (.int ld), .val (.int (3 : Int32)), .val (.int (128 : Int32)), .val (.int (191 : Int32)), .unset, .unset, .unset] []) _
                  refine own_go (fun _ => XS.iload X0.here hx rfl (hb hby d1_150) rfl) ?_
                  show own_Ends p e below s₁ (mkF m 152 #[.val (.ref a), .val (.int s_), .val (.int en), .val (.int ld), .val (.int (3 : Int32)), .val (.int (128 : Int32)), .val (.int (191 : Int32)), .unset, .unset, .unset] [(.int (3 : Int32))]) _
                  refine own_go (fun _ => XS.ifNo X0.here hx rfl (hb hby d1_152) rfl ((if0 _ _).trans (tlt (show (0 : Int32) < (3 : Int32) from by decide)).2.2.2)) ?_
                  show own_Ends p e below s₁ (mkF m 155 #[.val (.ref a), .val (.int s_), .val (.int en), .val (.int ld), .val (.int (3 : Int32)), .val (.int (128 : Int32)), .val (.int (191 : Int32)), .unset, .unset, .unset] []) _
                  refine own_go (fun _ => XS.iloadN X0.here hx rfl (hb hby d1_155) rfl) ?_
                  refine own_go (fun _ => XS.iload X0.here hx rfl (hb hby d1_156) rfl) ?_
                  refine own_go (fun _ => XS.iadd X0.here hx rfl (hb hby d1_158) rfl) ?_
                  show own_Ends p e below s₁ (mkF m 159 #[.val (.ref a), .val (.int s_), .val (.int en), .val (.int ld), .val (.int (3 : Int32)), .val (.int (128 : Int32)), .val (.int (191 : Int32)), .unset, .unset, .unset] [(.int (s_ + (3 : Int32)))]) _
                  refine own_go (fun _ => XS.iloadN X0.here hx rfl (hb hby d1_159) rfl) ?_
                  show own_Ends p e below s₁ (mkF m 160 #[.val (.ref a), .val (.int s_), .val (.int en), .val (.int ld), .val (.int (3 : Int32)), .val (.int (128 : Int32)), .val (.int (191 : Int32)), .unset, .unset, .unset] [(.int en), (.int (s_ + (3 : Int32)))]) _
                  by_cases hc160 : (s_ + (3 : Int32)) < en
                  · refine own_go (fun _ => XS.icmpNo X0.here hx rfl (hb hby d1_160) rfl (tlt hc160).2.1) ?_
                    show own_Ends p e below s₁ (mkF m 163 #[.val (.ref a), .val (.int s_), .val (.int en), .val (.int ld), .val (.int (3 : Int32)), .val (.int (128 : Int32)), .val (.int (191 : Int32)), .unset, .unset, .unset] []) _
                    refine own_go (fun _ => XS.iconst X0.here hx rfl (hb hby d1_163)) ?_
                    refine own_go (fun _ => XS.goto X0.here hx rfl (pc0 := 164) (pc' := 168) rfl (hb hby d1_164) (by decide) (by decide)) ?_
                    refine own_go (fun _ => XS.istore X0.here hx rfl (hb hby d1_168) rfl (l' := #[.val (.ref a), .val (.int s_), .val (.int en), .val (.int ld), .val (.int (3 : Int32)), .val (.int (128 : Int32)), .val (.int (191 : Int32)), .val (.int (1 : Int32)), .unset, .unset]) rfl) ?_
                    show own_Ends p e below s₁ (mkF m 170 #[.val (.ref a), .val (.int s_), .val (.int en), .val (.int ld), .val (.int (3 : Int32)), .val (.int (128 : Int32)), .val (.int (191 : Int32)), .val (.int (1 : Int32)), .unset, .unset] []) _
                    refine own_go (fun _ => XS.iconst X0.here hx rfl (hb hby d1_170)) ?_
                    refine own_go (fun _ => XS.istore X0.here hx rfl (hb hby d1_171) rfl (l' := #[.val (.ref a), .val (.int s_), .val (.int en), .val (.int ld), .val (.int (3 : Int32)), .val (.int (128 : Int32)), .val (.int (191 : Int32)), .val (.int (1 : Int32)), .val (.int (1 : Int32)), .unset]) rfl) ?_
                    show own_Ends p e below s₁ (mkF m 173 #[.val (.ref a), .val (.int s_), .val (.int en), .val (.int ld), .val (.int (3 : Int32)), .val (.int (128 : Int32)), .val (.int (191 : Int32)), .val (.int (1 : Int32)), .val (.int (1 : Int32)), .unset] []) _
                    refine own_go (fun _ => XS.iload X0.here hx rfl (hb hby d1_173) rfl) ?_
                    show own_Ends p e below s₁ (mkF m 175 #[.val (.ref a), .val (.int s_), .val (.int en), .val (.int ld), .val (.int (3 : Int32)), .val (.int (128 : Int32)), .val (.int (191 : Int32)), .val (.int (1 : Int32)), .val (.int (1 : Int32)), .unset] [(.int (1 : Int32))]) _
                    refine own_go (fun _ => XS.ifNo X0.here hx rfl (hb hby d1_175) rfl ((if0 _ _).trans (feq (show ¬ ((1 : Int32) = (0 : Int32)) from by decide)).1)) ?_
                    show own_Ends p e below s₁ (mkF m 178 #[.val (.ref a), .val (.int s_), .val (.int en), .val (.int ld), .val (.int (3 : Int32)), .val (.int (128 : Int32)), .val (.int (191 : Int32)), .val (.int (1 : Int32)), .val (.int (1 : Int32)), .unset] []) _
                    refine own_go (fun _ => XS.iload X0.here hx rfl (hb hby d1_178) rfl) ?_
                    refine own_go (fun _ => XS.iload X0.here hx rfl (hb hby d1_180) rfl) ?_
                    show own_Ends p e below s₁ (mkF m 182 #[.val (.ref a), .val (.int s_), .val (.int en), .val (.int ld), .val (.int (3 : Int32)), .val (.int (128 : Int32)), .val (.int (191 : Int32)), .val (.int (1 : Int32)), .val (.int (1 : Int32)), .unset] [(.int (3 : Int32)), (.int (1 : Int32))]) _
                    refine own_go (fun _ => XS.icmpNo X0.here hx rfl (hb hby d1_182) rfl (flt (show ¬ ((3 : Int32) < (1 : Int32)) from by decide)).2.2.1) ?_
                    show own_Ends p e below s₁ (mkF m 185 #[.val (.ref a), .val (.int s_), .val (.int en), .val (.int ld), .val (.int (3 : Int32)), .val (.int (128 : Int32)), .val (.int (191 : Int32)), .val (.int (1 : Int32)), .val (.int (1 : Int32)), .unset] []) _
                    refine own_go (fun _ => XS.aloadN X0.here hx rfl (hb hby d1_185) rfl rfl) ?_
                    refine own_go (fun _ => XS.iloadN X0.here hx rfl (hb hby d1_186) rfl) ?_
                    refine own_go (fun _ => XS.iload X0.here hx rfl (hb hby d1_187) rfl) ?_
                    refine own_go (fun _ => XS.iadd X0.here hx rfl (hb hby d1_189) rfl) ?_
                    show own_Ends p e below s₁ (mkF m 190 #[.val (.ref a), .val (.int s_), .val (.int en), .val (.int ld), .val (.int (3 : Int32)), .val (.int (128 : Int32)), .val (.int (191 : Int32)), .val (.int (1 : Int32)), .val (.int (1 : Int32)), .unset] [(.int (s_ + (1 : Int32))), (.ref a)]) _
                    obtain ⟨cl_14, Ar_14, q_14, S_14, M_14, H_14, G_14⟩ := V_a_r1
                    have hin14 : ¬ ((s_ + (1 : Int32)) < 0 ∨ cl_14.slots.size ≤ ((s_ + (1 : Int32))).toNatClampNeg) := inb_of S_14 (own_in s_ hs).2.1
                    have hat14 : cl_14.slots[((s_ + (1 : Int32))).toNatClampNeg]? = some (.int t_1) := Has.at H_14 hin14 (hva1)
                    refine own_go (X0.baloadBytes hx (j := (s_ + (1 : Int32))) (v := (.int t_1)) (by rw [e0]; exact Ar_14.1) (State.isArrayOf_alike hZ.alike Ar_14.2.1) Ar_14.2.2 hin14 hat14 (g := (mkF m 190 #[.val (.ref a), .val (.int s_), .val (.int en), .val (.int ld), .val (.int (3 : Int32)), .val (.int (128 : Int32)), .val (.int (191 : Int32)), .val (.int (1 : Int32)), .val (.int (1 : Int32)), .unset] [(.int (s_ + (1 : Int32))), (.ref a)])) rfl rfl (hb hby d1_190)) ?_
                    have V_a_r14 : Arv Z h0 a kl .byte (6 : Int32) vs (.int (0 : Int32)) := ⟨cl_14, Ar_14, q_14, S_14, M_14, H_14, G_14⟩
                    show own_Ends p e below s₁ (mkF m 191 #[.val (.ref a), .val (.int s_), .val (.int en), .val (.int ld), .val (.int (3 : Int32)), .val (.int (128 : Int32)), .val (.int (191 : Int32)), .val (.int (1 : Int32)), .val (.int (1 : Int32)), .unset] [(.int t_1)]) _
                    refine own_go (fun _ => XS.sipush X0.here hx rfl (hb hby d1_191)) ?_
                    refine own_go (fun _ => XS.iand X0.here hx rfl (hb hby d1_194) rfl) ?_
                    show own_Ends p e below s₁ (mkF m 195 #[.val (.ref a), .val (.int s_), .val (.int en), .val (.int ld), .val (.int (3 : Int32)), .val (.int (128 : Int32)), .val (.int (191 : Int32)), .val (.int (1 : Int32)), .val (.int (1 : Int32)), .unset] [(.int (t_1 &&& (255 : Int32)))]) _
                    refine own_go (fun _ => XS.istore X0.here hx rfl (hb hby d1_195) rfl (l' := #[.val (.ref a), .val (.int s_), .val (.int en), .val (.int ld), .val (.int (3 : Int32)), .val (.int (128 : Int32)), .val (.int (191 : Int32)), .val (.int (1 : Int32)), .val (.int (1 : Int32)), .val (.int (t_1 &&& (255 : Int32)))]) rfl) ?_
                    show own_Ends p e below s₁ (mkF m 197 #[.val (.ref a), .val (.int s_), .val (.int en), .val (.int ld), .val (.int (3 : Int32)), .val (.int (128 : Int32)), .val (.int (191 : Int32)), .val (.int (1 : Int32)), .val (.int (1 : Int32)), .val (.int (t_1 &&& (255 : Int32)))] []) _
                    rw [hl1]
                    show own_Ends p e below s₁ (mkF m 197 #[.val (.ref a), .val (.int s_), .val (.int en), .val (.int ld), .val (.int (3 : Int32)), .val (.int (128 : Int32)), .val (.int (191 : Int32)), .val (.int (1 : Int32)), .val (.int (1 : Int32)), .val (.int c1)] []) _
                    refine own_go (fun _ => XS.iload X0.here hx rfl (hb hby d1_197) rfl) ?_
                    refine own_go (fun _ => XS.iconst X0.here hx rfl (hb hby d1_199)) ?_
                    show own_Ends p e below s₁ (mkF m 200 #[.val (.ref a), .val (.int s_), .val (.int en), .val (.int ld), .val (.int (3 : Int32)), .val (.int (128 : Int32)), .val (.int (191 : Int32)), .val (.int (1 : Int32)), .val (.int (1 : Int32)), .val (.int c1)] [(.int (1 : Int32)), (.int (1 : Int32))]) _
                    refine own_go (fun _ => XS.icmpNo X0.here hx rfl (hb hby d1_200) rfl (teq (show (1 : Int32) = (1 : Int32) from by decide)).2) ?_
                    show own_Ends p e below s₁ (mkF m 203 #[.val (.ref a), .val (.int s_), .val (.int en), .val (.int ld), .val (.int (3 : Int32)), .val (.int (128 : Int32)), .val (.int (191 : Int32)), .val (.int (1 : Int32)), .val (.int (1 : Int32)), .val (.int c1)] []) _
                    refine own_go (fun _ => XS.iload X0.here hx rfl (hb hby d1_203) rfl) ?_
                    refine own_go (fun _ => XS.iload X0.here hx rfl (hb hby d1_205) rfl) ?_
                    show own_Ends p e below s₁ (mkF m 207 #[.val (.ref a), .val (.int s_), .val (.int en), .val (.int ld), .val (.int (3 : Int32)), .val (.int (128 : Int32)), .val (.int (191 : Int32)), .val (.int (1 : Int32)), .val (.int (1 : Int32)), .val (.int c1)] [(.int (128 : Int32)), (.int c1)]) _
                    by_cases hc207 : c1 < (128 : Int32)
                    · refine own_go (fun _ => XS.icmpYes X0.here hx rfl (pc0 := 207) (pc' := 221) rfl (hb hby d1_207) rfl (tlt hc207).1 (by decide) (by decide)) ?_
                      show own_Ends p e below s₁ (mkF m 221 #[.val (.ref a), .val (.int s_), .val (.int en), .val (.int ld), .val (.int (3 : Int32)), .val (.int (128 : Int32)), .val (.int (191 : Int32)), .val (.int (1 : Int32)), .val (.int (1 : Int32)), .val (.int c1)] []) _
                      refine own_go (fun _ => XS.iconst X0.here hx rfl (hb hby d1_221)) ?_
                      refine own_go (fun _ => XS.goto X0.here hx rfl (pc0 := 222) (pc' := 239) rfl (hb hby d1_222) (by decide) (by decide)) ?_
                      refine own_go (fun _ => XS.istore X0.here hx rfl (hb hby d1_239) rfl (l' := #[.val (.ref a), .val (.int s_), .val (.int en), .val (.int ld), .val (.int (3 : Int32)), .val (.int (128 : Int32)), .val (.int (191 : Int32)), .val (.int (0 : Int32)), .val (.int (1 : Int32)), .val (.int c1)]) rfl) ?_
                      show own_Ends p e below s₁ (mkF m 241 #[.val (.ref a), .val (.int s_), .val (.int en), .val (.int ld), .val (.int (3 : Int32)), .val (.int (128 : Int32)), .val (.int (191 : Int32)), .val (.int (0 : Int32)), .val (.int (1 : Int32)), .val (.int c1)] []) _
                      refine own_go (fun _ => XS.iinc X0.here hx rfl (hb hby d1_241) rfl (l' := #[.val (.ref a), .val (.int s_), .val (.int en), .val (.int ld), .val (.int (3 : Int32)), .val (.int (128 : Int32)), .val (.int (191 : Int32)), .val (.int (0 : Int32)), .val (.int (2 : Int32)), .val (.int c1)]) rfl) ?_
                      show own_Ends p e below s₁ (mkF m 244 #[.val (.ref a), .val (.int s_), .val (.int en), .val (.int ld), .val (.int (3 : Int32)), .val (.int (128 : Int32)), .val (.int (191 : Int32)), .val (.int (0 : Int32)), .val (.int (2 : Int32)), .val (.int c1)] []) _
                      refine own_go (fun _ => XS.goto X0.here hx rfl (pc0 := 244) (pc' := 173) rfl (hb hby d1_244) (by decide) (by decide)) ?_
                      refine own_go (fun _ => XS.iload X0.here hx rfl (hb hby d1_173) rfl) ?_
                      show own_Ends p e below s₁ (mkF m 175 #[.val (.ref a), .val (.int s_), .val (.int en), .val (.int ld), .val (.int (3 : Int32)), .val (.int (128 : Int32)), .val (.int (191 : Int32)), .val (.int (0 : Int32)), .val (.int (2 : Int32)), .val (.int c1)] [(.int (0 : Int32))]) _
                      refine own_go (fun _ => XS.ifYes X0.here hx rfl (pc0 := 175) (pc' := 247) rfl (hb hby d1_175) rfl ((if0 _ _).trans (teq (show (0 : Int32) = (0 : Int32) from by decide)).1) (by decide) (by decide)) ?_
                      show own_Ends p e below s₁ (mkF m 247 #[.val (.ref a), .val (.int s_), .val (.int en), .val (.int ld), .val (.int (3 : Int32)), .val (.int (128 : Int32)), .val (.int (191 : Int32)), .val (.int (0 : Int32)), .val (.int (2 : Int32)), .val (.int c1)] []) _
                      refine own_go (fun _ => XS.iload X0.here hx rfl (hb hby d1_247) rfl) ?_
                      show own_Ends p e below s₁ (mkF m 249 #[.val (.ref a), .val (.int s_), .val (.int en), .val (.int ld), .val (.int (3 : Int32)), .val (.int (128 : Int32)), .val (.int (191 : Int32)), .val (.int (0 : Int32)), .val (.int (2 : Int32)), .val (.int c1)] [(.int (0 : Int32))]) _
                      refine own_go (fun _ => XS.ifYes X0.here hx rfl (pc0 := 249) (pc' := 261) rfl (hb hby d1_249) rfl ((if0 _ _).trans (teq (show (0 : Int32) = (0 : Int32) from by decide)).1) (by decide) (by decide)) ?_
                      show own_Ends p e below s₁ (mkF m 261 #[.val (.ref a), .val (.int s_), .val (.int en), .val (.int ld), .val (.int (3 : Int32)), .val (.int (128 : Int32)), .val (.int (191 : Int32)), .val (.int (0 : Int32)), .val (.int (2 : Int32)), .val (.int c1)] []) _
                      refine own_go (fun _ => XS.iconst X0.here hx rfl (hb hby d1_261)) ?_
                      obtain ⟨fs, hr, hrun, hended, hW, hsame⟩ := X0.leave (v := some (.int (-1 : Int32))) (fun h => by rw [Bd.returns] at h; cases h)
                      refine ⟨_, _, retI X0 hx Bd.returns (hb hby d1_262) hr, hrun, hended, _, _, rfl, ?_, ⟨_, rfl⟩, hW, hsame.mono (by decide) (by decide)⟩
                      show Q_rmSeq Z a s_ en kl vs t_0 t_1 t_2 t_3 ld c1 c2 c3 h0 n0 _ s₁.heap _
                      rw [e0]
                      refine ⟨_, rfl, ?_, N0, rfl⟩
                      obtain ⟨z1, z2, z3, z4, z5, z6⟩ := own_s s_ hs
                      have t0 := (not_congr (own_ltC (194) (by decide))).mp kc0
                      have t1 := (not_congr (own_ltC (224) (by decide))).mp kc1
                      have t2 := (not_congr (own_ltC (225) (by decide))).mp kc2
                      have t3 := (not_congr (own_ltC (237) (by decide))).mp kc3
                      have t4 := (not_congr (own_ltC (238) (by decide))).mp kc4
                      have t5 := (not_congr (own_ltC (240) (by decide))).mp kc5
                      have t6 := (not_congr (own_ltC (241) (by decide))).mp kc6
                      have t7 := (own_ltC (244) (by decide)).mp kc7
                      have t8 := (own_lt2).mp hc160
                      have t9 := (own_ltC (128) (by decide)).mp hc207
                      have y0 := own_sh c2
                      have y1 := own_sh c3
                      exact own_A0 (by unfold own_P1; omega) (by unfold own_P2; omega) (by unfold own_P3; omega)
                    · refine own_go (fun _ => XS.icmpNo X0.here hx rfl (hb hby d1_207) rfl (flt hc207).1) ?_
                      show own_Ends p e below s₁ (mkF m 210 #[.val (.ref a), .val (.int s_), .val (.int en), .val (.int ld), .val (.int (3 : Int32)), .val (.int (128 : Int32)), .val (.int (191 : Int32)), .val (.int (1 : Int32)), .val (.int (1 : Int32)), .val (.int c1)] []) _
                      refine own_go (fun _ => XS.iload X0.here hx rfl (hb hby d1_210) rfl) ?_
                      refine own_go (fun _ => XS.iload X0.here hx rfl (hb hby d1_212) rfl) ?_
                      show own_Ends p e below s₁ (mkF m 214 #[.val (.ref a), .val (.int s_), .val (.int en), .val (.int ld), .val (.int (3 : Int32)), .val (.int (128 : Int32)), .val (.int (191 : Int32)), .val (.int (1 : Int32)), .val (.int (1 : Int32)), .val (.int c1)] [(.int (191 : Int32)), (.int c1)]) _
                      by_cases hc214 : (191 : Int32) < c1
                      · refine own_go (fun _ => XS.icmpYes X0.here hx rfl (pc0 := 214) (pc' := 221) rfl (hb hby d1_214) rfl (tlt hc214).2.2.1 (by decide) (by decide)) ?_
                        show own_Ends p e below s₁ (mkF m 221 #[.val (.ref a), .val (.int s_), .val (.int en), .val (.int ld), .val (.int (3 : Int32)), .val (.int (128 : Int32)), .val (.int (191 : Int32)), .val (.int (1 : Int32)), .val (.int (1 : Int32)), .val (.int c1)] []) _
                        refine own_go (fun _ => XS.iconst X0.here hx rfl (hb hby d1_221)) ?_
                        refine own_go (fun _ => XS.goto X0.here hx rfl (pc0 := 222) (pc' := 239) rfl (hb hby d1_222) (by decide) (by decide)) ?_
                        refine own_go (fun _ => XS.istore X0.here hx rfl (hb hby d1_239) rfl (l' := #[.val (.ref a), .val (.int s_), .val (.int en), .val (.int ld), .val (.int (3 : Int32)), .val (.int (128 : Int32)), .val (.int (191 : Int32)), .val (.int (0 : Int32)), .val (.int (1 : Int32)), .val (.int c1)]) rfl) ?_
                        show own_Ends p e below s₁ (mkF m 241 #[.val (.ref a), .val (.int s_), .val (.int en), .val (.int ld), .val (.int (3 : Int32)), .val (.int (128 : Int32)), .val (.int (191 : Int32)), .val (.int (0 : Int32)), .val (.int (1 : Int32)), .val (.int c1)] []) _
                        refine own_go (fun _ => XS.iinc X0.here hx rfl (hb hby d1_241) rfl (l' := #[.val (.ref a), .val (.int s_), .val (.int en), .val (.int ld), .val (.int (3 : Int32)), .val (.int (128 : Int32)), .val (.int (191 : Int32)), .val (.int (0 : Int32)), .val (.int (2 : Int32)), .val (.int c1)]) rfl) ?_
                        show own_Ends p e below s₁ (mkF m 244 #[.val (.ref a), .val (.int s_), .val (.int en), .val (.int ld), .val (.int (3 : Int32)), .val (.int (128 : Int32)), .val (.int (191 : Int32)), .val (.int (0 : Int32)), .val (.int (2 : Int32)), .val (.int c1)] []) _
                        refine own_go (fun _ => XS.goto X0.here hx rfl (pc0 := 244) (pc' := 173) rfl (hb hby d1_244) (by decide) (by decide)) ?_
                        refine own_go (fun _ => XS.iload X0.here hx rfl (hb hby d1_173) rfl) ?_
                        show own_Ends p e below s₁ (mkF m 175 #[.val (.ref a), .val (.int s_), .val (.int en), .val (.int ld), .val (.int (3 : Int32)), .val (.int (128 : Int32)), .val (.int (191 : Int32)), .val (.int (0 : Int32)), .val (.int (2 : Int32)), .val (.int c1)] [(.int (0 : Int32))]) _
                        refine own_go (fun _ => XS.ifYes X0.here hx rfl (pc0 := 175) (pc' := 247) rfl (hb hby d1_175) rfl ((if0 _ _).trans (teq (show (0 : Int32) = (0 : Int32) from by decide)).1) (by decide) (by decide)) ?_
                        show own_Ends p e below s₁ (mkF m 247 #[.val (.ref a), .val (.int s_), .val (.int en), .val (.int ld), .val (.int (3 : Int32)), .val (.int (128 : Int32)), .val (.int (191 : Int32)), .val (.int (0 : Int32)), .val (.int (2 : Int32)), .val (.int c1)] []) _
                        refine own_go (fun _ => XS.iload X0.here hx rfl (hb hby d1_247) rfl) ?_
                        show own_Ends p e below s₁ (mkF m 249 #[.val (.ref a), .val (.int s_), .val (.int en), .val (.int ld), .val (.int (3 : Int32)), .val (.int (128 : Int32)), .val (.int (191 : Int32)), .val (.int (0 : Int32)), .val (.int (2 : Int32)), .val (.int c1)] [(.int (0 : Int32))]) _
                        refine own_go (fun _ => XS.ifYes X0.here hx rfl (pc0 := 249) (pc' := 261) rfl (hb hby d1_249) rfl ((if0 _ _).trans (teq (show (0 : Int32) = (0 : Int32) from by decide)).1) (by decide) (by decide)) ?_
                        show own_Ends p e below s₁ (mkF m 261 #[.val (.ref a), .val (.int s_), .val (.int en), .val (.int ld), .val (.int (3 : Int32)), .val (.int (128 : Int32)), .val (.int (191 : Int32)), .val (.int (0 : Int32)), .val (.int (2 : Int32)), .val (.int c1)] []) _
                        refine own_go (fun _ => XS.iconst X0.here hx rfl (hb hby d1_261)) ?_
                        obtain ⟨fs, hr, hrun, hended, hW, hsame⟩ := X0.leave (v := some (.int (-1 : Int32))) (fun h => by rw [Bd.returns] at h; cases h)
                        refine ⟨_, _, retI X0 hx Bd.returns (hb hby d1_262) hr, hrun, hended, _, _, rfl, ?_, ⟨_, rfl⟩, hW, hsame.mono (by decide) (by decide)⟩
                        show Q_rmSeq Z a s_ en kl vs t_0 t_1 t_2 t_3 ld c1 c2 c3 h0 n0 _ s₁.heap _
                        rw [e0]
                        refine ⟨_, rfl, ?_, N0, rfl⟩
                        obtain ⟨z1, z2, z3, z4, z5, z6⟩ := own_s s_ hs
                        have t0 := (not_congr (own_ltC (194) (by decide))).mp kc0
                        have t1 := (not_congr (own_ltC (224) (by decide))).mp kc1
                        have t2 := (not_congr (own_ltC (225) (by decide))).mp kc2
                        have t3 := (not_congr (own_ltC (237) (by decide))).mp kc3
                        have t4 := (not_congr (own_ltC (238) (by decide))).mp kc4
                        have t5 := (not_congr (own_ltC (240) (by decide))).mp kc5
                        have t6 := (not_congr (own_ltC (241) (by decide))).mp kc6
                        have t7 := (own_ltC (244) (by decide)).mp kc7
                        have t8 := (own_lt2).mp hc160
                        have t9 := (not_congr (own_ltC (128) (by decide))).mp hc207
                        have t10 := (own_Clt (191) (by decide)).mp hc214
                        have y0 := own_sh c2
                        have y1 := own_sh c3
                        exact own_A0 (by unfold own_P1; omega) (by unfold own_P2; omega) (by unfold own_P3; omega)
                      · refine own_go (fun _ => XS.icmpNo X0.here hx rfl (hb hby d1_214) rfl (flt hc214).2.2.1) ?_
                        show own_Ends p e below s₁ (mkF m 217 #[.val (.ref a), .val (.int s_), .val (.int en), .val (.int ld), .val (.int (3 : Int32)), .val (.int (128 : Int32)), .val (.int (191 : Int32)), .val (.int (1 : Int32)), .val (.int (1 : Int32)), .val (.int c1)] []) _
                        refine own_go (fun _ => XS.iconst X0.here hx rfl (hb hby d1_217)) ?_
                        refine own_go (fun _ => XS.goto X0.here hx rfl (pc0 := 218) (pc' := 239) rfl (hb hby d1_218) (by decide) (by decide)) ?_
                        refine own_go (fun _ => XS.istore X0.here hx rfl (hb hby d1_239) rfl (l' := #[.val (.ref a), .val (.int s_), .val (.int en), .val (.int ld), .val (.int (3 : Int32)), .val (.int (128 : Int32)), .val (.int (191 : Int32)), .val (.int (1 : Int32)), .val (.int (1 : Int32)), .val (.int c1)]) rfl) ?_
                        show own_Ends p e below s₁ (mkF m 241 #[.val (.ref a), .val (.int s_), .val (.int en), .val (.int ld), .val (.int (3 : Int32)), .val (.int (128 : Int32)), .val (.int (191 : Int32)), .val (.int (1 : Int32)), .val (.int (1 : Int32)), .val (.int c1)] []) _
                        refine own_go (fun _ => XS.iinc X0.here hx rfl (hb hby d1_241) rfl (l' := #[.val (.ref a), .val (.int s_), .val (.int en), .val (.int ld), .val (.int (3 : Int32)), .val (.int (128 : Int32)), .val (.int (191 : Int32)), .val (.int (1 : Int32)), .val (.int (2 : Int32)), .val (.int c1)]) rfl) ?_
                        show own_Ends p e below s₁ (mkF m 244 #[.val (.ref a), .val (.int s_), .val (.int en), .val (.int ld), .val (.int (3 : Int32)), .val (.int (128 : Int32)), .val (.int (191 : Int32)), .val (.int (1 : Int32)), .val (.int (2 : Int32)), .val (.int c1)] []) _
                        refine own_go (fun _ => XS.goto X0.here hx rfl (pc0 := 244) (pc' := 173) rfl (hb hby d1_244) (by decide) (by decide)) ?_
                        refine own_go (fun _ => XS.iload X0.here hx rfl (hb hby d1_173) rfl) ?_
                        show own_Ends p e below s₁ (mkF m 175 #[.val (.ref a), .val (.int s_), .val (.int en), .val (.int ld), .val (.int (3 : Int32)), .val (.int (128 : Int32)), .val (.int (191 : Int32)), .val (.int (1 : Int32)), .val (.int (2 : Int32)), .val (.int c1)] [(.int (1 : Int32))]) _
                        refine own_go (fun _ => XS.ifNo X0.here hx rfl (hb hby d1_175) rfl ((if0 _ _).trans (feq (show ¬ ((1 : Int32) = (0 : Int32)) from by decide)).1)) ?_
                        show own_Ends p e below s₁ (mkF m 178 #[.val (.ref a), .val (.int s_), .val (.int en), .val (.int ld), .val (.int (3 : Int32)), .val (.int (128 : Int32)), .val (.int (191 : Int32)), .val (.int (1 : Int32)), .val (.int (2 : Int32)), .val (.int c1)] []) _
                        refine own_go (fun _ => XS.iload X0.here hx rfl (hb hby d1_178) rfl) ?_
                        refine own_go (fun _ => XS.iload X0.here hx rfl (hb hby d1_180) rfl) ?_
                        show own_Ends p e below s₁ (mkF m 182 #[.val (.ref a), .val (.int s_), .val (.int en), .val (.int ld), .val (.int (3 : Int32)), .val (.int (128 : Int32)), .val (.int (191 : Int32)), .val (.int (1 : Int32)), .val (.int (2 : Int32)), .val (.int c1)] [(.int (3 : Int32)), (.int (2 : Int32))]) _
                        refine own_go (fun _ => XS.icmpNo X0.here hx rfl (hb hby d1_182) rfl (flt (show ¬ ((3 : Int32) < (2 : Int32)) from by decide)).2.2.1) ?_
                        show own_Ends p e below s₁ (mkF m 185 #[.val (.ref a), .val (.int s_), .val (.int en), .val (.int ld), .val (.int (3 : Int32)), .val (.int (128 : Int32)), .val (.int (191 : Int32)), .val (.int (1 : Int32)), .val (.int (2 : Int32)), .val (.int c1)] []) _
                        refine own_go (fun _ => XS.aloadN X0.here hx rfl (hb hby d1_185) rfl rfl) ?_
                        refine own_go (fun _ => XS.iloadN X0.here hx rfl (hb hby d1_186) rfl) ?_
                        refine own_go (fun _ => XS.iload X0.here hx rfl (hb hby d1_187) rfl) ?_
                        refine own_go (fun _ => XS.iadd X0.here hx rfl (hb hby d1_189) rfl) ?_
                        show own_Ends p e below s₁ (mkF m 190 #[.val (.ref a), .val (.int s_), .val (.int en), .val (.int ld), .val (.int (3 : Int32)), .val (.int (128 : Int32)), .val (.int (191 : Int32)), .val (.int (1 : Int32)), .val (.int (2 : Int32)), .val (.int c1)] [(.int (s_ + (2 : Int32))), (.ref a)]) _
                        obtain ⟨cl_15, Ar_15, q_15, S_15, M_15, H_15, G_15⟩ := V_a_r14
                        have hin15 : ¬ ((s_ + (2 : Int32)) < 0 ∨ cl_15.slots.size ≤ ((s_ + (2 : Int32))).toNatClampNeg) := inb_of S_15 (own_in s_ hs).2.2.1
                        have hat15 : cl_15.slots[((s_ + (2 : Int32))).toNatClampNeg]? = some (.int t_2) := Has.at H_15 hin15 (hva2)
                        refine own_go (X0.baloadBytes hx (j := (s_ + (2 : Int32))) (v := (.int t_2)) (by rw [e0]; exact Ar_15.1) (State.isArrayOf_alike hZ.alike Ar_15.2.1) Ar_15.2.2 hin15 hat15 (g := (mkF m 190 #[.val (.ref a), .val (.int s_), .val (.int en), .val (.int ld), .val (.int (3 : Int32)), .val (.int (128 : Int32)), .val (.int (191 : Int32)), .val (.int (1 : Int32)), .val (.int (2 : Int32)), .val (.int c1)] [(.int (s_ + (2 : Int32))), (.ref a)])) rfl rfl (hb hby d1_190)) ?_
                        have V_a_r15 : Arv Z h0 a kl .byte (6 : Int32) vs (.int (0 : Int32)) := ⟨cl_15, Ar_15, q_15, S_15, M_15, H_15, G_15⟩
                        show own_Ends p e below s₁ (mkF m 191 #[.val (.ref a), .val (.int s_), .val (.int en), .val (.int ld), .val (.int (3 : Int32)), .val (.int (128 : Int32)), .val (.int (191 : Int32)), .val (.int (1 : Int32)), .val (.int (2 : Int32)), .val (.int c1)] [(.int t_2)]) _
                        refine own_go (fun _ => XS.sipush X0.here hx rfl (hb hby d1_191)) ?_
                        refine own_go (fun _ => XS.iand X0.here hx rfl (hb hby d1_194) rfl) ?_
                        show own_Ends p e below s₁ (mkF m 195 #[.val (.ref a), .val (.int s_), .val (.int en), .val (.int ld), .val (.int (3 : Int32)), .val (.int (128 : Int32)), .val (.int (191 : Int32)), .val (.int (1 : Int32)), .val (.int (2 : Int32)), .val (.int c1)] [(.int (t_2 &&& (255 : Int32)))]) _
                        refine own_go (fun _ => XS.istore X0.here hx rfl (hb hby d1_195) rfl (l' := #[.val (.ref a), .val (.int s_), .val (.int en), .val (.int ld), .val (.int (3 : Int32)), .val (.int (128 : Int32)), .val (.int (191 : Int32)), .val (.int (1 : Int32)), .val (.int (2 : Int32)), .val (.int (t_2 &&& (255 : Int32)))]) rfl) ?_
                        show own_Ends p e below s₁ (mkF m 197 #[.val (.ref a), .val (.int s_), .val (.int en), .val (.int ld), .val (.int (3 : Int32)), .val (.int (128 : Int32)), .val (.int (191 : Int32)), .val (.int (1 : Int32)), .val (.int (2 : Int32)), .val (.int (t_2 &&& (255 : Int32)))] []) _
                        rw [hl2]
                        show own_Ends p e below s₁ (mkF m 197 #[.val (.ref a), .val (.int s_), .val (.int en), .val (.int ld), .val (.int (3 : Int32)), .val (.int (128 : Int32)), .val (.int (191 : Int32)), .val (.int (1 : Int32)), .val (.int (2 : Int32)), .val (.int c2)] []) _
                        refine own_go (fun _ => XS.iload X0.here hx rfl (hb hby d1_197) rfl) ?_
                        refine own_go (fun _ => XS.iconst X0.here hx rfl (hb hby d1_199)) ?_
                        show own_Ends p e below s₁ (mkF m 200 #[.val (.ref a), .val (.int s_), .val (.int en), .val (.int ld), .val (.int (3 : Int32)), .val (.int (128 : Int32)), .val (.int (191 : Int32)), .val (.int (1 : Int32)), .val (.int (2 : Int32)), .val (.int c2)] [(.int (1 : Int32)), (.int (2 : Int32))]) _
                        refine own_go (fun _ => XS.icmpYes X0.here hx rfl (pc0 := 200) (pc' := 225) rfl (hb hby d1_200) rfl (feq (show ¬ ((2 : Int32) = (1 : Int32)) from by decide)).2 (by decide) (by decide)) ?_
                        show own_Ends p e below s₁ (mkF m 225 #[.val (.ref a), .val (.int s_), .val (.int en), .val (.int ld), .val (.int (3 : Int32)), .val (.int (128 : Int32)), .val (.int (191 : Int32)), .val (.int (1 : Int32)), .val (.int (2 : Int32)), .val (.int c2)] []) _
                        refine own_go (fun _ => XS.iload X0.here hx rfl (hb hby d1_225) rfl) ?_
                        refine own_go (fun _ => XS.bipush X0.here hx rfl (hb hby d1_227)) ?_
                        refine own_go (fun _ => XS.ishr X0.here hx rfl (hb hby d1_229) rfl) ?_
                        show own_Ends p e below s₁ (mkF m 230 #[.val (.ref a), .val (.int s_), .val (.int en), .val (.int ld), .val (.int (3 : Int32)), .val (.int (128 : Int32)), .val (.int (191 : Int32)), .val (.int (1 : Int32)), .val (.int (2 : Int32)), .val (.int c2)] [(.int (c2 >>> ((6 : Int32) &&& 31)))]) _
                        refine own_go (fun _ => XS.iconst X0.here hx rfl (hb hby d1_230)) ?_
                        show own_Ends p e below s₁ (mkF m 231 #[.val (.ref a), .val (.int s_), .val (.int en), .val (.int ld), .val (.int (3 : Int32)), .val (.int (128 : Int32)), .val (.int (191 : Int32)), .val (.int (1 : Int32)), .val (.int (2 : Int32)), .val (.int c2)] [(.int (2 : Int32)), (.int (c2 >>> ((6 : Int32) &&& 31)))]) _
                        by_cases hc231 : (c2 >>> ((6 : Int32) &&& 31)) = (2 : Int32)
                        · refine own_go (fun _ => XS.icmpNo X0.here hx rfl (hb hby d1_231) rfl (teq hc231).2) ?_
                          show own_Ends p e below s₁ (mkF m 234 #[.val (.ref a), .val (.int s_), .val (.int en), .val (.int ld), .val (.int (3 : Int32)), .val (.int (128 : Int32)), .val (.int (191 : Int32)), .val (.int (1 : Int32)), .val (.int (2 : Int32)), .val (.int c2)] []) _
                          refine own_go (fun _ => XS.iconst X0.here hx rfl (hb hby d1_234)) ?_
                          refine own_go (fun _ => XS.goto X0.here hx rfl (pc0 := 235) (pc' := 239) rfl (hb hby d1_235) (by decide) (by decide)) ?_
                          refine own_go (fun _ => XS.istore X0.here hx rfl (hb hby d1_239) rfl (l' := #[.val (.ref a), .val (.int s_), .val (.int en), .val (.int ld), .val (.int (3 : Int32)), .val (.int (128 : Int32)), .val (.int (191 : Int32)), .val (.int (1 : Int32)), .val (.int (2 : Int32)), .val (.int c2)]) rfl) ?_
                          show own_Ends p e below s₁ (mkF m 241 #[.val (.ref a), .val (.int s_), .val (.int en), .val (.int ld), .val (.int (3 : Int32)), .val (.int (128 : Int32)), .val (.int (191 : Int32)), .val (.int (1 : Int32)), .val (.int (2 : Int32)), .val (.int c2)] []) _
                          refine own_go (fun _ => XS.iinc X0.here hx rfl (hb hby d1_241) rfl (l' := #[.val (.ref a), .val (.int s_), .val (.int en), .val (.int ld), .val (.int (3 : Int32)), .val (.int (128 : Int32)), .val (.int (191 : Int32)), .val (.int (1 : Int32)), .val (.int (3 : Int32)), .val (.int c2)]) rfl) ?_
                          show own_Ends p e below s₁ (mkF m 244 #[.val (.ref a), .val (.int s_), .val (.int en), .val (.int ld), .val (.int (3 : Int32)), .val (.int (128 : Int32)), .val (.int (191 : Int32)), .val (.int (1 : Int32)), .val (.int (3 : Int32)), .val (.int c2)] []) _
                          refine own_go (fun _ => XS.goto X0.here hx rfl (pc0 := 244) (pc' := 173) rfl (hb hby d1_244) (by decide) (by decide)) ?_
                          refine own_go (fun _ => XS.iload X0.here hx rfl (hb hby d1_173) rfl) ?_
                          show own_Ends p e below s₁ (mkF m 175 #[.val (.ref a), .val (.int s_), .val (.int en), .val (.int ld), .val (.int (3 : Int32)), .val (.int (128 : Int32)), .val (.int (191 : Int32)), .val (.int (1 : Int32)), .val (.int (3 : Int32)), .val (.int c2)] [(.int (1 : Int32))]) _
                          refine own_go (fun _ => XS.ifNo X0.here hx rfl (hb hby d1_175) rfl ((if0 _ _).trans (feq (show ¬ ((1 : Int32) = (0 : Int32)) from by decide)).1)) ?_
                          show own_Ends p e below s₁ (mkF m 178 #[.val (.ref a), .val (.int s_), .val (.int en), .val (.int ld), .val (.int (3 : Int32)), .val (.int (128 : Int32)), .val (.int (191 : Int32)), .val (.int (1 : Int32)), .val (.int (3 : Int32)), .val (.int c2)] []) _
                          refine own_go (fun _ => XS.iload X0.here hx rfl (hb hby d1_178) rfl) ?_
                          refine own_go (fun _ => XS.iload X0.here hx rfl (hb hby d1_180) rfl) ?_
                          show own_Ends p e below s₁ (mkF m 182 #[.val (.ref a), .val (.int s_), .val (.int en), .val (.int ld), .val (.int (3 : Int32)), .val (.int (128 : Int32)), .val (.int (191 : Int32)), .val (.int (1 : Int32)), .val (.int (3 : Int32)), .val (.int c2)] [(.int (3 : Int32)), (.int (3 : Int32))]) _
                          refine own_go (fun _ => XS.icmpNo X0.here hx rfl (hb hby d1_182) rfl (flt (show ¬ ((3 : Int32) < (3 : Int32)) from by decide)).2.2.1) ?_
                          show own_Ends p e below s₁ (mkF m 185 #[.val (.ref a), .val (.int s_), .val (.int en), .val (.int ld), .val (.int (3 : Int32)), .val (.int (128 : Int32)), .val (.int (191 : Int32)), .val (.int (1 : Int32)), .val (.int (3 : Int32)), .val (.int c2)] []) _
                          refine own_go (fun _ => XS.aloadN X0.here hx rfl (hb hby d1_185) rfl rfl) ?_
                          refine own_go (fun _ => XS.iloadN X0.here hx rfl (hb hby d1_186) rfl) ?_
                          refine own_go (fun _ => XS.iload X0.here hx rfl (hb hby d1_187) rfl) ?_
                          refine own_go (fun _ => XS.iadd X0.here hx rfl (hb hby d1_189) rfl) ?_
                          show own_Ends p e below s₁ (mkF m 190 #[.val (.ref a), .val (.int s_), .val (.int en), .val (.int ld), .val (.int (3 : Int32)), .val (.int (128 : Int32)), .val (.int (191 : Int32)), .val (.int (1 : Int32)), .val (.int (3 : Int32)), .val (.int c2)] [(.int (s_ + (3 : Int32))), (.ref a)]) _
                          obtain ⟨cl_16, Ar_16, q_16, S_16, M_16, H_16, G_16⟩ := V_a_r15
                          have hin16 : ¬ ((s_ + (3 : Int32)) < 0 ∨ cl_16.slots.size ≤ ((s_ + (3 : Int32))).toNatClampNeg) := inb_of S_16 (own_in s_ hs).2.2.2
                          have hat16 : cl_16.slots[((s_ + (3 : Int32))).toNatClampNeg]? = some (.int t_3) := Has.at H_16 hin16 (hva3)
                          refine own_go (X0.baloadBytes hx (j := (s_ + (3 : Int32))) (v := (.int t_3)) (by rw [e0]; exact Ar_16.1) (State.isArrayOf_alike hZ.alike Ar_16.2.1) Ar_16.2.2 hin16 hat16 (g := (mkF m 190 #[.val (.ref a), .val (.int s_), .val (.int en), .val (.int ld), .val (.int (3 : Int32)), .val (.int (128 : Int32)), .val (.int (191 : Int32)), .val (.int (1 : Int32)), .val (.int (3 : Int32)), .val (.int c2)] [(.int (s_ + (3 : Int32))), (.ref a)])) rfl rfl (hb hby d1_190)) ?_
                          have V_a_r16 : Arv Z h0 a kl .byte (6 : Int32) vs (.int (0 : Int32)) := ⟨cl_16, Ar_16, q_16, S_16, M_16, H_16, G_16⟩
                          show own_Ends p e below s₁ (mkF m 191 #[.val (.ref a), .val (.int s_), .val (.int en), .val (.int ld), .val (.int (3 : Int32)), .val (.int (128 : Int32)), .val (.int (191 : Int32)), .val (.int (1 : Int32)), .val (.int (3 : Int32)), .val (.int c2)] [(.int t_3)]) _
                          refine own_go (fun _ => XS.sipush X0.here hx rfl (hb hby d1_191)) ?_
                          refine own_go (fun _ => XS.iand X0.here hx rfl (hb hby d1_194) rfl) ?_
                          show own_Ends p e below s₁ (mkF m 195 #[.val (.ref a), .val (.int s_), .val (.int en), .val (.int ld), .val (.int (3 : Int32)), .val (.int (128 : Int32)), .val (.int (191 : Int32)), .val (.int (1 : Int32)), .val (.int (3 : Int32)), .val (.int c2)] [(.int (t_3 &&& (255 : Int32)))]) _
                          refine own_go (fun _ => XS.istore X0.here hx rfl (hb hby d1_195) rfl (l' := #[.val (.ref a), .val (.int s_), .val (.int en), .val (.int ld), .val (.int (3 : Int32)), .val (.int (128 : Int32)), .val (.int (191 : Int32)), .val (.int (1 : Int32)), .val (.int (3 : Int32)), .val (.int (t_3 &&& (255 : Int32)))]) rfl) ?_
                          show own_Ends p e below s₁ (mkF m 197 #[.val (.ref a), .val (.int s_), .val (.int en), .val (.int ld), .val (.int (3 : Int32)), .val (.int (128 : Int32)), .val (.int (191 : Int32)), .val (.int (1 : Int32)), .val (.int (3 : Int32)), .val (.int (t_3 &&& (255 : Int32)))] []) _
                          rw [hl3]
                          show own_Ends p e below s₁ (mkF m 197 #[.val (.ref a), .val (.int s_), .val (.int en), .val (.int ld), .val (.int (3 : Int32)), .val (.int (128 : Int32)), .val (.int (191 : Int32)), .val (.int (1 : Int32)), .val (.int (3 : Int32)), .val (.int c3)] []) _
                          refine own_go (fun _ => XS.iload X0.here hx rfl (hb hby d1_197) rfl) ?_
                          refine own_go (fun _ => XS.iconst X0.here hx rfl (hb hby d1_199)) ?_
                          show own_Ends p e below s₁ (mkF m 200 #[.val (.ref a), .val (.int s_), .val (.int en), .val (.int ld), .val (.int (3 : Int32)), .val (.int (128 : Int32)), .val (.int (191 : Int32)), .val (.int (1 : Int32)), .val (.int (3 : Int32)), .val (.int c3)] [(.int (1 : Int32)), (.int (3 : Int32))]) _
                          refine own_go (fun _ => XS.icmpYes X0.here hx rfl (pc0 := 200) (pc' := 225) rfl (hb hby d1_200) rfl (feq (show ¬ ((3 : Int32) = (1 : Int32)) from by decide)).2 (by decide) (by decide)) ?_
                          show own_Ends p e below s₁ (mkF m 225 #[.val (.ref a), .val (.int s_), .val (.int en), .val (.int ld), .val (.int (3 : Int32)), .val (.int (128 : Int32)), .val (.int (191 : Int32)), .val (.int (1 : Int32)), .val (.int (3 : Int32)), .val (.int c3)] []) _
                          refine own_go (fun _ => XS.iload X0.here hx rfl (hb hby d1_225) rfl) ?_
                          refine own_go (fun _ => XS.bipush X0.here hx rfl (hb hby d1_227)) ?_
                          refine own_go (fun _ => XS.ishr X0.here hx rfl (hb hby d1_229) rfl) ?_
                          show own_Ends p e below s₁ (mkF m 230 #[.val (.ref a), .val (.int s_), .val (.int en), .val (.int ld), .val (.int (3 : Int32)), .val (.int (128 : Int32)), .val (.int (191 : Int32)), .val (.int (1 : Int32)), .val (.int (3 : Int32)), .val (.int c3)] [(.int (c3 >>> ((6 : Int32) &&& 31)))]) _
                          refine own_go (fun _ => XS.iconst X0.here hx rfl (hb hby d1_230)) ?_
                          show own_Ends p e below s₁ (mkF m 231 #[.val (.ref a), .val (.int s_), .val (.int en), .val (.int ld), .val (.int (3 : Int32)), .val (.int (128 : Int32)), .val (.int (191 : Int32)), .val (.int (1 : Int32)), .val (.int (3 : Int32)), .val (.int c3)] [(.int (2 : Int32)), (.int (c3 >>> ((6 : Int32) &&& 31)))]) _
                          by_cases hc231_1 : (c3 >>> ((6 : Int32) &&& 31)) = (2 : Int32)
                          · refine own_go (fun _ => XS.icmpNo X0.here hx rfl (hb hby d1_231) rfl (teq hc231_1).2) ?_
                            show own_Ends p e below s₁ (mkF m 234 #[.val (.ref a), .val (.int s_), .val (.int en), .val (.int ld), .val (.int (3 : Int32)), .val (.int (128 : Int32)), .val (.int (191 : Int32)), .val (.int (1 : Int32)), .val (.int (3 : Int32)), .val (.int c3)] []) _
                            refine own_go (fun _ => XS.iconst X0.here hx rfl (hb hby d1_234)) ?_
                            refine own_go (fun _ => XS.goto X0.here hx rfl (pc0 := 235) (pc' := 239) rfl (hb hby d1_235) (by decide) (by decide)) ?_
                            refine own_go (fun _ => XS.istore X0.here hx rfl (hb hby d1_239) rfl (l' := #[.val (.ref a), .val (.int s_), .val (.int en), .val (.int ld), .val (.int (3 : Int32)), .val (.int (128 : Int32)), .val (.int (191 : Int32)), .val (.int (1 : Int32)), .val (.int (3 : Int32)), .val (.int c3)]) rfl) ?_
                            show own_Ends p e below s₁ (mkF m 241 #[.val (.ref a), .val (.int s_), .val (.int en), .val (.int ld), .val (.int (3 : Int32)), .val (.int (128 : Int32)), .val (.int (191 : Int32)), .val (.int (1 : Int32)), .val (.int (3 : Int32)), .val (.int c3)] []) _
                            refine own_go (fun _ => XS.iinc X0.here hx rfl (hb hby d1_241) rfl (l' := #[.val (.ref a), .val (.int s_), .val (.int en), .val (.int ld), .val (.int (3 : Int32)), .val (.int (128 : Int32)), .val (.int (191 : Int32)), .val (.int (1 : Int32)), .val (.int (4 : Int32)), .val (.int c3)]) rfl) ?_
                            show own_Ends p e below s₁ (mkF m 244 #[.val (.ref a), .val (.int s_), .val (.int en), .val (.int ld), .val (.int (3 : Int32)), .val (.int (128 : Int32)), .val (.int (191 : Int32)), .val (.int (1 : Int32)), .val (.int (4 : Int32)), .val (.int c3)] []) _
                            refine own_go (fun _ => XS.goto X0.here hx rfl (pc0 := 244) (pc' := 173) rfl (hb hby d1_244) (by decide) (by decide)) ?_
                            refine own_go (fun _ => XS.iload X0.here hx rfl (hb hby d1_173) rfl) ?_
                            show own_Ends p e below s₁ (mkF m 175 #[.val (.ref a), .val (.int s_), .val (.int en), .val (.int ld), .val (.int (3 : Int32)), .val (.int (128 : Int32)), .val (.int (191 : Int32)), .val (.int (1 : Int32)), .val (.int (4 : Int32)), .val (.int c3)] [(.int (1 : Int32))]) _
                            refine own_go (fun _ => XS.ifNo X0.here hx rfl (hb hby d1_175) rfl ((if0 _ _).trans (feq (show ¬ ((1 : Int32) = (0 : Int32)) from by decide)).1)) ?_
                            show own_Ends p e below s₁ (mkF m 178 #[.val (.ref a), .val (.int s_), .val (.int en), .val (.int ld), .val (.int (3 : Int32)), .val (.int (128 : Int32)), .val (.int (191 : Int32)), .val (.int (1 : Int32)), .val (.int (4 : Int32)), .val (.int c3)] []) _
                            refine own_go (fun _ => XS.iload X0.here hx rfl (hb hby d1_178) rfl) ?_
                            refine own_go (fun _ => XS.iload X0.here hx rfl (hb hby d1_180) rfl) ?_
                            show own_Ends p e below s₁ (mkF m 182 #[.val (.ref a), .val (.int s_), .val (.int en), .val (.int ld), .val (.int (3 : Int32)), .val (.int (128 : Int32)), .val (.int (191 : Int32)), .val (.int (1 : Int32)), .val (.int (4 : Int32)), .val (.int c3)] [(.int (3 : Int32)), (.int (4 : Int32))]) _
                            refine own_go (fun _ => XS.icmpYes X0.here hx rfl (pc0 := 182) (pc' := 247) rfl (hb hby d1_182) rfl (tlt (show (3 : Int32) < (4 : Int32) from by decide)).2.2.1 (by decide) (by decide)) ?_
                            show own_Ends p e below s₁ (mkF m 247 #[.val (.ref a), .val (.int s_), .val (.int en), .val (.int ld), .val (.int (3 : Int32)), .val (.int (128 : Int32)), .val (.int (191 : Int32)), .val (.int (1 : Int32)), .val (.int (4 : Int32)), .val (.int c3)] []) _
                            refine own_go (fun _ => XS.iload X0.here hx rfl (hb hby d1_247) rfl) ?_
                            show own_Ends p e below s₁ (mkF m 249 #[.val (.ref a), .val (.int s_), .val (.int en), .val (.int ld), .val (.int (3 : Int32)), .val (.int (128 : Int32)), .val (.int (191 : Int32)), .val (.int (1 : Int32)), .val (.int (4 : Int32)), .val (.int c3)] [(.int (1 : Int32))]) _
                            refine own_go (fun _ => XS.ifNo X0.here hx rfl (hb hby d1_249) rfl ((if0 _ _).trans (feq (show ¬ ((1 : Int32) = (0 : Int32)) from by decide)).1)) ?_
                            show own_Ends p e below s₁ (mkF m 252 #[.val (.ref a), .val (.int s_), .val (.int en), .val (.int ld), .val (.int (3 : Int32)), .val (.int (128 : Int32)), .val (.int (191 : Int32)), .val (.int (1 : Int32)), .val (.int (4 : Int32)), .val (.int c3)] []) _
                            refine own_go (fun _ => XS.iloadN X0.here hx rfl (hb hby d1_252) rfl) ?_
                            refine own_go (fun _ => XS.iload X0.here hx rfl (hb hby d1_253) rfl) ?_
                            refine own_go (fun _ => XS.iadd X0.here hx rfl (hb hby d1_255) rfl) ?_
                            show own_Ends p e below s₁ (mkF m 256 #[.val (.ref a), .val (.int s_), .val (.int en), .val (.int ld), .val (.int (3 : Int32)), .val (.int (128 : Int32)), .val (.int (191 : Int32)), .val (.int (1 : Int32)), .val (.int (4 : Int32)), .val (.int c3)] [(.int (s_ + (3 : Int32)))]) _
                            refine own_go (fun _ => XS.iconst X0.here hx rfl (hb hby d1_256)) ?_
                            refine own_go (fun _ => XS.iadd X0.here hx rfl (hb hby d1_257) rfl) ?_
                            show own_Ends p e below s₁ (mkF m 258 #[.val (.ref a), .val (.int s_), .val (.int en), .val (.int ld), .val (.int (3 : Int32)), .val (.int (128 : Int32)), .val (.int (191 : Int32)), .val (.int (1 : Int32)), .val (.int (4 : Int32)), .val (.int c3)] [(.int ((s_ + (3 : Int32)) + (1 : Int32)))]) _
                            refine own_go (fun _ => XS.goto X0.here hx rfl (pc0 := 258) (pc' := 262) rfl (hb hby d1_258) (by decide) (by decide)) ?_
                            obtain ⟨fs, hr, hrun, hended, hW, hsame⟩ := X0.leave (v := some (.int ((s_ + (3 : Int32)) + (1 : Int32)))) (fun h => by rw [Bd.returns] at h; cases h)
                            refine ⟨_, _, retI X0 hx Bd.returns (hb hby d1_262) hr, hrun, hended, _, _, rfl, ?_, ⟨_, rfl⟩, hW, hsame.mono (by decide) (by decide)⟩
                            show Q_rmSeq Z a s_ en kl vs t_0 t_1 t_2 t_3 ld c1 c2 c3 h0 n0 _ s₁.heap _
                            rw [e0]
                            refine ⟨_, rfl, ?_, N0, rfl⟩
                            obtain ⟨z1, z2, z3, z4, z5, z6⟩ := own_s s_ hs
                            have t0 := (not_congr (own_ltC (194) (by decide))).mp kc0
                            have t1 := (not_congr (own_ltC (224) (by decide))).mp kc1
                            have t2 := (not_congr (own_ltC (225) (by decide))).mp kc2
                            have t3 := (not_congr (own_ltC (237) (by decide))).mp kc3
                            have t4 := (not_congr (own_ltC (238) (by decide))).mp kc4
                            have t5 := (not_congr (own_ltC (240) (by decide))).mp kc5
                            have t6 := (not_congr (own_ltC (241) (by decide))).mp kc6
                            have t7 := (own_ltC (244) (by decide)).mp kc7
                            have t8 := (own_lt2).mp hc160
                            have t9 := (not_congr (own_ltC (128) (by decide))).mp hc207
                            have t10 := (not_congr (own_Clt (191) (by decide))).mp hc214
                            have t11 := (own_eqC (2) (by decide)).mp hc231
                            have t12 := (own_eqC (2) (by decide)).mp hc231_1
                            have y0 := own_sh c2
                            have y1 := own_sh c3
                            exact own_A3 (by unfold own_P3; omega) (own_as4 _)
                          · refine own_go (fun _ => XS.icmpYes X0.here hx rfl (pc0 := 231) (pc' := 238) rfl (hb hby d1_231) rfl (feq hc231_1).2 (by decide) (by decide)) ?_
                            show own_Ends p e below s₁ (mkF m 238 #[.val (.ref a), .val (.int s_), .val (.int en), .val (.int ld), .val (.int (3 : Int32)), .val (.int (128 : Int32)), .val (.int (191 : Int32)), .val (.int (1 : Int32)), .val (.int (3 : Int32)), .val (.int c3)] []) _
                            refine own_go (fun _ => XS.iconst X0.here hx rfl (hb hby d1_238)) ?_
                            refine own_go (fun _ => XS.istore X0.here hx rfl (hb hby d1_239) rfl (l' := #[.val (.ref a), .val (.int s_), .val (.int en), .val (.int ld), .val (.int (3 : Int32)), .val (.int (128 : Int32)), .val (.int (191 : Int32)), .val (.int (0 : Int32)), .val (.int (3 : Int32)), .val (.int c3)]) rfl) ?_
                            show own_Ends p e below s₁ (mkF m 241 #[.val (.ref a), .val (.int s_), .val (.int en), .val (.int ld), .val (.int (3 : Int32)), .val (.int (128 : Int32)), .val (.int (191 : Int32)), .val (.int (0 : Int32)), .val (.int (3 : Int32)), .val (.int c3)] []) _
                            refine own_go (fun _ => XS.iinc X0.here hx rfl (hb hby d1_241) rfl (l' := #[.val (.ref a), .val (.int s_), .val (.int en), .val (.int ld), .val (.int (3 : Int32)), .val (.int (128 : Int32)), .val (.int (191 : Int32)), .val (.int (0 : Int32)), .val (.int (4 : Int32)), .val (.int c3)]) rfl) ?_
                            show own_Ends p e below s₁ (mkF m 244 #[.val (.ref a), .val (.int s_), .val (.int en), .val (.int ld), .val (.int (3 : Int32)), .val (.int (128 : Int32)), .val (.int (191 : Int32)), .val (.int (0 : Int32)), .val (.int (4 : Int32)), .val (.int c3)] []) _
                            refine own_go (fun _ => XS.goto X0.here hx rfl (pc0 := 244) (pc' := 173) rfl (hb hby d1_244) (by decide) (by decide)) ?_
                            refine own_go (fun _ => XS.iload X0.here hx rfl (hb hby d1_173) rfl) ?_
                            show own_Ends p e below s₁ (mkF m 175 #[.val (.ref a), .val (.int s_), .val (.int en), .val (.int ld), .val (.int (3 : Int32)), .val (.int (128 : Int32)), .val (.int (191 : Int32)), .val (.int (0 : Int32)), .val (.int (4 : Int32)), .val (.int c3)] [(.int (0 : Int32))]) _
                            refine own_go (fun _ => XS.ifYes X0.here hx rfl (pc0 := 175) (pc' := 247) rfl (hb hby d1_175) rfl ((if0 _ _).trans (teq (show (0 : Int32) = (0 : Int32) from by decide)).1) (by decide) (by decide)) ?_
                            show own_Ends p e below s₁ (mkF m 247 #[.val (.ref a), .val (.int s_), .val (.int en), .val (.int ld), .val (.int (3 : Int32)), .val (.int (128 : Int32)), .val (.int (191 : Int32)), .val (.int (0 : Int32)), .val (.int (4 : Int32)), .val (.int c3)] []) _
                            refine own_go (fun _ => XS.iload X0.here hx rfl (hb hby d1_247) rfl) ?_
                            show own_Ends p e below s₁ (mkF m 249 #[.val (.ref a), .val (.int s_), .val (.int en), .val (.int ld), .val (.int (3 : Int32)), .val (.int (128 : Int32)), .val (.int (191 : Int32)), .val (.int (0 : Int32)), .val (.int (4 : Int32)), .val (.int c3)] [(.int (0 : Int32))]) _
                            refine own_go (fun _ => XS.ifYes X0.here hx rfl (pc0 := 249) (pc' := 261) rfl (hb hby d1_249) rfl ((if0 _ _).trans (teq (show (0 : Int32) = (0 : Int32) from by decide)).1) (by decide) (by decide)) ?_
                            show own_Ends p e below s₁ (mkF m 261 #[.val (.ref a), .val (.int s_), .val (.int en), .val (.int ld), .val (.int (3 : Int32)), .val (.int (128 : Int32)), .val (.int (191 : Int32)), .val (.int (0 : Int32)), .val (.int (4 : Int32)), .val (.int c3)] []) _
                            refine own_go (fun _ => XS.iconst X0.here hx rfl (hb hby d1_261)) ?_
                            obtain ⟨fs, hr, hrun, hended, hW, hsame⟩ := X0.leave (v := some (.int (-1 : Int32))) (fun h => by rw [Bd.returns] at h; cases h)
                            refine ⟨_, _, retI X0 hx Bd.returns (hb hby d1_262) hr, hrun, hended, _, _, rfl, ?_, ⟨_, rfl⟩, hW, hsame.mono (by decide) (by decide)⟩
                            show Q_rmSeq Z a s_ en kl vs t_0 t_1 t_2 t_3 ld c1 c2 c3 h0 n0 _ s₁.heap _
                            rw [e0]
                            refine ⟨_, rfl, ?_, N0, rfl⟩
                            obtain ⟨z1, z2, z3, z4, z5, z6⟩ := own_s s_ hs
                            have t0 := (not_congr (own_ltC (194) (by decide))).mp kc0
                            have t1 := (not_congr (own_ltC (224) (by decide))).mp kc1
                            have t2 := (not_congr (own_ltC (225) (by decide))).mp kc2
                            have t3 := (not_congr (own_ltC (237) (by decide))).mp kc3
                            have t4 := (not_congr (own_ltC (238) (by decide))).mp kc4
                            have t5 := (not_congr (own_ltC (240) (by decide))).mp kc5
                            have t6 := (not_congr (own_ltC (241) (by decide))).mp kc6
                            have t7 := (own_ltC (244) (by decide)).mp kc7
                            have t8 := (own_lt2).mp hc160
                            have t9 := (not_congr (own_ltC (128) (by decide))).mp hc207
                            have t10 := (not_congr (own_Clt (191) (by decide))).mp hc214
                            have t11 := (own_eqC (2) (by decide)).mp hc231
                            have t12 := (not_congr (own_eqC (2) (by decide))).mp hc231_1
                            have y0 := own_sh c2
                            have y1 := own_sh c3
                            exact own_A0 (by unfold own_P1; omega) (by unfold own_P2; omega) (by unfold own_P3; omega)
                        · refine own_go (fun _ => XS.icmpYes X0.here hx rfl (pc0 := 231) (pc' := 238) rfl (hb hby d1_231) rfl (feq hc231).2 (by decide) (by decide)) ?_
                          show own_Ends p e below s₁ (mkF m 238 #[.val (.ref a), .val (.int s_), .val (.int en), .val (.int ld), .val (.int (3 : Int32)), .val (.int (128 : Int32)), .val (.int (191 : Int32)), .val (.int (1 : Int32)), .val (.int (2 : Int32)), .val (.int c2)] []) _
                          refine own_go (fun _ => XS.iconst X0.here hx rfl (hb hby d1_238)) ?_
                          refine own_go (fun _ => XS.istore X0.here hx rfl (hb hby d1_239) rfl (l' := #[.val (.ref a), .val (.int s_), .val (.int en), .val (.int ld), .val (.int (3 : Int32)), .val (.int (128 : Int32)), .val (.int (191 : Int32)), .val (.int (0 : Int32)), .val (.int (2 : Int32)), .val (.int c2)]) rfl) ?_
                          show own_Ends p e below s₁ (mkF m 241 #[.val (.ref a), .val (.int s_), .val (.int en), .val (.int ld), .val (.int (3 : Int32)), .val (.int (128 : Int32)), .val (.int (191 : Int32)), .val (.int (0 : Int32)), .val (.int (2 : Int32)), .val (.int c2)] []) _
                          refine own_go (fun _ => XS.iinc X0.here hx rfl (hb hby d1_241) rfl (l' := #[.val (.ref a), .val (.int s_), .val (.int en), .val (.int ld), .val (.int (3 : Int32)), .val (.int (128 : Int32)), .val (.int (191 : Int32)), .val (.int (0 : Int32)), .val (.int (3 : Int32)), .val (.int c2)]) rfl) ?_
                          show own_Ends p e below s₁ (mkF m 244 #[.val (.ref a), .val (.int s_), .val (.int en), .val (.int ld), .val (.int (3 : Int32)), .val (.int (128 : Int32)), .val (.int (191 : Int32)), .val (.int (0 : Int32)), .val (.int (3 : Int32)), .val (.int c2)] []) _
                          refine own_go (fun _ => XS.goto X0.here hx rfl (pc0 := 244) (pc' := 173) rfl (hb hby d1_244) (by decide) (by decide)) ?_
                          refine own_go (fun _ => XS.iload X0.here hx rfl (hb hby d1_173) rfl) ?_
                          show own_Ends p e below s₁ (mkF m 175 #[.val (.ref a), .val (.int s_), .val (.int en), .val (.int ld), .val (.int (3 : Int32)), .val (.int (128 : Int32)), .val (.int (191 : Int32)), .val (.int (0 : Int32)), .val (.int (3 : Int32)), .val (.int c2)] [(.int (0 : Int32))]) _
                          refine own_go (fun _ => XS.ifYes X0.here hx rfl (pc0 := 175) (pc' := 247) rfl (hb hby d1_175) rfl ((if0 _ _).trans (teq (show (0 : Int32) = (0 : Int32) from by decide)).1) (by decide) (by decide)) ?_
                          show own_Ends p e below s₁ (mkF m 247 #[.val (.ref a), .val (.int s_), .val (.int en), .val (.int ld), .val (.int (3 : Int32)), .val (.int (128 : Int32)), .val (.int (191 : Int32)), .val (.int (0 : Int32)), .val (.int (3 : Int32)), .val (.int c2)] []) _
                          refine own_go (fun _ => XS.iload X0.here hx rfl (hb hby d1_247) rfl) ?_
                          show own_Ends p e below s₁ (mkF m 249 #[.val (.ref a), .val (.int s_), .val (.int en), .val (.int ld), .val (.int (3 : Int32)), .val (.int (128 : Int32)), .val (.int (191 : Int32)), .val (.int (0 : Int32)), .val (.int (3 : Int32)), .val (.int c2)] [(.int (0 : Int32))]) _
                          refine own_go (fun _ => XS.ifYes X0.here hx rfl (pc0 := 249) (pc' := 261) rfl (hb hby d1_249) rfl ((if0 _ _).trans (teq (show (0 : Int32) = (0 : Int32) from by decide)).1) (by decide) (by decide)) ?_
                          show own_Ends p e below s₁ (mkF m 261 #[.val (.ref a), .val (.int s_), .val (.int en), .val (.int ld), .val (.int (3 : Int32)), .val (.int (128 : Int32)), .val (.int (191 : Int32)), .val (.int (0 : Int32)), .val (.int (3 : Int32)), .val (.int c2)] []) _
                          refine own_go (fun _ => XS.iconst X0.here hx rfl (hb hby d1_261)) ?_
                          obtain ⟨fs, hr, hrun, hended, hW, hsame⟩ := X0.leave (v := some (.int (-1 : Int32))) (fun h => by rw [Bd.returns] at h; cases h)
                          refine ⟨_, _, retI X0 hx Bd.returns (hb hby d1_262) hr, hrun, hended, _, _, rfl, ?_, ⟨_, rfl⟩, hW, hsame.mono (by decide) (by decide)⟩
                          show Q_rmSeq Z a s_ en kl vs t_0 t_1 t_2 t_3 ld c1 c2 c3 h0 n0 _ s₁.heap _
                          rw [e0]
                          refine ⟨_, rfl, ?_, N0, rfl⟩
                          obtain ⟨z1, z2, z3, z4, z5, z6⟩ := own_s s_ hs
                          have t0 := (not_congr (own_ltC (194) (by decide))).mp kc0
                          have t1 := (not_congr (own_ltC (224) (by decide))).mp kc1
                          have t2 := (not_congr (own_ltC (225) (by decide))).mp kc2
                          have t3 := (not_congr (own_ltC (237) (by decide))).mp kc3
                          have t4 := (not_congr (own_ltC (238) (by decide))).mp kc4
                          have t5 := (not_congr (own_ltC (240) (by decide))).mp kc5
                          have t6 := (not_congr (own_ltC (241) (by decide))).mp kc6
                          have t7 := (own_ltC (244) (by decide)).mp kc7
                          have t8 := (own_lt2).mp hc160
                          have t9 := (not_congr (own_ltC (128) (by decide))).mp hc207
                          have t10 := (not_congr (own_Clt (191) (by decide))).mp hc214
                          have t11 := (not_congr (own_eqC (2) (by decide))).mp hc231
                          have y0 := own_sh c2
                          have y1 := own_sh c3
                          exact own_A0 (by unfold own_P1; omega) (by unfold own_P2; omega) (by unfold own_P3; omega)
                  · refine own_go (fun _ => XS.icmpYes X0.here hx rfl (pc0 := 160) (pc' := 167) rfl (hb hby d1_160) rfl (flt hc160).2.1 (by decide) (by decide)) ?_
                    show own_Ends p e below s₁ (mkF m 167 #[.val (.ref a), .val (.int s_), .val (.int en), .val (.int ld), .val (.int (3 : Int32)), .val (.int (128 : Int32)), .val (.int (191 : Int32)), .unset, .unset, .unset] []) _
                    refine own_go (fun _ => XS.iconst X0.here hx rfl (hb hby d1_167)) ?_
                    refine own_go (fun _ => XS.istore X0.here hx rfl (hb hby d1_168) rfl (l' := #[.val (.ref a), .val (.int s_), .val (.int en), .val (.int ld), .val (.int (3 : Int32)), .val (.int (128 : Int32)), .val (.int (191 : Int32)), .val (.int (0 : Int32)), .unset, .unset]) rfl) ?_
                    show own_Ends p e below s₁ (mkF m 170 #[.val (.ref a), .val (.int s_), .val (.int en), .val (.int ld), .val (.int (3 : Int32)), .val (.int (128 : Int32)), .val (.int (191 : Int32)), .val (.int (0 : Int32)), .unset, .unset] []) _
                    refine own_go (fun _ => XS.iconst X0.here hx rfl (hb hby d1_170)) ?_
                    refine own_go (fun _ => XS.istore X0.here hx rfl (hb hby d1_171) rfl (l' := #[.val (.ref a), .val (.int s_), .val (.int en), .val (.int ld), .val (.int (3 : Int32)), .val (.int (128 : Int32)), .val (.int (191 : Int32)), .val (.int (0 : Int32)), .val (.int (1 : Int32)), .unset]) rfl) ?_
                    show own_Ends p e below s₁ (mkF m 173 #[.val (.ref a), .val (.int s_), .val (.int en), .val (.int ld), .val (.int (3 : Int32)), .val (.int (128 : Int32)), .val (.int (191 : Int32)), .val (.int (0 : Int32)), .val (.int (1 : Int32)), .unset] []) _
                    refine own_go (fun _ => XS.iload X0.here hx rfl (hb hby d1_173) rfl) ?_
                    show own_Ends p e below s₁ (mkF m 175 #[.val (.ref a), .val (.int s_), .val (.int en), .val (.int ld), .val (.int (3 : Int32)), .val (.int (128 : Int32)), .val (.int (191 : Int32)), .val (.int (0 : Int32)), .val (.int (1 : Int32)), .unset] [(.int (0 : Int32))]) _
                    refine own_go (fun _ => XS.ifYes X0.here hx rfl (pc0 := 175) (pc' := 247) rfl (hb hby d1_175) rfl ((if0 _ _).trans (teq (show (0 : Int32) = (0 : Int32) from by decide)).1) (by decide) (by decide)) ?_
                    show own_Ends p e below s₁ (mkF m 247 #[.val (.ref a), .val (.int s_), .val (.int en), .val (.int ld), .val (.int (3 : Int32)), .val (.int (128 : Int32)), .val (.int (191 : Int32)), .val (.int (0 : Int32)), .val (.int (1 : Int32)), .unset] []) _
                    refine own_go (fun _ => XS.iload X0.here hx rfl (hb hby d1_247) rfl) ?_
                    show own_Ends p e below s₁ (mkF m 249 #[.val (.ref a), .val (.int s_), .val (.int en), .val (.int ld), .val (.int (3 : Int32)), .val (.int (128 : Int32)), .val (.int (191 : Int32)), .val (.int (0 : Int32)), .val (.int (1 : Int32)), .unset] [(.int (0 : Int32))]) _
                    refine own_go (fun _ => XS.ifYes X0.here hx rfl (pc0 := 249) (pc' := 261) rfl (hb hby d1_249) rfl ((if0 _ _).trans (teq (show (0 : Int32) = (0 : Int32) from by decide)).1) (by decide) (by decide)) ?_
                    show own_Ends p e below s₁ (mkF m 261 #[.val (.ref a), .val (.int s_), .val (.int en), .val (.int ld), .val (.int (3 : Int32)), .val (.int (128 : Int32)), .val (.int (191 : Int32)), .val (.int (0 : Int32)), .val (.int (1 : Int32)), .unset] []) _
                    refine own_go (fun _ => XS.iconst X0.here hx rfl (hb hby d1_261)) ?_
                    obtain ⟨fs, hr, hrun, hended, hW, hsame⟩ := X0.leave (v := some (.int (-1 : Int32))) (fun h => by rw [Bd.returns] at h; cases h)
                    refine ⟨_, _, retI X0 hx Bd.returns (hb hby d1_262) hr, hrun, hended, _, _, rfl, ?_, ⟨_, rfl⟩, hW, hsame.mono (by decide) (by decide)⟩
                    show Q_rmSeq Z a s_ en kl vs t_0 t_1 t_2 t_3 ld c1 c2 c3 h0 n0 _ s₁.heap _
                    rw [e0]
                    refine ⟨_, rfl, ?_, N0, rfl⟩
                    obtain ⟨z1, z2, z3, z4, z5, z6⟩ := own_s s_ hs
                    have t0 := (not_congr (own_ltC (194) (by decide))).mp kc0
                    have t1 := (not_congr (own_ltC (224) (by decide))).mp kc1
                    have t2 := (not_congr (own_ltC (225) (by decide))).mp kc2
                    have t3 := (not_congr (own_ltC (237) (by decide))).mp kc3
                    have t4 := (not_congr (own_ltC (238) (by decide))).mp kc4
                    have t5 := (not_congr (own_ltC (240) (by decide))).mp kc5
                    have t6 := (not_congr (own_ltC (241) (by decide))).mp kc6
                    have t7 := (own_ltC (244) (by decide)).mp kc7
                    have t8 := (not_congr (own_lt2)).mp hc160
                    have y0 := own_sh c2
                    have y1 := own_sh c3
                    exact own_A0 (by unfold own_P1; omega) (by unfold own_P2; omega) (by unfold own_P3; omega)
                · by_cases kc8 : ld < (245 : Int32)
                  · refine own_go (fun _ => XS.iloadN X0.here hx rfl (hb hby d1_21) rfl) ?_
                    refine own_go (fun _ => XS.sipush X0.here hx rfl (hb hby d1_22)) ?_
                    show own_Ends p e below s₁ (mkF m 25 #[.val (.ref a), .val (.int s_), .val (.int en), .val (.int ld), .val (.int (0 : Int32)), .val (.int (128 : Int32)), .val (.int (191 : Int32)), .unset, .unset, .unset] [(.int (194 : Int32)), (.int ld)]) _
                    refine own_go (fun _ => XS.icmpNo X0.here hx rfl (hb hby d1_25) rfl (flt (show ¬ (ld < (194 : Int32)) from own_nlt kc7 (by decide))).1) ?_
                    show own_Ends p e below s₁ (mkF m 28 #[.val (.ref a), .val (.int s_), .val (.int en), .val (.int ld), .val (.int (0 : Int32)), .val (.int (128 : Int32)), .val (.int (191 : Int32)), .unset, .unset, .unset] []) _
                    refine own_go (fun _ => XS.iloadN X0.here hx rfl (hb hby d1_28) rfl) ?_
                    refine own_go (fun _ => XS.sipush X0.here hx rfl (hb hby d1_29)) ?_
                    show own_Ends p e below s₁ (mkF m 32 #[.val (.ref a), .val (.int s_), .val (.int en), .val (.int ld), .val (.int (0 : Int32)), .val (.int (128 : Int32)), .val (.int (191 : Int32)), .unset, .unset, .unset] [(.int (223 : Int32)), (.int ld)]) _
                    refine own_go (fun _ => XS.icmpYes X0.here hx rfl (pc0 := 32) (pc' := 41) rfl (hb hby d1_32) rfl (tlt (show (223 : Int32) < ld from own_gt kc7 (by decide))).2.2.1 (by decide) (by decide)) ?_
                    show own_Ends p e below s₁ (mkF m 41 #[.val (.ref a), .val (.int s_), .val (.int en), .val (.int ld), .val (.int (0 : Int32)), .val (.int (128 : Int32)), .val (.int (191 : Int32)), .unset, .unset, .unset] []) _
                    refine own_go (fun _ => XS.iloadN X0.here hx rfl (hb hby d1_41) rfl) ?_
                    refine own_go (fun _ => XS.sipush X0.here hx rfl (hb hby d1_42)) ?_
                    show own_Ends p e below s₁ (mkF m 45 #[.val (.ref a), .val (.int s_), .val (.int en), .val (.int ld), .val (.int (0 : Int32)), .val (.int (128 : Int32)), .val (.int (191 : Int32)), .unset, .unset, .unset] [(.int (224 : Int32)), (.int ld)]) _
                    refine own_go (fun _ => XS.icmpNo X0.here hx rfl (hb hby d1_45) rfl (flt (show ¬ (ld < (224 : Int32)) from own_nlt kc7 (by decide))).1) ?_
                    show own_Ends p e below s₁ (mkF m 48 #[.val (.ref a), .val (.int s_), .val (.int en), .val (.int ld), .val (.int (0 : Int32)), .val (.int (128 : Int32)), .val (.int (191 : Int32)), .unset, .unset, .unset] []) _
                    refine own_go (fun _ => XS.iloadN X0.here hx rfl (hb hby d1_48) rfl) ?_
                    refine own_go (fun _ => XS.sipush X0.here hx rfl (hb hby d1_49)) ?_
                    show own_Ends p e below s₁ (mkF m 52 #[.val (.ref a), .val (.int s_), .val (.int en), .val (.int ld), .val (.int (0 : Int32)), .val (.int (128 : Int32)), .val (.int (191 : Int32)), .unset, .unset, .unset] [(.int (239 : Int32)), (.int ld)]) _
                    refine own_go (fun _ => XS.icmpYes X0.here hx rfl (pc0 := 52) (pc' := 97) rfl (hb hby d1_52) rfl (tlt (show (239 : Int32) < ld from own_gt kc7 (by decide))).2.2.1 (by decide) (by decide)) ?_
                    show own_Ends p e below s₁ (mkF m 97 #[.val (.ref a), .val (.int s_), .val (.int en), .val (.int ld), .val (.int (0 : Int32)), .val (.int (128 : Int32)), .val (.int (191 : Int32)), .unset, .unset, .unset] []) _
                    refine own_go (fun _ => XS.iloadN X0.here hx rfl (hb hby d1_97) rfl) ?_
                    refine own_go (fun _ => XS.sipush X0.here hx rfl (hb hby d1_98)) ?_
                    show own_Ends p e below s₁ (mkF m 101 #[.val (.ref a), .val (.int s_), .val (.int en), .val (.int ld), .val (.int (0 : Int32)), .val (.int (128 : Int32)), .val (.int (191 : Int32)), .unset, .unset, .unset] [(.int (240 : Int32)), (.int ld)]) _
                    refine own_go (fun _ => XS.icmpNo X0.here hx rfl (hb hby d1_101) rfl (flt (show ¬ (ld < (240 : Int32)) from own_nlt kc7 (by decide))).1) ?_
                    show own_Ends p e below s₁ (mkF m 104 #[.val (.ref a), .val (.int s_), .val (.int en), .val (.int ld), .val (.int (0 : Int32)), .val (.int (128 : Int32)), .val (.int (191 : Int32)), .unset, .unset, .unset] []) _
                    refine own_go (fun _ => XS.iloadN X0.here hx rfl (hb hby d1_104) rfl) ?_
                    refine own_go (fun _ => XS.sipush X0.here hx rfl (hb hby d1_105)) ?_
                    show own_Ends p e below s₁ (mkF m 108 #[.val (.ref a), .val (.int s_), .val (.int en), .val (.int ld), .val (.int (0 : Int32)), .val (.int (128 : Int32)), .val (.int (191 : Int32)), .unset, .unset, .unset] [(.int (244 : Int32)), (.int ld)]) _
                    refine own_go (fun _ => XS.icmpNo X0.here hx rfl (hb hby d1_108) rfl (flt (show ¬ ((244 : Int32) < ld) from own_ngt kc8 (by decide))).2.2.1) ?_
                    show own_Ends p e below s₁ (mkF m 111 #[.val (.ref a), .val (.int s_), .val (.int en), .val (.int ld), .val (.int (0 : Int32)), .val (.int (128 : Int32)), .val (.int (191 : Int32)), .unset, .unset, .unset] []) _
                    refine own_go (fun _ => XS.iconst X0.here hx rfl (hb hby d1_111)) ?_
                    refine own_go (fun _ => XS.istore X0.here hx rfl (hb hby d1_112) rfl (l' := #[.val (.ref a), .val (.int s_), .val (.int en), .val (.int ld), .val (.int (3 : Int32)), .val (.int (128 : Int32)), .val (.int (191 : Int32)), .unset, .unset, .unset]) rfl) ?_
                    show own_Ends p e below s₁ (mkF m 114 #[.val (.ref a), .val (.int s_), .val (.int en), .val (.int ld), .val (.int (3 : Int32)), .val (.int (128 : Int32)), .val (.int (191 : Int32)), .unset, .unset, .unset] []) _
                    refine own_go (fun _ => XS.iloadN X0.here hx rfl (hb hby d1_114) rfl) ?_
                    refine own_go (fun _ => XS.sipush X0.here hx rfl (hb hby d1_115)) ?_
                    show own_Ends p e below s₁ (mkF m 118 #[.val (.ref a), .val (.int s_), .val (.int en), .val (.int ld), .val (.int (3 : Int32)), .val (.int (128 : Int32)), .val (.int (191 : Int32)), .unset, .unset, .unset] [(.int (240 : Int32)), (.int ld)]) _
                    refine own_go (fun _ => XS.icmpYes X0.here hx rfl (pc0 := 118) (pc' := 127) rfl (hb hby d1_118) rfl (feq (show ¬ (ld = (240 : Int32)) from own_ne1 kc7 (by decide))).2 (by decide) (by decide)) ?_
                    show own_Ends p e below s₁ (mkF m 127 #[.val (.ref a), .val (.int s_), .val (.int en), .val (.int ld), .val (.int (3 : Int32)), .val (.int (128 : Int32)), .val (.int (191 : Int32)), .unset, .unset, .unset] []) _
                    refine own_go (fun _ => XS.sipush X0.here hx rfl (hb hby d1_127)) ?_
                    refine own_go (fun _ => XS.istore X0.here hx rfl (hb hby d1_130) rfl (l' := #[.val (.ref a), .val (.int s_), .val (.int en), .val (.int ld), .val (.int (3 : Int32)), .val (.int (128 : Int32)), .val (.int (191 : Int32)), .unset, .unset, .unset]) rfl) ?_
                    show own_Ends p e below s₁ (mkF m 132 #[.val (.ref a), .val (.int s_), .val (.int en), .val (.int ld), .val (.int (3 : Int32)), .val (.int (128 : Int32)), .val (.int (191 : Int32)), .unset, .unset, .unset] []) _
                    refine own_go (fun _ => XS.iloadN X0.here hx rfl (hb hby d1_132) rfl) ?_
                    refine own_go (fun _ => XS.sipush X0.here hx rfl (hb hby d1_133)) ?_
                    show own_Ends p e below s₁ (mkF m 136 #[.val (.ref a), .val (.int s_), .val (.int en), .val (.int ld), .val (.int (3 : Int32)), .val (.int (128 : Int32)), .val (.int (191 : Int32)), .unset, .unset, .unset] [(.int (244 : Int32)), (.int ld)]) _
                    refine own_go (fun _ => XS.icmpNo X0.here hx rfl (hb hby d1_136) rfl (teq (show ld = (244 : Int32) from own_eq kc7 kc8 (by decide))).2) ?_
                    show own_Ends p e below s₁ (mkF m 139 #[.val (.ref a), .val (.int s_), .val (.int en), .val (.int ld), .val (.int (3 : Int32)), .val (.int (128 : Int32)), .val (.int (191 : Int32)), .unset, .unset, .unset] []) _
                    refine own_go (fun _ => XS.sipush X0.here hx rfl (hb hby d1_139)) ?_
                    refine own_go (fun _ => XS.goto X0.here hx rfl (pc0 := 142) (pc' := 148) rfl (hb hby d1_142) (by decide) (by decide)) ?_
                    refine own_go (fun _ => XS.istore X0.here hx rfl (hb hby d1_148) rfl (l' := #[.val (.ref a), .val (.int s_), .val (.int en), .val (.int ld), .val (.int (3 : Int32)), .val (.int (128 : Int32)), .val (.int (143 : Int32)), .unset, .unset, .unset]) rfl) ?_
                    show own_Ends p e below s₁ (mkF m 150 #[.val (.ref a), .val (.int s_), .val (.int en), .val (.int ld), .val (.int (3 : Int32)), .val (.int (128 : Int32)), .val (.int (143 : Int32)), .unset, .unset, .unset] []) _
                    refine own_go (fun _ => XS.iload X0.here hx rfl (hb hby d1_150) rfl) ?_
                    show own_Ends p e below s₁ (mkF m 152 #[.val (.ref a), .val (.int s_), .val (.int en), .val (.int ld), .val (.int (3 : Int32)), .val (.int (128 : Int32)), .val (.int (143 : Int32)), .unset, .unset, .unset] [(.int (3 : Int32))]) _
                    refine own_go (fun _ => XS.ifNo X0.here hx rfl (hb hby d1_152) rfl ((if0 _ _).trans (tlt (show (0 : Int32) < (3 : Int32) from by decide)).2.2.2)) ?_
                    show own_Ends p e below s₁ (mkF m 155 #[.val (.ref a), .val (.int s_), .val (.int en), .val (.int ld), .val (.int (3 : Int32)), .val (.int (128 : Int32)), .val (.int (143 : Int32)), .unset, .unset, .unset] []) _
                    refine own_go (fun _ => XS.iloadN X0.here hx rfl (hb hby d1_155) rfl) ?_
                    refine own_go (fun _ => XS.iload X0.here hx rfl (hb hby d1_156) rfl) ?_
                    refine own_go (fun _ => XS.iadd X0.here hx rfl (hb hby d1_158) rfl) ?_
                    show own_Ends p e below s₁ (mkF m 159 #[.val (.ref a), .val (.int s_), .val (.int en), .val (.int ld), .val (.int (3 : Int32)), .val (.int (128 : Int32)), .val (.int (143 : Int32)), .unset, .unset, .unset] [(.int (s_ + (3 : Int32)))]) _
                    refine own_go (fun _ => XS.iloadN X0.here hx rfl (hb hby d1_159) rfl) ?_
                    show own_Ends p e below s₁ (mkF m 160 #[.val (.ref a), .val (.int s_), .val (.int en), .val (.int ld), .val (.int (3 : Int32)), .val (.int (128 : Int32)), .val (.int (143 : Int32)), .unset, .unset, .unset] [(.int en), (.int (s_ + (3 : Int32)))]) _
                    by_cases hc160 : (s_ + (3 : Int32)) < en
                    · refine own_go (fun _ => XS.icmpNo X0.here hx rfl (hb hby d1_160) rfl (tlt hc160).2.1) ?_
                      show own_Ends p e below s₁ (mkF m 163 #[.val (.ref a), .val (.int s_), .val (.int en), .val (.int ld), .val (.int (3 : Int32)), .val (.int (128 : Int32)), .val (.int (143 : Int32)), .unset, .unset, .unset] []) _
                      refine own_go (fun _ => XS.iconst X0.here hx rfl (hb hby d1_163)) ?_
                      refine own_go (fun _ => XS.goto X0.here hx rfl (pc0 := 164) (pc' := 168) rfl (hb hby d1_164) (by decide) (by decide)) ?_
                      refine own_go (fun _ => XS.istore X0.here hx rfl (hb hby d1_168) rfl (l' := #[.val (.ref a), .val (.int s_), .val (.int en), .val (.int ld), .val (.int (3 : Int32)), .val (.int (128 : Int32)), .val (.int (143 : Int32)), .val (.int (1 : Int32)), .unset, .unset]) rfl) ?_
                      show own_Ends p e below s₁ (mkF m 170 #[.val (.ref a), .val (.int s_), .val (.int en), .val (.int ld), .val (.int (3 : Int32)), .val (.int (128 : Int32)), .val (.int (143 : Int32)), .val (.int (1 : Int32)), .unset, .unset] []) _
                      refine own_go (fun _ => XS.iconst X0.here hx rfl (hb hby d1_170)) ?_
                      refine own_go (fun _ => XS.istore X0.here hx rfl (hb hby d1_171) rfl (l' := #[.val (.ref a), .val (.int s_), .val (.int en), .val (.int ld), .val (.int (3 : Int32)), .val (.int (128 : Int32)), .val (.int (143 : Int32)), .val (.int (1 : Int32)), .val (.int (1 : Int32)), .unset]) rfl) ?_
                      show own_Ends p e below s₁ (mkF m 173 #[.val (.ref a), .val (.int s_), .val (.int en), .val (.int ld), .val (.int (3 : Int32)), .val (.int (128 : Int32)), .val (.int (143 : Int32)), .val (.int (1 : Int32)), .val (.int (1 : Int32)), .unset] []) _
                      refine own_go (fun _ => XS.iload X0.here hx rfl (hb hby d1_173) rfl) ?_
                      show own_Ends p e below s₁ (mkF m 175 #[.val (.ref a), .val (.int s_), .val (.int en), .val (.int ld), .val (.int (3 : Int32)), .val (.int (128 : Int32)), .val (.int (143 : Int32)), .val (.int (1 : Int32)), .val (.int (1 : Int32)), .unset] [(.int (1 : Int32))]) _
                      refine own_go (fun _ => XS.ifNo X0.here hx rfl (hb hby d1_175) rfl ((if0 _ _).trans (feq (show ¬ ((1 : Int32) = (0 : Int32)) from by decide)).1)) ?_
                      show own_Ends p e below s₁ (mkF m 178 #[.val (.ref a), .val (.int s_), .val (.int en), .val (.int ld), .val (.int (3 : Int32)), .val (.int (128 : Int32)), .val (.int (143 : Int32)), .val (.int (1 : Int32)), .val (.int (1 : Int32)), .unset] []) _
                      refine own_go (fun _ => XS.iload X0.here hx rfl (hb hby d1_178) rfl) ?_
                      refine own_go (fun _ => XS.iload X0.here hx rfl (hb hby d1_180) rfl) ?_
                      show own_Ends p e below s₁ (mkF m 182 #[.val (.ref a), .val (.int s_), .val (.int en), .val (.int ld), .val (.int (3 : Int32)), .val (.int (128 : Int32)), .val (.int (143 : Int32)), .val (.int (1 : Int32)), .val (.int (1 : Int32)), .unset] [(.int (3 : Int32)), (.int (1 : Int32))]) _
                      refine own_go (fun _ => XS.icmpNo X0.here hx rfl (hb hby d1_182) rfl (flt (show ¬ ((3 : Int32) < (1 : Int32)) from by decide)).2.2.1) ?_
                      show own_Ends p e below s₁ (mkF m 185 #[.val (.ref a), .val (.int s_), .val (.int en), .val (.int ld), .val (.int (3 : Int32)), .val (.int (128 : Int32)), .val (.int (143 : Int32)), .val (.int (1 : Int32)), .val (.int (1 : Int32)), .unset] []) _
                      refine own_go (fun _ => XS.aloadN X0.here hx rfl (hb hby d1_185) rfl rfl) ?_
                      refine own_go (fun _ => XS.iloadN X0.here hx rfl (hb hby d1_186) rfl) ?_
                      refine own_go (fun _ => XS.iload X0.here hx rfl (hb hby d1_187) rfl) ?_
                      refine own_go (fun _ => XS.iadd X0.here hx rfl (hb hby d1_189) rfl) ?_
                      show own_Ends p e below s₁ (mkF m 190 #[.val (.ref a), .val (.int s_), .val (.int en), .val (.int ld), .val (.int (3 : Int32)), .val (.int (128 : Int32)), .val (.int (143 : Int32)), .val (.int (1 : Int32)), .val (.int (1 : Int32)), .unset] [(.int (s_ + (1 : Int32))), (.ref a)]) _
                      obtain ⟨cl_17, Ar_17, q_17, S_17, M_17, H_17, G_17⟩ := V_a_r1
                      have hin17 : ¬ ((s_ + (1 : Int32)) < 0 ∨ cl_17.slots.size ≤ ((s_ + (1 : Int32))).toNatClampNeg) := inb_of S_17 (own_in s_ hs).2.1
                      have hat17 : cl_17.slots[((s_ + (1 : Int32))).toNatClampNeg]? = some (.int t_1) := Has.at H_17 hin17 (hva1)
                      refine own_go (X0.baloadBytes hx (j := (s_ + (1 : Int32))) (v := (.int t_1)) (by rw [e0]; exact Ar_17.1) (State.isArrayOf_alike hZ.alike Ar_17.2.1) Ar_17.2.2 hin17 hat17 (g := (mkF m 190 #[.val (.ref a), .val (.int s_), .val (.int en), .val (.int ld), .val (.int (3 : Int32)), .val (.int (128 : Int32)), .val (.int (143 : Int32)), .val (.int (1 : Int32)), .val (.int (1 : Int32)), .unset] [(.int (s_ + (1 : Int32))), (.ref a)])) rfl rfl (hb hby d1_190)) ?_
                      have V_a_r17 : Arv Z h0 a kl .byte (6 : Int32) vs (.int (0 : Int32)) := ⟨cl_17, Ar_17, q_17, S_17, M_17, H_17, G_17⟩
                      show own_Ends p e below s₁ (mkF m 191 #[.val (.ref a), .val (.int s_), .val (.int en), .val (.int ld), .val (.int (3 : Int32)), .val (.int (128 : Int32)), .val (.int (143 : Int32)), .val (.int (1 : Int32)), .val (.int (1 : Int32)), .unset] [(.int t_1)]) _
                      refine own_go (fun _ => XS.sipush X0.here hx rfl (hb hby d1_191)) ?_
                      refine own_go (fun _ => XS.iand X0.here hx rfl (hb hby d1_194) rfl) ?_
                      show own_Ends p e below s₁ (mkF m 195 #[.val (.ref a), .val (.int s_), .val (.int en), .val (.int ld), .val (.int (3 : Int32)), .val (.int (128 : Int32)), .val (.int (143 : Int32)), .val (.int (1 : Int32)), .val (.int (1 : Int32)), .unset] [(.int (t_1 &&& (255 : Int32)))]) _
                      refine own_go (fun _ => XS.istore X0.here hx rfl (hb hby d1_195) rfl (l' := #[.val (.ref a), .val (.int s_), .val (.int en), .val (.int ld), .val (.int (3 : Int32)), .val (.int (128 : Int32)), .val (.int (143 : Int32)), .val (.int (1 : Int32)), .val (.int (1 : Int32)), .val (.int (t_1 &&& (255 : Int32)))]) rfl) ?_
                      show own_Ends p e below s₁ (mkF m 197 #[.val (.ref a), .val (.int s_), .val (.int en), .val (.int ld), .val (.int (3 : Int32)), .val (.int (128 : Int32)), .val (.int (143 : Int32)), .val (.int (1 : Int32)), .val (.int (1 : Int32)), .val (.int (t_1 &&& (255 : Int32)))] []) _
                      rw [hl1]
                      show own_Ends p e below s₁ (mkF m 197 #[.val (.ref a), .val (.int s_), .val (.int en), .val (.int ld), .val (.int (3 : Int32)), .val (.int (128 : Int32)), .val (.int (143 : Int32)), .val (.int (1 : Int32)), .val (.int (1 : Int32)), .val (.int c1)] []) _
                      refine own_go (fun _ => XS.iload X0.here hx rfl (hb hby d1_197) rfl) ?_
                      refine own_go (fun _ => XS.iconst X0.here hx rfl (hb hby d1_199)) ?_
                      show own_Ends p e below s₁ (mkF m 200 #[.val (.ref a), .val (.int s_), .val (.int en), .val (.int ld), .val (.int (3 : Int32)), .val (.int (128 : Int32)), .val (.int (143 : Int32)), .val (.int (1 : Int32)), .val (.int (1 : Int32)), .val (.int c1)] [(.int (1 : Int32)), (.int (1 : Int32))]) _
                      refine own_go (fun _ => XS.icmpNo X0.here hx rfl (hb hby d1_200) rfl (teq (show (1 : Int32) = (1 : Int32) from by decide)).2) ?_
                      show own_Ends p e below s₁ (mkF m 203 #[.val (.ref a), .val (.int s_), .val (.int en), .val (.int ld), .val (.int (3 : Int32)), .val (.int (128 : Int32)), .val (.int (143 : Int32)), .val (.int (1 : Int32)), .val (.int (1 : Int32)), .val (.int c1)] []) _
                      refine own_go (fun _ => XS.iload X0.here hx rfl (hb hby d1_203) rfl) ?_
                      refine own_go (fun _ => XS.iload X0.here hx rfl (hb hby d1_205) rfl) ?_
                      show own_Ends p e below s₁ (mkF m 207 #[.val (.ref a), .val (.int s_), .val (.int en), .val (.int ld), .val (.int (3 : Int32)), .val (.int (128 : Int32)), .val (.int (143 : Int32)), .val (.int (1 : Int32)), .val (.int (1 : Int32)), .val (.int c1)] [(.int (128 : Int32)), (.int c1)]) _
                      by_cases hc207 : c1 < (128 : Int32)
                      · refine own_go (fun _ => XS.icmpYes X0.here hx rfl (pc0 := 207) (pc' := 221) rfl (hb hby d1_207) rfl (tlt hc207).1 (by decide) (by decide)) ?_
                        show own_Ends p e below s₁ (mkF m 221 #[.val (.ref a), .val (.int s_), .val (.int en), .val (.int ld), .val (.int (3 : Int32)), .val (.int (128 : Int32)), .val (.int (143 : Int32)), .val (.int (1 : Int32)), .val (.int (1 : Int32)), .val (.int c1)] []) _
                        refine own_go (fun _ => XS.iconst X0.here hx rfl (hb hby d1_221)) ?_
                        refine own_go (fun _ => XS.goto X0.here hx rfl (pc0 := 222) (pc' := 239) rfl (hb hby d1_222) (by decide) (by decide)) ?_
                        refine own_go (fun _ => XS.istore X0.here hx rfl (hb hby d1_239) rfl (l' := #[.val (.ref a), .val (.int s_), .val (.int en), .val (.int ld), .val (.int (3 : Int32)), .val (.int (128 : Int32)), .val (.int (143 : Int32)), .val (.int (0 : Int32)), .val (.int (1 : Int32)), .val (.int c1)]) rfl) ?_
                        show own_Ends p e below s₁ (mkF m 241 #[.val (.ref a), .val (.int s_), .val (.int en), .val (.int ld), .val (.int (3 : Int32)), .val (.int (128 : Int32)), .val (.int (143 : Int32)), .val (.int (0 : Int32)), .val (.int (1 : Int32)), .val (.int c1)] []) _
                        refine own_go (fun _ => XS.iinc X0.here hx rfl (hb hby d1_241) rfl (l' := #[.val (.ref a), .val (.int s_), .val (.int en), .val (.int ld), .val (.int (3 : Int32)), .val (.int (128 : Int32)), .val (.int (143 : Int32)), .val (.int (0 : Int32)), .val (.int (2 : Int32)), .val (.int c1)]) rfl) ?_
                        show own_Ends p e below s₁ (mkF m 244 #[.val (.ref a), .val (.int s_), .val (.int en), .val (.int ld), .val (.int (3 : Int32)), .val (.int (128 : Int32)), .val (.int (143 : Int32)), .val (.int (0 : Int32)), .val (.int (2 : Int32)), .val (.int c1)] []) _
                        refine own_go (fun _ => XS.goto X0.here hx rfl (pc0 := 244) (pc' := 173) rfl (hb hby d1_244) (by decide) (by decide)) ?_
                        refine own_go (fun _ => XS.iload X0.here hx rfl (hb hby d1_173) rfl) ?_
                        show own_Ends p e below s₁ (mkF m 175 #[.val (.ref a), .val (.int s_), .val (.int en), .val (.int ld), .val (.int (3 : Int32)), .val (.int (128 : Int32)), .val (.int (143 : Int32)), .val (.int (0 : Int32)), .val (.int (2 : Int32)), .val (.int c1)] [(.int (0 : Int32))]) _
                        refine own_go (fun _ => XS.ifYes X0.here hx rfl (pc0 := 175) (pc' := 247) rfl (hb hby d1_175) rfl ((if0 _ _).trans (teq (show (0 : Int32) = (0 : Int32) from by decide)).1) (by decide) (by decide)) ?_
                        show own_Ends p e below s₁ (mkF m 247 #[.val (.ref a), .val (.int s_), .val (.int en), .val (.int ld), .val (.int (3 : Int32)), .val (.int (128 : Int32)), .val (.int (143 : Int32)), .val (.int (0 : Int32)), .val (.int (2 : Int32)), .val (.int c1)] []) _
                        refine own_go (fun _ => XS.iload X0.here hx rfl (hb hby d1_247) rfl) ?_
                        show own_Ends p e below s₁ (mkF m 249 #[.val (.ref a), .val (.int s_), .val (.int en), .val (.int ld), .val (.int (3 : Int32)), .val (.int (128 : Int32)), .val (.int (143 : Int32)), .val (.int (0 : Int32)), .val (.int (2 : Int32)), .val (.int c1)] [(.int (0 : Int32))]) _
                        refine own_go (fun _ => XS.ifYes X0.here hx rfl (pc0 := 249) (pc' := 261) rfl (hb hby d1_249) rfl ((if0 _ _).trans (teq (show (0 : Int32) = (0 : Int32) from by decide)).1) (by decide) (by decide)) ?_
                        show own_Ends p e below s₁ (mkF m 261 #[.val (.ref a), .val (.int s_), .val (.int en), .val (.int ld), .val (.int (3 : Int32)), .val (.int (128 : Int32)), .val (.int (143 : Int32)), .val (.int (0 : Int32)), .val (.int (2 : Int32)), .val (.int c1)] []) _
                        refine own_go (fun _ => XS.iconst X0.here hx rfl (hb hby d1_261)) ?_
                        obtain ⟨fs, hr, hrun, hended, hW, hsame⟩ := X0.leave (v := some (.int (-1 : Int32))) (fun h => by rw [Bd.returns] at h; cases h)
                        refine ⟨_, _, retI X0 hx Bd.returns (hb hby d1_262) hr, hrun, hended, _, _, rfl, ?_, ⟨_, rfl⟩, hW, hsame.mono (by decide) (by decide)⟩
                        show Q_rmSeq Z a s_ en kl vs t_0 t_1 t_2 t_3 ld c1 c2 c3 h0 n0 _ s₁.heap _
                        rw [e0]
                        refine ⟨_, rfl, ?_, N0, rfl⟩
                        obtain ⟨z1, z2, z3, z4, z5, z6⟩ := own_s s_ hs
                        have t0 := (not_congr (own_ltC (194) (by decide))).mp kc0
                        have t1 := (not_congr (own_ltC (224) (by decide))).mp kc1
                        have t2 := (not_congr (own_ltC (225) (by decide))).mp kc2
                        have t3 := (not_congr (own_ltC (237) (by decide))).mp kc3
                        have t4 := (not_congr (own_ltC (238) (by decide))).mp kc4
                        have t5 := (not_congr (own_ltC (240) (by decide))).mp kc5
                        have t6 := (not_congr (own_ltC (241) (by decide))).mp kc6
                        have t7 := (not_congr (own_ltC (244) (by decide))).mp kc7
                        have t8 := (own_ltC (245) (by decide)).mp kc8
                        have t9 := (own_lt2).mp hc160
                        have t10 := (own_ltC (128) (by decide)).mp hc207
                        have y0 := own_sh c2
                        have y1 := own_sh c3
                        exact own_A0 (by unfold own_P1; omega) (by unfold own_P2; omega) (by unfold own_P3; omega)
                      · refine own_go (fun _ => XS.icmpNo X0.here hx rfl (hb hby d1_207) rfl (flt hc207).1) ?_
                        show own_Ends p e below s₁ (mkF m 210 #[.val (.ref a), .val (.int s_), .val (.int en), .val (.int ld), .val (.int (3 : Int32)), .val (.int (128 : Int32)), .val (.int (143 : Int32)), .val (.int (1 : Int32)), .val (.int (1 : Int32)), .val (.int c1)] []) _
                        refine own_go (fun _ => XS.iload X0.here hx rfl (hb hby d1_210) rfl) ?_
                        refine own_go (fun _ => XS.iload X0.here hx rfl (hb hby d1_212) rfl) ?_
                        show own_Ends p e below s₁ (mkF m 214 #[.val (.ref a), .val (.int s_), .val (.int en), .val (.int ld), .val (.int (3 : Int32)), .val (.int (128 : Int32)), .val (.int (143 : Int32)), .val (.int (1 : Int32)), .val (.int (1 : Int32)), .val (.int c1)] [(.int (143 : Int32)), (.int c1)]) _
                        by_cases hc214 : (143 : Int32) < c1
                        · refine own_go (fun _ => XS.icmpYes X0.here hx rfl (pc0 := 214) (pc' := 221) rfl (hb hby d1_214) rfl (tlt hc214).2.2.1 (by decide) (by decide)) ?_
                          show own_Ends p e below s₁ (mkF m 221 #[.val (.ref a), .val (.int s_), .val (.int en), .val (.int ld), .val (.int (3 : Int32)), .val (.int (128 : Int32)), .val (.int (143 : Int32)), .val (.int (1 : Int32)), .val (.int (1 : Int32)), .val (.int c1)] []) _
                          refine own_go (fun _ => XS.iconst X0.here hx rfl (hb hby d1_221)) ?_
                          refine own_go (fun _ => XS.goto X0.here hx rfl (pc0 := 222) (pc' := 239) rfl (hb hby d1_222) (by decide) (by decide)) ?_
                          refine own_go (fun _ => XS.istore X0.here hx rfl (hb hby d1_239) rfl (l' := #[.val (.ref a), .val (.int s_), .val (.int en), .val (.int ld), .val (.int (3 : Int32)), .val (.int (128 : Int32)), .val (.int (143 : Int32)), .val (.int (0 : Int32)), .val (.int (1 : Int32)), .val (.int c1)]) rfl) ?_
                          show own_Ends p e below s₁ (mkF m 241 #[.val (.ref a), .val (.int s_), .val (.int en), .val (.int ld), .val (.int (3 : Int32)), .val (.int (128 : Int32)), .val (.int (143 : Int32)), .val (.int (0 : Int32)), .val (.int (1 : Int32)), .val (.int c1)] []) _
                          refine own_go (fun _ => XS.iinc X0.here hx rfl (hb hby d1_241) rfl (l' := #[.val (.ref a), .val (.int s_), .val (.int en), .val (.int ld), .val (.int (3 : Int32)), .val (.int (128 : Int32)), .val (.int (143 : Int32)), .val (.int (0 : Int32)), .val (.int (2 : Int32)), .val (.int c1)]) rfl) ?_
                          show own_Ends p e below s₁ (mkF m 244 #[.val (.ref a), .val (.int s_), .val (.int en), .val (.int ld), .val (.int (3 : Int32)), .val (.int (128 : Int32)), .val (.int (143 : Int32)), .val (.int (0 : Int32)), .val (.int (2 : Int32)), .val (.int c1)] []) _
                          refine own_go (fun _ => XS.goto X0.here hx rfl (pc0 := 244) (pc' := 173) rfl (hb hby d1_244) (by decide) (by decide)) ?_
                          refine own_go (fun _ => XS.iload X0.here hx rfl (hb hby d1_173) rfl) ?_
                          show own_Ends p e below s₁ (mkF m 175 #[.val (.ref a), .val (.int s_), .val (.int en), .val (.int ld), .val (.int (3 : Int32)), .val (.int (128 : Int32)), .val (.int (143 : Int32)), .val (.int (0 : Int32)), .val (.int (2 : Int32)), .val (.int c1)] [(.int (0 : Int32))]) _
                          refine own_go (fun _ => XS.ifYes X0.here hx rfl (pc0 := 175) (pc' := 247) rfl (hb hby d1_175) rfl ((if0 _ _).trans (teq (show (0 : Int32) = (0 : Int32) from by decide)).1) (by decide) (by decide)) ?_
                          show own_Ends p e below s₁ (mkF m 247 #[.val (.ref a), .val (.int s_), .val (.int en), .val (.int ld), .val (.int (3 : Int32)), .val (.int (128 : Int32)), .val (.int (143 : Int32)), .val (.int (0 : Int32)), .val (.int (2 : Int32)), .val (.int c1)] []) _
                          refine own_go (fun _ => XS.iload X0.here hx rfl (hb hby d1_247) rfl) ?_
                          show own_Ends p e below s₁ (mkF m 249 #[.val (.ref a), .val (.int s_), .val (.int en), .val (.int ld), .val (.int (3 : Int32)), .val (.int (128 : Int32)), .val (.int (143 : Int32)), .val (.int (0 : Int32)), .val (.int (2 : Int32)), .val (.int c1)] [(.int (0 : Int32))]) _
                          refine own_go (fun _ => XS.ifYes X0.here hx rfl (pc0 := 249) (pc' := 261) rfl (hb hby d1_249) rfl ((if0 _ _).trans (teq (show (0 : Int32) = (0 : Int32) from by decide)).1) (by decide) (by decide)) ?_
                          show own_Ends p e below s₁ (mkF m 261 #[.val (.ref a), .val (.int s_), .val (.int en), .val (.int ld), .val (.int (3 : Int32)), .val (.int (128 : Int32)), .val (.int (143 : Int32)), .val (.int (0 : Int32)), .val (.int (2 : Int32)), .val (.int c1)] []) _
                          refine own_go (fun _ => XS.iconst X0.here hx rfl (hb hby d1_261)) ?_
                          obtain ⟨fs, hr, hrun, hended, hW, hsame⟩ := X0.leave (v := some (.int (-1 : Int32))) (fun h => by rw [Bd.returns] at h; cases h)
                          refine ⟨_, _, retI X0 hx Bd.returns (hb hby d1_262) hr, hrun, hended, _, _, rfl, ?_, ⟨_, rfl⟩, hW, hsame.mono (by decide) (by decide)⟩
                          show Q_rmSeq Z a s_ en kl vs t_0 t_1 t_2 t_3 ld c1 c2 c3 h0 n0 _ s₁.heap _
                          rw [e0]
                          refine ⟨_, rfl, ?_, N0, rfl⟩
                          obtain ⟨z1, z2, z3, z4, z5, z6⟩ := own_s s_ hs
                          have t0 := (not_congr (own_ltC (194) (by decide))).mp kc0
                          have t1 := (not_congr (own_ltC (224) (by decide))).mp kc1
                          have t2 := (not_congr (own_ltC (225) (by decide))).mp kc2
                          have t3 := (not_congr (own_ltC (237) (by decide))).mp kc3
                          have t4 := (not_congr (own_ltC (238) (by decide))).mp kc4
                          have t5 := (not_congr (own_ltC (240) (by decide))).mp kc5
                          have t6 := (not_congr (own_ltC (241) (by decide))).mp kc6
                          have t7 := (not_congr (own_ltC (244) (by decide))).mp kc7
                          have t8 := (own_ltC (245) (by decide)).mp kc8
                          have t9 := (own_lt2).mp hc160
                          have t10 := (not_congr (own_ltC (128) (by decide))).mp hc207
                          have t11 := (own_Clt (143) (by decide)).mp hc214
                          have y0 := own_sh c2
                          have y1 := own_sh c3
                          exact own_A0 (by unfold own_P1; omega) (by unfold own_P2; omega) (by unfold own_P3; omega)
                        · refine own_go (fun _ => XS.icmpNo X0.here hx rfl (hb hby d1_214) rfl (flt hc214).2.2.1) ?_
                          show own_Ends p e below s₁ (mkF m 217 #[.val (.ref a), .val (.int s_), .val (.int en), .val (.int ld), .val (.int (3 : Int32)), .val (.int (128 : Int32)), .val (.int (143 : Int32)), .val (.int (1 : Int32)), .val (.int (1 : Int32)), .val (.int c1)] []) _
                          refine own_go (fun _ => XS.iconst X0.here hx rfl (hb hby d1_217)) ?_
                          refine own_go (fun _ => XS.goto X0.here hx rfl (pc0 := 218) (pc' := 239) rfl (hb hby d1_218) (by decide) (by decide)) ?_
                          refine own_go (fun _ => XS.istore X0.here hx rfl (hb hby d1_239) rfl (l' := #[.val (.ref a), .val (.int s_), .val (.int en), .val (.int ld), .val (.int (3 : Int32)), .val (.int (128 : Int32)), .val (.int (143 : Int32)), .val (.int (1 : Int32)), .val (.int (1 : Int32)), .val (.int c1)]) rfl) ?_
                          show own_Ends p e below s₁ (mkF m 241 #[.val (.ref a), .val (.int s_), .val (.int en), .val (.int ld), .val (.int (3 : Int32)), .val (.int (128 : Int32)), .val (.int (143 : Int32)), .val (.int (1 : Int32)), .val (.int (1 : Int32)), .val (.int c1)] []) _
                          refine own_go (fun _ => XS.iinc X0.here hx rfl (hb hby d1_241) rfl (l' := #[.val (.ref a), .val (.int s_), .val (.int en), .val (.int ld), .val (.int (3 : Int32)), .val (.int (128 : Int32)), .val (.int (143 : Int32)), .val (.int (1 : Int32)), .val (.int (2 : Int32)), .val (.int c1)]) rfl) ?_
                          show own_Ends p e below s₁ (mkF m 244 #[.val (.ref a), .val (.int s_), .val (.int en), .val (.int ld), .val (.int (3 : Int32)), .val (.int (128 : Int32)), .val (.int (143 : Int32)), .val (.int (1 : Int32)), .val (.int (2 : Int32)), .val (.int c1)] []) _
                          refine own_go (fun _ => XS.goto X0.here hx rfl (pc0 := 244) (pc' := 173) rfl (hb hby d1_244) (by decide) (by decide)) ?_
                          refine own_go (fun _ => XS.iload X0.here hx rfl (hb hby d1_173) rfl) ?_
                          show own_Ends p e below s₁ (mkF m 175 #[.val (.ref a), .val (.int s_), .val (.int en), .val (.int ld), .val (.int (3 : Int32)), .val (.int (128 : Int32)), .val (.int (143 : Int32)), .val (.int (1 : Int32)), .val (.int (2 : Int32)), .val (.int c1)] [(.int (1 : Int32))]) _
                          refine own_go (fun _ => XS.ifNo X0.here hx rfl (hb hby d1_175) rfl ((if0 _ _).trans (feq (show ¬ ((1 : Int32) = (0 : Int32)) from by decide)).1)) ?_
                          show own_Ends p e below s₁ (mkF m 178 #[.val (.ref a), .val (.int s_), .val (.int en), .val (.int ld), .val (.int (3 : Int32)), .val (.int (128 : Int32)), .val (.int (143 : Int32)), .val (.int (1 : Int32)), .val (.int (2 : Int32)), .val (.int c1)] []) _
                          refine own_go (fun _ => XS.iload X0.here hx rfl (hb hby d1_178) rfl) ?_
                          refine own_go (fun _ => XS.iload X0.here hx rfl (hb hby d1_180) rfl) ?_
                          show own_Ends p e below s₁ (mkF m 182 #[.val (.ref a), .val (.int s_), .val (.int en), .val (.int ld), .val (.int (3 : Int32)), .val (.int (128 : Int32)), .val (.int (143 : Int32)), .val (.int (1 : Int32)), .val (.int (2 : Int32)), .val (.int c1)] [(.int (3 : Int32)), (.int (2 : Int32))]) _
                          refine own_go (fun _ => XS.icmpNo X0.here hx rfl (hb hby d1_182) rfl (flt (show ¬ ((3 : Int32) < (2 : Int32)) from by decide)).2.2.1) ?_
                          show own_Ends p e below s₁ (mkF m 185 #[.val (.ref a), .val (.int s_), .val (.int en), .val (.int ld), .val (.int (3 : Int32)), .val (.int (128 : Int32)), .val (.int (143 : Int32)), .val (.int (1 : Int32)), .val (.int (2 : Int32)), .val (.int c1)] []) _
                          refine own_go (fun _ => XS.aloadN X0.here hx rfl (hb hby d1_185) rfl rfl) ?_
                          refine own_go (fun _ => XS.iloadN X0.here hx rfl (hb hby d1_186) rfl) ?_
                          refine own_go (fun _ => XS.iload X0.here hx rfl (hb hby d1_187) rfl) ?_
                          refine own_go (fun _ => XS.iadd X0.here hx rfl (hb hby d1_189) rfl) ?_
                          show own_Ends p e below s₁ (mkF m 190 #[.val (.ref a), .val (.int s_), .val (.int en), .val (.int ld), .val (.int (3 : Int32)), .val (.int (128 : Int32)), .val (.int (143 : Int32)), .val (.int (1 : Int32)), .val (.int (2 : Int32)), .val (.int c1)] [(.int (s_ + (2 : Int32))), (.ref a)]) _
                          obtain ⟨cl_18, Ar_18, q_18, S_18, M_18, H_18, G_18⟩ := V_a_r17
                          have hin18 : ¬ ((s_ + (2 : Int32)) < 0 ∨ cl_18.slots.size ≤ ((s_ + (2 : Int32))).toNatClampNeg) := inb_of S_18 (own_in s_ hs).2.2.1
                          have hat18 : cl_18.slots[((s_ + (2 : Int32))).toNatClampNeg]? = some (.int t_2) := Has.at H_18 hin18 (hva2)
                          refine own_go (X0.baloadBytes hx (j := (s_ + (2 : Int32))) (v := (.int t_2)) (by rw [e0]; exact Ar_18.1) (State.isArrayOf_alike hZ.alike Ar_18.2.1) Ar_18.2.2 hin18 hat18 (g := (mkF m 190 #[.val (.ref a), .val (.int s_), .val (.int en), .val (.int ld), .val (.int (3 : Int32)), .val (.int (128 : Int32)), .val (.int (143 : Int32)), .val (.int (1 : Int32)), .val (.int (2 : Int32)), .val (.int c1)] [(.int (s_ + (2 : Int32))), (.ref a)])) rfl rfl (hb hby d1_190)) ?_
                          have V_a_r18 : Arv Z h0 a kl .byte (6 : Int32) vs (.int (0 : Int32)) := ⟨cl_18, Ar_18, q_18, S_18, M_18, H_18, G_18⟩
                          show own_Ends p e below s₁ (mkF m 191 #[.val (.ref a), .val (.int s_), .val (.int en), .val (.int ld), .val (.int (3 : Int32)), .val (.int (128 : Int32)), .val (.int (143 : Int32)), .val (.int (1 : Int32)), .val (.int (2 : Int32)), .val (.int c1)] [(.int t_2)]) _
                          refine own_go (fun _ => XS.sipush X0.here hx rfl (hb hby d1_191)) ?_
                          refine own_go (fun _ => XS.iand X0.here hx rfl (hb hby d1_194) rfl) ?_
                          show own_Ends p e below s₁ (mkF m 195 #[.val (.ref a), .val (.int s_), .val (.int en), .val (.int ld), .val (.int (3 : Int32)), .val (.int (128 : Int32)), .val (.int (143 : Int32)), .val (.int (1 : Int32)), .val (.int (2 : Int32)), .val (.int c1)] [(.int (t_2 &&& (255 : Int32)))]) _
                          refine own_go (fun _ => XS.istore X0.here hx rfl (hb hby d1_195) rfl (l' := #[.val (.ref a), .val (.int s_), .val (.int en), .val (.int ld), .val (.int (3 : Int32)), .val (.int (128 : Int32)), .val (.int (143 : Int32)), .val (.int (1 : Int32)), .val (.int (2 : Int32)), .val (.int (t_2 &&& (255 : Int32)))]) rfl) ?_
                          show own_Ends p e below s₁ (mkF m 197 #[.val (.ref a), .val (.int s_), .val (.int en), .val (.int ld), .val (.int (3 : Int32)), .val (.int (128 : Int32)), .val (.int (143 : Int32)), .val (.int (1 : Int32)), .val (.int (2 : Int32)), .val (.int (t_2 &&& (255 : Int32)))] []) _
                          rw [hl2]
                          show own_Ends p e below s₁ (mkF m 197 #[.val (.ref a), .val (.int s_), .val (.int en), .val (.int ld), .val (.int (3 : Int32)), .val (.int (128 : Int32)), .val (.int (143 : Int32)), .val (.int (1 : Int32)), .val (.int (2 : Int32)), .val (.int c2)] []) _
                          refine own_go (fun _ => XS.iload X0.here hx rfl (hb hby d1_197) rfl) ?_
                          refine own_go (fun _ => XS.iconst X0.here hx rfl (hb hby d1_199)) ?_
                          show own_Ends p e below s₁ (mkF m 200 #[.val (.ref a), .val (.int s_), .val (.int en), .val (.int ld), .val (.int (3 : Int32)), .val (.int (128 : Int32)), .val (.int (143 : Int32)), .val (.int (1 : Int32)), .val (.int (2 : Int32)), .val (.int c2)] [(.int (1 : Int32)), (.int (2 : Int32))]) _
                          refine own_go (fun _ => XS.icmpYes X0.here hx rfl (pc0 := 200) (pc' := 225) rfl (hb hby d1_200) rfl (feq (show ¬ ((2 : Int32) = (1 : Int32)) from by decide)).2 (by decide) (by decide)) ?_
                          show own_Ends p e below s₁ (mkF m 225 #[.val (.ref a), .val (.int s_), .val (.int en), .val (.int ld), .val (.int (3 : Int32)), .val (.int (128 : Int32)), .val (.int (143 : Int32)), .val (.int (1 : Int32)), .val (.int (2 : Int32)), .val (.int c2)] []) _
                          refine own_go (fun _ => XS.iload X0.here hx rfl (hb hby d1_225) rfl) ?_
                          refine own_go (fun _ => XS.bipush X0.here hx rfl (hb hby d1_227)) ?_
                          refine own_go (fun _ => XS.ishr X0.here hx rfl (hb hby d1_229) rfl) ?_
                          show own_Ends p e below s₁ (mkF m 230 #[.val (.ref a), .val (.int s_), .val (.int en), .val (.int ld), .val (.int (3 : Int32)), .val (.int (128 : Int32)), .val (.int (143 : Int32)), .val (.int (1 : Int32)), .val (.int (2 : Int32)), .val (.int c2)] [(.int (c2 >>> ((6 : Int32) &&& 31)))]) _
                          refine own_go (fun _ => XS.iconst X0.here hx rfl (hb hby d1_230)) ?_
                          show own_Ends p e below s₁ (mkF m 231 #[.val (.ref a), .val (.int s_), .val (.int en), .val (.int ld), .val (.int (3 : Int32)), .val (.int (128 : Int32)), .val (.int (143 : Int32)), .val (.int (1 : Int32)), .val (.int (2 : Int32)), .val (.int c2)] [(.int (2 : Int32)), (.int (c2 >>> ((6 : Int32) &&& 31)))]) _
                          by_cases hc231 : (c2 >>> ((6 : Int32) &&& 31)) = (2 : Int32)
                          · refine own_go (fun _ => XS.icmpNo X0.here hx rfl (hb hby d1_231) rfl (teq hc231).2) ?_
                            show own_Ends p e below s₁ (mkF m 234 #[.val (.ref a), .val (.int s_), .val (.int en), .val (.int ld), .val (.int (3 : Int32)), .val (.int (128 : Int32)), .val (.int (143 : Int32)), .val (.int (1 : Int32)), .val (.int (2 : Int32)), .val (.int c2)] []) _
                            refine own_go (fun _ => XS.iconst X0.here hx rfl (hb hby d1_234)) ?_
                            refine own_go (fun _ => XS.goto X0.here hx rfl (pc0 := 235) (pc' := 239) rfl (hb hby d1_235) (by decide) (by decide)) ?_
                            refine own_go (fun _ => XS.istore X0.here hx rfl (hb hby d1_239) rfl (l' := #[.val (.ref a), .val (.int s_), .val (.int en), .val (.int ld), .val (.int (3 : Int32)), .val (.int (128 : Int32)), .val (.int (143 : Int32)), .val (.int (1 : Int32)), .val (.int (2 : Int32)), .val (.int c2)]) rfl) ?_
                            show own_Ends p e below s₁ (mkF m 241 #[.val (.ref a), .val (.int s_), .val (.int en), .val (.int ld), .val (.int (3 : Int32)), .val (.int (128 : Int32)), .val (.int (143 : Int32)), .val (.int (1 : Int32)), .val (.int (2 : Int32)), .val (.int c2)] []) _
                            refine own_go (fun _ => XS.iinc X0.here hx rfl (hb hby d1_241) rfl (l' := #[.val (.ref a), .val (.int s_), .val (.int en), .val (.int ld), .val (.int (3 : Int32)), .val (.int (128 : Int32)), .val (.int (143 : Int32)), .val (.int (1 : Int32)), .val (.int (3 : Int32)), .val (.int c2)]) rfl) ?_
                            show own_Ends p e below s₁ (mkF m 244 #[.val (.ref a), .val (.int s_), .val (.int en), .val (.int ld), .val (.int (3 : Int32)), .val (.int (128 : Int32)), .val (.int (143 : Int32)), .val (.int (1 : Int32)), .val (.int (3 : Int32)), .val (.int c2)] []) _
                            refine own_go (fun _ => XS.goto X0.here hx rfl (pc0 := 244) (pc' := 173) rfl (hb hby d1_244) (by decide) (by decide)) ?_
                            refine own_go (fun _ => XS.iload X0.here hx rfl (hb hby d1_173) rfl) ?_
                            show own_Ends p e below s₁ (mkF m 175 #[.val (.ref a), .val (.int s_), .val (.int en), .val (.int ld), .val (.int (3 : Int32)), .val (.int (128 : Int32)), .val (.int (143 : Int32)), .val (.int (1 : Int32)), .val (.int (3 : Int32)), .val (.int c2)] [(.int (1 : Int32))]) _
                            refine own_go (fun _ => XS.ifNo X0.here hx rfl (hb hby d1_175) rfl ((if0 _ _).trans (feq (show ¬ ((1 : Int32) = (0 : Int32)) from by decide)).1)) ?_
                            show own_Ends p e below s₁ (mkF m 178 #[.val (.ref a), .val (.int s_), .val (.int en), .val (.int ld), .val (.int (3 : Int32)), .val (.int (128 : Int32)), .val (.int (143 : Int32)), .val (.int (1 : Int32)), .val (.int (3 : Int32)), .val (.int c2)] []) _
                            refine own_go (fun _ => XS.iload X0.here hx rfl (hb hby d1_178) rfl) ?_
                            refine own_go (fun _ => XS.iload X0.here hx rfl (hb hby d1_180) rfl) ?_
                            show own_Ends p e below s₁ (mkF m 182 #[.val (.ref a), .val (.int s_), .val (.int en), .val (.int ld), .val (.int (3 : Int32)), .val (.int (128 : Int32)), .val (.int (143 : Int32)), .val (.int (1 : Int32)), .val (.int (3 : Int32)), .val (.int c2)] [(.int (3 : Int32)), (.int (3 : Int32))]) _
                            refine own_go (fun _ => XS.icmpNo X0.here hx rfl (hb hby d1_182) rfl (flt (show ¬ ((3 : Int32) < (3 : Int32)) from by decide)).2.2.1) ?_
                            show own_Ends p e below s₁ (mkF m 185 #[.val (.ref a), .val (.int s_), .val (.int en), .val (.int ld), .val (.int (3 : Int32)), .val (.int (128 : Int32)), .val (.int (143 : Int32)), .val (.int (1 : Int32)), .val (.int (3 : Int32)), .val (.int c2)] []) _
                            refine own_go (fun _ => XS.aloadN X0.here hx rfl (hb hby d1_185) rfl rfl) ?_
                            refine own_go (fun _ => XS.iloadN X0.here hx rfl (hb hby d1_186) rfl) ?_
                            refine own_go (fun _ => XS.iload X0.here hx rfl (hb hby d1_187) rfl) ?_
                            refine own_go (fun _ => XS.iadd X0.here hx rfl (hb hby d1_189) rfl) ?_
                            show own_Ends p e below s₁ (mkF m 190 #[.val (.ref a), .val (.int s_), .val (.int en), .val (.int ld), .val (.int (3 : Int32)), .val (.int (128 : Int32)), .val (.int (143 : Int32)), .val (.int (1 : Int32)), .val (.int (3 : Int32)), .val (.int c2)] [(.int (s_ + (3 : Int32))), (.ref a)]) _
                            obtain ⟨cl_19, Ar_19, q_19, S_19, M_19, H_19, G_19⟩ := V_a_r18
                            have hin19 : ¬ ((s_ + (3 : Int32)) < 0 ∨ cl_19.slots.size ≤ ((s_ + (3 : Int32))).toNatClampNeg) := inb_of S_19 (own_in s_ hs).2.2.2
                            have hat19 : cl_19.slots[((s_ + (3 : Int32))).toNatClampNeg]? = some (.int t_3) := Has.at H_19 hin19 (hva3)
                            refine own_go (X0.baloadBytes hx (j := (s_ + (3 : Int32))) (v := (.int t_3)) (by rw [e0]; exact Ar_19.1) (State.isArrayOf_alike hZ.alike Ar_19.2.1) Ar_19.2.2 hin19 hat19 (g := (mkF m 190 #[.val (.ref a), .val (.int s_), .val (.int en), .val (.int ld), .val (.int (3 : Int32)), .val (.int (128 : Int32)), .val (.int (143 : Int32)), .val (.int (1 : Int32)), .val (.int (3 : Int32)), .val (.int c2)] [(.int (s_ + (3 : Int32))), (.ref a)])) rfl rfl (hb hby d1_190)) ?_
                            have V_a_r19 : Arv Z h0 a kl .byte (6 : Int32) vs (.int (0 : Int32)) := ⟨cl_19, Ar_19, q_19, S_19, M_19, H_19, G_19⟩
                            show own_Ends p e below s₁ (mkF m 191 #[.val (.ref a), .val (.int s_), .val (.int en), .val (.int ld), .val (.int (3 : Int32)), .val (.int (128 : Int32)), .val (.int (143 : Int32)), .val (.int (1 : Int32)), .val (.int (3 : Int32)), .val (.int c2)] [(.int t_3)]) _
                            refine own_go (fun _ => XS.sipush X0.here hx rfl (hb hby d1_191)) ?_
                            refine own_go (fun _ => XS.iand X0.here hx rfl (hb hby d1_194) rfl) ?_
                            show own_Ends p e below s₁ (mkF m 195 #[.val (.ref a), .val (.int s_), .val (.int en), .val (.int ld), .val (.int (3 : Int32)), .val (.int (128 : Int32)), .val (.int (143 : Int32)), .val (.int (1 : Int32)), .val (.int (3 : Int32)), .val (.int c2)] [(.int (t_3 &&& (255 : Int32)))]) _
                            refine own_go (fun _ => XS.istore X0.here hx rfl (hb hby d1_195) rfl (l' := #[.val (.ref a), .val (.int s_), .val (.int en), .val (.int ld), .val (.int (3 : Int32)), .val (.int (128 : Int32)), .val (.int (143 : Int32)), .val (.int (1 : Int32)), .val (.int (3 : Int32)), .val (.int (t_3 &&& (255 : Int32)))]) rfl) ?_
                            show own_Ends p e below s₁ (mkF m 197 #[.val (.ref a), .val (.int s_), .val (.int en), .val (.int ld), .val (.int (3 : Int32)), .val (.int (128 : Int32)), .val (.int (143 : Int32)), .val (.int (1 : Int32)), .val (.int (3 : Int32)), .val (.int (t_3 &&& (255 : Int32)))] []) _
                            rw [hl3]
                            show own_Ends p e below s₁ (mkF m 197 #[.val (.ref a), .val (.int s_), .val (.int en), .val (.int ld), .val (.int (3 : Int32)), .val (.int (128 : Int32)), .val (.int (143 : Int32)), .val (.int (1 : Int32)), .val (.int (3 : Int32)), .val (.int c3)] []) _
                            refine own_go (fun _ => XS.iload X0.here hx rfl (hb hby d1_197) rfl) ?_
                            refine own_go (fun _ => XS.iconst X0.here hx rfl (hb hby d1_199)) ?_
                            show own_Ends p e below s₁ (mkF m 200 #[.val (.ref a), .val (.int s_), .val (.int en), .val (.int ld), .val (.int (3 : Int32)), .val (.int (128 : Int32)), .val (.int (143 : Int32)), .val (.int (1 : Int32)), .val (.int (3 : Int32)), .val (.int c3)] [(.int (1 : Int32)), (.int (3 : Int32))]) _
                            refine own_go (fun _ => XS.icmpYes X0.here hx rfl (pc0 := 200) (pc' := 225) rfl (hb hby d1_200) rfl (feq (show ¬ ((3 : Int32) = (1 : Int32)) from by decide)).2 (by decide) (by decide)) ?_
                            show own_Ends p e below s₁ (mkF m 225 #[.val (.ref a), .val (.int s_), .val (.int en), .val (.int ld), .val (.int (3 : Int32)), .val (.int (128 : Int32)), .val (.int (143 : Int32)), .val (.int (1 : Int32)), .val (.int (3 : Int32)), .val (.int c3)] []) _
                            refine own_go (fun _ => XS.iload X0.here hx rfl (hb hby d1_225) rfl) ?_
                            refine own_go (fun _ => XS.bipush X0.here hx rfl (hb hby d1_227)) ?_
                            refine own_go (fun _ => XS.ishr X0.here hx rfl (hb hby d1_229) rfl) ?_
                            show own_Ends p e below s₁ (mkF m 230 #[.val (.ref a), .val (.int s_), .val (.int en), .val (.int ld), .val (.int (3 : Int32)), .val (.int (128 : Int32)), .val (.int (143 : Int32)), .val (.int (1 : Int32)), .val (.int (3 : Int32)), .val (.int c3)] [(.int (c3 >>> ((6 : Int32) &&& 31)))]) _
                            refine own_go (fun _ => XS.iconst X0.here hx rfl (hb hby d1_230)) ?_
                            show own_Ends p e below s₁ (mkF m 231 #[.val (.ref a), .val (.int s_), .val (.int en), .val (.int ld), .val (.int (3 : Int32)), .val (.int (128 : Int32)), .val (.int (143 : Int32)), .val (.int (1 : Int32)), .val (.int (3 : Int32)), .val (.int c3)] [(.int (2 : Int32)), (.int (c3 >>> ((6 : Int32) &&& 31)))]) _
                            by_cases hc231_1 : (c3 >>> ((6 : Int32) &&& 31)) = (2 : Int32)
                            · refine own_go (fun _ => XS.icmpNo X0.here hx rfl (hb hby d1_231) rfl (teq hc231_1).2) ?_
                              show own_Ends p e below s₁ (mkF m 234 #[.val (.ref a), .val (.int s_), .val (.int en), .val (.int ld), .val (.int (3 : Int32)), .val (.int (128 : Int32)), .val (.int (143 : Int32)), .val (.int (1 : Int32)), .val (.int (3 : Int32)), .val (.int c3)] []) _
                              refine own_go (fun _ => XS.iconst X0.here hx rfl (hb hby d1_234)) ?_
                              refine own_go (fun _ => XS.goto X0.here hx rfl (pc0 := 235) (pc' := 239) rfl (hb hby d1_235) (by decide) (by decide)) ?_
                              refine own_go (fun _ => XS.istore X0.here hx rfl (hb hby d1_239) rfl (l' := #[.val (.ref a), .val (.int s_), .val (.int en), .val (.int ld), .val (.int (3 : Int32)), .val (.int (128 : Int32)), .val (.int (143 : Int32)), .val (.int (1 : Int32)), .val (.int (3 : Int32)), .val (.int c3)]) rfl) ?_
                              show own_Ends p e below s₁ (mkF m 241 #[.val (.ref a), .val (.int s_), .val (.int en), .val (.int ld), .val (.int (3 : Int32)), .val (.int (128 : Int32)), .val (.int (143 : Int32)), .val (.int (1 : Int32)), .val (.int (3 : Int32)), .val (.int c3)] []) _
                              refine own_go (fun _ => XS.iinc X0.here hx rfl (hb hby d1_241) rfl (l' := #[.val (.ref a), .val (.int s_), .val (.int en), .val (.int ld), .val (.int (3 : Int32)), .val (.int (128 : Int32)), .val (.int (143 : Int32)), .val (.int (1 : Int32)), .val (.int (4 : Int32)), .val (.int c3)]) rfl) ?_
                              show own_Ends p e below s₁ (mkF m 244 #[.val (.ref a), .val (.int s_), .val (.int en), .val (.int ld), .val (.int (3 : Int32)), .val (.int (128 : Int32)), .val (.int (143 : Int32)), .val (.int (1 : Int32)), .val (.int (4 : Int32)), .val (.int c3)] []) _
                              refine own_go (fun _ => XS.goto X0.here hx rfl (pc0 := 244) (pc' := 173) rfl (hb hby d1_244) (by decide) (by decide)) ?_
                              refine own_go (fun _ => XS.iload X0.here hx rfl (hb hby d1_173) rfl) ?_
                              show own_Ends p e below s₁ (mkF m 175 #[.val (.ref a), .val (.int s_), .val (.int en), .val (.int ld), .val (.int (3 : Int32)), .val (.int (128 : Int32)), .val (.int (143 : Int32)), .val (.int (1 : Int32)), .val (.int (4 : Int32)), .val (.int c3)] [(.int (1 : Int32))]) _
                              refine own_go (fun _ => XS.ifNo X0.here hx rfl (hb hby d1_175) rfl ((if0 _ _).trans (feq (show ¬ ((1 : Int32) = (0 : Int32)) from by decide)).1)) ?_
                              show own_Ends p e below s₁ (mkF m 178 #[.val (.ref a), .val (.int s_), .val (.int en), .val (.int ld), .val (.int (3 : Int32)), .val (.int (128 : Int32)), .val (.int (143 : Int32)), .val (.int (1 : Int32)), .val (.int (4 : Int32)), .val (.int c3)] []) _
                              refine own_go (fun _ => XS.iload X0.here hx rfl (hb hby d1_178) rfl) ?_
                              refine own_go (fun _ => XS.iload X0.here hx rfl (hb hby d1_180) rfl) ?_
                              show own_Ends p e below s₁ (mkF m 182 #[.val (.ref a), .val (.int s_), .val (.int en), .val (.int ld), .val (.int (3 : Int32)), .val (.int (128 : Int32)), .val (.int (143 : Int32)), .val (.int (1 : Int32)), .val (.int (4 : Int32)), .val (.int c3)] [(.int (3 : Int32)), (.int (4 : Int32))]) _
                              refine own_go (fun _ => XS.icmpYes X0.here hx rfl (pc0 := 182) (pc' := 247) rfl (hb hby d1_182) rfl (tlt (show (3 : Int32) < (4 : Int32) from by decide)).2.2.1 (by decide) (by decide)) ?_
                              show own_Ends p e below s₁ (mkF m 247 #[.val (.ref a), .val (.int s_), .val (.int en), .val (.int ld), .val (.int (3 : Int32)), .val (.int (128 : Int32)), .val (.int (143 : Int32)), .val (.int (1 : Int32)), .val (.int (4 : Int32)), .val (.int c3)] []) _
                              refine own_go (fun _ => XS.iload X0.here hx rfl (hb hby d1_247) rfl) ?_
                              show own_Ends p e below s₁ (mkF m 249 #[.val (.ref a), .val (.int s_), .val (.int en), .val (.int ld), .val (.int (3 : Int32)), .val (.int (128 : Int32)), .val (.int (143 : Int32)), .val (.int (1 : Int32)), .val (.int (4 : Int32)), .val (.int c3)] [(.int (1 : Int32))]) _
                              refine own_go (fun _ => XS.ifNo X0.here hx rfl (hb hby d1_249) rfl ((if0 _ _).trans (feq (show ¬ ((1 : Int32) = (0 : Int32)) from by decide)).1)) ?_
                              show own_Ends p e below s₁ (mkF m 252 #[.val (.ref a), .val (.int s_), .val (.int en), .val (.int ld), .val (.int (3 : Int32)), .val (.int (128 : Int32)), .val (.int (143 : Int32)), .val (.int (1 : Int32)), .val (.int (4 : Int32)), .val (.int c3)] []) _
                              refine own_go (fun _ => XS.iloadN X0.here hx rfl (hb hby d1_252) rfl) ?_
                              refine own_go (fun _ => XS.iload X0.here hx rfl (hb hby d1_253) rfl) ?_
                              refine own_go (fun _ => XS.iadd X0.here hx rfl (hb hby d1_255) rfl) ?_
                              show own_Ends p e below s₁ (mkF m 256 #[.val (.ref a), .val (.int s_), .val (.int en), .val (.int ld), .val (.int (3 : Int32)), .val (.int (128 : Int32)), .val (.int (143 : Int32)), .val (.int (1 : Int32)), .val (.int (4 : Int32)), .val (.int c3)] [(.int (s_ + (3 : Int32)))]) _
                              refine own_go (fun _ => XS.iconst X0.here hx rfl (hb hby d1_256)) ?_
                              refine own_go (fun _ => XS.iadd X0.here hx rfl (hb hby d1_257) rfl) ?_
                              show own_Ends p e below s₁ (mkF m 258 #[.val (.ref a), .val (.int s_), .val (.int en), .val (.int ld), .val (.int (3 : Int32)), .val (.int (128 : Int32)), .val (.int (143 : Int32)), .val (.int (1 : Int32)), .val (.int (4 : Int32)), .val (.int c3)] [(.int ((s_ + (3 : Int32)) + (1 : Int32)))]) _
                              refine own_go (fun _ => XS.goto X0.here hx rfl (pc0 := 258) (pc' := 262) rfl (hb hby d1_258) (by decide) (by decide)) ?_
                              obtain ⟨fs, hr, hrun, hended, hW, hsame⟩ := X0.leave (v := some (.int ((s_ + (3 : Int32)) + (1 : Int32)))) (fun h => by rw [Bd.returns] at h; cases h)
                              refine ⟨_, _, retI X0 hx Bd.returns (hb hby d1_262) hr, hrun, hended, _, _, rfl, ?_, ⟨_, rfl⟩, hW, hsame.mono (by decide) (by decide)⟩
                              show Q_rmSeq Z a s_ en kl vs t_0 t_1 t_2 t_3 ld c1 c2 c3 h0 n0 _ s₁.heap _
                              rw [e0]
                              refine ⟨_, rfl, ?_, N0, rfl⟩
                              obtain ⟨z1, z2, z3, z4, z5, z6⟩ := own_s s_ hs
                              have t0 := (not_congr (own_ltC (194) (by decide))).mp kc0
                              have t1 := (not_congr (own_ltC (224) (by decide))).mp kc1
                              have t2 := (not_congr (own_ltC (225) (by decide))).mp kc2
                              have t3 := (not_congr (own_ltC (237) (by decide))).mp kc3
                              have t4 := (not_congr (own_ltC (238) (by decide))).mp kc4
                              have t5 := (not_congr (own_ltC (240) (by decide))).mp kc5
                              have t6 := (not_congr (own_ltC (241) (by decide))).mp kc6
                              have t7 := (not_congr (own_ltC (244) (by decide))).mp kc7
                              have t8 := (own_ltC (245) (by decide)).mp kc8
                              have t9 := (own_lt2).mp hc160
                              have t10 := (not_congr (own_ltC (128) (by decide))).mp hc207
                              have t11 := (not_congr (own_Clt (143) (by decide))).mp hc214
                              have t12 := (own_eqC (2) (by decide)).mp hc231
                              have t13 := (own_eqC (2) (by decide)).mp hc231_1
                              have y0 := own_sh c2
                              have y1 := own_sh c3
                              exact own_A3 (by unfold own_P3; omega) (own_as4 _)
                            · refine own_go (fun _ => XS.icmpYes X0.here hx rfl (pc0 := 231) (pc' := 238) rfl (hb hby d1_231) rfl (feq hc231_1).2 (by decide) (by decide)) ?_
                              show own_Ends p e below s₁ (mkF m 238 #[.val (.ref a), .val (.int s_), .val (.int en), .val (.int ld), .val (.int (3 : Int32)), .val (.int (128 : Int32)), .val (.int (143 : Int32)), .val (.int (1 : Int32)), .val (.int (3 : Int32)), .val (.int c3)] []) _
                              refine own_go (fun _ => XS.iconst X0.here hx rfl (hb hby d1_238)) ?_
                              refine own_go (fun _ => XS.istore X0.here hx rfl (hb hby d1_239) rfl (l' := #[.val (.ref a), .val (.int s_), .val (.int en), .val (.int ld), .val (.int (3 : Int32)), .val (.int (128 : Int32)), .val (.int (143 : Int32)), .val (.int (0 : Int32)), .val (.int (3 : Int32)), .val (.int c3)]) rfl) ?_
                              show own_Ends p e below s₁ (mkF m 241 #[.val (.ref a), .val (.int s_), .val (.int en), .val (.int ld), .val (.int (3 : Int32)), .val (.int (128 : Int32)), .val (.int (143 : Int32)), .val (.int (0 : Int32)), .val (.int (3 : Int32)), .val (.int c3)] []) _
                              refine own_go (fun _ => XS.iinc X0.here hx rfl (hb hby d1_241) rfl (l' := #[.val (.ref a), .val (.int s_), .val (.int en), .val (.int ld), .val (.int (3 : Int32)), .val (.int (128 : Int32)), .val (.int (143 : Int32)), .val (.int (0 : Int32)), .val (.int (4 : Int32)), .val (.int c3)]) rfl) ?_
                              show own_Ends p e below s₁ (mkF m 244 #[.val (.ref a), .val (.int s_), .val (.int en), .val (.int ld), .val (.int (3 : Int32)), .val (.int (128 : Int32)), .val (.int (143 : Int32)), .val (.int (0 : Int32)), .val (.int (4 : Int32)), .val (.int c3)] []) _
                              refine own_go (fun _ => XS.goto X0.here hx rfl (pc0 := 244) (pc' := 173) rfl (hb hby d1_244) (by decide) (by decide)) ?_
                              refine own_go (fun _ => XS.iload X0.here hx rfl (hb hby d1_173) rfl) ?_
                              show own_Ends p e below s₁ (mkF m 175 #[.val (.ref a), .val (.int s_), .val (.int en), .val (.int ld), .val (.int (3 : Int32)), .val (.int (128 : Int32)), .val (.int (143 : Int32)), .val (.int (0 : Int32)), .val (.int (4 : Int32)), .val (.int c3)] [(.int (0 : Int32))]) _
                              refine own_go (fun _ => XS.ifYes X0.here hx rfl (pc0 := 175) (pc' := 247) rfl (hb hby d1_175) rfl ((if0 _ _).trans (teq (show (0 : Int32) = (0 : Int32) from by decide)).1) (by decide) (by decide)) ?_
                              show own_Ends p e below s₁ (mkF m 247 #[.val (.ref a), .val (.int s_), .val (.int en), .val (.int ld), .val (.int (3 : Int32)), .val (.int (128 : Int32)), .val (.int (143 : Int32)), .val (.int (0 : Int32)), .val (.int (4 : Int32)), .val (.int c3)] []) _
                              refine own_go (fun _ => XS.iload X0.here hx rfl (hb hby d1_247) rfl) ?_
                              show own_Ends p e below s₁ (mkF m 249 #[.val (.ref a), .val (.int s_), .val (.int en), .val (.int ld), .val (.int (3 : Int32)), .val (.int (128 : Int32)), .val (.int (143 : Int32)), .val (.int (0 : Int32)), .val (.int (4 : Int32)), .val (.int c3)] [(.int (0 : Int32))]) _
                              refine own_go (fun _ => XS.ifYes X0.here hx rfl (pc0 := 249) (pc' := 261) rfl (hb hby d1_249) rfl ((if0 _ _).trans (teq (show (0 : Int32) = (0 : Int32) from by decide)).1) (by decide) (by decide)) ?_
                              show own_Ends p e below s₁ (mkF m 261 #[.val (.ref a), .val (.int s_), .val (.int en), .val (.int ld), .val (.int (3 : Int32)), .val (.int (128 : Int32)), .val (.int (143 : Int32)), .val (.int (0 : Int32)), .val (.int (4 : Int32)), .val (.int c3)] []) _
                              refine own_go (fun _ => XS.iconst X0.here hx rfl (hb hby d1_261)) ?_
                              obtain ⟨fs, hr, hrun, hended, hW, hsame⟩ := X0.leave (v := some (.int (-1 : Int32))) (fun h => by rw [Bd.returns] at h; cases h)
                              refine ⟨_, _, retI X0 hx Bd.returns (hb hby d1_262) hr, hrun, hended, _, _, rfl, ?_, ⟨_, rfl⟩, hW, hsame.mono (by decide) (by decide)⟩
                              show Q_rmSeq Z a s_ en kl vs t_0 t_1 t_2 t_3 ld c1 c2 c3 h0 n0 _ s₁.heap _
                              rw [e0]
                              refine ⟨_, rfl, ?_, N0, rfl⟩
                              obtain ⟨z1, z2, z3, z4, z5, z6⟩ := own_s s_ hs
                              have t0 := (not_congr (own_ltC (194) (by decide))).mp kc0
                              have t1 := (not_congr (own_ltC (224) (by decide))).mp kc1
                              have t2 := (not_congr (own_ltC (225) (by decide))).mp kc2
                              have t3 := (not_congr (own_ltC (237) (by decide))).mp kc3
                              have t4 := (not_congr (own_ltC (238) (by decide))).mp kc4
                              have t5 := (not_congr (own_ltC (240) (by decide))).mp kc5
                              have t6 := (not_congr (own_ltC (241) (by decide))).mp kc6
                              have t7 := (not_congr (own_ltC (244) (by decide))).mp kc7
                              have t8 := (own_ltC (245) (by decide)).mp kc8
                              have t9 := (own_lt2).mp hc160
                              have t10 := (not_congr (own_ltC (128) (by decide))).mp hc207
                              have t11 := (not_congr (own_Clt (143) (by decide))).mp hc214
                              have t12 := (own_eqC (2) (by decide)).mp hc231
                              have t13 := (not_congr (own_eqC (2) (by decide))).mp hc231_1
                              have y0 := own_sh c2
                              have y1 := own_sh c3
                              exact own_A0 (by unfold own_P1; omega) (by unfold own_P2; omega) (by unfold own_P3; omega)
                          · refine own_go (fun _ => XS.icmpYes X0.here hx rfl (pc0 := 231) (pc' := 238) rfl (hb hby d1_231) rfl (feq hc231).2 (by decide) (by decide)) ?_
                            show own_Ends p e below s₁ (mkF m 238 #[.val (.ref a), .val (.int s_), .val (.int en), .val (.int ld), .val (.int (3 : Int32)), .val (.int (128 : Int32)), .val (.int (143 : Int32)), .val (.int (1 : Int32)), .val (.int (2 : Int32)), .val (.int c2)] []) _
                            refine own_go (fun _ => XS.iconst X0.here hx rfl (hb hby d1_238)) ?_
                            refine own_go (fun _ => XS.istore X0.here hx rfl (hb hby d1_239) rfl (l' := #[.val (.ref a), .val (.int s_), .val (.int en), .val (.int ld), .val (.int (3 : Int32)), .val (.int (128 : Int32)), .val (.int (143 : Int32)), .val (.int (0 : Int32)), .val (.int (2 : Int32)), .val (.int c2)]) rfl) ?_
                            show own_Ends p e below s₁ (mkF m 241 #[.val (.ref a), .val (.int s_), .val (.int en), .val (.int ld), .val (.int (3 : Int32)), .val (.int (128 : Int32)), .val (.int (143 : Int32)), .val (.int (0 : Int32)), .val (.int (2 : Int32)), .val (.int c2)] []) _
                            refine own_go (fun _ => XS.iinc X0.here hx rfl (hb hby d1_241) rfl (l' := #[.val (.ref a), .val (.int s_), .val (.int en), .val (.int ld), .val (.int (3 : Int32)), .val (.int (128 : Int32)), .val (.int (143 : Int32)), .val (.int (0 : Int32)), .val (.int (3 : Int32)), .val (.int c2)]) rfl) ?_
                            show own_Ends p e below s₁ (mkF m 244 #[.val (.ref a), .val (.int s_), .val (.int en), .val (.int ld), .val (.int (3 : Int32)), .val (.int (128 : Int32)), .val (.int (143 : Int32)), .val (.int (0 : Int32)), .val (.int (3 : Int32)), .val (.int c2)] []) _
                            refine own_go (fun _ => XS.goto X0.here hx rfl (pc0 := 244) (pc' := 173) rfl (hb hby d1_244) (by decide) (by decide)) ?_
                            refine own_go (fun _ => XS.iload X0.here hx rfl (hb hby d1_173) rfl) ?_
                            show own_Ends p e below s₁ (mkF m 175 #[.val (.ref a), .val (.int s_), .val (.int en), .val (.int ld), .val (.int (3 : Int32)), .val (.int (128 : Int32)), .val (.int (143 : Int32)), .val (.int (0 : Int32)), .val (.int (3 : Int32)), .val (.int c2)] [(.int (0 : Int32))]) _
                            refine own_go (fun _ => XS.ifYes X0.here hx rfl (pc0 := 175) (pc' := 247) rfl (hb hby d1_175) rfl ((if0 _ _).trans (teq (show (0 : Int32) = (0 : Int32) from by decide)).1) (by decide) (by decide)) ?_
                            show own_Ends p e below s₁ (mkF m 247 #[.val (.ref a), .val (.int s_), .val (.int en), .val (.int ld), .val (.int (3 : Int32)), .val (.int (128 : Int32)), .val (.int (143 : Int32)), .val (.int (0 : Int32)), .val (.int (3 : Int32)), .val (.int c2)] []) _
                            refine own_go (fun _ => XS.iload X0.here hx rfl (hb hby d1_247) rfl) ?_
                            show own_Ends p e below s₁ (mkF m 249 #[.val (.ref a), .val (.int s_), .val (.int en), .val (.int ld), .val (.int (3 : Int32)), .val (.int (128 : Int32)), .val (.int (143 : Int32)), .val (.int (0 : Int32)), .val (.int (3 : Int32)), .val (.int c2)] [(.int (0 : Int32))]) _
                            refine own_go (fun _ => XS.ifYes X0.here hx rfl (pc0 := 249) (pc' := 261) rfl (hb hby d1_249) rfl ((if0 _ _).trans (teq (show (0 : Int32) = (0 : Int32) from by decide)).1) (by decide) (by decide)) ?_
                            show own_Ends p e below s₁ (mkF m 261 #[.val (.ref a), .val (.int s_), .val (.int en), .val (.int ld), .val (.int (3 : Int32)), .val (.int (128 : Int32)), .val (.int (143 : Int32)), .val (.int (0 : Int32)), .val (.int (3 : Int32)), .val (.int c2)] []) _
                            refine own_go (fun _ => XS.iconst X0.here hx rfl (hb hby d1_261)) ?_
                            obtain ⟨fs, hr, hrun, hended, hW, hsame⟩ := X0.leave (v := some (.int (-1 : Int32))) (fun h => by rw [Bd.returns] at h; cases h)
                            refine ⟨_, _, retI X0 hx Bd.returns (hb hby d1_262) hr, hrun, hended, _, _, rfl, ?_, ⟨_, rfl⟩, hW, hsame.mono (by decide) (by decide)⟩
                            show Q_rmSeq Z a s_ en kl vs t_0 t_1 t_2 t_3 ld c1 c2 c3 h0 n0 _ s₁.heap _
                            rw [e0]
                            refine ⟨_, rfl, ?_, N0, rfl⟩
                            obtain ⟨z1, z2, z3, z4, z5, z6⟩ := own_s s_ hs
                            have t0 := (not_congr (own_ltC (194) (by decide))).mp kc0
                            have t1 := (not_congr (own_ltC (224) (by decide))).mp kc1
                            have t2 := (not_congr (own_ltC (225) (by decide))).mp kc2
                            have t3 := (not_congr (own_ltC (237) (by decide))).mp kc3
                            have t4 := (not_congr (own_ltC (238) (by decide))).mp kc4
                            have t5 := (not_congr (own_ltC (240) (by decide))).mp kc5
                            have t6 := (not_congr (own_ltC (241) (by decide))).mp kc6
                            have t7 := (not_congr (own_ltC (244) (by decide))).mp kc7
                            have t8 := (own_ltC (245) (by decide)).mp kc8
                            have t9 := (own_lt2).mp hc160
                            have t10 := (not_congr (own_ltC (128) (by decide))).mp hc207
                            have t11 := (not_congr (own_Clt (143) (by decide))).mp hc214
                            have t12 := (not_congr (own_eqC (2) (by decide))).mp hc231
                            have y0 := own_sh c2
                            have y1 := own_sh c3
                            exact own_A0 (by unfold own_P1; omega) (by unfold own_P2; omega) (by unfold own_P3; omega)
                    · refine own_go (fun _ => XS.icmpYes X0.here hx rfl (pc0 := 160) (pc' := 167) rfl (hb hby d1_160) rfl (flt hc160).2.1 (by decide) (by decide)) ?_
                      show own_Ends p e below s₁ (mkF m 167 #[.val (.ref a), .val (.int s_), .val (.int en), .val (.int ld), .val (.int (3 : Int32)), .val (.int (128 : Int32)), .val (.int (143 : Int32)), .unset, .unset, .unset] []) _
                      refine own_go (fun _ => XS.iconst X0.here hx rfl (hb hby d1_167)) ?_
                      refine own_go (fun _ => XS.istore X0.here hx rfl (hb hby d1_168) rfl (l' := #[.val (.ref a), .val (.int s_), .val (.int en), .val (.int ld), .val (.int (3 : Int32)), .val (.int (128 : Int32)), .val (.int (143 : Int32)), .val (.int (0 : Int32)), .unset, .unset]) rfl) ?_
                      show own_Ends p e below s₁ (mkF m 170 #[.val (.ref a), .val (.int s_), .val (.int en), .val (.int ld), .val (.int (3 : Int32)), .val (.int (128 : Int32)), .val (.int (143 : Int32)), .val (.int (0 : Int32)), .unset, .unset] []) _
                      refine own_go (fun _ => XS.iconst X0.here hx rfl (hb hby d1_170)) ?_
                      refine own_go (fun _ => XS.istore X0.here hx rfl (hb hby d1_171) rfl (l' := #[.val (.ref a), .val (.int s_), .val (.int en), .val (.int ld), .val (.int (3 : Int32)), .val (.int (128 : Int32)), .val (.int (143 : Int32)), .val (.int (0 : Int32)), .val (.int (1 : Int32)), .unset]) rfl) ?_
                      show own_Ends p e below s₁ (mkF m 173 #[.val (.ref a), .val (.int s_), .val (.int en), .val (.int ld), .val (.int (3 : Int32)), .val (.int (128 : Int32)), .val (.int (143 : Int32)), .val (.int (0 : Int32)), .val (.int (1 : Int32)), .unset] []) _
                      refine own_go (fun _ => XS.iload X0.here hx rfl (hb hby d1_173) rfl) ?_
                      show own_Ends p e below s₁ (mkF m 175 #[.val (.ref a), .val (.int s_), .val (.int en), .val (.int ld), .val (.int (3 : Int32)), .val (.int (128 : Int32)), .val (.int (143 : Int32)), .val (.int (0 : Int32)), .val (.int (1 : Int32)), .unset] [(.int (0 : Int32))]) _
                      refine own_go (fun _ => XS.ifYes X0.here hx rfl (pc0 := 175) (pc' := 247) rfl (hb hby d1_175) rfl ((if0 _ _).trans (teq (show (0 : Int32) = (0 : Int32) from by decide)).1) (by decide) (by decide)) ?_
                      show own_Ends p e below s₁ (mkF m 247 #[.val (.ref a), .val (.int s_), .val (.int en), .val (.int ld), .val (.int (3 : Int32)), .val (.int (128 : Int32)), .val (.int (143 : Int32)), .val (.int (0 : Int32)), .val (.int (1 : Int32)), .unset] []) _
                      refine own_go (fun _ => XS.iload X0.here hx rfl (hb hby d1_247) rfl) ?_
                      show own_Ends p e below s₁ (mkF m 249 #[.val (.ref a), .val (.int s_), .val (.int en), .val (.int ld), .val (.int (3 : Int32)), .val (.int (128 : Int32)), .val (.int (143 : Int32)), .val (.int (0 : Int32)), .val (.int (1 : Int32)), .unset] [(.int (0 : Int32))]) _
                      refine own_go (fun _ => XS.ifYes X0.here hx rfl (pc0 := 249) (pc' := 261) rfl (hb hby d1_249) rfl ((if0 _ _).trans (teq (show (0 : Int32) = (0 : Int32) from by decide)).1) (by decide) (by decide)) ?_
                      show own_Ends p e below s₁ (mkF m 261 #[.val (.ref a), .val (.int s_), .val (.int en), .val (.int ld), .val (.int (3 : Int32)), .val (.int (128 : Int32)), .val (.int (143 : Int32)), .val (.int (0 : Int32)), .val (.int (1 : Int32)), .unset] []) _
                      refine own_go (fun _ => XS.iconst X0.here hx rfl (hb hby d1_261)) ?_
                      obtain ⟨fs, hr, hrun, hended, hW, hsame⟩ := X0.leave (v := some (.int (-1 : Int32))) (fun h => by rw [Bd.returns] at h; cases h)
                      refine ⟨_, _, retI X0 hx Bd.returns (hb hby d1_262) hr, hrun, hended, _, _, rfl, ?_, ⟨_, rfl⟩, hW, hsame.mono (by decide) (by decide)⟩
                      show Q_rmSeq Z a s_ en kl vs t_0 t_1 t_2 t_3 ld c1 c2 c3 h0 n0 _ s₁.heap _
                      rw [e0]
                      refine ⟨_, rfl, ?_, N0, rfl⟩
                      obtain ⟨z1, z2, z3, z4, z5, z6⟩ := own_s s_ hs
                      have t0 := (not_congr (own_ltC (194) (by decide))).mp kc0
                      have t1 := (not_congr (own_ltC (224) (by decide))).mp kc1
                      have t2 := (not_congr (own_ltC (225) (by decide))).mp kc2
                      have t3 := (not_congr (own_ltC (237) (by decide))).mp kc3
                      have t4 := (not_congr (own_ltC (238) (by decide))).mp kc4
                      have t5 := (not_congr (own_ltC (240) (by decide))).mp kc5
                      have t6 := (not_congr (own_ltC (241) (by decide))).mp kc6
                      have t7 := (not_congr (own_ltC (244) (by decide))).mp kc7
                      have t8 := (own_ltC (245) (by decide)).mp kc8
                      have t9 := (not_congr (own_lt2)).mp hc160
                      have y0 := own_sh c2
                      have y1 := own_sh c3
                      exact own_A0 (by unfold own_P1; omega) (by unfold own_P2; omega) (by unfold own_P3; omega)
                  · refine own_go (fun _ => XS.iloadN X0.here hx rfl (hb hby d1_21) rfl) ?_
                    refine own_go (fun _ => XS.sipush X0.here hx rfl (hb hby d1_22)) ?_
                    show own_Ends p e below s₁ (mkF m 25 #[.val (.ref a), .val (.int s_), .val (.int en), .val (.int ld), .val (.int (0 : Int32)), .val (.int (128 : Int32)), .val (.int (191 : Int32)), .unset, .unset, .unset] [(.int (194 : Int32)), (.int ld)]) _
                    refine own_go (fun _ => XS.icmpNo X0.here hx rfl (hb hby d1_25) rfl (flt (show ¬ (ld < (194 : Int32)) from own_nlt kc8 (by decide))).1) ?_
                    show own_Ends p e below s₁ (mkF m 28 #[.val (.ref a), .val (.int s_), .val (.int en), .val (.int ld), .val (.int (0 : Int32)), .val (.int (128 : Int32)), .val (.int (191 : Int32)), .unset, .unset, .unset] []) _
                    refine own_go (fun _ => XS.iloadN X0.here hx rfl (hb hby d1_28) rfl) ?_
                    refine own_go (fun _ => XS.sipush X0.here hx rfl (hb hby d1_29)) ?_
                    show own_Ends p e below s₁ (mkF m 32 #[.val (.ref a), .val (.int s_), .val (.int en), .val (.int ld), .val (.int (0 : Int32)), .val (.int (128 : Int32)), .val (.int (191 : Int32)), .unset, .unset, .unset] [(.int (223 : Int32)), (.int ld)]) _
                    refine own_go (fun _ => XS.icmpYes X0.here hx rfl (pc0 := 32) (pc' := 41) rfl (hb hby d1_32) rfl (tlt (show (223 : Int32) < ld from own_gt kc8 (by decide))).2.2.1 (by decide) (by decide)) ?_
                    show own_Ends p e below s₁ (mkF m 41 #[.val (.ref a), .val (.int s_), .val (.int en), .val (.int ld), .val (.int (0 : Int32)), .val (.int (128 : Int32)), .val (.int (191 : Int32)), .unset, .unset, .unset] []) _
                    refine own_go (fun _ => XS.iloadN X0.here hx rfl (hb hby d1_41) rfl) ?_
                    refine own_go (fun _ => XS.sipush X0.here hx rfl (hb hby d1_42)) ?_
                    show own_Ends p e below s₁ (mkF m 45 #[.val (.ref a), .val (.int s_), .val (.int en), .val (.int ld), .val (.int (0 : Int32)), .val (.int (128 : Int32)), .val (.int (191 : Int32)), .unset, .unset, .unset] [(.int (224 : Int32)), (.int ld)]) _
                    refine own_go (fun _ => XS.icmpNo X0.here hx rfl (hb hby d1_45) rfl (flt (show ¬ (ld < (224 : Int32)) from own_nlt kc8 (by decide))).1) ?_
                    show own_Ends p e below s₁ (mkF m 48 #[.val (.ref a), .val (.int s_), .val (.int en), .val (.int ld), .val (.int (0 : Int32)), .val (.int (128 : Int32)), .val (.int (191 : Int32)), .unset, .unset, .unset] []) _
                    refine own_go (fun _ => XS.iloadN X0.here hx rfl (hb hby d1_48) rfl) ?_
                    refine own_go (fun _ => XS.sipush X0.here hx rfl (hb hby d1_49)) ?_
                    show own_Ends p e below s₁ (mkF m 52 #[.val (.ref a), .val (.int s_), .val (.int en), .val (.int ld), .val (.int (0 : Int32)), .val (.int (128 : Int32)), .val (.int (191 : Int32)), .unset, .unset, .unset] [(.int (239 : Int32)), (.int ld)]) _
                    refine own_go (fun _ => XS.icmpYes X0.here hx rfl (pc0 := 52) (pc' := 97) rfl (hb hby d1_52) rfl (tlt (show (239 : Int32) < ld from own_gt kc8 (by decide))).2.2.1 (by decide) (by decide)) ?_
                    show own_Ends p e below s₁ (mkF m 97 #[.val (.ref a), .val (.int s_), .val (.int en), .val (.int ld), .val (.int (0 : Int32)), .val (.int (128 : Int32)), .val (.int (191 : Int32)), .unset, .unset, .unset] []) _
                    refine own_go (fun _ => XS.iloadN X0.here hx rfl (hb hby d1_97) rfl) ?_
                    refine own_go (fun _ => XS.sipush X0.here hx rfl (hb hby d1_98)) ?_
                    show own_Ends p e below s₁ (mkF m 101 #[.val (.ref a), .val (.int s_), .val (.int en), .val (.int ld), .val (.int (0 : Int32)), .val (.int (128 : Int32)), .val (.int (191 : Int32)), .unset, .unset, .unset] [(.int (240 : Int32)), (.int ld)]) _
                    refine own_go (fun _ => XS.icmpNo X0.here hx rfl (hb hby d1_101) rfl (flt (show ¬ (ld < (240 : Int32)) from own_nlt kc8 (by decide))).1) ?_
                    show own_Ends p e below s₁ (mkF m 104 #[.val (.ref a), .val (.int s_), .val (.int en), .val (.int ld), .val (.int (0 : Int32)), .val (.int (128 : Int32)), .val (.int (191 : Int32)), .unset, .unset, .unset] []) _
                    refine own_go (fun _ => XS.iloadN X0.here hx rfl (hb hby d1_104) rfl) ?_
                    refine own_go (fun _ => XS.sipush X0.here hx rfl (hb hby d1_105)) ?_
                    show own_Ends p e below s₁ (mkF m 108 #[.val (.ref a), .val (.int s_), .val (.int en), .val (.int ld), .val (.int (0 : Int32)), .val (.int (128 : Int32)), .val (.int (191 : Int32)), .unset, .unset, .unset] [(.int (244 : Int32)), (.int ld)]) _
                    refine own_go (fun _ => XS.icmpYes X0.here hx rfl (pc0 := 108) (pc' := 150) rfl (hb hby d1_108) rfl (tlt (show (244 : Int32) < ld from own_gt kc8 (by decide))).2.2.1 (by decide) (by decide)) ?_
                    show own_Ends p e below s₁ (mkF m 150 #[.val (.ref a), .val (.int s_), .val (.int en), .val (.int ld), .val (.int (0 : Int32)), .val (.int (128 : Int32)), .val (.int (191 : Int32)), .unset, .unset, .unset] []) _
                    refine own_go (fun _ => XS.iload X0.here hx rfl (hb hby d1_150) rfl) ?_
                    show own_Ends p e below s₁ (mkF m 152 #[.val (.ref a), .val (.int s_), .val (.int en), .val (.int ld), .val (.int (0 : Int32)), .val (.int (128 : Int32)), .val (.int (191 : Int32)), .unset, .unset, .unset] [(.int (0 : Int32))]) _
                    refine own_go (fun _ => XS.ifYes X0.here hx rfl (pc0 := 152) (pc' := 167) rfl (hb hby d1_152) rfl ((if0 _ _).trans (flt (show ¬ ((0 : Int32) < (0 : Int32)) from by decide)).2.2.2) (by decide) (by decide)) ?_
                    show own_Ends p e below s₁ (mkF m 167 #[.val (.ref a), .val (.int s_), .val (.int en), .val (.int ld), .val (.int (0 : Int32)), .val (.int (128 : Int32)), .val (.int (191 : Int32)), .unset, .unset, .unset] []) _
                    refine own_go (fun _ => XS.iconst X0.here hx rfl (hb hby d1_167)) ?_
                    refine own_go (fun _ => XS.istore X0.here hx rfl (hb hby d1_168) rfl (l' := #[.val (.ref a), .val (.int s_), .val (.int en), .val (.int ld), .val (.int (0 : Int32)), .val (.int (128 : Int32)), .val (.int (191 : Int32)), .val (.int (0 : Int32)), .unset, .unset]) rfl) ?_
                    show own_Ends p e below s₁ (mkF m 170 #[.val (.ref a), .val (.int s_), .val (.int en), .val (.int ld), .val (.int (0 : Int32)), .val (.int (128 : Int32)), .val (.int (191 : Int32)), .val (.int (0 : Int32)), .unset, .unset] []) _
                    refine own_go (fun _ => XS.iconst X0.here hx rfl (hb hby d1_170)) ?_
                    refine own_go (fun _ => XS.istore X0.here hx rfl (hb hby d1_171) rfl (l' := #[.val (.ref a), .val (.int s_), .val (.int en), .val (.int ld), .val (.int (0 : Int32)), .val (.int (128 : Int32)), .val (.int (191 : Int32)), .val (.int (0 : Int32)), .val (.int (1 : Int32)), .unset]) rfl) ?_
                    show own_Ends p e below s₁ (mkF m 173 #[.val (.ref a), .val (.int s_), .val (.int en), .val (.int ld), .val (.int (0 : Int32)), .val (.int (128 : Int32)), .val (.int (191 : Int32)), .val (.int (0 : Int32)), .val (.int (1 : Int32)), .unset] []) _
                    refine own_go (fun _ => XS.iload X0.here hx rfl (hb hby d1_173) rfl) ?_
                    show own_Ends p e below s₁ (mkF m 175 #[.val (.ref a), .val (.int s_), .val (.int en), .val (.int ld), .val (.int (0 : Int32)), .val (.int (128 : Int32)), .val (.int (191 : Int32)), .val (.int (0 : Int32)), .val (.int (1 : Int32)), .unset] [(.int (0 : Int32))]) _
                    refine own_go (fun _ => XS.ifYes X0.here hx rfl (pc0 := 175) (pc' := 247) rfl (hb hby d1_175) rfl ((if0 _ _).trans (teq (show (0 : Int32) = (0 : Int32) from by decide)).1) (by decide) (by decide)) ?_
                    show own_Ends p e below s₁ (mkF m 247 #[.val (.ref a), .val (.int s_), .val (.int en), .val (.int ld), .val (.int (0 : Int32)), .val (.int (128 : Int32)), .val (.int (191 : Int32)), .val (.int (0 : Int32)), .val (.int (1 : Int32)), .unset] []) _
                    refine own_go (fun _ => XS.iload X0.here hx rfl (hb hby d1_247) rfl) ?_
                    show own_Ends p e below s₁ (mkF m 249 #[.val (.ref a), .val (.int s_), .val (.int en), .val (.int ld), .val (.int (0 : Int32)), .val (.int (128 : Int32)), .val (.int (191 : Int32)), .val (.int (0 : Int32)), .val (.int (1 : Int32)), .unset] [(.int (0 : Int32))]) _
                    refine own_go (fun _ => XS.ifYes X0.here hx rfl (pc0 := 249) (pc' := 261) rfl (hb hby d1_249) rfl ((if0 _ _).trans (teq (show (0 : Int32) = (0 : Int32) from by decide)).1) (by decide) (by decide)) ?_
                    show own_Ends p e below s₁ (mkF m 261 #[.val (.ref a), .val (.int s_), .val (.int en), .val (.int ld), .val (.int (0 : Int32)), .val (.int (128 : Int32)), .val (.int (191 : Int32)), .val (.int (0 : Int32)), .val (.int (1 : Int32)), .unset] []) _
                    refine own_go (fun _ => XS.iconst X0.here hx rfl (hb hby d1_261)) ?_
                    obtain ⟨fs, hr, hrun, hended, hW, hsame⟩ := X0.leave (v := some (.int (-1 : Int32))) (fun h => by rw [Bd.returns] at h; cases h)
                    refine ⟨_, _, retI X0 hx Bd.returns (hb hby d1_262) hr, hrun, hended, _, _, rfl, ?_, ⟨_, rfl⟩, hW, hsame.mono (by decide) (by decide)⟩
                    show Q_rmSeq Z a s_ en kl vs t_0 t_1 t_2 t_3 ld c1 c2 c3 h0 n0 _ s₁.heap _
                    rw [e0]
                    refine ⟨_, rfl, ?_, N0, rfl⟩
                    obtain ⟨z1, z2, z3, z4, z5, z6⟩ := own_s s_ hs
                    have t0 := (not_congr (own_ltC (194) (by decide))).mp kc0
                    have t1 := (not_congr (own_ltC (224) (by decide))).mp kc1
                    have t2 := (not_congr (own_ltC (225) (by decide))).mp kc2
                    have t3 := (not_congr (own_ltC (237) (by decide))).mp kc3
                    have t4 := (not_congr (own_ltC (238) (by decide))).mp kc4
                    have t5 := (not_congr (own_ltC (240) (by decide))).mp kc5
                    have t6 := (not_congr (own_ltC (241) (by decide))).mp kc6
                    have t7 := (not_congr (own_ltC (244) (by decide))).mp kc7
                    have t8 := (not_congr (own_ltC (245) (by decide))).mp kc8
                    have y0 := own_sh c2
                    have y1 := own_sh c3
                    exact own_A0 (by unfold own_P1; omega) (by unfold own_P2; omega) (by unfold own_P3; omega)
theorem d2_0 : decode method_3_code 0 = .ok (.iload_n 0, 1) := by decide +kernel
theorem d2_1 : decode method_3_code 1 = .ok (.sipush 192, 3) := by decide +kernel
theorem d2_4 : decode method_3_code 4 = .ok (.if_icmp .ge 5, 3) := by decide +kernel
theorem d2_7 : decode method_3_code 7 = .ok (.iconst (-1), 1) := by decide +kernel
theorem d2_8 : decode method_3_code 8 = .ok (.ireturn, 1) := by decide +kernel
theorem d2_9 : decode method_3_code 9 = .ok (.iload_n 0, 1) := by decide +kernel
theorem d2_10 : decode method_3_code 10 = .ok (.sipush 224, 3) := by decide +kernel
theorem d2_13 : decode method_3_code 13 = .ok (.if_icmp .ge 9, 3) := by decide +kernel
theorem d2_16 : decode method_3_code 16 = .ok (.iconst 1, 1) := by decide +kernel
theorem d2_17 : decode method_3_code 17 = .ok (.istore 6, 2) := by decide +kernel
theorem d2_19 : decode method_3_code 19 = .ok (.goto 31, 3) := by decide +kernel
theorem d2_22 : decode method_3_code 22 = .ok (.iload_n 0, 1) := by decide +kernel
theorem d2_23 : decode method_3_code 23 = .ok (.sipush 240, 3) := by decide +kernel
theorem d2_26 : decode method_3_code 26 = .ok (.if_icmp .ge 9, 3) := by decide +kernel
theorem d2_29 : decode method_3_code 29 = .ok (.iconst 2, 1) := by decide +kernel
theorem d2_30 : decode method_3_code 30 = .ok (.istore 6, 2) := by decide +kernel
theorem d2_32 : decode method_3_code 32 = .ok (.goto 18, 3) := by decide +kernel
theorem d2_35 : decode method_3_code 35 = .ok (.iload_n 0, 1) := by decide +kernel
theorem d2_36 : decode method_3_code 36 = .ok (.sipush 248, 3) := by decide +kernel
theorem d2_39 : decode method_3_code 39 = .ok (.if_icmp .ge 9, 3) := by decide +kernel
theorem d2_42 : decode method_3_code 42 = .ok (.iconst 3, 1) := by decide +kernel
theorem d2_43 : decode method_3_code 43 = .ok (.istore 6, 2) := by decide +kernel
theorem d2_45 : decode method_3_code 45 = .ok (.goto 5, 3) := by decide +kernel
theorem d2_48 : decode method_3_code 48 = .ok (.iconst (-1), 1) := by decide +kernel
theorem d2_49 : decode method_3_code 49 = .ok (.ireturn, 1) := by decide +kernel
theorem d2_50 : decode method_3_code 50 = .ok (.iload 4, 2) := by decide +kernel
theorem d2_52 : decode method_3_code 52 = .ok (.iload 6, 2) := by decide +kernel
theorem d2_54 : decode method_3_code 54 = .ok (.iadd, 1) := by decide +kernel
theorem d2_55 : decode method_3_code 55 = .ok (.iconst 1, 1) := by decide +kernel
theorem d2_56 : decode method_3_code 56 = .ok (.iadd, 1) := by decide +kernel
theorem d2_57 : decode method_3_code 57 = .ok (.iload 5, 2) := by decide +kernel
theorem d2_59 : decode method_3_code 59 = .ok (.if_icmp .le 5, 3) := by decide +kernel
theorem d2_62 : decode method_3_code 62 = .ok (.iconst (-1), 1) := by decide +kernel
theorem d2_63 : decode method_3_code 63 = .ok (.ireturn, 1) := by decide +kernel
theorem d2_64 : decode method_3_code 64 = .ok (.iload_n 1, 1) := by decide +kernel
theorem d2_65 : decode method_3_code 65 = .ok (.sipush 192, 3) := by decide +kernel
theorem d2_68 : decode method_3_code 68 = .ok (.iand, 1) := by decide +kernel
theorem d2_69 : decode method_3_code 69 = .ok (.sipush 128, 3) := by decide +kernel
theorem d2_72 : decode method_3_code 72 = .ok (.if_icmp .ne 7, 3) := by decide +kernel
theorem d2_75 : decode method_3_code 75 = .ok (.iconst 1, 1) := by decide +kernel
theorem d2_76 : decode method_3_code 76 = .ok (.goto 4, 3) := by decide +kernel
theorem d2_79 : decode method_3_code 79 = .ok (.iconst 0, 1) := by decide +kernel
theorem d2_80 : decode method_3_code 80 = .ok (.istore 7, 2) := by decide +kernel
theorem d2_82 : decode method_3_code 82 = .ok (.iload_n 2, 1) := by decide +kernel
theorem d2_83 : decode method_3_code 83 = .ok (.sipush 192, 3) := by decide +kernel
theorem d2_86 : decode method_3_code 86 = .ok (.iand, 1) := by decide +kernel
theorem d2_87 : decode method_3_code 87 = .ok (.sipush 128, 3) := by decide +kernel
theorem d2_90 : decode method_3_code 90 = .ok (.if_icmp .ne 7, 3) := by decide +kernel
theorem d2_93 : decode method_3_code 93 = .ok (.iconst 1, 1) := by decide +kernel
theorem d2_94 : decode method_3_code 94 = .ok (.goto 4, 3) := by decide +kernel
theorem d2_97 : decode method_3_code 97 = .ok (.iconst 0, 1) := by decide +kernel
theorem d2_98 : decode method_3_code 98 = .ok (.istore 8, 2) := by decide +kernel
theorem d2_100 : decode method_3_code 100 = .ok (.iload_n 3, 1) := by decide +kernel
theorem d2_101 : decode method_3_code 101 = .ok (.sipush 192, 3) := by decide +kernel
theorem d2_104 : decode method_3_code 104 = .ok (.iand, 1) := by decide +kernel
theorem d2_105 : decode method_3_code 105 = .ok (.sipush 128, 3) := by decide +kernel
theorem d2_108 : decode method_3_code 108 = .ok (.if_icmp .ne 7, 3) := by decide +kernel
theorem d2_111 : decode method_3_code 111 = .ok (.iconst 1, 1) := by decide +kernel
theorem d2_112 : decode method_3_code 112 = .ok (.goto 4, 3) := by decide +kernel
theorem d2_115 : decode method_3_code 115 = .ok (.iconst 0, 1) := by decide +kernel
theorem d2_116 : decode method_3_code 116 = .ok (.istore 9, 2) := by decide +kernel
theorem d2_118 : decode method_3_code 118 = .ok (.iload 6, 2) := by decide +kernel
theorem d2_120 : decode method_3_code 120 = .ok (.iconst 1, 1) := by decide +kernel
theorem d2_121 : decode method_3_code 121 = .ok (.if_icmp .ne 41, 3) := by decide +kernel
theorem d2_124 : decode method_3_code 124 = .ok (.iload 7, 2) := by decide +kernel
theorem d2_126 : decode method_3_code 126 = .ok (.ifCond .ne 5, 3) := by decide +kernel
theorem d2_129 : decode method_3_code 129 = .ok (.iconst (-1), 1) := by decide +kernel
theorem d2_130 : decode method_3_code 130 = .ok (.ireturn, 1) := by decide +kernel
theorem d2_131 : decode method_3_code 131 = .ok (.iload_n 0, 1) := by decide +kernel
theorem d2_132 : decode method_3_code 132 = .ok (.bipush 31, 2) := by decide +kernel
theorem d2_134 : decode method_3_code 134 = .ok (.iand, 1) := by decide +kernel
theorem d2_135 : decode method_3_code 135 = .ok (.bipush 6, 2) := by decide +kernel
theorem d2_137 : decode method_3_code 137 = .ok (.ishl, 1) := by decide +kernel
theorem d2_138 : decode method_3_code 138 = .ok (.iload_n 1, 1) := by decide +kernel
theorem d2_139 : decode method_3_code 139 = .ok (.bipush 63, 2) := by decide +kernel
theorem d2_141 : decode method_3_code 141 = .ok (.iand, 1) := by decide +kernel
theorem d2_142 : decode method_3_code 142 = .ok (.ior, 1) := by decide +kernel
theorem d2_143 : decode method_3_code 143 = .ok (.istore 10, 2) := by decide +kernel
theorem d2_145 : decode method_3_code 145 = .ok (.iload 10, 2) := by decide +kernel
theorem d2_147 : decode method_3_code 147 = .ok (.sipush 128, 3) := by decide +kernel
theorem d2_150 : decode method_3_code 150 = .ok (.if_icmp .lt 10, 3) := by decide +kernel
theorem d2_153 : decode method_3_code 153 = .ok (.iload 4, 2) := by decide +kernel
theorem d2_155 : decode method_3_code 155 = .ok (.iconst 2, 1) := by decide +kernel
theorem d2_156 : decode method_3_code 156 = .ok (.iadd, 1) := by decide +kernel
theorem d2_157 : decode method_3_code 157 = .ok (.goto 4, 3) := by decide +kernel
theorem d2_160 : decode method_3_code 160 = .ok (.iconst (-1), 1) := by decide +kernel
theorem d2_161 : decode method_3_code 161 = .ok (.ireturn, 1) := by decide +kernel
theorem d2_162 : decode method_3_code 162 = .ok (.iload 6, 2) := by decide +kernel
theorem d2_164 : decode method_3_code 164 = .ok (.iconst 2, 1) := by decide +kernel
theorem d2_165 : decode method_3_code 165 = .ok (.if_icmp .ne 68, 3) := by decide +kernel
theorem d2_168 : decode method_3_code 168 = .ok (.iload 7, 2) := by decide +kernel
theorem d2_170 : decode method_3_code 170 = .ok (.ifCond .eq 8, 3) := by decide +kernel
theorem d2_173 : decode method_3_code 173 = .ok (.iload 8, 2) := by decide +kernel
theorem d2_175 : decode method_3_code 175 = .ok (.ifCond .ne 5, 3) := by decide +kernel
theorem d2_178 : decode method_3_code 178 = .ok (.iconst (-1), 1) := by decide +kernel
theorem d2_179 : decode method_3_code 179 = .ok (.ireturn, 1) := by decide +kernel
theorem d2_180 : decode method_3_code 180 = .ok (.iload_n 0, 1) := by decide +kernel
theorem d2_181 : decode method_3_code 181 = .ok (.bipush 15, 2) := by decide +kernel
theorem d2_183 : decode method_3_code 183 = .ok (.iand, 1) := by decide +kernel
theorem d2_184 : decode method_3_code 184 = .ok (.bipush 12, 2) := by decide +kernel
theorem d2_186 : decode method_3_code 186 = .ok (.ishl, 1) := by decide +kernel
theorem d2_187 : decode method_3_code 187 = .ok (.iload_n 1, 1) := by decide +kernel
theorem d2_188 : decode method_3_code 188 = .ok (.bipush 63, 2) := by decide +kernel
theorem d2_190 : decode method_3_code 190 = .ok (.iand, 1) := by decide +kernel
theorem d2_191 : decode method_3_code 191 = .ok (.bipush 6, 2) := by decide +kernel
theorem d2_193 : decode method_3_code 193 = .ok (.ishl, 1) := by decide +kernel
theorem d2_194 : decode method_3_code 194 = .ok (.ior, 1) := by decide +kernel
theorem d2_195 : decode method_3_code 195 = .ok (.iload_n 2, 1) := by decide +kernel
theorem d2_196 : decode method_3_code 196 = .ok (.bipush 63, 2) := by decide +kernel
theorem d2_198 : decode method_3_code 198 = .ok (.iand, 1) := by decide +kernel
theorem d2_199 : decode method_3_code 199 = .ok (.ior, 1) := by decide +kernel
theorem d2_200 : decode method_3_code 200 = .ok (.istore 10, 2) := by decide +kernel
theorem d2_202 : decode method_3_code 202 = .ok (.iload 10, 2) := by decide +kernel
theorem d2_204 : decode method_3_code 204 = .ok (.sipush 2048, 3) := by decide +kernel
theorem d2_207 : decode method_3_code 207 = .ok (.if_icmp .lt 24, 3) := by decide +kernel
theorem d2_210 : decode method_3_code 210 = .ok (.iload 10, 2) := by decide +kernel
theorem d2_212 : decode method_3_code 212 = .ok (.ldc 20, 2) := by decide +kernel
theorem d2_214 : decode method_3_code 214 = .ok (.if_icmp .lt 10, 3) := by decide +kernel
theorem d2_217 : decode method_3_code 217 = .ok (.iload 10, 2) := by decide +kernel
theorem d2_219 : decode method_3_code 219 = .ok (.ldc 21, 2) := by decide +kernel
theorem d2_221 : decode method_3_code 221 = .ok (.if_icmp .le 10, 3) := by decide +kernel
theorem d2_224 : decode method_3_code 224 = .ok (.iload 4, 2) := by decide +kernel
theorem d2_226 : decode method_3_code 226 = .ok (.iconst 3, 1) := by decide +kernel
theorem d2_227 : decode method_3_code 227 = .ok (.iadd, 1) := by decide +kernel
theorem d2_228 : decode method_3_code 228 = .ok (.goto 4, 3) := by decide +kernel
theorem d2_231 : decode method_3_code 231 = .ok (.iconst (-1), 1) := by decide +kernel
theorem d2_232 : decode method_3_code 232 = .ok (.ireturn, 1) := by decide +kernel
theorem d2_233 : decode method_3_code 233 = .ok (.iload 7, 2) := by decide +kernel
theorem d2_235 : decode method_3_code 235 = .ok (.ifCond .eq 13, 3) := by decide +kernel
theorem d2_238 : decode method_3_code 238 = .ok (.iload 8, 2) := by decide +kernel
theorem d2_240 : decode method_3_code 240 = .ok (.ifCond .eq 8, 3) := by decide +kernel
theorem d2_243 : decode method_3_code 243 = .ok (.iload 9, 2) := by decide +kernel
theorem d2_245 : decode method_3_code 245 = .ok (.ifCond .ne 5, 3) := by decide +kernel
theorem d2_248 : decode method_3_code 248 = .ok (.iconst (-1), 1) := by decide +kernel
theorem d2_249 : decode method_3_code 249 = .ok (.ireturn, 1) := by decide +kernel
theorem d2_250 : decode method_3_code 250 = .ok (.iload_n 0, 1) := by decide +kernel
theorem d2_251 : decode method_3_code 251 = .ok (.bipush 7, 2) := by decide +kernel
theorem d2_253 : decode method_3_code 253 = .ok (.iand, 1) := by decide +kernel
theorem d2_254 : decode method_3_code 254 = .ok (.bipush 18, 2) := by decide +kernel
theorem d2_256 : decode method_3_code 256 = .ok (.ishl, 1) := by decide +kernel
theorem d2_257 : decode method_3_code 257 = .ok (.iload_n 1, 1) := by decide +kernel
theorem d2_258 : decode method_3_code 258 = .ok (.bipush 63, 2) := by decide +kernel
theorem d2_260 : decode method_3_code 260 = .ok (.iand, 1) := by decide +kernel
theorem d2_261 : decode method_3_code 261 = .ok (.bipush 12, 2) := by decide +kernel
theorem d2_263 : decode method_3_code 263 = .ok (.ishl, 1) := by decide +kernel
theorem d2_264 : decode method_3_code 264 = .ok (.ior, 1) := by decide +kernel
theorem d2_265 : decode method_3_code 265 = .ok (.iload_n 2, 1) := by decide +kernel
theorem d2_266 : decode method_3_code 266 = .ok (.bipush 63, 2) := by decide +kernel
theorem d2_268 : decode method_3_code 268 = .ok (.iand, 1) := by decide +kernel
theorem d2_269 : decode method_3_code 269 = .ok (.bipush 6, 2) := by decide +kernel
theorem d2_271 : decode method_3_code 271 = .ok (.ishl, 1) := by decide +kernel
theorem d2_272 : decode method_3_code 272 = .ok (.ior, 1) := by decide +kernel
theorem d2_273 : decode method_3_code 273 = .ok (.iload_n 3, 1) := by decide +kernel
theorem d2_274 : decode method_3_code 274 = .ok (.bipush 63, 2) := by decide +kernel
theorem d2_276 : decode method_3_code 276 = .ok (.iand, 1) := by decide +kernel
theorem d2_277 : decode method_3_code 277 = .ok (.ior, 1) := by decide +kernel
theorem d2_278 : decode method_3_code 278 = .ok (.istore 10, 2) := by decide +kernel
theorem d2_280 : decode method_3_code 280 = .ok (.iload 10, 2) := by decide +kernel
theorem d2_282 : decode method_3_code 282 = .ok (.ldc 22, 2) := by decide +kernel
theorem d2_284 : decode method_3_code 284 = .ok (.if_icmp .lt 17, 3) := by decide +kernel
theorem d2_287 : decode method_3_code 287 = .ok (.iload 10, 2) := by decide +kernel
theorem d2_289 : decode method_3_code 289 = .ok (.ldc 23, 2) := by decide +kernel
theorem d2_291 : decode method_3_code 291 = .ok (.if_icmp .gt 10, 3) := by decide +kernel
theorem d2_294 : decode method_3_code 294 = .ok (.iload 4, 2) := by decide +kernel
theorem d2_296 : decode method_3_code 296 = .ok (.iconst 4, 1) := by decide +kernel
theorem d2_297 : decode method_3_code 297 = .ok (.iadd, 1) := by decide +kernel
theorem d2_298 : decode method_3_code 298 = .ok (.goto 4, 3) := by decide +kernel
theorem d2_301 : decode method_3_code 301 = .ok (.iconst (-1), 1) := by decide +kernel
theorem d2_302 : decode method_3_code 302 = .ok (.ireturn, 1) := by decide +kernel
theorem pn_2 : plainName "com/example/excedent/excedent/io/Utf8SequenceEndPinLaw" = true := by first | (simp [plainName, overriddenIn]; done) | decide +kernel
theorem ef_2 (m : MethodId) (ld : Int32) (c1 : Int32) (c2 : Int32) (c3 : Int32) (s_ : Int32) (en : Int32) : entryFrame m #[(.int ld), (.int c1), (.int c2), (.int c3), (.int s_), (.int en)] 11 = mkF m 0 #[.val (.int ld), .val (.int c1), .val (.int c2), .val (.int c3), .val (.int s_), .val (.int en), .unset, .unset, .unset, .unset, .unset] [] := by first | (simp [entryFrame, mkF, argsToLocals, Value.category]; done) | rfl
def Q_rmExp (Z : State) (ld : Int32) (c1 : Int32) (c2 : Int32) (c3 : Int32) (s_ : Int32) (en : Int32) (h0 : Heap) (n0 : Nat) (v : Option Value) (h : Heap) (L : List Loc) : Prop := ∃ z : Int32, v = some (.int z) ∧ own_A s_ en ld c1 c2 c3 z ∧ Fr n0 L ∧ h = h0
set_option maxRecDepth 65536 in
set_option maxHeartbeats 40000000 in
theorem rmExp (l : Launch) (Z : State) (a0 : Array Value) (hw : ∀ d ∈ tables_1, d.before a0 Z = true) (ws : List Jvm.Cond) (ld : Int32) (c1 : Int32) (c2 : Int32) (c3 : Int32) (s_ : Int32) (en : Int32) (h0 : Heap) (n0 : Nat) (Z0 : n0 ≤ h0.size) (hs : 0 ≤ s_.toInt ∧ s_.toInt ≤ 1) (hld : 0 ≤ ld.toInt ∧ ld.toInt < 256) (hc1 : 0 ≤ c1.toInt ∧ c1.toInt < 256) (hc2 : 0 ≤ c2.toInt ∧ c2.toInt < 256) (hc3 : 0 ≤ c3.toInt ∧ c3.toInt < 256) :
    MetFree l (⟨"com/example/excedent/excedent/io/Utf8SequenceEndPinLaw", "expected", "(IIIIII)I"⟩ : MethodName) (head1 (Jvm.Cond.code (⟨"com/example/excedent/excedent/io/Utf8SequenceEndPinLaw", "expected", "(IIIIII)I"⟩ : MethodName) method_3_code 11 (some .int) :: ws) ({ frames := 0, cells := 0, slots := 0, locals := 0 } : Room)) (fun aa U => aa = #[(.int ld), (.int c1), (.int c2), (.int c3), (.int s_), (.int en)] ∧ Z.Warmed39 U.vm ∧ U.heap = h0) (fun _ _ _ _ _ => True) (fun _ U ou U' => ∃ v L, ou = .returned v ∧ Q_rmExp Z ld c1 c2 c3 s_ en h0 n0 v U'.heap L ∧ FrameEnd U ou U' L ({ frames := 0, cells := 0, slots := 0, locals := 0 } : Room).cells ({ frames := 0, cells := 0, slots := 0, locals := 0 } : Room).slots) := by
  refine MetFree.of_bodySF (plainFor_of_name pn_2) hisR ?_
  intro p e s m args below meth c s₁ Bd hml0 hP hK
  obtain ⟨rfl, hZ, hh⟩ := hP
  have hx := Bd.exec
  have hby := Bd.bytes
  have hml : c.maxLocals = 11 := hml0
  have hown : s.vm.findClass "com/example/excedent/excedent/io/Utf8SequenceEndPinLaw" = some m.cls := findClass_of_methodNamed Bd.named
  have hnm := (name_of_methodNamed Bd.named Bd.method).1
  have X0 : Stand p l e ({ frames := 0, cells := 0, slots := 0, locals := 0 } : Room) s m #[(.int ld), (.int c1), (.int c2), (.int c3), (.int s_), (.int en)] below meth c s₁ [] 0 0 := Stand.of_body Bd
  have e0 : s₁.heap = h0 := by rw [← hh, Bd.state]; rfl
  have N0 := Fr.nil n0
  have K0 := Keep.refl h0 []
  refine own_as (ef_2 m ld c1 c2 c3 s_ en) ?_
  show own_Ends p e below s₁ (mkF m 0 #[.val (.int ld), .val (.int c1), .val (.int c2), .val (.int c3), .val (.int s_), .val (.int en), .unset, .unset, .unset, .unset, .unset] []) _
  refine own_go (fun _ => XS.iloadN X0.here hx rfl (hb hby d2_0) rfl) ?_
  refine own_go (fun _ => XS.sipush X0.here hx rfl (hb hby d2_1)) ?_
  show own_Ends p e below s₁ (mkF m 4 #[.val (.int ld), .val (.int c1), .val (.int c2), .val (.int c3), .val (.int s_), .val (.int en), .unset, .unset, .unset, .unset, .unset] [(.int (192 : Int32)), (.int ld)]) _
  by_cases hc4 : ld < (192 : Int32)
  · refine own_go (fun _ => XS.icmpNo X0.here hx rfl (hb hby d2_4) rfl (tlt hc4).2.1) ?_
    show own_Ends p e below s₁ (mkF m 7 #[.val (.int ld), .val (.int c1), .val (.int c2), .val (.int c3), .val (.int s_), .val (.int en), .unset, .unset, .unset, .unset, .unset] []) _
    refine own_go (fun _ => XS.iconst X0.here hx rfl (hb hby d2_7)) ?_
    obtain ⟨fs, hr, hrun, hended, hW, hsame⟩ := X0.leave (v := some (.int (-1 : Int32))) (fun h => by rw [Bd.returns] at h; cases h)
    refine ⟨_, _, retI X0 hx Bd.returns (hb hby d2_8) hr, hrun, hended, _, _, rfl, ?_, ⟨_, rfl⟩, hW, hsame.mono (by decide) (by decide)⟩
    show Q_rmExp Z ld c1 c2 c3 s_ en h0 n0 _ s₁.heap _
    rw [e0]
    refine ⟨_, rfl, ?_, N0, rfl⟩
    obtain ⟨z1, z2, z3, z4, z5, z6⟩ := own_s s_ hs
    have t0 := (own_ltC (192) (by decide)).mp hc4
    exact own_A0 (by unfold own_P1; omega) (by unfold own_P2; omega) (by unfold own_P3; omega)
  · refine own_go (fun _ => XS.icmpYes X0.here hx rfl (pc0 := 4) (pc' := 9) rfl (hb hby d2_4) rfl (flt hc4).2.1 (by decide) (by decide)) ?_
    show own_Ends p e below s₁ (mkF m 9 #[.val (.int ld), .val (.int c1), .val (.int c2), .val (.int c3), .val (.int s_), .val (.int en), .unset, .unset, .unset, .unset, .unset] []) _
    refine own_go (fun _ => XS.iloadN X0.here hx rfl (hb hby d2_9) rfl) ?_
    refine own_go (fun _ => XS.sipush X0.here hx rfl (hb hby d2_10)) ?_
    show own_Ends p e below s₁ (mkF m 13 #[.val (.int ld), .val (.int c1), .val (.int c2), .val (.int c3), .val (.int s_), .val (.int en), .unset, .unset, .unset, .unset, .unset] [(.int (224 : Int32)), (.int ld)]) _
    by_cases hc13 : ld < (224 : Int32)
    · refine own_go (fun _ => XS.icmpNo X0.here hx rfl (hb hby d2_13) rfl (tlt hc13).2.1) ?_
      show own_Ends p e below s₁ (mkF m 16 #[.val (.int ld), .val (.int c1), .val (.int c2), .val (.int c3), .val (.int s_), .val (.int en), .unset, .unset, .unset, .unset, .unset] []) _
      refine own_go (fun _ => XS.iconst X0.here hx rfl (hb hby d2_16)) ?_
      refine own_go (fun _ => XS.istore X0.here hx rfl (hb hby d2_17) rfl (l' := #[.val (.int ld), .val (.int c1), .val (.int c2), .val (.int c3), .val (.int s_), .val (.int en), .val (.int (1 : Int32)), .unset, .unset, .unset, .unset]) rfl) ?_
      show own_Ends p e below s₁ (mkF m 19 #[.val (.int ld), .val (.int c1), .val (.int c2), .val (.int c3), .val (.int s_), .val (.int en), .val (.int (1 : Int32)), .unset, .unset, .unset, .unset] []) _
      refine own_go (fun _ => XS.goto X0.here hx rfl (pc0 := 19) (pc' := 50) rfl (hb hby d2_19) (by decide) (by decide)) ?_
      refine own_go (fun _ => XS.iload X0.here hx rfl (hb hby d2_50) rfl) ?_
      refine own_go (fun _ => XS.iload X0.here hx rfl (hb hby d2_52) rfl) ?_
      refine own_go (fun _ => XS.iadd X0.here hx rfl (hb hby d2_54) rfl) ?_
      show own_Ends p e below s₁ (mkF m 55 #[.val (.int ld), .val (.int c1), .val (.int c2), .val (.int c3), .val (.int s_), .val (.int en), .val (.int (1 : Int32)), .unset, .unset, .unset, .unset] [(.int (s_ + (1 : Int32)))]) _
      refine own_go (fun _ => XS.iconst X0.here hx rfl (hb hby d2_55)) ?_
      refine own_go (fun _ => XS.iadd X0.here hx rfl (hb hby d2_56) rfl) ?_
      show own_Ends p e below s₁ (mkF m 57 #[.val (.int ld), .val (.int c1), .val (.int c2), .val (.int c3), .val (.int s_), .val (.int en), .val (.int (1 : Int32)), .unset, .unset, .unset, .unset] [(.int ((s_ + (1 : Int32)) + (1 : Int32)))]) _
      refine own_go (fun _ => XS.iload X0.here hx rfl (hb hby d2_57) rfl) ?_
      show own_Ends p e below s₁ (mkF m 59 #[.val (.int ld), .val (.int c1), .val (.int c2), .val (.int c3), .val (.int s_), .val (.int en), .val (.int (1 : Int32)), .unset, .unset, .unset, .unset] [(.int en), (.int ((s_ + (1 : Int32)) + (1 : Int32)))]) _
      by_cases hc59 : en < ((s_ + (1 : Int32)) + (1 : Int32))
      · refine own_go (fun _ => XS.icmpNo X0.here hx rfl (hb hby d2_59) rfl (tlt hc59).2.2.2) ?_
        show own_Ends p e below s₁ (mkF m 62 #[.val (.int ld), .val (.int c1), .val (.int c2), .val (.int c3), .val (.int s_), .val (.int en), .val (.int (1 : Int32)), .unset, .unset, .unset, .unset] []) _
        refine own_go (fun _ => XS.iconst X0.here hx rfl (hb hby d2_62)) ?_
        obtain ⟨fs, hr, hrun, hended, hW, hsame⟩ := X0.leave (v := some (.int (-1 : Int32))) (fun h => by rw [Bd.returns] at h; cases h)
        refine ⟨_, _, retI X0 hx Bd.returns (hb hby d2_63) hr, hrun, hended, _, _, rfl, ?_, ⟨_, rfl⟩, hW, hsame.mono (by decide) (by decide)⟩
        show Q_rmExp Z ld c1 c2 c3 s_ en h0 n0 _ s₁.heap _
        rw [e0]
        refine ⟨_, rfl, ?_, N0, rfl⟩
        obtain ⟨z1, z2, z3, z4, z5, z6⟩ := own_s s_ hs
        have t0 := (not_congr (own_ltC (192) (by decide))).mp hc4
        have t1 := (own_ltC (224) (by decide)).mp hc13
        have t2 := (own_lt2).mp hc59
        have y0 := own_c2 ld c1
        exact own_A0 (by unfold own_P1; omega) (by unfold own_P2; omega) (by unfold own_P3; omega)
      · refine own_go (fun _ => XS.icmpYes X0.here hx rfl (pc0 := 59) (pc' := 64) rfl (hb hby d2_59) rfl (flt hc59).2.2.2 (by decide) (by decide)) ?_
        show own_Ends p e below s₁ (mkF m 64 #[.val (.int ld), .val (.int c1), .val (.int c2), .val (.int c3), .val (.int s_), .val (.int en), .val (.int (1 : Int32)), .unset, .unset, .unset, .unset] []) _
        refine own_go (fun _ => XS.iloadN X0.here hx rfl (hb hby d2_64) rfl) ?_
        refine own_go (fun _ => XS.sipush X0.here hx rfl (hb hby d2_65)) ?_
        refine own_go (fun _ => XS.iand X0.here hx rfl (hb hby d2_68) rfl) ?_
        show own_Ends p e below s₁ (mkF m 69 #[.val (.int ld), .val (.int c1), .val (.int c2), .val (.int c3), .val (.int s_), .val (.int en), .val (.int (1 : Int32)), .unset, .unset, .unset, .unset] [(.int (c1 &&& (192 : Int32)))]) _
        refine own_go (fun _ => XS.sipush X0.here hx rfl (hb hby d2_69)) ?_
        show own_Ends p e below s₁ (mkF m 72 #[.val (.int ld), .val (.int c1), .val (.int c2), .val (.int c3), .val (.int s_), .val (.int en), .val (.int (1 : Int32)), .unset, .unset, .unset, .unset] [(.int (128 : Int32)), (.int (c1 &&& (192 : Int32)))]) _
        by_cases hc72 : (c1 &&& (192 : Int32)) = (128 : Int32)
        · refine own_go (fun _ => XS.icmpNo X0.here hx rfl (hb hby d2_72) rfl (teq hc72).2) ?_
          show own_Ends p e below s₁ (mkF m 75 #[.val (.int ld), .val (.int c1), .val (.int c2), .val (.int c3), .val (.int s_), .val (.int en), .val (.int (1 : Int32)), .unset, .unset, .unset, .unset] []) _
          refine own_go (fun _ => XS.iconst X0.here hx rfl (hb hby d2_75)) ?_
          refine own_go (fun _ => XS.goto X0.here hx rfl (pc0 := 76) (pc' := 80) rfl (hb hby d2_76) (by decide) (by decide)) ?_
          refine own_go (fun _ => XS.istore X0.here hx rfl (hb hby d2_80) rfl (l' := #[.val (.int ld), .val (.int c1), .val (.int c2), .val (.int c3), .val (.int s_), .val (.int en), .val (.int (1 : Int32)), .val (.int (1 : Int32)), .unset, .unset, .unset]) rfl) ?_
          show own_Ends p e below s₁ (mkF m 82 #[.val (.int ld), .val (.int c1), .val (.int c2), .val (.int c3), .val (.int s_), .val (.int en), .val (.int (1 : Int32)), .val (.int (1 : Int32)), .unset, .unset, .unset] []) _
          have J118 : ∀ (o2 o3 : Int32), own_Ends p e below s₁ (mkF m 118 #[.val (.int ld), .val (.int c1), .val (.int c2), .val (.int c3), .val (.int s_), .val (.int en), .val (.int (1 : Int32)), .val (.int (1 : Int32)), .val (.int o2), .val (.int o3), .unset] []) (fun ou U' => ∃ v L, ou = .returned v ∧ Q_rmExp Z ld c1 c2 c3 s_ en h0 n0 v U'.heap L ∧ FrameEnd s ou U' L ({ frames := 0, cells := 0, slots := 0, locals := 0 } : Room).cells ({ frames := 0, cells := 0, slots := 0, locals := 0 } : Room).slots) := by
            intro o2 o3
            show own_Ends p e below s₁ (mkF m 118 #[.val (.int ld), .val (.int c1), .val (.int c2), .val (.int c3), .val (.int s_), .val (.int en), .val (.int (1 : Int32)), .val (.int (1 : Int32)), .val (.int o2), .val (.int o3), .unset] []) _
            refine own_go (fun _ => XS.iload X0.here hx rfl (hb hby d2_118) rfl) ?_
            refine own_go (fun _ => XS.iconst X0.here hx rfl (hb hby d2_120)) ?_
            show own_Ends p e below s₁ (mkF m 121 #[.val (.int ld), .val (.int c1), .val (.int c2), .val (.int c3), .val (.int s_), .val (.int en), .val (.int (1 : Int32)), .val (.int (1 : Int32)), .val (.int o2), .val (.int o3), .unset] [(.int (1 : Int32)), (.int (1 : Int32))]) _
            refine own_go (fun _ => XS.icmpNo X0.here hx rfl (hb hby d2_121) rfl (teq (show (1 : Int32) = (1 : Int32) from by decide)).2) ?_
            show own_Ends p e below s₁ (mkF m 124 #[.val (.int ld), .val (.int c1), .val (.int c2), .val (.int c3), .val (.int s_), .val (.int en), .val (.int (1 : Int32)), .val (.int (1 : Int32)), .val (.int o2), .val (.int o3), .unset] []) _
            refine own_go (fun _ => XS.iload X0.here hx rfl (hb hby d2_124) rfl) ?_
            show own_Ends p e below s₁ (mkF m 126 #[.val (.int ld), .val (.int c1), .val (.int c2), .val (.int c3), .val (.int s_), .val (.int en), .val (.int (1 : Int32)), .val (.int (1 : Int32)), .val (.int o2), .val (.int o3), .unset] [(.int (1 : Int32))]) _
            refine own_go (fun _ => XS.ifYes X0.here hx rfl (pc0 := 126) (pc' := 131) rfl (hb hby d2_126) rfl ((if0 _ _).trans (feq (show ¬ ((1 : Int32) = (0 : Int32)) from by decide)).2) (by decide) (by decide)) ?_
            show own_Ends p e below s₁ (mkF m 131 #[.val (.int ld), .val (.int c1), .val (.int c2), .val (.int c3), .val (.int s_), .val (.int en), .val (.int (1 : Int32)), .val (.int (1 : Int32)), .val (.int o2), .val (.int o3), .unset] []) _
            refine own_go (fun _ => XS.iloadN X0.here hx rfl (hb hby d2_131) rfl) ?_
            refine own_go (fun _ => XS.bipush X0.here hx rfl (hb hby d2_132)) ?_
            refine own_go (fun _ => XS.iand X0.here hx rfl (hb hby d2_134) rfl) ?_
            show own_Ends p e below s₁ (mkF m 135 #[.val (.int ld), .val (.int c1), .val (.int c2), .val (.int c3), .val (.int s_), .val (.int en), .val (.int (1 : Int32)), .val (.int (1 : Int32)), .val (.int o2), .val (.int o3), .unset] [(.int (ld &&& (31 : Int32)))]) _
            refine own_go (fun _ => XS.bipush X0.here hx rfl (hb hby d2_135)) ?_
            refine own_go (fun _ => XS.ishl X0.here hx rfl (hb hby d2_137) rfl) ?_
            show own_Ends p e below s₁ (mkF m 138 #[.val (.int ld), .val (.int c1), .val (.int c2), .val (.int c3), .val (.int s_), .val (.int en), .val (.int (1 : Int32)), .val (.int (1 : Int32)), .val (.int o2), .val (.int o3), .unset] [(.int ((ld &&& (31 : Int32)) <<< ((6 : Int32) &&& 31)))]) _
            refine own_go (fun _ => XS.iloadN X0.here hx rfl (hb hby d2_138) rfl) ?_
            refine own_go (fun _ => XS.bipush X0.here hx rfl (hb hby d2_139)) ?_
            refine own_go (fun _ => XS.iand X0.here hx rfl (hb hby d2_141) rfl) ?_
            show own_Ends p e below s₁ (mkF m 142 #[.val (.int ld), .val (.int c1), .val (.int c2), .val (.int c3), .val (.int s_), .val (.int en), .val (.int (1 : Int32)), .val (.int (1 : Int32)), .val (.int o2), .val (.int o3), .unset] [(.int (c1 &&& (63 : Int32))), (.int ((ld &&& (31 : Int32)) <<< ((6 : Int32) &&& 31)))]) _
            refine own_go (fun _ => XS.ior X0.here hx rfl (hb hby d2_142) rfl) ?_
            show own_Ends p e below s₁ (mkF m 143 #[.val (.int ld), .val (.int c1), .val (.int c2), .val (.int c3), .val (.int s_), .val (.int en), .val (.int (1 : Int32)), .val (.int (1 : Int32)), .val (.int o2), .val (.int o3), .unset] [(.int (((ld &&& (31 : Int32)) <<< ((6 : Int32) &&& 31)) ||| (c1 &&& (63 : Int32))))]) _
            refine own_go (fun _ => XS.istore X0.here hx rfl (hb hby d2_143) rfl (l' := #[.val (.int ld), .val (.int c1), .val (.int c2), .val (.int c3), .val (.int s_), .val (.int en), .val (.int (1 : Int32)), .val (.int (1 : Int32)), .val (.int o2), .val (.int o3), .val (.int (((ld &&& (31 : Int32)) <<< ((6 : Int32) &&& 31)) ||| (c1 &&& (63 : Int32))))]) rfl) ?_
            show own_Ends p e below s₁ (mkF m 145 #[.val (.int ld), .val (.int c1), .val (.int c2), .val (.int c3), .val (.int s_), .val (.int en), .val (.int (1 : Int32)), .val (.int (1 : Int32)), .val (.int o2), .val (.int o3), .val (.int (((ld &&& (31 : Int32)) <<< ((6 : Int32) &&& 31)) ||| (c1 &&& (63 : Int32))))] []) _
            refine own_go (fun _ => XS.iload X0.here hx rfl (hb hby d2_145) rfl) ?_
            refine own_go (fun _ => XS.sipush X0.here hx rfl (hb hby d2_147)) ?_
            show own_Ends p e below s₁ (mkF m 150 #[.val (.int ld), .val (.int c1), .val (.int c2), .val (.int c3), .val (.int s_), .val (.int en), .val (.int (1 : Int32)), .val (.int (1 : Int32)), .val (.int o2), .val (.int o3), .val (.int (((ld &&& (31 : Int32)) <<< ((6 : Int32) &&& 31)) ||| (c1 &&& (63 : Int32))))] [(.int (128 : Int32)), (.int (((ld &&& (31 : Int32)) <<< ((6 : Int32) &&& 31)) ||| (c1 &&& (63 : Int32))))]) _
            by_cases hc150 : (((ld &&& (31 : Int32)) <<< ((6 : Int32) &&& 31)) ||| (c1 &&& (63 : Int32))) < (128 : Int32)
            · refine own_go (fun _ => XS.icmpYes X0.here hx rfl (pc0 := 150) (pc' := 160) rfl (hb hby d2_150) rfl (tlt hc150).1 (by decide) (by decide)) ?_
              show own_Ends p e below s₁ (mkF m 160 #[.val (.int ld), .val (.int c1), .val (.int c2), .val (.int c3), .val (.int s_), .val (.int en), .val (.int (1 : Int32)), .val (.int (1 : Int32)), .val (.int o2), .val (.int o3), .val (.int (((ld &&& (31 : Int32)) <<< ((6 : Int32) &&& 31)) ||| (c1 &&& (63 : Int32))))] []) _
              refine own_go (fun _ => XS.iconst X0.here hx rfl (hb hby d2_160)) ?_
              obtain ⟨fs, hr, hrun, hended, hW, hsame⟩ := X0.leave (v := some (.int (-1 : Int32))) (fun h => by rw [Bd.returns] at h; cases h)
              refine ⟨_, _, retI X0 hx Bd.returns (hb hby d2_161) hr, hrun, hended, _, _, rfl, ?_, ⟨_, rfl⟩, hW, hsame.mono (by decide) (by decide)⟩
              show Q_rmExp Z ld c1 c2 c3 s_ en h0 n0 _ s₁.heap _
              rw [e0]
              refine ⟨_, rfl, ?_, N0, rfl⟩
              obtain ⟨z1, z2, z3, z4, z5, z6⟩ := own_s s_ hs
              have t0 := (not_congr (own_ltC (192) (by decide))).mp hc4
              have t1 := (own_ltC (224) (by decide)).mp hc13
              have t2 := (not_congr (own_lt2)).mp hc59
              have t3 := (own_top hc1).mp hc72
              have t4 := (own_ltC (128) (by decide)).mp hc150
              have y0 := own_c2 ld c1
              exact own_A0 (by unfold own_P1; omega) (by unfold own_P2; omega) (by unfold own_P3; omega)
            · refine own_go (fun _ => XS.icmpNo X0.here hx rfl (hb hby d2_150) rfl (flt hc150).1) ?_
              show own_Ends p e below s₁ (mkF m 153 #[.val (.int ld), .val (.int c1), .val (.int c2), .val (.int c3), .val (.int s_), .val (.int en), .val (.int (1 : Int32)), .val (.int (1 : Int32)), .val (.int o2), .val (.int o3), .val (.int (((ld &&& (31 : Int32)) <<< ((6 : Int32) &&& 31)) ||| (c1 &&& (63 : Int32))))] []) _
              refine own_go (fun _ => XS.iload X0.here hx rfl (hb hby d2_153) rfl) ?_
              refine own_go (fun _ => XS.iconst X0.here hx rfl (hb hby d2_155)) ?_
              refine own_go (fun _ => XS.iadd X0.here hx rfl (hb hby d2_156) rfl) ?_
              show own_Ends p e below s₁ (mkF m 157 #[.val (.int ld), .val (.int c1), .val (.int c2), .val (.int c3), .val (.int s_), .val (.int en), .val (.int (1 : Int32)), .val (.int (1 : Int32)), .val (.int o2), .val (.int o3), .val (.int (((ld &&& (31 : Int32)) <<< ((6 : Int32) &&& 31)) ||| (c1 &&& (63 : Int32))))] [(.int (s_ + (2 : Int32)))]) _
              refine own_go (fun _ => XS.goto X0.here hx rfl (pc0 := 157) (pc' := 161) rfl (hb hby d2_157) (by decide) (by decide)) ?_
              obtain ⟨fs, hr, hrun, hended, hW, hsame⟩ := X0.leave (v := some (.int (s_ + (2 : Int32)))) (fun h => by rw [Bd.returns] at h; cases h)
              refine ⟨_, _, retI X0 hx Bd.returns (hb hby d2_161) hr, hrun, hended, _, _, rfl, ?_, ⟨_, rfl⟩, hW, hsame.mono (by decide) (by decide)⟩
              show Q_rmExp Z ld c1 c2 c3 s_ en h0 n0 _ s₁.heap _
              rw [e0]
              refine ⟨_, rfl, ?_, N0, rfl⟩
              obtain ⟨z1, z2, z3, z4, z5, z6⟩ := own_s s_ hs
              have t0 := (not_congr (own_ltC (192) (by decide))).mp hc4
              have t1 := (own_ltC (224) (by decide)).mp hc13
              have t2 := (not_congr (own_lt2)).mp hc59
              have t3 := (own_top hc1).mp hc72
              have t4 := (not_congr (own_ltC (128) (by decide))).mp hc150
              have y0 := own_c2 ld c1
              exact own_A1 (by unfold own_P1; omega) (rfl)
          refine own_go (fun _ => XS.iloadN X0.here hx rfl (hb hby d2_82) rfl) ?_
          refine own_go (fun _ => XS.sipush X0.here hx rfl (hb hby d2_83)) ?_
          refine own_go (fun _ => XS.iand X0.here hx rfl (hb hby d2_86) rfl) ?_
          show own_Ends p e below s₁ (mkF m 87 #[.val (.int ld), .val (.int c1), .val (.int c2), .val (.int c3), .val (.int s_), .val (.int en), .val (.int (1 : Int32)), .val (.int (1 : Int32)), .unset, .unset, .unset] [(.int (c2 &&& (192 : Int32)))]) _
          refine own_go (fun _ => XS.sipush X0.here hx rfl (hb hby d2_87)) ?_
          show own_Ends p e below s₁ (mkF m 90 #[.val (.int ld), .val (.int c1), .val (.int c2), .val (.int c3), .val (.int s_), .val (.int en), .val (.int (1 : Int32)), .val (.int (1 : Int32)), .unset, .unset, .unset] [(.int (128 : Int32)), (.int (c2 &&& (192 : Int32)))]) _
          by_cases hc90 : (c2 &&& (192 : Int32)) = (128 : Int32)
          · refine own_go (fun _ => XS.icmpNo X0.here hx rfl (hb hby d2_90) rfl (teq hc90).2) ?_
            show own_Ends p e below s₁ (mkF m 93 #[.val (.int ld), .val (.int c1), .val (.int c2), .val (.int c3), .val (.int s_), .val (.int en), .val (.int (1 : Int32)), .val (.int (1 : Int32)), .unset, .unset, .unset] []) _
            refine own_go (fun _ => XS.iconst X0.here hx rfl (hb hby d2_93)) ?_
            refine own_go (fun _ => XS.goto X0.here hx rfl (pc0 := 94) (pc' := 98) rfl (hb hby d2_94) (by decide) (by decide)) ?_
            refine own_go (fun _ => XS.istore X0.here hx rfl (hb hby d2_98) rfl (l' := #[.val (.int ld), .val (.int c1), .val (.int c2), .val (.int c3), .val (.int s_), .val (.int en), .val (.int (1 : Int32)), .val (.int (1 : Int32)), .val (.int (1 : Int32)), .unset, .unset]) rfl) ?_
            show own_Ends p e below s₁ (mkF m 100 #[.val (.int ld), .val (.int c1), .val (.int c2), .val (.int c3), .val (.int s_), .val (.int en), .val (.int (1 : Int32)), .val (.int (1 : Int32)), .val (.int (1 : Int32)), .unset, .unset] []) _
            refine own_go (fun _ => XS.iloadN X0.here hx rfl (hb hby d2_100) rfl) ?_
            refine own_go (fun _ => XS.sipush X0.here hx rfl (hb hby d2_101)) ?_
            refine own_go (fun _ => XS.iand X0.here hx rfl (hb hby d2_104) rfl) ?_
            show own_Ends p e below s₁ (mkF m 105 #[.val (.int ld), .val (.int c1), .val (.int c2), .val (.int c3), .val (.int s_), .val (.int en), .val (.int (1 : Int32)), .val (.int (1 : Int32)), .val (.int (1 : Int32)), .unset, .unset] [(.int (c3 &&& (192 : Int32)))]) _
            refine own_go (fun _ => XS.sipush X0.here hx rfl (hb hby d2_105)) ?_
            show own_Ends p e below s₁ (mkF m 108 #[.val (.int ld), .val (.int c1), .val (.int c2), .val (.int c3), .val (.int s_), .val (.int en), .val (.int (1 : Int32)), .val (.int (1 : Int32)), .val (.int (1 : Int32)), .unset, .unset] [(.int (128 : Int32)), (.int (c3 &&& (192 : Int32)))]) _
            by_cases hc108 : (c3 &&& (192 : Int32)) = (128 : Int32)
            · refine own_go (fun _ => XS.icmpNo X0.here hx rfl (hb hby d2_108) rfl (teq hc108).2) ?_
              show own_Ends p e below s₁ (mkF m 111 #[.val (.int ld), .val (.int c1), .val (.int c2), .val (.int c3), .val (.int s_), .val (.int en), .val (.int (1 : Int32)), .val (.int (1 : Int32)), .val (.int (1 : Int32)), .unset, .unset] []) _
              refine own_go (fun _ => XS.iconst X0.here hx rfl (hb hby d2_111)) ?_
              refine own_go (fun _ => XS.goto X0.here hx rfl (pc0 := 112) (pc' := 116) rfl (hb hby d2_112) (by decide) (by decide)) ?_
              refine own_go (fun _ => XS.istore X0.here hx rfl (hb hby d2_116) rfl (l' := #[.val (.int ld), .val (.int c1), .val (.int c2), .val (.int c3), .val (.int s_), .val (.int en), .val (.int (1 : Int32)), .val (.int (1 : Int32)), .val (.int (1 : Int32)), .val (.int (1 : Int32)), .unset]) rfl) ?_
              show own_Ends p e below s₁ (mkF m 118 #[.val (.int ld), .val (.int c1), .val (.int c2), .val (.int c3), .val (.int s_), .val (.int en), .val (.int (1 : Int32)), .val (.int (1 : Int32)), .val (.int (1 : Int32)), .val (.int (1 : Int32)), .unset] []) _
              exact J118 _ _
            · refine own_go (fun _ => XS.icmpYes X0.here hx rfl (pc0 := 108) (pc' := 115) rfl (hb hby d2_108) rfl (feq hc108).2 (by decide) (by decide)) ?_
              show own_Ends p e below s₁ (mkF m 115 #[.val (.int ld), .val (.int c1), .val (.int c2), .val (.int c3), .val (.int s_), .val (.int en), .val (.int (1 : Int32)), .val (.int (1 : Int32)), .val (.int (1 : Int32)), .unset, .unset] []) _
              refine own_go (fun _ => XS.iconst X0.here hx rfl (hb hby d2_115)) ?_
              refine own_go (fun _ => XS.istore X0.here hx rfl (hb hby d2_116) rfl (l' := #[.val (.int ld), .val (.int c1), .val (.int c2), .val (.int c3), .val (.int s_), .val (.int en), .val (.int (1 : Int32)), .val (.int (1 : Int32)), .val (.int (1 : Int32)), .val (.int (0 : Int32)), .unset]) rfl) ?_
              show own_Ends p e below s₁ (mkF m 118 #[.val (.int ld), .val (.int c1), .val (.int c2), .val (.int c3), .val (.int s_), .val (.int en), .val (.int (1 : Int32)), .val (.int (1 : Int32)), .val (.int (1 : Int32)), .val (.int (0 : Int32)), .unset] []) _
              exact J118 _ _
          · refine own_go (fun _ => XS.icmpYes X0.here hx rfl (pc0 := 90) (pc' := 97) rfl (hb hby d2_90) rfl (feq hc90).2 (by decide) (by decide)) ?_
            show own_Ends p e below s₁ (mkF m 97 #[.val (.int ld), .val (.int c1), .val (.int c2), .val (.int c3), .val (.int s_), .val (.int en), .val (.int (1 : Int32)), .val (.int (1 : Int32)), .unset, .unset, .unset] []) _
            refine own_go (fun _ => XS.iconst X0.here hx rfl (hb hby d2_97)) ?_
            refine own_go (fun _ => XS.istore X0.here hx rfl (hb hby d2_98) rfl (l' := #[.val (.int ld), .val (.int c1), .val (.int c2), .val (.int c3), .val (.int s_), .val (.int en), .val (.int (1 : Int32)), .val (.int (1 : Int32)), .val (.int (0 : Int32)), .unset, .unset]) rfl) ?_
            show own_Ends p e below s₁ (mkF m 100 #[.val (.int ld), .val (.int c1), .val (.int c2), .val (.int c3), .val (.int s_), .val (.int en), .val (.int (1 : Int32)), .val (.int (1 : Int32)), .val (.int (0 : Int32)), .unset, .unset] []) _
            refine own_go (fun _ => XS.iloadN X0.here hx rfl (hb hby d2_100) rfl) ?_
            refine own_go (fun _ => XS.sipush X0.here hx rfl (hb hby d2_101)) ?_
            refine own_go (fun _ => XS.iand X0.here hx rfl (hb hby d2_104) rfl) ?_
            show own_Ends p e below s₁ (mkF m 105 #[.val (.int ld), .val (.int c1), .val (.int c2), .val (.int c3), .val (.int s_), .val (.int en), .val (.int (1 : Int32)), .val (.int (1 : Int32)), .val (.int (0 : Int32)), .unset, .unset] [(.int (c3 &&& (192 : Int32)))]) _
            refine own_go (fun _ => XS.sipush X0.here hx rfl (hb hby d2_105)) ?_
            show own_Ends p e below s₁ (mkF m 108 #[.val (.int ld), .val (.int c1), .val (.int c2), .val (.int c3), .val (.int s_), .val (.int en), .val (.int (1 : Int32)), .val (.int (1 : Int32)), .val (.int (0 : Int32)), .unset, .unset] [(.int (128 : Int32)), (.int (c3 &&& (192 : Int32)))]) _
            by_cases hc108 : (c3 &&& (192 : Int32)) = (128 : Int32)
            · refine own_go (fun _ => XS.icmpNo X0.here hx rfl (hb hby d2_108) rfl (teq hc108).2) ?_
              show own_Ends p e below s₁ (mkF m 111 #[.val (.int ld), .val (.int c1), .val (.int c2), .val (.int c3), .val (.int s_), .val (.int en), .val (.int (1 : Int32)), .val (.int (1 : Int32)), .val (.int (0 : Int32)), .unset, .unset] []) _
              refine own_go (fun _ => XS.iconst X0.here hx rfl (hb hby d2_111)) ?_
              refine own_go (fun _ => XS.goto X0.here hx rfl (pc0 := 112) (pc' := 116) rfl (hb hby d2_112) (by decide) (by decide)) ?_
              refine own_go (fun _ => XS.istore X0.here hx rfl (hb hby d2_116) rfl (l' := #[.val (.int ld), .val (.int c1), .val (.int c2), .val (.int c3), .val (.int s_), .val (.int en), .val (.int (1 : Int32)), .val (.int (1 : Int32)), .val (.int (0 : Int32)), .val (.int (1 : Int32)), .unset]) rfl) ?_
              show own_Ends p e below s₁ (mkF m 118 #[.val (.int ld), .val (.int c1), .val (.int c2), .val (.int c3), .val (.int s_), .val (.int en), .val (.int (1 : Int32)), .val (.int (1 : Int32)), .val (.int (0 : Int32)), .val (.int (1 : Int32)), .unset] []) _
              exact J118 _ _
            · refine own_go (fun _ => XS.icmpYes X0.here hx rfl (pc0 := 108) (pc' := 115) rfl (hb hby d2_108) rfl (feq hc108).2 (by decide) (by decide)) ?_
              show own_Ends p e below s₁ (mkF m 115 #[.val (.int ld), .val (.int c1), .val (.int c2), .val (.int c3), .val (.int s_), .val (.int en), .val (.int (1 : Int32)), .val (.int (1 : Int32)), .val (.int (0 : Int32)), .unset, .unset] []) _
              refine own_go (fun _ => XS.iconst X0.here hx rfl (hb hby d2_115)) ?_
              refine own_go (fun _ => XS.istore X0.here hx rfl (hb hby d2_116) rfl (l' := #[.val (.int ld), .val (.int c1), .val (.int c2), .val (.int c3), .val (.int s_), .val (.int en), .val (.int (1 : Int32)), .val (.int (1 : Int32)), .val (.int (0 : Int32)), .val (.int (0 : Int32)), .unset]) rfl) ?_
              show own_Ends p e below s₁ (mkF m 118 #[.val (.int ld), .val (.int c1), .val (.int c2), .val (.int c3), .val (.int s_), .val (.int en), .val (.int (1 : Int32)), .val (.int (1 : Int32)), .val (.int (0 : Int32)), .val (.int (0 : Int32)), .unset] []) _
              exact J118 _ _
        · refine own_go (fun _ => XS.icmpYes X0.here hx rfl (pc0 := 72) (pc' := 79) rfl (hb hby d2_72) rfl (feq hc72).2 (by decide) (by decide)) ?_
          show own_Ends p e below s₁ (mkF m 79 #[.val (.int ld), .val (.int c1), .val (.int c2), .val (.int c3), .val (.int s_), .val (.int en), .val (.int (1 : Int32)), .unset, .unset, .unset, .unset] []) _
          refine own_go (fun _ => XS.iconst X0.here hx rfl (hb hby d2_79)) ?_
          refine own_go (fun _ => XS.istore X0.here hx rfl (hb hby d2_80) rfl (l' := #[.val (.int ld), .val (.int c1), .val (.int c2), .val (.int c3), .val (.int s_), .val (.int en), .val (.int (1 : Int32)), .val (.int (0 : Int32)), .unset, .unset, .unset]) rfl) ?_
          show own_Ends p e below s₁ (mkF m 82 #[.val (.int ld), .val (.int c1), .val (.int c2), .val (.int c3), .val (.int s_), .val (.int en), .val (.int (1 : Int32)), .val (.int (0 : Int32)), .unset, .unset, .unset] []) _
          have J118 : ∀ (o2 o3 : Int32), own_Ends p e below s₁ (mkF m 118 #[.val (.int ld), .val (.int c1), .val (.int c2), .val (.int c3), .val (.int s_), .val (.int en), .val (.int (1 : Int32)), .val (.int (0 : Int32)), .val (.int o2), .val (.int o3), .unset] []) (fun ou U' => ∃ v L, ou = .returned v ∧ Q_rmExp Z ld c1 c2 c3 s_ en h0 n0 v U'.heap L ∧ FrameEnd s ou U' L ({ frames := 0, cells := 0, slots := 0, locals := 0 } : Room).cells ({ frames := 0, cells := 0, slots := 0, locals := 0 } : Room).slots) := by
            intro o2 o3
            show own_Ends p e below s₁ (mkF m 118 #[.val (.int ld), .val (.int c1), .val (.int c2), .val (.int c3), .val (.int s_), .val (.int en), .val (.int (1 : Int32)), .val (.int (0 : Int32)), .val (.int o2), .val (.int o3), .unset] []) _
            refine own_go (fun _ => XS.iload X0.here hx rfl (hb hby d2_118) rfl) ?_
            refine own_go (fun _ => XS.iconst X0.here hx rfl (hb hby d2_120)) ?_
            show own_Ends p e below s₁ (mkF m 121 #[.val (.int ld), .val (.int c1), .val (.int c2), .val (.int c3), .val (.int s_), .val (.int en), .val (.int (1 : Int32)), .val (.int (0 : Int32)), .val (.int o2), .val (.int o3), .unset] [(.int (1 : Int32)), (.int (1 : Int32))]) _
            refine own_go (fun _ => XS.icmpNo X0.here hx rfl (hb hby d2_121) rfl (teq (show (1 : Int32) = (1 : Int32) from by decide)).2) ?_
            show own_Ends p e below s₁ (mkF m 124 #[.val (.int ld), .val (.int c1), .val (.int c2), .val (.int c3), .val (.int s_), .val (.int en), .val (.int (1 : Int32)), .val (.int (0 : Int32)), .val (.int o2), .val (.int o3), .unset] []) _
            refine own_go (fun _ => XS.iload X0.here hx rfl (hb hby d2_124) rfl) ?_
            show own_Ends p e below s₁ (mkF m 126 #[.val (.int ld), .val (.int c1), .val (.int c2), .val (.int c3), .val (.int s_), .val (.int en), .val (.int (1 : Int32)), .val (.int (0 : Int32)), .val (.int o2), .val (.int o3), .unset] [(.int (0 : Int32))]) _
            refine own_go (fun _ => XS.ifNo X0.here hx rfl (hb hby d2_126) rfl ((if0 _ _).trans (teq (show (0 : Int32) = (0 : Int32) from by decide)).2)) ?_
            show own_Ends p e below s₁ (mkF m 129 #[.val (.int ld), .val (.int c1), .val (.int c2), .val (.int c3), .val (.int s_), .val (.int en), .val (.int (1 : Int32)), .val (.int (0 : Int32)), .val (.int o2), .val (.int o3), .unset] []) _
            refine own_go (fun _ => XS.iconst X0.here hx rfl (hb hby d2_129)) ?_
            obtain ⟨fs, hr, hrun, hended, hW, hsame⟩ := X0.leave (v := some (.int (-1 : Int32))) (fun h => by rw [Bd.returns] at h; cases h)
            refine ⟨_, _, retI X0 hx Bd.returns (hb hby d2_130) hr, hrun, hended, _, _, rfl, ?_, ⟨_, rfl⟩, hW, hsame.mono (by decide) (by decide)⟩
            show Q_rmExp Z ld c1 c2 c3 s_ en h0 n0 _ s₁.heap _
            rw [e0]
            refine ⟨_, rfl, ?_, N0, rfl⟩
            obtain ⟨z1, z2, z3, z4, z5, z6⟩ := own_s s_ hs
            have t0 := (not_congr (own_ltC (192) (by decide))).mp hc4
            have t1 := (own_ltC (224) (by decide)).mp hc13
            have t2 := (not_congr (own_lt2)).mp hc59
            have t3 := (not_congr (own_top hc1)).mp hc72
            have y0 := own_c2 ld c1
            exact own_A0 (by unfold own_P1; omega) (by unfold own_P2; omega) (by unfold own_P3; omega)
          refine own_go (fun _ => XS.iloadN X0.here hx rfl (hb hby d2_82) rfl) ?_
          refine own_go (fun _ => XS.sipush X0.here hx rfl (hb hby d2_83)) ?_
          refine own_go (fun _ => XS.iand X0.here hx rfl (hb hby d2_86) rfl) ?_
          show own_Ends p e below s₁ (mkF m 87 #[.val (.int ld), .val (.int c1), .val (.int c2), .val (.int c3), .val (.int s_), .val (.int en), .val (.int (1 : Int32)), .val (.int (0 : Int32)), .unset, .unset, .unset] [(.int (c2 &&& (192 : Int32)))]) _
          refine own_go (fun _ => XS.sipush X0.here hx rfl (hb hby d2_87)) ?_
          show own_Ends p e below s₁ (mkF m 90 #[.val (.int ld), .val (.int c1), .val (.int c2), .val (.int c3), .val (.int s_), .val (.int en), .val (.int (1 : Int32)), .val (.int (0 : Int32)), .unset, .unset, .unset] [(.int (128 : Int32)), (.int (c2 &&& (192 : Int32)))]) _
          by_cases hc90 : (c2 &&& (192 : Int32)) = (128 : Int32)
          · refine own_go (fun _ => XS.icmpNo X0.here hx rfl (hb hby d2_90) rfl (teq hc90).2) ?_
            show own_Ends p e below s₁ (mkF m 93 #[.val (.int ld), .val (.int c1), .val (.int c2), .val (.int c3), .val (.int s_), .val (.int en), .val (.int (1 : Int32)), .val (.int (0 : Int32)), .unset, .unset, .unset] []) _
            refine own_go (fun _ => XS.iconst X0.here hx rfl (hb hby d2_93)) ?_
            refine own_go (fun _ => XS.goto X0.here hx rfl (pc0 := 94) (pc' := 98) rfl (hb hby d2_94) (by decide) (by decide)) ?_
            refine own_go (fun _ => XS.istore X0.here hx rfl (hb hby d2_98) rfl (l' := #[.val (.int ld), .val (.int c1), .val (.int c2), .val (.int c3), .val (.int s_), .val (.int en), .val (.int (1 : Int32)), .val (.int (0 : Int32)), .val (.int (1 : Int32)), .unset, .unset]) rfl) ?_
            show own_Ends p e below s₁ (mkF m 100 #[.val (.int ld), .val (.int c1), .val (.int c2), .val (.int c3), .val (.int s_), .val (.int en), .val (.int (1 : Int32)), .val (.int (0 : Int32)), .val (.int (1 : Int32)), .unset, .unset] []) _
            refine own_go (fun _ => XS.iloadN X0.here hx rfl (hb hby d2_100) rfl) ?_
            refine own_go (fun _ => XS.sipush X0.here hx rfl (hb hby d2_101)) ?_
            refine own_go (fun _ => XS.iand X0.here hx rfl (hb hby d2_104) rfl) ?_
            show own_Ends p e below s₁ (mkF m 105 #[.val (.int ld), .val (.int c1), .val (.int c2), .val (.int c3), .val (.int s_), .val (.int en), .val (.int (1 : Int32)), .val (.int (0 : Int32)), .val (.int (1 : Int32)), .unset, .unset] [(.int (c3 &&& (192 : Int32)))]) _
            refine own_go (fun _ => XS.sipush X0.here hx rfl (hb hby d2_105)) ?_
            show own_Ends p e below s₁ (mkF m 108 #[.val (.int ld), .val (.int c1), .val (.int c2), .val (.int c3), .val (.int s_), .val (.int en), .val (.int (1 : Int32)), .val (.int (0 : Int32)), .val (.int (1 : Int32)), .unset, .unset] [(.int (128 : Int32)), (.int (c3 &&& (192 : Int32)))]) _
            by_cases hc108 : (c3 &&& (192 : Int32)) = (128 : Int32)
            · refine own_go (fun _ => XS.icmpNo X0.here hx rfl (hb hby d2_108) rfl (teq hc108).2) ?_
              show own_Ends p e below s₁ (mkF m 111 #[.val (.int ld), .val (.int c1), .val (.int c2), .val (.int c3), .val (.int s_), .val (.int en), .val (.int (1 : Int32)), .val (.int (0 : Int32)), .val (.int (1 : Int32)), .unset, .unset] []) _
              refine own_go (fun _ => XS.iconst X0.here hx rfl (hb hby d2_111)) ?_
              refine own_go (fun _ => XS.goto X0.here hx rfl (pc0 := 112) (pc' := 116) rfl (hb hby d2_112) (by decide) (by decide)) ?_
              refine own_go (fun _ => XS.istore X0.here hx rfl (hb hby d2_116) rfl (l' := #[.val (.int ld), .val (.int c1), .val (.int c2), .val (.int c3), .val (.int s_), .val (.int en), .val (.int (1 : Int32)), .val (.int (0 : Int32)), .val (.int (1 : Int32)), .val (.int (1 : Int32)), .unset]) rfl) ?_
              show own_Ends p e below s₁ (mkF m 118 #[.val (.int ld), .val (.int c1), .val (.int c2), .val (.int c3), .val (.int s_), .val (.int en), .val (.int (1 : Int32)), .val (.int (0 : Int32)), .val (.int (1 : Int32)), .val (.int (1 : Int32)), .unset] []) _
              exact J118 _ _
            · refine own_go (fun _ => XS.icmpYes X0.here hx rfl (pc0 := 108) (pc' := 115) rfl (hb hby d2_108) rfl (feq hc108).2 (by decide) (by decide)) ?_
              show own_Ends p e below s₁ (mkF m 115 #[.val (.int ld), .val (.int c1), .val (.int c2), .val (.int c3), .val (.int s_), .val (.int en), .val (.int (1 : Int32)), .val (.int (0 : Int32)), .val (.int (1 : Int32)), .unset, .unset] []) _
              refine own_go (fun _ => XS.iconst X0.here hx rfl (hb hby d2_115)) ?_
              refine own_go (fun _ => XS.istore X0.here hx rfl (hb hby d2_116) rfl (l' := #[.val (.int ld), .val (.int c1), .val (.int c2), .val (.int c3), .val (.int s_), .val (.int en), .val (.int (1 : Int32)), .val (.int (0 : Int32)), .val (.int (1 : Int32)), .val (.int (0 : Int32)), .unset]) rfl) ?_
              show own_Ends p e below s₁ (mkF m 118 #[.val (.int ld), .val (.int c1), .val (.int c2), .val (.int c3), .val (.int s_), .val (.int en), .val (.int (1 : Int32)), .val (.int (0 : Int32)), .val (.int (1 : Int32)), .val (.int (0 : Int32)), .unset] []) _
              exact J118 _ _
          · refine own_go (fun _ => XS.icmpYes X0.here hx rfl (pc0 := 90) (pc' := 97) rfl (hb hby d2_90) rfl (feq hc90).2 (by decide) (by decide)) ?_
            show own_Ends p e below s₁ (mkF m 97 #[.val (.int ld), .val (.int c1), .val (.int c2), .val (.int c3), .val (.int s_), .val (.int en), .val (.int (1 : Int32)), .val (.int (0 : Int32)), .unset, .unset, .unset] []) _
            refine own_go (fun _ => XS.iconst X0.here hx rfl (hb hby d2_97)) ?_
            refine own_go (fun _ => XS.istore X0.here hx rfl (hb hby d2_98) rfl (l' := #[.val (.int ld), .val (.int c1), .val (.int c2), .val (.int c3), .val (.int s_), .val (.int en), .val (.int (1 : Int32)), .val (.int (0 : Int32)), .val (.int (0 : Int32)), .unset, .unset]) rfl) ?_
            show own_Ends p e below s₁ (mkF m 100 #[.val (.int ld), .val (.int c1), .val (.int c2), .val (.int c3), .val (.int s_), .val (.int en), .val (.int (1 : Int32)), .val (.int (0 : Int32)), .val (.int (0 : Int32)), .unset, .unset] []) _
            refine own_go (fun _ => XS.iloadN X0.here hx rfl (hb hby d2_100) rfl) ?_
            refine own_go (fun _ => XS.sipush X0.here hx rfl (hb hby d2_101)) ?_
            refine own_go (fun _ => XS.iand X0.here hx rfl (hb hby d2_104) rfl) ?_
            show own_Ends p e below s₁ (mkF m 105 #[.val (.int ld), .val (.int c1), .val (.int c2), .val (.int c3), .val (.int s_), .val (.int en), .val (.int (1 : Int32)), .val (.int (0 : Int32)), .val (.int (0 : Int32)), .unset, .unset] [(.int (c3 &&& (192 : Int32)))]) _
            refine own_go (fun _ => XS.sipush X0.here hx rfl (hb hby d2_105)) ?_
            show own_Ends p e below s₁ (mkF m 108 #[.val (.int ld), .val (.int c1), .val (.int c2), .val (.int c3), .val (.int s_), .val (.int en), .val (.int (1 : Int32)), .val (.int (0 : Int32)), .val (.int (0 : Int32)), .unset, .unset] [(.int (128 : Int32)), (.int (c3 &&& (192 : Int32)))]) _
            by_cases hc108 : (c3 &&& (192 : Int32)) = (128 : Int32)
            · refine own_go (fun _ => XS.icmpNo X0.here hx rfl (hb hby d2_108) rfl (teq hc108).2) ?_
              show own_Ends p e below s₁ (mkF m 111 #[.val (.int ld), .val (.int c1), .val (.int c2), .val (.int c3), .val (.int s_), .val (.int en), .val (.int (1 : Int32)), .val (.int (0 : Int32)), .val (.int (0 : Int32)), .unset, .unset] []) _
              refine own_go (fun _ => XS.iconst X0.here hx rfl (hb hby d2_111)) ?_
              refine own_go (fun _ => XS.goto X0.here hx rfl (pc0 := 112) (pc' := 116) rfl (hb hby d2_112) (by decide) (by decide)) ?_
              refine own_go (fun _ => XS.istore X0.here hx rfl (hb hby d2_116) rfl (l' := #[.val (.int ld), .val (.int c1), .val (.int c2), .val (.int c3), .val (.int s_), .val (.int en), .val (.int (1 : Int32)), .val (.int (0 : Int32)), .val (.int (0 : Int32)), .val (.int (1 : Int32)), .unset]) rfl) ?_
              show own_Ends p e below s₁ (mkF m 118 #[.val (.int ld), .val (.int c1), .val (.int c2), .val (.int c3), .val (.int s_), .val (.int en), .val (.int (1 : Int32)), .val (.int (0 : Int32)), .val (.int (0 : Int32)), .val (.int (1 : Int32)), .unset] []) _
              exact J118 _ _
            · refine own_go (fun _ => XS.icmpYes X0.here hx rfl (pc0 := 108) (pc' := 115) rfl (hb hby d2_108) rfl (feq hc108).2 (by decide) (by decide)) ?_
              show own_Ends p e below s₁ (mkF m 115 #[.val (.int ld), .val (.int c1), .val (.int c2), .val (.int c3), .val (.int s_), .val (.int en), .val (.int (1 : Int32)), .val (.int (0 : Int32)), .val (.int (0 : Int32)), .unset, .unset] []) _
              refine own_go (fun _ => XS.iconst X0.here hx rfl (hb hby d2_115)) ?_
              refine own_go (fun _ => XS.istore X0.here hx rfl (hb hby d2_116) rfl (l' := #[.val (.int ld), .val (.int c1), .val (.int c2), .val (.int c3), .val (.int s_), .val (.int en), .val (.int (1 : Int32)), .val (.int (0 : Int32)), .val (.int (0 : Int32)), .val (.int (0 : Int32)), .unset]) rfl) ?_
              show own_Ends p e below s₁ (mkF m 118 #[.val (.int ld), .val (.int c1), .val (.int c2), .val (.int c3), .val (.int s_), .val (.int en), .val (.int (1 : Int32)), .val (.int (0 : Int32)), .val (.int (0 : Int32)), .val (.int (0 : Int32)), .unset] []) _
              exact J118 _ _
    · refine own_go (fun _ => XS.icmpYes X0.here hx rfl (pc0 := 13) (pc' := 22) rfl (hb hby d2_13) rfl (flt hc13).2.1 (by decide) (by decide)) ?_
      show own_Ends p e below s₁ (mkF m 22 #[.val (.int ld), .val (.int c1), .val (.int c2), .val (.int c3), .val (.int s_), .val (.int en), .unset, .unset, .unset, .unset, .unset] []) _
      refine own_go (fun _ => XS.iloadN X0.here hx rfl (hb hby d2_22) rfl) ?_
      refine own_go (fun _ => XS.sipush X0.here hx rfl (hb hby d2_23)) ?_
      show own_Ends p e below s₁ (mkF m 26 #[.val (.int ld), .val (.int c1), .val (.int c2), .val (.int c3), .val (.int s_), .val (.int en), .unset, .unset, .unset, .unset, .unset] [(.int (240 : Int32)), (.int ld)]) _
      by_cases hc26 : ld < (240 : Int32)
      · refine own_go (fun _ => XS.icmpNo X0.here hx rfl (hb hby d2_26) rfl (tlt hc26).2.1) ?_
        show own_Ends p e below s₁ (mkF m 29 #[.val (.int ld), .val (.int c1), .val (.int c2), .val (.int c3), .val (.int s_), .val (.int en), .unset, .unset, .unset, .unset, .unset] []) _
        refine own_go (fun _ => XS.iconst X0.here hx rfl (hb hby d2_29)) ?_
        refine own_go (fun _ => XS.istore X0.here hx rfl (hb hby d2_30) rfl (l' := #[.val (.int ld), .val (.int c1), .val (.int c2), .val (.int c3), .val (.int s_), .val (.int en), .val (.int (2 : Int32)), .unset, .unset, .unset, .unset]) rfl) ?_
        show own_Ends p e below s₁ (mkF m 32 #[.val (.int ld), .val (.int c1), .val (.int c2), .val (.int c3), .val (.int s_), .val (.int en), .val (.int (2 : Int32)), .unset, .unset, .unset, .unset] []) _
        refine own_go (fun _ => XS.goto X0.here hx rfl (pc0 := 32) (pc' := 50) rfl (hb hby d2_32) (by decide) (by decide)) ?_
        refine own_go (fun _ => XS.iload X0.here hx rfl (hb hby d2_50) rfl) ?_
        refine own_go (fun _ => XS.iload X0.here hx rfl (hb hby d2_52) rfl) ?_
        refine own_go (fun _ => XS.iadd X0.here hx rfl (hb hby d2_54) rfl) ?_
        show own_Ends p e below s₁ (mkF m 55 #[.val (.int ld), .val (.int c1), .val (.int c2), .val (.int c3), .val (.int s_), .val (.int en), .val (.int (2 : Int32)), .unset, .unset, .unset, .unset] [(.int (s_ + (2 : Int32)))]) _
        refine own_go (fun _ => XS.iconst X0.here hx rfl (hb hby d2_55)) ?_
        refine own_go (fun _ => XS.iadd X0.here hx rfl (hb hby d2_56) rfl) ?_
        show own_Ends p e below s₁ (mkF m 57 #[.val (.int ld), .val (.int c1), .val (.int c2), .val (.int c3), .val (.int s_), .val (.int en), .val (.int (2 : Int32)), .unset, .unset, .unset, .unset] [(.int ((s_ + (2 : Int32)) + (1 : Int32)))]) _
        refine own_go (fun _ => XS.iload X0.here hx rfl (hb hby d2_57) rfl) ?_
        show own_Ends p e below s₁ (mkF m 59 #[.val (.int ld), .val (.int c1), .val (.int c2), .val (.int c3), .val (.int s_), .val (.int en), .val (.int (2 : Int32)), .unset, .unset, .unset, .unset] [(.int en), (.int ((s_ + (2 : Int32)) + (1 : Int32)))]) _
        by_cases hc59 : en < ((s_ + (2 : Int32)) + (1 : Int32))
        · refine own_go (fun _ => XS.icmpNo X0.here hx rfl (hb hby d2_59) rfl (tlt hc59).2.2.2) ?_
          show own_Ends p e below s₁ (mkF m 62 #[.val (.int ld), .val (.int c1), .val (.int c2), .val (.int c3), .val (.int s_), .val (.int en), .val (.int (2 : Int32)), .unset, .unset, .unset, .unset] []) _
          refine own_go (fun _ => XS.iconst X0.here hx rfl (hb hby d2_62)) ?_
          obtain ⟨fs, hr, hrun, hended, hW, hsame⟩ := X0.leave (v := some (.int (-1 : Int32))) (fun h => by rw [Bd.returns] at h; cases h)
          refine ⟨_, _, retI X0 hx Bd.returns (hb hby d2_63) hr, hrun, hended, _, _, rfl, ?_, ⟨_, rfl⟩, hW, hsame.mono (by decide) (by decide)⟩
          show Q_rmExp Z ld c1 c2 c3 s_ en h0 n0 _ s₁.heap _
          rw [e0]
          refine ⟨_, rfl, ?_, N0, rfl⟩
          obtain ⟨z1, z2, z3, z4, z5, z6⟩ := own_s s_ hs
          have t0 := (not_congr (own_ltC (192) (by decide))).mp hc4
          have t1 := (not_congr (own_ltC (224) (by decide))).mp hc13
          have t2 := (own_ltC (240) (by decide)).mp hc26
          have t3 := (own_lt2).mp hc59
          have y0 := own_c3 ld c1 c2
          exact own_A0 (by unfold own_P1; omega) (by unfold own_P2; omega) (by unfold own_P3; omega)
        · refine own_go (fun _ => XS.icmpYes X0.here hx rfl (pc0 := 59) (pc' := 64) rfl (hb hby d2_59) rfl (flt hc59).2.2.2 (by decide) (by decide)) ?_
          show own_Ends p e below s₁ (mkF m 64 #[.val (.int ld), .val (.int c1), .val (.int c2), .val (.int c3), .val (.int s_), .val (.int en), .val (.int (2 : Int32)), .unset, .unset, .unset, .unset] []) _
          refine own_go (fun _ => XS.iloadN X0.here hx rfl (hb hby d2_64) rfl) ?_
          refine own_go (fun _ => XS.sipush X0.here hx rfl (hb hby d2_65)) ?_
          refine own_go (fun _ => XS.iand X0.here hx rfl (hb hby d2_68) rfl) ?_
          show own_Ends p e below s₁ (mkF m 69 #[.val (.int ld), .val (.int c1), .val (.int c2), .val (.int c3), .val (.int s_), .val (.int en), .val (.int (2 : Int32)), .unset, .unset, .unset, .unset] [(.int (c1 &&& (192 : Int32)))]) _
          refine own_go (fun _ => XS.sipush X0.here hx rfl (hb hby d2_69)) ?_
          show own_Ends p e below s₁ (mkF m 72 #[.val (.int ld), .val (.int c1), .val (.int c2), .val (.int c3), .val (.int s_), .val (.int en), .val (.int (2 : Int32)), .unset, .unset, .unset, .unset] [(.int (128 : Int32)), (.int (c1 &&& (192 : Int32)))]) _
          by_cases hc72 : (c1 &&& (192 : Int32)) = (128 : Int32)
          · refine own_go (fun _ => XS.icmpNo X0.here hx rfl (hb hby d2_72) rfl (teq hc72).2) ?_
            show own_Ends p e below s₁ (mkF m 75 #[.val (.int ld), .val (.int c1), .val (.int c2), .val (.int c3), .val (.int s_), .val (.int en), .val (.int (2 : Int32)), .unset, .unset, .unset, .unset] []) _
            refine own_go (fun _ => XS.iconst X0.here hx rfl (hb hby d2_75)) ?_
            refine own_go (fun _ => XS.goto X0.here hx rfl (pc0 := 76) (pc' := 80) rfl (hb hby d2_76) (by decide) (by decide)) ?_
            refine own_go (fun _ => XS.istore X0.here hx rfl (hb hby d2_80) rfl (l' := #[.val (.int ld), .val (.int c1), .val (.int c2), .val (.int c3), .val (.int s_), .val (.int en), .val (.int (2 : Int32)), .val (.int (1 : Int32)), .unset, .unset, .unset]) rfl) ?_
            show own_Ends p e below s₁ (mkF m 82 #[.val (.int ld), .val (.int c1), .val (.int c2), .val (.int c3), .val (.int s_), .val (.int en), .val (.int (2 : Int32)), .val (.int (1 : Int32)), .unset, .unset, .unset] []) _
            refine own_go (fun _ => XS.iloadN X0.here hx rfl (hb hby d2_82) rfl) ?_
            refine own_go (fun _ => XS.sipush X0.here hx rfl (hb hby d2_83)) ?_
            refine own_go (fun _ => XS.iand X0.here hx rfl (hb hby d2_86) rfl) ?_
            show own_Ends p e below s₁ (mkF m 87 #[.val (.int ld), .val (.int c1), .val (.int c2), .val (.int c3), .val (.int s_), .val (.int en), .val (.int (2 : Int32)), .val (.int (1 : Int32)), .unset, .unset, .unset] [(.int (c2 &&& (192 : Int32)))]) _
            refine own_go (fun _ => XS.sipush X0.here hx rfl (hb hby d2_87)) ?_
            show own_Ends p e below s₁ (mkF m 90 #[.val (.int ld), .val (.int c1), .val (.int c2), .val (.int c3), .val (.int s_), .val (.int en), .val (.int (2 : Int32)), .val (.int (1 : Int32)), .unset, .unset, .unset] [(.int (128 : Int32)), (.int (c2 &&& (192 : Int32)))]) _
            by_cases hc90 : (c2 &&& (192 : Int32)) = (128 : Int32)
            · refine own_go (fun _ => XS.icmpNo X0.here hx rfl (hb hby d2_90) rfl (teq hc90).2) ?_
              show own_Ends p e below s₁ (mkF m 93 #[.val (.int ld), .val (.int c1), .val (.int c2), .val (.int c3), .val (.int s_), .val (.int en), .val (.int (2 : Int32)), .val (.int (1 : Int32)), .unset, .unset, .unset] []) _
              refine own_go (fun _ => XS.iconst X0.here hx rfl (hb hby d2_93)) ?_
              refine own_go (fun _ => XS.goto X0.here hx rfl (pc0 := 94) (pc' := 98) rfl (hb hby d2_94) (by decide) (by decide)) ?_
              refine own_go (fun _ => XS.istore X0.here hx rfl (hb hby d2_98) rfl (l' := #[.val (.int ld), .val (.int c1), .val (.int c2), .val (.int c3), .val (.int s_), .val (.int en), .val (.int (2 : Int32)), .val (.int (1 : Int32)), .val (.int (1 : Int32)), .unset, .unset]) rfl) ?_
              show own_Ends p e below s₁ (mkF m 100 #[.val (.int ld), .val (.int c1), .val (.int c2), .val (.int c3), .val (.int s_), .val (.int en), .val (.int (2 : Int32)), .val (.int (1 : Int32)), .val (.int (1 : Int32)), .unset, .unset] []) _
              have J118 : ∀ (o3 : Int32), own_Ends p e below s₁ (mkF m 118 #[.val (.int ld), .val (.int c1), .val (.int c2), .val (.int c3), .val (.int s_), .val (.int en), .val (.int (2 : Int32)), .val (.int (1 : Int32)), .val (.int (1 : Int32)), .val (.int o3), .unset] []) (fun ou U' => ∃ v L, ou = .returned v ∧ Q_rmExp Z ld c1 c2 c3 s_ en h0 n0 v U'.heap L ∧ FrameEnd s ou U' L ({ frames := 0, cells := 0, slots := 0, locals := 0 } : Room).cells ({ frames := 0, cells := 0, slots := 0, locals := 0 } : Room).slots) := by
                intro o3
                show own_Ends p e below s₁ (mkF m 118 #[.val (.int ld), .val (.int c1), .val (.int c2), .val (.int c3), .val (.int s_), .val (.int en), .val (.int (2 : Int32)), .val (.int (1 : Int32)), .val (.int (1 : Int32)), .val (.int o3), .unset] []) _
                refine own_go (fun _ => XS.iload X0.here hx rfl (hb hby d2_118) rfl) ?_
                refine own_go (fun _ => XS.iconst X0.here hx rfl (hb hby d2_120)) ?_
                show own_Ends p e below s₁ (mkF m 121 #[.val (.int ld), .val (.int c1), .val (.int c2), .val (.int c3), .val (.int s_), .val (.int en), .val (.int (2 : Int32)), .val (.int (1 : Int32)), .val (.int (1 : Int32)), .val (.int o3), .unset] [(.int (1 : Int32)), (.int (2 : Int32))]) _
                refine own_go (fun _ => XS.icmpYes X0.here hx rfl (pc0 := 121) (pc' := 162) rfl (hb hby d2_121) rfl (feq (show ¬ ((2 : Int32) = (1 : Int32)) from by decide)).2 (by decide) (by decide)) ?_
                show own_Ends p e below s₁ (mkF m 162 #[.val (.int ld), .val (.int c1), .val (.int c2), .val (.int c3), .val (.int s_), .val (.int en), .val (.int (2 : Int32)), .val (.int (1 : Int32)), .val (.int (1 : Int32)), .val (.int o3), .unset] []) _
                refine own_go (fun _ => XS.iload X0.here hx rfl (hb hby d2_162) rfl) ?_
                refine own_go (fun _ => XS.iconst X0.here hx rfl (hb hby d2_164)) ?_
                show own_Ends p e below s₁ (mkF m 165 #[.val (.int ld), .val (.int c1), .val (.int c2), .val (.int c3), .val (.int s_), .val (.int en), .val (.int (2 : Int32)), .val (.int (1 : Int32)), .val (.int (1 : Int32)), .val (.int o3), .unset] [(.int (2 : Int32)), (.int (2 : Int32))]) _
                refine own_go (fun _ => XS.icmpNo X0.here hx rfl (hb hby d2_165) rfl (teq (show (2 : Int32) = (2 : Int32) from by decide)).2) ?_
                show own_Ends p e below s₁ (mkF m 168 #[.val (.int ld), .val (.int c1), .val (.int c2), .val (.int c3), .val (.int s_), .val (.int en), .val (.int (2 : Int32)), .val (.int (1 : Int32)), .val (.int (1 : Int32)), .val (.int o3), .unset] []) _
                refine own_go (fun _ => XS.iload X0.here hx rfl (hb hby d2_168) rfl) ?_
                show own_Ends p e below s₁ (mkF m 170 #[.val (.int ld), .val (.int c1), .val (.int c2), .val (.int c3), .val (.int s_), .val (.int en), .val (.int (2 : Int32)), .val (.int (1 : Int32)), .val (.int (1 : Int32)), .val (.int o3), .unset] [(.int (1 : Int32))]) _
                refine own_go (fun _ => XS.ifNo X0.here hx rfl (hb hby d2_170) rfl ((if0 _ _).trans (feq (show ¬ ((1 : Int32) = (0 : Int32)) from by decide)).1)) ?_
                show own_Ends p e below s₁ (mkF m 173 #[.val (.int ld), .val (.int c1), .val (.int c2), .val (.int c3), .val (.int s_), .val (.int en), .val (.int (2 : Int32)), .val (.int (1 : Int32)), .val (.int (1 : Int32)), .val (.int o3), .unset] []) _
                refine own_go (fun _ => XS.iload X0.here hx rfl (hb hby d2_173) rfl) ?_
                show own_Ends p e below s₁ (mkF m 175 #[.val (.int ld), .val (.int c1), .val (.int c2), .val (.int c3), .val (.int s_), .val (.int en), .val (.int (2 : Int32)), .val (.int (1 : Int32)), .val (.int (1 : Int32)), .val (.int o3), .unset] [(.int (1 : Int32))]) _
                refine own_go (fun _ => XS.ifYes X0.here hx rfl (pc0 := 175) (pc' := 180) rfl (hb hby d2_175) rfl ((if0 _ _).trans (feq (show ¬ ((1 : Int32) = (0 : Int32)) from by decide)).2) (by decide) (by decide)) ?_
                show own_Ends p e below s₁ (mkF m 180 #[.val (.int ld), .val (.int c1), .val (.int c2), .val (.int c3), .val (.int s_), .val (.int en), .val (.int (2 : Int32)), .val (.int (1 : Int32)), .val (.int (1 : Int32)), .val (.int o3), .unset] []) _
                refine own_go (fun _ => XS.iloadN X0.here hx rfl (hb hby d2_180) rfl) ?_
                refine own_go (fun _ => XS.bipush X0.here hx rfl (hb hby d2_181)) ?_
                refine own_go (fun _ => XS.iand X0.here hx rfl (hb hby d2_183) rfl) ?_
                show own_Ends p e below s₁ (mkF m 184 #[.val (.int ld), .val (.int c1), .val (.int c2), .val (.int c3), .val (.int s_), .val (.int en), .val (.int (2 : Int32)), .val (.int (1 : Int32)), .val (.int (1 : Int32)), .val (.int o3), .unset] [(.int (ld &&& (15 : Int32)))]) _
                refine own_go (fun _ => XS.bipush X0.here hx rfl (hb hby d2_184)) ?_
                refine own_go (fun _ => XS.ishl X0.here hx rfl (hb hby d2_186) rfl) ?_
                show own_Ends p e below s₁ (mkF m 187 #[.val (.int ld), .val (.int c1), .val (.int c2), .val (.int c3), .val (.int s_), .val (.int en), .val (.int (2 : Int32)), .val (.int (1 : Int32)), .val (.int (1 : Int32)), .val (.int o3), .unset] [(.int ((ld &&& (15 : Int32)) <<< ((12 : Int32) &&& 31)))]) _
                refine own_go (fun _ => XS.iloadN X0.here hx rfl (hb hby d2_187) rfl) ?_
                refine own_go (fun _ => XS.bipush X0.here hx rfl (hb hby d2_188)) ?_
                refine own_go (fun _ => XS.iand X0.here hx rfl (hb hby d2_190) rfl) ?_
                show own_Ends p e below s₁ (mkF m 191 #[.val (.int ld), .val (.int c1), .val (.int c2), .val (.int c3), .val (.int s_), .val (.int en), .val (.int (2 : Int32)), .val (.int (1 : Int32)), .val (.int (1 : Int32)), .val (.int o3), .unset] [(.int (c1 &&& (63 : Int32))), (.int ((ld &&& (15 : Int32)) <<< ((12 : Int32) &&& 31)))]) _
                refine own_go (fun _ => XS.bipush X0.here hx rfl (hb hby d2_191)) ?_
                refine own_go (fun _ => XS.ishl X0.here hx rfl (hb hby d2_193) rfl) ?_
                show own_Ends p e below s₁ (mkF m 194 #[.val (.int ld), .val (.int c1), .val (.int c2), .val (.int c3), .val (.int s_), .val (.int en), .val (.int (2 : Int32)), .val (.int (1 : Int32)), .val (.int (1 : Int32)), .val (.int o3), .unset] [(.int ((c1 &&& (63 : Int32)) <<< ((6 : Int32) &&& 31))), (.int ((ld &&& (15 : Int32)) <<< ((12 : Int32) &&& 31)))]) _
                refine own_go (fun _ => XS.ior X0.here hx rfl (hb hby d2_194) rfl) ?_
                show own_Ends p e below s₁ (mkF m 195 #[.val (.int ld), .val (.int c1), .val (.int c2), .val (.int c3), .val (.int s_), .val (.int en), .val (.int (2 : Int32)), .val (.int (1 : Int32)), .val (.int (1 : Int32)), .val (.int o3), .unset] [(.int (((ld &&& (15 : Int32)) <<< ((12 : Int32) &&& 31)) ||| ((c1 &&& (63 : Int32)) <<< ((6 : Int32) &&& 31))))]) _
                refine own_go (fun _ => XS.iloadN X0.here hx rfl (hb hby d2_195) rfl) ?_
                refine own_go (fun _ => XS.bipush X0.here hx rfl (hb hby d2_196)) ?_
                refine own_go (fun _ => XS.iand X0.here hx rfl (hb hby d2_198) rfl) ?_
                show own_Ends p e below s₁ (mkF m 199 #[.val (.int ld), .val (.int c1), .val (.int c2), .val (.int c3), .val (.int s_), .val (.int en), .val (.int (2 : Int32)), .val (.int (1 : Int32)), .val (.int (1 : Int32)), .val (.int o3), .unset] [(.int (c2 &&& (63 : Int32))), (.int (((ld &&& (15 : Int32)) <<< ((12 : Int32) &&& 31)) ||| ((c1 &&& (63 : Int32)) <<< ((6 : Int32) &&& 31))))]) _
                refine own_go (fun _ => XS.ior X0.here hx rfl (hb hby d2_199) rfl) ?_
                show own_Ends p e below s₁ (mkF m 200 #[.val (.int ld), .val (.int c1), .val (.int c2), .val (.int c3), .val (.int s_), .val (.int en), .val (.int (2 : Int32)), .val (.int (1 : Int32)), .val (.int (1 : Int32)), .val (.int o3), .unset] [(.int ((((ld &&& (15 : Int32)) <<< ((12 : Int32) &&& 31)) ||| ((c1 &&& (63 : Int32)) <<< ((6 : Int32) &&& 31))) ||| (c2 &&& (63 : Int32))))]) _
                refine own_go (fun _ => XS.istore X0.here hx rfl (hb hby d2_200) rfl (l' := #[.val (.int ld), .val (.int c1), .val (.int c2), .val (.int c3), .val (.int s_), .val (.int en), .val (.int (2 : Int32)), .val (.int (1 : Int32)), .val (.int (1 : Int32)), .val (.int o3), .val (.int ((((ld &&& (15 : Int32)) <<< ((12 : Int32) &&& 31)) ||| ((c1 &&& (63 : Int32)) <<< ((6 : Int32) &&& 31))) ||| (c2 &&& (63 : Int32))))]) rfl) ?_
                show own_Ends p e below s₁ (mkF m 202 #[.val (.int ld), .val (.int c1), .val (.int c2), .val (.int c3), .val (.int s_), .val (.int en), .val (.int (2 : Int32)), .val (.int (1 : Int32)), .val (.int (1 : Int32)), .val (.int o3), .val (.int ((((ld &&& (15 : Int32)) <<< ((12 : Int32) &&& 31)) ||| ((c1 &&& (63 : Int32)) <<< ((6 : Int32) &&& 31))) ||| (c2 &&& (63 : Int32))))] []) _
                refine own_go (fun _ => XS.iload X0.here hx rfl (hb hby d2_202) rfl) ?_
                refine own_go (fun _ => XS.sipush X0.here hx rfl (hb hby d2_204)) ?_
                show own_Ends p e below s₁ (mkF m 207 #[.val (.int ld), .val (.int c1), .val (.int c2), .val (.int c3), .val (.int s_), .val (.int en), .val (.int (2 : Int32)), .val (.int (1 : Int32)), .val (.int (1 : Int32)), .val (.int o3), .val (.int ((((ld &&& (15 : Int32)) <<< ((12 : Int32) &&& 31)) ||| ((c1 &&& (63 : Int32)) <<< ((6 : Int32) &&& 31))) ||| (c2 &&& (63 : Int32))))] [(.int (2048 : Int32)), (.int ((((ld &&& (15 : Int32)) <<< ((12 : Int32) &&& 31)) ||| ((c1 &&& (63 : Int32)) <<< ((6 : Int32) &&& 31))) ||| (c2 &&& (63 : Int32))))]) _
                by_cases hc207 : ((((ld &&& (15 : Int32)) <<< ((12 : Int32) &&& 31)) ||| ((c1 &&& (63 : Int32)) <<< ((6 : Int32) &&& 31))) ||| (c2 &&& (63 : Int32))) < (2048 : Int32)
                · refine own_go (fun _ => XS.icmpYes X0.here hx rfl (pc0 := 207) (pc' := 231) rfl (hb hby d2_207) rfl (tlt hc207).1 (by decide) (by decide)) ?_
                  show own_Ends p e below s₁ (mkF m 231 #[.val (.int ld), .val (.int c1), .val (.int c2), .val (.int c3), .val (.int s_), .val (.int en), .val (.int (2 : Int32)), .val (.int (1 : Int32)), .val (.int (1 : Int32)), .val (.int o3), .val (.int ((((ld &&& (15 : Int32)) <<< ((12 : Int32) &&& 31)) ||| ((c1 &&& (63 : Int32)) <<< ((6 : Int32) &&& 31))) ||| (c2 &&& (63 : Int32))))] []) _
                  refine own_go (fun _ => XS.iconst X0.here hx rfl (hb hby d2_231)) ?_
                  obtain ⟨fs, hr, hrun, hended, hW, hsame⟩ := X0.leave (v := some (.int (-1 : Int32))) (fun h => by rw [Bd.returns] at h; cases h)
                  refine ⟨_, _, retI X0 hx Bd.returns (hb hby d2_232) hr, hrun, hended, _, _, rfl, ?_, ⟨_, rfl⟩, hW, hsame.mono (by decide) (by decide)⟩
                  show Q_rmExp Z ld c1 c2 c3 s_ en h0 n0 _ s₁.heap _
                  rw [e0]
                  refine ⟨_, rfl, ?_, N0, rfl⟩
                  obtain ⟨z1, z2, z3, z4, z5, z6⟩ := own_s s_ hs
                  have t0 := (not_congr (own_ltC (192) (by decide))).mp hc4
                  have t1 := (not_congr (own_ltC (224) (by decide))).mp hc13
                  have t2 := (own_ltC (240) (by decide)).mp hc26
                  have t3 := (not_congr (own_lt2)).mp hc59
                  have t4 := (own_top hc1).mp hc72
                  have t5 := (own_top hc2).mp hc90
                  have t6 := (own_ltC (2048) (by decide)).mp hc207
                  have y0 := own_c3 ld c1 c2
                  exact own_A0 (by unfold own_P1; omega) (by unfold own_P2; omega) (by unfold own_P3; omega)
                · refine own_go (fun _ => XS.icmpNo X0.here hx rfl (hb hby d2_207) rfl (flt hc207).1) ?_
                  show own_Ends p e below s₁ (mkF m 210 #[.val (.int ld), .val (.int c1), .val (.int c2), .val (.int c3), .val (.int s_), .val (.int en), .val (.int (2 : Int32)), .val (.int (1 : Int32)), .val (.int (1 : Int32)), .val (.int o3), .val (.int ((((ld &&& (15 : Int32)) <<< ((12 : Int32) &&& 31)) ||| ((c1 &&& (63 : Int32)) <<< ((6 : Int32) &&& 31))) ||| (c2 &&& (63 : Int32))))] []) _
                  refine own_go (fun _ => XS.iload X0.here hx rfl (hb hby d2_210) rfl) ?_
                  refine own_go (X0.ldcInt hx hown (mvT hZ (hw _ (List.mem_of_getElem? (i := 10) rfl))) (g := (mkF m 212 #[.val (.int ld), .val (.int c1), .val (.int c2), .val (.int c3), .val (.int s_), .val (.int en), .val (.int (2 : Int32)), .val (.int (1 : Int32)), .val (.int (1 : Int32)), .val (.int o3), .val (.int ((((ld &&& (15 : Int32)) <<< ((12 : Int32) &&& 31)) ||| ((c1 &&& (63 : Int32)) <<< ((6 : Int32) &&& 31))) ||| (c2 &&& (63 : Int32))))] [(.int ((((ld &&& (15 : Int32)) <<< ((12 : Int32) &&& 31)) ||| ((c1 &&& (63 : Int32)) <<< ((6 : Int32) &&& 31))) ||| (c2 &&& (63 : Int32))))])) rfl (hb hby d2_212)) ?_
                  show own_Ends p e below s₁ (mkF m 214 #[.val (.int ld), .val (.int c1), .val (.int c2), .val (.int c3), .val (.int s_), .val (.int en), .val (.int (2 : Int32)), .val (.int (1 : Int32)), .val (.int (1 : Int32)), .val (.int o3), .val (.int ((((ld &&& (15 : Int32)) <<< ((12 : Int32) &&& 31)) ||| ((c1 &&& (63 : Int32)) <<< ((6 : Int32) &&& 31))) ||| (c2 &&& (63 : Int32))))] [(.int (55296 : Int32)), (.int ((((ld &&& (15 : Int32)) <<< ((12 : Int32) &&& 31)) ||| ((c1 &&& (63 : Int32)) <<< ((6 : Int32) &&& 31))) ||| (c2 &&& (63 : Int32))))]) _
                  by_cases hc214 : ((((ld &&& (15 : Int32)) <<< ((12 : Int32) &&& 31)) ||| ((c1 &&& (63 : Int32)) <<< ((6 : Int32) &&& 31))) ||| (c2 &&& (63 : Int32))) < (55296 : Int32)
                  · refine own_go (fun _ => XS.icmpYes X0.here hx rfl (pc0 := 214) (pc' := 224) rfl (hb hby d2_214) rfl (tlt hc214).1 (by decide) (by decide)) ?_
                    show own_Ends p e below s₁ (mkF m 224 #[.val (.int ld), .val (.int c1), .val (.int c2), .val (.int c3), .val (.int s_), .val (.int en), .val (.int (2 : Int32)), .val (.int (1 : Int32)), .val (.int (1 : Int32)), .val (.int o3), .val (.int ((((ld &&& (15 : Int32)) <<< ((12 : Int32) &&& 31)) ||| ((c1 &&& (63 : Int32)) <<< ((6 : Int32) &&& 31))) ||| (c2 &&& (63 : Int32))))] []) _
                    refine own_go (fun _ => XS.iload X0.here hx rfl (hb hby d2_224) rfl) ?_
                    refine own_go (fun _ => XS.iconst X0.here hx rfl (hb hby d2_226)) ?_
                    refine own_go (fun _ => XS.iadd X0.here hx rfl (hb hby d2_227) rfl) ?_
                    show own_Ends p e below s₁ (mkF m 228 #[.val (.int ld), .val (.int c1), .val (.int c2), .val (.int c3), .val (.int s_), .val (.int en), .val (.int (2 : Int32)), .val (.int (1 : Int32)), .val (.int (1 : Int32)), .val (.int o3), .val (.int ((((ld &&& (15 : Int32)) <<< ((12 : Int32) &&& 31)) ||| ((c1 &&& (63 : Int32)) <<< ((6 : Int32) &&& 31))) ||| (c2 &&& (63 : Int32))))] [(.int (s_ + (3 : Int32)))]) _
                    refine own_go (fun _ => XS.goto X0.here hx rfl (pc0 := 228) (pc' := 232) rfl (hb hby d2_228) (by decide) (by decide)) ?_
                    obtain ⟨fs, hr, hrun, hended, hW, hsame⟩ := X0.leave (v := some (.int (s_ + (3 : Int32)))) (fun h => by rw [Bd.returns] at h; cases h)
                    refine ⟨_, _, retI X0 hx Bd.returns (hb hby d2_232) hr, hrun, hended, _, _, rfl, ?_, ⟨_, rfl⟩, hW, hsame.mono (by decide) (by decide)⟩
                    show Q_rmExp Z ld c1 c2 c3 s_ en h0 n0 _ s₁.heap _
                    rw [e0]
                    refine ⟨_, rfl, ?_, N0, rfl⟩
                    obtain ⟨z1, z2, z3, z4, z5, z6⟩ := own_s s_ hs
                    have t0 := (not_congr (own_ltC (192) (by decide))).mp hc4
                    have t1 := (not_congr (own_ltC (224) (by decide))).mp hc13
                    have t2 := (own_ltC (240) (by decide)).mp hc26
                    have t3 := (not_congr (own_lt2)).mp hc59
                    have t4 := (own_top hc1).mp hc72
                    have t5 := (own_top hc2).mp hc90
                    have t6 := (not_congr (own_ltC (2048) (by decide))).mp hc207
                    have t7 := (own_ltC (55296) (by decide)).mp hc214
                    have y0 := own_c3 ld c1 c2
                    exact own_A2 (by unfold own_P2; omega) (rfl)
                  · refine own_go (fun _ => XS.icmpNo X0.here hx rfl (hb hby d2_214) rfl (flt hc214).1) ?_
                    show own_Ends p e below s₁ (mkF m 217 #[.val (.int ld), .val (.int c1), .val (.int c2), .val (.int c3), .val (.int s_), .val (.int en), .val (.int (2 : Int32)), .val (.int (1 : Int32)), .val (.int (1 : Int32)), .val (.int o3), .val (.int ((((ld &&& (15 : Int32)) <<< ((12 : Int32) &&& 31)) ||| ((c1 &&& (63 : Int32)) <<< ((6 : Int32) &&& 31))) ||| (c2 &&& (63 : Int32))))] []) _
                    refine own_go (fun _ => XS.iload X0.here hx rfl (hb hby d2_217) rfl) ?_
                    refine own_go (X0.ldcInt hx hown (mvT hZ (hw _ (List.mem_of_getElem? (i := 11) rfl))) (g := (mkF m 219 #[.val (.int ld), .val (.int c1), .val (.int c2), .val (.int c3), .val (.int s_), .val (.int en), .val (.int (2 : Int32)), .val (.int (1 : Int32)), .val (.int (1 : Int32)), .val (.int o3), .val (.int ((((ld &&& (15 : Int32)) <<< ((12 : Int32) &&& 31)) ||| ((c1 &&& (63 : Int32)) <<< ((6 : Int32) &&& 31))) ||| (c2 &&& (63 : Int32))))] [(.int ((((ld &&& (15 : Int32)) <<< ((12 : Int32) &&& 31)) ||| ((c1 &&& (63 : Int32)) <<< ((6 : Int32) &&& 31))) ||| (c2 &&& (63 : Int32))))])) rfl (hb hby d2_219)) ?_
                    show own_Ends p e below s₁ (mkF m 221 #[.val (.int ld), .val (.int c1), .val (.int c2), .val (.int c3), .val (.int s_), .val (.int en), .val (.int (2 : Int32)), .val (.int (1 : Int32)), .val (.int (1 : Int32)), .val (.int o3), .val (.int ((((ld &&& (15 : Int32)) <<< ((12 : Int32) &&& 31)) ||| ((c1 &&& (63 : Int32)) <<< ((6 : Int32) &&& 31))) ||| (c2 &&& (63 : Int32))))] [(.int (57343 : Int32)), (.int ((((ld &&& (15 : Int32)) <<< ((12 : Int32) &&& 31)) ||| ((c1 &&& (63 : Int32)) <<< ((6 : Int32) &&& 31))) ||| (c2 &&& (63 : Int32))))]) _
                    by_cases hc221 : (57343 : Int32) < ((((ld &&& (15 : Int32)) <<< ((12 : Int32) &&& 31)) ||| ((c1 &&& (63 : Int32)) <<< ((6 : Int32) &&& 31))) ||| (c2 &&& (63 : Int32)))
                    · refine own_go (fun _ => XS.icmpNo X0.here hx rfl (hb hby d2_221) rfl (tlt hc221).2.2.2) ?_
                      show own_Ends p e below s₁ (mkF m 224 #[.val (.int ld), .val (.int c1), .val (.int c2), .val (.int c3), .val (.int s_), .val (.int en), .val (.int (2 : Int32)), .val (.int (1 : Int32)), .val (.int (1 : Int32)), .val (.int o3), .val (.int ((((ld &&& (15 : Int32)) <<< ((12 : Int32) &&& 31)) ||| ((c1 &&& (63 : Int32)) <<< ((6 : Int32) &&& 31))) ||| (c2 &&& (63 : Int32))))] []) _
                      refine own_go (fun _ => XS.iload X0.here hx rfl (hb hby d2_224) rfl) ?_
                      refine own_go (fun _ => XS.iconst X0.here hx rfl (hb hby d2_226)) ?_
                      refine own_go (fun _ => XS.iadd X0.here hx rfl (hb hby d2_227) rfl) ?_
                      show own_Ends p e below s₁ (mkF m 228 #[.val (.int ld), .val (.int c1), .val (.int c2), .val (.int c3), .val (.int s_), .val (.int en), .val (.int (2 : Int32)), .val (.int (1 : Int32)), .val (.int (1 : Int32)), .val (.int o3), .val (.int ((((ld &&& (15 : Int32)) <<< ((12 : Int32) &&& 31)) ||| ((c1 &&& (63 : Int32)) <<< ((6 : Int32) &&& 31))) ||| (c2 &&& (63 : Int32))))] [(.int (s_ + (3 : Int32)))]) _
                      refine own_go (fun _ => XS.goto X0.here hx rfl (pc0 := 228) (pc' := 232) rfl (hb hby d2_228) (by decide) (by decide)) ?_
                      obtain ⟨fs, hr, hrun, hended, hW, hsame⟩ := X0.leave (v := some (.int (s_ + (3 : Int32)))) (fun h => by rw [Bd.returns] at h; cases h)
                      refine ⟨_, _, retI X0 hx Bd.returns (hb hby d2_232) hr, hrun, hended, _, _, rfl, ?_, ⟨_, rfl⟩, hW, hsame.mono (by decide) (by decide)⟩
                      show Q_rmExp Z ld c1 c2 c3 s_ en h0 n0 _ s₁.heap _
                      rw [e0]
                      refine ⟨_, rfl, ?_, N0, rfl⟩
                      obtain ⟨z1, z2, z3, z4, z5, z6⟩ := own_s s_ hs
                      have t0 := (not_congr (own_ltC (192) (by decide))).mp hc4
                      have t1 := (not_congr (own_ltC (224) (by decide))).mp hc13
                      have t2 := (own_ltC (240) (by decide)).mp hc26
                      have t3 := (not_congr (own_lt2)).mp hc59
                      have t4 := (own_top hc1).mp hc72
                      have t5 := (own_top hc2).mp hc90
                      have t6 := (not_congr (own_ltC (2048) (by decide))).mp hc207
                      have t7 := (not_congr (own_ltC (55296) (by decide))).mp hc214
                      have t8 := (own_Clt (57343) (by decide)).mp hc221
                      have y0 := own_c3 ld c1 c2
                      exact own_A2 (by unfold own_P2; omega) (rfl)
                    · refine own_go (fun _ => XS.icmpYes X0.here hx rfl (pc0 := 221) (pc' := 231) rfl (hb hby d2_221) rfl (flt hc221).2.2.2 (by decide) (by decide)) ?_
                      show own_Ends p e below s₁ (mkF m 231 #[.val (.int ld), .val (.int c1), .val (.int c2), .val (.int c3), .val (.int s_), .val (.int en), .val (.int (2 : Int32)), .val (.int (1 : Int32)), .val (.int (1 : Int32)), .val (.int o3), .val (.int ((((ld &&& (15 : Int32)) <<< ((12 : Int32) &&& 31)) ||| ((c1 &&& (63 : Int32)) <<< ((6 : Int32) &&& 31))) ||| (c2 &&& (63 : Int32))))] []) _
                      refine own_go (fun _ => XS.iconst X0.here hx rfl (hb hby d2_231)) ?_
                      obtain ⟨fs, hr, hrun, hended, hW, hsame⟩ := X0.leave (v := some (.int (-1 : Int32))) (fun h => by rw [Bd.returns] at h; cases h)
                      refine ⟨_, _, retI X0 hx Bd.returns (hb hby d2_232) hr, hrun, hended, _, _, rfl, ?_, ⟨_, rfl⟩, hW, hsame.mono (by decide) (by decide)⟩
                      show Q_rmExp Z ld c1 c2 c3 s_ en h0 n0 _ s₁.heap _
                      rw [e0]
                      refine ⟨_, rfl, ?_, N0, rfl⟩
                      obtain ⟨z1, z2, z3, z4, z5, z6⟩ := own_s s_ hs
                      have t0 := (not_congr (own_ltC (192) (by decide))).mp hc4
                      have t1 := (not_congr (own_ltC (224) (by decide))).mp hc13
                      have t2 := (own_ltC (240) (by decide)).mp hc26
                      have t3 := (not_congr (own_lt2)).mp hc59
                      have t4 := (own_top hc1).mp hc72
                      have t5 := (own_top hc2).mp hc90
                      have t6 := (not_congr (own_ltC (2048) (by decide))).mp hc207
                      have t7 := (not_congr (own_ltC (55296) (by decide))).mp hc214
                      have t8 := (not_congr (own_Clt (57343) (by decide))).mp hc221
                      have y0 := own_c3 ld c1 c2
                      exact own_A0 (by unfold own_P1; omega) (by unfold own_P2; omega) (by unfold own_P3; omega)
              refine own_go (fun _ => XS.iloadN X0.here hx rfl (hb hby d2_100) rfl) ?_
              refine own_go (fun _ => XS.sipush X0.here hx rfl (hb hby d2_101)) ?_
              refine own_go (fun _ => XS.iand X0.here hx rfl (hb hby d2_104) rfl) ?_
              show own_Ends p e below s₁ (mkF m 105 #[.val (.int ld), .val (.int c1), .val (.int c2), .val (.int c3), .val (.int s_), .val (.int en), .val (.int (2 : Int32)), .val (.int (1 : Int32)), .val (.int (1 : Int32)), .unset, .unset] [(.int (c3 &&& (192 : Int32)))]) _
              refine own_go (fun _ => XS.sipush X0.here hx rfl (hb hby d2_105)) ?_
              show own_Ends p e below s₁ (mkF m 108 #[.val (.int ld), .val (.int c1), .val (.int c2), .val (.int c3), .val (.int s_), .val (.int en), .val (.int (2 : Int32)), .val (.int (1 : Int32)), .val (.int (1 : Int32)), .unset, .unset] [(.int (128 : Int32)), (.int (c3 &&& (192 : Int32)))]) _
              by_cases hc108 : (c3 &&& (192 : Int32)) = (128 : Int32)
              · refine own_go (fun _ => XS.icmpNo X0.here hx rfl (hb hby d2_108) rfl (teq hc108).2) ?_
                show own_Ends p e below s₁ (mkF m 111 #[.val (.int ld), .val (.int c1), .val (.int c2), .val (.int c3), .val (.int s_), .val (.int en), .val (.int (2 : Int32)), .val (.int (1 : Int32)), .val (.int (1 : Int32)), .unset, .unset] []) _
                refine own_go (fun _ => XS.iconst X0.here hx rfl (hb hby d2_111)) ?_
                refine own_go (fun _ => XS.goto X0.here hx rfl (pc0 := 112) (pc' := 116) rfl (hb hby d2_112) (by decide) (by decide)) ?_
                refine own_go (fun _ => XS.istore X0.here hx rfl (hb hby d2_116) rfl (l' := #[.val (.int ld), .val (.int c1), .val (.int c2), .val (.int c3), .val (.int s_), .val (.int en), .val (.int (2 : Int32)), .val (.int (1 : Int32)), .val (.int (1 : Int32)), .val (.int (1 : Int32)), .unset]) rfl) ?_
                show own_Ends p e below s₁ (mkF m 118 #[.val (.int ld), .val (.int c1), .val (.int c2), .val (.int c3), .val (.int s_), .val (.int en), .val (.int (2 : Int32)), .val (.int (1 : Int32)), .val (.int (1 : Int32)), .val (.int (1 : Int32)), .unset] []) _
                exact J118 _
              · refine own_go (fun _ => XS.icmpYes X0.here hx rfl (pc0 := 108) (pc' := 115) rfl (hb hby d2_108) rfl (feq hc108).2 (by decide) (by decide)) ?_
                show own_Ends p e below s₁ (mkF m 115 #[.val (.int ld), .val (.int c1), .val (.int c2), .val (.int c3), .val (.int s_), .val (.int en), .val (.int (2 : Int32)), .val (.int (1 : Int32)), .val (.int (1 : Int32)), .unset, .unset] []) _
                refine own_go (fun _ => XS.iconst X0.here hx rfl (hb hby d2_115)) ?_
                refine own_go (fun _ => XS.istore X0.here hx rfl (hb hby d2_116) rfl (l' := #[.val (.int ld), .val (.int c1), .val (.int c2), .val (.int c3), .val (.int s_), .val (.int en), .val (.int (2 : Int32)), .val (.int (1 : Int32)), .val (.int (1 : Int32)), .val (.int (0 : Int32)), .unset]) rfl) ?_
                show own_Ends p e below s₁ (mkF m 118 #[.val (.int ld), .val (.int c1), .val (.int c2), .val (.int c3), .val (.int s_), .val (.int en), .val (.int (2 : Int32)), .val (.int (1 : Int32)), .val (.int (1 : Int32)), .val (.int (0 : Int32)), .unset] []) _
                exact J118 _
            · refine own_go (fun _ => XS.icmpYes X0.here hx rfl (pc0 := 90) (pc' := 97) rfl (hb hby d2_90) rfl (feq hc90).2 (by decide) (by decide)) ?_
              show own_Ends p e below s₁ (mkF m 97 #[.val (.int ld), .val (.int c1), .val (.int c2), .val (.int c3), .val (.int s_), .val (.int en), .val (.int (2 : Int32)), .val (.int (1 : Int32)), .unset, .unset, .unset] []) _
              refine own_go (fun _ => XS.iconst X0.here hx rfl (hb hby d2_97)) ?_
              refine own_go (fun _ => XS.istore X0.here hx rfl (hb hby d2_98) rfl (l' := #[.val (.int ld), .val (.int c1), .val (.int c2), .val (.int c3), .val (.int s_), .val (.int en), .val (.int (2 : Int32)), .val (.int (1 : Int32)), .val (.int (0 : Int32)), .unset, .unset]) rfl) ?_
              show own_Ends p e below s₁ (mkF m 100 #[.val (.int ld), .val (.int c1), .val (.int c2), .val (.int c3), .val (.int s_), .val (.int en), .val (.int (2 : Int32)), .val (.int (1 : Int32)), .val (.int (0 : Int32)), .unset, .unset] []) _
              have J118 : ∀ (o3 : Int32), own_Ends p e below s₁ (mkF m 118 #[.val (.int ld), .val (.int c1), .val (.int c2), .val (.int c3), .val (.int s_), .val (.int en), .val (.int (2 : Int32)), .val (.int (1 : Int32)), .val (.int (0 : Int32)), .val (.int o3), .unset] []) (fun ou U' => ∃ v L, ou = .returned v ∧ Q_rmExp Z ld c1 c2 c3 s_ en h0 n0 v U'.heap L ∧ FrameEnd s ou U' L ({ frames := 0, cells := 0, slots := 0, locals := 0 } : Room).cells ({ frames := 0, cells := 0, slots := 0, locals := 0 } : Room).slots) := by
                intro o3
                show own_Ends p e below s₁ (mkF m 118 #[.val (.int ld), .val (.int c1), .val (.int c2), .val (.int c3), .val (.int s_), .val (.int en), .val (.int (2 : Int32)), .val (.int (1 : Int32)), .val (.int (0 : Int32)), .val (.int o3), .unset] []) _
                refine own_go (fun _ => XS.iload X0.here hx rfl (hb hby d2_118) rfl) ?_
                refine own_go (fun _ => XS.iconst X0.here hx rfl (hb hby d2_120)) ?_
                show own_Ends p e below s₁ (mkF m 121 #[.val (.int ld), .val (.int c1), .val (.int c2), .val (.int c3), .val (.int s_), .val (.int en), .val (.int (2 : Int32)), .val (.int (1 : Int32)), .val (.int (0 : Int32)), .val (.int o3), .unset] [(.int (1 : Int32)), (.int (2 : Int32))]) _
                refine own_go (fun _ => XS.icmpYes X0.here hx rfl (pc0 := 121) (pc' := 162) rfl (hb hby d2_121) rfl (feq (show ¬ ((2 : Int32) = (1 : Int32)) from by decide)).2 (by decide) (by decide)) ?_
                show own_Ends p e below s₁ (mkF m 162 #[.val (.int ld), .val (.int c1), .val (.int c2), .val (.int c3), .val (.int s_), .val (.int en), .val (.int (2 : Int32)), .val (.int (1 : Int32)), .val (.int (0 : Int32)), .val (.int o3), .unset] []) _
                refine own_go (fun _ => XS.iload X0.here hx rfl (hb hby d2_162) rfl) ?_
                refine own_go (fun _ => XS.iconst X0.here hx rfl (hb hby d2_164)) ?_
                show own_Ends p e below s₁ (mkF m 165 #[.val (.int ld), .val (.int c1), .val (.int c2), .val (.int c3), .val (.int s_), .val (.int en), .val (.int (2 : Int32)), .val (.int (1 : Int32)), .val (.int (0 : Int32)), .val (.int o3), .unset] [(.int (2 : Int32)), (.int (2 : Int32))]) _
                refine own_go (fun _ => XS.icmpNo X0.here hx rfl (hb hby d2_165) rfl (teq (show (2 : Int32) = (2 : Int32) from by decide)).2) ?_
                show own_Ends p e below s₁ (mkF m 168 #[.val (.int ld), .val (.int c1), .val (.int c2), .val (.int c3), .val (.int s_), .val (.int en), .val (.int (2 : Int32)), .val (.int (1 : Int32)), .val (.int (0 : Int32)), .val (.int o3), .unset] []) _
                refine own_go (fun _ => XS.iload X0.here hx rfl (hb hby d2_168) rfl) ?_
                show own_Ends p e below s₁ (mkF m 170 #[.val (.int ld), .val (.int c1), .val (.int c2), .val (.int c3), .val (.int s_), .val (.int en), .val (.int (2 : Int32)), .val (.int (1 : Int32)), .val (.int (0 : Int32)), .val (.int o3), .unset] [(.int (1 : Int32))]) _
                refine own_go (fun _ => XS.ifNo X0.here hx rfl (hb hby d2_170) rfl ((if0 _ _).trans (feq (show ¬ ((1 : Int32) = (0 : Int32)) from by decide)).1)) ?_
                show own_Ends p e below s₁ (mkF m 173 #[.val (.int ld), .val (.int c1), .val (.int c2), .val (.int c3), .val (.int s_), .val (.int en), .val (.int (2 : Int32)), .val (.int (1 : Int32)), .val (.int (0 : Int32)), .val (.int o3), .unset] []) _
                refine own_go (fun _ => XS.iload X0.here hx rfl (hb hby d2_173) rfl) ?_
                show own_Ends p e below s₁ (mkF m 175 #[.val (.int ld), .val (.int c1), .val (.int c2), .val (.int c3), .val (.int s_), .val (.int en), .val (.int (2 : Int32)), .val (.int (1 : Int32)), .val (.int (0 : Int32)), .val (.int o3), .unset] [(.int (0 : Int32))]) _
                refine own_go (fun _ => XS.ifNo X0.here hx rfl (hb hby d2_175) rfl ((if0 _ _).trans (teq (show (0 : Int32) = (0 : Int32) from by decide)).2)) ?_
                show own_Ends p e below s₁ (mkF m 178 #[.val (.int ld), .val (.int c1), .val (.int c2), .val (.int c3), .val (.int s_), .val (.int en), .val (.int (2 : Int32)), .val (.int (1 : Int32)), .val (.int (0 : Int32)), .val (.int o3), .unset] []) _
                refine own_go (fun _ => XS.iconst X0.here hx rfl (hb hby d2_178)) ?_
                obtain ⟨fs, hr, hrun, hended, hW, hsame⟩ := X0.leave (v := some (.int (-1 : Int32))) (fun h => by rw [Bd.returns] at h; cases h)
                refine ⟨_, _, retI X0 hx Bd.returns (hb hby d2_179) hr, hrun, hended, _, _, rfl, ?_, ⟨_, rfl⟩, hW, hsame.mono (by decide) (by decide)⟩
                show Q_rmExp Z ld c1 c2 c3 s_ en h0 n0 _ s₁.heap _
                rw [e0]
                refine ⟨_, rfl, ?_, N0, rfl⟩
                obtain ⟨z1, z2, z3, z4, z5, z6⟩ := own_s s_ hs
                have t0 := (not_congr (own_ltC (192) (by decide))).mp hc4
                have t1 := (not_congr (own_ltC (224) (by decide))).mp hc13
                have t2 := (own_ltC (240) (by decide)).mp hc26
                have t3 := (not_congr (own_lt2)).mp hc59
                have t4 := (own_top hc1).mp hc72
                have t5 := (not_congr (own_top hc2)).mp hc90
                have y0 := own_c3 ld c1 c2
                exact own_A0 (by unfold own_P1; omega) (by unfold own_P2; omega) (by unfold own_P3; omega)
              refine own_go (fun _ => XS.iloadN X0.here hx rfl (hb hby d2_100) rfl) ?_
              refine own_go (fun _ => XS.sipush X0.here hx rfl (hb hby d2_101)) ?_
              refine own_go (fun _ => XS.iand X0.here hx rfl (hb hby d2_104) rfl) ?_
              show own_Ends p e below s₁ (mkF m 105 #[.val (.int ld), .val (.int c1), .val (.int c2), .val (.int c3), .val (.int s_), .val (.int en), .val (.int (2 : Int32)), .val (.int (1 : Int32)), .val (.int (0 : Int32)), .unset, .unset] [(.int (c3 &&& (192 : Int32)))]) _
              refine own_go (fun _ => XS.sipush X0.here hx rfl (hb hby d2_105)) ?_
              show own_Ends p e below s₁ (mkF m 108 #[.val (.int ld), .val (.int c1), .val (.int c2), .val (.int c3), .val (.int s_), .val (.int en), .val (.int (2 : Int32)), .val (.int (1 : Int32)), .val (.int (0 : Int32)), .unset, .unset] [(.int (128 : Int32)), (.int (c3 &&& (192 : Int32)))]) _
              by_cases hc108 : (c3 &&& (192 : Int32)) = (128 : Int32)
              · refine own_go (fun _ => XS.icmpNo X0.here hx rfl (hb hby d2_108) rfl (teq hc108).2) ?_
                show own_Ends p e below s₁ (mkF m 111 #[.val (.int ld), .val (.int c1), .val (.int c2), .val (.int c3), .val (.int s_), .val (.int en), .val (.int (2 : Int32)), .val (.int (1 : Int32)), .val (.int (0 : Int32)), .unset, .unset] []) _
                refine own_go (fun _ => XS.iconst X0.here hx rfl (hb hby d2_111)) ?_
                refine own_go (fun _ => XS.goto X0.here hx rfl (pc0 := 112) (pc' := 116) rfl (hb hby d2_112) (by decide) (by decide)) ?_
                refine own_go (fun _ => XS.istore X0.here hx rfl (hb hby d2_116) rfl (l' := #[.val (.int ld), .val (.int c1), .val (.int c2), .val (.int c3), .val (.int s_), .val (.int en), .val (.int (2 : Int32)), .val (.int (1 : Int32)), .val (.int (0 : Int32)), .val (.int (1 : Int32)), .unset]) rfl) ?_
                show own_Ends p e below s₁ (mkF m 118 #[.val (.int ld), .val (.int c1), .val (.int c2), .val (.int c3), .val (.int s_), .val (.int en), .val (.int (2 : Int32)), .val (.int (1 : Int32)), .val (.int (0 : Int32)), .val (.int (1 : Int32)), .unset] []) _
                exact J118 _
              · refine own_go (fun _ => XS.icmpYes X0.here hx rfl (pc0 := 108) (pc' := 115) rfl (hb hby d2_108) rfl (feq hc108).2 (by decide) (by decide)) ?_
                show own_Ends p e below s₁ (mkF m 115 #[.val (.int ld), .val (.int c1), .val (.int c2), .val (.int c3), .val (.int s_), .val (.int en), .val (.int (2 : Int32)), .val (.int (1 : Int32)), .val (.int (0 : Int32)), .unset, .unset] []) _
                refine own_go (fun _ => XS.iconst X0.here hx rfl (hb hby d2_115)) ?_
                refine own_go (fun _ => XS.istore X0.here hx rfl (hb hby d2_116) rfl (l' := #[.val (.int ld), .val (.int c1), .val (.int c2), .val (.int c3), .val (.int s_), .val (.int en), .val (.int (2 : Int32)), .val (.int (1 : Int32)), .val (.int (0 : Int32)), .val (.int (0 : Int32)), .unset]) rfl) ?_
                show own_Ends p e below s₁ (mkF m 118 #[.val (.int ld), .val (.int c1), .val (.int c2), .val (.int c3), .val (.int s_), .val (.int en), .val (.int (2 : Int32)), .val (.int (1 : Int32)), .val (.int (0 : Int32)), .val (.int (0 : Int32)), .unset] []) _
                exact J118 _
          · refine own_go (fun _ => XS.icmpYes X0.here hx rfl (pc0 := 72) (pc' := 79) rfl (hb hby d2_72) rfl (feq hc72).2 (by decide) (by decide)) ?_
            show own_Ends p e below s₁ (mkF m 79 #[.val (.int ld), .val (.int c1), .val (.int c2), .val (.int c3), .val (.int s_), .val (.int en), .val (.int (2 : Int32)), .unset, .unset, .unset, .unset] []) _
            refine own_go (fun _ => XS.iconst X0.here hx rfl (hb hby d2_79)) ?_
            refine own_go (fun _ => XS.istore X0.here hx rfl (hb hby d2_80) rfl (l' := #[.val (.int ld), .val (.int c1), .val (.int c2), .val (.int c3), .val (.int s_), .val (.int en), .val (.int (2 : Int32)), .val (.int (0 : Int32)), .unset, .unset, .unset]) rfl) ?_
            show own_Ends p e below s₁ (mkF m 82 #[.val (.int ld), .val (.int c1), .val (.int c2), .val (.int c3), .val (.int s_), .val (.int en), .val (.int (2 : Int32)), .val (.int (0 : Int32)), .unset, .unset, .unset] []) _
            refine own_go (fun _ => XS.iloadN X0.here hx rfl (hb hby d2_82) rfl) ?_
            refine own_go (fun _ => XS.sipush X0.here hx rfl (hb hby d2_83)) ?_
            refine own_go (fun _ => XS.iand X0.here hx rfl (hb hby d2_86) rfl) ?_
            show own_Ends p e below s₁ (mkF m 87 #[.val (.int ld), .val (.int c1), .val (.int c2), .val (.int c3), .val (.int s_), .val (.int en), .val (.int (2 : Int32)), .val (.int (0 : Int32)), .unset, .unset, .unset] [(.int (c2 &&& (192 : Int32)))]) _
            refine own_go (fun _ => XS.sipush X0.here hx rfl (hb hby d2_87)) ?_
            show own_Ends p e below s₁ (mkF m 90 #[.val (.int ld), .val (.int c1), .val (.int c2), .val (.int c3), .val (.int s_), .val (.int en), .val (.int (2 : Int32)), .val (.int (0 : Int32)), .unset, .unset, .unset] [(.int (128 : Int32)), (.int (c2 &&& (192 : Int32)))]) _
            by_cases hc90 : (c2 &&& (192 : Int32)) = (128 : Int32)
            · refine own_go (fun _ => XS.icmpNo X0.here hx rfl (hb hby d2_90) rfl (teq hc90).2) ?_
              show own_Ends p e below s₁ (mkF m 93 #[.val (.int ld), .val (.int c1), .val (.int c2), .val (.int c3), .val (.int s_), .val (.int en), .val (.int (2 : Int32)), .val (.int (0 : Int32)), .unset, .unset, .unset] []) _
              refine own_go (fun _ => XS.iconst X0.here hx rfl (hb hby d2_93)) ?_
              refine own_go (fun _ => XS.goto X0.here hx rfl (pc0 := 94) (pc' := 98) rfl (hb hby d2_94) (by decide) (by decide)) ?_
              refine own_go (fun _ => XS.istore X0.here hx rfl (hb hby d2_98) rfl (l' := #[.val (.int ld), .val (.int c1), .val (.int c2), .val (.int c3), .val (.int s_), .val (.int en), .val (.int (2 : Int32)), .val (.int (0 : Int32)), .val (.int (1 : Int32)), .unset, .unset]) rfl) ?_
              show own_Ends p e below s₁ (mkF m 100 #[.val (.int ld), .val (.int c1), .val (.int c2), .val (.int c3), .val (.int s_), .val (.int en), .val (.int (2 : Int32)), .val (.int (0 : Int32)), .val (.int (1 : Int32)), .unset, .unset] []) _
              have J118 : ∀ (o3 : Int32), own_Ends p e below s₁ (mkF m 118 #[.val (.int ld), .val (.int c1), .val (.int c2), .val (.int c3), .val (.int s_), .val (.int en), .val (.int (2 : Int32)), .val (.int (0 : Int32)), .val (.int (1 : Int32)), .val (.int o3), .unset] []) (fun ou U' => ∃ v L, ou = .returned v ∧ Q_rmExp Z ld c1 c2 c3 s_ en h0 n0 v U'.heap L ∧ FrameEnd s ou U' L ({ frames := 0, cells := 0, slots := 0, locals := 0 } : Room).cells ({ frames := 0, cells := 0, slots := 0, locals := 0 } : Room).slots) := by
                intro o3
                show own_Ends p e below s₁ (mkF m 118 #[.val (.int ld), .val (.int c1), .val (.int c2), .val (.int c3), .val (.int s_), .val (.int en), .val (.int (2 : Int32)), .val (.int (0 : Int32)), .val (.int (1 : Int32)), .val (.int o3), .unset] []) _
                refine own_go (fun _ => XS.iload X0.here hx rfl (hb hby d2_118) rfl) ?_
                refine own_go (fun _ => XS.iconst X0.here hx rfl (hb hby d2_120)) ?_
                show own_Ends p e below s₁ (mkF m 121 #[.val (.int ld), .val (.int c1), .val (.int c2), .val (.int c3), .val (.int s_), .val (.int en), .val (.int (2 : Int32)), .val (.int (0 : Int32)), .val (.int (1 : Int32)), .val (.int o3), .unset] [(.int (1 : Int32)), (.int (2 : Int32))]) _
                refine own_go (fun _ => XS.icmpYes X0.here hx rfl (pc0 := 121) (pc' := 162) rfl (hb hby d2_121) rfl (feq (show ¬ ((2 : Int32) = (1 : Int32)) from by decide)).2 (by decide) (by decide)) ?_
                show own_Ends p e below s₁ (mkF m 162 #[.val (.int ld), .val (.int c1), .val (.int c2), .val (.int c3), .val (.int s_), .val (.int en), .val (.int (2 : Int32)), .val (.int (0 : Int32)), .val (.int (1 : Int32)), .val (.int o3), .unset] []) _
                refine own_go (fun _ => XS.iload X0.here hx rfl (hb hby d2_162) rfl) ?_
                refine own_go (fun _ => XS.iconst X0.here hx rfl (hb hby d2_164)) ?_
                show own_Ends p e below s₁ (mkF m 165 #[.val (.int ld), .val (.int c1), .val (.int c2), .val (.int c3), .val (.int s_), .val (.int en), .val (.int (2 : Int32)), .val (.int (0 : Int32)), .val (.int (1 : Int32)), .val (.int o3), .unset] [(.int (2 : Int32)), (.int (2 : Int32))]) _
                refine own_go (fun _ => XS.icmpNo X0.here hx rfl (hb hby d2_165) rfl (teq (show (2 : Int32) = (2 : Int32) from by decide)).2) ?_
                show own_Ends p e below s₁ (mkF m 168 #[.val (.int ld), .val (.int c1), .val (.int c2), .val (.int c3), .val (.int s_), .val (.int en), .val (.int (2 : Int32)), .val (.int (0 : Int32)), .val (.int (1 : Int32)), .val (.int o3), .unset] []) _
                refine own_go (fun _ => XS.iload X0.here hx rfl (hb hby d2_168) rfl) ?_
                show own_Ends p e below s₁ (mkF m 170 #[.val (.int ld), .val (.int c1), .val (.int c2), .val (.int c3), .val (.int s_), .val (.int en), .val (.int (2 : Int32)), .val (.int (0 : Int32)), .val (.int (1 : Int32)), .val (.int o3), .unset] [(.int (0 : Int32))]) _
                refine own_go (fun _ => XS.ifYes X0.here hx rfl (pc0 := 170) (pc' := 178) rfl (hb hby d2_170) rfl ((if0 _ _).trans (teq (show (0 : Int32) = (0 : Int32) from by decide)).1) (by decide) (by decide)) ?_
                show own_Ends p e below s₁ (mkF m 178 #[.val (.int ld), .val (.int c1), .val (.int c2), .val (.int c3), .val (.int s_), .val (.int en), .val (.int (2 : Int32)), .val (.int (0 : Int32)), .val (.int (1 : Int32)), .val (.int o3), .unset] []) _
                refine own_go (fun _ => XS.iconst X0.here hx rfl (hb hby d2_178)) ?_
                obtain ⟨fs, hr, hrun, hended, hW, hsame⟩ := X0.leave (v := some (.int (-1 : Int32))) (fun h => by rw [Bd.returns] at h; cases h)
                refine ⟨_, _, retI X0 hx Bd.returns (hb hby d2_179) hr, hrun, hended, _, _, rfl, ?_, ⟨_, rfl⟩, hW, hsame.mono (by decide) (by decide)⟩
                show Q_rmExp Z ld c1 c2 c3 s_ en h0 n0 _ s₁.heap _
                rw [e0]
                refine ⟨_, rfl, ?_, N0, rfl⟩
                obtain ⟨z1, z2, z3, z4, z5, z6⟩ := own_s s_ hs
                have t0 := (not_congr (own_ltC (192) (by decide))).mp hc4
                have t1 := (not_congr (own_ltC (224) (by decide))).mp hc13
                have t2 := (own_ltC (240) (by decide)).mp hc26
                have t3 := (not_congr (own_lt2)).mp hc59
                have t4 := (not_congr (own_top hc1)).mp hc72
                have t5 := (own_top hc2).mp hc90
                have y0 := own_c3 ld c1 c2
                exact own_A0 (by unfold own_P1; omega) (by unfold own_P2; omega) (by unfold own_P3; omega)
              refine own_go (fun _ => XS.iloadN X0.here hx rfl (hb hby d2_100) rfl) ?_
              refine own_go (fun _ => XS.sipush X0.here hx rfl (hb hby d2_101)) ?_
              refine own_go (fun _ => XS.iand X0.here hx rfl (hb hby d2_104) rfl) ?_
              show own_Ends p e below s₁ (mkF m 105 #[.val (.int ld), .val (.int c1), .val (.int c2), .val (.int c3), .val (.int s_), .val (.int en), .val (.int (2 : Int32)), .val (.int (0 : Int32)), .val (.int (1 : Int32)), .unset, .unset] [(.int (c3 &&& (192 : Int32)))]) _
              refine own_go (fun _ => XS.sipush X0.here hx rfl (hb hby d2_105)) ?_
              show own_Ends p e below s₁ (mkF m 108 #[.val (.int ld), .val (.int c1), .val (.int c2), .val (.int c3), .val (.int s_), .val (.int en), .val (.int (2 : Int32)), .val (.int (0 : Int32)), .val (.int (1 : Int32)), .unset, .unset] [(.int (128 : Int32)), (.int (c3 &&& (192 : Int32)))]) _
              by_cases hc108 : (c3 &&& (192 : Int32)) = (128 : Int32)
              · refine own_go (fun _ => XS.icmpNo X0.here hx rfl (hb hby d2_108) rfl (teq hc108).2) ?_
                show own_Ends p e below s₁ (mkF m 111 #[.val (.int ld), .val (.int c1), .val (.int c2), .val (.int c3), .val (.int s_), .val (.int en), .val (.int (2 : Int32)), .val (.int (0 : Int32)), .val (.int (1 : Int32)), .unset, .unset] []) _
                refine own_go (fun _ => XS.iconst X0.here hx rfl (hb hby d2_111)) ?_
                refine own_go (fun _ => XS.goto X0.here hx rfl (pc0 := 112) (pc' := 116) rfl (hb hby d2_112) (by decide) (by decide)) ?_
                refine own_go (fun _ => XS.istore X0.here hx rfl (hb hby d2_116) rfl (l' := #[.val (.int ld), .val (.int c1), .val (.int c2), .val (.int c3), .val (.int s_), .val (.int en), .val (.int (2 : Int32)), .val (.int (0 : Int32)), .val (.int (1 : Int32)), .val (.int (1 : Int32)), .unset]) rfl) ?_
                show own_Ends p e below s₁ (mkF m 118 #[.val (.int ld), .val (.int c1), .val (.int c2), .val (.int c3), .val (.int s_), .val (.int en), .val (.int (2 : Int32)), .val (.int (0 : Int32)), .val (.int (1 : Int32)), .val (.int (1 : Int32)), .unset] []) _
                exact J118 _
              · refine own_go (fun _ => XS.icmpYes X0.here hx rfl (pc0 := 108) (pc' := 115) rfl (hb hby d2_108) rfl (feq hc108).2 (by decide) (by decide)) ?_
                show own_Ends p e below s₁ (mkF m 115 #[.val (.int ld), .val (.int c1), .val (.int c2), .val (.int c3), .val (.int s_), .val (.int en), .val (.int (2 : Int32)), .val (.int (0 : Int32)), .val (.int (1 : Int32)), .unset, .unset] []) _
                refine own_go (fun _ => XS.iconst X0.here hx rfl (hb hby d2_115)) ?_
                refine own_go (fun _ => XS.istore X0.here hx rfl (hb hby d2_116) rfl (l' := #[.val (.int ld), .val (.int c1), .val (.int c2), .val (.int c3), .val (.int s_), .val (.int en), .val (.int (2 : Int32)), .val (.int (0 : Int32)), .val (.int (1 : Int32)), .val (.int (0 : Int32)), .unset]) rfl) ?_
                show own_Ends p e below s₁ (mkF m 118 #[.val (.int ld), .val (.int c1), .val (.int c2), .val (.int c3), .val (.int s_), .val (.int en), .val (.int (2 : Int32)), .val (.int (0 : Int32)), .val (.int (1 : Int32)), .val (.int (0 : Int32)), .unset] []) _
                exact J118 _
            · refine own_go (fun _ => XS.icmpYes X0.here hx rfl (pc0 := 90) (pc' := 97) rfl (hb hby d2_90) rfl (feq hc90).2 (by decide) (by decide)) ?_
              show own_Ends p e below s₁ (mkF m 97 #[.val (.int ld), .val (.int c1), .val (.int c2), .val (.int c3), .val (.int s_), .val (.int en), .val (.int (2 : Int32)), .val (.int (0 : Int32)), .unset, .unset, .unset] []) _
              refine own_go (fun _ => XS.iconst X0.here hx rfl (hb hby d2_97)) ?_
              refine own_go (fun _ => XS.istore X0.here hx rfl (hb hby d2_98) rfl (l' := #[.val (.int ld), .val (.int c1), .val (.int c2), .val (.int c3), .val (.int s_), .val (.int en), .val (.int (2 : Int32)), .val (.int (0 : Int32)), .val (.int (0 : Int32)), .unset, .unset]) rfl) ?_
              show own_Ends p e below s₁ (mkF m 100 #[.val (.int ld), .val (.int c1), .val (.int c2), .val (.int c3), .val (.int s_), .val (.int en), .val (.int (2 : Int32)), .val (.int (0 : Int32)), .val (.int (0 : Int32)), .unset, .unset] []) _
              have J118 : ∀ (o3 : Int32), own_Ends p e below s₁ (mkF m 118 #[.val (.int ld), .val (.int c1), .val (.int c2), .val (.int c3), .val (.int s_), .val (.int en), .val (.int (2 : Int32)), .val (.int (0 : Int32)), .val (.int (0 : Int32)), .val (.int o3), .unset] []) (fun ou U' => ∃ v L, ou = .returned v ∧ Q_rmExp Z ld c1 c2 c3 s_ en h0 n0 v U'.heap L ∧ FrameEnd s ou U' L ({ frames := 0, cells := 0, slots := 0, locals := 0 } : Room).cells ({ frames := 0, cells := 0, slots := 0, locals := 0 } : Room).slots) := by
                intro o3
                show own_Ends p e below s₁ (mkF m 118 #[.val (.int ld), .val (.int c1), .val (.int c2), .val (.int c3), .val (.int s_), .val (.int en), .val (.int (2 : Int32)), .val (.int (0 : Int32)), .val (.int (0 : Int32)), .val (.int o3), .unset] []) _
                refine own_go (fun _ => XS.iload X0.here hx rfl (hb hby d2_118) rfl) ?_
                refine own_go (fun _ => XS.iconst X0.here hx rfl (hb hby d2_120)) ?_
                show own_Ends p e below s₁ (mkF m 121 #[.val (.int ld), .val (.int c1), .val (.int c2), .val (.int c3), .val (.int s_), .val (.int en), .val (.int (2 : Int32)), .val (.int (0 : Int32)), .val (.int (0 : Int32)), .val (.int o3), .unset] [(.int (1 : Int32)), (.int (2 : Int32))]) _
                refine own_go (fun _ => XS.icmpYes X0.here hx rfl (pc0 := 121) (pc' := 162) rfl (hb hby d2_121) rfl (feq (show ¬ ((2 : Int32) = (1 : Int32)) from by decide)).2 (by decide) (by decide)) ?_
                show own_Ends p e below s₁ (mkF m 162 #[.val (.int ld), .val (.int c1), .val (.int c2), .val (.int c3), .val (.int s_), .val (.int en), .val (.int (2 : Int32)), .val (.int (0 : Int32)), .val (.int (0 : Int32)), .val (.int o3), .unset] []) _
                refine own_go (fun _ => XS.iload X0.here hx rfl (hb hby d2_162) rfl) ?_
                refine own_go (fun _ => XS.iconst X0.here hx rfl (hb hby d2_164)) ?_
                show own_Ends p e below s₁ (mkF m 165 #[.val (.int ld), .val (.int c1), .val (.int c2), .val (.int c3), .val (.int s_), .val (.int en), .val (.int (2 : Int32)), .val (.int (0 : Int32)), .val (.int (0 : Int32)), .val (.int o3), .unset] [(.int (2 : Int32)), (.int (2 : Int32))]) _
                refine own_go (fun _ => XS.icmpNo X0.here hx rfl (hb hby d2_165) rfl (teq (show (2 : Int32) = (2 : Int32) from by decide)).2) ?_
                show own_Ends p e below s₁ (mkF m 168 #[.val (.int ld), .val (.int c1), .val (.int c2), .val (.int c3), .val (.int s_), .val (.int en), .val (.int (2 : Int32)), .val (.int (0 : Int32)), .val (.int (0 : Int32)), .val (.int o3), .unset] []) _
                refine own_go (fun _ => XS.iload X0.here hx rfl (hb hby d2_168) rfl) ?_
                show own_Ends p e below s₁ (mkF m 170 #[.val (.int ld), .val (.int c1), .val (.int c2), .val (.int c3), .val (.int s_), .val (.int en), .val (.int (2 : Int32)), .val (.int (0 : Int32)), .val (.int (0 : Int32)), .val (.int o3), .unset] [(.int (0 : Int32))]) _
                refine own_go (fun _ => XS.ifYes X0.here hx rfl (pc0 := 170) (pc' := 178) rfl (hb hby d2_170) rfl ((if0 _ _).trans (teq (show (0 : Int32) = (0 : Int32) from by decide)).1) (by decide) (by decide)) ?_
                show own_Ends p e below s₁ (mkF m 178 #[.val (.int ld), .val (.int c1), .val (.int c2), .val (.int c3), .val (.int s_), .val (.int en), .val (.int (2 : Int32)), .val (.int (0 : Int32)), .val (.int (0 : Int32)), .val (.int o3), .unset] []) _
                refine own_go (fun _ => XS.iconst X0.here hx rfl (hb hby d2_178)) ?_
                obtain ⟨fs, hr, hrun, hended, hW, hsame⟩ := X0.leave (v := some (.int (-1 : Int32))) (fun h => by rw [Bd.returns] at h; cases h)
                refine ⟨_, _, retI X0 hx Bd.returns (hb hby d2_179) hr, hrun, hended, _, _, rfl, ?_, ⟨_, rfl⟩, hW, hsame.mono (by decide) (by decide)⟩
                show Q_rmExp Z ld c1 c2 c3 s_ en h0 n0 _ s₁.heap _
                rw [e0]
                refine ⟨_, rfl, ?_, N0, rfl⟩
                obtain ⟨z1, z2, z3, z4, z5, z6⟩ := own_s s_ hs
                have t0 := (not_congr (own_ltC (192) (by decide))).mp hc4
                have t1 := (not_congr (own_ltC (224) (by decide))).mp hc13
                have t2 := (own_ltC (240) (by decide)).mp hc26
                have t3 := (not_congr (own_lt2)).mp hc59
                have t4 := (not_congr (own_top hc1)).mp hc72
                have t5 := (not_congr (own_top hc2)).mp hc90
                have y0 := own_c3 ld c1 c2
                exact own_A0 (by unfold own_P1; omega) (by unfold own_P2; omega) (by unfold own_P3; omega)
              refine own_go (fun _ => XS.iloadN X0.here hx rfl (hb hby d2_100) rfl) ?_
              refine own_go (fun _ => XS.sipush X0.here hx rfl (hb hby d2_101)) ?_
              refine own_go (fun _ => XS.iand X0.here hx rfl (hb hby d2_104) rfl) ?_
              show own_Ends p e below s₁ (mkF m 105 #[.val (.int ld), .val (.int c1), .val (.int c2), .val (.int c3), .val (.int s_), .val (.int en), .val (.int (2 : Int32)), .val (.int (0 : Int32)), .val (.int (0 : Int32)), .unset, .unset] [(.int (c3 &&& (192 : Int32)))]) _
              refine own_go (fun _ => XS.sipush X0.here hx rfl (hb hby d2_105)) ?_
              show own_Ends p e below s₁ (mkF m 108 #[.val (.int ld), .val (.int c1), .val (.int c2), .val (.int c3), .val (.int s_), .val (.int en), .val (.int (2 : Int32)), .val (.int (0 : Int32)), .val (.int (0 : Int32)), .unset, .unset] [(.int (128 : Int32)), (.int (c3 &&& (192 : Int32)))]) _
              by_cases hc108 : (c3 &&& (192 : Int32)) = (128 : Int32)
              · refine own_go (fun _ => XS.icmpNo X0.here hx rfl (hb hby d2_108) rfl (teq hc108).2) ?_
                show own_Ends p e below s₁ (mkF m 111 #[.val (.int ld), .val (.int c1), .val (.int c2), .val (.int c3), .val (.int s_), .val (.int en), .val (.int (2 : Int32)), .val (.int (0 : Int32)), .val (.int (0 : Int32)), .unset, .unset] []) _
                refine own_go (fun _ => XS.iconst X0.here hx rfl (hb hby d2_111)) ?_
                refine own_go (fun _ => XS.goto X0.here hx rfl (pc0 := 112) (pc' := 116) rfl (hb hby d2_112) (by decide) (by decide)) ?_
                refine own_go (fun _ => XS.istore X0.here hx rfl (hb hby d2_116) rfl (l' := #[.val (.int ld), .val (.int c1), .val (.int c2), .val (.int c3), .val (.int s_), .val (.int en), .val (.int (2 : Int32)), .val (.int (0 : Int32)), .val (.int (0 : Int32)), .val (.int (1 : Int32)), .unset]) rfl) ?_
                show own_Ends p e below s₁ (mkF m 118 #[.val (.int ld), .val (.int c1), .val (.int c2), .val (.int c3), .val (.int s_), .val (.int en), .val (.int (2 : Int32)), .val (.int (0 : Int32)), .val (.int (0 : Int32)), .val (.int (1 : Int32)), .unset] []) _
                exact J118 _
              · refine own_go (fun _ => XS.icmpYes X0.here hx rfl (pc0 := 108) (pc' := 115) rfl (hb hby d2_108) rfl (feq hc108).2 (by decide) (by decide)) ?_
                show own_Ends p e below s₁ (mkF m 115 #[.val (.int ld), .val (.int c1), .val (.int c2), .val (.int c3), .val (.int s_), .val (.int en), .val (.int (2 : Int32)), .val (.int (0 : Int32)), .val (.int (0 : Int32)), .unset, .unset] []) _
                refine own_go (fun _ => XS.iconst X0.here hx rfl (hb hby d2_115)) ?_
                refine own_go (fun _ => XS.istore X0.here hx rfl (hb hby d2_116) rfl (l' := #[.val (.int ld), .val (.int c1), .val (.int c2), .val (.int c3), .val (.int s_), .val (.int en), .val (.int (2 : Int32)), .val (.int (0 : Int32)), .val (.int (0 : Int32)), .val (.int (0 : Int32)), .unset]) rfl) ?_
                show own_Ends p e below s₁ (mkF m 118 #[.val (.int ld), .val (.int c1), .val (.int c2), .val (.int c3), .val (.int s_), .val (.int en), .val (.int (2 : Int32)), .val (.int (0 : Int32)), .val (.int (0 : Int32)), .val (.int (0 : Int32)), .unset] []) _
                exact J118 _
      · refine own_go (fun _ => XS.icmpYes X0.here hx rfl (pc0 := 26) (pc' := 35) rfl (hb hby d2_26) rfl (flt hc26).2.1 (by decide) (by decide)) ?_
        show own_Ends p e below s₁ (mkF m 35 #[.val (.int ld), .val (.int c1), .val (.int c2), .val (.int c3), .val (.int s_), .val (.int en), .unset, .unset, .unset, .unset, .unset] []) _
        refine own_go (fun _ => XS.iloadN X0.here hx rfl (hb hby d2_35) rfl) ?_
        refine own_go (fun _ => XS.sipush X0.here hx rfl (hb hby d2_36)) ?_
        show own_Ends p e below s₁ (mkF m 39 #[.val (.int ld), .val (.int c1), .val (.int c2), .val (.int c3), .val (.int s_), .val (.int en), .unset, .unset, .unset, .unset, .unset] [(.int (248 : Int32)), (.int ld)]) _
        by_cases hc39 : ld < (248 : Int32)
        · refine own_go (fun _ => XS.icmpNo X0.here hx rfl (hb hby d2_39) rfl (tlt hc39).2.1) ?_
          show own_Ends p e below s₁ (mkF m 42 #[.val (.int ld), .val (.int c1), .val (.int c2), .val (.int c3), .val (.int s_), .val (.int en), .unset, .unset, .unset, .unset, .unset] []) _
          refine own_go (fun _ => XS.iconst X0.here hx rfl (hb hby d2_42)) ?_
          refine own_go (fun _ => XS.istore X0.here hx rfl (hb hby d2_43) rfl (l' := #[.val (.int ld), .val (.int c1), .val (.int c2), .val (.int c3), .val (.int s_), .val (.int en), .val (.int (3 : Int32)), .unset, .unset, .unset, .unset]) rfl) ?_
          show own_Ends p e below s₁ (mkF m 45 #[.val (.int ld), .val (.int c1), .val (.int c2), .val (.int c3), .val (.int s_), .val (.int en), .val (.int (3 : Int32)), .unset, .unset, .unset, .unset] []) _
          refine own_go (fun _ => XS.goto X0.here hx rfl (pc0 := 45) (pc' := 50) rfl (hb hby d2_45) (by decide) (by decide)) ?_
          refine own_go (fun _ => XS.iload X0.here hx rfl (hb hby d2_50) rfl) ?_
          refine own_go (fun _ => XS.iload X0.here hx rfl (hb hby d2_52) rfl) ?_
          refine own_go (fun _ => XS.iadd X0.here hx rfl (hb hby d2_54) rfl) ?_
          show own_Ends p e below s₁ (mkF m 55 #[.val (.int ld), .val (.int c1), .val (.int c2), .val (.int c3), .val (.int s_), .val (.int en), .val (.int (3 : Int32)), .unset, .unset, .unset, .unset] [(.int (s_ + (3 : Int32)))]) _
          refine own_go (fun _ => XS.iconst X0.here hx rfl (hb hby d2_55)) ?_
          refine own_go (fun _ => XS.iadd X0.here hx rfl (hb hby d2_56) rfl) ?_
          show own_Ends p e below s₁ (mkF m 57 #[.val (.int ld), .val (.int c1), .val (.int c2), .val (.int c3), .val (.int s_), .val (.int en), .val (.int (3 : Int32)), .unset, .unset, .unset, .unset] [(.int ((s_ + (3 : Int32)) + (1 : Int32)))]) _
          refine own_go (fun _ => XS.iload X0.here hx rfl (hb hby d2_57) rfl) ?_
          show own_Ends p e below s₁ (mkF m 59 #[.val (.int ld), .val (.int c1), .val (.int c2), .val (.int c3), .val (.int s_), .val (.int en), .val (.int (3 : Int32)), .unset, .unset, .unset, .unset] [(.int en), (.int ((s_ + (3 : Int32)) + (1 : Int32)))]) _
          by_cases hc59 : en < ((s_ + (3 : Int32)) + (1 : Int32))
          · refine own_go (fun _ => XS.icmpNo X0.here hx rfl (hb hby d2_59) rfl (tlt hc59).2.2.2) ?_
            show own_Ends p e below s₁ (mkF m 62 #[.val (.int ld), .val (.int c1), .val (.int c2), .val (.int c3), .val (.int s_), .val (.int en), .val (.int (3 : Int32)), .unset, .unset, .unset, .unset] []) _
            refine own_go (fun _ => XS.iconst X0.here hx rfl (hb hby d2_62)) ?_
            obtain ⟨fs, hr, hrun, hended, hW, hsame⟩ := X0.leave (v := some (.int (-1 : Int32))) (fun h => by rw [Bd.returns] at h; cases h)
            refine ⟨_, _, retI X0 hx Bd.returns (hb hby d2_63) hr, hrun, hended, _, _, rfl, ?_, ⟨_, rfl⟩, hW, hsame.mono (by decide) (by decide)⟩
            show Q_rmExp Z ld c1 c2 c3 s_ en h0 n0 _ s₁.heap _
            rw [e0]
            refine ⟨_, rfl, ?_, N0, rfl⟩
            obtain ⟨z1, z2, z3, z4, z5, z6⟩ := own_s s_ hs
            have t0 := (not_congr (own_ltC (192) (by decide))).mp hc4
            have t1 := (not_congr (own_ltC (224) (by decide))).mp hc13
            have t2 := (not_congr (own_ltC (240) (by decide))).mp hc26
            have t3 := (own_ltC (248) (by decide)).mp hc39
            have t4 := (own_lt2).mp hc59
            have y0 := own_c4 ld c1 c2 c3
            exact own_A0 (by unfold own_P1; omega) (by unfold own_P2; omega) (by unfold own_P3; omega)
          · refine own_go (fun _ => XS.icmpYes X0.here hx rfl (pc0 := 59) (pc' := 64) rfl (hb hby d2_59) rfl (flt hc59).2.2.2 (by decide) (by decide)) ?_
            show own_Ends p e below s₁ (mkF m 64 #[.val (.int ld), .val (.int c1), .val (.int c2), .val (.int c3), .val (.int s_), .val (.int en), .val (.int (3 : Int32)), .unset, .unset, .unset, .unset] []) _
            refine own_go (fun _ => XS.iloadN X0.here hx rfl (hb hby d2_64) rfl) ?_
            refine own_go (fun _ => XS.sipush X0.here hx rfl (hb hby d2_65)) ?_
            refine own_go (fun _ => XS.iand X0.here hx rfl (hb hby d2_68) rfl) ?_
            show own_Ends p e below s₁ (mkF m 69 #[.val (.int ld), .val (.int c1), .val (.int c2), .val (.int c3), .val (.int s_), .val (.int en), .val (.int (3 : Int32)), .unset, .unset, .unset, .unset] [(.int (c1 &&& (192 : Int32)))]) _
            refine own_go (fun _ => XS.sipush X0.here hx rfl (hb hby d2_69)) ?_
            show own_Ends p e below s₁ (mkF m 72 #[.val (.int ld), .val (.int c1), .val (.int c2), .val (.int c3), .val (.int s_), .val (.int en), .val (.int (3 : Int32)), .unset, .unset, .unset, .unset] [(.int (128 : Int32)), (.int (c1 &&& (192 : Int32)))]) _
            by_cases hc72 : (c1 &&& (192 : Int32)) = (128 : Int32)
            · refine own_go (fun _ => XS.icmpNo X0.here hx rfl (hb hby d2_72) rfl (teq hc72).2) ?_
              show own_Ends p e below s₁ (mkF m 75 #[.val (.int ld), .val (.int c1), .val (.int c2), .val (.int c3), .val (.int s_), .val (.int en), .val (.int (3 : Int32)), .unset, .unset, .unset, .unset] []) _
              refine own_go (fun _ => XS.iconst X0.here hx rfl (hb hby d2_75)) ?_
              refine own_go (fun _ => XS.goto X0.here hx rfl (pc0 := 76) (pc' := 80) rfl (hb hby d2_76) (by decide) (by decide)) ?_
              refine own_go (fun _ => XS.istore X0.here hx rfl (hb hby d2_80) rfl (l' := #[.val (.int ld), .val (.int c1), .val (.int c2), .val (.int c3), .val (.int s_), .val (.int en), .val (.int (3 : Int32)), .val (.int (1 : Int32)), .unset, .unset, .unset]) rfl) ?_
              show own_Ends p e below s₁ (mkF m 82 #[.val (.int ld), .val (.int c1), .val (.int c2), .val (.int c3), .val (.int s_), .val (.int en), .val (.int (3 : Int32)), .val (.int (1 : Int32)), .unset, .unset, .unset] []) _
              refine own_go (fun _ => XS.iloadN X0.here hx rfl (hb hby d2_82) rfl) ?_
              refine own_go (fun _ => XS.sipush X0.here hx rfl (hb hby d2_83)) ?_
              refine own_go (fun _ => XS.iand X0.here hx rfl (hb hby d2_86) rfl) ?_
              show own_Ends p e below s₁ (mkF m 87 #[.val (.int ld), .val (.int c1), .val (.int c2), .val (.int c3), .val (.int s_), .val (.int en), .val (.int (3 : Int32)), .val (.int (1 : Int32)), .unset, .unset, .unset] [(.int (c2 &&& (192 : Int32)))]) _
              refine own_go (fun _ => XS.sipush X0.here hx rfl (hb hby d2_87)) ?_
              show own_Ends p e below s₁ (mkF m 90 #[.val (.int ld), .val (.int c1), .val (.int c2), .val (.int c3), .val (.int s_), .val (.int en), .val (.int (3 : Int32)), .val (.int (1 : Int32)), .unset, .unset, .unset] [(.int (128 : Int32)), (.int (c2 &&& (192 : Int32)))]) _
              by_cases hc90 : (c2 &&& (192 : Int32)) = (128 : Int32)
              · refine own_go (fun _ => XS.icmpNo X0.here hx rfl (hb hby d2_90) rfl (teq hc90).2) ?_
                show own_Ends p e below s₁ (mkF m 93 #[.val (.int ld), .val (.int c1), .val (.int c2), .val (.int c3), .val (.int s_), .val (.int en), .val (.int (3 : Int32)), .val (.int (1 : Int32)), .unset, .unset, .unset] []) _
                refine own_go (fun _ => XS.iconst X0.here hx rfl (hb hby d2_93)) ?_
                refine own_go (fun _ => XS.goto X0.here hx rfl (pc0 := 94) (pc' := 98) rfl (hb hby d2_94) (by decide) (by decide)) ?_
                refine own_go (fun _ => XS.istore X0.here hx rfl (hb hby d2_98) rfl (l' := #[.val (.int ld), .val (.int c1), .val (.int c2), .val (.int c3), .val (.int s_), .val (.int en), .val (.int (3 : Int32)), .val (.int (1 : Int32)), .val (.int (1 : Int32)), .unset, .unset]) rfl) ?_
                show own_Ends p e below s₁ (mkF m 100 #[.val (.int ld), .val (.int c1), .val (.int c2), .val (.int c3), .val (.int s_), .val (.int en), .val (.int (3 : Int32)), .val (.int (1 : Int32)), .val (.int (1 : Int32)), .unset, .unset] []) _
                refine own_go (fun _ => XS.iloadN X0.here hx rfl (hb hby d2_100) rfl) ?_
                refine own_go (fun _ => XS.sipush X0.here hx rfl (hb hby d2_101)) ?_
                refine own_go (fun _ => XS.iand X0.here hx rfl (hb hby d2_104) rfl) ?_
                show own_Ends p e below s₁ (mkF m 105 #[.val (.int ld), .val (.int c1), .val (.int c2), .val (.int c3), .val (.int s_), .val (.int en), .val (.int (3 : Int32)), .val (.int (1 : Int32)), .val (.int (1 : Int32)), .unset, .unset] [(.int (c3 &&& (192 : Int32)))]) _
                refine own_go (fun _ => XS.sipush X0.here hx rfl (hb hby d2_105)) ?_
                show own_Ends p e below s₁ (mkF m 108 #[.val (.int ld), .val (.int c1), .val (.int c2), .val (.int c3), .val (.int s_), .val (.int en), .val (.int (3 : Int32)), .val (.int (1 : Int32)), .val (.int (1 : Int32)), .unset, .unset] [(.int (128 : Int32)), (.int (c3 &&& (192 : Int32)))]) _
                by_cases hc108 : (c3 &&& (192 : Int32)) = (128 : Int32)
                · refine own_go (fun _ => XS.icmpNo X0.here hx rfl (hb hby d2_108) rfl (teq hc108).2) ?_
                  show own_Ends p e below s₁ (mkF m 111 #[.val (.int ld), .val (.int c1), .val (.int c2), .val (.int c3), .val (.int s_), .val (.int en), .val (.int (3 : Int32)), .val (.int (1 : Int32)), .val (.int (1 : Int32)), .unset, .unset] []) _
                  refine own_go (fun _ => XS.iconst X0.here hx rfl (hb hby d2_111)) ?_
                  refine own_go (fun _ => XS.goto X0.here hx rfl (pc0 := 112) (pc' := 116) rfl (hb hby d2_112) (by decide) (by decide)) ?_
                  refine own_go (fun _ => XS.istore X0.here hx rfl (hb hby d2_116) rfl (l' := #[.val (.int ld), .val (.int c1), .val (.int c2), .val (.int c3), .val (.int s_), .val (.int en), .val (.int (3 : Int32)), .val (.int (1 : Int32)), .val (.int (1 : Int32)), .val (.int (1 : Int32)), .unset]) rfl) ?_
                  show own_Ends p e below s₁ (mkF m 118 #[.val (.int ld), .val (.int c1), .val (.int c2), .val (.int c3), .val (.int s_), .val (.int en), .val (.int (3 : Int32)), .val (.int (1 : Int32)), .val (.int (1 : Int32)), .val (.int (1 : Int32)), .unset] []) _
                  refine own_go (fun _ => XS.iload X0.here hx rfl (hb hby d2_118) rfl) ?_
                  refine own_go (fun _ => XS.iconst X0.here hx rfl (hb hby d2_120)) ?_
                  show own_Ends p e below s₁ (mkF m 121 #[.val (.int ld), .val (.int c1), .val (.int c2), .val (.int c3), .val (.int s_), .val (.int en), .val (.int (3 : Int32)), .val (.int (1 : Int32)), .val (.int (1 : Int32)), .val (.int (1 : Int32)), .unset] [(.int (1 : Int32)), (.int (3 : Int32))]) _
                  refine own_go (fun _ => XS.icmpYes X0.here hx rfl (pc0 := 121) (pc' := 162) rfl (hb hby d2_121) rfl (feq (show ¬ ((3 : Int32) = (1 : Int32)) from by decide)).2 (by decide) (by decide)) ?_
                  show own_Ends p e below s₁ (mkF m 162 #[.val (.int ld), .val (.int c1), .val (.int c2), .val (.int c3), .val (.int s_), .val (.int en), .val (.int (3 : Int32)), .val (.int (1 : Int32)), .val (.int (1 : Int32)), .val (.int (1 : Int32)), .unset] []) _
                  refine own_go (fun _ => XS.iload X0.here hx rfl (hb hby d2_162) rfl) ?_
                  refine own_go (fun _ => XS.iconst X0.here hx rfl (hb hby d2_164)) ?_
                  show own_Ends p e below s₁ (mkF m 165 #[.val (.int ld), .val (.int c1), .val (.int c2), .val (.int c3), .val (.int s_), .val (.int en), .val (.int (3 : Int32)), .val (.int (1 : Int32)), .val (.int (1 : Int32)), .val (.int (1 : Int32)), .unset] [(.int (2 : Int32)), (.int (3 : Int32))]) _
                  refine own_go (fun _ => XS.icmpYes X0.here hx rfl (pc0 := 165) (pc' := 233) rfl (hb hby d2_165) rfl (feq (show ¬ ((3 : Int32) = (2 : Int32)) from by decide)).2 (by decide) (by decide)) ?_
                  show own_Ends p e below s₁ (mkF m 233 #[.val (.int ld), .val (.int c1), .val (.int c2), .val (.int c3), .val (.int s_), .val (.int en), .val (.int (3 : Int32)), .val (.int (1 : Int32)), .val (.int (1 : Int32)), .val (.int (1 : Int32)), .unset] []) _
                  refine own_go (fun _ => XS.iload X0.here hx rfl (hb hby d2_233) rfl) ?_
                  show own_Ends p e below s₁ (mkF m 235 #[.val (.int ld), .val (.int c1), .val (.int c2), .val (.int c3), .val (.int s_), .val (.int en), .val (.int (3 : Int32)), .val (.int (1 : Int32)), .val (.int (1 : Int32)), .val (.int (1 : Int32)), .unset] [(.int (1 : Int32))]) _
                  refine own_go (fun _ => XS.ifNo X0.here hx rfl (hb hby d2_235) rfl ((if0 _ _).trans (feq (show ¬ ((1 : Int32) = (0 : Int32)) from by decide)).1)) ?_
                  show own_Ends p e below s₁ (mkF m 238 #[.val (.int ld), .val (.int c1), .val (.int c2), .val (.int c3), .val (.int s_), .val (.int en), .val (.int (3 : Int32)), .val (.int (1 : Int32)), .val (.int (1 : Int32)), .val (.int (1 : Int32)), .unset] []) _
                  refine own_go (fun _ => XS.iload X0.here hx rfl (hb hby d2_238) rfl) ?_
                  show own_Ends p e below s₁ (mkF m 240 #[.val (.int ld), .val (.int c1), .val (.int c2), .val (.int c3), .val (.int s_), .val (.int en), .val (.int (3 : Int32)), .val (.int (1 : Int32)), .val (.int (1 : Int32)), .val (.int (1 : Int32)), .unset] [(.int (1 : Int32))]) _
                  refine own_go (fun _ => XS.ifNo X0.here hx rfl (hb hby d2_240) rfl ((if0 _ _).trans (feq (show ¬ ((1 : Int32) = (0 : Int32)) from by decide)).1)) ?_
                  show own_Ends p e below s₁ (mkF m 243 #[.val (.int ld), .val (.int c1), .val (.int c2), .val (.int c3), .val (.int s_), .val (.int en), .val (.int (3 : Int32)), .val (.int (1 : Int32)), .val (.int (1 : Int32)), .val (.int (1 : Int32)), .unset] []) _
                  refine own_go (fun _ => XS.iload X0.here hx rfl (hb hby d2_243) rfl) ?_
                  show own_Ends p e below s₁ (mkF m 245 #[.val (.int ld), .val (.int c1), .val (.int c2), .val (.int c3), .val (.int s_), .val (.int en), .val (.int (3 : Int32)), .val (.int (1 : Int32)), .val (.int (1 : Int32)), .val (.int (1 : Int32)), .unset] [(.int (1 : Int32))]) _
                  refine own_go (fun _ => XS.ifYes X0.here hx rfl (pc0 := 245) (pc' := 250) rfl (hb hby d2_245) rfl ((if0 _ _).trans (feq (show ¬ ((1 : Int32) = (0 : Int32)) from by decide)).2) (by decide) (by decide)) ?_
                  show own_Ends p e below s₁ (mkF m 250 #[.val (.int ld), .val (.int c1), .val (.int c2), .val (.int c3), .val (.int s_), .val (.int en), .val (.int (3 : Int32)), .val (.int (1 : Int32)), .val (.int (1 : Int32)), .val (.int (1 : Int32)), .unset] []) _
                  refine own_go (fun _ => XS.iloadN X0.here hx rfl (hb hby d2_250) rfl) ?_
                  refine own_go (fun _ => XS.bipush X0.here hx rfl (hb hby d2_251)) ?_
                  refine own_go (fun _ => XS.iand X0.here hx rfl (hb hby d2_253) rfl) ?_
                  show own_Ends p e below s₁ (mkF m 254 #[.val (.int ld), .val (.int c1), .val (.int c2), .val (.int c3), .val (.int s_), .val (.int en), .val (.int (3 : Int32)), .val (.int (1 : Int32)), .val (.int (1 : Int32)), .val (.int (1 : Int32)), .unset] [(.int (ld &&& (7 : Int32)))]) _
                  refine own_go (fun _ => XS.bipush X0.here hx rfl (hb hby d2_254)) ?_
                  refine own_go (fun _ => XS.ishl X0.here hx rfl (hb hby d2_256) rfl) ?_
                  show own_Ends p e below s₁ (mkF m 257 #[.val (.int ld), .val (.int c1), .val (.int c2), .val (.int c3), .val (.int s_), .val (.int en), .val (.int (3 : Int32)), .val (.int (1 : Int32)), .val (.int (1 : Int32)), .val (.int (1 : Int32)), .unset] [(.int ((ld &&& (7 : Int32)) <<< ((18 : Int32) &&& 31)))]) _
                  refine own_go (fun _ => XS.iloadN X0.here hx rfl (hb hby d2_257) rfl) ?_
                  refine own_go (fun _ => XS.bipush X0.here hx rfl (hb hby d2_258)) ?_
                  refine own_go (fun _ => XS.iand X0.here hx rfl (hb hby d2_260) rfl) ?_
                  show own_Ends p e below s₁ (mkF m 261 #[.val (.int ld), .val (.int c1), .val (.int c2), .val (.int c3), .val (.int s_), .val (.int en), .val (.int (3 : Int32)), .val (.int (1 : Int32)), .val (.int (1 : Int32)), .val (.int (1 : Int32)), .unset] [(.int (c1 &&& (63 : Int32))), (.int ((ld &&& (7 : Int32)) <<< ((18 : Int32) &&& 31)))]) _
                  refine own_go (fun _ => XS.bipush X0.here hx rfl (hb hby d2_261)) ?_
                  refine own_go (fun _ => XS.ishl X0.here hx rfl (hb hby d2_263) rfl) ?_
                  show own_Ends p e below s₁ (mkF m 264 #[.val (.int ld), .val (.int c1), .val (.int c2), .val (.int c3), .val (.int s_), .val (.int en), .val (.int (3 : Int32)), .val (.int (1 : Int32)), .val (.int (1 : Int32)), .val (.int (1 : Int32)), .unset] [(.int ((c1 &&& (63 : Int32)) <<< ((12 : Int32) &&& 31))), (.int ((ld &&& (7 : Int32)) <<< ((18 : Int32) &&& 31)))]) _
                  refine own_go (fun _ => XS.ior X0.here hx rfl (hb hby d2_264) rfl) ?_
                  show own_Ends p e below s₁ (mkF m 265 #[.val (.int ld), .val (.int c1), .val (.int c2), .val (.int c3), .val (.int s_), .val (.int en), .val (.int (3 : Int32)), .val (.int (1 : Int32)), .val (.int (1 : Int32)), .val (.int (1 : Int32)), .unset] [(.int (((ld &&& (7 : Int32)) <<< ((18 : Int32) &&& 31)) ||| ((c1 &&& (63 : Int32)) <<< ((12 : Int32) &&& 31))))]) _
                  refine own_go (fun _ => XS.iloadN X0.here hx rfl (hb hby d2_265) rfl) ?_
                  refine own_go (fun _ => XS.bipush X0.here hx rfl (hb hby d2_266)) ?_
                  refine own_go (fun _ => XS.iand X0.here hx rfl (hb hby d2_268) rfl) ?_
                  show own_Ends p e below s₁ (mkF m 269 #[.val (.int ld), .val (.int c1), .val (.int c2), .val (.int c3), .val (.int s_), .val (.int en), .val (.int (3 : Int32)), .val (.int (1 : Int32)), .val (.int (1 : Int32)), .val (.int (1 : Int32)), .unset] [(.int (c2 &&& (63 : Int32))), (.int (((ld &&& (7 : Int32)) <<< ((18 : Int32) &&& 31)) ||| ((c1 &&& (63 : Int32)) <<< ((12 : Int32) &&& 31))))]) _
                  refine own_go (fun _ => XS.bipush X0.here hx rfl (hb hby d2_269)) ?_
                  refine own_go (fun _ => XS.ishl X0.here hx rfl (hb hby d2_271) rfl) ?_
                  show own_Ends p e below s₁ (mkF m 272 #[.val (.int ld), .val (.int c1), .val (.int c2), .val (.int c3), .val (.int s_), .val (.int en), .val (.int (3 : Int32)), .val (.int (1 : Int32)), .val (.int (1 : Int32)), .val (.int (1 : Int32)), .unset] [(.int ((c2 &&& (63 : Int32)) <<< ((6 : Int32) &&& 31))), (.int (((ld &&& (7 : Int32)) <<< ((18 : Int32) &&& 31)) ||| ((c1 &&& (63 : Int32)) <<< ((12 : Int32) &&& 31))))]) _
                  refine own_go (fun _ => XS.ior X0.here hx rfl (hb hby d2_272) rfl) ?_
                  show own_Ends p e below s₁ (mkF m 273 #[.val (.int ld), .val (.int c1), .val (.int c2), .val (.int c3), .val (.int s_), .val (.int en), .val (.int (3 : Int32)), .val (.int (1 : Int32)), .val (.int (1 : Int32)), .val (.int (1 : Int32)), .unset] [(.int ((((ld &&& (7 : Int32)) <<< ((18 : Int32) &&& 31)) ||| ((c1 &&& (63 : Int32)) <<< ((12 : Int32) &&& 31))) ||| ((c2 &&& (63 : Int32)) <<< ((6 : Int32) &&& 31))))]) _
                  refine own_go (fun _ => XS.iloadN X0.here hx rfl (hb hby d2_273) rfl) ?_
                  refine own_go (fun _ => XS.bipush X0.here hx rfl (hb hby d2_274)) ?_
                  refine own_go (fun _ => XS.iand X0.here hx rfl (hb hby d2_276) rfl) ?_
                  show own_Ends p e below s₁ (mkF m 277 #[.val (.int ld), .val (.int c1), .val (.int c2), .val (.int c3), .val (.int s_), .val (.int en), .val (.int (3 : Int32)), .val (.int (1 : Int32)), .val (.int (1 : Int32)), .val (.int (1 : Int32)), .unset] [(.int (c3 &&& (63 : Int32))), (.int ((((ld &&& (7 : Int32)) <<< ((18 : Int32) &&& 31)) ||| ((c1 &&& (63 : Int32)) <<< ((12 : Int32) &&& 31))) ||| ((c2 &&& (63 : Int32)) <<< ((6 : Int32) &&& 31))))]) _
                  refine own_go (fun _ => XS.ior X0.here hx rfl (hb hby d2_277) rfl) ?_
                  show own_Ends p e below s₁ (mkF m 278 #[.val (.int ld), .val (.int c1), .val (.int c2), .val (.int c3), .val (.int s_), .val (.int en), .val (.int (3 : Int32)), .val (.int (1 : Int32)), .val (.int (1 : Int32)), .val (.int (1 : Int32)), .unset] [(.int (((((ld &&& (7 : Int32)) <<< ((18 : Int32) &&& 31)) ||| ((c1 &&& (63 : Int32)) <<< ((12 : Int32) &&& 31))) ||| ((c2 &&& (63 : Int32)) <<< ((6 : Int32) &&& 31))) ||| (c3 &&& (63 : Int32))))]) _
                  refine own_go (fun _ => XS.istore X0.here hx rfl (hb hby d2_278) rfl (l' := #[.val (.int ld), .val (.int c1), .val (.int c2), .val (.int c3), .val (.int s_), .val (.int en), .val (.int (3 : Int32)), .val (.int (1 : Int32)), .val (.int (1 : Int32)), .val (.int (1 : Int32)), .val (.int (((((ld &&& (7 : Int32)) <<< ((18 : Int32) &&& 31)) ||| ((c1 &&& (63 : Int32)) <<< ((12 : Int32) &&& 31))) ||| ((c2 &&& (63 : Int32)) <<< ((6 : Int32) &&& 31))) ||| (c3 &&& (63 : Int32))))]) rfl) ?_
                  show own_Ends p e below s₁ (mkF m 280 #[.val (.int ld), .val (.int c1), .val (.int c2), .val (.int c3), .val (.int s_), .val (.int en), .val (.int (3 : Int32)), .val (.int (1 : Int32)), .val (.int (1 : Int32)), .val (.int (1 : Int32)), .val (.int (((((ld &&& (7 : Int32)) <<< ((18 : Int32) &&& 31)) ||| ((c1 &&& (63 : Int32)) <<< ((12 : Int32) &&& 31))) ||| ((c2 &&& (63 : Int32)) <<< ((6 : Int32) &&& 31))) ||| (c3 &&& (63 : Int32))))] []) _
                  refine own_go (fun _ => XS.iload X0.here hx rfl (hb hby d2_280) rfl) ?_
                  refine own_go (X0.ldcInt hx hown (mvT hZ (hw _ (List.mem_of_getElem? (i := 12) rfl))) (g := (mkF m 282 #[.val (.int ld), .val (.int c1), .val (.int c2), .val (.int c3), .val (.int s_), .val (.int en), .val (.int (3 : Int32)), .val (.int (1 : Int32)), .val (.int (1 : Int32)), .val (.int (1 : Int32)), .val (.int (((((ld &&& (7 : Int32)) <<< ((18 : Int32) &&& 31)) ||| ((c1 &&& (63 : Int32)) <<< ((12 : Int32) &&& 31))) ||| ((c2 &&& (63 : Int32)) <<< ((6 : Int32) &&& 31))) ||| (c3 &&& (63 : Int32))))] [(.int (((((ld &&& (7 : Int32)) <<< ((18 : Int32) &&& 31)) ||| ((c1 &&& (63 : Int32)) <<< ((12 : Int32) &&& 31))) ||| ((c2 &&& (63 : Int32)) <<< ((6 : Int32) &&& 31))) ||| (c3 &&& (63 : Int32))))])) rfl (hb hby d2_282)) ?_
                  show own_Ends p e below s₁ (mkF m 284 #[.val (.int ld), .val (.int c1), .val (.int c2), .val (.int c3), .val (.int s_), .val (.int en), .val (.int (3 : Int32)), .val (.int (1 : Int32)), .val (.int (1 : Int32)), .val (.int (1 : Int32)), .val (.int (((((ld &&& (7 : Int32)) <<< ((18 : Int32) &&& 31)) ||| ((c1 &&& (63 : Int32)) <<< ((12 : Int32) &&& 31))) ||| ((c2 &&& (63 : Int32)) <<< ((6 : Int32) &&& 31))) ||| (c3 &&& (63 : Int32))))] [(.int (65536 : Int32)), (.int (((((ld &&& (7 : Int32)) <<< ((18 : Int32) &&& 31)) ||| ((c1 &&& (63 : Int32)) <<< ((12 : Int32) &&& 31))) ||| ((c2 &&& (63 : Int32)) <<< ((6 : Int32) &&& 31))) ||| (c3 &&& (63 : Int32))))]) _
                  by_cases hc284 : (((((ld &&& (7 : Int32)) <<< ((18 : Int32) &&& 31)) ||| ((c1 &&& (63 : Int32)) <<< ((12 : Int32) &&& 31))) ||| ((c2 &&& (63 : Int32)) <<< ((6 : Int32) &&& 31))) ||| (c3 &&& (63 : Int32))) < (65536 : Int32)
                  · refine own_go (fun _ => XS.icmpYes X0.here hx rfl (pc0 := 284) (pc' := 301) rfl (hb hby d2_284) rfl (tlt hc284).1 (by decide) (by decide)) ?_
                    show own_Ends p e below s₁ (mkF m 301 #[.val (.int ld), .val (.int c1), .val (.int c2), .val (.int c3), .val (.int s_), .val (.int en), .val (.int (3 : Int32)), .val (.int (1 : Int32)), .val (.int (1 : Int32)), .val (.int (1 : Int32)), .val (.int (((((ld &&& (7 : Int32)) <<< ((18 : Int32) &&& 31)) ||| ((c1 &&& (63 : Int32)) <<< ((12 : Int32) &&& 31))) ||| ((c2 &&& (63 : Int32)) <<< ((6 : Int32) &&& 31))) ||| (c3 &&& (63 : Int32))))] []) _
                    refine own_go (fun _ => XS.iconst X0.here hx rfl (hb hby d2_301)) ?_
                    obtain ⟨fs, hr, hrun, hended, hW, hsame⟩ := X0.leave (v := some (.int (-1 : Int32))) (fun h => by rw [Bd.returns] at h; cases h)
                    refine ⟨_, _, retI X0 hx Bd.returns (hb hby d2_302) hr, hrun, hended, _, _, rfl, ?_, ⟨_, rfl⟩, hW, hsame.mono (by decide) (by decide)⟩
                    show Q_rmExp Z ld c1 c2 c3 s_ en h0 n0 _ s₁.heap _
                    rw [e0]
                    refine ⟨_, rfl, ?_, N0, rfl⟩
                    obtain ⟨z1, z2, z3, z4, z5, z6⟩ := own_s s_ hs
                    have t0 := (not_congr (own_ltC (192) (by decide))).mp hc4
                    have t1 := (not_congr (own_ltC (224) (by decide))).mp hc13
                    have t2 := (not_congr (own_ltC (240) (by decide))).mp hc26
                    have t3 := (own_ltC (248) (by decide)).mp hc39
                    have t4 := (not_congr (own_lt2)).mp hc59
                    have t5 := (own_top hc1).mp hc72
                    have t6 := (own_top hc2).mp hc90
                    have t7 := (own_top hc3).mp hc108
                    have t8 := (own_ltC (65536) (by decide)).mp hc284
                    have y0 := own_c4 ld c1 c2 c3
                    exact own_A0 (by unfold own_P1; omega) (by unfold own_P2; omega) (by unfold own_P3; omega)
                  · refine own_go (fun _ => XS.icmpNo X0.here hx rfl (hb hby d2_284) rfl (flt hc284).1) ?_
                    show own_Ends p e below s₁ (mkF m 287 #[.val (.int ld), .val (.int c1), .val (.int c2), .val (.int c3), .val (.int s_), .val (.int en), .val (.int (3 : Int32)), .val (.int (1 : Int32)), .val (.int (1 : Int32)), .val (.int (1 : Int32)), .val (.int (((((ld &&& (7 : Int32)) <<< ((18 : Int32) &&& 31)) ||| ((c1 &&& (63 : Int32)) <<< ((12 : Int32) &&& 31))) ||| ((c2 &&& (63 : Int32)) <<< ((6 : Int32) &&& 31))) ||| (c3 &&& (63 : Int32))))] []) _
                    refine own_go (fun _ => XS.iload X0.here hx rfl (hb hby d2_287) rfl) ?_
                    refine own_go (X0.ldcInt hx hown (mvT hZ (hw _ (List.mem_of_getElem? (i := 13) rfl))) (g := (mkF m 289 #[.val (.int ld), .val (.int c1), .val (.int c2), .val (.int c3), .val (.int s_), .val (.int en), .val (.int (3 : Int32)), .val (.int (1 : Int32)), .val (.int (1 : Int32)), .val (.int (1 : Int32)), .val (.int (((((ld &&& (7 : Int32)) <<< ((18 : Int32) &&& 31)) ||| ((c1 &&& (63 : Int32)) <<< ((12 : Int32) &&& 31))) ||| ((c2 &&& (63 : Int32)) <<< ((6 : Int32) &&& 31))) ||| (c3 &&& (63 : Int32))))] [(.int (((((ld &&& (7 : Int32)) <<< ((18 : Int32) &&& 31)) ||| ((c1 &&& (63 : Int32)) <<< ((12 : Int32) &&& 31))) ||| ((c2 &&& (63 : Int32)) <<< ((6 : Int32) &&& 31))) ||| (c3 &&& (63 : Int32))))])) rfl (hb hby d2_289)) ?_
                    show own_Ends p e below s₁ (mkF m 291 #[.val (.int ld), .val (.int c1), .val (.int c2), .val (.int c3), .val (.int s_), .val (.int en), .val (.int (3 : Int32)), .val (.int (1 : Int32)), .val (.int (1 : Int32)), .val (.int (1 : Int32)), .val (.int (((((ld &&& (7 : Int32)) <<< ((18 : Int32) &&& 31)) ||| ((c1 &&& (63 : Int32)) <<< ((12 : Int32) &&& 31))) ||| ((c2 &&& (63 : Int32)) <<< ((6 : Int32) &&& 31))) ||| (c3 &&& (63 : Int32))))] [(.int (1114111 : Int32)), (.int (((((ld &&& (7 : Int32)) <<< ((18 : Int32) &&& 31)) ||| ((c1 &&& (63 : Int32)) <<< ((12 : Int32) &&& 31))) ||| ((c2 &&& (63 : Int32)) <<< ((6 : Int32) &&& 31))) ||| (c3 &&& (63 : Int32))))]) _
                    by_cases hc291 : (1114111 : Int32) < (((((ld &&& (7 : Int32)) <<< ((18 : Int32) &&& 31)) ||| ((c1 &&& (63 : Int32)) <<< ((12 : Int32) &&& 31))) ||| ((c2 &&& (63 : Int32)) <<< ((6 : Int32) &&& 31))) ||| (c3 &&& (63 : Int32)))
                    · refine own_go (fun _ => XS.icmpYes X0.here hx rfl (pc0 := 291) (pc' := 301) rfl (hb hby d2_291) rfl (tlt hc291).2.2.1 (by decide) (by decide)) ?_
                      show own_Ends p e below s₁ (mkF m 301 #[.val (.int ld), .val (.int c1), .val (.int c2), .val (.int c3), .val (.int s_), .val (.int en), .val (.int (3 : Int32)), .val (.int (1 : Int32)), .val (.int (1 : Int32)), .val (.int (1 : Int32)), .val (.int (((((ld &&& (7 : Int32)) <<< ((18 : Int32) &&& 31)) ||| ((c1 &&& (63 : Int32)) <<< ((12 : Int32) &&& 31))) ||| ((c2 &&& (63 : Int32)) <<< ((6 : Int32) &&& 31))) ||| (c3 &&& (63 : Int32))))] []) _
                      refine own_go (fun _ => XS.iconst X0.here hx rfl (hb hby d2_301)) ?_
                      obtain ⟨fs, hr, hrun, hended, hW, hsame⟩ := X0.leave (v := some (.int (-1 : Int32))) (fun h => by rw [Bd.returns] at h; cases h)
                      refine ⟨_, _, retI X0 hx Bd.returns (hb hby d2_302) hr, hrun, hended, _, _, rfl, ?_, ⟨_, rfl⟩, hW, hsame.mono (by decide) (by decide)⟩
                      show Q_rmExp Z ld c1 c2 c3 s_ en h0 n0 _ s₁.heap _
                      rw [e0]
                      refine ⟨_, rfl, ?_, N0, rfl⟩
                      obtain ⟨z1, z2, z3, z4, z5, z6⟩ := own_s s_ hs
                      have t0 := (not_congr (own_ltC (192) (by decide))).mp hc4
                      have t1 := (not_congr (own_ltC (224) (by decide))).mp hc13
                      have t2 := (not_congr (own_ltC (240) (by decide))).mp hc26
                      have t3 := (own_ltC (248) (by decide)).mp hc39
                      have t4 := (not_congr (own_lt2)).mp hc59
                      have t5 := (own_top hc1).mp hc72
                      have t6 := (own_top hc2).mp hc90
                      have t7 := (own_top hc3).mp hc108
                      have t8 := (not_congr (own_ltC (65536) (by decide))).mp hc284
                      have t9 := (own_Clt (1114111) (by decide)).mp hc291
                      have y0 := own_c4 ld c1 c2 c3
                      exact own_A0 (by unfold own_P1; omega) (by unfold own_P2; omega) (by unfold own_P3; omega)
                    · refine own_go (fun _ => XS.icmpNo X0.here hx rfl (hb hby d2_291) rfl (flt hc291).2.2.1) ?_
                      show own_Ends p e below s₁ (mkF m 294 #[.val (.int ld), .val (.int c1), .val (.int c2), .val (.int c3), .val (.int s_), .val (.int en), .val (.int (3 : Int32)), .val (.int (1 : Int32)), .val (.int (1 : Int32)), .val (.int (1 : Int32)), .val (.int (((((ld &&& (7 : Int32)) <<< ((18 : Int32) &&& 31)) ||| ((c1 &&& (63 : Int32)) <<< ((12 : Int32) &&& 31))) ||| ((c2 &&& (63 : Int32)) <<< ((6 : Int32) &&& 31))) ||| (c3 &&& (63 : Int32))))] []) _
                      refine own_go (fun _ => XS.iload X0.here hx rfl (hb hby d2_294) rfl) ?_
                      refine own_go (fun _ => XS.iconst X0.here hx rfl (hb hby d2_296)) ?_
                      refine own_go (fun _ => XS.iadd X0.here hx rfl (hb hby d2_297) rfl) ?_
                      show own_Ends p e below s₁ (mkF m 298 #[.val (.int ld), .val (.int c1), .val (.int c2), .val (.int c3), .val (.int s_), .val (.int en), .val (.int (3 : Int32)), .val (.int (1 : Int32)), .val (.int (1 : Int32)), .val (.int (1 : Int32)), .val (.int (((((ld &&& (7 : Int32)) <<< ((18 : Int32) &&& 31)) ||| ((c1 &&& (63 : Int32)) <<< ((12 : Int32) &&& 31))) ||| ((c2 &&& (63 : Int32)) <<< ((6 : Int32) &&& 31))) ||| (c3 &&& (63 : Int32))))] [(.int (s_ + (4 : Int32)))]) _
                      refine own_go (fun _ => XS.goto X0.here hx rfl (pc0 := 298) (pc' := 302) rfl (hb hby d2_298) (by decide) (by decide)) ?_
                      obtain ⟨fs, hr, hrun, hended, hW, hsame⟩ := X0.leave (v := some (.int (s_ + (4 : Int32)))) (fun h => by rw [Bd.returns] at h; cases h)
                      refine ⟨_, _, retI X0 hx Bd.returns (hb hby d2_302) hr, hrun, hended, _, _, rfl, ?_, ⟨_, rfl⟩, hW, hsame.mono (by decide) (by decide)⟩
                      show Q_rmExp Z ld c1 c2 c3 s_ en h0 n0 _ s₁.heap _
                      rw [e0]
                      refine ⟨_, rfl, ?_, N0, rfl⟩
                      obtain ⟨z1, z2, z3, z4, z5, z6⟩ := own_s s_ hs
                      have t0 := (not_congr (own_ltC (192) (by decide))).mp hc4
                      have t1 := (not_congr (own_ltC (224) (by decide))).mp hc13
                      have t2 := (not_congr (own_ltC (240) (by decide))).mp hc26
                      have t3 := (own_ltC (248) (by decide)).mp hc39
                      have t4 := (not_congr (own_lt2)).mp hc59
                      have t5 := (own_top hc1).mp hc72
                      have t6 := (own_top hc2).mp hc90
                      have t7 := (own_top hc3).mp hc108
                      have t8 := (not_congr (own_ltC (65536) (by decide))).mp hc284
                      have t9 := (not_congr (own_Clt (1114111) (by decide))).mp hc291
                      have y0 := own_c4 ld c1 c2 c3
                      exact own_A3 (by unfold own_P3; omega) (rfl)
                · refine own_go (fun _ => XS.icmpYes X0.here hx rfl (pc0 := 108) (pc' := 115) rfl (hb hby d2_108) rfl (feq hc108).2 (by decide) (by decide)) ?_
                  show own_Ends p e below s₁ (mkF m 115 #[.val (.int ld), .val (.int c1), .val (.int c2), .val (.int c3), .val (.int s_), .val (.int en), .val (.int (3 : Int32)), .val (.int (1 : Int32)), .val (.int (1 : Int32)), .unset, .unset] []) _
                  refine own_go (fun _ => XS.iconst X0.here hx rfl (hb hby d2_115)) ?_
                  refine own_go (fun _ => XS.istore X0.here hx rfl (hb hby d2_116) rfl (l' := #[.val (.int ld), .val (.int c1), .val (.int c2), .val (.int c3), .val (.int s_), .val (.int en), .val (.int (3 : Int32)), .val (.int (1 : Int32)), .val (.int (1 : Int32)), .val (.int (0 : Int32)), .unset]) rfl) ?_
                  show own_Ends p e below s₁ (mkF m 118 #[.val (.int ld), .val (.int c1), .val (.int c2), .val (.int c3), .val (.int s_), .val (.int en), .val (.int (3 : Int32)), .val (.int (1 : Int32)), .val (.int (1 : Int32)), .val (.int (0 : Int32)), .unset] []) _
                  refine own_go (fun _ => XS.iload X0.here hx rfl (hb hby d2_118) rfl) ?_
                  refine own_go (fun _ => XS.iconst X0.here hx rfl (hb hby d2_120)) ?_
                  show own_Ends p e below s₁ (mkF m 121 #[.val (.int ld), .val (.int c1), .val (.int c2), .val (.int c3), .val (.int s_), .val (.int en), .val (.int (3 : Int32)), .val (.int (1 : Int32)), .val (.int (1 : Int32)), .val (.int (0 : Int32)), .unset] [(.int (1 : Int32)), (.int (3 : Int32))]) _
                  refine own_go (fun _ => XS.icmpYes X0.here hx rfl (pc0 := 121) (pc' := 162) rfl (hb hby d2_121) rfl (feq (show ¬ ((3 : Int32) = (1 : Int32)) from by decide)).2 (by decide) (by decide)) ?_
                  show own_Ends p e below s₁ (mkF m 162 #[.val (.int ld), .val (.int c1), .val (.int c2), .val (.int c3), .val (.int s_), .val (.int en), .val (.int (3 : Int32)), .val (.int (1 : Int32)), .val (.int (1 : Int32)), .val (.int (0 : Int32)), .unset] []) _
                  refine own_go (fun _ => XS.iload X0.here hx rfl (hb hby d2_162) rfl) ?_
                  refine own_go (fun _ => XS.iconst X0.here hx rfl (hb hby d2_164)) ?_
                  show own_Ends p e below s₁ (mkF m 165 #[.val (.int ld), .val (.int c1), .val (.int c2), .val (.int c3), .val (.int s_), .val (.int en), .val (.int (3 : Int32)), .val (.int (1 : Int32)), .val (.int (1 : Int32)), .val (.int (0 : Int32)), .unset] [(.int (2 : Int32)), (.int (3 : Int32))]) _
                  refine own_go (fun _ => XS.icmpYes X0.here hx rfl (pc0 := 165) (pc' := 233) rfl (hb hby d2_165) rfl (feq (show ¬ ((3 : Int32) = (2 : Int32)) from by decide)).2 (by decide) (by decide)) ?_
                  show own_Ends p e below s₁ (mkF m 233 #[.val (.int ld), .val (.int c1), .val (.int c2), .val (.int c3), .val (.int s_), .val (.int en), .val (.int (3 : Int32)), .val (.int (1 : Int32)), .val (.int (1 : Int32)), .val (.int (0 : Int32)), .unset] []) _
                  refine own_go (fun _ => XS.iload X0.here hx rfl (hb hby d2_233) rfl) ?_
                  show own_Ends p e below s₁ (mkF m 235 #[.val (.int ld), .val (.int c1), .val (.int c2), .val (.int c3), .val (.int s_), .val (.int en), .val (.int (3 : Int32)), .val (.int (1 : Int32)), .val (.int (1 : Int32)), .val (.int (0 : Int32)), .unset] [(.int (1 : Int32))]) _
                  refine own_go (fun _ => XS.ifNo X0.here hx rfl (hb hby d2_235) rfl ((if0 _ _).trans (feq (show ¬ ((1 : Int32) = (0 : Int32)) from by decide)).1)) ?_
                  show own_Ends p e below s₁ (mkF m 238 #[.val (.int ld), .val (.int c1), .val (.int c2), .val (.int c3), .val (.int s_), .val (.int en), .val (.int (3 : Int32)), .val (.int (1 : Int32)), .val (.int (1 : Int32)), .val (.int (0 : Int32)), .unset] []) _
                  refine own_go (fun _ => XS.iload X0.here hx rfl (hb hby d2_238) rfl) ?_
                  show own_Ends p e below s₁ (mkF m 240 #[.val (.int ld), .val (.int c1), .val (.int c2), .val (.int c3), .val (.int s_), .val (.int en), .val (.int (3 : Int32)), .val (.int (1 : Int32)), .val (.int (1 : Int32)), .val (.int (0 : Int32)), .unset] [(.int (1 : Int32))]) _
                  refine own_go (fun _ => XS.ifNo X0.here hx rfl (hb hby d2_240) rfl ((if0 _ _).trans (feq (show ¬ ((1 : Int32) = (0 : Int32)) from by decide)).1)) ?_
                  show own_Ends p e below s₁ (mkF m 243 #[.val (.int ld), .val (.int c1), .val (.int c2), .val (.int c3), .val (.int s_), .val (.int en), .val (.int (3 : Int32)), .val (.int (1 : Int32)), .val (.int (1 : Int32)), .val (.int (0 : Int32)), .unset] []) _
                  refine own_go (fun _ => XS.iload X0.here hx rfl (hb hby d2_243) rfl) ?_
                  show own_Ends p e below s₁ (mkF m 245 #[.val (.int ld), .val (.int c1), .val (.int c2), .val (.int c3), .val (.int s_), .val (.int en), .val (.int (3 : Int32)), .val (.int (1 : Int32)), .val (.int (1 : Int32)), .val (.int (0 : Int32)), .unset] [(.int (0 : Int32))]) _
                  refine own_go (fun _ => XS.ifNo X0.here hx rfl (hb hby d2_245) rfl ((if0 _ _).trans (teq (show (0 : Int32) = (0 : Int32) from by decide)).2)) ?_
                  show own_Ends p e below s₁ (mkF m 248 #[.val (.int ld), .val (.int c1), .val (.int c2), .val (.int c3), .val (.int s_), .val (.int en), .val (.int (3 : Int32)), .val (.int (1 : Int32)), .val (.int (1 : Int32)), .val (.int (0 : Int32)), .unset] []) _
                  refine own_go (fun _ => XS.iconst X0.here hx rfl (hb hby d2_248)) ?_
                  obtain ⟨fs, hr, hrun, hended, hW, hsame⟩ := X0.leave (v := some (.int (-1 : Int32))) (fun h => by rw [Bd.returns] at h; cases h)
                  refine ⟨_, _, retI X0 hx Bd.returns (hb hby d2_249) hr, hrun, hended, _, _, rfl, ?_, ⟨_, rfl⟩, hW, hsame.mono (by decide) (by decide)⟩
                  show Q_rmExp Z ld c1 c2 c3 s_ en h0 n0 _ s₁.heap _
                  rw [e0]
                  refine ⟨_, rfl, ?_, N0, rfl⟩
                  obtain ⟨z1, z2, z3, z4, z5, z6⟩ := own_s s_ hs
                  have t0 := (not_congr (own_ltC (192) (by decide))).mp hc4
                  have t1 := (not_congr (own_ltC (224) (by decide))).mp hc13
                  have t2 := (not_congr (own_ltC (240) (by decide))).mp hc26
                  have t3 := (own_ltC (248) (by decide)).mp hc39
                  have t4 := (not_congr (own_lt2)).mp hc59
                  have t5 := (own_top hc1).mp hc72
                  have t6 := (own_top hc2).mp hc90
                  have t7 := (not_congr (own_top hc3)).mp hc108
                  have y0 := own_c4 ld c1 c2 c3
                  exact own_A0 (by unfold own_P1; omega) (by unfold own_P2; omega) (by unfold own_P3; omega)
              · refine own_go (fun _ => XS.icmpYes X0.here hx rfl (pc0 := 90) (pc' := 97) rfl (hb hby d2_90) rfl (feq hc90).2 (by decide) (by decide)) ?_
                show own_Ends p e below s₁ (mkF m 97 #[.val (.int ld), .val (.int c1), .val (.int c2), .val (.int c3), .val (.int s_), .val (.int en), .val (.int (3 : Int32)), .val (.int (1 : Int32)), .unset, .unset, .unset] []) _
                refine own_go (fun _ => XS.iconst X0.here hx rfl (hb hby d2_97)) ?_
                refine own_go (fun _ => XS.istore X0.here hx rfl (hb hby d2_98) rfl (l' := #[.val (.int ld), .val (.int c1), .val (.int c2), .val (.int c3), .val (.int s_), .val (.int en), .val (.int (3 : Int32)), .val (.int (1 : Int32)), .val (.int (0 : Int32)), .unset, .unset]) rfl) ?_
                show own_Ends p e below s₁ (mkF m 100 #[.val (.int ld), .val (.int c1), .val (.int c2), .val (.int c3), .val (.int s_), .val (.int en), .val (.int (3 : Int32)), .val (.int (1 : Int32)), .val (.int (0 : Int32)), .unset, .unset] []) _
                refine own_go (fun _ => XS.iloadN X0.here hx rfl (hb hby d2_100) rfl) ?_
                refine own_go (fun _ => XS.sipush X0.here hx rfl (hb hby d2_101)) ?_
                refine own_go (fun _ => XS.iand X0.here hx rfl (hb hby d2_104) rfl) ?_
                show own_Ends p e below s₁ (mkF m 105 #[.val (.int ld), .val (.int c1), .val (.int c2), .val (.int c3), .val (.int s_), .val (.int en), .val (.int (3 : Int32)), .val (.int (1 : Int32)), .val (.int (0 : Int32)), .unset, .unset] [(.int (c3 &&& (192 : Int32)))]) _
                refine own_go (fun _ => XS.sipush X0.here hx rfl (hb hby d2_105)) ?_
                show own_Ends p e below s₁ (mkF m 108 #[.val (.int ld), .val (.int c1), .val (.int c2), .val (.int c3), .val (.int s_), .val (.int en), .val (.int (3 : Int32)), .val (.int (1 : Int32)), .val (.int (0 : Int32)), .unset, .unset] [(.int (128 : Int32)), (.int (c3 &&& (192 : Int32)))]) _
                by_cases hc108 : (c3 &&& (192 : Int32)) = (128 : Int32)
                · refine own_go (fun _ => XS.icmpNo X0.here hx rfl (hb hby d2_108) rfl (teq hc108).2) ?_
                  show own_Ends p e below s₁ (mkF m 111 #[.val (.int ld), .val (.int c1), .val (.int c2), .val (.int c3), .val (.int s_), .val (.int en), .val (.int (3 : Int32)), .val (.int (1 : Int32)), .val (.int (0 : Int32)), .unset, .unset] []) _
                  refine own_go (fun _ => XS.iconst X0.here hx rfl (hb hby d2_111)) ?_
                  refine own_go (fun _ => XS.goto X0.here hx rfl (pc0 := 112) (pc' := 116) rfl (hb hby d2_112) (by decide) (by decide)) ?_
                  refine own_go (fun _ => XS.istore X0.here hx rfl (hb hby d2_116) rfl (l' := #[.val (.int ld), .val (.int c1), .val (.int c2), .val (.int c3), .val (.int s_), .val (.int en), .val (.int (3 : Int32)), .val (.int (1 : Int32)), .val (.int (0 : Int32)), .val (.int (1 : Int32)), .unset]) rfl) ?_
                  show own_Ends p e below s₁ (mkF m 118 #[.val (.int ld), .val (.int c1), .val (.int c2), .val (.int c3), .val (.int s_), .val (.int en), .val (.int (3 : Int32)), .val (.int (1 : Int32)), .val (.int (0 : Int32)), .val (.int (1 : Int32)), .unset] []) _
                  refine own_go (fun _ => XS.iload X0.here hx rfl (hb hby d2_118) rfl) ?_
                  refine own_go (fun _ => XS.iconst X0.here hx rfl (hb hby d2_120)) ?_
                  show own_Ends p e below s₁ (mkF m 121 #[.val (.int ld), .val (.int c1), .val (.int c2), .val (.int c3), .val (.int s_), .val (.int en), .val (.int (3 : Int32)), .val (.int (1 : Int32)), .val (.int (0 : Int32)), .val (.int (1 : Int32)), .unset] [(.int (1 : Int32)), (.int (3 : Int32))]) _
                  refine own_go (fun _ => XS.icmpYes X0.here hx rfl (pc0 := 121) (pc' := 162) rfl (hb hby d2_121) rfl (feq (show ¬ ((3 : Int32) = (1 : Int32)) from by decide)).2 (by decide) (by decide)) ?_
                  show own_Ends p e below s₁ (mkF m 162 #[.val (.int ld), .val (.int c1), .val (.int c2), .val (.int c3), .val (.int s_), .val (.int en), .val (.int (3 : Int32)), .val (.int (1 : Int32)), .val (.int (0 : Int32)), .val (.int (1 : Int32)), .unset] []) _
                  refine own_go (fun _ => XS.iload X0.here hx rfl (hb hby d2_162) rfl) ?_
                  refine own_go (fun _ => XS.iconst X0.here hx rfl (hb hby d2_164)) ?_
                  show own_Ends p e below s₁ (mkF m 165 #[.val (.int ld), .val (.int c1), .val (.int c2), .val (.int c3), .val (.int s_), .val (.int en), .val (.int (3 : Int32)), .val (.int (1 : Int32)), .val (.int (0 : Int32)), .val (.int (1 : Int32)), .unset] [(.int (2 : Int32)), (.int (3 : Int32))]) _
                  refine own_go (fun _ => XS.icmpYes X0.here hx rfl (pc0 := 165) (pc' := 233) rfl (hb hby d2_165) rfl (feq (show ¬ ((3 : Int32) = (2 : Int32)) from by decide)).2 (by decide) (by decide)) ?_
                  show own_Ends p e below s₁ (mkF m 233 #[.val (.int ld), .val (.int c1), .val (.int c2), .val (.int c3), .val (.int s_), .val (.int en), .val (.int (3 : Int32)), .val (.int (1 : Int32)), .val (.int (0 : Int32)), .val (.int (1 : Int32)), .unset] []) _
                  refine own_go (fun _ => XS.iload X0.here hx rfl (hb hby d2_233) rfl) ?_
                  show own_Ends p e below s₁ (mkF m 235 #[.val (.int ld), .val (.int c1), .val (.int c2), .val (.int c3), .val (.int s_), .val (.int en), .val (.int (3 : Int32)), .val (.int (1 : Int32)), .val (.int (0 : Int32)), .val (.int (1 : Int32)), .unset] [(.int (1 : Int32))]) _
                  refine own_go (fun _ => XS.ifNo X0.here hx rfl (hb hby d2_235) rfl ((if0 _ _).trans (feq (show ¬ ((1 : Int32) = (0 : Int32)) from by decide)).1)) ?_
                  show own_Ends p e below s₁ (mkF m 238 #[.val (.int ld), .val (.int c1), .val (.int c2), .val (.int c3), .val (.int s_), .val (.int en), .val (.int (3 : Int32)), .val (.int (1 : Int32)), .val (.int (0 : Int32)), .val (.int (1 : Int32)), .unset] []) _
                  refine own_go (fun _ => XS.iload X0.here hx rfl (hb hby d2_238) rfl) ?_
                  show own_Ends p e below s₁ (mkF m 240 #[.val (.int ld), .val (.int c1), .val (.int c2), .val (.int c3), .val (.int s_), .val (.int en), .val (.int (3 : Int32)), .val (.int (1 : Int32)), .val (.int (0 : Int32)), .val (.int (1 : Int32)), .unset] [(.int (0 : Int32))]) _
                  refine own_go (fun _ => XS.ifYes X0.here hx rfl (pc0 := 240) (pc' := 248) rfl (hb hby d2_240) rfl ((if0 _ _).trans (teq (show (0 : Int32) = (0 : Int32) from by decide)).1) (by decide) (by decide)) ?_
                  show own_Ends p e below s₁ (mkF m 248 #[.val (.int ld), .val (.int c1), .val (.int c2), .val (.int c3), .val (.int s_), .val (.int en), .val (.int (3 : Int32)), .val (.int (1 : Int32)), .val (.int (0 : Int32)), .val (.int (1 : Int32)), .unset] []) _
                  refine own_go (fun _ => XS.iconst X0.here hx rfl (hb hby d2_248)) ?_
                  obtain ⟨fs, hr, hrun, hended, hW, hsame⟩ := X0.leave (v := some (.int (-1 : Int32))) (fun h => by rw [Bd.returns] at h; cases h)
                  refine ⟨_, _, retI X0 hx Bd.returns (hb hby d2_249) hr, hrun, hended, _, _, rfl, ?_, ⟨_, rfl⟩, hW, hsame.mono (by decide) (by decide)⟩
                  show Q_rmExp Z ld c1 c2 c3 s_ en h0 n0 _ s₁.heap _
                  rw [e0]
                  refine ⟨_, rfl, ?_, N0, rfl⟩
                  obtain ⟨z1, z2, z3, z4, z5, z6⟩ := own_s s_ hs
                  have t0 := (not_congr (own_ltC (192) (by decide))).mp hc4
                  have t1 := (not_congr (own_ltC (224) (by decide))).mp hc13
                  have t2 := (not_congr (own_ltC (240) (by decide))).mp hc26
                  have t3 := (own_ltC (248) (by decide)).mp hc39
                  have t4 := (not_congr (own_lt2)).mp hc59
                  have t5 := (own_top hc1).mp hc72
                  have t6 := (not_congr (own_top hc2)).mp hc90
                  have t7 := (own_top hc3).mp hc108
                  have y0 := own_c4 ld c1 c2 c3
                  exact own_A0 (by unfold own_P1; omega) (by unfold own_P2; omega) (by unfold own_P3; omega)
                · refine own_go (fun _ => XS.icmpYes X0.here hx rfl (pc0 := 108) (pc' := 115) rfl (hb hby d2_108) rfl (feq hc108).2 (by decide) (by decide)) ?_
                  show own_Ends p e below s₁ (mkF m 115 #[.val (.int ld), .val (.int c1), .val (.int c2), .val (.int c3), .val (.int s_), .val (.int en), .val (.int (3 : Int32)), .val (.int (1 : Int32)), .val (.int (0 : Int32)), .unset, .unset] []) _
                  refine own_go (fun _ => XS.iconst X0.here hx rfl (hb hby d2_115)) ?_
                  refine own_go (fun _ => XS.istore X0.here hx rfl (hb hby d2_116) rfl (l' := #[.val (.int ld), .val (.int c1), .val (.int c2), .val (.int c3), .val (.int s_), .val (.int en), .val (.int (3 : Int32)), .val (.int (1 : Int32)), .val (.int (0 : Int32)), .val (.int (0 : Int32)), .unset]) rfl) ?_
                  show own_Ends p e below s₁ (mkF m 118 #[.val (.int ld), .val (.int c1), .val (.int c2), .val (.int c3), .val (.int s_), .val (.int en), .val (.int (3 : Int32)), .val (.int (1 : Int32)), .val (.int (0 : Int32)), .val (.int (0 : Int32)), .unset] []) _
                  refine own_go (fun _ => XS.iload X0.here hx rfl (hb hby d2_118) rfl) ?_
                  refine own_go (fun _ => XS.iconst X0.here hx rfl (hb hby d2_120)) ?_
                  show own_Ends p e below s₁ (mkF m 121 #[.val (.int ld), .val (.int c1), .val (.int c2), .val (.int c3), .val (.int s_), .val (.int en), .val (.int (3 : Int32)), .val (.int (1 : Int32)), .val (.int (0 : Int32)), .val (.int (0 : Int32)), .unset] [(.int (1 : Int32)), (.int (3 : Int32))]) _
                  refine own_go (fun _ => XS.icmpYes X0.here hx rfl (pc0 := 121) (pc' := 162) rfl (hb hby d2_121) rfl (feq (show ¬ ((3 : Int32) = (1 : Int32)) from by decide)).2 (by decide) (by decide)) ?_
                  show own_Ends p e below s₁ (mkF m 162 #[.val (.int ld), .val (.int c1), .val (.int c2), .val (.int c3), .val (.int s_), .val (.int en), .val (.int (3 : Int32)), .val (.int (1 : Int32)), .val (.int (0 : Int32)), .val (.int (0 : Int32)), .unset] []) _
                  refine own_go (fun _ => XS.iload X0.here hx rfl (hb hby d2_162) rfl) ?_
                  refine own_go (fun _ => XS.iconst X0.here hx rfl (hb hby d2_164)) ?_
                  show own_Ends p e below s₁ (mkF m 165 #[.val (.int ld), .val (.int c1), .val (.int c2), .val (.int c3), .val (.int s_), .val (.int en), .val (.int (3 : Int32)), .val (.int (1 : Int32)), .val (.int (0 : Int32)), .val (.int (0 : Int32)), .unset] [(.int (2 : Int32)), (.int (3 : Int32))]) _
                  refine own_go (fun _ => XS.icmpYes X0.here hx rfl (pc0 := 165) (pc' := 233) rfl (hb hby d2_165) rfl (feq (show ¬ ((3 : Int32) = (2 : Int32)) from by decide)).2 (by decide) (by decide)) ?_
                  show own_Ends p e below s₁ (mkF m 233 #[.val (.int ld), .val (.int c1), .val (.int c2), .val (.int c3), .val (.int s_), .val (.int en), .val (.int (3 : Int32)), .val (.int (1 : Int32)), .val (.int (0 : Int32)), .val (.int (0 : Int32)), .unset] []) _
                  refine own_go (fun _ => XS.iload X0.here hx rfl (hb hby d2_233) rfl) ?_
                  show own_Ends p e below s₁ (mkF m 235 #[.val (.int ld), .val (.int c1), .val (.int c2), .val (.int c3), .val (.int s_), .val (.int en), .val (.int (3 : Int32)), .val (.int (1 : Int32)), .val (.int (0 : Int32)), .val (.int (0 : Int32)), .unset] [(.int (1 : Int32))]) _
                  refine own_go (fun _ => XS.ifNo X0.here hx rfl (hb hby d2_235) rfl ((if0 _ _).trans (feq (show ¬ ((1 : Int32) = (0 : Int32)) from by decide)).1)) ?_
                  show own_Ends p e below s₁ (mkF m 238 #[.val (.int ld), .val (.int c1), .val (.int c2), .val (.int c3), .val (.int s_), .val (.int en), .val (.int (3 : Int32)), .val (.int (1 : Int32)), .val (.int (0 : Int32)), .val (.int (0 : Int32)), .unset] []) _
                  refine own_go (fun _ => XS.iload X0.here hx rfl (hb hby d2_238) rfl) ?_
                  show own_Ends p e below s₁ (mkF m 240 #[.val (.int ld), .val (.int c1), .val (.int c2), .val (.int c3), .val (.int s_), .val (.int en), .val (.int (3 : Int32)), .val (.int (1 : Int32)), .val (.int (0 : Int32)), .val (.int (0 : Int32)), .unset] [(.int (0 : Int32))]) _
                  refine own_go (fun _ => XS.ifYes X0.here hx rfl (pc0 := 240) (pc' := 248) rfl (hb hby d2_240) rfl ((if0 _ _).trans (teq (show (0 : Int32) = (0 : Int32) from by decide)).1) (by decide) (by decide)) ?_
                  show own_Ends p e below s₁ (mkF m 248 #[.val (.int ld), .val (.int c1), .val (.int c2), .val (.int c3), .val (.int s_), .val (.int en), .val (.int (3 : Int32)), .val (.int (1 : Int32)), .val (.int (0 : Int32)), .val (.int (0 : Int32)), .unset] []) _
                  refine own_go (fun _ => XS.iconst X0.here hx rfl (hb hby d2_248)) ?_
                  obtain ⟨fs, hr, hrun, hended, hW, hsame⟩ := X0.leave (v := some (.int (-1 : Int32))) (fun h => by rw [Bd.returns] at h; cases h)
                  refine ⟨_, _, retI X0 hx Bd.returns (hb hby d2_249) hr, hrun, hended, _, _, rfl, ?_, ⟨_, rfl⟩, hW, hsame.mono (by decide) (by decide)⟩
                  show Q_rmExp Z ld c1 c2 c3 s_ en h0 n0 _ s₁.heap _
                  rw [e0]
                  refine ⟨_, rfl, ?_, N0, rfl⟩
                  obtain ⟨z1, z2, z3, z4, z5, z6⟩ := own_s s_ hs
                  have t0 := (not_congr (own_ltC (192) (by decide))).mp hc4
                  have t1 := (not_congr (own_ltC (224) (by decide))).mp hc13
                  have t2 := (not_congr (own_ltC (240) (by decide))).mp hc26
                  have t3 := (own_ltC (248) (by decide)).mp hc39
                  have t4 := (not_congr (own_lt2)).mp hc59
                  have t5 := (own_top hc1).mp hc72
                  have t6 := (not_congr (own_top hc2)).mp hc90
                  have t7 := (not_congr (own_top hc3)).mp hc108
                  have y0 := own_c4 ld c1 c2 c3
                  exact own_A0 (by unfold own_P1; omega) (by unfold own_P2; omega) (by unfold own_P3; omega)
            · refine own_go (fun _ => XS.icmpYes X0.here hx rfl (pc0 := 72) (pc' := 79) rfl (hb hby d2_72) rfl (feq hc72).2 (by decide) (by decide)) ?_
              show own_Ends p e below s₁ (mkF m 79 #[.val (.int ld), .val (.int c1), .val (.int c2), .val (.int c3), .val (.int s_), .val (.int en), .val (.int (3 : Int32)), .unset, .unset, .unset, .unset] []) _
              refine own_go (fun _ => XS.iconst X0.here hx rfl (hb hby d2_79)) ?_
              refine own_go (fun _ => XS.istore X0.here hx rfl (hb hby d2_80) rfl (l' := #[.val (.int ld), .val (.int c1), .val (.int c2), .val (.int c3), .val (.int s_), .val (.int en), .val (.int (3 : Int32)), .val (.int (0 : Int32)), .unset, .unset, .unset]) rfl) ?_
              show own_Ends p e below s₁ (mkF m 82 #[.val (.int ld), .val (.int c1), .val (.int c2), .val (.int c3), .val (.int s_), .val (.int en), .val (.int (3 : Int32)), .val (.int (0 : Int32)), .unset, .unset, .unset] []) _
              refine own_go (fun _ => XS.iloadN X0.here hx rfl (hb hby d2_82) rfl) ?_
              refine own_go (fun _ => XS.sipush X0.here hx rfl (hb hby d2_83)) ?_
              refine own_go (fun _ => XS.iand X0.here hx rfl (hb hby d2_86) rfl) ?_
              show own_Ends p e below s₁ (mkF m 87 #[.val (.int ld), .val (.int c1), .val (.int c2), .val (.int c3), .val (.int s_), .val (.int en), .val (.int (3 : Int32)), .val (.int (0 : Int32)), .unset, .unset, .unset] [(.int (c2 &&& (192 : Int32)))]) _
              refine own_go (fun _ => XS.sipush X0.here hx rfl (hb hby d2_87)) ?_
              show own_Ends p e below s₁ (mkF m 90 #[.val (.int ld), .val (.int c1), .val (.int c2), .val (.int c3), .val (.int s_), .val (.int en), .val (.int (3 : Int32)), .val (.int (0 : Int32)), .unset, .unset, .unset] [(.int (128 : Int32)), (.int (c2 &&& (192 : Int32)))]) _
              by_cases hc90 : (c2 &&& (192 : Int32)) = (128 : Int32)
              · refine own_go (fun _ => XS.icmpNo X0.here hx rfl (hb hby d2_90) rfl (teq hc90).2) ?_
                show own_Ends p e below s₁ (mkF m 93 #[.val (.int ld), .val (.int c1), .val (.int c2), .val (.int c3), .val (.int s_), .val (.int en), .val (.int (3 : Int32)), .val (.int (0 : Int32)), .unset, .unset, .unset] []) _
                refine own_go (fun _ => XS.iconst X0.here hx rfl (hb hby d2_93)) ?_
                refine own_go (fun _ => XS.goto X0.here hx rfl (pc0 := 94) (pc' := 98) rfl (hb hby d2_94) (by decide) (by decide)) ?_
                refine own_go (fun _ => XS.istore X0.here hx rfl (hb hby d2_98) rfl (l' := #[.val (.int ld), .val (.int c1), .val (.int c2), .val (.int c3), .val (.int s_), .val (.int en), .val (.int (3 : Int32)), .val (.int (0 : Int32)), .val (.int (1 : Int32)), .unset, .unset]) rfl) ?_
                show own_Ends p e below s₁ (mkF m 100 #[.val (.int ld), .val (.int c1), .val (.int c2), .val (.int c3), .val (.int s_), .val (.int en), .val (.int (3 : Int32)), .val (.int (0 : Int32)), .val (.int (1 : Int32)), .unset, .unset] []) _
                refine own_go (fun _ => XS.iloadN X0.here hx rfl (hb hby d2_100) rfl) ?_
                refine own_go (fun _ => XS.sipush X0.here hx rfl (hb hby d2_101)) ?_
                refine own_go (fun _ => XS.iand X0.here hx rfl (hb hby d2_104) rfl) ?_
                show own_Ends p e below s₁ (mkF m 105 #[.val (.int ld), .val (.int c1), .val (.int c2), .val (.int c3), .val (.int s_), .val (.int en), .val (.int (3 : Int32)), .val (.int (0 : Int32)), .val (.int (1 : Int32)), .unset, .unset] [(.int (c3 &&& (192 : Int32)))]) _
                refine own_go (fun _ => XS.sipush X0.here hx rfl (hb hby d2_105)) ?_
                show own_Ends p e below s₁ (mkF m 108 #[.val (.int ld), .val (.int c1), .val (.int c2), .val (.int c3), .val (.int s_), .val (.int en), .val (.int (3 : Int32)), .val (.int (0 : Int32)), .val (.int (1 : Int32)), .unset, .unset] [(.int (128 : Int32)), (.int (c3 &&& (192 : Int32)))]) _
                by_cases hc108 : (c3 &&& (192 : Int32)) = (128 : Int32)
                · refine own_go (fun _ => XS.icmpNo X0.here hx rfl (hb hby d2_108) rfl (teq hc108).2) ?_
                  show own_Ends p e below s₁ (mkF m 111 #[.val (.int ld), .val (.int c1), .val (.int c2), .val (.int c3), .val (.int s_), .val (.int en), .val (.int (3 : Int32)), .val (.int (0 : Int32)), .val (.int (1 : Int32)), .unset, .unset] []) _
                  refine own_go (fun _ => XS.iconst X0.here hx rfl (hb hby d2_111)) ?_
                  refine own_go (fun _ => XS.goto X0.here hx rfl (pc0 := 112) (pc' := 116) rfl (hb hby d2_112) (by decide) (by decide)) ?_
                  refine own_go (fun _ => XS.istore X0.here hx rfl (hb hby d2_116) rfl (l' := #[.val (.int ld), .val (.int c1), .val (.int c2), .val (.int c3), .val (.int s_), .val (.int en), .val (.int (3 : Int32)), .val (.int (0 : Int32)), .val (.int (1 : Int32)), .val (.int (1 : Int32)), .unset]) rfl) ?_
                  show own_Ends p e below s₁ (mkF m 118 #[.val (.int ld), .val (.int c1), .val (.int c2), .val (.int c3), .val (.int s_), .val (.int en), .val (.int (3 : Int32)), .val (.int (0 : Int32)), .val (.int (1 : Int32)), .val (.int (1 : Int32)), .unset] []) _
                  refine own_go (fun _ => XS.iload X0.here hx rfl (hb hby d2_118) rfl) ?_
                  refine own_go (fun _ => XS.iconst X0.here hx rfl (hb hby d2_120)) ?_
                  show own_Ends p e below s₁ (mkF m 121 #[.val (.int ld), .val (.int c1), .val (.int c2), .val (.int c3), .val (.int s_), .val (.int en), .val (.int (3 : Int32)), .val (.int (0 : Int32)), .val (.int (1 : Int32)), .val (.int (1 : Int32)), .unset] [(.int (1 : Int32)), (.int (3 : Int32))]) _
                  refine own_go (fun _ => XS.icmpYes X0.here hx rfl (pc0 := 121) (pc' := 162) rfl (hb hby d2_121) rfl (feq (show ¬ ((3 : Int32) = (1 : Int32)) from by decide)).2 (by decide) (by decide)) ?_
                  show own_Ends p e below s₁ (mkF m 162 #[.val (.int ld), .val (.int c1), .val (.int c2), .val (.int c3), .val (.int s_), .val (.int en), .val (.int (3 : Int32)), .val (.int (0 : Int32)), .val (.int (1 : Int32)), .val (.int (1 : Int32)), .unset] []) _
                  refine own_go (fun _ => XS.iload X0.here hx rfl (hb hby d2_162) rfl) ?_
                  refine own_go (fun _ => XS.iconst X0.here hx rfl (hb hby d2_164)) ?_
                  show own_Ends p e below s₁ (mkF m 165 #[.val (.int ld), .val (.int c1), .val (.int c2), .val (.int c3), .val (.int s_), .val (.int en), .val (.int (3 : Int32)), .val (.int (0 : Int32)), .val (.int (1 : Int32)), .val (.int (1 : Int32)), .unset] [(.int (2 : Int32)), (.int (3 : Int32))]) _
                  refine own_go (fun _ => XS.icmpYes X0.here hx rfl (pc0 := 165) (pc' := 233) rfl (hb hby d2_165) rfl (feq (show ¬ ((3 : Int32) = (2 : Int32)) from by decide)).2 (by decide) (by decide)) ?_
                  show own_Ends p e below s₁ (mkF m 233 #[.val (.int ld), .val (.int c1), .val (.int c2), .val (.int c3), .val (.int s_), .val (.int en), .val (.int (3 : Int32)), .val (.int (0 : Int32)), .val (.int (1 : Int32)), .val (.int (1 : Int32)), .unset] []) _
                  refine own_go (fun _ => XS.iload X0.here hx rfl (hb hby d2_233) rfl) ?_
                  show own_Ends p e below s₁ (mkF m 235 #[.val (.int ld), .val (.int c1), .val (.int c2), .val (.int c3), .val (.int s_), .val (.int en), .val (.int (3 : Int32)), .val (.int (0 : Int32)), .val (.int (1 : Int32)), .val (.int (1 : Int32)), .unset] [(.int (0 : Int32))]) _
                  refine own_go (fun _ => XS.ifYes X0.here hx rfl (pc0 := 235) (pc' := 248) rfl (hb hby d2_235) rfl ((if0 _ _).trans (teq (show (0 : Int32) = (0 : Int32) from by decide)).1) (by decide) (by decide)) ?_
                  show own_Ends p e below s₁ (mkF m 248 #[.val (.int ld), .val (.int c1), .val (.int c2), .val (.int c3), .val (.int s_), .val (.int en), .val (.int (3 : Int32)), .val (.int (0 : Int32)), .val (.int (1 : Int32)), .val (.int (1 : Int32)), .unset] []) _
                  refine own_go (fun _ => XS.iconst X0.here hx rfl (hb hby d2_248)) ?_
                  obtain ⟨fs, hr, hrun, hended, hW, hsame⟩ := X0.leave (v := some (.int (-1 : Int32))) (fun h => by rw [Bd.returns] at h; cases h)
                  refine ⟨_, _, retI X0 hx Bd.returns (hb hby d2_249) hr, hrun, hended, _, _, rfl, ?_, ⟨_, rfl⟩, hW, hsame.mono (by decide) (by decide)⟩
                  show Q_rmExp Z ld c1 c2 c3 s_ en h0 n0 _ s₁.heap _
                  rw [e0]
                  refine ⟨_, rfl, ?_, N0, rfl⟩
                  obtain ⟨z1, z2, z3, z4, z5, z6⟩ := own_s s_ hs
                  have t0 := (not_congr (own_ltC (192) (by decide))).mp hc4
                  have t1 := (not_congr (own_ltC (224) (by decide))).mp hc13
                  have t2 := (not_congr (own_ltC (240) (by decide))).mp hc26
                  have t3 := (own_ltC (248) (by decide)).mp hc39
                  have t4 := (not_congr (own_lt2)).mp hc59
                  have t5 := (not_congr (own_top hc1)).mp hc72
                  have t6 := (own_top hc2).mp hc90
                  have t7 := (own_top hc3).mp hc108
                  have y0 := own_c4 ld c1 c2 c3
                  exact own_A0 (by unfold own_P1; omega) (by unfold own_P2; omega) (by unfold own_P3; omega)
                · refine own_go (fun _ => XS.icmpYes X0.here hx rfl (pc0 := 108) (pc' := 115) rfl (hb hby d2_108) rfl (feq hc108).2 (by decide) (by decide)) ?_
                  show own_Ends p e below s₁ (mkF m 115 #[.val (.int ld), .val (.int c1), .val (.int c2), .val (.int c3), .val (.int s_), .val (.int en), .val (.int (3 : Int32)), .val (.int (0 : Int32)), .val (.int (1 : Int32)), .unset, .unset] []) _
                  refine own_go (fun _ => XS.iconst X0.here hx rfl (hb hby d2_115)) ?_
                  refine own_go (fun _ => XS.istore X0.here hx rfl (hb hby d2_116) rfl (l' := #[.val (.int ld), .val (.int c1), .val (.int c2), .val (.int c3), .val (.int s_), .val (.int en), .val (.int (3 : Int32)), .val (.int (0 : Int32)), .val (.int (1 : Int32)), .val (.int (0 : Int32)), .unset]) rfl) ?_
                  show own_Ends p e below s₁ (mkF m 118 #[.val (.int ld), .val (.int c1), .val (.int c2), .val (.int c3), .val (.int s_), .val (.int en), .val (.int (3 : Int32)), .val (.int (0 : Int32)), .val (.int (1 : Int32)), .val (.int (0 : Int32)), .unset] []) _
                  refine own_go (fun _ => XS.iload X0.here hx rfl (hb hby d2_118) rfl) ?_
                  refine own_go (fun _ => XS.iconst X0.here hx rfl (hb hby d2_120)) ?_
                  show own_Ends p e below s₁ (mkF m 121 #[.val (.int ld), .val (.int c1), .val (.int c2), .val (.int c3), .val (.int s_), .val (.int en), .val (.int (3 : Int32)), .val (.int (0 : Int32)), .val (.int (1 : Int32)), .val (.int (0 : Int32)), .unset] [(.int (1 : Int32)), (.int (3 : Int32))]) _
                  refine own_go (fun _ => XS.icmpYes X0.here hx rfl (pc0 := 121) (pc' := 162) rfl (hb hby d2_121) rfl (feq (show ¬ ((3 : Int32) = (1 : Int32)) from by decide)).2 (by decide) (by decide)) ?_
                  show own_Ends p e below s₁ (mkF m 162 #[.val (.int ld), .val (.int c1), .val (.int c2), .val (.int c3), .val (.int s_), .val (.int en), .val (.int (3 : Int32)), .val (.int (0 : Int32)), .val (.int (1 : Int32)), .val (.int (0 : Int32)), .unset] []) _
                  refine own_go (fun _ => XS.iload X0.here hx rfl (hb hby d2_162) rfl) ?_
                  refine own_go (fun _ => XS.iconst X0.here hx rfl (hb hby d2_164)) ?_
                  show own_Ends p e below s₁ (mkF m 165 #[.val (.int ld), .val (.int c1), .val (.int c2), .val (.int c3), .val (.int s_), .val (.int en), .val (.int (3 : Int32)), .val (.int (0 : Int32)), .val (.int (1 : Int32)), .val (.int (0 : Int32)), .unset] [(.int (2 : Int32)), (.int (3 : Int32))]) _
                  refine own_go (fun _ => XS.icmpYes X0.here hx rfl (pc0 := 165) (pc' := 233) rfl (hb hby d2_165) rfl (feq (show ¬ ((3 : Int32) = (2 : Int32)) from by decide)).2 (by decide) (by decide)) ?_
                  show own_Ends p e below s₁ (mkF m 233 #[.val (.int ld), .val (.int c1), .val (.int c2), .val (.int c3), .val (.int s_), .val (.int en), .val (.int (3 : Int32)), .val (.int (0 : Int32)), .val (.int (1 : Int32)), .val (.int (0 : Int32)), .unset] []) _
                  refine own_go (fun _ => XS.iload X0.here hx rfl (hb hby d2_233) rfl) ?_
                  show own_Ends p e below s₁ (mkF m 235 #[.val (.int ld), .val (.int c1), .val (.int c2), .val (.int c3), .val (.int s_), .val (.int en), .val (.int (3 : Int32)), .val (.int (0 : Int32)), .val (.int (1 : Int32)), .val (.int (0 : Int32)), .unset] [(.int (0 : Int32))]) _
                  refine own_go (fun _ => XS.ifYes X0.here hx rfl (pc0 := 235) (pc' := 248) rfl (hb hby d2_235) rfl ((if0 _ _).trans (teq (show (0 : Int32) = (0 : Int32) from by decide)).1) (by decide) (by decide)) ?_
                  show own_Ends p e below s₁ (mkF m 248 #[.val (.int ld), .val (.int c1), .val (.int c2), .val (.int c3), .val (.int s_), .val (.int en), .val (.int (3 : Int32)), .val (.int (0 : Int32)), .val (.int (1 : Int32)), .val (.int (0 : Int32)), .unset] []) _
                  refine own_go (fun _ => XS.iconst X0.here hx rfl (hb hby d2_248)) ?_
                  obtain ⟨fs, hr, hrun, hended, hW, hsame⟩ := X0.leave (v := some (.int (-1 : Int32))) (fun h => by rw [Bd.returns] at h; cases h)
                  refine ⟨_, _, retI X0 hx Bd.returns (hb hby d2_249) hr, hrun, hended, _, _, rfl, ?_, ⟨_, rfl⟩, hW, hsame.mono (by decide) (by decide)⟩
                  show Q_rmExp Z ld c1 c2 c3 s_ en h0 n0 _ s₁.heap _
                  rw [e0]
                  refine ⟨_, rfl, ?_, N0, rfl⟩
                  obtain ⟨z1, z2, z3, z4, z5, z6⟩ := own_s s_ hs
                  have t0 := (not_congr (own_ltC (192) (by decide))).mp hc4
                  have t1 := (not_congr (own_ltC (224) (by decide))).mp hc13
                  have t2 := (not_congr (own_ltC (240) (by decide))).mp hc26
                  have t3 := (own_ltC (248) (by decide)).mp hc39
                  have t4 := (not_congr (own_lt2)).mp hc59
                  have t5 := (not_congr (own_top hc1)).mp hc72
                  have t6 := (own_top hc2).mp hc90
                  have t7 := (not_congr (own_top hc3)).mp hc108
                  have y0 := own_c4 ld c1 c2 c3
                  exact own_A0 (by unfold own_P1; omega) (by unfold own_P2; omega) (by unfold own_P3; omega)
              · refine own_go (fun _ => XS.icmpYes X0.here hx rfl (pc0 := 90) (pc' := 97) rfl (hb hby d2_90) rfl (feq hc90).2 (by decide) (by decide)) ?_
                show own_Ends p e below s₁ (mkF m 97 #[.val (.int ld), .val (.int c1), .val (.int c2), .val (.int c3), .val (.int s_), .val (.int en), .val (.int (3 : Int32)), .val (.int (0 : Int32)), .unset, .unset, .unset] []) _
                refine own_go (fun _ => XS.iconst X0.here hx rfl (hb hby d2_97)) ?_
                refine own_go (fun _ => XS.istore X0.here hx rfl (hb hby d2_98) rfl (l' := #[.val (.int ld), .val (.int c1), .val (.int c2), .val (.int c3), .val (.int s_), .val (.int en), .val (.int (3 : Int32)), .val (.int (0 : Int32)), .val (.int (0 : Int32)), .unset, .unset]) rfl) ?_
                show own_Ends p e below s₁ (mkF m 100 #[.val (.int ld), .val (.int c1), .val (.int c2), .val (.int c3), .val (.int s_), .val (.int en), .val (.int (3 : Int32)), .val (.int (0 : Int32)), .val (.int (0 : Int32)), .unset, .unset] []) _
                refine own_go (fun _ => XS.iloadN X0.here hx rfl (hb hby d2_100) rfl) ?_
                refine own_go (fun _ => XS.sipush X0.here hx rfl (hb hby d2_101)) ?_
                refine own_go (fun _ => XS.iand X0.here hx rfl (hb hby d2_104) rfl) ?_
                show own_Ends p e below s₁ (mkF m 105 #[.val (.int ld), .val (.int c1), .val (.int c2), .val (.int c3), .val (.int s_), .val (.int en), .val (.int (3 : Int32)), .val (.int (0 : Int32)), .val (.int (0 : Int32)), .unset, .unset] [(.int (c3 &&& (192 : Int32)))]) _
                refine own_go (fun _ => XS.sipush X0.here hx rfl (hb hby d2_105)) ?_
                show own_Ends p e below s₁ (mkF m 108 #[.val (.int ld), .val (.int c1), .val (.int c2), .val (.int c3), .val (.int s_), .val (.int en), .val (.int (3 : Int32)), .val (.int (0 : Int32)), .val (.int (0 : Int32)), .unset, .unset] [(.int (128 : Int32)), (.int (c3 &&& (192 : Int32)))]) _
                by_cases hc108 : (c3 &&& (192 : Int32)) = (128 : Int32)
                · refine own_go (fun _ => XS.icmpNo X0.here hx rfl (hb hby d2_108) rfl (teq hc108).2) ?_
                  show own_Ends p e below s₁ (mkF m 111 #[.val (.int ld), .val (.int c1), .val (.int c2), .val (.int c3), .val (.int s_), .val (.int en), .val (.int (3 : Int32)), .val (.int (0 : Int32)), .val (.int (0 : Int32)), .unset, .unset] []) _
                  refine own_go (fun _ => XS.iconst X0.here hx rfl (hb hby d2_111)) ?_
                  refine own_go (fun _ => XS.goto X0.here hx rfl (pc0 := 112) (pc' := 116) rfl (hb hby d2_112) (by decide) (by decide)) ?_
                  refine own_go (fun _ => XS.istore X0.here hx rfl (hb hby d2_116) rfl (l' := #[.val (.int ld), .val (.int c1), .val (.int c2), .val (.int c3), .val (.int s_), .val (.int en), .val (.int (3 : Int32)), .val (.int (0 : Int32)), .val (.int (0 : Int32)), .val (.int (1 : Int32)), .unset]) rfl) ?_
                  show own_Ends p e below s₁ (mkF m 118 #[.val (.int ld), .val (.int c1), .val (.int c2), .val (.int c3), .val (.int s_), .val (.int en), .val (.int (3 : Int32)), .val (.int (0 : Int32)), .val (.int (0 : Int32)), .val (.int (1 : Int32)), .unset] []) _
                  refine own_go (fun _ => XS.iload X0.here hx rfl (hb hby d2_118) rfl) ?_
                  refine own_go (fun _ => XS.iconst X0.here hx rfl (hb hby d2_120)) ?_
                  show own_Ends p e below s₁ (mkF m 121 #[.val (.int ld), .val (.int c1), .val (.int c2), .val (.int c3), .val (.int s_), .val (.int en), .val (.int (3 : Int32)), .val (.int (0 : Int32)), .val (.int (0 : Int32)), .val (.int (1 : Int32)), .unset] [(.int (1 : Int32)), (.int (3 : Int32))]) _
                  refine own_go (fun _ => XS.icmpYes X0.here hx rfl (pc0 := 121) (pc' := 162) rfl (hb hby d2_121) rfl (feq (show ¬ ((3 : Int32) = (1 : Int32)) from by decide)).2 (by decide) (by decide)) ?_
                  show own_Ends p e below s₁ (mkF m 162 #[.val (.int ld), .val (.int c1), .val (.int c2), .val (.int c3), .val (.int s_), .val (.int en), .val (.int (3 : Int32)), .val (.int (0 : Int32)), .val (.int (0 : Int32)), .val (.int (1 : Int32)), .unset] []) _
                  refine own_go (fun _ => XS.iload X0.here hx rfl (hb hby d2_162) rfl) ?_
                  refine own_go (fun _ => XS.iconst X0.here hx rfl (hb hby d2_164)) ?_
                  show own_Ends p e below s₁ (mkF m 165 #[.val (.int ld), .val (.int c1), .val (.int c2), .val (.int c3), .val (.int s_), .val (.int en), .val (.int (3 : Int32)), .val (.int (0 : Int32)), .val (.int (0 : Int32)), .val (.int (1 : Int32)), .unset] [(.int (2 : Int32)), (.int (3 : Int32))]) _
                  refine own_go (fun _ => XS.icmpYes X0.here hx rfl (pc0 := 165) (pc' := 233) rfl (hb hby d2_165) rfl (feq (show ¬ ((3 : Int32) = (2 : Int32)) from by decide)).2 (by decide) (by decide)) ?_
                  show own_Ends p e below s₁ (mkF m 233 #[.val (.int ld), .val (.int c1), .val (.int c2), .val (.int c3), .val (.int s_), .val (.int en), .val (.int (3 : Int32)), .val (.int (0 : Int32)), .val (.int (0 : Int32)), .val (.int (1 : Int32)), .unset] []) _
                  refine own_go (fun _ => XS.iload X0.here hx rfl (hb hby d2_233) rfl) ?_
                  show own_Ends p e below s₁ (mkF m 235 #[.val (.int ld), .val (.int c1), .val (.int c2), .val (.int c3), .val (.int s_), .val (.int en), .val (.int (3 : Int32)), .val (.int (0 : Int32)), .val (.int (0 : Int32)), .val (.int (1 : Int32)), .unset] [(.int (0 : Int32))]) _
                  refine own_go (fun _ => XS.ifYes X0.here hx rfl (pc0 := 235) (pc' := 248) rfl (hb hby d2_235) rfl ((if0 _ _).trans (teq (show (0 : Int32) = (0 : Int32) from by decide)).1) (by decide) (by decide)) ?_
                  show own_Ends p e below s₁ (mkF m 248 #[.val (.int ld), .val (.int c1), .val (.int c2), .val (.int c3), .val (.int s_), .val (.int en), .val (.int (3 : Int32)), .val (.int (0 : Int32)), .val (.int (0 : Int32)), .val (.int (1 : Int32)), .unset] []) _
                  refine own_go (fun _ => XS.iconst X0.here hx rfl (hb hby d2_248)) ?_
                  obtain ⟨fs, hr, hrun, hended, hW, hsame⟩ := X0.leave (v := some (.int (-1 : Int32))) (fun h => by rw [Bd.returns] at h; cases h)
                  refine ⟨_, _, retI X0 hx Bd.returns (hb hby d2_249) hr, hrun, hended, _, _, rfl, ?_, ⟨_, rfl⟩, hW, hsame.mono (by decide) (by decide)⟩
                  show Q_rmExp Z ld c1 c2 c3 s_ en h0 n0 _ s₁.heap _
                  rw [e0]
                  refine ⟨_, rfl, ?_, N0, rfl⟩
                  obtain ⟨z1, z2, z3, z4, z5, z6⟩ := own_s s_ hs
                  have t0 := (not_congr (own_ltC (192) (by decide))).mp hc4
                  have t1 := (not_congr (own_ltC (224) (by decide))).mp hc13
                  have t2 := (not_congr (own_ltC (240) (by decide))).mp hc26
                  have t3 := (own_ltC (248) (by decide)).mp hc39
                  have t4 := (not_congr (own_lt2)).mp hc59
                  have t5 := (not_congr (own_top hc1)).mp hc72
                  have t6 := (not_congr (own_top hc2)).mp hc90
                  have t7 := (own_top hc3).mp hc108
                  have y0 := own_c4 ld c1 c2 c3
                  exact own_A0 (by unfold own_P1; omega) (by unfold own_P2; omega) (by unfold own_P3; omega)
                · refine own_go (fun _ => XS.icmpYes X0.here hx rfl (pc0 := 108) (pc' := 115) rfl (hb hby d2_108) rfl (feq hc108).2 (by decide) (by decide)) ?_
                  show own_Ends p e below s₁ (mkF m 115 #[.val (.int ld), .val (.int c1), .val (.int c2), .val (.int c3), .val (.int s_), .val (.int en), .val (.int (3 : Int32)), .val (.int (0 : Int32)), .val (.int (0 : Int32)), .unset, .unset] []) _
                  refine own_go (fun _ => XS.iconst X0.here hx rfl (hb hby d2_115)) ?_
                  refine own_go (fun _ => XS.istore X0.here hx rfl (hb hby d2_116) rfl (l' := #[.val (.int ld), .val (.int c1), .val (.int c2), .val (.int c3), .val (.int s_), .val (.int en), .val (.int (3 : Int32)), .val (.int (0 : Int32)), .val (.int (0 : Int32)), .val (.int (0 : Int32)), .unset]) rfl) ?_
                  show own_Ends p e below s₁ (mkF m 118 #[.val (.int ld), .val (.int c1), .val (.int c2), .val (.int c3), .val (.int s_), .val (.int en), .val (.int (3 : Int32)), .val (.int (0 : Int32)), .val (.int (0 : Int32)), .val (.int (0 : Int32)), .unset] []) _
                  refine own_go (fun _ => XS.iload X0.here hx rfl (hb hby d2_118) rfl) ?_
                  refine own_go (fun _ => XS.iconst X0.here hx rfl (hb hby d2_120)) ?_
                  show own_Ends p e below s₁ (mkF m 121 #[.val (.int ld), .val (.int c1), .val (.int c2), .val (.int c3), .val (.int s_), .val (.int en), .val (.int (3 : Int32)), .val (.int (0 : Int32)), .val (.int (0 : Int32)), .val (.int (0 : Int32)), .unset] [(.int (1 : Int32)), (.int (3 : Int32))]) _
                  refine own_go (fun _ => XS.icmpYes X0.here hx rfl (pc0 := 121) (pc' := 162) rfl (hb hby d2_121) rfl (feq (show ¬ ((3 : Int32) = (1 : Int32)) from by decide)).2 (by decide) (by decide)) ?_
                  show own_Ends p e below s₁ (mkF m 162 #[.val (.int ld), .val (.int c1), .val (.int c2), .val (.int c3), .val (.int s_), .val (.int en), .val (.int (3 : Int32)), .val (.int (0 : Int32)), .val (.int (0 : Int32)), .val (.int (0 : Int32)), .unset] []) _
                  refine own_go (fun _ => XS.iload X0.here hx rfl (hb hby d2_162) rfl) ?_
                  refine own_go (fun _ => XS.iconst X0.here hx rfl (hb hby d2_164)) ?_
                  show own_Ends p e below s₁ (mkF m 165 #[.val (.int ld), .val (.int c1), .val (.int c2), .val (.int c3), .val (.int s_), .val (.int en), .val (.int (3 : Int32)), .val (.int (0 : Int32)), .val (.int (0 : Int32)), .val (.int (0 : Int32)), .unset] [(.int (2 : Int32)), (.int (3 : Int32))]) _
                  refine own_go (fun _ => XS.icmpYes X0.here hx rfl (pc0 := 165) (pc' := 233) rfl (hb hby d2_165) rfl (feq (show ¬ ((3 : Int32) = (2 : Int32)) from by decide)).2 (by decide) (by decide)) ?_
                  show own_Ends p e below s₁ (mkF m 233 #[.val (.int ld), .val (.int c1), .val (.int c2), .val (.int c3), .val (.int s_), .val (.int en), .val (.int (3 : Int32)), .val (.int (0 : Int32)), .val (.int (0 : Int32)), .val (.int (0 : Int32)), .unset] []) _
                  refine own_go (fun _ => XS.iload X0.here hx rfl (hb hby d2_233) rfl) ?_
                  show own_Ends p e below s₁ (mkF m 235 #[.val (.int ld), .val (.int c1), .val (.int c2), .val (.int c3), .val (.int s_), .val (.int en), .val (.int (3 : Int32)), .val (.int (0 : Int32)), .val (.int (0 : Int32)), .val (.int (0 : Int32)), .unset] [(.int (0 : Int32))]) _
                  refine own_go (fun _ => XS.ifYes X0.here hx rfl (pc0 := 235) (pc' := 248) rfl (hb hby d2_235) rfl ((if0 _ _).trans (teq (show (0 : Int32) = (0 : Int32) from by decide)).1) (by decide) (by decide)) ?_
                  show own_Ends p e below s₁ (mkF m 248 #[.val (.int ld), .val (.int c1), .val (.int c2), .val (.int c3), .val (.int s_), .val (.int en), .val (.int (3 : Int32)), .val (.int (0 : Int32)), .val (.int (0 : Int32)), .val (.int (0 : Int32)), .unset] []) _
                  refine own_go (fun _ => XS.iconst X0.here hx rfl (hb hby d2_248)) ?_
                  obtain ⟨fs, hr, hrun, hended, hW, hsame⟩ := X0.leave (v := some (.int (-1 : Int32))) (fun h => by rw [Bd.returns] at h; cases h)
                  refine ⟨_, _, retI X0 hx Bd.returns (hb hby d2_249) hr, hrun, hended, _, _, rfl, ?_, ⟨_, rfl⟩, hW, hsame.mono (by decide) (by decide)⟩
                  show Q_rmExp Z ld c1 c2 c3 s_ en h0 n0 _ s₁.heap _
                  rw [e0]
                  refine ⟨_, rfl, ?_, N0, rfl⟩
                  obtain ⟨z1, z2, z3, z4, z5, z6⟩ := own_s s_ hs
                  have t0 := (not_congr (own_ltC (192) (by decide))).mp hc4
                  have t1 := (not_congr (own_ltC (224) (by decide))).mp hc13
                  have t2 := (not_congr (own_ltC (240) (by decide))).mp hc26
                  have t3 := (own_ltC (248) (by decide)).mp hc39
                  have t4 := (not_congr (own_lt2)).mp hc59
                  have t5 := (not_congr (own_top hc1)).mp hc72
                  have t6 := (not_congr (own_top hc2)).mp hc90
                  have t7 := (not_congr (own_top hc3)).mp hc108
                  have y0 := own_c4 ld c1 c2 c3
                  exact own_A0 (by unfold own_P1; omega) (by unfold own_P2; omega) (by unfold own_P3; omega)
        · refine own_go (fun _ => XS.icmpYes X0.here hx rfl (pc0 := 39) (pc' := 48) rfl (hb hby d2_39) rfl (flt hc39).2.1 (by decide) (by decide)) ?_
          show own_Ends p e below s₁ (mkF m 48 #[.val (.int ld), .val (.int c1), .val (.int c2), .val (.int c3), .val (.int s_), .val (.int en), .unset, .unset, .unset, .unset, .unset] []) _
          refine own_go (fun _ => XS.iconst X0.here hx rfl (hb hby d2_48)) ?_
          obtain ⟨fs, hr, hrun, hended, hW, hsame⟩ := X0.leave (v := some (.int (-1 : Int32))) (fun h => by rw [Bd.returns] at h; cases h)
          refine ⟨_, _, retI X0 hx Bd.returns (hb hby d2_49) hr, hrun, hended, _, _, rfl, ?_, ⟨_, rfl⟩, hW, hsame.mono (by decide) (by decide)⟩
          show Q_rmExp Z ld c1 c2 c3 s_ en h0 n0 _ s₁.heap _
          rw [e0]
          refine ⟨_, rfl, ?_, N0, rfl⟩
          obtain ⟨z1, z2, z3, z4, z5, z6⟩ := own_s s_ hs
          have t0 := (not_congr (own_ltC (192) (by decide))).mp hc4
          have t1 := (not_congr (own_ltC (224) (by decide))).mp hc13
          have t2 := (not_congr (own_ltC (240) (by decide))).mp hc26
          have t3 := (not_congr (own_ltC (248) (by decide))).mp hc39
          exact own_A0 (by unfold own_P1; omega) (by unfold own_P2; omega) (by unfold own_P3; omega)
theorem pn_0 : plainName "com/example/excedent/excedent/io/Utf8SequenceEndPinLaw" = true := by first | (simp [plainName, overriddenIn]; done) | decide +kernel
theorem ef_0 (m : MethodId) (p0 : Int32) (p1 : Int32) (p2 : Int32) (p3 : Int32) (p4 : Int32) (p5 : Int32) : entryFrame m #[(.int p0), (.int p1), (.int p2), (.int p3), (.int p4), (.int p5)] maxLocals = mkF m 0 #[.val (.int p0), .val (.int p1), .val (.int p2), .val (.int p3), .val (.int p4), .val (.int p5), .unset, .unset, .unset, .unset, .unset, .unset] [] := by first | (simp [entryFrame, mkF, argsToLocals, Value.category, maxLocals]; done) | rfl
def Q_rm0 (Z : State) (p0 : Int32) (p1 : Int32) (p2 : Int32) (p3 : Int32) (p4 : Int32) (p5 : Int32) (h0 : Heap) (n0 : Nat) (v : Option Value) (h : Heap) (L : List Loc) : Prop := v = some (.int 1) ∧ Fr n0 L
theorem pd_0 : parseMethodDescriptor "([BII)I" = some ⟨[(.array .byte), .int, .int], some .int⟩ := by decide +kernel
theorem pd_1 : parseMethodDescriptor "(IIIIII)I" = some ⟨[.int, .int, .int, .int, .int, .int], some .int⟩ := by decide +kernel
set_option maxRecDepth 65536 in
set_option maxHeartbeats 40000000 in
theorem rm0 (l : Launch) (Z : State) (a0 : Array Value) (hw : ∀ d ∈ tables_1, d.before a0 Z = true) (ws : List Jvm.Cond) (p0 : Int32) (p1 : Int32) (p2 : Int32) (p3 : Int32) (p4 : Int32) (p5 : Int32) (h0 : Heap) (n0 : Nat) (Z0 : n0 ≤ h0.size) :
    MetFree l x (head1 (Jvm.Cond.code x code maxLocals ret :: ws) room_1) (fun aa U => aa = #[(.int p0), (.int p1), (.int p2), (.int p3), (.int p4), (.int p5)] ∧ Z.Warmed39 U.vm ∧ U.heap = h0) (fun _ _ _ _ _ => True) (fun _ U ou U' => ∃ v L, ou = .returned v ∧ Q_rm0 Z p0 p1 p2 p3 p4 p5 h0 n0 v U'.heap L ∧ FrameEnd U ou U' L room_1.cells room_1.slots) := by
  refine MetFree.of_bodySF (plainFor_of_name pn_0) hisR ?_
  intro p e s m args below meth c s₁ Bd hml0 hP hK
  obtain ⟨rfl, hZ, hh⟩ := hP
  have hx := Bd.exec
  have hby := Bd.bytes
  have hml : c.maxLocals = 12 := hml0
  have hown : s.vm.findClass "com/example/excedent/excedent/io/Utf8SequenceEndPinLaw" = some m.cls := findClass_of_methodNamed Bd.named
  have hnm := (name_of_methodNamed Bd.named Bd.method).1
  have X0 : Stand p l e room_1 s m #[(.int p0), (.int p1), (.int p2), (.int p3), (.int p4), (.int p5)] below meth c s₁ [] 0 0 := Stand.of_body Bd
  have e0 : s₁.heap = h0 := by rw [← hh, Bd.state]; rfl
  have N0 := Fr.nil n0
  have K0 := Keep.refl h0 []
  refine own_as (ef_0 m p0 p1 p2 p3 p4 p5) ?_
  show own_Ends p e below s₁ (mkF m 0 #[.val (.int p0), .val (.int p1), .val (.int p2), .val (.int p3), .val (.int p4), .val (.int p5), .unset, .unset, .unset, .unset, .unset, .unset] []) _
  refine own_go (fun _ => XS.bipush X0.here hx rfl (hb hby at_0)) ?_
  obtain ⟨T1, h1, k1, X1, e1, E1, A1, st1⟩ := newP X0 hx hZ (hw _ (List.mem_of_getElem? (i := 0) rfl)) e0 (g := (mkF m 2 #[.val (.int p0), .val (.int p1), .val (.int p2), .val (.int p3), .val (.int p4), .val (.int p5), .unset, .unset, .unset, .unset, .unset, .unset] [(.int (6 : Int32))])) rfl (hb hby at_2) rfl (by decide) (cap := 6) (by decide) (by decide) (by decide) (by decide)
  obtain ⟨b1, g1⟩ : ∃ z, z = h0.size := ⟨_, rfl⟩
  rw [← g1] at A1 st1
  refine own_go st1 ?_
  have g_b1 : n0 ≤ b1 := Nat.le_trans Z0 (Nat.le_of_eq g1.symm)
  have sz_b1 : h0.size ≤ b1 := Nat.le_trans K0.1 (Nat.le_of_eq g1.symm)
  have K1 := K0.ext E1
  have Z1 : n0 ≤ h1.size := Nat.le_trans Z0 K1.1
  have V_b1 : Arv Z h1 b1 k1 .byte (6 : Int32) [(.int (0 : Int32)), (.int (0 : Int32)), (.int (0 : Int32)), (.int (0 : Int32)), (.int (0 : Int32)), (.int (0 : Int32))] (.int (0 : Int32)) := (Arv.new A1 (by decide)).pad (pad_rep [] (.int (0 : Int32)) 6)
  show own_Ends p e below T1 (mkF m 4 #[.val (.int p0), .val (.int p1), .val (.int p2), .val (.int p3), .val (.int p4), .val (.int p5), .unset, .unset, .unset, .unset, .unset, .unset] [(.ref b1)]) _
  refine own_go (fun _ => XS.astore X1.here hx rfl (hb hby at_4) rfl rfl (l' := #[.val (.int p0), .val (.int p1), .val (.int p2), .val (.int p3), .val (.int p4), .val (.int p5), .val (.ref b1), .unset, .unset, .unset, .unset, .unset]) rfl) ?_
  show own_Ends p e below T1 (mkF m 6 #[.val (.int p0), .val (.int p1), .val (.int p2), .val (.int p3), .val (.int p4), .val (.int p5), .val (.ref b1), .unset, .unset, .unset, .unset, .unset] []) _
  refine own_go (fun _ => XS.iload X1.here hx rfl (hb hby at_6) rfl) ?_
  refine own_go (fun _ => XS.bipush X1.here hx rfl (hb hby at_8)) ?_
  refine own_go (fun _ => XS.iushr X1.here hx rfl (hb hby at_10) rfl) ?_
  show own_Ends p e below T1 (mkF m 11 #[.val (.int p0), .val (.int p1), .val (.int p2), .val (.int p3), .val (.int p4), .val (.int p5), .val (.ref b1), .unset, .unset, .unset, .unset, .unset] [(.int ((p4.toUInt32 >>> ((8 : Int32) &&& 31).toUInt32).toInt32))]) _
  refine own_go (fun _ => XS.i2b X1.here hx rfl (hb hby at_11) rfl) ?_
  show own_Ends p e below T1 (mkF m 12 #[.val (.int p0), .val (.int p1), .val (.int p2), .val (.int p3), .val (.int p4), .val (.int p5), .val (.ref b1), .unset, .unset, .unset, .unset, .unset] [(.int (((p4.toUInt32 >>> ((8 : Int32) &&& 31).toUInt32).toInt32).toInt8.toInt32))]) _
  refine own_go (fun _ => XS.istore X1.here hx rfl (hb hby at_12) rfl (l' := #[.val (.int p0), .val (.int p1), .val (.int p2), .val (.int p3), .val (.int p4), .val (.int p5), .val (.ref b1), .val (.int (((p4.toUInt32 >>> ((8 : Int32) &&& 31).toUInt32).toInt32).toInt8.toInt32)), .unset, .unset, .unset, .unset]) rfl) ?_
  show own_Ends p e below T1 (mkF m 14 #[.val (.int p0), .val (.int p1), .val (.int p2), .val (.int p3), .val (.int p4), .val (.int p5), .val (.ref b1), .val (.int (((p4.toUInt32 >>> ((8 : Int32) &&& 31).toUInt32).toInt32).toInt8.toInt32)), .unset, .unset, .unset, .unset] []) _
  generalize hfl : (((p4.toUInt32 >>> ((8 : Int32) &&& 31).toUInt32).toInt32).toInt8.toInt32) = fl
  refine own_go (fun _ => XS.aload X1.here hx rfl (hb hby at_14) rfl rfl) ?_
  refine own_go (fun _ => XS.iconst X1.here hx rfl (hb hby at_16)) ?_
  refine own_go (fun _ => XS.iload X1.here hx rfl (hb hby at_17) rfl) ?_
  obtain ⟨cl_2, Ar_2, q_2, S_2, M_2, H_2, G_2⟩ := V_b1
  have hin2 : ¬ ((0 : Int32) < 0 ∨ cl_2.slots.size ≤ ((0 : Int32)).toNatClampNeg) := inb_of S_2 ⟨by decide, by decide⟩
  obtain ⟨T2, h2, X2, e2, W2, st2⟩ := stB X1 hx hZ e1 Ar_2 (j := (0 : Int32)) hin2 (g := (mkF m 19 #[.val (.int p0), .val (.int p1), .val (.int p2), .val (.int p3), .val (.int p4), .val (.int p5), .val (.ref b1), .val (.int fl), .unset, .unset, .unset, .unset] [(.int fl), (.int (0 : Int32)), (.ref b1)])) rfl rfl (hb hby at_19)
  refine own_go st2 ?_
  have V_b1_2 : Arv Z h2 b1 k1 .byte (6 : Int32) [(.int (nar .byte fl)), (.int (0 : Int32)), (.int (0 : Int32)), (.int (0 : Int32)), (.int (0 : Int32)), (.int (0 : Int32))] (.int (0 : Int32)) := Arv.set Ar_2 q_2 S_2 M_2 H_2 G_2 (fits_nar_byte _) W2 0 rfl (Nat.le_of_ble_eq_true rfl)
  have N2 := Fr.snoc X2 N0 g_b1
  have K2 := K1.wr W2 (Or.inr sz_b1)
  have Z2 : n0 ≤ h2.size := Nat.le_trans Z0 K2.1
  show own_Ends p e below T2 (mkF m 20 #[.val (.int p0), .val (.int p1), .val (.int p2), .val (.int p3), .val (.int p4), .val (.int p5), .val (.ref b1), .val (.int fl), .unset, .unset, .unset, .unset] []) _
  refine own_go (fun _ => XS.aload X2.here hx rfl (hb hby at_20) rfl rfl) ?_
  refine own_go (fun _ => XS.iconst X2.here hx rfl (hb hby at_22)) ?_
  refine own_go (fun _ => XS.iload X2.here hx rfl (hb hby at_23) rfl) ?_
  obtain ⟨cl_3, Ar_3, q_3, S_3, M_3, H_3, G_3⟩ := V_b1_2
  have hin3 : ¬ ((1 : Int32) < 0 ∨ cl_3.slots.size ≤ ((1 : Int32)).toNatClampNeg) := inb_of S_3 ⟨by decide, by decide⟩
  obtain ⟨T3, h3, X3, e3, W3, st3⟩ := stB X2 hx hZ e2 Ar_3 (j := (1 : Int32)) hin3 (g := (mkF m 25 #[.val (.int p0), .val (.int p1), .val (.int p2), .val (.int p3), .val (.int p4), .val (.int p5), .val (.ref b1), .val (.int fl), .unset, .unset, .unset, .unset] [(.int fl), (.int (1 : Int32)), (.ref b1)])) rfl rfl (hb hby at_25)
  refine own_go st3 ?_
  have V_b1_3 : Arv Z h3 b1 k1 .byte (6 : Int32) [(.int (nar .byte fl)), (.int (nar .byte fl)), (.int (0 : Int32)), (.int (0 : Int32)), (.int (0 : Int32)), (.int (0 : Int32))] (.int (0 : Int32)) := Arv.set Ar_3 q_3 S_3 M_3 H_3 G_3 (fits_nar_byte _) W3 1 rfl (Nat.le_of_ble_eq_true rfl)
  have N3 := Fr.snoc X3 N2 g_b1
  have K3 := K2.wr W3 (Or.inr sz_b1)
  have Z3 : n0 ≤ h3.size := Nat.le_trans Z0 K3.1
  show own_Ends p e below T3 (mkF m 26 #[.val (.int p0), .val (.int p1), .val (.int p2), .val (.int p3), .val (.int p4), .val (.int p5), .val (.ref b1), .val (.int fl), .unset, .unset, .unset, .unset] []) _
  refine own_go (fun _ => XS.aload X3.here hx rfl (hb hby at_26) rfl rfl) ?_
  refine own_go (fun _ => XS.iconst X3.here hx rfl (hb hby at_28)) ?_
  refine own_go (fun _ => XS.iload X3.here hx rfl (hb hby at_29) rfl) ?_
  obtain ⟨cl_4, Ar_4, q_4, S_4, M_4, H_4, G_4⟩ := V_b1_3
  have hin4 : ¬ ((2 : Int32) < 0 ∨ cl_4.slots.size ≤ ((2 : Int32)).toNatClampNeg) := inb_of S_4 ⟨by decide, by decide⟩
  obtain ⟨T4, h4, X4, e4, W4, st4⟩ := stB X3 hx hZ e3 Ar_4 (j := (2 : Int32)) hin4 (g := (mkF m 31 #[.val (.int p0), .val (.int p1), .val (.int p2), .val (.int p3), .val (.int p4), .val (.int p5), .val (.ref b1), .val (.int fl), .unset, .unset, .unset, .unset] [(.int fl), (.int (2 : Int32)), (.ref b1)])) rfl rfl (hb hby at_31)
  refine own_go st4 ?_
  have V_b1_4 : Arv Z h4 b1 k1 .byte (6 : Int32) [(.int (nar .byte fl)), (.int (nar .byte fl)), (.int (nar .byte fl)), (.int (0 : Int32)), (.int (0 : Int32)), (.int (0 : Int32))] (.int (0 : Int32)) := Arv.set Ar_4 q_4 S_4 M_4 H_4 G_4 (fits_nar_byte _) W4 2 rfl (Nat.le_of_ble_eq_true rfl)
  have N4 := Fr.snoc X4 N3 g_b1
  have K4 := K3.wr W4 (Or.inr sz_b1)
  have Z4 : n0 ≤ h4.size := Nat.le_trans Z0 K4.1
  show own_Ends p e below T4 (mkF m 32 #[.val (.int p0), .val (.int p1), .val (.int p2), .val (.int p3), .val (.int p4), .val (.int p5), .val (.ref b1), .val (.int fl), .unset, .unset, .unset, .unset] []) _
  refine own_go (fun _ => XS.aload X4.here hx rfl (hb hby at_32) rfl rfl) ?_
  refine own_go (fun _ => XS.iconst X4.here hx rfl (hb hby at_34)) ?_
  refine own_go (fun _ => XS.iload X4.here hx rfl (hb hby at_35) rfl) ?_
  obtain ⟨cl_5, Ar_5, q_5, S_5, M_5, H_5, G_5⟩ := V_b1_4
  have hin5 : ¬ ((3 : Int32) < 0 ∨ cl_5.slots.size ≤ ((3 : Int32)).toNatClampNeg) := inb_of S_5 ⟨by decide, by decide⟩
  obtain ⟨T5, h5, X5, e5, W5, st5⟩ := stB X4 hx hZ e4 Ar_5 (j := (3 : Int32)) hin5 (g := (mkF m 37 #[.val (.int p0), .val (.int p1), .val (.int p2), .val (.int p3), .val (.int p4), .val (.int p5), .val (.ref b1), .val (.int fl), .unset, .unset, .unset, .unset] [(.int fl), (.int (3 : Int32)), (.ref b1)])) rfl rfl (hb hby at_37)
  refine own_go st5 ?_
  have V_b1_5 : Arv Z h5 b1 k1 .byte (6 : Int32) [(.int (nar .byte fl)), (.int (nar .byte fl)), (.int (nar .byte fl)), (.int (nar .byte fl)), (.int (0 : Int32)), (.int (0 : Int32))] (.int (0 : Int32)) := Arv.set Ar_5 q_5 S_5 M_5 H_5 G_5 (fits_nar_byte _) W5 3 rfl (Nat.le_of_ble_eq_true rfl)
  have N5 := Fr.snoc X5 N4 g_b1
  have K5 := K4.wr W5 (Or.inr sz_b1)
  have Z5 : n0 ≤ h5.size := Nat.le_trans Z0 K5.1
  show own_Ends p e below T5 (mkF m 38 #[.val (.int p0), .val (.int p1), .val (.int p2), .val (.int p3), .val (.int p4), .val (.int p5), .val (.ref b1), .val (.int fl), .unset, .unset, .unset, .unset] []) _
  refine own_go (fun _ => XS.aload X5.here hx rfl (hb hby at_38) rfl rfl) ?_
  refine own_go (fun _ => XS.iconst X5.here hx rfl (hb hby at_40)) ?_
  refine own_go (fun _ => XS.iload X5.here hx rfl (hb hby at_41) rfl) ?_
  obtain ⟨cl_6, Ar_6, q_6, S_6, M_6, H_6, G_6⟩ := V_b1_5
  have hin6 : ¬ ((4 : Int32) < 0 ∨ cl_6.slots.size ≤ ((4 : Int32)).toNatClampNeg) := inb_of S_6 ⟨by decide, by decide⟩
  obtain ⟨T6, h6, X6, e6, W6, st6⟩ := stB X5 hx hZ e5 Ar_6 (j := (4 : Int32)) hin6 (g := (mkF m 43 #[.val (.int p0), .val (.int p1), .val (.int p2), .val (.int p3), .val (.int p4), .val (.int p5), .val (.ref b1), .val (.int fl), .unset, .unset, .unset, .unset] [(.int fl), (.int (4 : Int32)), (.ref b1)])) rfl rfl (hb hby at_43)
  refine own_go st6 ?_
  have V_b1_6 : Arv Z h6 b1 k1 .byte (6 : Int32) [(.int (nar .byte fl)), (.int (nar .byte fl)), (.int (nar .byte fl)), (.int (nar .byte fl)), (.int (nar .byte fl)), (.int (0 : Int32))] (.int (0 : Int32)) := Arv.set Ar_6 q_6 S_6 M_6 H_6 G_6 (fits_nar_byte _) W6 4 rfl (Nat.le_of_ble_eq_true rfl)
  have N6 := Fr.snoc X6 N5 g_b1
  have K6 := K5.wr W6 (Or.inr sz_b1)
  have Z6 : n0 ≤ h6.size := Nat.le_trans Z0 K6.1
  show own_Ends p e below T6 (mkF m 44 #[.val (.int p0), .val (.int p1), .val (.int p2), .val (.int p3), .val (.int p4), .val (.int p5), .val (.ref b1), .val (.int fl), .unset, .unset, .unset, .unset] []) _
  refine own_go (fun _ => XS.aload X6.here hx rfl (hb hby at_44) rfl rfl) ?_
  refine own_go (fun _ => XS.iconst X6.here hx rfl (hb hby at_46)) ?_
  refine own_go (fun _ => XS.iload X6.here hx rfl (hb hby at_47) rfl) ?_
  obtain ⟨cl_7, Ar_7, q_7, S_7, M_7, H_7, G_7⟩ := V_b1_6
  have hin7 : ¬ ((5 : Int32) < 0 ∨ cl_7.slots.size ≤ ((5 : Int32)).toNatClampNeg) := inb_of S_7 ⟨by decide, by decide⟩
  obtain ⟨T7, h7, X7, e7, W7, st7⟩ := stB X6 hx hZ e6 Ar_7 (j := (5 : Int32)) hin7 (g := (mkF m 49 #[.val (.int p0), .val (.int p1), .val (.int p2), .val (.int p3), .val (.int p4), .val (.int p5), .val (.ref b1), .val (.int fl), .unset, .unset, .unset, .unset] [(.int fl), (.int (5 : Int32)), (.ref b1)])) rfl rfl (hb hby at_49)
  refine own_go st7 ?_
  have V_b1_7 : Arv Z h7 b1 k1 .byte (6 : Int32) [(.int (nar .byte fl)), (.int (nar .byte fl)), (.int (nar .byte fl)), (.int (nar .byte fl)), (.int (nar .byte fl)), (.int (nar .byte fl))] (.int (0 : Int32)) := Arv.set Ar_7 q_7 S_7 M_7 H_7 G_7 (fits_nar_byte _) W7 5 rfl (Nat.le_of_ble_eq_true rfl)
  have N7 := Fr.snoc X7 N6 g_b1
  have K7 := K6.wr W7 (Or.inr sz_b1)
  have Z7 : n0 ≤ h7.size := Nat.le_trans Z0 K7.1
  show own_Ends p e below T7 (mkF m 50 #[.val (.int p0), .val (.int p1), .val (.int p2), .val (.int p3), .val (.int p4), .val (.int p5), .val (.ref b1), .val (.int fl), .unset, .unset, .unset, .unset] []) _
  refine own_go (fun _ => XS.iload X7.here hx rfl (hb hby at_50) rfl) ?_
  refine own_go (fun _ => XS.iconst X7.here hx rfl (hb hby at_52)) ?_
  refine own_go (fun _ => XS.iand X7.here hx rfl (hb hby at_53) rfl) ?_
  show own_Ends p e below T7 (mkF m 54 #[.val (.int p0), .val (.int p1), .val (.int p2), .val (.int p3), .val (.int p4), .val (.int p5), .val (.ref b1), .val (.int fl), .unset, .unset, .unset, .unset] [(.int (p4 &&& (1 : Int32)))]) _
  refine own_go (fun _ => XS.istore X7.here hx rfl (hb hby at_54) rfl (l' := #[.val (.int p0), .val (.int p1), .val (.int p2), .val (.int p3), .val (.int p4), .val (.int p5), .val (.ref b1), .val (.int fl), .val (.int (p4 &&& (1 : Int32))), .unset, .unset, .unset]) rfl) ?_
  show own_Ends p e below T7 (mkF m 56 #[.val (.int p0), .val (.int p1), .val (.int p2), .val (.int p3), .val (.int p4), .val (.int p5), .val (.ref b1), .val (.int fl), .val (.int (p4 &&& (1 : Int32))), .unset, .unset, .unset] []) _
  obtain hs | hs := own_bit p4
  · rw [hs]
    show own_Ends p e below T7 (mkF m 56 #[.val (.int p0), .val (.int p1), .val (.int p2), .val (.int p3), .val (.int p4), .val (.int p5), .val (.ref b1), .val (.int fl), .val (.int (0 : Int32)), .unset, .unset, .unset] []) _
    refine own_go (fun _ => XS.iload X7.here hx rfl (hb hby at_56) rfl) ?_
    refine own_go (fun _ => XS.iconst X7.here hx rfl (hb hby at_58)) ?_
    refine own_go (fun _ => XS.iadd X7.here hx rfl (hb hby at_59) rfl) ?_
    show own_Ends p e below T7 (mkF m 60 #[.val (.int p0), .val (.int p1), .val (.int p2), .val (.int p3), .val (.int p4), .val (.int p5), .val (.ref b1), .val (.int fl), .val (.int (0 : Int32)), .unset, .unset, .unset] [(.int (1 : Int32))]) _
    refine own_go (fun _ => XS.iload X7.here hx rfl (hb hby at_60) rfl) ?_
    refine own_go (X7.ldcInt hx hown (mvT hZ (hw _ (List.mem_of_getElem? (i := 1) rfl))) (g := (mkF m 62 #[.val (.int p0), .val (.int p1), .val (.int p2), .val (.int p3), .val (.int p4), .val (.int p5), .val (.ref b1), .val (.int fl), .val (.int (0 : Int32)), .unset, .unset, .unset] [(.int p5), (.int (1 : Int32))])) rfl (hb hby at_62)) ?_
    show own_Ends p e below T7 (mkF m 64 #[.val (.int p0), .val (.int p1), .val (.int p2), .val (.int p3), .val (.int p4), .val (.int p5), .val (.ref b1), .val (.int fl), .val (.int (0 : Int32)), .unset, .unset, .unset] [(.int (2147483647 : Int32)), (.int p5), (.int (1 : Int32))]) _
    refine own_go (fun _ => XS.iand X7.here hx rfl (hb hby at_64) rfl) ?_
    show own_Ends p e below T7 (mkF m 65 #[.val (.int p0), .val (.int p1), .val (.int p2), .val (.int p3), .val (.int p4), .val (.int p5), .val (.ref b1), .val (.int fl), .val (.int (0 : Int32)), .unset, .unset, .unset] [(.int (p5 &&& (2147483647 : Int32))), (.int (1 : Int32))]) _
    refine own_go (fun _ => XS.bipush X7.here hx rfl (hb hby at_65)) ?_
    refine own_go (fun _ => XS.iload X7.here hx rfl (hb hby at_67) rfl) ?_
    refine own_go (fun _ => XS.isub X7.here hx rfl (hb hby at_69) rfl) ?_
    show own_Ends p e below T7 (mkF m 70 #[.val (.int p0), .val (.int p1), .val (.int p2), .val (.int p3), .val (.int p4), .val (.int p5), .val (.ref b1), .val (.int fl), .val (.int (0 : Int32)), .unset, .unset, .unset] [(.int (6 : Int32)), (.int (p5 &&& (2147483647 : Int32))), (.int (1 : Int32))]) _
    refine own_go (fun _ => iremM X7 hx rfl (hb hby at_70) rfl (by decide)) ?_
    show own_Ends p e below T7 (mkF m 71 #[.val (.int p0), .val (.int p1), .val (.int p2), .val (.int p3), .val (.int p4), .val (.int p5), .val (.ref b1), .val (.int fl), .val (.int (0 : Int32)), .unset, .unset, .unset] [(.int ((p5 &&& (2147483647 : Int32)) % (6 : Int32))), (.int (1 : Int32))]) _
    refine own_go (fun _ => XS.iadd X7.here hx rfl (hb hby at_71) rfl) ?_
    show own_Ends p e below T7 (mkF m 72 #[.val (.int p0), .val (.int p1), .val (.int p2), .val (.int p3), .val (.int p4), .val (.int p5), .val (.ref b1), .val (.int fl), .val (.int (0 : Int32)), .unset, .unset, .unset] [(.int ((1 : Int32) + ((p5 &&& (2147483647 : Int32)) % (6 : Int32))))]) _
    refine own_go (fun _ => XS.istore X7.here hx rfl (hb hby at_72) rfl (l' := #[.val (.int p0), .val (.int p1), .val (.int p2), .val (.int p3), .val (.int p4), .val (.int p5), .val (.ref b1), .val (.int fl), .val (.int (0 : Int32)), .val (.int ((1 : Int32) + ((p5 &&& (2147483647 : Int32)) % (6 : Int32)))), .unset, .unset]) rfl) ?_
    show own_Ends p e below T7 (mkF m 74 #[.val (.int p0), .val (.int p1), .val (.int p2), .val (.int p3), .val (.int p4), .val (.int p5), .val (.ref b1), .val (.int fl), .val (.int (0 : Int32)), .val (.int ((1 : Int32) + ((p5 &&& (2147483647 : Int32)) % (6 : Int32)))), .unset, .unset] []) _
    generalize hen : ((1 : Int32) + ((p5 &&& (2147483647 : Int32)) % (6 : Int32))) = en
    refine own_go (fun _ => XS.iloadN X7.here hx rfl (hb hby at_74) rfl) ?_
    refine own_go (fun _ => XS.sipush X7.here hx rfl (hb hby at_75)) ?_
    refine own_go (fun _ => XS.ior X7.here hx rfl (hb hby at_78) rfl) ?_
    show own_Ends p e below T7 (mkF m 79 #[.val (.int p0), .val (.int p1), .val (.int p2), .val (.int p3), .val (.int p4), .val (.int p5), .val (.ref b1), .val (.int fl), .val (.int (0 : Int32)), .val (.int en), .unset, .unset] [(.int (p0 ||| (128 : Int32)))]) _
    refine own_go (fun _ => XS.sipush X7.here hx rfl (hb hby at_79)) ?_
    refine own_go (fun _ => XS.iand X7.here hx rfl (hb hby at_82) rfl) ?_
    show own_Ends p e below T7 (mkF m 83 #[.val (.int p0), .val (.int p1), .val (.int p2), .val (.int p3), .val (.int p4), .val (.int p5), .val (.ref b1), .val (.int fl), .val (.int (0 : Int32)), .val (.int en), .unset, .unset] [(.int ((p0 ||| (128 : Int32)) &&& (255 : Int32)))]) _
    refine own_go (fun _ => XS.istore X7.here hx rfl (hb hby at_83) rfl (l' := #[.val (.int p0), .val (.int p1), .val (.int p2), .val (.int p3), .val (.int p4), .val (.int p5), .val (.ref b1), .val (.int fl), .val (.int (0 : Int32)), .val (.int en), .val (.int ((p0 ||| (128 : Int32)) &&& (255 : Int32))), .unset]) rfl) ?_
    show own_Ends p e below T7 (mkF m 85 #[.val (.int p0), .val (.int p1), .val (.int p2), .val (.int p3), .val (.int p4), .val (.int p5), .val (.ref b1), .val (.int fl), .val (.int (0 : Int32)), .val (.int en), .val (.int ((p0 ||| (128 : Int32)) &&& (255 : Int32))), .unset] []) _
    have hld := own_ld (p0 ||| (128 : Int32))
    generalize gld : ((p0 ||| (128 : Int32)) &&& (255 : Int32)) = ld at hld ⊢
    refine own_go (fun _ => XS.aload X7.here hx rfl (hb hby at_85) rfl rfl) ?_
    refine own_go (fun _ => XS.iload X7.here hx rfl (hb hby at_87) rfl) ?_
    refine own_go (fun _ => XS.iload X7.here hx rfl (hb hby at_89) rfl) ?_
    refine own_go (fun _ => XS.i2b X7.here hx rfl (hb hby at_91) rfl) ?_
    show own_Ends p e below T7 (mkF m 92 #[.val (.int p0), .val (.int p1), .val (.int p2), .val (.int p3), .val (.int p4), .val (.int p5), .val (.ref b1), .val (.int fl), .val (.int (0 : Int32)), .val (.int en), .val (.int ld), .unset] [(.int (ld.toInt8.toInt32)), (.int (0 : Int32)), (.ref b1)]) _
    obtain ⟨cl_8, Ar_8, q_8, S_8, M_8, H_8, G_8⟩ := V_b1_7
    have hin8 : ¬ ((0 : Int32) < 0 ∨ cl_8.slots.size ≤ ((0 : Int32)).toNatClampNeg) := inb_of S_8 ⟨by decide, by decide⟩
    obtain ⟨T8, h8, X8, e8, W8, st8⟩ := stB X7 hx hZ e7 Ar_8 (j := (0 : Int32)) hin8 (g := (mkF m 92 #[.val (.int p0), .val (.int p1), .val (.int p2), .val (.int p3), .val (.int p4), .val (.int p5), .val (.ref b1), .val (.int fl), .val (.int (0 : Int32)), .val (.int en), .val (.int ld), .unset] [(.int (ld.toInt8.toInt32)), (.int (0 : Int32)), (.ref b1)])) rfl rfl (hb hby at_92)
    refine own_go st8 ?_
    have V_b1_8 : Arv Z h8 b1 k1 .byte (6 : Int32) [(.int (nar .byte (ld.toInt8.toInt32))), (.int (nar .byte fl)), (.int (nar .byte fl)), (.int (nar .byte fl)), (.int (nar .byte fl)), (.int (nar .byte fl))] (.int (0 : Int32)) := Arv.set Ar_8 q_8 S_8 M_8 H_8 G_8 (fits_nar_byte _) W8 0 rfl (Nat.le_of_ble_eq_true rfl)
    have N8 := Fr.snoc X8 N7 g_b1
    have K8 := K7.wr W8 (Or.inr sz_b1)
    have Z8 : n0 ≤ h8.size := Nat.le_trans Z0 K8.1
    show own_Ends p e below T8 (mkF m 93 #[.val (.int p0), .val (.int p1), .val (.int p2), .val (.int p3), .val (.int p4), .val (.int p5), .val (.ref b1), .val (.int fl), .val (.int (0 : Int32)), .val (.int en), .val (.int ld), .unset] []) _
    refine own_go (fun _ => XS.aload X8.here hx rfl (hb hby at_93) rfl rfl) ?_
    refine own_go (fun _ => XS.iload X8.here hx rfl (hb hby at_95) rfl) ?_
    refine own_go (fun _ => XS.iconst X8.here hx rfl (hb hby at_97)) ?_
    refine own_go (fun _ => XS.iadd X8.here hx rfl (hb hby at_98) rfl) ?_
    show own_Ends p e below T8 (mkF m 99 #[.val (.int p0), .val (.int p1), .val (.int p2), .val (.int p3), .val (.int p4), .val (.int p5), .val (.ref b1), .val (.int fl), .val (.int (0 : Int32)), .val (.int en), .val (.int ld), .unset] [(.int (1 : Int32)), (.ref b1)]) _
    refine own_go (fun _ => XS.iloadN X8.here hx rfl (hb hby at_99) rfl) ?_
    refine own_go (fun _ => XS.i2b X8.here hx rfl (hb hby at_100) rfl) ?_
    show own_Ends p e below T8 (mkF m 101 #[.val (.int p0), .val (.int p1), .val (.int p2), .val (.int p3), .val (.int p4), .val (.int p5), .val (.ref b1), .val (.int fl), .val (.int (0 : Int32)), .val (.int en), .val (.int ld), .unset] [(.int (p1.toInt8.toInt32)), (.int (1 : Int32)), (.ref b1)]) _
    obtain ⟨cl_9, Ar_9, q_9, S_9, M_9, H_9, G_9⟩ := V_b1_8
    have hin9 : ¬ ((1 : Int32) < 0 ∨ cl_9.slots.size ≤ ((1 : Int32)).toNatClampNeg) := inb_of S_9 ⟨by decide, by decide⟩
    obtain ⟨T9, h9, X9, e9, W9, st9⟩ := stB X8 hx hZ e8 Ar_9 (j := (1 : Int32)) hin9 (g := (mkF m 101 #[.val (.int p0), .val (.int p1), .val (.int p2), .val (.int p3), .val (.int p4), .val (.int p5), .val (.ref b1), .val (.int fl), .val (.int (0 : Int32)), .val (.int en), .val (.int ld), .unset] [(.int (p1.toInt8.toInt32)), (.int (1 : Int32)), (.ref b1)])) rfl rfl (hb hby at_101)
    refine own_go st9 ?_
    have V_b1_9 : Arv Z h9 b1 k1 .byte (6 : Int32) [(.int (nar .byte (ld.toInt8.toInt32))), (.int (nar .byte (p1.toInt8.toInt32))), (.int (nar .byte fl)), (.int (nar .byte fl)), (.int (nar .byte fl)), (.int (nar .byte fl))] (.int (0 : Int32)) := Arv.set Ar_9 q_9 S_9 M_9 H_9 G_9 (fits_nar_byte _) W9 1 rfl (Nat.le_of_ble_eq_true rfl)
    have N9 := Fr.snoc X9 N8 g_b1
    have K9 := K8.wr W9 (Or.inr sz_b1)
    have Z9 : n0 ≤ h9.size := Nat.le_trans Z0 K9.1
    show own_Ends p e below T9 (mkF m 102 #[.val (.int p0), .val (.int p1), .val (.int p2), .val (.int p3), .val (.int p4), .val (.int p5), .val (.ref b1), .val (.int fl), .val (.int (0 : Int32)), .val (.int en), .val (.int ld), .unset] []) _
    refine own_go (fun _ => XS.aload X9.here hx rfl (hb hby at_102) rfl rfl) ?_
    refine own_go (fun _ => XS.iload X9.here hx rfl (hb hby at_104) rfl) ?_
    refine own_go (fun _ => XS.iconst X9.here hx rfl (hb hby at_106)) ?_
    refine own_go (fun _ => XS.iadd X9.here hx rfl (hb hby at_107) rfl) ?_
    show own_Ends p e below T9 (mkF m 108 #[.val (.int p0), .val (.int p1), .val (.int p2), .val (.int p3), .val (.int p4), .val (.int p5), .val (.ref b1), .val (.int fl), .val (.int (0 : Int32)), .val (.int en), .val (.int ld), .unset] [(.int (2 : Int32)), (.ref b1)]) _
    refine own_go (fun _ => XS.iloadN X9.here hx rfl (hb hby at_108) rfl) ?_
    refine own_go (fun _ => XS.i2b X9.here hx rfl (hb hby at_109) rfl) ?_
    show own_Ends p e below T9 (mkF m 110 #[.val (.int p0), .val (.int p1), .val (.int p2), .val (.int p3), .val (.int p4), .val (.int p5), .val (.ref b1), .val (.int fl), .val (.int (0 : Int32)), .val (.int en), .val (.int ld), .unset] [(.int (p2.toInt8.toInt32)), (.int (2 : Int32)), (.ref b1)]) _
    obtain ⟨cl_10, Ar_10, q_10, S_10, M_10, H_10, G_10⟩ := V_b1_9
    have hin10 : ¬ ((2 : Int32) < 0 ∨ cl_10.slots.size ≤ ((2 : Int32)).toNatClampNeg) := inb_of S_10 ⟨by decide, by decide⟩
    obtain ⟨T10, h10, X10, e10, W10, st10⟩ := stB X9 hx hZ e9 Ar_10 (j := (2 : Int32)) hin10 (g := (mkF m 110 #[.val (.int p0), .val (.int p1), .val (.int p2), .val (.int p3), .val (.int p4), .val (.int p5), .val (.ref b1), .val (.int fl), .val (.int (0 : Int32)), .val (.int en), .val (.int ld), .unset] [(.int (p2.toInt8.toInt32)), (.int (2 : Int32)), (.ref b1)])) rfl rfl (hb hby at_110)
    refine own_go st10 ?_
    have V_b1_10 : Arv Z h10 b1 k1 .byte (6 : Int32) [(.int (nar .byte (ld.toInt8.toInt32))), (.int (nar .byte (p1.toInt8.toInt32))), (.int (nar .byte (p2.toInt8.toInt32))), (.int (nar .byte fl)), (.int (nar .byte fl)), (.int (nar .byte fl))] (.int (0 : Int32)) := Arv.set Ar_10 q_10 S_10 M_10 H_10 G_10 (fits_nar_byte _) W10 2 rfl (Nat.le_of_ble_eq_true rfl)
    have N10 := Fr.snoc X10 N9 g_b1
    have K10 := K9.wr W10 (Or.inr sz_b1)
    have Z10 : n0 ≤ h10.size := Nat.le_trans Z0 K10.1
    show own_Ends p e below T10 (mkF m 111 #[.val (.int p0), .val (.int p1), .val (.int p2), .val (.int p3), .val (.int p4), .val (.int p5), .val (.ref b1), .val (.int fl), .val (.int (0 : Int32)), .val (.int en), .val (.int ld), .unset] []) _
    refine own_go (fun _ => XS.aload X10.here hx rfl (hb hby at_111) rfl rfl) ?_
    refine own_go (fun _ => XS.iload X10.here hx rfl (hb hby at_113) rfl) ?_
    refine own_go (fun _ => XS.iconst X10.here hx rfl (hb hby at_115)) ?_
    refine own_go (fun _ => XS.iadd X10.here hx rfl (hb hby at_116) rfl) ?_
    show own_Ends p e below T10 (mkF m 117 #[.val (.int p0), .val (.int p1), .val (.int p2), .val (.int p3), .val (.int p4), .val (.int p5), .val (.ref b1), .val (.int fl), .val (.int (0 : Int32)), .val (.int en), .val (.int ld), .unset] [(.int (3 : Int32)), (.ref b1)]) _
    refine own_go (fun _ => XS.iloadN X10.here hx rfl (hb hby at_117) rfl) ?_
    refine own_go (fun _ => XS.i2b X10.here hx rfl (hb hby at_118) rfl) ?_
    show own_Ends p e below T10 (mkF m 119 #[.val (.int p0), .val (.int p1), .val (.int p2), .val (.int p3), .val (.int p4), .val (.int p5), .val (.ref b1), .val (.int fl), .val (.int (0 : Int32)), .val (.int en), .val (.int ld), .unset] [(.int (p3.toInt8.toInt32)), (.int (3 : Int32)), (.ref b1)]) _
    obtain ⟨cl_11, Ar_11, q_11, S_11, M_11, H_11, G_11⟩ := V_b1_10
    have hin11 : ¬ ((3 : Int32) < 0 ∨ cl_11.slots.size ≤ ((3 : Int32)).toNatClampNeg) := inb_of S_11 ⟨by decide, by decide⟩
    obtain ⟨T11, h11, X11, e11, W11, st11⟩ := stB X10 hx hZ e10 Ar_11 (j := (3 : Int32)) hin11 (g := (mkF m 119 #[.val (.int p0), .val (.int p1), .val (.int p2), .val (.int p3), .val (.int p4), .val (.int p5), .val (.ref b1), .val (.int fl), .val (.int (0 : Int32)), .val (.int en), .val (.int ld), .unset] [(.int (p3.toInt8.toInt32)), (.int (3 : Int32)), (.ref b1)])) rfl rfl (hb hby at_119)
    refine own_go st11 ?_
    have V_b1_11 : Arv Z h11 b1 k1 .byte (6 : Int32) [(.int (nar .byte (ld.toInt8.toInt32))), (.int (nar .byte (p1.toInt8.toInt32))), (.int (nar .byte (p2.toInt8.toInt32))), (.int (nar .byte (p3.toInt8.toInt32))), (.int (nar .byte fl)), (.int (nar .byte fl))] (.int (0 : Int32)) := Arv.set Ar_11 q_11 S_11 M_11 H_11 G_11 (fits_nar_byte _) W11 3 rfl (Nat.le_of_ble_eq_true rfl)
    have N11 := Fr.snoc X11 N10 g_b1
    have K11 := K10.wr W11 (Or.inr sz_b1)
    have Z11 : n0 ≤ h11.size := Nat.le_trans Z0 K11.1
    show own_Ends p e below T11 (mkF m 120 #[.val (.int p0), .val (.int p1), .val (.int p2), .val (.int p3), .val (.int p4), .val (.int p5), .val (.ref b1), .val (.int fl), .val (.int (0 : Int32)), .val (.int en), .val (.int ld), .unset] []) _
    refine own_go (fun _ => XS.aload X11.here hx rfl (hb hby at_120) rfl rfl) ?_
    refine own_go (fun _ => XS.iload X11.here hx rfl (hb hby at_122) rfl) ?_
    refine own_go (fun _ => XS.iload X11.here hx rfl (hb hby at_124) rfl) ?_
    obtain ⟨_, _, ⟨T12, L12, k12, n12⟩, -, X12, ⟨Lc12, hQ12, l12, y12, z12⟩, st12⟩ := Jvm.LawKit.callS X11 hx (y := (⟨"com/example/excedent/excedent/io/Utf8", "sequenceEnd", "([BII)I"⟩ : MethodName)) hown (mvT hZ (hw _ (List.mem_of_getElem? (i := 2) rfl))) (mvT hZ (hw _ (List.mem_of_getElem? (i := 3) rfl))) (mvT hZ (hw _ (List.mem_of_getElem? (i := 4) rfl))) (mvT hZ (hw _ (List.mem_of_getElem? (i := 5) rfl))) (by decide) (backOf (W := 0) (rmSeq l Z a0 hw [] b1 ((0 : Int32)) en k1 [(.int (nar .byte (ld.toInt8.toInt32))), (.int (nar .byte (p1.toInt8.toInt32))), (.int (nar .byte (p2.toInt8.toInt32))), (.int (nar .byte (p3.toInt8.toInt32))), (.int (nar .byte fl)), (.int (nar .byte fl))] (nar .byte (ld.toInt8.toInt32)) (nar .byte (p1.toInt8.toInt32)) (nar .byte (p2.toInt8.toInt32)) (nar .byte (p3.toInt8.toInt32)) ld (p1 &&& (255 : Int32)) (p2 &&& (255 : Int32)) (p3 &&& (255 : Int32)) h11 n0 Z11 V_b1_11 (by decide) hld (own_ld _) (own_ld _) (own_ld _) rfl rfl rfl rfl ((own_nb ld).trans (own_same hld)) (own_nb _) (own_nb _) (own_nb _)) hZ (hw _ (List.mem_of_getElem? (i := 5) rfl)) (hw _ (List.mem_of_getElem? (i := 4) rfl)) (by decide) (by decide)) (g := (mkF m 126 #[.val (.int p0), .val (.int p1), .val (.int p2), .val (.int p3), .val (.int p4), .val (.int p5), .val (.ref b1), .val (.int fl), .val (.int (0 : Int32)), .val (.int en), .val (.int ld), .unset] [(.int en), (.int (0 : Int32)), (.ref b1)])) rfl (by rw [hml]; rfl) (argsL := [(.ref b1), (.int (0 : Int32)), (.int en)]) (rest := []) (lenOf pd_0 rfl) rfl (by show 2 * 0 + _ ≤ _; exact Nat.le_of_eq rfl) (hb hby at_126) (fun _ _ => ⟨rfl, e11, (by decide : 1 + 0 ≤ _), (by decide : 6 + 0 ≤ _)⟩)
    dsimp only [Pt.U, Pt.locs, Pt.cells, Pt.slots] at X12 l12 y12 z12 st12 hQ12
    subst l12 y12 z12
    refine own_go st12 ?_
    obtain ⟨r1, rfl, hA1, N12q, eh12⟩ := hQ12
    have N12 := Fr.app N11 N12q
    show own_Ends p e below T12 (mkF m 129 #[.val (.int p0), .val (.int p1), .val (.int p2), .val (.int p3), .val (.int p4), .val (.int p5), .val (.ref b1), .val (.int fl), .val (.int (0 : Int32)), .val (.int en), .val (.int ld), .unset] [(.int r1)]) _
    refine own_go (fun _ => XS.istore X12.here hx rfl (hb hby at_129) rfl (l' := #[.val (.int p0), .val (.int p1), .val (.int p2), .val (.int p3), .val (.int p4), .val (.int p5), .val (.ref b1), .val (.int fl), .val (.int (0 : Int32)), .val (.int en), .val (.int ld), .val (.int r1)]) rfl) ?_
    show own_Ends p e below T12 (mkF m 131 #[.val (.int p0), .val (.int p1), .val (.int p2), .val (.int p3), .val (.int p4), .val (.int p5), .val (.ref b1), .val (.int fl), .val (.int (0 : Int32)), .val (.int en), .val (.int ld), .val (.int r1)] []) _
    refine own_go (fun _ => XS.iload X12.here hx rfl (hb hby at_131) rfl) ?_
    refine own_go (fun _ => XS.iload X12.here hx rfl (hb hby at_133) rfl) ?_
    refine own_go (fun _ => XS.iloadN X12.here hx rfl (hb hby at_135) rfl) ?_
    refine own_go (fun _ => XS.sipush X12.here hx rfl (hb hby at_136)) ?_
    refine own_go (fun _ => XS.iand X12.here hx rfl (hb hby at_139) rfl) ?_
    show own_Ends p e below T12 (mkF m 140 #[.val (.int p0), .val (.int p1), .val (.int p2), .val (.int p3), .val (.int p4), .val (.int p5), .val (.ref b1), .val (.int fl), .val (.int (0 : Int32)), .val (.int en), .val (.int ld), .val (.int r1)] [(.int (p1 &&& (255 : Int32))), (.int ld), (.int r1)]) _
    refine own_go (fun _ => XS.iloadN X12.here hx rfl (hb hby at_140) rfl) ?_
    refine own_go (fun _ => XS.sipush X12.here hx rfl (hb hby at_141)) ?_
    refine own_go (fun _ => XS.iand X12.here hx rfl (hb hby at_144) rfl) ?_
    show own_Ends p e below T12 (mkF m 145 #[.val (.int p0), .val (.int p1), .val (.int p2), .val (.int p3), .val (.int p4), .val (.int p5), .val (.ref b1), .val (.int fl), .val (.int (0 : Int32)), .val (.int en), .val (.int ld), .val (.int r1)] [(.int (p2 &&& (255 : Int32))), (.int (p1 &&& (255 : Int32))), (.int ld), (.int r1)]) _
    refine own_go (fun _ => XS.iloadN X12.here hx rfl (hb hby at_145) rfl) ?_
    refine own_go (fun _ => XS.sipush X12.here hx rfl (hb hby at_146)) ?_
    refine own_go (fun _ => XS.iand X12.here hx rfl (hb hby at_149) rfl) ?_
    show own_Ends p e below T12 (mkF m 150 #[.val (.int p0), .val (.int p1), .val (.int p2), .val (.int p3), .val (.int p4), .val (.int p5), .val (.ref b1), .val (.int fl), .val (.int (0 : Int32)), .val (.int en), .val (.int ld), .val (.int r1)] [(.int (p3 &&& (255 : Int32))), (.int (p2 &&& (255 : Int32))), (.int (p1 &&& (255 : Int32))), (.int ld), (.int r1)]) _
    refine own_go (fun _ => XS.iload X12.here hx rfl (hb hby at_150) rfl) ?_
    refine own_go (fun _ => XS.iload X12.here hx rfl (hb hby at_152) rfl) ?_
    obtain ⟨_, _, ⟨T13, L13, k13, n13⟩, -, X13, ⟨Lc13, hQ13, l13, y13, z13⟩, st13⟩ := Jvm.LawKit.callS X12 hx (y := (⟨"com/example/excedent/excedent/io/Utf8SequenceEndPinLaw", "expected", "(IIIIII)I"⟩ : MethodName)) hown (mvT hZ (hw _ (List.mem_of_getElem? (i := 6) rfl))) (mvT hZ (hw _ (List.mem_of_getElem? (i := 7) rfl))) (mvT hZ (hw _ (List.mem_of_getElem? (i := 8) rfl))) (mvT hZ (hw _ (List.mem_of_getElem? (i := 9) rfl))) (by decide) (backOf (W := 1) (rmExp l Z a0 hw [] ld ((p1 &&& (255 : Int32))) ((p2 &&& (255 : Int32))) ((p3 &&& (255 : Int32))) ((0 : Int32)) en  h11 n0 Z11 (by decide) hld (own_ld _) (own_ld _) (own_ld _)) hZ (hw _ (List.mem_of_getElem? (i := 9) rfl)) (hw _ (List.mem_of_getElem? (i := 8) rfl)) (by decide) (by decide)) (g := (mkF m 154 #[.val (.int p0), .val (.int p1), .val (.int p2), .val (.int p3), .val (.int p4), .val (.int p5), .val (.ref b1), .val (.int fl), .val (.int (0 : Int32)), .val (.int en), .val (.int ld), .val (.int r1)] [(.int en), (.int (0 : Int32)), (.int (p3 &&& (255 : Int32))), (.int (p2 &&& (255 : Int32))), (.int (p1 &&& (255 : Int32))), (.int ld), (.int r1)])) rfl (by rw [hml]; rfl) (argsL := [(.int ld), (.int (p1 &&& (255 : Int32))), (.int (p2 &&& (255 : Int32))), (.int (p3 &&& (255 : Int32))), (.int (0 : Int32)), (.int en)]) (rest := [(.int r1)]) (lenOf pd_1 rfl) rfl (by show 2 * 0 + _ ≤ _; exact Nat.le_of_eq rfl) (hb hby at_154) (fun _ _ => ⟨rfl, eh12, (by decide : 1 + 0 ≤ _), (by decide : 6 + 0 ≤ _)⟩)
    dsimp only [Pt.U, Pt.locs, Pt.cells, Pt.slots] at X13 l13 y13 z13 st13 hQ13
    subst l13 y13 z13
    refine own_go st13 ?_
    obtain ⟨r2, rfl, hA2, N13q, eh13⟩ := hQ13
    have N13 := Fr.app N12 N13q
    show own_Ends p e below T13 (mkF m 157 #[.val (.int p0), .val (.int p1), .val (.int p2), .val (.int p3), .val (.int p4), .val (.int p5), .val (.ref b1), .val (.int fl), .val (.int (0 : Int32)), .val (.int en), .val (.int ld), .val (.int r1)] [(.int r2), (.int r1)]) _
    refine own_go (fun _ => XS.icmpNo X13.here hx rfl (hb hby at_157) rfl (teq (show r1 = r2 from own_A_uniq hA1 hA2)).2) ?_
    show own_Ends p e below T13 (mkF m 160 #[.val (.int p0), .val (.int p1), .val (.int p2), .val (.int p3), .val (.int p4), .val (.int p5), .val (.ref b1), .val (.int fl), .val (.int (0 : Int32)), .val (.int en), .val (.int ld), .val (.int r1)] []) _
    refine own_go (fun _ => XS.iconst X13.here hx rfl (hb hby at_160)) ?_
    refine own_go (fun _ => XS.goto X13.here hx rfl (pc0 := 161) (pc' := 165) rfl (hb hby at_161) (by decide) (by decide)) ?_
    obtain ⟨fs, hr, hrun, hended, hW, hsame⟩ := X13.leave (v := some (.int (1 : Int32))) (fun h => by rw [Bd.returns] at h; cases h)
    refine ⟨_, _, retN X13 hx (t := .boolean) Bd.returns (by simp) (hb hby at_165) hr, hrun, hended, _, _, rfl, ?_, ⟨_, rfl⟩, hW, hsame.mono (by decide) (by decide)⟩
    show Q_rm0 Z p0 p1 p2 p3 p4 p5 h0 n0 _ T13.heap _
    rw [eh13]
    exact ⟨rfl, N13⟩
  · rw [hs]
    show own_Ends p e below T7 (mkF m 56 #[.val (.int p0), .val (.int p1), .val (.int p2), .val (.int p3), .val (.int p4), .val (.int p5), .val (.ref b1), .val (.int fl), .val (.int (1 : Int32)), .unset, .unset, .unset] []) _
    refine own_go (fun _ => XS.iload X7.here hx rfl (hb hby at_56) rfl) ?_
    refine own_go (fun _ => XS.iconst X7.here hx rfl (hb hby at_58)) ?_
    refine own_go (fun _ => XS.iadd X7.here hx rfl (hb hby at_59) rfl) ?_
    show own_Ends p e below T7 (mkF m 60 #[.val (.int p0), .val (.int p1), .val (.int p2), .val (.int p3), .val (.int p4), .val (.int p5), .val (.ref b1), .val (.int fl), .val (.int (1 : Int32)), .unset, .unset, .unset] [(.int (2 : Int32))]) _
    refine own_go (fun _ => XS.iload X7.here hx rfl (hb hby at_60) rfl) ?_
    refine own_go (X7.ldcInt hx hown (mvT hZ (hw _ (List.mem_of_getElem? (i := 1) rfl))) (g := (mkF m 62 #[.val (.int p0), .val (.int p1), .val (.int p2), .val (.int p3), .val (.int p4), .val (.int p5), .val (.ref b1), .val (.int fl), .val (.int (1 : Int32)), .unset, .unset, .unset] [(.int p5), (.int (2 : Int32))])) rfl (hb hby at_62)) ?_
    show own_Ends p e below T7 (mkF m 64 #[.val (.int p0), .val (.int p1), .val (.int p2), .val (.int p3), .val (.int p4), .val (.int p5), .val (.ref b1), .val (.int fl), .val (.int (1 : Int32)), .unset, .unset, .unset] [(.int (2147483647 : Int32)), (.int p5), (.int (2 : Int32))]) _
    refine own_go (fun _ => XS.iand X7.here hx rfl (hb hby at_64) rfl) ?_
    show own_Ends p e below T7 (mkF m 65 #[.val (.int p0), .val (.int p1), .val (.int p2), .val (.int p3), .val (.int p4), .val (.int p5), .val (.ref b1), .val (.int fl), .val (.int (1 : Int32)), .unset, .unset, .unset] [(.int (p5 &&& (2147483647 : Int32))), (.int (2 : Int32))]) _
    refine own_go (fun _ => XS.bipush X7.here hx rfl (hb hby at_65)) ?_
    refine own_go (fun _ => XS.iload X7.here hx rfl (hb hby at_67) rfl) ?_
    refine own_go (fun _ => XS.isub X7.here hx rfl (hb hby at_69) rfl) ?_
    show own_Ends p e below T7 (mkF m 70 #[.val (.int p0), .val (.int p1), .val (.int p2), .val (.int p3), .val (.int p4), .val (.int p5), .val (.ref b1), .val (.int fl), .val (.int (1 : Int32)), .unset, .unset, .unset] [(.int (5 : Int32)), (.int (p5 &&& (2147483647 : Int32))), (.int (2 : Int32))]) _
    refine own_go (fun _ => iremM X7 hx rfl (hb hby at_70) rfl (by decide)) ?_
    show own_Ends p e below T7 (mkF m 71 #[.val (.int p0), .val (.int p1), .val (.int p2), .val (.int p3), .val (.int p4), .val (.int p5), .val (.ref b1), .val (.int fl), .val (.int (1 : Int32)), .unset, .unset, .unset] [(.int ((p5 &&& (2147483647 : Int32)) % (5 : Int32))), (.int (2 : Int32))]) _
    refine own_go (fun _ => XS.iadd X7.here hx rfl (hb hby at_71) rfl) ?_
    show own_Ends p e below T7 (mkF m 72 #[.val (.int p0), .val (.int p1), .val (.int p2), .val (.int p3), .val (.int p4), .val (.int p5), .val (.ref b1), .val (.int fl), .val (.int (1 : Int32)), .unset, .unset, .unset] [(.int ((2 : Int32) + ((p5 &&& (2147483647 : Int32)) % (5 : Int32))))]) _
    refine own_go (fun _ => XS.istore X7.here hx rfl (hb hby at_72) rfl (l' := #[.val (.int p0), .val (.int p1), .val (.int p2), .val (.int p3), .val (.int p4), .val (.int p5), .val (.ref b1), .val (.int fl), .val (.int (1 : Int32)), .val (.int ((2 : Int32) + ((p5 &&& (2147483647 : Int32)) % (5 : Int32)))), .unset, .unset]) rfl) ?_
    show own_Ends p e below T7 (mkF m 74 #[.val (.int p0), .val (.int p1), .val (.int p2), .val (.int p3), .val (.int p4), .val (.int p5), .val (.ref b1), .val (.int fl), .val (.int (1 : Int32)), .val (.int ((2 : Int32) + ((p5 &&& (2147483647 : Int32)) % (5 : Int32)))), .unset, .unset] []) _
    generalize hen : ((2 : Int32) + ((p5 &&& (2147483647 : Int32)) % (5 : Int32))) = en
    refine own_go (fun _ => XS.iloadN X7.here hx rfl (hb hby at_74) rfl) ?_
    refine own_go (fun _ => XS.sipush X7.here hx rfl (hb hby at_75)) ?_
    refine own_go (fun _ => XS.ior X7.here hx rfl (hb hby at_78) rfl) ?_
    show own_Ends p e below T7 (mkF m 79 #[.val (.int p0), .val (.int p1), .val (.int p2), .val (.int p3), .val (.int p4), .val (.int p5), .val (.ref b1), .val (.int fl), .val (.int (1 : Int32)), .val (.int en), .unset, .unset] [(.int (p0 ||| (128 : Int32)))]) _
    refine own_go (fun _ => XS.sipush X7.here hx rfl (hb hby at_79)) ?_
    refine own_go (fun _ => XS.iand X7.here hx rfl (hb hby at_82) rfl) ?_
    show own_Ends p e below T7 (mkF m 83 #[.val (.int p0), .val (.int p1), .val (.int p2), .val (.int p3), .val (.int p4), .val (.int p5), .val (.ref b1), .val (.int fl), .val (.int (1 : Int32)), .val (.int en), .unset, .unset] [(.int ((p0 ||| (128 : Int32)) &&& (255 : Int32)))]) _
    refine own_go (fun _ => XS.istore X7.here hx rfl (hb hby at_83) rfl (l' := #[.val (.int p0), .val (.int p1), .val (.int p2), .val (.int p3), .val (.int p4), .val (.int p5), .val (.ref b1), .val (.int fl), .val (.int (1 : Int32)), .val (.int en), .val (.int ((p0 ||| (128 : Int32)) &&& (255 : Int32))), .unset]) rfl) ?_
    show own_Ends p e below T7 (mkF m 85 #[.val (.int p0), .val (.int p1), .val (.int p2), .val (.int p3), .val (.int p4), .val (.int p5), .val (.ref b1), .val (.int fl), .val (.int (1 : Int32)), .val (.int en), .val (.int ((p0 ||| (128 : Int32)) &&& (255 : Int32))), .unset] []) _
    have hld := own_ld (p0 ||| (128 : Int32))
    generalize gld : ((p0 ||| (128 : Int32)) &&& (255 : Int32)) = ld at hld ⊢
    refine own_go (fun _ => XS.aload X7.here hx rfl (hb hby at_85) rfl rfl) ?_
    refine own_go (fun _ => XS.iload X7.here hx rfl (hb hby at_87) rfl) ?_
    refine own_go (fun _ => XS.iload X7.here hx rfl (hb hby at_89) rfl) ?_
    refine own_go (fun _ => XS.i2b X7.here hx rfl (hb hby at_91) rfl) ?_
    show own_Ends p e below T7 (mkF m 92 #[.val (.int p0), .val (.int p1), .val (.int p2), .val (.int p3), .val (.int p4), .val (.int p5), .val (.ref b1), .val (.int fl), .val (.int (1 : Int32)), .val (.int en), .val (.int ld), .unset] [(.int (ld.toInt8.toInt32)), (.int (1 : Int32)), (.ref b1)]) _
    obtain ⟨cl_14, Ar_14, q_14, S_14, M_14, H_14, G_14⟩ := V_b1_7
    have hin14 : ¬ ((1 : Int32) < 0 ∨ cl_14.slots.size ≤ ((1 : Int32)).toNatClampNeg) := inb_of S_14 ⟨by decide, by decide⟩
    obtain ⟨T14, h14, X14, e14, W14, st14⟩ := stB X7 hx hZ e7 Ar_14 (j := (1 : Int32)) hin14 (g := (mkF m 92 #[.val (.int p0), .val (.int p1), .val (.int p2), .val (.int p3), .val (.int p4), .val (.int p5), .val (.ref b1), .val (.int fl), .val (.int (1 : Int32)), .val (.int en), .val (.int ld), .unset] [(.int (ld.toInt8.toInt32)), (.int (1 : Int32)), (.ref b1)])) rfl rfl (hb hby at_92)
    refine own_go st14 ?_
    have V_b1_14 : Arv Z h14 b1 k1 .byte (6 : Int32) [(.int (nar .byte fl)), (.int (nar .byte (ld.toInt8.toInt32))), (.int (nar .byte fl)), (.int (nar .byte fl)), (.int (nar .byte fl)), (.int (nar .byte fl))] (.int (0 : Int32)) := Arv.set Ar_14 q_14 S_14 M_14 H_14 G_14 (fits_nar_byte _) W14 1 rfl (Nat.le_of_ble_eq_true rfl)
    have N14 := Fr.snoc X14 N7 g_b1
    have K14 := K7.wr W14 (Or.inr sz_b1)
    have Z14 : n0 ≤ h14.size := Nat.le_trans Z0 K14.1
    show own_Ends p e below T14 (mkF m 93 #[.val (.int p0), .val (.int p1), .val (.int p2), .val (.int p3), .val (.int p4), .val (.int p5), .val (.ref b1), .val (.int fl), .val (.int (1 : Int32)), .val (.int en), .val (.int ld), .unset] []) _
    refine own_go (fun _ => XS.aload X14.here hx rfl (hb hby at_93) rfl rfl) ?_
    refine own_go (fun _ => XS.iload X14.here hx rfl (hb hby at_95) rfl) ?_
    refine own_go (fun _ => XS.iconst X14.here hx rfl (hb hby at_97)) ?_
    refine own_go (fun _ => XS.iadd X14.here hx rfl (hb hby at_98) rfl) ?_
    show own_Ends p e below T14 (mkF m 99 #[.val (.int p0), .val (.int p1), .val (.int p2), .val (.int p3), .val (.int p4), .val (.int p5), .val (.ref b1), .val (.int fl), .val (.int (1 : Int32)), .val (.int en), .val (.int ld), .unset] [(.int (2 : Int32)), (.ref b1)]) _
    refine own_go (fun _ => XS.iloadN X14.here hx rfl (hb hby at_99) rfl) ?_
    refine own_go (fun _ => XS.i2b X14.here hx rfl (hb hby at_100) rfl) ?_
    show own_Ends p e below T14 (mkF m 101 #[.val (.int p0), .val (.int p1), .val (.int p2), .val (.int p3), .val (.int p4), .val (.int p5), .val (.ref b1), .val (.int fl), .val (.int (1 : Int32)), .val (.int en), .val (.int ld), .unset] [(.int (p1.toInt8.toInt32)), (.int (2 : Int32)), (.ref b1)]) _
    obtain ⟨cl_15, Ar_15, q_15, S_15, M_15, H_15, G_15⟩ := V_b1_14
    have hin15 : ¬ ((2 : Int32) < 0 ∨ cl_15.slots.size ≤ ((2 : Int32)).toNatClampNeg) := inb_of S_15 ⟨by decide, by decide⟩
    obtain ⟨T15, h15, X15, e15, W15, st15⟩ := stB X14 hx hZ e14 Ar_15 (j := (2 : Int32)) hin15 (g := (mkF m 101 #[.val (.int p0), .val (.int p1), .val (.int p2), .val (.int p3), .val (.int p4), .val (.int p5), .val (.ref b1), .val (.int fl), .val (.int (1 : Int32)), .val (.int en), .val (.int ld), .unset] [(.int (p1.toInt8.toInt32)), (.int (2 : Int32)), (.ref b1)])) rfl rfl (hb hby at_101)
    refine own_go st15 ?_
    have V_b1_15 : Arv Z h15 b1 k1 .byte (6 : Int32) [(.int (nar .byte fl)), (.int (nar .byte (ld.toInt8.toInt32))), (.int (nar .byte (p1.toInt8.toInt32))), (.int (nar .byte fl)), (.int (nar .byte fl)), (.int (nar .byte fl))] (.int (0 : Int32)) := Arv.set Ar_15 q_15 S_15 M_15 H_15 G_15 (fits_nar_byte _) W15 2 rfl (Nat.le_of_ble_eq_true rfl)
    have N15 := Fr.snoc X15 N14 g_b1
    have K15 := K14.wr W15 (Or.inr sz_b1)
    have Z15 : n0 ≤ h15.size := Nat.le_trans Z0 K15.1
    show own_Ends p e below T15 (mkF m 102 #[.val (.int p0), .val (.int p1), .val (.int p2), .val (.int p3), .val (.int p4), .val (.int p5), .val (.ref b1), .val (.int fl), .val (.int (1 : Int32)), .val (.int en), .val (.int ld), .unset] []) _
    refine own_go (fun _ => XS.aload X15.here hx rfl (hb hby at_102) rfl rfl) ?_
    refine own_go (fun _ => XS.iload X15.here hx rfl (hb hby at_104) rfl) ?_
    refine own_go (fun _ => XS.iconst X15.here hx rfl (hb hby at_106)) ?_
    refine own_go (fun _ => XS.iadd X15.here hx rfl (hb hby at_107) rfl) ?_
    show own_Ends p e below T15 (mkF m 108 #[.val (.int p0), .val (.int p1), .val (.int p2), .val (.int p3), .val (.int p4), .val (.int p5), .val (.ref b1), .val (.int fl), .val (.int (1 : Int32)), .val (.int en), .val (.int ld), .unset] [(.int (3 : Int32)), (.ref b1)]) _
    refine own_go (fun _ => XS.iloadN X15.here hx rfl (hb hby at_108) rfl) ?_
    refine own_go (fun _ => XS.i2b X15.here hx rfl (hb hby at_109) rfl) ?_
    show own_Ends p e below T15 (mkF m 110 #[.val (.int p0), .val (.int p1), .val (.int p2), .val (.int p3), .val (.int p4), .val (.int p5), .val (.ref b1), .val (.int fl), .val (.int (1 : Int32)), .val (.int en), .val (.int ld), .unset] [(.int (p2.toInt8.toInt32)), (.int (3 : Int32)), (.ref b1)]) _
    obtain ⟨cl_16, Ar_16, q_16, S_16, M_16, H_16, G_16⟩ := V_b1_15
    have hin16 : ¬ ((3 : Int32) < 0 ∨ cl_16.slots.size ≤ ((3 : Int32)).toNatClampNeg) := inb_of S_16 ⟨by decide, by decide⟩
    obtain ⟨T16, h16, X16, e16, W16, st16⟩ := stB X15 hx hZ e15 Ar_16 (j := (3 : Int32)) hin16 (g := (mkF m 110 #[.val (.int p0), .val (.int p1), .val (.int p2), .val (.int p3), .val (.int p4), .val (.int p5), .val (.ref b1), .val (.int fl), .val (.int (1 : Int32)), .val (.int en), .val (.int ld), .unset] [(.int (p2.toInt8.toInt32)), (.int (3 : Int32)), (.ref b1)])) rfl rfl (hb hby at_110)
    refine own_go st16 ?_
    have V_b1_16 : Arv Z h16 b1 k1 .byte (6 : Int32) [(.int (nar .byte fl)), (.int (nar .byte (ld.toInt8.toInt32))), (.int (nar .byte (p1.toInt8.toInt32))), (.int (nar .byte (p2.toInt8.toInt32))), (.int (nar .byte fl)), (.int (nar .byte fl))] (.int (0 : Int32)) := Arv.set Ar_16 q_16 S_16 M_16 H_16 G_16 (fits_nar_byte _) W16 3 rfl (Nat.le_of_ble_eq_true rfl)
    have N16 := Fr.snoc X16 N15 g_b1
    have K16 := K15.wr W16 (Or.inr sz_b1)
    have Z16 : n0 ≤ h16.size := Nat.le_trans Z0 K16.1
    show own_Ends p e below T16 (mkF m 111 #[.val (.int p0), .val (.int p1), .val (.int p2), .val (.int p3), .val (.int p4), .val (.int p5), .val (.ref b1), .val (.int fl), .val (.int (1 : Int32)), .val (.int en), .val (.int ld), .unset] []) _
    refine own_go (fun _ => XS.aload X16.here hx rfl (hb hby at_111) rfl rfl) ?_
    refine own_go (fun _ => XS.iload X16.here hx rfl (hb hby at_113) rfl) ?_
    refine own_go (fun _ => XS.iconst X16.here hx rfl (hb hby at_115)) ?_
    refine own_go (fun _ => XS.iadd X16.here hx rfl (hb hby at_116) rfl) ?_
    show own_Ends p e below T16 (mkF m 117 #[.val (.int p0), .val (.int p1), .val (.int p2), .val (.int p3), .val (.int p4), .val (.int p5), .val (.ref b1), .val (.int fl), .val (.int (1 : Int32)), .val (.int en), .val (.int ld), .unset] [(.int (4 : Int32)), (.ref b1)]) _
    refine own_go (fun _ => XS.iloadN X16.here hx rfl (hb hby at_117) rfl) ?_
    refine own_go (fun _ => XS.i2b X16.here hx rfl (hb hby at_118) rfl) ?_
    show own_Ends p e below T16 (mkF m 119 #[.val (.int p0), .val (.int p1), .val (.int p2), .val (.int p3), .val (.int p4), .val (.int p5), .val (.ref b1), .val (.int fl), .val (.int (1 : Int32)), .val (.int en), .val (.int ld), .unset] [(.int (p3.toInt8.toInt32)), (.int (4 : Int32)), (.ref b1)]) _
    obtain ⟨cl_17, Ar_17, q_17, S_17, M_17, H_17, G_17⟩ := V_b1_16
    have hin17 : ¬ ((4 : Int32) < 0 ∨ cl_17.slots.size ≤ ((4 : Int32)).toNatClampNeg) := inb_of S_17 ⟨by decide, by decide⟩
    obtain ⟨T17, h17, X17, e17, W17, st17⟩ := stB X16 hx hZ e16 Ar_17 (j := (4 : Int32)) hin17 (g := (mkF m 119 #[.val (.int p0), .val (.int p1), .val (.int p2), .val (.int p3), .val (.int p4), .val (.int p5), .val (.ref b1), .val (.int fl), .val (.int (1 : Int32)), .val (.int en), .val (.int ld), .unset] [(.int (p3.toInt8.toInt32)), (.int (4 : Int32)), (.ref b1)])) rfl rfl (hb hby at_119)
    refine own_go st17 ?_
    have V_b1_17 : Arv Z h17 b1 k1 .byte (6 : Int32) [(.int (nar .byte fl)), (.int (nar .byte (ld.toInt8.toInt32))), (.int (nar .byte (p1.toInt8.toInt32))), (.int (nar .byte (p2.toInt8.toInt32))), (.int (nar .byte (p3.toInt8.toInt32))), (.int (nar .byte fl))] (.int (0 : Int32)) := Arv.set Ar_17 q_17 S_17 M_17 H_17 G_17 (fits_nar_byte _) W17 4 rfl (Nat.le_of_ble_eq_true rfl)
    have N17 := Fr.snoc X17 N16 g_b1
    have K17 := K16.wr W17 (Or.inr sz_b1)
    have Z17 : n0 ≤ h17.size := Nat.le_trans Z0 K17.1
    show own_Ends p e below T17 (mkF m 120 #[.val (.int p0), .val (.int p1), .val (.int p2), .val (.int p3), .val (.int p4), .val (.int p5), .val (.ref b1), .val (.int fl), .val (.int (1 : Int32)), .val (.int en), .val (.int ld), .unset] []) _
    refine own_go (fun _ => XS.aload X17.here hx rfl (hb hby at_120) rfl rfl) ?_
    refine own_go (fun _ => XS.iload X17.here hx rfl (hb hby at_122) rfl) ?_
    refine own_go (fun _ => XS.iload X17.here hx rfl (hb hby at_124) rfl) ?_
    obtain ⟨_, _, ⟨T18, L18, k18, n18⟩, -, X18, ⟨Lc18, hQ18, l18, y18, z18⟩, st18⟩ := Jvm.LawKit.callS X17 hx (y := (⟨"com/example/excedent/excedent/io/Utf8", "sequenceEnd", "([BII)I"⟩ : MethodName)) hown (mvT hZ (hw _ (List.mem_of_getElem? (i := 2) rfl))) (mvT hZ (hw _ (List.mem_of_getElem? (i := 3) rfl))) (mvT hZ (hw _ (List.mem_of_getElem? (i := 4) rfl))) (mvT hZ (hw _ (List.mem_of_getElem? (i := 5) rfl))) (by decide) (backOf (W := 0) (rmSeq l Z a0 hw [] b1 ((1 : Int32)) en k1 [(.int (nar .byte fl)), (.int (nar .byte (ld.toInt8.toInt32))), (.int (nar .byte (p1.toInt8.toInt32))), (.int (nar .byte (p2.toInt8.toInt32))), (.int (nar .byte (p3.toInt8.toInt32))), (.int (nar .byte fl))] (nar .byte (ld.toInt8.toInt32)) (nar .byte (p1.toInt8.toInt32)) (nar .byte (p2.toInt8.toInt32)) (nar .byte (p3.toInt8.toInt32)) ld (p1 &&& (255 : Int32)) (p2 &&& (255 : Int32)) (p3 &&& (255 : Int32)) h17 n0 Z17 V_b1_17 (by decide) hld (own_ld _) (own_ld _) (own_ld _) rfl rfl rfl rfl ((own_nb ld).trans (own_same hld)) (own_nb _) (own_nb _) (own_nb _)) hZ (hw _ (List.mem_of_getElem? (i := 5) rfl)) (hw _ (List.mem_of_getElem? (i := 4) rfl)) (by decide) (by decide)) (g := (mkF m 126 #[.val (.int p0), .val (.int p1), .val (.int p2), .val (.int p3), .val (.int p4), .val (.int p5), .val (.ref b1), .val (.int fl), .val (.int (1 : Int32)), .val (.int en), .val (.int ld), .unset] [(.int en), (.int (1 : Int32)), (.ref b1)])) rfl (by rw [hml]; rfl) (argsL := [(.ref b1), (.int (1 : Int32)), (.int en)]) (rest := []) (lenOf pd_0 rfl) rfl (by show 2 * 0 + _ ≤ _; exact Nat.le_of_eq rfl) (hb hby at_126) (fun _ _ => ⟨rfl, e17, (by decide : 1 + 0 ≤ _), (by decide : 6 + 0 ≤ _)⟩)
    dsimp only [Pt.U, Pt.locs, Pt.cells, Pt.slots] at X18 l18 y18 z18 st18 hQ18
    subst l18 y18 z18
    refine own_go st18 ?_
    obtain ⟨r3, rfl, hA3, N18q, eh18⟩ := hQ18
    have N18 := Fr.app N17 N18q
    show own_Ends p e below T18 (mkF m 129 #[.val (.int p0), .val (.int p1), .val (.int p2), .val (.int p3), .val (.int p4), .val (.int p5), .val (.ref b1), .val (.int fl), .val (.int (1 : Int32)), .val (.int en), .val (.int ld), .unset] [(.int r3)]) _
    refine own_go (fun _ => XS.istore X18.here hx rfl (hb hby at_129) rfl (l' := #[.val (.int p0), .val (.int p1), .val (.int p2), .val (.int p3), .val (.int p4), .val (.int p5), .val (.ref b1), .val (.int fl), .val (.int (1 : Int32)), .val (.int en), .val (.int ld), .val (.int r3)]) rfl) ?_
    show own_Ends p e below T18 (mkF m 131 #[.val (.int p0), .val (.int p1), .val (.int p2), .val (.int p3), .val (.int p4), .val (.int p5), .val (.ref b1), .val (.int fl), .val (.int (1 : Int32)), .val (.int en), .val (.int ld), .val (.int r3)] []) _
    refine own_go (fun _ => XS.iload X18.here hx rfl (hb hby at_131) rfl) ?_
    refine own_go (fun _ => XS.iload X18.here hx rfl (hb hby at_133) rfl) ?_
    refine own_go (fun _ => XS.iloadN X18.here hx rfl (hb hby at_135) rfl) ?_
    refine own_go (fun _ => XS.sipush X18.here hx rfl (hb hby at_136)) ?_
    refine own_go (fun _ => XS.iand X18.here hx rfl (hb hby at_139) rfl) ?_
    show own_Ends p e below T18 (mkF m 140 #[.val (.int p0), .val (.int p1), .val (.int p2), .val (.int p3), .val (.int p4), .val (.int p5), .val (.ref b1), .val (.int fl), .val (.int (1 : Int32)), .val (.int en), .val (.int ld), .val (.int r3)] [(.int (p1 &&& (255 : Int32))), (.int ld), (.int r3)]) _
    refine own_go (fun _ => XS.iloadN X18.here hx rfl (hb hby at_140) rfl) ?_
    refine own_go (fun _ => XS.sipush X18.here hx rfl (hb hby at_141)) ?_
    refine own_go (fun _ => XS.iand X18.here hx rfl (hb hby at_144) rfl) ?_
    show own_Ends p e below T18 (mkF m 145 #[.val (.int p0), .val (.int p1), .val (.int p2), .val (.int p3), .val (.int p4), .val (.int p5), .val (.ref b1), .val (.int fl), .val (.int (1 : Int32)), .val (.int en), .val (.int ld), .val (.int r3)] [(.int (p2 &&& (255 : Int32))), (.int (p1 &&& (255 : Int32))), (.int ld), (.int r3)]) _
    refine own_go (fun _ => XS.iloadN X18.here hx rfl (hb hby at_145) rfl) ?_
    refine own_go (fun _ => XS.sipush X18.here hx rfl (hb hby at_146)) ?_
    refine own_go (fun _ => XS.iand X18.here hx rfl (hb hby at_149) rfl) ?_
    show own_Ends p e below T18 (mkF m 150 #[.val (.int p0), .val (.int p1), .val (.int p2), .val (.int p3), .val (.int p4), .val (.int p5), .val (.ref b1), .val (.int fl), .val (.int (1 : Int32)), .val (.int en), .val (.int ld), .val (.int r3)] [(.int (p3 &&& (255 : Int32))), (.int (p2 &&& (255 : Int32))), (.int (p1 &&& (255 : Int32))), (.int ld), (.int r3)]) _
    refine own_go (fun _ => XS.iload X18.here hx rfl (hb hby at_150) rfl) ?_
    refine own_go (fun _ => XS.iload X18.here hx rfl (hb hby at_152) rfl) ?_
    obtain ⟨_, _, ⟨T19, L19, k19, n19⟩, -, X19, ⟨Lc19, hQ19, l19, y19, z19⟩, st19⟩ := Jvm.LawKit.callS X18 hx (y := (⟨"com/example/excedent/excedent/io/Utf8SequenceEndPinLaw", "expected", "(IIIIII)I"⟩ : MethodName)) hown (mvT hZ (hw _ (List.mem_of_getElem? (i := 6) rfl))) (mvT hZ (hw _ (List.mem_of_getElem? (i := 7) rfl))) (mvT hZ (hw _ (List.mem_of_getElem? (i := 8) rfl))) (mvT hZ (hw _ (List.mem_of_getElem? (i := 9) rfl))) (by decide) (backOf (W := 1) (rmExp l Z a0 hw [] ld ((p1 &&& (255 : Int32))) ((p2 &&& (255 : Int32))) ((p3 &&& (255 : Int32))) ((1 : Int32)) en  h17 n0 Z17 (by decide) hld (own_ld _) (own_ld _) (own_ld _)) hZ (hw _ (List.mem_of_getElem? (i := 9) rfl)) (hw _ (List.mem_of_getElem? (i := 8) rfl)) (by decide) (by decide)) (g := (mkF m 154 #[.val (.int p0), .val (.int p1), .val (.int p2), .val (.int p3), .val (.int p4), .val (.int p5), .val (.ref b1), .val (.int fl), .val (.int (1 : Int32)), .val (.int en), .val (.int ld), .val (.int r3)] [(.int en), (.int (1 : Int32)), (.int (p3 &&& (255 : Int32))), (.int (p2 &&& (255 : Int32))), (.int (p1 &&& (255 : Int32))), (.int ld), (.int r3)])) rfl (by rw [hml]; rfl) (argsL := [(.int ld), (.int (p1 &&& (255 : Int32))), (.int (p2 &&& (255 : Int32))), (.int (p3 &&& (255 : Int32))), (.int (1 : Int32)), (.int en)]) (rest := [(.int r3)]) (lenOf pd_1 rfl) rfl (by show 2 * 0 + _ ≤ _; exact Nat.le_of_eq rfl) (hb hby at_154) (fun _ _ => ⟨rfl, eh18, (by decide : 1 + 0 ≤ _), (by decide : 6 + 0 ≤ _)⟩)
    dsimp only [Pt.U, Pt.locs, Pt.cells, Pt.slots] at X19 l19 y19 z19 st19 hQ19
    subst l19 y19 z19
    refine own_go st19 ?_
    obtain ⟨r4, rfl, hA4, N19q, eh19⟩ := hQ19
    have N19 := Fr.app N18 N19q
    show own_Ends p e below T19 (mkF m 157 #[.val (.int p0), .val (.int p1), .val (.int p2), .val (.int p3), .val (.int p4), .val (.int p5), .val (.ref b1), .val (.int fl), .val (.int (1 : Int32)), .val (.int en), .val (.int ld), .val (.int r3)] [(.int r4), (.int r3)]) _
    refine own_go (fun _ => XS.icmpNo X19.here hx rfl (hb hby at_157) rfl (teq (show r3 = r4 from own_A_uniq hA3 hA4)).2) ?_
    show own_Ends p e below T19 (mkF m 160 #[.val (.int p0), .val (.int p1), .val (.int p2), .val (.int p3), .val (.int p4), .val (.int p5), .val (.ref b1), .val (.int fl), .val (.int (1 : Int32)), .val (.int en), .val (.int ld), .val (.int r3)] []) _
    refine own_go (fun _ => XS.iconst X19.here hx rfl (hb hby at_160)) ?_
    refine own_go (fun _ => XS.goto X19.here hx rfl (pc0 := 161) (pc' := 165) rfl (hb hby at_161) (by decide) (by decide)) ?_
    obtain ⟨fs, hr, hrun, hended, hW, hsame⟩ := X19.leave (v := some (.int (1 : Int32))) (fun h => by rw [Bd.returns] at h; cases h)
    refine ⟨_, _, retN X19 hx (t := .boolean) Bd.returns (by simp) (hb hby at_165) hr, hrun, hended, _, _, rfl, ?_, ⟨_, rfl⟩, hW, hsame.mono (by decide) (by decide)⟩
    show Q_rm0 Z p0 p1 p2 p3 p4 p5 h0 n0 _ T19.heap _
    rw [eh19]
    exact ⟨rfl, N19⟩
set_option maxRecDepth 65536 in
set_option maxHeartbeats 40000000 in
theorem comes_1 {Post : Tables → Env → Array Value → State → Outcome → State → Prop} (hpost : ∀ tb e args s v u, (limb_1_1.after args s (.returned v) u = true ∧ limb_1_2.after args s (.returned v) u = true ∧ True) → FrameEnd s (.returned v) u (Jvm.fieldLocs frame_1_writes args s ++ Jvm.arrayLocs frame_1_arrays args s ++ Jvm.staticLocs frame_1_statics s) 16 128 → Post tb e args s (.returned v) u) :
    ArmFor flags0 classFile x code maxLocals ret World_1 tables_1 room_1 Calls_1 rest_1 Pre_1 Post := by
  intro l hfl _ _ p e ha hc hk s m args below hf hA hF happ hP
  obtain ⟨hcalls, hrest, hpre⟩ := hP
  obtain ⟨-, -, -, hnamed, -, -, -, hat⟩ := (Spec.applies_iff hf).mp happ
  obtain ⟨hg, hn⟩ := and_e (Cond.before_iff.mp (show (Jvm.Cond.and given_1 narrow_1).before args s = true from hpre))
  obtain ⟨gv1, gv2⟩ := and_e hg
  obtain ⟨gv3, gv4⟩ := and_e gv2
  obtain ⟨gv5, gv6⟩ := and_e gv4
  obtain ⟨gv7, gv8⟩ := and_e gv6
  obtain ⟨gv9, gv10⟩ := and_e gv8
  obtain ⟨gv11, gv12⟩ := and_e gv10
  obtain ⟨w0, w1, w2, w3, w4, w5, rfl⟩ : ∃ w0 w1 w2 w3 w4 w5 : Value, args = #[w0, w1, w2, w3, w4, w5] := by
    have hs : args.size = 6 := by simpa [Cond.value, given_1] using gv1
    obtain ⟨L⟩ := args
    match L, hs with
    | [w0, w1, w2, w3, w4, w5], _ => exact ⟨w0, w1, w2, w3, w4, w5, rfl⟩
  have hw := fun d (hd : d ∈ tables_1) => atoms_spec (ws := Jvm.Cond.code x code maxLocals ret :: tables_1) hat d (List.mem_cons_of_mem _ hd)
  obtain ⟨i0, ei0⟩ := is_v gv3
  obtain rfl : w0 = (.int i0) := Option.some.inj ei0
  obtain ⟨i1, ei1⟩ := is_v gv5
  obtain rfl : w1 = (.int i1) := Option.some.inj ei1
  obtain ⟨i2, ei2⟩ := is_v gv7
  obtain rfl : w2 = (.int i2) := Option.some.inj ei2
  obtain ⟨i3, ei3⟩ := is_v gv9
  obtain rfl : w3 = (.int i3) := Option.some.inj ei3
  obtain ⟨i4, ei4⟩ := is_v gv11
  obtain rfl : w4 = (.int i4) := Option.some.inj ei4
  obtain ⟨i5, ei5⟩ := is_v gv12
  obtain rfl : w5 = (.int i5) := Option.some.inj ei5
  obtain ⟨n, o, h1, h2, h3, _, L, rfl, ⟨rfl, N⟩, hq⟩ := rm0 l s _ hw tables_1 i0 i1 i2 i3 i4 i5 s.heap s.heap.size (Nat.le_refl _) p e ha hc hk s m _ below hf ((Spec.applies_iff_loose hf).mp happ).1 ⟨rfl, State.Warmed39.refl s, rfl⟩ trivial
  refine ⟨n, _, h1, h2, h3, hpost _ _ _ _ _ _ ⟨Cond.after_iff.mpr rfl, Cond.after_iff.mpr (eq_i res_at (Term.int_eval (1)) rfl), trivial⟩ ⟨hq.1, hq.2.1, (hq.2.2.sift fun y hy => Or.inr (N y hy)).mono (by decide) (by decide)⟩⟩
theorem main_1_1 : Claimed_1_1 := comes_1 fun _ _ _ _ _ _ h hF => ⟨h.1, hF⟩
theorem main_1_2 : Claimed_1_2 := comes_1 fun _ _ _ _ _ _ h hF => ⟨h.2.1, hF⟩
end Jvm.Pilot.@@N@@
namespace Jvm.Pilot.@@N@@
open Jvm Jvm.ClassFile Sem Op Lib Jvm.Free Jvm.Stand Jvm.Pilot.@@N@@.Jvm.D
/-! MADE BY PROGRAM (witnessworld.py) out of the Statement's table words and the real class files: 9 classes; the members and pool entries that the words name. The judged class is class 1, her method 1. -/
namespace start1
open Jvm.ClassFile
def u (s : String) : CpInfo := .utf8 (stringToUtf16 s)
/-- a pool by its gaps: so many unusable entries, then the entry; so many at the end -/
def gap : Nat → List CpInfo → List CpInfo
  | 0, r => r
  | n + 1, r => .unusable :: gap n r
def poolList (es : List (Nat × CpInfo)) (last : Nat) : List CpInfo := es.foldr (fun e r => gap e.1 (e.2 :: r)) (gap last [])
def pool (es : List (Nat × CpInfo)) (last : Nat) : Array CpInfo := ⟨poolList es last⟩
def fileOf (pool : Array CpInfo) (this : Nat) (attrs : Array Attribute := #[]) (ms : Array MethodInfo := #[]) (fl : Nat := 33) (sup : Nat := 0) (ifs : Array Nat := #[]) (fds : Array FieldInfo := #[]) : ClassFile where
  minorVersion := 0
  majorVersion := 65
  constantPool := pool
  accessFlags := fl
  thisClass := this
  superClass := sup
  interfaces := ifs
  fields := fds
  methods := ms
  attributes := attrs
def plain (name : String) (sup : Option ClassId) : Class where
  name := name
  kind := .ordinary
  loader := none
  accessFlags := 33
  super := sup
  interfaces := #[]
  cf := none
  fields := #[]
  methods := #[]
  instanceTypes := #[]
  staticTypes := #[]
  resolved := #[]
  callSites := []
  init := .initialized
  statics := none
  mirror := none

def pool0 : Array CpInfo := pool [(5, u "<init>"), (0, u "()V"), (1, .class_ 10), (1, u "java/lang/Object")] 113

def k0m0 : Method := { name := "<init>", desc := "()V", sig := { parameters := [], returnType := none }, accessFlags := 1, code := none }
/-- java/lang/Object -/
def k0 : Class := { plain "java/lang/Object" none with
  accessFlags := 33
  interfaces := #[]
  cf := some (fileOf pool0 8 #[] #[{ accessFlags := 1, nameIndex := 5, descriptorIndex := 6, attributes := #[] }] 33 0 #[] #[])
  fields := #[]
  methods := #[k0m0]
  instanceTypes := #[]
  staticTypes := #[]
  resolved := Array.replicate 124 none
  statics := none }

def pool1 : Array CpInfo := pool [(2, .class_ 4), (1, u "java/lang/Object"), (0, u "<init>"), (0, u "()V"), (0, .integer 2147483647), (0, .methodref 9 10), (0, .class_ 11), (0, .nameAndType 12 13), (0, u "com/example/excedent/excedent/io/Utf8"), (0, u "sequenceEnd"), (0, u "([BII)I"), (0, .methodref 15 16), (0, .class_ 17), (0, .nameAndType 18 19), (0, u "com/example/excedent/excedent/io/Utf8SequenceEndPinLaw"), (0, u "expected"), (0, u "(IIIIII)I"), (0, .integer 55296), (0, .integer 57343), (0, .integer 65536), (0, .integer 1114111), (2, u "law"), (0, u "(IIIIII)Z")] 5

def k1m0 : Method := { name := "<init>", desc := "()V", sig := { parameters := [], returnType := none }, accessFlags := 2, code := none }
def k1c1 : Code := { maxStack := 7, maxLocals := 12, code := code, exceptionTable := #[], attributes := #[] }
def k1m1 : Method := { name := "law", desc := "(IIIIII)Z", sig := { parameters := [.int, .int, .int, .int, .int, .int], returnType := some .boolean }, accessFlags := 9, code := some k1c1 }
def k1c2 : Code := { maxStack := 3, maxLocals := 11, code := method_3_code, exceptionTable := #[], attributes := #[] }
def k1m2 : Method := { name := "expected", desc := "(IIIIII)I", sig := { parameters := [.int, .int, .int, .int, .int, .int], returnType := some .int }, accessFlags := 10, code := some k1c2 }
/-- com/example/excedent/excedent/io/Utf8SequenceEndPinLaw -/
def k1 : Class := { plain "com/example/excedent/excedent/io/Utf8SequenceEndPinLaw" (some 0) with
  accessFlags := 49
  interfaces := #[]
  cf := some (fileOf pool1 15 #[] #[{ accessFlags := 2, nameIndex := 5, descriptorIndex := 6, attributes := #[] }, { accessFlags := 9, nameIndex := 26, descriptorIndex := 27, attributes := #[] }, { accessFlags := 10, nameIndex := 18, descriptorIndex := 19, attributes := #[] }] 49 2 #[] #[])
  fields := #[]
  methods := #[k1m0, k1m1, k1m2]
  instanceTypes := #[]
  staticTypes := #[]
  resolved := Array.replicate 33 none
  statics := none }

def pool2 : Array CpInfo := pool [(2, .class_ 4), (1, u "java/lang/Object"), (0, u "<init>"), (0, u "()V"), (1, .class_ 10), (1, u "com/example/excedent/excedent/io/Utf8"), (0, u "sequenceEnd"), (0, u "([BII)I")] 76

def k2m0 : Method := { name := "<init>", desc := "()V", sig := { parameters := [], returnType := none }, accessFlags := 2, code := none }
def k2c1 : Code := { maxStack := 3, maxLocals := 10, code := prog_61_method_2_code, exceptionTable := #[], attributes := #[] }
def k2m1 : Method := { name := "sequenceEnd", desc := "([BII)I", sig := { parameters := [(.array .byte), .int, .int], returnType := some .int }, accessFlags := 8, code := some k2c1 }
/-- com/example/excedent/excedent/io/Utf8 -/
def k2 : Class := { plain "com/example/excedent/excedent/io/Utf8" (some 0) with
  accessFlags := 48
  interfaces := #[]
  cf := some (fileOf pool2 8 #[] #[{ accessFlags := 2, nameIndex := 5, descriptorIndex := 6, attributes := #[] }, { accessFlags := 8, nameIndex := 11, descriptorIndex := 12, attributes := #[] }] 48 2 #[] #[])
  fields := #[]
  methods := #[k2m0, k2m1]
  instanceTypes := #[]
  staticTypes := #[]
  resolved := Array.replicate 89 none
  statics := none }

def pool3 : Array CpInfo := pool [(1, u "java/lang/Cloneable"), (0, .class_ 1), (0, u "java/lang/Object"), (0, .class_ 3)] 3

/-- java/lang/Cloneable -/
def k3 : Class := { plain "java/lang/Cloneable" (some 0) with
  accessFlags := 1537
  interfaces := #[]
  cf := some (fileOf pool3 2 #[] #[] 1537 4 #[] #[])
  fields := #[]
  methods := #[]
  instanceTypes := #[]
  staticTypes := #[]
  resolved := Array.replicate 8 none
  statics := none }

def pool4 : Array CpInfo := pool [(1, u "java/io/Serializable"), (0, .class_ 1), (0, u "java/lang/Object"), (0, .class_ 3)] 3

/-- java/io/Serializable -/
def k4 : Class := { plain "java/io/Serializable" (some 0) with
  accessFlags := 1537
  interfaces := #[]
  cf := some (fileOf pool4 2 #[] #[] 1537 4 #[] #[])
  fields := #[]
  methods := #[]
  instanceTypes := #[]
  staticTypes := #[]
  resolved := Array.replicate 8 none
  statics := none }

/-- the primitive byte -/
def k5 : Class := { plain "byte" none with kind := .primitive 'B', accessFlags := 0x411 }
/-- [B -/
def k6 : Class := { plain "[B" (some 0) with kind := .array 5 .byte, interfaces := #[3, 4], accessFlags := 1041 }

/-- the primitive int -/
def k7 : Class := { plain "int" none with kind := .primitive 'I', accessFlags := 0x411 }
/-- [I -/
def k8 : Class := { plain "[I" (some 0) with kind := .array 7 .int, interfaces := #[3, 4], accessFlags := 1041 }

def heap : Heap := #[]
def classes : Array Class := #[k0, k1, k2, k3, k4, k5, k6, k7, k8]
def interned : List (Array UInt16 × Addr) := []
def slotsUsed : Nat := 0
def theMethod : MethodId := ⟨1, 1⟩
def args0 : Array Value := #[.int 65, .int 1, .int 7, .int 8, .int 9, .int 3]
def aboutOver (below : List Frame) : State where
  vm := { classes := classes, interned := interned.toArray }
  heap := heap
  slotsUsed := slotsUsed
  threads := #[{ frames := .invoking theMethod args0 :: below }]
def below0 : List Frame := [.native { method := ⟨0, 0⟩, args := #[] }]
def about1 : State := aboutOver below0
def p0 : Program := .bare "" "" ""
def e0 : Env := launch0.env 0 0 0
theorem w_frames : about1.frames = Frame.invoking theMethod args0 :: below0 := rfl
set_option maxRecDepth 65536 in
theorem w_args : argsFit about1.vm theMethod args0 = true := by decide +kernel
set_option maxRecDepth 65536 in
theorem w_heap : heapFits about1 = true := by decide +kernel
set_option maxRecDepth 65536 in
theorem w_runnable : about1.curStatus? = some .runnable := by decide +kernel
set_option maxRecDepth 65536 in
theorem w_alone : about1.alone = true := by decide +kernel
set_option maxRecDepth 65536 in
theorem w_named : about1.methodNamed? x = some theMethod := by decide +kernel
set_option maxRecDepth 65536 in
theorem w_hears : about1.hears theMethod below0 = true := by decide +kernel
set_option maxRecDepth 65536 in
theorem w_ripe : about1.ripe theMethod args0 below0 = true := by decide +kernel
theorem w_running : about1.status = .running := rfl
set_option maxRecDepth 65536 in
theorem w_room : about1.hasRoom e0.platform room_1 = true :=
  launch0.hasRoom_least _ room_1 (by decide +kernel) (by decide +kernel) (by decide +kernel) (by decide +kernel) (by decide +kernel) (by decide +kernel)
theorem allAtoms_all (ts : List Jvm.Cond) (a : Array Jvm.Value) (st : Jvm.State) : (allAtoms ts).before a st = ts.all (fun c => c.before a st) := by
  induction ts with
  | nil => rfl
  | cons c t ih =>
    show (Jvm.Cond.and c (allAtoms t)).before a st = _
    rw [Jvm.Cond.before_and, ih, List.all_cons]
def words1 : List Jvm.Cond := Jvm.Cond.code x code maxLocals ret :: tables_1
/-- a 'code' word, met by the world's own term for the bytes: nothing is compared byte by byte -/
theorem code_word {y : MethodName} {bytes : ByteArray} {mx : Nat} {rt : Option FieldType} {a : Array Value} {s : State} {m : MethodId} {meth : Method} {c : Code} (h1 : s.methodNamed? y = some m) (h2 : s.vm.method? m = some meth) (h3 : meth.code = some c) (h4 : c.code = bytes)
    (h5 : (c.maxLocals == mx && c.exceptionTable.isEmpty && decide (c.maxStack ≤ mostOperands) && decide (meth.sig.returnType = rt) && !meth.locks && decide (parseMethodDescriptor y.desc = some meth.sig)) = true) : (Jvm.Cond.code y bytes mx rt).before a s = true := by
  simp only [Bool.and_eq_true, beq_iff_eq, Bool.not_eq_true', decide_eq_true_eq] at h5
  obtain ⟨⟨⟨⟨⟨g1, g2⟩, g3⟩, g4⟩, g5⟩, g6⟩ := h5
  simp [Cond.before, Cond.holds, Cond.value, h1, h2, h3, h4, g1, g2, g3, g4, g5, g6]
def isCode : Jvm.Cond → Bool
  | .code _ _ _ _ => true
  | _ => false
theorem all_split {L : List Jvm.Cond} {P : Jvm.Cond → Bool} (h1 : L.all (fun c => isCode c || P c) = true) (h2 : ∀ c ∈ L.filter isCode, P c = true) : L.all P = true := by
  refine List.all_eq_true.mpr fun c hc => ?_
  have h := List.all_eq_true.mp h1 c hc
  rcases Bool.eq_false_or_eq_true (isCode c) with hi | hi
  · exact h2 c (List.mem_filter.mpr ⟨hc, hi⟩)
  · simpa [hi] using h
set_option maxRecDepth 65536 in
theorem w_c0 : (Jvm.Cond.code x code maxLocals ret).before args0 about1 = true := code_word (m := ⟨1, 1⟩) (meth := k1m1) (c := k1c1) (by decide +kernel) rfl rfl rfl (by decide +kernel)
set_option maxRecDepth 65536 in
theorem w_c1 : (Jvm.Cond.code ({ cls := "com/example/excedent/excedent/io/Utf8", name := "sequenceEnd", desc := "([BII)I" } : Jvm.MethodName) prog_61_method_2_code (10 : Nat) (Option.some Jvm.ClassFile.FieldType.int)).before args0 about1 = true := code_word (m := ⟨2, 1⟩) (meth := k2m1) (c := k2c1) (by decide +kernel) rfl rfl rfl (by decide +kernel)
set_option maxRecDepth 65536 in
theorem w_c2 : (Jvm.Cond.code ({ cls := "com/example/excedent/excedent/io/Utf8SequenceEndPinLaw", name := "expected", desc := "(IIIIII)I" } : Jvm.MethodName) method_3_code (11 : Nat) (Option.some Jvm.ClassFile.FieldType.int)).before args0 about1 = true := code_word (m := ⟨1, 2⟩) (meth := k1m2) (c := k1c2) (by decide +kernel) rfl rfl rfl (by decide +kernel)
def codes1 : List Jvm.Cond := [Jvm.Cond.code x code maxLocals ret, Jvm.Cond.code ({ cls := "com/example/excedent/excedent/io/Utf8", name := "sequenceEnd", desc := "([BII)I" } : Jvm.MethodName) prog_61_method_2_code (10 : Nat) (Option.some Jvm.ClassFile.FieldType.int), Jvm.Cond.code ({ cls := "com/example/excedent/excedent/io/Utf8SequenceEndPinLaw", name := "expected", desc := "(IIIIII)I" } : Jvm.MethodName) method_3_code (11 : Nat) (Option.some Jvm.ClassFile.FieldType.int)]
set_option maxRecDepth 65536 in
theorem codes_eq : words1.filter isCode = codes1 := rfl
theorem w_codes : ∀ c ∈ words1.filter isCode, c.before args0 about1 = true := by
  rw [codes_eq]
  intro c hc
  simp only [codes1, List.mem_cons, List.not_mem_nil, or_false] at hc
  rcases hc with rfl | rfl | rfl
  · exact w_c0
  · exact w_c1
  · exact w_c2
set_option maxRecDepth 65536 in
theorem w_t1 : words1.all (fun c => isCode c || c.before args0 about1) = true := by decide +kernel
theorem w_tables : (allAtoms (Jvm.Cond.code x code maxLocals ret :: tables_1)).before args0 about1 = true := by
  rw [allAtoms_all]
  show words1.all (fun c => c.before args0 about1) = true
  refine all_split ?_ w_codes
  rw [w_t1]
set_option maxRecDepth 65536 in
theorem w_case : (Jvm.Cond.and given_1 narrow_1).before args0 about1 = true := by decide +kernel
theorem w_applies : (headSpec (Jvm.Cond.code x code maxLocals ret :: tables_1) room_1).applies x e0.platform about1 = true :=
  (Spec.applies_iff w_frames).mpr ⟨w_running, w_runnable, w_alone, w_named, w_hears, w_ripe, w_room, w_tables⟩
theorem atStart : AtStart classFile x code maxLocals ret World_1 tables_1 room_1 Calls_1 rest_1 Pre_1 launch0 p0 e0 about1 theMethod args0 below0 :=
  ⟨lists_1, trivial, launch0.admits_env _ _ _, launch0.least_env, fairChoices_fair.cas, fairChoices_fair.clock, w_frames, w_args, w_heap, w_applies, trivial, trivial, w_case⟩
end start1
theorem witness_1 : WitnessClaimed_1 := ⟨start1.p0, start1.e0, start1.about1, start1.theMethod, start1.args0, start1.below0, start1.atStart⟩
end Jvm.Pilot.@@N@@
