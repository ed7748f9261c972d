import JvmDerived
import JvmDerived.Pilot.@@N@@Statement
import JvmDerived.Pilot.@@N@@Code
set_option linter.unusedVariables false
set_option linter.unusedSimpArgs false
namespace Jvm.RoadKit
open Sem ClassFile Op Lib Jvm.Stand Jvm.Free Jvm.LawKit
section New
variable {p : Program} {l : Launch} {e : Env} {R : Room} {s : State} {m : MethodId} {args : Array Value} {below : List Frame} {meth : Method} {c : Code} {T : State} {locs : List Loc} {cells slots : Nat}
theorem retI (X : Stand p l e R s m args below meth c T locs cells slots) (hx : p.tables.exec = Jvm.exec) {pc : Nat} {Ls : Array Slot} {z : Int32} {rest : List Value} (hret : meth.sig.returnType = some .int) (hd : decode c.code pc = .ok (.ireturn, 1)) {fs : List Frame}
    (hl : ∀ (f : JFrame) (acts : List Action), f.method = m → f.locked = none → f.entered = [] → (doReturn e (T.setTop f) acts (some (.int z))).1 = T.setFrames fs) : Steps p.tables e below (T.setTop (mkF m pc Ls (.int z :: rest))) (T.setFrames fs) := by
  have hm' : T.vm.method? m = some meth := X.method'
  have hn : narrow .int (.int z) = .int z := rfl
  show Steps p.tables e below (T.setTop { method := m, pc := pc, locals := Ls, stack := _ :: rest, locked := none }) _
  jvm_step X.here [X.here.top, hx, hd, hm', hret, hn]
  first | (intro acts; rw [hl _ acts rfl rfl rfl]) | rw [hl _ _ rfl rfl rfl]
  exact Steps.refl _
end New
end Jvm.RoadKit
namespace Jvm.Pilot.@@N@@
open Jvm Jvm.ClassFile Sem Op Lib Jvm.Free Jvm.Stand Jvm.LawKit Jvm.RoadKit Bundle Jvm.Pilot.@@N@@.Jvm.D
def own_Ends (p : Program) (e : Env) (below : List Frame) (T : State) (g : JFrame) (P : Outcome → State → Prop) : Prop := ∃ s₂ o, Steps p.tables e below (T.setTop g) s₂ ∧ s₂.status = .running ∧ Ended s₂ below o ∧ P o s₂
theorem own_go {p : Program} {e : Env} {below : List Frame} {T T' : State} {g g' : JFrame} {P : Outcome → State → Prop} (h : ∀ t, Steps p.tables e below (T'.setTop g') t → Steps p.tables e below (T.setTop g) t) (k : own_Ends p e below T' g' P) : own_Ends p e below T g P := by
  obtain ⟨a, o, q, r⟩ := k
  exact ⟨a, o, h _ q, r⟩
def own_Len (Z : State) (h : Heap) (a : Addr) (ty : FieldType) (n : Int32) : Prop := ∃ c : Cell, Arr Z h a c ty ∧ c.slots.size = n.toNatClampNeg ∧ ¬ n < 0
theorem own_Len.lt {Z : State} {h : Heap} {a : Addr} {ty : FieldType} {n : Int32} (F : own_Len Z h a ty n) : a < h.size := by obtain ⟨c, A, -⟩ := F; exact A.lt
theorem own_Len.ext {Z : State} {h h' : Heap} {a : Addr} {ty : FieldType} {n : Int32} (F : own_Len Z h a ty n) (E : Ext h h') : own_Len Z h' a ty n := by obtain ⟨c, A, r⟩ := F; exact ⟨c, A.ext E, r⟩
theorem own_Len.other {Z : State} {h h' : Heap} {a b : Addr} {ty : FieldType} {n : Int32} {sl : Nat} {v : Value} (F : own_Len Z h b ty n) (W : Wr h h' a sl v) (q : b ≠ a) : own_Len Z h' b ty n := by obtain ⟨c, A, r⟩ := F; exact ⟨c, A.other W q, r⟩
theorem own_Len.same {Z : State} {h h' : Heap} {a : Addr} {ty : FieldType} {n : Int32} {sl : Nat} {v : Value} (F : own_Len Z h a ty n) (W : Wr h h' a sl v) : own_Len Z h' a ty n := by obtain ⟨c, A, r1, r2⟩ := F; exact ⟨_, A.same W, by rw [sz_set]; exact r1, r2⟩
theorem own_Len.keep {Z : State} {h h' : Heap} {a : Addr} {ty : FieldType} {n : Int32} {ws : List Addr} (F : own_Len Z h a ty n) (K : Keep h h' ws) (q : a ∉ ws) : own_Len Z h' a ty n := by obtain ⟨c, A, r⟩ := F; exact ⟨c, ⟨K.2.1 a c A.1 q, A.2⟩, r⟩
theorem own_as {p : Program} {e : Env} {below : List Frame} {T : State} {g g' : JFrame} {P : Outcome → State → Prop} (h : g = g') (k : own_Ends p e below T g' P) : own_Ends p e below T g P := h ▸ k

abbrev own_N (x : Int64) : Nat := x.toBitVec.toNat
theorem own_inj {a b : Int64} (h : own_N a = own_N b) : a = b := Int64.toBitVec_inj.mp (BitVec.eq_of_toNat_eq h)
theorem own_Nlt (a : Int64) : own_N a < 18446744073709551616 := a.toBitVec.isLt
theorem own_Nand (a b : Int64) : own_N (a &&& b) = own_N a &&& own_N b := by
  show (a.toBitVec &&& b.toBitVec).toNat = _
  rw [BitVec.toNat_and]
theorem own_Nor (a b : Int64) : own_N (a ||| b) = own_N a ||| own_N b := by
  show (a.toBitVec ||| b.toBitVec).toNat = _
  rw [BitVec.toNat_or]
theorem own_Nmul (a b : Int64) : own_N (a * b) = own_N a * own_N b % 18446744073709551616 := by
  show (a.toBitVec * b.toBitVec).toNat = _
  rw [BitVec.toNat_mul]
theorem own_Nadd (a b : Int64) : own_N (a + b) = (own_N a + own_N b) % 18446744073709551616 := by
  show (a.toBitVec + b.toBitVec).toNat = _
  rw [BitVec.toNat_add]
theorem own_Nshl (a : Int64) (q : Int32) (k : Nat) (hk : q.toBitVec.toNat % 64 = k) : own_N (a <<< (q &&& 0x3f).toInt64) = own_N a * 2 ^ k % 18446744073709551616 := by
  show (a.toBitVec <<< ((q &&& 0x3f).toInt64.toBitVec.smod 64)).toNat = _
  rw [BitVec.shiftLeft_eq', (sm64 q k hk).1, smod64 k (sm64 q k hk).2, BitVec.toNat_shiftLeft, Nat.shiftLeft_eq]
theorem own_Nushr (a : Int64) (q : Int32) (k : Nat) (hk : q.toBitVec.toNat % 64 = k) : own_N ((a.toUInt64 >>> (q &&& 0x3f).toInt64.toUInt64).toInt64) = own_N a / 2 ^ k := by
  have h5 := (sm64 q k hk).2
  show (a.toBitVec >>> ((q &&& 0x3f).toInt64.toBitVec % 64)).toNat = _
  rw [BitVec.ushiftRight_eq', BitVec.toNat_ushiftRight, Nat.shiftRight_eq_div_pow, BitVec.toNat_umod, (sm64 q k hk).1, BitVec.toNat_ofNat]
  congr 2
  show k % 2 ^ 64 % 64 = k
  omega
theorem own_Npos {x : Int64} (h : 0 ≤ x.toInt) : (own_N x : Int) = x.toInt := by
  have e : x.toBitVec.toInt = x.toInt := rfl
  have l := x.toBitVec.isLt
  rw [BitVec.toInt_eq_toNat_cond] at e
  show (x.toBitVec.toNat : Int) = _
  split at e <;> omega
theorem own_Ni2l {i : Int32} (h : 0 ≤ i.toInt) : (own_N i.toInt64 : Int) = i.toInt := by
  have e := c_i2l i
  rw [own_Npos (by rw [e]; exact h), e]
theorem own_split (x m M k : Nat) (hm : m < 2 ^ k) : x &&& (2 ^ k * M + m) = 2 ^ k * (x / 2 ^ k &&& M) + (x % 2 ^ k &&& m) := by
  apply Nat.eq_of_testBit_eq
  intro j
  have hl : (x % 2 ^ k &&& m) < 2 ^ k := Nat.and_lt_two_pow _ hm
  rw [Nat.testBit_and, Nat.testBit_two_pow_mul_add _ hm, Nat.testBit_two_pow_mul_add _ hl]
  by_cases h : j < k
  · rw [if_pos h, if_pos h, Nat.testBit_and, Nat.testBit_mod_two_pow]
    simp [h]
  · rw [if_neg h, if_neg h, Nat.testBit_and, Nat.testBit_div_two_pow]
    rw [show j - k + k = j by omega]
theorem own_orsum (a d k : Nat) (h : a < 2 ^ k) : a ||| d * 2 ^ k = a + d * 2 ^ k := by
  rw [Nat.or_comm, Nat.mul_comm d, ← Nat.two_pow_add_eq_or_of_lt h, Nat.add_comm]

theorem own_e0 {a b : Int32} (h : a = b) (q : a = (0 : Int32)) : b = (0 : Int32) := h ▸ q
theorem own_e1 {a b : Int32} (h : a = b) (q : ¬ a = (0 : Int32)) : ¬ b = (0 : Int32) := h ▸ q
theorem own_eq {a b c d : Int32} (h : a = b) (g : c = d) (q : b = d) : a = c := h.trans (q.trans g.symm)

/-- bytes, the lowest first -/
def own_h : List Nat → Nat
  | [] => 0
  | a :: t => a + 256 * own_h t
def own_by (l : List Nat) : Prop := ∀ x ∈ l, x < 256
theorem own_two (a b A B : Nat) (ha : a < 256) (hb : b < 256) : (a + 256 * A) &&& (b + 256 * B) = (a &&& b) + 256 * (A &&& B) := by
  have h := own_split (a + 256 * A) b B 8 (by omega)
  rw [show 2 ^ 8 * B + b = b + 256 * B by omega, show (a + 256 * A) / 2 ^ 8 = A by omega, show (a + 256 * A) % 2 ^ 8 = a by omega] at h
  rw [h]
  omega
theorem own_hand : ∀ (l m : List Nat), own_by l → own_by m → l.length = m.length → own_h l &&& own_h m = own_h (List.zipWith (fun x y => x &&& y) l m)
  | [], [], _, _, _ => rfl
  | a :: l, b :: m, hl, hm, e => by
    show (a + 256 * own_h l) &&& (b + 256 * own_h m) = (a &&& b) + 256 * own_h (List.zipWith (fun x y => x &&& y) l m)
    rw [own_two a b _ _ (hl a (List.mem_cons_self ..)) (hm b (List.mem_cons_self ..)), own_hand l m (fun x hx => hl x (List.mem_cons_of_mem _ hx)) (fun x hx => hm x (List.mem_cons_of_mem _ hx)) (Nat.succ.inj e)]
theorem own_hadd : ∀ (l m : List Nat), l.length = m.length → own_h l + own_h m = own_h (List.zipWith (fun x y => x + y) l m)
  | [], [], _ => rfl
  | a :: l, b :: m, e => by
    have ih := own_hadd l m (Nat.succ.inj e)
    show (a + 256 * own_h l) + (b + 256 * own_h m) = (a + b) + 256 * own_h (List.zipWith (fun x y => x + y) l m)
    omega
theorem own_hinj : ∀ (l m : List Nat), own_by l → own_by m → l.length = m.length → own_h l = own_h m → l = m
  | [], [], _, _, _, _ => rfl
  | a :: l, b :: m, hl, hm, e, q => by
    have h1 := hl a (List.mem_cons_self ..)
    have h2 := hm b (List.mem_cons_self ..)
    change a + 256 * own_h l = b + 256 * own_h m at q
    have e1 : a = b := by omega
    have e2 : own_h l = own_h m := by omega
    rw [e1, own_hinj l m (fun x hx => hl x (List.mem_cons_of_mem _ hx)) (fun x hx => hm x (List.mem_cons_of_mem _ hx)) (Nat.succ.inj e) e2]
/-- what one byte must be -/
theorem own_one : ∀ x : Fin 256, (((x.val &&& 240 = 48) ∧ ((x.val + 6) &&& 240 = 48)) ↔ (48 ≤ x.val ∧ x.val ≤ 57)) ∧ (x.val &&& 240 = 48 → x.val + 6 < 256) := by decide +kernel
def own_ok (x b : Int64) (p : Int32) : Int32 := if (((b.toUInt64 >>> (((8 : Int32) * p) &&& 0x3f).toInt64.toUInt64).toInt64) &&& (255 : Int64)) = (0 : Int64) then 1 else if ((((x.toUInt64 >>> (((8 : Int32) * p) &&& 0x3f).toInt64.toUInt64).toInt64).toInt32) &&& (255 : Int32)) < (48 : Int32) then 0 else if (57 : Int32) < ((((x.toUInt64 >>> (((8 : Int32) * p) &&& 0x3f).toInt64.toUInt64).toInt64).toInt32) &&& (255 : Int32)) then 0 else 1
def own_dg (x b : Int64) : Int32 := if (x &&& (-1085102592571150096 : Int64)) = ((3472328296227680304 : Int64) &&& b) then (if ((x + ((434041037028460038 : Int64) &&& b)) &&& (-1085102592571150096 : Int64)) = ((3472328296227680304 : Int64) &&& b) then 1 else 0) else 0
theorem own_l2i (x : Int64) : ((x.toInt32 &&& (255 : Int32)).toInt) = ((own_N x % 256 : Nat) : Int) := by
  have h1 := c_mask x.toInt32 255 8 (by decide) (by decide)
  have h2 := c_l2i x
  have e : x.toBitVec.toInt = x.toInt := rfl
  have l := x.toBitVec.isLt
  rw [BitVec.toInt_eq_toNat_cond] at e
  rw [h1]
  show _ = ((x.toBitVec.toNat % 256 : Nat) : Int)
  split at e <;> omega
theorem own_okb {x b : Int64} {p : Int32} (k : Nat) (hp : ((8 : Int32) * p).toBitVec.toNat % 64 = k) : (own_ok x b p = 0) ↔ (own_N b / 2 ^ k % 256 ≠ 0 ∧ ¬ (48 ≤ own_N x / 2 ^ k % 256 ∧ own_N x / 2 ^ k % 256 ≤ 57)) := by
  have q1 : ((((b.toUInt64 >>> (((8 : Int32) * p) &&& 0x3f).toInt64.toUInt64).toInt64) &&& (255 : Int64)) = (0 : Int64)) ↔ own_N b / 2 ^ k % 256 = 0 := by
    have h : own_N (((b.toUInt64 >>> (((8 : Int32) * p) &&& 0x3f).toInt64.toUInt64).toInt64) &&& (255 : Int64)) = own_N b / 2 ^ k % 256 := by
      rw [own_Nand, own_Nushr _ _ k hp]
      exact Nat.and_two_pow_sub_one_eq_mod _ 8
    constructor
    · intro e
      rw [← h, e]
      rfl
    · intro e
      apply own_inj
      rw [h, e]
      rfl
  have q2 := own_l2i ((x.toUInt64 >>> (((8 : Int32) * p) &&& 0x3f).toInt64.toUInt64).toInt64)
  rw [own_Nushr _ _ k hp] at q2
  unfold own_ok
  generalize ((x.toUInt64 >>> (((8 : Int32) * p) &&& 0x3f).toInt64.toUInt64).toInt64).toInt32 &&& (255 : Int32) = r at q2
  have e48 : (48 : Int32).toInt = 48 := by decide
  have e57 : (57 : Int32).toInt = 57 := by decide
  by_cases c1 : (((b.toUInt64 >>> (((8 : Int32) * p) &&& 0x3f).toInt64.toUInt64).toInt64) &&& (255 : Int64)) = (0 : Int64)
  · rw [if_pos c1]
    constructor
    · intro q; exact absurd q (by decide)
    · intro q; exact absurd (q1.mp c1) q.1
  · rw [if_neg c1]
    have c1' : own_N b / 2 ^ k % 256 ≠ 0 := fun q => c1 (q1.mpr q)
    by_cases c2 : r < (48 : Int32)
    · rw [if_pos c2]
      rw [Int32.lt_iff_toInt_lt, e48] at c2
      exact ⟨fun _ => ⟨c1', by omega⟩, fun _ => rfl⟩
    · rw [if_neg c2]
      by_cases c3 : (57 : Int32) < r
      · rw [if_pos c3]
        rw [Int32.lt_iff_toInt_lt, e57] at c3
        exact ⟨fun _ => ⟨c1', by omega⟩, fun _ => rfl⟩
      · rw [if_neg c3]
        rw [Int32.lt_iff_toInt_lt, e48] at c2
        rw [Int32.lt_iff_toInt_lt, e57] at c3
        constructor
        · intro q; exact absurd q (by decide)
        · intro q; exact absurd (by omega) q.2
/-- byte by byte -/
def own_fine : List Nat → List Nat → Prop
  | x :: l, b :: m => (b = 0 ∨ (48 ≤ x ∧ x ≤ 57)) ∧ own_fine l m
  | _, _ => True
def own_pair : List Nat → List Nat → Prop
  | x :: l, b :: m => ((b = 0 ∧ x = 0) ∨ (b = 255 ∧ x < 256)) ∧ own_pair l m
  | [], [] => True
  | _, _ => False
theorem own_len : ∀ (l m : List Nat), own_pair l m → l.length = m.length
  | [], [], _ => rfl
  | _ :: l, _ :: m, h => congrArg Nat.succ (own_len l m h.2)
  | [], _ :: _, h => h.elim
  | _ :: _, [], h => h.elim
theorem own_pb : ∀ (l m : List Nat), own_pair l m → own_by l ∧ own_by m
  | [], [], _ => ⟨fun _ q => (nomatch q), fun _ q => (nomatch q)⟩
  | a :: l, b :: m, h => by
    obtain ⟨i1, i2⟩ := own_pb l m h.2
    have h1 := h.1
    exact ⟨fun x hx => (List.mem_cons.mp hx).elim (fun e => by omega) (i1 x), fun x hx => (List.mem_cons.mp hx).elim (fun e => by omega) (i2 x)⟩
  | [], _ :: _, h => h.elim
  | _ :: _, [], h => h.elim
theorem own_z1 : ∀ (l m : List Nat) (c : Nat), c < 256 → own_pair l m → own_h (m.map fun _ => c) &&& own_h m = own_h (m.map fun b => c &&& b)
  | [], [], _, _, _ => Nat.zero_and _
  | a :: l, b :: m, c, hc, h => by
    have h1 := h.1
    show (c + 256 * own_h (m.map fun _ => c)) &&& (b + 256 * own_h m) = (c &&& b) + 256 * own_h (m.map fun b => c &&& b)
    rw [own_two c b _ _ hc (by omega), own_z1 l m c hc h.2]
  | [], _ :: _, _, _, h => h.elim
  | _ :: _, [], _, _, h => h.elim
theorem own_z2 : ∀ (l : List Nat) (c : Nat), c < 256 → own_by l → own_h l &&& own_h (l.map fun _ => c) = own_h (l.map fun x => x &&& c)
  | [], _, _, _ => Nat.zero_and _
  | a :: l, c, hc, h => by
    show (a + 256 * own_h l) &&& (c + 256 * own_h (l.map fun _ => c)) = (a &&& c) + 256 * own_h (l.map fun x => x &&& c)
    rw [own_two a c _ _ (h a (List.mem_cons_self ..)) hc, own_z2 l c hc fun x hx => h x (List.mem_cons_of_mem _ hx)]
theorem own_c0 (c : Nat) : c &&& 0 = 0 := Nat.and_zero c
theorem own_c255 {c : Nat} (h : c < 256) : c &&& 255 = c := by rw [Nat.and_two_pow_sub_one_eq_mod c 8]; omega
/-- the first test -/
def own_t1 : List Nat → List Nat → Prop
  | x :: l, b :: m => (x &&& 240 = 48 &&& b) ∧ own_t1 l m
  | _, _ => True
theorem own_map1 : ∀ (l m : List Nat), own_pair l m → ((l.map fun x => x &&& 240) = (m.map fun b => 48 &&& b) ↔ own_t1 l m)
  | [], [], _ => ⟨fun _ => trivial, fun _ => rfl⟩
  | a :: l, b :: m, h => by
    have ih := own_map1 l m h.2
    constructor
    · intro q
      injection q with q1 q2
      exact ⟨q1, ih.mp q2⟩
    · intro q
      show (a &&& 240) :: _ = (48 &&& b) :: _
      rw [q.1, ih.mpr q.2]
  | [], _ :: _, h => h.elim
  | _ :: _, [], h => h.elim
def own_t2 : List Nat → List Nat → Prop
  | x :: l, b :: m => ((x + (6 &&& b)) &&& 240 = 48 &&& b) ∧ own_t2 l m
  | _, _ => True
theorem own_map2 : ∀ (l m : List Nat), own_pair l m → (((List.zipWith (fun x y => x + y) l (m.map fun b => 6 &&& b)).map fun x => x &&& 240) = (m.map fun b => 48 &&& b) ↔ own_t2 l m)
  | [], [], _ => ⟨fun _ => trivial, fun _ => rfl⟩
  | a :: l, b :: m, h => by
    have ih := own_map2 l m h.2
    constructor
    · intro q
      injection q with q1 q2
      exact ⟨q1, ih.mp q2⟩
    · intro q
      show ((a + (6 &&& b)) &&& 240) :: _ = (48 &&& b) :: _
      rw [q.1]
      exact congrArg _ (ih.mpr q.2)
  | [], _ :: _, h => h.elim
  | _ :: _, [], h => h.elim
theorem own_sb : ∀ (l m : List Nat), own_pair l m → own_t1 l m → own_by (List.zipWith (fun x y => x + y) l (m.map fun b => 6 &&& b))
  | [], [], _, _ => fun _ q => nomatch q
  | a :: l, b :: m, h, t => by
    have ih := own_sb l m h.2 t.2
    intro x hx
    change x ∈ (a + (6 &&& b)) :: _ at hx
    rcases List.mem_cons.mp hx with e | e
    · rcases h.1 with ⟨h1, h2⟩ | ⟨h1, h2⟩
      · rw [e, h1, h2]; decide
      · have t1 := t.1
        rw [h1, own_c255 (by decide)] at t1
        rw [e, h1, own_c255 (by decide)]
        exact (own_one ⟨a, h2⟩).2 t1
    · exact ih x e
  | [], _ :: _, h, _ => h.elim
  | _ :: _, [], h, _ => h.elim
theorem own_both : ∀ (l m : List Nat), own_pair l m → ((own_t1 l m ∧ own_t2 l m) ↔ own_fine l m)
  | [], [], _ => ⟨fun _ => trivial, fun _ => ⟨trivial, trivial⟩⟩
  | a :: l, b :: m, h => by
    have ih := own_both l m h.2
    rcases h.1 with ⟨h1, h2⟩ | ⟨h1, h2⟩
    · subst h1 h2
      constructor
      · intro q; exact ⟨Or.inl rfl, ih.mp ⟨q.1.2, q.2.2⟩⟩
      · intro q; exact ⟨⟨rfl, (ih.mpr q.2).1⟩, ⟨rfl, (ih.mpr q.2).2⟩⟩
    · subst h1
      have o := (own_one ⟨a, h2⟩).1
      dsimp only at o
      constructor
      · intro q
        refine ⟨Or.inr (o.mp ⟨?_, ?_⟩), ih.mp ⟨q.1.2, q.2.2⟩⟩
        · have := q.1.1; rwa [own_c255 (by decide)] at this
        · have := q.2.1; rwa [own_c255 (by decide), own_c255 (by decide)] at this
      · intro q
        rcases q.1 with r | r
        · exact absurd r (by decide)
        · have r2 := o.mpr r
          refine ⟨⟨?_, (ih.mpr q.2).1⟩, ⟨?_, (ih.mpr q.2).2⟩⟩
          · rw [own_c255 (by decide)]; exact r2.1
          · rw [own_c255 (by decide), own_c255 (by decide)]; exact r2.2
  | [], _ :: _, h => h.elim
  | _ :: _, [], h => h.elim
theorem own_bmap : ∀ (m : List Nat) (c : Nat), c < 256 → own_by (m.map fun b => c &&& b)
  | [], _, _ => fun _ q => nomatch q
  | b :: m, c, hc => fun x hx => by
    change x ∈ (c &&& b) :: _ at hx
    rcases List.mem_cons.mp hx with e | e
    · rw [e]; exact Nat.lt_of_le_of_lt Nat.and_le_left hc
    · exact own_bmap m c hc x e
theorem own_bmap' : ∀ (m : List Nat) (c : Nat), c < 256 → own_by (m.map fun b => b &&& c)
  | [], _, _ => fun _ q => nomatch q
  | b :: m, c, hc => fun x hx => by
    change x ∈ (b &&& c) :: _ at hx
    rcases List.mem_cons.mp hx with e | e
    · rw [e]; exact Nat.lt_of_le_of_lt Nat.and_le_right hc
    · exact own_bmap' m c hc x e
theorem own_hbd : ∀ (l : List Nat), own_by l → own_h l < 256 ^ l.length
  | [], _ => Nat.zero_lt_one
  | a :: l, h => by
    have ih := own_hbd l fun x hx => h x (List.mem_cons_of_mem _ hx)
    have ha := h a (List.mem_cons_self ..)
    show a + 256 * own_h l < 256 ^ (l.length + 1)
    rw [Nat.pow_succ]
    omega
theorem own_cst (m : List Nat) (c : Nat) (hm : m.length = 8) : own_h (m.map fun _ => c) = own_h [c, c, c, c, c, c, c, c] := by
  match m, hm with
  | [_, _, _, _, _, _, _, _], _ => rfl
theorem own_dg1 {x b : Int64} {l m : List Nat} (hx : own_N x = own_h l) (hb : own_N b = own_h m) (hp : own_pair l m) (hm : m.length = 8) : own_dg x b = 1 ↔ own_fine l m := by
  obtain ⟨by1, by2⟩ := own_pb l m hp
  have hlm := own_len l m hp
  have ez : own_N ((3472328296227680304 : Int64) &&& b) = own_h (m.map fun b => 48 &&& b) := by
    rw [own_Nand, hb, ← own_z1 l m 48 (by decide) hp, own_cst m 48 hm, show own_N (3472328296227680304 : Int64) = own_h [48, 48, 48, 48, 48, 48, 48, 48] by decide +kernel]
  have es : own_N ((434041037028460038 : Int64) &&& b) = own_h (m.map fun b => 6 &&& b) := by
    rw [own_Nand, hb, ← own_z1 l m 6 (by decide) hp, own_cst m 6 hm, show own_N (434041037028460038 : Int64) = own_h [6, 6, 6, 6, 6, 6, 6, 6] by decide +kernel]
  have ex : own_N (x &&& (-1085102592571150096 : Int64)) = own_h (l.map fun x => x &&& 240) := by
    rw [own_Nand, hx, ← own_z2 l 240 (by decide) by1, own_cst l 240 (hlm.trans hm), show own_N (-1085102592571150096 : Int64) = own_h [240, 240, 240, 240, 240, 240, 240, 240] by decide +kernel]
  have c1 : ((x &&& (-1085102592571150096 : Int64)) = ((3472328296227680304 : Int64) &&& b)) ↔ own_t1 l m := by
    rw [← own_map1 l m hp]
    constructor
    · intro q
      exact own_hinj _ _ (own_bmap' _ _ (by decide)) (own_bmap _ _ (by decide)) (by rw [List.length_map, List.length_map]; exact hlm) (ex.symm.trans ((congrArg own_N q).trans ez))
    · intro q
      exact own_inj (ex.trans ((congrArg own_h q).trans ez.symm))
  have c2 : own_t1 l m → (((x + ((434041037028460038 : Int64) &&& b)) &&& (-1085102592571150096 : Int64)) = ((3472328296227680304 : Int64) &&& b) ↔ own_t2 l m) := by
    intro t
    have sb := own_sb l m hp t
    have hz : (List.zipWith (fun x y => x + y) l (m.map fun b => 6 &&& b)).length = 8 := by
      rw [List.length_zipWith, List.length_map, hlm, hm]
      decide
    have ea : own_N (x + ((434041037028460038 : Int64) &&& b)) = own_h (List.zipWith (fun x y => x + y) l (m.map fun b => 6 &&& b)) := by
      rw [own_Nadd, hx, es, own_hadd l (m.map fun b => 6 &&& b) (by rw [List.length_map]; exact hlm)]
      have q := own_hbd _ sb
      rw [hz] at q
      exact Nat.mod_eq_of_lt q
    have eb : own_N ((x + ((434041037028460038 : Int64) &&& b)) &&& (-1085102592571150096 : Int64)) = own_h ((List.zipWith (fun x y => x + y) l (m.map fun b => 6 &&& b)).map fun x => x &&& 240) := by
      rw [own_Nand, ea, ← own_z2 _ 240 (by decide) sb, own_cst _ 240 hz, show own_N (-1085102592571150096 : Int64) = own_h [240, 240, 240, 240, 240, 240, 240, 240] by decide +kernel]
    rw [← own_map2 l m hp]
    constructor
    · intro q
      exact own_hinj _ _ (own_bmap' _ _ (by decide)) (own_bmap _ _ (by decide)) (by rw [List.length_map, List.length_map, hz, hm]) (eb.symm.trans ((congrArg own_N q).trans ez))
    · intro q
      exact own_inj (eb.trans ((congrArg own_h q).trans ez.symm))
  rw [← own_both l m hp]
  unfold own_dg
  by_cases q1 : (x &&& (-1085102592571150096 : Int64)) = ((3472328296227680304 : Int64) &&& b)
  · rw [if_pos q1]
    have t1 := c1.mp q1
    by_cases q2 : ((x + ((434041037028460038 : Int64) &&& b)) &&& (-1085102592571150096 : Int64)) = ((3472328296227680304 : Int64) &&& b)
    · rw [if_pos q2]
      exact ⟨fun _ => ⟨t1, (c2 t1).mp q2⟩, fun _ => rfl⟩
    · rw [if_neg q2]
      exact ⟨fun q => absurd q (by decide), fun q => absurd ((c2 t1).mpr q.2) q2⟩
  · rw [if_neg q1]
    exact ⟨fun q => absurd q (by decide), fun q => absurd (c1.mpr q.1) q1⟩
theorem own_dg01 (x b : Int64) : own_dg x b = 0 ∨ own_dg x b = 1 := by
  unfold own_dg
  split
  · split
    · exact Or.inr rfl
    · exact Or.inl rfl
  · exact Or.inl rfl
theorem own_or8 {m0 m1 m2 m3 m4 m5 m6 m7 : Int64} {a b c d e f g h : Nat} (q : own_by [a, b, c, d, e, f, g, h]) (h0 : own_N m0 = a * 2 ^ 0) (h1 : own_N m1 = b * 2 ^ 8) (h2 : own_N m2 = c * 2 ^ 16) (h3 : own_N m3 = d * 2 ^ 24) (h4 : own_N m4 = e * 2 ^ 32) (h5 : own_N m5 = f * 2 ^ 40) (h6 : own_N m6 = g * 2 ^ 48) (h7 : own_N m7 = h * 2 ^ 56) :
    own_N (((((((m0 ||| m1) ||| m2) ||| m3) ||| m4) ||| m5) ||| m6) ||| m7) = own_h [a, b, c, d, e, f, g, h] := by
  have q0 := q a (by simp)
  have q1 := q b (by simp)
  have q2 := q c (by simp)
  have q3 := q d (by simp)
  have q4 := q e (by simp)
  have q5 := q f (by simp)
  have q6 := q g (by simp)
  have q7 := q h (by simp)
  rw [own_Nor, own_Nor, own_Nor, own_Nor, own_Nor, own_Nor, own_Nor, h0, h1, h2, h3, h4, h5, h6, h7]
  rw [own_orsum _ b 8 (by omega), own_orsum _ c 16 (by omega), own_orsum _ d 24 (by omega), own_orsum _ e 32 (by omega), own_orsum _ f 40 (by omega), own_orsum _ g 48 (by omega), own_orsum _ h 56 (by omega)]
  show _ = a + 256 * (b + 256 * (c + 256 * (d + 256 * (e + 256 * (f + 256 * (g + 256 * (h + 256 * 0)))))))
  omega
def own_b2 (b : Nat) : Prop := b = 0 ∨ b = 255
theorem own_b2l {b : Nat} (h : own_b2 b) : b < 256 := by rcases h with h | h <;> omega
theorem own_pr {a b : Nat} (ha : a < 256) (hb : own_b2 b) : (b = 0 ∧ (a &&& b) = 0) ∨ (b = 255 ∧ (a &&& b) < 256) := by
  rcases hb with h | h
  · exact Or.inl ⟨h, by rw [h]; exact Nat.and_zero a⟩
  · exact Or.inr ⟨h, by rw [h, own_c255 ha]; exact ha⟩
theorem own_by8 {a b c d e f g h : Nat} (h0 : a < 256) (h1 : b < 256) (h2 : c < 256) (h3 : d < 256) (h4 : e < 256) (h5 : f < 256) (h6 : g < 256) (h7 : h < 256) : own_by [a, b, c, d, e, f, g, h] := fun x hx => by
  simp only [List.mem_cons, List.not_mem_nil, or_false] at hx
  rcases hx with rfl | rfl | rfl | rfl | rfl | rfl | rfl | rfl <;> assumption
/-- the bytes that the law makes -/
def own_rep (x b : Int64) : Prop := ∃ x0 x1 x2 x3 x4 x5 x6 x7 b0 b1 b2 b3 b4 b5 b6 b7 : Nat, own_N x = own_h [x0, x1, x2, x3, x4, x5, x6, x7] ∧ own_N b = own_h [b0, b1, b2, b3, b4, b5, b6, b7] ∧ own_pair [x0, x1, x2, x3, x4, x5, x6, x7] [b0, b1, b2, b3, b4, b5, b6, b7]
theorem own_made {a0 a1 a2 a3 a4 a5 a6 a7 m0 m1 m2 m3 m4 m5 m6 m7 : Int64} (ha0 : ∃ r, r < 256 ∧ own_N a0 = r * 2 ^ 0) (ha1 : ∃ r, r < 256 ∧ own_N a1 = r * 2 ^ 8) (ha2 : ∃ r, r < 256 ∧ own_N a2 = r * 2 ^ 16) (ha3 : ∃ r, r < 256 ∧ own_N a3 = r * 2 ^ 24) (ha4 : ∃ r, r < 256 ∧ own_N a4 = r * 2 ^ 32) (ha5 : ∃ r, r < 256 ∧ own_N a5 = r * 2 ^ 40) (ha6 : ∃ r, r < 256 ∧ own_N a6 = r * 2 ^ 48) (ha7 : ∃ r, r < 256 ∧ own_N a7 = r * 2 ^ 56)
    (hm0 : ∃ r, own_b2 r ∧ own_N m0 = r * 2 ^ 0) (hm1 : ∃ r, own_b2 r ∧ own_N m1 = r * 2 ^ 8) (hm2 : ∃ r, own_b2 r ∧ own_N m2 = r * 2 ^ 16) (hm3 : ∃ r, own_b2 r ∧ own_N m3 = r * 2 ^ 24) (hm4 : ∃ r, own_b2 r ∧ own_N m4 = r * 2 ^ 32) (hm5 : ∃ r, own_b2 r ∧ own_N m5 = r * 2 ^ 40) (hm6 : ∃ r, own_b2 r ∧ own_N m6 = r * 2 ^ 48) (hm7 : ∃ r, own_b2 r ∧ own_N m7 = r * 2 ^ 56) :
    own_rep ((((((((a0 ||| a1) ||| a2) ||| a3) ||| a4) ||| a5) ||| a6) ||| a7) &&& (((((((m0 ||| m1) ||| m2) ||| m3) ||| m4) ||| m5) ||| m6) ||| m7)) (((((((m0 ||| m1) ||| m2) ||| m3) ||| m4) ||| m5) ||| m6) ||| m7) := by
  obtain ⟨r0, ra0, e0⟩ := ha0
  obtain ⟨r1, ra1, e1⟩ := ha1
  obtain ⟨r2, ra2, e2⟩ := ha2
  obtain ⟨r3, ra3, e3⟩ := ha3
  obtain ⟨r4, ra4, e4⟩ := ha4
  obtain ⟨r5, ra5, e5⟩ := ha5
  obtain ⟨r6, ra6, e6⟩ := ha6
  obtain ⟨r7, ra7, e7⟩ := ha7
  obtain ⟨b0, rb0, f0⟩ := hm0
  obtain ⟨b1, rb1, f1⟩ := hm1
  obtain ⟨b2, rb2, f2⟩ := hm2
  obtain ⟨b3, rb3, f3⟩ := hm3
  obtain ⟨b4, rb4, f4⟩ := hm4
  obtain ⟨b5, rb5, f5⟩ := hm5
  obtain ⟨b6, rb6, f6⟩ := hm6
  obtain ⟨b7, rb7, f7⟩ := hm7
  have ya := own_by8 ra0 ra1 ra2 ra3 ra4 ra5 ra6 ra7
  have yb := own_by8 (own_b2l rb0) (own_b2l rb1) (own_b2l rb2) (own_b2l rb3) (own_b2l rb4) (own_b2l rb5) (own_b2l rb6) (own_b2l rb7)
  have ea := own_or8 ya e0 e1 e2 e3 e4 e5 e6 e7
  have eb := own_or8 yb f0 f1 f2 f3 f4 f5 f6 f7
  refine ⟨r0 &&& b0, r1 &&& b1, r2 &&& b2, r3 &&& b3, r4 &&& b4, r5 &&& b5, r6 &&& b6, r7 &&& b7, b0, b1, b2, b3, b4, b5, b6, b7, ?_, eb, ?_⟩
  · rw [own_Nand, ea, eb, own_hand _ _ ya yb rfl]
    rfl
  · exact ⟨own_pr ra0 rb0, own_pr ra1 rb1, own_pr ra2 rb2, own_pr ra3 rb3, own_pr ra4 rb4, own_pr ra5 rb5, own_pr ra6 rb6, own_pr ra7 rb7, trivial⟩
theorem own_g (l0 l1 l2 l3 l4 l5 l6 l7 : Nat) (q : own_by [l0, l1, l2, l3, l4, l5, l6, l7]) : own_h [l0, l1, l2, l3, l4, l5, l6, l7] / 2 ^ 0 % 256 = l0 ∧ own_h [l0, l1, l2, l3, l4, l5, l6, l7] / 2 ^ 8 % 256 = l1 ∧ own_h [l0, l1, l2, l3, l4, l5, l6, l7] / 2 ^ 16 % 256 = l2 ∧ own_h [l0, l1, l2, l3, l4, l5, l6, l7] / 2 ^ 24 % 256 = l3 ∧ own_h [l0, l1, l2, l3, l4, l5, l6, l7] / 2 ^ 32 % 256 = l4 ∧ own_h [l0, l1, l2, l3, l4, l5, l6, l7] / 2 ^ 40 % 256 = l5 ∧ own_h [l0, l1, l2, l3, l4, l5, l6, l7] / 2 ^ 48 % 256 = l6 ∧ own_h [l0, l1, l2, l3, l4, l5, l6, l7] / 2 ^ 56 % 256 = l7 := by
  have q0 := q l0 (by simp)
  have q1 := q l1 (by simp)
  have q2 := q l2 (by simp)
  have q3 := q l3 (by simp)
  have q4 := q l4 (by simp)
  have q5 := q l5 (by simp)
  have q6 := q l6 (by simp)
  have q7 := q l7 (by simp)
  have e : own_h [l0, l1, l2, l3, l4, l5, l6, l7] = l0 + 256 * (l1 + 256 * (l2 + 256 * (l3 + 256 * (l4 + 256 * (l5 + 256 * (l6 + 256 * (l7 + 256 * 0))))))) := rfl
  rw [e]
  refine ⟨by omega, by omega, by omega, by omega, by omega, by omega, by omega, by omega⟩
theorem own_iff {x b : Int64} (r : own_rep x b) : own_dg x b = 1 ↔ (¬ own_ok x b 0 = 0 ∧ ¬ own_ok x b 1 = 0 ∧ ¬ own_ok x b 2 = 0 ∧ ¬ own_ok x b 3 = 0 ∧ ¬ own_ok x b 4 = 0 ∧ ¬ own_ok x b 5 = 0 ∧ ¬ own_ok x b 6 = 0 ∧ ¬ own_ok x b 7 = 0) := by
  obtain ⟨x0, x1, x2, x3, x4, x5, x6, x7, b0, b1, b2, b3, b4, b5, b6, b7, hx, hb, hp⟩ := r
  obtain ⟨by1, by2⟩ := own_pb _ _ hp
  obtain ⟨u0, u1, u2, u3, u4, u5, u6, u7⟩ := own_g _ _ _ _ _ _ _ _ by1
  obtain ⟨w0, w1, w2, w3, w4, w5, w6, w7⟩ := own_g _ _ _ _ _ _ _ _ by2
  rw [own_dg1 hx hb hp rfl, own_okb (p := 0) 0 (by decide), own_okb (p := 1) 8 (by decide), own_okb (p := 2) 16 (by decide), own_okb (p := 3) 24 (by decide), own_okb (p := 4) 32 (by decide), own_okb (p := 5) 40 (by decide), own_okb (p := 6) 48 (by decide), own_okb (p := 7) 56 (by decide), hx, hb, u0, u1, u2, u3, u4, u5, u6, u7, w0, w1, w2, w3, w4, w5, w6, w7]
  show ((b0 = 0 ∨ (48 ≤ x0 ∧ x0 ≤ 57)) ∧ (b1 = 0 ∨ (48 ≤ x1 ∧ x1 ≤ 57)) ∧ (b2 = 0 ∨ (48 ≤ x2 ∧ x2 ≤ 57)) ∧ (b3 = 0 ∨ (48 ≤ x3 ∧ x3 ≤ 57)) ∧ (b4 = 0 ∨ (48 ≤ x4 ∧ x4 ≤ 57)) ∧ (b5 = 0 ∨ (48 ≤ x5 ∧ x5 ≤ 57)) ∧ (b6 = 0 ∨ (48 ≤ x6 ∧ x6 ≤ 57)) ∧ (b7 = 0 ∨ (48 ≤ x7 ∧ x7 ≤ 57)) ∧ True) ↔ _
  have k : ∀ b x : Nat, (b = 0 ∨ (48 ≤ x ∧ x ≤ 57)) ↔ ¬ (b ≠ 0 ∧ ¬ (48 ≤ x ∧ x ≤ 57)) := fun b x => by omega
  rw [k b0 x0, k b1 x1, k b2 x2, k b3 x3, k b4 x4, k b5 x5, k b6 x6, k b7 x7, and_true]
theorem own_yes {x b : Int64} (r : own_rep x b) (h0 : ¬ own_ok x b 0 = 0) (h1 : ¬ own_ok x b 1 = 0) (h2 : ¬ own_ok x b 2 = 0) (h3 : ¬ own_ok x b 3 = 0) (h4 : ¬ own_ok x b 4 = 0) (h5 : ¬ own_ok x b 5 = 0) (h6 : ¬ own_ok x b 6 = 0) (h7 : ¬ own_ok x b 7 = 0) : own_dg x b = 1 := (own_iff r).mpr ⟨h0, h1, h2, h3, h4, h5, h6, h7⟩
theorem own_no {x b : Int64} (r : own_rep x b) (h : own_ok x b 0 = 0 ∨ own_ok x b 1 = 0 ∨ own_ok x b 2 = 0 ∨ own_ok x b 3 = 0 ∨ own_ok x b 4 = 0 ∨ own_ok x b 5 = 0 ∨ own_ok x b 6 = 0 ∨ own_ok x b 7 = 0) : own_dg x b = 0 := by
  rcases own_dg01 x b with q | q
  · exact q
  · obtain ⟨h0, h1, h2, h3, h4, h5, h6, h7⟩ := (own_iff r).mp q
    rcases h with h | h | h | h | h | h | h | h
    · exact absurd h h0
    · exact absurd h h1
    · exact absurd h h2
    · exact absurd h h3
    · exact absurd h h4
    · exact absurd h h5
    · exact absurd h h6
    · exact absurd h h7
theorem own_mk (p : Int32) (k : Nat) (hp : ((8 : Int32) * p).toBitVec.toNat % 64 = k) (hk : k ≤ 56) : own_N ((255 : Int64) <<< (((8 : Int32) * p) &&& 0x3f).toInt64) = 255 * 2 ^ k := by
  rw [own_Nshl _ _ k hp]
  have : 2 ^ k ≤ 2 ^ 56 := Nat.pow_le_pow_right (by decide) hk
  exact Nat.mod_eq_of_lt (by show 255 * 2 ^ k < _; omega)
theorem own_mv (r p : Int32) (k : Nat) (hp : ((8 : Int32) * p).toBitVec.toNat % 64 = k) (hk : k ≤ 56) (hr : 0 ≤ r.toInt ∧ r.toInt < 256) : ∃ z, z < 256 ∧ own_N (r.toInt64 <<< (((8 : Int32) * p) &&& 0x3f).toInt64) = z * 2 ^ k := by
  have h := own_Ni2l hr.1
  refine ⟨own_N r.toInt64, by omega, ?_⟩
  rw [own_Nshl _ _ k hp]
  have h2 : 2 ^ k ≤ 2 ^ 56 := Nat.pow_le_pow_right (by decide) hk
  have h3 : own_N r.toInt64 < 256 := by omega
  have h4 : own_N r.toInt64 * 2 ^ k ≤ 255 * 2 ^ 56 := Nat.mul_le_mul (by omega) h2
  exact Nat.mod_eq_of_lt (by omega)
theorem own_r1 (x : Int32) : 0 ≤ (x &&& (255 : Int32)).toInt ∧ (x &&& (255 : Int32)).toInt < 256 := by
  have h := c_mask x 255 8 (by decide) (by decide)
  omega
theorem own_r2 (x : Int32) : 0 ≤ ((44 : Int32) + (x &&& (15 : Int32))).toInt ∧ ((44 : Int32) + (x &&& (15 : Int32))).toInt < 256 := by
  have h := c_mask x 15 4 (by decide) (by decide)
  have h1 := c_iadd 44 (x &&& 15)
  have r := rng32 (44 + (x &&& 15))
  have e : (44 : Int32).toInt = 44 := by decide
  omega
theorem d1_0 : decode method_3_code 0 = .ok (.iload_n 0, 1) := by decide +kernel
theorem d1_1 : decode method_3_code 1 = .ok (.iload_n 1, 1) := by decide +kernel
theorem d1_2 : decode method_3_code 2 = .ok (.iushr, 1) := by decide +kernel
theorem d1_3 : decode method_3_code 3 = .ok (.iconst 1, 1) := by decide +kernel
theorem d1_4 : decode method_3_code 4 = .ok (.iand, 1) := by decide +kernel
theorem d1_5 : decode method_3_code 5 = .ok (.ifCond .eq 14, 3) := by decide +kernel
theorem d1_8 : decode method_3_code 8 = .ok (.ldc2_w 27, 3) := by decide +kernel
theorem d1_11 : decode method_3_code 11 = .ok (.bipush 8, 2) := by decide +kernel
theorem d1_13 : decode method_3_code 13 = .ok (.iload_n 1, 1) := by decide +kernel
theorem d1_14 : decode method_3_code 14 = .ok (.imul, 1) := by decide +kernel
theorem d1_15 : decode method_3_code 15 = .ok (.lshl, 1) := by decide +kernel
theorem d1_16 : decode method_3_code 16 = .ok (.goto 4, 3) := by decide +kernel
theorem d1_19 : decode method_3_code 19 = .ok (.lconst 0, 1) := by decide +kernel
theorem d1_20 : decode method_3_code 20 = .ok (.lreturn, 1) := by decide +kernel
theorem pn_1 : plainName "com/example/excedent/excedent/io/EightBytesDigitsPinLaw" = true := by first | (simp [plainName, overriddenIn]; done) | decide +kernel
theorem ef_1 (m : MethodId) (s_ : Int32) (pk : Int32) : entryFrame m #[(.int s_), (.int pk)] 2 = mkF m 0 #[.val (.int s_), .val (.int pk)] [] := by first | (simp [entryFrame, mkF, argsToLocals, Value.category]; done) | rfl
def Q_rmMask (Z : State) (s_ : Int32) (pk : Int32) (k : Nat) (h0 : Heap) (n0 : Nat) (v : Option Value) (h : Heap) (L : List Loc) : Prop := ∃ z : Int64, v = some (.long z) ∧ (∃ r, own_b2 r ∧ own_N z = r * 2 ^ k) ∧ Fr n0 L ∧ h = h0
set_option maxRecDepth 65536 in
set_option maxHeartbeats 40000000 in
theorem rmMask (l : Launch) (Z : State) (a0 : Array Value) (hw : ∀ d ∈ tables_1, d.before a0 Z = true) (ws : List Jvm.Cond) (s_ : Int32) (pk : Int32) (k : Nat) (h0 : Heap) (n0 : Nat) (Z0 : n0 ≤ h0.size) (hp : ((8 : Int32) * pk).toBitVec.toNat % 64 = k) (hk : k ≤ 56) :
    MetFree l (⟨"com/example/excedent/excedent/io/EightBytesDigitsPinLaw", "mask", "(II)J"⟩ : MethodName) (head1 (Jvm.Cond.code (⟨"com/example/excedent/excedent/io/EightBytesDigitsPinLaw", "mask", "(II)J"⟩ : MethodName) method_3_code 2 (some .long) :: ws) ({ frames := 0, cells := 0, slots := 0, locals := 0 } : Room)) (fun aa U => aa = #[(.int s_), (.int pk)] ∧ Z.Warmed39 U.vm ∧ U.heap = h0) (fun _ _ _ _ _ => True) (fun _ U ou U' => ∃ v L, ou = .returned v ∧ Q_rmMask Z s_ pk k h0 n0 v U'.heap L ∧ FrameEnd U ou U' L ({ frames := 0, cells := 0, slots := 0, locals := 0 } : Room).cells ({ frames := 0, cells := 0, slots := 0, locals := 0 } : Room).slots) := by
  refine MetFree.of_bodySF (plainFor_of_name pn_1) hisR ?_
  intro p e s m args below meth c s₁ Bd hml0 hP hK
  obtain ⟨rfl, hZ, hh⟩ := hP
  have hx := Bd.exec
  have hby := Bd.bytes
  have hml : c.maxLocals = 2 := hml0
  have hown : s.vm.findClass "com/example/excedent/excedent/io/EightBytesDigitsPinLaw" = some m.cls := findClass_of_methodNamed Bd.named
  have hnm := (name_of_methodNamed Bd.named Bd.method).1
  have X0 : Stand p l e ({ frames := 0, cells := 0, slots := 0, locals := 0 } : Room) s m #[(.int s_), (.int pk)] below meth c s₁ [] 0 0 := Stand.of_body Bd
  have e0 : s₁.heap = h0 := by rw [← hh, Bd.state]; rfl
  have N0 := Fr.nil n0
  have K0 := Keep.refl h0 []
  refine own_as (ef_1 m s_ pk) ?_
  show own_Ends p e below s₁ (mkF m 0 #[.val (.int s_), .val (.int pk)] []) _
  refine own_go (fun _ => XS.iloadN X0.here hx rfl (hb hby d1_0) rfl) ?_
  show own_Ends p e below s₁ (mkF m 1 #[.val (.int s_), .val (.int pk)] [(.int s_)]) _
  refine own_go (fun _ => XS.iloadN X0.here hx rfl (hb hby d1_1) rfl) ?_
  show own_Ends p e below s₁ (mkF m 2 #[.val (.int s_), .val (.int pk)] [(.int pk), (.int s_)]) _
  refine own_go (fun _ => XS.iushr X0.here hx rfl (hb hby d1_2) rfl) ?_
  show own_Ends p e below s₁ (mkF m 3 #[.val (.int s_), .val (.int pk)] [(.int ((s_.toUInt32 >>> (pk &&& 31).toUInt32).toInt32))]) _
  refine own_go (fun _ => XS.iconst X0.here hx rfl (hb hby d1_3)) ?_
  show own_Ends p e below s₁ (mkF m 4 #[.val (.int s_), .val (.int pk)] [(.int (1 : Int32)), (.int ((s_.toUInt32 >>> (pk &&& 31).toUInt32).toInt32))]) _
  refine own_go (fun _ => XS.iand X0.here hx rfl (hb hby d1_4) rfl) ?_
  show own_Ends p e below s₁ (mkF m 5 #[.val (.int s_), .val (.int pk)] [(.int (((s_.toUInt32 >>> (pk &&& 31).toUInt32).toInt32) &&& (1 : Int32)))]) _
  by_cases hc5 : (((s_.toUInt32 >>> (pk &&& 31).toUInt32).toInt32) &&& (1 : Int32)) = (0 : Int32)
  · refine own_go (fun _ => XS.ifYes X0.here hx rfl (pc0 := 5) (pc' := 19) rfl (hb hby d1_5) rfl ((if0 _ _).trans (teq hc5).1) (by decide) (by decide)) ?_
    show own_Ends p e below s₁ (mkF m 19 #[.val (.int s_), .val (.int pk)] []) _
    refine own_go (fun _ => XS.lconst X0.here hx rfl (hb hby d1_19)) ?_
    show own_Ends p e below s₁ (mkF m 20 #[.val (.int s_), .val (.int pk)] [(.long (0 : Int64))]) _
    obtain ⟨fs, hr, hrun, hended, hW, hsame⟩ := X0.leave (v := some (.long (0 : Int64))) (fun h => by rw [Bd.returns] at h; cases h)
    refine ⟨_, _, retOut X0 hx Bd.returns rfl (Or.inr (Or.inl ⟨rfl, rfl, _, rfl⟩)) (hb hby d1_20) hr, hrun, hended, _, _, rfl, ?_, ⟨_, rfl⟩, hW, hsame.mono (by decide) (by decide)⟩
    show Q_rmMask Z s_ pk k h0 n0 _ s₁.heap _
    rw [e0]
    exact ⟨_, rfl, ⟨0, Or.inl rfl, by rw [Nat.zero_mul]; rfl⟩, N0, rfl⟩
  · refine own_go (fun _ => XS.ifNo X0.here hx rfl (hb hby d1_5) rfl ((if0 _ _).trans (feq hc5).1)) ?_
    show own_Ends p e below s₁ (mkF m 8 #[.val (.int s_), .val (.int pk)] []) _
    refine own_go (X0.ldc2Long hx hown (mvT hZ (hw _ (List.mem_of_getElem? (i := 4) rfl))) (g := (mkF m 8 #[.val (.int s_), .val (.int pk)] [])) rfl (hb hby d1_8)) ?_
    show own_Ends p e below s₁ (mkF m 11 #[.val (.int s_), .val (.int pk)] [(.long (255 : Int64))]) _
    refine own_go (fun _ => XS.bipush X0.here hx rfl (hb hby d1_11)) ?_
    show own_Ends p e below s₁ (mkF m 13 #[.val (.int s_), .val (.int pk)] [(.int (8 : Int32)), (.long (255 : Int64))]) _
    refine own_go (fun _ => XS.iloadN X0.here hx rfl (hb hby d1_13) rfl) ?_
    show own_Ends p e below s₁ (mkF m 14 #[.val (.int s_), .val (.int pk)] [(.int pk), (.int (8 : Int32)), (.long (255 : Int64))]) _
    refine own_go (fun _ => XS.imul X0.here hx rfl (hb hby d1_14) rfl) ?_
    show own_Ends p e below s₁ (mkF m 15 #[.val (.int s_), .val (.int pk)] [(.int ((8 : Int32) * pk)), (.long (255 : Int64))]) _
    refine own_go (fun _ => XS.lshl X0.here hx rfl (hb hby d1_15) rfl) ?_
    show own_Ends p e below s₁ (mkF m 16 #[.val (.int s_), .val (.int pk)] [(.long ((255 : Int64) <<< (((8 : Int32) * pk) &&& 0x3f).toInt64))]) _
    refine own_go (fun _ => XS.goto X0.here hx rfl (pc0 := 16) (pc' := 20) rfl (hb hby d1_16) (by decide) (by decide)) ?_
    show own_Ends p e below s₁ (mkF m 20 #[.val (.int s_), .val (.int pk)] [(.long ((255 : Int64) <<< (((8 : Int32) * pk) &&& 0x3f).toInt64))]) _
    obtain ⟨fs, hr, hrun, hended, hW, hsame⟩ := X0.leave (v := some (.long ((255 : Int64) <<< (((8 : Int32) * pk) &&& 0x3f).toInt64))) (fun h => by rw [Bd.returns] at h; cases h)
    refine ⟨_, _, retOut X0 hx Bd.returns rfl (Or.inr (Or.inl ⟨rfl, rfl, _, rfl⟩)) (hb hby d1_20) hr, hrun, hended, _, _, rfl, ?_, ⟨_, rfl⟩, hW, hsame.mono (by decide) (by decide)⟩
    show Q_rmMask Z s_ pk k h0 n0 _ s₁.heap _
    rw [e0]
    exact ⟨_, rfl, ⟨255, Or.inr rfl, own_mk pk k hp hk⟩, N0, rfl⟩
theorem d2_0 : decode method_4_code 0 = .ok (.lload_n 0, 1) := by decide +kernel
theorem d2_1 : decode method_4_code 1 = .ok (.bipush 8, 2) := by decide +kernel
theorem d2_3 : decode method_4_code 3 = .ok (.iload_n 3, 1) := by decide +kernel
theorem d2_4 : decode method_4_code 4 = .ok (.imul, 1) := by decide +kernel
theorem d2_5 : decode method_4_code 5 = .ok (.lushr, 1) := by decide +kernel
theorem d2_6 : decode method_4_code 6 = .ok (.l2i, 1) := by decide +kernel
theorem d2_7 : decode method_4_code 7 = .ok (.sipush 255, 3) := by decide +kernel
theorem d2_10 : decode method_4_code 10 = .ok (.iand, 1) := by decide +kernel
theorem d2_11 : decode method_4_code 11 = .ok (.istore 4, 2) := by decide +kernel
theorem d2_13 : decode method_4_code 13 = .ok (.iload_n 2, 1) := by decide +kernel
theorem d2_14 : decode method_4_code 14 = .ok (.iload_n 3, 1) := by decide +kernel
theorem d2_15 : decode method_4_code 15 = .ok (.iushr, 1) := by decide +kernel
theorem d2_16 : decode method_4_code 16 = .ok (.iconst 1, 1) := by decide +kernel
theorem d2_17 : decode method_4_code 17 = .ok (.iand, 1) := by decide +kernel
theorem d2_18 : decode method_4_code 18 = .ok (.ifCond .eq 13, 3) := by decide +kernel
theorem d2_21 : decode method_4_code 21 = .ok (.bipush 44, 2) := by decide +kernel
theorem d2_23 : decode method_4_code 23 = .ok (.iload 4, 2) := by decide +kernel
theorem d2_25 : decode method_4_code 25 = .ok (.bipush 15, 2) := by decide +kernel
theorem d2_27 : decode method_4_code 27 = .ok (.iand, 1) := by decide +kernel
theorem d2_28 : decode method_4_code 28 = .ok (.iadd, 1) := by decide +kernel
theorem d2_29 : decode method_4_code 29 = .ok (.istore 4, 2) := by decide +kernel
theorem d2_31 : decode method_4_code 31 = .ok (.iload 4, 2) := by decide +kernel
theorem d2_33 : decode method_4_code 33 = .ok (.i2l, 1) := by decide +kernel
theorem d2_34 : decode method_4_code 34 = .ok (.bipush 8, 2) := by decide +kernel
theorem d2_36 : decode method_4_code 36 = .ok (.iload_n 3, 1) := by decide +kernel
theorem d2_37 : decode method_4_code 37 = .ok (.imul, 1) := by decide +kernel
theorem d2_38 : decode method_4_code 38 = .ok (.lshl, 1) := by decide +kernel
theorem d2_39 : decode method_4_code 39 = .ok (.lreturn, 1) := by decide +kernel
theorem pn_2 : plainName "com/example/excedent/excedent/io/EightBytesDigitsPinLaw" = true := by first | (simp [plainName, overriddenIn]; done) | decide +kernel
theorem ef_2 (m : MethodId) (q0 : Int64) (p1 : Int32) (pk : Int32) : entryFrame m #[(.long q0), (.int p1), (.int pk)] 5 = mkF m 0 #[.val (.long q0), .second, .val (.int p1), .val (.int pk), .unset] [] := by first | (simp [entryFrame, mkF, argsToLocals, Value.category]; done) | rfl
def Q_rmAt (Z : State) (q0 : Int64) (p1 : Int32) (pk : Int32) (k : Nat) (h0 : Heap) (n0 : Nat) (v : Option Value) (h : Heap) (L : List Loc) : Prop := ∃ z : Int64, v = some (.long z) ∧ (∃ r, r < 256 ∧ own_N z = r * 2 ^ k) ∧ Fr n0 L ∧ h = h0
set_option maxRecDepth 65536 in
set_option maxHeartbeats 40000000 in
theorem rmAt (l : Launch) (Z : State) (a0 : Array Value) (hw : ∀ d ∈ tables_1, d.before a0 Z = true) (ws : List Jvm.Cond) (q0 : Int64) (p1 : Int32) (pk : Int32) (k : Nat) (h0 : Heap) (n0 : Nat) (Z0 : n0 ≤ h0.size) (hp : ((8 : Int32) * pk).toBitVec.toNat % 64 = k) (hk : k ≤ 56) :
    MetFree l (⟨"com/example/excedent/excedent/io/EightBytesDigitsPinLaw", "at", "(JII)J"⟩ : MethodName) (head1 (Jvm.Cond.code (⟨"com/example/excedent/excedent/io/EightBytesDigitsPinLaw", "at", "(JII)J"⟩ : MethodName) method_4_code 5 (some .long) :: ws) ({ frames := 0, cells := 0, slots := 0, locals := 0 } : Room)) (fun aa U => aa = #[(.long q0), (.int p1), (.int pk)] ∧ Z.Warmed39 U.vm ∧ U.heap = h0) (fun _ _ _ _ _ => True) (fun _ U ou U' => ∃ v L, ou = .returned v ∧ Q_rmAt Z q0 p1 pk k h0 n0 v U'.heap L ∧ FrameEnd U ou U' L ({ frames := 0, cells := 0, slots := 0, locals := 0 } : Room).cells ({ frames := 0, cells := 0, slots := 0, locals := 0 } : Room).slots) := by
  refine MetFree.of_bodySF (plainFor_of_name pn_2) hisR ?_
  intro p e s m args below meth c s₁ Bd hml0 hP hK
  obtain ⟨rfl, hZ, hh⟩ := hP
  have hx := Bd.exec
  have hby := Bd.bytes
  have hml : c.maxLocals = 5 := hml0
  have hown : s.vm.findClass "com/example/excedent/excedent/io/EightBytesDigitsPinLaw" = some m.cls := findClass_of_methodNamed Bd.named
  have hnm := (name_of_methodNamed Bd.named Bd.method).1
  have X0 : Stand p l e ({ frames := 0, cells := 0, slots := 0, locals := 0 } : Room) s m #[(.long q0), (.int p1), (.int pk)] below meth c s₁ [] 0 0 := Stand.of_body Bd
  have e0 : s₁.heap = h0 := by rw [← hh, Bd.state]; rfl
  have N0 := Fr.nil n0
  have K0 := Keep.refl h0 []
  refine own_as (ef_2 m q0 p1 pk) ?_
  show own_Ends p e below s₁ (mkF m 0 #[.val (.long q0), .second, .val (.int p1), .val (.int pk), .unset] []) _
  refine own_go (fun _ => XS.lloadN X0.here hx rfl (hb hby d2_0) rfl) ?_
  show own_Ends p e below s₁ (mkF m 1 #[.val (.long q0), .second, .val (.int p1), .val (.int pk), .unset] [(.long q0)]) _
  refine own_go (fun _ => XS.bipush X0.here hx rfl (hb hby d2_1)) ?_
  show own_Ends p e below s₁ (mkF m 3 #[.val (.long q0), .second, .val (.int p1), .val (.int pk), .unset] [(.int (8 : Int32)), (.long q0)]) _
  refine own_go (fun _ => XS.iloadN X0.here hx rfl (hb hby d2_3) rfl) ?_
  show own_Ends p e below s₁ (mkF m 4 #[.val (.long q0), .second, .val (.int p1), .val (.int pk), .unset] [(.int pk), (.int (8 : Int32)), (.long q0)]) _
  refine own_go (fun _ => XS.imul X0.here hx rfl (hb hby d2_4) rfl) ?_
  show own_Ends p e below s₁ (mkF m 5 #[.val (.long q0), .second, .val (.int p1), .val (.int pk), .unset] [(.int ((8 : Int32) * pk)), (.long q0)]) _
  refine own_go (fun _ => XS.lushr X0.here hx rfl (hb hby d2_5) rfl) ?_
  show own_Ends p e below s₁ (mkF m 6 #[.val (.long q0), .second, .val (.int p1), .val (.int pk), .unset] [(.long ((q0.toUInt64 >>> (((8 : Int32) * pk) &&& 0x3f).toInt64.toUInt64).toInt64))]) _
  refine own_go (fun _ => XS.l2i X0.here hx rfl (hb hby d2_6) rfl) ?_
  show own_Ends p e below s₁ (mkF m 7 #[.val (.long q0), .second, .val (.int p1), .val (.int pk), .unset] [(.int (((q0.toUInt64 >>> (((8 : Int32) * pk) &&& 0x3f).toInt64.toUInt64).toInt64).toInt32))]) _
  refine own_go (fun _ => XS.sipush X0.here hx rfl (hb hby d2_7)) ?_
  show own_Ends p e below s₁ (mkF m 10 #[.val (.long q0), .second, .val (.int p1), .val (.int pk), .unset] [(.int (255 : Int32)), (.int (((q0.toUInt64 >>> (((8 : Int32) * pk) &&& 0x3f).toInt64.toUInt64).toInt64).toInt32))]) _
  refine own_go (fun _ => XS.iand X0.here hx rfl (hb hby d2_10) rfl) ?_
  show own_Ends p e below s₁ (mkF m 11 #[.val (.long q0), .second, .val (.int p1), .val (.int pk), .unset] [(.int ((((q0.toUInt64 >>> (((8 : Int32) * pk) &&& 0x3f).toInt64.toUInt64).toInt64).toInt32) &&& (255 : Int32)))]) _
  refine own_go (fun _ => XS.istore X0.here hx rfl (hb hby d2_11) rfl (l' := #[.val (.long q0), .second, .val (.int p1), .val (.int pk), .val (.int ((((q0.toUInt64 >>> (((8 : Int32) * pk) &&& 0x3f).toInt64.toUInt64).toInt64).toInt32) &&& (255 : Int32)))]) rfl) ?_
  show own_Ends p e below s₁ (mkF m 13 #[.val (.long q0), .second, .val (.int p1), .val (.int pk), .val (.int ((((q0.toUInt64 >>> (((8 : Int32) * pk) &&& 0x3f).toInt64.toUInt64).toInt64).toInt32) &&& (255 : Int32)))] []) _
  refine own_go (fun _ => XS.iloadN X0.here hx rfl (hb hby d2_13) rfl) ?_
  show own_Ends p e below s₁ (mkF m 14 #[.val (.long q0), .second, .val (.int p1), .val (.int pk), .val (.int ((((q0.toUInt64 >>> (((8 : Int32) * pk) &&& 0x3f).toInt64.toUInt64).toInt64).toInt32) &&& (255 : Int32)))] [(.int p1)]) _
  refine own_go (fun _ => XS.iloadN X0.here hx rfl (hb hby d2_14) rfl) ?_
  show own_Ends p e below s₁ (mkF m 15 #[.val (.long q0), .second, .val (.int p1), .val (.int pk), .val (.int ((((q0.toUInt64 >>> (((8 : Int32) * pk) &&& 0x3f).toInt64.toUInt64).toInt64).toInt32) &&& (255 : Int32)))] [(.int pk), (.int p1)]) _
  refine own_go (fun _ => XS.iushr X0.here hx rfl (hb hby d2_15) rfl) ?_
  show own_Ends p e below s₁ (mkF m 16 #[.val (.long q0), .second, .val (.int p1), .val (.int pk), .val (.int ((((q0.toUInt64 >>> (((8 : Int32) * pk) &&& 0x3f).toInt64.toUInt64).toInt64).toInt32) &&& (255 : Int32)))] [(.int ((p1.toUInt32 >>> (pk &&& 31).toUInt32).toInt32))]) _
  refine own_go (fun _ => XS.iconst X0.here hx rfl (hb hby d2_16)) ?_
  show own_Ends p e below s₁ (mkF m 17 #[.val (.long q0), .second, .val (.int p1), .val (.int pk), .val (.int ((((q0.toUInt64 >>> (((8 : Int32) * pk) &&& 0x3f).toInt64.toUInt64).toInt64).toInt32) &&& (255 : Int32)))] [(.int (1 : Int32)), (.int ((p1.toUInt32 >>> (pk &&& 31).toUInt32).toInt32))]) _
  refine own_go (fun _ => XS.iand X0.here hx rfl (hb hby d2_17) rfl) ?_
  show own_Ends p e below s₁ (mkF m 18 #[.val (.long q0), .second, .val (.int p1), .val (.int pk), .val (.int ((((q0.toUInt64 >>> (((8 : Int32) * pk) &&& 0x3f).toInt64.toUInt64).toInt64).toInt32) &&& (255 : Int32)))] [(.int (((p1.toUInt32 >>> (pk &&& 31).toUInt32).toInt32) &&& (1 : Int32)))]) _
  by_cases hc18 : (((p1.toUInt32 >>> (pk &&& 31).toUInt32).toInt32) &&& (1 : Int32)) = (0 : Int32)
  · refine own_go (fun _ => XS.ifYes X0.here hx rfl (pc0 := 18) (pc' := 31) rfl (hb hby d2_18) rfl ((if0 _ _).trans (teq hc18).1) (by decide) (by decide)) ?_
    show own_Ends p e below s₁ (mkF m 31 #[.val (.long q0), .second, .val (.int p1), .val (.int pk), .val (.int ((((q0.toUInt64 >>> (((8 : Int32) * pk) &&& 0x3f).toInt64.toUInt64).toInt64).toInt32) &&& (255 : Int32)))] []) _
    refine own_go (fun _ => XS.iload X0.here hx rfl (hb hby d2_31) rfl) ?_
    show own_Ends p e below s₁ (mkF m 33 #[.val (.long q0), .second, .val (.int p1), .val (.int pk), .val (.int ((((q0.toUInt64 >>> (((8 : Int32) * pk) &&& 0x3f).toInt64.toUInt64).toInt64).toInt32) &&& (255 : Int32)))] [(.int ((((q0.toUInt64 >>> (((8 : Int32) * pk) &&& 0x3f).toInt64.toUInt64).toInt64).toInt32) &&& (255 : Int32)))]) _
    refine own_go (fun _ => XS.i2l X0.here hx rfl (hb hby d2_33) rfl) ?_
    show own_Ends p e below s₁ (mkF m 34 #[.val (.long q0), .second, .val (.int p1), .val (.int pk), .val (.int ((((q0.toUInt64 >>> (((8 : Int32) * pk) &&& 0x3f).toInt64.toUInt64).toInt64).toInt32) &&& (255 : Int32)))] [(.long (((((q0.toUInt64 >>> (((8 : Int32) * pk) &&& 0x3f).toInt64.toUInt64).toInt64).toInt32) &&& (255 : Int32)).toInt64))]) _
    refine own_go (fun _ => XS.bipush X0.here hx rfl (hb hby d2_34)) ?_
    show own_Ends p e below s₁ (mkF m 36 #[.val (.long q0), .second, .val (.int p1), .val (.int pk), .val (.int ((((q0.toUInt64 >>> (((8 : Int32) * pk) &&& 0x3f).toInt64.toUInt64).toInt64).toInt32) &&& (255 : Int32)))] [(.int (8 : Int32)), (.long (((((q0.toUInt64 >>> (((8 : Int32) * pk) &&& 0x3f).toInt64.toUInt64).toInt64).toInt32) &&& (255 : Int32)).toInt64))]) _
    refine own_go (fun _ => XS.iloadN X0.here hx rfl (hb hby d2_36) rfl) ?_
    show own_Ends p e below s₁ (mkF m 37 #[.val (.long q0), .second, .val (.int p1), .val (.int pk), .val (.int ((((q0.toUInt64 >>> (((8 : Int32) * pk) &&& 0x3f).toInt64.toUInt64).toInt64).toInt32) &&& (255 : Int32)))] [(.int pk), (.int (8 : Int32)), (.long (((((q0.toUInt64 >>> (((8 : Int32) * pk) &&& 0x3f).toInt64.toUInt64).toInt64).toInt32) &&& (255 : Int32)).toInt64))]) _
    refine own_go (fun _ => XS.imul X0.here hx rfl (hb hby d2_37) rfl) ?_
    show own_Ends p e below s₁ (mkF m 38 #[.val (.long q0), .second, .val (.int p1), .val (.int pk), .val (.int ((((q0.toUInt64 >>> (((8 : Int32) * pk) &&& 0x3f).toInt64.toUInt64).toInt64).toInt32) &&& (255 : Int32)))] [(.int ((8 : Int32) * pk)), (.long (((((q0.toUInt64 >>> (((8 : Int32) * pk) &&& 0x3f).toInt64.toUInt64).toInt64).toInt32) &&& (255 : Int32)).toInt64))]) _
    refine own_go (fun _ => XS.lshl X0.here hx rfl (hb hby d2_38) rfl) ?_
    show own_Ends p e below s₁ (mkF m 39 #[.val (.long q0), .second, .val (.int p1), .val (.int pk), .val (.int ((((q0.toUInt64 >>> (((8 : Int32) * pk) &&& 0x3f).toInt64.toUInt64).toInt64).toInt32) &&& (255 : Int32)))] [(.long ((((((q0.toUInt64 >>> (((8 : Int32) * pk) &&& 0x3f).toInt64.toUInt64).toInt64).toInt32) &&& (255 : Int32)).toInt64) <<< (((8 : Int32) * pk) &&& 0x3f).toInt64))]) _
    obtain ⟨fs, hr, hrun, hended, hW, hsame⟩ := X0.leave (v := some (.long ((((((q0.toUInt64 >>> (((8 : Int32) * pk) &&& 0x3f).toInt64.toUInt64).toInt64).toInt32) &&& (255 : Int32)).toInt64) <<< (((8 : Int32) * pk) &&& 0x3f).toInt64))) (fun h => by rw [Bd.returns] at h; cases h)
    refine ⟨_, _, retOut X0 hx Bd.returns rfl (Or.inr (Or.inl ⟨rfl, rfl, _, rfl⟩)) (hb hby d2_39) hr, hrun, hended, _, _, rfl, ?_, ⟨_, rfl⟩, hW, hsame.mono (by decide) (by decide)⟩
    show Q_rmAt Z q0 p1 pk k h0 n0 _ s₁.heap _
    rw [e0]
    exact ⟨_, rfl, own_mv _ pk k hp hk (own_r1 _), N0, rfl⟩
  · refine own_go (fun _ => XS.ifNo X0.here hx rfl (hb hby d2_18) rfl ((if0 _ _).trans (feq hc18).1)) ?_
    show own_Ends p e below s₁ (mkF m 21 #[.val (.long q0), .second, .val (.int p1), .val (.int pk), .val (.int ((((q0.toUInt64 >>> (((8 : Int32) * pk) &&& 0x3f).toInt64.toUInt64).toInt64).toInt32) &&& (255 : Int32)))] []) _
    refine own_go (fun _ => XS.bipush X0.here hx rfl (hb hby d2_21)) ?_
    show own_Ends p e below s₁ (mkF m 23 #[.val (.long q0), .second, .val (.int p1), .val (.int pk), .val (.int ((((q0.toUInt64 >>> (((8 : Int32) * pk) &&& 0x3f).toInt64.toUInt64).toInt64).toInt32) &&& (255 : Int32)))] [(.int (44 : Int32))]) _
    refine own_go (fun _ => XS.iload X0.here hx rfl (hb hby d2_23) rfl) ?_
    show own_Ends p e below s₁ (mkF m 25 #[.val (.long q0), .second, .val (.int p1), .val (.int pk), .val (.int ((((q0.toUInt64 >>> (((8 : Int32) * pk) &&& 0x3f).toInt64.toUInt64).toInt64).toInt32) &&& (255 : Int32)))] [(.int ((((q0.toUInt64 >>> (((8 : Int32) * pk) &&& 0x3f).toInt64.toUInt64).toInt64).toInt32) &&& (255 : Int32))), (.int (44 : Int32))]) _
    refine own_go (fun _ => XS.bipush X0.here hx rfl (hb hby d2_25)) ?_
    show own_Ends p e below s₁ (mkF m 27 #[.val (.long q0), .second, .val (.int p1), .val (.int pk), .val (.int ((((q0.toUInt64 >>> (((8 : Int32) * pk) &&& 0x3f).toInt64.toUInt64).toInt64).toInt32) &&& (255 : Int32)))] [(.int (15 : Int32)), (.int ((((q0.toUInt64 >>> (((8 : Int32) * pk) &&& 0x3f).toInt64.toUInt64).toInt64).toInt32) &&& (255 : Int32))), (.int (44 : Int32))]) _
    refine own_go (fun _ => XS.iand X0.here hx rfl (hb hby d2_27) rfl) ?_
    show own_Ends p e below s₁ (mkF m 28 #[.val (.long q0), .second, .val (.int p1), .val (.int pk), .val (.int ((((q0.toUInt64 >>> (((8 : Int32) * pk) &&& 0x3f).toInt64.toUInt64).toInt64).toInt32) &&& (255 : Int32)))] [(.int (((((q0.toUInt64 >>> (((8 : Int32) * pk) &&& 0x3f).toInt64.toUInt64).toInt64).toInt32) &&& (255 : Int32)) &&& (15 : Int32))), (.int (44 : Int32))]) _
    refine own_go (fun _ => XS.iadd X0.here hx rfl (hb hby d2_28) rfl) ?_
    show own_Ends p e below s₁ (mkF m 29 #[.val (.long q0), .second, .val (.int p1), .val (.int pk), .val (.int ((((q0.toUInt64 >>> (((8 : Int32) * pk) &&& 0x3f).toInt64.toUInt64).toInt64).toInt32) &&& (255 : Int32)))] [(.int ((44 : Int32) + (((((q0.toUInt64 >>> (((8 : Int32) * pk) &&& 0x3f).toInt64.toUInt64).toInt64).toInt32) &&& (255 : Int32)) &&& (15 : Int32))))]) _
    refine own_go (fun _ => XS.istore X0.here hx rfl (hb hby d2_29) rfl (l' := #[.val (.long q0), .second, .val (.int p1), .val (.int pk), .val (.int ((44 : Int32) + (((((q0.toUInt64 >>> (((8 : Int32) * pk) &&& 0x3f).toInt64.toUInt64).toInt64).toInt32) &&& (255 : Int32)) &&& (15 : Int32))))]) rfl) ?_
    show own_Ends p e below s₁ (mkF m 31 #[.val (.long q0), .second, .val (.int p1), .val (.int pk), .val (.int ((44 : Int32) + (((((q0.toUInt64 >>> (((8 : Int32) * pk) &&& 0x3f).toInt64.toUInt64).toInt64).toInt32) &&& (255 : Int32)) &&& (15 : Int32))))] []) _
    refine own_go (fun _ => XS.iload X0.here hx rfl (hb hby d2_31) rfl) ?_
    show own_Ends p e below s₁ (mkF m 33 #[.val (.long q0), .second, .val (.int p1), .val (.int pk), .val (.int ((44 : Int32) + (((((q0.toUInt64 >>> (((8 : Int32) * pk) &&& 0x3f).toInt64.toUInt64).toInt64).toInt32) &&& (255 : Int32)) &&& (15 : Int32))))] [(.int ((44 : Int32) + (((((q0.toUInt64 >>> (((8 : Int32) * pk) &&& 0x3f).toInt64.toUInt64).toInt64).toInt32) &&& (255 : Int32)) &&& (15 : Int32))))]) _
    refine own_go (fun _ => XS.i2l X0.here hx rfl (hb hby d2_33) rfl) ?_
    show own_Ends p e below s₁ (mkF m 34 #[.val (.long q0), .second, .val (.int p1), .val (.int pk), .val (.int ((44 : Int32) + (((((q0.toUInt64 >>> (((8 : Int32) * pk) &&& 0x3f).toInt64.toUInt64).toInt64).toInt32) &&& (255 : Int32)) &&& (15 : Int32))))] [(.long (((44 : Int32) + (((((q0.toUInt64 >>> (((8 : Int32) * pk) &&& 0x3f).toInt64.toUInt64).toInt64).toInt32) &&& (255 : Int32)) &&& (15 : Int32))).toInt64))]) _
    refine own_go (fun _ => XS.bipush X0.here hx rfl (hb hby d2_34)) ?_
    show own_Ends p e below s₁ (mkF m 36 #[.val (.long q0), .second, .val (.int p1), .val (.int pk), .val (.int ((44 : Int32) + (((((q0.toUInt64 >>> (((8 : Int32) * pk) &&& 0x3f).toInt64.toUInt64).toInt64).toInt32) &&& (255 : Int32)) &&& (15 : Int32))))] [(.int (8 : Int32)), (.long (((44 : Int32) + (((((q0.toUInt64 >>> (((8 : Int32) * pk) &&& 0x3f).toInt64.toUInt64).toInt64).toInt32) &&& (255 : Int32)) &&& (15 : Int32))).toInt64))]) _
    refine own_go (fun _ => XS.iloadN X0.here hx rfl (hb hby d2_36) rfl) ?_
    show own_Ends p e below s₁ (mkF m 37 #[.val (.long q0), .second, .val (.int p1), .val (.int pk), .val (.int ((44 : Int32) + (((((q0.toUInt64 >>> (((8 : Int32) * pk) &&& 0x3f).toInt64.toUInt64).toInt64).toInt32) &&& (255 : Int32)) &&& (15 : Int32))))] [(.int pk), (.int (8 : Int32)), (.long (((44 : Int32) + (((((q0.toUInt64 >>> (((8 : Int32) * pk) &&& 0x3f).toInt64.toUInt64).toInt64).toInt32) &&& (255 : Int32)) &&& (15 : Int32))).toInt64))]) _
    refine own_go (fun _ => XS.imul X0.here hx rfl (hb hby d2_37) rfl) ?_
    show own_Ends p e below s₁ (mkF m 38 #[.val (.long q0), .second, .val (.int p1), .val (.int pk), .val (.int ((44 : Int32) + (((((q0.toUInt64 >>> (((8 : Int32) * pk) &&& 0x3f).toInt64.toUInt64).toInt64).toInt32) &&& (255 : Int32)) &&& (15 : Int32))))] [(.int ((8 : Int32) * pk)), (.long (((44 : Int32) + (((((q0.toUInt64 >>> (((8 : Int32) * pk) &&& 0x3f).toInt64.toUInt64).toInt64).toInt32) &&& (255 : Int32)) &&& (15 : Int32))).toInt64))]) _
    refine own_go (fun _ => XS.lshl X0.here hx rfl (hb hby d2_38) rfl) ?_
    show own_Ends p e below s₁ (mkF m 39 #[.val (.long q0), .second, .val (.int p1), .val (.int pk), .val (.int ((44 : Int32) + (((((q0.toUInt64 >>> (((8 : Int32) * pk) &&& 0x3f).toInt64.toUInt64).toInt64).toInt32) &&& (255 : Int32)) &&& (15 : Int32))))] [(.long ((((44 : Int32) + (((((q0.toUInt64 >>> (((8 : Int32) * pk) &&& 0x3f).toInt64.toUInt64).toInt64).toInt32) &&& (255 : Int32)) &&& (15 : Int32))).toInt64) <<< (((8 : Int32) * pk) &&& 0x3f).toInt64))]) _
    obtain ⟨fs, hr, hrun, hended, hW, hsame⟩ := X0.leave (v := some (.long ((((44 : Int32) + (((((q0.toUInt64 >>> (((8 : Int32) * pk) &&& 0x3f).toInt64.toUInt64).toInt64).toInt32) &&& (255 : Int32)) &&& (15 : Int32))).toInt64) <<< (((8 : Int32) * pk) &&& 0x3f).toInt64))) (fun h => by rw [Bd.returns] at h; cases h)
    refine ⟨_, _, retOut X0 hx Bd.returns rfl (Or.inr (Or.inl ⟨rfl, rfl, _, rfl⟩)) (hb hby d2_39) hr, hrun, hended, _, _, rfl, ?_, ⟨_, rfl⟩, hW, hsame.mono (by decide) (by decide)⟩
    show Q_rmAt Z q0 p1 pk k h0 n0 _ s₁.heap _
    rw [e0]
    exact ⟨_, rfl, own_mv _ pk k hp hk (own_r2 _), N0, rfl⟩
theorem d3_0 : decode method_5_code 0 = .ok (.lload_n 0, 1) := by decide +kernel
theorem d3_1 : decode method_5_code 1 = .ok (.bipush 8, 2) := by decide +kernel
theorem d3_3 : decode method_5_code 3 = .ok (.iload 4, 2) := by decide +kernel
theorem d3_5 : decode method_5_code 5 = .ok (.imul, 1) := by decide +kernel
theorem d3_6 : decode method_5_code 6 = .ok (.lushr, 1) := by decide +kernel
theorem d3_7 : decode method_5_code 7 = .ok (.l2i, 1) := by decide +kernel
theorem d3_8 : decode method_5_code 8 = .ok (.sipush 255, 3) := by decide +kernel
theorem d3_11 : decode method_5_code 11 = .ok (.iand, 1) := by decide +kernel
theorem d3_12 : decode method_5_code 12 = .ok (.istore 5, 2) := by decide +kernel
theorem d3_14 : decode method_5_code 14 = .ok (.lload_n 2, 1) := by decide +kernel
theorem d3_15 : decode method_5_code 15 = .ok (.bipush 8, 2) := by decide +kernel
theorem d3_17 : decode method_5_code 17 = .ok (.iload 4, 2) := by decide +kernel
theorem d3_19 : decode method_5_code 19 = .ok (.imul, 1) := by decide +kernel
theorem d3_20 : decode method_5_code 20 = .ok (.lushr, 1) := by decide +kernel
theorem d3_21 : decode method_5_code 21 = .ok (.ldc2_w 27, 3) := by decide +kernel
theorem d3_24 : decode method_5_code 24 = .ok (.land, 1) := by decide +kernel
theorem d3_25 : decode method_5_code 25 = .ok (.lconst 0, 1) := by decide +kernel
theorem d3_26 : decode method_5_code 26 = .ok (.lcmp, 1) := by decide +kernel
theorem d3_27 : decode method_5_code 27 = .ok (.ifCond .eq 7, 3) := by decide +kernel
theorem d3_30 : decode method_5_code 30 = .ok (.iconst 1, 1) := by decide +kernel
theorem d3_31 : decode method_5_code 31 = .ok (.goto 4, 3) := by decide +kernel
theorem d3_34 : decode method_5_code 34 = .ok (.iconst 0, 1) := by decide +kernel
theorem d3_35 : decode method_5_code 35 = .ok (.istore 6, 2) := by decide +kernel
theorem d3_37 : decode method_5_code 37 = .ok (.iload 6, 2) := by decide +kernel
theorem d3_39 : decode method_5_code 39 = .ok (.ifCond .eq 17, 3) := by decide +kernel
theorem d3_42 : decode method_5_code 42 = .ok (.iload 5, 2) := by decide +kernel
theorem d3_44 : decode method_5_code 44 = .ok (.bipush 48, 2) := by decide +kernel
theorem d3_46 : decode method_5_code 46 = .ok (.if_icmp .lt 14, 3) := by decide +kernel
theorem d3_49 : decode method_5_code 49 = .ok (.iload 5, 2) := by decide +kernel
theorem d3_51 : decode method_5_code 51 = .ok (.bipush 57, 2) := by decide +kernel
theorem d3_53 : decode method_5_code 53 = .ok (.if_icmp .gt 7, 3) := by decide +kernel
theorem d3_56 : decode method_5_code 56 = .ok (.iconst 1, 1) := by decide +kernel
theorem d3_57 : decode method_5_code 57 = .ok (.goto 4, 3) := by decide +kernel
theorem d3_60 : decode method_5_code 60 = .ok (.iconst 0, 1) := by decide +kernel
theorem d3_61 : decode method_5_code 61 = .ok (.ireturn, 1) := by decide +kernel
theorem pn_3 : plainName "com/example/excedent/excedent/io/EightBytesDigitsPinLaw" = true := by first | (simp [plainName, overriddenIn]; done) | decide +kernel
theorem ef_3 (m : MethodId) (x : Int64) (b : Int64) (pk : Int32) : entryFrame m #[(.long x), (.long b), (.int pk)] 7 = mkF m 0 #[.val (.long x), .second, .val (.long b), .second, .val (.int pk), .unset, .unset] [] := by first | (simp [entryFrame, mkF, argsToLocals, Value.category]; done) | rfl
def Q_rmOk (Z : State) (x : Int64) (b : Int64) (pk : Int32) (h0 : Heap) (n0 : Nat) (v : Option Value) (h : Heap) (L : List Loc) : Prop := ∃ z_ : Int32, v = some (.int z_) ∧ z_ = own_ok x b pk ∧ Fr n0 L ∧ h = h0
set_option maxRecDepth 65536 in
set_option maxHeartbeats 40000000 in
theorem rmOk (l : Launch) (Z : State) (a0 : Array Value) (hw : ∀ d ∈ tables_1, d.before a0 Z = true) (ws : List Jvm.Cond) (x : Int64) (b : Int64) (pk : Int32) (h0 : Heap) (n0 : Nat) (Z0 : n0 ≤ h0.size) :
    MetFree l (⟨"com/example/excedent/excedent/io/EightBytesDigitsPinLaw", "ok", "(JJI)Z"⟩ : MethodName) (head1 (Jvm.Cond.code (⟨"com/example/excedent/excedent/io/EightBytesDigitsPinLaw", "ok", "(JJI)Z"⟩ : MethodName) method_5_code 7 (some .boolean) :: ws) ({ frames := 0, cells := 0, slots := 0, locals := 0 } : Room)) (fun aa U => aa = #[(.long x), (.long b), (.int pk)] ∧ Z.Warmed39 U.vm ∧ U.heap = h0) (fun _ _ _ _ _ => True) (fun _ U ou U' => ∃ v L, ou = .returned v ∧ Q_rmOk Z x b pk h0 n0 v U'.heap L ∧ FrameEnd U ou U' L ({ frames := 0, cells := 0, slots := 0, locals := 0 } : Room).cells ({ frames := 0, cells := 0, slots := 0, locals := 0 } : Room).slots) := by
  refine MetFree.of_bodySF (plainFor_of_name pn_3) hisR ?_
  intro p e s m args below meth c s₁ Bd hml0 hP hK
  obtain ⟨rfl, hZ, hh⟩ := hP
  have hx := Bd.exec
  have hby := Bd.bytes
  have hml : c.maxLocals = 7 := hml0
  have hown : s.vm.findClass "com/example/excedent/excedent/io/EightBytesDigitsPinLaw" = some m.cls := findClass_of_methodNamed Bd.named
  have hnm := (name_of_methodNamed Bd.named Bd.method).1
  have X0 : Stand p l e ({ frames := 0, cells := 0, slots := 0, locals := 0 } : Room) s m #[(.long x), (.long b), (.int pk)] below meth c s₁ [] 0 0 := Stand.of_body Bd
  have e0 : s₁.heap = h0 := by rw [← hh, Bd.state]; rfl
  have N0 := Fr.nil n0
  have K0 := Keep.refl h0 []
  refine own_as (ef_3 m x b pk) ?_
  show own_Ends p e below s₁ (mkF m 0 #[.val (.long x), .second, .val (.long b), .second, .val (.int pk), .unset, .unset] []) _
  refine own_go (fun _ => XS.lloadN X0.here hx rfl (hb hby d3_0) rfl) ?_
  show own_Ends p e below s₁ (mkF m 1 #[.val (.long x), .second, .val (.long b), .second, .val (.int pk), .unset, .unset] [(.long x)]) _
  refine own_go (fun _ => XS.bipush X0.here hx rfl (hb hby d3_1)) ?_
  show own_Ends p e below s₁ (mkF m 3 #[.val (.long x), .second, .val (.long b), .second, .val (.int pk), .unset, .unset] [(.int (8 : Int32)), (.long x)]) _
  refine own_go (fun _ => XS.iload X0.here hx rfl (hb hby d3_3) rfl) ?_
  show own_Ends p e below s₁ (mkF m 5 #[.val (.long x), .second, .val (.long b), .second, .val (.int pk), .unset, .unset] [(.int pk), (.int (8 : Int32)), (.long x)]) _
  refine own_go (fun _ => XS.imul X0.here hx rfl (hb hby d3_5) rfl) ?_
  show own_Ends p e below s₁ (mkF m 6 #[.val (.long x), .second, .val (.long b), .second, .val (.int pk), .unset, .unset] [(.int ((8 : Int32) * pk)), (.long x)]) _
  refine own_go (fun _ => XS.lushr X0.here hx rfl (hb hby d3_6) rfl) ?_
  show own_Ends p e below s₁ (mkF m 7 #[.val (.long x), .second, .val (.long b), .second, .val (.int pk), .unset, .unset] [(.long ((x.toUInt64 >>> (((8 : Int32) * pk) &&& 0x3f).toInt64.toUInt64).toInt64))]) _
  refine own_go (fun _ => XS.l2i X0.here hx rfl (hb hby d3_7) rfl) ?_
  show own_Ends p e below s₁ (mkF m 8 #[.val (.long x), .second, .val (.long b), .second, .val (.int pk), .unset, .unset] [(.int (((x.toUInt64 >>> (((8 : Int32) * pk) &&& 0x3f).toInt64.toUInt64).toInt64).toInt32))]) _
  refine own_go (fun _ => XS.sipush X0.here hx rfl (hb hby d3_8)) ?_
  show own_Ends p e below s₁ (mkF m 11 #[.val (.long x), .second, .val (.long b), .second, .val (.int pk), .unset, .unset] [(.int (255 : Int32)), (.int (((x.toUInt64 >>> (((8 : Int32) * pk) &&& 0x3f).toInt64.toUInt64).toInt64).toInt32))]) _
  refine own_go (fun _ => XS.iand X0.here hx rfl (hb hby d3_11) rfl) ?_
  show own_Ends p e below s₁ (mkF m 12 #[.val (.long x), .second, .val (.long b), .second, .val (.int pk), .unset, .unset] [(.int ((((x.toUInt64 >>> (((8 : Int32) * pk) &&& 0x3f).toInt64.toUInt64).toInt64).toInt32) &&& (255 : Int32)))]) _
  refine own_go (fun _ => XS.istore X0.here hx rfl (hb hby d3_12) rfl (l' := #[.val (.long x), .second, .val (.long b), .second, .val (.int pk), .val (.int ((((x.toUInt64 >>> (((8 : Int32) * pk) &&& 0x3f).toInt64.toUInt64).toInt64).toInt32) &&& (255 : Int32))), .unset]) rfl) ?_
  show own_Ends p e below s₁ (mkF m 14 #[.val (.long x), .second, .val (.long b), .second, .val (.int pk), .val (.int ((((x.toUInt64 >>> (((8 : Int32) * pk) &&& 0x3f).toInt64.toUInt64).toInt64).toInt32) &&& (255 : Int32))), .unset] []) _
  refine own_go (fun _ => XS.lloadN X0.here hx rfl (hb hby d3_14) rfl) ?_
  show own_Ends p e below s₁ (mkF m 15 #[.val (.long x), .second, .val (.long b), .second, .val (.int pk), .val (.int ((((x.toUInt64 >>> (((8 : Int32) * pk) &&& 0x3f).toInt64.toUInt64).toInt64).toInt32) &&& (255 : Int32))), .unset] [(.long b)]) _
  refine own_go (fun _ => XS.bipush X0.here hx rfl (hb hby d3_15)) ?_
  show own_Ends p e below s₁ (mkF m 17 #[.val (.long x), .second, .val (.long b), .second, .val (.int pk), .val (.int ((((x.toUInt64 >>> (((8 : Int32) * pk) &&& 0x3f).toInt64.toUInt64).toInt64).toInt32) &&& (255 : Int32))), .unset] [(.int (8 : Int32)), (.long b)]) _
  refine own_go (fun _ => XS.iload X0.here hx rfl (hb hby d3_17) rfl) ?_
  show own_Ends p e below s₁ (mkF m 19 #[.val (.long x), .second, .val (.long b), .second, .val (.int pk), .val (.int ((((x.toUInt64 >>> (((8 : Int32) * pk) &&& 0x3f).toInt64.toUInt64).toInt64).toInt32) &&& (255 : Int32))), .unset] [(.int pk), (.int (8 : Int32)), (.long b)]) _
  refine own_go (fun _ => XS.imul X0.here hx rfl (hb hby d3_19) rfl) ?_
  show own_Ends p e below s₁ (mkF m 20 #[.val (.long x), .second, .val (.long b), .second, .val (.int pk), .val (.int ((((x.toUInt64 >>> (((8 : Int32) * pk) &&& 0x3f).toInt64.toUInt64).toInt64).toInt32) &&& (255 : Int32))), .unset] [(.int ((8 : Int32) * pk)), (.long b)]) _
  refine own_go (fun _ => XS.lushr X0.here hx rfl (hb hby d3_20) rfl) ?_
  show own_Ends p e below s₁ (mkF m 21 #[.val (.long x), .second, .val (.long b), .second, .val (.int pk), .val (.int ((((x.toUInt64 >>> (((8 : Int32) * pk) &&& 0x3f).toInt64.toUInt64).toInt64).toInt32) &&& (255 : Int32))), .unset] [(.long ((b.toUInt64 >>> (((8 : Int32) * pk) &&& 0x3f).toInt64.toUInt64).toInt64))]) _
  refine own_go (X0.ldc2Long hx hown (mvT hZ (hw _ (List.mem_of_getElem? (i := 4) rfl))) (g := (mkF m 21 #[.val (.long x), .second, .val (.long b), .second, .val (.int pk), .val (.int ((((x.toUInt64 >>> (((8 : Int32) * pk) &&& 0x3f).toInt64.toUInt64).toInt64).toInt32) &&& (255 : Int32))), .unset] [(.long ((b.toUInt64 >>> (((8 : Int32) * pk) &&& 0x3f).toInt64.toUInt64).toInt64))])) rfl (hb hby d3_21)) ?_
  show own_Ends p e below s₁ (mkF m 24 #[.val (.long x), .second, .val (.long b), .second, .val (.int pk), .val (.int ((((x.toUInt64 >>> (((8 : Int32) * pk) &&& 0x3f).toInt64.toUInt64).toInt64).toInt32) &&& (255 : Int32))), .unset] [(.long (255 : Int64)), (.long ((b.toUInt64 >>> (((8 : Int32) * pk) &&& 0x3f).toInt64.toUInt64).toInt64))]) _
  refine own_go (fun _ => XS.land X0.here hx rfl (hb hby d3_24) rfl) ?_
  show own_Ends p e below s₁ (mkF m 25 #[.val (.long x), .second, .val (.long b), .second, .val (.int pk), .val (.int ((((x.toUInt64 >>> (((8 : Int32) * pk) &&& 0x3f).toInt64.toUInt64).toInt64).toInt32) &&& (255 : Int32))), .unset] [(.long (((b.toUInt64 >>> (((8 : Int32) * pk) &&& 0x3f).toInt64.toUInt64).toInt64) &&& (255 : Int64)))]) _
  refine own_go (fun _ => XS.lconst X0.here hx rfl (hb hby d3_25)) ?_
  show own_Ends p e below s₁ (mkF m 26 #[.val (.long x), .second, .val (.long b), .second, .val (.int pk), .val (.int ((((x.toUInt64 >>> (((8 : Int32) * pk) &&& 0x3f).toInt64.toUInt64).toInt64).toInt32) &&& (255 : Int32))), .unset] [(.long (0 : Int64)), (.long (((b.toUInt64 >>> (((8 : Int32) * pk) &&& 0x3f).toInt64.toUInt64).toInt64) &&& (255 : Int64)))]) _
  refine own_go (fun _ => XS.lcmp X0.here hx rfl (hb hby d3_26) rfl) ?_
  show own_Ends p e below s₁ (mkF m 27 #[.val (.long x), .second, .val (.long b), .second, .val (.int pk), .val (.int ((((x.toUInt64 >>> (((8 : Int32) * pk) &&& 0x3f).toInt64.toUInt64).toInt64).toInt32) &&& (255 : Int32))), .unset] [(.int (lcmpW (((b.toUInt64 >>> (((8 : Int32) * pk) &&& 0x3f).toInt64.toUInt64).toInt64) &&& (255 : Int64)) (0 : Int64)))]) _
  by_cases hc27 : (((b.toUInt64 >>> (((8 : Int32) * pk) &&& 0x3f).toInt64.toUInt64).toInt64) &&& (255 : Int64)) = (0 : Int64)
  · refine own_go (fun _ => XS.ifYes X0.here hx rfl (pc0 := 27) (pc' := 34) rfl (hb hby d3_27) rfl ((if0 _ _).trans (teq ((lw_eq (((b.toUInt64 >>> (((8 : Int32) * pk) &&& 0x3f).toInt64.toUInt64).toInt64) &&& (255 : Int64)) (0 : Int64)).mpr hc27)).1) (by decide) (by decide)) ?_
    show own_Ends p e below s₁ (mkF m 34 #[.val (.long x), .second, .val (.long b), .second, .val (.int pk), .val (.int ((((x.toUInt64 >>> (((8 : Int32) * pk) &&& 0x3f).toInt64.toUInt64).toInt64).toInt32) &&& (255 : Int32))), .unset] []) _
    refine own_go (fun _ => XS.iconst X0.here hx rfl (hb hby d3_34)) ?_
    show own_Ends p e below s₁ (mkF m 35 #[.val (.long x), .second, .val (.long b), .second, .val (.int pk), .val (.int ((((x.toUInt64 >>> (((8 : Int32) * pk) &&& 0x3f).toInt64.toUInt64).toInt64).toInt32) &&& (255 : Int32))), .unset] [(.int (0 : Int32))]) _
    refine own_go (fun _ => XS.istore X0.here hx rfl (hb hby d3_35) rfl (l' := #[.val (.long x), .second, .val (.long b), .second, .val (.int pk), .val (.int ((((x.toUInt64 >>> (((8 : Int32) * pk) &&& 0x3f).toInt64.toUInt64).toInt64).toInt32) &&& (255 : Int32))), .val (.int (0 : Int32))]) rfl) ?_
    show own_Ends p e below s₁ (mkF m 37 #[.val (.long x), .second, .val (.long b), .second, .val (.int pk), .val (.int ((((x.toUInt64 >>> (((8 : Int32) * pk) &&& 0x3f).toInt64.toUInt64).toInt64).toInt32) &&& (255 : Int32))), .val (.int (0 : Int32))] []) _
    refine own_go (fun _ => XS.iload X0.here hx rfl (hb hby d3_37) rfl) ?_
    show own_Ends p e below s₁ (mkF m 39 #[.val (.long x), .second, .val (.long b), .second, .val (.int pk), .val (.int ((((x.toUInt64 >>> (((8 : Int32) * pk) &&& 0x3f).toInt64.toUInt64).toInt64).toInt32) &&& (255 : Int32))), .val (.int (0 : Int32))] [(.int (0 : Int32))]) _
    refine own_go (fun _ => XS.ifYes X0.here hx rfl (pc0 := 39) (pc' := 56) rfl (hb hby d3_39) rfl ((if0 _ _).trans (teq (show (0 : Int32) = (0 : Int32) from by decide)).1) (by decide) (by decide)) ?_
    show own_Ends p e below s₁ (mkF m 56 #[.val (.long x), .second, .val (.long b), .second, .val (.int pk), .val (.int ((((x.toUInt64 >>> (((8 : Int32) * pk) &&& 0x3f).toInt64.toUInt64).toInt64).toInt32) &&& (255 : Int32))), .val (.int (0 : Int32))] []) _
    refine own_go (fun _ => XS.iconst X0.here hx rfl (hb hby d3_56)) ?_
    show own_Ends p e below s₁ (mkF m 57 #[.val (.long x), .second, .val (.long b), .second, .val (.int pk), .val (.int ((((x.toUInt64 >>> (((8 : Int32) * pk) &&& 0x3f).toInt64.toUInt64).toInt64).toInt32) &&& (255 : Int32))), .val (.int (0 : Int32))] [(.int (1 : Int32))]) _
    refine own_go (fun _ => XS.goto X0.here hx rfl (pc0 := 57) (pc' := 61) rfl (hb hby d3_57) (by decide) (by decide)) ?_
    show own_Ends p e below s₁ (mkF m 61 #[.val (.long x), .second, .val (.long b), .second, .val (.int pk), .val (.int ((((x.toUInt64 >>> (((8 : Int32) * pk) &&& 0x3f).toInt64.toUInt64).toInt64).toInt32) &&& (255 : Int32))), .val (.int (0 : Int32))] [(.int (1 : Int32))]) _
    obtain ⟨fs, hr, hrun, hended, hW, hsame⟩ := X0.leave (v := some (.int (1 : Int32))) (fun h => by rw [Bd.returns] at h; cases h)
    refine ⟨_, _, retN X0 hx (t := .boolean) Bd.returns (by simp) (hb hby d3_61) hr, hrun, hended, _, _, rfl, ?_, ⟨_, rfl⟩, hW, hsame.mono (by decide) (by decide)⟩
    show Q_rmOk Z x b pk h0 n0 _ s₁.heap _
    rw [e0]
    exact ⟨_, rfl, by unfold own_ok; rw [if_pos hc27], N0, rfl⟩
  · refine own_go (fun _ => XS.ifNo X0.here hx rfl (hb hby d3_27) rfl ((if0 _ _).trans (feq (fun qq_ => hc27 ((lw_eq (((b.toUInt64 >>> (((8 : Int32) * pk) &&& 0x3f).toInt64.toUInt64).toInt64) &&& (255 : Int64)) (0 : Int64)).mp qq_))).1)) ?_
    show own_Ends p e below s₁ (mkF m 30 #[.val (.long x), .second, .val (.long b), .second, .val (.int pk), .val (.int ((((x.toUInt64 >>> (((8 : Int32) * pk) &&& 0x3f).toInt64.toUInt64).toInt64).toInt32) &&& (255 : Int32))), .unset] []) _
    refine own_go (fun _ => XS.iconst X0.here hx rfl (hb hby d3_30)) ?_
    show own_Ends p e below s₁ (mkF m 31 #[.val (.long x), .second, .val (.long b), .second, .val (.int pk), .val (.int ((((x.toUInt64 >>> (((8 : Int32) * pk) &&& 0x3f).toInt64.toUInt64).toInt64).toInt32) &&& (255 : Int32))), .unset] [(.int (1 : Int32))]) _
    refine own_go (fun _ => XS.goto X0.here hx rfl (pc0 := 31) (pc' := 35) rfl (hb hby d3_31) (by decide) (by decide)) ?_
    show own_Ends p e below s₁ (mkF m 35 #[.val (.long x), .second, .val (.long b), .second, .val (.int pk), .val (.int ((((x.toUInt64 >>> (((8 : Int32) * pk) &&& 0x3f).toInt64.toUInt64).toInt64).toInt32) &&& (255 : Int32))), .unset] [(.int (1 : Int32))]) _
    refine own_go (fun _ => XS.istore X0.here hx rfl (hb hby d3_35) rfl (l' := #[.val (.long x), .second, .val (.long b), .second, .val (.int pk), .val (.int ((((x.toUInt64 >>> (((8 : Int32) * pk) &&& 0x3f).toInt64.toUInt64).toInt64).toInt32) &&& (255 : Int32))), .val (.int (1 : Int32))]) rfl) ?_
    show own_Ends p e below s₁ (mkF m 37 #[.val (.long x), .second, .val (.long b), .second, .val (.int pk), .val (.int ((((x.toUInt64 >>> (((8 : Int32) * pk) &&& 0x3f).toInt64.toUInt64).toInt64).toInt32) &&& (255 : Int32))), .val (.int (1 : Int32))] []) _
    refine own_go (fun _ => XS.iload X0.here hx rfl (hb hby d3_37) rfl) ?_
    show own_Ends p e below s₁ (mkF m 39 #[.val (.long x), .second, .val (.long b), .second, .val (.int pk), .val (.int ((((x.toUInt64 >>> (((8 : Int32) * pk) &&& 0x3f).toInt64.toUInt64).toInt64).toInt32) &&& (255 : Int32))), .val (.int (1 : Int32))] [(.int (1 : Int32))]) _
    refine own_go (fun _ => XS.ifNo X0.here hx rfl (hb hby d3_39) rfl ((if0 _ _).trans (feq (show ¬ ((1 : Int32) = (0 : Int32)) from by decide)).1)) ?_
    show own_Ends p e below s₁ (mkF m 42 #[.val (.long x), .second, .val (.long b), .second, .val (.int pk), .val (.int ((((x.toUInt64 >>> (((8 : Int32) * pk) &&& 0x3f).toInt64.toUInt64).toInt64).toInt32) &&& (255 : Int32))), .val (.int (1 : Int32))] []) _
    refine own_go (fun _ => XS.iload X0.here hx rfl (hb hby d3_42) rfl) ?_
    show own_Ends p e below s₁ (mkF m 44 #[.val (.long x), .second, .val (.long b), .second, .val (.int pk), .val (.int ((((x.toUInt64 >>> (((8 : Int32) * pk) &&& 0x3f).toInt64.toUInt64).toInt64).toInt32) &&& (255 : Int32))), .val (.int (1 : Int32))] [(.int ((((x.toUInt64 >>> (((8 : Int32) * pk) &&& 0x3f).toInt64.toUInt64).toInt64).toInt32) &&& (255 : Int32)))]) _
    refine own_go (fun _ => XS.bipush X0.here hx rfl (hb hby d3_44)) ?_
    show own_Ends p e below s₁ (mkF m 46 #[.val (.long x), .second, .val (.long b), .second, .val (.int pk), .val (.int ((((x.toUInt64 >>> (((8 : Int32) * pk) &&& 0x3f).toInt64.toUInt64).toInt64).toInt32) &&& (255 : Int32))), .val (.int (1 : Int32))] [(.int (48 : Int32)), (.int ((((x.toUInt64 >>> (((8 : Int32) * pk) &&& 0x3f).toInt64.toUInt64).toInt64).toInt32) &&& (255 : Int32)))]) _
    by_cases hc46 : ((((x.toUInt64 >>> (((8 : Int32) * pk) &&& 0x3f).toInt64.toUInt64).toInt64).toInt32) &&& (255 : Int32)) < (48 : Int32)
    · refine own_go (fun _ => XS.icmpYes X0.here hx rfl (pc0 := 46) (pc' := 60) rfl (hb hby d3_46) rfl (tlt hc46).1 (by decide) (by decide)) ?_
      show own_Ends p e below s₁ (mkF m 60 #[.val (.long x), .second, .val (.long b), .second, .val (.int pk), .val (.int ((((x.toUInt64 >>> (((8 : Int32) * pk) &&& 0x3f).toInt64.toUInt64).toInt64).toInt32) &&& (255 : Int32))), .val (.int (1 : Int32))] []) _
      refine own_go (fun _ => XS.iconst X0.here hx rfl (hb hby d3_60)) ?_
      show own_Ends p e below s₁ (mkF m 61 #[.val (.long x), .second, .val (.long b), .second, .val (.int pk), .val (.int ((((x.toUInt64 >>> (((8 : Int32) * pk) &&& 0x3f).toInt64.toUInt64).toInt64).toInt32) &&& (255 : Int32))), .val (.int (1 : Int32))] [(.int (0 : Int32))]) _
      obtain ⟨fs, hr, hrun, hended, hW, hsame⟩ := X0.leave (v := some (.int (0 : Int32))) (fun h => by rw [Bd.returns] at h; cases h)
      refine ⟨_, _, retN X0 hx (t := .boolean) Bd.returns (by simp) (hb hby d3_61) hr, hrun, hended, _, _, rfl, ?_, ⟨_, rfl⟩, hW, hsame.mono (by decide) (by decide)⟩
      show Q_rmOk Z x b pk h0 n0 _ s₁.heap _
      rw [e0]
      exact ⟨_, rfl, by unfold own_ok; rw [if_neg hc27, if_pos hc46], N0, rfl⟩
    · refine own_go (fun _ => XS.icmpNo X0.here hx rfl (hb hby d3_46) rfl (flt hc46).1) ?_
      show own_Ends p e below s₁ (mkF m 49 #[.val (.long x), .second, .val (.long b), .second, .val (.int pk), .val (.int ((((x.toUInt64 >>> (((8 : Int32) * pk) &&& 0x3f).toInt64.toUInt64).toInt64).toInt32) &&& (255 : Int32))), .val (.int (1 : Int32))] []) _
      refine own_go (fun _ => XS.iload X0.here hx rfl (hb hby d3_49) rfl) ?_
      show own_Ends p e below s₁ (mkF m 51 #[.val (.long x), .second, .val (.long b), .second, .val (.int pk), .val (.int ((((x.toUInt64 >>> (((8 : Int32) * pk) &&& 0x3f).toInt64.toUInt64).toInt64).toInt32) &&& (255 : Int32))), .val (.int (1 : Int32))] [(.int ((((x.toUInt64 >>> (((8 : Int32) * pk) &&& 0x3f).toInt64.toUInt64).toInt64).toInt32) &&& (255 : Int32)))]) _
      refine own_go (fun _ => XS.bipush X0.here hx rfl (hb hby d3_51)) ?_
      show own_Ends p e below s₁ (mkF m 53 #[.val (.long x), .second, .val (.long b), .second, .val (.int pk), .val (.int ((((x.toUInt64 >>> (((8 : Int32) * pk) &&& 0x3f).toInt64.toUInt64).toInt64).toInt32) &&& (255 : Int32))), .val (.int (1 : Int32))] [(.int (57 : Int32)), (.int ((((x.toUInt64 >>> (((8 : Int32) * pk) &&& 0x3f).toInt64.toUInt64).toInt64).toInt32) &&& (255 : Int32)))]) _
      by_cases hc53 : (57 : Int32) < ((((x.toUInt64 >>> (((8 : Int32) * pk) &&& 0x3f).toInt64.toUInt64).toInt64).toInt32) &&& (255 : Int32))
      · refine own_go (fun _ => XS.icmpYes X0.here hx rfl (pc0 := 53) (pc' := 60) rfl (hb hby d3_53) rfl (tlt hc53).2.2.1 (by decide) (by decide)) ?_
        show own_Ends p e below s₁ (mkF m 60 #[.val (.long x), .second, .val (.long b), .second, .val (.int pk), .val (.int ((((x.toUInt64 >>> (((8 : Int32) * pk) &&& 0x3f).toInt64.toUInt64).toInt64).toInt32) &&& (255 : Int32))), .val (.int (1 : Int32))] []) _
        refine own_go (fun _ => XS.iconst X0.here hx rfl (hb hby d3_60)) ?_
        show own_Ends p e below s₁ (mkF m 61 #[.val (.long x), .second, .val (.long b), .second, .val (.int pk), .val (.int ((((x.toUInt64 >>> (((8 : Int32) * pk) &&& 0x3f).toInt64.toUInt64).toInt64).toInt32) &&& (255 : Int32))), .val (.int (1 : Int32))] [(.int (0 : Int32))]) _
        obtain ⟨fs, hr, hrun, hended, hW, hsame⟩ := X0.leave (v := some (.int (0 : Int32))) (fun h => by rw [Bd.returns] at h; cases h)
        refine ⟨_, _, retN X0 hx (t := .boolean) Bd.returns (by simp) (hb hby d3_61) hr, hrun, hended, _, _, rfl, ?_, ⟨_, rfl⟩, hW, hsame.mono (by decide) (by decide)⟩
        show Q_rmOk Z x b pk h0 n0 _ s₁.heap _
        rw [e0]
        exact ⟨_, rfl, by unfold own_ok; rw [if_neg hc27, if_neg hc46, if_pos hc53], N0, rfl⟩
      · refine own_go (fun _ => XS.icmpNo X0.here hx rfl (hb hby d3_53) rfl (flt hc53).2.2.1) ?_
        show own_Ends p e below s₁ (mkF m 56 #[.val (.long x), .second, .val (.long b), .second, .val (.int pk), .val (.int ((((x.toUInt64 >>> (((8 : Int32) * pk) &&& 0x3f).toInt64.toUInt64).toInt64).toInt32) &&& (255 : Int32))), .val (.int (1 : Int32))] []) _
        refine own_go (fun _ => XS.iconst X0.here hx rfl (hb hby d3_56)) ?_
        show own_Ends p e below s₁ (mkF m 57 #[.val (.long x), .second, .val (.long b), .second, .val (.int pk), .val (.int ((((x.toUInt64 >>> (((8 : Int32) * pk) &&& 0x3f).toInt64.toUInt64).toInt64).toInt32) &&& (255 : Int32))), .val (.int (1 : Int32))] [(.int (1 : Int32))]) _
        refine own_go (fun _ => XS.goto X0.here hx rfl (pc0 := 57) (pc' := 61) rfl (hb hby d3_57) (by decide) (by decide)) ?_
        show own_Ends p e below s₁ (mkF m 61 #[.val (.long x), .second, .val (.long b), .second, .val (.int pk), .val (.int ((((x.toUInt64 >>> (((8 : Int32) * pk) &&& 0x3f).toInt64.toUInt64).toInt64).toInt32) &&& (255 : Int32))), .val (.int (1 : Int32))] [(.int (1 : Int32))]) _
        obtain ⟨fs, hr, hrun, hended, hW, hsame⟩ := X0.leave (v := some (.int (1 : Int32))) (fun h => by rw [Bd.returns] at h; cases h)
        refine ⟨_, _, retN X0 hx (t := .boolean) Bd.returns (by simp) (hb hby d3_61) hr, hrun, hended, _, _, rfl, ?_, ⟨_, rfl⟩, hW, hsame.mono (by decide) (by decide)⟩
        show Q_rmOk Z x b pk h0 n0 _ s₁.heap _
        rw [e0]
        exact ⟨_, rfl, by unfold own_ok; rw [if_neg hc27, if_neg hc46, if_neg hc53], N0, rfl⟩
theorem d4_0 : decode prog_53_method_6_code 0 = .ok (.ldc2_w 46, 3) := by decide +kernel
theorem d4_3 : decode prog_53_method_6_code 3 = .ok (.lload_n 2, 1) := by decide +kernel
theorem d4_4 : decode prog_53_method_6_code 4 = .ok (.land, 1) := by decide +kernel
theorem d4_5 : decode prog_53_method_6_code 5 = .ok (.lstore 4, 2) := by decide +kernel
theorem d4_7 : decode prog_53_method_6_code 7 = .ok (.lload_n 0, 1) := by decide +kernel
theorem d4_8 : decode prog_53_method_6_code 8 = .ok (.ldc2_w 48, 3) := by decide +kernel
theorem d4_11 : decode prog_53_method_6_code 11 = .ok (.land, 1) := by decide +kernel
theorem d4_12 : decode prog_53_method_6_code 12 = .ok (.lload 4, 2) := by decide +kernel
theorem d4_14 : decode prog_53_method_6_code 14 = .ok (.lcmp, 1) := by decide +kernel
theorem d4_15 : decode prog_53_method_6_code 15 = .ok (.ifCond .ne 24, 3) := by decide +kernel
theorem d4_18 : decode prog_53_method_6_code 18 = .ok (.lload_n 0, 1) := by decide +kernel
theorem d4_19 : decode prog_53_method_6_code 19 = .ok (.ldc2_w 50, 3) := by decide +kernel
theorem d4_22 : decode prog_53_method_6_code 22 = .ok (.lload_n 2, 1) := by decide +kernel
theorem d4_23 : decode prog_53_method_6_code 23 = .ok (.land, 1) := by decide +kernel
theorem d4_24 : decode prog_53_method_6_code 24 = .ok (.ladd, 1) := by decide +kernel
theorem d4_25 : decode prog_53_method_6_code 25 = .ok (.ldc2_w 48, 3) := by decide +kernel
theorem d4_28 : decode prog_53_method_6_code 28 = .ok (.land, 1) := by decide +kernel
theorem d4_29 : decode prog_53_method_6_code 29 = .ok (.lload 4, 2) := by decide +kernel
theorem d4_31 : decode prog_53_method_6_code 31 = .ok (.lcmp, 1) := by decide +kernel
theorem d4_32 : decode prog_53_method_6_code 32 = .ok (.ifCond .ne 7, 3) := by decide +kernel
theorem d4_35 : decode prog_53_method_6_code 35 = .ok (.iconst 1, 1) := by decide +kernel
theorem d4_36 : decode prog_53_method_6_code 36 = .ok (.goto 4, 3) := by decide +kernel
theorem d4_39 : decode prog_53_method_6_code 39 = .ok (.iconst 0, 1) := by decide +kernel
theorem d4_40 : decode prog_53_method_6_code 40 = .ok (.ireturn, 1) := by decide +kernel
theorem pn_4 : plainName "com/example/excedent/excedent/io/EightBytes" = true := by first | (simp [plainName, overriddenIn]; done) | decide +kernel
theorem ef_4 (m : MethodId) (x : Int64) (b : Int64) : entryFrame m #[(.long x), (.long b)] 6 = mkF m 0 #[.val (.long x), .second, .val (.long b), .second, .unset, .unset] [] := by first | (simp [entryFrame, mkF, argsToLocals, Value.category]; done) | rfl
def Q_rmDg (Z : State) (x : Int64) (b : Int64) (h0 : Heap) (n0 : Nat) (v : Option Value) (h : Heap) (L : List Loc) : Prop := ∃ z_ : Int32, v = some (.int z_) ∧ z_ = own_dg x b ∧ Fr n0 L ∧ h = h0
set_option maxRecDepth 65536 in
set_option maxHeartbeats 40000000 in
theorem rmDg (l : Launch) (Z : State) (a0 : Array Value) (hw : ∀ d ∈ tables_1, d.before a0 Z = true) (ws : List Jvm.Cond) (x : Int64) (b : Int64) (h0 : Heap) (n0 : Nat) (Z0 : n0 ≤ h0.size) :
    MetFree l (⟨"com/example/excedent/excedent/io/EightBytes", "digits", "(JJ)Z"⟩ : MethodName) (head1 (Jvm.Cond.code (⟨"com/example/excedent/excedent/io/EightBytes", "digits", "(JJ)Z"⟩ : MethodName) prog_53_method_6_code 6 (some .boolean) :: ws) ({ frames := 0, cells := 0, slots := 0, locals := 0 } : Room)) (fun aa U => aa = #[(.long x), (.long b)] ∧ Z.Warmed39 U.vm ∧ U.heap = h0) (fun _ _ _ _ _ => True) (fun _ U ou U' => ∃ v L, ou = .returned v ∧ Q_rmDg Z x b h0 n0 v U'.heap L ∧ FrameEnd U ou U' L ({ frames := 0, cells := 0, slots := 0, locals := 0 } : Room).cells ({ frames := 0, cells := 0, slots := 0, locals := 0 } : Room).slots) := by
  refine MetFree.of_bodySF (plainFor_of_name pn_4) hisR ?_
  intro p e s m args below meth c s₁ Bd hml0 hP hK
  obtain ⟨rfl, hZ, hh⟩ := hP
  have hx := Bd.exec
  have hby := Bd.bytes
  have hml : c.maxLocals = 6 := hml0
  have hown : s.vm.findClass "com/example/excedent/excedent/io/EightBytes" = some m.cls := findClass_of_methodNamed Bd.named
  have hnm := (name_of_methodNamed Bd.named Bd.method).1
  have X0 : Stand p l e ({ frames := 0, cells := 0, slots := 0, locals := 0 } : Room) s m #[(.long x), (.long b)] below meth c s₁ [] 0 0 := Stand.of_body Bd
  have e0 : s₁.heap = h0 := by rw [← hh, Bd.state]; rfl
  have N0 := Fr.nil n0
  have K0 := Keep.refl h0 []
  refine own_as (ef_4 m x b) ?_
  show own_Ends p e below s₁ (mkF m 0 #[.val (.long x), .second, .val (.long b), .second, .unset, .unset] []) _
  refine own_go (X0.ldc2Long hx hown (mvT hZ (hw _ (List.mem_of_getElem? (i := 15) rfl))) (g := (mkF m 0 #[.val (.long x), .second, .val (.long b), .second, .unset, .unset] [])) rfl (hb hby d4_0)) ?_
  show own_Ends p e below s₁ (mkF m 3 #[.val (.long x), .second, .val (.long b), .second, .unset, .unset] [(.long (3472328296227680304 : Int64))]) _
  refine own_go (fun _ => XS.lloadN X0.here hx rfl (hb hby d4_3) rfl) ?_
  show own_Ends p e below s₁ (mkF m 4 #[.val (.long x), .second, .val (.long b), .second, .unset, .unset] [(.long b), (.long (3472328296227680304 : Int64))]) _
  refine own_go (fun _ => XS.land X0.here hx rfl (hb hby d4_4) rfl) ?_
  show own_Ends p e below s₁ (mkF m 5 #[.val (.long x), .second, .val (.long b), .second, .unset, .unset] [(.long ((3472328296227680304 : Int64) &&& b))]) _
  refine own_go (fun _ => XS.lstore X0.here hx rfl (hb hby d4_5) rfl (l' := #[.val (.long x), .second, .val (.long b), .second, .val (.long ((3472328296227680304 : Int64) &&& b)), .second]) rfl) ?_
  show own_Ends p e below s₁ (mkF m 7 #[.val (.long x), .second, .val (.long b), .second, .val (.long ((3472328296227680304 : Int64) &&& b)), .second] []) _
  refine own_go (fun _ => XS.lloadN X0.here hx rfl (hb hby d4_7) rfl) ?_
  show own_Ends p e below s₁ (mkF m 8 #[.val (.long x), .second, .val (.long b), .second, .val (.long ((3472328296227680304 : Int64) &&& b)), .second] [(.long x)]) _
  refine own_go (X0.ldc2Long hx hown (mvT hZ (hw _ (List.mem_of_getElem? (i := 16) rfl))) (g := (mkF m 8 #[.val (.long x), .second, .val (.long b), .second, .val (.long ((3472328296227680304 : Int64) &&& b)), .second] [(.long x)])) rfl (hb hby d4_8)) ?_
  show own_Ends p e below s₁ (mkF m 11 #[.val (.long x), .second, .val (.long b), .second, .val (.long ((3472328296227680304 : Int64) &&& b)), .second] [(.long (-1085102592571150096 : Int64)), (.long x)]) _
  refine own_go (fun _ => XS.land X0.here hx rfl (hb hby d4_11) rfl) ?_
  show own_Ends p e below s₁ (mkF m 12 #[.val (.long x), .second, .val (.long b), .second, .val (.long ((3472328296227680304 : Int64) &&& b)), .second] [(.long (x &&& (-1085102592571150096 : Int64)))]) _
  refine own_go (fun _ => XS.lload X0.here hx rfl (hb hby d4_12) rfl) ?_
  show own_Ends p e below s₁ (mkF m 14 #[.val (.long x), .second, .val (.long b), .second, .val (.long ((3472328296227680304 : Int64) &&& b)), .second] [(.long ((3472328296227680304 : Int64) &&& b)), (.long (x &&& (-1085102592571150096 : Int64)))]) _
  refine own_go (fun _ => XS.lcmp X0.here hx rfl (hb hby d4_14) rfl) ?_
  show own_Ends p e below s₁ (mkF m 15 #[.val (.long x), .second, .val (.long b), .second, .val (.long ((3472328296227680304 : Int64) &&& b)), .second] [(.int (lcmpW (x &&& (-1085102592571150096 : Int64)) ((3472328296227680304 : Int64) &&& b)))]) _
  by_cases hc15 : (x &&& (-1085102592571150096 : Int64)) = ((3472328296227680304 : Int64) &&& b)
  · refine own_go (fun _ => XS.ifNo X0.here hx rfl (hb hby d4_15) rfl ((if0 _ _).trans (teq ((lw_eq (x &&& (-1085102592571150096 : Int64)) ((3472328296227680304 : Int64) &&& b)).mpr hc15)).2)) ?_
    show own_Ends p e below s₁ (mkF m 18 #[.val (.long x), .second, .val (.long b), .second, .val (.long ((3472328296227680304 : Int64) &&& b)), .second] []) _
    refine own_go (fun _ => XS.lloadN X0.here hx rfl (hb hby d4_18) rfl) ?_
    show own_Ends p e below s₁ (mkF m 19 #[.val (.long x), .second, .val (.long b), .second, .val (.long ((3472328296227680304 : Int64) &&& b)), .second] [(.long x)]) _
    refine own_go (X0.ldc2Long hx hown (mvT hZ (hw _ (List.mem_of_getElem? (i := 17) rfl))) (g := (mkF m 19 #[.val (.long x), .second, .val (.long b), .second, .val (.long ((3472328296227680304 : Int64) &&& b)), .second] [(.long x)])) rfl (hb hby d4_19)) ?_
    show own_Ends p e below s₁ (mkF m 22 #[.val (.long x), .second, .val (.long b), .second, .val (.long ((3472328296227680304 : Int64) &&& b)), .second] [(.long (434041037028460038 : Int64)), (.long x)]) _
    refine own_go (fun _ => XS.lloadN X0.here hx rfl (hb hby d4_22) rfl) ?_
    show own_Ends p e below s₁ (mkF m 23 #[.val (.long x), .second, .val (.long b), .second, .val (.long ((3472328296227680304 : Int64) &&& b)), .second] [(.long b), (.long (434041037028460038 : Int64)), (.long x)]) _
    refine own_go (fun _ => XS.land X0.here hx rfl (hb hby d4_23) rfl) ?_
    show own_Ends p e below s₁ (mkF m 24 #[.val (.long x), .second, .val (.long b), .second, .val (.long ((3472328296227680304 : Int64) &&& b)), .second] [(.long ((434041037028460038 : Int64) &&& b)), (.long x)]) _
    refine own_go (fun _ => XS.ladd X0.here hx rfl (hb hby d4_24) rfl) ?_
    show own_Ends p e below s₁ (mkF m 25 #[.val (.long x), .second, .val (.long b), .second, .val (.long ((3472328296227680304 : Int64) &&& b)), .second] [(.long (x + ((434041037028460038 : Int64) &&& b)))]) _
    refine own_go (X0.ldc2Long hx hown (mvT hZ (hw _ (List.mem_of_getElem? (i := 16) rfl))) (g := (mkF m 25 #[.val (.long x), .second, .val (.long b), .second, .val (.long ((3472328296227680304 : Int64) &&& b)), .second] [(.long (x + ((434041037028460038 : Int64) &&& b)))])) rfl (hb hby d4_25)) ?_
    show own_Ends p e below s₁ (mkF m 28 #[.val (.long x), .second, .val (.long b), .second, .val (.long ((3472328296227680304 : Int64) &&& b)), .second] [(.long (-1085102592571150096 : Int64)), (.long (x + ((434041037028460038 : Int64) &&& b)))]) _
    refine own_go (fun _ => XS.land X0.here hx rfl (hb hby d4_28) rfl) ?_
    show own_Ends p e below s₁ (mkF m 29 #[.val (.long x), .second, .val (.long b), .second, .val (.long ((3472328296227680304 : Int64) &&& b)), .second] [(.long ((x + ((434041037028460038 : Int64) &&& b)) &&& (-1085102592571150096 : Int64)))]) _
    refine own_go (fun _ => XS.lload X0.here hx rfl (hb hby d4_29) rfl) ?_
    show own_Ends p e below s₁ (mkF m 31 #[.val (.long x), .second, .val (.long b), .second, .val (.long ((3472328296227680304 : Int64) &&& b)), .second] [(.long ((3472328296227680304 : Int64) &&& b)), (.long ((x + ((434041037028460038 : Int64) &&& b)) &&& (-1085102592571150096 : Int64)))]) _
    refine own_go (fun _ => XS.lcmp X0.here hx rfl (hb hby d4_31) rfl) ?_
    show own_Ends p e below s₁ (mkF m 32 #[.val (.long x), .second, .val (.long b), .second, .val (.long ((3472328296227680304 : Int64) &&& b)), .second] [(.int (lcmpW ((x + ((434041037028460038 : Int64) &&& b)) &&& (-1085102592571150096 : Int64)) ((3472328296227680304 : Int64) &&& b)))]) _
    by_cases hc32 : ((x + ((434041037028460038 : Int64) &&& b)) &&& (-1085102592571150096 : Int64)) = ((3472328296227680304 : Int64) &&& b)
    · refine own_go (fun _ => XS.ifNo X0.here hx rfl (hb hby d4_32) rfl ((if0 _ _).trans (teq ((lw_eq ((x + ((434041037028460038 : Int64) &&& b)) &&& (-1085102592571150096 : Int64)) ((3472328296227680304 : Int64) &&& b)).mpr hc32)).2)) ?_
      show own_Ends p e below s₁ (mkF m 35 #[.val (.long x), .second, .val (.long b), .second, .val (.long ((3472328296227680304 : Int64) &&& b)), .second] []) _
      refine own_go (fun _ => XS.iconst X0.here hx rfl (hb hby d4_35)) ?_
      show own_Ends p e below s₁ (mkF m 36 #[.val (.long x), .second, .val (.long b), .second, .val (.long ((3472328296227680304 : Int64) &&& b)), .second] [(.int (1 : Int32))]) _
      refine own_go (fun _ => XS.goto X0.here hx rfl (pc0 := 36) (pc' := 40) rfl (hb hby d4_36) (by decide) (by decide)) ?_
      show own_Ends p e below s₁ (mkF m 40 #[.val (.long x), .second, .val (.long b), .second, .val (.long ((3472328296227680304 : Int64) &&& b)), .second] [(.int (1 : Int32))]) _
      obtain ⟨fs, hr, hrun, hended, hW, hsame⟩ := X0.leave (v := some (.int (1 : Int32))) (fun h => by rw [Bd.returns] at h; cases h)
      refine ⟨_, _, retN X0 hx (t := .boolean) Bd.returns (by simp) (hb hby d4_40) hr, hrun, hended, _, _, rfl, ?_, ⟨_, rfl⟩, hW, hsame.mono (by decide) (by decide)⟩
      show Q_rmDg Z x b h0 n0 _ s₁.heap _
      rw [e0]
      exact ⟨_, rfl, by unfold own_dg; rw [if_pos hc15, if_pos hc32], N0, rfl⟩
    · refine own_go (fun _ => XS.ifYes X0.here hx rfl (pc0 := 32) (pc' := 39) rfl (hb hby d4_32) rfl ((if0 _ _).trans (feq (fun qq_ => hc32 ((lw_eq ((x + ((434041037028460038 : Int64) &&& b)) &&& (-1085102592571150096 : Int64)) ((3472328296227680304 : Int64) &&& b)).mp qq_))).2) (by decide) (by decide)) ?_
      show own_Ends p e below s₁ (mkF m 39 #[.val (.long x), .second, .val (.long b), .second, .val (.long ((3472328296227680304 : Int64) &&& b)), .second] []) _
      refine own_go (fun _ => XS.iconst X0.here hx rfl (hb hby d4_39)) ?_
      show own_Ends p e below s₁ (mkF m 40 #[.val (.long x), .second, .val (.long b), .second, .val (.long ((3472328296227680304 : Int64) &&& b)), .second] [(.int (0 : Int32))]) _
      obtain ⟨fs, hr, hrun, hended, hW, hsame⟩ := X0.leave (v := some (.int (0 : Int32))) (fun h => by rw [Bd.returns] at h; cases h)
      refine ⟨_, _, retN X0 hx (t := .boolean) Bd.returns (by simp) (hb hby d4_40) hr, hrun, hended, _, _, rfl, ?_, ⟨_, rfl⟩, hW, hsame.mono (by decide) (by decide)⟩
      show Q_rmDg Z x b h0 n0 _ s₁.heap _
      rw [e0]
      exact ⟨_, rfl, by unfold own_dg; rw [if_pos hc15, if_neg hc32], N0, rfl⟩
  · refine own_go (fun _ => XS.ifYes X0.here hx rfl (pc0 := 15) (pc' := 39) rfl (hb hby d4_15) rfl ((if0 _ _).trans (feq (fun qq_ => hc15 ((lw_eq (x &&& (-1085102592571150096 : Int64)) ((3472328296227680304 : Int64) &&& b)).mp qq_))).2) (by decide) (by decide)) ?_
    show own_Ends p e below s₁ (mkF m 39 #[.val (.long x), .second, .val (.long b), .second, .val (.long ((3472328296227680304 : Int64) &&& b)), .second] []) _
    refine own_go (fun _ => XS.iconst X0.here hx rfl (hb hby d4_39)) ?_
    show own_Ends p e below s₁ (mkF m 40 #[.val (.long x), .second, .val (.long b), .second, .val (.long ((3472328296227680304 : Int64) &&& b)), .second] [(.int (0 : Int32))]) _
    obtain ⟨fs, hr, hrun, hended, hW, hsame⟩ := X0.leave (v := some (.int (0 : Int32))) (fun h => by rw [Bd.returns] at h; cases h)
    refine ⟨_, _, retN X0 hx (t := .boolean) Bd.returns (by simp) (hb hby d4_40) hr, hrun, hended, _, _, rfl, ?_, ⟨_, rfl⟩, hW, hsame.mono (by decide) (by decide)⟩
    show Q_rmDg Z x b h0 n0 _ s₁.heap _
    rw [e0]
    exact ⟨_, rfl, by unfold own_dg; rw [if_neg hc15], N0, rfl⟩
theorem pn_0 : plainName "com/example/excedent/excedent/io/EightBytesDigitsPinLaw" = true := by first | (simp [plainName, overriddenIn]; done) | decide +kernel
theorem ef_0 (m : MethodId) (q0 : Int64) (p1 : Int32) (p2 : Int32) : entryFrame m #[(.long q0), (.int p1), (.int p2)] maxLocals = mkF m 0 #[.val (.long q0), .second, .val (.int p1), .val (.int p2), .unset, .unset, .unset, .unset, .unset] [] := by first | (simp [entryFrame, mkF, argsToLocals, Value.category, maxLocals]; done) | rfl
def Q_rm0 (Z : State) (q0 : Int64) (p1 : Int32) (p2 : Int32) (h0 : Heap) (n0 : Nat) (v : Option Value) (h : Heap) (L : List Loc) : Prop := v = some (.int 1) ∧ Fr n0 L
theorem pd_0 : parseMethodDescriptor "(II)J" = some ⟨[.int, .int], some .long⟩ := by decide +kernel
theorem pd_1 : parseMethodDescriptor "(JII)J" = some ⟨[.long, .int, .int], some .long⟩ := by decide +kernel
theorem pd_2 : parseMethodDescriptor "(JJ)Z" = some ⟨[.long, .long], some .boolean⟩ := by decide +kernel
theorem pd_3 : parseMethodDescriptor "(JJI)Z" = some ⟨[.long, .long, .int], some .boolean⟩ := by decide +kernel
set_option maxRecDepth 65536 in
set_option maxHeartbeats 40000000 in
theorem rm0 (l : Launch) (Z : State) (a0 : Array Value) (hw : ∀ d ∈ tables_1, d.before a0 Z = true) (ws : List Jvm.Cond) (q0 : Int64) (p1 : Int32) (p2 : Int32) (h0 : Heap) (n0 : Nat) (Z0 : n0 ≤ h0.size) :
    MetFree l x (head1 (Jvm.Cond.code x code maxLocals ret :: ws) room_1) (fun aa U => aa = #[(.long q0), (.int p1), (.int p2)] ∧ Z.Warmed39 U.vm ∧ U.heap = h0) (fun _ _ _ _ _ => True) (fun _ U ou U' => ∃ v L, ou = .returned v ∧ Q_rm0 Z q0 p1 p2 h0 n0 v U'.heap L ∧ FrameEnd U ou U' L room_1.cells room_1.slots) := by
  refine MetFree.of_bodySF (plainFor_of_name pn_0) hisR ?_
  intro p e s m args below meth c s₁ Bd hml0 hP hK
  obtain ⟨rfl, hZ, hh⟩ := hP
  have hx := Bd.exec
  have hby := Bd.bytes
  have hml : c.maxLocals = 9 := hml0
  have hown : s.vm.findClass "com/example/excedent/excedent/io/EightBytesDigitsPinLaw" = some m.cls := findClass_of_methodNamed Bd.named
  have hnm := (name_of_methodNamed Bd.named Bd.method).1
  have X0 : Stand p l e room_1 s m #[(.long q0), (.int p1), (.int p2)] below meth c s₁ [] 0 0 := Stand.of_body Bd
  have e0 : s₁.heap = h0 := by rw [← hh, Bd.state]; rfl
  have N0 := Fr.nil n0
  have K0 := Keep.refl h0 []
  refine own_as (ef_0 m q0 p1 p2) ?_
  show own_Ends p e below s₁ (mkF m 0 #[.val (.long q0), .second, .val (.int p1), .val (.int p2), .unset, .unset, .unset, .unset, .unset] []) _
  refine own_go (fun _ => XS.iloadN X0.here hx rfl (hb hby at_0) rfl) ?_
  show own_Ends p e below s₁ (mkF m 1 #[.val (.long q0), .second, .val (.int p1), .val (.int p2), .unset, .unset, .unset, .unset, .unset] [(.int p2)]) _
  refine own_go (fun _ => XS.iconst X0.here hx rfl (hb hby at_1)) ?_
  show own_Ends p e below s₁ (mkF m 2 #[.val (.long q0), .second, .val (.int p1), .val (.int p2), .unset, .unset, .unset, .unset, .unset] [(.int (0 : Int32)), (.int p2)]) _
  obtain ⟨_, _, ⟨T1, L1, k1, n1⟩, -, X1, ⟨Lc1, hQ1, l1, y1, z1⟩, st1⟩ := Jvm.LawKit.callS X0 hx (y := (⟨"com/example/excedent/excedent/io/EightBytesDigitsPinLaw", "mask", "(II)J"⟩ : MethodName)) hown (mvT hZ (hw _ (List.mem_of_getElem? (i := 0) rfl))) (mvT hZ (hw _ (List.mem_of_getElem? (i := 1) rfl))) (mvT hZ (hw _ (List.mem_of_getElem? (i := 2) rfl))) (mvT hZ (hw _ (List.mem_of_getElem? (i := 3) rfl))) (by decide) (backOf (W := 0) (rmMask l Z a0 hw [] p2 ((0 : Int32)) 0 h0 n0 Z0 (by decide) (by decide)) hZ (hw _ (List.mem_of_getElem? (i := 3) rfl)) (hw _ (List.mem_of_getElem? (i := 2) rfl)) (by decide) (by decide)) (g := (mkF m 2 #[.val (.long q0), .second, .val (.int p1), .val (.int p2), .unset, .unset, .unset, .unset, .unset] [(.int (0 : Int32)), (.int p2)])) rfl (by rw [hml]; rfl) (argsL := [(.int p2), (.int (0 : Int32))]) (rest := []) (lenOf pd_0 rfl) rfl (by show 2 * 0 + _ ≤ _; exact Nat.le_of_eq rfl) (hb hby at_2) (fun _ _ => ⟨rfl, e0, (by decide : 0 + 0 ≤ _), (by decide : 0 + 0 ≤ _)⟩)
  dsimp only [Pt.U, Pt.locs, Pt.cells, Pt.slots] at X1 l1 y1 z1 st1 hQ1
  replace y1 : k1 = 0 := y1
  replace z1 : n1 = 0 := z1
  subst l1 y1 z1
  refine own_go st1 ?_
  obtain ⟨m0, rfl, hm0, N1q, eh1⟩ := hQ1
  have N1 := Fr.app N0 N1q
  show own_Ends p e below T1 (mkF m 5 #[.val (.long q0), .second, .val (.int p1), .val (.int p2), .unset, .unset, .unset, .unset, .unset] [(.long m0)]) _
  suffices Jt1 : ∀ (T_ : State) (L_ : List Loc), Stand p l e room_1 s m #[(.long q0), (.int p1), (.int p2)] below meth c T_ L_ 0 0 → T_.heap = h0 → Fr n0 L_ → own_Ends p e below T_ (mkF m 5 #[.val (.long q0), .second, .val (.int p1), .val (.int p2), .unset, .unset, .unset, .unset, .unset] [(.long m0)]) (fun ou U' => ∃ v L, ou = .returned v ∧ Q_rm0 Z q0 p1 p2 h0 n0 v U'.heap L ∧ FrameEnd s ou U' L room_1.cells room_1.slots) from Jt1 _ _ X1 eh1 N1
  clear st1 X1 N1 N1q eh1
  try clear Lc1
  try clear T1
  intro T1t L1t X1t eT1t N1t
  refine own_go (fun _ => XS.iloadN X1t.here hx rfl (hb hby at_5) rfl) ?_
  show own_Ends p e below T1t (mkF m 6 #[.val (.long q0), .second, .val (.int p1), .val (.int p2), .unset, .unset, .unset, .unset, .unset] [(.int p2), (.long m0)]) _
  refine own_go (fun _ => XS.iconst X1t.here hx rfl (hb hby at_6)) ?_
  show own_Ends p e below T1t (mkF m 7 #[.val (.long q0), .second, .val (.int p1), .val (.int p2), .unset, .unset, .unset, .unset, .unset] [(.int (1 : Int32)), (.int p2), (.long m0)]) _
  obtain ⟨_, _, ⟨T2, L2, k2, n2⟩, -, X2, ⟨Lc2, hQ2, l2, y2, z2⟩, st2⟩ := Jvm.LawKit.callS X1t hx (y := (⟨"com/example/excedent/excedent/io/EightBytesDigitsPinLaw", "mask", "(II)J"⟩ : MethodName)) hown (mvT hZ (hw _ (List.mem_of_getElem? (i := 0) rfl))) (mvT hZ (hw _ (List.mem_of_getElem? (i := 1) rfl))) (mvT hZ (hw _ (List.mem_of_getElem? (i := 2) rfl))) (mvT hZ (hw _ (List.mem_of_getElem? (i := 3) rfl))) (by decide) (backOf (W := 2) (rmMask l Z a0 hw [] p2 ((1 : Int32)) 8 h0 n0 Z0 (by decide) (by decide)) hZ (hw _ (List.mem_of_getElem? (i := 3) rfl)) (hw _ (List.mem_of_getElem? (i := 2) rfl)) (by decide) (by decide)) (g := (mkF m 7 #[.val (.long q0), .second, .val (.int p1), .val (.int p2), .unset, .unset, .unset, .unset, .unset] [(.int (1 : Int32)), (.int p2), (.long m0)])) rfl (by rw [hml]; rfl) (argsL := [(.int p2), (.int (1 : Int32))]) (rest := [(.long m0)]) (lenOf pd_0 rfl) rfl (by show 2 * 0 + _ ≤ _; exact Nat.le_of_eq rfl) (hb hby at_7) (fun _ _ => ⟨rfl, eT1t, (by decide : 0 + 0 ≤ _), (by decide : 0 + 0 ≤ _)⟩)
  dsimp only [Pt.U, Pt.locs, Pt.cells, Pt.slots] at X2 l2 y2 z2 st2 hQ2
  replace y2 : k2 = 0 := y2
  replace z2 : n2 = 0 := z2
  subst l2 y2 z2
  refine own_go st2 ?_
  obtain ⟨m1, rfl, hm1, N2q, eh2⟩ := hQ2
  have N2 := Fr.app N1t N2q
  show own_Ends p e below T2 (mkF m 10 #[.val (.long q0), .second, .val (.int p1), .val (.int p2), .unset, .unset, .unset, .unset, .unset] [(.long m1), (.long m0)]) _
  suffices Jt2 : ∀ (T_ : State) (L_ : List Loc), Stand p l e room_1 s m #[(.long q0), (.int p1), (.int p2)] below meth c T_ L_ 0 0 → T_.heap = h0 → Fr n0 L_ → own_Ends p e below T_ (mkF m 10 #[.val (.long q0), .second, .val (.int p1), .val (.int p2), .unset, .unset, .unset, .unset, .unset] [(.long m1), (.long m0)]) (fun ou U' => ∃ v L, ou = .returned v ∧ Q_rm0 Z q0 p1 p2 h0 n0 v U'.heap L ∧ FrameEnd s ou U' L room_1.cells room_1.slots) from Jt2 _ _ X2 eh2 N2
  clear st2 X2 N2 N2q eh2
  try clear Lc2
  try clear T2
  try clear N1t
  try clear eT1t
  try clear X1t
  try clear L1t
  try clear T1t
  intro T2t L2t X2t eT2t N2t
  refine own_go (fun _ => XS.lor X2t.here hx rfl (hb hby at_10) rfl) ?_
  show own_Ends p e below T2t (mkF m 11 #[.val (.long q0), .second, .val (.int p1), .val (.int p2), .unset, .unset, .unset, .unset, .unset] [(.long (m0 ||| m1))]) _
  refine own_go (fun _ => XS.iloadN X2t.here hx rfl (hb hby at_11) rfl) ?_
  show own_Ends p e below T2t (mkF m 12 #[.val (.long q0), .second, .val (.int p1), .val (.int p2), .unset, .unset, .unset, .unset, .unset] [(.int p2), (.long (m0 ||| m1))]) _
  refine own_go (fun _ => XS.iconst X2t.here hx rfl (hb hby at_12)) ?_
  show own_Ends p e below T2t (mkF m 13 #[.val (.long q0), .second, .val (.int p1), .val (.int p2), .unset, .unset, .unset, .unset, .unset] [(.int (2 : Int32)), (.int p2), (.long (m0 ||| m1))]) _
  obtain ⟨_, _, ⟨T3, L3, k3, n3⟩, -, X3, ⟨Lc3, hQ3, l3, y3, z3⟩, st3⟩ := Jvm.LawKit.callS X2t hx (y := (⟨"com/example/excedent/excedent/io/EightBytesDigitsPinLaw", "mask", "(II)J"⟩ : MethodName)) hown (mvT hZ (hw _ (List.mem_of_getElem? (i := 0) rfl))) (mvT hZ (hw _ (List.mem_of_getElem? (i := 1) rfl))) (mvT hZ (hw _ (List.mem_of_getElem? (i := 2) rfl))) (mvT hZ (hw _ (List.mem_of_getElem? (i := 3) rfl))) (by decide) (backOf (W := 2) (rmMask l Z a0 hw [] p2 ((2 : Int32)) 16 h0 n0 Z0 (by decide) (by decide)) hZ (hw _ (List.mem_of_getElem? (i := 3) rfl)) (hw _ (List.mem_of_getElem? (i := 2) rfl)) (by decide) (by decide)) (g := (mkF m 13 #[.val (.long q0), .second, .val (.int p1), .val (.int p2), .unset, .unset, .unset, .unset, .unset] [(.int (2 : Int32)), (.int p2), (.long (m0 ||| m1))])) rfl (by rw [hml]; rfl) (argsL := [(.int p2), (.int (2 : Int32))]) (rest := [(.long (m0 ||| m1))]) (lenOf pd_0 rfl) rfl (by show 2 * 0 + _ ≤ _; exact Nat.le_of_eq rfl) (hb hby at_13) (fun _ _ => ⟨rfl, eT2t, (by decide : 0 + 0 ≤ _), (by decide : 0 + 0 ≤ _)⟩)
  dsimp only [Pt.U, Pt.locs, Pt.cells, Pt.slots] at X3 l3 y3 z3 st3 hQ3
  replace y3 : k3 = 0 := y3
  replace z3 : n3 = 0 := z3
  subst l3 y3 z3
  refine own_go st3 ?_
  obtain ⟨m2, rfl, hm2, N3q, eh3⟩ := hQ3
  have N3 := Fr.app N2t N3q
  show own_Ends p e below T3 (mkF m 16 #[.val (.long q0), .second, .val (.int p1), .val (.int p2), .unset, .unset, .unset, .unset, .unset] [(.long m2), (.long (m0 ||| m1))]) _
  suffices Jt3 : ∀ (T_ : State) (L_ : List Loc), Stand p l e room_1 s m #[(.long q0), (.int p1), (.int p2)] below meth c T_ L_ 0 0 → T_.heap = h0 → Fr n0 L_ → own_Ends p e below T_ (mkF m 16 #[.val (.long q0), .second, .val (.int p1), .val (.int p2), .unset, .unset, .unset, .unset, .unset] [(.long m2), (.long (m0 ||| m1))]) (fun ou U' => ∃ v L, ou = .returned v ∧ Q_rm0 Z q0 p1 p2 h0 n0 v U'.heap L ∧ FrameEnd s ou U' L room_1.cells room_1.slots) from Jt3 _ _ X3 eh3 N3
  clear st3 X3 N3 N3q eh3
  try clear Lc3
  try clear T3
  try clear N2t
  try clear eT2t
  try clear X2t
  try clear L2t
  try clear T2t
  intro T3t L3t X3t eT3t N3t
  refine own_go (fun _ => XS.lor X3t.here hx rfl (hb hby at_16) rfl) ?_
  show own_Ends p e below T3t (mkF m 17 #[.val (.long q0), .second, .val (.int p1), .val (.int p2), .unset, .unset, .unset, .unset, .unset] [(.long ((m0 ||| m1) ||| m2))]) _
  refine own_go (fun _ => XS.iloadN X3t.here hx rfl (hb hby at_17) rfl) ?_
  show own_Ends p e below T3t (mkF m 18 #[.val (.long q0), .second, .val (.int p1), .val (.int p2), .unset, .unset, .unset, .unset, .unset] [(.int p2), (.long ((m0 ||| m1) ||| m2))]) _
  refine own_go (fun _ => XS.iconst X3t.here hx rfl (hb hby at_18)) ?_
  show own_Ends p e below T3t (mkF m 19 #[.val (.long q0), .second, .val (.int p1), .val (.int p2), .unset, .unset, .unset, .unset, .unset] [(.int (3 : Int32)), (.int p2), (.long ((m0 ||| m1) ||| m2))]) _
  obtain ⟨_, _, ⟨T4, L4, k4, n4⟩, -, X4, ⟨Lc4, hQ4, l4, y4, z4⟩, st4⟩ := Jvm.LawKit.callS X3t hx (y := (⟨"com/example/excedent/excedent/io/EightBytesDigitsPinLaw", "mask", "(II)J"⟩ : MethodName)) hown (mvT hZ (hw _ (List.mem_of_getElem? (i := 0) rfl))) (mvT hZ (hw _ (List.mem_of_getElem? (i := 1) rfl))) (mvT hZ (hw _ (List.mem_of_getElem? (i := 2) rfl))) (mvT hZ (hw _ (List.mem_of_getElem? (i := 3) rfl))) (by decide) (backOf (W := 2) (rmMask l Z a0 hw [] p2 ((3 : Int32)) 24 h0 n0 Z0 (by decide) (by decide)) hZ (hw _ (List.mem_of_getElem? (i := 3) rfl)) (hw _ (List.mem_of_getElem? (i := 2) rfl)) (by decide) (by decide)) (g := (mkF m 19 #[.val (.long q0), .second, .val (.int p1), .val (.int p2), .unset, .unset, .unset, .unset, .unset] [(.int (3 : Int32)), (.int p2), (.long ((m0 ||| m1) ||| m2))])) rfl (by rw [hml]; rfl) (argsL := [(.int p2), (.int (3 : Int32))]) (rest := [(.long ((m0 ||| m1) ||| m2))]) (lenOf pd_0 rfl) rfl (by show 2 * 0 + _ ≤ _; exact Nat.le_of_eq rfl) (hb hby at_19) (fun _ _ => ⟨rfl, eT3t, (by decide : 0 + 0 ≤ _), (by decide : 0 + 0 ≤ _)⟩)
  dsimp only [Pt.U, Pt.locs, Pt.cells, Pt.slots] at X4 l4 y4 z4 st4 hQ4
  replace y4 : k4 = 0 := y4
  replace z4 : n4 = 0 := z4
  subst l4 y4 z4
  refine own_go st4 ?_
  obtain ⟨m3, rfl, hm3, N4q, eh4⟩ := hQ4
  have N4 := Fr.app N3t N4q
  show own_Ends p e below T4 (mkF m 22 #[.val (.long q0), .second, .val (.int p1), .val (.int p2), .unset, .unset, .unset, .unset, .unset] [(.long m3), (.long ((m0 ||| m1) ||| m2))]) _
  suffices Jt4 : ∀ (T_ : State) (L_ : List Loc), Stand p l e room_1 s m #[(.long q0), (.int p1), (.int p2)] below meth c T_ L_ 0 0 → T_.heap = h0 → Fr n0 L_ → own_Ends p e below T_ (mkF m 22 #[.val (.long q0), .second, .val (.int p1), .val (.int p2), .unset, .unset, .unset, .unset, .unset] [(.long m3), (.long ((m0 ||| m1) ||| m2))]) (fun ou U' => ∃ v L, ou = .returned v ∧ Q_rm0 Z q0 p1 p2 h0 n0 v U'.heap L ∧ FrameEnd s ou U' L room_1.cells room_1.slots) from Jt4 _ _ X4 eh4 N4
  clear st4 X4 N4 N4q eh4
  try clear Lc4
  try clear T4
  try clear N3t
  try clear eT3t
  try clear X3t
  try clear L3t
  try clear T3t
  intro T4t L4t X4t eT4t N4t
  refine own_go (fun _ => XS.lor X4t.here hx rfl (hb hby at_22) rfl) ?_
  show own_Ends p e below T4t (mkF m 23 #[.val (.long q0), .second, .val (.int p1), .val (.int p2), .unset, .unset, .unset, .unset, .unset] [(.long (((m0 ||| m1) ||| m2) ||| m3))]) _
  refine own_go (fun _ => XS.iloadN X4t.here hx rfl (hb hby at_23) rfl) ?_
  show own_Ends p e below T4t (mkF m 24 #[.val (.long q0), .second, .val (.int p1), .val (.int p2), .unset, .unset, .unset, .unset, .unset] [(.int p2), (.long (((m0 ||| m1) ||| m2) ||| m3))]) _
  refine own_go (fun _ => XS.iconst X4t.here hx rfl (hb hby at_24)) ?_
  show own_Ends p e below T4t (mkF m 25 #[.val (.long q0), .second, .val (.int p1), .val (.int p2), .unset, .unset, .unset, .unset, .unset] [(.int (4 : Int32)), (.int p2), (.long (((m0 ||| m1) ||| m2) ||| m3))]) _
  obtain ⟨_, _, ⟨T5, L5, k5, n5⟩, -, X5, ⟨Lc5, hQ5, l5, y5, z5⟩, st5⟩ := Jvm.LawKit.callS X4t hx (y := (⟨"com/example/excedent/excedent/io/EightBytesDigitsPinLaw", "mask", "(II)J"⟩ : MethodName)) hown (mvT hZ (hw _ (List.mem_of_getElem? (i := 0) rfl))) (mvT hZ (hw _ (List.mem_of_getElem? (i := 1) rfl))) (mvT hZ (hw _ (List.mem_of_getElem? (i := 2) rfl))) (mvT hZ (hw _ (List.mem_of_getElem? (i := 3) rfl))) (by decide) (backOf (W := 2) (rmMask l Z a0 hw [] p2 ((4 : Int32)) 32 h0 n0 Z0 (by decide) (by decide)) hZ (hw _ (List.mem_of_getElem? (i := 3) rfl)) (hw _ (List.mem_of_getElem? (i := 2) rfl)) (by decide) (by decide)) (g := (mkF m 25 #[.val (.long q0), .second, .val (.int p1), .val (.int p2), .unset, .unset, .unset, .unset, .unset] [(.int (4 : Int32)), (.int p2), (.long (((m0 ||| m1) ||| m2) ||| m3))])) rfl (by rw [hml]; rfl) (argsL := [(.int p2), (.int (4 : Int32))]) (rest := [(.long (((m0 ||| m1) ||| m2) ||| m3))]) (lenOf pd_0 rfl) rfl (by show 2 * 0 + _ ≤ _; exact Nat.le_of_eq rfl) (hb hby at_25) (fun _ _ => ⟨rfl, eT4t, (by decide : 0 + 0 ≤ _), (by decide : 0 + 0 ≤ _)⟩)
  dsimp only [Pt.U, Pt.locs, Pt.cells, Pt.slots] at X5 l5 y5 z5 st5 hQ5
  replace y5 : k5 = 0 := y5
  replace z5 : n5 = 0 := z5
  subst l5 y5 z5
  refine own_go st5 ?_
  obtain ⟨m4, rfl, hm4, N5q, eh5⟩ := hQ5
  have N5 := Fr.app N4t N5q
  show own_Ends p e below T5 (mkF m 28 #[.val (.long q0), .second, .val (.int p1), .val (.int p2), .unset, .unset, .unset, .unset, .unset] [(.long m4), (.long (((m0 ||| m1) ||| m2) ||| m3))]) _
  suffices Jt5 : ∀ (T_ : State) (L_ : List Loc), Stand p l e room_1 s m #[(.long q0), (.int p1), (.int p2)] below meth c T_ L_ 0 0 → T_.heap = h0 → Fr n0 L_ → own_Ends p e below T_ (mkF m 28 #[.val (.long q0), .second, .val (.int p1), .val (.int p2), .unset, .unset, .unset, .unset, .unset] [(.long m4), (.long (((m0 ||| m1) ||| m2) ||| m3))]) (fun ou U' => ∃ v L, ou = .returned v ∧ Q_rm0 Z q0 p1 p2 h0 n0 v U'.heap L ∧ FrameEnd s ou U' L room_1.cells room_1.slots) from Jt5 _ _ X5 eh5 N5
  clear st5 X5 N5 N5q eh5
  try clear Lc5
  try clear T5
  try clear N4t
  try clear eT4t
  try clear X4t
  try clear L4t
  try clear T4t
  intro T5t L5t X5t eT5t N5t
  refine own_go (fun _ => XS.lor X5t.here hx rfl (hb hby at_28) rfl) ?_
  show own_Ends p e below T5t (mkF m 29 #[.val (.long q0), .second, .val (.int p1), .val (.int p2), .unset, .unset, .unset, .unset, .unset] [(.long ((((m0 ||| m1) ||| m2) ||| m3) ||| m4))]) _
  refine own_go (fun _ => XS.iloadN X5t.here hx rfl (hb hby at_29) rfl) ?_
  show own_Ends p e below T5t (mkF m 30 #[.val (.long q0), .second, .val (.int p1), .val (.int p2), .unset, .unset, .unset, .unset, .unset] [(.int p2), (.long ((((m0 ||| m1) ||| m2) ||| m3) ||| m4))]) _
  refine own_go (fun _ => XS.iconst X5t.here hx rfl (hb hby at_30)) ?_
  show own_Ends p e below T5t (mkF m 31 #[.val (.long q0), .second, .val (.int p1), .val (.int p2), .unset, .unset, .unset, .unset, .unset] [(.int (5 : Int32)), (.int p2), (.long ((((m0 ||| m1) ||| m2) ||| m3) ||| m4))]) _
  obtain ⟨_, _, ⟨T6, L6, k6, n6⟩, -, X6, ⟨Lc6, hQ6, l6, y6, z6⟩, st6⟩ := Jvm.LawKit.callS X5t hx (y := (⟨"com/example/excedent/excedent/io/EightBytesDigitsPinLaw", "mask", "(II)J"⟩ : MethodName)) hown (mvT hZ (hw _ (List.mem_of_getElem? (i := 0) rfl))) (mvT hZ (hw _ (List.mem_of_getElem? (i := 1) rfl))) (mvT hZ (hw _ (List.mem_of_getElem? (i := 2) rfl))) (mvT hZ (hw _ (List.mem_of_getElem? (i := 3) rfl))) (by decide) (backOf (W := 2) (rmMask l Z a0 hw [] p2 ((5 : Int32)) 40 h0 n0 Z0 (by decide) (by decide)) hZ (hw _ (List.mem_of_getElem? (i := 3) rfl)) (hw _ (List.mem_of_getElem? (i := 2) rfl)) (by decide) (by decide)) (g := (mkF m 31 #[.val (.long q0), .second, .val (.int p1), .val (.int p2), .unset, .unset, .unset, .unset, .unset] [(.int (5 : Int32)), (.int p2), (.long ((((m0 ||| m1) ||| m2) ||| m3) ||| m4))])) rfl (by rw [hml]; rfl) (argsL := [(.int p2), (.int (5 : Int32))]) (rest := [(.long ((((m0 ||| m1) ||| m2) ||| m3) ||| m4))]) (lenOf pd_0 rfl) rfl (by show 2 * 0 + _ ≤ _; exact Nat.le_of_eq rfl) (hb hby at_31) (fun _ _ => ⟨rfl, eT5t, (by decide : 0 + 0 ≤ _), (by decide : 0 + 0 ≤ _)⟩)
  dsimp only [Pt.U, Pt.locs, Pt.cells, Pt.slots] at X6 l6 y6 z6 st6 hQ6
  replace y6 : k6 = 0 := y6
  replace z6 : n6 = 0 := z6
  subst l6 y6 z6
  refine own_go st6 ?_
  obtain ⟨m5, rfl, hm5, N6q, eh6⟩ := hQ6
  have N6 := Fr.app N5t N6q
  show own_Ends p e below T6 (mkF m 34 #[.val (.long q0), .second, .val (.int p1), .val (.int p2), .unset, .unset, .unset, .unset, .unset] [(.long m5), (.long ((((m0 ||| m1) ||| m2) ||| m3) ||| m4))]) _
  suffices Jt6 : ∀ (T_ : State) (L_ : List Loc), Stand p l e room_1 s m #[(.long q0), (.int p1), (.int p2)] below meth c T_ L_ 0 0 → T_.heap = h0 → Fr n0 L_ → own_Ends p e below T_ (mkF m 34 #[.val (.long q0), .second, .val (.int p1), .val (.int p2), .unset, .unset, .unset, .unset, .unset] [(.long m5), (.long ((((m0 ||| m1) ||| m2) ||| m3) ||| m4))]) (fun ou U' => ∃ v L, ou = .returned v ∧ Q_rm0 Z q0 p1 p2 h0 n0 v U'.heap L ∧ FrameEnd s ou U' L room_1.cells room_1.slots) from Jt6 _ _ X6 eh6 N6
  clear st6 X6 N6 N6q eh6
  try clear Lc6
  try clear T6
  try clear N5t
  try clear eT5t
  try clear X5t
  try clear L5t
  try clear T5t
  intro T6t L6t X6t eT6t N6t
  refine own_go (fun _ => XS.lor X6t.here hx rfl (hb hby at_34) rfl) ?_
  show own_Ends p e below T6t (mkF m 35 #[.val (.long q0), .second, .val (.int p1), .val (.int p2), .unset, .unset, .unset, .unset, .unset] [(.long (((((m0 ||| m1) ||| m2) ||| m3) ||| m4) ||| m5))]) _
  refine own_go (fun _ => XS.iloadN X6t.here hx rfl (hb hby at_35) rfl) ?_
  show own_Ends p e below T6t (mkF m 36 #[.val (.long q0), .second, .val (.int p1), .val (.int p2), .unset, .unset, .unset, .unset, .unset] [(.int p2), (.long (((((m0 ||| m1) ||| m2) ||| m3) ||| m4) ||| m5))]) _
  refine own_go (fun _ => XS.bipush X6t.here hx rfl (hb hby at_36)) ?_
  show own_Ends p e below T6t (mkF m 38 #[.val (.long q0), .second, .val (.int p1), .val (.int p2), .unset, .unset, .unset, .unset, .unset] [(.int (6 : Int32)), (.int p2), (.long (((((m0 ||| m1) ||| m2) ||| m3) ||| m4) ||| m5))]) _
  obtain ⟨_, _, ⟨T7, L7, k7, n7⟩, -, X7, ⟨Lc7, hQ7, l7, y7, z7⟩, st7⟩ := Jvm.LawKit.callS X6t hx (y := (⟨"com/example/excedent/excedent/io/EightBytesDigitsPinLaw", "mask", "(II)J"⟩ : MethodName)) hown (mvT hZ (hw _ (List.mem_of_getElem? (i := 0) rfl))) (mvT hZ (hw _ (List.mem_of_getElem? (i := 1) rfl))) (mvT hZ (hw _ (List.mem_of_getElem? (i := 2) rfl))) (mvT hZ (hw _ (List.mem_of_getElem? (i := 3) rfl))) (by decide) (backOf (W := 2) (rmMask l Z a0 hw [] p2 ((6 : Int32)) 48 h0 n0 Z0 (by decide) (by decide)) hZ (hw _ (List.mem_of_getElem? (i := 3) rfl)) (hw _ (List.mem_of_getElem? (i := 2) rfl)) (by decide) (by decide)) (g := (mkF m 38 #[.val (.long q0), .second, .val (.int p1), .val (.int p2), .unset, .unset, .unset, .unset, .unset] [(.int (6 : Int32)), (.int p2), (.long (((((m0 ||| m1) ||| m2) ||| m3) ||| m4) ||| m5))])) rfl (by rw [hml]; rfl) (argsL := [(.int p2), (.int (6 : Int32))]) (rest := [(.long (((((m0 ||| m1) ||| m2) ||| m3) ||| m4) ||| m5))]) (lenOf pd_0 rfl) rfl (by show 2 * 0 + _ ≤ _; exact Nat.le_of_eq rfl) (hb hby at_38) (fun _ _ => ⟨rfl, eT6t, (by decide : 0 + 0 ≤ _), (by decide : 0 + 0 ≤ _)⟩)
  dsimp only [Pt.U, Pt.locs, Pt.cells, Pt.slots] at X7 l7 y7 z7 st7 hQ7
  replace y7 : k7 = 0 := y7
  replace z7 : n7 = 0 := z7
  subst l7 y7 z7
  refine own_go st7 ?_
  obtain ⟨m6, rfl, hm6, N7q, eh7⟩ := hQ7
  have N7 := Fr.app N6t N7q
  show own_Ends p e below T7 (mkF m 41 #[.val (.long q0), .second, .val (.int p1), .val (.int p2), .unset, .unset, .unset, .unset, .unset] [(.long m6), (.long (((((m0 ||| m1) ||| m2) ||| m3) ||| m4) ||| m5))]) _
  suffices Jt7 : ∀ (T_ : State) (L_ : List Loc), Stand p l e room_1 s m #[(.long q0), (.int p1), (.int p2)] below meth c T_ L_ 0 0 → T_.heap = h0 → Fr n0 L_ → own_Ends p e below T_ (mkF m 41 #[.val (.long q0), .second, .val (.int p1), .val (.int p2), .unset, .unset, .unset, .unset, .unset] [(.long m6), (.long (((((m0 ||| m1) ||| m2) ||| m3) ||| m4) ||| m5))]) (fun ou U' => ∃ v L, ou = .returned v ∧ Q_rm0 Z q0 p1 p2 h0 n0 v U'.heap L ∧ FrameEnd s ou U' L room_1.cells room_1.slots) from Jt7 _ _ X7 eh7 N7
  clear st7 X7 N7 N7q eh7
  try clear Lc7
  try clear T7
  try clear N6t
  try clear eT6t
  try clear X6t
  try clear L6t
  try clear T6t
  intro T7t L7t X7t eT7t N7t
  refine own_go (fun _ => XS.lor X7t.here hx rfl (hb hby at_41) rfl) ?_
  show own_Ends p e below T7t (mkF m 42 #[.val (.long q0), .second, .val (.int p1), .val (.int p2), .unset, .unset, .unset, .unset, .unset] [(.long ((((((m0 ||| m1) ||| m2) ||| m3) ||| m4) ||| m5) ||| m6))]) _
  refine own_go (fun _ => XS.iloadN X7t.here hx rfl (hb hby at_42) rfl) ?_
  show own_Ends p e below T7t (mkF m 43 #[.val (.long q0), .second, .val (.int p1), .val (.int p2), .unset, .unset, .unset, .unset, .unset] [(.int p2), (.long ((((((m0 ||| m1) ||| m2) ||| m3) ||| m4) ||| m5) ||| m6))]) _
  refine own_go (fun _ => XS.bipush X7t.here hx rfl (hb hby at_43)) ?_
  show own_Ends p e below T7t (mkF m 45 #[.val (.long q0), .second, .val (.int p1), .val (.int p2), .unset, .unset, .unset, .unset, .unset] [(.int (7 : Int32)), (.int p2), (.long ((((((m0 ||| m1) ||| m2) ||| m3) ||| m4) ||| m5) ||| m6))]) _
  obtain ⟨_, _, ⟨T8, L8, k8, n8⟩, -, X8, ⟨Lc8, hQ8, l8, y8, z8⟩, st8⟩ := Jvm.LawKit.callS X7t hx (y := (⟨"com/example/excedent/excedent/io/EightBytesDigitsPinLaw", "mask", "(II)J"⟩ : MethodName)) hown (mvT hZ (hw _ (List.mem_of_getElem? (i := 0) rfl))) (mvT hZ (hw _ (List.mem_of_getElem? (i := 1) rfl))) (mvT hZ (hw _ (List.mem_of_getElem? (i := 2) rfl))) (mvT hZ (hw _ (List.mem_of_getElem? (i := 3) rfl))) (by decide) (backOf (W := 2) (rmMask l Z a0 hw [] p2 ((7 : Int32)) 56 h0 n0 Z0 (by decide) (by decide)) hZ (hw _ (List.mem_of_getElem? (i := 3) rfl)) (hw _ (List.mem_of_getElem? (i := 2) rfl)) (by decide) (by decide)) (g := (mkF m 45 #[.val (.long q0), .second, .val (.int p1), .val (.int p2), .unset, .unset, .unset, .unset, .unset] [(.int (7 : Int32)), (.int p2), (.long ((((((m0 ||| m1) ||| m2) ||| m3) ||| m4) ||| m5) ||| m6))])) rfl (by rw [hml]; rfl) (argsL := [(.int p2), (.int (7 : Int32))]) (rest := [(.long ((((((m0 ||| m1) ||| m2) ||| m3) ||| m4) ||| m5) ||| m6))]) (lenOf pd_0 rfl) rfl (by show 2 * 0 + _ ≤ _; exact Nat.le_of_eq rfl) (hb hby at_45) (fun _ _ => ⟨rfl, eT7t, (by decide : 0 + 0 ≤ _), (by decide : 0 + 0 ≤ _)⟩)
  dsimp only [Pt.U, Pt.locs, Pt.cells, Pt.slots] at X8 l8 y8 z8 st8 hQ8
  replace y8 : k8 = 0 := y8
  replace z8 : n8 = 0 := z8
  subst l8 y8 z8
  refine own_go st8 ?_
  obtain ⟨m7, rfl, hm7, N8q, eh8⟩ := hQ8
  have N8 := Fr.app N7t N8q
  show own_Ends p e below T8 (mkF m 48 #[.val (.long q0), .second, .val (.int p1), .val (.int p2), .unset, .unset, .unset, .unset, .unset] [(.long m7), (.long ((((((m0 ||| m1) ||| m2) ||| m3) ||| m4) ||| m5) ||| m6))]) _
  suffices Jt8 : ∀ (T_ : State) (L_ : List Loc), Stand p l e room_1 s m #[(.long q0), (.int p1), (.int p2)] below meth c T_ L_ 0 0 → T_.heap = h0 → Fr n0 L_ → own_Ends p e below T_ (mkF m 48 #[.val (.long q0), .second, .val (.int p1), .val (.int p2), .unset, .unset, .unset, .unset, .unset] [(.long m7), (.long ((((((m0 ||| m1) ||| m2) ||| m3) ||| m4) ||| m5) ||| m6))]) (fun ou U' => ∃ v L, ou = .returned v ∧ Q_rm0 Z q0 p1 p2 h0 n0 v U'.heap L ∧ FrameEnd s ou U' L room_1.cells room_1.slots) from Jt8 _ _ X8 eh8 N8
  clear st8 X8 N8 N8q eh8
  try clear Lc8
  try clear T8
  try clear N7t
  try clear eT7t
  try clear X7t
  try clear L7t
  try clear T7t
  intro T8t L8t X8t eT8t N8t
  refine own_go (fun _ => XS.lor X8t.here hx rfl (hb hby at_48) rfl) ?_
  show own_Ends p e below T8t (mkF m 49 #[.val (.long q0), .second, .val (.int p1), .val (.int p2), .unset, .unset, .unset, .unset, .unset] [(.long (((((((m0 ||| m1) ||| m2) ||| m3) ||| m4) ||| m5) ||| m6) ||| m7))]) _
  refine own_go (fun _ => XS.lstore X8t.here hx rfl (hb hby at_49) rfl (l' := #[.val (.long q0), .second, .val (.int p1), .val (.int p2), .val (.long (((((((m0 ||| m1) ||| m2) ||| m3) ||| m4) ||| m5) ||| m6) ||| m7)), .second, .unset, .unset, .unset]) rfl) ?_
  show own_Ends p e below T8t (mkF m 51 #[.val (.long q0), .second, .val (.int p1), .val (.int p2), .val (.long (((((((m0 ||| m1) ||| m2) ||| m3) ||| m4) ||| m5) ||| m6) ||| m7)), .second, .unset, .unset, .unset] []) _
  refine own_go (fun _ => XS.lloadN X8t.here hx rfl (hb hby at_51) rfl) ?_
  show own_Ends p e below T8t (mkF m 52 #[.val (.long q0), .second, .val (.int p1), .val (.int p2), .val (.long (((((((m0 ||| m1) ||| m2) ||| m3) ||| m4) ||| m5) ||| m6) ||| m7)), .second, .unset, .unset, .unset] [(.long q0)]) _
  refine own_go (fun _ => XS.iloadN X8t.here hx rfl (hb hby at_52) rfl) ?_
  show own_Ends p e below T8t (mkF m 53 #[.val (.long q0), .second, .val (.int p1), .val (.int p2), .val (.long (((((((m0 ||| m1) ||| m2) ||| m3) ||| m4) ||| m5) ||| m6) ||| m7)), .second, .unset, .unset, .unset] [(.int p1), (.long q0)]) _
  refine own_go (fun _ => XS.iconst X8t.here hx rfl (hb hby at_53)) ?_
  show own_Ends p e below T8t (mkF m 54 #[.val (.long q0), .second, .val (.int p1), .val (.int p2), .val (.long (((((((m0 ||| m1) ||| m2) ||| m3) ||| m4) ||| m5) ||| m6) ||| m7)), .second, .unset, .unset, .unset] [(.int (0 : Int32)), (.int p1), (.long q0)]) _
  obtain ⟨_, _, ⟨T9, L9, k9, n9⟩, -, X9, ⟨Lc9, hQ9, l9, y9, z9⟩, st9⟩ := Jvm.LawKit.callS X8t hx (y := (⟨"com/example/excedent/excedent/io/EightBytesDigitsPinLaw", "at", "(JII)J"⟩ : MethodName)) hown (mvT hZ (hw _ (List.mem_of_getElem? (i := 5) rfl))) (mvT hZ (hw _ (List.mem_of_getElem? (i := 6) rfl))) (mvT hZ (hw _ (List.mem_of_getElem? (i := 2) rfl))) (mvT hZ (hw _ (List.mem_of_getElem? (i := 7) rfl))) (by decide) (backOf (W := 0) (rmAt l Z a0 hw [] q0 p1 ((0 : Int32)) 0 h0 n0 Z0 (by decide) (by decide)) hZ (hw _ (List.mem_of_getElem? (i := 7) rfl)) (hw _ (List.mem_of_getElem? (i := 2) rfl)) (by decide) (by decide)) (g := (mkF m 54 #[.val (.long q0), .second, .val (.int p1), .val (.int p2), .val (.long (((((((m0 ||| m1) ||| m2) ||| m3) ||| m4) ||| m5) ||| m6) ||| m7)), .second, .unset, .unset, .unset] [(.int (0 : Int32)), (.int p1), (.long q0)])) rfl (by rw [hml]; rfl) (argsL := [(.long q0), (.int p1), (.int (0 : Int32))]) (rest := []) (lenOf pd_1 rfl) rfl (by show 2 * 0 + _ ≤ _; exact Nat.le_of_eq rfl) (hb hby at_54) (fun _ _ => ⟨rfl, eT8t, (by decide : 0 + 0 ≤ _), (by decide : 0 + 0 ≤ _)⟩)
  dsimp only [Pt.U, Pt.locs, Pt.cells, Pt.slots] at X9 l9 y9 z9 st9 hQ9
  replace y9 : k9 = 0 := y9
  replace z9 : n9 = 0 := z9
  subst l9 y9 z9
  refine own_go st9 ?_
  obtain ⟨at0, rfl, hat0, N9q, eh9⟩ := hQ9
  have N9 := Fr.app N8t N9q
  show own_Ends p e below T9 (mkF m 57 #[.val (.long q0), .second, .val (.int p1), .val (.int p2), .val (.long (((((((m0 ||| m1) ||| m2) ||| m3) ||| m4) ||| m5) ||| m6) ||| m7)), .second, .unset, .unset, .unset] [(.long at0)]) _
  suffices Jt9 : ∀ (T_ : State) (L_ : List Loc), Stand p l e room_1 s m #[(.long q0), (.int p1), (.int p2)] below meth c T_ L_ 0 0 → T_.heap = h0 → Fr n0 L_ → own_Ends p e below T_ (mkF m 57 #[.val (.long q0), .second, .val (.int p1), .val (.int p2), .val (.long (((((((m0 ||| m1) ||| m2) ||| m3) ||| m4) ||| m5) ||| m6) ||| m7)), .second, .unset, .unset, .unset] [(.long at0)]) (fun ou U' => ∃ v L, ou = .returned v ∧ Q_rm0 Z q0 p1 p2 h0 n0 v U'.heap L ∧ FrameEnd s ou U' L room_1.cells room_1.slots) from Jt9 _ _ X9 eh9 N9
  clear st9 X9 N9 N9q eh9
  try clear Lc9
  try clear T9
  try clear N8t
  try clear eT8t
  try clear X8t
  try clear L8t
  try clear T8t
  intro T9t L9t X9t eT9t N9t
  refine own_go (fun _ => XS.lloadN X9t.here hx rfl (hb hby at_57) rfl) ?_
  show own_Ends p e below T9t (mkF m 58 #[.val (.long q0), .second, .val (.int p1), .val (.int p2), .val (.long (((((((m0 ||| m1) ||| m2) ||| m3) ||| m4) ||| m5) ||| m6) ||| m7)), .second, .unset, .unset, .unset] [(.long q0), (.long at0)]) _
  refine own_go (fun _ => XS.iloadN X9t.here hx rfl (hb hby at_58) rfl) ?_
  show own_Ends p e below T9t (mkF m 59 #[.val (.long q0), .second, .val (.int p1), .val (.int p2), .val (.long (((((((m0 ||| m1) ||| m2) ||| m3) ||| m4) ||| m5) ||| m6) ||| m7)), .second, .unset, .unset, .unset] [(.int p1), (.long q0), (.long at0)]) _
  refine own_go (fun _ => XS.iconst X9t.here hx rfl (hb hby at_59)) ?_
  show own_Ends p e below T9t (mkF m 60 #[.val (.long q0), .second, .val (.int p1), .val (.int p2), .val (.long (((((((m0 ||| m1) ||| m2) ||| m3) ||| m4) ||| m5) ||| m6) ||| m7)), .second, .unset, .unset, .unset] [(.int (1 : Int32)), (.int p1), (.long q0), (.long at0)]) _
  obtain ⟨_, _, ⟨T10, L10, k10, n10⟩, -, X10, ⟨Lc10, hQ10, l10, y10, z10⟩, st10⟩ := Jvm.LawKit.callS X9t hx (y := (⟨"com/example/excedent/excedent/io/EightBytesDigitsPinLaw", "at", "(JII)J"⟩ : MethodName)) hown (mvT hZ (hw _ (List.mem_of_getElem? (i := 5) rfl))) (mvT hZ (hw _ (List.mem_of_getElem? (i := 6) rfl))) (mvT hZ (hw _ (List.mem_of_getElem? (i := 2) rfl))) (mvT hZ (hw _ (List.mem_of_getElem? (i := 7) rfl))) (by decide) (backOf (W := 2) (rmAt l Z a0 hw [] q0 p1 ((1 : Int32)) 8 h0 n0 Z0 (by decide) (by decide)) hZ (hw _ (List.mem_of_getElem? (i := 7) rfl)) (hw _ (List.mem_of_getElem? (i := 2) rfl)) (by decide) (by decide)) (g := (mkF m 60 #[.val (.long q0), .second, .val (.int p1), .val (.int p2), .val (.long (((((((m0 ||| m1) ||| m2) ||| m3) ||| m4) ||| m5) ||| m6) ||| m7)), .second, .unset, .unset, .unset] [(.int (1 : Int32)), (.int p1), (.long q0), (.long at0)])) rfl (by rw [hml]; rfl) (argsL := [(.long q0), (.int p1), (.int (1 : Int32))]) (rest := [(.long at0)]) (lenOf pd_1 rfl) rfl (by show 2 * 0 + _ ≤ _; exact Nat.le_of_eq rfl) (hb hby at_60) (fun _ _ => ⟨rfl, eT9t, (by decide : 0 + 0 ≤ _), (by decide : 0 + 0 ≤ _)⟩)
  dsimp only [Pt.U, Pt.locs, Pt.cells, Pt.slots] at X10 l10 y10 z10 st10 hQ10
  replace y10 : k10 = 0 := y10
  replace z10 : n10 = 0 := z10
  subst l10 y10 z10
  refine own_go st10 ?_
  obtain ⟨at1, rfl, hat1, N10q, eh10⟩ := hQ10
  have N10 := Fr.app N9t N10q
  show own_Ends p e below T10 (mkF m 63 #[.val (.long q0), .second, .val (.int p1), .val (.int p2), .val (.long (((((((m0 ||| m1) ||| m2) ||| m3) ||| m4) ||| m5) ||| m6) ||| m7)), .second, .unset, .unset, .unset] [(.long at1), (.long at0)]) _
  suffices Jt10 : ∀ (T_ : State) (L_ : List Loc), Stand p l e room_1 s m #[(.long q0), (.int p1), (.int p2)] below meth c T_ L_ 0 0 → T_.heap = h0 → Fr n0 L_ → own_Ends p e below T_ (mkF m 63 #[.val (.long q0), .second, .val (.int p1), .val (.int p2), .val (.long (((((((m0 ||| m1) ||| m2) ||| m3) ||| m4) ||| m5) ||| m6) ||| m7)), .second, .unset, .unset, .unset] [(.long at1), (.long at0)]) (fun ou U' => ∃ v L, ou = .returned v ∧ Q_rm0 Z q0 p1 p2 h0 n0 v U'.heap L ∧ FrameEnd s ou U' L room_1.cells room_1.slots) from Jt10 _ _ X10 eh10 N10
  clear st10 X10 N10 N10q eh10
  try clear Lc10
  try clear T10
  try clear N9t
  try clear eT9t
  try clear X9t
  try clear L9t
  try clear T9t
  intro T10t L10t X10t eT10t N10t
  refine own_go (fun _ => XS.lor X10t.here hx rfl (hb hby at_63) rfl) ?_
  show own_Ends p e below T10t (mkF m 64 #[.val (.long q0), .second, .val (.int p1), .val (.int p2), .val (.long (((((((m0 ||| m1) ||| m2) ||| m3) ||| m4) ||| m5) ||| m6) ||| m7)), .second, .unset, .unset, .unset] [(.long (at0 ||| at1))]) _
  refine own_go (fun _ => XS.lloadN X10t.here hx rfl (hb hby at_64) rfl) ?_
  show own_Ends p e below T10t (mkF m 65 #[.val (.long q0), .second, .val (.int p1), .val (.int p2), .val (.long (((((((m0 ||| m1) ||| m2) ||| m3) ||| m4) ||| m5) ||| m6) ||| m7)), .second, .unset, .unset, .unset] [(.long q0), (.long (at0 ||| at1))]) _
  refine own_go (fun _ => XS.iloadN X10t.here hx rfl (hb hby at_65) rfl) ?_
  show own_Ends p e below T10t (mkF m 66 #[.val (.long q0), .second, .val (.int p1), .val (.int p2), .val (.long (((((((m0 ||| m1) ||| m2) ||| m3) ||| m4) ||| m5) ||| m6) ||| m7)), .second, .unset, .unset, .unset] [(.int p1), (.long q0), (.long (at0 ||| at1))]) _
  refine own_go (fun _ => XS.iconst X10t.here hx rfl (hb hby at_66)) ?_
  show own_Ends p e below T10t (mkF m 67 #[.val (.long q0), .second, .val (.int p1), .val (.int p2), .val (.long (((((((m0 ||| m1) ||| m2) ||| m3) ||| m4) ||| m5) ||| m6) ||| m7)), .second, .unset, .unset, .unset] [(.int (2 : Int32)), (.int p1), (.long q0), (.long (at0 ||| at1))]) _
  obtain ⟨_, _, ⟨T11, L11, k11, n11⟩, -, X11, ⟨Lc11, hQ11, l11, y11, z11⟩, st11⟩ := Jvm.LawKit.callS X10t hx (y := (⟨"com/example/excedent/excedent/io/EightBytesDigitsPinLaw", "at", "(JII)J"⟩ : MethodName)) hown (mvT hZ (hw _ (List.mem_of_getElem? (i := 5) rfl))) (mvT hZ (hw _ (List.mem_of_getElem? (i := 6) rfl))) (mvT hZ (hw _ (List.mem_of_getElem? (i := 2) rfl))) (mvT hZ (hw _ (List.mem_of_getElem? (i := 7) rfl))) (by decide) (backOf (W := 2) (rmAt l Z a0 hw [] q0 p1 ((2 : Int32)) 16 h0 n0 Z0 (by decide) (by decide)) hZ (hw _ (List.mem_of_getElem? (i := 7) rfl)) (hw _ (List.mem_of_getElem? (i := 2) rfl)) (by decide) (by decide)) (g := (mkF m 67 #[.val (.long q0), .second, .val (.int p1), .val (.int p2), .val (.long (((((((m0 ||| m1) ||| m2) ||| m3) ||| m4) ||| m5) ||| m6) ||| m7)), .second, .unset, .unset, .unset] [(.int (2 : Int32)), (.int p1), (.long q0), (.long (at0 ||| at1))])) rfl (by rw [hml]; rfl) (argsL := [(.long q0), (.int p1), (.int (2 : Int32))]) (rest := [(.long (at0 ||| at1))]) (lenOf pd_1 rfl) rfl (by show 2 * 0 + _ ≤ _; exact Nat.le_of_eq rfl) (hb hby at_67) (fun _ _ => ⟨rfl, eT10t, (by decide : 0 + 0 ≤ _), (by decide : 0 + 0 ≤ _)⟩)
  dsimp only [Pt.U, Pt.locs, Pt.cells, Pt.slots] at X11 l11 y11 z11 st11 hQ11
  replace y11 : k11 = 0 := y11
  replace z11 : n11 = 0 := z11
  subst l11 y11 z11
  refine own_go st11 ?_
  obtain ⟨at2, rfl, hat2, N11q, eh11⟩ := hQ11
  have N11 := Fr.app N10t N11q
  show own_Ends p e below T11 (mkF m 70 #[.val (.long q0), .second, .val (.int p1), .val (.int p2), .val (.long (((((((m0 ||| m1) ||| m2) ||| m3) ||| m4) ||| m5) ||| m6) ||| m7)), .second, .unset, .unset, .unset] [(.long at2), (.long (at0 ||| at1))]) _
  suffices Jt11 : ∀ (T_ : State) (L_ : List Loc), Stand p l e room_1 s m #[(.long q0), (.int p1), (.int p2)] below meth c T_ L_ 0 0 → T_.heap = h0 → Fr n0 L_ → own_Ends p e below T_ (mkF m 70 #[.val (.long q0), .second, .val (.int p1), .val (.int p2), .val (.long (((((((m0 ||| m1) ||| m2) ||| m3) ||| m4) ||| m5) ||| m6) ||| m7)), .second, .unset, .unset, .unset] [(.long at2), (.long (at0 ||| at1))]) (fun ou U' => ∃ v L, ou = .returned v ∧ Q_rm0 Z q0 p1 p2 h0 n0 v U'.heap L ∧ FrameEnd s ou U' L room_1.cells room_1.slots) from Jt11 _ _ X11 eh11 N11
  clear st11 X11 N11 N11q eh11
  try clear Lc11
  try clear T11
  try clear N10t
  try clear eT10t
  try clear X10t
  try clear L10t
  try clear T10t
  intro T11t L11t X11t eT11t N11t
  refine own_go (fun _ => XS.lor X11t.here hx rfl (hb hby at_70) rfl) ?_
  show own_Ends p e below T11t (mkF m 71 #[.val (.long q0), .second, .val (.int p1), .val (.int p2), .val (.long (((((((m0 ||| m1) ||| m2) ||| m3) ||| m4) ||| m5) ||| m6) ||| m7)), .second, .unset, .unset, .unset] [(.long ((at0 ||| at1) ||| at2))]) _
  refine own_go (fun _ => XS.lloadN X11t.here hx rfl (hb hby at_71) rfl) ?_
  show own_Ends p e below T11t (mkF m 72 #[.val (.long q0), .second, .val (.int p1), .val (.int p2), .val (.long (((((((m0 ||| m1) ||| m2) ||| m3) ||| m4) ||| m5) ||| m6) ||| m7)), .second, .unset, .unset, .unset] [(.long q0), (.long ((at0 ||| at1) ||| at2))]) _
  refine own_go (fun _ => XS.iloadN X11t.here hx rfl (hb hby at_72) rfl) ?_
  show own_Ends p e below T11t (mkF m 73 #[.val (.long q0), .second, .val (.int p1), .val (.int p2), .val (.long (((((((m0 ||| m1) ||| m2) ||| m3) ||| m4) ||| m5) ||| m6) ||| m7)), .second, .unset, .unset, .unset] [(.int p1), (.long q0), (.long ((at0 ||| at1) ||| at2))]) _
  refine own_go (fun _ => XS.iconst X11t.here hx rfl (hb hby at_73)) ?_
  show own_Ends p e below T11t (mkF m 74 #[.val (.long q0), .second, .val (.int p1), .val (.int p2), .val (.long (((((((m0 ||| m1) ||| m2) ||| m3) ||| m4) ||| m5) ||| m6) ||| m7)), .second, .unset, .unset, .unset] [(.int (3 : Int32)), (.int p1), (.long q0), (.long ((at0 ||| at1) ||| at2))]) _
  obtain ⟨_, _, ⟨T12, L12, k12, n12⟩, -, X12, ⟨Lc12, hQ12, l12, y12, z12⟩, st12⟩ := Jvm.LawKit.callS X11t hx (y := (⟨"com/example/excedent/excedent/io/EightBytesDigitsPinLaw", "at", "(JII)J"⟩ : MethodName)) hown (mvT hZ (hw _ (List.mem_of_getElem? (i := 5) rfl))) (mvT hZ (hw _ (List.mem_of_getElem? (i := 6) rfl))) (mvT hZ (hw _ (List.mem_of_getElem? (i := 2) rfl))) (mvT hZ (hw _ (List.mem_of_getElem? (i := 7) rfl))) (by decide) (backOf (W := 2) (rmAt l Z a0 hw [] q0 p1 ((3 : Int32)) 24 h0 n0 Z0 (by decide) (by decide)) hZ (hw _ (List.mem_of_getElem? (i := 7) rfl)) (hw _ (List.mem_of_getElem? (i := 2) rfl)) (by decide) (by decide)) (g := (mkF m 74 #[.val (.long q0), .second, .val (.int p1), .val (.int p2), .val (.long (((((((m0 ||| m1) ||| m2) ||| m3) ||| m4) ||| m5) ||| m6) ||| m7)), .second, .unset, .unset, .unset] [(.int (3 : Int32)), (.int p1), (.long q0), (.long ((at0 ||| at1) ||| at2))])) rfl (by rw [hml]; rfl) (argsL := [(.long q0), (.int p1), (.int (3 : Int32))]) (rest := [(.long ((at0 ||| at1) ||| at2))]) (lenOf pd_1 rfl) rfl (by show 2 * 0 + _ ≤ _; exact Nat.le_of_eq rfl) (hb hby at_74) (fun _ _ => ⟨rfl, eT11t, (by decide : 0 + 0 ≤ _), (by decide : 0 + 0 ≤ _)⟩)
  dsimp only [Pt.U, Pt.locs, Pt.cells, Pt.slots] at X12 l12 y12 z12 st12 hQ12
  replace y12 : k12 = 0 := y12
  replace z12 : n12 = 0 := z12
  subst l12 y12 z12
  refine own_go st12 ?_
  obtain ⟨at3, rfl, hat3, N12q, eh12⟩ := hQ12
  have N12 := Fr.app N11t N12q
  show own_Ends p e below T12 (mkF m 77 #[.val (.long q0), .second, .val (.int p1), .val (.int p2), .val (.long (((((((m0 ||| m1) ||| m2) ||| m3) ||| m4) ||| m5) ||| m6) ||| m7)), .second, .unset, .unset, .unset] [(.long at3), (.long ((at0 ||| at1) ||| at2))]) _
  suffices Jt12 : ∀ (T_ : State) (L_ : List Loc), Stand p l e room_1 s m #[(.long q0), (.int p1), (.int p2)] below meth c T_ L_ 0 0 → T_.heap = h0 → Fr n0 L_ → own_Ends p e below T_ (mkF m 77 #[.val (.long q0), .second, .val (.int p1), .val (.int p2), .val (.long (((((((m0 ||| m1) ||| m2) ||| m3) ||| m4) ||| m5) ||| m6) ||| m7)), .second, .unset, .unset, .unset] [(.long at3), (.long ((at0 ||| at1) ||| at2))]) (fun ou U' => ∃ v L, ou = .returned v ∧ Q_rm0 Z q0 p1 p2 h0 n0 v U'.heap L ∧ FrameEnd s ou U' L room_1.cells room_1.slots) from Jt12 _ _ X12 eh12 N12
  clear st12 X12 N12 N12q eh12
  try clear Lc12
  try clear T12
  try clear N11t
  try clear eT11t
  try clear X11t
  try clear L11t
  try clear T11t
  intro T12t L12t X12t eT12t N12t
  refine own_go (fun _ => XS.lor X12t.here hx rfl (hb hby at_77) rfl) ?_
  show own_Ends p e below T12t (mkF m 78 #[.val (.long q0), .second, .val (.int p1), .val (.int p2), .val (.long (((((((m0 ||| m1) ||| m2) ||| m3) ||| m4) ||| m5) ||| m6) ||| m7)), .second, .unset, .unset, .unset] [(.long (((at0 ||| at1) ||| at2) ||| at3))]) _
  refine own_go (fun _ => XS.lloadN X12t.here hx rfl (hb hby at_78) rfl) ?_
  show own_Ends p e below T12t (mkF m 79 #[.val (.long q0), .second, .val (.int p1), .val (.int p2), .val (.long (((((((m0 ||| m1) ||| m2) ||| m3) ||| m4) ||| m5) ||| m6) ||| m7)), .second, .unset, .unset, .unset] [(.long q0), (.long (((at0 ||| at1) ||| at2) ||| at3))]) _
  refine own_go (fun _ => XS.iloadN X12t.here hx rfl (hb hby at_79) rfl) ?_
  show own_Ends p e below T12t (mkF m 80 #[.val (.long q0), .second, .val (.int p1), .val (.int p2), .val (.long (((((((m0 ||| m1) ||| m2) ||| m3) ||| m4) ||| m5) ||| m6) ||| m7)), .second, .unset, .unset, .unset] [(.int p1), (.long q0), (.long (((at0 ||| at1) ||| at2) ||| at3))]) _
  refine own_go (fun _ => XS.iconst X12t.here hx rfl (hb hby at_80)) ?_
  show own_Ends p e below T12t (mkF m 81 #[.val (.long q0), .second, .val (.int p1), .val (.int p2), .val (.long (((((((m0 ||| m1) ||| m2) ||| m3) ||| m4) ||| m5) ||| m6) ||| m7)), .second, .unset, .unset, .unset] [(.int (4 : Int32)), (.int p1), (.long q0), (.long (((at0 ||| at1) ||| at2) ||| at3))]) _
  obtain ⟨_, _, ⟨T13, L13, k13, n13⟩, -, X13, ⟨Lc13, hQ13, l13, y13, z13⟩, st13⟩ := Jvm.LawKit.callS X12t hx (y := (⟨"com/example/excedent/excedent/io/EightBytesDigitsPinLaw", "at", "(JII)J"⟩ : MethodName)) hown (mvT hZ (hw _ (List.mem_of_getElem? (i := 5) rfl))) (mvT hZ (hw _ (List.mem_of_getElem? (i := 6) rfl))) (mvT hZ (hw _ (List.mem_of_getElem? (i := 2) rfl))) (mvT hZ (hw _ (List.mem_of_getElem? (i := 7) rfl))) (by decide) (backOf (W := 2) (rmAt l Z a0 hw [] q0 p1 ((4 : Int32)) 32 h0 n0 Z0 (by decide) (by decide)) hZ (hw _ (List.mem_of_getElem? (i := 7) rfl)) (hw _ (List.mem_of_getElem? (i := 2) rfl)) (by decide) (by decide)) (g := (mkF m 81 #[.val (.long q0), .second, .val (.int p1), .val (.int p2), .val (.long (((((((m0 ||| m1) ||| m2) ||| m3) ||| m4) ||| m5) ||| m6) ||| m7)), .second, .unset, .unset, .unset] [(.int (4 : Int32)), (.int p1), (.long q0), (.long (((at0 ||| at1) ||| at2) ||| at3))])) rfl (by rw [hml]; rfl) (argsL := [(.long q0), (.int p1), (.int (4 : Int32))]) (rest := [(.long (((at0 ||| at1) ||| at2) ||| at3))]) (lenOf pd_1 rfl) rfl (by show 2 * 0 + _ ≤ _; exact Nat.le_of_eq rfl) (hb hby at_81) (fun _ _ => ⟨rfl, eT12t, (by decide : 0 + 0 ≤ _), (by decide : 0 + 0 ≤ _)⟩)
  dsimp only [Pt.U, Pt.locs, Pt.cells, Pt.slots] at X13 l13 y13 z13 st13 hQ13
  replace y13 : k13 = 0 := y13
  replace z13 : n13 = 0 := z13
  subst l13 y13 z13
  refine own_go st13 ?_
  obtain ⟨at4, rfl, hat4, N13q, eh13⟩ := hQ13
  have N13 := Fr.app N12t N13q
  show own_Ends p e below T13 (mkF m 84 #[.val (.long q0), .second, .val (.int p1), .val (.int p2), .val (.long (((((((m0 ||| m1) ||| m2) ||| m3) ||| m4) ||| m5) ||| m6) ||| m7)), .second, .unset, .unset, .unset] [(.long at4), (.long (((at0 ||| at1) ||| at2) ||| at3))]) _
  suffices Jt13 : ∀ (T_ : State) (L_ : List Loc), Stand p l e room_1 s m #[(.long q0), (.int p1), (.int p2)] below meth c T_ L_ 0 0 → T_.heap = h0 → Fr n0 L_ → own_Ends p e below T_ (mkF m 84 #[.val (.long q0), .second, .val (.int p1), .val (.int p2), .val (.long (((((((m0 ||| m1) ||| m2) ||| m3) ||| m4) ||| m5) ||| m6) ||| m7)), .second, .unset, .unset, .unset] [(.long at4), (.long (((at0 ||| at1) ||| at2) ||| at3))]) (fun ou U' => ∃ v L, ou = .returned v ∧ Q_rm0 Z q0 p1 p2 h0 n0 v U'.heap L ∧ FrameEnd s ou U' L room_1.cells room_1.slots) from Jt13 _ _ X13 eh13 N13
  clear st13 X13 N13 N13q eh13
  try clear Lc13
  try clear T13
  try clear N12t
  try clear eT12t
  try clear X12t
  try clear L12t
  try clear T12t
  intro T13t L13t X13t eT13t N13t
  refine own_go (fun _ => XS.lor X13t.here hx rfl (hb hby at_84) rfl) ?_
  show own_Ends p e below T13t (mkF m 85 #[.val (.long q0), .second, .val (.int p1), .val (.int p2), .val (.long (((((((m0 ||| m1) ||| m2) ||| m3) ||| m4) ||| m5) ||| m6) ||| m7)), .second, .unset, .unset, .unset] [(.long ((((at0 ||| at1) ||| at2) ||| at3) ||| at4))]) _
  refine own_go (fun _ => XS.lloadN X13t.here hx rfl (hb hby at_85) rfl) ?_
  show own_Ends p e below T13t (mkF m 86 #[.val (.long q0), .second, .val (.int p1), .val (.int p2), .val (.long (((((((m0 ||| m1) ||| m2) ||| m3) ||| m4) ||| m5) ||| m6) ||| m7)), .second, .unset, .unset, .unset] [(.long q0), (.long ((((at0 ||| at1) ||| at2) ||| at3) ||| at4))]) _
  refine own_go (fun _ => XS.iloadN X13t.here hx rfl (hb hby at_86) rfl) ?_
  show own_Ends p e below T13t (mkF m 87 #[.val (.long q0), .second, .val (.int p1), .val (.int p2), .val (.long (((((((m0 ||| m1) ||| m2) ||| m3) ||| m4) ||| m5) ||| m6) ||| m7)), .second, .unset, .unset, .unset] [(.int p1), (.long q0), (.long ((((at0 ||| at1) ||| at2) ||| at3) ||| at4))]) _
  refine own_go (fun _ => XS.iconst X13t.here hx rfl (hb hby at_87)) ?_
  show own_Ends p e below T13t (mkF m 88 #[.val (.long q0), .second, .val (.int p1), .val (.int p2), .val (.long (((((((m0 ||| m1) ||| m2) ||| m3) ||| m4) ||| m5) ||| m6) ||| m7)), .second, .unset, .unset, .unset] [(.int (5 : Int32)), (.int p1), (.long q0), (.long ((((at0 ||| at1) ||| at2) ||| at3) ||| at4))]) _
  obtain ⟨_, _, ⟨T14, L14, k14, n14⟩, -, X14, ⟨Lc14, hQ14, l14, y14, z14⟩, st14⟩ := Jvm.LawKit.callS X13t hx (y := (⟨"com/example/excedent/excedent/io/EightBytesDigitsPinLaw", "at", "(JII)J"⟩ : MethodName)) hown (mvT hZ (hw _ (List.mem_of_getElem? (i := 5) rfl))) (mvT hZ (hw _ (List.mem_of_getElem? (i := 6) rfl))) (mvT hZ (hw _ (List.mem_of_getElem? (i := 2) rfl))) (mvT hZ (hw _ (List.mem_of_getElem? (i := 7) rfl))) (by decide) (backOf (W := 2) (rmAt l Z a0 hw [] q0 p1 ((5 : Int32)) 40 h0 n0 Z0 (by decide) (by decide)) hZ (hw _ (List.mem_of_getElem? (i := 7) rfl)) (hw _ (List.mem_of_getElem? (i := 2) rfl)) (by decide) (by decide)) (g := (mkF m 88 #[.val (.long q0), .second, .val (.int p1), .val (.int p2), .val (.long (((((((m0 ||| m1) ||| m2) ||| m3) ||| m4) ||| m5) ||| m6) ||| m7)), .second, .unset, .unset, .unset] [(.int (5 : Int32)), (.int p1), (.long q0), (.long ((((at0 ||| at1) ||| at2) ||| at3) ||| at4))])) rfl (by rw [hml]; rfl) (argsL := [(.long q0), (.int p1), (.int (5 : Int32))]) (rest := [(.long ((((at0 ||| at1) ||| at2) ||| at3) ||| at4))]) (lenOf pd_1 rfl) rfl (by show 2 * 0 + _ ≤ _; exact Nat.le_of_eq rfl) (hb hby at_88) (fun _ _ => ⟨rfl, eT13t, (by decide : 0 + 0 ≤ _), (by decide : 0 + 0 ≤ _)⟩)
  dsimp only [Pt.U, Pt.locs, Pt.cells, Pt.slots] at X14 l14 y14 z14 st14 hQ14
  replace y14 : k14 = 0 := y14
  replace z14 : n14 = 0 := z14
  subst l14 y14 z14
  refine own_go st14 ?_
  obtain ⟨at5, rfl, hat5, N14q, eh14⟩ := hQ14
  have N14 := Fr.app N13t N14q
  show own_Ends p e below T14 (mkF m 91 #[.val (.long q0), .second, .val (.int p1), .val (.int p2), .val (.long (((((((m0 ||| m1) ||| m2) ||| m3) ||| m4) ||| m5) ||| m6) ||| m7)), .second, .unset, .unset, .unset] [(.long at5), (.long ((((at0 ||| at1) ||| at2) ||| at3) ||| at4))]) _
  suffices Jt14 : ∀ (T_ : State) (L_ : List Loc), Stand p l e room_1 s m #[(.long q0), (.int p1), (.int p2)] below meth c T_ L_ 0 0 → T_.heap = h0 → Fr n0 L_ → own_Ends p e below T_ (mkF m 91 #[.val (.long q0), .second, .val (.int p1), .val (.int p2), .val (.long (((((((m0 ||| m1) ||| m2) ||| m3) ||| m4) ||| m5) ||| m6) ||| m7)), .second, .unset, .unset, .unset] [(.long at5), (.long ((((at0 ||| at1) ||| at2) ||| at3) ||| at4))]) (fun ou U' => ∃ v L, ou = .returned v ∧ Q_rm0 Z q0 p1 p2 h0 n0 v U'.heap L ∧ FrameEnd s ou U' L room_1.cells room_1.slots) from Jt14 _ _ X14 eh14 N14
  clear st14 X14 N14 N14q eh14
  try clear Lc14
  try clear T14
  try clear N13t
  try clear eT13t
  try clear X13t
  try clear L13t
  try clear T13t
  intro T14t L14t X14t eT14t N14t
  refine own_go (fun _ => XS.lor X14t.here hx rfl (hb hby at_91) rfl) ?_
  show own_Ends p e below T14t (mkF m 92 #[.val (.long q0), .second, .val (.int p1), .val (.int p2), .val (.long (((((((m0 ||| m1) ||| m2) ||| m3) ||| m4) ||| m5) ||| m6) ||| m7)), .second, .unset, .unset, .unset] [(.long (((((at0 ||| at1) ||| at2) ||| at3) ||| at4) ||| at5))]) _
  refine own_go (fun _ => XS.lloadN X14t.here hx rfl (hb hby at_92) rfl) ?_
  show own_Ends p e below T14t (mkF m 93 #[.val (.long q0), .second, .val (.int p1), .val (.int p2), .val (.long (((((((m0 ||| m1) ||| m2) ||| m3) ||| m4) ||| m5) ||| m6) ||| m7)), .second, .unset, .unset, .unset] [(.long q0), (.long (((((at0 ||| at1) ||| at2) ||| at3) ||| at4) ||| at5))]) _
  refine own_go (fun _ => XS.iloadN X14t.here hx rfl (hb hby at_93) rfl) ?_
  show own_Ends p e below T14t (mkF m 94 #[.val (.long q0), .second, .val (.int p1), .val (.int p2), .val (.long (((((((m0 ||| m1) ||| m2) ||| m3) ||| m4) ||| m5) ||| m6) ||| m7)), .second, .unset, .unset, .unset] [(.int p1), (.long q0), (.long (((((at0 ||| at1) ||| at2) ||| at3) ||| at4) ||| at5))]) _
  refine own_go (fun _ => XS.bipush X14t.here hx rfl (hb hby at_94)) ?_
  show own_Ends p e below T14t (mkF m 96 #[.val (.long q0), .second, .val (.int p1), .val (.int p2), .val (.long (((((((m0 ||| m1) ||| m2) ||| m3) ||| m4) ||| m5) ||| m6) ||| m7)), .second, .unset, .unset, .unset] [(.int (6 : Int32)), (.int p1), (.long q0), (.long (((((at0 ||| at1) ||| at2) ||| at3) ||| at4) ||| at5))]) _
  obtain ⟨_, _, ⟨T15, L15, k15, n15⟩, -, X15, ⟨Lc15, hQ15, l15, y15, z15⟩, st15⟩ := Jvm.LawKit.callS X14t hx (y := (⟨"com/example/excedent/excedent/io/EightBytesDigitsPinLaw", "at", "(JII)J"⟩ : MethodName)) hown (mvT hZ (hw _ (List.mem_of_getElem? (i := 5) rfl))) (mvT hZ (hw _ (List.mem_of_getElem? (i := 6) rfl))) (mvT hZ (hw _ (List.mem_of_getElem? (i := 2) rfl))) (mvT hZ (hw _ (List.mem_of_getElem? (i := 7) rfl))) (by decide) (backOf (W := 2) (rmAt l Z a0 hw [] q0 p1 ((6 : Int32)) 48 h0 n0 Z0 (by decide) (by decide)) hZ (hw _ (List.mem_of_getElem? (i := 7) rfl)) (hw _ (List.mem_of_getElem? (i := 2) rfl)) (by decide) (by decide)) (g := (mkF m 96 #[.val (.long q0), .second, .val (.int p1), .val (.int p2), .val (.long (((((((m0 ||| m1) ||| m2) ||| m3) ||| m4) ||| m5) ||| m6) ||| m7)), .second, .unset, .unset, .unset] [(.int (6 : Int32)), (.int p1), (.long q0), (.long (((((at0 ||| at1) ||| at2) ||| at3) ||| at4) ||| at5))])) rfl (by rw [hml]; rfl) (argsL := [(.long q0), (.int p1), (.int (6 : Int32))]) (rest := [(.long (((((at0 ||| at1) ||| at2) ||| at3) ||| at4) ||| at5))]) (lenOf pd_1 rfl) rfl (by show 2 * 0 + _ ≤ _; exact Nat.le_of_eq rfl) (hb hby at_96) (fun _ _ => ⟨rfl, eT14t, (by decide : 0 + 0 ≤ _), (by decide : 0 + 0 ≤ _)⟩)
  dsimp only [Pt.U, Pt.locs, Pt.cells, Pt.slots] at X15 l15 y15 z15 st15 hQ15
  replace y15 : k15 = 0 := y15
  replace z15 : n15 = 0 := z15
  subst l15 y15 z15
  refine own_go st15 ?_
  obtain ⟨at6, rfl, hat6, N15q, eh15⟩ := hQ15
  have N15 := Fr.app N14t N15q
  show own_Ends p e below T15 (mkF m 99 #[.val (.long q0), .second, .val (.int p1), .val (.int p2), .val (.long (((((((m0 ||| m1) ||| m2) ||| m3) ||| m4) ||| m5) ||| m6) ||| m7)), .second, .unset, .unset, .unset] [(.long at6), (.long (((((at0 ||| at1) ||| at2) ||| at3) ||| at4) ||| at5))]) _
  suffices Jt15 : ∀ (T_ : State) (L_ : List Loc), Stand p l e room_1 s m #[(.long q0), (.int p1), (.int p2)] below meth c T_ L_ 0 0 → T_.heap = h0 → Fr n0 L_ → own_Ends p e below T_ (mkF m 99 #[.val (.long q0), .second, .val (.int p1), .val (.int p2), .val (.long (((((((m0 ||| m1) ||| m2) ||| m3) ||| m4) ||| m5) ||| m6) ||| m7)), .second, .unset, .unset, .unset] [(.long at6), (.long (((((at0 ||| at1) ||| at2) ||| at3) ||| at4) ||| at5))]) (fun ou U' => ∃ v L, ou = .returned v ∧ Q_rm0 Z q0 p1 p2 h0 n0 v U'.heap L ∧ FrameEnd s ou U' L room_1.cells room_1.slots) from Jt15 _ _ X15 eh15 N15
  clear st15 X15 N15 N15q eh15
  try clear Lc15
  try clear T15
  try clear N14t
  try clear eT14t
  try clear X14t
  try clear L14t
  try clear T14t
  intro T15t L15t X15t eT15t N15t
  refine own_go (fun _ => XS.lor X15t.here hx rfl (hb hby at_99) rfl) ?_
  show own_Ends p e below T15t (mkF m 100 #[.val (.long q0), .second, .val (.int p1), .val (.int p2), .val (.long (((((((m0 ||| m1) ||| m2) ||| m3) ||| m4) ||| m5) ||| m6) ||| m7)), .second, .unset, .unset, .unset] [(.long ((((((at0 ||| at1) ||| at2) ||| at3) ||| at4) ||| at5) ||| at6))]) _
  refine own_go (fun _ => XS.lloadN X15t.here hx rfl (hb hby at_100) rfl) ?_
  show own_Ends p e below T15t (mkF m 101 #[.val (.long q0), .second, .val (.int p1), .val (.int p2), .val (.long (((((((m0 ||| m1) ||| m2) ||| m3) ||| m4) ||| m5) ||| m6) ||| m7)), .second, .unset, .unset, .unset] [(.long q0), (.long ((((((at0 ||| at1) ||| at2) ||| at3) ||| at4) ||| at5) ||| at6))]) _
  refine own_go (fun _ => XS.iloadN X15t.here hx rfl (hb hby at_101) rfl) ?_
  show own_Ends p e below T15t (mkF m 102 #[.val (.long q0), .second, .val (.int p1), .val (.int p2), .val (.long (((((((m0 ||| m1) ||| m2) ||| m3) ||| m4) ||| m5) ||| m6) ||| m7)), .second, .unset, .unset, .unset] [(.int p1), (.long q0), (.long ((((((at0 ||| at1) ||| at2) ||| at3) ||| at4) ||| at5) ||| at6))]) _
  refine own_go (fun _ => XS.bipush X15t.here hx rfl (hb hby at_102)) ?_
  show own_Ends p e below T15t (mkF m 104 #[.val (.long q0), .second, .val (.int p1), .val (.int p2), .val (.long (((((((m0 ||| m1) ||| m2) ||| m3) ||| m4) ||| m5) ||| m6) ||| m7)), .second, .unset, .unset, .unset] [(.int (7 : Int32)), (.int p1), (.long q0), (.long ((((((at0 ||| at1) ||| at2) ||| at3) ||| at4) ||| at5) ||| at6))]) _
  obtain ⟨_, _, ⟨T16, L16, k16, n16⟩, -, X16, ⟨Lc16, hQ16, l16, y16, z16⟩, st16⟩ := Jvm.LawKit.callS X15t hx (y := (⟨"com/example/excedent/excedent/io/EightBytesDigitsPinLaw", "at", "(JII)J"⟩ : MethodName)) hown (mvT hZ (hw _ (List.mem_of_getElem? (i := 5) rfl))) (mvT hZ (hw _ (List.mem_of_getElem? (i := 6) rfl))) (mvT hZ (hw _ (List.mem_of_getElem? (i := 2) rfl))) (mvT hZ (hw _ (List.mem_of_getElem? (i := 7) rfl))) (by decide) (backOf (W := 2) (rmAt l Z a0 hw [] q0 p1 ((7 : Int32)) 56 h0 n0 Z0 (by decide) (by decide)) hZ (hw _ (List.mem_of_getElem? (i := 7) rfl)) (hw _ (List.mem_of_getElem? (i := 2) rfl)) (by decide) (by decide)) (g := (mkF m 104 #[.val (.long q0), .second, .val (.int p1), .val (.int p2), .val (.long (((((((m0 ||| m1) ||| m2) ||| m3) ||| m4) ||| m5) ||| m6) ||| m7)), .second, .unset, .unset, .unset] [(.int (7 : Int32)), (.int p1), (.long q0), (.long ((((((at0 ||| at1) ||| at2) ||| at3) ||| at4) ||| at5) ||| at6))])) rfl (by rw [hml]; rfl) (argsL := [(.long q0), (.int p1), (.int (7 : Int32))]) (rest := [(.long ((((((at0 ||| at1) ||| at2) ||| at3) ||| at4) ||| at5) ||| at6))]) (lenOf pd_1 rfl) rfl (by show 2 * 0 + _ ≤ _; exact Nat.le_of_eq rfl) (hb hby at_104) (fun _ _ => ⟨rfl, eT15t, (by decide : 0 + 0 ≤ _), (by decide : 0 + 0 ≤ _)⟩)
  dsimp only [Pt.U, Pt.locs, Pt.cells, Pt.slots] at X16 l16 y16 z16 st16 hQ16
  replace y16 : k16 = 0 := y16
  replace z16 : n16 = 0 := z16
  subst l16 y16 z16
  refine own_go st16 ?_
  obtain ⟨at7, rfl, hat7, N16q, eh16⟩ := hQ16
  have N16 := Fr.app N15t N16q
  show own_Ends p e below T16 (mkF m 107 #[.val (.long q0), .second, .val (.int p1), .val (.int p2), .val (.long (((((((m0 ||| m1) ||| m2) ||| m3) ||| m4) ||| m5) ||| m6) ||| m7)), .second, .unset, .unset, .unset] [(.long at7), (.long ((((((at0 ||| at1) ||| at2) ||| at3) ||| at4) ||| at5) ||| at6))]) _
  suffices Jt16 : ∀ (T_ : State) (L_ : List Loc), Stand p l e room_1 s m #[(.long q0), (.int p1), (.int p2)] below meth c T_ L_ 0 0 → T_.heap = h0 → Fr n0 L_ → own_Ends p e below T_ (mkF m 107 #[.val (.long q0), .second, .val (.int p1), .val (.int p2), .val (.long (((((((m0 ||| m1) ||| m2) ||| m3) ||| m4) ||| m5) ||| m6) ||| m7)), .second, .unset, .unset, .unset] [(.long at7), (.long ((((((at0 ||| at1) ||| at2) ||| at3) ||| at4) ||| at5) ||| at6))]) (fun ou U' => ∃ v L, ou = .returned v ∧ Q_rm0 Z q0 p1 p2 h0 n0 v U'.heap L ∧ FrameEnd s ou U' L room_1.cells room_1.slots) from Jt16 _ _ X16 eh16 N16
  clear st16 X16 N16 N16q eh16
  try clear Lc16
  try clear T16
  try clear N15t
  try clear eT15t
  try clear X15t
  try clear L15t
  try clear T15t
  intro T16t L16t X16t eT16t N16t
  refine own_go (fun _ => XS.lor X16t.here hx rfl (hb hby at_107) rfl) ?_
  show own_Ends p e below T16t (mkF m 108 #[.val (.long q0), .second, .val (.int p1), .val (.int p2), .val (.long (((((((m0 ||| m1) ||| m2) ||| m3) ||| m4) ||| m5) ||| m6) ||| m7)), .second, .unset, .unset, .unset] [(.long (((((((at0 ||| at1) ||| at2) ||| at3) ||| at4) ||| at5) ||| at6) ||| at7))]) _
  refine own_go (fun _ => XS.lload X16t.here hx rfl (hb hby at_108) rfl) ?_
  show own_Ends p e below T16t (mkF m 110 #[.val (.long q0), .second, .val (.int p1), .val (.int p2), .val (.long (((((((m0 ||| m1) ||| m2) ||| m3) ||| m4) ||| m5) ||| m6) ||| m7)), .second, .unset, .unset, .unset] [(.long (((((((m0 ||| m1) ||| m2) ||| m3) ||| m4) ||| m5) ||| m6) ||| m7)), (.long (((((((at0 ||| at1) ||| at2) ||| at3) ||| at4) ||| at5) ||| at6) ||| at7))]) _
  refine own_go (fun _ => XS.land X16t.here hx rfl (hb hby at_110) rfl) ?_
  show own_Ends p e below T16t (mkF m 111 #[.val (.long q0), .second, .val (.int p1), .val (.int p2), .val (.long (((((((m0 ||| m1) ||| m2) ||| m3) ||| m4) ||| m5) ||| m6) ||| m7)), .second, .unset, .unset, .unset] [(.long ((((((((at0 ||| at1) ||| at2) ||| at3) ||| at4) ||| at5) ||| at6) ||| at7) &&& (((((((m0 ||| m1) ||| m2) ||| m3) ||| m4) ||| m5) ||| m6) ||| m7)))]) _
  refine own_go (fun _ => XS.lstore X16t.here hx rfl (hb hby at_111) rfl (l' := #[.val (.long q0), .second, .val (.int p1), .val (.int p2), .val (.long (((((((m0 ||| m1) ||| m2) ||| m3) ||| m4) ||| m5) ||| m6) ||| m7)), .second, .val (.long ((((((((at0 ||| at1) ||| at2) ||| at3) ||| at4) ||| at5) ||| at6) ||| at7) &&& (((((((m0 ||| m1) ||| m2) ||| m3) ||| m4) ||| m5) ||| m6) ||| m7))), .second, .unset]) rfl) ?_
  show own_Ends p e below T16t (mkF m 113 #[.val (.long q0), .second, .val (.int p1), .val (.int p2), .val (.long (((((((m0 ||| m1) ||| m2) ||| m3) ||| m4) ||| m5) ||| m6) ||| m7)), .second, .val (.long ((((((((at0 ||| at1) ||| at2) ||| at3) ||| at4) ||| at5) ||| at6) ||| at7) &&& (((((((m0 ||| m1) ||| m2) ||| m3) ||| m4) ||| m5) ||| m6) ||| m7))), .second, .unset] []) _
  have hrep : own_rep (((((((((at0 ||| at1) ||| at2) ||| at3) ||| at4) ||| at5) ||| at6) ||| at7) &&& (((((((m0 ||| m1) ||| m2) ||| m3) ||| m4) ||| m5) ||| m6) ||| m7))) ((((((((m0 ||| m1) ||| m2) ||| m3) ||| m4) ||| m5) ||| m6) ||| m7)) := own_made hat0 hat1 hat2 hat3 hat4 hat5 hat6 hat7 hm0 hm1 hm2 hm3 hm4 hm5 hm6 hm7
  generalize gx : ((((((((at0 ||| at1) ||| at2) ||| at3) ||| at4) ||| at5) ||| at6) ||| at7) &&& (((((((m0 ||| m1) ||| m2) ||| m3) ||| m4) ||| m5) ||| m6) ||| m7)) = x at hrep ⊢
  generalize gb : (((((((m0 ||| m1) ||| m2) ||| m3) ||| m4) ||| m5) ||| m6) ||| m7) = b at hrep ⊢
  have J210 : ∀ (T_ : State) (L_ : List Loc), Stand p l e room_1 s m #[(.long q0), (.int p1), (.int p2)] below meth c T_ L_ 0 0 → T_.heap = h0 → Fr n0 L_ → ∀ (e_ : Int32), own_dg x b = e_ → own_Ends p e below T_ (mkF m 210 #[.val (.long q0), .second, .val (.int p1), .val (.int p2), .val (.long b), .second, .val (.long x), .second, .val (.int e_)] []) (fun ou U' => ∃ v L, ou = .returned v ∧ Q_rm0 Z q0 p1 p2 h0 n0 v U'.heap L ∧ FrameEnd s ou U' L room_1.cells room_1.slots) := by
    intro T_ L_ X_ eT_ N_ e_ he
    show own_Ends p e below T_ (mkF m 210 #[.val (.long q0), .second, .val (.int p1), .val (.int p2), .val (.long b), .second, .val (.long x), .second, .val (.int e_)] []) _
    refine own_go (fun _ => XS.lload X_.here hx rfl (hb hby at_210) rfl) ?_
    show own_Ends p e below T_ (mkF m 212 #[.val (.long q0), .second, .val (.int p1), .val (.int p2), .val (.long b), .second, .val (.long x), .second, .val (.int e_)] [(.long x)]) _
    refine own_go (fun _ => XS.lload X_.here hx rfl (hb hby at_212) rfl) ?_
    show own_Ends p e below T_ (mkF m 214 #[.val (.long q0), .second, .val (.int p1), .val (.int p2), .val (.long b), .second, .val (.long x), .second, .val (.int e_)] [(.long b), (.long x)]) _
    obtain ⟨_, _, ⟨T17, L17, k17, n17⟩, -, X17, ⟨Lc17, hQ17, l17, y17, z17⟩, st17⟩ := Jvm.LawKit.callS X_ hx (y := (⟨"com/example/excedent/excedent/io/EightBytes", "digits", "(JJ)Z"⟩ : MethodName)) hown (mvT hZ (hw _ (List.mem_of_getElem? (i := 11) rfl))) (mvT hZ (hw _ (List.mem_of_getElem? (i := 12) rfl))) (mvT hZ (hw _ (List.mem_of_getElem? (i := 13) rfl))) (mvT hZ (hw _ (List.mem_of_getElem? (i := 14) rfl))) (by decide) (backOf (W := 0) (rmDg l Z a0 hw [] x b  h0 n0 Z0 ) hZ (hw _ (List.mem_of_getElem? (i := 14) rfl)) (hw _ (List.mem_of_getElem? (i := 13) rfl)) (by decide) (by decide)) (g := (mkF m 214 #[.val (.long q0), .second, .val (.int p1), .val (.int p2), .val (.long b), .second, .val (.long x), .second, .val (.int e_)] [(.long b), (.long x)])) rfl (by rw [hml]; rfl) (argsL := [(.long x), (.long b)]) (rest := []) (lenOf pd_2 rfl) rfl (by show 2 * 0 + _ ≤ _; exact Nat.le_of_eq rfl) (hb hby at_214) (fun _ _ => ⟨rfl, eT_, (by decide : 0 + 0 ≤ _), (by decide : 0 + 0 ≤ _)⟩)
    dsimp only [Pt.U, Pt.locs, Pt.cells, Pt.slots] at X17 l17 y17 z17 st17 hQ17
    replace y17 : k17 = 0 := y17
    replace z17 : n17 = 0 := z17
    subst l17 y17 z17
    refine own_go st17 ?_
    obtain ⟨zz17, rfl, hzz17, N17q, eh17⟩ := hQ17
    have N17 := Fr.app N_ N17q
    show own_Ends p e below T17 (mkF m 217 #[.val (.long q0), .second, .val (.int p1), .val (.int p2), .val (.long b), .second, .val (.long x), .second, .val (.int e_)] [(.int zz17)]) _
    suffices Jt17 : ∀ (T_ : State) (L_ : List Loc), Stand p l e room_1 s m #[(.long q0), (.int p1), (.int p2)] below meth c T_ L_ 0 0 → T_.heap = h0 → Fr n0 L_ → own_Ends p e below T_ (mkF m 217 #[.val (.long q0), .second, .val (.int p1), .val (.int p2), .val (.long b), .second, .val (.long x), .second, .val (.int e_)] [(.int zz17)]) (fun ou U' => ∃ v L, ou = .returned v ∧ Q_rm0 Z q0 p1 p2 h0 n0 v U'.heap L ∧ FrameEnd s ou U' L room_1.cells room_1.slots) from Jt17 _ _ X17 eh17 N17
    clear st17 X17 N17 N17q eh17
    try clear Lc17
    try clear T17
    try clear N16t
    try clear eT16t
    try clear X16t
    try clear L16t
    try clear T16t
    intro T17t L17t X17t eT17t N17t
    refine own_go (fun _ => XS.iload X17t.here hx rfl (hb hby at_217) rfl) ?_
    show own_Ends p e below T17t (mkF m 219 #[.val (.long q0), .second, .val (.int p1), .val (.int p2), .val (.long b), .second, .val (.long x), .second, .val (.int e_)] [(.int e_), (.int zz17)]) _
    refine own_go (fun _ => XS.icmpNo X17t.here hx rfl (hb hby at_219) rfl (teq (show zz17 = e_ from hzz17.trans he)).2) ?_
    show own_Ends p e below T17t (mkF m 222 #[.val (.long q0), .second, .val (.int p1), .val (.int p2), .val (.long b), .second, .val (.long x), .second, .val (.int e_)] []) _
    refine own_go (fun _ => XS.iconst X17t.here hx rfl (hb hby at_222)) ?_
    show own_Ends p e below T17t (mkF m 223 #[.val (.long q0), .second, .val (.int p1), .val (.int p2), .val (.long b), .second, .val (.long x), .second, .val (.int e_)] [(.int (1 : Int32))]) _
    refine own_go (fun _ => XS.goto X17t.here hx rfl (pc0 := 223) (pc' := 227) rfl (hb hby at_223) (by decide) (by decide)) ?_
    show own_Ends p e below T17t (mkF m 227 #[.val (.long q0), .second, .val (.int p1), .val (.int p2), .val (.long b), .second, .val (.long x), .second, .val (.int e_)] [(.int (1 : Int32))]) _
    obtain ⟨fs, hr, hrun, hended, hW, hsame⟩ := X17t.leave (v := some (.int (1 : Int32))) (fun h => by rw [Bd.returns] at h; cases h)
    refine ⟨_, _, retN X17t hx (t := .boolean) Bd.returns (by simp) (hb hby at_227) hr, hrun, hended, _, _, rfl, ?_, ⟨_, rfl⟩, hW, hsame.mono (by decide) (by decide)⟩
    show Q_rm0 Z q0 p1 p2 h0 n0 _ T17t.heap _
    rw [eT17t]
    exact ⟨rfl, N17t⟩
  refine own_go (fun _ => XS.lload X16t.here hx rfl (hb hby at_113) rfl) ?_
  show own_Ends p e below T16t (mkF m 115 #[.val (.long q0), .second, .val (.int p1), .val (.int p2), .val (.long b), .second, .val (.long x), .second, .unset] [(.long x)]) _
  refine own_go (fun _ => XS.lload X16t.here hx rfl (hb hby at_115) rfl) ?_
  show own_Ends p e below T16t (mkF m 117 #[.val (.long q0), .second, .val (.int p1), .val (.int p2), .val (.long b), .second, .val (.long x), .second, .unset] [(.long b), (.long x)]) _
  refine own_go (fun _ => XS.iconst X16t.here hx rfl (hb hby at_117)) ?_
  show own_Ends p e below T16t (mkF m 118 #[.val (.long q0), .second, .val (.int p1), .val (.int p2), .val (.long b), .second, .val (.long x), .second, .unset] [(.int (0 : Int32)), (.long b), (.long x)]) _
  obtain ⟨_, _, ⟨T18, L18, k18, n18⟩, -, X18, ⟨Lc18, hQ18, l18, y18, z18⟩, st18⟩ := Jvm.LawKit.callS X16t hx (y := (⟨"com/example/excedent/excedent/io/EightBytesDigitsPinLaw", "ok", "(JJI)Z"⟩ : MethodName)) hown (mvT hZ (hw _ (List.mem_of_getElem? (i := 8) rfl))) (mvT hZ (hw _ (List.mem_of_getElem? (i := 9) rfl))) (mvT hZ (hw _ (List.mem_of_getElem? (i := 2) rfl))) (mvT hZ (hw _ (List.mem_of_getElem? (i := 10) rfl))) (by decide) (backOf (W := 0) (rmOk l Z a0 hw [] x b ((0 : Int32))  h0 n0 Z0 ) hZ (hw _ (List.mem_of_getElem? (i := 10) rfl)) (hw _ (List.mem_of_getElem? (i := 2) rfl)) (by decide) (by decide)) (g := (mkF m 118 #[.val (.long q0), .second, .val (.int p1), .val (.int p2), .val (.long b), .second, .val (.long x), .second, .unset] [(.int (0 : Int32)), (.long b), (.long x)])) rfl (by rw [hml]; rfl) (argsL := [(.long x), (.long b), (.int (0 : Int32))]) (rest := []) (lenOf pd_3 rfl) rfl (by show 2 * 0 + _ ≤ _; exact Nat.le_of_eq rfl) (hb hby at_118) (fun _ _ => ⟨rfl, eT16t, (by decide : 0 + 0 ≤ _), (by decide : 0 + 0 ≤ _)⟩)
  dsimp only [Pt.U, Pt.locs, Pt.cells, Pt.slots] at X18 l18 y18 z18 st18 hQ18
  replace y18 : k18 = 0 := y18
  replace z18 : n18 = 0 := z18
  subst l18 y18 z18
  refine own_go st18 ?_
  obtain ⟨zz18, rfl, hzz18, N18q, eh18⟩ := hQ18
  have N18 := Fr.app N16t N18q
  show own_Ends p e below T18 (mkF m 121 #[.val (.long q0), .second, .val (.int p1), .val (.int p2), .val (.long b), .second, .val (.long x), .second, .unset] [(.int zz18)]) _
  suffices Jt18 : ∀ (T_ : State) (L_ : List Loc), Stand p l e room_1 s m #[(.long q0), (.int p1), (.int p2)] below meth c T_ L_ 0 0 → T_.heap = h0 → Fr n0 L_ → own_Ends p e below T_ (mkF m 121 #[.val (.long q0), .second, .val (.int p1), .val (.int p2), .val (.long b), .second, .val (.long x), .second, .unset] [(.int zz18)]) (fun ou U' => ∃ v L, ou = .returned v ∧ Q_rm0 Z q0 p1 p2 h0 n0 v U'.heap L ∧ FrameEnd s ou U' L room_1.cells room_1.slots) from Jt18 _ _ X18 eh18 N18
  clear st18 X18 N18 N18q eh18
  try clear Lc18
  try clear T18
  try clear N16t
  try clear eT16t
  try clear X16t
  try clear L16t
  try clear T16t
  intro T18t L18t X18t eT18t N18t
  by_cases hc121 : zz18 = (0 : Int32)
  · refine own_go (fun _ => XS.ifYes X18t.here hx rfl (pc0 := 121) (pc' := 207) rfl (hb hby at_121) rfl ((if0 _ _).trans (teq hc121).1) (by decide) (by decide)) ?_
    show own_Ends p e below T18t (mkF m 207 #[.val (.long q0), .second, .val (.int p1), .val (.int p2), .val (.long b), .second, .val (.long x), .second, .unset] []) _
    refine own_go (fun _ => XS.iconst X18t.here hx rfl (hb hby at_207)) ?_
    show own_Ends p e below T18t (mkF m 208 #[.val (.long q0), .second, .val (.int p1), .val (.int p2), .val (.long b), .second, .val (.long x), .second, .unset] [(.int (0 : Int32))]) _
    refine own_go (fun _ => XS.istore X18t.here hx rfl (hb hby at_208) rfl (l' := #[.val (.long q0), .second, .val (.int p1), .val (.int p2), .val (.long b), .second, .val (.long x), .second, .val (.int (0 : Int32))]) rfl) ?_
    show own_Ends p e below T18t (mkF m 210 #[.val (.long q0), .second, .val (.int p1), .val (.int p2), .val (.long b), .second, .val (.long x), .second, .val (.int (0 : Int32))] []) _
    exact J210 _ _ X18t eT18t N18t _ (own_no hrep (Or.inl (own_e0 hzz18 hc121)))
  · refine own_go (fun _ => XS.ifNo X18t.here hx rfl (hb hby at_121) rfl ((if0 _ _).trans (feq hc121).1)) ?_
    show own_Ends p e below T18t (mkF m 124 #[.val (.long q0), .second, .val (.int p1), .val (.int p2), .val (.long b), .second, .val (.long x), .second, .unset] []) _
    refine own_go (fun _ => XS.lload X18t.here hx rfl (hb hby at_124) rfl) ?_
    show own_Ends p e below T18t (mkF m 126 #[.val (.long q0), .second, .val (.int p1), .val (.int p2), .val (.long b), .second, .val (.long x), .second, .unset] [(.long x)]) _
    refine own_go (fun _ => XS.lload X18t.here hx rfl (hb hby at_126) rfl) ?_
    show own_Ends p e below T18t (mkF m 128 #[.val (.long q0), .second, .val (.int p1), .val (.int p2), .val (.long b), .second, .val (.long x), .second, .unset] [(.long b), (.long x)]) _
    refine own_go (fun _ => XS.iconst X18t.here hx rfl (hb hby at_128)) ?_
    show own_Ends p e below T18t (mkF m 129 #[.val (.long q0), .second, .val (.int p1), .val (.int p2), .val (.long b), .second, .val (.long x), .second, .unset] [(.int (1 : Int32)), (.long b), (.long x)]) _
    obtain ⟨_, _, ⟨T19, L19, k19, n19⟩, -, X19, ⟨Lc19, hQ19, l19, y19, z19⟩, st19⟩ := Jvm.LawKit.callS X18t hx (y := (⟨"com/example/excedent/excedent/io/EightBytesDigitsPinLaw", "ok", "(JJI)Z"⟩ : MethodName)) hown (mvT hZ (hw _ (List.mem_of_getElem? (i := 8) rfl))) (mvT hZ (hw _ (List.mem_of_getElem? (i := 9) rfl))) (mvT hZ (hw _ (List.mem_of_getElem? (i := 2) rfl))) (mvT hZ (hw _ (List.mem_of_getElem? (i := 10) rfl))) (by decide) (backOf (W := 0) (rmOk l Z a0 hw [] x b ((1 : Int32))  h0 n0 Z0 ) hZ (hw _ (List.mem_of_getElem? (i := 10) rfl)) (hw _ (List.mem_of_getElem? (i := 2) rfl)) (by decide) (by decide)) (g := (mkF m 129 #[.val (.long q0), .second, .val (.int p1), .val (.int p2), .val (.long b), .second, .val (.long x), .second, .unset] [(.int (1 : Int32)), (.long b), (.long x)])) rfl (by rw [hml]; rfl) (argsL := [(.long x), (.long b), (.int (1 : Int32))]) (rest := []) (lenOf pd_3 rfl) rfl (by show 2 * 0 + _ ≤ _; exact Nat.le_of_eq rfl) (hb hby at_129) (fun _ _ => ⟨rfl, eT18t, (by decide : 0 + 0 ≤ _), (by decide : 0 + 0 ≤ _)⟩)
    dsimp only [Pt.U, Pt.locs, Pt.cells, Pt.slots] at X19 l19 y19 z19 st19 hQ19
    replace y19 : k19 = 0 := y19
    replace z19 : n19 = 0 := z19
    subst l19 y19 z19
    refine own_go st19 ?_
    obtain ⟨zz19, rfl, hzz19, N19q, eh19⟩ := hQ19
    have N19 := Fr.app N18t N19q
    show own_Ends p e below T19 (mkF m 132 #[.val (.long q0), .second, .val (.int p1), .val (.int p2), .val (.long b), .second, .val (.long x), .second, .unset] [(.int zz19)]) _
    suffices Jt19 : ∀ (T_ : State) (L_ : List Loc), Stand p l e room_1 s m #[(.long q0), (.int p1), (.int p2)] below meth c T_ L_ 0 0 → T_.heap = h0 → Fr n0 L_ → own_Ends p e below T_ (mkF m 132 #[.val (.long q0), .second, .val (.int p1), .val (.int p2), .val (.long b), .second, .val (.long x), .second, .unset] [(.int zz19)]) (fun ou U' => ∃ v L, ou = .returned v ∧ Q_rm0 Z q0 p1 p2 h0 n0 v U'.heap L ∧ FrameEnd s ou U' L room_1.cells room_1.slots) from Jt19 _ _ X19 eh19 N19
    clear st19 X19 N19 N19q eh19
    try clear Lc19
    try clear T19
    try clear N18t
    try clear eT18t
    try clear X18t
    try clear L18t
    try clear T18t
    intro T19t L19t X19t eT19t N19t
    by_cases hc132 : zz19 = (0 : Int32)
    · refine own_go (fun _ => XS.ifYes X19t.here hx rfl (pc0 := 132) (pc' := 207) rfl (hb hby at_132) rfl ((if0 _ _).trans (teq hc132).1) (by decide) (by decide)) ?_
      show own_Ends p e below T19t (mkF m 207 #[.val (.long q0), .second, .val (.int p1), .val (.int p2), .val (.long b), .second, .val (.long x), .second, .unset] []) _
      refine own_go (fun _ => XS.iconst X19t.here hx rfl (hb hby at_207)) ?_
      show own_Ends p e below T19t (mkF m 208 #[.val (.long q0), .second, .val (.int p1), .val (.int p2), .val (.long b), .second, .val (.long x), .second, .unset] [(.int (0 : Int32))]) _
      refine own_go (fun _ => XS.istore X19t.here hx rfl (hb hby at_208) rfl (l' := #[.val (.long q0), .second, .val (.int p1), .val (.int p2), .val (.long b), .second, .val (.long x), .second, .val (.int (0 : Int32))]) rfl) ?_
      show own_Ends p e below T19t (mkF m 210 #[.val (.long q0), .second, .val (.int p1), .val (.int p2), .val (.long b), .second, .val (.long x), .second, .val (.int (0 : Int32))] []) _
      exact J210 _ _ X19t eT19t N19t _ (own_no hrep (Or.inr (Or.inl (own_e0 hzz19 hc132))))
    · refine own_go (fun _ => XS.ifNo X19t.here hx rfl (hb hby at_132) rfl ((if0 _ _).trans (feq hc132).1)) ?_
      show own_Ends p e below T19t (mkF m 135 #[.val (.long q0), .second, .val (.int p1), .val (.int p2), .val (.long b), .second, .val (.long x), .second, .unset] []) _
      refine own_go (fun _ => XS.lload X19t.here hx rfl (hb hby at_135) rfl) ?_
      show own_Ends p e below T19t (mkF m 137 #[.val (.long q0), .second, .val (.int p1), .val (.int p2), .val (.long b), .second, .val (.long x), .second, .unset] [(.long x)]) _
      refine own_go (fun _ => XS.lload X19t.here hx rfl (hb hby at_137) rfl) ?_
      show own_Ends p e below T19t (mkF m 139 #[.val (.long q0), .second, .val (.int p1), .val (.int p2), .val (.long b), .second, .val (.long x), .second, .unset] [(.long b), (.long x)]) _
      refine own_go (fun _ => XS.iconst X19t.here hx rfl (hb hby at_139)) ?_
      show own_Ends p e below T19t (mkF m 140 #[.val (.long q0), .second, .val (.int p1), .val (.int p2), .val (.long b), .second, .val (.long x), .second, .unset] [(.int (2 : Int32)), (.long b), (.long x)]) _
      obtain ⟨_, _, ⟨T20, L20, k20, n20⟩, -, X20, ⟨Lc20, hQ20, l20, y20, z20⟩, st20⟩ := Jvm.LawKit.callS X19t hx (y := (⟨"com/example/excedent/excedent/io/EightBytesDigitsPinLaw", "ok", "(JJI)Z"⟩ : MethodName)) hown (mvT hZ (hw _ (List.mem_of_getElem? (i := 8) rfl))) (mvT hZ (hw _ (List.mem_of_getElem? (i := 9) rfl))) (mvT hZ (hw _ (List.mem_of_getElem? (i := 2) rfl))) (mvT hZ (hw _ (List.mem_of_getElem? (i := 10) rfl))) (by decide) (backOf (W := 0) (rmOk l Z a0 hw [] x b ((2 : Int32))  h0 n0 Z0 ) hZ (hw _ (List.mem_of_getElem? (i := 10) rfl)) (hw _ (List.mem_of_getElem? (i := 2) rfl)) (by decide) (by decide)) (g := (mkF m 140 #[.val (.long q0), .second, .val (.int p1), .val (.int p2), .val (.long b), .second, .val (.long x), .second, .unset] [(.int (2 : Int32)), (.long b), (.long x)])) rfl (by rw [hml]; rfl) (argsL := [(.long x), (.long b), (.int (2 : Int32))]) (rest := []) (lenOf pd_3 rfl) rfl (by show 2 * 0 + _ ≤ _; exact Nat.le_of_eq rfl) (hb hby at_140) (fun _ _ => ⟨rfl, eT19t, (by decide : 0 + 0 ≤ _), (by decide : 0 + 0 ≤ _)⟩)
      dsimp only [Pt.U, Pt.locs, Pt.cells, Pt.slots] at X20 l20 y20 z20 st20 hQ20
      replace y20 : k20 = 0 := y20
      replace z20 : n20 = 0 := z20
      subst l20 y20 z20
      refine own_go st20 ?_
      obtain ⟨zz20, rfl, hzz20, N20q, eh20⟩ := hQ20
      have N20 := Fr.app N19t N20q
      show own_Ends p e below T20 (mkF m 143 #[.val (.long q0), .second, .val (.int p1), .val (.int p2), .val (.long b), .second, .val (.long x), .second, .unset] [(.int zz20)]) _
      suffices Jt20 : ∀ (T_ : State) (L_ : List Loc), Stand p l e room_1 s m #[(.long q0), (.int p1), (.int p2)] below meth c T_ L_ 0 0 → T_.heap = h0 → Fr n0 L_ → own_Ends p e below T_ (mkF m 143 #[.val (.long q0), .second, .val (.int p1), .val (.int p2), .val (.long b), .second, .val (.long x), .second, .unset] [(.int zz20)]) (fun ou U' => ∃ v L, ou = .returned v ∧ Q_rm0 Z q0 p1 p2 h0 n0 v U'.heap L ∧ FrameEnd s ou U' L room_1.cells room_1.slots) from Jt20 _ _ X20 eh20 N20
      clear st20 X20 N20 N20q eh20
      try clear Lc20
      try clear T20
      try clear N19t
      try clear eT19t
      try clear X19t
      try clear L19t
      try clear T19t
      intro T20t L20t X20t eT20t N20t
      by_cases hc143 : zz20 = (0 : Int32)
      · refine own_go (fun _ => XS.ifYes X20t.here hx rfl (pc0 := 143) (pc' := 207) rfl (hb hby at_143) rfl ((if0 _ _).trans (teq hc143).1) (by decide) (by decide)) ?_
        show own_Ends p e below T20t (mkF m 207 #[.val (.long q0), .second, .val (.int p1), .val (.int p2), .val (.long b), .second, .val (.long x), .second, .unset] []) _
        refine own_go (fun _ => XS.iconst X20t.here hx rfl (hb hby at_207)) ?_
        show own_Ends p e below T20t (mkF m 208 #[.val (.long q0), .second, .val (.int p1), .val (.int p2), .val (.long b), .second, .val (.long x), .second, .unset] [(.int (0 : Int32))]) _
        refine own_go (fun _ => XS.istore X20t.here hx rfl (hb hby at_208) rfl (l' := #[.val (.long q0), .second, .val (.int p1), .val (.int p2), .val (.long b), .second, .val (.long x), .second, .val (.int (0 : Int32))]) rfl) ?_
        show own_Ends p e below T20t (mkF m 210 #[.val (.long q0), .second, .val (.int p1), .val (.int p2), .val (.long b), .second, .val (.long x), .second, .val (.int (0 : Int32))] []) _
        exact J210 _ _ X20t eT20t N20t _ (own_no hrep (Or.inr (Or.inr (Or.inl (own_e0 hzz20 hc143)))))
      · refine own_go (fun _ => XS.ifNo X20t.here hx rfl (hb hby at_143) rfl ((if0 _ _).trans (feq hc143).1)) ?_
        show own_Ends p e below T20t (mkF m 146 #[.val (.long q0), .second, .val (.int p1), .val (.int p2), .val (.long b), .second, .val (.long x), .second, .unset] []) _
        refine own_go (fun _ => XS.lload X20t.here hx rfl (hb hby at_146) rfl) ?_
        show own_Ends p e below T20t (mkF m 148 #[.val (.long q0), .second, .val (.int p1), .val (.int p2), .val (.long b), .second, .val (.long x), .second, .unset] [(.long x)]) _
        refine own_go (fun _ => XS.lload X20t.here hx rfl (hb hby at_148) rfl) ?_
        show own_Ends p e below T20t (mkF m 150 #[.val (.long q0), .second, .val (.int p1), .val (.int p2), .val (.long b), .second, .val (.long x), .second, .unset] [(.long b), (.long x)]) _
        refine own_go (fun _ => XS.iconst X20t.here hx rfl (hb hby at_150)) ?_
        show own_Ends p e below T20t (mkF m 151 #[.val (.long q0), .second, .val (.int p1), .val (.int p2), .val (.long b), .second, .val (.long x), .second, .unset] [(.int (3 : Int32)), (.long b), (.long x)]) _
        obtain ⟨_, _, ⟨T21, L21, k21, n21⟩, -, X21, ⟨Lc21, hQ21, l21, y21, z21⟩, st21⟩ := Jvm.LawKit.callS X20t hx (y := (⟨"com/example/excedent/excedent/io/EightBytesDigitsPinLaw", "ok", "(JJI)Z"⟩ : MethodName)) hown (mvT hZ (hw _ (List.mem_of_getElem? (i := 8) rfl))) (mvT hZ (hw _ (List.mem_of_getElem? (i := 9) rfl))) (mvT hZ (hw _ (List.mem_of_getElem? (i := 2) rfl))) (mvT hZ (hw _ (List.mem_of_getElem? (i := 10) rfl))) (by decide) (backOf (W := 0) (rmOk l Z a0 hw [] x b ((3 : Int32))  h0 n0 Z0 ) hZ (hw _ (List.mem_of_getElem? (i := 10) rfl)) (hw _ (List.mem_of_getElem? (i := 2) rfl)) (by decide) (by decide)) (g := (mkF m 151 #[.val (.long q0), .second, .val (.int p1), .val (.int p2), .val (.long b), .second, .val (.long x), .second, .unset] [(.int (3 : Int32)), (.long b), (.long x)])) rfl (by rw [hml]; rfl) (argsL := [(.long x), (.long b), (.int (3 : Int32))]) (rest := []) (lenOf pd_3 rfl) rfl (by show 2 * 0 + _ ≤ _; exact Nat.le_of_eq rfl) (hb hby at_151) (fun _ _ => ⟨rfl, eT20t, (by decide : 0 + 0 ≤ _), (by decide : 0 + 0 ≤ _)⟩)
        dsimp only [Pt.U, Pt.locs, Pt.cells, Pt.slots] at X21 l21 y21 z21 st21 hQ21
        replace y21 : k21 = 0 := y21
        replace z21 : n21 = 0 := z21
        subst l21 y21 z21
        refine own_go st21 ?_
        obtain ⟨zz21, rfl, hzz21, N21q, eh21⟩ := hQ21
        have N21 := Fr.app N20t N21q
        show own_Ends p e below T21 (mkF m 154 #[.val (.long q0), .second, .val (.int p1), .val (.int p2), .val (.long b), .second, .val (.long x), .second, .unset] [(.int zz21)]) _
        suffices Jt21 : ∀ (T_ : State) (L_ : List Loc), Stand p l e room_1 s m #[(.long q0), (.int p1), (.int p2)] below meth c T_ L_ 0 0 → T_.heap = h0 → Fr n0 L_ → own_Ends p e below T_ (mkF m 154 #[.val (.long q0), .second, .val (.int p1), .val (.int p2), .val (.long b), .second, .val (.long x), .second, .unset] [(.int zz21)]) (fun ou U' => ∃ v L, ou = .returned v ∧ Q_rm0 Z q0 p1 p2 h0 n0 v U'.heap L ∧ FrameEnd s ou U' L room_1.cells room_1.slots) from Jt21 _ _ X21 eh21 N21
        clear st21 X21 N21 N21q eh21
        try clear Lc21
        try clear T21
        try clear N20t
        try clear eT20t
        try clear X20t
        try clear L20t
        try clear T20t
        intro T21t L21t X21t eT21t N21t
        by_cases hc154 : zz21 = (0 : Int32)
        · refine own_go (fun _ => XS.ifYes X21t.here hx rfl (pc0 := 154) (pc' := 207) rfl (hb hby at_154) rfl ((if0 _ _).trans (teq hc154).1) (by decide) (by decide)) ?_
          show own_Ends p e below T21t (mkF m 207 #[.val (.long q0), .second, .val (.int p1), .val (.int p2), .val (.long b), .second, .val (.long x), .second, .unset] []) _
          refine own_go (fun _ => XS.iconst X21t.here hx rfl (hb hby at_207)) ?_
          show own_Ends p e below T21t (mkF m 208 #[.val (.long q0), .second, .val (.int p1), .val (.int p2), .val (.long b), .second, .val (.long x), .second, .unset] [(.int (0 : Int32))]) _
          refine own_go (fun _ => XS.istore X21t.here hx rfl (hb hby at_208) rfl (l' := #[.val (.long q0), .second, .val (.int p1), .val (.int p2), .val (.long b), .second, .val (.long x), .second, .val (.int (0 : Int32))]) rfl) ?_
          show own_Ends p e below T21t (mkF m 210 #[.val (.long q0), .second, .val (.int p1), .val (.int p2), .val (.long b), .second, .val (.long x), .second, .val (.int (0 : Int32))] []) _
          exact J210 _ _ X21t eT21t N21t _ (own_no hrep (Or.inr (Or.inr (Or.inr (Or.inl (own_e0 hzz21 hc154))))))
        · refine own_go (fun _ => XS.ifNo X21t.here hx rfl (hb hby at_154) rfl ((if0 _ _).trans (feq hc154).1)) ?_
          show own_Ends p e below T21t (mkF m 157 #[.val (.long q0), .second, .val (.int p1), .val (.int p2), .val (.long b), .second, .val (.long x), .second, .unset] []) _
          refine own_go (fun _ => XS.lload X21t.here hx rfl (hb hby at_157) rfl) ?_
          show own_Ends p e below T21t (mkF m 159 #[.val (.long q0), .second, .val (.int p1), .val (.int p2), .val (.long b), .second, .val (.long x), .second, .unset] [(.long x)]) _
          refine own_go (fun _ => XS.lload X21t.here hx rfl (hb hby at_159) rfl) ?_
          show own_Ends p e below T21t (mkF m 161 #[.val (.long q0), .second, .val (.int p1), .val (.int p2), .val (.long b), .second, .val (.long x), .second, .unset] [(.long b), (.long x)]) _
          refine own_go (fun _ => XS.iconst X21t.here hx rfl (hb hby at_161)) ?_
          show own_Ends p e below T21t (mkF m 162 #[.val (.long q0), .second, .val (.int p1), .val (.int p2), .val (.long b), .second, .val (.long x), .second, .unset] [(.int (4 : Int32)), (.long b), (.long x)]) _
          obtain ⟨_, _, ⟨T22, L22, k22, n22⟩, -, X22, ⟨Lc22, hQ22, l22, y22, z22⟩, st22⟩ := Jvm.LawKit.callS X21t hx (y := (⟨"com/example/excedent/excedent/io/EightBytesDigitsPinLaw", "ok", "(JJI)Z"⟩ : MethodName)) hown (mvT hZ (hw _ (List.mem_of_getElem? (i := 8) rfl))) (mvT hZ (hw _ (List.mem_of_getElem? (i := 9) rfl))) (mvT hZ (hw _ (List.mem_of_getElem? (i := 2) rfl))) (mvT hZ (hw _ (List.mem_of_getElem? (i := 10) rfl))) (by decide) (backOf (W := 0) (rmOk l Z a0 hw [] x b ((4 : Int32))  h0 n0 Z0 ) hZ (hw _ (List.mem_of_getElem? (i := 10) rfl)) (hw _ (List.mem_of_getElem? (i := 2) rfl)) (by decide) (by decide)) (g := (mkF m 162 #[.val (.long q0), .second, .val (.int p1), .val (.int p2), .val (.long b), .second, .val (.long x), .second, .unset] [(.int (4 : Int32)), (.long b), (.long x)])) rfl (by rw [hml]; rfl) (argsL := [(.long x), (.long b), (.int (4 : Int32))]) (rest := []) (lenOf pd_3 rfl) rfl (by show 2 * 0 + _ ≤ _; exact Nat.le_of_eq rfl) (hb hby at_162) (fun _ _ => ⟨rfl, eT21t, (by decide : 0 + 0 ≤ _), (by decide : 0 + 0 ≤ _)⟩)
          dsimp only [Pt.U, Pt.locs, Pt.cells, Pt.slots] at X22 l22 y22 z22 st22 hQ22
          replace y22 : k22 = 0 := y22
          replace z22 : n22 = 0 := z22
          subst l22 y22 z22
          refine own_go st22 ?_
          obtain ⟨zz22, rfl, hzz22, N22q, eh22⟩ := hQ22
          have N22 := Fr.app N21t N22q
          show own_Ends p e below T22 (mkF m 165 #[.val (.long q0), .second, .val (.int p1), .val (.int p2), .val (.long b), .second, .val (.long x), .second, .unset] [(.int zz22)]) _
          suffices Jt22 : ∀ (T_ : State) (L_ : List Loc), Stand p l e room_1 s m #[(.long q0), (.int p1), (.int p2)] below meth c T_ L_ 0 0 → T_.heap = h0 → Fr n0 L_ → own_Ends p e below T_ (mkF m 165 #[.val (.long q0), .second, .val (.int p1), .val (.int p2), .val (.long b), .second, .val (.long x), .second, .unset] [(.int zz22)]) (fun ou U' => ∃ v L, ou = .returned v ∧ Q_rm0 Z q0 p1 p2 h0 n0 v U'.heap L ∧ FrameEnd s ou U' L room_1.cells room_1.slots) from Jt22 _ _ X22 eh22 N22
          clear st22 X22 N22 N22q eh22
          try clear Lc22
          try clear T22
          try clear N21t
          try clear eT21t
          try clear X21t
          try clear L21t
          try clear T21t
          intro T22t L22t X22t eT22t N22t
          by_cases hc165 : zz22 = (0 : Int32)
          · refine own_go (fun _ => XS.ifYes X22t.here hx rfl (pc0 := 165) (pc' := 207) rfl (hb hby at_165) rfl ((if0 _ _).trans (teq hc165).1) (by decide) (by decide)) ?_
            show own_Ends p e below T22t (mkF m 207 #[.val (.long q0), .second, .val (.int p1), .val (.int p2), .val (.long b), .second, .val (.long x), .second, .unset] []) _
            refine own_go (fun _ => XS.iconst X22t.here hx rfl (hb hby at_207)) ?_
            show own_Ends p e below T22t (mkF m 208 #[.val (.long q0), .second, .val (.int p1), .val (.int p2), .val (.long b), .second, .val (.long x), .second, .unset] [(.int (0 : Int32))]) _
            refine own_go (fun _ => XS.istore X22t.here hx rfl (hb hby at_208) rfl (l' := #[.val (.long q0), .second, .val (.int p1), .val (.int p2), .val (.long b), .second, .val (.long x), .second, .val (.int (0 : Int32))]) rfl) ?_
            show own_Ends p e below T22t (mkF m 210 #[.val (.long q0), .second, .val (.int p1), .val (.int p2), .val (.long b), .second, .val (.long x), .second, .val (.int (0 : Int32))] []) _
            exact J210 _ _ X22t eT22t N22t _ (own_no hrep (Or.inr (Or.inr (Or.inr (Or.inr (Or.inl (own_e0 hzz22 hc165)))))))
          · refine own_go (fun _ => XS.ifNo X22t.here hx rfl (hb hby at_165) rfl ((if0 _ _).trans (feq hc165).1)) ?_
            show own_Ends p e below T22t (mkF m 168 #[.val (.long q0), .second, .val (.int p1), .val (.int p2), .val (.long b), .second, .val (.long x), .second, .unset] []) _
            refine own_go (fun _ => XS.lload X22t.here hx rfl (hb hby at_168) rfl) ?_
            show own_Ends p e below T22t (mkF m 170 #[.val (.long q0), .second, .val (.int p1), .val (.int p2), .val (.long b), .second, .val (.long x), .second, .unset] [(.long x)]) _
            refine own_go (fun _ => XS.lload X22t.here hx rfl (hb hby at_170) rfl) ?_
            show own_Ends p e below T22t (mkF m 172 #[.val (.long q0), .second, .val (.int p1), .val (.int p2), .val (.long b), .second, .val (.long x), .second, .unset] [(.long b), (.long x)]) _
            refine own_go (fun _ => XS.iconst X22t.here hx rfl (hb hby at_172)) ?_
            show own_Ends p e below T22t (mkF m 173 #[.val (.long q0), .second, .val (.int p1), .val (.int p2), .val (.long b), .second, .val (.long x), .second, .unset] [(.int (5 : Int32)), (.long b), (.long x)]) _
            obtain ⟨_, _, ⟨T23, L23, k23, n23⟩, -, X23, ⟨Lc23, hQ23, l23, y23, z23⟩, st23⟩ := Jvm.LawKit.callS X22t hx (y := (⟨"com/example/excedent/excedent/io/EightBytesDigitsPinLaw", "ok", "(JJI)Z"⟩ : MethodName)) hown (mvT hZ (hw _ (List.mem_of_getElem? (i := 8) rfl))) (mvT hZ (hw _ (List.mem_of_getElem? (i := 9) rfl))) (mvT hZ (hw _ (List.mem_of_getElem? (i := 2) rfl))) (mvT hZ (hw _ (List.mem_of_getElem? (i := 10) rfl))) (by decide) (backOf (W := 0) (rmOk l Z a0 hw [] x b ((5 : Int32))  h0 n0 Z0 ) hZ (hw _ (List.mem_of_getElem? (i := 10) rfl)) (hw _ (List.mem_of_getElem? (i := 2) rfl)) (by decide) (by decide)) (g := (mkF m 173 #[.val (.long q0), .second, .val (.int p1), .val (.int p2), .val (.long b), .second, .val (.long x), .second, .unset] [(.int (5 : Int32)), (.long b), (.long x)])) rfl (by rw [hml]; rfl) (argsL := [(.long x), (.long b), (.int (5 : Int32))]) (rest := []) (lenOf pd_3 rfl) rfl (by show 2 * 0 + _ ≤ _; exact Nat.le_of_eq rfl) (hb hby at_173) (fun _ _ => ⟨rfl, eT22t, (by decide : 0 + 0 ≤ _), (by decide : 0 + 0 ≤ _)⟩)
            dsimp only [Pt.U, Pt.locs, Pt.cells, Pt.slots] at X23 l23 y23 z23 st23 hQ23
            replace y23 : k23 = 0 := y23
            replace z23 : n23 = 0 := z23
            subst l23 y23 z23
            refine own_go st23 ?_
            obtain ⟨zz23, rfl, hzz23, N23q, eh23⟩ := hQ23
            have N23 := Fr.app N22t N23q
            show own_Ends p e below T23 (mkF m 176 #[.val (.long q0), .second, .val (.int p1), .val (.int p2), .val (.long b), .second, .val (.long x), .second, .unset] [(.int zz23)]) _
            suffices Jt23 : ∀ (T_ : State) (L_ : List Loc), Stand p l e room_1 s m #[(.long q0), (.int p1), (.int p2)] below meth c T_ L_ 0 0 → T_.heap = h0 → Fr n0 L_ → own_Ends p e below T_ (mkF m 176 #[.val (.long q0), .second, .val (.int p1), .val (.int p2), .val (.long b), .second, .val (.long x), .second, .unset] [(.int zz23)]) (fun ou U' => ∃ v L, ou = .returned v ∧ Q_rm0 Z q0 p1 p2 h0 n0 v U'.heap L ∧ FrameEnd s ou U' L room_1.cells room_1.slots) from Jt23 _ _ X23 eh23 N23
            clear st23 X23 N23 N23q eh23
            try clear Lc23
            try clear T23
            try clear N22t
            try clear eT22t
            try clear X22t
            try clear L22t
            try clear T22t
            intro T23t L23t X23t eT23t N23t
            by_cases hc176 : zz23 = (0 : Int32)
            · refine own_go (fun _ => XS.ifYes X23t.here hx rfl (pc0 := 176) (pc' := 207) rfl (hb hby at_176) rfl ((if0 _ _).trans (teq hc176).1) (by decide) (by decide)) ?_
              show own_Ends p e below T23t (mkF m 207 #[.val (.long q0), .second, .val (.int p1), .val (.int p2), .val (.long b), .second, .val (.long x), .second, .unset] []) _
              refine own_go (fun _ => XS.iconst X23t.here hx rfl (hb hby at_207)) ?_
              show own_Ends p e below T23t (mkF m 208 #[.val (.long q0), .second, .val (.int p1), .val (.int p2), .val (.long b), .second, .val (.long x), .second, .unset] [(.int (0 : Int32))]) _
              refine own_go (fun _ => XS.istore X23t.here hx rfl (hb hby at_208) rfl (l' := #[.val (.long q0), .second, .val (.int p1), .val (.int p2), .val (.long b), .second, .val (.long x), .second, .val (.int (0 : Int32))]) rfl) ?_
              show own_Ends p e below T23t (mkF m 210 #[.val (.long q0), .second, .val (.int p1), .val (.int p2), .val (.long b), .second, .val (.long x), .second, .val (.int (0 : Int32))] []) _
              exact J210 _ _ X23t eT23t N23t _ (own_no hrep (Or.inr (Or.inr (Or.inr (Or.inr (Or.inr (Or.inl (own_e0 hzz23 hc176))))))))
            · refine own_go (fun _ => XS.ifNo X23t.here hx rfl (hb hby at_176) rfl ((if0 _ _).trans (feq hc176).1)) ?_
              show own_Ends p e below T23t (mkF m 179 #[.val (.long q0), .second, .val (.int p1), .val (.int p2), .val (.long b), .second, .val (.long x), .second, .unset] []) _
              refine own_go (fun _ => XS.lload X23t.here hx rfl (hb hby at_179) rfl) ?_
              show own_Ends p e below T23t (mkF m 181 #[.val (.long q0), .second, .val (.int p1), .val (.int p2), .val (.long b), .second, .val (.long x), .second, .unset] [(.long x)]) _
              refine own_go (fun _ => XS.lload X23t.here hx rfl (hb hby at_181) rfl) ?_
              show own_Ends p e below T23t (mkF m 183 #[.val (.long q0), .second, .val (.int p1), .val (.int p2), .val (.long b), .second, .val (.long x), .second, .unset] [(.long b), (.long x)]) _
              refine own_go (fun _ => XS.bipush X23t.here hx rfl (hb hby at_183)) ?_
              show own_Ends p e below T23t (mkF m 185 #[.val (.long q0), .second, .val (.int p1), .val (.int p2), .val (.long b), .second, .val (.long x), .second, .unset] [(.int (6 : Int32)), (.long b), (.long x)]) _
              obtain ⟨_, _, ⟨T24, L24, k24, n24⟩, -, X24, ⟨Lc24, hQ24, l24, y24, z24⟩, st24⟩ := Jvm.LawKit.callS X23t hx (y := (⟨"com/example/excedent/excedent/io/EightBytesDigitsPinLaw", "ok", "(JJI)Z"⟩ : MethodName)) hown (mvT hZ (hw _ (List.mem_of_getElem? (i := 8) rfl))) (mvT hZ (hw _ (List.mem_of_getElem? (i := 9) rfl))) (mvT hZ (hw _ (List.mem_of_getElem? (i := 2) rfl))) (mvT hZ (hw _ (List.mem_of_getElem? (i := 10) rfl))) (by decide) (backOf (W := 0) (rmOk l Z a0 hw [] x b ((6 : Int32))  h0 n0 Z0 ) hZ (hw _ (List.mem_of_getElem? (i := 10) rfl)) (hw _ (List.mem_of_getElem? (i := 2) rfl)) (by decide) (by decide)) (g := (mkF m 185 #[.val (.long q0), .second, .val (.int p1), .val (.int p2), .val (.long b), .second, .val (.long x), .second, .unset] [(.int (6 : Int32)), (.long b), (.long x)])) rfl (by rw [hml]; rfl) (argsL := [(.long x), (.long b), (.int (6 : Int32))]) (rest := []) (lenOf pd_3 rfl) rfl (by show 2 * 0 + _ ≤ _; exact Nat.le_of_eq rfl) (hb hby at_185) (fun _ _ => ⟨rfl, eT23t, (by decide : 0 + 0 ≤ _), (by decide : 0 + 0 ≤ _)⟩)
              dsimp only [Pt.U, Pt.locs, Pt.cells, Pt.slots] at X24 l24 y24 z24 st24 hQ24
              replace y24 : k24 = 0 := y24
              replace z24 : n24 = 0 := z24
              subst l24 y24 z24
              refine own_go st24 ?_
              obtain ⟨zz24, rfl, hzz24, N24q, eh24⟩ := hQ24
              have N24 := Fr.app N23t N24q
              show own_Ends p e below T24 (mkF m 188 #[.val (.long q0), .second, .val (.int p1), .val (.int p2), .val (.long b), .second, .val (.long x), .second, .unset] [(.int zz24)]) _
              suffices Jt24 : ∀ (T_ : State) (L_ : List Loc), Stand p l e room_1 s m #[(.long q0), (.int p1), (.int p2)] below meth c T_ L_ 0 0 → T_.heap = h0 → Fr n0 L_ → own_Ends p e below T_ (mkF m 188 #[.val (.long q0), .second, .val (.int p1), .val (.int p2), .val (.long b), .second, .val (.long x), .second, .unset] [(.int zz24)]) (fun ou U' => ∃ v L, ou = .returned v ∧ Q_rm0 Z q0 p1 p2 h0 n0 v U'.heap L ∧ FrameEnd s ou U' L room_1.cells room_1.slots) from Jt24 _ _ X24 eh24 N24
              clear st24 X24 N24 N24q eh24
              try clear Lc24
              try clear T24
              try clear N23t
              try clear eT23t
              try clear X23t
              try clear L23t
              try clear T23t
              intro T24t L24t X24t eT24t N24t
              by_cases hc188 : zz24 = (0 : Int32)
              · refine own_go (fun _ => XS.ifYes X24t.here hx rfl (pc0 := 188) (pc' := 207) rfl (hb hby at_188) rfl ((if0 _ _).trans (teq hc188).1) (by decide) (by decide)) ?_
                show own_Ends p e below T24t (mkF m 207 #[.val (.long q0), .second, .val (.int p1), .val (.int p2), .val (.long b), .second, .val (.long x), .second, .unset] []) _
                refine own_go (fun _ => XS.iconst X24t.here hx rfl (hb hby at_207)) ?_
                show own_Ends p e below T24t (mkF m 208 #[.val (.long q0), .second, .val (.int p1), .val (.int p2), .val (.long b), .second, .val (.long x), .second, .unset] [(.int (0 : Int32))]) _
                refine own_go (fun _ => XS.istore X24t.here hx rfl (hb hby at_208) rfl (l' := #[.val (.long q0), .second, .val (.int p1), .val (.int p2), .val (.long b), .second, .val (.long x), .second, .val (.int (0 : Int32))]) rfl) ?_
                show own_Ends p e below T24t (mkF m 210 #[.val (.long q0), .second, .val (.int p1), .val (.int p2), .val (.long b), .second, .val (.long x), .second, .val (.int (0 : Int32))] []) _
                exact J210 _ _ X24t eT24t N24t _ (own_no hrep (Or.inr (Or.inr (Or.inr (Or.inr (Or.inr (Or.inr (Or.inl (own_e0 hzz24 hc188)))))))))
              · refine own_go (fun _ => XS.ifNo X24t.here hx rfl (hb hby at_188) rfl ((if0 _ _).trans (feq hc188).1)) ?_
                show own_Ends p e below T24t (mkF m 191 #[.val (.long q0), .second, .val (.int p1), .val (.int p2), .val (.long b), .second, .val (.long x), .second, .unset] []) _
                refine own_go (fun _ => XS.lload X24t.here hx rfl (hb hby at_191) rfl) ?_
                show own_Ends p e below T24t (mkF m 193 #[.val (.long q0), .second, .val (.int p1), .val (.int p2), .val (.long b), .second, .val (.long x), .second, .unset] [(.long x)]) _
                refine own_go (fun _ => XS.lload X24t.here hx rfl (hb hby at_193) rfl) ?_
                show own_Ends p e below T24t (mkF m 195 #[.val (.long q0), .second, .val (.int p1), .val (.int p2), .val (.long b), .second, .val (.long x), .second, .unset] [(.long b), (.long x)]) _
                refine own_go (fun _ => XS.bipush X24t.here hx rfl (hb hby at_195)) ?_
                show own_Ends p e below T24t (mkF m 197 #[.val (.long q0), .second, .val (.int p1), .val (.int p2), .val (.long b), .second, .val (.long x), .second, .unset] [(.int (7 : Int32)), (.long b), (.long x)]) _
                obtain ⟨_, _, ⟨T25, L25, k25, n25⟩, -, X25, ⟨Lc25, hQ25, l25, y25, z25⟩, st25⟩ := Jvm.LawKit.callS X24t hx (y := (⟨"com/example/excedent/excedent/io/EightBytesDigitsPinLaw", "ok", "(JJI)Z"⟩ : MethodName)) hown (mvT hZ (hw _ (List.mem_of_getElem? (i := 8) rfl))) (mvT hZ (hw _ (List.mem_of_getElem? (i := 9) rfl))) (mvT hZ (hw _ (List.mem_of_getElem? (i := 2) rfl))) (mvT hZ (hw _ (List.mem_of_getElem? (i := 10) rfl))) (by decide) (backOf (W := 0) (rmOk l Z a0 hw [] x b ((7 : Int32))  h0 n0 Z0 ) hZ (hw _ (List.mem_of_getElem? (i := 10) rfl)) (hw _ (List.mem_of_getElem? (i := 2) rfl)) (by decide) (by decide)) (g := (mkF m 197 #[.val (.long q0), .second, .val (.int p1), .val (.int p2), .val (.long b), .second, .val (.long x), .second, .unset] [(.int (7 : Int32)), (.long b), (.long x)])) rfl (by rw [hml]; rfl) (argsL := [(.long x), (.long b), (.int (7 : Int32))]) (rest := []) (lenOf pd_3 rfl) rfl (by show 2 * 0 + _ ≤ _; exact Nat.le_of_eq rfl) (hb hby at_197) (fun _ _ => ⟨rfl, eT24t, (by decide : 0 + 0 ≤ _), (by decide : 0 + 0 ≤ _)⟩)
                dsimp only [Pt.U, Pt.locs, Pt.cells, Pt.slots] at X25 l25 y25 z25 st25 hQ25
                replace y25 : k25 = 0 := y25
                replace z25 : n25 = 0 := z25
                subst l25 y25 z25
                refine own_go st25 ?_
                obtain ⟨zz25, rfl, hzz25, N25q, eh25⟩ := hQ25
                have N25 := Fr.app N24t N25q
                show own_Ends p e below T25 (mkF m 200 #[.val (.long q0), .second, .val (.int p1), .val (.int p2), .val (.long b), .second, .val (.long x), .second, .unset] [(.int zz25)]) _
                suffices Jt25 : ∀ (T_ : State) (L_ : List Loc), Stand p l e room_1 s m #[(.long q0), (.int p1), (.int p2)] below meth c T_ L_ 0 0 → T_.heap = h0 → Fr n0 L_ → own_Ends p e below T_ (mkF m 200 #[.val (.long q0), .second, .val (.int p1), .val (.int p2), .val (.long b), .second, .val (.long x), .second, .unset] [(.int zz25)]) (fun ou U' => ∃ v L, ou = .returned v ∧ Q_rm0 Z q0 p1 p2 h0 n0 v U'.heap L ∧ FrameEnd s ou U' L room_1.cells room_1.slots) from Jt25 _ _ X25 eh25 N25
                clear st25 X25 N25 N25q eh25
                try clear Lc25
                try clear T25
                try clear N24t
                try clear eT24t
                try clear X24t
                try clear L24t
                try clear T24t
                intro T25t L25t X25t eT25t N25t
                by_cases hc200 : zz25 = (0 : Int32)
                · refine own_go (fun _ => XS.ifYes X25t.here hx rfl (pc0 := 200) (pc' := 207) rfl (hb hby at_200) rfl ((if0 _ _).trans (teq hc200).1) (by decide) (by decide)) ?_
                  show own_Ends p e below T25t (mkF m 207 #[.val (.long q0), .second, .val (.int p1), .val (.int p2), .val (.long b), .second, .val (.long x), .second, .unset] []) _
                  refine own_go (fun _ => XS.iconst X25t.here hx rfl (hb hby at_207)) ?_
                  show own_Ends p e below T25t (mkF m 208 #[.val (.long q0), .second, .val (.int p1), .val (.int p2), .val (.long b), .second, .val (.long x), .second, .unset] [(.int (0 : Int32))]) _
                  refine own_go (fun _ => XS.istore X25t.here hx rfl (hb hby at_208) rfl (l' := #[.val (.long q0), .second, .val (.int p1), .val (.int p2), .val (.long b), .second, .val (.long x), .second, .val (.int (0 : Int32))]) rfl) ?_
                  show own_Ends p e below T25t (mkF m 210 #[.val (.long q0), .second, .val (.int p1), .val (.int p2), .val (.long b), .second, .val (.long x), .second, .val (.int (0 : Int32))] []) _
                  exact J210 _ _ X25t eT25t N25t _ (own_no hrep (Or.inr (Or.inr (Or.inr (Or.inr (Or.inr (Or.inr (Or.inr ((own_e0 hzz25 hc200))))))))))
                · refine own_go (fun _ => XS.ifNo X25t.here hx rfl (hb hby at_200) rfl ((if0 _ _).trans (feq hc200).1)) ?_
                  show own_Ends p e below T25t (mkF m 203 #[.val (.long q0), .second, .val (.int p1), .val (.int p2), .val (.long b), .second, .val (.long x), .second, .unset] []) _
                  refine own_go (fun _ => XS.iconst X25t.here hx rfl (hb hby at_203)) ?_
                  show own_Ends p e below T25t (mkF m 204 #[.val (.long q0), .second, .val (.int p1), .val (.int p2), .val (.long b), .second, .val (.long x), .second, .unset] [(.int (1 : Int32))]) _
                  refine own_go (fun _ => XS.goto X25t.here hx rfl (pc0 := 204) (pc' := 208) rfl (hb hby at_204) (by decide) (by decide)) ?_
                  show own_Ends p e below T25t (mkF m 208 #[.val (.long q0), .second, .val (.int p1), .val (.int p2), .val (.long b), .second, .val (.long x), .second, .unset] [(.int (1 : Int32))]) _
                  refine own_go (fun _ => XS.istore X25t.here hx rfl (hb hby at_208) rfl (l' := #[.val (.long q0), .second, .val (.int p1), .val (.int p2), .val (.long b), .second, .val (.long x), .second, .val (.int (1 : Int32))]) rfl) ?_
                  show own_Ends p e below T25t (mkF m 210 #[.val (.long q0), .second, .val (.int p1), .val (.int p2), .val (.long b), .second, .val (.long x), .second, .val (.int (1 : Int32))] []) _
                  exact J210 _ _ X25t eT25t N25t _ (own_yes hrep (own_e1 hzz18 hc121) (own_e1 hzz19 hc132) (own_e1 hzz20 hc143) (own_e1 hzz21 hc154) (own_e1 hzz22 hc165) (own_e1 hzz23 hc176) (own_e1 hzz24 hc188) (own_e1 hzz25 hc200))
set_option maxRecDepth 65536 in
set_option maxHeartbeats 40000000 in
theorem comes_1 {Post : Tables → Env → Array Value → State → Outcome → State → Prop} (hpost : ∀ tb e args s v u, (limb_1_1.after args s (.returned v) u = true ∧ limb_1_2.after args s (.returned v) u = true ∧ True) → FrameEnd s (.returned v) u (Jvm.fieldLocs frame_1_writes args s ++ Jvm.arrayLocs frame_1_arrays args s ++ Jvm.staticLocs frame_1_statics s) 0 0 → Post tb e args s (.returned v) u) :
    ArmFor flags0 classFile x code maxLocals ret World_1 tables_1 room_1 Calls_1 rest_1 Pre_1 Post := by
  intro l hfl _ _ p e ha hc hk s m args below hf hA hF happ hP
  obtain ⟨hcalls, hrest, hpre⟩ := hP
  obtain ⟨-, -, -, hnamed, -, -, -, hat⟩ := (Spec.applies_iff hf).mp happ
  obtain ⟨hg, hn⟩ := and_e (Cond.before_iff.mp (show (Jvm.Cond.and given_1 narrow_1).before args s = true from hpre))
  obtain ⟨gv1, gv2⟩ := and_e hg
  obtain ⟨gv3, gv4⟩ := and_e gv2
  obtain ⟨gv5, gv6⟩ := and_e gv4
  obtain ⟨w0, w1, w2, rfl⟩ : ∃ w0 w1 w2 : Value, args = #[w0, w1, w2] := by
    have hs : args.size = 3 := by simpa [Cond.value, given_1] using gv1
    obtain ⟨L⟩ := args
    match L, hs with
    | [w0, w1, w2], _ => exact ⟨w0, w1, w2, rfl⟩
  have hw := fun d (hd : d ∈ tables_1) => atoms_spec (ws := Jvm.Cond.code x code maxLocals ret :: tables_1) hat d (List.mem_cons_of_mem _ hd)
  obtain ⟨i0, ei0⟩ := isL_v gv3
  obtain rfl : w0 = (.long i0) := Option.some.inj ei0
  obtain ⟨i1, ei1⟩ := is_v gv5
  obtain rfl : w1 = (.int i1) := Option.some.inj ei1
  obtain ⟨i2, ei2⟩ := is_v gv6
  obtain rfl : w2 = (.int i2) := Option.some.inj ei2
  obtain ⟨n, o, h1, h2, h3, _, L, rfl, ⟨rfl, N⟩, hq⟩ := rm0 l s _ hw tables_1 i0 i1 i2 s.heap s.heap.size (Nat.le_refl _) p e ha hc hk s m _ below hf ((Spec.applies_iff_loose hf).mp happ).1 ⟨rfl, State.Warmed39.refl s, rfl⟩ trivial
  refine ⟨n, _, h1, h2, h3, hpost _ _ _ _ _ _ ⟨Cond.after_iff.mpr rfl, Cond.after_iff.mpr (eq_i res_at (Term.int_eval (1)) rfl), trivial⟩ ⟨hq.1, hq.2.1, (hq.2.2.sift fun y hy => Or.inr (N y hy)).mono (by decide) (by decide)⟩⟩
theorem main_1_1 : Claimed_1_1 := comes_1 fun _ _ _ _ _ _ h hF => ⟨h.1, hF⟩
theorem main_1_2 : Claimed_1_2 := comes_1 fun _ _ _ _ _ _ h hF => ⟨h.2.1, hF⟩
end Jvm.Pilot.@@N@@
namespace Jvm.Pilot.@@N@@
open Jvm Jvm.ClassFile Sem Op Lib Jvm.Free Jvm.Stand Jvm.Pilot.@@N@@.Jvm.D
/-! MADE BY PROGRAM (witnessworld.py) out of the Statement's table words and the real class files: 9 classes; the members and pool entries that the words name. The judged class is class 1, her method 1. -/
namespace start1
open Jvm.ClassFile
def u (s : String) : CpInfo := .utf8 (stringToUtf16 s)
/-- a pool by its gaps: so many unusable entries, then the entry; so many at the end -/
def gap : Nat → List CpInfo → List CpInfo
  | 0, r => r
  | n + 1, r => .unusable :: gap n r
def poolList (es : List (Nat × CpInfo)) (last : Nat) : List CpInfo := es.foldr (fun e r => gap e.1 (e.2 :: r)) (gap last [])
def pool (es : List (Nat × CpInfo)) (last : Nat) : Array CpInfo := ⟨poolList es last⟩
def fileOf (pool : Array CpInfo) (this : Nat) (attrs : Array Attribute := #[]) (ms : Array MethodInfo := #[]) (fl : Nat := 33) (sup : Nat := 0) (ifs : Array Nat := #[]) (fds : Array FieldInfo := #[]) : ClassFile where
  minorVersion := 0
  majorVersion := 65
  constantPool := pool
  accessFlags := fl
  thisClass := this
  superClass := sup
  interfaces := ifs
  fields := fds
  methods := ms
  attributes := attrs
def plain (name : String) (sup : Option ClassId) : Class where
  name := name
  kind := .ordinary
  loader := none
  accessFlags := 33
  super := sup
  interfaces := #[]
  cf := none
  fields := #[]
  methods := #[]
  instanceTypes := #[]
  staticTypes := #[]
  resolved := #[]
  callSites := []
  init := .initialized
  statics := none
  mirror := none

def pool0 : Array CpInfo := pool [(5, u "<init>"), (0, u "()V"), (1, .class_ 10), (1, u "java/lang/Object")] 113

def k0m0 : Method := { name := "<init>", desc := "()V", sig := { parameters := [], returnType := none }, accessFlags := 1, code := none }
/-- java/lang/Object -/
def k0 : Class := { plain "java/lang/Object" none with
  accessFlags := 33
  interfaces := #[]
  cf := some (fileOf pool0 8 #[] #[{ accessFlags := 1, nameIndex := 5, descriptorIndex := 6, attributes := #[] }] 33 0 #[] #[])
  fields := #[]
  methods := #[k0m0]
  instanceTypes := #[]
  staticTypes := #[]
  resolved := Array.replicate 124 none
  statics := none }

def pool1 : Array CpInfo := pool [(2, .class_ 4), (1, u "java/lang/Object"), (0, u "<init>"), (0, u "()V"), (0, .methodref 8 9), (0, .class_ 10), (0, .nameAndType 11 12), (0, u "com/example/excedent/excedent/io/EightBytesDigitsPinLaw"), (0, u "mask"), (0, u "(II)J"), (0, .methodref 8 14), (0, .nameAndType 15 16), (0, u "at"), (0, u "(JII)J"), (0, .methodref 8 18), (0, .nameAndType 19 20), (0, u "ok"), (0, u "(JJI)Z"), (0, .methodref 22 23), (0, .class_ 24), (0, .nameAndType 25 26), (0, u "com/example/excedent/excedent/io/EightBytes"), (0, u "digits"), (0, u "(JJ)Z"), (0, .long 255), (3, u "law"), (0, u "(JII)Z")] 3

def k1m0 : Method := { name := "<init>", desc := "()V", sig := { parameters := [], returnType := none }, accessFlags := 1, code := none }
def k1c1 : Code := { maxStack := 6, maxLocals := 9, code := code, exceptionTable := #[], attributes := #[] }
def k1m1 : Method := { name := "law", desc := "(JII)Z", sig := { parameters := [.long, .int, .int], returnType := some .boolean }, accessFlags := 9, code := some k1c1 }
def k1c2 : Code := { maxStack := 4, maxLocals := 2, code := method_3_code, exceptionTable := #[], attributes := #[] }
def k1m2 : Method := { name := "mask", desc := "(II)J", sig := { parameters := [.int, .int], returnType := some .long }, accessFlags := 10, code := some k1c2 }
def k1c3 : Code := { maxStack := 4, maxLocals := 5, code := method_4_code, exceptionTable := #[], attributes := #[] }
def k1m3 : Method := { name := "at", desc := "(JII)J", sig := { parameters := [.long, .int, .int], returnType := some .long }, accessFlags := 10, code := some k1c3 }
def k1c4 : Code := { maxStack := 4, maxLocals := 7, code := method_5_code, exceptionTable := #[], attributes := #[] }
def k1m4 : Method := { name := "ok", desc := "(JJI)Z", sig := { parameters := [.long, .long, .int], returnType := some .boolean }, accessFlags := 10, code := some k1c4 }
/-- com/example/excedent/excedent/io/EightBytesDigitsPinLaw -/
def k1 : Class := { plain "com/example/excedent/excedent/io/EightBytesDigitsPinLaw" (some 0) with
  accessFlags := 49
  interfaces := #[]
  cf := some (fileOf pool1 8 #[] #[{ accessFlags := 1, nameIndex := 5, descriptorIndex := 6, attributes := #[] }, { accessFlags := 9, nameIndex := 31, descriptorIndex := 32, attributes := #[] }, { accessFlags := 10, nameIndex := 11, descriptorIndex := 12, attributes := #[] }, { accessFlags := 10, nameIndex := 15, descriptorIndex := 16, attributes := #[] }, { accessFlags := 10, nameIndex := 19, descriptorIndex := 20, attributes := #[] }] 49 2 #[] #[])
  fields := #[]
  methods := #[k1m0, k1m1, k1m2, k1m3, k1m4]
  instanceTypes := #[]
  staticTypes := #[]
  resolved := Array.replicate 36 none
  statics := none }

def pool2 : Array CpInfo := pool [(2, .class_ 4), (1, u "java/lang/Object"), (0, u "<init>"), (0, u "()V"), (3, .class_ 12), (1, u "com/example/excedent/excedent/io/EightBytes"), (12, u "LONGS"), (0, u "Ljava/lang/invoke/VarHandle;"), (19, .long 3472328296227680304), (1, .long 17361641481138401520), (1, .long 434041037028460038), (32, u "EACH_BYTE"), (0, u "J"), (1, u "HIGH_BITS"), (0, u "SPREAD"), (0, u "HIGH_HALVES"), (0, u "ZEROS"), (0, u "SIXES"), (7, u "digits"), (0, u "(JJ)Z")] 7

def k2m0 : Method := { name := "<init>", desc := "()V", sig := { parameters := [], returnType := none }, accessFlags := 2, code := none }
def k2c1 : Code := { maxStack := 6, maxLocals := 6, code := prog_53_method_6_code, exceptionTable := #[], attributes := #[] }
def k2m1 : Method := { name := "digits", desc := "(JJ)Z", sig := { parameters := [.long, .long], returnType := some .boolean }, accessFlags := 9, code := some k2c1 }
/-- com/example/excedent/excedent/io/EightBytes -/
def k2 : Class := { plain "com/example/excedent/excedent/io/EightBytes" (some 0) with
  accessFlags := 49
  interfaces := #[]
  cf := some (fileOf pool2 10 #[] #[{ accessFlags := 2, nameIndex := 5, descriptorIndex := 6, attributes := #[] }, { accessFlags := 9, nameIndex := 98, descriptorIndex := 99, attributes := #[] }] 49 2 #[] #[{ accessFlags := 24, nameIndex := 83, descriptorIndex := 84, attributes := #[] }, { accessFlags := 24, nameIndex := 86, descriptorIndex := 84, attributes := #[] }, { accessFlags := 26, nameIndex := 87, descriptorIndex := 84, attributes := #[] }, { accessFlags := 26, nameIndex := 88, descriptorIndex := 84, attributes := #[] }, { accessFlags := 26, nameIndex := 89, descriptorIndex := 84, attributes := #[] }, { accessFlags := 26, nameIndex := 90, descriptorIndex := 84, attributes := #[] }, { accessFlags := 26, nameIndex := 25, descriptorIndex := 26, attributes := #[] }])
  fields := #[{ name := "EACH_BYTE", type := .long, accessFlags := 24, slot := 0, constantValue := 0 }, { name := "HIGH_BITS", type := .long, accessFlags := 24, slot := 1, constantValue := 0 }, { name := "SPREAD", type := .long, accessFlags := 26, slot := 2, constantValue := 0 }, { name := "HIGH_HALVES", type := .long, accessFlags := 26, slot := 3, constantValue := 0 }, { name := "ZEROS", type := .long, accessFlags := 26, slot := 4, constantValue := 0 }, { name := "SIXES", type := .long, accessFlags := 26, slot := 5, constantValue := 0 }, { name := "LONGS", type := (.object "java/lang/invoke/VarHandle"), accessFlags := 26, slot := 6, constantValue := 0 }]
  methods := #[k2m0, k2m1]
  instanceTypes := #[]
  staticTypes := #[.long, .long, .long, .long, .long, .long, (.object "java/lang/invoke/VarHandle")]
  resolved := Array.replicate 107 none
  statics := none }

def pool3 : Array CpInfo := pool [(1, u "java/lang/Cloneable"), (0, .class_ 1), (0, u "java/lang/Object"), (0, .class_ 3)] 3

/-- java/lang/Cloneable -/
def k3 : Class := { plain "java/lang/Cloneable" (some 0) with
  accessFlags := 1537
  interfaces := #[]
  cf := some (fileOf pool3 2 #[] #[] 1537 4 #[] #[])
  fields := #[]
  methods := #[]
  instanceTypes := #[]
  staticTypes := #[]
  resolved := Array.replicate 8 none
  statics := none }

def pool4 : Array CpInfo := pool [(1, u "java/io/Serializable"), (0, .class_ 1), (0, u "java/lang/Object"), (0, .class_ 3)] 3

/-- java/io/Serializable -/
def k4 : Class := { plain "java/io/Serializable" (some 0) with
  accessFlags := 1537
  interfaces := #[]
  cf := some (fileOf pool4 2 #[] #[] 1537 4 #[] #[])
  fields := #[]
  methods := #[]
  instanceTypes := #[]
  staticTypes := #[]
  resolved := Array.replicate 8 none
  statics := none }

/-- the primitive byte -/
def k5 : Class := { plain "byte" none with kind := .primitive 'B', accessFlags := 0x411 }
/-- [B -/
def k6 : Class := { plain "[B" (some 0) with kind := .array 5 .byte, interfaces := #[3, 4], accessFlags := 1041 }

/-- the primitive int -/
def k7 : Class := { plain "int" none with kind := .primitive 'I', accessFlags := 0x411 }
/-- [I -/
def k8 : Class := { plain "[I" (some 0) with kind := .array 7 .int, interfaces := #[3, 4], accessFlags := 1041 }

def heap : Heap := #[]
def classes : Array Class := #[k0, k1, k2, k3, k4, k5, k6, k7, k8]
def interned : List (Array UInt16 × Addr) := []
def slotsUsed : Nat := 0
def theMethod : MethodId := ⟨1, 1⟩
def args0 : Array Value := #[.long 65, .int 1, .int 7]
def aboutOver (below : List Frame) : State where
  vm := { classes := classes, interned := interned.toArray }
  heap := heap
  slotsUsed := slotsUsed
  threads := #[{ frames := .invoking theMethod args0 :: below }]
def below0 : List Frame := [.native { method := ⟨0, 0⟩, args := #[] }]
def about1 : State := aboutOver below0
def p0 : Program := .bare "" "" ""
def e0 : Env := launch0.env 0 0 0
theorem w_frames : about1.frames = Frame.invoking theMethod args0 :: below0 := rfl
set_option maxRecDepth 65536 in
theorem w_args : argsFit about1.vm theMethod args0 = true := by decide +kernel
set_option maxRecDepth 65536 in
theorem w_heap : heapFits about1 = true := by decide +kernel
set_option maxRecDepth 65536 in
theorem w_runnable : about1.curStatus? = some .runnable := by decide +kernel
set_option maxRecDepth 65536 in
theorem w_alone : about1.alone = true := by decide +kernel
set_option maxRecDepth 65536 in
theorem w_named : about1.methodNamed? x = some theMethod := by decide +kernel
set_option maxRecDepth 65536 in
theorem w_hears : about1.hears theMethod below0 = true := by decide +kernel
set_option maxRecDepth 65536 in
theorem w_ripe : about1.ripe theMethod args0 below0 = true := by decide +kernel
theorem w_running : about1.status = .running := rfl
set_option maxRecDepth 65536 in
theorem w_room : about1.hasRoom e0.platform room_1 = true :=
  launch0.hasRoom_least _ room_1 (by decide +kernel) (by decide +kernel) (by decide +kernel) (by decide +kernel) (by decide +kernel) (by decide +kernel)
theorem allAtoms_all (ts : List Jvm.Cond) (a : Array Jvm.Value) (st : Jvm.State) : (allAtoms ts).before a st = ts.all (fun c => c.before a st) := by
  induction ts with
  | nil => rfl
  | cons c t ih =>
    show (Jvm.Cond.and c (allAtoms t)).before a st = _
    rw [Jvm.Cond.before_and, ih, List.all_cons]
def words1 : List Jvm.Cond := Jvm.Cond.code x code maxLocals ret :: tables_1
/-- a 'code' word, met by the world's own term for the bytes: nothing is compared byte by byte -/
theorem code_word {y : MethodName} {bytes : ByteArray} {mx : Nat} {rt : Option FieldType} {a : Array Value} {s : State} {m : MethodId} {meth : Method} {c : Code} (h1 : s.methodNamed? y = some m) (h2 : s.vm.method? m = some meth) (h3 : meth.code = some c) (h4 : c.code = bytes)
    (h5 : (c.maxLocals == mx && c.exceptionTable.isEmpty && decide (c.maxStack ≤ mostOperands) && decide (meth.sig.returnType = rt) && !meth.locks && decide (parseMethodDescriptor y.desc = some meth.sig)) = true) : (Jvm.Cond.code y bytes mx rt).before a s = true := by
  simp only [Bool.and_eq_true, beq_iff_eq, Bool.not_eq_true', decide_eq_true_eq] at h5
  obtain ⟨⟨⟨⟨⟨g1, g2⟩, g3⟩, g4⟩, g5⟩, g6⟩ := h5
  simp [Cond.before, Cond.holds, Cond.value, h1, h2, h3, h4, g1, g2, g3, g4, g5, g6]
def isCode : Jvm.Cond → Bool
  | .code _ _ _ _ => true
  | _ => false
theorem all_split {L : List Jvm.Cond} {P : Jvm.Cond → Bool} (h1 : L.all (fun c => isCode c || P c) = true) (h2 : ∀ c ∈ L.filter isCode, P c = true) : L.all P = true := by
  refine List.all_eq_true.mpr fun c hc => ?_
  have h := List.all_eq_true.mp h1 c hc
  rcases Bool.eq_false_or_eq_true (isCode c) with hi | hi
  · exact h2 c (List.mem_filter.mpr ⟨hc, hi⟩)
  · simpa [hi] using h
set_option maxRecDepth 65536 in
theorem w_c0 : (Jvm.Cond.code x code maxLocals ret).before args0 about1 = true := code_word (m := ⟨1, 1⟩) (meth := k1m1) (c := k1c1) (by decide +kernel) rfl rfl rfl (by decide +kernel)
set_option maxRecDepth 65536 in
theorem w_c1 : (Jvm.Cond.code ({ cls := "com/example/excedent/excedent/io/EightBytesDigitsPinLaw", name := "mask", desc := "(II)J" } : Jvm.MethodName) method_3_code (2 : Nat) (Option.some Jvm.ClassFile.FieldType.long)).before args0 about1 = true := code_word (m := ⟨1, 2⟩) (meth := k1m2) (c := k1c2) (by decide +kernel) rfl rfl rfl (by decide +kernel)
set_option maxRecDepth 65536 in
theorem w_c2 : (Jvm.Cond.code ({ cls := "com/example/excedent/excedent/io/EightBytesDigitsPinLaw", name := "at", desc := "(JII)J" } : Jvm.MethodName) method_4_code (5 : Nat) (Option.some Jvm.ClassFile.FieldType.long)).before args0 about1 = true := code_word (m := ⟨1, 3⟩) (meth := k1m3) (c := k1c3) (by decide +kernel) rfl rfl rfl (by decide +kernel)
set_option maxRecDepth 65536 in
theorem w_c3 : (Jvm.Cond.code ({ cls := "com/example/excedent/excedent/io/EightBytesDigitsPinLaw", name := "ok", desc := "(JJI)Z" } : Jvm.MethodName) method_5_code (7 : Nat) (Option.some Jvm.ClassFile.FieldType.boolean)).before args0 about1 = true := code_word (m := ⟨1, 4⟩) (meth := k1m4) (c := k1c4) (by decide +kernel) rfl rfl rfl (by decide +kernel)
set_option maxRecDepth 65536 in
theorem w_c4 : (Jvm.Cond.code ({ cls := "com/example/excedent/excedent/io/EightBytes", name := "digits", desc := "(JJ)Z" } : Jvm.MethodName) prog_53_method_6_code (6 : Nat) (Option.some Jvm.ClassFile.FieldType.boolean)).before args0 about1 = true := code_word (m := ⟨2, 1⟩) (meth := k2m1) (c := k2c1) (by decide +kernel) rfl rfl rfl (by decide +kernel)
def codes1 : List Jvm.Cond := [Jvm.Cond.code x code maxLocals ret, Jvm.Cond.code ({ cls := "com/example/excedent/excedent/io/EightBytesDigitsPinLaw", name := "mask", desc := "(II)J" } : Jvm.MethodName) method_3_code (2 : Nat) (Option.some Jvm.ClassFile.FieldType.long), Jvm.Cond.code ({ cls := "com/example/excedent/excedent/io/EightBytesDigitsPinLaw", name := "at", desc := "(JII)J" } : Jvm.MethodName) method_4_code (5 : Nat) (Option.some Jvm.ClassFile.FieldType.long), Jvm.Cond.code ({ cls := "com/example/excedent/excedent/io/EightBytesDigitsPinLaw", name := "ok", desc := "(JJI)Z" } : Jvm.MethodName) method_5_code (7 : Nat) (Option.some Jvm.ClassFile.FieldType.boolean), Jvm.Cond.code ({ cls := "com/example/excedent/excedent/io/EightBytes", name := "digits", desc := "(JJ)Z" } : Jvm.MethodName) prog_53_method_6_code (6 : Nat) (Option.some Jvm.ClassFile.FieldType.boolean)]
set_option maxRecDepth 65536 in
theorem codes_eq : words1.filter isCode = codes1 := rfl
theorem w_codes : ∀ c ∈ words1.filter isCode, c.before args0 about1 = true := by
  rw [codes_eq]
  intro c hc
  simp only [codes1, List.mem_cons, List.not_mem_nil, or_false] at hc
  rcases hc with rfl | rfl | rfl | rfl | rfl
  · exact w_c0
  · exact w_c1
  · exact w_c2
  · exact w_c3
  · exact w_c4
set_option maxRecDepth 65536 in
theorem w_t1 : words1.all (fun c => isCode c || c.before args0 about1) = true := by decide +kernel
theorem w_tables : (allAtoms (Jvm.Cond.code x code maxLocals ret :: tables_1)).before args0 about1 = true := by
  rw [allAtoms_all]
  show words1.all (fun c => c.before args0 about1) = true
  refine all_split ?_ w_codes
  rw [w_t1]
set_option maxRecDepth 65536 in
theorem w_case : (Jvm.Cond.and given_1 narrow_1).before args0 about1 = true := by decide +kernel
theorem w_applies : (headSpec (Jvm.Cond.code x code maxLocals ret :: tables_1) room_1).applies x e0.platform about1 = true :=
  (Spec.applies_iff w_frames).mpr ⟨w_running, w_runnable, w_alone, w_named, w_hears, w_ripe, w_room, w_tables⟩
theorem atStart : AtStart classFile x code maxLocals ret World_1 tables_1 room_1 Calls_1 rest_1 Pre_1 launch0 p0 e0 about1 theMethod args0 below0 :=
  ⟨lists_1, trivial, launch0.admits_env _ _ _, launch0.least_env, fairChoices_fair.cas, fairChoices_fair.clock, w_frames, w_args, w_heap, w_applies, trivial, trivial, w_case⟩
end start1
theorem witness_1 : WitnessClaimed_1 := ⟨start1.p0, start1.e0, start1.about1, start1.theMethod, start1.args0, start1.below0, start1.atStart⟩
end Jvm.Pilot.@@N@@
