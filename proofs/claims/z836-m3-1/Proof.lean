import JvmDerived
import JvmDerived.Pilot.@@N@@Statement
import JvmDerived.Pilot.@@N@@Code
set_option linter.unusedVariables false
set_option linter.unusedSimpArgs false
namespace Jvm.RoadKit
open Sem ClassFile Op Lib Jvm.Stand Jvm.Free Jvm.LawKit
section New
variable {p : Program} {l : Launch} {e : Env} {R : Room} {s : State} {m : MethodId} {args : Array Value} {below : List Frame} {meth : Method} {c : Code} {T : State} {locs : List Loc} {cells slots : Nat}
theorem retI (X : Stand p l e R s m args below meth c T locs cells slots) (hx : p.tables.exec = Jvm.exec) {pc : Nat} {Ls : Array Slot} {z : Int32} {rest : List Value} (hret : meth.sig.returnType = some .int) (hd : decode c.code pc = .ok (.ireturn, 1)) {fs : List Frame}
    (hl : ∀ (f : JFrame) (acts : List Action), f.method = m → f.locked = none → f.entered = [] → (doReturn e (T.setTop f) acts (some (.int z))).1 = T.setFrames fs) : Steps p.tables e below (T.setTop (mkF m pc Ls (.int z :: rest))) (T.setFrames fs) := by
  have hm' : T.vm.method? m = some meth := X.method'
  have hn : narrow .int (.int z) = .int z := rfl
  show Steps p.tables e below (T.setTop { method := m, pc := pc, locals := Ls, stack := _ :: rest, locked := none }) _
  jvm_step X.here [X.here.top, hx, hd, hm', hret, hn]
  first | (intro acts; rw [hl _ acts rfl rfl rfl]) | rw [hl _ _ rfl rfl rfl]
  exact Steps.refl _
end New
end Jvm.RoadKit
namespace Jvm.Pilot.@@N@@
open Jvm Jvm.ClassFile Sem Op Lib Jvm.Free Jvm.Stand Jvm.LawKit Jvm.RoadKit Bundle Jvm.Pilot.@@N@@.Jvm.D
def own_Ends (p : Program) (e : Env) (below : List Frame) (T : State) (g : JFrame) (P : Outcome → State → Prop) : Prop := ∃ s₂ o, Steps p.tables e below (T.setTop g) s₂ ∧ s₂.status = .running ∧ Ended s₂ below o ∧ P o s₂
theorem own_go {p : Program} {e : Env} {below : List Frame} {T T' : State} {g g' : JFrame} {P : Outcome → State → Prop} (h : ∀ t, Steps p.tables e below (T'.setTop g') t → Steps p.tables e below (T.setTop g) t) (k : own_Ends p e below T' g' P) : own_Ends p e below T g P := by
  obtain ⟨a, o, q, r⟩ := k
  exact ⟨a, o, h _ q, r⟩
def own_Len (Z : State) (h : Heap) (a : Addr) (ty : FieldType) (n : Int32) : Prop := ∃ c : Cell, Arr Z h a c ty ∧ c.slots.size = n.toNatClampNeg ∧ ¬ n < 0
theorem own_Len.lt {Z : State} {h : Heap} {a : Addr} {ty : FieldType} {n : Int32} (F : own_Len Z h a ty n) : a < h.size := by obtain ⟨c, A, -⟩ := F; exact A.lt
theorem own_Len.ext {Z : State} {h h' : Heap} {a : Addr} {ty : FieldType} {n : Int32} (F : own_Len Z h a ty n) (E : Ext h h') : own_Len Z h' a ty n := by obtain ⟨c, A, r⟩ := F; exact ⟨c, A.ext E, r⟩
theorem own_Len.other {Z : State} {h h' : Heap} {a b : Addr} {ty : FieldType} {n : Int32} {sl : Nat} {v : Value} (F : own_Len Z h b ty n) (W : Wr h h' a sl v) (q : b ≠ a) : own_Len Z h' b ty n := by obtain ⟨c, A, r⟩ := F; exact ⟨c, A.other W q, r⟩
theorem own_Len.same {Z : State} {h h' : Heap} {a : Addr} {ty : FieldType} {n : Int32} {sl : Nat} {v : Value} (F : own_Len Z h a ty n) (W : Wr h h' a sl v) : own_Len Z h' a ty n := by obtain ⟨c, A, r1, r2⟩ := F; exact ⟨_, A.same W, by rw [sz_set]; exact r1, r2⟩
theorem own_Len.keep {Z : State} {h h' : Heap} {a : Addr} {ty : FieldType} {n : Int32} {ws : List Addr} (F : own_Len Z h a ty n) (K : Keep h h' ws) (q : a ∉ ws) : own_Len Z h' a ty n := by obtain ⟨c, A, r⟩ := F; exact ⟨c, ⟨K.2.1 a c A.1 q, A.2⟩, r⟩
theorem own_as {p : Program} {e : Env} {below : List Frame} {T : State} {g g' : JFrame} {P : Outcome → State → Prop} (h : g = g') (k : own_Ends p e below T g' P) : own_Ends p e below T g P := h ▸ k

abbrev own_N (x : Int64) : Nat := x.toBitVec.toNat
theorem own_inj {a b : Int64} (h : own_N a = own_N b) : a = b := Int64.toBitVec_inj.mp (BitVec.eq_of_toNat_eq h)
theorem own_Nlt (a : Int64) : own_N a < 18446744073709551616 := a.toBitVec.isLt
theorem own_Nand (a b : Int64) : own_N (a &&& b) = own_N a &&& own_N b := by
  show (a.toBitVec &&& b.toBitVec).toNat = _
  rw [BitVec.toNat_and]
theorem own_Nor (a b : Int64) : own_N (a ||| b) = own_N a ||| own_N b := by
  show (a.toBitVec ||| b.toBitVec).toNat = _
  rw [BitVec.toNat_or]
theorem own_Nmul (a b : Int64) : own_N (a * b) = own_N a * own_N b % 18446744073709551616 := by
  show (a.toBitVec * b.toBitVec).toNat = _
  rw [BitVec.toNat_mul]
theorem own_Nadd (a b : Int64) : own_N (a + b) = (own_N a + own_N b) % 18446744073709551616 := by
  show (a.toBitVec + b.toBitVec).toNat = _
  rw [BitVec.toNat_add]
theorem own_Nshl (a : Int64) (q : Int32) (k : Nat) (hk : q.toBitVec.toNat % 64 = k) : own_N (a <<< (q &&& 0x3f).toInt64) = own_N a * 2 ^ k % 18446744073709551616 := by
  show (a.toBitVec <<< ((q &&& 0x3f).toInt64.toBitVec.smod 64)).toNat = _
  rw [BitVec.shiftLeft_eq', (sm64 q k hk).1, smod64 k (sm64 q k hk).2, BitVec.toNat_shiftLeft, Nat.shiftLeft_eq]
theorem own_Nushr (a : Int64) (q : Int32) (k : Nat) (hk : q.toBitVec.toNat % 64 = k) : own_N ((a.toUInt64 >>> (q &&& 0x3f).toInt64.toUInt64).toInt64) = own_N a / 2 ^ k := by
  have h5 := (sm64 q k hk).2
  show (a.toBitVec >>> ((q &&& 0x3f).toInt64.toBitVec % 64)).toNat = _
  rw [BitVec.ushiftRight_eq', BitVec.toNat_ushiftRight, Nat.shiftRight_eq_div_pow, BitVec.toNat_umod, (sm64 q k hk).1, BitVec.toNat_ofNat]
  congr 2
  show k % 2 ^ 64 % 64 = k
  omega
theorem own_Npos {x : Int64} (h : 0 ≤ x.toInt) : (own_N x : Int) = x.toInt := by
  have e : x.toBitVec.toInt = x.toInt := rfl
  have l := x.toBitVec.isLt
  rw [BitVec.toInt_eq_toNat_cond] at e
  show (x.toBitVec.toNat : Int) = _
  split at e <;> omega
theorem own_Ni2l {i : Int32} (h : 0 ≤ i.toInt) : (own_N i.toInt64 : Int) = i.toInt := by
  have e := c_i2l i
  rw [own_Npos (by rw [e]; exact h), e]
theorem own_split (x m M k : Nat) (hm : m < 2 ^ k) : x &&& (2 ^ k * M + m) = 2 ^ k * (x / 2 ^ k &&& M) + (x % 2 ^ k &&& m) := by
  apply Nat.eq_of_testBit_eq
  intro j
  have hl : (x % 2 ^ k &&& m) < 2 ^ k := Nat.and_lt_two_pow _ hm
  rw [Nat.testBit_and, Nat.testBit_two_pow_mul_add _ hm, Nat.testBit_two_pow_mul_add _ hl]
  by_cases h : j < k
  · rw [if_pos h, if_pos h, Nat.testBit_and, Nat.testBit_mod_two_pow]
    simp [h]
  · rw [if_neg h, if_neg h, Nat.testBit_and, Nat.testBit_div_two_pow]
    rw [show j - k + k = j by omega]
theorem own_orsum (a d k : Nat) (h : a < 2 ^ k) : a ||| d * 2 ^ k = a + d * 2 ^ k := by
  rw [Nat.or_comm, Nat.mul_comm d, ← Nat.two_pow_add_eq_or_of_lt h, Nat.add_comm]

def own_p1 (x : Int64) : Int64 := (((x &&& (1085102592571150095 : Int64)) * (2561 : Int64)).toUInt64 >>> ((8 : Int32) &&& 0x3f).toInt64.toUInt64).toInt64
def own_p2 (x : Int64) : Int64 := (((x &&& (71777214294589695 : Int64)) * (6553601 : Int64)).toUInt64 >>> ((16 : Int32) &&& 0x3f).toInt64.toUInt64).toInt64
def own_p3 (x : Int64) : Int64 := (((x &&& (281470681808895 : Int64)) * (42949672960001 : Int64)).toUInt64 >>> ((32 : Int32) &&& 0x3f).toInt64.toUInt64).toInt64
def own_number (x : Int64) : Int64 := own_p3 (own_p2 (own_p1 x))
theorem own_N1 (x : Int64) : own_N (own_p1 x) = (own_N x &&& 1085102592571150095) * 2561 % 18446744073709551616 / 2 ^ 8 := by
  unfold own_p1
  rw [own_Nushr _ 8 8 (by decide), own_Nmul, own_Nand]
  rfl
theorem own_N2 (x : Int64) : own_N (own_p2 x) = (own_N x &&& 71777214294589695) * 6553601 % 18446744073709551616 / 2 ^ 16 := by
  unfold own_p2
  rw [own_Nushr _ 16 16 (by decide), own_Nmul, own_Nand]
  rfl
theorem own_N3 (x : Int64) : own_N (own_p3 x) = (own_N x &&& 281470681808895) * 42949672960001 % 18446744073709551616 / 2 ^ 32 := by
  unfold own_p3
  rw [own_Nushr _ 32 32 (by decide), own_Nmul, own_Nand]
  rfl
theorem own_255 (x : Nat) : x &&& 255 = x % 256 := Nat.and_two_pow_sub_one_eq_mod x 8
theorem own_65535 (x : Nat) : x &&& 65535 = x % 65536 := Nat.and_two_pow_sub_one_eq_mod x 16
theorem own_mask2 (x : Nat) : x &&& 71777214294589695 = x % 65536 % 256 + 65536 * (x / 65536 % 65536 % 256 + 65536 * (x / 65536 / 65536 % 65536 % 256 + 65536 * (x / 65536 / 65536 / 65536 % 256))) := by
  have h1 : x &&& 71777214294589695 = 65536 * (x / 65536 &&& 1095233372415) + (x % 65536 &&& 255) := own_split x 255 1095233372415 16 (by decide)
  have h2 : x / 65536 &&& 1095233372415 = 65536 * (x / 65536 / 65536 &&& 16711935) + (x / 65536 % 65536 &&& 255) := own_split (x / 65536) 255 16711935 16 (by decide)
  have h3 : x / 65536 / 65536 &&& 16711935 = 65536 * (x / 65536 / 65536 / 65536 &&& 255) + (x / 65536 / 65536 % 65536 &&& 255) := own_split (x / 65536 / 65536) 255 255 16 (by decide)
  rw [own_255, own_255] at h3
  rw [h3, own_255] at h2
  rw [h2, own_255] at h1
  rw [h1, Nat.add_comm, Nat.add_comm (65536 * _), Nat.add_comm (65536 * (x / 65536 / 65536 / 65536 % 256))]
theorem own_mask3 (x : Nat) : x &&& 281470681808895 = x % 4294967296 % 65536 + 4294967296 * (x / 4294967296 % 65536) := by
  have h1 : x &&& 281470681808895 = 4294967296 * (x / 4294967296 &&& 65535) + (x % 4294967296 &&& 65535) := own_split x 65535 65535 32 (by decide)
  rw [own_65535, own_65535] at h1
  rw [h1, Nat.add_comm]
theorem own_st1 (S Q P a : Nat) (h : S * 2561 = 18446744073709551616 * Q + (256 * P + a)) (ha : a < 256) (hP : P < 72057594037927936) : S * 2561 % 18446744073709551616 / 2 ^ 8 = P := by
  rw [h, Nat.mul_add_mod, Nat.mod_eq_of_lt (by omega)]
  clear h
  omega
theorem own_st2 (S Q P a : Nat) (h : S * 6553601 = 18446744073709551616 * Q + (65536 * P + a)) (ha : a < 65536) (hP : P < 281474976710656) : S * 6553601 % 18446744073709551616 / 2 ^ 16 = P := by
  rw [h, Nat.mul_add_mod, Nat.mod_eq_of_lt (by omega)]
  clear h
  omega
theorem own_st3 (S Q P a : Nat) (h : S * 42949672960001 = 18446744073709551616 * Q + (4294967296 * P + a)) (ha : a < 4294967296) (hP : P < 4294967296) : S * 42949672960001 % 18446744073709551616 / 2 ^ 32 = P := by
  rw [h, Nat.mul_add_mod, Nat.mod_eq_of_lt (by omega)]
  clear h
  omega
theorem own_v1 {p q Y : Nat} (hp : p < 256) (hq : q < 256) : (p + 256 * q + 65536 * Y) % 65536 % 256 = p ∧ (p + 256 * q + 65536 * Y) / 65536 = Y := by omega
theorem own_mk2 (p1 p2 p3 p4 p5 p6 p7 : Nat) (h1 : p1 < 256) (h2 : p2 < 256) (h3 : p3 < 256) (h4 : p4 < 256) (h5 : p5 < 256) (h6 : p6 < 256) (h7 : p7 < 256) : (p1 + 256 * p2 + 65536 * (p3 + 256 * p4 + 65536 * (p5 + 256 * p6 + 65536 * p7))) &&& 71777214294589695 = p1 + 65536 * (p3 + 65536 * (p5 + 65536 * p7)) := by
  generalize hy3 : p5 + 256 * p6 + 65536 * p7 = Y3
  generalize hy2 : p3 + 256 * p4 + 65536 * Y3 = Y2
  generalize hy1 : p1 + 256 * p2 + 65536 * Y2 = Y1
  have a1 : Y1 % 65536 % 256 = p1 ∧ Y1 / 65536 = Y2 := by rw [← hy1]; exact own_v1 h1 h2
  have a2 : Y2 % 65536 % 256 = p3 ∧ Y2 / 65536 = Y3 := by rw [← hy2]; exact own_v1 h3 h4
  have a3 : Y3 % 65536 % 256 = p5 ∧ Y3 / 65536 = p7 := by rw [← hy3]; exact own_v1 h5 h6
  rw [own_mask2, a1.1, a1.2, a2.1, a2.2, a3.1, a3.2, Nat.mod_eq_of_lt h7]
theorem own_mk3 (p q r : Nat) (hp : p < 65536) (hq : q < 65536) (hr : r < 65536) : (p + 65536 * q + 4294967296 * r) &&& 281470681808895 = p + 4294967296 * r := by
  generalize hy : p + 65536 * q + 4294967296 * r = Y
  have a1 : Y % 4294967296 % 65536 = p := by omega
  have a2 : Y / 4294967296 % 65536 = r := by omega
  rw [own_mask3, a1, a2]
theorem own_k1 {a b c d e f g h : Nat} (ha : a < 10) (hb : b < 10) (hc : c < 10) (hd : d < 10) (he : e < 10) (hf : f < 10) (hg : g < 10) (hh : h < 10) : (a + b * 2 ^ 8 + c * 2 ^ 16 + d * 2 ^ 24 + e * 2 ^ 32 + f * 2 ^ 40 + g * 2 ^ 48 + h * 2 ^ 56) * 2561 % 18446744073709551616 / 2 ^ 8 = (10 * a + b) + 256 * (10 * b + c) + 65536 * ((10 * c + d) + 256 * (10 * d + e) + 65536 * ((10 * e + f) + 256 * (10 * f + g) + 65536 * (10 * g + h))) :=
  own_st1 _ (10 * h) _ a (by omega) (by omega) (by omega)
theorem own_k2 {p q r t : Nat} (hp : p < 100) (hq : q < 100) (hr : r < 100) (ht : t < 100) : (p + 65536 * (q + 65536 * (r + 65536 * t))) * 6553601 % 18446744073709551616 / 2 ^ 16 = (100 * p + q) + 65536 * (100 * q + r) + 4294967296 * (100 * r + t) :=
  own_st2 _ (100 * t) _ p (by omega) (by omega) (by omega)
theorem own_k3 {p q : Nat} (hp : p < 10000) (hq : q < 10000) : (p + 4294967296 * q) * 42949672960001 % 18446744073709551616 / 2 ^ 32 = 10000 * p + q :=
  own_st3 _ (10000 * q) _ p (by omega) (by omega) (by omega)
theorem own_t {a b : Nat} (ha : a < 10) (hb : b < 10) : 10 * a + b < 100 := by omega
theorem own_t2 {a b : Nat} (ha : a < 100) (hb : b < 100) : 100 * a + b < 10000 := by omega
theorem own_num2 {x : Int64} {p q r : Nat} (hp : p < 10000) (hq : q < 10000) (hr : r < 10000) (e : own_N x = p + 65536 * q + 4294967296 * r) : own_N (own_p3 x) = 10000 * p + r :=
  (own_N3 x).trans ((congrArg (fun z => z * 42949672960001 % 18446744073709551616 / 2 ^ 32) ((congrArg (fun z => z &&& 281470681808895) e).trans (own_mk3 p q r (Nat.lt_trans hp (by decide)) (Nat.lt_trans hq (by decide)) (Nat.lt_trans hr (by decide))))).trans (own_k3 hp hr))
theorem own_num3 {x : Int64} {p1 p2 p3 p4 p5 p6 p7 : Nat} (h1 : p1 < 100) (h2 : p2 < 100) (h3 : p3 < 100) (h4 : p4 < 100) (h5 : p5 < 100) (h6 : p6 < 100) (h7 : p7 < 100) (e : own_N x = p1 + 256 * p2 + 65536 * (p3 + 256 * p4 + 65536 * (p5 + 256 * p6 + 65536 * p7))) : own_N (own_p2 x) = (100 * p1 + p3) + 65536 * (100 * p3 + p5) + 4294967296 * (100 * p5 + p7) :=
  (own_N2 x).trans ((congrArg (fun z => z * 6553601 % 18446744073709551616 / 2 ^ 16) ((congrArg (fun z => z &&& 71777214294589695) e).trans (own_mk2 p1 p2 p3 p4 p5 p6 p7 (Nat.lt_trans h1 (by decide)) (Nat.lt_trans h2 (by decide)) (Nat.lt_trans h3 (by decide)) (Nat.lt_trans h4 (by decide)) (Nat.lt_trans h5 (by decide)) (Nat.lt_trans h6 (by decide)) (Nat.lt_trans h7 (by decide))))).trans (own_k2 h1 h3 h5 h7))
theorem own_num4 {x : Int64} {S p1 p2 p3 p4 p5 p6 p7 : Nat} (h1 : p1 < 100) (h2 : p2 < 100) (h3 : p3 < 100) (h4 : p4 < 100) (h5 : p5 < 100) (h6 : p6 < 100) (h7 : p7 < 100) (e : own_N x &&& 1085102592571150095 = S) (k : S * 2561 % 18446744073709551616 / 2 ^ 8 = p1 + 256 * p2 + 65536 * (p3 + 256 * p4 + 65536 * (p5 + 256 * p6 + 65536 * p7))) : own_N (own_number x) = 10000 * (100 * p1 + p3) + (100 * p5 + p7) :=
  own_num2 (own_t2 h1 h3) (own_t2 h3 h5) (own_t2 h5 h7) (own_num3 h1 h2 h3 h4 h5 h6 h7 ((own_N1 x).trans ((congrArg (fun z => z * 2561 % 18446744073709551616 / 2 ^ 8) e).trans k)))
theorem own_calc {x : Int64} {a b c d e f g h : Nat} (ha : a < 10) (hb : b < 10) (hc : c < 10) (hd : d < 10) (he : e < 10) (hf : f < 10) (hg : g < 10) (hh : h < 10)
    (hx : own_N x &&& 1085102592571150095 = a + b * 2 ^ 8 + c * 2 ^ 16 + d * 2 ^ 24 + e * 2 ^ 32 + f * 2 ^ 40 + g * 2 ^ 48 + h * 2 ^ 56) :
    own_N (own_number x) = 10000000 * a + 1000000 * b + 100000 * c + 10000 * d + 1000 * e + 100 * f + 10 * g + h := by
  rw [own_num4 (own_t ha hb) (own_t hb hc) (own_t hc hd) (own_t hd he) (own_t he hf) (own_t hf hg) (own_t hg hh) hx (own_k1 ha hb hc hd he hf hg hh)]
  clear hx
  omega
theorem own_dig (n k : Int32) (K N : Nat) (hN : n.toInt = N) (hk : k.toInt = K) (h1 : k ≠ -1) : own_N (((n / k) % (10 : Int32)).toInt64) = N / K % 10 := by
  have q1 := (c_idiv n k K hk h1).1 (by omega)
  rw [hN, ← Int.natCast_ediv] at q1
  generalize N / K = M at q1 ⊢
  have q2 := (c_irem (n / k) 10 10 (by decide)).1 (by omega)
  rw [q1] at q2
  have q3 := own_Ni2l (i := (n / k) % 10) (by omega)
  omega
theorem own_dig0 (n : Int32) (N : Nat) (hN : n.toInt = N) : own_N ((n % (10 : Int32)).toInt64) = N % 10 := by
  have q2 := (c_irem n 10 10 (by decide)).1 (by omega)
  rw [hN, show (10 : Int) = ((10 : Nat) : Int) from rfl, ← Int.natCast_emod] at q2
  have q3 := own_Ni2l (i := n % 10) (by omega)
  omega
theorem own_low : ∀ d : Fin 10, (d.val &&& 1085102592571150095 = d.val) ∧ ((d.val * 2 ^ 8) &&& 1085102592571150095 = d.val * 2 ^ 8) ∧ ((d.val * 2 ^ 16) &&& 1085102592571150095 = d.val * 2 ^ 16) ∧ ((d.val * 2 ^ 24) &&& 1085102592571150095 = d.val * 2 ^ 24) ∧ ((d.val * 2 ^ 32) &&& 1085102592571150095 = d.val * 2 ^ 32) ∧ ((d.val * 2 ^ 40) &&& 1085102592571150095 = d.val * 2 ^ 40) ∧ ((d.val * 2 ^ 48) &&& 1085102592571150095 = d.val * 2 ^ 48) ∧ ((d.val * 2 ^ 56) &&& 1085102592571150095 = d.val * 2 ^ 56) := by decide +kernel
theorem own_put (x : Int64) (q : Int32) (k d : Nat) (hk : q.toBitVec.toNat % 64 = k) (hx : own_N x = d) (hd : d * 2 ^ k < 18446744073709551616) : own_N (x <<< (q &&& 0x3f).toInt64) = d * 2 ^ k := by
  rw [own_Nshl x q k hk, hx, Nat.mod_eq_of_lt hd]
theorem own_sum (H a b c d e f g h : Nat) (ha : a < 10) (hb : b < 10) (hc : c < 10) (hd : d < 10) (he : e < 10) (hf : f < 10) (hg : g < 10) (hh : h < 10) :
    ((((((((H &&& 17361641481138401520) ||| a) ||| b * 2 ^ 8) ||| c * 2 ^ 16) ||| d * 2 ^ 24) ||| e * 2 ^ 32) ||| f * 2 ^ 40) ||| g * 2 ^ 48 ||| h * 2 ^ 56) &&& 1085102592571150095 = a + b * 2 ^ 8 + c * 2 ^ 16 + d * 2 ^ 24 + e * 2 ^ 32 + f * 2 ^ 40 + g * 2 ^ 48 + h * 2 ^ 56 := by
  have l0 := (own_low ⟨a, ha⟩).1
  have l1 := (own_low ⟨b, hb⟩).2.1
  have l2 := (own_low ⟨c, hc⟩).2.2.1
  have l3 := (own_low ⟨d, hd⟩).2.2.2.1
  have l4 := (own_low ⟨e, he⟩).2.2.2.2.1
  have l5 := (own_low ⟨f, hf⟩).2.2.2.2.2.1
  have l6 := (own_low ⟨g, hg⟩).2.2.2.2.2.2.1
  have l7 := (own_low ⟨h, hh⟩).2.2.2.2.2.2.2
  dsimp only at l0 l1 l2 l3 l4 l5 l6 l7
  rw [Nat.and_or_distrib_right, Nat.and_or_distrib_right, Nat.and_or_distrib_right, Nat.and_or_distrib_right, Nat.and_or_distrib_right, Nat.and_or_distrib_right, Nat.and_or_distrib_right, Nat.and_or_distrib_right, l0, l1, l2, l3, l4, l5, l6, l7, Nat.and_assoc, show (17361641481138401520 : Nat) &&& 1085102592571150095 = 0 by decide +kernel, Nat.and_zero, Nat.zero_or]
  rw [own_orsum a b 8 (by omega), own_orsum _ c 16 (by omega), own_orsum _ d 24 (by omega), own_orsum _ e 32 (by omega), own_orsum _ f 40 (by omega), own_orsum _ g 48 (by omega), own_orsum _ h 56 (by omega)]
theorem own_all (q1 : Int64) (n : Int32) (hn : 0 ≤ n.toInt ∧ n.toInt < 100000000) : own_number ((((((((((q1 &&& (-1085102592571150096 : Int64)) ||| (((n / (10000000 : Int32)) % (10 : Int32)).toInt64)) ||| ((((n / (1000000 : Int32)) % (10 : Int32)).toInt64) <<< ((8 : Int32) &&& 0x3f).toInt64)) ||| ((((n / (100000 : Int32)) % (10 : Int32)).toInt64) <<< ((16 : Int32) &&& 0x3f).toInt64)) ||| ((((n / (10000 : Int32)) % (10 : Int32)).toInt64) <<< ((24 : Int32) &&& 0x3f).toInt64)) ||| ((((n / (1000 : Int32)) % (10 : Int32)).toInt64) <<< ((32 : Int32) &&& 0x3f).toInt64)) ||| ((((n / (100 : Int32)) % (10 : Int32)).toInt64) <<< ((40 : Int32) &&& 0x3f).toInt64)) ||| ((((n / (10 : Int32)) % (10 : Int32)).toInt64) <<< ((48 : Int32) &&& 0x3f).toInt64)) ||| (((n % (10 : Int32)).toInt64) <<< ((56 : Int32) &&& 0x3f).toInt64))) = n.toInt64 := by
  obtain ⟨N, hN⟩ : ∃ N : Nat, n.toInt = N := ⟨n.toInt.toNat, by omega⟩
  have d0 := own_dig n 10000000 10000000 N hN (by decide) (by decide)
  have d1 := own_dig n 1000000 1000000 N hN (by decide) (by decide)
  have d2 := own_dig n 100000 100000 N hN (by decide) (by decide)
  have d3 := own_dig n 10000 10000 N hN (by decide) (by decide)
  have d4 := own_dig n 1000 1000 N hN (by decide) (by decide)
  have d5 := own_dig n 100 100 N hN (by decide) (by decide)
  have d6 := own_dig n 10 10 N hN (by decide) (by decide)
  have d7 := own_dig0 n N hN
  apply own_inj
  rw [own_calc (a := N / 10000000 % 10) (b := N / 1000000 % 10) (c := N / 100000 % 10) (d := N / 10000 % 10) (e := N / 1000 % 10) (f := N / 100 % 10) (g := N / 10 % 10) (h := N % 10) (by omega) (by omega) (by omega) (by omega) (by omega) (by omega) (by omega) (by omega)]
  · have q := own_Ni2l hn.1
    omega
  · rw [own_Nor, own_Nor, own_Nor, own_Nor, own_Nor, own_Nor, own_Nor, own_Nor, own_Nand, show own_N (-1085102592571150096 : Int64) = 17361641481138401520 from by decide +kernel, d0, own_put _ 8 8 _ (by decide) d1 (by omega), own_put _ 16 16 _ (by decide) d2 (by omega), own_put _ 24 24 _ (by decide) d3 (by omega), own_put _ 32 32 _ (by decide) d4 (by omega), own_put _ 40 40 _ (by decide) d5 (by omega), own_put _ 48 48 _ (by decide) d6 (by omega), own_put _ 56 56 _ (by decide) d7 (by omega)]
    exact own_sum _ _ _ _ _ _ _ _ _ (by omega) (by omega) (by omega) (by omega) (by omega) (by omega) (by omega) (by omega)
theorem own_n (x : Int32) : 0 ≤ ((x &&& (2147483647 : Int32)) % (100000000 : Int32)).toInt ∧ ((x &&& (2147483647 : Int32)) % (100000000 : Int32)).toInt < 100000000 := by
  have h := c_mask x 2147483647 31 (by decide) (by decide)
  have h1 := (c_irem (x &&& 2147483647) 100000000 100000000 (by decide)).1 (by omega)
  omega
theorem d1_0 : decode prog_53_method_7_code 0 = .ok (.lload_n 0, 1) := by decide +kernel
theorem d1_1 : decode prog_53_method_7_code 1 = .ok (.ldc2_w 52, 3) := by decide +kernel
theorem d1_4 : decode prog_53_method_7_code 4 = .ok (.land, 1) := by decide +kernel
theorem d1_5 : decode prog_53_method_7_code 5 = .ok (.ldc2_w 54, 3) := by decide +kernel
theorem d1_8 : decode prog_53_method_7_code 8 = .ok (.lmul, 1) := by decide +kernel
theorem d1_9 : decode prog_53_method_7_code 9 = .ok (.bipush 8, 2) := by decide +kernel
theorem d1_11 : decode prog_53_method_7_code 11 = .ok (.lushr, 1) := by decide +kernel
theorem d1_12 : decode prog_53_method_7_code 12 = .ok (.lstore_n 2, 1) := by decide +kernel
theorem d1_13 : decode prog_53_method_7_code 13 = .ok (.lload_n 2, 1) := by decide +kernel
theorem d1_14 : decode prog_53_method_7_code 14 = .ok (.ldc2_w 56, 3) := by decide +kernel
theorem d1_17 : decode prog_53_method_7_code 17 = .ok (.land, 1) := by decide +kernel
theorem d1_18 : decode prog_53_method_7_code 18 = .ok (.ldc2_w 58, 3) := by decide +kernel
theorem d1_21 : decode prog_53_method_7_code 21 = .ok (.lmul, 1) := by decide +kernel
theorem d1_22 : decode prog_53_method_7_code 22 = .ok (.bipush 16, 2) := by decide +kernel
theorem d1_24 : decode prog_53_method_7_code 24 = .ok (.lushr, 1) := by decide +kernel
theorem d1_25 : decode prog_53_method_7_code 25 = .ok (.lstore 4, 2) := by decide +kernel
theorem d1_27 : decode prog_53_method_7_code 27 = .ok (.lload 4, 2) := by decide +kernel
theorem d1_29 : decode prog_53_method_7_code 29 = .ok (.ldc2_w 60, 3) := by decide +kernel
theorem d1_32 : decode prog_53_method_7_code 32 = .ok (.land, 1) := by decide +kernel
theorem d1_33 : decode prog_53_method_7_code 33 = .ok (.ldc2_w 62, 3) := by decide +kernel
theorem d1_36 : decode prog_53_method_7_code 36 = .ok (.lmul, 1) := by decide +kernel
theorem d1_37 : decode prog_53_method_7_code 37 = .ok (.bipush 32, 2) := by decide +kernel
theorem d1_39 : decode prog_53_method_7_code 39 = .ok (.lushr, 1) := by decide +kernel
theorem d1_40 : decode prog_53_method_7_code 40 = .ok (.lreturn, 1) := by decide +kernel
theorem pn_1 : plainName "com/example/excedent/excedent/io/EightBytes" = true := by first | (simp [plainName, overriddenIn]; done) | decide +kernel
theorem ef_1 (m : MethodId) (q0 : Int64) : entryFrame m #[(.long q0)] 6 = mkF m 0 #[.val (.long q0), .second, .unset, .unset, .unset, .unset] [] := by first | (simp [entryFrame, mkF, argsToLocals, Value.category]; done) | rfl
def Q_rm1 (Z : State) (q0 : Int64) (h0 : Heap) (n0 : Nat) (v : Option Value) (h : Heap) (L : List Loc) : Prop := v = some (.long (own_number q0)) ∧ Fr n0 L ∧ h = h0
set_option maxRecDepth 65536 in
set_option maxHeartbeats 40000000 in
theorem rm1 (l : Launch) (Z : State) (a0 : Array Value) (hw : ∀ d ∈ tables_1, d.before a0 Z = true) (ws : List Jvm.Cond) (q0 : Int64) (h0 : Heap) (n0 : Nat) (Z0 : n0 ≤ h0.size) :
    MetFree l (⟨"com/example/excedent/excedent/io/EightBytes", "number", "(J)J"⟩ : MethodName) (head1 (Jvm.Cond.code (⟨"com/example/excedent/excedent/io/EightBytes", "number", "(J)J"⟩ : MethodName) prog_53_method_7_code 6 (some .long) :: ws) ({ frames := 0, cells := 0, slots := 0, locals := 0 } : Room)) (fun aa U => aa = #[(.long q0)] ∧ Z.Warmed39 U.vm ∧ U.heap = h0) (fun _ _ _ _ _ => True) (fun _ U ou U' => ∃ v L, ou = .returned v ∧ Q_rm1 Z q0 h0 n0 v U'.heap L ∧ FrameEnd U ou U' L ({ frames := 0, cells := 0, slots := 0, locals := 0 } : Room).cells ({ frames := 0, cells := 0, slots := 0, locals := 0 } : Room).slots) := by
  refine MetFree.of_bodySF (plainFor_of_name pn_1) hisR ?_
  intro p e s m args below meth c s₁ Bd hml0 hP hK
  obtain ⟨rfl, hZ, hh⟩ := hP
  have hx := Bd.exec
  have hby := Bd.bytes
  have hml : c.maxLocals = 6 := hml0
  have hown : s.vm.findClass "com/example/excedent/excedent/io/EightBytes" = some m.cls := findClass_of_methodNamed Bd.named
  have hnm := (name_of_methodNamed Bd.named Bd.method).1
  have X0 : Stand p l e ({ frames := 0, cells := 0, slots := 0, locals := 0 } : Room) s m #[(.long q0)] below meth c s₁ [] 0 0 := Stand.of_body Bd
  have e0 : s₁.heap = h0 := by rw [← hh, Bd.state]; rfl
  have N0 := Fr.nil n0
  have K0 := Keep.refl h0 []
  refine own_as (ef_1 m q0) ?_
  show own_Ends p e below s₁ (mkF m 0 #[.val (.long q0), .second, .unset, .unset, .unset, .unset] []) _
  refine own_go (fun _ => XS.lloadN X0.here hx rfl (hb hby d1_0) rfl) ?_
  show own_Ends p e below s₁ (mkF m 1 #[.val (.long q0), .second, .unset, .unset, .unset, .unset] [(.long q0)]) _
  refine own_go (X0.ldc2Long hx hown (mvT hZ (hw _ (List.mem_of_getElem? (i := 10) rfl))) (g := (mkF m 1 #[.val (.long q0), .second, .unset, .unset, .unset, .unset] [(.long q0)])) rfl (hb hby d1_1)) ?_
  show own_Ends p e below s₁ (mkF m 4 #[.val (.long q0), .second, .unset, .unset, .unset, .unset] [(.long (1085102592571150095 : Int64)), (.long q0)]) _
  refine own_go (fun _ => XS.land X0.here hx rfl (hb hby d1_4) rfl) ?_
  show own_Ends p e below s₁ (mkF m 5 #[.val (.long q0), .second, .unset, .unset, .unset, .unset] [(.long (q0 &&& (1085102592571150095 : Int64)))]) _
  refine own_go (X0.ldc2Long hx hown (mvT hZ (hw _ (List.mem_of_getElem? (i := 11) rfl))) (g := (mkF m 5 #[.val (.long q0), .second, .unset, .unset, .unset, .unset] [(.long (q0 &&& (1085102592571150095 : Int64)))])) rfl (hb hby d1_5)) ?_
  show own_Ends p e below s₁ (mkF m 8 #[.val (.long q0), .second, .unset, .unset, .unset, .unset] [(.long (2561 : Int64)), (.long (q0 &&& (1085102592571150095 : Int64)))]) _
  refine own_go (fun _ => XS.lmul X0.here hx rfl (hb hby d1_8) rfl) ?_
  show own_Ends p e below s₁ (mkF m 9 #[.val (.long q0), .second, .unset, .unset, .unset, .unset] [(.long ((q0 &&& (1085102592571150095 : Int64)) * (2561 : Int64)))]) _
  refine own_go (fun _ => XS.bipush X0.here hx rfl (hb hby d1_9)) ?_
  show own_Ends p e below s₁ (mkF m 11 #[.val (.long q0), .second, .unset, .unset, .unset, .unset] [(.int (8 : Int32)), (.long ((q0 &&& (1085102592571150095 : Int64)) * (2561 : Int64)))]) _
  refine own_go (fun _ => XS.lushr X0.here hx rfl (hb hby d1_11) rfl) ?_
  show own_Ends p e below s₁ (mkF m 12 #[.val (.long q0), .second, .unset, .unset, .unset, .unset] [(.long ((((q0 &&& (1085102592571150095 : Int64)) * (2561 : Int64)).toUInt64 >>> ((8 : Int32) &&& 0x3f).toInt64.toUInt64).toInt64))]) _
  refine own_go (fun _ => XS.lstoreN X0.here hx rfl (hb hby d1_12) rfl (l' := #[.val (.long q0), .second, .val (.long ((((q0 &&& (1085102592571150095 : Int64)) * (2561 : Int64)).toUInt64 >>> ((8 : Int32) &&& 0x3f).toInt64.toUInt64).toInt64)), .second, .unset, .unset]) rfl) ?_
  show own_Ends p e below s₁ (mkF m 13 #[.val (.long q0), .second, .val (.long ((((q0 &&& (1085102592571150095 : Int64)) * (2561 : Int64)).toUInt64 >>> ((8 : Int32) &&& 0x3f).toInt64.toUInt64).toInt64)), .second, .unset, .unset] []) _
  refine own_go (fun _ => XS.lloadN X0.here hx rfl (hb hby d1_13) rfl) ?_
  show own_Ends p e below s₁ (mkF m 14 #[.val (.long q0), .second, .val (.long ((((q0 &&& (1085102592571150095 : Int64)) * (2561 : Int64)).toUInt64 >>> ((8 : Int32) &&& 0x3f).toInt64.toUInt64).toInt64)), .second, .unset, .unset] [(.long ((((q0 &&& (1085102592571150095 : Int64)) * (2561 : Int64)).toUInt64 >>> ((8 : Int32) &&& 0x3f).toInt64.toUInt64).toInt64))]) _
  refine own_go (X0.ldc2Long hx hown (mvT hZ (hw _ (List.mem_of_getElem? (i := 12) rfl))) (g := (mkF m 14 #[.val (.long q0), .second, .val (.long ((((q0 &&& (1085102592571150095 : Int64)) * (2561 : Int64)).toUInt64 >>> ((8 : Int32) &&& 0x3f).toInt64.toUInt64).toInt64)), .second, .unset, .unset] [(.long ((((q0 &&& (1085102592571150095 : Int64)) * (2561 : Int64)).toUInt64 >>> ((8 : Int32) &&& 0x3f).toInt64.toUInt64).toInt64))])) rfl (hb hby d1_14)) ?_
  show own_Ends p e below s₁ (mkF m 17 #[.val (.long q0), .second, .val (.long ((((q0 &&& (1085102592571150095 : Int64)) * (2561 : Int64)).toUInt64 >>> ((8 : Int32) &&& 0x3f).toInt64.toUInt64).toInt64)), .second, .unset, .unset] [(.long (71777214294589695 : Int64)), (.long ((((q0 &&& (1085102592571150095 : Int64)) * (2561 : Int64)).toUInt64 >>> ((8 : Int32) &&& 0x3f).toInt64.toUInt64).toInt64))]) _
  refine own_go (fun _ => XS.land X0.here hx rfl (hb hby d1_17) rfl) ?_
  show own_Ends p e below s₁ (mkF m 18 #[.val (.long q0), .second, .val (.long ((((q0 &&& (1085102592571150095 : Int64)) * (2561 : Int64)).toUInt64 >>> ((8 : Int32) &&& 0x3f).toInt64.toUInt64).toInt64)), .second, .unset, .unset] [(.long (((((q0 &&& (1085102592571150095 : Int64)) * (2561 : Int64)).toUInt64 >>> ((8 : Int32) &&& 0x3f).toInt64.toUInt64).toInt64) &&& (71777214294589695 : Int64)))]) _
  refine own_go (X0.ldc2Long hx hown (mvT hZ (hw _ (List.mem_of_getElem? (i := 13) rfl))) (g := (mkF m 18 #[.val (.long q0), .second, .val (.long ((((q0 &&& (1085102592571150095 : Int64)) * (2561 : Int64)).toUInt64 >>> ((8 : Int32) &&& 0x3f).toInt64.toUInt64).toInt64)), .second, .unset, .unset] [(.long (((((q0 &&& (1085102592571150095 : Int64)) * (2561 : Int64)).toUInt64 >>> ((8 : Int32) &&& 0x3f).toInt64.toUInt64).toInt64) &&& (71777214294589695 : Int64)))])) rfl (hb hby d1_18)) ?_
  show own_Ends p e below s₁ (mkF m 21 #[.val (.long q0), .second, .val (.long ((((q0 &&& (1085102592571150095 : Int64)) * (2561 : Int64)).toUInt64 >>> ((8 : Int32) &&& 0x3f).toInt64.toUInt64).toInt64)), .second, .unset, .unset] [(.long (6553601 : Int64)), (.long (((((q0 &&& (1085102592571150095 : Int64)) * (2561 : Int64)).toUInt64 >>> ((8 : Int32) &&& 0x3f).toInt64.toUInt64).toInt64) &&& (71777214294589695 : Int64)))]) _
  refine own_go (fun _ => XS.lmul X0.here hx rfl (hb hby d1_21) rfl) ?_
  show own_Ends p e below s₁ (mkF m 22 #[.val (.long q0), .second, .val (.long ((((q0 &&& (1085102592571150095 : Int64)) * (2561 : Int64)).toUInt64 >>> ((8 : Int32) &&& 0x3f).toInt64.toUInt64).toInt64)), .second, .unset, .unset] [(.long ((((((q0 &&& (1085102592571150095 : Int64)) * (2561 : Int64)).toUInt64 >>> ((8 : Int32) &&& 0x3f).toInt64.toUInt64).toInt64) &&& (71777214294589695 : Int64)) * (6553601 : Int64)))]) _
  refine own_go (fun _ => XS.bipush X0.here hx rfl (hb hby d1_22)) ?_
  show own_Ends p e below s₁ (mkF m 24 #[.val (.long q0), .second, .val (.long ((((q0 &&& (1085102592571150095 : Int64)) * (2561 : Int64)).toUInt64 >>> ((8 : Int32) &&& 0x3f).toInt64.toUInt64).toInt64)), .second, .unset, .unset] [(.int (16 : Int32)), (.long ((((((q0 &&& (1085102592571150095 : Int64)) * (2561 : Int64)).toUInt64 >>> ((8 : Int32) &&& 0x3f).toInt64.toUInt64).toInt64) &&& (71777214294589695 : Int64)) * (6553601 : Int64)))]) _
  refine own_go (fun _ => XS.lushr X0.here hx rfl (hb hby d1_24) rfl) ?_
  show own_Ends p e below s₁ (mkF m 25 #[.val (.long q0), .second, .val (.long ((((q0 &&& (1085102592571150095 : Int64)) * (2561 : Int64)).toUInt64 >>> ((8 : Int32) &&& 0x3f).toInt64.toUInt64).toInt64)), .second, .unset, .unset] [(.long ((((((((q0 &&& (1085102592571150095 : Int64)) * (2561 : Int64)).toUInt64 >>> ((8 : Int32) &&& 0x3f).toInt64.toUInt64).toInt64) &&& (71777214294589695 : Int64)) * (6553601 : Int64)).toUInt64 >>> ((16 : Int32) &&& 0x3f).toInt64.toUInt64).toInt64))]) _
  refine own_go (fun _ => XS.lstore X0.here hx rfl (hb hby d1_25) rfl (l' := #[.val (.long q0), .second, .val (.long ((((q0 &&& (1085102592571150095 : Int64)) * (2561 : Int64)).toUInt64 >>> ((8 : Int32) &&& 0x3f).toInt64.toUInt64).toInt64)), .second, .val (.long ((((((((q0 &&& (1085102592571150095 : Int64)) * (2561 : Int64)).toUInt64 >>> ((8 : Int32) &&& 0x3f).toInt64.toUInt64).toInt64) &&& (71777214294589695 : Int64)) * (6553601 : Int64)).toUInt64 >>> ((16 : Int32) &&& 0x3f).toInt64.toUInt64).toInt64)), .second]) rfl) ?_
  show own_Ends p e below s₁ (mkF m 27 #[.val (.long q0), .second, .val (.long ((((q0 &&& (1085102592571150095 : Int64)) * (2561 : Int64)).toUInt64 >>> ((8 : Int32) &&& 0x3f).toInt64.toUInt64).toInt64)), .second, .val (.long ((((((((q0 &&& (1085102592571150095 : Int64)) * (2561 : Int64)).toUInt64 >>> ((8 : Int32) &&& 0x3f).toInt64.toUInt64).toInt64) &&& (71777214294589695 : Int64)) * (6553601 : Int64)).toUInt64 >>> ((16 : Int32) &&& 0x3f).toInt64.toUInt64).toInt64)), .second] []) _
  refine own_go (fun _ => XS.lload X0.here hx rfl (hb hby d1_27) rfl) ?_
  show own_Ends p e below s₁ (mkF m 29 #[.val (.long q0), .second, .val (.long ((((q0 &&& (1085102592571150095 : Int64)) * (2561 : Int64)).toUInt64 >>> ((8 : Int32) &&& 0x3f).toInt64.toUInt64).toInt64)), .second, .val (.long ((((((((q0 &&& (1085102592571150095 : Int64)) * (2561 : Int64)).toUInt64 >>> ((8 : Int32) &&& 0x3f).toInt64.toUInt64).toInt64) &&& (71777214294589695 : Int64)) * (6553601 : Int64)).toUInt64 >>> ((16 : Int32) &&& 0x3f).toInt64.toUInt64).toInt64)), .second] [(.long ((((((((q0 &&& (1085102592571150095 : Int64)) * (2561 : Int64)).toUInt64 >>> ((8 : Int32) &&& 0x3f).toInt64.toUInt64).toInt64) &&& (71777214294589695 : Int64)) * (6553601 : Int64)).toUInt64 >>> ((16 : Int32) &&& 0x3f).toInt64.toUInt64).toInt64))]) _
  refine own_go (X0.ldc2Long hx hown (mvT hZ (hw _ (List.mem_of_getElem? (i := 14) rfl))) (g := (mkF m 29 #[.val (.long q0), .second, .val (.long ((((q0 &&& (1085102592571150095 : Int64)) * (2561 : Int64)).toUInt64 >>> ((8 : Int32) &&& 0x3f).toInt64.toUInt64).toInt64)), .second, .val (.long ((((((((q0 &&& (1085102592571150095 : Int64)) * (2561 : Int64)).toUInt64 >>> ((8 : Int32) &&& 0x3f).toInt64.toUInt64).toInt64) &&& (71777214294589695 : Int64)) * (6553601 : Int64)).toUInt64 >>> ((16 : Int32) &&& 0x3f).toInt64.toUInt64).toInt64)), .second] [(.long ((((((((q0 &&& (1085102592571150095 : Int64)) * (2561 : Int64)).toUInt64 >>> ((8 : Int32) &&& 0x3f).toInt64.toUInt64).toInt64) &&& (71777214294589695 : Int64)) * (6553601 : Int64)).toUInt64 >>> ((16 : Int32) &&& 0x3f).toInt64.toUInt64).toInt64))])) rfl (hb hby d1_29)) ?_
  show own_Ends p e below s₁ (mkF m 32 #[.val (.long q0), .second, .val (.long ((((q0 &&& (1085102592571150095 : Int64)) * (2561 : Int64)).toUInt64 >>> ((8 : Int32) &&& 0x3f).toInt64.toUInt64).toInt64)), .second, .val (.long ((((((((q0 &&& (1085102592571150095 : Int64)) * (2561 : Int64)).toUInt64 >>> ((8 : Int32) &&& 0x3f).toInt64.toUInt64).toInt64) &&& (71777214294589695 : Int64)) * (6553601 : Int64)).toUInt64 >>> ((16 : Int32) &&& 0x3f).toInt64.toUInt64).toInt64)), .second] [(.long (281470681808895 : Int64)), (.long ((((((((q0 &&& (1085102592571150095 : Int64)) * (2561 : Int64)).toUInt64 >>> ((8 : Int32) &&& 0x3f).toInt64.toUInt64).toInt64) &&& (71777214294589695 : Int64)) * (6553601 : Int64)).toUInt64 >>> ((16 : Int32) &&& 0x3f).toInt64.toUInt64).toInt64))]) _
  refine own_go (fun _ => XS.land X0.here hx rfl (hb hby d1_32) rfl) ?_
  show own_Ends p e below s₁ (mkF m 33 #[.val (.long q0), .second, .val (.long ((((q0 &&& (1085102592571150095 : Int64)) * (2561 : Int64)).toUInt64 >>> ((8 : Int32) &&& 0x3f).toInt64.toUInt64).toInt64)), .second, .val (.long ((((((((q0 &&& (1085102592571150095 : Int64)) * (2561 : Int64)).toUInt64 >>> ((8 : Int32) &&& 0x3f).toInt64.toUInt64).toInt64) &&& (71777214294589695 : Int64)) * (6553601 : Int64)).toUInt64 >>> ((16 : Int32) &&& 0x3f).toInt64.toUInt64).toInt64)), .second] [(.long (((((((((q0 &&& (1085102592571150095 : Int64)) * (2561 : Int64)).toUInt64 >>> ((8 : Int32) &&& 0x3f).toInt64.toUInt64).toInt64) &&& (71777214294589695 : Int64)) * (6553601 : Int64)).toUInt64 >>> ((16 : Int32) &&& 0x3f).toInt64.toUInt64).toInt64) &&& (281470681808895 : Int64)))]) _
  refine own_go (X0.ldc2Long hx hown (mvT hZ (hw _ (List.mem_of_getElem? (i := 15) rfl))) (g := (mkF m 33 #[.val (.long q0), .second, .val (.long ((((q0 &&& (1085102592571150095 : Int64)) * (2561 : Int64)).toUInt64 >>> ((8 : Int32) &&& 0x3f).toInt64.toUInt64).toInt64)), .second, .val (.long ((((((((q0 &&& (1085102592571150095 : Int64)) * (2561 : Int64)).toUInt64 >>> ((8 : Int32) &&& 0x3f).toInt64.toUInt64).toInt64) &&& (71777214294589695 : Int64)) * (6553601 : Int64)).toUInt64 >>> ((16 : Int32) &&& 0x3f).toInt64.toUInt64).toInt64)), .second] [(.long (((((((((q0 &&& (1085102592571150095 : Int64)) * (2561 : Int64)).toUInt64 >>> ((8 : Int32) &&& 0x3f).toInt64.toUInt64).toInt64) &&& (71777214294589695 : Int64)) * (6553601 : Int64)).toUInt64 >>> ((16 : Int32) &&& 0x3f).toInt64.toUInt64).toInt64) &&& (281470681808895 : Int64)))])) rfl (hb hby d1_33)) ?_
  show own_Ends p e below s₁ (mkF m 36 #[.val (.long q0), .second, .val (.long ((((q0 &&& (1085102592571150095 : Int64)) * (2561 : Int64)).toUInt64 >>> ((8 : Int32) &&& 0x3f).toInt64.toUInt64).toInt64)), .second, .val (.long ((((((((q0 &&& (1085102592571150095 : Int64)) * (2561 : Int64)).toUInt64 >>> ((8 : Int32) &&& 0x3f).toInt64.toUInt64).toInt64) &&& (71777214294589695 : Int64)) * (6553601 : Int64)).toUInt64 >>> ((16 : Int32) &&& 0x3f).toInt64.toUInt64).toInt64)), .second] [(.long (42949672960001 : Int64)), (.long (((((((((q0 &&& (1085102592571150095 : Int64)) * (2561 : Int64)).toUInt64 >>> ((8 : Int32) &&& 0x3f).toInt64.toUInt64).toInt64) &&& (71777214294589695 : Int64)) * (6553601 : Int64)).toUInt64 >>> ((16 : Int32) &&& 0x3f).toInt64.toUInt64).toInt64) &&& (281470681808895 : Int64)))]) _
  refine own_go (fun _ => XS.lmul X0.here hx rfl (hb hby d1_36) rfl) ?_
  show own_Ends p e below s₁ (mkF m 37 #[.val (.long q0), .second, .val (.long ((((q0 &&& (1085102592571150095 : Int64)) * (2561 : Int64)).toUInt64 >>> ((8 : Int32) &&& 0x3f).toInt64.toUInt64).toInt64)), .second, .val (.long ((((((((q0 &&& (1085102592571150095 : Int64)) * (2561 : Int64)).toUInt64 >>> ((8 : Int32) &&& 0x3f).toInt64.toUInt64).toInt64) &&& (71777214294589695 : Int64)) * (6553601 : Int64)).toUInt64 >>> ((16 : Int32) &&& 0x3f).toInt64.toUInt64).toInt64)), .second] [(.long ((((((((((q0 &&& (1085102592571150095 : Int64)) * (2561 : Int64)).toUInt64 >>> ((8 : Int32) &&& 0x3f).toInt64.toUInt64).toInt64) &&& (71777214294589695 : Int64)) * (6553601 : Int64)).toUInt64 >>> ((16 : Int32) &&& 0x3f).toInt64.toUInt64).toInt64) &&& (281470681808895 : Int64)) * (42949672960001 : Int64)))]) _
  refine own_go (fun _ => XS.bipush X0.here hx rfl (hb hby d1_37)) ?_
  show own_Ends p e below s₁ (mkF m 39 #[.val (.long q0), .second, .val (.long ((((q0 &&& (1085102592571150095 : Int64)) * (2561 : Int64)).toUInt64 >>> ((8 : Int32) &&& 0x3f).toInt64.toUInt64).toInt64)), .second, .val (.long ((((((((q0 &&& (1085102592571150095 : Int64)) * (2561 : Int64)).toUInt64 >>> ((8 : Int32) &&& 0x3f).toInt64.toUInt64).toInt64) &&& (71777214294589695 : Int64)) * (6553601 : Int64)).toUInt64 >>> ((16 : Int32) &&& 0x3f).toInt64.toUInt64).toInt64)), .second] [(.int (32 : Int32)), (.long ((((((((((q0 &&& (1085102592571150095 : Int64)) * (2561 : Int64)).toUInt64 >>> ((8 : Int32) &&& 0x3f).toInt64.toUInt64).toInt64) &&& (71777214294589695 : Int64)) * (6553601 : Int64)).toUInt64 >>> ((16 : Int32) &&& 0x3f).toInt64.toUInt64).toInt64) &&& (281470681808895 : Int64)) * (42949672960001 : Int64)))]) _
  refine own_go (fun _ => XS.lushr X0.here hx rfl (hb hby d1_39) rfl) ?_
  show own_Ends p e below s₁ (mkF m 40 #[.val (.long q0), .second, .val (.long ((((q0 &&& (1085102592571150095 : Int64)) * (2561 : Int64)).toUInt64 >>> ((8 : Int32) &&& 0x3f).toInt64.toUInt64).toInt64)), .second, .val (.long ((((((((q0 &&& (1085102592571150095 : Int64)) * (2561 : Int64)).toUInt64 >>> ((8 : Int32) &&& 0x3f).toInt64.toUInt64).toInt64) &&& (71777214294589695 : Int64)) * (6553601 : Int64)).toUInt64 >>> ((16 : Int32) &&& 0x3f).toInt64.toUInt64).toInt64)), .second] [(.long ((((((((((((q0 &&& (1085102592571150095 : Int64)) * (2561 : Int64)).toUInt64 >>> ((8 : Int32) &&& 0x3f).toInt64.toUInt64).toInt64) &&& (71777214294589695 : Int64)) * (6553601 : Int64)).toUInt64 >>> ((16 : Int32) &&& 0x3f).toInt64.toUInt64).toInt64) &&& (281470681808895 : Int64)) * (42949672960001 : Int64)).toUInt64 >>> ((32 : Int32) &&& 0x3f).toInt64.toUInt64).toInt64))]) _
  obtain ⟨fs, hr, hrun, hended, hW, hsame⟩ := X0.leave (v := some (.long ((((((((((((q0 &&& (1085102592571150095 : Int64)) * (2561 : Int64)).toUInt64 >>> ((8 : Int32) &&& 0x3f).toInt64.toUInt64).toInt64) &&& (71777214294589695 : Int64)) * (6553601 : Int64)).toUInt64 >>> ((16 : Int32) &&& 0x3f).toInt64.toUInt64).toInt64) &&& (281470681808895 : Int64)) * (42949672960001 : Int64)).toUInt64 >>> ((32 : Int32) &&& 0x3f).toInt64.toUInt64).toInt64))) (fun h => by rw [Bd.returns] at h; cases h)
  refine ⟨_, _, retOut X0 hx Bd.returns rfl (Or.inr (Or.inl ⟨rfl, rfl, _, rfl⟩)) (hb hby d1_40) hr, hrun, hended, _, _, rfl, ?_, ⟨_, rfl⟩, hW, hsame.mono (by decide) (by decide)⟩
  show Q_rm1 Z q0 h0 n0 _ s₁.heap _
  rw [e0]
  exact ⟨by rfl, N0, rfl⟩
theorem pn_0 : plainName "com/example/excedent/excedent/io/EightBytesNumberPinLaw" = true := by first | (simp [plainName, overriddenIn]; done) | decide +kernel
theorem ef_0 (m : MethodId) (p0 : Int32) (q1 : Int64) : entryFrame m #[(.int p0), (.long q1)] maxLocals = mkF m 0 #[.val (.int p0), .val (.long q1), .second, .unset, .unset, .unset] [] := by first | (simp [entryFrame, mkF, argsToLocals, Value.category, maxLocals]; done) | rfl
def Q_rm0 (Z : State) (p0 : Int32) (q1 : Int64) (h0 : Heap) (n0 : Nat) (v : Option Value) (h : Heap) (L : List Loc) : Prop := v = some (.int 1) ∧ Fr n0 L
theorem pd_0 : parseMethodDescriptor "(J)J" = some ⟨[.long], some .long⟩ := by decide +kernel
set_option maxRecDepth 65536 in
set_option maxHeartbeats 40000000 in
theorem rm0 (l : Launch) (Z : State) (a0 : Array Value) (hw : ∀ d ∈ tables_1, d.before a0 Z = true) (ws : List Jvm.Cond) (p0 : Int32) (q1 : Int64) (h0 : Heap) (n0 : Nat) (Z0 : n0 ≤ h0.size) :
    MetFree l x (head1 (Jvm.Cond.code x code maxLocals ret :: ws) room_1) (fun aa U => aa = #[(.int p0), (.long q1)] ∧ Z.Warmed39 U.vm ∧ U.heap = h0) (fun _ _ _ _ _ => True) (fun _ U ou U' => ∃ v L, ou = .returned v ∧ Q_rm0 Z p0 q1 h0 n0 v U'.heap L ∧ FrameEnd U ou U' L room_1.cells room_1.slots) := by
  refine MetFree.of_bodySF (plainFor_of_name pn_0) hisR ?_
  intro p e s m args below meth c s₁ Bd hml0 hP hK
  obtain ⟨rfl, hZ, hh⟩ := hP
  have hx := Bd.exec
  have hby := Bd.bytes
  have hml : c.maxLocals = 6 := hml0
  have hown : s.vm.findClass "com/example/excedent/excedent/io/EightBytesNumberPinLaw" = some m.cls := findClass_of_methodNamed Bd.named
  have hnm := (name_of_methodNamed Bd.named Bd.method).1
  have X0 : Stand p l e room_1 s m #[(.int p0), (.long q1)] below meth c s₁ [] 0 0 := Stand.of_body Bd
  have e0 : s₁.heap = h0 := by rw [← hh, Bd.state]; rfl
  have N0 := Fr.nil n0
  have K0 := Keep.refl h0 []
  refine own_as (ef_0 m p0 q1) ?_
  show own_Ends p e below s₁ (mkF m 0 #[.val (.int p0), .val (.long q1), .second, .unset, .unset, .unset] []) _
  refine own_go (fun _ => XS.iloadN X0.here hx rfl (hb hby at_0) rfl) ?_
  show own_Ends p e below s₁ (mkF m 1 #[.val (.int p0), .val (.long q1), .second, .unset, .unset, .unset] [(.int p0)]) _
  refine own_go (X0.ldcInt hx hown (mvT hZ (hw _ (List.mem_of_getElem? (i := 0) rfl))) (g := (mkF m 1 #[.val (.int p0), .val (.long q1), .second, .unset, .unset, .unset] [(.int p0)])) rfl (hb hby at_1)) ?_
  show own_Ends p e below s₁ (mkF m 3 #[.val (.int p0), .val (.long q1), .second, .unset, .unset, .unset] [(.int (2147483647 : Int32)), (.int p0)]) _
  refine own_go (fun _ => XS.iand X0.here hx rfl (hb hby at_3) rfl) ?_
  show own_Ends p e below s₁ (mkF m 4 #[.val (.int p0), .val (.long q1), .second, .unset, .unset, .unset] [(.int (p0 &&& (2147483647 : Int32)))]) _
  refine own_go (X0.ldcInt hx hown (mvT hZ (hw _ (List.mem_of_getElem? (i := 1) rfl))) (g := (mkF m 4 #[.val (.int p0), .val (.long q1), .second, .unset, .unset, .unset] [(.int (p0 &&& (2147483647 : Int32)))])) rfl (hb hby at_4)) ?_
  show own_Ends p e below s₁ (mkF m 6 #[.val (.int p0), .val (.long q1), .second, .unset, .unset, .unset] [(.int (100000000 : Int32)), (.int (p0 &&& (2147483647 : Int32)))]) _
  refine own_go (fun _ => iremM X0 hx rfl (hb hby at_6) rfl (by decide)) ?_
  show own_Ends p e below s₁ (mkF m 7 #[.val (.int p0), .val (.long q1), .second, .unset, .unset, .unset] [(.int ((p0 &&& (2147483647 : Int32)) % (100000000 : Int32)))]) _
  refine own_go (fun _ => XS.istoreN X0.here hx rfl (hb hby at_7) rfl (l' := #[.val (.int p0), .val (.long q1), .second, .val (.int ((p0 &&& (2147483647 : Int32)) % (100000000 : Int32))), .unset, .unset]) rfl) ?_
  show own_Ends p e below s₁ (mkF m 8 #[.val (.int p0), .val (.long q1), .second, .val (.int ((p0 &&& (2147483647 : Int32)) % (100000000 : Int32))), .unset, .unset] []) _
  have hn := own_n p0
  generalize gn : ((p0 &&& (2147483647 : Int32)) % (100000000 : Int32)) = n at hn ⊢
  refine own_go (fun _ => XS.lloadN X0.here hx rfl (hb hby at_8) rfl) ?_
  show own_Ends p e below s₁ (mkF m 9 #[.val (.int p0), .val (.long q1), .second, .val (.int n), .unset, .unset] [(.long q1)]) _
  refine own_go (X0.ldc2Long hx hown (mvT hZ (hw _ (List.mem_of_getElem? (i := 2) rfl))) (g := (mkF m 9 #[.val (.int p0), .val (.long q1), .second, .val (.int n), .unset, .unset] [(.long q1)])) rfl (hb hby at_9)) ?_
  show own_Ends p e below s₁ (mkF m 12 #[.val (.int p0), .val (.long q1), .second, .val (.int n), .unset, .unset] [(.long (-1085102592571150096 : Int64)), (.long q1)]) _
  refine own_go (fun _ => XS.land X0.here hx rfl (hb hby at_12) rfl) ?_
  show own_Ends p e below s₁ (mkF m 13 #[.val (.int p0), .val (.long q1), .second, .val (.int n), .unset, .unset] [(.long (q1 &&& (-1085102592571150096 : Int64)))]) _
  refine own_go (fun _ => XS.iloadN X0.here hx rfl (hb hby at_13) rfl) ?_
  show own_Ends p e below s₁ (mkF m 14 #[.val (.int p0), .val (.long q1), .second, .val (.int n), .unset, .unset] [(.int n), (.long (q1 &&& (-1085102592571150096 : Int64)))]) _
  refine own_go (X0.ldcInt hx hown (mvT hZ (hw _ (List.mem_of_getElem? (i := 3) rfl))) (g := (mkF m 14 #[.val (.int p0), .val (.long q1), .second, .val (.int n), .unset, .unset] [(.int n), (.long (q1 &&& (-1085102592571150096 : Int64)))])) rfl (hb hby at_14)) ?_
  show own_Ends p e below s₁ (mkF m 16 #[.val (.int p0), .val (.long q1), .second, .val (.int n), .unset, .unset] [(.int (10000000 : Int32)), (.int n), (.long (q1 &&& (-1085102592571150096 : Int64)))]) _
  refine own_go (fun _ => XS.idiv X0.here hx rfl (hb hby at_16) rfl (by decide)) ?_
  show own_Ends p e below s₁ (mkF m 17 #[.val (.int p0), .val (.long q1), .second, .val (.int n), .unset, .unset] [(.int (n / (10000000 : Int32))), (.long (q1 &&& (-1085102592571150096 : Int64)))]) _
  refine own_go (fun _ => XS.bipush X0.here hx rfl (hb hby at_17)) ?_
  show own_Ends p e below s₁ (mkF m 19 #[.val (.int p0), .val (.long q1), .second, .val (.int n), .unset, .unset] [(.int (10 : Int32)), (.int (n / (10000000 : Int32))), (.long (q1 &&& (-1085102592571150096 : Int64)))]) _
  refine own_go (fun _ => iremM X0 hx rfl (hb hby at_19) rfl (by decide)) ?_
  show own_Ends p e below s₁ (mkF m 20 #[.val (.int p0), .val (.long q1), .second, .val (.int n), .unset, .unset] [(.int ((n / (10000000 : Int32)) % (10 : Int32))), (.long (q1 &&& (-1085102592571150096 : Int64)))]) _
  refine own_go (fun _ => XS.i2l X0.here hx rfl (hb hby at_20) rfl) ?_
  show own_Ends p e below s₁ (mkF m 21 #[.val (.int p0), .val (.long q1), .second, .val (.int n), .unset, .unset] [(.long (((n / (10000000 : Int32)) % (10 : Int32)).toInt64)), (.long (q1 &&& (-1085102592571150096 : Int64)))]) _
  refine own_go (fun _ => XS.lor X0.here hx rfl (hb hby at_21) rfl) ?_
  show own_Ends p e below s₁ (mkF m 22 #[.val (.int p0), .val (.long q1), .second, .val (.int n), .unset, .unset] [(.long ((q1 &&& (-1085102592571150096 : Int64)) ||| (((n / (10000000 : Int32)) % (10 : Int32)).toInt64)))]) _
  refine own_go (fun _ => XS.iloadN X0.here hx rfl (hb hby at_22) rfl) ?_
  show own_Ends p e below s₁ (mkF m 23 #[.val (.int p0), .val (.long q1), .second, .val (.int n), .unset, .unset] [(.int n), (.long ((q1 &&& (-1085102592571150096 : Int64)) ||| (((n / (10000000 : Int32)) % (10 : Int32)).toInt64)))]) _
  refine own_go (X0.ldcInt hx hown (mvT hZ (hw _ (List.mem_of_getElem? (i := 4) rfl))) (g := (mkF m 23 #[.val (.int p0), .val (.long q1), .second, .val (.int n), .unset, .unset] [(.int n), (.long ((q1 &&& (-1085102592571150096 : Int64)) ||| (((n / (10000000 : Int32)) % (10 : Int32)).toInt64)))])) rfl (hb hby at_23)) ?_
  show own_Ends p e below s₁ (mkF m 25 #[.val (.int p0), .val (.long q1), .second, .val (.int n), .unset, .unset] [(.int (1000000 : Int32)), (.int n), (.long ((q1 &&& (-1085102592571150096 : Int64)) ||| (((n / (10000000 : Int32)) % (10 : Int32)).toInt64)))]) _
  refine own_go (fun _ => XS.idiv X0.here hx rfl (hb hby at_25) rfl (by decide)) ?_
  show own_Ends p e below s₁ (mkF m 26 #[.val (.int p0), .val (.long q1), .second, .val (.int n), .unset, .unset] [(.int (n / (1000000 : Int32))), (.long ((q1 &&& (-1085102592571150096 : Int64)) ||| (((n / (10000000 : Int32)) % (10 : Int32)).toInt64)))]) _
  refine own_go (fun _ => XS.bipush X0.here hx rfl (hb hby at_26)) ?_
  show own_Ends p e below s₁ (mkF m 28 #[.val (.int p0), .val (.long q1), .second, .val (.int n), .unset, .unset] [(.int (10 : Int32)), (.int (n / (1000000 : Int32))), (.long ((q1 &&& (-1085102592571150096 : Int64)) ||| (((n / (10000000 : Int32)) % (10 : Int32)).toInt64)))]) _
  refine own_go (fun _ => iremM X0 hx rfl (hb hby at_28) rfl (by decide)) ?_
  show own_Ends p e below s₁ (mkF m 29 #[.val (.int p0), .val (.long q1), .second, .val (.int n), .unset, .unset] [(.int ((n / (1000000 : Int32)) % (10 : Int32))), (.long ((q1 &&& (-1085102592571150096 : Int64)) ||| (((n / (10000000 : Int32)) % (10 : Int32)).toInt64)))]) _
  refine own_go (fun _ => XS.i2l X0.here hx rfl (hb hby at_29) rfl) ?_
  show own_Ends p e below s₁ (mkF m 30 #[.val (.int p0), .val (.long q1), .second, .val (.int n), .unset, .unset] [(.long (((n / (1000000 : Int32)) % (10 : Int32)).toInt64)), (.long ((q1 &&& (-1085102592571150096 : Int64)) ||| (((n / (10000000 : Int32)) % (10 : Int32)).toInt64)))]) _
  refine own_go (fun _ => XS.bipush X0.here hx rfl (hb hby at_30)) ?_
  show own_Ends p e below s₁ (mkF m 32 #[.val (.int p0), .val (.long q1), .second, .val (.int n), .unset, .unset] [(.int (8 : Int32)), (.long (((n / (1000000 : Int32)) % (10 : Int32)).toInt64)), (.long ((q1 &&& (-1085102592571150096 : Int64)) ||| (((n / (10000000 : Int32)) % (10 : Int32)).toInt64)))]) _
  refine own_go (fun _ => XS.lshl X0.here hx rfl (hb hby at_32) rfl) ?_
  show own_Ends p e below s₁ (mkF m 33 #[.val (.int p0), .val (.long q1), .second, .val (.int n), .unset, .unset] [(.long ((((n / (1000000 : Int32)) % (10 : Int32)).toInt64) <<< ((8 : Int32) &&& 0x3f).toInt64)), (.long ((q1 &&& (-1085102592571150096 : Int64)) ||| (((n / (10000000 : Int32)) % (10 : Int32)).toInt64)))]) _
  refine own_go (fun _ => XS.lor X0.here hx rfl (hb hby at_33) rfl) ?_
  show own_Ends p e below s₁ (mkF m 34 #[.val (.int p0), .val (.long q1), .second, .val (.int n), .unset, .unset] [(.long (((q1 &&& (-1085102592571150096 : Int64)) ||| (((n / (10000000 : Int32)) % (10 : Int32)).toInt64)) ||| ((((n / (1000000 : Int32)) % (10 : Int32)).toInt64) <<< ((8 : Int32) &&& 0x3f).toInt64)))]) _
  refine own_go (fun _ => XS.iloadN X0.here hx rfl (hb hby at_34) rfl) ?_
  show own_Ends p e below s₁ (mkF m 35 #[.val (.int p0), .val (.long q1), .second, .val (.int n), .unset, .unset] [(.int n), (.long (((q1 &&& (-1085102592571150096 : Int64)) ||| (((n / (10000000 : Int32)) % (10 : Int32)).toInt64)) ||| ((((n / (1000000 : Int32)) % (10 : Int32)).toInt64) <<< ((8 : Int32) &&& 0x3f).toInt64)))]) _
  refine own_go (X0.ldcInt hx hown (mvT hZ (hw _ (List.mem_of_getElem? (i := 5) rfl))) (g := (mkF m 35 #[.val (.int p0), .val (.long q1), .second, .val (.int n), .unset, .unset] [(.int n), (.long (((q1 &&& (-1085102592571150096 : Int64)) ||| (((n / (10000000 : Int32)) % (10 : Int32)).toInt64)) ||| ((((n / (1000000 : Int32)) % (10 : Int32)).toInt64) <<< ((8 : Int32) &&& 0x3f).toInt64)))])) rfl (hb hby at_35)) ?_
  show own_Ends p e below s₁ (mkF m 37 #[.val (.int p0), .val (.long q1), .second, .val (.int n), .unset, .unset] [(.int (100000 : Int32)), (.int n), (.long (((q1 &&& (-1085102592571150096 : Int64)) ||| (((n / (10000000 : Int32)) % (10 : Int32)).toInt64)) ||| ((((n / (1000000 : Int32)) % (10 : Int32)).toInt64) <<< ((8 : Int32) &&& 0x3f).toInt64)))]) _
  refine own_go (fun _ => XS.idiv X0.here hx rfl (hb hby at_37) rfl (by decide)) ?_
  show own_Ends p e below s₁ (mkF m 38 #[.val (.int p0), .val (.long q1), .second, .val (.int n), .unset, .unset] [(.int (n / (100000 : Int32))), (.long (((q1 &&& (-1085102592571150096 : Int64)) ||| (((n / (10000000 : Int32)) % (10 : Int32)).toInt64)) ||| ((((n / (1000000 : Int32)) % (10 : Int32)).toInt64) <<< ((8 : Int32) &&& 0x3f).toInt64)))]) _
  refine own_go (fun _ => XS.bipush X0.here hx rfl (hb hby at_38)) ?_
  show own_Ends p e below s₁ (mkF m 40 #[.val (.int p0), .val (.long q1), .second, .val (.int n), .unset, .unset] [(.int (10 : Int32)), (.int (n / (100000 : Int32))), (.long (((q1 &&& (-1085102592571150096 : Int64)) ||| (((n / (10000000 : Int32)) % (10 : Int32)).toInt64)) ||| ((((n / (1000000 : Int32)) % (10 : Int32)).toInt64) <<< ((8 : Int32) &&& 0x3f).toInt64)))]) _
  refine own_go (fun _ => iremM X0 hx rfl (hb hby at_40) rfl (by decide)) ?_
  show own_Ends p e below s₁ (mkF m 41 #[.val (.int p0), .val (.long q1), .second, .val (.int n), .unset, .unset] [(.int ((n / (100000 : Int32)) % (10 : Int32))), (.long (((q1 &&& (-1085102592571150096 : Int64)) ||| (((n / (10000000 : Int32)) % (10 : Int32)).toInt64)) ||| ((((n / (1000000 : Int32)) % (10 : Int32)).toInt64) <<< ((8 : Int32) &&& 0x3f).toInt64)))]) _
  refine own_go (fun _ => XS.i2l X0.here hx rfl (hb hby at_41) rfl) ?_
  show own_Ends p e below s₁ (mkF m 42 #[.val (.int p0), .val (.long q1), .second, .val (.int n), .unset, .unset] [(.long (((n / (100000 : Int32)) % (10 : Int32)).toInt64)), (.long (((q1 &&& (-1085102592571150096 : Int64)) ||| (((n / (10000000 : Int32)) % (10 : Int32)).toInt64)) ||| ((((n / (1000000 : Int32)) % (10 : Int32)).toInt64) <<< ((8 : Int32) &&& 0x3f).toInt64)))]) _
  refine own_go (fun _ => XS.bipush X0.here hx rfl (hb hby at_42)) ?_
  show own_Ends p e below s₁ (mkF m 44 #[.val (.int p0), .val (.long q1), .second, .val (.int n), .unset, .unset] [(.int (16 : Int32)), (.long (((n / (100000 : Int32)) % (10 : Int32)).toInt64)), (.long (((q1 &&& (-1085102592571150096 : Int64)) ||| (((n / (10000000 : Int32)) % (10 : Int32)).toInt64)) ||| ((((n / (1000000 : Int32)) % (10 : Int32)).toInt64) <<< ((8 : Int32) &&& 0x3f).toInt64)))]) _
  refine own_go (fun _ => XS.lshl X0.here hx rfl (hb hby at_44) rfl) ?_
  show own_Ends p e below s₁ (mkF m 45 #[.val (.int p0), .val (.long q1), .second, .val (.int n), .unset, .unset] [(.long ((((n / (100000 : Int32)) % (10 : Int32)).toInt64) <<< ((16 : Int32) &&& 0x3f).toInt64)), (.long (((q1 &&& (-1085102592571150096 : Int64)) ||| (((n / (10000000 : Int32)) % (10 : Int32)).toInt64)) ||| ((((n / (1000000 : Int32)) % (10 : Int32)).toInt64) <<< ((8 : Int32) &&& 0x3f).toInt64)))]) _
  refine own_go (fun _ => XS.lor X0.here hx rfl (hb hby at_45) rfl) ?_
  show own_Ends p e below s₁ (mkF m 46 #[.val (.int p0), .val (.long q1), .second, .val (.int n), .unset, .unset] [(.long ((((q1 &&& (-1085102592571150096 : Int64)) ||| (((n / (10000000 : Int32)) % (10 : Int32)).toInt64)) ||| ((((n / (1000000 : Int32)) % (10 : Int32)).toInt64) <<< ((8 : Int32) &&& 0x3f).toInt64)) ||| ((((n / (100000 : Int32)) % (10 : Int32)).toInt64) <<< ((16 : Int32) &&& 0x3f).toInt64)))]) _
  refine own_go (fun _ => XS.iloadN X0.here hx rfl (hb hby at_46) rfl) ?_
  show own_Ends p e below s₁ (mkF m 47 #[.val (.int p0), .val (.long q1), .second, .val (.int n), .unset, .unset] [(.int n), (.long ((((q1 &&& (-1085102592571150096 : Int64)) ||| (((n / (10000000 : Int32)) % (10 : Int32)).toInt64)) ||| ((((n / (1000000 : Int32)) % (10 : Int32)).toInt64) <<< ((8 : Int32) &&& 0x3f).toInt64)) ||| ((((n / (100000 : Int32)) % (10 : Int32)).toInt64) <<< ((16 : Int32) &&& 0x3f).toInt64)))]) _
  refine own_go (fun _ => XS.sipush X0.here hx rfl (hb hby at_47)) ?_
  show own_Ends p e below s₁ (mkF m 50 #[.val (.int p0), .val (.long q1), .second, .val (.int n), .unset, .unset] [(.int (10000 : Int32)), (.int n), (.long ((((q1 &&& (-1085102592571150096 : Int64)) ||| (((n / (10000000 : Int32)) % (10 : Int32)).toInt64)) ||| ((((n / (1000000 : Int32)) % (10 : Int32)).toInt64) <<< ((8 : Int32) &&& 0x3f).toInt64)) ||| ((((n / (100000 : Int32)) % (10 : Int32)).toInt64) <<< ((16 : Int32) &&& 0x3f).toInt64)))]) _
  refine own_go (fun _ => XS.idiv X0.here hx rfl (hb hby at_50) rfl (by decide)) ?_
  show own_Ends p e below s₁ (mkF m 51 #[.val (.int p0), .val (.long q1), .second, .val (.int n), .unset, .unset] [(.int (n / (10000 : Int32))), (.long ((((q1 &&& (-1085102592571150096 : Int64)) ||| (((n / (10000000 : Int32)) % (10 : Int32)).toInt64)) ||| ((((n / (1000000 : Int32)) % (10 : Int32)).toInt64) <<< ((8 : Int32) &&& 0x3f).toInt64)) ||| ((((n / (100000 : Int32)) % (10 : Int32)).toInt64) <<< ((16 : Int32) &&& 0x3f).toInt64)))]) _
  refine own_go (fun _ => XS.bipush X0.here hx rfl (hb hby at_51)) ?_
  show own_Ends p e below s₁ (mkF m 53 #[.val (.int p0), .val (.long q1), .second, .val (.int n), .unset, .unset] [(.int (10 : Int32)), (.int (n / (10000 : Int32))), (.long ((((q1 &&& (-1085102592571150096 : Int64)) ||| (((n / (10000000 : Int32)) % (10 : Int32)).toInt64)) ||| ((((n / (1000000 : Int32)) % (10 : Int32)).toInt64) <<< ((8 : Int32) &&& 0x3f).toInt64)) ||| ((((n / (100000 : Int32)) % (10 : Int32)).toInt64) <<< ((16 : Int32) &&& 0x3f).toInt64)))]) _
  refine own_go (fun _ => iremM X0 hx rfl (hb hby at_53) rfl (by decide)) ?_
  show own_Ends p e below s₁ (mkF m 54 #[.val (.int p0), .val (.long q1), .second, .val (.int n), .unset, .unset] [(.int ((n / (10000 : Int32)) % (10 : Int32))), (.long ((((q1 &&& (-1085102592571150096 : Int64)) ||| (((n / (10000000 : Int32)) % (10 : Int32)).toInt64)) ||| ((((n / (1000000 : Int32)) % (10 : Int32)).toInt64) <<< ((8 : Int32) &&& 0x3f).toInt64)) ||| ((((n / (100000 : Int32)) % (10 : Int32)).toInt64) <<< ((16 : Int32) &&& 0x3f).toInt64)))]) _
  refine own_go (fun _ => XS.i2l X0.here hx rfl (hb hby at_54) rfl) ?_
  show own_Ends p e below s₁ (mkF m 55 #[.val (.int p0), .val (.long q1), .second, .val (.int n), .unset, .unset] [(.long (((n / (10000 : Int32)) % (10 : Int32)).toInt64)), (.long ((((q1 &&& (-1085102592571150096 : Int64)) ||| (((n / (10000000 : Int32)) % (10 : Int32)).toInt64)) ||| ((((n / (1000000 : Int32)) % (10 : Int32)).toInt64) <<< ((8 : Int32) &&& 0x3f).toInt64)) ||| ((((n / (100000 : Int32)) % (10 : Int32)).toInt64) <<< ((16 : Int32) &&& 0x3f).toInt64)))]) _
  refine own_go (fun _ => XS.bipush X0.here hx rfl (hb hby at_55)) ?_
  show own_Ends p e below s₁ (mkF m 57 #[.val (.int p0), .val (.long q1), .second, .val (.int n), .unset, .unset] [(.int (24 : Int32)), (.long (((n / (10000 : Int32)) % (10 : Int32)).toInt64)), (.long ((((q1 &&& (-1085102592571150096 : Int64)) ||| (((n / (10000000 : Int32)) % (10 : Int32)).toInt64)) ||| ((((n / (1000000 : Int32)) % (10 : Int32)).toInt64) <<< ((8 : Int32) &&& 0x3f).toInt64)) ||| ((((n / (100000 : Int32)) % (10 : Int32)).toInt64) <<< ((16 : Int32) &&& 0x3f).toInt64)))]) _
  refine own_go (fun _ => XS.lshl X0.here hx rfl (hb hby at_57) rfl) ?_
  show own_Ends p e below s₁ (mkF m 58 #[.val (.int p0), .val (.long q1), .second, .val (.int n), .unset, .unset] [(.long ((((n / (10000 : Int32)) % (10 : Int32)).toInt64) <<< ((24 : Int32) &&& 0x3f).toInt64)), (.long ((((q1 &&& (-1085102592571150096 : Int64)) ||| (((n / (10000000 : Int32)) % (10 : Int32)).toInt64)) ||| ((((n / (1000000 : Int32)) % (10 : Int32)).toInt64) <<< ((8 : Int32) &&& 0x3f).toInt64)) ||| ((((n / (100000 : Int32)) % (10 : Int32)).toInt64) <<< ((16 : Int32) &&& 0x3f).toInt64)))]) _
  refine own_go (fun _ => XS.lor X0.here hx rfl (hb hby at_58) rfl) ?_
  show own_Ends p e below s₁ (mkF m 59 #[.val (.int p0), .val (.long q1), .second, .val (.int n), .unset, .unset] [(.long (((((q1 &&& (-1085102592571150096 : Int64)) ||| (((n / (10000000 : Int32)) % (10 : Int32)).toInt64)) ||| ((((n / (1000000 : Int32)) % (10 : Int32)).toInt64) <<< ((8 : Int32) &&& 0x3f).toInt64)) ||| ((((n / (100000 : Int32)) % (10 : Int32)).toInt64) <<< ((16 : Int32) &&& 0x3f).toInt64)) ||| ((((n / (10000 : Int32)) % (10 : Int32)).toInt64) <<< ((24 : Int32) &&& 0x3f).toInt64)))]) _
  refine own_go (fun _ => XS.iloadN X0.here hx rfl (hb hby at_59) rfl) ?_
  show own_Ends p e below s₁ (mkF m 60 #[.val (.int p0), .val (.long q1), .second, .val (.int n), .unset, .unset] [(.int n), (.long (((((q1 &&& (-1085102592571150096 : Int64)) ||| (((n / (10000000 : Int32)) % (10 : Int32)).toInt64)) ||| ((((n / (1000000 : Int32)) % (10 : Int32)).toInt64) <<< ((8 : Int32) &&& 0x3f).toInt64)) ||| ((((n / (100000 : Int32)) % (10 : Int32)).toInt64) <<< ((16 : Int32) &&& 0x3f).toInt64)) ||| ((((n / (10000 : Int32)) % (10 : Int32)).toInt64) <<< ((24 : Int32) &&& 0x3f).toInt64)))]) _
  refine own_go (fun _ => XS.sipush X0.here hx rfl (hb hby at_60)) ?_
  show own_Ends p e below s₁ (mkF m 63 #[.val (.int p0), .val (.long q1), .second, .val (.int n), .unset, .unset] [(.int (1000 : Int32)), (.int n), (.long (((((q1 &&& (-1085102592571150096 : Int64)) ||| (((n / (10000000 : Int32)) % (10 : Int32)).toInt64)) ||| ((((n / (1000000 : Int32)) % (10 : Int32)).toInt64) <<< ((8 : Int32) &&& 0x3f).toInt64)) ||| ((((n / (100000 : Int32)) % (10 : Int32)).toInt64) <<< ((16 : Int32) &&& 0x3f).toInt64)) ||| ((((n / (10000 : Int32)) % (10 : Int32)).toInt64) <<< ((24 : Int32) &&& 0x3f).toInt64)))]) _
  refine own_go (fun _ => XS.idiv X0.here hx rfl (hb hby at_63) rfl (by decide)) ?_
  show own_Ends p e below s₁ (mkF m 64 #[.val (.int p0), .val (.long q1), .second, .val (.int n), .unset, .unset] [(.int (n / (1000 : Int32))), (.long (((((q1 &&& (-1085102592571150096 : Int64)) ||| (((n / (10000000 : Int32)) % (10 : Int32)).toInt64)) ||| ((((n / (1000000 : Int32)) % (10 : Int32)).toInt64) <<< ((8 : Int32) &&& 0x3f).toInt64)) ||| ((((n / (100000 : Int32)) % (10 : Int32)).toInt64) <<< ((16 : Int32) &&& 0x3f).toInt64)) ||| ((((n / (10000 : Int32)) % (10 : Int32)).toInt64) <<< ((24 : Int32) &&& 0x3f).toInt64)))]) _
  refine own_go (fun _ => XS.bipush X0.here hx rfl (hb hby at_64)) ?_
  show own_Ends p e below s₁ (mkF m 66 #[.val (.int p0), .val (.long q1), .second, .val (.int n), .unset, .unset] [(.int (10 : Int32)), (.int (n / (1000 : Int32))), (.long (((((q1 &&& (-1085102592571150096 : Int64)) ||| (((n / (10000000 : Int32)) % (10 : Int32)).toInt64)) ||| ((((n / (1000000 : Int32)) % (10 : Int32)).toInt64) <<< ((8 : Int32) &&& 0x3f).toInt64)) ||| ((((n / (100000 : Int32)) % (10 : Int32)).toInt64) <<< ((16 : Int32) &&& 0x3f).toInt64)) ||| ((((n / (10000 : Int32)) % (10 : Int32)).toInt64) <<< ((24 : Int32) &&& 0x3f).toInt64)))]) _
  refine own_go (fun _ => iremM X0 hx rfl (hb hby at_66) rfl (by decide)) ?_
  show own_Ends p e below s₁ (mkF m 67 #[.val (.int p0), .val (.long q1), .second, .val (.int n), .unset, .unset] [(.int ((n / (1000 : Int32)) % (10 : Int32))), (.long (((((q1 &&& (-1085102592571150096 : Int64)) ||| (((n / (10000000 : Int32)) % (10 : Int32)).toInt64)) ||| ((((n / (1000000 : Int32)) % (10 : Int32)).toInt64) <<< ((8 : Int32) &&& 0x3f).toInt64)) ||| ((((n / (100000 : Int32)) % (10 : Int32)).toInt64) <<< ((16 : Int32) &&& 0x3f).toInt64)) ||| ((((n / (10000 : Int32)) % (10 : Int32)).toInt64) <<< ((24 : Int32) &&& 0x3f).toInt64)))]) _
  refine own_go (fun _ => XS.i2l X0.here hx rfl (hb hby at_67) rfl) ?_
  show own_Ends p e below s₁ (mkF m 68 #[.val (.int p0), .val (.long q1), .second, .val (.int n), .unset, .unset] [(.long (((n / (1000 : Int32)) % (10 : Int32)).toInt64)), (.long (((((q1 &&& (-1085102592571150096 : Int64)) ||| (((n / (10000000 : Int32)) % (10 : Int32)).toInt64)) ||| ((((n / (1000000 : Int32)) % (10 : Int32)).toInt64) <<< ((8 : Int32) &&& 0x3f).toInt64)) ||| ((((n / (100000 : Int32)) % (10 : Int32)).toInt64) <<< ((16 : Int32) &&& 0x3f).toInt64)) ||| ((((n / (10000 : Int32)) % (10 : Int32)).toInt64) <<< ((24 : Int32) &&& 0x3f).toInt64)))]) _
  refine own_go (fun _ => XS.bipush X0.here hx rfl (hb hby at_68)) ?_
  show own_Ends p e below s₁ (mkF m 70 #[.val (.int p0), .val (.long q1), .second, .val (.int n), .unset, .unset] [(.int (32 : Int32)), (.long (((n / (1000 : Int32)) % (10 : Int32)).toInt64)), (.long (((((q1 &&& (-1085102592571150096 : Int64)) ||| (((n / (10000000 : Int32)) % (10 : Int32)).toInt64)) ||| ((((n / (1000000 : Int32)) % (10 : Int32)).toInt64) <<< ((8 : Int32) &&& 0x3f).toInt64)) ||| ((((n / (100000 : Int32)) % (10 : Int32)).toInt64) <<< ((16 : Int32) &&& 0x3f).toInt64)) ||| ((((n / (10000 : Int32)) % (10 : Int32)).toInt64) <<< ((24 : Int32) &&& 0x3f).toInt64)))]) _
  refine own_go (fun _ => XS.lshl X0.here hx rfl (hb hby at_70) rfl) ?_
  show own_Ends p e below s₁ (mkF m 71 #[.val (.int p0), .val (.long q1), .second, .val (.int n), .unset, .unset] [(.long ((((n / (1000 : Int32)) % (10 : Int32)).toInt64) <<< ((32 : Int32) &&& 0x3f).toInt64)), (.long (((((q1 &&& (-1085102592571150096 : Int64)) ||| (((n / (10000000 : Int32)) % (10 : Int32)).toInt64)) ||| ((((n / (1000000 : Int32)) % (10 : Int32)).toInt64) <<< ((8 : Int32) &&& 0x3f).toInt64)) ||| ((((n / (100000 : Int32)) % (10 : Int32)).toInt64) <<< ((16 : Int32) &&& 0x3f).toInt64)) ||| ((((n / (10000 : Int32)) % (10 : Int32)).toInt64) <<< ((24 : Int32) &&& 0x3f).toInt64)))]) _
  refine own_go (fun _ => XS.lor X0.here hx rfl (hb hby at_71) rfl) ?_
  show own_Ends p e below s₁ (mkF m 72 #[.val (.int p0), .val (.long q1), .second, .val (.int n), .unset, .unset] [(.long ((((((q1 &&& (-1085102592571150096 : Int64)) ||| (((n / (10000000 : Int32)) % (10 : Int32)).toInt64)) ||| ((((n / (1000000 : Int32)) % (10 : Int32)).toInt64) <<< ((8 : Int32) &&& 0x3f).toInt64)) ||| ((((n / (100000 : Int32)) % (10 : Int32)).toInt64) <<< ((16 : Int32) &&& 0x3f).toInt64)) ||| ((((n / (10000 : Int32)) % (10 : Int32)).toInt64) <<< ((24 : Int32) &&& 0x3f).toInt64)) ||| ((((n / (1000 : Int32)) % (10 : Int32)).toInt64) <<< ((32 : Int32) &&& 0x3f).toInt64)))]) _
  refine own_go (fun _ => XS.iloadN X0.here hx rfl (hb hby at_72) rfl) ?_
  show own_Ends p e below s₁ (mkF m 73 #[.val (.int p0), .val (.long q1), .second, .val (.int n), .unset, .unset] [(.int n), (.long ((((((q1 &&& (-1085102592571150096 : Int64)) ||| (((n / (10000000 : Int32)) % (10 : Int32)).toInt64)) ||| ((((n / (1000000 : Int32)) % (10 : Int32)).toInt64) <<< ((8 : Int32) &&& 0x3f).toInt64)) ||| ((((n / (100000 : Int32)) % (10 : Int32)).toInt64) <<< ((16 : Int32) &&& 0x3f).toInt64)) ||| ((((n / (10000 : Int32)) % (10 : Int32)).toInt64) <<< ((24 : Int32) &&& 0x3f).toInt64)) ||| ((((n / (1000 : Int32)) % (10 : Int32)).toInt64) <<< ((32 : Int32) &&& 0x3f).toInt64)))]) _
  refine own_go (fun _ => XS.bipush X0.here hx rfl (hb hby at_73)) ?_
  show own_Ends p e below s₁ (mkF m 75 #[.val (.int p0), .val (.long q1), .second, .val (.int n), .unset, .unset] [(.int (100 : Int32)), (.int n), (.long ((((((q1 &&& (-1085102592571150096 : Int64)) ||| (((n / (10000000 : Int32)) % (10 : Int32)).toInt64)) ||| ((((n / (1000000 : Int32)) % (10 : Int32)).toInt64) <<< ((8 : Int32) &&& 0x3f).toInt64)) ||| ((((n / (100000 : Int32)) % (10 : Int32)).toInt64) <<< ((16 : Int32) &&& 0x3f).toInt64)) ||| ((((n / (10000 : Int32)) % (10 : Int32)).toInt64) <<< ((24 : Int32) &&& 0x3f).toInt64)) ||| ((((n / (1000 : Int32)) % (10 : Int32)).toInt64) <<< ((32 : Int32) &&& 0x3f).toInt64)))]) _
  refine own_go (fun _ => XS.idiv X0.here hx rfl (hb hby at_75) rfl (by decide)) ?_
  show own_Ends p e below s₁ (mkF m 76 #[.val (.int p0), .val (.long q1), .second, .val (.int n), .unset, .unset] [(.int (n / (100 : Int32))), (.long ((((((q1 &&& (-1085102592571150096 : Int64)) ||| (((n / (10000000 : Int32)) % (10 : Int32)).toInt64)) ||| ((((n / (1000000 : Int32)) % (10 : Int32)).toInt64) <<< ((8 : Int32) &&& 0x3f).toInt64)) ||| ((((n / (100000 : Int32)) % (10 : Int32)).toInt64) <<< ((16 : Int32) &&& 0x3f).toInt64)) ||| ((((n / (10000 : Int32)) % (10 : Int32)).toInt64) <<< ((24 : Int32) &&& 0x3f).toInt64)) ||| ((((n / (1000 : Int32)) % (10 : Int32)).toInt64) <<< ((32 : Int32) &&& 0x3f).toInt64)))]) _
  refine own_go (fun _ => XS.bipush X0.here hx rfl (hb hby at_76)) ?_
  show own_Ends p e below s₁ (mkF m 78 #[.val (.int p0), .val (.long q1), .second, .val (.int n), .unset, .unset] [(.int (10 : Int32)), (.int (n / (100 : Int32))), (.long ((((((q1 &&& (-1085102592571150096 : Int64)) ||| (((n / (10000000 : Int32)) % (10 : Int32)).toInt64)) ||| ((((n / (1000000 : Int32)) % (10 : Int32)).toInt64) <<< ((8 : Int32) &&& 0x3f).toInt64)) ||| ((((n / (100000 : Int32)) % (10 : Int32)).toInt64) <<< ((16 : Int32) &&& 0x3f).toInt64)) ||| ((((n / (10000 : Int32)) % (10 : Int32)).toInt64) <<< ((24 : Int32) &&& 0x3f).toInt64)) ||| ((((n / (1000 : Int32)) % (10 : Int32)).toInt64) <<< ((32 : Int32) &&& 0x3f).toInt64)))]) _
  refine own_go (fun _ => iremM X0 hx rfl (hb hby at_78) rfl (by decide)) ?_
  show own_Ends p e below s₁ (mkF m 79 #[.val (.int p0), .val (.long q1), .second, .val (.int n), .unset, .unset] [(.int ((n / (100 : Int32)) % (10 : Int32))), (.long ((((((q1 &&& (-1085102592571150096 : Int64)) ||| (((n / (10000000 : Int32)) % (10 : Int32)).toInt64)) ||| ((((n / (1000000 : Int32)) % (10 : Int32)).toInt64) <<< ((8 : Int32) &&& 0x3f).toInt64)) ||| ((((n / (100000 : Int32)) % (10 : Int32)).toInt64) <<< ((16 : Int32) &&& 0x3f).toInt64)) ||| ((((n / (10000 : Int32)) % (10 : Int32)).toInt64) <<< ((24 : Int32) &&& 0x3f).toInt64)) ||| ((((n / (1000 : Int32)) % (10 : Int32)).toInt64) <<< ((32 : Int32) &&& 0x3f).toInt64)))]) _
  refine own_go (fun _ => XS.i2l X0.here hx rfl (hb hby at_79) rfl) ?_
  show own_Ends p e below s₁ (mkF m 80 #[.val (.int p0), .val (.long q1), .second, .val (.int n), .unset, .unset] [(.long (((n / (100 : Int32)) % (10 : Int32)).toInt64)), (.long ((((((q1 &&& (-1085102592571150096 : Int64)) ||| (((n / (10000000 : Int32)) % (10 : Int32)).toInt64)) ||| ((((n / (1000000 : Int32)) % (10 : Int32)).toInt64) <<< ((8 : Int32) &&& 0x3f).toInt64)) ||| ((((n / (100000 : Int32)) % (10 : Int32)).toInt64) <<< ((16 : Int32) &&& 0x3f).toInt64)) ||| ((((n / (10000 : Int32)) % (10 : Int32)).toInt64) <<< ((24 : Int32) &&& 0x3f).toInt64)) ||| ((((n / (1000 : Int32)) % (10 : Int32)).toInt64) <<< ((32 : Int32) &&& 0x3f).toInt64)))]) _
  refine own_go (fun _ => XS.bipush X0.here hx rfl (hb hby at_80)) ?_
  show own_Ends p e below s₁ (mkF m 82 #[.val (.int p0), .val (.long q1), .second, .val (.int n), .unset, .unset] [(.int (40 : Int32)), (.long (((n / (100 : Int32)) % (10 : Int32)).toInt64)), (.long ((((((q1 &&& (-1085102592571150096 : Int64)) ||| (((n / (10000000 : Int32)) % (10 : Int32)).toInt64)) ||| ((((n / (1000000 : Int32)) % (10 : Int32)).toInt64) <<< ((8 : Int32) &&& 0x3f).toInt64)) ||| ((((n / (100000 : Int32)) % (10 : Int32)).toInt64) <<< ((16 : Int32) &&& 0x3f).toInt64)) ||| ((((n / (10000 : Int32)) % (10 : Int32)).toInt64) <<< ((24 : Int32) &&& 0x3f).toInt64)) ||| ((((n / (1000 : Int32)) % (10 : Int32)).toInt64) <<< ((32 : Int32) &&& 0x3f).toInt64)))]) _
  refine own_go (fun _ => XS.lshl X0.here hx rfl (hb hby at_82) rfl) ?_
  show own_Ends p e below s₁ (mkF m 83 #[.val (.int p0), .val (.long q1), .second, .val (.int n), .unset, .unset] [(.long ((((n / (100 : Int32)) % (10 : Int32)).toInt64) <<< ((40 : Int32) &&& 0x3f).toInt64)), (.long ((((((q1 &&& (-1085102592571150096 : Int64)) ||| (((n / (10000000 : Int32)) % (10 : Int32)).toInt64)) ||| ((((n / (1000000 : Int32)) % (10 : Int32)).toInt64) <<< ((8 : Int32) &&& 0x3f).toInt64)) ||| ((((n / (100000 : Int32)) % (10 : Int32)).toInt64) <<< ((16 : Int32) &&& 0x3f).toInt64)) ||| ((((n / (10000 : Int32)) % (10 : Int32)).toInt64) <<< ((24 : Int32) &&& 0x3f).toInt64)) ||| ((((n / (1000 : Int32)) % (10 : Int32)).toInt64) <<< ((32 : Int32) &&& 0x3f).toInt64)))]) _
  refine own_go (fun _ => XS.lor X0.here hx rfl (hb hby at_83) rfl) ?_
  show own_Ends p e below s₁ (mkF m 84 #[.val (.int p0), .val (.long q1), .second, .val (.int n), .unset, .unset] [(.long (((((((q1 &&& (-1085102592571150096 : Int64)) ||| (((n / (10000000 : Int32)) % (10 : Int32)).toInt64)) ||| ((((n / (1000000 : Int32)) % (10 : Int32)).toInt64) <<< ((8 : Int32) &&& 0x3f).toInt64)) ||| ((((n / (100000 : Int32)) % (10 : Int32)).toInt64) <<< ((16 : Int32) &&& 0x3f).toInt64)) ||| ((((n / (10000 : Int32)) % (10 : Int32)).toInt64) <<< ((24 : Int32) &&& 0x3f).toInt64)) ||| ((((n / (1000 : Int32)) % (10 : Int32)).toInt64) <<< ((32 : Int32) &&& 0x3f).toInt64)) ||| ((((n / (100 : Int32)) % (10 : Int32)).toInt64) <<< ((40 : Int32) &&& 0x3f).toInt64)))]) _
  refine own_go (fun _ => XS.iloadN X0.here hx rfl (hb hby at_84) rfl) ?_
  show own_Ends p e below s₁ (mkF m 85 #[.val (.int p0), .val (.long q1), .second, .val (.int n), .unset, .unset] [(.int n), (.long (((((((q1 &&& (-1085102592571150096 : Int64)) ||| (((n / (10000000 : Int32)) % (10 : Int32)).toInt64)) ||| ((((n / (1000000 : Int32)) % (10 : Int32)).toInt64) <<< ((8 : Int32) &&& 0x3f).toInt64)) ||| ((((n / (100000 : Int32)) % (10 : Int32)).toInt64) <<< ((16 : Int32) &&& 0x3f).toInt64)) ||| ((((n / (10000 : Int32)) % (10 : Int32)).toInt64) <<< ((24 : Int32) &&& 0x3f).toInt64)) ||| ((((n / (1000 : Int32)) % (10 : Int32)).toInt64) <<< ((32 : Int32) &&& 0x3f).toInt64)) ||| ((((n / (100 : Int32)) % (10 : Int32)).toInt64) <<< ((40 : Int32) &&& 0x3f).toInt64)))]) _
  refine own_go (fun _ => XS.bipush X0.here hx rfl (hb hby at_85)) ?_
  show own_Ends p e below s₁ (mkF m 87 #[.val (.int p0), .val (.long q1), .second, .val (.int n), .unset, .unset] [(.int (10 : Int32)), (.int n), (.long (((((((q1 &&& (-1085102592571150096 : Int64)) ||| (((n / (10000000 : Int32)) % (10 : Int32)).toInt64)) ||| ((((n / (1000000 : Int32)) % (10 : Int32)).toInt64) <<< ((8 : Int32) &&& 0x3f).toInt64)) ||| ((((n / (100000 : Int32)) % (10 : Int32)).toInt64) <<< ((16 : Int32) &&& 0x3f).toInt64)) ||| ((((n / (10000 : Int32)) % (10 : Int32)).toInt64) <<< ((24 : Int32) &&& 0x3f).toInt64)) ||| ((((n / (1000 : Int32)) % (10 : Int32)).toInt64) <<< ((32 : Int32) &&& 0x3f).toInt64)) ||| ((((n / (100 : Int32)) % (10 : Int32)).toInt64) <<< ((40 : Int32) &&& 0x3f).toInt64)))]) _
  refine own_go (fun _ => XS.idiv X0.here hx rfl (hb hby at_87) rfl (by decide)) ?_
  show own_Ends p e below s₁ (mkF m 88 #[.val (.int p0), .val (.long q1), .second, .val (.int n), .unset, .unset] [(.int (n / (10 : Int32))), (.long (((((((q1 &&& (-1085102592571150096 : Int64)) ||| (((n / (10000000 : Int32)) % (10 : Int32)).toInt64)) ||| ((((n / (1000000 : Int32)) % (10 : Int32)).toInt64) <<< ((8 : Int32) &&& 0x3f).toInt64)) ||| ((((n / (100000 : Int32)) % (10 : Int32)).toInt64) <<< ((16 : Int32) &&& 0x3f).toInt64)) ||| ((((n / (10000 : Int32)) % (10 : Int32)).toInt64) <<< ((24 : Int32) &&& 0x3f).toInt64)) ||| ((((n / (1000 : Int32)) % (10 : Int32)).toInt64) <<< ((32 : Int32) &&& 0x3f).toInt64)) ||| ((((n / (100 : Int32)) % (10 : Int32)).toInt64) <<< ((40 : Int32) &&& 0x3f).toInt64)))]) _
  refine own_go (fun _ => XS.bipush X0.here hx rfl (hb hby at_88)) ?_
  show own_Ends p e below s₁ (mkF m 90 #[.val (.int p0), .val (.long q1), .second, .val (.int n), .unset, .unset] [(.int (10 : Int32)), (.int (n / (10 : Int32))), (.long (((((((q1 &&& (-1085102592571150096 : Int64)) ||| (((n / (10000000 : Int32)) % (10 : Int32)).toInt64)) ||| ((((n / (1000000 : Int32)) % (10 : Int32)).toInt64) <<< ((8 : Int32) &&& 0x3f).toInt64)) ||| ((((n / (100000 : Int32)) % (10 : Int32)).toInt64) <<< ((16 : Int32) &&& 0x3f).toInt64)) ||| ((((n / (10000 : Int32)) % (10 : Int32)).toInt64) <<< ((24 : Int32) &&& 0x3f).toInt64)) ||| ((((n / (1000 : Int32)) % (10 : Int32)).toInt64) <<< ((32 : Int32) &&& 0x3f).toInt64)) ||| ((((n / (100 : Int32)) % (10 : Int32)).toInt64) <<< ((40 : Int32) &&& 0x3f).toInt64)))]) _
  refine own_go (fun _ => iremM X0 hx rfl (hb hby at_90) rfl (by decide)) ?_
  show own_Ends p e below s₁ (mkF m 91 #[.val (.int p0), .val (.long q1), .second, .val (.int n), .unset, .unset] [(.int ((n / (10 : Int32)) % (10 : Int32))), (.long (((((((q1 &&& (-1085102592571150096 : Int64)) ||| (((n / (10000000 : Int32)) % (10 : Int32)).toInt64)) ||| ((((n / (1000000 : Int32)) % (10 : Int32)).toInt64) <<< ((8 : Int32) &&& 0x3f).toInt64)) ||| ((((n / (100000 : Int32)) % (10 : Int32)).toInt64) <<< ((16 : Int32) &&& 0x3f).toInt64)) ||| ((((n / (10000 : Int32)) % (10 : Int32)).toInt64) <<< ((24 : Int32) &&& 0x3f).toInt64)) ||| ((((n / (1000 : Int32)) % (10 : Int32)).toInt64) <<< ((32 : Int32) &&& 0x3f).toInt64)) ||| ((((n / (100 : Int32)) % (10 : Int32)).toInt64) <<< ((40 : Int32) &&& 0x3f).toInt64)))]) _
  refine own_go (fun _ => XS.i2l X0.here hx rfl (hb hby at_91) rfl) ?_
  show own_Ends p e below s₁ (mkF m 92 #[.val (.int p0), .val (.long q1), .second, .val (.int n), .unset, .unset] [(.long (((n / (10 : Int32)) % (10 : Int32)).toInt64)), (.long (((((((q1 &&& (-1085102592571150096 : Int64)) ||| (((n / (10000000 : Int32)) % (10 : Int32)).toInt64)) ||| ((((n / (1000000 : Int32)) % (10 : Int32)).toInt64) <<< ((8 : Int32) &&& 0x3f).toInt64)) ||| ((((n / (100000 : Int32)) % (10 : Int32)).toInt64) <<< ((16 : Int32) &&& 0x3f).toInt64)) ||| ((((n / (10000 : Int32)) % (10 : Int32)).toInt64) <<< ((24 : Int32) &&& 0x3f).toInt64)) ||| ((((n / (1000 : Int32)) % (10 : Int32)).toInt64) <<< ((32 : Int32) &&& 0x3f).toInt64)) ||| ((((n / (100 : Int32)) % (10 : Int32)).toInt64) <<< ((40 : Int32) &&& 0x3f).toInt64)))]) _
  refine own_go (fun _ => XS.bipush X0.here hx rfl (hb hby at_92)) ?_
  show own_Ends p e below s₁ (mkF m 94 #[.val (.int p0), .val (.long q1), .second, .val (.int n), .unset, .unset] [(.int (48 : Int32)), (.long (((n / (10 : Int32)) % (10 : Int32)).toInt64)), (.long (((((((q1 &&& (-1085102592571150096 : Int64)) ||| (((n / (10000000 : Int32)) % (10 : Int32)).toInt64)) ||| ((((n / (1000000 : Int32)) % (10 : Int32)).toInt64) <<< ((8 : Int32) &&& 0x3f).toInt64)) ||| ((((n / (100000 : Int32)) % (10 : Int32)).toInt64) <<< ((16 : Int32) &&& 0x3f).toInt64)) ||| ((((n / (10000 : Int32)) % (10 : Int32)).toInt64) <<< ((24 : Int32) &&& 0x3f).toInt64)) ||| ((((n / (1000 : Int32)) % (10 : Int32)).toInt64) <<< ((32 : Int32) &&& 0x3f).toInt64)) ||| ((((n / (100 : Int32)) % (10 : Int32)).toInt64) <<< ((40 : Int32) &&& 0x3f).toInt64)))]) _
  refine own_go (fun _ => XS.lshl X0.here hx rfl (hb hby at_94) rfl) ?_
  show own_Ends p e below s₁ (mkF m 95 #[.val (.int p0), .val (.long q1), .second, .val (.int n), .unset, .unset] [(.long ((((n / (10 : Int32)) % (10 : Int32)).toInt64) <<< ((48 : Int32) &&& 0x3f).toInt64)), (.long (((((((q1 &&& (-1085102592571150096 : Int64)) ||| (((n / (10000000 : Int32)) % (10 : Int32)).toInt64)) ||| ((((n / (1000000 : Int32)) % (10 : Int32)).toInt64) <<< ((8 : Int32) &&& 0x3f).toInt64)) ||| ((((n / (100000 : Int32)) % (10 : Int32)).toInt64) <<< ((16 : Int32) &&& 0x3f).toInt64)) ||| ((((n / (10000 : Int32)) % (10 : Int32)).toInt64) <<< ((24 : Int32) &&& 0x3f).toInt64)) ||| ((((n / (1000 : Int32)) % (10 : Int32)).toInt64) <<< ((32 : Int32) &&& 0x3f).toInt64)) ||| ((((n / (100 : Int32)) % (10 : Int32)).toInt64) <<< ((40 : Int32) &&& 0x3f).toInt64)))]) _
  refine own_go (fun _ => XS.lor X0.here hx rfl (hb hby at_95) rfl) ?_
  show own_Ends p e below s₁ (mkF m 96 #[.val (.int p0), .val (.long q1), .second, .val (.int n), .unset, .unset] [(.long ((((((((q1 &&& (-1085102592571150096 : Int64)) ||| (((n / (10000000 : Int32)) % (10 : Int32)).toInt64)) ||| ((((n / (1000000 : Int32)) % (10 : Int32)).toInt64) <<< ((8 : Int32) &&& 0x3f).toInt64)) ||| ((((n / (100000 : Int32)) % (10 : Int32)).toInt64) <<< ((16 : Int32) &&& 0x3f).toInt64)) ||| ((((n / (10000 : Int32)) % (10 : Int32)).toInt64) <<< ((24 : Int32) &&& 0x3f).toInt64)) ||| ((((n / (1000 : Int32)) % (10 : Int32)).toInt64) <<< ((32 : Int32) &&& 0x3f).toInt64)) ||| ((((n / (100 : Int32)) % (10 : Int32)).toInt64) <<< ((40 : Int32) &&& 0x3f).toInt64)) ||| ((((n / (10 : Int32)) % (10 : Int32)).toInt64) <<< ((48 : Int32) &&& 0x3f).toInt64)))]) _
  refine own_go (fun _ => XS.iloadN X0.here hx rfl (hb hby at_96) rfl) ?_
  show own_Ends p e below s₁ (mkF m 97 #[.val (.int p0), .val (.long q1), .second, .val (.int n), .unset, .unset] [(.int n), (.long ((((((((q1 &&& (-1085102592571150096 : Int64)) ||| (((n / (10000000 : Int32)) % (10 : Int32)).toInt64)) ||| ((((n / (1000000 : Int32)) % (10 : Int32)).toInt64) <<< ((8 : Int32) &&& 0x3f).toInt64)) ||| ((((n / (100000 : Int32)) % (10 : Int32)).toInt64) <<< ((16 : Int32) &&& 0x3f).toInt64)) ||| ((((n / (10000 : Int32)) % (10 : Int32)).toInt64) <<< ((24 : Int32) &&& 0x3f).toInt64)) ||| ((((n / (1000 : Int32)) % (10 : Int32)).toInt64) <<< ((32 : Int32) &&& 0x3f).toInt64)) ||| ((((n / (100 : Int32)) % (10 : Int32)).toInt64) <<< ((40 : Int32) &&& 0x3f).toInt64)) ||| ((((n / (10 : Int32)) % (10 : Int32)).toInt64) <<< ((48 : Int32) &&& 0x3f).toInt64)))]) _
  refine own_go (fun _ => XS.bipush X0.here hx rfl (hb hby at_97)) ?_
  show own_Ends p e below s₁ (mkF m 99 #[.val (.int p0), .val (.long q1), .second, .val (.int n), .unset, .unset] [(.int (10 : Int32)), (.int n), (.long ((((((((q1 &&& (-1085102592571150096 : Int64)) ||| (((n / (10000000 : Int32)) % (10 : Int32)).toInt64)) ||| ((((n / (1000000 : Int32)) % (10 : Int32)).toInt64) <<< ((8 : Int32) &&& 0x3f).toInt64)) ||| ((((n / (100000 : Int32)) % (10 : Int32)).toInt64) <<< ((16 : Int32) &&& 0x3f).toInt64)) ||| ((((n / (10000 : Int32)) % (10 : Int32)).toInt64) <<< ((24 : Int32) &&& 0x3f).toInt64)) ||| ((((n / (1000 : Int32)) % (10 : Int32)).toInt64) <<< ((32 : Int32) &&& 0x3f).toInt64)) ||| ((((n / (100 : Int32)) % (10 : Int32)).toInt64) <<< ((40 : Int32) &&& 0x3f).toInt64)) ||| ((((n / (10 : Int32)) % (10 : Int32)).toInt64) <<< ((48 : Int32) &&& 0x3f).toInt64)))]) _
  refine own_go (fun _ => iremM X0 hx rfl (hb hby at_99) rfl (by decide)) ?_
  show own_Ends p e below s₁ (mkF m 100 #[.val (.int p0), .val (.long q1), .second, .val (.int n), .unset, .unset] [(.int (n % (10 : Int32))), (.long ((((((((q1 &&& (-1085102592571150096 : Int64)) ||| (((n / (10000000 : Int32)) % (10 : Int32)).toInt64)) ||| ((((n / (1000000 : Int32)) % (10 : Int32)).toInt64) <<< ((8 : Int32) &&& 0x3f).toInt64)) ||| ((((n / (100000 : Int32)) % (10 : Int32)).toInt64) <<< ((16 : Int32) &&& 0x3f).toInt64)) ||| ((((n / (10000 : Int32)) % (10 : Int32)).toInt64) <<< ((24 : Int32) &&& 0x3f).toInt64)) ||| ((((n / (1000 : Int32)) % (10 : Int32)).toInt64) <<< ((32 : Int32) &&& 0x3f).toInt64)) ||| ((((n / (100 : Int32)) % (10 : Int32)).toInt64) <<< ((40 : Int32) &&& 0x3f).toInt64)) ||| ((((n / (10 : Int32)) % (10 : Int32)).toInt64) <<< ((48 : Int32) &&& 0x3f).toInt64)))]) _
  refine own_go (fun _ => XS.i2l X0.here hx rfl (hb hby at_100) rfl) ?_
  show own_Ends p e below s₁ (mkF m 101 #[.val (.int p0), .val (.long q1), .second, .val (.int n), .unset, .unset] [(.long ((n % (10 : Int32)).toInt64)), (.long ((((((((q1 &&& (-1085102592571150096 : Int64)) ||| (((n / (10000000 : Int32)) % (10 : Int32)).toInt64)) ||| ((((n / (1000000 : Int32)) % (10 : Int32)).toInt64) <<< ((8 : Int32) &&& 0x3f).toInt64)) ||| ((((n / (100000 : Int32)) % (10 : Int32)).toInt64) <<< ((16 : Int32) &&& 0x3f).toInt64)) ||| ((((n / (10000 : Int32)) % (10 : Int32)).toInt64) <<< ((24 : Int32) &&& 0x3f).toInt64)) ||| ((((n / (1000 : Int32)) % (10 : Int32)).toInt64) <<< ((32 : Int32) &&& 0x3f).toInt64)) ||| ((((n / (100 : Int32)) % (10 : Int32)).toInt64) <<< ((40 : Int32) &&& 0x3f).toInt64)) ||| ((((n / (10 : Int32)) % (10 : Int32)).toInt64) <<< ((48 : Int32) &&& 0x3f).toInt64)))]) _
  refine own_go (fun _ => XS.bipush X0.here hx rfl (hb hby at_101)) ?_
  show own_Ends p e below s₁ (mkF m 103 #[.val (.int p0), .val (.long q1), .second, .val (.int n), .unset, .unset] [(.int (56 : Int32)), (.long ((n % (10 : Int32)).toInt64)), (.long ((((((((q1 &&& (-1085102592571150096 : Int64)) ||| (((n / (10000000 : Int32)) % (10 : Int32)).toInt64)) ||| ((((n / (1000000 : Int32)) % (10 : Int32)).toInt64) <<< ((8 : Int32) &&& 0x3f).toInt64)) ||| ((((n / (100000 : Int32)) % (10 : Int32)).toInt64) <<< ((16 : Int32) &&& 0x3f).toInt64)) ||| ((((n / (10000 : Int32)) % (10 : Int32)).toInt64) <<< ((24 : Int32) &&& 0x3f).toInt64)) ||| ((((n / (1000 : Int32)) % (10 : Int32)).toInt64) <<< ((32 : Int32) &&& 0x3f).toInt64)) ||| ((((n / (100 : Int32)) % (10 : Int32)).toInt64) <<< ((40 : Int32) &&& 0x3f).toInt64)) ||| ((((n / (10 : Int32)) % (10 : Int32)).toInt64) <<< ((48 : Int32) &&& 0x3f).toInt64)))]) _
  refine own_go (fun _ => XS.lshl X0.here hx rfl (hb hby at_103) rfl) ?_
  show own_Ends p e below s₁ (mkF m 104 #[.val (.int p0), .val (.long q1), .second, .val (.int n), .unset, .unset] [(.long (((n % (10 : Int32)).toInt64) <<< ((56 : Int32) &&& 0x3f).toInt64)), (.long ((((((((q1 &&& (-1085102592571150096 : Int64)) ||| (((n / (10000000 : Int32)) % (10 : Int32)).toInt64)) ||| ((((n / (1000000 : Int32)) % (10 : Int32)).toInt64) <<< ((8 : Int32) &&& 0x3f).toInt64)) ||| ((((n / (100000 : Int32)) % (10 : Int32)).toInt64) <<< ((16 : Int32) &&& 0x3f).toInt64)) ||| ((((n / (10000 : Int32)) % (10 : Int32)).toInt64) <<< ((24 : Int32) &&& 0x3f).toInt64)) ||| ((((n / (1000 : Int32)) % (10 : Int32)).toInt64) <<< ((32 : Int32) &&& 0x3f).toInt64)) ||| ((((n / (100 : Int32)) % (10 : Int32)).toInt64) <<< ((40 : Int32) &&& 0x3f).toInt64)) ||| ((((n / (10 : Int32)) % (10 : Int32)).toInt64) <<< ((48 : Int32) &&& 0x3f).toInt64)))]) _
  refine own_go (fun _ => XS.lor X0.here hx rfl (hb hby at_104) rfl) ?_
  show own_Ends p e below s₁ (mkF m 105 #[.val (.int p0), .val (.long q1), .second, .val (.int n), .unset, .unset] [(.long (((((((((q1 &&& (-1085102592571150096 : Int64)) ||| (((n / (10000000 : Int32)) % (10 : Int32)).toInt64)) ||| ((((n / (1000000 : Int32)) % (10 : Int32)).toInt64) <<< ((8 : Int32) &&& 0x3f).toInt64)) ||| ((((n / (100000 : Int32)) % (10 : Int32)).toInt64) <<< ((16 : Int32) &&& 0x3f).toInt64)) ||| ((((n / (10000 : Int32)) % (10 : Int32)).toInt64) <<< ((24 : Int32) &&& 0x3f).toInt64)) ||| ((((n / (1000 : Int32)) % (10 : Int32)).toInt64) <<< ((32 : Int32) &&& 0x3f).toInt64)) ||| ((((n / (100 : Int32)) % (10 : Int32)).toInt64) <<< ((40 : Int32) &&& 0x3f).toInt64)) ||| ((((n / (10 : Int32)) % (10 : Int32)).toInt64) <<< ((48 : Int32) &&& 0x3f).toInt64)) ||| (((n % (10 : Int32)).toInt64) <<< ((56 : Int32) &&& 0x3f).toInt64)))]) _
  refine own_go (fun _ => XS.lstore X0.here hx rfl (hb hby at_105) rfl (l' := #[.val (.int p0), .val (.long q1), .second, .val (.int n), .val (.long (((((((((q1 &&& (-1085102592571150096 : Int64)) ||| (((n / (10000000 : Int32)) % (10 : Int32)).toInt64)) ||| ((((n / (1000000 : Int32)) % (10 : Int32)).toInt64) <<< ((8 : Int32) &&& 0x3f).toInt64)) ||| ((((n / (100000 : Int32)) % (10 : Int32)).toInt64) <<< ((16 : Int32) &&& 0x3f).toInt64)) ||| ((((n / (10000 : Int32)) % (10 : Int32)).toInt64) <<< ((24 : Int32) &&& 0x3f).toInt64)) ||| ((((n / (1000 : Int32)) % (10 : Int32)).toInt64) <<< ((32 : Int32) &&& 0x3f).toInt64)) ||| ((((n / (100 : Int32)) % (10 : Int32)).toInt64) <<< ((40 : Int32) &&& 0x3f).toInt64)) ||| ((((n / (10 : Int32)) % (10 : Int32)).toInt64) <<< ((48 : Int32) &&& 0x3f).toInt64)) ||| (((n % (10 : Int32)).toInt64) <<< ((56 : Int32) &&& 0x3f).toInt64))), .second]) rfl) ?_
  show own_Ends p e below s₁ (mkF m 107 #[.val (.int p0), .val (.long q1), .second, .val (.int n), .val (.long (((((((((q1 &&& (-1085102592571150096 : Int64)) ||| (((n / (10000000 : Int32)) % (10 : Int32)).toInt64)) ||| ((((n / (1000000 : Int32)) % (10 : Int32)).toInt64) <<< ((8 : Int32) &&& 0x3f).toInt64)) ||| ((((n / (100000 : Int32)) % (10 : Int32)).toInt64) <<< ((16 : Int32) &&& 0x3f).toInt64)) ||| ((((n / (10000 : Int32)) % (10 : Int32)).toInt64) <<< ((24 : Int32) &&& 0x3f).toInt64)) ||| ((((n / (1000 : Int32)) % (10 : Int32)).toInt64) <<< ((32 : Int32) &&& 0x3f).toInt64)) ||| ((((n / (100 : Int32)) % (10 : Int32)).toInt64) <<< ((40 : Int32) &&& 0x3f).toInt64)) ||| ((((n / (10 : Int32)) % (10 : Int32)).toInt64) <<< ((48 : Int32) &&& 0x3f).toInt64)) ||| (((n % (10 : Int32)).toInt64) <<< ((56 : Int32) &&& 0x3f).toInt64))), .second] []) _
  refine own_go (fun _ => XS.lload X0.here hx rfl (hb hby at_107) rfl) ?_
  show own_Ends p e below s₁ (mkF m 109 #[.val (.int p0), .val (.long q1), .second, .val (.int n), .val (.long (((((((((q1 &&& (-1085102592571150096 : Int64)) ||| (((n / (10000000 : Int32)) % (10 : Int32)).toInt64)) ||| ((((n / (1000000 : Int32)) % (10 : Int32)).toInt64) <<< ((8 : Int32) &&& 0x3f).toInt64)) ||| ((((n / (100000 : Int32)) % (10 : Int32)).toInt64) <<< ((16 : Int32) &&& 0x3f).toInt64)) ||| ((((n / (10000 : Int32)) % (10 : Int32)).toInt64) <<< ((24 : Int32) &&& 0x3f).toInt64)) ||| ((((n / (1000 : Int32)) % (10 : Int32)).toInt64) <<< ((32 : Int32) &&& 0x3f).toInt64)) ||| ((((n / (100 : Int32)) % (10 : Int32)).toInt64) <<< ((40 : Int32) &&& 0x3f).toInt64)) ||| ((((n / (10 : Int32)) % (10 : Int32)).toInt64) <<< ((48 : Int32) &&& 0x3f).toInt64)) ||| (((n % (10 : Int32)).toInt64) <<< ((56 : Int32) &&& 0x3f).toInt64))), .second] [(.long (((((((((q1 &&& (-1085102592571150096 : Int64)) ||| (((n / (10000000 : Int32)) % (10 : Int32)).toInt64)) ||| ((((n / (1000000 : Int32)) % (10 : Int32)).toInt64) <<< ((8 : Int32) &&& 0x3f).toInt64)) ||| ((((n / (100000 : Int32)) % (10 : Int32)).toInt64) <<< ((16 : Int32) &&& 0x3f).toInt64)) ||| ((((n / (10000 : Int32)) % (10 : Int32)).toInt64) <<< ((24 : Int32) &&& 0x3f).toInt64)) ||| ((((n / (1000 : Int32)) % (10 : Int32)).toInt64) <<< ((32 : Int32) &&& 0x3f).toInt64)) ||| ((((n / (100 : Int32)) % (10 : Int32)).toInt64) <<< ((40 : Int32) &&& 0x3f).toInt64)) ||| ((((n / (10 : Int32)) % (10 : Int32)).toInt64) <<< ((48 : Int32) &&& 0x3f).toInt64)) ||| (((n % (10 : Int32)).toInt64) <<< ((56 : Int32) &&& 0x3f).toInt64)))]) _
  obtain ⟨_, _, ⟨T1, L1, k1, n1⟩, -, X1, ⟨Lc1, hQ1, l1, y1, z1⟩, st1⟩ := Jvm.LawKit.callS X0 hx (y := (⟨"com/example/excedent/excedent/io/EightBytes", "number", "(J)J"⟩ : MethodName)) hown (mvT hZ (hw _ (List.mem_of_getElem? (i := 6) rfl))) (mvT hZ (hw _ (List.mem_of_getElem? (i := 7) rfl))) (mvT hZ (hw _ (List.mem_of_getElem? (i := 8) rfl))) (mvT hZ (hw _ (List.mem_of_getElem? (i := 9) rfl))) (by decide) (backOf (W := 0) (rm1 l Z a0 hw [] ((((((((((q1 &&& (-1085102592571150096 : Int64)) ||| (((n / (10000000 : Int32)) % (10 : Int32)).toInt64)) ||| ((((n / (1000000 : Int32)) % (10 : Int32)).toInt64) <<< ((8 : Int32) &&& 0x3f).toInt64)) ||| ((((n / (100000 : Int32)) % (10 : Int32)).toInt64) <<< ((16 : Int32) &&& 0x3f).toInt64)) ||| ((((n / (10000 : Int32)) % (10 : Int32)).toInt64) <<< ((24 : Int32) &&& 0x3f).toInt64)) ||| ((((n / (1000 : Int32)) % (10 : Int32)).toInt64) <<< ((32 : Int32) &&& 0x3f).toInt64)) ||| ((((n / (100 : Int32)) % (10 : Int32)).toInt64) <<< ((40 : Int32) &&& 0x3f).toInt64)) ||| ((((n / (10 : Int32)) % (10 : Int32)).toInt64) <<< ((48 : Int32) &&& 0x3f).toInt64)) ||| (((n % (10 : Int32)).toInt64) <<< ((56 : Int32) &&& 0x3f).toInt64)))  h0 n0 Z0 ) hZ (hw _ (List.mem_of_getElem? (i := 9) rfl)) (hw _ (List.mem_of_getElem? (i := 8) rfl)) (by decide) (by decide)) (g := (mkF m 109 #[.val (.int p0), .val (.long q1), .second, .val (.int n), .val (.long (((((((((q1 &&& (-1085102592571150096 : Int64)) ||| (((n / (10000000 : Int32)) % (10 : Int32)).toInt64)) ||| ((((n / (1000000 : Int32)) % (10 : Int32)).toInt64) <<< ((8 : Int32) &&& 0x3f).toInt64)) ||| ((((n / (100000 : Int32)) % (10 : Int32)).toInt64) <<< ((16 : Int32) &&& 0x3f).toInt64)) ||| ((((n / (10000 : Int32)) % (10 : Int32)).toInt64) <<< ((24 : Int32) &&& 0x3f).toInt64)) ||| ((((n / (1000 : Int32)) % (10 : Int32)).toInt64) <<< ((32 : Int32) &&& 0x3f).toInt64)) ||| ((((n / (100 : Int32)) % (10 : Int32)).toInt64) <<< ((40 : Int32) &&& 0x3f).toInt64)) ||| ((((n / (10 : Int32)) % (10 : Int32)).toInt64) <<< ((48 : Int32) &&& 0x3f).toInt64)) ||| (((n % (10 : Int32)).toInt64) <<< ((56 : Int32) &&& 0x3f).toInt64))), .second] [(.long (((((((((q1 &&& (-1085102592571150096 : Int64)) ||| (((n / (10000000 : Int32)) % (10 : Int32)).toInt64)) ||| ((((n / (1000000 : Int32)) % (10 : Int32)).toInt64) <<< ((8 : Int32) &&& 0x3f).toInt64)) ||| ((((n / (100000 : Int32)) % (10 : Int32)).toInt64) <<< ((16 : Int32) &&& 0x3f).toInt64)) ||| ((((n / (10000 : Int32)) % (10 : Int32)).toInt64) <<< ((24 : Int32) &&& 0x3f).toInt64)) ||| ((((n / (1000 : Int32)) % (10 : Int32)).toInt64) <<< ((32 : Int32) &&& 0x3f).toInt64)) ||| ((((n / (100 : Int32)) % (10 : Int32)).toInt64) <<< ((40 : Int32) &&& 0x3f).toInt64)) ||| ((((n / (10 : Int32)) % (10 : Int32)).toInt64) <<< ((48 : Int32) &&& 0x3f).toInt64)) ||| (((n % (10 : Int32)).toInt64) <<< ((56 : Int32) &&& 0x3f).toInt64)))])) rfl (by rw [hml]; rfl) (argsL := [(.long (((((((((q1 &&& (-1085102592571150096 : Int64)) ||| (((n / (10000000 : Int32)) % (10 : Int32)).toInt64)) ||| ((((n / (1000000 : Int32)) % (10 : Int32)).toInt64) <<< ((8 : Int32) &&& 0x3f).toInt64)) ||| ((((n / (100000 : Int32)) % (10 : Int32)).toInt64) <<< ((16 : Int32) &&& 0x3f).toInt64)) ||| ((((n / (10000 : Int32)) % (10 : Int32)).toInt64) <<< ((24 : Int32) &&& 0x3f).toInt64)) ||| ((((n / (1000 : Int32)) % (10 : Int32)).toInt64) <<< ((32 : Int32) &&& 0x3f).toInt64)) ||| ((((n / (100 : Int32)) % (10 : Int32)).toInt64) <<< ((40 : Int32) &&& 0x3f).toInt64)) ||| ((((n / (10 : Int32)) % (10 : Int32)).toInt64) <<< ((48 : Int32) &&& 0x3f).toInt64)) ||| (((n % (10 : Int32)).toInt64) <<< ((56 : Int32) &&& 0x3f).toInt64)))]) (rest := []) (lenOf pd_0 rfl) rfl (by show 2 * 0 + _ ≤ _; exact Nat.le_of_eq rfl) (hb hby at_109) (fun _ _ => ⟨rfl, e0, (by decide : 0 + 0 ≤ _), (by decide : 0 + 0 ≤ _)⟩)
  dsimp only [Pt.U, Pt.locs, Pt.cells, Pt.slots] at X1 l1 y1 z1 st1 hQ1
  subst l1 y1 z1
  refine own_go st1 ?_
  obtain ⟨rfl, N1q, eh1⟩ := hQ1
  have N1 := Fr.app N0 N1q
  show own_Ends p e below T1 (mkF m 112 #[.val (.int p0), .val (.long q1), .second, .val (.int n), .val (.long (((((((((q1 &&& (-1085102592571150096 : Int64)) ||| (((n / (10000000 : Int32)) % (10 : Int32)).toInt64)) ||| ((((n / (1000000 : Int32)) % (10 : Int32)).toInt64) <<< ((8 : Int32) &&& 0x3f).toInt64)) ||| ((((n / (100000 : Int32)) % (10 : Int32)).toInt64) <<< ((16 : Int32) &&& 0x3f).toInt64)) ||| ((((n / (10000 : Int32)) % (10 : Int32)).toInt64) <<< ((24 : Int32) &&& 0x3f).toInt64)) ||| ((((n / (1000 : Int32)) % (10 : Int32)).toInt64) <<< ((32 : Int32) &&& 0x3f).toInt64)) ||| ((((n / (100 : Int32)) % (10 : Int32)).toInt64) <<< ((40 : Int32) &&& 0x3f).toInt64)) ||| ((((n / (10 : Int32)) % (10 : Int32)).toInt64) <<< ((48 : Int32) &&& 0x3f).toInt64)) ||| (((n % (10 : Int32)).toInt64) <<< ((56 : Int32) &&& 0x3f).toInt64))), .second] [(.long (own_number (((((((((q1 &&& (-1085102592571150096 : Int64)) ||| (((n / (10000000 : Int32)) % (10 : Int32)).toInt64)) ||| ((((n / (1000000 : Int32)) % (10 : Int32)).toInt64) <<< ((8 : Int32) &&& 0x3f).toInt64)) ||| ((((n / (100000 : Int32)) % (10 : Int32)).toInt64) <<< ((16 : Int32) &&& 0x3f).toInt64)) ||| ((((n / (10000 : Int32)) % (10 : Int32)).toInt64) <<< ((24 : Int32) &&& 0x3f).toInt64)) ||| ((((n / (1000 : Int32)) % (10 : Int32)).toInt64) <<< ((32 : Int32) &&& 0x3f).toInt64)) ||| ((((n / (100 : Int32)) % (10 : Int32)).toInt64) <<< ((40 : Int32) &&& 0x3f).toInt64)) ||| ((((n / (10 : Int32)) % (10 : Int32)).toInt64) <<< ((48 : Int32) &&& 0x3f).toInt64)) ||| (((n % (10 : Int32)).toInt64) <<< ((56 : Int32) &&& 0x3f).toInt64))))]) _
  refine own_go (fun _ => XS.iloadN X1.here hx rfl (hb hby at_112) rfl) ?_
  show own_Ends p e below T1 (mkF m 113 #[.val (.int p0), .val (.long q1), .second, .val (.int n), .val (.long (((((((((q1 &&& (-1085102592571150096 : Int64)) ||| (((n / (10000000 : Int32)) % (10 : Int32)).toInt64)) ||| ((((n / (1000000 : Int32)) % (10 : Int32)).toInt64) <<< ((8 : Int32) &&& 0x3f).toInt64)) ||| ((((n / (100000 : Int32)) % (10 : Int32)).toInt64) <<< ((16 : Int32) &&& 0x3f).toInt64)) ||| ((((n / (10000 : Int32)) % (10 : Int32)).toInt64) <<< ((24 : Int32) &&& 0x3f).toInt64)) ||| ((((n / (1000 : Int32)) % (10 : Int32)).toInt64) <<< ((32 : Int32) &&& 0x3f).toInt64)) ||| ((((n / (100 : Int32)) % (10 : Int32)).toInt64) <<< ((40 : Int32) &&& 0x3f).toInt64)) ||| ((((n / (10 : Int32)) % (10 : Int32)).toInt64) <<< ((48 : Int32) &&& 0x3f).toInt64)) ||| (((n % (10 : Int32)).toInt64) <<< ((56 : Int32) &&& 0x3f).toInt64))), .second] [(.int n), (.long (own_number (((((((((q1 &&& (-1085102592571150096 : Int64)) ||| (((n / (10000000 : Int32)) % (10 : Int32)).toInt64)) ||| ((((n / (1000000 : Int32)) % (10 : Int32)).toInt64) <<< ((8 : Int32) &&& 0x3f).toInt64)) ||| ((((n / (100000 : Int32)) % (10 : Int32)).toInt64) <<< ((16 : Int32) &&& 0x3f).toInt64)) ||| ((((n / (10000 : Int32)) % (10 : Int32)).toInt64) <<< ((24 : Int32) &&& 0x3f).toInt64)) ||| ((((n / (1000 : Int32)) % (10 : Int32)).toInt64) <<< ((32 : Int32) &&& 0x3f).toInt64)) ||| ((((n / (100 : Int32)) % (10 : Int32)).toInt64) <<< ((40 : Int32) &&& 0x3f).toInt64)) ||| ((((n / (10 : Int32)) % (10 : Int32)).toInt64) <<< ((48 : Int32) &&& 0x3f).toInt64)) ||| (((n % (10 : Int32)).toInt64) <<< ((56 : Int32) &&& 0x3f).toInt64))))]) _
  refine own_go (fun _ => XS.i2l X1.here hx rfl (hb hby at_113) rfl) ?_
  show own_Ends p e below T1 (mkF m 114 #[.val (.int p0), .val (.long q1), .second, .val (.int n), .val (.long (((((((((q1 &&& (-1085102592571150096 : Int64)) ||| (((n / (10000000 : Int32)) % (10 : Int32)).toInt64)) ||| ((((n / (1000000 : Int32)) % (10 : Int32)).toInt64) <<< ((8 : Int32) &&& 0x3f).toInt64)) ||| ((((n / (100000 : Int32)) % (10 : Int32)).toInt64) <<< ((16 : Int32) &&& 0x3f).toInt64)) ||| ((((n / (10000 : Int32)) % (10 : Int32)).toInt64) <<< ((24 : Int32) &&& 0x3f).toInt64)) ||| ((((n / (1000 : Int32)) % (10 : Int32)).toInt64) <<< ((32 : Int32) &&& 0x3f).toInt64)) ||| ((((n / (100 : Int32)) % (10 : Int32)).toInt64) <<< ((40 : Int32) &&& 0x3f).toInt64)) ||| ((((n / (10 : Int32)) % (10 : Int32)).toInt64) <<< ((48 : Int32) &&& 0x3f).toInt64)) ||| (((n % (10 : Int32)).toInt64) <<< ((56 : Int32) &&& 0x3f).toInt64))), .second] [(.long (n.toInt64)), (.long (own_number (((((((((q1 &&& (-1085102592571150096 : Int64)) ||| (((n / (10000000 : Int32)) % (10 : Int32)).toInt64)) ||| ((((n / (1000000 : Int32)) % (10 : Int32)).toInt64) <<< ((8 : Int32) &&& 0x3f).toInt64)) ||| ((((n / (100000 : Int32)) % (10 : Int32)).toInt64) <<< ((16 : Int32) &&& 0x3f).toInt64)) ||| ((((n / (10000 : Int32)) % (10 : Int32)).toInt64) <<< ((24 : Int32) &&& 0x3f).toInt64)) ||| ((((n / (1000 : Int32)) % (10 : Int32)).toInt64) <<< ((32 : Int32) &&& 0x3f).toInt64)) ||| ((((n / (100 : Int32)) % (10 : Int32)).toInt64) <<< ((40 : Int32) &&& 0x3f).toInt64)) ||| ((((n / (10 : Int32)) % (10 : Int32)).toInt64) <<< ((48 : Int32) &&& 0x3f).toInt64)) ||| (((n % (10 : Int32)).toInt64) <<< ((56 : Int32) &&& 0x3f).toInt64))))]) _
  refine own_go (fun _ => XS.lcmp X1.here hx rfl (hb hby at_114) rfl) ?_
  show own_Ends p e below T1 (mkF m 115 #[.val (.int p0), .val (.long q1), .second, .val (.int n), .val (.long (((((((((q1 &&& (-1085102592571150096 : Int64)) ||| (((n / (10000000 : Int32)) % (10 : Int32)).toInt64)) ||| ((((n / (1000000 : Int32)) % (10 : Int32)).toInt64) <<< ((8 : Int32) &&& 0x3f).toInt64)) ||| ((((n / (100000 : Int32)) % (10 : Int32)).toInt64) <<< ((16 : Int32) &&& 0x3f).toInt64)) ||| ((((n / (10000 : Int32)) % (10 : Int32)).toInt64) <<< ((24 : Int32) &&& 0x3f).toInt64)) ||| ((((n / (1000 : Int32)) % (10 : Int32)).toInt64) <<< ((32 : Int32) &&& 0x3f).toInt64)) ||| ((((n / (100 : Int32)) % (10 : Int32)).toInt64) <<< ((40 : Int32) &&& 0x3f).toInt64)) ||| ((((n / (10 : Int32)) % (10 : Int32)).toInt64) <<< ((48 : Int32) &&& 0x3f).toInt64)) ||| (((n % (10 : Int32)).toInt64) <<< ((56 : Int32) &&& 0x3f).toInt64))), .second] [(.int (lcmpW (own_number (((((((((q1 &&& (-1085102592571150096 : Int64)) ||| (((n / (10000000 : Int32)) % (10 : Int32)).toInt64)) ||| ((((n / (1000000 : Int32)) % (10 : Int32)).toInt64) <<< ((8 : Int32) &&& 0x3f).toInt64)) ||| ((((n / (100000 : Int32)) % (10 : Int32)).toInt64) <<< ((16 : Int32) &&& 0x3f).toInt64)) ||| ((((n / (10000 : Int32)) % (10 : Int32)).toInt64) <<< ((24 : Int32) &&& 0x3f).toInt64)) ||| ((((n / (1000 : Int32)) % (10 : Int32)).toInt64) <<< ((32 : Int32) &&& 0x3f).toInt64)) ||| ((((n / (100 : Int32)) % (10 : Int32)).toInt64) <<< ((40 : Int32) &&& 0x3f).toInt64)) ||| ((((n / (10 : Int32)) % (10 : Int32)).toInt64) <<< ((48 : Int32) &&& 0x3f).toInt64)) ||| (((n % (10 : Int32)).toInt64) <<< ((56 : Int32) &&& 0x3f).toInt64))) (n.toInt64)))]) _
  refine own_go (fun _ => XS.ifNo X1.here hx rfl (hb hby at_115) rfl ((if0 _ _).trans (teq ((lw_eq (own_number (((((((((q1 &&& (-1085102592571150096 : Int64)) ||| (((n / (10000000 : Int32)) % (10 : Int32)).toInt64)) ||| ((((n / (1000000 : Int32)) % (10 : Int32)).toInt64) <<< ((8 : Int32) &&& 0x3f).toInt64)) ||| ((((n / (100000 : Int32)) % (10 : Int32)).toInt64) <<< ((16 : Int32) &&& 0x3f).toInt64)) ||| ((((n / (10000 : Int32)) % (10 : Int32)).toInt64) <<< ((24 : Int32) &&& 0x3f).toInt64)) ||| ((((n / (1000 : Int32)) % (10 : Int32)).toInt64) <<< ((32 : Int32) &&& 0x3f).toInt64)) ||| ((((n / (100 : Int32)) % (10 : Int32)).toInt64) <<< ((40 : Int32) &&& 0x3f).toInt64)) ||| ((((n / (10 : Int32)) % (10 : Int32)).toInt64) <<< ((48 : Int32) &&& 0x3f).toInt64)) ||| (((n % (10 : Int32)).toInt64) <<< ((56 : Int32) &&& 0x3f).toInt64))) (n.toInt64)).mpr (show (own_number (((((((((q1 &&& (-1085102592571150096 : Int64)) ||| (((n / (10000000 : Int32)) % (10 : Int32)).toInt64)) ||| ((((n / (1000000 : Int32)) % (10 : Int32)).toInt64) <<< ((8 : Int32) &&& 0x3f).toInt64)) ||| ((((n / (100000 : Int32)) % (10 : Int32)).toInt64) <<< ((16 : Int32) &&& 0x3f).toInt64)) ||| ((((n / (10000 : Int32)) % (10 : Int32)).toInt64) <<< ((24 : Int32) &&& 0x3f).toInt64)) ||| ((((n / (1000 : Int32)) % (10 : Int32)).toInt64) <<< ((32 : Int32) &&& 0x3f).toInt64)) ||| ((((n / (100 : Int32)) % (10 : Int32)).toInt64) <<< ((40 : Int32) &&& 0x3f).toInt64)) ||| ((((n / (10 : Int32)) % (10 : Int32)).toInt64) <<< ((48 : Int32) &&& 0x3f).toInt64)) ||| (((n % (10 : Int32)).toInt64) <<< ((56 : Int32) &&& 0x3f).toInt64))) = (n.toInt64) from own_all _ _ hn))).2)) ?_
  show own_Ends p e below T1 (mkF m 118 #[.val (.int p0), .val (.long q1), .second, .val (.int n), .val (.long (((((((((q1 &&& (-1085102592571150096 : Int64)) ||| (((n / (10000000 : Int32)) % (10 : Int32)).toInt64)) ||| ((((n / (1000000 : Int32)) % (10 : Int32)).toInt64) <<< ((8 : Int32) &&& 0x3f).toInt64)) ||| ((((n / (100000 : Int32)) % (10 : Int32)).toInt64) <<< ((16 : Int32) &&& 0x3f).toInt64)) ||| ((((n / (10000 : Int32)) % (10 : Int32)).toInt64) <<< ((24 : Int32) &&& 0x3f).toInt64)) ||| ((((n / (1000 : Int32)) % (10 : Int32)).toInt64) <<< ((32 : Int32) &&& 0x3f).toInt64)) ||| ((((n / (100 : Int32)) % (10 : Int32)).toInt64) <<< ((40 : Int32) &&& 0x3f).toInt64)) ||| ((((n / (10 : Int32)) % (10 : Int32)).toInt64) <<< ((48 : Int32) &&& 0x3f).toInt64)) ||| (((n % (10 : Int32)).toInt64) <<< ((56 : Int32) &&& 0x3f).toInt64))), .second] []) _
  refine own_go (fun _ => XS.iconst X1.here hx rfl (hb hby at_118)) ?_
  show own_Ends p e below T1 (mkF m 119 #[.val (.int p0), .val (.long q1), .second, .val (.int n), .val (.long (((((((((q1 &&& (-1085102592571150096 : Int64)) ||| (((n / (10000000 : Int32)) % (10 : Int32)).toInt64)) ||| ((((n / (1000000 : Int32)) % (10 : Int32)).toInt64) <<< ((8 : Int32) &&& 0x3f).toInt64)) ||| ((((n / (100000 : Int32)) % (10 : Int32)).toInt64) <<< ((16 : Int32) &&& 0x3f).toInt64)) ||| ((((n / (10000 : Int32)) % (10 : Int32)).toInt64) <<< ((24 : Int32) &&& 0x3f).toInt64)) ||| ((((n / (1000 : Int32)) % (10 : Int32)).toInt64) <<< ((32 : Int32) &&& 0x3f).toInt64)) ||| ((((n / (100 : Int32)) % (10 : Int32)).toInt64) <<< ((40 : Int32) &&& 0x3f).toInt64)) ||| ((((n / (10 : Int32)) % (10 : Int32)).toInt64) <<< ((48 : Int32) &&& 0x3f).toInt64)) ||| (((n % (10 : Int32)).toInt64) <<< ((56 : Int32) &&& 0x3f).toInt64))), .second] [(.int (1 : Int32))]) _
  refine own_go (fun _ => XS.goto X1.here hx rfl (pc0 := 119) (pc' := 123) rfl (hb hby at_119) (by decide) (by decide)) ?_
  show own_Ends p e below T1 (mkF m 123 #[.val (.int p0), .val (.long q1), .second, .val (.int n), .val (.long (((((((((q1 &&& (-1085102592571150096 : Int64)) ||| (((n / (10000000 : Int32)) % (10 : Int32)).toInt64)) ||| ((((n / (1000000 : Int32)) % (10 : Int32)).toInt64) <<< ((8 : Int32) &&& 0x3f).toInt64)) ||| ((((n / (100000 : Int32)) % (10 : Int32)).toInt64) <<< ((16 : Int32) &&& 0x3f).toInt64)) ||| ((((n / (10000 : Int32)) % (10 : Int32)).toInt64) <<< ((24 : Int32) &&& 0x3f).toInt64)) ||| ((((n / (1000 : Int32)) % (10 : Int32)).toInt64) <<< ((32 : Int32) &&& 0x3f).toInt64)) ||| ((((n / (100 : Int32)) % (10 : Int32)).toInt64) <<< ((40 : Int32) &&& 0x3f).toInt64)) ||| ((((n / (10 : Int32)) % (10 : Int32)).toInt64) <<< ((48 : Int32) &&& 0x3f).toInt64)) ||| (((n % (10 : Int32)).toInt64) <<< ((56 : Int32) &&& 0x3f).toInt64))), .second] [(.int (1 : Int32))]) _
  obtain ⟨fs, hr, hrun, hended, hW, hsame⟩ := X1.leave (v := some (.int (1 : Int32))) (fun h => by rw [Bd.returns] at h; cases h)
  refine ⟨_, _, retN X1 hx (t := .boolean) Bd.returns (by simp) (hb hby at_123) hr, hrun, hended, _, _, rfl, ?_, ⟨_, rfl⟩, hW, hsame.mono (by decide) (by decide)⟩
  show Q_rm0 Z p0 q1 h0 n0 _ T1.heap _
  rw [eh1]
  exact ⟨rfl, N1⟩
set_option maxRecDepth 65536 in
set_option maxHeartbeats 40000000 in
theorem comes_1 {Post : Tables → Env → Array Value → State → Outcome → State → Prop} (hpost : ∀ tb e args s v u, (limb_1_1.after args s (.returned v) u = true ∧ limb_1_2.after args s (.returned v) u = true ∧ True) → FrameEnd s (.returned v) u (Jvm.fieldLocs frame_1_writes args s ++ Jvm.arrayLocs frame_1_arrays args s ++ Jvm.staticLocs frame_1_statics s) 0 0 → Post tb e args s (.returned v) u) :
    ArmFor flags0 classFile x code maxLocals ret World_1 tables_1 room_1 Calls_1 rest_1 Pre_1 Post := by
  intro l hfl _ _ p e ha hc hk s m args below hf hA hF happ hP
  obtain ⟨hcalls, hrest, hpre⟩ := hP
  obtain ⟨-, -, -, hnamed, -, -, -, hat⟩ := (Spec.applies_iff hf).mp happ
  obtain ⟨hg, hn⟩ := and_e (Cond.before_iff.mp (show (Jvm.Cond.and given_1 narrow_1).before args s = true from hpre))
  obtain ⟨gv1, gv2⟩ := and_e hg
  obtain ⟨gv3, gv4⟩ := and_e gv2
  obtain ⟨w0, w1, rfl⟩ : ∃ w0 w1 : Value, args = #[w0, w1] := by
    have hs : args.size = 2 := by simpa [Cond.value, given_1] using gv1
    obtain ⟨L⟩ := args
    match L, hs with
    | [w0, w1], _ => exact ⟨w0, w1, rfl⟩
  have hw := fun d (hd : d ∈ tables_1) => atoms_spec (ws := Jvm.Cond.code x code maxLocals ret :: tables_1) hat d (List.mem_cons_of_mem _ hd)
  obtain ⟨i0, ei0⟩ := is_v gv3
  obtain rfl : w0 = (.int i0) := Option.some.inj ei0
  obtain ⟨i1, ei1⟩ := isL_v gv4
  obtain rfl : w1 = (.long i1) := Option.some.inj ei1
  obtain ⟨n, o, h1, h2, h3, _, L, rfl, ⟨rfl, N⟩, hq⟩ := rm0 l s _ hw tables_1 i0 i1 s.heap s.heap.size (Nat.le_refl _) p e ha hc hk s m _ below hf ((Spec.applies_iff_loose hf).mp happ).1 ⟨rfl, State.Warmed39.refl s, rfl⟩ trivial
  refine ⟨n, _, h1, h2, h3, hpost _ _ _ _ _ _ ⟨Cond.after_iff.mpr rfl, Cond.after_iff.mpr (eq_i res_at (Term.int_eval (1)) rfl), trivial⟩ ⟨hq.1, hq.2.1, (hq.2.2.sift fun y hy => Or.inr (N y hy)).mono (by decide) (by decide)⟩⟩
theorem main_1_1 : Claimed_1_1 := comes_1 fun _ _ _ _ _ _ h hF => ⟨h.1, hF⟩
theorem main_1_2 : Claimed_1_2 := comes_1 fun _ _ _ _ _ _ h hF => ⟨h.2.1, hF⟩
end Jvm.Pilot.@@N@@
namespace Jvm.Pilot.@@N@@
open Jvm Jvm.ClassFile Sem Op Lib Jvm.Free Jvm.Stand Jvm.Pilot.@@N@@.Jvm.D
/-! MADE BY PROGRAM (witnessworld.py) out of the Statement's table words and the real class files: 9 classes; the members and pool entries that the words name. The judged class is class 1, her method 1. -/
namespace start1
open Jvm.ClassFile
def u (s : String) : CpInfo := .utf8 (stringToUtf16 s)
/-- a pool by its gaps: so many unusable entries, then the entry; so many at the end -/
def gap : Nat → List CpInfo → List CpInfo
  | 0, r => r
  | n + 1, r => .unusable :: gap n r
def poolList (es : List (Nat × CpInfo)) (last : Nat) : List CpInfo := es.foldr (fun e r => gap e.1 (e.2 :: r)) (gap last [])
def pool (es : List (Nat × CpInfo)) (last : Nat) : Array CpInfo := ⟨poolList es last⟩
def fileOf (pool : Array CpInfo) (this : Nat) (attrs : Array Attribute := #[]) (ms : Array MethodInfo := #[]) (fl : Nat := 33) (sup : Nat := 0) (ifs : Array Nat := #[]) (fds : Array FieldInfo := #[]) : ClassFile where
  minorVersion := 0
  majorVersion := 65
  constantPool := pool
  accessFlags := fl
  thisClass := this
  superClass := sup
  interfaces := ifs
  fields := fds
  methods := ms
  attributes := attrs
def plain (name : String) (sup : Option ClassId) : Class where
  name := name
  kind := .ordinary
  loader := none
  accessFlags := 33
  super := sup
  interfaces := #[]
  cf := none
  fields := #[]
  methods := #[]
  instanceTypes := #[]
  staticTypes := #[]
  resolved := #[]
  callSites := []
  init := .initialized
  statics := none
  mirror := none

def pool0 : Array CpInfo := pool [(5, u "<init>"), (0, u "()V"), (1, .class_ 10), (1, u "java/lang/Object")] 113

def k0m0 : Method := { name := "<init>", desc := "()V", sig := { parameters := [], returnType := none }, accessFlags := 1, code := none }
/-- java/lang/Object -/
def k0 : Class := { plain "java/lang/Object" none with
  accessFlags := 33
  interfaces := #[]
  cf := some (fileOf pool0 8 #[] #[{ accessFlags := 1, nameIndex := 5, descriptorIndex := 6, attributes := #[] }] 33 0 #[] #[])
  fields := #[]
  methods := #[k0m0]
  instanceTypes := #[]
  staticTypes := #[]
  resolved := Array.replicate 124 none
  statics := none }

def pool1 : Array CpInfo := pool [(2, .class_ 4), (1, u "java/lang/Object"), (0, u "<init>"), (0, u "()V"), (0, .integer 2147483647), (0, .integer 100000000), (0, .long 17361641481138401520), (1, .integer 10000000), (0, .integer 1000000), (0, .integer 100000), (0, .methodref 15 16), (0, .class_ 17), (0, .nameAndType 18 19), (0, u "com/example/excedent/excedent/io/EightBytes"), (0, u "number"), (0, u "(J)J"), (0, .class_ 21), (0, u "com/example/excedent/excedent/io/EightBytesNumberPinLaw"), (2, u "law"), (0, u "(IJ)Z")] 3

def k1m0 : Method := { name := "<init>", desc := "()V", sig := { parameters := [], returnType := none }, accessFlags := 1, code := none }
def k1c1 : Code := { maxStack := 5, maxLocals := 6, code := code, exceptionTable := #[], attributes := #[] }
def k1m1 : Method := { name := "law", desc := "(IJ)Z", sig := { parameters := [.int, .long], returnType := some .boolean }, accessFlags := 9, code := some k1c1 }
/-- com/example/excedent/excedent/io/EightBytesNumberPinLaw -/
def k1 : Class := { plain "com/example/excedent/excedent/io/EightBytesNumberPinLaw" (some 0) with
  accessFlags := 49
  interfaces := #[]
  cf := some (fileOf pool1 20 #[] #[{ accessFlags := 1, nameIndex := 5, descriptorIndex := 6, attributes := #[] }, { accessFlags := 9, nameIndex := 24, descriptorIndex := 25, attributes := #[] }] 49 2 #[] #[])
  fields := #[]
  methods := #[k1m0, k1m1]
  instanceTypes := #[]
  staticTypes := #[]
  resolved := Array.replicate 29 none
  statics := none }

def pool2 : Array CpInfo := pool [(2, .class_ 4), (1, u "java/lang/Object"), (0, u "<init>"), (0, u "()V"), (3, .class_ 12), (1, u "com/example/excedent/excedent/io/EightBytes"), (12, u "LONGS"), (0, u "Ljava/lang/invoke/VarHandle;"), (25, .long 1085102592571150095), (1, .long 2561), (1, .long 71777214294589695), (1, .long 6553601), (1, .long 281470681808895), (1, .long 42949672960001), (20, u "EACH_BYTE"), (0, u "J"), (1, u "HIGH_BITS"), (0, u "SPREAD"), (0, u "HIGH_HALVES"), (0, u "ZEROS"), (0, u "SIXES"), (9, u "number"), (0, u "(J)J")] 5

def k2m0 : Method := { name := "<init>", desc := "()V", sig := { parameters := [], returnType := none }, accessFlags := 2, code := none }
def k2c1 : Code := { maxStack := 4, maxLocals := 6, code := prog_53_method_7_code, exceptionTable := #[], attributes := #[] }
def k2m1 : Method := { name := "number", desc := "(J)J", sig := { parameters := [.long], returnType := some .long }, accessFlags := 9, code := some k2c1 }
/-- com/example/excedent/excedent/io/EightBytes -/
def k2 : Class := { plain "com/example/excedent/excedent/io/EightBytes" (some 0) with
  accessFlags := 49
  interfaces := #[]
  cf := some (fileOf pool2 10 #[] #[{ accessFlags := 2, nameIndex := 5, descriptorIndex := 6, attributes := #[] }, { accessFlags := 9, nameIndex := 100, descriptorIndex := 101, attributes := #[] }] 49 2 #[] #[{ accessFlags := 24, nameIndex := 83, descriptorIndex := 84, attributes := #[] }, { accessFlags := 24, nameIndex := 86, descriptorIndex := 84, attributes := #[] }, { accessFlags := 26, nameIndex := 87, descriptorIndex := 84, attributes := #[] }, { accessFlags := 26, nameIndex := 88, descriptorIndex := 84, attributes := #[] }, { accessFlags := 26, nameIndex := 89, descriptorIndex := 84, attributes := #[] }, { accessFlags := 26, nameIndex := 90, descriptorIndex := 84, attributes := #[] }, { accessFlags := 26, nameIndex := 25, descriptorIndex := 26, attributes := #[] }])
  fields := #[{ name := "EACH_BYTE", type := .long, accessFlags := 24, slot := 0, constantValue := 0 }, { name := "HIGH_BITS", type := .long, accessFlags := 24, slot := 1, constantValue := 0 }, { name := "SPREAD", type := .long, accessFlags := 26, slot := 2, constantValue := 0 }, { name := "HIGH_HALVES", type := .long, accessFlags := 26, slot := 3, constantValue := 0 }, { name := "ZEROS", type := .long, accessFlags := 26, slot := 4, constantValue := 0 }, { name := "SIXES", type := .long, accessFlags := 26, slot := 5, constantValue := 0 }, { name := "LONGS", type := (.object "java/lang/invoke/VarHandle"), accessFlags := 26, slot := 6, constantValue := 0 }]
  methods := #[k2m0, k2m1]
  instanceTypes := #[]
  staticTypes := #[.long, .long, .long, .long, .long, .long, (.object "java/lang/invoke/VarHandle")]
  resolved := Array.replicate 107 none
  statics := none }

def pool3 : Array CpInfo := pool [(1, u "java/lang/Cloneable"), (0, .class_ 1), (0, u "java/lang/Object"), (0, .class_ 3)] 3

/-- java/lang/Cloneable -/
def k3 : Class := { plain "java/lang/Cloneable" (some 0) with
  accessFlags := 1537
  interfaces := #[]
  cf := some (fileOf pool3 2 #[] #[] 1537 4 #[] #[])
  fields := #[]
  methods := #[]
  instanceTypes := #[]
  staticTypes := #[]
  resolved := Array.replicate 8 none
  statics := none }

def pool4 : Array CpInfo := pool [(1, u "java/io/Serializable"), (0, .class_ 1), (0, u "java/lang/Object"), (0, .class_ 3)] 3

/-- java/io/Serializable -/
def k4 : Class := { plain "java/io/Serializable" (some 0) with
  accessFlags := 1537
  interfaces := #[]
  cf := some (fileOf pool4 2 #[] #[] 1537 4 #[] #[])
  fields := #[]
  methods := #[]
  instanceTypes := #[]
  staticTypes := #[]
  resolved := Array.replicate 8 none
  statics := none }

/-- the primitive byte -/
def k5 : Class := { plain "byte" none with kind := .primitive 'B', accessFlags := 0x411 }
/-- [B -/
def k6 : Class := { plain "[B" (some 0) with kind := .array 5 .byte, interfaces := #[3, 4], accessFlags := 1041 }

/-- the primitive int -/
def k7 : Class := { plain "int" none with kind := .primitive 'I', accessFlags := 0x411 }
/-- [I -/
def k8 : Class := { plain "[I" (some 0) with kind := .array 7 .int, interfaces := #[3, 4], accessFlags := 1041 }

def heap : Heap := #[]
def classes : Array Class := #[k0, k1, k2, k3, k4, k5, k6, k7, k8]
def interned : List (Array UInt16 × Addr) := []
def slotsUsed : Nat := 0
def theMethod : MethodId := ⟨1, 1⟩
def args0 : Array Value := #[.int 65, .long 1]
def aboutOver (below : List Frame) : State where
  vm := { classes := classes, interned := interned.toArray }
  heap := heap
  slotsUsed := slotsUsed
  threads := #[{ frames := .invoking theMethod args0 :: below }]
def below0 : List Frame := [.native { method := ⟨0, 0⟩, args := #[] }]
def about1 : State := aboutOver below0
def p0 : Program := .bare "" "" ""
def e0 : Env := launch0.env 0 0 0
theorem w_frames : about1.frames = Frame.invoking theMethod args0 :: below0 := rfl
set_option maxRecDepth 65536 in
theorem w_args : argsFit about1.vm theMethod args0 = true := by decide +kernel
set_option maxRecDepth 65536 in
theorem w_heap : heapFits about1 = true := by decide +kernel
set_option maxRecDepth 65536 in
theorem w_runnable : about1.curStatus? = some .runnable := by decide +kernel
set_option maxRecDepth 65536 in
theorem w_alone : about1.alone = true := by decide +kernel
set_option maxRecDepth 65536 in
theorem w_named : about1.methodNamed? x = some theMethod := by decide +kernel
set_option maxRecDepth 65536 in
theorem w_hears : about1.hears theMethod below0 = true := by decide +kernel
set_option maxRecDepth 65536 in
theorem w_ripe : about1.ripe theMethod args0 below0 = true := by decide +kernel
theorem w_running : about1.status = .running := rfl
set_option maxRecDepth 65536 in
theorem w_room : about1.hasRoom e0.platform room_1 = true :=
  launch0.hasRoom_least _ room_1 (by decide +kernel) (by decide +kernel) (by decide +kernel) (by decide +kernel) (by decide +kernel) (by decide +kernel)
theorem allAtoms_all (ts : List Jvm.Cond) (a : Array Jvm.Value) (st : Jvm.State) : (allAtoms ts).before a st = ts.all (fun c => c.before a st) := by
  induction ts with
  | nil => rfl
  | cons c t ih =>
    show (Jvm.Cond.and c (allAtoms t)).before a st = _
    rw [Jvm.Cond.before_and, ih, List.all_cons]
def words1 : List Jvm.Cond := Jvm.Cond.code x code maxLocals ret :: tables_1
/-- a 'code' word, met by the world's own term for the bytes: nothing is compared byte by byte -/
theorem code_word {y : MethodName} {bytes : ByteArray} {mx : Nat} {rt : Option FieldType} {a : Array Value} {s : State} {m : MethodId} {meth : Method} {c : Code} (h1 : s.methodNamed? y = some m) (h2 : s.vm.method? m = some meth) (h3 : meth.code = some c) (h4 : c.code = bytes)
    (h5 : (c.maxLocals == mx && c.exceptionTable.isEmpty && decide (c.maxStack ≤ mostOperands) && decide (meth.sig.returnType = rt) && !meth.locks && decide (parseMethodDescriptor y.desc = some meth.sig)) = true) : (Jvm.Cond.code y bytes mx rt).before a s = true := by
  simp only [Bool.and_eq_true, beq_iff_eq, Bool.not_eq_true', decide_eq_true_eq] at h5
  obtain ⟨⟨⟨⟨⟨g1, g2⟩, g3⟩, g4⟩, g5⟩, g6⟩ := h5
  simp [Cond.before, Cond.holds, Cond.value, h1, h2, h3, h4, g1, g2, g3, g4, g5, g6]
def isCode : Jvm.Cond → Bool
  | .code _ _ _ _ => true
  | _ => false
theorem all_split {L : List Jvm.Cond} {P : Jvm.Cond → Bool} (h1 : L.all (fun c => isCode c || P c) = true) (h2 : ∀ c ∈ L.filter isCode, P c = true) : L.all P = true := by
  refine List.all_eq_true.mpr fun c hc => ?_
  have h := List.all_eq_true.mp h1 c hc
  rcases Bool.eq_false_or_eq_true (isCode c) with hi | hi
  · exact h2 c (List.mem_filter.mpr ⟨hc, hi⟩)
  · simpa [hi] using h
set_option maxRecDepth 65536 in
theorem w_c0 : (Jvm.Cond.code x code maxLocals ret).before args0 about1 = true := code_word (m := ⟨1, 1⟩) (meth := k1m1) (c := k1c1) (by decide +kernel) rfl rfl rfl (by decide +kernel)
set_option maxRecDepth 65536 in
theorem w_c1 : (Jvm.Cond.code ({ cls := "com/example/excedent/excedent/io/EightBytes", name := "number", desc := "(J)J" } : Jvm.MethodName) prog_53_method_7_code (6 : Nat) (Option.some Jvm.ClassFile.FieldType.long)).before args0 about1 = true := code_word (m := ⟨2, 1⟩) (meth := k2m1) (c := k2c1) (by decide +kernel) rfl rfl rfl (by decide +kernel)
def codes1 : List Jvm.Cond := [Jvm.Cond.code x code maxLocals ret, Jvm.Cond.code ({ cls := "com/example/excedent/excedent/io/EightBytes", name := "number", desc := "(J)J" } : Jvm.MethodName) prog_53_method_7_code (6 : Nat) (Option.some Jvm.ClassFile.FieldType.long)]
set_option maxRecDepth 65536 in
theorem codes_eq : words1.filter isCode = codes1 := rfl
theorem w_codes : ∀ c ∈ words1.filter isCode, c.before args0 about1 = true := by
  rw [codes_eq]
  intro c hc
  simp only [codes1, List.mem_cons, List.not_mem_nil, or_false] at hc
  rcases hc with rfl | rfl
  · exact w_c0
  · exact w_c1
set_option maxRecDepth 65536 in
theorem w_t1 : words1.all (fun c => isCode c || c.before args0 about1) = true := by decide +kernel
theorem w_tables : (allAtoms (Jvm.Cond.code x code maxLocals ret :: tables_1)).before args0 about1 = true := by
  rw [allAtoms_all]
  show words1.all (fun c => c.before args0 about1) = true
  refine all_split ?_ w_codes
  rw [w_t1]
set_option maxRecDepth 65536 in
theorem w_case : (Jvm.Cond.and given_1 narrow_1).before args0 about1 = true := by decide +kernel
theorem w_applies : (headSpec (Jvm.Cond.code x code maxLocals ret :: tables_1) room_1).applies x e0.platform about1 = true :=
  (Spec.applies_iff w_frames).mpr ⟨w_running, w_runnable, w_alone, w_named, w_hears, w_ripe, w_room, w_tables⟩
theorem atStart : AtStart classFile x code maxLocals ret World_1 tables_1 room_1 Calls_1 rest_1 Pre_1 launch0 p0 e0 about1 theMethod args0 below0 :=
  ⟨lists_1, trivial, launch0.admits_env _ _ _, launch0.least_env, fairChoices_fair.cas, fairChoices_fair.clock, w_frames, w_args, w_heap, w_applies, trivial, trivial, w_case⟩
end start1
theorem witness_1 : WitnessClaimed_1 := ⟨start1.p0, start1.e0, start1.about1, start1.theMethod, start1.args0, start1.below0, start1.atStart⟩
end Jvm.Pilot.@@N@@
