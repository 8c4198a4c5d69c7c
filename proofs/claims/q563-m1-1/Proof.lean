import JvmDerived
import JvmDerived.Pilot.@@N@@Statement
import JvmDerived.Pilot.@@N@@Code
set_option linter.unusedVariables false
set_option linter.unusedSimpArgs false
namespace Jvm.RoadKit
theorem heq_of {T : State} {h : Heap} {a : Addr} {c : Cell} (e : T.heap = h) (q : h[a]? = some c) : T.heap[a]? = some c := by rw [e]; exact q
open Sem ClassFile Op Lib Jvm.Stand Jvm.Free Jvm.LawKit
section New
variable {p : Program} {l : Launch} {e : Env} {R : Room} {s : State} {m : MethodId} {args : Array Value} {below : List Frame} {meth : Method} {c : Code} {T : State} {locs : List Loc} {cells slots : Nat}
theorem retI (X : Stand p l e R s m args below meth c T locs cells slots) (hx : p.tables.exec = Jvm.exec) {pc : Nat} {Ls : Array Slot} {z : Int32} {rest : List Value} (hret : meth.sig.returnType = some .int) (hd : decode c.code pc = .ok (.ireturn, 1)) {fs : List Frame}
    (hl : ∀ (f : JFrame) (acts : List Action), f.method = m → f.locked = none → f.entered = [] → (doReturn e (T.setTop f) acts (some (.int z))).1 = T.setFrames fs) : Steps p.tables e below (T.setTop (mkF m pc Ls (.int z :: rest))) (T.setFrames fs) := by
  have hm' : T.vm.method? m = some meth := X.method'
  have hn : narrow .int (.int z) = .int z := rfl
  show Steps p.tables e below (T.setTop { method := m, pc := pc, locals := Ls, stack := _ :: rest, locked := none }) _
  jvm_step X.here [X.here.top, hx, hd, hm', hret, hn]
  first | (intro acts; rw [hl _ acts rfl rfl rfl]) | rw [hl _ _ rfl rfl rfl]
  exact Steps.refl _
end New
end Jvm.RoadKit
namespace Jvm.Pilot.@@N@@
open Jvm Jvm.ClassFile Sem Op Lib Jvm.Free Jvm.Stand Jvm.LawKit Jvm.RoadKit Bundle Jvm.Pilot.@@N@@.Jvm.D
theorem own_mask31 (a : Int32) : 0 ≤ (a &&& (2147483647 : Int32)).toInt ∧ (a &&& (2147483647 : Int32)).toInt < 2147483648 := by
  have h : (a &&& (2147483647 : Int32)).toBitVec = a.toBitVec &&& 2147483647#32 := rfl
  have e : (a &&& (2147483647 : Int32)).toInt = (a.toBitVec &&& 2147483647#32).toInt := by rw [← h]; rfl
  have hm : (a.toBitVec &&& 2147483647#32).toNat ≤ 2147483647 := by rw [BitVec.toNat_and]; exact Nat.and_le_right
  rw [e, BitVec.toInt_eq_toNat_of_lt (by omega)]
  omega
theorem own_rem (u s : Int32) (hu : 0 ≤ u.toInt) (hs : 0 < s.toInt) : 0 ≤ (u % s).toInt ∧ (u % s).toInt < s.toInt := by
  have : (u % s).toInt = u.toInt.tmod s.toInt := Int32.toInt_mod ..
  rw [this, Int.tmod_eq_emod_of_nonneg hu]
  exact ⟨Int.emod_nonneg _ (by omega), Int.emod_lt_of_pos _ hs⟩
theorem own_i32_add (x y : Int32) (h1 : -2147483648 ≤ x.toInt + y.toInt) (h2 : x.toInt + y.toInt < 2147483648) : (x + y).toInt = x.toInt + y.toInt := by
  rw [Int32.toInt_add, Int.bmod_eq_of_le (by omega) (by omega)]
theorem own_i32_sub (x y : Int32) (h1 : -2147483648 ≤ x.toInt - y.toInt) (h2 : x.toInt - y.toInt < 2147483648) : (x - y).toInt = x.toInt - y.toInt := by
  rw [Int32.toInt_sub, Int.bmod_eq_of_le (by omega) (by omega)]
theorem own_i64_add (x y : Int64) (h1 : -9223372036854775808 ≤ x.toInt + y.toInt) (h2 : x.toInt + y.toInt < 9223372036854775808) : (x + y).toInt = x.toInt + y.toInt := by
  rw [Int64.toInt_add, Int.bmod_eq_of_le (by omega) (by omega)]
theorem own_i64_sub (x y : Int64) (h1 : -9223372036854775808 ≤ x.toInt - y.toInt) (h2 : x.toInt - y.toInt < 9223372036854775808) : (x - y).toInt = x.toInt - y.toInt := by
  rw [Int64.toInt_sub, Int.bmod_eq_of_le (by omega) (by omega)]
theorem own_i64_mul (x y : Int64) (h1 : -9223372036854775808 ≤ x.toInt * y.toInt) (h2 : x.toInt * y.toInt < 9223372036854775808) : (x * y).toInt = x.toInt * y.toInt := by
  rw [Int64.toInt_mul, Int.bmod_eq_of_le (by omega) (by omega)]
theorem own_i2l (x : Int32) : x.toInt64.toInt = x.toInt := Int32.toInt_toInt64 x
theorem own_l2i (x : Int64) (h1 : -2147483648 ≤ x.toInt) (h2 : x.toInt < 2147483648) : x.toInt32.toInt = x.toInt := by
  rw [Int64.toInt_toInt32, Int.bmod_eq_of_le (by omega) (by omega)]
theorem own_rangeI (x : Int32) : -2147483648 ≤ x.toInt ∧ x.toInt < 2147483648 := by
  have h1 := Int32.le_toInt x; have h2 := Int32.toInt_lt x; omega
theorem own_rangeL (x : Int64) : -9223372036854775808 ≤ x.toInt ∧ x.toInt < 9223372036854775808 := by
  have h1 := Int64.le_toInt x; have h2 := Int64.toInt_lt x; omega
theorem own_mask63 (a : Int64) : 0 ≤ (a &&& (9223372036854775807 : Int64)).toInt ∧ (a &&& (9223372036854775807 : Int64)).toInt < 9223372036854775808 := by
  have h : (a &&& (9223372036854775807 : Int64)).toBitVec = a.toBitVec &&& 9223372036854775807#64 := rfl
  have e : (a &&& (9223372036854775807 : Int64)).toInt = (a.toBitVec &&& 9223372036854775807#64).toInt := by rw [← h]; rfl
  have hm : (a.toBitVec &&& 9223372036854775807#64).toNat ≤ 9223372036854775807 := by rw [BitVec.toNat_and]; exact Nat.and_le_right
  rw [e, BitVec.toInt_eq_toNat_of_lt (by omega)]
  omega
theorem own_remL (u s : Int64) (hu : 0 ≤ u.toInt) (hs : 0 < s.toInt) : 0 ≤ (u % s).toInt ∧ (u % s).toInt < s.toInt := by
  have : (u % s).toInt = u.toInt.tmod s.toInt := Int64.toInt_mod ..
  rw [this, Int.tmod_eq_emod_of_nonneg hu]
  exact ⟨Int.emod_nonneg _ (by omega), Int.emod_lt_of_pos _ hs⟩
def own_N (x : Int32) : Nat := x.toBitVec.toNat
theorem own_N_inj {x y : Int32} (h : own_N x = own_N y) : x = y := Int32.toBitVec_inj.1 (BitVec.eq_of_toNat_eq h)
theorem own_N_or (x y : Int32) : own_N (x ||| y) = own_N x ||| own_N y := BitVec.toNat_or _ _
theorem own_N_and (x y : Int32) : own_N (x &&& y) = own_N x &&& own_N y := BitVec.toNat_and _ _
theorem own_N_shr (x : Int32) (k : Int32) (n : Nat) (hk : (x >>> (k &&& 31)).toBitVec = x.toBitVec.sshiftRight n) (hx : own_N x < 2147483648) : own_N (x >>> (k &&& 31)) = own_N x / 2 ^ n := by
  unfold own_N at *
  rw [hk, BitVec.sshiftRight_eq_of_msb_false, BitVec.toNat_ushiftRight, Nat.shiftRight_eq_div_pow]
  rw [BitVec.msb_eq_decide]; simp; omega
theorem own_N_shl (x : Int32) (k : Int32) (n : Nat) (hk : (x <<< (k &&& 31)).toBitVec = x.toBitVec <<< n) (hx : own_N x * 2 ^ n < 4294967296) : own_N (x <<< (k &&& 31)) = own_N x * 2 ^ n := by
  unfold own_N at *
  rw [hk, BitVec.toNat_shiftLeft, Nat.shiftLeft_eq, Nat.mod_eq_of_lt hx]
theorem own_byte2 (x : Int32) : x.toInt8.toInt32.toInt8.toInt32 = x.toInt8.toInt32 := by
  have : x.toInt8.toInt32.toInt8 = x.toInt8 := Int8.toInt8_toInt32 _
  rw [this]
theorem own_N_byte (y : Int32) : own_N ((nar .byte (y.toInt8.toInt32)) &&& (255 : Int32)) = own_N y % 256 := by
  show own_N (y.toInt8.toInt32.toInt8.toInt32 &&& (255 : Int32)) = _
  rw [own_byte2, own_N_and]
  have e : own_N y.toInt8.toInt32 = ((y.toBitVec.signExtend 8).signExtend 32).toNat := rfl
  have t : own_N (255 : Int32) = 2 ^ 8 - 1 := rfl
  rw [t, Nat.and_two_pow_sub_one_eq_mod, e]
  have h1 : (((y.toBitVec.signExtend 8).signExtend 32).setWidth 8) = y.toBitVec.setWidth 8 := by
    apply BitVec.eq_of_getLsbD_eq
    intro i hi
    have h32 : i < 32 := by omega
    rw [BitVec.getLsbD_setWidth, BitVec.getLsbD_signExtend, BitVec.getLsbD_signExtend, BitVec.getLsbD_setWidth]
    simp [hi, h32]
  have h2 := congrArg BitVec.toNat h1
  rw [BitVec.toNat_setWidth, BitVec.toNat_setWidth] at h2
  exact h2
theorem own_or (k a b : Nat) (h : b < 2 ^ k) : (2 ^ k * a) ||| b = 2 ^ k * a + b := (Nat.two_pow_add_eq_or_of_lt h a).symm
theorem own_and (x k : Nat) : x &&& (2 ^ k - 1) = x % 2 ^ k := Nat.and_two_pow_sub_one_eq_mod x k
theorem own_q224 : ∀ q, q < 32 → (192 + q) &&& 224 = 192 := by decide
theorem own_q240 : ∀ q, q < 16 → (224 + q) &&& 240 = 224 := by decide
theorem own_q248 : ∀ q, q < 8 → (240 + q) &&& 248 = 240 := by decide
theorem own_q192 : ∀ q, q < 64 → (128 + q) &&& 192 = 128 := by decide
theorem own_N_of (z : Int32) (n : Nat) (h : z.toInt = n) : own_N z = n := by
  have := z.toBitVec.isLt
  have e : z.toInt = z.toBitVec.toInt := rfl
  unfold own_N
  rw [e, BitVec.toInt_eq_toNat_cond] at h
  split at h <;> omega
theorem own_or' (k a b c : Nat) (hc : c = 2 ^ k * a) (h : b < 2 ^ k) : c ||| b = c + b := by rw [hc]; exact own_or k a b h
theorem own_and' (x k c : Nat) (hc : c = 2 ^ k - 1) : x &&& c = x % 2 ^ k := by rw [hc]; exact own_and x k
theorem own_two (z b0 b1 : Int32) (h1 : own_N z < 2048)
    (hb0 : b0 = ((nar .byte (((192 : Int32) ||| (z >>> ((6 : Int32) &&& 31))).toInt8.toInt32)) &&& (255 : Int32)))
    (hb1 : b1 = ((nar .byte (((128 : Int32) ||| (z &&& (63 : Int32))).toInt8.toInt32)) &&& (255 : Int32))) :
    (b0 &&& (224 : Int32)) = (192 : Int32) ∧ (b1 &&& (192 : Int32)) = (128 : Int32) ∧ (((b0 &&& (31 : Int32)) <<< ((6 : Int32) &&& 31)) ||| (b1 &&& (63 : Int32))) = z := by
  have e0 : own_N b0 = 192 + own_N z / 64 := by
    rw [hb0, own_N_byte, own_N_or, own_N_shr z 6 6 rfl (by omega)]
    have t : own_N (192 : Int32) = 192 := rfl
    rw [t, own_or' 6 3 _ 192 rfl (by omega)]; omega
  have e1 : own_N b1 = 128 + own_N z % 64 := by
    rw [hb1, own_N_byte, own_N_or, own_N_and]
    have t : own_N (128 : Int32) = 128 := rfl
    have t2 : own_N (63 : Int32) = 63 := rfl
    rw [t, t2, own_and' _ 6 63 rfl, own_or' 6 2 _ 128 rfl (by omega)]; omega
  refine ⟨own_N_inj ?_, own_N_inj ?_, own_N_inj ?_⟩
  · rw [own_N_and, e0]; exact own_q224 _ (by omega)
  · rw [own_N_and, e1]; exact own_q192 _ (by omega)
  · have t31 : own_N (31 : Int32) = 31 := rfl
    have t63 : own_N (63 : Int32) = 63 := rfl
    have e2 : own_N (b0 &&& (31 : Int32)) = own_N z / 64 := by rw [own_N_and, e0, t31, own_and' _ 5 31 rfl]; omega
    have e3 : own_N (b1 &&& (63 : Int32)) = own_N z % 64 := by rw [own_N_and, e1, t63, own_and' _ 6 63 rfl]; omega
    rw [own_N_or, own_N_shl _ 6 6 rfl (by rw [e2]; omega), e2, e3, own_or' 6 (own_N z / 64) _ _ (Nat.mul_comm _ _) (by omega)]; omega
theorem own_three (z b0 b1 b2 : Int32) (h1 : own_N z < 65536)
    (hb0 : b0 = ((nar .byte (((224 : Int32) ||| (z >>> ((12 : Int32) &&& 31))).toInt8.toInt32)) &&& (255 : Int32)))
    (hb1 : b1 = ((nar .byte (((128 : Int32) ||| ((z >>> ((6 : Int32) &&& 31)) &&& (63 : Int32))).toInt8.toInt32)) &&& (255 : Int32)))
    (hb2 : b2 = ((nar .byte (((128 : Int32) ||| (z &&& (63 : Int32))).toInt8.toInt32)) &&& (255 : Int32))) :
    (b0 &&& (240 : Int32)) = (224 : Int32) ∧ (b1 &&& (192 : Int32)) = (128 : Int32) ∧ (b2 &&& (192 : Int32)) = (128 : Int32) ∧ ((((b0 &&& (15 : Int32)) <<< ((12 : Int32) &&& 31)) ||| ((b1 &&& (63 : Int32)) <<< ((6 : Int32) &&& 31))) ||| (b2 &&& (63 : Int32))) = z := by
  have t128 : own_N (128 : Int32) = 128 := rfl
  have t63 : own_N (63 : Int32) = 63 := rfl
  have e0 : own_N b0 = 224 + own_N z / 4096 := by
    rw [hb0, own_N_byte, own_N_or, own_N_shr z 12 12 rfl (by omega)]
    have t : own_N (224 : Int32) = 224 := rfl
    rw [t, own_or' 4 14 _ 224 rfl (by omega)]; omega
  have e1 : own_N b1 = 128 + (own_N z / 64) % 64 := by
    rw [hb1, own_N_byte, own_N_or, own_N_and, own_N_shr z 6 6 rfl (by omega), t128, t63, own_and' _ 6 63 rfl, own_or' 6 2 _ 128 rfl (by omega)]; omega
  have e2 : own_N b2 = 128 + own_N z % 64 := by
    rw [hb2, own_N_byte, own_N_or, own_N_and, t128, t63, own_and' _ 6 63 rfl, own_or' 6 2 _ 128 rfl (by omega)]; omega
  refine ⟨own_N_inj ?_, own_N_inj ?_, own_N_inj ?_, own_N_inj ?_⟩
  · rw [own_N_and, e0]; exact own_q240 _ (by omega)
  · rw [own_N_and, e1]; exact own_q192 _ (by omega)
  · rw [own_N_and, e2]; exact own_q192 _ (by omega)
  · have t15 : own_N (15 : Int32) = 15 := rfl
    have f0 : own_N (b0 &&& (15 : Int32)) = own_N z / 4096 := by rw [own_N_and, e0, t15, own_and' _ 4 15 rfl]; omega
    have f1 : own_N (b1 &&& (63 : Int32)) = (own_N z / 64) % 64 := by rw [own_N_and, e1, t63, own_and' _ 6 63 rfl]; omega
    have f2 : own_N (b2 &&& (63 : Int32)) = own_N z % 64 := by rw [own_N_and, e2, t63, own_and' _ 6 63 rfl]; omega
    rw [own_N_or, own_N_or, own_N_shl _ 12 12 rfl (by rw [f0]; omega), own_N_shl _ 6 6 rfl (by rw [f1]; omega), f0, f1, f2, own_or' 12 (own_N z / 4096) _ _ (Nat.mul_comm _ _) (by omega), own_or' 6 (own_N z / 64) _ _ (by omega) (by omega)]; omega
theorem own_four (z b0 b1 b2 b3 : Int32) (h1 : own_N z < 2097152)
    (hb0 : b0 = ((nar .byte (((240 : Int32) ||| (z >>> ((18 : Int32) &&& 31))).toInt8.toInt32)) &&& (255 : Int32)))
    (hb1 : b1 = ((nar .byte (((128 : Int32) ||| ((z >>> ((12 : Int32) &&& 31)) &&& (63 : Int32))).toInt8.toInt32)) &&& (255 : Int32)))
    (hb2 : b2 = ((nar .byte (((128 : Int32) ||| ((z >>> ((6 : Int32) &&& 31)) &&& (63 : Int32))).toInt8.toInt32)) &&& (255 : Int32)))
    (hb3 : b3 = ((nar .byte (((128 : Int32) ||| (z &&& (63 : Int32))).toInt8.toInt32)) &&& (255 : Int32))) :
    (b0 &&& (248 : Int32)) = (240 : Int32) ∧ (b1 &&& (192 : Int32)) = (128 : Int32) ∧ (b2 &&& (192 : Int32)) = (128 : Int32) ∧ (b3 &&& (192 : Int32)) = (128 : Int32) ∧ (((((b0 &&& (7 : Int32)) <<< ((18 : Int32) &&& 31)) ||| ((b1 &&& (63 : Int32)) <<< ((12 : Int32) &&& 31))) ||| ((b2 &&& (63 : Int32)) <<< ((6 : Int32) &&& 31))) ||| (b3 &&& (63 : Int32))) = z := by
  have t128 : own_N (128 : Int32) = 128 := rfl
  have t63 : own_N (63 : Int32) = 63 := rfl
  have e0 : own_N b0 = 240 + own_N z / 262144 := by
    rw [hb0, own_N_byte, own_N_or, own_N_shr z 18 18 rfl (by omega)]
    have t : own_N (240 : Int32) = 240 := rfl
    rw [t, own_or' 3 30 _ 240 rfl (by omega)]; omega
  have e1 : own_N b1 = 128 + (own_N z / 4096) % 64 := by
    rw [hb1, own_N_byte, own_N_or, own_N_and, own_N_shr z 12 12 rfl (by omega), t128, t63, own_and' _ 6 63 rfl, own_or' 6 2 _ 128 rfl (by omega)]; omega
  have e2 : own_N b2 = 128 + (own_N z / 64) % 64 := by
    rw [hb2, own_N_byte, own_N_or, own_N_and, own_N_shr z 6 6 rfl (by omega), t128, t63, own_and' _ 6 63 rfl, own_or' 6 2 _ 128 rfl (by omega)]; omega
  have e3 : own_N b3 = 128 + own_N z % 64 := by
    rw [hb3, own_N_byte, own_N_or, own_N_and, t128, t63, own_and' _ 6 63 rfl, own_or' 6 2 _ 128 rfl (by omega)]; omega
  refine ⟨own_N_inj ?_, own_N_inj ?_, own_N_inj ?_, own_N_inj ?_, own_N_inj ?_⟩
  · rw [own_N_and, e0]; exact own_q248 _ (by omega)
  · rw [own_N_and, e1]; exact own_q192 _ (by omega)
  · rw [own_N_and, e2]; exact own_q192 _ (by omega)
  · rw [own_N_and, e3]; exact own_q192 _ (by omega)
  · have t7 : own_N (7 : Int32) = 7 := rfl
    have f0 : own_N (b0 &&& (7 : Int32)) = own_N z / 262144 := by rw [own_N_and, e0, t7, own_and' _ 3 7 rfl]; omega
    have f1 : own_N (b1 &&& (63 : Int32)) = (own_N z / 4096) % 64 := by rw [own_N_and, e1, t63, own_and' _ 6 63 rfl]; omega
    have f2 : own_N (b2 &&& (63 : Int32)) = (own_N z / 64) % 64 := by rw [own_N_and, e2, t63, own_and' _ 6 63 rfl]; omega
    have f3 : own_N (b3 &&& (63 : Int32)) = own_N z % 64 := by rw [own_N_and, e3, t63, own_and' _ 6 63 rfl]; omega
    rw [own_N_or, own_N_or, own_N_or, own_N_shl _ 18 18 rfl (by rw [f0]; omega), own_N_shl _ 12 12 rfl (by rw [f1]; omega), own_N_shl _ 6 6 rfl (by rw [f2]; omega), f0, f1, f2, f3]
    have d1 : own_N z / 64 / 64 = own_N z / 4096 := Nat.div_div_eq_div_mul _ _ _
    have d2 : own_N z / 4096 / 64 = own_N z / 262144 := Nat.div_div_eq_div_mul _ _ _
    have z1 := Nat.div_add_mod (own_N z) 64
    have z2 := Nat.div_add_mod (own_N z / 64) 64
    have z3 := Nat.div_add_mod (own_N z / 4096) 64
    have m1 := Nat.mod_lt (own_N z) (show 0 < 64 by decide)
    have m2 := Nat.mod_lt (own_N z / 64) (show 0 < 64 by decide)
    have m3 := Nat.mod_lt (own_N z / 4096) (show 0 < 64 by decide)
    rw [d1] at z2
    rw [d2] at z3
    generalize own_N z / 262144 = A at *
    generalize own_N z / 4096 % 64 = B at *
    generalize own_N z / 64 % 64 = C at *
    generalize own_N z % 64 = D at *
    rw [own_or' 18 A (B * 2 ^ 12) (A * 2 ^ 18) (Nat.mul_comm _ _) (by omega), own_or' 12 (A * 64 + B) (C * 2 ^ 6) (A * 2 ^ 18 + B * 2 ^ 12) (by omega) (by omega), own_or' 6 ((A * 64 + B) * 64 + C) _ _ (by omega) (by omega)]
    omega
theorem own_onebyte (z b0 : Int32) (h1 : own_N z < 128) (hb0 : b0 = ((nar .byte (z.toInt8.toInt32)) &&& (255 : Int32))) : b0 = z := by
  apply own_N_inj
  rw [hb0, own_N_byte]; omega
theorem own_m3 (k : Int32) : (k &&& (3 : Int32)) = 0 ∨ (k &&& (3 : Int32)) = 1 ∨ (k &&& (3 : Int32)) = 2 ∨ (k &&& (3 : Int32)) = 3 := by
  have hm : own_N (k &&& (3 : Int32)) ≤ 3 := by rw [own_N_and]; exact Nat.and_le_right
  have hc : own_N (k &&& (3 : Int32)) = 0 ∨ own_N (k &&& (3 : Int32)) = 1 ∨ own_N (k &&& (3 : Int32)) = 2 ∨ own_N (k &&& (3 : Int32)) = 3 := by omega
  rcases hc with hc | hc | hc | hc
  · exact Or.inl (own_N_inj hc)
  · exact Or.inr (Or.inl (own_N_inj hc))
  · exact Or.inr (Or.inr (Or.inl (own_N_inj hc)))
  · exact Or.inr (Or.inr (Or.inr (own_N_inj hc)))
theorem own_toInt (z : Int32) (h : own_N z < 2147483648) : z.toInt = own_N z := by
  have e : z.toInt = z.toBitVec.toInt := rfl
  rw [e, BitVec.toInt_eq_toNat_of_lt (by unfold own_N at h; omega)]; rfl
theorem own_nat (z : Int32) (h : 0 ≤ z.toInt) : (own_N z : Int) = z.toInt := by
  have r := own_rangeI z
  have := own_N_of z z.toInt.toNat (by omega)
  omega
theorem own_cp0 (u : Int32) : own_N (u &&& (127 : Int32)) < 128 := by
  have t : own_N (127 : Int32) = 127 := rfl
  have hm : own_N (u &&& (127 : Int32)) ≤ 127 := by rw [own_N_and, t]; exact Nat.and_le_right
  omega
theorem own_addrem (k c d : Int32) (D E : Int) (hd : d.toInt = D) (hc : c.toInt = E) (h0 : 0 < D) (h1 : 0 ≤ E) (h2 : E + D ≤ 2147483647) : E ≤ (c + ((k &&& (2147483647 : Int32)) % d)).toInt ∧ (c + ((k &&& (2147483647 : Int32)) % d)).toInt < E + D := by
  have g1 := own_mask31 k
  have g2 := own_rem (k &&& (2147483647 : Int32)) d g1.1 (by omega)
  rw [own_i32_add _ _ (by omega) (by omega)]
  omega
theorem own_lt_of (z c : Int32) (C : Int) (hc : c.toInt = C) (h : z.toInt < C) : z < c := by rw [Int32.lt_iff_toInt_lt, hc]; exact h
theorem own_ge_of (z c : Int32) (C : Int) (hc : c.toInt = C) (h : C ≤ z.toInt) : ¬ (z < c) := by rw [Int32.lt_iff_toInt_lt, hc]; omega
theorem own_surr (z : Int32) (h1 : 2048 ≤ z.toInt) (h2 : z.toInt < 65536) : 2048 ≤ (if z < (55296 : Int32) then z else (if (57343 : Int32) < z then z else ((z - (55296 : Int32)) + (57344 : Int32)))).toInt ∧ (if z < (55296 : Int32) then z else (if (57343 : Int32) < z then z else ((z - (55296 : Int32)) + (57344 : Int32)))).toInt < 65536 := by
  have t1 : (55296 : Int32).toInt = 55296 := rfl
  have t2 : (57343 : Int32).toInt = 57343 := rfl
  have t3 : (57344 : Int32).toInt = 57344 := rfl
  split
  · exact ⟨h1, h2⟩
  · rename_i c1
    split
    · exact ⟨h1, h2⟩
    · rename_i c2
      rw [Int32.lt_iff_toInt_lt] at c1 c2
      have e1 : (z - (55296 : Int32)).toInt = z.toInt - 55296 := by rw [own_i32_sub _ _ (by omega) (by omega), t1]
      rw [own_i32_add _ _ (by omega) (by omega)]
      omega
theorem d1_0 : decode prog_47_method_6_code 0 = .ok (.iload_n 0, 1) := by decide +kernel
theorem d1_1 : decode prog_47_method_6_code 1 = .ok (.sipush 128, 3) := by decide +kernel
theorem d1_4 : decode prog_47_method_6_code 4 = .ok (.if_icmp .ge 13, 3) := by decide +kernel
theorem d1_7 : decode prog_47_method_6_code 7 = .ok (.aload_n 1, 1) := by decide +kernel
theorem d1_8 : decode prog_47_method_6_code 8 = .ok (.iconst 0, 1) := by decide +kernel
theorem d1_9 : decode prog_47_method_6_code 9 = .ok (.iload_n 0, 1) := by decide +kernel
theorem d1_10 : decode prog_47_method_6_code 10 = .ok (.i2b, 1) := by decide +kernel
theorem d1_11 : decode prog_47_method_6_code 11 = .ok (.bastore, 1) := by decide +kernel
theorem d1_12 : decode prog_47_method_6_code 12 = .ok (.iconst 1, 1) := by decide +kernel
theorem d1_13 : decode prog_47_method_6_code 13 = .ok (.istore_n 2, 1) := by decide +kernel
theorem d1_14 : decode prog_47_method_6_code 14 = .ok (.goto 145, 3) := by decide +kernel
theorem d1_159 : decode prog_47_method_6_code 159 = .ok (.iload_n 2, 1) := by decide +kernel
theorem d1_160 : decode prog_47_method_6_code 160 = .ok (.ireturn, 1) := by decide +kernel
theorem pn_1 : plainName "com/example/marcotte/marcotte/XmlCharacters" = true := by first | (simp [plainName, overriddenIn]; done) | decide +kernel
theorem ef_1 (m : MethodId) (x0 : Int32) (x1 : Addr) : entryFrame m #[(.int x0), (.ref x1)] 3 = mkF m 0 #[.val (.int x0), .val (.ref x1), .unset] [] := by first | (simp [entryFrame, mkF, argsToLocals, Value.category]; done) | rfl
def Q1 (Z : State) (z : Int32) (ar : Addr) (ka : ClassId) (w0 : Int32) (w1 : Int32) (w2 : Int32) (w3 : Int32) (h0 : Heap) (n0 : Nat) (v : Option Value) (h : Heap) (L : List Loc) : Prop := v = some (.int (1 : Int32)) ∧ Fr n0 L ∧ Keep h0 h [ar] ∧ Arv Z h ar ka .byte (4 : Int32) [(.int (nar .byte (z.toInt8.toInt32))), (.int w1), (.int w2), (.int w3)] (.int (0 : Int32))
set_option maxRecDepth 65536 in
set_option maxHeartbeats 40000000 in
theorem rm1 (l : Launch) (Z : State) (a0 : Array Value) (hw : ∀ d ∈ tables_1, d.before a0 Z = true) (ws : List Jvm.Cond) (z : Int32) (ar : Addr) (ka : ClassId) (w0 : Int32) (w1 : Int32) (w2 : Int32) (w3 : Int32) (h0 : Heap) (n0 : Nat) (Z0 : n0 ≤ h0.size) (I0 : Arv Z h0 ar ka .byte (4 : Int32) [(.int w0), (.int w1), (.int w2), (.int w3)] (.int (0 : Int32))) (g_ar : n0 ≤ ar) (h1 : z < (128 : Int32)) :
    MetFree l (⟨"com/example/marcotte/marcotte/XmlCharacters", "writeUtf8", "(I[B)I"⟩ : MethodName) (head1 (Jvm.Cond.code (⟨"com/example/marcotte/marcotte/XmlCharacters", "writeUtf8", "(I[B)I"⟩ : MethodName) prog_47_method_6_code 3 (some .int) :: ws) ({ frames := 0, cells := 0, slots := 0, locals := 0 } : Room)) (fun a U => a = #[(.int z), (.ref ar)] ∧ Z.Warmed39 U.vm ∧ U.heap = h0) (fun _ _ _ _ _ => True) (fun _ U o U' => ∃ v L, o = .returned v ∧ Q1 Z z ar ka w0 w1 w2 w3 h0 n0 v U'.heap L ∧ FrameEnd U o U' L ({ frames := 0, cells := 0, slots := 0, locals := 0 } : Room).cells ({ frames := 0, cells := 0, slots := 0, locals := 0 } : Room).slots) := by
  refine MetFree.of_bodySF (plainFor_of_name pn_1) hisR ?_
  intro p e s m args below meth c s₁ Bd hml0 hP hK
  obtain ⟨rfl, hZ, hh⟩ := hP
  have hx := Bd.exec
  have hby := Bd.bytes
  have hml : c.maxLocals = 3 := hml0
  have hown : s.vm.findClass "com/example/marcotte/marcotte/XmlCharacters" = some m.cls := findClass_of_methodNamed Bd.named
  have hnm := (name_of_methodNamed Bd.named Bd.method).1
  have X0 : Stand p l e ({ frames := 0, cells := 0, slots := 0, locals := 0 } : Room) s m #[(.int z), (.ref ar)] below meth c s₁ [] 0 0 := Stand.of_body Bd
  have e0 : s₁.heap = h0 := by rw [← hh, Bd.state]; rfl
  have N0 := Fr.nil n0
  have K0 : Keep h0 h0 [ar] := Keep.refl h0 _
  have pre0 : ∀ tq, Steps p.tables e below (s₁.setTop (mkF m 0 #[.val (.int z), .val (.ref ar), .unset] [])) tq → Steps p.tables e below (s₁.setTop (entryFrame m #[(.int z), (.ref ar)] 3)) tq := fun tq kq => castTop (ef_1 m z ar) kq
  obtain ⟨cl1, Ar1, q1, S1, M1, H1, G1⟩ := id I0
  have hin1 : ¬ ((0 : Int32) < 0 ∨ cl1.slots.size ≤ ((0 : Int32)).toNatClampNeg) := inb_of S1 ⟨by decide, by decide⟩
  obtain ⟨T1, hX1, X1, e1, W1, st1⟩ := stB X0 hx hZ e0 Ar1 (j := (0 : Int32)) hin1 (g := (mkF m 11 #[.val (.int z), .val (.ref ar), .unset] [(.int (z.toInt8.toInt32)), (.int (0 : Int32)), (.ref ar)])) rfl rfl (hb hby d1_11)
  have F2 : Arv Z hX1 ar ka .byte (4 : Int32) [(.int (nar .byte (z.toInt8.toInt32))), (.int w1), (.int w2), (.int w3)] (.int (0 : Int32)) := Arv.set Ar1 q1 S1 M1 H1 G1 (fits_nar_byte _) W1 0 rfl (Nat.le_of_ble_eq_true rfl)
  have N1 := Fr.snoc X1 N0 g_ar
  have Z3 : n0 ≤ hX1.size := Nat.le_trans Z0 (Keep.of_wr W1).1
  have K4 : Keep h0 hX1 [ar] := K0.wr W1 (Or.inl (List.mem_of_getElem? (i := 0) rfl))
  obtain ⟨fs, hr, hrun, hended, hW, hsame⟩ := X1.leave (v := some (Value.int (1 : Int32))) (fun h => by rw [Bd.returns] at h; cases h)
  refine ⟨_, _, pre0 _ ?_, hrun, hended, _, _, rfl, ?_, ⟨_, rfl⟩, hW, hsame.mono (by decide) (by decide)⟩
  · skip
    show Steps p.tables e below (s₁.setTop (mkF m 0 #[.val (.int z), .val (.ref ar), .unset] [])) _
    refine XS.iloadN X0.here hx rfl (hb hby d1_0) rfl ?_
    show Steps p.tables e below (s₁.setTop (mkF m 1 #[.val (.int z), .val (.ref ar), .unset] [(.int z)])) _
    refine XS.sipush X0.here hx rfl (hb hby d1_1) ?_
    show Steps p.tables e below (s₁.setTop (mkF m 4 #[.val (.int z), .val (.ref ar), .unset] [(.int (128 : Int32)), (.int z)])) _
    refine XS.icmpNo X0.here hx rfl (hb hby d1_4) rfl (tlt h1).2.1 ?_
    show Steps p.tables e below (s₁.setTop (mkF m 7 #[.val (.int z), .val (.ref ar), .unset] [])) _
    refine XS.aloadN X0.here hx rfl (hb hby d1_7) rfl rfl ?_
    show Steps p.tables e below (s₁.setTop (mkF m 8 #[.val (.int z), .val (.ref ar), .unset] [(.ref ar)])) _
    refine XS.iconst X0.here hx rfl (hb hby d1_8) ?_
    show Steps p.tables e below (s₁.setTop (mkF m 9 #[.val (.int z), .val (.ref ar), .unset] [(.int (0 : Int32)), (.ref ar)])) _
    refine XS.iloadN X0.here hx rfl (hb hby d1_9) rfl ?_
    show Steps p.tables e below (s₁.setTop (mkF m 10 #[.val (.int z), .val (.ref ar), .unset] [(.int z), (.int (0 : Int32)), (.ref ar)])) _
    refine XS.i2b X0.here hx rfl (hb hby d1_10) rfl ?_
    show Steps p.tables e below (s₁.setTop (mkF m 11 #[.val (.int z), .val (.ref ar), .unset] [(.int (z.toInt8.toInt32)), (.int (0 : Int32)), (.ref ar)])) _
    refine st1 _ ?_
    show Steps p.tables e below (T1.setTop (mkF m 12 #[.val (.int z), .val (.ref ar), .unset] [])) _
    refine XS.iconst X1.here hx rfl (hb hby d1_12) ?_
    show Steps p.tables e below (T1.setTop (mkF m 13 #[.val (.int z), .val (.ref ar), .unset] [(.int (1 : Int32))])) _
    refine XS.istoreN X1.here hx rfl (hb hby d1_13) rfl (l' := #[.val (.int z), .val (.ref ar), .val (.int (1 : Int32))]) rfl ?_
    show Steps p.tables e below (T1.setTop (mkF m 14 #[.val (.int z), .val (.ref ar), .val (.int (1 : Int32))] [])) _
    refine XS.goto X1.here hx rfl (pc0 := 14) (pc' := 159) rfl (hb hby d1_14) (by decide) (by decide) ?_
    show Steps p.tables e below (T1.setTop (mkF m 159 #[.val (.int z), .val (.ref ar), .val (.int (1 : Int32))] [])) _
    refine XS.iloadN X1.here hx rfl (hb hby d1_159) rfl ?_
    show Steps p.tables e below (T1.setTop (mkF m 160 #[.val (.int z), .val (.ref ar), .val (.int (1 : Int32))] [(.int (1 : Int32))])) _
    exact retI X1 hx Bd.returns (hb hby d1_160) hr
  · show Q1 Z z ar ka w0 w1 w2 w3 h0 n0 _ T1.heap _
    rw [e1]
    exact ⟨rfl, N1, K4, F2⟩
theorem d1_17 : decode prog_47_method_6_code 17 = .ok (.iload_n 0, 1) := by decide +kernel
theorem d1_18 : decode prog_47_method_6_code 18 = .ok (.sipush 2048, 3) := by decide +kernel
theorem d1_21 : decode prog_47_method_6_code 21 = .ok (.if_icmp .ge 32, 3) := by decide +kernel
theorem d1_24 : decode prog_47_method_6_code 24 = .ok (.aload_n 1, 1) := by decide +kernel
theorem d1_25 : decode prog_47_method_6_code 25 = .ok (.iconst 0, 1) := by decide +kernel
theorem d1_26 : decode prog_47_method_6_code 26 = .ok (.sipush 192, 3) := by decide +kernel
theorem d1_29 : decode prog_47_method_6_code 29 = .ok (.iload_n 0, 1) := by decide +kernel
theorem d1_30 : decode prog_47_method_6_code 30 = .ok (.bipush 6, 2) := by decide +kernel
theorem d1_32 : decode prog_47_method_6_code 32 = .ok (.ishr, 1) := by decide +kernel
theorem d1_33 : decode prog_47_method_6_code 33 = .ok (.ior, 1) := by decide +kernel
theorem d1_34 : decode prog_47_method_6_code 34 = .ok (.i2b, 1) := by decide +kernel
theorem d1_35 : decode prog_47_method_6_code 35 = .ok (.bastore, 1) := by decide +kernel
theorem d1_36 : decode prog_47_method_6_code 36 = .ok (.aload_n 1, 1) := by decide +kernel
theorem d1_37 : decode prog_47_method_6_code 37 = .ok (.iconst 1, 1) := by decide +kernel
theorem d1_38 : decode prog_47_method_6_code 38 = .ok (.sipush 128, 3) := by decide +kernel
theorem d1_41 : decode prog_47_method_6_code 41 = .ok (.iload_n 0, 1) := by decide +kernel
theorem d1_42 : decode prog_47_method_6_code 42 = .ok (.bipush 63, 2) := by decide +kernel
theorem d1_44 : decode prog_47_method_6_code 44 = .ok (.iand, 1) := by decide +kernel
theorem d1_45 : decode prog_47_method_6_code 45 = .ok (.ior, 1) := by decide +kernel
theorem d1_46 : decode prog_47_method_6_code 46 = .ok (.i2b, 1) := by decide +kernel
theorem d1_47 : decode prog_47_method_6_code 47 = .ok (.bastore, 1) := by decide +kernel
theorem d1_48 : decode prog_47_method_6_code 48 = .ok (.iconst 2, 1) := by decide +kernel
theorem d1_49 : decode prog_47_method_6_code 49 = .ok (.istore_n 2, 1) := by decide +kernel
theorem d1_50 : decode prog_47_method_6_code 50 = .ok (.goto 109, 3) := by decide +kernel
theorem ef_1_1 (m : MethodId) (x0 : Int32) (x1 : Addr) : entryFrame m #[(.int x0), (.ref x1)] 3 = mkF m 0 #[.val (.int x0), .val (.ref x1), .unset] [] := by first | (simp [entryFrame, mkF, argsToLocals, Value.category]; done) | rfl
def Q1_1 (Z : State) (z : Int32) (ar : Addr) (ka : ClassId) (w0 : Int32) (w1 : Int32) (w2 : Int32) (w3 : Int32) (h0 : Heap) (n0 : Nat) (v : Option Value) (h : Heap) (L : List Loc) : Prop := v = some (.int (2 : Int32)) ∧ Fr n0 L ∧ Keep h0 h [ar] ∧ Arv Z h ar ka .byte (4 : Int32) [(.int (nar .byte (((192 : Int32) ||| (z >>> ((6 : Int32) &&& 31))).toInt8.toInt32))), (.int (nar .byte (((128 : Int32) ||| (z &&& (63 : Int32))).toInt8.toInt32))), (.int w2), (.int w3)] (.int (0 : Int32))
set_option maxRecDepth 65536 in
set_option maxHeartbeats 40000000 in
theorem rm1_1 (l : Launch) (Z : State) (a0 : Array Value) (hw : ∀ d ∈ tables_1, d.before a0 Z = true) (ws : List Jvm.Cond) (z : Int32) (ar : Addr) (ka : ClassId) (w0 : Int32) (w1 : Int32) (w2 : Int32) (w3 : Int32) (h0 : Heap) (n0 : Nat) (Z0 : n0 ≤ h0.size) (I0 : Arv Z h0 ar ka .byte (4 : Int32) [(.int w0), (.int w1), (.int w2), (.int w3)] (.int (0 : Int32))) (g_ar : n0 ≤ ar) (h1 : ¬ (z < (128 : Int32))) (h2 : z < (2048 : Int32)) :
    MetFree l (⟨"com/example/marcotte/marcotte/XmlCharacters", "writeUtf8", "(I[B)I"⟩ : MethodName) (head1 (Jvm.Cond.code (⟨"com/example/marcotte/marcotte/XmlCharacters", "writeUtf8", "(I[B)I"⟩ : MethodName) prog_47_method_6_code 3 (some .int) :: ws) ({ frames := 0, cells := 0, slots := 0, locals := 0 } : Room)) (fun a U => a = #[(.int z), (.ref ar)] ∧ Z.Warmed39 U.vm ∧ U.heap = h0) (fun _ _ _ _ _ => True) (fun _ U o U' => ∃ v L, o = .returned v ∧ Q1_1 Z z ar ka w0 w1 w2 w3 h0 n0 v U'.heap L ∧ FrameEnd U o U' L ({ frames := 0, cells := 0, slots := 0, locals := 0 } : Room).cells ({ frames := 0, cells := 0, slots := 0, locals := 0 } : Room).slots) := by
  refine MetFree.of_bodySF (plainFor_of_name pn_1) hisR ?_
  intro p e s m args below meth c s₁ Bd hml0 hP hK
  obtain ⟨rfl, hZ, hh⟩ := hP
  have hx := Bd.exec
  have hby := Bd.bytes
  have hml : c.maxLocals = 3 := hml0
  have hown : s.vm.findClass "com/example/marcotte/marcotte/XmlCharacters" = some m.cls := findClass_of_methodNamed Bd.named
  have hnm := (name_of_methodNamed Bd.named Bd.method).1
  have X0 : Stand p l e ({ frames := 0, cells := 0, slots := 0, locals := 0 } : Room) s m #[(.int z), (.ref ar)] below meth c s₁ [] 0 0 := Stand.of_body Bd
  have e0 : s₁.heap = h0 := by rw [← hh, Bd.state]; rfl
  have N0 := Fr.nil n0
  have K0 : Keep h0 h0 [ar] := Keep.refl h0 _
  have pre0 : ∀ tq, Steps p.tables e below (s₁.setTop (mkF m 0 #[.val (.int z), .val (.ref ar), .unset] [])) tq → Steps p.tables e below (s₁.setTop (entryFrame m #[(.int z), (.ref ar)] 3)) tq := fun tq kq => castTop (ef_1_1 m z ar) kq
  obtain ⟨cl1, Ar1, q1, S1, M1, H1, G1⟩ := id I0
  have hin1 : ¬ ((0 : Int32) < 0 ∨ cl1.slots.size ≤ ((0 : Int32)).toNatClampNeg) := inb_of S1 ⟨by decide, by decide⟩
  obtain ⟨T1, hX1, X1, e1, W1, st1⟩ := stB X0 hx hZ e0 Ar1 (j := (0 : Int32)) hin1 (g := (mkF m 35 #[.val (.int z), .val (.ref ar), .unset] [(.int (((192 : Int32) ||| (z >>> ((6 : Int32) &&& 31))).toInt8.toInt32)), (.int (0 : Int32)), (.ref ar)])) rfl rfl (hb hby d1_35)
  have F2 : Arv Z hX1 ar ka .byte (4 : Int32) [(.int (nar .byte (((192 : Int32) ||| (z >>> ((6 : Int32) &&& 31))).toInt8.toInt32))), (.int w1), (.int w2), (.int w3)] (.int (0 : Int32)) := Arv.set Ar1 q1 S1 M1 H1 G1 (fits_nar_byte _) W1 0 rfl (Nat.le_of_ble_eq_true rfl)
  have N1 := Fr.snoc X1 N0 g_ar
  have Z3 : n0 ≤ hX1.size := Nat.le_trans Z0 (Keep.of_wr W1).1
  have K4 : Keep h0 hX1 [ar] := K0.wr W1 (Or.inl (List.mem_of_getElem? (i := 0) rfl))
  obtain ⟨cl5, Ar5, q5, S5, M5, H5, G5⟩ := id F2
  have hin5 : ¬ ((1 : Int32) < 0 ∨ cl5.slots.size ≤ ((1 : Int32)).toNatClampNeg) := inb_of S5 ⟨by decide, by decide⟩
  obtain ⟨T5, hX5, X5, e5, W5, st5⟩ := stB X1 hx hZ e1 Ar5 (j := (1 : Int32)) hin5 (g := (mkF m 47 #[.val (.int z), .val (.ref ar), .unset] [(.int (((128 : Int32) ||| (z &&& (63 : Int32))).toInt8.toInt32)), (.int (1 : Int32)), (.ref ar)])) rfl rfl (hb hby d1_47)
  have F6 : Arv Z hX5 ar ka .byte (4 : Int32) [(.int (nar .byte (((192 : Int32) ||| (z >>> ((6 : Int32) &&& 31))).toInt8.toInt32))), (.int (nar .byte (((128 : Int32) ||| (z &&& (63 : Int32))).toInt8.toInt32))), (.int w2), (.int w3)] (.int (0 : Int32)) := Arv.set Ar5 q5 S5 M5 H5 G5 (fits_nar_byte _) W5 1 rfl (Nat.le_of_ble_eq_true rfl)
  have N5 := Fr.snoc X5 N1 g_ar
  have Z7 : n0 ≤ hX5.size := Nat.le_trans Z3 (Keep.of_wr W5).1
  have K8 : Keep h0 hX5 [ar] := K4.wr W5 (Or.inl (List.mem_of_getElem? (i := 0) rfl))
  obtain ⟨fs, hr, hrun, hended, hW, hsame⟩ := X5.leave (v := some (Value.int (2 : Int32))) (fun h => by rw [Bd.returns] at h; cases h)
  refine ⟨_, _, pre0 _ ?_, hrun, hended, _, _, rfl, ?_, ⟨_, rfl⟩, hW, hsame.mono (by decide) (by decide)⟩
  · skip
    show Steps p.tables e below (s₁.setTop (mkF m 0 #[.val (.int z), .val (.ref ar), .unset] [])) _
    refine XS.iloadN X0.here hx rfl (hb hby d1_0) rfl ?_
    show Steps p.tables e below (s₁.setTop (mkF m 1 #[.val (.int z), .val (.ref ar), .unset] [(.int z)])) _
    refine XS.sipush X0.here hx rfl (hb hby d1_1) ?_
    show Steps p.tables e below (s₁.setTop (mkF m 4 #[.val (.int z), .val (.ref ar), .unset] [(.int (128 : Int32)), (.int z)])) _
    refine XS.icmpYes X0.here hx rfl (pc0 := 4) (pc' := 17) rfl (hb hby d1_4) rfl (flt h1).2.1 (by decide) (by decide) ?_
    show Steps p.tables e below (s₁.setTop (mkF m 17 #[.val (.int z), .val (.ref ar), .unset] [])) _
    refine XS.iloadN X0.here hx rfl (hb hby d1_17) rfl ?_
    show Steps p.tables e below (s₁.setTop (mkF m 18 #[.val (.int z), .val (.ref ar), .unset] [(.int z)])) _
    refine XS.sipush X0.here hx rfl (hb hby d1_18) ?_
    show Steps p.tables e below (s₁.setTop (mkF m 21 #[.val (.int z), .val (.ref ar), .unset] [(.int (2048 : Int32)), (.int z)])) _
    refine XS.icmpNo X0.here hx rfl (hb hby d1_21) rfl (tlt h2).2.1 ?_
    show Steps p.tables e below (s₁.setTop (mkF m 24 #[.val (.int z), .val (.ref ar), .unset] [])) _
    refine XS.aloadN X0.here hx rfl (hb hby d1_24) rfl rfl ?_
    show Steps p.tables e below (s₁.setTop (mkF m 25 #[.val (.int z), .val (.ref ar), .unset] [(.ref ar)])) _
    refine XS.iconst X0.here hx rfl (hb hby d1_25) ?_
    show Steps p.tables e below (s₁.setTop (mkF m 26 #[.val (.int z), .val (.ref ar), .unset] [(.int (0 : Int32)), (.ref ar)])) _
    refine XS.sipush X0.here hx rfl (hb hby d1_26) ?_
    show Steps p.tables e below (s₁.setTop (mkF m 29 #[.val (.int z), .val (.ref ar), .unset] [(.int (192 : Int32)), (.int (0 : Int32)), (.ref ar)])) _
    refine XS.iloadN X0.here hx rfl (hb hby d1_29) rfl ?_
    show Steps p.tables e below (s₁.setTop (mkF m 30 #[.val (.int z), .val (.ref ar), .unset] [(.int z), (.int (192 : Int32)), (.int (0 : Int32)), (.ref ar)])) _
    refine XS.bipush X0.here hx rfl (hb hby d1_30) ?_
    show Steps p.tables e below (s₁.setTop (mkF m 32 #[.val (.int z), .val (.ref ar), .unset] [(.int (6 : Int32)), (.int z), (.int (192 : Int32)), (.int (0 : Int32)), (.ref ar)])) _
    refine XS.ishr X0.here hx rfl (hb hby d1_32) rfl ?_
    show Steps p.tables e below (s₁.setTop (mkF m 33 #[.val (.int z), .val (.ref ar), .unset] [(.int (z >>> ((6 : Int32) &&& 31))), (.int (192 : Int32)), (.int (0 : Int32)), (.ref ar)])) _
    refine XS.ior X0.here hx rfl (hb hby d1_33) rfl ?_
    show Steps p.tables e below (s₁.setTop (mkF m 34 #[.val (.int z), .val (.ref ar), .unset] [(.int ((192 : Int32) ||| (z >>> ((6 : Int32) &&& 31)))), (.int (0 : Int32)), (.ref ar)])) _
    refine XS.i2b X0.here hx rfl (hb hby d1_34) rfl ?_
    show Steps p.tables e below (s₁.setTop (mkF m 35 #[.val (.int z), .val (.ref ar), .unset] [(.int (((192 : Int32) ||| (z >>> ((6 : Int32) &&& 31))).toInt8.toInt32)), (.int (0 : Int32)), (.ref ar)])) _
    refine st1 _ ?_
    show Steps p.tables e below (T1.setTop (mkF m 36 #[.val (.int z), .val (.ref ar), .unset] [])) _
    refine XS.aloadN X1.here hx rfl (hb hby d1_36) rfl rfl ?_
    show Steps p.tables e below (T1.setTop (mkF m 37 #[.val (.int z), .val (.ref ar), .unset] [(.ref ar)])) _
    refine XS.iconst X1.here hx rfl (hb hby d1_37) ?_
    show Steps p.tables e below (T1.setTop (mkF m 38 #[.val (.int z), .val (.ref ar), .unset] [(.int (1 : Int32)), (.ref ar)])) _
    refine XS.sipush X1.here hx rfl (hb hby d1_38) ?_
    show Steps p.tables e below (T1.setTop (mkF m 41 #[.val (.int z), .val (.ref ar), .unset] [(.int (128 : Int32)), (.int (1 : Int32)), (.ref ar)])) _
    refine XS.iloadN X1.here hx rfl (hb hby d1_41) rfl ?_
    show Steps p.tables e below (T1.setTop (mkF m 42 #[.val (.int z), .val (.ref ar), .unset] [(.int z), (.int (128 : Int32)), (.int (1 : Int32)), (.ref ar)])) _
    refine XS.bipush X1.here hx rfl (hb hby d1_42) ?_
    show Steps p.tables e below (T1.setTop (mkF m 44 #[.val (.int z), .val (.ref ar), .unset] [(.int (63 : Int32)), (.int z), (.int (128 : Int32)), (.int (1 : Int32)), (.ref ar)])) _
    refine XS.iand X1.here hx rfl (hb hby d1_44) rfl ?_
    show Steps p.tables e below (T1.setTop (mkF m 45 #[.val (.int z), .val (.ref ar), .unset] [(.int (z &&& (63 : Int32))), (.int (128 : Int32)), (.int (1 : Int32)), (.ref ar)])) _
    refine XS.ior X1.here hx rfl (hb hby d1_45) rfl ?_
    show Steps p.tables e below (T1.setTop (mkF m 46 #[.val (.int z), .val (.ref ar), .unset] [(.int ((128 : Int32) ||| (z &&& (63 : Int32)))), (.int (1 : Int32)), (.ref ar)])) _
    refine XS.i2b X1.here hx rfl (hb hby d1_46) rfl ?_
    show Steps p.tables e below (T1.setTop (mkF m 47 #[.val (.int z), .val (.ref ar), .unset] [(.int (((128 : Int32) ||| (z &&& (63 : Int32))).toInt8.toInt32)), (.int (1 : Int32)), (.ref ar)])) _
    refine st5 _ ?_
    show Steps p.tables e below (T5.setTop (mkF m 48 #[.val (.int z), .val (.ref ar), .unset] [])) _
    refine XS.iconst X5.here hx rfl (hb hby d1_48) ?_
    show Steps p.tables e below (T5.setTop (mkF m 49 #[.val (.int z), .val (.ref ar), .unset] [(.int (2 : Int32))])) _
    refine XS.istoreN X5.here hx rfl (hb hby d1_49) rfl (l' := #[.val (.int z), .val (.ref ar), .val (.int (2 : Int32))]) rfl ?_
    show Steps p.tables e below (T5.setTop (mkF m 50 #[.val (.int z), .val (.ref ar), .val (.int (2 : Int32))] [])) _
    refine XS.goto X5.here hx rfl (pc0 := 50) (pc' := 159) rfl (hb hby d1_50) (by decide) (by decide) ?_
    show Steps p.tables e below (T5.setTop (mkF m 159 #[.val (.int z), .val (.ref ar), .val (.int (2 : Int32))] [])) _
    refine XS.iloadN X5.here hx rfl (hb hby d1_159) rfl ?_
    show Steps p.tables e below (T5.setTop (mkF m 160 #[.val (.int z), .val (.ref ar), .val (.int (2 : Int32))] [(.int (2 : Int32))])) _
    exact retI X5 hx Bd.returns (hb hby d1_160) hr
  · show Q1_1 Z z ar ka w0 w1 w2 w3 h0 n0 _ T5.heap _
    rw [e5]
    exact ⟨rfl, N5, K8, F6⟩
theorem d1_53 : decode prog_47_method_6_code 53 = .ok (.iload_n 0, 1) := by decide +kernel
theorem d1_54 : decode prog_47_method_6_code 54 = .ok (.ldc 29, 2) := by decide +kernel
theorem d1_56 : decode prog_47_method_6_code 56 = .ok (.if_icmp .ge 47, 3) := by decide +kernel
theorem d1_59 : decode prog_47_method_6_code 59 = .ok (.aload_n 1, 1) := by decide +kernel
theorem d1_60 : decode prog_47_method_6_code 60 = .ok (.iconst 0, 1) := by decide +kernel
theorem d1_61 : decode prog_47_method_6_code 61 = .ok (.sipush 224, 3) := by decide +kernel
theorem d1_64 : decode prog_47_method_6_code 64 = .ok (.iload_n 0, 1) := by decide +kernel
theorem d1_65 : decode prog_47_method_6_code 65 = .ok (.bipush 12, 2) := by decide +kernel
theorem d1_67 : decode prog_47_method_6_code 67 = .ok (.ishr, 1) := by decide +kernel
theorem d1_68 : decode prog_47_method_6_code 68 = .ok (.ior, 1) := by decide +kernel
theorem d1_69 : decode prog_47_method_6_code 69 = .ok (.i2b, 1) := by decide +kernel
theorem d1_70 : decode prog_47_method_6_code 70 = .ok (.bastore, 1) := by decide +kernel
theorem d1_71 : decode prog_47_method_6_code 71 = .ok (.aload_n 1, 1) := by decide +kernel
theorem d1_72 : decode prog_47_method_6_code 72 = .ok (.iconst 1, 1) := by decide +kernel
theorem d1_73 : decode prog_47_method_6_code 73 = .ok (.sipush 128, 3) := by decide +kernel
theorem d1_76 : decode prog_47_method_6_code 76 = .ok (.iload_n 0, 1) := by decide +kernel
theorem d1_77 : decode prog_47_method_6_code 77 = .ok (.bipush 6, 2) := by decide +kernel
theorem d1_79 : decode prog_47_method_6_code 79 = .ok (.ishr, 1) := by decide +kernel
theorem d1_80 : decode prog_47_method_6_code 80 = .ok (.bipush 63, 2) := by decide +kernel
theorem d1_82 : decode prog_47_method_6_code 82 = .ok (.iand, 1) := by decide +kernel
theorem d1_83 : decode prog_47_method_6_code 83 = .ok (.ior, 1) := by decide +kernel
theorem d1_84 : decode prog_47_method_6_code 84 = .ok (.i2b, 1) := by decide +kernel
theorem d1_85 : decode prog_47_method_6_code 85 = .ok (.bastore, 1) := by decide +kernel
theorem d1_86 : decode prog_47_method_6_code 86 = .ok (.aload_n 1, 1) := by decide +kernel
theorem d1_87 : decode prog_47_method_6_code 87 = .ok (.iconst 2, 1) := by decide +kernel
theorem d1_88 : decode prog_47_method_6_code 88 = .ok (.sipush 128, 3) := by decide +kernel
theorem d1_91 : decode prog_47_method_6_code 91 = .ok (.iload_n 0, 1) := by decide +kernel
theorem d1_92 : decode prog_47_method_6_code 92 = .ok (.bipush 63, 2) := by decide +kernel
theorem d1_94 : decode prog_47_method_6_code 94 = .ok (.iand, 1) := by decide +kernel
theorem d1_95 : decode prog_47_method_6_code 95 = .ok (.ior, 1) := by decide +kernel
theorem d1_96 : decode prog_47_method_6_code 96 = .ok (.i2b, 1) := by decide +kernel
theorem d1_97 : decode prog_47_method_6_code 97 = .ok (.bastore, 1) := by decide +kernel
theorem d1_98 : decode prog_47_method_6_code 98 = .ok (.iconst 3, 1) := by decide +kernel
theorem d1_99 : decode prog_47_method_6_code 99 = .ok (.istore_n 2, 1) := by decide +kernel
theorem d1_100 : decode prog_47_method_6_code 100 = .ok (.goto 59, 3) := by decide +kernel
theorem ef_1_2 (m : MethodId) (x0 : Int32) (x1 : Addr) : entryFrame m #[(.int x0), (.ref x1)] 3 = mkF m 0 #[.val (.int x0), .val (.ref x1), .unset] [] := by first | (simp [entryFrame, mkF, argsToLocals, Value.category]; done) | rfl
def Q1_2 (Z : State) (z : Int32) (ar : Addr) (ka : ClassId) (w0 : Int32) (w1 : Int32) (w2 : Int32) (w3 : Int32) (h0 : Heap) (n0 : Nat) (v : Option Value) (h : Heap) (L : List Loc) : Prop := v = some (.int (3 : Int32)) ∧ Fr n0 L ∧ Keep h0 h [ar] ∧ Arv Z h ar ka .byte (4 : Int32) [(.int (nar .byte (((224 : Int32) ||| (z >>> ((12 : Int32) &&& 31))).toInt8.toInt32))), (.int (nar .byte (((128 : Int32) ||| ((z >>> ((6 : Int32) &&& 31)) &&& (63 : Int32))).toInt8.toInt32))), (.int (nar .byte (((128 : Int32) ||| (z &&& (63 : Int32))).toInt8.toInt32))), (.int w3)] (.int (0 : Int32))
set_option maxRecDepth 65536 in
set_option maxHeartbeats 40000000 in
theorem rm1_2 (l : Launch) (Z : State) (a0 : Array Value) (hw : ∀ d ∈ tables_1, d.before a0 Z = true) (ws : List Jvm.Cond) (z : Int32) (ar : Addr) (ka : ClassId) (w0 : Int32) (w1 : Int32) (w2 : Int32) (w3 : Int32) (h0 : Heap) (n0 : Nat) (Z0 : n0 ≤ h0.size) (I0 : Arv Z h0 ar ka .byte (4 : Int32) [(.int w0), (.int w1), (.int w2), (.int w3)] (.int (0 : Int32))) (g_ar : n0 ≤ ar) (h1 : ¬ (z < (128 : Int32))) (h2 : ¬ (z < (2048 : Int32))) (h3 : z < (65536 : Int32)) :
    MetFree l (⟨"com/example/marcotte/marcotte/XmlCharacters", "writeUtf8", "(I[B)I"⟩ : MethodName) (head1 (Jvm.Cond.code (⟨"com/example/marcotte/marcotte/XmlCharacters", "writeUtf8", "(I[B)I"⟩ : MethodName) prog_47_method_6_code 3 (some .int) :: ws) ({ frames := 0, cells := 0, slots := 0, locals := 0 } : Room)) (fun a U => a = #[(.int z), (.ref ar)] ∧ Z.Warmed39 U.vm ∧ U.heap = h0) (fun _ _ _ _ _ => True) (fun _ U o U' => ∃ v L, o = .returned v ∧ Q1_2 Z z ar ka w0 w1 w2 w3 h0 n0 v U'.heap L ∧ FrameEnd U o U' L ({ frames := 0, cells := 0, slots := 0, locals := 0 } : Room).cells ({ frames := 0, cells := 0, slots := 0, locals := 0 } : Room).slots) := by
  refine MetFree.of_bodySF (plainFor_of_name pn_1) hisR ?_
  intro p e s m args below meth c s₁ Bd hml0 hP hK
  obtain ⟨rfl, hZ, hh⟩ := hP
  have hx := Bd.exec
  have hby := Bd.bytes
  have hml : c.maxLocals = 3 := hml0
  have hown : s.vm.findClass "com/example/marcotte/marcotte/XmlCharacters" = some m.cls := findClass_of_methodNamed Bd.named
  have hnm := (name_of_methodNamed Bd.named Bd.method).1
  have X0 : Stand p l e ({ frames := 0, cells := 0, slots := 0, locals := 0 } : Room) s m #[(.int z), (.ref ar)] below meth c s₁ [] 0 0 := Stand.of_body Bd
  have e0 : s₁.heap = h0 := by rw [← hh, Bd.state]; rfl
  have N0 := Fr.nil n0
  have K0 : Keep h0 h0 [ar] := Keep.refl h0 _
  have pre0 : ∀ tq, Steps p.tables e below (s₁.setTop (mkF m 0 #[.val (.int z), .val (.ref ar), .unset] [])) tq → Steps p.tables e below (s₁.setTop (entryFrame m #[(.int z), (.ref ar)] 3)) tq := fun tq kq => castTop (ef_1_2 m z ar) kq
  obtain ⟨cl1, Ar1, q1, S1, M1, H1, G1⟩ := id I0
  have hin1 : ¬ ((0 : Int32) < 0 ∨ cl1.slots.size ≤ ((0 : Int32)).toNatClampNeg) := inb_of S1 ⟨by decide, by decide⟩
  obtain ⟨T1, hX1, X1, e1, W1, st1⟩ := stB X0 hx hZ e0 Ar1 (j := (0 : Int32)) hin1 (g := (mkF m 70 #[.val (.int z), .val (.ref ar), .unset] [(.int (((224 : Int32) ||| (z >>> ((12 : Int32) &&& 31))).toInt8.toInt32)), (.int (0 : Int32)), (.ref ar)])) rfl rfl (hb hby d1_70)
  have F2 : Arv Z hX1 ar ka .byte (4 : Int32) [(.int (nar .byte (((224 : Int32) ||| (z >>> ((12 : Int32) &&& 31))).toInt8.toInt32))), (.int w1), (.int w2), (.int w3)] (.int (0 : Int32)) := Arv.set Ar1 q1 S1 M1 H1 G1 (fits_nar_byte _) W1 0 rfl (Nat.le_of_ble_eq_true rfl)
  have N1 := Fr.snoc X1 N0 g_ar
  have Z3 : n0 ≤ hX1.size := Nat.le_trans Z0 (Keep.of_wr W1).1
  have K4 : Keep h0 hX1 [ar] := K0.wr W1 (Or.inl (List.mem_of_getElem? (i := 0) rfl))
  obtain ⟨cl5, Ar5, q5, S5, M5, H5, G5⟩ := id F2
  have hin5 : ¬ ((1 : Int32) < 0 ∨ cl5.slots.size ≤ ((1 : Int32)).toNatClampNeg) := inb_of S5 ⟨by decide, by decide⟩
  obtain ⟨T5, hX5, X5, e5, W5, st5⟩ := stB X1 hx hZ e1 Ar5 (j := (1 : Int32)) hin5 (g := (mkF m 85 #[.val (.int z), .val (.ref ar), .unset] [(.int (((128 : Int32) ||| ((z >>> ((6 : Int32) &&& 31)) &&& (63 : Int32))).toInt8.toInt32)), (.int (1 : Int32)), (.ref ar)])) rfl rfl (hb hby d1_85)
  have F6 : Arv Z hX5 ar ka .byte (4 : Int32) [(.int (nar .byte (((224 : Int32) ||| (z >>> ((12 : Int32) &&& 31))).toInt8.toInt32))), (.int (nar .byte (((128 : Int32) ||| ((z >>> ((6 : Int32) &&& 31)) &&& (63 : Int32))).toInt8.toInt32))), (.int w2), (.int w3)] (.int (0 : Int32)) := Arv.set Ar5 q5 S5 M5 H5 G5 (fits_nar_byte _) W5 1 rfl (Nat.le_of_ble_eq_true rfl)
  have N5 := Fr.snoc X5 N1 g_ar
  have Z7 : n0 ≤ hX5.size := Nat.le_trans Z3 (Keep.of_wr W5).1
  have K8 : Keep h0 hX5 [ar] := K4.wr W5 (Or.inl (List.mem_of_getElem? (i := 0) rfl))
  obtain ⟨cl9, Ar9, q9, S9, M9, H9, G9⟩ := id F6
  have hin9 : ¬ ((2 : Int32) < 0 ∨ cl9.slots.size ≤ ((2 : Int32)).toNatClampNeg) := inb_of S9 ⟨by decide, by decide⟩
  obtain ⟨T9, hX9, X9, e9, W9, st9⟩ := stB X5 hx hZ e5 Ar9 (j := (2 : Int32)) hin9 (g := (mkF m 97 #[.val (.int z), .val (.ref ar), .unset] [(.int (((128 : Int32) ||| (z &&& (63 : Int32))).toInt8.toInt32)), (.int (2 : Int32)), (.ref ar)])) rfl rfl (hb hby d1_97)
  have F10 : Arv Z hX9 ar ka .byte (4 : Int32) [(.int (nar .byte (((224 : Int32) ||| (z >>> ((12 : Int32) &&& 31))).toInt8.toInt32))), (.int (nar .byte (((128 : Int32) ||| ((z >>> ((6 : Int32) &&& 31)) &&& (63 : Int32))).toInt8.toInt32))), (.int (nar .byte (((128 : Int32) ||| (z &&& (63 : Int32))).toInt8.toInt32))), (.int w3)] (.int (0 : Int32)) := Arv.set Ar9 q9 S9 M9 H9 G9 (fits_nar_byte _) W9 2 rfl (Nat.le_of_ble_eq_true rfl)
  have N9 := Fr.snoc X9 N5 g_ar
  have Z11 : n0 ≤ hX9.size := Nat.le_trans Z7 (Keep.of_wr W9).1
  have K12 : Keep h0 hX9 [ar] := K8.wr W9 (Or.inl (List.mem_of_getElem? (i := 0) rfl))
  obtain ⟨fs, hr, hrun, hended, hW, hsame⟩ := X9.leave (v := some (Value.int (3 : Int32))) (fun h => by rw [Bd.returns] at h; cases h)
  refine ⟨_, _, pre0 _ ?_, hrun, hended, _, _, rfl, ?_, ⟨_, rfl⟩, hW, hsame.mono (by decide) (by decide)⟩
  · skip
    show Steps p.tables e below (s₁.setTop (mkF m 0 #[.val (.int z), .val (.ref ar), .unset] [])) _
    refine XS.iloadN X0.here hx rfl (hb hby d1_0) rfl ?_
    show Steps p.tables e below (s₁.setTop (mkF m 1 #[.val (.int z), .val (.ref ar), .unset] [(.int z)])) _
    refine XS.sipush X0.here hx rfl (hb hby d1_1) ?_
    show Steps p.tables e below (s₁.setTop (mkF m 4 #[.val (.int z), .val (.ref ar), .unset] [(.int (128 : Int32)), (.int z)])) _
    refine XS.icmpYes X0.here hx rfl (pc0 := 4) (pc' := 17) rfl (hb hby d1_4) rfl (flt h1).2.1 (by decide) (by decide) ?_
    show Steps p.tables e below (s₁.setTop (mkF m 17 #[.val (.int z), .val (.ref ar), .unset] [])) _
    refine XS.iloadN X0.here hx rfl (hb hby d1_17) rfl ?_
    show Steps p.tables e below (s₁.setTop (mkF m 18 #[.val (.int z), .val (.ref ar), .unset] [(.int z)])) _
    refine XS.sipush X0.here hx rfl (hb hby d1_18) ?_
    show Steps p.tables e below (s₁.setTop (mkF m 21 #[.val (.int z), .val (.ref ar), .unset] [(.int (2048 : Int32)), (.int z)])) _
    refine XS.icmpYes X0.here hx rfl (pc0 := 21) (pc' := 53) rfl (hb hby d1_21) rfl (flt h2).2.1 (by decide) (by decide) ?_
    show Steps p.tables e below (s₁.setTop (mkF m 53 #[.val (.int z), .val (.ref ar), .unset] [])) _
    refine XS.iloadN X0.here hx rfl (hb hby d1_53) rfl ?_
    show Steps p.tables e below (s₁.setTop (mkF m 54 #[.val (.int z), .val (.ref ar), .unset] [(.int z)])) _
    refine X0.ldcInt hx hown (mvT hZ (hw _ (List.mem_of_getElem? (i := 8) rfl))) (g := (mkF m 54 #[.val (.int z), .val (.ref ar), .unset] [(.int z)])) rfl (hb hby d1_54) _ ?_
    show Steps p.tables e below (s₁.setTop (mkF m 56 #[.val (.int z), .val (.ref ar), .unset] [(.int (65536 : Int32)), (.int z)])) _
    refine XS.icmpNo X0.here hx rfl (hb hby d1_56) rfl (tlt h3).2.1 ?_
    show Steps p.tables e below (s₁.setTop (mkF m 59 #[.val (.int z), .val (.ref ar), .unset] [])) _
    refine XS.aloadN X0.here hx rfl (hb hby d1_59) rfl rfl ?_
    show Steps p.tables e below (s₁.setTop (mkF m 60 #[.val (.int z), .val (.ref ar), .unset] [(.ref ar)])) _
    refine XS.iconst X0.here hx rfl (hb hby d1_60) ?_
    show Steps p.tables e below (s₁.setTop (mkF m 61 #[.val (.int z), .val (.ref ar), .unset] [(.int (0 : Int32)), (.ref ar)])) _
    refine XS.sipush X0.here hx rfl (hb hby d1_61) ?_
    show Steps p.tables e below (s₁.setTop (mkF m 64 #[.val (.int z), .val (.ref ar), .unset] [(.int (224 : Int32)), (.int (0 : Int32)), (.ref ar)])) _
    refine XS.iloadN X0.here hx rfl (hb hby d1_64) rfl ?_
    show Steps p.tables e below (s₁.setTop (mkF m 65 #[.val (.int z), .val (.ref ar), .unset] [(.int z), (.int (224 : Int32)), (.int (0 : Int32)), (.ref ar)])) _
    refine XS.bipush X0.here hx rfl (hb hby d1_65) ?_
    show Steps p.tables e below (s₁.setTop (mkF m 67 #[.val (.int z), .val (.ref ar), .unset] [(.int (12 : Int32)), (.int z), (.int (224 : Int32)), (.int (0 : Int32)), (.ref ar)])) _
    refine XS.ishr X0.here hx rfl (hb hby d1_67) rfl ?_
    show Steps p.tables e below (s₁.setTop (mkF m 68 #[.val (.int z), .val (.ref ar), .unset] [(.int (z >>> ((12 : Int32) &&& 31))), (.int (224 : Int32)), (.int (0 : Int32)), (.ref ar)])) _
    refine XS.ior X0.here hx rfl (hb hby d1_68) rfl ?_
    show Steps p.tables e below (s₁.setTop (mkF m 69 #[.val (.int z), .val (.ref ar), .unset] [(.int ((224 : Int32) ||| (z >>> ((12 : Int32) &&& 31)))), (.int (0 : Int32)), (.ref ar)])) _
    refine XS.i2b X0.here hx rfl (hb hby d1_69) rfl ?_
    show Steps p.tables e below (s₁.setTop (mkF m 70 #[.val (.int z), .val (.ref ar), .unset] [(.int (((224 : Int32) ||| (z >>> ((12 : Int32) &&& 31))).toInt8.toInt32)), (.int (0 : Int32)), (.ref ar)])) _
    refine st1 _ ?_
    show Steps p.tables e below (T1.setTop (mkF m 71 #[.val (.int z), .val (.ref ar), .unset] [])) _
    refine XS.aloadN X1.here hx rfl (hb hby d1_71) rfl rfl ?_
    show Steps p.tables e below (T1.setTop (mkF m 72 #[.val (.int z), .val (.ref ar), .unset] [(.ref ar)])) _
    refine XS.iconst X1.here hx rfl (hb hby d1_72) ?_
    show Steps p.tables e below (T1.setTop (mkF m 73 #[.val (.int z), .val (.ref ar), .unset] [(.int (1 : Int32)), (.ref ar)])) _
    refine XS.sipush X1.here hx rfl (hb hby d1_73) ?_
    show Steps p.tables e below (T1.setTop (mkF m 76 #[.val (.int z), .val (.ref ar), .unset] [(.int (128 : Int32)), (.int (1 : Int32)), (.ref ar)])) _
    refine XS.iloadN X1.here hx rfl (hb hby d1_76) rfl ?_
    show Steps p.tables e below (T1.setTop (mkF m 77 #[.val (.int z), .val (.ref ar), .unset] [(.int z), (.int (128 : Int32)), (.int (1 : Int32)), (.ref ar)])) _
    refine XS.bipush X1.here hx rfl (hb hby d1_77) ?_
    show Steps p.tables e below (T1.setTop (mkF m 79 #[.val (.int z), .val (.ref ar), .unset] [(.int (6 : Int32)), (.int z), (.int (128 : Int32)), (.int (1 : Int32)), (.ref ar)])) _
    refine XS.ishr X1.here hx rfl (hb hby d1_79) rfl ?_
    show Steps p.tables e below (T1.setTop (mkF m 80 #[.val (.int z), .val (.ref ar), .unset] [(.int (z >>> ((6 : Int32) &&& 31))), (.int (128 : Int32)), (.int (1 : Int32)), (.ref ar)])) _
    refine XS.bipush X1.here hx rfl (hb hby d1_80) ?_
    show Steps p.tables e below (T1.setTop (mkF m 82 #[.val (.int z), .val (.ref ar), .unset] [(.int (63 : Int32)), (.int (z >>> ((6 : Int32) &&& 31))), (.int (128 : Int32)), (.int (1 : Int32)), (.ref ar)])) _
    refine XS.iand X1.here hx rfl (hb hby d1_82) rfl ?_
    show Steps p.tables e below (T1.setTop (mkF m 83 #[.val (.int z), .val (.ref ar), .unset] [(.int ((z >>> ((6 : Int32) &&& 31)) &&& (63 : Int32))), (.int (128 : Int32)), (.int (1 : Int32)), (.ref ar)])) _
    refine XS.ior X1.here hx rfl (hb hby d1_83) rfl ?_
    show Steps p.tables e below (T1.setTop (mkF m 84 #[.val (.int z), .val (.ref ar), .unset] [(.int ((128 : Int32) ||| ((z >>> ((6 : Int32) &&& 31)) &&& (63 : Int32)))), (.int (1 : Int32)), (.ref ar)])) _
    refine XS.i2b X1.here hx rfl (hb hby d1_84) rfl ?_
    show Steps p.tables e below (T1.setTop (mkF m 85 #[.val (.int z), .val (.ref ar), .unset] [(.int (((128 : Int32) ||| ((z >>> ((6 : Int32) &&& 31)) &&& (63 : Int32))).toInt8.toInt32)), (.int (1 : Int32)), (.ref ar)])) _
    refine st5 _ ?_
    show Steps p.tables e below (T5.setTop (mkF m 86 #[.val (.int z), .val (.ref ar), .unset] [])) _
    refine XS.aloadN X5.here hx rfl (hb hby d1_86) rfl rfl ?_
    show Steps p.tables e below (T5.setTop (mkF m 87 #[.val (.int z), .val (.ref ar), .unset] [(.ref ar)])) _
    refine XS.iconst X5.here hx rfl (hb hby d1_87) ?_
    show Steps p.tables e below (T5.setTop (mkF m 88 #[.val (.int z), .val (.ref ar), .unset] [(.int (2 : Int32)), (.ref ar)])) _
    refine XS.sipush X5.here hx rfl (hb hby d1_88) ?_
    show Steps p.tables e below (T5.setTop (mkF m 91 #[.val (.int z), .val (.ref ar), .unset] [(.int (128 : Int32)), (.int (2 : Int32)), (.ref ar)])) _
    refine XS.iloadN X5.here hx rfl (hb hby d1_91) rfl ?_
    show Steps p.tables e below (T5.setTop (mkF m 92 #[.val (.int z), .val (.ref ar), .unset] [(.int z), (.int (128 : Int32)), (.int (2 : Int32)), (.ref ar)])) _
    refine XS.bipush X5.here hx rfl (hb hby d1_92) ?_
    show Steps p.tables e below (T5.setTop (mkF m 94 #[.val (.int z), .val (.ref ar), .unset] [(.int (63 : Int32)), (.int z), (.int (128 : Int32)), (.int (2 : Int32)), (.ref ar)])) _
    refine XS.iand X5.here hx rfl (hb hby d1_94) rfl ?_
    show Steps p.tables e below (T5.setTop (mkF m 95 #[.val (.int z), .val (.ref ar), .unset] [(.int (z &&& (63 : Int32))), (.int (128 : Int32)), (.int (2 : Int32)), (.ref ar)])) _
    refine XS.ior X5.here hx rfl (hb hby d1_95) rfl ?_
    show Steps p.tables e below (T5.setTop (mkF m 96 #[.val (.int z), .val (.ref ar), .unset] [(.int ((128 : Int32) ||| (z &&& (63 : Int32)))), (.int (2 : Int32)), (.ref ar)])) _
    refine XS.i2b X5.here hx rfl (hb hby d1_96) rfl ?_
    show Steps p.tables e below (T5.setTop (mkF m 97 #[.val (.int z), .val (.ref ar), .unset] [(.int (((128 : Int32) ||| (z &&& (63 : Int32))).toInt8.toInt32)), (.int (2 : Int32)), (.ref ar)])) _
    refine st9 _ ?_
    show Steps p.tables e below (T9.setTop (mkF m 98 #[.val (.int z), .val (.ref ar), .unset] [])) _
    refine XS.iconst X9.here hx rfl (hb hby d1_98) ?_
    show Steps p.tables e below (T9.setTop (mkF m 99 #[.val (.int z), .val (.ref ar), .unset] [(.int (3 : Int32))])) _
    refine XS.istoreN X9.here hx rfl (hb hby d1_99) rfl (l' := #[.val (.int z), .val (.ref ar), .val (.int (3 : Int32))]) rfl ?_
    show Steps p.tables e below (T9.setTop (mkF m 100 #[.val (.int z), .val (.ref ar), .val (.int (3 : Int32))] [])) _
    refine XS.goto X9.here hx rfl (pc0 := 100) (pc' := 159) rfl (hb hby d1_100) (by decide) (by decide) ?_
    show Steps p.tables e below (T9.setTop (mkF m 159 #[.val (.int z), .val (.ref ar), .val (.int (3 : Int32))] [])) _
    refine XS.iloadN X9.here hx rfl (hb hby d1_159) rfl ?_
    show Steps p.tables e below (T9.setTop (mkF m 160 #[.val (.int z), .val (.ref ar), .val (.int (3 : Int32))] [(.int (3 : Int32))])) _
    exact retI X9 hx Bd.returns (hb hby d1_160) hr
  · show Q1_2 Z z ar ka w0 w1 w2 w3 h0 n0 _ T9.heap _
    rw [e9]
    exact ⟨rfl, N9, K12, F10⟩
theorem d1_103 : decode prog_47_method_6_code 103 = .ok (.aload_n 1, 1) := by decide +kernel
theorem d1_104 : decode prog_47_method_6_code 104 = .ok (.iconst 0, 1) := by decide +kernel
theorem d1_105 : decode prog_47_method_6_code 105 = .ok (.sipush 240, 3) := by decide +kernel
theorem d1_108 : decode prog_47_method_6_code 108 = .ok (.iload_n 0, 1) := by decide +kernel
theorem d1_109 : decode prog_47_method_6_code 109 = .ok (.bipush 18, 2) := by decide +kernel
theorem d1_111 : decode prog_47_method_6_code 111 = .ok (.ishr, 1) := by decide +kernel
theorem d1_112 : decode prog_47_method_6_code 112 = .ok (.ior, 1) := by decide +kernel
theorem d1_113 : decode prog_47_method_6_code 113 = .ok (.i2b, 1) := by decide +kernel
theorem d1_114 : decode prog_47_method_6_code 114 = .ok (.bastore, 1) := by decide +kernel
theorem d1_115 : decode prog_47_method_6_code 115 = .ok (.aload_n 1, 1) := by decide +kernel
theorem d1_116 : decode prog_47_method_6_code 116 = .ok (.iconst 1, 1) := by decide +kernel
theorem d1_117 : decode prog_47_method_6_code 117 = .ok (.sipush 128, 3) := by decide +kernel
theorem d1_120 : decode prog_47_method_6_code 120 = .ok (.iload_n 0, 1) := by decide +kernel
theorem d1_121 : decode prog_47_method_6_code 121 = .ok (.bipush 12, 2) := by decide +kernel
theorem d1_123 : decode prog_47_method_6_code 123 = .ok (.ishr, 1) := by decide +kernel
theorem d1_124 : decode prog_47_method_6_code 124 = .ok (.bipush 63, 2) := by decide +kernel
theorem d1_126 : decode prog_47_method_6_code 126 = .ok (.iand, 1) := by decide +kernel
theorem d1_127 : decode prog_47_method_6_code 127 = .ok (.ior, 1) := by decide +kernel
theorem d1_128 : decode prog_47_method_6_code 128 = .ok (.i2b, 1) := by decide +kernel
theorem d1_129 : decode prog_47_method_6_code 129 = .ok (.bastore, 1) := by decide +kernel
theorem d1_130 : decode prog_47_method_6_code 130 = .ok (.aload_n 1, 1) := by decide +kernel
theorem d1_131 : decode prog_47_method_6_code 131 = .ok (.iconst 2, 1) := by decide +kernel
theorem d1_132 : decode prog_47_method_6_code 132 = .ok (.sipush 128, 3) := by decide +kernel
theorem d1_135 : decode prog_47_method_6_code 135 = .ok (.iload_n 0, 1) := by decide +kernel
theorem d1_136 : decode prog_47_method_6_code 136 = .ok (.bipush 6, 2) := by decide +kernel
theorem d1_138 : decode prog_47_method_6_code 138 = .ok (.ishr, 1) := by decide +kernel
theorem d1_139 : decode prog_47_method_6_code 139 = .ok (.bipush 63, 2) := by decide +kernel
theorem d1_141 : decode prog_47_method_6_code 141 = .ok (.iand, 1) := by decide +kernel
theorem d1_142 : decode prog_47_method_6_code 142 = .ok (.ior, 1) := by decide +kernel
theorem d1_143 : decode prog_47_method_6_code 143 = .ok (.i2b, 1) := by decide +kernel
theorem d1_144 : decode prog_47_method_6_code 144 = .ok (.bastore, 1) := by decide +kernel
theorem d1_145 : decode prog_47_method_6_code 145 = .ok (.aload_n 1, 1) := by decide +kernel
theorem d1_146 : decode prog_47_method_6_code 146 = .ok (.iconst 3, 1) := by decide +kernel
theorem d1_147 : decode prog_47_method_6_code 147 = .ok (.sipush 128, 3) := by decide +kernel
theorem d1_150 : decode prog_47_method_6_code 150 = .ok (.iload_n 0, 1) := by decide +kernel
theorem d1_151 : decode prog_47_method_6_code 151 = .ok (.bipush 63, 2) := by decide +kernel
theorem d1_153 : decode prog_47_method_6_code 153 = .ok (.iand, 1) := by decide +kernel
theorem d1_154 : decode prog_47_method_6_code 154 = .ok (.ior, 1) := by decide +kernel
theorem d1_155 : decode prog_47_method_6_code 155 = .ok (.i2b, 1) := by decide +kernel
theorem d1_156 : decode prog_47_method_6_code 156 = .ok (.bastore, 1) := by decide +kernel
theorem d1_157 : decode prog_47_method_6_code 157 = .ok (.iconst 4, 1) := by decide +kernel
theorem d1_158 : decode prog_47_method_6_code 158 = .ok (.istore_n 2, 1) := by decide +kernel
theorem ef_1_3 (m : MethodId) (x0 : Int32) (x1 : Addr) : entryFrame m #[(.int x0), (.ref x1)] 3 = mkF m 0 #[.val (.int x0), .val (.ref x1), .unset] [] := by first | (simp [entryFrame, mkF, argsToLocals, Value.category]; done) | rfl
def Q1_3 (Z : State) (z : Int32) (ar : Addr) (ka : ClassId) (w0 : Int32) (w1 : Int32) (w2 : Int32) (w3 : Int32) (h0 : Heap) (n0 : Nat) (v : Option Value) (h : Heap) (L : List Loc) : Prop := v = some (.int (4 : Int32)) ∧ Fr n0 L ∧ Keep h0 h [ar] ∧ Arv Z h ar ka .byte (4 : Int32) [(.int (nar .byte (((240 : Int32) ||| (z >>> ((18 : Int32) &&& 31))).toInt8.toInt32))), (.int (nar .byte (((128 : Int32) ||| ((z >>> ((12 : Int32) &&& 31)) &&& (63 : Int32))).toInt8.toInt32))), (.int (nar .byte (((128 : Int32) ||| ((z >>> ((6 : Int32) &&& 31)) &&& (63 : Int32))).toInt8.toInt32))), (.int (nar .byte (((128 : Int32) ||| (z &&& (63 : Int32))).toInt8.toInt32)))] (.int (0 : Int32))
set_option maxRecDepth 65536 in
set_option maxHeartbeats 40000000 in
theorem rm1_3 (l : Launch) (Z : State) (a0 : Array Value) (hw : ∀ d ∈ tables_1, d.before a0 Z = true) (ws : List Jvm.Cond) (z : Int32) (ar : Addr) (ka : ClassId) (w0 : Int32) (w1 : Int32) (w2 : Int32) (w3 : Int32) (h0 : Heap) (n0 : Nat) (Z0 : n0 ≤ h0.size) (I0 : Arv Z h0 ar ka .byte (4 : Int32) [(.int w0), (.int w1), (.int w2), (.int w3)] (.int (0 : Int32))) (g_ar : n0 ≤ ar) (h1 : ¬ (z < (128 : Int32))) (h2 : ¬ (z < (2048 : Int32))) (h3 : ¬ (z < (65536 : Int32))) :
    MetFree l (⟨"com/example/marcotte/marcotte/XmlCharacters", "writeUtf8", "(I[B)I"⟩ : MethodName) (head1 (Jvm.Cond.code (⟨"com/example/marcotte/marcotte/XmlCharacters", "writeUtf8", "(I[B)I"⟩ : MethodName) prog_47_method_6_code 3 (some .int) :: ws) ({ frames := 0, cells := 0, slots := 0, locals := 0 } : Room)) (fun a U => a = #[(.int z), (.ref ar)] ∧ Z.Warmed39 U.vm ∧ U.heap = h0) (fun _ _ _ _ _ => True) (fun _ U o U' => ∃ v L, o = .returned v ∧ Q1_3 Z z ar ka w0 w1 w2 w3 h0 n0 v U'.heap L ∧ FrameEnd U o U' L ({ frames := 0, cells := 0, slots := 0, locals := 0 } : Room).cells ({ frames := 0, cells := 0, slots := 0, locals := 0 } : Room).slots) := by
  refine MetFree.of_bodySF (plainFor_of_name pn_1) hisR ?_
  intro p e s m args below meth c s₁ Bd hml0 hP hK
  obtain ⟨rfl, hZ, hh⟩ := hP
  have hx := Bd.exec
  have hby := Bd.bytes
  have hml : c.maxLocals = 3 := hml0
  have hown : s.vm.findClass "com/example/marcotte/marcotte/XmlCharacters" = some m.cls := findClass_of_methodNamed Bd.named
  have hnm := (name_of_methodNamed Bd.named Bd.method).1
  have X0 : Stand p l e ({ frames := 0, cells := 0, slots := 0, locals := 0 } : Room) s m #[(.int z), (.ref ar)] below meth c s₁ [] 0 0 := Stand.of_body Bd
  have e0 : s₁.heap = h0 := by rw [← hh, Bd.state]; rfl
  have N0 := Fr.nil n0
  have K0 : Keep h0 h0 [ar] := Keep.refl h0 _
  have pre0 : ∀ tq, Steps p.tables e below (s₁.setTop (mkF m 0 #[.val (.int z), .val (.ref ar), .unset] [])) tq → Steps p.tables e below (s₁.setTop (entryFrame m #[(.int z), (.ref ar)] 3)) tq := fun tq kq => castTop (ef_1_3 m z ar) kq
  obtain ⟨cl1, Ar1, q1, S1, M1, H1, G1⟩ := id I0
  have hin1 : ¬ ((0 : Int32) < 0 ∨ cl1.slots.size ≤ ((0 : Int32)).toNatClampNeg) := inb_of S1 ⟨by decide, by decide⟩
  obtain ⟨T1, hX1, X1, e1, W1, st1⟩ := stB X0 hx hZ e0 Ar1 (j := (0 : Int32)) hin1 (g := (mkF m 114 #[.val (.int z), .val (.ref ar), .unset] [(.int (((240 : Int32) ||| (z >>> ((18 : Int32) &&& 31))).toInt8.toInt32)), (.int (0 : Int32)), (.ref ar)])) rfl rfl (hb hby d1_114)
  have F2 : Arv Z hX1 ar ka .byte (4 : Int32) [(.int (nar .byte (((240 : Int32) ||| (z >>> ((18 : Int32) &&& 31))).toInt8.toInt32))), (.int w1), (.int w2), (.int w3)] (.int (0 : Int32)) := Arv.set Ar1 q1 S1 M1 H1 G1 (fits_nar_byte _) W1 0 rfl (Nat.le_of_ble_eq_true rfl)
  have N1 := Fr.snoc X1 N0 g_ar
  have Z3 : n0 ≤ hX1.size := Nat.le_trans Z0 (Keep.of_wr W1).1
  have K4 : Keep h0 hX1 [ar] := K0.wr W1 (Or.inl (List.mem_of_getElem? (i := 0) rfl))
  obtain ⟨cl5, Ar5, q5, S5, M5, H5, G5⟩ := id F2
  have hin5 : ¬ ((1 : Int32) < 0 ∨ cl5.slots.size ≤ ((1 : Int32)).toNatClampNeg) := inb_of S5 ⟨by decide, by decide⟩
  obtain ⟨T5, hX5, X5, e5, W5, st5⟩ := stB X1 hx hZ e1 Ar5 (j := (1 : Int32)) hin5 (g := (mkF m 129 #[.val (.int z), .val (.ref ar), .unset] [(.int (((128 : Int32) ||| ((z >>> ((12 : Int32) &&& 31)) &&& (63 : Int32))).toInt8.toInt32)), (.int (1 : Int32)), (.ref ar)])) rfl rfl (hb hby d1_129)
  have F6 : Arv Z hX5 ar ka .byte (4 : Int32) [(.int (nar .byte (((240 : Int32) ||| (z >>> ((18 : Int32) &&& 31))).toInt8.toInt32))), (.int (nar .byte (((128 : Int32) ||| ((z >>> ((12 : Int32) &&& 31)) &&& (63 : Int32))).toInt8.toInt32))), (.int w2), (.int w3)] (.int (0 : Int32)) := Arv.set Ar5 q5 S5 M5 H5 G5 (fits_nar_byte _) W5 1 rfl (Nat.le_of_ble_eq_true rfl)
  have N5 := Fr.snoc X5 N1 g_ar
  have Z7 : n0 ≤ hX5.size := Nat.le_trans Z3 (Keep.of_wr W5).1
  have K8 : Keep h0 hX5 [ar] := K4.wr W5 (Or.inl (List.mem_of_getElem? (i := 0) rfl))
  obtain ⟨cl9, Ar9, q9, S9, M9, H9, G9⟩ := id F6
  have hin9 : ¬ ((2 : Int32) < 0 ∨ cl9.slots.size ≤ ((2 : Int32)).toNatClampNeg) := inb_of S9 ⟨by decide, by decide⟩
  obtain ⟨T9, hX9, X9, e9, W9, st9⟩ := stB X5 hx hZ e5 Ar9 (j := (2 : Int32)) hin9 (g := (mkF m 144 #[.val (.int z), .val (.ref ar), .unset] [(.int (((128 : Int32) ||| ((z >>> ((6 : Int32) &&& 31)) &&& (63 : Int32))).toInt8.toInt32)), (.int (2 : Int32)), (.ref ar)])) rfl rfl (hb hby d1_144)
  have F10 : Arv Z hX9 ar ka .byte (4 : Int32) [(.int (nar .byte (((240 : Int32) ||| (z >>> ((18 : Int32) &&& 31))).toInt8.toInt32))), (.int (nar .byte (((128 : Int32) ||| ((z >>> ((12 : Int32) &&& 31)) &&& (63 : Int32))).toInt8.toInt32))), (.int (nar .byte (((128 : Int32) ||| ((z >>> ((6 : Int32) &&& 31)) &&& (63 : Int32))).toInt8.toInt32))), (.int w3)] (.int (0 : Int32)) := Arv.set Ar9 q9 S9 M9 H9 G9 (fits_nar_byte _) W9 2 rfl (Nat.le_of_ble_eq_true rfl)
  have N9 := Fr.snoc X9 N5 g_ar
  have Z11 : n0 ≤ hX9.size := Nat.le_trans Z7 (Keep.of_wr W9).1
  have K12 : Keep h0 hX9 [ar] := K8.wr W9 (Or.inl (List.mem_of_getElem? (i := 0) rfl))
  obtain ⟨cl13, Ar13, q13, S13, M13, H13, G13⟩ := id F10
  have hin13 : ¬ ((3 : Int32) < 0 ∨ cl13.slots.size ≤ ((3 : Int32)).toNatClampNeg) := inb_of S13 ⟨by decide, by decide⟩
  obtain ⟨T13, hX13, X13, e13, W13, st13⟩ := stB X9 hx hZ e9 Ar13 (j := (3 : Int32)) hin13 (g := (mkF m 156 #[.val (.int z), .val (.ref ar), .unset] [(.int (((128 : Int32) ||| (z &&& (63 : Int32))).toInt8.toInt32)), (.int (3 : Int32)), (.ref ar)])) rfl rfl (hb hby d1_156)
  have F14 : Arv Z hX13 ar ka .byte (4 : Int32) [(.int (nar .byte (((240 : Int32) ||| (z >>> ((18 : Int32) &&& 31))).toInt8.toInt32))), (.int (nar .byte (((128 : Int32) ||| ((z >>> ((12 : Int32) &&& 31)) &&& (63 : Int32))).toInt8.toInt32))), (.int (nar .byte (((128 : Int32) ||| ((z >>> ((6 : Int32) &&& 31)) &&& (63 : Int32))).toInt8.toInt32))), (.int (nar .byte (((128 : Int32) ||| (z &&& (63 : Int32))).toInt8.toInt32)))] (.int (0 : Int32)) := Arv.set Ar13 q13 S13 M13 H13 G13 (fits_nar_byte _) W13 3 rfl (Nat.le_of_ble_eq_true rfl)
  have N13 := Fr.snoc X13 N9 g_ar
  have Z15 : n0 ≤ hX13.size := Nat.le_trans Z11 (Keep.of_wr W13).1
  have K16 : Keep h0 hX13 [ar] := K12.wr W13 (Or.inl (List.mem_of_getElem? (i := 0) rfl))
  obtain ⟨fs, hr, hrun, hended, hW, hsame⟩ := X13.leave (v := some (Value.int (4 : Int32))) (fun h => by rw [Bd.returns] at h; cases h)
  refine ⟨_, _, pre0 _ ?_, hrun, hended, _, _, rfl, ?_, ⟨_, rfl⟩, hW, hsame.mono (by decide) (by decide)⟩
  · skip
    show Steps p.tables e below (s₁.setTop (mkF m 0 #[.val (.int z), .val (.ref ar), .unset] [])) _
    refine XS.iloadN X0.here hx rfl (hb hby d1_0) rfl ?_
    show Steps p.tables e below (s₁.setTop (mkF m 1 #[.val (.int z), .val (.ref ar), .unset] [(.int z)])) _
    refine XS.sipush X0.here hx rfl (hb hby d1_1) ?_
    show Steps p.tables e below (s₁.setTop (mkF m 4 #[.val (.int z), .val (.ref ar), .unset] [(.int (128 : Int32)), (.int z)])) _
    refine XS.icmpYes X0.here hx rfl (pc0 := 4) (pc' := 17) rfl (hb hby d1_4) rfl (flt h1).2.1 (by decide) (by decide) ?_
    show Steps p.tables e below (s₁.setTop (mkF m 17 #[.val (.int z), .val (.ref ar), .unset] [])) _
    refine XS.iloadN X0.here hx rfl (hb hby d1_17) rfl ?_
    show Steps p.tables e below (s₁.setTop (mkF m 18 #[.val (.int z), .val (.ref ar), .unset] [(.int z)])) _
    refine XS.sipush X0.here hx rfl (hb hby d1_18) ?_
    show Steps p.tables e below (s₁.setTop (mkF m 21 #[.val (.int z), .val (.ref ar), .unset] [(.int (2048 : Int32)), (.int z)])) _
    refine XS.icmpYes X0.here hx rfl (pc0 := 21) (pc' := 53) rfl (hb hby d1_21) rfl (flt h2).2.1 (by decide) (by decide) ?_
    show Steps p.tables e below (s₁.setTop (mkF m 53 #[.val (.int z), .val (.ref ar), .unset] [])) _
    refine XS.iloadN X0.here hx rfl (hb hby d1_53) rfl ?_
    show Steps p.tables e below (s₁.setTop (mkF m 54 #[.val (.int z), .val (.ref ar), .unset] [(.int z)])) _
    refine X0.ldcInt hx hown (mvT hZ (hw _ (List.mem_of_getElem? (i := 8) rfl))) (g := (mkF m 54 #[.val (.int z), .val (.ref ar), .unset] [(.int z)])) rfl (hb hby d1_54) _ ?_
    show Steps p.tables e below (s₁.setTop (mkF m 56 #[.val (.int z), .val (.ref ar), .unset] [(.int (65536 : Int32)), (.int z)])) _
    refine XS.icmpYes X0.here hx rfl (pc0 := 56) (pc' := 103) rfl (hb hby d1_56) rfl (flt h3).2.1 (by decide) (by decide) ?_
    show Steps p.tables e below (s₁.setTop (mkF m 103 #[.val (.int z), .val (.ref ar), .unset] [])) _
    refine XS.aloadN X0.here hx rfl (hb hby d1_103) rfl rfl ?_
    show Steps p.tables e below (s₁.setTop (mkF m 104 #[.val (.int z), .val (.ref ar), .unset] [(.ref ar)])) _
    refine XS.iconst X0.here hx rfl (hb hby d1_104) ?_
    show Steps p.tables e below (s₁.setTop (mkF m 105 #[.val (.int z), .val (.ref ar), .unset] [(.int (0 : Int32)), (.ref ar)])) _
    refine XS.sipush X0.here hx rfl (hb hby d1_105) ?_
    show Steps p.tables e below (s₁.setTop (mkF m 108 #[.val (.int z), .val (.ref ar), .unset] [(.int (240 : Int32)), (.int (0 : Int32)), (.ref ar)])) _
    refine XS.iloadN X0.here hx rfl (hb hby d1_108) rfl ?_
    show Steps p.tables e below (s₁.setTop (mkF m 109 #[.val (.int z), .val (.ref ar), .unset] [(.int z), (.int (240 : Int32)), (.int (0 : Int32)), (.ref ar)])) _
    refine XS.bipush X0.here hx rfl (hb hby d1_109) ?_
    show Steps p.tables e below (s₁.setTop (mkF m 111 #[.val (.int z), .val (.ref ar), .unset] [(.int (18 : Int32)), (.int z), (.int (240 : Int32)), (.int (0 : Int32)), (.ref ar)])) _
    refine XS.ishr X0.here hx rfl (hb hby d1_111) rfl ?_
    show Steps p.tables e below (s₁.setTop (mkF m 112 #[.val (.int z), .val (.ref ar), .unset] [(.int (z >>> ((18 : Int32) &&& 31))), (.int (240 : Int32)), (.int (0 : Int32)), (.ref ar)])) _
    refine XS.ior X0.here hx rfl (hb hby d1_112) rfl ?_
    show Steps p.tables e below (s₁.setTop (mkF m 113 #[.val (.int z), .val (.ref ar), .unset] [(.int ((240 : Int32) ||| (z >>> ((18 : Int32) &&& 31)))), (.int (0 : Int32)), (.ref ar)])) _
    refine XS.i2b X0.here hx rfl (hb hby d1_113) rfl ?_
    show Steps p.tables e below (s₁.setTop (mkF m 114 #[.val (.int z), .val (.ref ar), .unset] [(.int (((240 : Int32) ||| (z >>> ((18 : Int32) &&& 31))).toInt8.toInt32)), (.int (0 : Int32)), (.ref ar)])) _
    refine st1 _ ?_
    show Steps p.tables e below (T1.setTop (mkF m 115 #[.val (.int z), .val (.ref ar), .unset] [])) _
    refine XS.aloadN X1.here hx rfl (hb hby d1_115) rfl rfl ?_
    show Steps p.tables e below (T1.setTop (mkF m 116 #[.val (.int z), .val (.ref ar), .unset] [(.ref ar)])) _
    refine XS.iconst X1.here hx rfl (hb hby d1_116) ?_
    show Steps p.tables e below (T1.setTop (mkF m 117 #[.val (.int z), .val (.ref ar), .unset] [(.int (1 : Int32)), (.ref ar)])) _
    refine XS.sipush X1.here hx rfl (hb hby d1_117) ?_
    show Steps p.tables e below (T1.setTop (mkF m 120 #[.val (.int z), .val (.ref ar), .unset] [(.int (128 : Int32)), (.int (1 : Int32)), (.ref ar)])) _
    refine XS.iloadN X1.here hx rfl (hb hby d1_120) rfl ?_
    show Steps p.tables e below (T1.setTop (mkF m 121 #[.val (.int z), .val (.ref ar), .unset] [(.int z), (.int (128 : Int32)), (.int (1 : Int32)), (.ref ar)])) _
    refine XS.bipush X1.here hx rfl (hb hby d1_121) ?_
    show Steps p.tables e below (T1.setTop (mkF m 123 #[.val (.int z), .val (.ref ar), .unset] [(.int (12 : Int32)), (.int z), (.int (128 : Int32)), (.int (1 : Int32)), (.ref ar)])) _
    refine XS.ishr X1.here hx rfl (hb hby d1_123) rfl ?_
    show Steps p.tables e below (T1.setTop (mkF m 124 #[.val (.int z), .val (.ref ar), .unset] [(.int (z >>> ((12 : Int32) &&& 31))), (.int (128 : Int32)), (.int (1 : Int32)), (.ref ar)])) _
    refine XS.bipush X1.here hx rfl (hb hby d1_124) ?_
    show Steps p.tables e below (T1.setTop (mkF m 126 #[.val (.int z), .val (.ref ar), .unset] [(.int (63 : Int32)), (.int (z >>> ((12 : Int32) &&& 31))), (.int (128 : Int32)), (.int (1 : Int32)), (.ref ar)])) _
    refine XS.iand X1.here hx rfl (hb hby d1_126) rfl ?_
    show Steps p.tables e below (T1.setTop (mkF m 127 #[.val (.int z), .val (.ref ar), .unset] [(.int ((z >>> ((12 : Int32) &&& 31)) &&& (63 : Int32))), (.int (128 : Int32)), (.int (1 : Int32)), (.ref ar)])) _
    refine XS.ior X1.here hx rfl (hb hby d1_127) rfl ?_
    show Steps p.tables e below (T1.setTop (mkF m 128 #[.val (.int z), .val (.ref ar), .unset] [(.int ((128 : Int32) ||| ((z >>> ((12 : Int32) &&& 31)) &&& (63 : Int32)))), (.int (1 : Int32)), (.ref ar)])) _
    refine XS.i2b X1.here hx rfl (hb hby d1_128) rfl ?_
    show Steps p.tables e below (T1.setTop (mkF m 129 #[.val (.int z), .val (.ref ar), .unset] [(.int (((128 : Int32) ||| ((z >>> ((12 : Int32) &&& 31)) &&& (63 : Int32))).toInt8.toInt32)), (.int (1 : Int32)), (.ref ar)])) _
    refine st5 _ ?_
    show Steps p.tables e below (T5.setTop (mkF m 130 #[.val (.int z), .val (.ref ar), .unset] [])) _
    refine XS.aloadN X5.here hx rfl (hb hby d1_130) rfl rfl ?_
    show Steps p.tables e below (T5.setTop (mkF m 131 #[.val (.int z), .val (.ref ar), .unset] [(.ref ar)])) _
    refine XS.iconst X5.here hx rfl (hb hby d1_131) ?_
    show Steps p.tables e below (T5.setTop (mkF m 132 #[.val (.int z), .val (.ref ar), .unset] [(.int (2 : Int32)), (.ref ar)])) _
    refine XS.sipush X5.here hx rfl (hb hby d1_132) ?_
    show Steps p.tables e below (T5.setTop (mkF m 135 #[.val (.int z), .val (.ref ar), .unset] [(.int (128 : Int32)), (.int (2 : Int32)), (.ref ar)])) _
    refine XS.iloadN X5.here hx rfl (hb hby d1_135) rfl ?_
    show Steps p.tables e below (T5.setTop (mkF m 136 #[.val (.int z), .val (.ref ar), .unset] [(.int z), (.int (128 : Int32)), (.int (2 : Int32)), (.ref ar)])) _
    refine XS.bipush X5.here hx rfl (hb hby d1_136) ?_
    show Steps p.tables e below (T5.setTop (mkF m 138 #[.val (.int z), .val (.ref ar), .unset] [(.int (6 : Int32)), (.int z), (.int (128 : Int32)), (.int (2 : Int32)), (.ref ar)])) _
    refine XS.ishr X5.here hx rfl (hb hby d1_138) rfl ?_
    show Steps p.tables e below (T5.setTop (mkF m 139 #[.val (.int z), .val (.ref ar), .unset] [(.int (z >>> ((6 : Int32) &&& 31))), (.int (128 : Int32)), (.int (2 : Int32)), (.ref ar)])) _
    refine XS.bipush X5.here hx rfl (hb hby d1_139) ?_
    show Steps p.tables e below (T5.setTop (mkF m 141 #[.val (.int z), .val (.ref ar), .unset] [(.int (63 : Int32)), (.int (z >>> ((6 : Int32) &&& 31))), (.int (128 : Int32)), (.int (2 : Int32)), (.ref ar)])) _
    refine XS.iand X5.here hx rfl (hb hby d1_141) rfl ?_
    show Steps p.tables e below (T5.setTop (mkF m 142 #[.val (.int z), .val (.ref ar), .unset] [(.int ((z >>> ((6 : Int32) &&& 31)) &&& (63 : Int32))), (.int (128 : Int32)), (.int (2 : Int32)), (.ref ar)])) _
    refine XS.ior X5.here hx rfl (hb hby d1_142) rfl ?_
    show Steps p.tables e below (T5.setTop (mkF m 143 #[.val (.int z), .val (.ref ar), .unset] [(.int ((128 : Int32) ||| ((z >>> ((6 : Int32) &&& 31)) &&& (63 : Int32)))), (.int (2 : Int32)), (.ref ar)])) _
    refine XS.i2b X5.here hx rfl (hb hby d1_143) rfl ?_
    show Steps p.tables e below (T5.setTop (mkF m 144 #[.val (.int z), .val (.ref ar), .unset] [(.int (((128 : Int32) ||| ((z >>> ((6 : Int32) &&& 31)) &&& (63 : Int32))).toInt8.toInt32)), (.int (2 : Int32)), (.ref ar)])) _
    refine st9 _ ?_
    show Steps p.tables e below (T9.setTop (mkF m 145 #[.val (.int z), .val (.ref ar), .unset] [])) _
    refine XS.aloadN X9.here hx rfl (hb hby d1_145) rfl rfl ?_
    show Steps p.tables e below (T9.setTop (mkF m 146 #[.val (.int z), .val (.ref ar), .unset] [(.ref ar)])) _
    refine XS.iconst X9.here hx rfl (hb hby d1_146) ?_
    show Steps p.tables e below (T9.setTop (mkF m 147 #[.val (.int z), .val (.ref ar), .unset] [(.int (3 : Int32)), (.ref ar)])) _
    refine XS.sipush X9.here hx rfl (hb hby d1_147) ?_
    show Steps p.tables e below (T9.setTop (mkF m 150 #[.val (.int z), .val (.ref ar), .unset] [(.int (128 : Int32)), (.int (3 : Int32)), (.ref ar)])) _
    refine XS.iloadN X9.here hx rfl (hb hby d1_150) rfl ?_
    show Steps p.tables e below (T9.setTop (mkF m 151 #[.val (.int z), .val (.ref ar), .unset] [(.int z), (.int (128 : Int32)), (.int (3 : Int32)), (.ref ar)])) _
    refine XS.bipush X9.here hx rfl (hb hby d1_151) ?_
    show Steps p.tables e below (T9.setTop (mkF m 153 #[.val (.int z), .val (.ref ar), .unset] [(.int (63 : Int32)), (.int z), (.int (128 : Int32)), (.int (3 : Int32)), (.ref ar)])) _
    refine XS.iand X9.here hx rfl (hb hby d1_153) rfl ?_
    show Steps p.tables e below (T9.setTop (mkF m 154 #[.val (.int z), .val (.ref ar), .unset] [(.int (z &&& (63 : Int32))), (.int (128 : Int32)), (.int (3 : Int32)), (.ref ar)])) _
    refine XS.ior X9.here hx rfl (hb hby d1_154) rfl ?_
    show Steps p.tables e below (T9.setTop (mkF m 155 #[.val (.int z), .val (.ref ar), .unset] [(.int ((128 : Int32) ||| (z &&& (63 : Int32)))), (.int (3 : Int32)), (.ref ar)])) _
    refine XS.i2b X9.here hx rfl (hb hby d1_155) rfl ?_
    show Steps p.tables e below (T9.setTop (mkF m 156 #[.val (.int z), .val (.ref ar), .unset] [(.int (((128 : Int32) ||| (z &&& (63 : Int32))).toInt8.toInt32)), (.int (3 : Int32)), (.ref ar)])) _
    refine st13 _ ?_
    show Steps p.tables e below (T13.setTop (mkF m 157 #[.val (.int z), .val (.ref ar), .unset] [])) _
    refine XS.iconst X13.here hx rfl (hb hby d1_157) ?_
    show Steps p.tables e below (T13.setTop (mkF m 158 #[.val (.int z), .val (.ref ar), .unset] [(.int (4 : Int32))])) _
    refine XS.istoreN X13.here hx rfl (hb hby d1_158) rfl (l' := #[.val (.int z), .val (.ref ar), .val (.int (4 : Int32))]) rfl ?_
    show Steps p.tables e below (T13.setTop (mkF m 159 #[.val (.int z), .val (.ref ar), .val (.int (4 : Int32))] [])) _
    refine XS.iloadN X13.here hx rfl (hb hby d1_159) rfl ?_
    show Steps p.tables e below (T13.setTop (mkF m 160 #[.val (.int z), .val (.ref ar), .val (.int (4 : Int32))] [(.int (4 : Int32))])) _
    exact retI X13 hx Bd.returns (hb hby d1_160) hr
  · show Q1_3 Z z ar ka w0 w1 w2 w3 h0 n0 _ T13.heap _
    rw [e13]
    exact ⟨rfl, N13, K16, F14⟩
theorem pn_0 : plainName "com/example/marcotte/marcotte/XmlCharactersWriteUtf8PinLaw" = true := by first | (simp [plainName, overriddenIn]; done) | decide +kernel
theorem pd_0 : parseMethodDescriptor "(I[B)I" = some ⟨[.int, (.array .byte)], some .int⟩ := by decide +kernel
theorem ef_0 (m : MethodId) (x0 : Int32) (x1 : Int32) (x2 : Int32) : entryFrame m #[(.int x0), (.int x1), (.int x2)] maxLocals = mkF m 0 #[.val (.int x0), .val (.int x1), .val (.int x2), .unset, .unset, .unset, .unset, .unset, .unset, .unset, .unset, .unset, .unset, .unset, .unset, .unset] [] := by first | (simp [entryFrame, mkF, argsToLocals, Value.category, maxLocals]; done) | rfl
theorem own_split_0_10 (k1 : Int32) (k2 : Int32) (k3 : Int32) (v4 : Int32) (hv4 : v4 = (k1 &&& (2147483647 : Int32))) (v8 : Int32) (hv8 : v8 = (k2 &&& (3 : Int32))) : v8 = (0 : Int32) ∨ v8 = (1 : Int32) ∨ v8 = (2 : Int32) ∨ v8 = (3 : Int32) := by rw [hv8]; exact own_m3 k2
theorem own_pre_0_133_h1_s0 (k1 : Int32) (k2 : Int32) (k3 : Int32) (v4 : Int32) (hv4 : v4 = (k1 &&& (2147483647 : Int32))) (hv8 : (0 : Int32) = (k2 &&& (3 : Int32))) (v19 : Int32) (hv19 : v19 = (v4 &&& (127 : Int32))) (v98 : Int32) (hv98 : v98 = (k3.toInt8.toInt32)) : v19 < (128 : Int32) := by
  have hh := own_cp0 v4
  rw [← hv19] at hh
  exact own_lt_of _ _ 128 rfl (by rw [own_toInt _ (by omega)]; omega)
theorem own_leaf_0_552_s0f (k1 : Int32) (k2 : Int32) (k3 : Int32) (v4 : Int32) (hv4 : v4 = (k1 &&& (2147483647 : Int32))) (hv8 : (0 : Int32) = (k2 &&& (3 : Int32))) (v19 : Int32) (hv19 : v19 = (v4 &&& (127 : Int32))) (v98 : Int32) (hv98 : v98 = (k3.toInt8.toInt32)) (hp23_h1 : v19 < (128 : Int32)) (v199 : Int32) (hv199 : v199 = ((nar .byte (v19.toInt8.toInt32)) &&& (255 : Int32))) (v209 : Int32) (hv209 : v209 = ((nar .byte v98) &&& (255 : Int32))) (v219 : Int32) (hv219 : v219 = ((nar .byte v98) &&& (255 : Int32))) (v229 : Int32) (hv229 : v229 = ((nar .byte v98) &&& (255 : Int32))) (m249 : Int32) (hm249 : m249 = (if v199 = v19 then (1 : Int32) else (0 : Int32))) (hc497_35 : (nar .byte v98) = v98) (m552 : Int32) (hm552 : m552 = (if m249 = (0 : Int32) then (0 : Int32) else (1 : Int32))) : (nar .boolean m552) = (1 : Int32) := by
  have hh := own_cp0 v4
  rw [← hv19] at hh
  have e := own_onebyte v19 v199 hh hv199
  rw [hm552, hm249, if_pos e]; rfl
theorem own_leaf_0_552_s0t (k1 : Int32) (k2 : Int32) (k3 : Int32) (v4 : Int32) (hv4 : v4 = (k1 &&& (2147483647 : Int32))) (hv8 : (0 : Int32) = (k2 &&& (3 : Int32))) (v19 : Int32) (hv19 : v19 = (v4 &&& (127 : Int32))) (v98 : Int32) (hv98 : v98 = (k3.toInt8.toInt32)) (hp23_h1 : v19 < (128 : Int32)) (v199 : Int32) (hv199 : v199 = ((nar .byte (v19.toInt8.toInt32)) &&& (255 : Int32))) (v209 : Int32) (hv209 : v209 = ((nar .byte v98) &&& (255 : Int32))) (v219 : Int32) (hv219 : v219 = ((nar .byte v98) &&& (255 : Int32))) (v229 : Int32) (hv229 : v229 = ((nar .byte v98) &&& (255 : Int32))) (m249 : Int32) (hm249 : m249 = (if v199 = v19 then (1 : Int32) else (0 : Int32))) (hc497_35 : ¬ ((nar .byte v98) = v98)) : (0 : Int32) = (1 : Int32) := absurd (show nar .byte v98 = v98 by rw [hv98]; exact own_byte2 k3) (by assumption)
theorem own_pre_0_133_h1_s1 (k1 : Int32) (k2 : Int32) (k3 : Int32) (v4 : Int32) (hv4 : v4 = (k1 &&& (2147483647 : Int32))) (hv8 : (1 : Int32) = (k2 &&& (3 : Int32))) (v39 : Int32) (hv39 : v39 = ((128 : Int32) + (v4 % (1920 : Int32)))) (v98 : Int32) (hv98 : v98 = (k3.toInt8.toInt32)) : ¬ (v39 < (128 : Int32)) := by
  have bb := own_addrem k1 (128 : Int32) (1920 : Int32) 1920 128 rfl rfl (by decide) (by decide) (by decide)
  rw [← hv4, ← hv39] at bb
  exact own_ge_of _ _ 128 rfl (by omega)
theorem own_pre_0_133_h2_s1 (k1 : Int32) (k2 : Int32) (k3 : Int32) (v4 : Int32) (hv4 : v4 = (k1 &&& (2147483647 : Int32))) (hv8 : (1 : Int32) = (k2 &&& (3 : Int32))) (v39 : Int32) (hv39 : v39 = ((128 : Int32) + (v4 % (1920 : Int32)))) (v98 : Int32) (hv98 : v98 = (k3.toInt8.toInt32)) (hp64_h1 : ¬ (v39 < (128 : Int32))) : v39 < (2048 : Int32) := by
  have bb := own_addrem k1 (128 : Int32) (1920 : Int32) 1920 128 rfl rfl (by decide) (by decide) (by decide)
  rw [← hv4, ← hv39] at bb
  exact own_lt_of _ _ 2048 rfl (by omega)
theorem own_leaf_0_552_s1f (k1 : Int32) (k2 : Int32) (k3 : Int32) (v4 : Int32) (hv4 : v4 = (k1 &&& (2147483647 : Int32))) (hv8 : (1 : Int32) = (k2 &&& (3 : Int32))) (v39 : Int32) (hv39 : v39 = ((128 : Int32) + (v4 % (1920 : Int32)))) (v98 : Int32) (hv98 : v98 = (k3.toInt8.toInt32)) (hp64_h1 : ¬ (v39 < (128 : Int32))) (hp64_h2 : v39 < (2048 : Int32)) (v199 : Int32) (hv199 : v199 = ((nar .byte (((192 : Int32) ||| (v39 >>> ((6 : Int32) &&& 31))).toInt8.toInt32)) &&& (255 : Int32))) (v209 : Int32) (hv209 : v209 = ((nar .byte (((128 : Int32) ||| (v39 &&& (63 : Int32))).toInt8.toInt32)) &&& (255 : Int32))) (v219 : Int32) (hv219 : v219 = ((nar .byte v98) &&& (255 : Int32))) (v229 : Int32) (hv229 : v229 = ((nar .byte v98) &&& (255 : Int32))) (m308 : Int32) (hm308 : m308 = (if (v199 &&& (224 : Int32)) = (192 : Int32) then (if (v209 &&& (192 : Int32)) = (128 : Int32) then (if (((v199 &&& (31 : Int32)) <<< ((6 : Int32) &&& 31)) ||| (v209 &&& (63 : Int32))) = v39 then (1 : Int32) else (0 : Int32)) else (0 : Int32)) else (0 : Int32))) (hc512_78 : (nar .byte v98) = v98) (m552 : Int32) (hm552 : m552 = (if m308 = (0 : Int32) then (0 : Int32) else (1 : Int32))) : (nar .boolean m552) = (1 : Int32) := by
  have bb := own_addrem k1 (128 : Int32) (1920 : Int32) 1920 128 rfl rfl (by decide) (by decide) (by decide)
  rw [← hv4, ← hv39] at bb
  have nn := own_nat v39 (by omega)
  obtain ⟨e1, e2, e3⟩ := own_two v39 v199 v209 (by omega) hv199 hv209
  rw [hm552, hm308, if_pos e1, if_pos e2, if_pos e3]; rfl
theorem own_leaf_0_552_s1t (k1 : Int32) (k2 : Int32) (k3 : Int32) (v4 : Int32) (hv4 : v4 = (k1 &&& (2147483647 : Int32))) (hv8 : (1 : Int32) = (k2 &&& (3 : Int32))) (v39 : Int32) (hv39 : v39 = ((128 : Int32) + (v4 % (1920 : Int32)))) (v98 : Int32) (hv98 : v98 = (k3.toInt8.toInt32)) (hp64_h1 : ¬ (v39 < (128 : Int32))) (hp64_h2 : v39 < (2048 : Int32)) (v199 : Int32) (hv199 : v199 = ((nar .byte (((192 : Int32) ||| (v39 >>> ((6 : Int32) &&& 31))).toInt8.toInt32)) &&& (255 : Int32))) (v209 : Int32) (hv209 : v209 = ((nar .byte (((128 : Int32) ||| (v39 &&& (63 : Int32))).toInt8.toInt32)) &&& (255 : Int32))) (v219 : Int32) (hv219 : v219 = ((nar .byte v98) &&& (255 : Int32))) (v229 : Int32) (hv229 : v229 = ((nar .byte v98) &&& (255 : Int32))) (m308 : Int32) (hm308 : m308 = (if (v199 &&& (224 : Int32)) = (192 : Int32) then (if (v209 &&& (192 : Int32)) = (128 : Int32) then (if (((v199 &&& (31 : Int32)) <<< ((6 : Int32) &&& 31)) ||| (v209 &&& (63 : Int32))) = v39 then (1 : Int32) else (0 : Int32)) else (0 : Int32)) else (0 : Int32))) (hc512_78 : ¬ ((nar .byte v98) = v98)) : (0 : Int32) = (1 : Int32) := absurd (show nar .byte v98 = v98 by rw [hv98]; exact own_byte2 k3) (by assumption)
theorem own_pre_0_133_h1_s2 (k1 : Int32) (k2 : Int32) (k3 : Int32) (v4 : Int32) (hv4 : v4 = (k1 &&& (2147483647 : Int32))) (hv8 : (2 : Int32) = (k2 &&& (3 : Int32))) (v58 : Int32) (hv58 : v58 = ((2048 : Int32) + (v4 % (63488 : Int32)))) (m96_l5 : Int32) (hm96_l5 : m96_l5 = (if v58 < (55296 : Int32) then v58 else (if (57343 : Int32) < v58 then v58 else ((v58 - (55296 : Int32)) + (57344 : Int32))))) (v98 : Int32) (hv98 : v98 = (k3.toInt8.toInt32)) : ¬ (m96_l5 < (128 : Int32)) := by
  have bb := own_addrem k1 (2048 : Int32) (63488 : Int32) 63488 2048 rfl rfl (by decide) (by decide) (by decide)
  rw [← hv4, ← hv58] at bb
  have bc := own_surr v58 bb.1 (by omega)
  rw [← hm96_l5] at bc
  exact own_ge_of _ _ 128 rfl (by omega)
theorem own_pre_0_133_h2_s2 (k1 : Int32) (k2 : Int32) (k3 : Int32) (v4 : Int32) (hv4 : v4 = (k1 &&& (2147483647 : Int32))) (hv8 : (2 : Int32) = (k2 &&& (3 : Int32))) (v58 : Int32) (hv58 : v58 = ((2048 : Int32) + (v4 % (63488 : Int32)))) (m96_l5 : Int32) (hm96_l5 : m96_l5 = (if v58 < (55296 : Int32) then v58 else (if (57343 : Int32) < v58 then v58 else ((v58 - (55296 : Int32)) + (57344 : Int32))))) (v98 : Int32) (hv98 : v98 = (k3.toInt8.toInt32)) (hp109_h1 : ¬ (m96_l5 < (128 : Int32))) : ¬ (m96_l5 < (2048 : Int32)) := by
  have bb := own_addrem k1 (2048 : Int32) (63488 : Int32) 63488 2048 rfl rfl (by decide) (by decide) (by decide)
  rw [← hv4, ← hv58] at bb
  have bc := own_surr v58 bb.1 (by omega)
  rw [← hm96_l5] at bc
  exact own_ge_of _ _ 2048 rfl (by omega)
theorem own_pre_0_133_h3_s2 (k1 : Int32) (k2 : Int32) (k3 : Int32) (v4 : Int32) (hv4 : v4 = (k1 &&& (2147483647 : Int32))) (hv8 : (2 : Int32) = (k2 &&& (3 : Int32))) (v58 : Int32) (hv58 : v58 = ((2048 : Int32) + (v4 % (63488 : Int32)))) (m96_l5 : Int32) (hm96_l5 : m96_l5 = (if v58 < (55296 : Int32) then v58 else (if (57343 : Int32) < v58 then v58 else ((v58 - (55296 : Int32)) + (57344 : Int32))))) (v98 : Int32) (hv98 : v98 = (k3.toInt8.toInt32)) (hp109_h1 : ¬ (m96_l5 < (128 : Int32))) (hp109_h2 : ¬ (m96_l5 < (2048 : Int32))) : m96_l5 < (65536 : Int32) := by
  have bb := own_addrem k1 (2048 : Int32) (63488 : Int32) 63488 2048 rfl rfl (by decide) (by decide) (by decide)
  rw [← hv4, ← hv58] at bb
  have bc := own_surr v58 bb.1 (by omega)
  rw [← hm96_l5] at bc
  exact own_lt_of _ _ 65536 rfl (by omega)
theorem own_leaf_0_552_s2 (k1 : Int32) (k2 : Int32) (k3 : Int32) (v4 : Int32) (hv4 : v4 = (k1 &&& (2147483647 : Int32))) (hv8 : (2 : Int32) = (k2 &&& (3 : Int32))) (v58 : Int32) (hv58 : v58 = ((2048 : Int32) + (v4 % (63488 : Int32)))) (m96_l5 : Int32) (hm96_l5 : m96_l5 = (if v58 < (55296 : Int32) then v58 else (if (57343 : Int32) < v58 then v58 else ((v58 - (55296 : Int32)) + (57344 : Int32))))) (v98 : Int32) (hv98 : v98 = (k3.toInt8.toInt32)) (hp109_h1 : ¬ (m96_l5 < (128 : Int32))) (hp109_h2 : ¬ (m96_l5 < (2048 : Int32))) (hp109_h3 : m96_l5 < (65536 : Int32)) (v199 : Int32) (hv199 : v199 = ((nar .byte (((224 : Int32) ||| (m96_l5 >>> ((12 : Int32) &&& 31))).toInt8.toInt32)) &&& (255 : Int32))) (v209 : Int32) (hv209 : v209 = ((nar .byte (((128 : Int32) ||| ((m96_l5 >>> ((6 : Int32) &&& 31)) &&& (63 : Int32))).toInt8.toInt32)) &&& (255 : Int32))) (v219 : Int32) (hv219 : v219 = ((nar .byte (((128 : Int32) ||| (m96_l5 &&& (63 : Int32))).toInt8.toInt32)) &&& (255 : Int32))) (v229 : Int32) (hv229 : v229 = ((nar .byte v98) &&& (255 : Int32))) (m388 : Int32) (hm388 : m388 = (if (v199 &&& (240 : Int32)) = (224 : Int32) then (if (v209 &&& (192 : Int32)) = (128 : Int32) then (if (v219 &&& (192 : Int32)) = (128 : Int32) then (if ((((v199 &&& (15 : Int32)) <<< ((12 : Int32) &&& 31)) ||| ((v209 &&& (63 : Int32)) <<< ((6 : Int32) &&& 31))) ||| (v219 &&& (63 : Int32))) = m96_l5 then (1 : Int32) else (0 : Int32)) else (0 : Int32)) else (0 : Int32)) else (0 : Int32))) (m535 : Int32) (hm535 : m535 = (if (nar .byte v98) = v98 then (1 : Int32) else (0 : Int32))) (m552 : Int32) (hm552 : m552 = (if m388 = (0 : Int32) then (0 : Int32) else (if m535 = (0 : Int32) then (0 : Int32) else (1 : Int32)))) : (nar .boolean m552) = (1 : Int32) := by
  have bb := own_addrem k1 (2048 : Int32) (63488 : Int32) 63488 2048 rfl rfl (by decide) (by decide) (by decide)
  rw [← hv4, ← hv58] at bb
  have bc := own_surr v58 bb.1 (by omega)
  rw [← hm96_l5] at bc
  have nn := own_nat m96_l5 (by omega)
  obtain ⟨e1, e2, e3, e4⟩ := own_three m96_l5 v199 v209 v219 (by omega) hv199 hv209 hv219
  have eb : nar .byte v98 = v98 := by rw [hv98]; exact own_byte2 k3
  rw [hm552, hm535, hm388, if_pos e1, if_pos e2, if_pos e3, if_pos e4, if_pos eb]; rfl
theorem own_pre_0_133_h1_s3 (k1 : Int32) (k2 : Int32) (k3 : Int32) (v4 : Int32) (hv4 : v4 = (k1 &&& (2147483647 : Int32))) (hv8 : (3 : Int32) = (k2 &&& (3 : Int32))) (v94 : Int32) (hv94 : v94 = ((65536 : Int32) + (v4 % (1048576 : Int32)))) (v98 : Int32) (hv98 : v98 = (k3.toInt8.toInt32)) : ¬ (v94 < (128 : Int32)) := by
  have bb := own_addrem k1 (65536 : Int32) (1048576 : Int32) 1048576 65536 rfl rfl (by decide) (by decide) (by decide)
  rw [← hv4, ← hv94] at bb
  exact own_ge_of _ _ 128 rfl (by omega)
theorem own_pre_0_133_h2_s3 (k1 : Int32) (k2 : Int32) (k3 : Int32) (v4 : Int32) (hv4 : v4 = (k1 &&& (2147483647 : Int32))) (hv8 : (3 : Int32) = (k2 &&& (3 : Int32))) (v94 : Int32) (hv94 : v94 = ((65536 : Int32) + (v4 % (1048576 : Int32)))) (v98 : Int32) (hv98 : v98 = (k3.toInt8.toInt32)) (hp149_h1 : ¬ (v94 < (128 : Int32))) : ¬ (v94 < (2048 : Int32)) := by
  have bb := own_addrem k1 (65536 : Int32) (1048576 : Int32) 1048576 65536 rfl rfl (by decide) (by decide) (by decide)
  rw [← hv4, ← hv94] at bb
  exact own_ge_of _ _ 2048 rfl (by omega)
theorem own_pre_0_133_h3_s3 (k1 : Int32) (k2 : Int32) (k3 : Int32) (v4 : Int32) (hv4 : v4 = (k1 &&& (2147483647 : Int32))) (hv8 : (3 : Int32) = (k2 &&& (3 : Int32))) (v94 : Int32) (hv94 : v94 = ((65536 : Int32) + (v4 % (1048576 : Int32)))) (v98 : Int32) (hv98 : v98 = (k3.toInt8.toInt32)) (hp149_h1 : ¬ (v94 < (128 : Int32))) (hp149_h2 : ¬ (v94 < (2048 : Int32))) : ¬ (v94 < (65536 : Int32)) := by
  have bb := own_addrem k1 (65536 : Int32) (1048576 : Int32) 1048576 65536 rfl rfl (by decide) (by decide) (by decide)
  rw [← hv4, ← hv94] at bb
  exact own_ge_of _ _ 65536 rfl (by omega)
theorem own_leaf_0_552_s3 (k1 : Int32) (k2 : Int32) (k3 : Int32) (v4 : Int32) (hv4 : v4 = (k1 &&& (2147483647 : Int32))) (hv8 : (3 : Int32) = (k2 &&& (3 : Int32))) (v94 : Int32) (hv94 : v94 = ((65536 : Int32) + (v4 % (1048576 : Int32)))) (v98 : Int32) (hv98 : v98 = (k3.toInt8.toInt32)) (hp149_h1 : ¬ (v94 < (128 : Int32))) (hp149_h2 : ¬ (v94 < (2048 : Int32))) (hp149_h3 : ¬ (v94 < (65536 : Int32))) (v199 : Int32) (hv199 : v199 = ((nar .byte (((240 : Int32) ||| (v94 >>> ((18 : Int32) &&& 31))).toInt8.toInt32)) &&& (255 : Int32))) (v209 : Int32) (hv209 : v209 = ((nar .byte (((128 : Int32) ||| ((v94 >>> ((12 : Int32) &&& 31)) &&& (63 : Int32))).toInt8.toInt32)) &&& (255 : Int32))) (v219 : Int32) (hv219 : v219 = ((nar .byte (((128 : Int32) ||| ((v94 >>> ((6 : Int32) &&& 31)) &&& (63 : Int32))).toInt8.toInt32)) &&& (255 : Int32))) (v229 : Int32) (hv229 : v229 = ((nar .byte (((128 : Int32) ||| (v94 &&& (63 : Int32))).toInt8.toInt32)) &&& (255 : Int32))) (m483 : Int32) (hm483 : m483 = (if (v199 &&& (248 : Int32)) = (240 : Int32) then (if (v209 &&& (192 : Int32)) = (128 : Int32) then (if (v219 &&& (192 : Int32)) = (128 : Int32) then (if (v229 &&& (192 : Int32)) = (128 : Int32) then (if (((((v199 &&& (7 : Int32)) <<< ((18 : Int32) &&& 31)) ||| ((v209 &&& (63 : Int32)) <<< ((12 : Int32) &&& 31))) ||| ((v219 &&& (63 : Int32)) <<< ((6 : Int32) &&& 31))) ||| (v229 &&& (63 : Int32))) = v94 then (1 : Int32) else (0 : Int32)) else (0 : Int32)) else (0 : Int32)) else (0 : Int32)) else (0 : Int32))) (m552 : Int32) (hm552 : m552 = (if m483 = (0 : Int32) then (0 : Int32) else (1 : Int32))) : (nar .boolean m552) = (1 : Int32) := by
  have bb := own_addrem k1 (65536 : Int32) (1048576 : Int32) 1048576 65536 rfl rfl (by decide) (by decide) (by decide)
  rw [← hv4, ← hv94] at bb
  have nn := own_nat v94 (by omega)
  obtain ⟨e1, e2, e3, e4, e5⟩ := own_four v94 v199 v209 v219 v229 (by omega) hv199 hv209 hv219 hv229
  rw [hm552, hm483, if_pos e1, if_pos e2, if_pos e3, if_pos e4, if_pos e5]; rfl
def Q0 (Z : State) (k1 : Int32) (k2 : Int32) (k3 : Int32) (h0 : Heap) (n0 : Nat) (v : Option Value) (h : Heap) (L : List Loc) : Prop := v = some (.int (1 : Int32)) ∧ Fr n0 L
set_option maxRecDepth 65536 in
set_option maxHeartbeats 40000000 in
theorem rm0 (l : Launch) (Z : State) (a0 : Array Value) (hw : ∀ d ∈ tables_1, d.before a0 Z = true) (ws : List Jvm.Cond) (k1 : Int32) (k2 : Int32) (k3 : Int32) (h0 : Heap) (n0 : Nat) (Z0 : n0 ≤ h0.size)  :
    MetFree l x (head1 (Jvm.Cond.code x code maxLocals ret :: ws) room_1) (fun a U => a = #[(.int k1), (.int k2), (.int k3)] ∧ Z.Warmed39 U.vm ∧ U.heap = h0) (fun _ _ _ _ _ => True) (fun _ U o U' => ∃ v L, o = .returned v ∧ Q0 Z k1 k2 k3 h0 n0 v U'.heap L ∧ FrameEnd U o U' L room_1.cells room_1.slots) := by
  refine MetFree.of_bodySF (plainFor_of_name pn_0) hisR ?_
  intro p e s m args below meth c s₁ Bd hml0 hP hK
  obtain ⟨rfl, hZ, hh⟩ := hP
  have hx := Bd.exec
  have hby := Bd.bytes
  have hml : c.maxLocals = 16 := hml0
  have hown : s.vm.findClass "com/example/marcotte/marcotte/XmlCharactersWriteUtf8PinLaw" = some m.cls := findClass_of_methodNamed Bd.named
  have hnm := (name_of_methodNamed Bd.named Bd.method).1
  have X0 : Stand p l e room_1 s m #[(.int k1), (.int k2), (.int k3)] below meth c s₁ [] 0 0 := Stand.of_body Bd
  have e0 : s₁.heap = h0 := by rw [← hh, Bd.state]; rfl
  have N0 := Fr.nil n0
  have K0 : Keep h0 h0 [] := Keep.refl h0 _
  have pre0 : ∀ tq, Steps p.tables e below (s₁.setTop (mkF m 0 #[.val (.int k1), .val (.int k2), .val (.int k3), .unset, .unset, .unset, .unset, .unset, .unset, .unset, .unset, .unset, .unset, .unset, .unset, .unset] [])) tq → Steps p.tables e below (s₁.setTop (entryFrame m #[(.int k1), (.int k2), (.int k3)] maxLocals)) tq := fun tq kq => castTop (ef_0 m k1 k2 k3) kq
  obtain ⟨v4, hv4⟩ : ∃ z_q : Int32, z_q = (k1 &&& (2147483647 : Int32)) := ⟨_, rfl⟩
  obtain ⟨v8, hv8⟩ : ∃ z_q : Int32, z_q = (k2 &&& (3 : Int32)) := ⟨_, rfl⟩
  have pre1 : ∀ tq, Steps p.tables e below (s₁.setTop (mkF m 10 #[.val (.int k1), .val (.int k2), .val (.int k3), .val (.int v4), .val (.int v8), .unset, .unset, .unset, .unset, .unset, .unset, .unset, .unset, .unset, .unset, .unset] [])) tq → Steps p.tables e below (s₁.setTop (entryFrame m #[(.int k1), (.int k2), (.int k3)] maxLocals)) tq := by
    intro tq kt
    refine pre0 _ ?_
    show Steps p.tables e below (s₁.setTop (mkF m 0 #[.val (.int k1), .val (.int k2), .val (.int k3), .unset, .unset, .unset, .unset, .unset, .unset, .unset, .unset, .unset, .unset, .unset, .unset, .unset] [])) _
    refine XS.iloadN X0.here hx rfl (hb hby at_0) rfl ?_
    show Steps p.tables e below (s₁.setTop (mkF m 1 #[.val (.int k1), .val (.int k2), .val (.int k3), .unset, .unset, .unset, .unset, .unset, .unset, .unset, .unset, .unset, .unset, .unset, .unset, .unset] [(.int k1)])) _
    refine X0.ldcInt hx hown (mvT hZ (hw _ (List.mem_of_getElem? (i := 0) rfl))) (g := (mkF m 1 #[.val (.int k1), .val (.int k2), .val (.int k3), .unset, .unset, .unset, .unset, .unset, .unset, .unset, .unset, .unset, .unset, .unset, .unset, .unset] [(.int k1)])) rfl (hb hby at_1) _ ?_
    show Steps p.tables e below (s₁.setTop (mkF m 3 #[.val (.int k1), .val (.int k2), .val (.int k3), .unset, .unset, .unset, .unset, .unset, .unset, .unset, .unset, .unset, .unset, .unset, .unset, .unset] [(.int (2147483647 : Int32)), (.int k1)])) _
    refine XS.iand X0.here hx rfl (hb hby at_3) rfl ?_
    show Steps p.tables e below (s₁.setTop (mkF m 4 #[.val (.int k1), .val (.int k2), .val (.int k3), .unset, .unset, .unset, .unset, .unset, .unset, .unset, .unset, .unset, .unset, .unset, .unset, .unset] [(.int (k1 &&& (2147483647 : Int32)))])) _
    refine XS.istoreN X0.here hx rfl (hb hby at_4) rfl (l' := #[.val (.int k1), .val (.int k2), .val (.int k3), .val (.int v4), .unset, .unset, .unset, .unset, .unset, .unset, .unset, .unset, .unset, .unset, .unset, .unset]) (by rw [hv4]; rfl) ?_
    show Steps p.tables e below (s₁.setTop (mkF m 5 #[.val (.int k1), .val (.int k2), .val (.int k3), .val (.int v4), .unset, .unset, .unset, .unset, .unset, .unset, .unset, .unset, .unset, .unset, .unset, .unset] [])) _
    refine XS.iloadN X0.here hx rfl (hb hby at_5) rfl ?_
    show Steps p.tables e below (s₁.setTop (mkF m 6 #[.val (.int k1), .val (.int k2), .val (.int k3), .val (.int v4), .unset, .unset, .unset, .unset, .unset, .unset, .unset, .unset, .unset, .unset, .unset, .unset] [(.int k2)])) _
    refine XS.iconst X0.here hx rfl (hb hby at_6) ?_
    show Steps p.tables e below (s₁.setTop (mkF m 7 #[.val (.int k1), .val (.int k2), .val (.int k3), .val (.int v4), .unset, .unset, .unset, .unset, .unset, .unset, .unset, .unset, .unset, .unset, .unset, .unset] [(.int (3 : Int32)), (.int k2)])) _
    refine XS.iand X0.here hx rfl (hb hby at_7) rfl ?_
    show Steps p.tables e below (s₁.setTop (mkF m 8 #[.val (.int k1), .val (.int k2), .val (.int k3), .val (.int v4), .unset, .unset, .unset, .unset, .unset, .unset, .unset, .unset, .unset, .unset, .unset, .unset] [(.int (k2 &&& (3 : Int32)))])) _
    refine XS.istore X0.here hx rfl (hb hby at_8) rfl (l' := #[.val (.int k1), .val (.int k2), .val (.int k3), .val (.int v4), .val (.int v8), .unset, .unset, .unset, .unset, .unset, .unset, .unset, .unset, .unset, .unset, .unset]) (by rw [hv8]; rfl) ?_
    show Steps p.tables e below (s₁.setTop (mkF m 10 #[.val (.int k1), .val (.int k2), .val (.int k3), .val (.int v4), .val (.int v8), .unset, .unset, .unset, .unset, .unset, .unset, .unset, .unset, .unset, .unset, .unset] [])) _
    exact kt
  rcases (own_split_0_10 k1 k2 k3 v4 hv4 v8 hv8) with hs2 | hs2 | hs2 | hs2
  · subst hs2
    obtain ⟨v19, hv19⟩ : ∃ z_q : Int32, z_q = (v4 &&& (127 : Int32)) := ⟨_, rfl⟩
    obtain ⟨v98, hv98⟩ : ∃ z_q : Int32, z_q = (k3.toInt8.toInt32) := ⟨_, rfl⟩
    obtain ⟨T3, hX3, kx3, X3, e3, E3, A3, st3⟩ := newP X0 hx hZ (hw _ (List.mem_of_getElem? (i := 3) rfl)) e0 (g := (mkF m 101 #[.val (.int k1), .val (.int k2), .val (.int k3), .val (.int v4), .val (.int (0 : Int32)), .val (.int v19), .val (.int v98), .unset, .unset, .unset, .unset, .unset, .unset, .unset, .unset, .unset] [(.int (4 : Int32))])) rfl (hb hby at_101) rfl (by decide) (cap := 4) (by decide) (by decide) (by decide) (by decide)
    obtain ⟨b3, g3⟩ : ∃ z_q, z_q = h0.size := ⟨_, rfl⟩
    rw [← g3] at A3 st3
    have g_b3 : n0 ≤ b3 := Nat.le_trans Z0 (Nat.le_of_eq g3.symm)
    have sz_b3 : h0.size ≤ b3 := Nat.le_trans K0.1 (Nat.le_of_eq g3.symm)
    have Z4 : n0 ≤ hX3.size := Nat.le_trans Z0 E3.1
    have K5 : Keep h0 hX3 [] := K0.ext E3
    have F6 : Arv Z hX3 b3 kx3 .byte (4 : Int32) [(.int (0 : Int32)), (.int (0 : Int32)), (.int (0 : Int32)), (.int (0 : Int32))] (.int (0 : Int32)) := (Arv.new A3 (by decide)).pad (pad_rep [] (.int (0 : Int32)) 4)
    obtain ⟨cl7, Ar7, q7, S7, M7, H7, G7⟩ := id F6
    have hin7 : ¬ ((0 : Int32) < 0 ∨ cl7.slots.size ≤ ((0 : Int32)).toNatClampNeg) := inb_of S7 ⟨by decide, by decide⟩
    obtain ⟨T7, hX7, X7, e7, W7, st7⟩ := stB X3 hx hZ e3 Ar7 (j := (0 : Int32)) hin7 (g := (mkF m 110 #[.val (.int k1), .val (.int k2), .val (.int k3), .val (.int v4), .val (.int (0 : Int32)), .val (.int v19), .val (.int v98), .val (.ref b3), .unset, .unset, .unset, .unset, .unset, .unset, .unset, .unset] [(.int v98), (.int (0 : Int32)), (.ref b3)])) rfl rfl (hb hby at_110)
    have F8 : Arv Z hX7 b3 kx3 .byte (4 : Int32) [(.int (nar .byte v98)), (.int (0 : Int32)), (.int (0 : Int32)), (.int (0 : Int32))] (.int (0 : Int32)) := Arv.set Ar7 q7 S7 M7 H7 G7 (fits_nar_byte _) W7 0 rfl (Nat.le_of_ble_eq_true rfl)
    have N7 := Fr.snoc X7 N0 g_b3
    have Z9 : n0 ≤ hX7.size := Nat.le_trans Z4 (Keep.of_wr W7).1
    have K10 : Keep h0 hX7 [] := K5.wr W7 (Or.inr sz_b3)
    obtain ⟨cl11, Ar11, q11, S11, M11, H11, G11⟩ := id F8
    have hin11 : ¬ ((1 : Int32) < 0 ∨ cl11.slots.size ≤ ((1 : Int32)).toNatClampNeg) := inb_of S11 ⟨by decide, by decide⟩
    obtain ⟨T11, hX11, X11, e11, W11, st11⟩ := stB X7 hx hZ e7 Ar11 (j := (1 : Int32)) hin11 (g := (mkF m 116 #[.val (.int k1), .val (.int k2), .val (.int k3), .val (.int v4), .val (.int (0 : Int32)), .val (.int v19), .val (.int v98), .val (.ref b3), .unset, .unset, .unset, .unset, .unset, .unset, .unset, .unset] [(.int v98), (.int (1 : Int32)), (.ref b3)])) rfl rfl (hb hby at_116)
    have F12 : Arv Z hX11 b3 kx3 .byte (4 : Int32) [(.int (nar .byte v98)), (.int (nar .byte v98)), (.int (0 : Int32)), (.int (0 : Int32))] (.int (0 : Int32)) := Arv.set Ar11 q11 S11 M11 H11 G11 (fits_nar_byte _) W11 1 rfl (Nat.le_of_ble_eq_true rfl)
    have N11 := Fr.snoc X11 N7 g_b3
    have Z13 : n0 ≤ hX11.size := Nat.le_trans Z9 (Keep.of_wr W11).1
    have K14 : Keep h0 hX11 [] := K10.wr W11 (Or.inr sz_b3)
    obtain ⟨cl15, Ar15, q15, S15, M15, H15, G15⟩ := id F12
    have hin15 : ¬ ((2 : Int32) < 0 ∨ cl15.slots.size ≤ ((2 : Int32)).toNatClampNeg) := inb_of S15 ⟨by decide, by decide⟩
    obtain ⟨T15, hX15, X15, e15, W15, st15⟩ := stB X11 hx hZ e11 Ar15 (j := (2 : Int32)) hin15 (g := (mkF m 122 #[.val (.int k1), .val (.int k2), .val (.int k3), .val (.int v4), .val (.int (0 : Int32)), .val (.int v19), .val (.int v98), .val (.ref b3), .unset, .unset, .unset, .unset, .unset, .unset, .unset, .unset] [(.int v98), (.int (2 : Int32)), (.ref b3)])) rfl rfl (hb hby at_122)
    have F16 : Arv Z hX15 b3 kx3 .byte (4 : Int32) [(.int (nar .byte v98)), (.int (nar .byte v98)), (.int (nar .byte v98)), (.int (0 : Int32))] (.int (0 : Int32)) := Arv.set Ar15 q15 S15 M15 H15 G15 (fits_nar_byte _) W15 2 rfl (Nat.le_of_ble_eq_true rfl)
    have N15 := Fr.snoc X15 N11 g_b3
    have Z17 : n0 ≤ hX15.size := Nat.le_trans Z13 (Keep.of_wr W15).1
    have K18 : Keep h0 hX15 [] := K14.wr W15 (Or.inr sz_b3)
    obtain ⟨cl19, Ar19, q19, S19, M19, H19, G19⟩ := id F16
    have hin19 : ¬ ((3 : Int32) < 0 ∨ cl19.slots.size ≤ ((3 : Int32)).toNatClampNeg) := inb_of S19 ⟨by decide, by decide⟩
    obtain ⟨T19, hX19, X19, e19, W19, st19⟩ := stB X15 hx hZ e15 Ar19 (j := (3 : Int32)) hin19 (g := (mkF m 128 #[.val (.int k1), .val (.int k2), .val (.int k3), .val (.int v4), .val (.int (0 : Int32)), .val (.int v19), .val (.int v98), .val (.ref b3), .unset, .unset, .unset, .unset, .unset, .unset, .unset, .unset] [(.int v98), (.int (3 : Int32)), (.ref b3)])) rfl rfl (hb hby at_128)
    have F20 : Arv Z hX19 b3 kx3 .byte (4 : Int32) [(.int (nar .byte v98)), (.int (nar .byte v98)), (.int (nar .byte v98)), (.int (nar .byte v98))] (.int (0 : Int32)) := Arv.set Ar19 q19 S19 M19 H19 G19 (fits_nar_byte _) W19 3 rfl (Nat.le_of_ble_eq_true rfl)
    have N19 := Fr.snoc X19 N15 g_b3
    have Z21 : n0 ≤ hX19.size := Nat.le_trans Z17 (Keep.of_wr W19).1
    have K22 : Keep h0 hX19 [] := K18.wr W19 (Or.inr sz_b3)
    have hp23_h1 : v19 < (128 : Int32) := (own_pre_0_133_h1_s0 k1 k2 k3 v4 hv4 hv8 v19 hv19 v98 hv98)
    obtain ⟨_, _, ⟨T23, L23, k23, n23⟩, -, X23, ⟨Lc23, hQ23, l23, y23, z23⟩, st23⟩ := Jvm.LawKit.callS X19 hx (y := (⟨"com/example/marcotte/marcotte/XmlCharacters", "writeUtf8", "(I[B)I"⟩ : MethodName)) hown (mvT hZ (hw _ (List.mem_of_getElem? (i := 4) rfl))) (mvT hZ (hw _ (List.mem_of_getElem? (i := 5) rfl))) (mvT hZ (hw _ (List.mem_of_getElem? (i := 6) rfl))) (mvT hZ (hw _ (List.mem_of_getElem? (i := 7) rfl))) (by decide) (backOf (W := 0) (rm1 l Z a0 hw [] v19 b3 kx3 (nar .byte v98) (nar .byte v98) (nar .byte v98) (nar .byte v98) hX19 n0 Z21 F20 g_b3 hp23_h1) hZ (hw _ (List.mem_of_getElem? (i := 7) rfl)) (hw _ (List.mem_of_getElem? (i := 6) rfl)) (by decide) (by decide)) (g := (mkF m 133 #[.val (.int k1), .val (.int k2), .val (.int k3), .val (.int v4), .val (.int (0 : Int32)), .val (.int v19), .val (.int v98), .val (.ref b3), .unset, .unset, .unset, .unset, .unset, .unset, .unset, .unset] [(.ref b3), (.int v19)])) rfl (by rw [hml]; rfl) (argsL := [(.int v19), (.ref b3)]) (rest := []) (lenOf pd_0 rfl) rfl (by show 2 * 0 + _ ≤ _; exact Nat.le_of_eq rfl) (hb hby at_133) (fun _ _ => ⟨rfl, e19, (by decide : 1 + 0 ≤ _), (by decide : 4 + 0 ≤ _)⟩)
    dsimp only [Pt.U, Pt.locs, Pt.cells, Pt.slots] at X23 l23 y23 z23 st23 hQ23
    subst l23 y23 z23
    obtain ⟨rfl, N23q, K23q, F24⟩ := hQ23
    have N23 := Fr.app N19 N23q
    have Z25 : n0 ≤ T23.heap.size := Nat.le_trans Z21 K23q.1
    have K26 : Keep h0 T23.heap [] := K22.trans K23q (allS (Or.inr sz_b3) all0)
    obtain ⟨cl27, Ar27, q27, S27, M27, H27, G27⟩ := id F24
    have hin27 : ¬ ((0 : Int32) < 0 ∨ cl27.slots.size ≤ ((0 : Int32)).toNatClampNeg) := inb_of S27 ⟨by decide, by decide⟩
    have hat27 : cl27.slots[((0 : Int32)).toNatClampNeg]? = some (.int (nar .byte (v19.toInt8.toInt32))) := Has.at H27 hin27 rfl
    obtain ⟨v199, hv199⟩ : ∃ z_q : Int32, z_q = ((nar .byte (v19.toInt8.toInt32)) &&& (255 : Int32)) := ⟨_, rfl⟩
    obtain ⟨cl28, Ar28, q28, S28, M28, H28, G28⟩ := id F24
    have hin28 : ¬ ((1 : Int32) < 0 ∨ cl28.slots.size ≤ ((1 : Int32)).toNatClampNeg) := inb_of S28 ⟨by decide, by decide⟩
    have hat28 : cl28.slots[((1 : Int32)).toNatClampNeg]? = some (.int (nar .byte v98)) := Has.at H28 hin28 rfl
    obtain ⟨v209, hv209⟩ : ∃ z_q : Int32, z_q = ((nar .byte v98) &&& (255 : Int32)) := ⟨_, rfl⟩
    obtain ⟨cl29, Ar29, q29, S29, M29, H29, G29⟩ := id F24
    have hin29 : ¬ ((2 : Int32) < 0 ∨ cl29.slots.size ≤ ((2 : Int32)).toNatClampNeg) := inb_of S29 ⟨by decide, by decide⟩
    have hat29 : cl29.slots[((2 : Int32)).toNatClampNeg]? = some (.int (nar .byte v98)) := Has.at H29 hin29 rfl
    obtain ⟨v219, hv219⟩ : ∃ z_q : Int32, z_q = ((nar .byte v98) &&& (255 : Int32)) := ⟨_, rfl⟩
    obtain ⟨cl30, Ar30, q30, S30, M30, H30, G30⟩ := id F24
    have hin30 : ¬ ((3 : Int32) < 0 ∨ cl30.slots.size ≤ ((3 : Int32)).toNatClampNeg) := inb_of S30 ⟨by decide, by decide⟩
    have hat30 : cl30.slots[((3 : Int32)).toNatClampNeg]? = some (.int (nar .byte v98)) := Has.at H30 hin30 rfl
    obtain ⟨v229, hv229⟩ : ∃ z_q : Int32, z_q = ((nar .byte v98) &&& (255 : Int32)) := ⟨_, rfl⟩
    obtain ⟨m249, hm249⟩ : ∃ z_q : Int32, z_q = (if v199 = v19 then (1 : Int32) else (0 : Int32)) := ⟨_, rfl⟩
    have pre32 : ∀ tq, Steps p.tables e below (T23.setTop (mkF m 249 #[.val (.int k1), .val (.int k2), .val (.int k3), .val (.int v4), .val (.int (0 : Int32)), .val (.int v19), .val (.int v98), .val (.ref b3), .val (.int (1 : Int32)), .val (.int (1 : Int32)), .val (.int v199), .val (.int v209), .val (.int v219), .val (.int v229), .unset, .unset] [(.int m249)])) tq → Steps p.tables e below (s₁.setTop (entryFrame m #[(.int k1), (.int k2), (.int k3)] maxLocals)) tq := by
      intro tq kt
      refine pre1 _ ?_
      show Steps p.tables e below (s₁.setTop (mkF m 10 #[.val (.int k1), .val (.int k2), .val (.int k3), .val (.int v4), .val (.int (0 : Int32)), .unset, .unset, .unset, .unset, .unset, .unset, .unset, .unset, .unset, .unset, .unset] [])) _
      refine XS.iload X0.here hx rfl (hb hby at_10) rfl ?_
      show Steps p.tables e below (s₁.setTop (mkF m 12 #[.val (.int k1), .val (.int k2), .val (.int k3), .val (.int v4), .val (.int (0 : Int32)), .unset, .unset, .unset, .unset, .unset, .unset, .unset, .unset, .unset, .unset, .unset] [(.int (0 : Int32))])) _
      refine XS.ifNo X0.here hx rfl (hb hby at_12) rfl ((if0 _ _).trans (teq rfl).2) ?_
      show Steps p.tables e below (s₁.setTop (mkF m 15 #[.val (.int k1), .val (.int k2), .val (.int k3), .val (.int v4), .val (.int (0 : Int32)), .unset, .unset, .unset, .unset, .unset, .unset, .unset, .unset, .unset, .unset, .unset] [])) _
      refine XS.iloadN X0.here hx rfl (hb hby at_15) rfl ?_
      show Steps p.tables e below (s₁.setTop (mkF m 16 #[.val (.int k1), .val (.int k2), .val (.int k3), .val (.int v4), .val (.int (0 : Int32)), .unset, .unset, .unset, .unset, .unset, .unset, .unset, .unset, .unset, .unset, .unset] [(.int v4)])) _
      refine XS.bipush X0.here hx rfl (hb hby at_16) ?_
      show Steps p.tables e below (s₁.setTop (mkF m 18 #[.val (.int k1), .val (.int k2), .val (.int k3), .val (.int v4), .val (.int (0 : Int32)), .unset, .unset, .unset, .unset, .unset, .unset, .unset, .unset, .unset, .unset, .unset] [(.int (127 : Int32)), (.int v4)])) _
      refine XS.iand X0.here hx rfl (hb hby at_18) rfl ?_
      show Steps p.tables e below (s₁.setTop (mkF m 19 #[.val (.int k1), .val (.int k2), .val (.int k3), .val (.int v4), .val (.int (0 : Int32)), .unset, .unset, .unset, .unset, .unset, .unset, .unset, .unset, .unset, .unset, .unset] [(.int (v4 &&& (127 : Int32)))])) _
      refine XS.istore X0.here hx rfl (hb hby at_19) rfl (l' := #[.val (.int k1), .val (.int k2), .val (.int k3), .val (.int v4), .val (.int (0 : Int32)), .val (.int v19), .unset, .unset, .unset, .unset, .unset, .unset, .unset, .unset, .unset, .unset]) (by rw [hv19]; rfl) ?_
      show Steps p.tables e below (s₁.setTop (mkF m 21 #[.val (.int k1), .val (.int k2), .val (.int k3), .val (.int v4), .val (.int (0 : Int32)), .val (.int v19), .unset, .unset, .unset, .unset, .unset, .unset, .unset, .unset, .unset, .unset] [])) _
      refine XS.goto X0.here hx rfl (pc0 := 21) (pc' := 96) rfl (hb hby at_21) (by decide) (by decide) ?_
      show Steps p.tables e below (s₁.setTop (mkF m 96 #[.val (.int k1), .val (.int k2), .val (.int k3), .val (.int v4), .val (.int (0 : Int32)), .val (.int v19), .unset, .unset, .unset, .unset, .unset, .unset, .unset, .unset, .unset, .unset] [])) _
      refine XS.iloadN X0.here hx rfl (hb hby at_96) rfl ?_
      show Steps p.tables e below (s₁.setTop (mkF m 97 #[.val (.int k1), .val (.int k2), .val (.int k3), .val (.int v4), .val (.int (0 : Int32)), .val (.int v19), .unset, .unset, .unset, .unset, .unset, .unset, .unset, .unset, .unset, .unset] [(.int k3)])) _
      refine XS.i2b X0.here hx rfl (hb hby at_97) rfl ?_
      show Steps p.tables e below (s₁.setTop (mkF m 98 #[.val (.int k1), .val (.int k2), .val (.int k3), .val (.int v4), .val (.int (0 : Int32)), .val (.int v19), .unset, .unset, .unset, .unset, .unset, .unset, .unset, .unset, .unset, .unset] [(.int (k3.toInt8.toInt32))])) _
      refine XS.istore X0.here hx rfl (hb hby at_98) rfl (l' := #[.val (.int k1), .val (.int k2), .val (.int k3), .val (.int v4), .val (.int (0 : Int32)), .val (.int v19), .val (.int v98), .unset, .unset, .unset, .unset, .unset, .unset, .unset, .unset, .unset]) (by rw [hv98]; rfl) ?_
      show Steps p.tables e below (s₁.setTop (mkF m 100 #[.val (.int k1), .val (.int k2), .val (.int k3), .val (.int v4), .val (.int (0 : Int32)), .val (.int v19), .val (.int v98), .unset, .unset, .unset, .unset, .unset, .unset, .unset, .unset, .unset] [])) _
      refine XS.iconst X0.here hx rfl (hb hby at_100) ?_
      show Steps p.tables e below (s₁.setTop (mkF m 101 #[.val (.int k1), .val (.int k2), .val (.int k3), .val (.int v4), .val (.int (0 : Int32)), .val (.int v19), .val (.int v98), .unset, .unset, .unset, .unset, .unset, .unset, .unset, .unset, .unset] [(.int (4 : Int32))])) _
      refine st3 _ ?_
      show Steps p.tables e below (T3.setTop (mkF m 103 #[.val (.int k1), .val (.int k2), .val (.int k3), .val (.int v4), .val (.int (0 : Int32)), .val (.int v19), .val (.int v98), .unset, .unset, .unset, .unset, .unset, .unset, .unset, .unset, .unset] [(.ref b3)])) _
      refine XS.astore X3.here hx rfl (hb hby at_103) rfl rfl (l' := #[.val (.int k1), .val (.int k2), .val (.int k3), .val (.int v4), .val (.int (0 : Int32)), .val (.int v19), .val (.int v98), .val (.ref b3), .unset, .unset, .unset, .unset, .unset, .unset, .unset, .unset]) rfl ?_
      show Steps p.tables e below (T3.setTop (mkF m 105 #[.val (.int k1), .val (.int k2), .val (.int k3), .val (.int v4), .val (.int (0 : Int32)), .val (.int v19), .val (.int v98), .val (.ref b3), .unset, .unset, .unset, .unset, .unset, .unset, .unset, .unset] [])) _
      refine XS.aload X3.here hx rfl (hb hby at_105) rfl rfl ?_
      show Steps p.tables e below (T3.setTop (mkF m 107 #[.val (.int k1), .val (.int k2), .val (.int k3), .val (.int v4), .val (.int (0 : Int32)), .val (.int v19), .val (.int v98), .val (.ref b3), .unset, .unset, .unset, .unset, .unset, .unset, .unset, .unset] [(.ref b3)])) _
      refine XS.iconst X3.here hx rfl (hb hby at_107) ?_
      show Steps p.tables e below (T3.setTop (mkF m 108 #[.val (.int k1), .val (.int k2), .val (.int k3), .val (.int v4), .val (.int (0 : Int32)), .val (.int v19), .val (.int v98), .val (.ref b3), .unset, .unset, .unset, .unset, .unset, .unset, .unset, .unset] [(.int (0 : Int32)), (.ref b3)])) _
      refine XS.iload X3.here hx rfl (hb hby at_108) rfl ?_
      show Steps p.tables e below (T3.setTop (mkF m 110 #[.val (.int k1), .val (.int k2), .val (.int k3), .val (.int v4), .val (.int (0 : Int32)), .val (.int v19), .val (.int v98), .val (.ref b3), .unset, .unset, .unset, .unset, .unset, .unset, .unset, .unset] [(.int v98), (.int (0 : Int32)), (.ref b3)])) _
      refine st7 _ ?_
      show Steps p.tables e below (T7.setTop (mkF m 111 #[.val (.int k1), .val (.int k2), .val (.int k3), .val (.int v4), .val (.int (0 : Int32)), .val (.int v19), .val (.int v98), .val (.ref b3), .unset, .unset, .unset, .unset, .unset, .unset, .unset, .unset] [])) _
      refine XS.aload X7.here hx rfl (hb hby at_111) rfl rfl ?_
      show Steps p.tables e below (T7.setTop (mkF m 113 #[.val (.int k1), .val (.int k2), .val (.int k3), .val (.int v4), .val (.int (0 : Int32)), .val (.int v19), .val (.int v98), .val (.ref b3), .unset, .unset, .unset, .unset, .unset, .unset, .unset, .unset] [(.ref b3)])) _
      refine XS.iconst X7.here hx rfl (hb hby at_113) ?_
      show Steps p.tables e below (T7.setTop (mkF m 114 #[.val (.int k1), .val (.int k2), .val (.int k3), .val (.int v4), .val (.int (0 : Int32)), .val (.int v19), .val (.int v98), .val (.ref b3), .unset, .unset, .unset, .unset, .unset, .unset, .unset, .unset] [(.int (1 : Int32)), (.ref b3)])) _
      refine XS.iload X7.here hx rfl (hb hby at_114) rfl ?_
      show Steps p.tables e below (T7.setTop (mkF m 116 #[.val (.int k1), .val (.int k2), .val (.int k3), .val (.int v4), .val (.int (0 : Int32)), .val (.int v19), .val (.int v98), .val (.ref b3), .unset, .unset, .unset, .unset, .unset, .unset, .unset, .unset] [(.int v98), (.int (1 : Int32)), (.ref b3)])) _
      refine st11 _ ?_
      show Steps p.tables e below (T11.setTop (mkF m 117 #[.val (.int k1), .val (.int k2), .val (.int k3), .val (.int v4), .val (.int (0 : Int32)), .val (.int v19), .val (.int v98), .val (.ref b3), .unset, .unset, .unset, .unset, .unset, .unset, .unset, .unset] [])) _
      refine XS.aload X11.here hx rfl (hb hby at_117) rfl rfl ?_
      show Steps p.tables e below (T11.setTop (mkF m 119 #[.val (.int k1), .val (.int k2), .val (.int k3), .val (.int v4), .val (.int (0 : Int32)), .val (.int v19), .val (.int v98), .val (.ref b3), .unset, .unset, .unset, .unset, .unset, .unset, .unset, .unset] [(.ref b3)])) _
      refine XS.iconst X11.here hx rfl (hb hby at_119) ?_
      show Steps p.tables e below (T11.setTop (mkF m 120 #[.val (.int k1), .val (.int k2), .val (.int k3), .val (.int v4), .val (.int (0 : Int32)), .val (.int v19), .val (.int v98), .val (.ref b3), .unset, .unset, .unset, .unset, .unset, .unset, .unset, .unset] [(.int (2 : Int32)), (.ref b3)])) _
      refine XS.iload X11.here hx rfl (hb hby at_120) rfl ?_
      show Steps p.tables e below (T11.setTop (mkF m 122 #[.val (.int k1), .val (.int k2), .val (.int k3), .val (.int v4), .val (.int (0 : Int32)), .val (.int v19), .val (.int v98), .val (.ref b3), .unset, .unset, .unset, .unset, .unset, .unset, .unset, .unset] [(.int v98), (.int (2 : Int32)), (.ref b3)])) _
      refine st15 _ ?_
      show Steps p.tables e below (T15.setTop (mkF m 123 #[.val (.int k1), .val (.int k2), .val (.int k3), .val (.int v4), .val (.int (0 : Int32)), .val (.int v19), .val (.int v98), .val (.ref b3), .unset, .unset, .unset, .unset, .unset, .unset, .unset, .unset] [])) _
      refine XS.aload X15.here hx rfl (hb hby at_123) rfl rfl ?_
      show Steps p.tables e below (T15.setTop (mkF m 125 #[.val (.int k1), .val (.int k2), .val (.int k3), .val (.int v4), .val (.int (0 : Int32)), .val (.int v19), .val (.int v98), .val (.ref b3), .unset, .unset, .unset, .unset, .unset, .unset, .unset, .unset] [(.ref b3)])) _
      refine XS.iconst X15.here hx rfl (hb hby at_125) ?_
      show Steps p.tables e below (T15.setTop (mkF m 126 #[.val (.int k1), .val (.int k2), .val (.int k3), .val (.int v4), .val (.int (0 : Int32)), .val (.int v19), .val (.int v98), .val (.ref b3), .unset, .unset, .unset, .unset, .unset, .unset, .unset, .unset] [(.int (3 : Int32)), (.ref b3)])) _
      refine XS.iload X15.here hx rfl (hb hby at_126) rfl ?_
      show Steps p.tables e below (T15.setTop (mkF m 128 #[.val (.int k1), .val (.int k2), .val (.int k3), .val (.int v4), .val (.int (0 : Int32)), .val (.int v19), .val (.int v98), .val (.ref b3), .unset, .unset, .unset, .unset, .unset, .unset, .unset, .unset] [(.int v98), (.int (3 : Int32)), (.ref b3)])) _
      refine st19 _ ?_
      show Steps p.tables e below (T19.setTop (mkF m 129 #[.val (.int k1), .val (.int k2), .val (.int k3), .val (.int v4), .val (.int (0 : Int32)), .val (.int v19), .val (.int v98), .val (.ref b3), .unset, .unset, .unset, .unset, .unset, .unset, .unset, .unset] [])) _
      refine XS.iload X19.here hx rfl (hb hby at_129) rfl ?_
      show Steps p.tables e below (T19.setTop (mkF m 131 #[.val (.int k1), .val (.int k2), .val (.int k3), .val (.int v4), .val (.int (0 : Int32)), .val (.int v19), .val (.int v98), .val (.ref b3), .unset, .unset, .unset, .unset, .unset, .unset, .unset, .unset] [(.int v19)])) _
      refine XS.aload X19.here hx rfl (hb hby at_131) rfl rfl ?_
      show Steps p.tables e below (T19.setTop (mkF m 133 #[.val (.int k1), .val (.int k2), .val (.int k3), .val (.int v4), .val (.int (0 : Int32)), .val (.int v19), .val (.int v98), .val (.ref b3), .unset, .unset, .unset, .unset, .unset, .unset, .unset, .unset] [(.ref b3), (.int v19)])) _
      refine st23 _ ?_
      show Steps p.tables e below (T23.setTop (mkF m 136 #[.val (.int k1), .val (.int k2), .val (.int k3), .val (.int v4), .val (.int (0 : Int32)), .val (.int v19), .val (.int v98), .val (.ref b3), .unset, .unset, .unset, .unset, .unset, .unset, .unset, .unset] [(.int (1 : Int32))])) _
      refine XS.istore X23.here hx rfl (hb hby at_136) rfl (l' := #[.val (.int k1), .val (.int k2), .val (.int k3), .val (.int v4), .val (.int (0 : Int32)), .val (.int v19), .val (.int v98), .val (.ref b3), .val (.int (1 : Int32)), .unset, .unset, .unset, .unset, .unset, .unset, .unset]) rfl ?_
      show Steps p.tables e below (T23.setTop (mkF m 138 #[.val (.int k1), .val (.int k2), .val (.int k3), .val (.int v4), .val (.int (0 : Int32)), .val (.int v19), .val (.int v98), .val (.ref b3), .val (.int (1 : Int32)), .unset, .unset, .unset, .unset, .unset, .unset, .unset] [])) _
      refine XS.iload X23.here hx rfl (hb hby at_138) rfl ?_
      show Steps p.tables e below (T23.setTop (mkF m 140 #[.val (.int k1), .val (.int k2), .val (.int k3), .val (.int v4), .val (.int (0 : Int32)), .val (.int v19), .val (.int v98), .val (.ref b3), .val (.int (1 : Int32)), .unset, .unset, .unset, .unset, .unset, .unset, .unset] [(.int v19)])) _
      refine XS.sipush X23.here hx rfl (hb hby at_140) ?_
      show Steps p.tables e below (T23.setTop (mkF m 143 #[.val (.int k1), .val (.int k2), .val (.int k3), .val (.int v4), .val (.int (0 : Int32)), .val (.int v19), .val (.int v98), .val (.ref b3), .val (.int (1 : Int32)), .unset, .unset, .unset, .unset, .unset, .unset, .unset] [(.int (128 : Int32)), (.int v19)])) _
      refine XS.icmpNo X23.here hx rfl (hb hby at_143) rfl (tlt hp23_h1).2.1 ?_
      show Steps p.tables e below (T23.setTop (mkF m 146 #[.val (.int k1), .val (.int k2), .val (.int k3), .val (.int v4), .val (.int (0 : Int32)), .val (.int v19), .val (.int v98), .val (.ref b3), .val (.int (1 : Int32)), .unset, .unset, .unset, .unset, .unset, .unset, .unset] [])) _
      refine XS.iconst X23.here hx rfl (hb hby at_146) ?_
      show Steps p.tables e below (T23.setTop (mkF m 147 #[.val (.int k1), .val (.int k2), .val (.int k3), .val (.int v4), .val (.int (0 : Int32)), .val (.int v19), .val (.int v98), .val (.ref b3), .val (.int (1 : Int32)), .unset, .unset, .unset, .unset, .unset, .unset, .unset] [(.int (1 : Int32))])) _
      refine XS.istore X23.here hx rfl (hb hby at_147) rfl (l' := #[.val (.int k1), .val (.int k2), .val (.int k3), .val (.int v4), .val (.int (0 : Int32)), .val (.int v19), .val (.int v98), .val (.ref b3), .val (.int (1 : Int32)), .val (.int (1 : Int32)), .unset, .unset, .unset, .unset, .unset, .unset]) rfl ?_
      show Steps p.tables e below (T23.setTop (mkF m 149 #[.val (.int k1), .val (.int k2), .val (.int k3), .val (.int v4), .val (.int (0 : Int32)), .val (.int v19), .val (.int v98), .val (.ref b3), .val (.int (1 : Int32)), .val (.int (1 : Int32)), .unset, .unset, .unset, .unset, .unset, .unset] [])) _
      refine XS.goto X23.here hx rfl (pc0 := 149) (pc' := 182) rfl (hb hby at_149) (by decide) (by decide) ?_
      show Steps p.tables e below (T23.setTop (mkF m 182 #[.val (.int k1), .val (.int k2), .val (.int k3), .val (.int v4), .val (.int (0 : Int32)), .val (.int v19), .val (.int v98), .val (.ref b3), .val (.int (1 : Int32)), .val (.int (1 : Int32)), .unset, .unset, .unset, .unset, .unset, .unset] [])) _
      refine XS.iload X23.here hx rfl (hb hby at_182) rfl ?_
      show Steps p.tables e below (T23.setTop (mkF m 184 #[.val (.int k1), .val (.int k2), .val (.int k3), .val (.int v4), .val (.int (0 : Int32)), .val (.int v19), .val (.int v98), .val (.ref b3), .val (.int (1 : Int32)), .val (.int (1 : Int32)), .unset, .unset, .unset, .unset, .unset, .unset] [(.int (1 : Int32))])) _
      refine XS.iload X23.here hx rfl (hb hby at_184) rfl ?_
      show Steps p.tables e below (T23.setTop (mkF m 186 #[.val (.int k1), .val (.int k2), .val (.int k3), .val (.int v4), .val (.int (0 : Int32)), .val (.int v19), .val (.int v98), .val (.ref b3), .val (.int (1 : Int32)), .val (.int (1 : Int32)), .unset, .unset, .unset, .unset, .unset, .unset] [(.int (1 : Int32)), (.int (1 : Int32))])) _
      refine XS.icmpYes X23.here hx rfl (pc0 := 186) (pc' := 191) rfl (hb hby at_186) rfl (teq rfl).1 (by decide) (by decide) ?_
      show Steps p.tables e below (T23.setTop (mkF m 191 #[.val (.int k1), .val (.int k2), .val (.int k3), .val (.int v4), .val (.int (0 : Int32)), .val (.int v19), .val (.int v98), .val (.ref b3), .val (.int (1 : Int32)), .val (.int (1 : Int32)), .unset, .unset, .unset, .unset, .unset, .unset] [])) _
      refine XS.aload X23.here hx rfl (hb hby at_191) rfl rfl ?_
      show Steps p.tables e below (T23.setTop (mkF m 193 #[.val (.int k1), .val (.int k2), .val (.int k3), .val (.int v4), .val (.int (0 : Int32)), .val (.int v19), .val (.int v98), .val (.ref b3), .val (.int (1 : Int32)), .val (.int (1 : Int32)), .unset, .unset, .unset, .unset, .unset, .unset] [(.ref b3)])) _
      refine XS.iconst X23.here hx rfl (hb hby at_193) ?_
      show Steps p.tables e below (T23.setTop (mkF m 194 #[.val (.int k1), .val (.int k2), .val (.int k3), .val (.int v4), .val (.int (0 : Int32)), .val (.int v19), .val (.int v98), .val (.ref b3), .val (.int (1 : Int32)), .val (.int (1 : Int32)), .unset, .unset, .unset, .unset, .unset, .unset] [(.int (0 : Int32)), (.ref b3)])) _
      refine X23.baloadBytes hx (j := (0 : Int32)) (v := (.int (nar .byte (v19.toInt8.toInt32)))) (heq_of rfl Ar27.1) (State.isArrayOf_alike hZ.alike Ar27.2.1) Ar27.2.2 hin27 hat27 (g := (mkF m 194 #[.val (.int k1), .val (.int k2), .val (.int k3), .val (.int v4), .val (.int (0 : Int32)), .val (.int v19), .val (.int v98), .val (.ref b3), .val (.int (1 : Int32)), .val (.int (1 : Int32)), .unset, .unset, .unset, .unset, .unset, .unset] [(.int (0 : Int32)), (.ref b3)])) rfl rfl (hb hby at_194) _ ?_
      show Steps p.tables e below (T23.setTop (mkF m 195 #[.val (.int k1), .val (.int k2), .val (.int k3), .val (.int v4), .val (.int (0 : Int32)), .val (.int v19), .val (.int v98), .val (.ref b3), .val (.int (1 : Int32)), .val (.int (1 : Int32)), .unset, .unset, .unset, .unset, .unset, .unset] [(.int (nar .byte (v19.toInt8.toInt32)))])) _
      refine XS.sipush X23.here hx rfl (hb hby at_195) ?_
      show Steps p.tables e below (T23.setTop (mkF m 198 #[.val (.int k1), .val (.int k2), .val (.int k3), .val (.int v4), .val (.int (0 : Int32)), .val (.int v19), .val (.int v98), .val (.ref b3), .val (.int (1 : Int32)), .val (.int (1 : Int32)), .unset, .unset, .unset, .unset, .unset, .unset] [(.int (255 : Int32)), (.int (nar .byte (v19.toInt8.toInt32)))])) _
      refine XS.iand X23.here hx rfl (hb hby at_198) rfl ?_
      show Steps p.tables e below (T23.setTop (mkF m 199 #[.val (.int k1), .val (.int k2), .val (.int k3), .val (.int v4), .val (.int (0 : Int32)), .val (.int v19), .val (.int v98), .val (.ref b3), .val (.int (1 : Int32)), .val (.int (1 : Int32)), .unset, .unset, .unset, .unset, .unset, .unset] [(.int ((nar .byte (v19.toInt8.toInt32)) &&& (255 : Int32)))])) _
      refine XS.istore X23.here hx rfl (hb hby at_199) rfl (l' := #[.val (.int k1), .val (.int k2), .val (.int k3), .val (.int v4), .val (.int (0 : Int32)), .val (.int v19), .val (.int v98), .val (.ref b3), .val (.int (1 : Int32)), .val (.int (1 : Int32)), .val (.int v199), .unset, .unset, .unset, .unset, .unset]) (by rw [hv199]; rfl) ?_
      show Steps p.tables e below (T23.setTop (mkF m 201 #[.val (.int k1), .val (.int k2), .val (.int k3), .val (.int v4), .val (.int (0 : Int32)), .val (.int v19), .val (.int v98), .val (.ref b3), .val (.int (1 : Int32)), .val (.int (1 : Int32)), .val (.int v199), .unset, .unset, .unset, .unset, .unset] [])) _
      refine XS.aload X23.here hx rfl (hb hby at_201) rfl rfl ?_
      show Steps p.tables e below (T23.setTop (mkF m 203 #[.val (.int k1), .val (.int k2), .val (.int k3), .val (.int v4), .val (.int (0 : Int32)), .val (.int v19), .val (.int v98), .val (.ref b3), .val (.int (1 : Int32)), .val (.int (1 : Int32)), .val (.int v199), .unset, .unset, .unset, .unset, .unset] [(.ref b3)])) _
      refine XS.iconst X23.here hx rfl (hb hby at_203) ?_
      show Steps p.tables e below (T23.setTop (mkF m 204 #[.val (.int k1), .val (.int k2), .val (.int k3), .val (.int v4), .val (.int (0 : Int32)), .val (.int v19), .val (.int v98), .val (.ref b3), .val (.int (1 : Int32)), .val (.int (1 : Int32)), .val (.int v199), .unset, .unset, .unset, .unset, .unset] [(.int (1 : Int32)), (.ref b3)])) _
      refine X23.baloadBytes hx (j := (1 : Int32)) (v := (.int (nar .byte v98))) (heq_of rfl Ar28.1) (State.isArrayOf_alike hZ.alike Ar28.2.1) Ar28.2.2 hin28 hat28 (g := (mkF m 204 #[.val (.int k1), .val (.int k2), .val (.int k3), .val (.int v4), .val (.int (0 : Int32)), .val (.int v19), .val (.int v98), .val (.ref b3), .val (.int (1 : Int32)), .val (.int (1 : Int32)), .val (.int v199), .unset, .unset, .unset, .unset, .unset] [(.int (1 : Int32)), (.ref b3)])) rfl rfl (hb hby at_204) _ ?_
      show Steps p.tables e below (T23.setTop (mkF m 205 #[.val (.int k1), .val (.int k2), .val (.int k3), .val (.int v4), .val (.int (0 : Int32)), .val (.int v19), .val (.int v98), .val (.ref b3), .val (.int (1 : Int32)), .val (.int (1 : Int32)), .val (.int v199), .unset, .unset, .unset, .unset, .unset] [(.int (nar .byte v98))])) _
      refine XS.sipush X23.here hx rfl (hb hby at_205) ?_
      show Steps p.tables e below (T23.setTop (mkF m 208 #[.val (.int k1), .val (.int k2), .val (.int k3), .val (.int v4), .val (.int (0 : Int32)), .val (.int v19), .val (.int v98), .val (.ref b3), .val (.int (1 : Int32)), .val (.int (1 : Int32)), .val (.int v199), .unset, .unset, .unset, .unset, .unset] [(.int (255 : Int32)), (.int (nar .byte v98))])) _
      refine XS.iand X23.here hx rfl (hb hby at_208) rfl ?_
      show Steps p.tables e below (T23.setTop (mkF m 209 #[.val (.int k1), .val (.int k2), .val (.int k3), .val (.int v4), .val (.int (0 : Int32)), .val (.int v19), .val (.int v98), .val (.ref b3), .val (.int (1 : Int32)), .val (.int (1 : Int32)), .val (.int v199), .unset, .unset, .unset, .unset, .unset] [(.int ((nar .byte v98) &&& (255 : Int32)))])) _
      refine XS.istore X23.here hx rfl (hb hby at_209) rfl (l' := #[.val (.int k1), .val (.int k2), .val (.int k3), .val (.int v4), .val (.int (0 : Int32)), .val (.int v19), .val (.int v98), .val (.ref b3), .val (.int (1 : Int32)), .val (.int (1 : Int32)), .val (.int v199), .val (.int v209), .unset, .unset, .unset, .unset]) (by rw [hv209]; rfl) ?_
      show Steps p.tables e below (T23.setTop (mkF m 211 #[.val (.int k1), .val (.int k2), .val (.int k3), .val (.int v4), .val (.int (0 : Int32)), .val (.int v19), .val (.int v98), .val (.ref b3), .val (.int (1 : Int32)), .val (.int (1 : Int32)), .val (.int v199), .val (.int v209), .unset, .unset, .unset, .unset] [])) _
      refine XS.aload X23.here hx rfl (hb hby at_211) rfl rfl ?_
      show Steps p.tables e below (T23.setTop (mkF m 213 #[.val (.int k1), .val (.int k2), .val (.int k3), .val (.int v4), .val (.int (0 : Int32)), .val (.int v19), .val (.int v98), .val (.ref b3), .val (.int (1 : Int32)), .val (.int (1 : Int32)), .val (.int v199), .val (.int v209), .unset, .unset, .unset, .unset] [(.ref b3)])) _
      refine XS.iconst X23.here hx rfl (hb hby at_213) ?_
      show Steps p.tables e below (T23.setTop (mkF m 214 #[.val (.int k1), .val (.int k2), .val (.int k3), .val (.int v4), .val (.int (0 : Int32)), .val (.int v19), .val (.int v98), .val (.ref b3), .val (.int (1 : Int32)), .val (.int (1 : Int32)), .val (.int v199), .val (.int v209), .unset, .unset, .unset, .unset] [(.int (2 : Int32)), (.ref b3)])) _
      refine X23.baloadBytes hx (j := (2 : Int32)) (v := (.int (nar .byte v98))) (heq_of rfl Ar29.1) (State.isArrayOf_alike hZ.alike Ar29.2.1) Ar29.2.2 hin29 hat29 (g := (mkF m 214 #[.val (.int k1), .val (.int k2), .val (.int k3), .val (.int v4), .val (.int (0 : Int32)), .val (.int v19), .val (.int v98), .val (.ref b3), .val (.int (1 : Int32)), .val (.int (1 : Int32)), .val (.int v199), .val (.int v209), .unset, .unset, .unset, .unset] [(.int (2 : Int32)), (.ref b3)])) rfl rfl (hb hby at_214) _ ?_
      show Steps p.tables e below (T23.setTop (mkF m 215 #[.val (.int k1), .val (.int k2), .val (.int k3), .val (.int v4), .val (.int (0 : Int32)), .val (.int v19), .val (.int v98), .val (.ref b3), .val (.int (1 : Int32)), .val (.int (1 : Int32)), .val (.int v199), .val (.int v209), .unset, .unset, .unset, .unset] [(.int (nar .byte v98))])) _
      refine XS.sipush X23.here hx rfl (hb hby at_215) ?_
      show Steps p.tables e below (T23.setTop (mkF m 218 #[.val (.int k1), .val (.int k2), .val (.int k3), .val (.int v4), .val (.int (0 : Int32)), .val (.int v19), .val (.int v98), .val (.ref b3), .val (.int (1 : Int32)), .val (.int (1 : Int32)), .val (.int v199), .val (.int v209), .unset, .unset, .unset, .unset] [(.int (255 : Int32)), (.int (nar .byte v98))])) _
      refine XS.iand X23.here hx rfl (hb hby at_218) rfl ?_
      show Steps p.tables e below (T23.setTop (mkF m 219 #[.val (.int k1), .val (.int k2), .val (.int k3), .val (.int v4), .val (.int (0 : Int32)), .val (.int v19), .val (.int v98), .val (.ref b3), .val (.int (1 : Int32)), .val (.int (1 : Int32)), .val (.int v199), .val (.int v209), .unset, .unset, .unset, .unset] [(.int ((nar .byte v98) &&& (255 : Int32)))])) _
      refine XS.istore X23.here hx rfl (hb hby at_219) rfl (l' := #[.val (.int k1), .val (.int k2), .val (.int k3), .val (.int v4), .val (.int (0 : Int32)), .val (.int v19), .val (.int v98), .val (.ref b3), .val (.int (1 : Int32)), .val (.int (1 : Int32)), .val (.int v199), .val (.int v209), .val (.int v219), .unset, .unset, .unset]) (by rw [hv219]; rfl) ?_
      show Steps p.tables e below (T23.setTop (mkF m 221 #[.val (.int k1), .val (.int k2), .val (.int k3), .val (.int v4), .val (.int (0 : Int32)), .val (.int v19), .val (.int v98), .val (.ref b3), .val (.int (1 : Int32)), .val (.int (1 : Int32)), .val (.int v199), .val (.int v209), .val (.int v219), .unset, .unset, .unset] [])) _
      refine XS.aload X23.here hx rfl (hb hby at_221) rfl rfl ?_
      show Steps p.tables e below (T23.setTop (mkF m 223 #[.val (.int k1), .val (.int k2), .val (.int k3), .val (.int v4), .val (.int (0 : Int32)), .val (.int v19), .val (.int v98), .val (.ref b3), .val (.int (1 : Int32)), .val (.int (1 : Int32)), .val (.int v199), .val (.int v209), .val (.int v219), .unset, .unset, .unset] [(.ref b3)])) _
      refine XS.iconst X23.here hx rfl (hb hby at_223) ?_
      show Steps p.tables e below (T23.setTop (mkF m 224 #[.val (.int k1), .val (.int k2), .val (.int k3), .val (.int v4), .val (.int (0 : Int32)), .val (.int v19), .val (.int v98), .val (.ref b3), .val (.int (1 : Int32)), .val (.int (1 : Int32)), .val (.int v199), .val (.int v209), .val (.int v219), .unset, .unset, .unset] [(.int (3 : Int32)), (.ref b3)])) _
      refine X23.baloadBytes hx (j := (3 : Int32)) (v := (.int (nar .byte v98))) (heq_of rfl Ar30.1) (State.isArrayOf_alike hZ.alike Ar30.2.1) Ar30.2.2 hin30 hat30 (g := (mkF m 224 #[.val (.int k1), .val (.int k2), .val (.int k3), .val (.int v4), .val (.int (0 : Int32)), .val (.int v19), .val (.int v98), .val (.ref b3), .val (.int (1 : Int32)), .val (.int (1 : Int32)), .val (.int v199), .val (.int v209), .val (.int v219), .unset, .unset, .unset] [(.int (3 : Int32)), (.ref b3)])) rfl rfl (hb hby at_224) _ ?_
      show Steps p.tables e below (T23.setTop (mkF m 225 #[.val (.int k1), .val (.int k2), .val (.int k3), .val (.int v4), .val (.int (0 : Int32)), .val (.int v19), .val (.int v98), .val (.ref b3), .val (.int (1 : Int32)), .val (.int (1 : Int32)), .val (.int v199), .val (.int v209), .val (.int v219), .unset, .unset, .unset] [(.int (nar .byte v98))])) _
      refine XS.sipush X23.here hx rfl (hb hby at_225) ?_
      show Steps p.tables e below (T23.setTop (mkF m 228 #[.val (.int k1), .val (.int k2), .val (.int k3), .val (.int v4), .val (.int (0 : Int32)), .val (.int v19), .val (.int v98), .val (.ref b3), .val (.int (1 : Int32)), .val (.int (1 : Int32)), .val (.int v199), .val (.int v209), .val (.int v219), .unset, .unset, .unset] [(.int (255 : Int32)), (.int (nar .byte v98))])) _
      refine XS.iand X23.here hx rfl (hb hby at_228) rfl ?_
      show Steps p.tables e below (T23.setTop (mkF m 229 #[.val (.int k1), .val (.int k2), .val (.int k3), .val (.int v4), .val (.int (0 : Int32)), .val (.int v19), .val (.int v98), .val (.ref b3), .val (.int (1 : Int32)), .val (.int (1 : Int32)), .val (.int v199), .val (.int v209), .val (.int v219), .unset, .unset, .unset] [(.int ((nar .byte v98) &&& (255 : Int32)))])) _
      refine XS.istore X23.here hx rfl (hb hby at_229) rfl (l' := #[.val (.int k1), .val (.int k2), .val (.int k3), .val (.int v4), .val (.int (0 : Int32)), .val (.int v19), .val (.int v98), .val (.ref b3), .val (.int (1 : Int32)), .val (.int (1 : Int32)), .val (.int v199), .val (.int v209), .val (.int v219), .val (.int v229), .unset, .unset]) (by rw [hv229]; rfl) ?_
      show Steps p.tables e below (T23.setTop (mkF m 231 #[.val (.int k1), .val (.int k2), .val (.int k3), .val (.int v4), .val (.int (0 : Int32)), .val (.int v19), .val (.int v98), .val (.ref b3), .val (.int (1 : Int32)), .val (.int (1 : Int32)), .val (.int v199), .val (.int v209), .val (.int v219), .val (.int v229), .unset, .unset] [])) _
      refine XS.iload X23.here hx rfl (hb hby at_231) rfl ?_
      show Steps p.tables e below (T23.setTop (mkF m 233 #[.val (.int k1), .val (.int k2), .val (.int k3), .val (.int v4), .val (.int (0 : Int32)), .val (.int v19), .val (.int v98), .val (.ref b3), .val (.int (1 : Int32)), .val (.int (1 : Int32)), .val (.int v199), .val (.int v209), .val (.int v219), .val (.int v229), .unset, .unset] [(.int (1 : Int32))])) _
      refine XS.iconst X23.here hx rfl (hb hby at_233) ?_
      show Steps p.tables e below (T23.setTop (mkF m 234 #[.val (.int k1), .val (.int k2), .val (.int k3), .val (.int v4), .val (.int (0 : Int32)), .val (.int v19), .val (.int v98), .val (.ref b3), .val (.int (1 : Int32)), .val (.int (1 : Int32)), .val (.int v199), .val (.int v209), .val (.int v219), .val (.int v229), .unset, .unset] [(.int (1 : Int32)), (.int (1 : Int32))])) _
      refine XS.icmpNo X23.here hx rfl (hb hby at_234) rfl (teq rfl).2 ?_
      show Steps p.tables e below (T23.setTop (mkF m 237 #[.val (.int k1), .val (.int k2), .val (.int k3), .val (.int v4), .val (.int (0 : Int32)), .val (.int v19), .val (.int v98), .val (.ref b3), .val (.int (1 : Int32)), .val (.int (1 : Int32)), .val (.int v199), .val (.int v209), .val (.int v219), .val (.int v229), .unset, .unset] [])) _
      refine XS.iload X23.here hx rfl (hb hby at_237) rfl ?_
      show Steps p.tables e below (T23.setTop (mkF m 239 #[.val (.int k1), .val (.int k2), .val (.int k3), .val (.int v4), .val (.int (0 : Int32)), .val (.int v19), .val (.int v98), .val (.ref b3), .val (.int (1 : Int32)), .val (.int (1 : Int32)), .val (.int v199), .val (.int v209), .val (.int v219), .val (.int v229), .unset, .unset] [(.int v199)])) _
      refine XS.iload X23.here hx rfl (hb hby at_239) rfl ?_
      by_cases d31 : v199 = v19
      · skip
        show Steps p.tables e below (T23.setTop (mkF m 241 #[.val (.int k1), .val (.int k2), .val (.int k3), .val (.int v4), .val (.int (0 : Int32)), .val (.int v19), .val (.int v98), .val (.ref b3), .val (.int (1 : Int32)), .val (.int (1 : Int32)), .val (.int v199), .val (.int v209), .val (.int v219), .val (.int v229), .unset, .unset] [(.int v19), (.int v199)])) _
        refine XS.icmpNo X23.here hx rfl (hb hby at_241) rfl (teq d31).2 ?_
        show Steps p.tables e below (T23.setTop (mkF m 244 #[.val (.int k1), .val (.int k2), .val (.int k3), .val (.int v4), .val (.int (0 : Int32)), .val (.int v19), .val (.int v98), .val (.ref b3), .val (.int (1 : Int32)), .val (.int (1 : Int32)), .val (.int v199), .val (.int v209), .val (.int v219), .val (.int v229), .unset, .unset] [])) _
        refine XS.iconst X23.here hx rfl (hb hby at_244) ?_
        show Steps p.tables e below (T23.setTop (mkF m 245 #[.val (.int k1), .val (.int k2), .val (.int k3), .val (.int v4), .val (.int (0 : Int32)), .val (.int v19), .val (.int v98), .val (.ref b3), .val (.int (1 : Int32)), .val (.int (1 : Int32)), .val (.int v199), .val (.int v209), .val (.int v219), .val (.int v229), .unset, .unset] [(.int (1 : Int32))])) _
        refine XS.goto X23.here hx rfl (pc0 := 245) (pc' := 249) rfl (hb hby at_245) (by decide) (by decide) ?_
        show Steps p.tables e below (T23.setTop (mkF m 249 #[.val (.int k1), .val (.int k2), .val (.int k3), .val (.int v4), .val (.int (0 : Int32)), .val (.int v19), .val (.int v98), .val (.ref b3), .val (.int (1 : Int32)), .val (.int (1 : Int32)), .val (.int v199), .val (.int v209), .val (.int v219), .val (.int v229), .unset, .unset] [(.int (1 : Int32))])) _
        exact castTop (by simp only [hm249, if_pos d31]) kt
      · skip
        show Steps p.tables e below (T23.setTop (mkF m 241 #[.val (.int k1), .val (.int k2), .val (.int k3), .val (.int v4), .val (.int (0 : Int32)), .val (.int v19), .val (.int v98), .val (.ref b3), .val (.int (1 : Int32)), .val (.int (1 : Int32)), .val (.int v199), .val (.int v209), .val (.int v219), .val (.int v229), .unset, .unset] [(.int v19), (.int v199)])) _
        refine XS.icmpYes X23.here hx rfl (pc0 := 241) (pc' := 248) rfl (hb hby at_241) rfl (feq d31).2 (by decide) (by decide) ?_
        show Steps p.tables e below (T23.setTop (mkF m 248 #[.val (.int k1), .val (.int k2), .val (.int k3), .val (.int v4), .val (.int (0 : Int32)), .val (.int v19), .val (.int v98), .val (.ref b3), .val (.int (1 : Int32)), .val (.int (1 : Int32)), .val (.int v199), .val (.int v209), .val (.int v219), .val (.int v229), .unset, .unset] [])) _
        refine XS.iconst X23.here hx rfl (hb hby at_248) ?_
        show Steps p.tables e below (T23.setTop (mkF m 249 #[.val (.int k1), .val (.int k2), .val (.int k3), .val (.int v4), .val (.int (0 : Int32)), .val (.int v19), .val (.int v98), .val (.ref b3), .val (.int (1 : Int32)), .val (.int (1 : Int32)), .val (.int v199), .val (.int v209), .val (.int v219), .val (.int v229), .unset, .unset] [(.int (0 : Int32))])) _
        exact castTop (by simp only [hm249, if_neg d31]) kt
    obtain ⟨cl33, Ar33, q33, S33, M33, H33, G33⟩ := id F24
    have hin33 : ¬ ((1 : Int32) < 0 ∨ cl33.slots.size ≤ ((1 : Int32)).toNatClampNeg) := inb_of S33 ⟨by decide, by decide⟩
    have hat33 : cl33.slots[((1 : Int32)).toNatClampNeg]? = some (.int (nar .byte v98)) := Has.at H33 hin33 rfl
    have pre34 : ∀ tq, Steps p.tables e below (T23.setTop (mkF m 497 #[.val (.int k1), .val (.int k2), .val (.int k3), .val (.int v4), .val (.int (0 : Int32)), .val (.int v19), .val (.int v98), .val (.ref b3), .val (.int (1 : Int32)), .val (.int (1 : Int32)), .val (.int v199), .val (.int v209), .val (.int v219), .val (.int v229), .val (.int m249), .unset] [(.int v98), (.int (nar .byte v98))])) tq → Steps p.tables e below (s₁.setTop (entryFrame m #[(.int k1), (.int k2), (.int k3)] maxLocals)) tq := by
      intro tq kt
      refine pre32 _ ?_
      show Steps p.tables e below (T23.setTop (mkF m 249 #[.val (.int k1), .val (.int k2), .val (.int k3), .val (.int v4), .val (.int (0 : Int32)), .val (.int v19), .val (.int v98), .val (.ref b3), .val (.int (1 : Int32)), .val (.int (1 : Int32)), .val (.int v199), .val (.int v209), .val (.int v219), .val (.int v229), .unset, .unset] [(.int m249)])) _
      refine XS.istore X23.here hx rfl (hb hby at_249) rfl (l' := #[.val (.int k1), .val (.int k2), .val (.int k3), .val (.int v4), .val (.int (0 : Int32)), .val (.int v19), .val (.int v98), .val (.ref b3), .val (.int (1 : Int32)), .val (.int (1 : Int32)), .val (.int v199), .val (.int v209), .val (.int v219), .val (.int v229), .val (.int m249), .unset]) rfl ?_
      show Steps p.tables e below (T23.setTop (mkF m 251 #[.val (.int k1), .val (.int k2), .val (.int k3), .val (.int v4), .val (.int (0 : Int32)), .val (.int v19), .val (.int v98), .val (.ref b3), .val (.int (1 : Int32)), .val (.int (1 : Int32)), .val (.int v199), .val (.int v209), .val (.int v219), .val (.int v229), .val (.int m249), .unset] [])) _
      refine XS.goto X23.here hx rfl (pc0 := 251) (pc' := 485) rfl (hb hby at_251) (by decide) (by decide) ?_
      show Steps p.tables e below (T23.setTop (mkF m 485 #[.val (.int k1), .val (.int k2), .val (.int k3), .val (.int v4), .val (.int (0 : Int32)), .val (.int v19), .val (.int v98), .val (.ref b3), .val (.int (1 : Int32)), .val (.int (1 : Int32)), .val (.int v199), .val (.int v209), .val (.int v219), .val (.int v229), .val (.int m249), .unset] [])) _
      refine XS.iload X23.here hx rfl (hb hby at_485) rfl ?_
      show Steps p.tables e below (T23.setTop (mkF m 487 #[.val (.int k1), .val (.int k2), .val (.int k3), .val (.int v4), .val (.int (0 : Int32)), .val (.int v19), .val (.int v98), .val (.ref b3), .val (.int (1 : Int32)), .val (.int (1 : Int32)), .val (.int v199), .val (.int v209), .val (.int v219), .val (.int v229), .val (.int m249), .unset] [(.int (1 : Int32))])) _
      refine XS.iconst X23.here hx rfl (hb hby at_487) ?_
      show Steps p.tables e below (T23.setTop (mkF m 488 #[.val (.int k1), .val (.int k2), .val (.int k3), .val (.int v4), .val (.int (0 : Int32)), .val (.int v19), .val (.int v98), .val (.ref b3), .val (.int (1 : Int32)), .val (.int (1 : Int32)), .val (.int v199), .val (.int v209), .val (.int v219), .val (.int v229), .val (.int m249), .unset] [(.int (1 : Int32)), (.int (1 : Int32))])) _
      refine XS.icmpNo X23.here hx rfl (hb hby at_488) rfl (flt (by decide)).2.2.1 ?_
      show Steps p.tables e below (T23.setTop (mkF m 491 #[.val (.int k1), .val (.int k2), .val (.int k3), .val (.int v4), .val (.int (0 : Int32)), .val (.int v19), .val (.int v98), .val (.ref b3), .val (.int (1 : Int32)), .val (.int (1 : Int32)), .val (.int v199), .val (.int v209), .val (.int v219), .val (.int v229), .val (.int m249), .unset] [])) _
      refine XS.aload X23.here hx rfl (hb hby at_491) rfl rfl ?_
      show Steps p.tables e below (T23.setTop (mkF m 493 #[.val (.int k1), .val (.int k2), .val (.int k3), .val (.int v4), .val (.int (0 : Int32)), .val (.int v19), .val (.int v98), .val (.ref b3), .val (.int (1 : Int32)), .val (.int (1 : Int32)), .val (.int v199), .val (.int v209), .val (.int v219), .val (.int v229), .val (.int m249), .unset] [(.ref b3)])) _
      refine XS.iconst X23.here hx rfl (hb hby at_493) ?_
      show Steps p.tables e below (T23.setTop (mkF m 494 #[.val (.int k1), .val (.int k2), .val (.int k3), .val (.int v4), .val (.int (0 : Int32)), .val (.int v19), .val (.int v98), .val (.ref b3), .val (.int (1 : Int32)), .val (.int (1 : Int32)), .val (.int v199), .val (.int v209), .val (.int v219), .val (.int v229), .val (.int m249), .unset] [(.int (1 : Int32)), (.ref b3)])) _
      refine X23.baloadBytes hx (j := (1 : Int32)) (v := (.int (nar .byte v98))) (heq_of rfl Ar33.1) (State.isArrayOf_alike hZ.alike Ar33.2.1) Ar33.2.2 hin33 hat33 (g := (mkF m 494 #[.val (.int k1), .val (.int k2), .val (.int k3), .val (.int v4), .val (.int (0 : Int32)), .val (.int v19), .val (.int v98), .val (.ref b3), .val (.int (1 : Int32)), .val (.int (1 : Int32)), .val (.int v199), .val (.int v209), .val (.int v219), .val (.int v229), .val (.int m249), .unset] [(.int (1 : Int32)), (.ref b3)])) rfl rfl (hb hby at_494) _ ?_
      show Steps p.tables e below (T23.setTop (mkF m 495 #[.val (.int k1), .val (.int k2), .val (.int k3), .val (.int v4), .val (.int (0 : Int32)), .val (.int v19), .val (.int v98), .val (.ref b3), .val (.int (1 : Int32)), .val (.int (1 : Int32)), .val (.int v199), .val (.int v209), .val (.int v219), .val (.int v229), .val (.int m249), .unset] [(.int (nar .byte v98))])) _
      refine XS.iload X23.here hx rfl (hb hby at_495) rfl ?_
      show Steps p.tables e below (T23.setTop (mkF m 497 #[.val (.int k1), .val (.int k2), .val (.int k3), .val (.int v4), .val (.int (0 : Int32)), .val (.int v19), .val (.int v98), .val (.ref b3), .val (.int (1 : Int32)), .val (.int (1 : Int32)), .val (.int v199), .val (.int v209), .val (.int v219), .val (.int v229), .val (.int m249), .unset] [(.int v98), (.int (nar .byte v98))])) _
      exact kt
    by_cases hc497_35 : (nar .byte v98) = v98
    · skip
      obtain ⟨cl36, Ar36, q36, S36, M36, H36, G36⟩ := id F24
      have hin36 : ¬ ((2 : Int32) < 0 ∨ cl36.slots.size ≤ ((2 : Int32)).toNatClampNeg) := inb_of S36 ⟨by decide, by decide⟩
      have hat36 : cl36.slots[((2 : Int32)).toNatClampNeg]? = some (.int (nar .byte v98)) := Has.at H36 hin36 rfl
      obtain ⟨cl37, Ar37, q37, S37, M37, H37, G37⟩ := id F24
      have hin37 : ¬ ((3 : Int32) < 0 ∨ cl37.slots.size ≤ ((3 : Int32)).toNatClampNeg) := inb_of S37 ⟨by decide, by decide⟩
      have hat37 : cl37.slots[((3 : Int32)).toNatClampNeg]? = some (.int (nar .byte v98)) := Has.at H37 hin37 rfl
      obtain ⟨m552, hm552⟩ : ∃ z_q : Int32, z_q = (if m249 = (0 : Int32) then (0 : Int32) else (1 : Int32)) := ⟨_, rfl⟩
      have pre39 : ∀ tq, Steps p.tables e below (T23.setTop (mkF m 552 #[.val (.int k1), .val (.int k2), .val (.int k3), .val (.int v4), .val (.int (0 : Int32)), .val (.int v19), .val (.int v98), .val (.ref b3), .val (.int (1 : Int32)), .val (.int (1 : Int32)), .val (.int v199), .val (.int v209), .val (.int v219), .val (.int v229), .val (.int m249), .val (.int (1 : Int32))] [(.int m552)])) tq → Steps p.tables e below (s₁.setTop (entryFrame m #[(.int k1), (.int k2), (.int k3)] maxLocals)) tq := by
        intro tq kt
        refine pre34 _ ?_
        show Steps p.tables e below (T23.setTop (mkF m 497 #[.val (.int k1), .val (.int k2), .val (.int k3), .val (.int v4), .val (.int (0 : Int32)), .val (.int v19), .val (.int v98), .val (.ref b3), .val (.int (1 : Int32)), .val (.int (1 : Int32)), .val (.int v199), .val (.int v209), .val (.int v219), .val (.int v229), .val (.int m249), .unset] [(.int v98), (.int (nar .byte v98))])) _
        refine XS.icmpNo X23.here hx rfl (hb hby at_497) rfl (teq hc497_35).2 ?_
        show Steps p.tables e below (T23.setTop (mkF m 500 #[.val (.int k1), .val (.int k2), .val (.int k3), .val (.int v4), .val (.int (0 : Int32)), .val (.int v19), .val (.int v98), .val (.ref b3), .val (.int (1 : Int32)), .val (.int (1 : Int32)), .val (.int v199), .val (.int v209), .val (.int v219), .val (.int v229), .val (.int m249), .unset] [])) _
        refine XS.iload X23.here hx rfl (hb hby at_500) rfl ?_
        show Steps p.tables e below (T23.setTop (mkF m 502 #[.val (.int k1), .val (.int k2), .val (.int k3), .val (.int v4), .val (.int (0 : Int32)), .val (.int v19), .val (.int v98), .val (.ref b3), .val (.int (1 : Int32)), .val (.int (1 : Int32)), .val (.int v199), .val (.int v209), .val (.int v219), .val (.int v229), .val (.int m249), .unset] [(.int (1 : Int32))])) _
        refine XS.iconst X23.here hx rfl (hb hby at_502) ?_
        show Steps p.tables e below (T23.setTop (mkF m 503 #[.val (.int k1), .val (.int k2), .val (.int k3), .val (.int v4), .val (.int (0 : Int32)), .val (.int v19), .val (.int v98), .val (.ref b3), .val (.int (1 : Int32)), .val (.int (1 : Int32)), .val (.int v199), .val (.int v209), .val (.int v219), .val (.int v229), .val (.int m249), .unset] [(.int (2 : Int32)), (.int (1 : Int32))])) _
        refine XS.icmpNo X23.here hx rfl (hb hby at_503) rfl (flt (by decide)).2.2.1 ?_
        show Steps p.tables e below (T23.setTop (mkF m 506 #[.val (.int k1), .val (.int k2), .val (.int k3), .val (.int v4), .val (.int (0 : Int32)), .val (.int v19), .val (.int v98), .val (.ref b3), .val (.int (1 : Int32)), .val (.int (1 : Int32)), .val (.int v199), .val (.int v209), .val (.int v219), .val (.int v229), .val (.int m249), .unset] [])) _
        refine XS.aload X23.here hx rfl (hb hby at_506) rfl rfl ?_
        show Steps p.tables e below (T23.setTop (mkF m 508 #[.val (.int k1), .val (.int k2), .val (.int k3), .val (.int v4), .val (.int (0 : Int32)), .val (.int v19), .val (.int v98), .val (.ref b3), .val (.int (1 : Int32)), .val (.int (1 : Int32)), .val (.int v199), .val (.int v209), .val (.int v219), .val (.int v229), .val (.int m249), .unset] [(.ref b3)])) _
        refine XS.iconst X23.here hx rfl (hb hby at_508) ?_
        show Steps p.tables e below (T23.setTop (mkF m 509 #[.val (.int k1), .val (.int k2), .val (.int k3), .val (.int v4), .val (.int (0 : Int32)), .val (.int v19), .val (.int v98), .val (.ref b3), .val (.int (1 : Int32)), .val (.int (1 : Int32)), .val (.int v199), .val (.int v209), .val (.int v219), .val (.int v229), .val (.int m249), .unset] [(.int (2 : Int32)), (.ref b3)])) _
        refine X23.baloadBytes hx (j := (2 : Int32)) (v := (.int (nar .byte v98))) (heq_of rfl Ar36.1) (State.isArrayOf_alike hZ.alike Ar36.2.1) Ar36.2.2 hin36 hat36 (g := (mkF m 509 #[.val (.int k1), .val (.int k2), .val (.int k3), .val (.int v4), .val (.int (0 : Int32)), .val (.int v19), .val (.int v98), .val (.ref b3), .val (.int (1 : Int32)), .val (.int (1 : Int32)), .val (.int v199), .val (.int v209), .val (.int v219), .val (.int v229), .val (.int m249), .unset] [(.int (2 : Int32)), (.ref b3)])) rfl rfl (hb hby at_509) _ ?_
        show Steps p.tables e below (T23.setTop (mkF m 510 #[.val (.int k1), .val (.int k2), .val (.int k3), .val (.int v4), .val (.int (0 : Int32)), .val (.int v19), .val (.int v98), .val (.ref b3), .val (.int (1 : Int32)), .val (.int (1 : Int32)), .val (.int v199), .val (.int v209), .val (.int v219), .val (.int v229), .val (.int m249), .unset] [(.int (nar .byte v98))])) _
        refine XS.iload X23.here hx rfl (hb hby at_510) rfl ?_
        show Steps p.tables e below (T23.setTop (mkF m 512 #[.val (.int k1), .val (.int k2), .val (.int k3), .val (.int v4), .val (.int (0 : Int32)), .val (.int v19), .val (.int v98), .val (.ref b3), .val (.int (1 : Int32)), .val (.int (1 : Int32)), .val (.int v199), .val (.int v209), .val (.int v219), .val (.int v229), .val (.int m249), .unset] [(.int v98), (.int (nar .byte v98))])) _
        refine XS.icmpNo X23.here hx rfl (hb hby at_512) rfl (teq hc497_35).2 ?_
        show Steps p.tables e below (T23.setTop (mkF m 515 #[.val (.int k1), .val (.int k2), .val (.int k3), .val (.int v4), .val (.int (0 : Int32)), .val (.int v19), .val (.int v98), .val (.ref b3), .val (.int (1 : Int32)), .val (.int (1 : Int32)), .val (.int v199), .val (.int v209), .val (.int v219), .val (.int v229), .val (.int m249), .unset] [])) _
        refine XS.iload X23.here hx rfl (hb hby at_515) rfl ?_
        show Steps p.tables e below (T23.setTop (mkF m 517 #[.val (.int k1), .val (.int k2), .val (.int k3), .val (.int v4), .val (.int (0 : Int32)), .val (.int v19), .val (.int v98), .val (.ref b3), .val (.int (1 : Int32)), .val (.int (1 : Int32)), .val (.int v199), .val (.int v209), .val (.int v219), .val (.int v229), .val (.int m249), .unset] [(.int (1 : Int32))])) _
        refine XS.iconst X23.here hx rfl (hb hby at_517) ?_
        show Steps p.tables e below (T23.setTop (mkF m 518 #[.val (.int k1), .val (.int k2), .val (.int k3), .val (.int v4), .val (.int (0 : Int32)), .val (.int v19), .val (.int v98), .val (.ref b3), .val (.int (1 : Int32)), .val (.int (1 : Int32)), .val (.int v199), .val (.int v209), .val (.int v219), .val (.int v229), .val (.int m249), .unset] [(.int (3 : Int32)), (.int (1 : Int32))])) _
        refine XS.icmpNo X23.here hx rfl (hb hby at_518) rfl (flt (by decide)).2.2.1 ?_
        show Steps p.tables e below (T23.setTop (mkF m 521 #[.val (.int k1), .val (.int k2), .val (.int k3), .val (.int v4), .val (.int (0 : Int32)), .val (.int v19), .val (.int v98), .val (.ref b3), .val (.int (1 : Int32)), .val (.int (1 : Int32)), .val (.int v199), .val (.int v209), .val (.int v219), .val (.int v229), .val (.int m249), .unset] [])) _
        refine XS.aload X23.here hx rfl (hb hby at_521) rfl rfl ?_
        show Steps p.tables e below (T23.setTop (mkF m 523 #[.val (.int k1), .val (.int k2), .val (.int k3), .val (.int v4), .val (.int (0 : Int32)), .val (.int v19), .val (.int v98), .val (.ref b3), .val (.int (1 : Int32)), .val (.int (1 : Int32)), .val (.int v199), .val (.int v209), .val (.int v219), .val (.int v229), .val (.int m249), .unset] [(.ref b3)])) _
        refine XS.iconst X23.here hx rfl (hb hby at_523) ?_
        show Steps p.tables e below (T23.setTop (mkF m 524 #[.val (.int k1), .val (.int k2), .val (.int k3), .val (.int v4), .val (.int (0 : Int32)), .val (.int v19), .val (.int v98), .val (.ref b3), .val (.int (1 : Int32)), .val (.int (1 : Int32)), .val (.int v199), .val (.int v209), .val (.int v219), .val (.int v229), .val (.int m249), .unset] [(.int (3 : Int32)), (.ref b3)])) _
        refine X23.baloadBytes hx (j := (3 : Int32)) (v := (.int (nar .byte v98))) (heq_of rfl Ar37.1) (State.isArrayOf_alike hZ.alike Ar37.2.1) Ar37.2.2 hin37 hat37 (g := (mkF m 524 #[.val (.int k1), .val (.int k2), .val (.int k3), .val (.int v4), .val (.int (0 : Int32)), .val (.int v19), .val (.int v98), .val (.ref b3), .val (.int (1 : Int32)), .val (.int (1 : Int32)), .val (.int v199), .val (.int v209), .val (.int v219), .val (.int v229), .val (.int m249), .unset] [(.int (3 : Int32)), (.ref b3)])) rfl rfl (hb hby at_524) _ ?_
        show Steps p.tables e below (T23.setTop (mkF m 525 #[.val (.int k1), .val (.int k2), .val (.int k3), .val (.int v4), .val (.int (0 : Int32)), .val (.int v19), .val (.int v98), .val (.ref b3), .val (.int (1 : Int32)), .val (.int (1 : Int32)), .val (.int v199), .val (.int v209), .val (.int v219), .val (.int v229), .val (.int m249), .unset] [(.int (nar .byte v98))])) _
        refine XS.iload X23.here hx rfl (hb hby at_525) rfl ?_
        show Steps p.tables e below (T23.setTop (mkF m 527 #[.val (.int k1), .val (.int k2), .val (.int k3), .val (.int v4), .val (.int (0 : Int32)), .val (.int v19), .val (.int v98), .val (.ref b3), .val (.int (1 : Int32)), .val (.int (1 : Int32)), .val (.int v199), .val (.int v209), .val (.int v219), .val (.int v229), .val (.int m249), .unset] [(.int v98), (.int (nar .byte v98))])) _
        refine XS.icmpNo X23.here hx rfl (hb hby at_527) rfl (teq hc497_35).2 ?_
        show Steps p.tables e below (T23.setTop (mkF m 530 #[.val (.int k1), .val (.int k2), .val (.int k3), .val (.int v4), .val (.int (0 : Int32)), .val (.int v19), .val (.int v98), .val (.ref b3), .val (.int (1 : Int32)), .val (.int (1 : Int32)), .val (.int v199), .val (.int v209), .val (.int v219), .val (.int v229), .val (.int m249), .unset] [])) _
        refine XS.iconst X23.here hx rfl (hb hby at_530) ?_
        show Steps p.tables e below (T23.setTop (mkF m 531 #[.val (.int k1), .val (.int k2), .val (.int k3), .val (.int v4), .val (.int (0 : Int32)), .val (.int v19), .val (.int v98), .val (.ref b3), .val (.int (1 : Int32)), .val (.int (1 : Int32)), .val (.int v199), .val (.int v209), .val (.int v219), .val (.int v229), .val (.int m249), .unset] [(.int (1 : Int32))])) _
        refine XS.goto X23.here hx rfl (pc0 := 531) (pc' := 535) rfl (hb hby at_531) (by decide) (by decide) ?_
        show Steps p.tables e below (T23.setTop (mkF m 535 #[.val (.int k1), .val (.int k2), .val (.int k3), .val (.int v4), .val (.int (0 : Int32)), .val (.int v19), .val (.int v98), .val (.ref b3), .val (.int (1 : Int32)), .val (.int (1 : Int32)), .val (.int v199), .val (.int v209), .val (.int v219), .val (.int v229), .val (.int m249), .unset] [(.int (1 : Int32))])) _
        refine XS.istore X23.here hx rfl (hb hby at_535) rfl (l' := #[.val (.int k1), .val (.int k2), .val (.int k3), .val (.int v4), .val (.int (0 : Int32)), .val (.int v19), .val (.int v98), .val (.ref b3), .val (.int (1 : Int32)), .val (.int (1 : Int32)), .val (.int v199), .val (.int v209), .val (.int v219), .val (.int v229), .val (.int m249), .val (.int (1 : Int32))]) rfl ?_
        show Steps p.tables e below (T23.setTop (mkF m 537 #[.val (.int k1), .val (.int k2), .val (.int k3), .val (.int v4), .val (.int (0 : Int32)), .val (.int v19), .val (.int v98), .val (.ref b3), .val (.int (1 : Int32)), .val (.int (1 : Int32)), .val (.int v199), .val (.int v209), .val (.int v219), .val (.int v229), .val (.int m249), .val (.int (1 : Int32))] [])) _
        refine XS.iload X23.here hx rfl (hb hby at_537) rfl ?_
        by_cases d38 : m249 = (0 : Int32)
        · skip
          show Steps p.tables e below (T23.setTop (mkF m 539 #[.val (.int k1), .val (.int k2), .val (.int k3), .val (.int v4), .val (.int (0 : Int32)), .val (.int v19), .val (.int v98), .val (.ref b3), .val (.int (1 : Int32)), .val (.int (1 : Int32)), .val (.int v199), .val (.int v209), .val (.int v219), .val (.int v229), .val (.int m249), .val (.int (1 : Int32))] [(.int m249)])) _
          refine XS.ifYes X23.here hx rfl (pc0 := 539) (pc' := 551) rfl (hb hby at_539) rfl ((if0 _ _).trans (teq d38).1) (by decide) (by decide) ?_
          show Steps p.tables e below (T23.setTop (mkF m 551 #[.val (.int k1), .val (.int k2), .val (.int k3), .val (.int v4), .val (.int (0 : Int32)), .val (.int v19), .val (.int v98), .val (.ref b3), .val (.int (1 : Int32)), .val (.int (1 : Int32)), .val (.int v199), .val (.int v209), .val (.int v219), .val (.int v229), .val (.int m249), .val (.int (1 : Int32))] [])) _
          refine XS.iconst X23.here hx rfl (hb hby at_551) ?_
          show Steps p.tables e below (T23.setTop (mkF m 552 #[.val (.int k1), .val (.int k2), .val (.int k3), .val (.int v4), .val (.int (0 : Int32)), .val (.int v19), .val (.int v98), .val (.ref b3), .val (.int (1 : Int32)), .val (.int (1 : Int32)), .val (.int v199), .val (.int v209), .val (.int v219), .val (.int v229), .val (.int m249), .val (.int (1 : Int32))] [(.int (0 : Int32))])) _
          exact castTop (by simp only [hm552, if_pos d38]) kt
        · skip
          show Steps p.tables e below (T23.setTop (mkF m 539 #[.val (.int k1), .val (.int k2), .val (.int k3), .val (.int v4), .val (.int (0 : Int32)), .val (.int v19), .val (.int v98), .val (.ref b3), .val (.int (1 : Int32)), .val (.int (1 : Int32)), .val (.int v199), .val (.int v209), .val (.int v219), .val (.int v229), .val (.int m249), .val (.int (1 : Int32))] [(.int m249)])) _
          refine XS.ifNo X23.here hx rfl (hb hby at_539) rfl ((if0 _ _).trans (feq d38).1) ?_
          show Steps p.tables e below (T23.setTop (mkF m 542 #[.val (.int k1), .val (.int k2), .val (.int k3), .val (.int v4), .val (.int (0 : Int32)), .val (.int v19), .val (.int v98), .val (.ref b3), .val (.int (1 : Int32)), .val (.int (1 : Int32)), .val (.int v199), .val (.int v209), .val (.int v219), .val (.int v229), .val (.int m249), .val (.int (1 : Int32))] [])) _
          refine XS.iload X23.here hx rfl (hb hby at_542) rfl ?_
          show Steps p.tables e below (T23.setTop (mkF m 544 #[.val (.int k1), .val (.int k2), .val (.int k3), .val (.int v4), .val (.int (0 : Int32)), .val (.int v19), .val (.int v98), .val (.ref b3), .val (.int (1 : Int32)), .val (.int (1 : Int32)), .val (.int v199), .val (.int v209), .val (.int v219), .val (.int v229), .val (.int m249), .val (.int (1 : Int32))] [(.int (1 : Int32))])) _
          refine XS.ifNo X23.here hx rfl (hb hby at_544) rfl ((if0 _ _).trans (feq (by decide)).1) ?_
          show Steps p.tables e below (T23.setTop (mkF m 547 #[.val (.int k1), .val (.int k2), .val (.int k3), .val (.int v4), .val (.int (0 : Int32)), .val (.int v19), .val (.int v98), .val (.ref b3), .val (.int (1 : Int32)), .val (.int (1 : Int32)), .val (.int v199), .val (.int v209), .val (.int v219), .val (.int v229), .val (.int m249), .val (.int (1 : Int32))] [])) _
          refine XS.iconst X23.here hx rfl (hb hby at_547) ?_
          show Steps p.tables e below (T23.setTop (mkF m 548 #[.val (.int k1), .val (.int k2), .val (.int k3), .val (.int v4), .val (.int (0 : Int32)), .val (.int v19), .val (.int v98), .val (.ref b3), .val (.int (1 : Int32)), .val (.int (1 : Int32)), .val (.int v199), .val (.int v209), .val (.int v219), .val (.int v229), .val (.int m249), .val (.int (1 : Int32))] [(.int (1 : Int32))])) _
          refine XS.goto X23.here hx rfl (pc0 := 548) (pc' := 552) rfl (hb hby at_548) (by decide) (by decide) ?_
          show Steps p.tables e below (T23.setTop (mkF m 552 #[.val (.int k1), .val (.int k2), .val (.int k3), .val (.int v4), .val (.int (0 : Int32)), .val (.int v19), .val (.int v98), .val (.ref b3), .val (.int (1 : Int32)), .val (.int (1 : Int32)), .val (.int v199), .val (.int v209), .val (.int v219), .val (.int v229), .val (.int m249), .val (.int (1 : Int32))] [(.int (1 : Int32))])) _
          exact castTop (by simp only [hm552, if_neg d38]) kt
      obtain ⟨fs, hr, hrun, hended, hW, hsame⟩ := X23.leave (v := some (Value.int (nar .boolean m552))) (fun h => by rw [Bd.returns] at h; cases h)
      have hres40 : (nar .boolean m552) = (1 : Int32) := (own_leaf_0_552_s0f k1 k2 k3 v4 hv4 hv8 v19 hv19 v98 hv98 hp23_h1 v199 hv199 v209 hv209 v219 hv219 v229 hv229 m249 hm249 hc497_35 m552 hm552)
      refine ⟨_, _, pre39 _ ?_, hrun, hended, _, _, rfl, ?_, ⟨_, rfl⟩, hW, hsame.mono (by decide) (by decide)⟩
      · skip
        show Steps p.tables e below (T23.setTop (mkF m 552 #[.val (.int k1), .val (.int k2), .val (.int k3), .val (.int v4), .val (.int (0 : Int32)), .val (.int v19), .val (.int v98), .val (.ref b3), .val (.int (1 : Int32)), .val (.int (1 : Int32)), .val (.int v199), .val (.int v209), .val (.int v219), .val (.int v229), .val (.int m249), .val (.int (1 : Int32))] [(.int m552)])) _
        exact retN X23 hx (t := .boolean) Bd.returns (by simp) (hb hby at_552) hr
      · show Q0 Z k1 k2 k3 h0 n0 _ T23.heap _
        exact ⟨congrArg (fun z => some (Value.int z)) hres40, N23⟩
    · skip
      have pre42 : ∀ tq, Steps p.tables e below (T23.setTop (mkF m 552 #[.val (.int k1), .val (.int k2), .val (.int k3), .val (.int v4), .val (.int (0 : Int32)), .val (.int v19), .val (.int v98), .val (.ref b3), .val (.int (1 : Int32)), .val (.int (1 : Int32)), .val (.int v199), .val (.int v209), .val (.int v219), .val (.int v229), .val (.int m249), .val (.int (0 : Int32))] [(.int (0 : Int32))])) tq → Steps p.tables e below (s₁.setTop (entryFrame m #[(.int k1), (.int k2), (.int k3)] maxLocals)) tq := by
        intro tq kt
        refine pre34 _ ?_
        show Steps p.tables e below (T23.setTop (mkF m 497 #[.val (.int k1), .val (.int k2), .val (.int k3), .val (.int v4), .val (.int (0 : Int32)), .val (.int v19), .val (.int v98), .val (.ref b3), .val (.int (1 : Int32)), .val (.int (1 : Int32)), .val (.int v199), .val (.int v209), .val (.int v219), .val (.int v229), .val (.int m249), .unset] [(.int v98), (.int (nar .byte v98))])) _
        refine XS.icmpYes X23.here hx rfl (pc0 := 497) (pc' := 534) rfl (hb hby at_497) rfl (feq hc497_35).2 (by decide) (by decide) ?_
        show Steps p.tables e below (T23.setTop (mkF m 534 #[.val (.int k1), .val (.int k2), .val (.int k3), .val (.int v4), .val (.int (0 : Int32)), .val (.int v19), .val (.int v98), .val (.ref b3), .val (.int (1 : Int32)), .val (.int (1 : Int32)), .val (.int v199), .val (.int v209), .val (.int v219), .val (.int v229), .val (.int m249), .unset] [])) _
        refine XS.iconst X23.here hx rfl (hb hby at_534) ?_
        show Steps p.tables e below (T23.setTop (mkF m 535 #[.val (.int k1), .val (.int k2), .val (.int k3), .val (.int v4), .val (.int (0 : Int32)), .val (.int v19), .val (.int v98), .val (.ref b3), .val (.int (1 : Int32)), .val (.int (1 : Int32)), .val (.int v199), .val (.int v209), .val (.int v219), .val (.int v229), .val (.int m249), .unset] [(.int (0 : Int32))])) _
        refine XS.istore X23.here hx rfl (hb hby at_535) rfl (l' := #[.val (.int k1), .val (.int k2), .val (.int k3), .val (.int v4), .val (.int (0 : Int32)), .val (.int v19), .val (.int v98), .val (.ref b3), .val (.int (1 : Int32)), .val (.int (1 : Int32)), .val (.int v199), .val (.int v209), .val (.int v219), .val (.int v229), .val (.int m249), .val (.int (0 : Int32))]) rfl ?_
        show Steps p.tables e below (T23.setTop (mkF m 537 #[.val (.int k1), .val (.int k2), .val (.int k3), .val (.int v4), .val (.int (0 : Int32)), .val (.int v19), .val (.int v98), .val (.ref b3), .val (.int (1 : Int32)), .val (.int (1 : Int32)), .val (.int v199), .val (.int v209), .val (.int v219), .val (.int v229), .val (.int m249), .val (.int (0 : Int32))] [])) _
        refine XS.iload X23.here hx rfl (hb hby at_537) rfl ?_
        by_cases d41 : m249 = (0 : Int32)
        · skip
          show Steps p.tables e below (T23.setTop (mkF m 539 #[.val (.int k1), .val (.int k2), .val (.int k3), .val (.int v4), .val (.int (0 : Int32)), .val (.int v19), .val (.int v98), .val (.ref b3), .val (.int (1 : Int32)), .val (.int (1 : Int32)), .val (.int v199), .val (.int v209), .val (.int v219), .val (.int v229), .val (.int m249), .val (.int (0 : Int32))] [(.int m249)])) _
          refine XS.ifYes X23.here hx rfl (pc0 := 539) (pc' := 551) rfl (hb hby at_539) rfl ((if0 _ _).trans (teq d41).1) (by decide) (by decide) ?_
          show Steps p.tables e below (T23.setTop (mkF m 551 #[.val (.int k1), .val (.int k2), .val (.int k3), .val (.int v4), .val (.int (0 : Int32)), .val (.int v19), .val (.int v98), .val (.ref b3), .val (.int (1 : Int32)), .val (.int (1 : Int32)), .val (.int v199), .val (.int v209), .val (.int v219), .val (.int v229), .val (.int m249), .val (.int (0 : Int32))] [])) _
          refine XS.iconst X23.here hx rfl (hb hby at_551) ?_
          show Steps p.tables e below (T23.setTop (mkF m 552 #[.val (.int k1), .val (.int k2), .val (.int k3), .val (.int v4), .val (.int (0 : Int32)), .val (.int v19), .val (.int v98), .val (.ref b3), .val (.int (1 : Int32)), .val (.int (1 : Int32)), .val (.int v199), .val (.int v209), .val (.int v219), .val (.int v229), .val (.int m249), .val (.int (0 : Int32))] [(.int (0 : Int32))])) _
          exact castTop (by simp only [if_pos d41]) kt
        · skip
          show Steps p.tables e below (T23.setTop (mkF m 539 #[.val (.int k1), .val (.int k2), .val (.int k3), .val (.int v4), .val (.int (0 : Int32)), .val (.int v19), .val (.int v98), .val (.ref b3), .val (.int (1 : Int32)), .val (.int (1 : Int32)), .val (.int v199), .val (.int v209), .val (.int v219), .val (.int v229), .val (.int m249), .val (.int (0 : Int32))] [(.int m249)])) _
          refine XS.ifNo X23.here hx rfl (hb hby at_539) rfl ((if0 _ _).trans (feq d41).1) ?_
          show Steps p.tables e below (T23.setTop (mkF m 542 #[.val (.int k1), .val (.int k2), .val (.int k3), .val (.int v4), .val (.int (0 : Int32)), .val (.int v19), .val (.int v98), .val (.ref b3), .val (.int (1 : Int32)), .val (.int (1 : Int32)), .val (.int v199), .val (.int v209), .val (.int v219), .val (.int v229), .val (.int m249), .val (.int (0 : Int32))] [])) _
          refine XS.iload X23.here hx rfl (hb hby at_542) rfl ?_
          show Steps p.tables e below (T23.setTop (mkF m 544 #[.val (.int k1), .val (.int k2), .val (.int k3), .val (.int v4), .val (.int (0 : Int32)), .val (.int v19), .val (.int v98), .val (.ref b3), .val (.int (1 : Int32)), .val (.int (1 : Int32)), .val (.int v199), .val (.int v209), .val (.int v219), .val (.int v229), .val (.int m249), .val (.int (0 : Int32))] [(.int (0 : Int32))])) _
          refine XS.ifYes X23.here hx rfl (pc0 := 544) (pc' := 551) rfl (hb hby at_544) rfl ((if0 _ _).trans (teq rfl).1) (by decide) (by decide) ?_
          show Steps p.tables e below (T23.setTop (mkF m 551 #[.val (.int k1), .val (.int k2), .val (.int k3), .val (.int v4), .val (.int (0 : Int32)), .val (.int v19), .val (.int v98), .val (.ref b3), .val (.int (1 : Int32)), .val (.int (1 : Int32)), .val (.int v199), .val (.int v209), .val (.int v219), .val (.int v229), .val (.int m249), .val (.int (0 : Int32))] [])) _
          refine XS.iconst X23.here hx rfl (hb hby at_551) ?_
          show Steps p.tables e below (T23.setTop (mkF m 552 #[.val (.int k1), .val (.int k2), .val (.int k3), .val (.int v4), .val (.int (0 : Int32)), .val (.int v19), .val (.int v98), .val (.ref b3), .val (.int (1 : Int32)), .val (.int (1 : Int32)), .val (.int v199), .val (.int v209), .val (.int v219), .val (.int v229), .val (.int m249), .val (.int (0 : Int32))] [(.int (0 : Int32))])) _
          exact castTop (by simp only [if_neg d41]) kt
      obtain ⟨fs, hr, hrun, hended, hW, hsame⟩ := X23.leave (v := some (Value.int (0 : Int32))) (fun h => by rw [Bd.returns] at h; cases h)
      have hres43 : (0 : Int32) = (1 : Int32) := (own_leaf_0_552_s0t k1 k2 k3 v4 hv4 hv8 v19 hv19 v98 hv98 hp23_h1 v199 hv199 v209 hv209 v219 hv219 v229 hv229 m249 hm249 hc497_35)
      refine ⟨_, _, pre42 _ ?_, hrun, hended, _, _, rfl, ?_, ⟨_, rfl⟩, hW, hsame.mono (by decide) (by decide)⟩
      · skip
        show Steps p.tables e below (T23.setTop (mkF m 552 #[.val (.int k1), .val (.int k2), .val (.int k3), .val (.int v4), .val (.int (0 : Int32)), .val (.int v19), .val (.int v98), .val (.ref b3), .val (.int (1 : Int32)), .val (.int (1 : Int32)), .val (.int v199), .val (.int v209), .val (.int v219), .val (.int v229), .val (.int m249), .val (.int (0 : Int32))] [(.int (0 : Int32))])) _
        exact retN X23 hx (t := .boolean) Bd.returns (by simp) (hb hby at_552) hr
      · show Q0 Z k1 k2 k3 h0 n0 _ T23.heap _
        exact ⟨congrArg (fun z => some (Value.int z)) hres43, N23⟩
  · subst hs2
    obtain ⟨v39, hv39⟩ : ∃ z_q : Int32, z_q = ((128 : Int32) + (v4 % (1920 : Int32))) := ⟨_, rfl⟩
    obtain ⟨v98, hv98⟩ : ∃ z_q : Int32, z_q = (k3.toInt8.toInt32) := ⟨_, rfl⟩
    obtain ⟨T44, hX44, kx44, X44, e44, E44, A44, st44⟩ := newP X0 hx hZ (hw _ (List.mem_of_getElem? (i := 3) rfl)) e0 (g := (mkF m 101 #[.val (.int k1), .val (.int k2), .val (.int k3), .val (.int v4), .val (.int (1 : Int32)), .val (.int v39), .val (.int v98), .unset, .unset, .unset, .unset, .unset, .unset, .unset, .unset, .unset] [(.int (4 : Int32))])) rfl (hb hby at_101) rfl (by decide) (cap := 4) (by decide) (by decide) (by decide) (by decide)
    obtain ⟨b44, g44⟩ : ∃ z_q, z_q = h0.size := ⟨_, rfl⟩
    rw [← g44] at A44 st44
    have g_b44 : n0 ≤ b44 := Nat.le_trans Z0 (Nat.le_of_eq g44.symm)
    have sz_b44 : h0.size ≤ b44 := Nat.le_trans K0.1 (Nat.le_of_eq g44.symm)
    have Z45 : n0 ≤ hX44.size := Nat.le_trans Z0 E44.1
    have K46 : Keep h0 hX44 [] := K0.ext E44
    have F47 : Arv Z hX44 b44 kx44 .byte (4 : Int32) [(.int (0 : Int32)), (.int (0 : Int32)), (.int (0 : Int32)), (.int (0 : Int32))] (.int (0 : Int32)) := (Arv.new A44 (by decide)).pad (pad_rep [] (.int (0 : Int32)) 4)
    obtain ⟨cl48, Ar48, q48, S48, M48, H48, G48⟩ := id F47
    have hin48 : ¬ ((0 : Int32) < 0 ∨ cl48.slots.size ≤ ((0 : Int32)).toNatClampNeg) := inb_of S48 ⟨by decide, by decide⟩
    obtain ⟨T48, hX48, X48, e48, W48, st48⟩ := stB X44 hx hZ e44 Ar48 (j := (0 : Int32)) hin48 (g := (mkF m 110 #[.val (.int k1), .val (.int k2), .val (.int k3), .val (.int v4), .val (.int (1 : Int32)), .val (.int v39), .val (.int v98), .val (.ref b44), .unset, .unset, .unset, .unset, .unset, .unset, .unset, .unset] [(.int v98), (.int (0 : Int32)), (.ref b44)])) rfl rfl (hb hby at_110)
    have F49 : Arv Z hX48 b44 kx44 .byte (4 : Int32) [(.int (nar .byte v98)), (.int (0 : Int32)), (.int (0 : Int32)), (.int (0 : Int32))] (.int (0 : Int32)) := Arv.set Ar48 q48 S48 M48 H48 G48 (fits_nar_byte _) W48 0 rfl (Nat.le_of_ble_eq_true rfl)
    have N48 := Fr.snoc X48 N0 g_b44
    have Z50 : n0 ≤ hX48.size := Nat.le_trans Z45 (Keep.of_wr W48).1
    have K51 : Keep h0 hX48 [] := K46.wr W48 (Or.inr sz_b44)
    obtain ⟨cl52, Ar52, q52, S52, M52, H52, G52⟩ := id F49
    have hin52 : ¬ ((1 : Int32) < 0 ∨ cl52.slots.size ≤ ((1 : Int32)).toNatClampNeg) := inb_of S52 ⟨by decide, by decide⟩
    obtain ⟨T52, hX52, X52, e52, W52, st52⟩ := stB X48 hx hZ e48 Ar52 (j := (1 : Int32)) hin52 (g := (mkF m 116 #[.val (.int k1), .val (.int k2), .val (.int k3), .val (.int v4), .val (.int (1 : Int32)), .val (.int v39), .val (.int v98), .val (.ref b44), .unset, .unset, .unset, .unset, .unset, .unset, .unset, .unset] [(.int v98), (.int (1 : Int32)), (.ref b44)])) rfl rfl (hb hby at_116)
    have F53 : Arv Z hX52 b44 kx44 .byte (4 : Int32) [(.int (nar .byte v98)), (.int (nar .byte v98)), (.int (0 : Int32)), (.int (0 : Int32))] (.int (0 : Int32)) := Arv.set Ar52 q52 S52 M52 H52 G52 (fits_nar_byte _) W52 1 rfl (Nat.le_of_ble_eq_true rfl)
    have N52 := Fr.snoc X52 N48 g_b44
    have Z54 : n0 ≤ hX52.size := Nat.le_trans Z50 (Keep.of_wr W52).1
    have K55 : Keep h0 hX52 [] := K51.wr W52 (Or.inr sz_b44)
    obtain ⟨cl56, Ar56, q56, S56, M56, H56, G56⟩ := id F53
    have hin56 : ¬ ((2 : Int32) < 0 ∨ cl56.slots.size ≤ ((2 : Int32)).toNatClampNeg) := inb_of S56 ⟨by decide, by decide⟩
    obtain ⟨T56, hX56, X56, e56, W56, st56⟩ := stB X52 hx hZ e52 Ar56 (j := (2 : Int32)) hin56 (g := (mkF m 122 #[.val (.int k1), .val (.int k2), .val (.int k3), .val (.int v4), .val (.int (1 : Int32)), .val (.int v39), .val (.int v98), .val (.ref b44), .unset, .unset, .unset, .unset, .unset, .unset, .unset, .unset] [(.int v98), (.int (2 : Int32)), (.ref b44)])) rfl rfl (hb hby at_122)
    have F57 : Arv Z hX56 b44 kx44 .byte (4 : Int32) [(.int (nar .byte v98)), (.int (nar .byte v98)), (.int (nar .byte v98)), (.int (0 : Int32))] (.int (0 : Int32)) := Arv.set Ar56 q56 S56 M56 H56 G56 (fits_nar_byte _) W56 2 rfl (Nat.le_of_ble_eq_true rfl)
    have N56 := Fr.snoc X56 N52 g_b44
    have Z58 : n0 ≤ hX56.size := Nat.le_trans Z54 (Keep.of_wr W56).1
    have K59 : Keep h0 hX56 [] := K55.wr W56 (Or.inr sz_b44)
    obtain ⟨cl60, Ar60, q60, S60, M60, H60, G60⟩ := id F57
    have hin60 : ¬ ((3 : Int32) < 0 ∨ cl60.slots.size ≤ ((3 : Int32)).toNatClampNeg) := inb_of S60 ⟨by decide, by decide⟩
    obtain ⟨T60, hX60, X60, e60, W60, st60⟩ := stB X56 hx hZ e56 Ar60 (j := (3 : Int32)) hin60 (g := (mkF m 128 #[.val (.int k1), .val (.int k2), .val (.int k3), .val (.int v4), .val (.int (1 : Int32)), .val (.int v39), .val (.int v98), .val (.ref b44), .unset, .unset, .unset, .unset, .unset, .unset, .unset, .unset] [(.int v98), (.int (3 : Int32)), (.ref b44)])) rfl rfl (hb hby at_128)
    have F61 : Arv Z hX60 b44 kx44 .byte (4 : Int32) [(.int (nar .byte v98)), (.int (nar .byte v98)), (.int (nar .byte v98)), (.int (nar .byte v98))] (.int (0 : Int32)) := Arv.set Ar60 q60 S60 M60 H60 G60 (fits_nar_byte _) W60 3 rfl (Nat.le_of_ble_eq_true rfl)
    have N60 := Fr.snoc X60 N56 g_b44
    have Z62 : n0 ≤ hX60.size := Nat.le_trans Z58 (Keep.of_wr W60).1
    have K63 : Keep h0 hX60 [] := K59.wr W60 (Or.inr sz_b44)
    have hp64_h1 : ¬ (v39 < (128 : Int32)) := (own_pre_0_133_h1_s1 k1 k2 k3 v4 hv4 hv8 v39 hv39 v98 hv98)
    have hp64_h2 : v39 < (2048 : Int32) := (own_pre_0_133_h2_s1 k1 k2 k3 v4 hv4 hv8 v39 hv39 v98 hv98 hp64_h1)
    obtain ⟨_, _, ⟨T64, L64, k64, n64⟩, -, X64, ⟨Lc64, hQ64, l64, y64, z64⟩, st64⟩ := Jvm.LawKit.callS X60 hx (y := (⟨"com/example/marcotte/marcotte/XmlCharacters", "writeUtf8", "(I[B)I"⟩ : MethodName)) hown (mvT hZ (hw _ (List.mem_of_getElem? (i := 4) rfl))) (mvT hZ (hw _ (List.mem_of_getElem? (i := 5) rfl))) (mvT hZ (hw _ (List.mem_of_getElem? (i := 6) rfl))) (mvT hZ (hw _ (List.mem_of_getElem? (i := 7) rfl))) (by decide) (backOf (W := 0) (rm1_1 l Z a0 hw [] v39 b44 kx44 (nar .byte v98) (nar .byte v98) (nar .byte v98) (nar .byte v98) hX60 n0 Z62 F61 g_b44 hp64_h1 hp64_h2) hZ (hw _ (List.mem_of_getElem? (i := 7) rfl)) (hw _ (List.mem_of_getElem? (i := 6) rfl)) (by decide) (by decide)) (g := (mkF m 133 #[.val (.int k1), .val (.int k2), .val (.int k3), .val (.int v4), .val (.int (1 : Int32)), .val (.int v39), .val (.int v98), .val (.ref b44), .unset, .unset, .unset, .unset, .unset, .unset, .unset, .unset] [(.ref b44), (.int v39)])) rfl (by rw [hml]; rfl) (argsL := [(.int v39), (.ref b44)]) (rest := []) (lenOf pd_0 rfl) rfl (by show 2 * 0 + _ ≤ _; exact Nat.le_of_eq rfl) (hb hby at_133) (fun _ _ => ⟨rfl, e60, (by decide : 1 + 0 ≤ _), (by decide : 4 + 0 ≤ _)⟩)
    dsimp only [Pt.U, Pt.locs, Pt.cells, Pt.slots] at X64 l64 y64 z64 st64 hQ64
    subst l64 y64 z64
    obtain ⟨rfl, N64q, K64q, F65⟩ := hQ64
    have N64 := Fr.app N60 N64q
    have Z66 : n0 ≤ T64.heap.size := Nat.le_trans Z62 K64q.1
    have K67 : Keep h0 T64.heap [] := K63.trans K64q (allS (Or.inr sz_b44) all0)
    obtain ⟨cl68, Ar68, q68, S68, M68, H68, G68⟩ := id F65
    have hin68 : ¬ ((0 : Int32) < 0 ∨ cl68.slots.size ≤ ((0 : Int32)).toNatClampNeg) := inb_of S68 ⟨by decide, by decide⟩
    have hat68 : cl68.slots[((0 : Int32)).toNatClampNeg]? = some (.int (nar .byte (((192 : Int32) ||| (v39 >>> ((6 : Int32) &&& 31))).toInt8.toInt32))) := Has.at H68 hin68 rfl
    obtain ⟨v199, hv199⟩ : ∃ z_q : Int32, z_q = ((nar .byte (((192 : Int32) ||| (v39 >>> ((6 : Int32) &&& 31))).toInt8.toInt32)) &&& (255 : Int32)) := ⟨_, rfl⟩
    obtain ⟨cl69, Ar69, q69, S69, M69, H69, G69⟩ := id F65
    have hin69 : ¬ ((1 : Int32) < 0 ∨ cl69.slots.size ≤ ((1 : Int32)).toNatClampNeg) := inb_of S69 ⟨by decide, by decide⟩
    have hat69 : cl69.slots[((1 : Int32)).toNatClampNeg]? = some (.int (nar .byte (((128 : Int32) ||| (v39 &&& (63 : Int32))).toInt8.toInt32))) := Has.at H69 hin69 rfl
    obtain ⟨v209, hv209⟩ : ∃ z_q : Int32, z_q = ((nar .byte (((128 : Int32) ||| (v39 &&& (63 : Int32))).toInt8.toInt32)) &&& (255 : Int32)) := ⟨_, rfl⟩
    obtain ⟨cl70, Ar70, q70, S70, M70, H70, G70⟩ := id F65
    have hin70 : ¬ ((2 : Int32) < 0 ∨ cl70.slots.size ≤ ((2 : Int32)).toNatClampNeg) := inb_of S70 ⟨by decide, by decide⟩
    have hat70 : cl70.slots[((2 : Int32)).toNatClampNeg]? = some (.int (nar .byte v98)) := Has.at H70 hin70 rfl
    obtain ⟨v219, hv219⟩ : ∃ z_q : Int32, z_q = ((nar .byte v98) &&& (255 : Int32)) := ⟨_, rfl⟩
    obtain ⟨cl71, Ar71, q71, S71, M71, H71, G71⟩ := id F65
    have hin71 : ¬ ((3 : Int32) < 0 ∨ cl71.slots.size ≤ ((3 : Int32)).toNatClampNeg) := inb_of S71 ⟨by decide, by decide⟩
    have hat71 : cl71.slots[((3 : Int32)).toNatClampNeg]? = some (.int (nar .byte v98)) := Has.at H71 hin71 rfl
    obtain ⟨v229, hv229⟩ : ∃ z_q : Int32, z_q = ((nar .byte v98) &&& (255 : Int32)) := ⟨_, rfl⟩
    obtain ⟨m308, hm308⟩ : ∃ z_q : Int32, z_q = (if (v199 &&& (224 : Int32)) = (192 : Int32) then (if (v209 &&& (192 : Int32)) = (128 : Int32) then (if (((v199 &&& (31 : Int32)) <<< ((6 : Int32) &&& 31)) ||| (v209 &&& (63 : Int32))) = v39 then (1 : Int32) else (0 : Int32)) else (0 : Int32)) else (0 : Int32)) := ⟨_, rfl⟩
    have pre75 : ∀ tq, Steps p.tables e below (T64.setTop (mkF m 308 #[.val (.int k1), .val (.int k2), .val (.int k3), .val (.int v4), .val (.int (1 : Int32)), .val (.int v39), .val (.int v98), .val (.ref b44), .val (.int (2 : Int32)), .val (.int (2 : Int32)), .val (.int v199), .val (.int v209), .val (.int v219), .val (.int v229), .unset, .unset] [(.int m308)])) tq → Steps p.tables e below (s₁.setTop (entryFrame m #[(.int k1), (.int k2), (.int k3)] maxLocals)) tq := by
      intro tq kt
      refine pre1 _ ?_
      show Steps p.tables e below (s₁.setTop (mkF m 10 #[.val (.int k1), .val (.int k2), .val (.int k3), .val (.int v4), .val (.int (1 : Int32)), .unset, .unset, .unset, .unset, .unset, .unset, .unset, .unset, .unset, .unset, .unset] [])) _
      refine XS.iload X0.here hx rfl (hb hby at_10) rfl ?_
      show Steps p.tables e below (s₁.setTop (mkF m 12 #[.val (.int k1), .val (.int k2), .val (.int k3), .val (.int v4), .val (.int (1 : Int32)), .unset, .unset, .unset, .unset, .unset, .unset, .unset, .unset, .unset, .unset, .unset] [(.int (1 : Int32))])) _
      refine XS.ifYes X0.here hx rfl (pc0 := 12) (pc' := 24) rfl (hb hby at_12) rfl ((if0 _ _).trans (feq (by decide)).2) (by decide) (by decide) ?_
      show Steps p.tables e below (s₁.setTop (mkF m 24 #[.val (.int k1), .val (.int k2), .val (.int k3), .val (.int v4), .val (.int (1 : Int32)), .unset, .unset, .unset, .unset, .unset, .unset, .unset, .unset, .unset, .unset, .unset] [])) _
      refine XS.iload X0.here hx rfl (hb hby at_24) rfl ?_
      show Steps p.tables e below (s₁.setTop (mkF m 26 #[.val (.int k1), .val (.int k2), .val (.int k3), .val (.int v4), .val (.int (1 : Int32)), .unset, .unset, .unset, .unset, .unset, .unset, .unset, .unset, .unset, .unset, .unset] [(.int (1 : Int32))])) _
      refine XS.iconst X0.here hx rfl (hb hby at_26) ?_
      show Steps p.tables e below (s₁.setTop (mkF m 27 #[.val (.int k1), .val (.int k2), .val (.int k3), .val (.int v4), .val (.int (1 : Int32)), .unset, .unset, .unset, .unset, .unset, .unset, .unset, .unset, .unset, .unset, .unset] [(.int (1 : Int32)), (.int (1 : Int32))])) _
      refine XS.icmpNo X0.here hx rfl (hb hby at_27) rfl (teq rfl).2 ?_
      show Steps p.tables e below (s₁.setTop (mkF m 30 #[.val (.int k1), .val (.int k2), .val (.int k3), .val (.int v4), .val (.int (1 : Int32)), .unset, .unset, .unset, .unset, .unset, .unset, .unset, .unset, .unset, .unset, .unset] [])) _
      refine XS.sipush X0.here hx rfl (hb hby at_30) ?_
      show Steps p.tables e below (s₁.setTop (mkF m 33 #[.val (.int k1), .val (.int k2), .val (.int k3), .val (.int v4), .val (.int (1 : Int32)), .unset, .unset, .unset, .unset, .unset, .unset, .unset, .unset, .unset, .unset, .unset] [(.int (128 : Int32))])) _
      refine XS.iloadN X0.here hx rfl (hb hby at_33) rfl ?_
      show Steps p.tables e below (s₁.setTop (mkF m 34 #[.val (.int k1), .val (.int k2), .val (.int k3), .val (.int v4), .val (.int (1 : Int32)), .unset, .unset, .unset, .unset, .unset, .unset, .unset, .unset, .unset, .unset, .unset] [(.int v4), (.int (128 : Int32))])) _
      refine XS.sipush X0.here hx rfl (hb hby at_34) ?_
      show Steps p.tables e below (s₁.setTop (mkF m 37 #[.val (.int k1), .val (.int k2), .val (.int k3), .val (.int v4), .val (.int (1 : Int32)), .unset, .unset, .unset, .unset, .unset, .unset, .unset, .unset, .unset, .unset, .unset] [(.int (1920 : Int32)), (.int v4), (.int (128 : Int32))])) _
      refine iremM X0 hx rfl (hb hby at_37) rfl (by decide : ¬ ((1920 : Int32) = (0 : Int32))) ?_
      show Steps p.tables e below (s₁.setTop (mkF m 38 #[.val (.int k1), .val (.int k2), .val (.int k3), .val (.int v4), .val (.int (1 : Int32)), .unset, .unset, .unset, .unset, .unset, .unset, .unset, .unset, .unset, .unset, .unset] [(.int (v4 % (1920 : Int32))), (.int (128 : Int32))])) _
      refine XS.iadd X0.here hx rfl (hb hby at_38) rfl ?_
      show Steps p.tables e below (s₁.setTop (mkF m 39 #[.val (.int k1), .val (.int k2), .val (.int k3), .val (.int v4), .val (.int (1 : Int32)), .unset, .unset, .unset, .unset, .unset, .unset, .unset, .unset, .unset, .unset, .unset] [(.int ((128 : Int32) + (v4 % (1920 : Int32))))])) _
      refine XS.istore X0.here hx rfl (hb hby at_39) rfl (l' := #[.val (.int k1), .val (.int k2), .val (.int k3), .val (.int v4), .val (.int (1 : Int32)), .val (.int v39), .unset, .unset, .unset, .unset, .unset, .unset, .unset, .unset, .unset, .unset]) (by rw [hv39]; rfl) ?_
      show Steps p.tables e below (s₁.setTop (mkF m 41 #[.val (.int k1), .val (.int k2), .val (.int k3), .val (.int v4), .val (.int (1 : Int32)), .val (.int v39), .unset, .unset, .unset, .unset, .unset, .unset, .unset, .unset, .unset, .unset] [])) _
      refine XS.goto X0.here hx rfl (pc0 := 41) (pc' := 96) rfl (hb hby at_41) (by decide) (by decide) ?_
      show Steps p.tables e below (s₁.setTop (mkF m 96 #[.val (.int k1), .val (.int k2), .val (.int k3), .val (.int v4), .val (.int (1 : Int32)), .val (.int v39), .unset, .unset, .unset, .unset, .unset, .unset, .unset, .unset, .unset, .unset] [])) _
      refine XS.iloadN X0.here hx rfl (hb hby at_96) rfl ?_
      show Steps p.tables e below (s₁.setTop (mkF m 97 #[.val (.int k1), .val (.int k2), .val (.int k3), .val (.int v4), .val (.int (1 : Int32)), .val (.int v39), .unset, .unset, .unset, .unset, .unset, .unset, .unset, .unset, .unset, .unset] [(.int k3)])) _
      refine XS.i2b X0.here hx rfl (hb hby at_97) rfl ?_
      show Steps p.tables e below (s₁.setTop (mkF m 98 #[.val (.int k1), .val (.int k2), .val (.int k3), .val (.int v4), .val (.int (1 : Int32)), .val (.int v39), .unset, .unset, .unset, .unset, .unset, .unset, .unset, .unset, .unset, .unset] [(.int (k3.toInt8.toInt32))])) _
      refine XS.istore X0.here hx rfl (hb hby at_98) rfl (l' := #[.val (.int k1), .val (.int k2), .val (.int k3), .val (.int v4), .val (.int (1 : Int32)), .val (.int v39), .val (.int v98), .unset, .unset, .unset, .unset, .unset, .unset, .unset, .unset, .unset]) (by rw [hv98]; rfl) ?_
      show Steps p.tables e below (s₁.setTop (mkF m 100 #[.val (.int k1), .val (.int k2), .val (.int k3), .val (.int v4), .val (.int (1 : Int32)), .val (.int v39), .val (.int v98), .unset, .unset, .unset, .unset, .unset, .unset, .unset, .unset, .unset] [])) _
      refine XS.iconst X0.here hx rfl (hb hby at_100) ?_
      show Steps p.tables e below (s₁.setTop (mkF m 101 #[.val (.int k1), .val (.int k2), .val (.int k3), .val (.int v4), .val (.int (1 : Int32)), .val (.int v39), .val (.int v98), .unset, .unset, .unset, .unset, .unset, .unset, .unset, .unset, .unset] [(.int (4 : Int32))])) _
      refine st44 _ ?_
      show Steps p.tables e below (T44.setTop (mkF m 103 #[.val (.int k1), .val (.int k2), .val (.int k3), .val (.int v4), .val (.int (1 : Int32)), .val (.int v39), .val (.int v98), .unset, .unset, .unset, .unset, .unset, .unset, .unset, .unset, .unset] [(.ref b44)])) _
      refine XS.astore X44.here hx rfl (hb hby at_103) rfl rfl (l' := #[.val (.int k1), .val (.int k2), .val (.int k3), .val (.int v4), .val (.int (1 : Int32)), .val (.int v39), .val (.int v98), .val (.ref b44), .unset, .unset, .unset, .unset, .unset, .unset, .unset, .unset]) rfl ?_
      show Steps p.tables e below (T44.setTop (mkF m 105 #[.val (.int k1), .val (.int k2), .val (.int k3), .val (.int v4), .val (.int (1 : Int32)), .val (.int v39), .val (.int v98), .val (.ref b44), .unset, .unset, .unset, .unset, .unset, .unset, .unset, .unset] [])) _
      refine XS.aload X44.here hx rfl (hb hby at_105) rfl rfl ?_
      show Steps p.tables e below (T44.setTop (mkF m 107 #[.val (.int k1), .val (.int k2), .val (.int k3), .val (.int v4), .val (.int (1 : Int32)), .val (.int v39), .val (.int v98), .val (.ref b44), .unset, .unset, .unset, .unset, .unset, .unset, .unset, .unset] [(.ref b44)])) _
      refine XS.iconst X44.here hx rfl (hb hby at_107) ?_
      show Steps p.tables e below (T44.setTop (mkF m 108 #[.val (.int k1), .val (.int k2), .val (.int k3), .val (.int v4), .val (.int (1 : Int32)), .val (.int v39), .val (.int v98), .val (.ref b44), .unset, .unset, .unset, .unset, .unset, .unset, .unset, .unset] [(.int (0 : Int32)), (.ref b44)])) _
      refine XS.iload X44.here hx rfl (hb hby at_108) rfl ?_
      show Steps p.tables e below (T44.setTop (mkF m 110 #[.val (.int k1), .val (.int k2), .val (.int k3), .val (.int v4), .val (.int (1 : Int32)), .val (.int v39), .val (.int v98), .val (.ref b44), .unset, .unset, .unset, .unset, .unset, .unset, .unset, .unset] [(.int v98), (.int (0 : Int32)), (.ref b44)])) _
      refine st48 _ ?_
      show Steps p.tables e below (T48.setTop (mkF m 111 #[.val (.int k1), .val (.int k2), .val (.int k3), .val (.int v4), .val (.int (1 : Int32)), .val (.int v39), .val (.int v98), .val (.ref b44), .unset, .unset, .unset, .unset, .unset, .unset, .unset, .unset] [])) _
      refine XS.aload X48.here hx rfl (hb hby at_111) rfl rfl ?_
      show Steps p.tables e below (T48.setTop (mkF m 113 #[.val (.int k1), .val (.int k2), .val (.int k3), .val (.int v4), .val (.int (1 : Int32)), .val (.int v39), .val (.int v98), .val (.ref b44), .unset, .unset, .unset, .unset, .unset, .unset, .unset, .unset] [(.ref b44)])) _
      refine XS.iconst X48.here hx rfl (hb hby at_113) ?_
      show Steps p.tables e below (T48.setTop (mkF m 114 #[.val (.int k1), .val (.int k2), .val (.int k3), .val (.int v4), .val (.int (1 : Int32)), .val (.int v39), .val (.int v98), .val (.ref b44), .unset, .unset, .unset, .unset, .unset, .unset, .unset, .unset] [(.int (1 : Int32)), (.ref b44)])) _
      refine XS.iload X48.here hx rfl (hb hby at_114) rfl ?_
      show Steps p.tables e below (T48.setTop (mkF m 116 #[.val (.int k1), .val (.int k2), .val (.int k3), .val (.int v4), .val (.int (1 : Int32)), .val (.int v39), .val (.int v98), .val (.ref b44), .unset, .unset, .unset, .unset, .unset, .unset, .unset, .unset] [(.int v98), (.int (1 : Int32)), (.ref b44)])) _
      refine st52 _ ?_
      show Steps p.tables e below (T52.setTop (mkF m 117 #[.val (.int k1), .val (.int k2), .val (.int k3), .val (.int v4), .val (.int (1 : Int32)), .val (.int v39), .val (.int v98), .val (.ref b44), .unset, .unset, .unset, .unset, .unset, .unset, .unset, .unset] [])) _
      refine XS.aload X52.here hx rfl (hb hby at_117) rfl rfl ?_
      show Steps p.tables e below (T52.setTop (mkF m 119 #[.val (.int k1), .val (.int k2), .val (.int k3), .val (.int v4), .val (.int (1 : Int32)), .val (.int v39), .val (.int v98), .val (.ref b44), .unset, .unset, .unset, .unset, .unset, .unset, .unset, .unset] [(.ref b44)])) _
      refine XS.iconst X52.here hx rfl (hb hby at_119) ?_
      show Steps p.tables e below (T52.setTop (mkF m 120 #[.val (.int k1), .val (.int k2), .val (.int k3), .val (.int v4), .val (.int (1 : Int32)), .val (.int v39), .val (.int v98), .val (.ref b44), .unset, .unset, .unset, .unset, .unset, .unset, .unset, .unset] [(.int (2 : Int32)), (.ref b44)])) _
      refine XS.iload X52.here hx rfl (hb hby at_120) rfl ?_
      show Steps p.tables e below (T52.setTop (mkF m 122 #[.val (.int k1), .val (.int k2), .val (.int k3), .val (.int v4), .val (.int (1 : Int32)), .val (.int v39), .val (.int v98), .val (.ref b44), .unset, .unset, .unset, .unset, .unset, .unset, .unset, .unset] [(.int v98), (.int (2 : Int32)), (.ref b44)])) _
      refine st56 _ ?_
      show Steps p.tables e below (T56.setTop (mkF m 123 #[.val (.int k1), .val (.int k2), .val (.int k3), .val (.int v4), .val (.int (1 : Int32)), .val (.int v39), .val (.int v98), .val (.ref b44), .unset, .unset, .unset, .unset, .unset, .unset, .unset, .unset] [])) _
      refine XS.aload X56.here hx rfl (hb hby at_123) rfl rfl ?_
      show Steps p.tables e below (T56.setTop (mkF m 125 #[.val (.int k1), .val (.int k2), .val (.int k3), .val (.int v4), .val (.int (1 : Int32)), .val (.int v39), .val (.int v98), .val (.ref b44), .unset, .unset, .unset, .unset, .unset, .unset, .unset, .unset] [(.ref b44)])) _
      refine XS.iconst X56.here hx rfl (hb hby at_125) ?_
      show Steps p.tables e below (T56.setTop (mkF m 126 #[.val (.int k1), .val (.int k2), .val (.int k3), .val (.int v4), .val (.int (1 : Int32)), .val (.int v39), .val (.int v98), .val (.ref b44), .unset, .unset, .unset, .unset, .unset, .unset, .unset, .unset] [(.int (3 : Int32)), (.ref b44)])) _
      refine XS.iload X56.here hx rfl (hb hby at_126) rfl ?_
      show Steps p.tables e below (T56.setTop (mkF m 128 #[.val (.int k1), .val (.int k2), .val (.int k3), .val (.int v4), .val (.int (1 : Int32)), .val (.int v39), .val (.int v98), .val (.ref b44), .unset, .unset, .unset, .unset, .unset, .unset, .unset, .unset] [(.int v98), (.int (3 : Int32)), (.ref b44)])) _
      refine st60 _ ?_
      show Steps p.tables e below (T60.setTop (mkF m 129 #[.val (.int k1), .val (.int k2), .val (.int k3), .val (.int v4), .val (.int (1 : Int32)), .val (.int v39), .val (.int v98), .val (.ref b44), .unset, .unset, .unset, .unset, .unset, .unset, .unset, .unset] [])) _
      refine XS.iload X60.here hx rfl (hb hby at_129) rfl ?_
      show Steps p.tables e below (T60.setTop (mkF m 131 #[.val (.int k1), .val (.int k2), .val (.int k3), .val (.int v4), .val (.int (1 : Int32)), .val (.int v39), .val (.int v98), .val (.ref b44), .unset, .unset, .unset, .unset, .unset, .unset, .unset, .unset] [(.int v39)])) _
      refine XS.aload X60.here hx rfl (hb hby at_131) rfl rfl ?_
      show Steps p.tables e below (T60.setTop (mkF m 133 #[.val (.int k1), .val (.int k2), .val (.int k3), .val (.int v4), .val (.int (1 : Int32)), .val (.int v39), .val (.int v98), .val (.ref b44), .unset, .unset, .unset, .unset, .unset, .unset, .unset, .unset] [(.ref b44), (.int v39)])) _
      refine st64 _ ?_
      show Steps p.tables e below (T64.setTop (mkF m 136 #[.val (.int k1), .val (.int k2), .val (.int k3), .val (.int v4), .val (.int (1 : Int32)), .val (.int v39), .val (.int v98), .val (.ref b44), .unset, .unset, .unset, .unset, .unset, .unset, .unset, .unset] [(.int (2 : Int32))])) _
      refine XS.istore X64.here hx rfl (hb hby at_136) rfl (l' := #[.val (.int k1), .val (.int k2), .val (.int k3), .val (.int v4), .val (.int (1 : Int32)), .val (.int v39), .val (.int v98), .val (.ref b44), .val (.int (2 : Int32)), .unset, .unset, .unset, .unset, .unset, .unset, .unset]) rfl ?_
      show Steps p.tables e below (T64.setTop (mkF m 138 #[.val (.int k1), .val (.int k2), .val (.int k3), .val (.int v4), .val (.int (1 : Int32)), .val (.int v39), .val (.int v98), .val (.ref b44), .val (.int (2 : Int32)), .unset, .unset, .unset, .unset, .unset, .unset, .unset] [])) _
      refine XS.iload X64.here hx rfl (hb hby at_138) rfl ?_
      show Steps p.tables e below (T64.setTop (mkF m 140 #[.val (.int k1), .val (.int k2), .val (.int k3), .val (.int v4), .val (.int (1 : Int32)), .val (.int v39), .val (.int v98), .val (.ref b44), .val (.int (2 : Int32)), .unset, .unset, .unset, .unset, .unset, .unset, .unset] [(.int v39)])) _
      refine XS.sipush X64.here hx rfl (hb hby at_140) ?_
      show Steps p.tables e below (T64.setTop (mkF m 143 #[.val (.int k1), .val (.int k2), .val (.int k3), .val (.int v4), .val (.int (1 : Int32)), .val (.int v39), .val (.int v98), .val (.ref b44), .val (.int (2 : Int32)), .unset, .unset, .unset, .unset, .unset, .unset, .unset] [(.int (128 : Int32)), (.int v39)])) _
      refine XS.icmpYes X64.here hx rfl (pc0 := 143) (pc' := 152) rfl (hb hby at_143) rfl (flt hp64_h1).2.1 (by decide) (by decide) ?_
      show Steps p.tables e below (T64.setTop (mkF m 152 #[.val (.int k1), .val (.int k2), .val (.int k3), .val (.int v4), .val (.int (1 : Int32)), .val (.int v39), .val (.int v98), .val (.ref b44), .val (.int (2 : Int32)), .unset, .unset, .unset, .unset, .unset, .unset, .unset] [])) _
      refine XS.iload X64.here hx rfl (hb hby at_152) rfl ?_
      show Steps p.tables e below (T64.setTop (mkF m 154 #[.val (.int k1), .val (.int k2), .val (.int k3), .val (.int v4), .val (.int (1 : Int32)), .val (.int v39), .val (.int v98), .val (.ref b44), .val (.int (2 : Int32)), .unset, .unset, .unset, .unset, .unset, .unset, .unset] [(.int v39)])) _
      refine XS.sipush X64.here hx rfl (hb hby at_154) ?_
      show Steps p.tables e below (T64.setTop (mkF m 157 #[.val (.int k1), .val (.int k2), .val (.int k3), .val (.int v4), .val (.int (1 : Int32)), .val (.int v39), .val (.int v98), .val (.ref b44), .val (.int (2 : Int32)), .unset, .unset, .unset, .unset, .unset, .unset, .unset] [(.int (2048 : Int32)), (.int v39)])) _
      refine XS.icmpNo X64.here hx rfl (hb hby at_157) rfl (tlt hp64_h2).2.1 ?_
      show Steps p.tables e below (T64.setTop (mkF m 160 #[.val (.int k1), .val (.int k2), .val (.int k3), .val (.int v4), .val (.int (1 : Int32)), .val (.int v39), .val (.int v98), .val (.ref b44), .val (.int (2 : Int32)), .unset, .unset, .unset, .unset, .unset, .unset, .unset] [])) _
      refine XS.iconst X64.here hx rfl (hb hby at_160) ?_
      show Steps p.tables e below (T64.setTop (mkF m 161 #[.val (.int k1), .val (.int k2), .val (.int k3), .val (.int v4), .val (.int (1 : Int32)), .val (.int v39), .val (.int v98), .val (.ref b44), .val (.int (2 : Int32)), .unset, .unset, .unset, .unset, .unset, .unset, .unset] [(.int (2 : Int32))])) _
      refine XS.istore X64.here hx rfl (hb hby at_161) rfl (l' := #[.val (.int k1), .val (.int k2), .val (.int k3), .val (.int v4), .val (.int (1 : Int32)), .val (.int v39), .val (.int v98), .val (.ref b44), .val (.int (2 : Int32)), .val (.int (2 : Int32)), .unset, .unset, .unset, .unset, .unset, .unset]) rfl ?_
      show Steps p.tables e below (T64.setTop (mkF m 163 #[.val (.int k1), .val (.int k2), .val (.int k3), .val (.int v4), .val (.int (1 : Int32)), .val (.int v39), .val (.int v98), .val (.ref b44), .val (.int (2 : Int32)), .val (.int (2 : Int32)), .unset, .unset, .unset, .unset, .unset, .unset] [])) _
      refine XS.goto X64.here hx rfl (pc0 := 163) (pc' := 182) rfl (hb hby at_163) (by decide) (by decide) ?_
      show Steps p.tables e below (T64.setTop (mkF m 182 #[.val (.int k1), .val (.int k2), .val (.int k3), .val (.int v4), .val (.int (1 : Int32)), .val (.int v39), .val (.int v98), .val (.ref b44), .val (.int (2 : Int32)), .val (.int (2 : Int32)), .unset, .unset, .unset, .unset, .unset, .unset] [])) _
      refine XS.iload X64.here hx rfl (hb hby at_182) rfl ?_
      show Steps p.tables e below (T64.setTop (mkF m 184 #[.val (.int k1), .val (.int k2), .val (.int k3), .val (.int v4), .val (.int (1 : Int32)), .val (.int v39), .val (.int v98), .val (.ref b44), .val (.int (2 : Int32)), .val (.int (2 : Int32)), .unset, .unset, .unset, .unset, .unset, .unset] [(.int (2 : Int32))])) _
      refine XS.iload X64.here hx rfl (hb hby at_184) rfl ?_
      show Steps p.tables e below (T64.setTop (mkF m 186 #[.val (.int k1), .val (.int k2), .val (.int k3), .val (.int v4), .val (.int (1 : Int32)), .val (.int v39), .val (.int v98), .val (.ref b44), .val (.int (2 : Int32)), .val (.int (2 : Int32)), .unset, .unset, .unset, .unset, .unset, .unset] [(.int (2 : Int32)), (.int (2 : Int32))])) _
      refine XS.icmpYes X64.here hx rfl (pc0 := 186) (pc' := 191) rfl (hb hby at_186) rfl (teq rfl).1 (by decide) (by decide) ?_
      show Steps p.tables e below (T64.setTop (mkF m 191 #[.val (.int k1), .val (.int k2), .val (.int k3), .val (.int v4), .val (.int (1 : Int32)), .val (.int v39), .val (.int v98), .val (.ref b44), .val (.int (2 : Int32)), .val (.int (2 : Int32)), .unset, .unset, .unset, .unset, .unset, .unset] [])) _
      refine XS.aload X64.here hx rfl (hb hby at_191) rfl rfl ?_
      show Steps p.tables e below (T64.setTop (mkF m 193 #[.val (.int k1), .val (.int k2), .val (.int k3), .val (.int v4), .val (.int (1 : Int32)), .val (.int v39), .val (.int v98), .val (.ref b44), .val (.int (2 : Int32)), .val (.int (2 : Int32)), .unset, .unset, .unset, .unset, .unset, .unset] [(.ref b44)])) _
      refine XS.iconst X64.here hx rfl (hb hby at_193) ?_
      show Steps p.tables e below (T64.setTop (mkF m 194 #[.val (.int k1), .val (.int k2), .val (.int k3), .val (.int v4), .val (.int (1 : Int32)), .val (.int v39), .val (.int v98), .val (.ref b44), .val (.int (2 : Int32)), .val (.int (2 : Int32)), .unset, .unset, .unset, .unset, .unset, .unset] [(.int (0 : Int32)), (.ref b44)])) _
      refine X64.baloadBytes hx (j := (0 : Int32)) (v := (.int (nar .byte (((192 : Int32) ||| (v39 >>> ((6 : Int32) &&& 31))).toInt8.toInt32)))) (heq_of rfl Ar68.1) (State.isArrayOf_alike hZ.alike Ar68.2.1) Ar68.2.2 hin68 hat68 (g := (mkF m 194 #[.val (.int k1), .val (.int k2), .val (.int k3), .val (.int v4), .val (.int (1 : Int32)), .val (.int v39), .val (.int v98), .val (.ref b44), .val (.int (2 : Int32)), .val (.int (2 : Int32)), .unset, .unset, .unset, .unset, .unset, .unset] [(.int (0 : Int32)), (.ref b44)])) rfl rfl (hb hby at_194) _ ?_
      show Steps p.tables e below (T64.setTop (mkF m 195 #[.val (.int k1), .val (.int k2), .val (.int k3), .val (.int v4), .val (.int (1 : Int32)), .val (.int v39), .val (.int v98), .val (.ref b44), .val (.int (2 : Int32)), .val (.int (2 : Int32)), .unset, .unset, .unset, .unset, .unset, .unset] [(.int (nar .byte (((192 : Int32) ||| (v39 >>> ((6 : Int32) &&& 31))).toInt8.toInt32)))])) _
      refine XS.sipush X64.here hx rfl (hb hby at_195) ?_
      show Steps p.tables e below (T64.setTop (mkF m 198 #[.val (.int k1), .val (.int k2), .val (.int k3), .val (.int v4), .val (.int (1 : Int32)), .val (.int v39), .val (.int v98), .val (.ref b44), .val (.int (2 : Int32)), .val (.int (2 : Int32)), .unset, .unset, .unset, .unset, .unset, .unset] [(.int (255 : Int32)), (.int (nar .byte (((192 : Int32) ||| (v39 >>> ((6 : Int32) &&& 31))).toInt8.toInt32)))])) _
      refine XS.iand X64.here hx rfl (hb hby at_198) rfl ?_
      show Steps p.tables e below (T64.setTop (mkF m 199 #[.val (.int k1), .val (.int k2), .val (.int k3), .val (.int v4), .val (.int (1 : Int32)), .val (.int v39), .val (.int v98), .val (.ref b44), .val (.int (2 : Int32)), .val (.int (2 : Int32)), .unset, .unset, .unset, .unset, .unset, .unset] [(.int ((nar .byte (((192 : Int32) ||| (v39 >>> ((6 : Int32) &&& 31))).toInt8.toInt32)) &&& (255 : Int32)))])) _
      refine XS.istore X64.here hx rfl (hb hby at_199) rfl (l' := #[.val (.int k1), .val (.int k2), .val (.int k3), .val (.int v4), .val (.int (1 : Int32)), .val (.int v39), .val (.int v98), .val (.ref b44), .val (.int (2 : Int32)), .val (.int (2 : Int32)), .val (.int v199), .unset, .unset, .unset, .unset, .unset]) (by rw [hv199]; rfl) ?_
      show Steps p.tables e below (T64.setTop (mkF m 201 #[.val (.int k1), .val (.int k2), .val (.int k3), .val (.int v4), .val (.int (1 : Int32)), .val (.int v39), .val (.int v98), .val (.ref b44), .val (.int (2 : Int32)), .val (.int (2 : Int32)), .val (.int v199), .unset, .unset, .unset, .unset, .unset] [])) _
      refine XS.aload X64.here hx rfl (hb hby at_201) rfl rfl ?_
      show Steps p.tables e below (T64.setTop (mkF m 203 #[.val (.int k1), .val (.int k2), .val (.int k3), .val (.int v4), .val (.int (1 : Int32)), .val (.int v39), .val (.int v98), .val (.ref b44), .val (.int (2 : Int32)), .val (.int (2 : Int32)), .val (.int v199), .unset, .unset, .unset, .unset, .unset] [(.ref b44)])) _
      refine XS.iconst X64.here hx rfl (hb hby at_203) ?_
      show Steps p.tables e below (T64.setTop (mkF m 204 #[.val (.int k1), .val (.int k2), .val (.int k3), .val (.int v4), .val (.int (1 : Int32)), .val (.int v39), .val (.int v98), .val (.ref b44), .val (.int (2 : Int32)), .val (.int (2 : Int32)), .val (.int v199), .unset, .unset, .unset, .unset, .unset] [(.int (1 : Int32)), (.ref b44)])) _
      refine X64.baloadBytes hx (j := (1 : Int32)) (v := (.int (nar .byte (((128 : Int32) ||| (v39 &&& (63 : Int32))).toInt8.toInt32)))) (heq_of rfl Ar69.1) (State.isArrayOf_alike hZ.alike Ar69.2.1) Ar69.2.2 hin69 hat69 (g := (mkF m 204 #[.val (.int k1), .val (.int k2), .val (.int k3), .val (.int v4), .val (.int (1 : Int32)), .val (.int v39), .val (.int v98), .val (.ref b44), .val (.int (2 : Int32)), .val (.int (2 : Int32)), .val (.int v199), .unset, .unset, .unset, .unset, .unset] [(.int (1 : Int32)), (.ref b44)])) rfl rfl (hb hby at_204) _ ?_
      show Steps p.tables e below (T64.setTop (mkF m 205 #[.val (.int k1), .val (.int k2), .val (.int k3), .val (.int v4), .val (.int (1 : Int32)), .val (.int v39), .val (.int v98), .val (.ref b44), .val (.int (2 : Int32)), .val (.int (2 : Int32)), .val (.int v199), .unset, .unset, .unset, .unset, .unset] [(.int (nar .byte (((128 : Int32) ||| (v39 &&& (63 : Int32))).toInt8.toInt32)))])) _
      refine XS.sipush X64.here hx rfl (hb hby at_205) ?_
      show Steps p.tables e below (T64.setTop (mkF m 208 #[.val (.int k1), .val (.int k2), .val (.int k3), .val (.int v4), .val (.int (1 : Int32)), .val (.int v39), .val (.int v98), .val (.ref b44), .val (.int (2 : Int32)), .val (.int (2 : Int32)), .val (.int v199), .unset, .unset, .unset, .unset, .unset] [(.int (255 : Int32)), (.int (nar .byte (((128 : Int32) ||| (v39 &&& (63 : Int32))).toInt8.toInt32)))])) _
      refine XS.iand X64.here hx rfl (hb hby at_208) rfl ?_
      show Steps p.tables e below (T64.setTop (mkF m 209 #[.val (.int k1), .val (.int k2), .val (.int k3), .val (.int v4), .val (.int (1 : Int32)), .val (.int v39), .val (.int v98), .val (.ref b44), .val (.int (2 : Int32)), .val (.int (2 : Int32)), .val (.int v199), .unset, .unset, .unset, .unset, .unset] [(.int ((nar .byte (((128 : Int32) ||| (v39 &&& (63 : Int32))).toInt8.toInt32)) &&& (255 : Int32)))])) _
      refine XS.istore X64.here hx rfl (hb hby at_209) rfl (l' := #[.val (.int k1), .val (.int k2), .val (.int k3), .val (.int v4), .val (.int (1 : Int32)), .val (.int v39), .val (.int v98), .val (.ref b44), .val (.int (2 : Int32)), .val (.int (2 : Int32)), .val (.int v199), .val (.int v209), .unset, .unset, .unset, .unset]) (by rw [hv209]; rfl) ?_
      show Steps p.tables e below (T64.setTop (mkF m 211 #[.val (.int k1), .val (.int k2), .val (.int k3), .val (.int v4), .val (.int (1 : Int32)), .val (.int v39), .val (.int v98), .val (.ref b44), .val (.int (2 : Int32)), .val (.int (2 : Int32)), .val (.int v199), .val (.int v209), .unset, .unset, .unset, .unset] [])) _
      refine XS.aload X64.here hx rfl (hb hby at_211) rfl rfl ?_
      show Steps p.tables e below (T64.setTop (mkF m 213 #[.val (.int k1), .val (.int k2), .val (.int k3), .val (.int v4), .val (.int (1 : Int32)), .val (.int v39), .val (.int v98), .val (.ref b44), .val (.int (2 : Int32)), .val (.int (2 : Int32)), .val (.int v199), .val (.int v209), .unset, .unset, .unset, .unset] [(.ref b44)])) _
      refine XS.iconst X64.here hx rfl (hb hby at_213) ?_
      show Steps p.tables e below (T64.setTop (mkF m 214 #[.val (.int k1), .val (.int k2), .val (.int k3), .val (.int v4), .val (.int (1 : Int32)), .val (.int v39), .val (.int v98), .val (.ref b44), .val (.int (2 : Int32)), .val (.int (2 : Int32)), .val (.int v199), .val (.int v209), .unset, .unset, .unset, .unset] [(.int (2 : Int32)), (.ref b44)])) _
      refine X64.baloadBytes hx (j := (2 : Int32)) (v := (.int (nar .byte v98))) (heq_of rfl Ar70.1) (State.isArrayOf_alike hZ.alike Ar70.2.1) Ar70.2.2 hin70 hat70 (g := (mkF m 214 #[.val (.int k1), .val (.int k2), .val (.int k3), .val (.int v4), .val (.int (1 : Int32)), .val (.int v39), .val (.int v98), .val (.ref b44), .val (.int (2 : Int32)), .val (.int (2 : Int32)), .val (.int v199), .val (.int v209), .unset, .unset, .unset, .unset] [(.int (2 : Int32)), (.ref b44)])) rfl rfl (hb hby at_214) _ ?_
      show Steps p.tables e below (T64.setTop (mkF m 215 #[.val (.int k1), .val (.int k2), .val (.int k3), .val (.int v4), .val (.int (1 : Int32)), .val (.int v39), .val (.int v98), .val (.ref b44), .val (.int (2 : Int32)), .val (.int (2 : Int32)), .val (.int v199), .val (.int v209), .unset, .unset, .unset, .unset] [(.int (nar .byte v98))])) _
      refine XS.sipush X64.here hx rfl (hb hby at_215) ?_
      show Steps p.tables e below (T64.setTop (mkF m 218 #[.val (.int k1), .val (.int k2), .val (.int k3), .val (.int v4), .val (.int (1 : Int32)), .val (.int v39), .val (.int v98), .val (.ref b44), .val (.int (2 : Int32)), .val (.int (2 : Int32)), .val (.int v199), .val (.int v209), .unset, .unset, .unset, .unset] [(.int (255 : Int32)), (.int (nar .byte v98))])) _
      refine XS.iand X64.here hx rfl (hb hby at_218) rfl ?_
      show Steps p.tables e below (T64.setTop (mkF m 219 #[.val (.int k1), .val (.int k2), .val (.int k3), .val (.int v4), .val (.int (1 : Int32)), .val (.int v39), .val (.int v98), .val (.ref b44), .val (.int (2 : Int32)), .val (.int (2 : Int32)), .val (.int v199), .val (.int v209), .unset, .unset, .unset, .unset] [(.int ((nar .byte v98) &&& (255 : Int32)))])) _
      refine XS.istore X64.here hx rfl (hb hby at_219) rfl (l' := #[.val (.int k1), .val (.int k2), .val (.int k3), .val (.int v4), .val (.int (1 : Int32)), .val (.int v39), .val (.int v98), .val (.ref b44), .val (.int (2 : Int32)), .val (.int (2 : Int32)), .val (.int v199), .val (.int v209), .val (.int v219), .unset, .unset, .unset]) (by rw [hv219]; rfl) ?_
      show Steps p.tables e below (T64.setTop (mkF m 221 #[.val (.int k1), .val (.int k2), .val (.int k3), .val (.int v4), .val (.int (1 : Int32)), .val (.int v39), .val (.int v98), .val (.ref b44), .val (.int (2 : Int32)), .val (.int (2 : Int32)), .val (.int v199), .val (.int v209), .val (.int v219), .unset, .unset, .unset] [])) _
      refine XS.aload X64.here hx rfl (hb hby at_221) rfl rfl ?_
      show Steps p.tables e below (T64.setTop (mkF m 223 #[.val (.int k1), .val (.int k2), .val (.int k3), .val (.int v4), .val (.int (1 : Int32)), .val (.int v39), .val (.int v98), .val (.ref b44), .val (.int (2 : Int32)), .val (.int (2 : Int32)), .val (.int v199), .val (.int v209), .val (.int v219), .unset, .unset, .unset] [(.ref b44)])) _
      refine XS.iconst X64.here hx rfl (hb hby at_223) ?_
      show Steps p.tables e below (T64.setTop (mkF m 224 #[.val (.int k1), .val (.int k2), .val (.int k3), .val (.int v4), .val (.int (1 : Int32)), .val (.int v39), .val (.int v98), .val (.ref b44), .val (.int (2 : Int32)), .val (.int (2 : Int32)), .val (.int v199), .val (.int v209), .val (.int v219), .unset, .unset, .unset] [(.int (3 : Int32)), (.ref b44)])) _
      refine X64.baloadBytes hx (j := (3 : Int32)) (v := (.int (nar .byte v98))) (heq_of rfl Ar71.1) (State.isArrayOf_alike hZ.alike Ar71.2.1) Ar71.2.2 hin71 hat71 (g := (mkF m 224 #[.val (.int k1), .val (.int k2), .val (.int k3), .val (.int v4), .val (.int (1 : Int32)), .val (.int v39), .val (.int v98), .val (.ref b44), .val (.int (2 : Int32)), .val (.int (2 : Int32)), .val (.int v199), .val (.int v209), .val (.int v219), .unset, .unset, .unset] [(.int (3 : Int32)), (.ref b44)])) rfl rfl (hb hby at_224) _ ?_
      show Steps p.tables e below (T64.setTop (mkF m 225 #[.val (.int k1), .val (.int k2), .val (.int k3), .val (.int v4), .val (.int (1 : Int32)), .val (.int v39), .val (.int v98), .val (.ref b44), .val (.int (2 : Int32)), .val (.int (2 : Int32)), .val (.int v199), .val (.int v209), .val (.int v219), .unset, .unset, .unset] [(.int (nar .byte v98))])) _
      refine XS.sipush X64.here hx rfl (hb hby at_225) ?_
      show Steps p.tables e below (T64.setTop (mkF m 228 #[.val (.int k1), .val (.int k2), .val (.int k3), .val (.int v4), .val (.int (1 : Int32)), .val (.int v39), .val (.int v98), .val (.ref b44), .val (.int (2 : Int32)), .val (.int (2 : Int32)), .val (.int v199), .val (.int v209), .val (.int v219), .unset, .unset, .unset] [(.int (255 : Int32)), (.int (nar .byte v98))])) _
      refine XS.iand X64.here hx rfl (hb hby at_228) rfl ?_
      show Steps p.tables e below (T64.setTop (mkF m 229 #[.val (.int k1), .val (.int k2), .val (.int k3), .val (.int v4), .val (.int (1 : Int32)), .val (.int v39), .val (.int v98), .val (.ref b44), .val (.int (2 : Int32)), .val (.int (2 : Int32)), .val (.int v199), .val (.int v209), .val (.int v219), .unset, .unset, .unset] [(.int ((nar .byte v98) &&& (255 : Int32)))])) _
      refine XS.istore X64.here hx rfl (hb hby at_229) rfl (l' := #[.val (.int k1), .val (.int k2), .val (.int k3), .val (.int v4), .val (.int (1 : Int32)), .val (.int v39), .val (.int v98), .val (.ref b44), .val (.int (2 : Int32)), .val (.int (2 : Int32)), .val (.int v199), .val (.int v209), .val (.int v219), .val (.int v229), .unset, .unset]) (by rw [hv229]; rfl) ?_
      show Steps p.tables e below (T64.setTop (mkF m 231 #[.val (.int k1), .val (.int k2), .val (.int k3), .val (.int v4), .val (.int (1 : Int32)), .val (.int v39), .val (.int v98), .val (.ref b44), .val (.int (2 : Int32)), .val (.int (2 : Int32)), .val (.int v199), .val (.int v209), .val (.int v219), .val (.int v229), .unset, .unset] [])) _
      refine XS.iload X64.here hx rfl (hb hby at_231) rfl ?_
      show Steps p.tables e below (T64.setTop (mkF m 233 #[.val (.int k1), .val (.int k2), .val (.int k3), .val (.int v4), .val (.int (1 : Int32)), .val (.int v39), .val (.int v98), .val (.ref b44), .val (.int (2 : Int32)), .val (.int (2 : Int32)), .val (.int v199), .val (.int v209), .val (.int v219), .val (.int v229), .unset, .unset] [(.int (2 : Int32))])) _
      refine XS.iconst X64.here hx rfl (hb hby at_233) ?_
      show Steps p.tables e below (T64.setTop (mkF m 234 #[.val (.int k1), .val (.int k2), .val (.int k3), .val (.int v4), .val (.int (1 : Int32)), .val (.int v39), .val (.int v98), .val (.ref b44), .val (.int (2 : Int32)), .val (.int (2 : Int32)), .val (.int v199), .val (.int v209), .val (.int v219), .val (.int v229), .unset, .unset] [(.int (1 : Int32)), (.int (2 : Int32))])) _
      refine XS.icmpYes X64.here hx rfl (pc0 := 234) (pc' := 254) rfl (hb hby at_234) rfl (feq (by decide)).2 (by decide) (by decide) ?_
      show Steps p.tables e below (T64.setTop (mkF m 254 #[.val (.int k1), .val (.int k2), .val (.int k3), .val (.int v4), .val (.int (1 : Int32)), .val (.int v39), .val (.int v98), .val (.ref b44), .val (.int (2 : Int32)), .val (.int (2 : Int32)), .val (.int v199), .val (.int v209), .val (.int v219), .val (.int v229), .unset, .unset] [])) _
      refine XS.iload X64.here hx rfl (hb hby at_254) rfl ?_
      show Steps p.tables e below (T64.setTop (mkF m 256 #[.val (.int k1), .val (.int k2), .val (.int k3), .val (.int v4), .val (.int (1 : Int32)), .val (.int v39), .val (.int v98), .val (.ref b44), .val (.int (2 : Int32)), .val (.int (2 : Int32)), .val (.int v199), .val (.int v209), .val (.int v219), .val (.int v229), .unset, .unset] [(.int (2 : Int32))])) _
      refine XS.iconst X64.here hx rfl (hb hby at_256) ?_
      show Steps p.tables e below (T64.setTop (mkF m 257 #[.val (.int k1), .val (.int k2), .val (.int k3), .val (.int v4), .val (.int (1 : Int32)), .val (.int v39), .val (.int v98), .val (.ref b44), .val (.int (2 : Int32)), .val (.int (2 : Int32)), .val (.int v199), .val (.int v209), .val (.int v219), .val (.int v229), .unset, .unset] [(.int (2 : Int32)), (.int (2 : Int32))])) _
      refine XS.icmpNo X64.here hx rfl (hb hby at_257) rfl (teq rfl).2 ?_
      show Steps p.tables e below (T64.setTop (mkF m 260 #[.val (.int k1), .val (.int k2), .val (.int k3), .val (.int v4), .val (.int (1 : Int32)), .val (.int v39), .val (.int v98), .val (.ref b44), .val (.int (2 : Int32)), .val (.int (2 : Int32)), .val (.int v199), .val (.int v209), .val (.int v219), .val (.int v229), .unset, .unset] [])) _
      refine XS.iload X64.here hx rfl (hb hby at_260) rfl ?_
      show Steps p.tables e below (T64.setTop (mkF m 262 #[.val (.int k1), .val (.int k2), .val (.int k3), .val (.int v4), .val (.int (1 : Int32)), .val (.int v39), .val (.int v98), .val (.ref b44), .val (.int (2 : Int32)), .val (.int (2 : Int32)), .val (.int v199), .val (.int v209), .val (.int v219), .val (.int v229), .unset, .unset] [(.int v199)])) _
      refine XS.sipush X64.here hx rfl (hb hby at_262) ?_
      show Steps p.tables e below (T64.setTop (mkF m 265 #[.val (.int k1), .val (.int k2), .val (.int k3), .val (.int v4), .val (.int (1 : Int32)), .val (.int v39), .val (.int v98), .val (.ref b44), .val (.int (2 : Int32)), .val (.int (2 : Int32)), .val (.int v199), .val (.int v209), .val (.int v219), .val (.int v229), .unset, .unset] [(.int (224 : Int32)), (.int v199)])) _
      refine XS.iand X64.here hx rfl (hb hby at_265) rfl ?_
      show Steps p.tables e below (T64.setTop (mkF m 266 #[.val (.int k1), .val (.int k2), .val (.int k3), .val (.int v4), .val (.int (1 : Int32)), .val (.int v39), .val (.int v98), .val (.ref b44), .val (.int (2 : Int32)), .val (.int (2 : Int32)), .val (.int v199), .val (.int v209), .val (.int v219), .val (.int v229), .unset, .unset] [(.int (v199 &&& (224 : Int32)))])) _
      refine XS.sipush X64.here hx rfl (hb hby at_266) ?_
      by_cases d72 : (v199 &&& (224 : Int32)) = (192 : Int32)
      · skip
        show Steps p.tables e below (T64.setTop (mkF m 269 #[.val (.int k1), .val (.int k2), .val (.int k3), .val (.int v4), .val (.int (1 : Int32)), .val (.int v39), .val (.int v98), .val (.ref b44), .val (.int (2 : Int32)), .val (.int (2 : Int32)), .val (.int v199), .val (.int v209), .val (.int v219), .val (.int v229), .unset, .unset] [(.int (192 : Int32)), (.int (v199 &&& (224 : Int32)))])) _
        refine XS.icmpNo X64.here hx rfl (hb hby at_269) rfl (teq d72).2 ?_
        show Steps p.tables e below (T64.setTop (mkF m 272 #[.val (.int k1), .val (.int k2), .val (.int k3), .val (.int v4), .val (.int (1 : Int32)), .val (.int v39), .val (.int v98), .val (.ref b44), .val (.int (2 : Int32)), .val (.int (2 : Int32)), .val (.int v199), .val (.int v209), .val (.int v219), .val (.int v229), .unset, .unset] [])) _
        refine XS.iload X64.here hx rfl (hb hby at_272) rfl ?_
        show Steps p.tables e below (T64.setTop (mkF m 274 #[.val (.int k1), .val (.int k2), .val (.int k3), .val (.int v4), .val (.int (1 : Int32)), .val (.int v39), .val (.int v98), .val (.ref b44), .val (.int (2 : Int32)), .val (.int (2 : Int32)), .val (.int v199), .val (.int v209), .val (.int v219), .val (.int v229), .unset, .unset] [(.int v209)])) _
        refine XS.sipush X64.here hx rfl (hb hby at_274) ?_
        show Steps p.tables e below (T64.setTop (mkF m 277 #[.val (.int k1), .val (.int k2), .val (.int k3), .val (.int v4), .val (.int (1 : Int32)), .val (.int v39), .val (.int v98), .val (.ref b44), .val (.int (2 : Int32)), .val (.int (2 : Int32)), .val (.int v199), .val (.int v209), .val (.int v219), .val (.int v229), .unset, .unset] [(.int (192 : Int32)), (.int v209)])) _
        refine XS.iand X64.here hx rfl (hb hby at_277) rfl ?_
        show Steps p.tables e below (T64.setTop (mkF m 278 #[.val (.int k1), .val (.int k2), .val (.int k3), .val (.int v4), .val (.int (1 : Int32)), .val (.int v39), .val (.int v98), .val (.ref b44), .val (.int (2 : Int32)), .val (.int (2 : Int32)), .val (.int v199), .val (.int v209), .val (.int v219), .val (.int v229), .unset, .unset] [(.int (v209 &&& (192 : Int32)))])) _
        refine XS.sipush X64.here hx rfl (hb hby at_278) ?_
        by_cases d73 : (v209 &&& (192 : Int32)) = (128 : Int32)
        · skip
          show Steps p.tables e below (T64.setTop (mkF m 281 #[.val (.int k1), .val (.int k2), .val (.int k3), .val (.int v4), .val (.int (1 : Int32)), .val (.int v39), .val (.int v98), .val (.ref b44), .val (.int (2 : Int32)), .val (.int (2 : Int32)), .val (.int v199), .val (.int v209), .val (.int v219), .val (.int v229), .unset, .unset] [(.int (128 : Int32)), (.int (v209 &&& (192 : Int32)))])) _
          refine XS.icmpNo X64.here hx rfl (hb hby at_281) rfl (teq d73).2 ?_
          show Steps p.tables e below (T64.setTop (mkF m 284 #[.val (.int k1), .val (.int k2), .val (.int k3), .val (.int v4), .val (.int (1 : Int32)), .val (.int v39), .val (.int v98), .val (.ref b44), .val (.int (2 : Int32)), .val (.int (2 : Int32)), .val (.int v199), .val (.int v209), .val (.int v219), .val (.int v229), .unset, .unset] [])) _
          refine XS.iload X64.here hx rfl (hb hby at_284) rfl ?_
          show Steps p.tables e below (T64.setTop (mkF m 286 #[.val (.int k1), .val (.int k2), .val (.int k3), .val (.int v4), .val (.int (1 : Int32)), .val (.int v39), .val (.int v98), .val (.ref b44), .val (.int (2 : Int32)), .val (.int (2 : Int32)), .val (.int v199), .val (.int v209), .val (.int v219), .val (.int v229), .unset, .unset] [(.int v199)])) _
          refine XS.bipush X64.here hx rfl (hb hby at_286) ?_
          show Steps p.tables e below (T64.setTop (mkF m 288 #[.val (.int k1), .val (.int k2), .val (.int k3), .val (.int v4), .val (.int (1 : Int32)), .val (.int v39), .val (.int v98), .val (.ref b44), .val (.int (2 : Int32)), .val (.int (2 : Int32)), .val (.int v199), .val (.int v209), .val (.int v219), .val (.int v229), .unset, .unset] [(.int (31 : Int32)), (.int v199)])) _
          refine XS.iand X64.here hx rfl (hb hby at_288) rfl ?_
          show Steps p.tables e below (T64.setTop (mkF m 289 #[.val (.int k1), .val (.int k2), .val (.int k3), .val (.int v4), .val (.int (1 : Int32)), .val (.int v39), .val (.int v98), .val (.ref b44), .val (.int (2 : Int32)), .val (.int (2 : Int32)), .val (.int v199), .val (.int v209), .val (.int v219), .val (.int v229), .unset, .unset] [(.int (v199 &&& (31 : Int32)))])) _
          refine XS.bipush X64.here hx rfl (hb hby at_289) ?_
          show Steps p.tables e below (T64.setTop (mkF m 291 #[.val (.int k1), .val (.int k2), .val (.int k3), .val (.int v4), .val (.int (1 : Int32)), .val (.int v39), .val (.int v98), .val (.ref b44), .val (.int (2 : Int32)), .val (.int (2 : Int32)), .val (.int v199), .val (.int v209), .val (.int v219), .val (.int v229), .unset, .unset] [(.int (6 : Int32)), (.int (v199 &&& (31 : Int32)))])) _
          refine XS.ishl X64.here hx rfl (hb hby at_291) rfl ?_
          show Steps p.tables e below (T64.setTop (mkF m 292 #[.val (.int k1), .val (.int k2), .val (.int k3), .val (.int v4), .val (.int (1 : Int32)), .val (.int v39), .val (.int v98), .val (.ref b44), .val (.int (2 : Int32)), .val (.int (2 : Int32)), .val (.int v199), .val (.int v209), .val (.int v219), .val (.int v229), .unset, .unset] [(.int ((v199 &&& (31 : Int32)) <<< ((6 : Int32) &&& 31)))])) _
          refine XS.iload X64.here hx rfl (hb hby at_292) rfl ?_
          show Steps p.tables e below (T64.setTop (mkF m 294 #[.val (.int k1), .val (.int k2), .val (.int k3), .val (.int v4), .val (.int (1 : Int32)), .val (.int v39), .val (.int v98), .val (.ref b44), .val (.int (2 : Int32)), .val (.int (2 : Int32)), .val (.int v199), .val (.int v209), .val (.int v219), .val (.int v229), .unset, .unset] [(.int v209), (.int ((v199 &&& (31 : Int32)) <<< ((6 : Int32) &&& 31)))])) _
          refine XS.bipush X64.here hx rfl (hb hby at_294) ?_
          show Steps p.tables e below (T64.setTop (mkF m 296 #[.val (.int k1), .val (.int k2), .val (.int k3), .val (.int v4), .val (.int (1 : Int32)), .val (.int v39), .val (.int v98), .val (.ref b44), .val (.int (2 : Int32)), .val (.int (2 : Int32)), .val (.int v199), .val (.int v209), .val (.int v219), .val (.int v229), .unset, .unset] [(.int (63 : Int32)), (.int v209), (.int ((v199 &&& (31 : Int32)) <<< ((6 : Int32) &&& 31)))])) _
          refine XS.iand X64.here hx rfl (hb hby at_296) rfl ?_
          show Steps p.tables e below (T64.setTop (mkF m 297 #[.val (.int k1), .val (.int k2), .val (.int k3), .val (.int v4), .val (.int (1 : Int32)), .val (.int v39), .val (.int v98), .val (.ref b44), .val (.int (2 : Int32)), .val (.int (2 : Int32)), .val (.int v199), .val (.int v209), .val (.int v219), .val (.int v229), .unset, .unset] [(.int (v209 &&& (63 : Int32))), (.int ((v199 &&& (31 : Int32)) <<< ((6 : Int32) &&& 31)))])) _
          refine XS.ior X64.here hx rfl (hb hby at_297) rfl ?_
          show Steps p.tables e below (T64.setTop (mkF m 298 #[.val (.int k1), .val (.int k2), .val (.int k3), .val (.int v4), .val (.int (1 : Int32)), .val (.int v39), .val (.int v98), .val (.ref b44), .val (.int (2 : Int32)), .val (.int (2 : Int32)), .val (.int v199), .val (.int v209), .val (.int v219), .val (.int v229), .unset, .unset] [(.int (((v199 &&& (31 : Int32)) <<< ((6 : Int32) &&& 31)) ||| (v209 &&& (63 : Int32))))])) _
          refine XS.iload X64.here hx rfl (hb hby at_298) rfl ?_
          by_cases d74 : (((v199 &&& (31 : Int32)) <<< ((6 : Int32) &&& 31)) ||| (v209 &&& (63 : Int32))) = v39
          · skip
            show Steps p.tables e below (T64.setTop (mkF m 300 #[.val (.int k1), .val (.int k2), .val (.int k3), .val (.int v4), .val (.int (1 : Int32)), .val (.int v39), .val (.int v98), .val (.ref b44), .val (.int (2 : Int32)), .val (.int (2 : Int32)), .val (.int v199), .val (.int v209), .val (.int v219), .val (.int v229), .unset, .unset] [(.int v39), (.int (((v199 &&& (31 : Int32)) <<< ((6 : Int32) &&& 31)) ||| (v209 &&& (63 : Int32))))])) _
            refine XS.icmpNo X64.here hx rfl (hb hby at_300) rfl (teq d74).2 ?_
            show Steps p.tables e below (T64.setTop (mkF m 303 #[.val (.int k1), .val (.int k2), .val (.int k3), .val (.int v4), .val (.int (1 : Int32)), .val (.int v39), .val (.int v98), .val (.ref b44), .val (.int (2 : Int32)), .val (.int (2 : Int32)), .val (.int v199), .val (.int v209), .val (.int v219), .val (.int v229), .unset, .unset] [])) _
            refine XS.iconst X64.here hx rfl (hb hby at_303) ?_
            show Steps p.tables e below (T64.setTop (mkF m 304 #[.val (.int k1), .val (.int k2), .val (.int k3), .val (.int v4), .val (.int (1 : Int32)), .val (.int v39), .val (.int v98), .val (.ref b44), .val (.int (2 : Int32)), .val (.int (2 : Int32)), .val (.int v199), .val (.int v209), .val (.int v219), .val (.int v229), .unset, .unset] [(.int (1 : Int32))])) _
            refine XS.goto X64.here hx rfl (pc0 := 304) (pc' := 308) rfl (hb hby at_304) (by decide) (by decide) ?_
            show Steps p.tables e below (T64.setTop (mkF m 308 #[.val (.int k1), .val (.int k2), .val (.int k3), .val (.int v4), .val (.int (1 : Int32)), .val (.int v39), .val (.int v98), .val (.ref b44), .val (.int (2 : Int32)), .val (.int (2 : Int32)), .val (.int v199), .val (.int v209), .val (.int v219), .val (.int v229), .unset, .unset] [(.int (1 : Int32))])) _
            exact castTop (by simp only [hm308, if_pos d72, if_pos d73, if_pos d74]) kt
          · skip
            show Steps p.tables e below (T64.setTop (mkF m 300 #[.val (.int k1), .val (.int k2), .val (.int k3), .val (.int v4), .val (.int (1 : Int32)), .val (.int v39), .val (.int v98), .val (.ref b44), .val (.int (2 : Int32)), .val (.int (2 : Int32)), .val (.int v199), .val (.int v209), .val (.int v219), .val (.int v229), .unset, .unset] [(.int v39), (.int (((v199 &&& (31 : Int32)) <<< ((6 : Int32) &&& 31)) ||| (v209 &&& (63 : Int32))))])) _
            refine XS.icmpYes X64.here hx rfl (pc0 := 300) (pc' := 307) rfl (hb hby at_300) rfl (feq d74).2 (by decide) (by decide) ?_
            show Steps p.tables e below (T64.setTop (mkF m 307 #[.val (.int k1), .val (.int k2), .val (.int k3), .val (.int v4), .val (.int (1 : Int32)), .val (.int v39), .val (.int v98), .val (.ref b44), .val (.int (2 : Int32)), .val (.int (2 : Int32)), .val (.int v199), .val (.int v209), .val (.int v219), .val (.int v229), .unset, .unset] [])) _
            refine XS.iconst X64.here hx rfl (hb hby at_307) ?_
            show Steps p.tables e below (T64.setTop (mkF m 308 #[.val (.int k1), .val (.int k2), .val (.int k3), .val (.int v4), .val (.int (1 : Int32)), .val (.int v39), .val (.int v98), .val (.ref b44), .val (.int (2 : Int32)), .val (.int (2 : Int32)), .val (.int v199), .val (.int v209), .val (.int v219), .val (.int v229), .unset, .unset] [(.int (0 : Int32))])) _
            exact castTop (by simp only [hm308, if_pos d72, if_pos d73, if_neg d74]) kt
        · skip
          show Steps p.tables e below (T64.setTop (mkF m 281 #[.val (.int k1), .val (.int k2), .val (.int k3), .val (.int v4), .val (.int (1 : Int32)), .val (.int v39), .val (.int v98), .val (.ref b44), .val (.int (2 : Int32)), .val (.int (2 : Int32)), .val (.int v199), .val (.int v209), .val (.int v219), .val (.int v229), .unset, .unset] [(.int (128 : Int32)), (.int (v209 &&& (192 : Int32)))])) _
          refine XS.icmpYes X64.here hx rfl (pc0 := 281) (pc' := 307) rfl (hb hby at_281) rfl (feq d73).2 (by decide) (by decide) ?_
          show Steps p.tables e below (T64.setTop (mkF m 307 #[.val (.int k1), .val (.int k2), .val (.int k3), .val (.int v4), .val (.int (1 : Int32)), .val (.int v39), .val (.int v98), .val (.ref b44), .val (.int (2 : Int32)), .val (.int (2 : Int32)), .val (.int v199), .val (.int v209), .val (.int v219), .val (.int v229), .unset, .unset] [])) _
          refine XS.iconst X64.here hx rfl (hb hby at_307) ?_
          show Steps p.tables e below (T64.setTop (mkF m 308 #[.val (.int k1), .val (.int k2), .val (.int k3), .val (.int v4), .val (.int (1 : Int32)), .val (.int v39), .val (.int v98), .val (.ref b44), .val (.int (2 : Int32)), .val (.int (2 : Int32)), .val (.int v199), .val (.int v209), .val (.int v219), .val (.int v229), .unset, .unset] [(.int (0 : Int32))])) _
          exact castTop (by simp only [hm308, if_pos d72, if_neg d73]) kt
      · skip
        show Steps p.tables e below (T64.setTop (mkF m 269 #[.val (.int k1), .val (.int k2), .val (.int k3), .val (.int v4), .val (.int (1 : Int32)), .val (.int v39), .val (.int v98), .val (.ref b44), .val (.int (2 : Int32)), .val (.int (2 : Int32)), .val (.int v199), .val (.int v209), .val (.int v219), .val (.int v229), .unset, .unset] [(.int (192 : Int32)), (.int (v199 &&& (224 : Int32)))])) _
        refine XS.icmpYes X64.here hx rfl (pc0 := 269) (pc' := 307) rfl (hb hby at_269) rfl (feq d72).2 (by decide) (by decide) ?_
        show Steps p.tables e below (T64.setTop (mkF m 307 #[.val (.int k1), .val (.int k2), .val (.int k3), .val (.int v4), .val (.int (1 : Int32)), .val (.int v39), .val (.int v98), .val (.ref b44), .val (.int (2 : Int32)), .val (.int (2 : Int32)), .val (.int v199), .val (.int v209), .val (.int v219), .val (.int v229), .unset, .unset] [])) _
        refine XS.iconst X64.here hx rfl (hb hby at_307) ?_
        show Steps p.tables e below (T64.setTop (mkF m 308 #[.val (.int k1), .val (.int k2), .val (.int k3), .val (.int v4), .val (.int (1 : Int32)), .val (.int v39), .val (.int v98), .val (.ref b44), .val (.int (2 : Int32)), .val (.int (2 : Int32)), .val (.int v199), .val (.int v209), .val (.int v219), .val (.int v229), .unset, .unset] [(.int (0 : Int32))])) _
        exact castTop (by simp only [hm308, if_neg d72]) kt
    obtain ⟨cl76, Ar76, q76, S76, M76, H76, G76⟩ := id F65
    have hin76 : ¬ ((2 : Int32) < 0 ∨ cl76.slots.size ≤ ((2 : Int32)).toNatClampNeg) := inb_of S76 ⟨by decide, by decide⟩
    have hat76 : cl76.slots[((2 : Int32)).toNatClampNeg]? = some (.int (nar .byte v98)) := Has.at H76 hin76 rfl
    have pre77 : ∀ tq, Steps p.tables e below (T64.setTop (mkF m 512 #[.val (.int k1), .val (.int k2), .val (.int k3), .val (.int v4), .val (.int (1 : Int32)), .val (.int v39), .val (.int v98), .val (.ref b44), .val (.int (2 : Int32)), .val (.int (2 : Int32)), .val (.int v199), .val (.int v209), .val (.int v219), .val (.int v229), .val (.int m308), .unset] [(.int v98), (.int (nar .byte v98))])) tq → Steps p.tables e below (s₁.setTop (entryFrame m #[(.int k1), (.int k2), (.int k3)] maxLocals)) tq := by
      intro tq kt
      refine pre75 _ ?_
      show Steps p.tables e below (T64.setTop (mkF m 308 #[.val (.int k1), .val (.int k2), .val (.int k3), .val (.int v4), .val (.int (1 : Int32)), .val (.int v39), .val (.int v98), .val (.ref b44), .val (.int (2 : Int32)), .val (.int (2 : Int32)), .val (.int v199), .val (.int v209), .val (.int v219), .val (.int v229), .unset, .unset] [(.int m308)])) _
      refine XS.istore X64.here hx rfl (hb hby at_308) rfl (l' := #[.val (.int k1), .val (.int k2), .val (.int k3), .val (.int v4), .val (.int (1 : Int32)), .val (.int v39), .val (.int v98), .val (.ref b44), .val (.int (2 : Int32)), .val (.int (2 : Int32)), .val (.int v199), .val (.int v209), .val (.int v219), .val (.int v229), .val (.int m308), .unset]) rfl ?_
      show Steps p.tables e below (T64.setTop (mkF m 310 #[.val (.int k1), .val (.int k2), .val (.int k3), .val (.int v4), .val (.int (1 : Int32)), .val (.int v39), .val (.int v98), .val (.ref b44), .val (.int (2 : Int32)), .val (.int (2 : Int32)), .val (.int v199), .val (.int v209), .val (.int v219), .val (.int v229), .val (.int m308), .unset] [])) _
      refine XS.goto X64.here hx rfl (pc0 := 310) (pc' := 485) rfl (hb hby at_310) (by decide) (by decide) ?_
      show Steps p.tables e below (T64.setTop (mkF m 485 #[.val (.int k1), .val (.int k2), .val (.int k3), .val (.int v4), .val (.int (1 : Int32)), .val (.int v39), .val (.int v98), .val (.ref b44), .val (.int (2 : Int32)), .val (.int (2 : Int32)), .val (.int v199), .val (.int v209), .val (.int v219), .val (.int v229), .val (.int m308), .unset] [])) _
      refine XS.iload X64.here hx rfl (hb hby at_485) rfl ?_
      show Steps p.tables e below (T64.setTop (mkF m 487 #[.val (.int k1), .val (.int k2), .val (.int k3), .val (.int v4), .val (.int (1 : Int32)), .val (.int v39), .val (.int v98), .val (.ref b44), .val (.int (2 : Int32)), .val (.int (2 : Int32)), .val (.int v199), .val (.int v209), .val (.int v219), .val (.int v229), .val (.int m308), .unset] [(.int (2 : Int32))])) _
      refine XS.iconst X64.here hx rfl (hb hby at_487) ?_
      show Steps p.tables e below (T64.setTop (mkF m 488 #[.val (.int k1), .val (.int k2), .val (.int k3), .val (.int v4), .val (.int (1 : Int32)), .val (.int v39), .val (.int v98), .val (.ref b44), .val (.int (2 : Int32)), .val (.int (2 : Int32)), .val (.int v199), .val (.int v209), .val (.int v219), .val (.int v229), .val (.int m308), .unset] [(.int (1 : Int32)), (.int (2 : Int32))])) _
      refine XS.icmpYes X64.here hx rfl (pc0 := 488) (pc' := 500) rfl (hb hby at_488) rfl (tlt (by decide)).2.2.1 (by decide) (by decide) ?_
      show Steps p.tables e below (T64.setTop (mkF m 500 #[.val (.int k1), .val (.int k2), .val (.int k3), .val (.int v4), .val (.int (1 : Int32)), .val (.int v39), .val (.int v98), .val (.ref b44), .val (.int (2 : Int32)), .val (.int (2 : Int32)), .val (.int v199), .val (.int v209), .val (.int v219), .val (.int v229), .val (.int m308), .unset] [])) _
      refine XS.iload X64.here hx rfl (hb hby at_500) rfl ?_
      show Steps p.tables e below (T64.setTop (mkF m 502 #[.val (.int k1), .val (.int k2), .val (.int k3), .val (.int v4), .val (.int (1 : Int32)), .val (.int v39), .val (.int v98), .val (.ref b44), .val (.int (2 : Int32)), .val (.int (2 : Int32)), .val (.int v199), .val (.int v209), .val (.int v219), .val (.int v229), .val (.int m308), .unset] [(.int (2 : Int32))])) _
      refine XS.iconst X64.here hx rfl (hb hby at_502) ?_
      show Steps p.tables e below (T64.setTop (mkF m 503 #[.val (.int k1), .val (.int k2), .val (.int k3), .val (.int v4), .val (.int (1 : Int32)), .val (.int v39), .val (.int v98), .val (.ref b44), .val (.int (2 : Int32)), .val (.int (2 : Int32)), .val (.int v199), .val (.int v209), .val (.int v219), .val (.int v229), .val (.int m308), .unset] [(.int (2 : Int32)), (.int (2 : Int32))])) _
      refine XS.icmpNo X64.here hx rfl (hb hby at_503) rfl (flt (by decide)).2.2.1 ?_
      show Steps p.tables e below (T64.setTop (mkF m 506 #[.val (.int k1), .val (.int k2), .val (.int k3), .val (.int v4), .val (.int (1 : Int32)), .val (.int v39), .val (.int v98), .val (.ref b44), .val (.int (2 : Int32)), .val (.int (2 : Int32)), .val (.int v199), .val (.int v209), .val (.int v219), .val (.int v229), .val (.int m308), .unset] [])) _
      refine XS.aload X64.here hx rfl (hb hby at_506) rfl rfl ?_
      show Steps p.tables e below (T64.setTop (mkF m 508 #[.val (.int k1), .val (.int k2), .val (.int k3), .val (.int v4), .val (.int (1 : Int32)), .val (.int v39), .val (.int v98), .val (.ref b44), .val (.int (2 : Int32)), .val (.int (2 : Int32)), .val (.int v199), .val (.int v209), .val (.int v219), .val (.int v229), .val (.int m308), .unset] [(.ref b44)])) _
      refine XS.iconst X64.here hx rfl (hb hby at_508) ?_
      show Steps p.tables e below (T64.setTop (mkF m 509 #[.val (.int k1), .val (.int k2), .val (.int k3), .val (.int v4), .val (.int (1 : Int32)), .val (.int v39), .val (.int v98), .val (.ref b44), .val (.int (2 : Int32)), .val (.int (2 : Int32)), .val (.int v199), .val (.int v209), .val (.int v219), .val (.int v229), .val (.int m308), .unset] [(.int (2 : Int32)), (.ref b44)])) _
      refine X64.baloadBytes hx (j := (2 : Int32)) (v := (.int (nar .byte v98))) (heq_of rfl Ar76.1) (State.isArrayOf_alike hZ.alike Ar76.2.1) Ar76.2.2 hin76 hat76 (g := (mkF m 509 #[.val (.int k1), .val (.int k2), .val (.int k3), .val (.int v4), .val (.int (1 : Int32)), .val (.int v39), .val (.int v98), .val (.ref b44), .val (.int (2 : Int32)), .val (.int (2 : Int32)), .val (.int v199), .val (.int v209), .val (.int v219), .val (.int v229), .val (.int m308), .unset] [(.int (2 : Int32)), (.ref b44)])) rfl rfl (hb hby at_509) _ ?_
      show Steps p.tables e below (T64.setTop (mkF m 510 #[.val (.int k1), .val (.int k2), .val (.int k3), .val (.int v4), .val (.int (1 : Int32)), .val (.int v39), .val (.int v98), .val (.ref b44), .val (.int (2 : Int32)), .val (.int (2 : Int32)), .val (.int v199), .val (.int v209), .val (.int v219), .val (.int v229), .val (.int m308), .unset] [(.int (nar .byte v98))])) _
      refine XS.iload X64.here hx rfl (hb hby at_510) rfl ?_
      show Steps p.tables e below (T64.setTop (mkF m 512 #[.val (.int k1), .val (.int k2), .val (.int k3), .val (.int v4), .val (.int (1 : Int32)), .val (.int v39), .val (.int v98), .val (.ref b44), .val (.int (2 : Int32)), .val (.int (2 : Int32)), .val (.int v199), .val (.int v209), .val (.int v219), .val (.int v229), .val (.int m308), .unset] [(.int v98), (.int (nar .byte v98))])) _
      exact kt
    by_cases hc512_78 : (nar .byte v98) = v98
    · skip
      obtain ⟨cl79, Ar79, q79, S79, M79, H79, G79⟩ := id F65
      have hin79 : ¬ ((3 : Int32) < 0 ∨ cl79.slots.size ≤ ((3 : Int32)).toNatClampNeg) := inb_of S79 ⟨by decide, by decide⟩
      have hat79 : cl79.slots[((3 : Int32)).toNatClampNeg]? = some (.int (nar .byte v98)) := Has.at H79 hin79 rfl
      obtain ⟨m552, hm552⟩ : ∃ z_q : Int32, z_q = (if m308 = (0 : Int32) then (0 : Int32) else (1 : Int32)) := ⟨_, rfl⟩
      have pre81 : ∀ tq, Steps p.tables e below (T64.setTop (mkF m 552 #[.val (.int k1), .val (.int k2), .val (.int k3), .val (.int v4), .val (.int (1 : Int32)), .val (.int v39), .val (.int v98), .val (.ref b44), .val (.int (2 : Int32)), .val (.int (2 : Int32)), .val (.int v199), .val (.int v209), .val (.int v219), .val (.int v229), .val (.int m308), .val (.int (1 : Int32))] [(.int m552)])) tq → Steps p.tables e below (s₁.setTop (entryFrame m #[(.int k1), (.int k2), (.int k3)] maxLocals)) tq := by
        intro tq kt
        refine pre77 _ ?_
        show Steps p.tables e below (T64.setTop (mkF m 512 #[.val (.int k1), .val (.int k2), .val (.int k3), .val (.int v4), .val (.int (1 : Int32)), .val (.int v39), .val (.int v98), .val (.ref b44), .val (.int (2 : Int32)), .val (.int (2 : Int32)), .val (.int v199), .val (.int v209), .val (.int v219), .val (.int v229), .val (.int m308), .unset] [(.int v98), (.int (nar .byte v98))])) _
        refine XS.icmpNo X64.here hx rfl (hb hby at_512) rfl (teq hc512_78).2 ?_
        show Steps p.tables e below (T64.setTop (mkF m 515 #[.val (.int k1), .val (.int k2), .val (.int k3), .val (.int v4), .val (.int (1 : Int32)), .val (.int v39), .val (.int v98), .val (.ref b44), .val (.int (2 : Int32)), .val (.int (2 : Int32)), .val (.int v199), .val (.int v209), .val (.int v219), .val (.int v229), .val (.int m308), .unset] [])) _
        refine XS.iload X64.here hx rfl (hb hby at_515) rfl ?_
        show Steps p.tables e below (T64.setTop (mkF m 517 #[.val (.int k1), .val (.int k2), .val (.int k3), .val (.int v4), .val (.int (1 : Int32)), .val (.int v39), .val (.int v98), .val (.ref b44), .val (.int (2 : Int32)), .val (.int (2 : Int32)), .val (.int v199), .val (.int v209), .val (.int v219), .val (.int v229), .val (.int m308), .unset] [(.int (2 : Int32))])) _
        refine XS.iconst X64.here hx rfl (hb hby at_517) ?_
        show Steps p.tables e below (T64.setTop (mkF m 518 #[.val (.int k1), .val (.int k2), .val (.int k3), .val (.int v4), .val (.int (1 : Int32)), .val (.int v39), .val (.int v98), .val (.ref b44), .val (.int (2 : Int32)), .val (.int (2 : Int32)), .val (.int v199), .val (.int v209), .val (.int v219), .val (.int v229), .val (.int m308), .unset] [(.int (3 : Int32)), (.int (2 : Int32))])) _
        refine XS.icmpNo X64.here hx rfl (hb hby at_518) rfl (flt (by decide)).2.2.1 ?_
        show Steps p.tables e below (T64.setTop (mkF m 521 #[.val (.int k1), .val (.int k2), .val (.int k3), .val (.int v4), .val (.int (1 : Int32)), .val (.int v39), .val (.int v98), .val (.ref b44), .val (.int (2 : Int32)), .val (.int (2 : Int32)), .val (.int v199), .val (.int v209), .val (.int v219), .val (.int v229), .val (.int m308), .unset] [])) _
        refine XS.aload X64.here hx rfl (hb hby at_521) rfl rfl ?_
        show Steps p.tables e below (T64.setTop (mkF m 523 #[.val (.int k1), .val (.int k2), .val (.int k3), .val (.int v4), .val (.int (1 : Int32)), .val (.int v39), .val (.int v98), .val (.ref b44), .val (.int (2 : Int32)), .val (.int (2 : Int32)), .val (.int v199), .val (.int v209), .val (.int v219), .val (.int v229), .val (.int m308), .unset] [(.ref b44)])) _
        refine XS.iconst X64.here hx rfl (hb hby at_523) ?_
        show Steps p.tables e below (T64.setTop (mkF m 524 #[.val (.int k1), .val (.int k2), .val (.int k3), .val (.int v4), .val (.int (1 : Int32)), .val (.int v39), .val (.int v98), .val (.ref b44), .val (.int (2 : Int32)), .val (.int (2 : Int32)), .val (.int v199), .val (.int v209), .val (.int v219), .val (.int v229), .val (.int m308), .unset] [(.int (3 : Int32)), (.ref b44)])) _
        refine X64.baloadBytes hx (j := (3 : Int32)) (v := (.int (nar .byte v98))) (heq_of rfl Ar79.1) (State.isArrayOf_alike hZ.alike Ar79.2.1) Ar79.2.2 hin79 hat79 (g := (mkF m 524 #[.val (.int k1), .val (.int k2), .val (.int k3), .val (.int v4), .val (.int (1 : Int32)), .val (.int v39), .val (.int v98), .val (.ref b44), .val (.int (2 : Int32)), .val (.int (2 : Int32)), .val (.int v199), .val (.int v209), .val (.int v219), .val (.int v229), .val (.int m308), .unset] [(.int (3 : Int32)), (.ref b44)])) rfl rfl (hb hby at_524) _ ?_
        show Steps p.tables e below (T64.setTop (mkF m 525 #[.val (.int k1), .val (.int k2), .val (.int k3), .val (.int v4), .val (.int (1 : Int32)), .val (.int v39), .val (.int v98), .val (.ref b44), .val (.int (2 : Int32)), .val (.int (2 : Int32)), .val (.int v199), .val (.int v209), .val (.int v219), .val (.int v229), .val (.int m308), .unset] [(.int (nar .byte v98))])) _
        refine XS.iload X64.here hx rfl (hb hby at_525) rfl ?_
        show Steps p.tables e below (T64.setTop (mkF m 527 #[.val (.int k1), .val (.int k2), .val (.int k3), .val (.int v4), .val (.int (1 : Int32)), .val (.int v39), .val (.int v98), .val (.ref b44), .val (.int (2 : Int32)), .val (.int (2 : Int32)), .val (.int v199), .val (.int v209), .val (.int v219), .val (.int v229), .val (.int m308), .unset] [(.int v98), (.int (nar .byte v98))])) _
        refine XS.icmpNo X64.here hx rfl (hb hby at_527) rfl (teq hc512_78).2 ?_
        show Steps p.tables e below (T64.setTop (mkF m 530 #[.val (.int k1), .val (.int k2), .val (.int k3), .val (.int v4), .val (.int (1 : Int32)), .val (.int v39), .val (.int v98), .val (.ref b44), .val (.int (2 : Int32)), .val (.int (2 : Int32)), .val (.int v199), .val (.int v209), .val (.int v219), .val (.int v229), .val (.int m308), .unset] [])) _
        refine XS.iconst X64.here hx rfl (hb hby at_530) ?_
        show Steps p.tables e below (T64.setTop (mkF m 531 #[.val (.int k1), .val (.int k2), .val (.int k3), .val (.int v4), .val (.int (1 : Int32)), .val (.int v39), .val (.int v98), .val (.ref b44), .val (.int (2 : Int32)), .val (.int (2 : Int32)), .val (.int v199), .val (.int v209), .val (.int v219), .val (.int v229), .val (.int m308), .unset] [(.int (1 : Int32))])) _
        refine XS.goto X64.here hx rfl (pc0 := 531) (pc' := 535) rfl (hb hby at_531) (by decide) (by decide) ?_
        show Steps p.tables e below (T64.setTop (mkF m 535 #[.val (.int k1), .val (.int k2), .val (.int k3), .val (.int v4), .val (.int (1 : Int32)), .val (.int v39), .val (.int v98), .val (.ref b44), .val (.int (2 : Int32)), .val (.int (2 : Int32)), .val (.int v199), .val (.int v209), .val (.int v219), .val (.int v229), .val (.int m308), .unset] [(.int (1 : Int32))])) _
        refine XS.istore X64.here hx rfl (hb hby at_535) rfl (l' := #[.val (.int k1), .val (.int k2), .val (.int k3), .val (.int v4), .val (.int (1 : Int32)), .val (.int v39), .val (.int v98), .val (.ref b44), .val (.int (2 : Int32)), .val (.int (2 : Int32)), .val (.int v199), .val (.int v209), .val (.int v219), .val (.int v229), .val (.int m308), .val (.int (1 : Int32))]) rfl ?_
        show Steps p.tables e below (T64.setTop (mkF m 537 #[.val (.int k1), .val (.int k2), .val (.int k3), .val (.int v4), .val (.int (1 : Int32)), .val (.int v39), .val (.int v98), .val (.ref b44), .val (.int (2 : Int32)), .val (.int (2 : Int32)), .val (.int v199), .val (.int v209), .val (.int v219), .val (.int v229), .val (.int m308), .val (.int (1 : Int32))] [])) _
        refine XS.iload X64.here hx rfl (hb hby at_537) rfl ?_
        by_cases d80 : m308 = (0 : Int32)
        · skip
          show Steps p.tables e below (T64.setTop (mkF m 539 #[.val (.int k1), .val (.int k2), .val (.int k3), .val (.int v4), .val (.int (1 : Int32)), .val (.int v39), .val (.int v98), .val (.ref b44), .val (.int (2 : Int32)), .val (.int (2 : Int32)), .val (.int v199), .val (.int v209), .val (.int v219), .val (.int v229), .val (.int m308), .val (.int (1 : Int32))] [(.int m308)])) _
          refine XS.ifYes X64.here hx rfl (pc0 := 539) (pc' := 551) rfl (hb hby at_539) rfl ((if0 _ _).trans (teq d80).1) (by decide) (by decide) ?_
          show Steps p.tables e below (T64.setTop (mkF m 551 #[.val (.int k1), .val (.int k2), .val (.int k3), .val (.int v4), .val (.int (1 : Int32)), .val (.int v39), .val (.int v98), .val (.ref b44), .val (.int (2 : Int32)), .val (.int (2 : Int32)), .val (.int v199), .val (.int v209), .val (.int v219), .val (.int v229), .val (.int m308), .val (.int (1 : Int32))] [])) _
          refine XS.iconst X64.here hx rfl (hb hby at_551) ?_
          show Steps p.tables e below (T64.setTop (mkF m 552 #[.val (.int k1), .val (.int k2), .val (.int k3), .val (.int v4), .val (.int (1 : Int32)), .val (.int v39), .val (.int v98), .val (.ref b44), .val (.int (2 : Int32)), .val (.int (2 : Int32)), .val (.int v199), .val (.int v209), .val (.int v219), .val (.int v229), .val (.int m308), .val (.int (1 : Int32))] [(.int (0 : Int32))])) _
          exact castTop (by simp only [hm552, if_pos d80]) kt
        · skip
          show Steps p.tables e below (T64.setTop (mkF m 539 #[.val (.int k1), .val (.int k2), .val (.int k3), .val (.int v4), .val (.int (1 : Int32)), .val (.int v39), .val (.int v98), .val (.ref b44), .val (.int (2 : Int32)), .val (.int (2 : Int32)), .val (.int v199), .val (.int v209), .val (.int v219), .val (.int v229), .val (.int m308), .val (.int (1 : Int32))] [(.int m308)])) _
          refine XS.ifNo X64.here hx rfl (hb hby at_539) rfl ((if0 _ _).trans (feq d80).1) ?_
          show Steps p.tables e below (T64.setTop (mkF m 542 #[.val (.int k1), .val (.int k2), .val (.int k3), .val (.int v4), .val (.int (1 : Int32)), .val (.int v39), .val (.int v98), .val (.ref b44), .val (.int (2 : Int32)), .val (.int (2 : Int32)), .val (.int v199), .val (.int v209), .val (.int v219), .val (.int v229), .val (.int m308), .val (.int (1 : Int32))] [])) _
          refine XS.iload X64.here hx rfl (hb hby at_542) rfl ?_
          show Steps p.tables e below (T64.setTop (mkF m 544 #[.val (.int k1), .val (.int k2), .val (.int k3), .val (.int v4), .val (.int (1 : Int32)), .val (.int v39), .val (.int v98), .val (.ref b44), .val (.int (2 : Int32)), .val (.int (2 : Int32)), .val (.int v199), .val (.int v209), .val (.int v219), .val (.int v229), .val (.int m308), .val (.int (1 : Int32))] [(.int (1 : Int32))])) _
          refine XS.ifNo X64.here hx rfl (hb hby at_544) rfl ((if0 _ _).trans (feq (by decide)).1) ?_
          show Steps p.tables e below (T64.setTop (mkF m 547 #[.val (.int k1), .val (.int k2), .val (.int k3), .val (.int v4), .val (.int (1 : Int32)), .val (.int v39), .val (.int v98), .val (.ref b44), .val (.int (2 : Int32)), .val (.int (2 : Int32)), .val (.int v199), .val (.int v209), .val (.int v219), .val (.int v229), .val (.int m308), .val (.int (1 : Int32))] [])) _
          refine XS.iconst X64.here hx rfl (hb hby at_547) ?_
          show Steps p.tables e below (T64.setTop (mkF m 548 #[.val (.int k1), .val (.int k2), .val (.int k3), .val (.int v4), .val (.int (1 : Int32)), .val (.int v39), .val (.int v98), .val (.ref b44), .val (.int (2 : Int32)), .val (.int (2 : Int32)), .val (.int v199), .val (.int v209), .val (.int v219), .val (.int v229), .val (.int m308), .val (.int (1 : Int32))] [(.int (1 : Int32))])) _
          refine XS.goto X64.here hx rfl (pc0 := 548) (pc' := 552) rfl (hb hby at_548) (by decide) (by decide) ?_
          show Steps p.tables e below (T64.setTop (mkF m 552 #[.val (.int k1), .val (.int k2), .val (.int k3), .val (.int v4), .val (.int (1 : Int32)), .val (.int v39), .val (.int v98), .val (.ref b44), .val (.int (2 : Int32)), .val (.int (2 : Int32)), .val (.int v199), .val (.int v209), .val (.int v219), .val (.int v229), .val (.int m308), .val (.int (1 : Int32))] [(.int (1 : Int32))])) _
          exact castTop (by simp only [hm552, if_neg d80]) kt
      obtain ⟨fs, hr, hrun, hended, hW, hsame⟩ := X64.leave (v := some (Value.int (nar .boolean m552))) (fun h => by rw [Bd.returns] at h; cases h)
      have hres82 : (nar .boolean m552) = (1 : Int32) := (own_leaf_0_552_s1f k1 k2 k3 v4 hv4 hv8 v39 hv39 v98 hv98 hp64_h1 hp64_h2 v199 hv199 v209 hv209 v219 hv219 v229 hv229 m308 hm308 hc512_78 m552 hm552)
      refine ⟨_, _, pre81 _ ?_, hrun, hended, _, _, rfl, ?_, ⟨_, rfl⟩, hW, hsame.mono (by decide) (by decide)⟩
      · skip
        show Steps p.tables e below (T64.setTop (mkF m 552 #[.val (.int k1), .val (.int k2), .val (.int k3), .val (.int v4), .val (.int (1 : Int32)), .val (.int v39), .val (.int v98), .val (.ref b44), .val (.int (2 : Int32)), .val (.int (2 : Int32)), .val (.int v199), .val (.int v209), .val (.int v219), .val (.int v229), .val (.int m308), .val (.int (1 : Int32))] [(.int m552)])) _
        exact retN X64 hx (t := .boolean) Bd.returns (by simp) (hb hby at_552) hr
      · show Q0 Z k1 k2 k3 h0 n0 _ T64.heap _
        exact ⟨congrArg (fun z => some (Value.int z)) hres82, N64⟩
    · skip
      have pre84 : ∀ tq, Steps p.tables e below (T64.setTop (mkF m 552 #[.val (.int k1), .val (.int k2), .val (.int k3), .val (.int v4), .val (.int (1 : Int32)), .val (.int v39), .val (.int v98), .val (.ref b44), .val (.int (2 : Int32)), .val (.int (2 : Int32)), .val (.int v199), .val (.int v209), .val (.int v219), .val (.int v229), .val (.int m308), .val (.int (0 : Int32))] [(.int (0 : Int32))])) tq → Steps p.tables e below (s₁.setTop (entryFrame m #[(.int k1), (.int k2), (.int k3)] maxLocals)) tq := by
        intro tq kt
        refine pre77 _ ?_
        show Steps p.tables e below (T64.setTop (mkF m 512 #[.val (.int k1), .val (.int k2), .val (.int k3), .val (.int v4), .val (.int (1 : Int32)), .val (.int v39), .val (.int v98), .val (.ref b44), .val (.int (2 : Int32)), .val (.int (2 : Int32)), .val (.int v199), .val (.int v209), .val (.int v219), .val (.int v229), .val (.int m308), .unset] [(.int v98), (.int (nar .byte v98))])) _
        refine XS.icmpYes X64.here hx rfl (pc0 := 512) (pc' := 534) rfl (hb hby at_512) rfl (feq hc512_78).2 (by decide) (by decide) ?_
        show Steps p.tables e below (T64.setTop (mkF m 534 #[.val (.int k1), .val (.int k2), .val (.int k3), .val (.int v4), .val (.int (1 : Int32)), .val (.int v39), .val (.int v98), .val (.ref b44), .val (.int (2 : Int32)), .val (.int (2 : Int32)), .val (.int v199), .val (.int v209), .val (.int v219), .val (.int v229), .val (.int m308), .unset] [])) _
        refine XS.iconst X64.here hx rfl (hb hby at_534) ?_
        show Steps p.tables e below (T64.setTop (mkF m 535 #[.val (.int k1), .val (.int k2), .val (.int k3), .val (.int v4), .val (.int (1 : Int32)), .val (.int v39), .val (.int v98), .val (.ref b44), .val (.int (2 : Int32)), .val (.int (2 : Int32)), .val (.int v199), .val (.int v209), .val (.int v219), .val (.int v229), .val (.int m308), .unset] [(.int (0 : Int32))])) _
        refine XS.istore X64.here hx rfl (hb hby at_535) rfl (l' := #[.val (.int k1), .val (.int k2), .val (.int k3), .val (.int v4), .val (.int (1 : Int32)), .val (.int v39), .val (.int v98), .val (.ref b44), .val (.int (2 : Int32)), .val (.int (2 : Int32)), .val (.int v199), .val (.int v209), .val (.int v219), .val (.int v229), .val (.int m308), .val (.int (0 : Int32))]) rfl ?_
        show Steps p.tables e below (T64.setTop (mkF m 537 #[.val (.int k1), .val (.int k2), .val (.int k3), .val (.int v4), .val (.int (1 : Int32)), .val (.int v39), .val (.int v98), .val (.ref b44), .val (.int (2 : Int32)), .val (.int (2 : Int32)), .val (.int v199), .val (.int v209), .val (.int v219), .val (.int v229), .val (.int m308), .val (.int (0 : Int32))] [])) _
        refine XS.iload X64.here hx rfl (hb hby at_537) rfl ?_
        by_cases d83 : m308 = (0 : Int32)
        · skip
          show Steps p.tables e below (T64.setTop (mkF m 539 #[.val (.int k1), .val (.int k2), .val (.int k3), .val (.int v4), .val (.int (1 : Int32)), .val (.int v39), .val (.int v98), .val (.ref b44), .val (.int (2 : Int32)), .val (.int (2 : Int32)), .val (.int v199), .val (.int v209), .val (.int v219), .val (.int v229), .val (.int m308), .val (.int (0 : Int32))] [(.int m308)])) _
          refine XS.ifYes X64.here hx rfl (pc0 := 539) (pc' := 551) rfl (hb hby at_539) rfl ((if0 _ _).trans (teq d83).1) (by decide) (by decide) ?_
          show Steps p.tables e below (T64.setTop (mkF m 551 #[.val (.int k1), .val (.int k2), .val (.int k3), .val (.int v4), .val (.int (1 : Int32)), .val (.int v39), .val (.int v98), .val (.ref b44), .val (.int (2 : Int32)), .val (.int (2 : Int32)), .val (.int v199), .val (.int v209), .val (.int v219), .val (.int v229), .val (.int m308), .val (.int (0 : Int32))] [])) _
          refine XS.iconst X64.here hx rfl (hb hby at_551) ?_
          show Steps p.tables e below (T64.setTop (mkF m 552 #[.val (.int k1), .val (.int k2), .val (.int k3), .val (.int v4), .val (.int (1 : Int32)), .val (.int v39), .val (.int v98), .val (.ref b44), .val (.int (2 : Int32)), .val (.int (2 : Int32)), .val (.int v199), .val (.int v209), .val (.int v219), .val (.int v229), .val (.int m308), .val (.int (0 : Int32))] [(.int (0 : Int32))])) _
          exact castTop (by simp only [if_pos d83]) kt
        · skip
          show Steps p.tables e below (T64.setTop (mkF m 539 #[.val (.int k1), .val (.int k2), .val (.int k3), .val (.int v4), .val (.int (1 : Int32)), .val (.int v39), .val (.int v98), .val (.ref b44), .val (.int (2 : Int32)), .val (.int (2 : Int32)), .val (.int v199), .val (.int v209), .val (.int v219), .val (.int v229), .val (.int m308), .val (.int (0 : Int32))] [(.int m308)])) _
          refine XS.ifNo X64.here hx rfl (hb hby at_539) rfl ((if0 _ _).trans (feq d83).1) ?_
          show Steps p.tables e below (T64.setTop (mkF m 542 #[.val (.int k1), .val (.int k2), .val (.int k3), .val (.int v4), .val (.int (1 : Int32)), .val (.int v39), .val (.int v98), .val (.ref b44), .val (.int (2 : Int32)), .val (.int (2 : Int32)), .val (.int v199), .val (.int v209), .val (.int v219), .val (.int v229), .val (.int m308), .val (.int (0 : Int32))] [])) _
          refine XS.iload X64.here hx rfl (hb hby at_542) rfl ?_
          show Steps p.tables e below (T64.setTop (mkF m 544 #[.val (.int k1), .val (.int k2), .val (.int k3), .val (.int v4), .val (.int (1 : Int32)), .val (.int v39), .val (.int v98), .val (.ref b44), .val (.int (2 : Int32)), .val (.int (2 : Int32)), .val (.int v199), .val (.int v209), .val (.int v219), .val (.int v229), .val (.int m308), .val (.int (0 : Int32))] [(.int (0 : Int32))])) _
          refine XS.ifYes X64.here hx rfl (pc0 := 544) (pc' := 551) rfl (hb hby at_544) rfl ((if0 _ _).trans (teq rfl).1) (by decide) (by decide) ?_
          show Steps p.tables e below (T64.setTop (mkF m 551 #[.val (.int k1), .val (.int k2), .val (.int k3), .val (.int v4), .val (.int (1 : Int32)), .val (.int v39), .val (.int v98), .val (.ref b44), .val (.int (2 : Int32)), .val (.int (2 : Int32)), .val (.int v199), .val (.int v209), .val (.int v219), .val (.int v229), .val (.int m308), .val (.int (0 : Int32))] [])) _
          refine XS.iconst X64.here hx rfl (hb hby at_551) ?_
          show Steps p.tables e below (T64.setTop (mkF m 552 #[.val (.int k1), .val (.int k2), .val (.int k3), .val (.int v4), .val (.int (1 : Int32)), .val (.int v39), .val (.int v98), .val (.ref b44), .val (.int (2 : Int32)), .val (.int (2 : Int32)), .val (.int v199), .val (.int v209), .val (.int v219), .val (.int v229), .val (.int m308), .val (.int (0 : Int32))] [(.int (0 : Int32))])) _
          exact castTop (by simp only [if_neg d83]) kt
      obtain ⟨fs, hr, hrun, hended, hW, hsame⟩ := X64.leave (v := some (Value.int (0 : Int32))) (fun h => by rw [Bd.returns] at h; cases h)
      have hres85 : (0 : Int32) = (1 : Int32) := (own_leaf_0_552_s1t k1 k2 k3 v4 hv4 hv8 v39 hv39 v98 hv98 hp64_h1 hp64_h2 v199 hv199 v209 hv209 v219 hv219 v229 hv229 m308 hm308 hc512_78)
      refine ⟨_, _, pre84 _ ?_, hrun, hended, _, _, rfl, ?_, ⟨_, rfl⟩, hW, hsame.mono (by decide) (by decide)⟩
      · skip
        show Steps p.tables e below (T64.setTop (mkF m 552 #[.val (.int k1), .val (.int k2), .val (.int k3), .val (.int v4), .val (.int (1 : Int32)), .val (.int v39), .val (.int v98), .val (.ref b44), .val (.int (2 : Int32)), .val (.int (2 : Int32)), .val (.int v199), .val (.int v209), .val (.int v219), .val (.int v229), .val (.int m308), .val (.int (0 : Int32))] [(.int (0 : Int32))])) _
        exact retN X64 hx (t := .boolean) Bd.returns (by simp) (hb hby at_552) hr
      · show Q0 Z k1 k2 k3 h0 n0 _ T64.heap _
        exact ⟨congrArg (fun z => some (Value.int z)) hres85, N64⟩
  · subst hs2
    obtain ⟨v58, hv58⟩ : ∃ z_q : Int32, z_q = ((2048 : Int32) + (v4 % (63488 : Int32))) := ⟨_, rfl⟩
    obtain ⟨m96_l5, hm96_l5⟩ : ∃ z_q : Int32, z_q = (if v58 < (55296 : Int32) then v58 else (if (57343 : Int32) < v58 then v58 else ((v58 - (55296 : Int32)) + (57344 : Int32)))) := ⟨_, rfl⟩
    have pre88 : ∀ tq, Steps p.tables e below (s₁.setTop (mkF m 96 #[.val (.int k1), .val (.int k2), .val (.int k3), .val (.int v4), .val (.int (2 : Int32)), .val (.int m96_l5), .unset, .unset, .unset, .unset, .unset, .unset, .unset, .unset, .unset, .unset] [])) tq → Steps p.tables e below (s₁.setTop (entryFrame m #[(.int k1), (.int k2), (.int k3)] maxLocals)) tq := by
      intro tq kt
      refine pre1 _ ?_
      show Steps p.tables e below (s₁.setTop (mkF m 10 #[.val (.int k1), .val (.int k2), .val (.int k3), .val (.int v4), .val (.int (2 : Int32)), .unset, .unset, .unset, .unset, .unset, .unset, .unset, .unset, .unset, .unset, .unset] [])) _
      refine XS.iload X0.here hx rfl (hb hby at_10) rfl ?_
      show Steps p.tables e below (s₁.setTop (mkF m 12 #[.val (.int k1), .val (.int k2), .val (.int k3), .val (.int v4), .val (.int (2 : Int32)), .unset, .unset, .unset, .unset, .unset, .unset, .unset, .unset, .unset, .unset, .unset] [(.int (2 : Int32))])) _
      refine XS.ifYes X0.here hx rfl (pc0 := 12) (pc' := 24) rfl (hb hby at_12) rfl ((if0 _ _).trans (feq (by decide)).2) (by decide) (by decide) ?_
      show Steps p.tables e below (s₁.setTop (mkF m 24 #[.val (.int k1), .val (.int k2), .val (.int k3), .val (.int v4), .val (.int (2 : Int32)), .unset, .unset, .unset, .unset, .unset, .unset, .unset, .unset, .unset, .unset, .unset] [])) _
      refine XS.iload X0.here hx rfl (hb hby at_24) rfl ?_
      show Steps p.tables e below (s₁.setTop (mkF m 26 #[.val (.int k1), .val (.int k2), .val (.int k3), .val (.int v4), .val (.int (2 : Int32)), .unset, .unset, .unset, .unset, .unset, .unset, .unset, .unset, .unset, .unset, .unset] [(.int (2 : Int32))])) _
      refine XS.iconst X0.here hx rfl (hb hby at_26) ?_
      show Steps p.tables e below (s₁.setTop (mkF m 27 #[.val (.int k1), .val (.int k2), .val (.int k3), .val (.int v4), .val (.int (2 : Int32)), .unset, .unset, .unset, .unset, .unset, .unset, .unset, .unset, .unset, .unset, .unset] [(.int (1 : Int32)), (.int (2 : Int32))])) _
      refine XS.icmpYes X0.here hx rfl (pc0 := 27) (pc' := 44) rfl (hb hby at_27) rfl (feq (by decide)).2 (by decide) (by decide) ?_
      show Steps p.tables e below (s₁.setTop (mkF m 44 #[.val (.int k1), .val (.int k2), .val (.int k3), .val (.int v4), .val (.int (2 : Int32)), .unset, .unset, .unset, .unset, .unset, .unset, .unset, .unset, .unset, .unset, .unset] [])) _
      refine XS.iload X0.here hx rfl (hb hby at_44) rfl ?_
      show Steps p.tables e below (s₁.setTop (mkF m 46 #[.val (.int k1), .val (.int k2), .val (.int k3), .val (.int v4), .val (.int (2 : Int32)), .unset, .unset, .unset, .unset, .unset, .unset, .unset, .unset, .unset, .unset, .unset] [(.int (2 : Int32))])) _
      refine XS.iconst X0.here hx rfl (hb hby at_46) ?_
      show Steps p.tables e below (s₁.setTop (mkF m 47 #[.val (.int k1), .val (.int k2), .val (.int k3), .val (.int v4), .val (.int (2 : Int32)), .unset, .unset, .unset, .unset, .unset, .unset, .unset, .unset, .unset, .unset, .unset] [(.int (2 : Int32)), (.int (2 : Int32))])) _
      refine XS.icmpNo X0.here hx rfl (hb hby at_47) rfl (teq rfl).2 ?_
      show Steps p.tables e below (s₁.setTop (mkF m 50 #[.val (.int k1), .val (.int k2), .val (.int k3), .val (.int v4), .val (.int (2 : Int32)), .unset, .unset, .unset, .unset, .unset, .unset, .unset, .unset, .unset, .unset, .unset] [])) _
      refine XS.sipush X0.here hx rfl (hb hby at_50) ?_
      show Steps p.tables e below (s₁.setTop (mkF m 53 #[.val (.int k1), .val (.int k2), .val (.int k3), .val (.int v4), .val (.int (2 : Int32)), .unset, .unset, .unset, .unset, .unset, .unset, .unset, .unset, .unset, .unset, .unset] [(.int (2048 : Int32))])) _
      refine XS.iloadN X0.here hx rfl (hb hby at_53) rfl ?_
      show Steps p.tables e below (s₁.setTop (mkF m 54 #[.val (.int k1), .val (.int k2), .val (.int k3), .val (.int v4), .val (.int (2 : Int32)), .unset, .unset, .unset, .unset, .unset, .unset, .unset, .unset, .unset, .unset, .unset] [(.int v4), (.int (2048 : Int32))])) _
      refine X0.ldcInt hx hown (mvT hZ (hw _ (List.mem_of_getElem? (i := 9) rfl))) (g := (mkF m 54 #[.val (.int k1), .val (.int k2), .val (.int k3), .val (.int v4), .val (.int (2 : Int32)), .unset, .unset, .unset, .unset, .unset, .unset, .unset, .unset, .unset, .unset, .unset] [(.int v4), (.int (2048 : Int32))])) rfl (hb hby at_54) _ ?_
      show Steps p.tables e below (s₁.setTop (mkF m 56 #[.val (.int k1), .val (.int k2), .val (.int k3), .val (.int v4), .val (.int (2 : Int32)), .unset, .unset, .unset, .unset, .unset, .unset, .unset, .unset, .unset, .unset, .unset] [(.int (63488 : Int32)), (.int v4), (.int (2048 : Int32))])) _
      refine iremM X0 hx rfl (hb hby at_56) rfl (by decide : ¬ ((63488 : Int32) = (0 : Int32))) ?_
      show Steps p.tables e below (s₁.setTop (mkF m 57 #[.val (.int k1), .val (.int k2), .val (.int k3), .val (.int v4), .val (.int (2 : Int32)), .unset, .unset, .unset, .unset, .unset, .unset, .unset, .unset, .unset, .unset, .unset] [(.int (v4 % (63488 : Int32))), (.int (2048 : Int32))])) _
      refine XS.iadd X0.here hx rfl (hb hby at_57) rfl ?_
      show Steps p.tables e below (s₁.setTop (mkF m 58 #[.val (.int k1), .val (.int k2), .val (.int k3), .val (.int v4), .val (.int (2 : Int32)), .unset, .unset, .unset, .unset, .unset, .unset, .unset, .unset, .unset, .unset, .unset] [(.int ((2048 : Int32) + (v4 % (63488 : Int32))))])) _
      refine XS.istore X0.here hx rfl (hb hby at_58) rfl (l' := #[.val (.int k1), .val (.int k2), .val (.int k3), .val (.int v4), .val (.int (2 : Int32)), .val (.int v58), .unset, .unset, .unset, .unset, .unset, .unset, .unset, .unset, .unset, .unset]) (by rw [hv58]; rfl) ?_
      show Steps p.tables e below (s₁.setTop (mkF m 60 #[.val (.int k1), .val (.int k2), .val (.int k3), .val (.int v4), .val (.int (2 : Int32)), .val (.int v58), .unset, .unset, .unset, .unset, .unset, .unset, .unset, .unset, .unset, .unset] [])) _
      refine XS.iload X0.here hx rfl (hb hby at_60) rfl ?_
      show Steps p.tables e below (s₁.setTop (mkF m 62 #[.val (.int k1), .val (.int k2), .val (.int k3), .val (.int v4), .val (.int (2 : Int32)), .val (.int v58), .unset, .unset, .unset, .unset, .unset, .unset, .unset, .unset, .unset, .unset] [(.int v58)])) _
      refine X0.ldcInt hx hown (mvT hZ (hw _ (List.mem_of_getElem? (i := 10) rfl))) (g := (mkF m 62 #[.val (.int k1), .val (.int k2), .val (.int k3), .val (.int v4), .val (.int (2 : Int32)), .val (.int v58), .unset, .unset, .unset, .unset, .unset, .unset, .unset, .unset, .unset, .unset] [(.int v58)])) rfl (hb hby at_62) _ ?_
      by_cases d86 : v58 < (55296 : Int32)
      · skip
        show Steps p.tables e below (s₁.setTop (mkF m 64 #[.val (.int k1), .val (.int k2), .val (.int k3), .val (.int v4), .val (.int (2 : Int32)), .val (.int v58), .unset, .unset, .unset, .unset, .unset, .unset, .unset, .unset, .unset, .unset] [(.int (55296 : Int32)), (.int v58)])) _
        refine XS.icmpYes X0.here hx rfl (pc0 := 64) (pc' := 96) rfl (hb hby at_64) rfl (tlt d86).1 (by decide) (by decide) ?_
        show Steps p.tables e below (s₁.setTop (mkF m 96 #[.val (.int k1), .val (.int k2), .val (.int k3), .val (.int v4), .val (.int (2 : Int32)), .val (.int v58), .unset, .unset, .unset, .unset, .unset, .unset, .unset, .unset, .unset, .unset] [])) _
        exact castTop (by simp only [hm96_l5, if_pos d86]) kt
      · skip
        show Steps p.tables e below (s₁.setTop (mkF m 64 #[.val (.int k1), .val (.int k2), .val (.int k3), .val (.int v4), .val (.int (2 : Int32)), .val (.int v58), .unset, .unset, .unset, .unset, .unset, .unset, .unset, .unset, .unset, .unset] [(.int (55296 : Int32)), (.int v58)])) _
        refine XS.icmpNo X0.here hx rfl (hb hby at_64) rfl (flt d86).1 ?_
        show Steps p.tables e below (s₁.setTop (mkF m 67 #[.val (.int k1), .val (.int k2), .val (.int k3), .val (.int v4), .val (.int (2 : Int32)), .val (.int v58), .unset, .unset, .unset, .unset, .unset, .unset, .unset, .unset, .unset, .unset] [])) _
        refine XS.iload X0.here hx rfl (hb hby at_67) rfl ?_
        show Steps p.tables e below (s₁.setTop (mkF m 69 #[.val (.int k1), .val (.int k2), .val (.int k3), .val (.int v4), .val (.int (2 : Int32)), .val (.int v58), .unset, .unset, .unset, .unset, .unset, .unset, .unset, .unset, .unset, .unset] [(.int v58)])) _
        refine X0.ldcInt hx hown (mvT hZ (hw _ (List.mem_of_getElem? (i := 11) rfl))) (g := (mkF m 69 #[.val (.int k1), .val (.int k2), .val (.int k3), .val (.int v4), .val (.int (2 : Int32)), .val (.int v58), .unset, .unset, .unset, .unset, .unset, .unset, .unset, .unset, .unset, .unset] [(.int v58)])) rfl (hb hby at_69) _ ?_
        by_cases d87 : (57343 : Int32) < v58
        · skip
          show Steps p.tables e below (s₁.setTop (mkF m 71 #[.val (.int k1), .val (.int k2), .val (.int k3), .val (.int v4), .val (.int (2 : Int32)), .val (.int v58), .unset, .unset, .unset, .unset, .unset, .unset, .unset, .unset, .unset, .unset] [(.int (57343 : Int32)), (.int v58)])) _
          refine XS.icmpYes X0.here hx rfl (pc0 := 71) (pc' := 96) rfl (hb hby at_71) rfl (tlt d87).2.2.1 (by decide) (by decide) ?_
          show Steps p.tables e below (s₁.setTop (mkF m 96 #[.val (.int k1), .val (.int k2), .val (.int k3), .val (.int v4), .val (.int (2 : Int32)), .val (.int v58), .unset, .unset, .unset, .unset, .unset, .unset, .unset, .unset, .unset, .unset] [])) _
          exact castTop (by simp only [hm96_l5, if_neg d86, if_pos d87]) kt
        · skip
          show Steps p.tables e below (s₁.setTop (mkF m 71 #[.val (.int k1), .val (.int k2), .val (.int k3), .val (.int v4), .val (.int (2 : Int32)), .val (.int v58), .unset, .unset, .unset, .unset, .unset, .unset, .unset, .unset, .unset, .unset] [(.int (57343 : Int32)), (.int v58)])) _
          refine XS.icmpNo X0.here hx rfl (hb hby at_71) rfl (flt d87).2.2.1 ?_
          show Steps p.tables e below (s₁.setTop (mkF m 74 #[.val (.int k1), .val (.int k2), .val (.int k3), .val (.int v4), .val (.int (2 : Int32)), .val (.int v58), .unset, .unset, .unset, .unset, .unset, .unset, .unset, .unset, .unset, .unset] [])) _
          refine XS.iload X0.here hx rfl (hb hby at_74) rfl ?_
          show Steps p.tables e below (s₁.setTop (mkF m 76 #[.val (.int k1), .val (.int k2), .val (.int k3), .val (.int v4), .val (.int (2 : Int32)), .val (.int v58), .unset, .unset, .unset, .unset, .unset, .unset, .unset, .unset, .unset, .unset] [(.int v58)])) _
          refine X0.ldcInt hx hown (mvT hZ (hw _ (List.mem_of_getElem? (i := 10) rfl))) (g := (mkF m 76 #[.val (.int k1), .val (.int k2), .val (.int k3), .val (.int v4), .val (.int (2 : Int32)), .val (.int v58), .unset, .unset, .unset, .unset, .unset, .unset, .unset, .unset, .unset, .unset] [(.int v58)])) rfl (hb hby at_76) _ ?_
          show Steps p.tables e below (s₁.setTop (mkF m 78 #[.val (.int k1), .val (.int k2), .val (.int k3), .val (.int v4), .val (.int (2 : Int32)), .val (.int v58), .unset, .unset, .unset, .unset, .unset, .unset, .unset, .unset, .unset, .unset] [(.int (55296 : Int32)), (.int v58)])) _
          refine XS.isub X0.here hx rfl (hb hby at_78) rfl ?_
          show Steps p.tables e below (s₁.setTop (mkF m 79 #[.val (.int k1), .val (.int k2), .val (.int k3), .val (.int v4), .val (.int (2 : Int32)), .val (.int v58), .unset, .unset, .unset, .unset, .unset, .unset, .unset, .unset, .unset, .unset] [(.int (v58 - (55296 : Int32)))])) _
          refine X0.ldcInt hx hown (mvT hZ (hw _ (List.mem_of_getElem? (i := 12) rfl))) (g := (mkF m 79 #[.val (.int k1), .val (.int k2), .val (.int k3), .val (.int v4), .val (.int (2 : Int32)), .val (.int v58), .unset, .unset, .unset, .unset, .unset, .unset, .unset, .unset, .unset, .unset] [(.int (v58 - (55296 : Int32)))])) rfl (hb hby at_79) _ ?_
          show Steps p.tables e below (s₁.setTop (mkF m 81 #[.val (.int k1), .val (.int k2), .val (.int k3), .val (.int v4), .val (.int (2 : Int32)), .val (.int v58), .unset, .unset, .unset, .unset, .unset, .unset, .unset, .unset, .unset, .unset] [(.int (57344 : Int32)), (.int (v58 - (55296 : Int32)))])) _
          refine XS.iadd X0.here hx rfl (hb hby at_81) rfl ?_
          show Steps p.tables e below (s₁.setTop (mkF m 82 #[.val (.int k1), .val (.int k2), .val (.int k3), .val (.int v4), .val (.int (2 : Int32)), .val (.int v58), .unset, .unset, .unset, .unset, .unset, .unset, .unset, .unset, .unset, .unset] [(.int ((v58 - (55296 : Int32)) + (57344 : Int32)))])) _
          refine XS.istore X0.here hx rfl (hb hby at_82) rfl (l' := #[.val (.int k1), .val (.int k2), .val (.int k3), .val (.int v4), .val (.int (2 : Int32)), .val (.int ((v58 - (55296 : Int32)) + (57344 : Int32))), .unset, .unset, .unset, .unset, .unset, .unset, .unset, .unset, .unset, .unset]) rfl ?_
          show Steps p.tables e below (s₁.setTop (mkF m 84 #[.val (.int k1), .val (.int k2), .val (.int k3), .val (.int v4), .val (.int (2 : Int32)), .val (.int ((v58 - (55296 : Int32)) + (57344 : Int32))), .unset, .unset, .unset, .unset, .unset, .unset, .unset, .unset, .unset, .unset] [])) _
          refine XS.goto X0.here hx rfl (pc0 := 84) (pc' := 96) rfl (hb hby at_84) (by decide) (by decide) ?_
          show Steps p.tables e below (s₁.setTop (mkF m 96 #[.val (.int k1), .val (.int k2), .val (.int k3), .val (.int v4), .val (.int (2 : Int32)), .val (.int ((v58 - (55296 : Int32)) + (57344 : Int32))), .unset, .unset, .unset, .unset, .unset, .unset, .unset, .unset, .unset, .unset] [])) _
          exact castTop (by simp only [hm96_l5, if_neg d86, if_neg d87]) kt
    obtain ⟨v98, hv98⟩ : ∃ z_q : Int32, z_q = (k3.toInt8.toInt32) := ⟨_, rfl⟩
    obtain ⟨T89, hX89, kx89, X89, e89, E89, A89, st89⟩ := newP X0 hx hZ (hw _ (List.mem_of_getElem? (i := 3) rfl)) e0 (g := (mkF m 101 #[.val (.int k1), .val (.int k2), .val (.int k3), .val (.int v4), .val (.int (2 : Int32)), .val (.int m96_l5), .val (.int v98), .unset, .unset, .unset, .unset, .unset, .unset, .unset, .unset, .unset] [(.int (4 : Int32))])) rfl (hb hby at_101) rfl (by decide) (cap := 4) (by decide) (by decide) (by decide) (by decide)
    obtain ⟨b89, g89⟩ : ∃ z_q, z_q = h0.size := ⟨_, rfl⟩
    rw [← g89] at A89 st89
    have g_b89 : n0 ≤ b89 := Nat.le_trans Z0 (Nat.le_of_eq g89.symm)
    have sz_b89 : h0.size ≤ b89 := Nat.le_trans K0.1 (Nat.le_of_eq g89.symm)
    have Z90 : n0 ≤ hX89.size := Nat.le_trans Z0 E89.1
    have K91 : Keep h0 hX89 [] := K0.ext E89
    have F92 : Arv Z hX89 b89 kx89 .byte (4 : Int32) [(.int (0 : Int32)), (.int (0 : Int32)), (.int (0 : Int32)), (.int (0 : Int32))] (.int (0 : Int32)) := (Arv.new A89 (by decide)).pad (pad_rep [] (.int (0 : Int32)) 4)
    obtain ⟨cl93, Ar93, q93, S93, M93, H93, G93⟩ := id F92
    have hin93 : ¬ ((0 : Int32) < 0 ∨ cl93.slots.size ≤ ((0 : Int32)).toNatClampNeg) := inb_of S93 ⟨by decide, by decide⟩
    obtain ⟨T93, hX93, X93, e93, W93, st93⟩ := stB X89 hx hZ e89 Ar93 (j := (0 : Int32)) hin93 (g := (mkF m 110 #[.val (.int k1), .val (.int k2), .val (.int k3), .val (.int v4), .val (.int (2 : Int32)), .val (.int m96_l5), .val (.int v98), .val (.ref b89), .unset, .unset, .unset, .unset, .unset, .unset, .unset, .unset] [(.int v98), (.int (0 : Int32)), (.ref b89)])) rfl rfl (hb hby at_110)
    have F94 : Arv Z hX93 b89 kx89 .byte (4 : Int32) [(.int (nar .byte v98)), (.int (0 : Int32)), (.int (0 : Int32)), (.int (0 : Int32))] (.int (0 : Int32)) := Arv.set Ar93 q93 S93 M93 H93 G93 (fits_nar_byte _) W93 0 rfl (Nat.le_of_ble_eq_true rfl)
    have N93 := Fr.snoc X93 N0 g_b89
    have Z95 : n0 ≤ hX93.size := Nat.le_trans Z90 (Keep.of_wr W93).1
    have K96 : Keep h0 hX93 [] := K91.wr W93 (Or.inr sz_b89)
    obtain ⟨cl97, Ar97, q97, S97, M97, H97, G97⟩ := id F94
    have hin97 : ¬ ((1 : Int32) < 0 ∨ cl97.slots.size ≤ ((1 : Int32)).toNatClampNeg) := inb_of S97 ⟨by decide, by decide⟩
    obtain ⟨T97, hX97, X97, e97, W97, st97⟩ := stB X93 hx hZ e93 Ar97 (j := (1 : Int32)) hin97 (g := (mkF m 116 #[.val (.int k1), .val (.int k2), .val (.int k3), .val (.int v4), .val (.int (2 : Int32)), .val (.int m96_l5), .val (.int v98), .val (.ref b89), .unset, .unset, .unset, .unset, .unset, .unset, .unset, .unset] [(.int v98), (.int (1 : Int32)), (.ref b89)])) rfl rfl (hb hby at_116)
    have F98 : Arv Z hX97 b89 kx89 .byte (4 : Int32) [(.int (nar .byte v98)), (.int (nar .byte v98)), (.int (0 : Int32)), (.int (0 : Int32))] (.int (0 : Int32)) := Arv.set Ar97 q97 S97 M97 H97 G97 (fits_nar_byte _) W97 1 rfl (Nat.le_of_ble_eq_true rfl)
    have N97 := Fr.snoc X97 N93 g_b89
    have Z99 : n0 ≤ hX97.size := Nat.le_trans Z95 (Keep.of_wr W97).1
    have K100 : Keep h0 hX97 [] := K96.wr W97 (Or.inr sz_b89)
    obtain ⟨cl101, Ar101, q101, S101, M101, H101, G101⟩ := id F98
    have hin101 : ¬ ((2 : Int32) < 0 ∨ cl101.slots.size ≤ ((2 : Int32)).toNatClampNeg) := inb_of S101 ⟨by decide, by decide⟩
    obtain ⟨T101, hX101, X101, e101, W101, st101⟩ := stB X97 hx hZ e97 Ar101 (j := (2 : Int32)) hin101 (g := (mkF m 122 #[.val (.int k1), .val (.int k2), .val (.int k3), .val (.int v4), .val (.int (2 : Int32)), .val (.int m96_l5), .val (.int v98), .val (.ref b89), .unset, .unset, .unset, .unset, .unset, .unset, .unset, .unset] [(.int v98), (.int (2 : Int32)), (.ref b89)])) rfl rfl (hb hby at_122)
    have F102 : Arv Z hX101 b89 kx89 .byte (4 : Int32) [(.int (nar .byte v98)), (.int (nar .byte v98)), (.int (nar .byte v98)), (.int (0 : Int32))] (.int (0 : Int32)) := Arv.set Ar101 q101 S101 M101 H101 G101 (fits_nar_byte _) W101 2 rfl (Nat.le_of_ble_eq_true rfl)
    have N101 := Fr.snoc X101 N97 g_b89
    have Z103 : n0 ≤ hX101.size := Nat.le_trans Z99 (Keep.of_wr W101).1
    have K104 : Keep h0 hX101 [] := K100.wr W101 (Or.inr sz_b89)
    obtain ⟨cl105, Ar105, q105, S105, M105, H105, G105⟩ := id F102
    have hin105 : ¬ ((3 : Int32) < 0 ∨ cl105.slots.size ≤ ((3 : Int32)).toNatClampNeg) := inb_of S105 ⟨by decide, by decide⟩
    obtain ⟨T105, hX105, X105, e105, W105, st105⟩ := stB X101 hx hZ e101 Ar105 (j := (3 : Int32)) hin105 (g := (mkF m 128 #[.val (.int k1), .val (.int k2), .val (.int k3), .val (.int v4), .val (.int (2 : Int32)), .val (.int m96_l5), .val (.int v98), .val (.ref b89), .unset, .unset, .unset, .unset, .unset, .unset, .unset, .unset] [(.int v98), (.int (3 : Int32)), (.ref b89)])) rfl rfl (hb hby at_128)
    have F106 : Arv Z hX105 b89 kx89 .byte (4 : Int32) [(.int (nar .byte v98)), (.int (nar .byte v98)), (.int (nar .byte v98)), (.int (nar .byte v98))] (.int (0 : Int32)) := Arv.set Ar105 q105 S105 M105 H105 G105 (fits_nar_byte _) W105 3 rfl (Nat.le_of_ble_eq_true rfl)
    have N105 := Fr.snoc X105 N101 g_b89
    have Z107 : n0 ≤ hX105.size := Nat.le_trans Z103 (Keep.of_wr W105).1
    have K108 : Keep h0 hX105 [] := K104.wr W105 (Or.inr sz_b89)
    have hp109_h1 : ¬ (m96_l5 < (128 : Int32)) := (own_pre_0_133_h1_s2 k1 k2 k3 v4 hv4 hv8 v58 hv58 m96_l5 hm96_l5 v98 hv98)
    have hp109_h2 : ¬ (m96_l5 < (2048 : Int32)) := (own_pre_0_133_h2_s2 k1 k2 k3 v4 hv4 hv8 v58 hv58 m96_l5 hm96_l5 v98 hv98 hp109_h1)
    have hp109_h3 : m96_l5 < (65536 : Int32) := (own_pre_0_133_h3_s2 k1 k2 k3 v4 hv4 hv8 v58 hv58 m96_l5 hm96_l5 v98 hv98 hp109_h1 hp109_h2)
    obtain ⟨_, _, ⟨T109, L109, k109, n109⟩, -, X109, ⟨Lc109, hQ109, l109, y109, z109⟩, st109⟩ := Jvm.LawKit.callS X105 hx (y := (⟨"com/example/marcotte/marcotte/XmlCharacters", "writeUtf8", "(I[B)I"⟩ : MethodName)) hown (mvT hZ (hw _ (List.mem_of_getElem? (i := 4) rfl))) (mvT hZ (hw _ (List.mem_of_getElem? (i := 5) rfl))) (mvT hZ (hw _ (List.mem_of_getElem? (i := 6) rfl))) (mvT hZ (hw _ (List.mem_of_getElem? (i := 7) rfl))) (by decide) (backOf (W := 0) (rm1_2 l Z a0 hw [] m96_l5 b89 kx89 (nar .byte v98) (nar .byte v98) (nar .byte v98) (nar .byte v98) hX105 n0 Z107 F106 g_b89 hp109_h1 hp109_h2 hp109_h3) hZ (hw _ (List.mem_of_getElem? (i := 7) rfl)) (hw _ (List.mem_of_getElem? (i := 6) rfl)) (by decide) (by decide)) (g := (mkF m 133 #[.val (.int k1), .val (.int k2), .val (.int k3), .val (.int v4), .val (.int (2 : Int32)), .val (.int m96_l5), .val (.int v98), .val (.ref b89), .unset, .unset, .unset, .unset, .unset, .unset, .unset, .unset] [(.ref b89), (.int m96_l5)])) rfl (by rw [hml]; rfl) (argsL := [(.int m96_l5), (.ref b89)]) (rest := []) (lenOf pd_0 rfl) rfl (by show 2 * 0 + _ ≤ _; exact Nat.le_of_eq rfl) (hb hby at_133) (fun _ _ => ⟨rfl, e105, (by decide : 1 + 0 ≤ _), (by decide : 4 + 0 ≤ _)⟩)
    dsimp only [Pt.U, Pt.locs, Pt.cells, Pt.slots] at X109 l109 y109 z109 st109 hQ109
    subst l109 y109 z109
    obtain ⟨rfl, N109q, K109q, F110⟩ := hQ109
    have N109 := Fr.app N105 N109q
    have Z111 : n0 ≤ T109.heap.size := Nat.le_trans Z107 K109q.1
    have K112 : Keep h0 T109.heap [] := K108.trans K109q (allS (Or.inr sz_b89) all0)
    obtain ⟨cl113, Ar113, q113, S113, M113, H113, G113⟩ := id F110
    have hin113 : ¬ ((0 : Int32) < 0 ∨ cl113.slots.size ≤ ((0 : Int32)).toNatClampNeg) := inb_of S113 ⟨by decide, by decide⟩
    have hat113 : cl113.slots[((0 : Int32)).toNatClampNeg]? = some (.int (nar .byte (((224 : Int32) ||| (m96_l5 >>> ((12 : Int32) &&& 31))).toInt8.toInt32))) := Has.at H113 hin113 rfl
    obtain ⟨v199, hv199⟩ : ∃ z_q : Int32, z_q = ((nar .byte (((224 : Int32) ||| (m96_l5 >>> ((12 : Int32) &&& 31))).toInt8.toInt32)) &&& (255 : Int32)) := ⟨_, rfl⟩
    obtain ⟨cl114, Ar114, q114, S114, M114, H114, G114⟩ := id F110
    have hin114 : ¬ ((1 : Int32) < 0 ∨ cl114.slots.size ≤ ((1 : Int32)).toNatClampNeg) := inb_of S114 ⟨by decide, by decide⟩
    have hat114 : cl114.slots[((1 : Int32)).toNatClampNeg]? = some (.int (nar .byte (((128 : Int32) ||| ((m96_l5 >>> ((6 : Int32) &&& 31)) &&& (63 : Int32))).toInt8.toInt32))) := Has.at H114 hin114 rfl
    obtain ⟨v209, hv209⟩ : ∃ z_q : Int32, z_q = ((nar .byte (((128 : Int32) ||| ((m96_l5 >>> ((6 : Int32) &&& 31)) &&& (63 : Int32))).toInt8.toInt32)) &&& (255 : Int32)) := ⟨_, rfl⟩
    obtain ⟨cl115, Ar115, q115, S115, M115, H115, G115⟩ := id F110
    have hin115 : ¬ ((2 : Int32) < 0 ∨ cl115.slots.size ≤ ((2 : Int32)).toNatClampNeg) := inb_of S115 ⟨by decide, by decide⟩
    have hat115 : cl115.slots[((2 : Int32)).toNatClampNeg]? = some (.int (nar .byte (((128 : Int32) ||| (m96_l5 &&& (63 : Int32))).toInt8.toInt32))) := Has.at H115 hin115 rfl
    obtain ⟨v219, hv219⟩ : ∃ z_q : Int32, z_q = ((nar .byte (((128 : Int32) ||| (m96_l5 &&& (63 : Int32))).toInt8.toInt32)) &&& (255 : Int32)) := ⟨_, rfl⟩
    obtain ⟨cl116, Ar116, q116, S116, M116, H116, G116⟩ := id F110
    have hin116 : ¬ ((3 : Int32) < 0 ∨ cl116.slots.size ≤ ((3 : Int32)).toNatClampNeg) := inb_of S116 ⟨by decide, by decide⟩
    have hat116 : cl116.slots[((3 : Int32)).toNatClampNeg]? = some (.int (nar .byte v98)) := Has.at H116 hin116 rfl
    obtain ⟨v229, hv229⟩ : ∃ z_q : Int32, z_q = ((nar .byte v98) &&& (255 : Int32)) := ⟨_, rfl⟩
    obtain ⟨m388, hm388⟩ : ∃ z_q : Int32, z_q = (if (v199 &&& (240 : Int32)) = (224 : Int32) then (if (v209 &&& (192 : Int32)) = (128 : Int32) then (if (v219 &&& (192 : Int32)) = (128 : Int32) then (if ((((v199 &&& (15 : Int32)) <<< ((12 : Int32) &&& 31)) ||| ((v209 &&& (63 : Int32)) <<< ((6 : Int32) &&& 31))) ||| (v219 &&& (63 : Int32))) = m96_l5 then (1 : Int32) else (0 : Int32)) else (0 : Int32)) else (0 : Int32)) else (0 : Int32)) := ⟨_, rfl⟩
    have pre121 : ∀ tq, Steps p.tables e below (T109.setTop (mkF m 388 #[.val (.int k1), .val (.int k2), .val (.int k3), .val (.int v4), .val (.int (2 : Int32)), .val (.int m96_l5), .val (.int v98), .val (.ref b89), .val (.int (3 : Int32)), .val (.int (3 : Int32)), .val (.int v199), .val (.int v209), .val (.int v219), .val (.int v229), .unset, .unset] [(.int m388)])) tq → Steps p.tables e below (s₁.setTop (entryFrame m #[(.int k1), (.int k2), (.int k3)] maxLocals)) tq := by
      intro tq kt
      refine pre88 _ ?_
      show Steps p.tables e below (s₁.setTop (mkF m 96 #[.val (.int k1), .val (.int k2), .val (.int k3), .val (.int v4), .val (.int (2 : Int32)), .val (.int m96_l5), .unset, .unset, .unset, .unset, .unset, .unset, .unset, .unset, .unset, .unset] [])) _
      refine XS.iloadN X0.here hx rfl (hb hby at_96) rfl ?_
      show Steps p.tables e below (s₁.setTop (mkF m 97 #[.val (.int k1), .val (.int k2), .val (.int k3), .val (.int v4), .val (.int (2 : Int32)), .val (.int m96_l5), .unset, .unset, .unset, .unset, .unset, .unset, .unset, .unset, .unset, .unset] [(.int k3)])) _
      refine XS.i2b X0.here hx rfl (hb hby at_97) rfl ?_
      show Steps p.tables e below (s₁.setTop (mkF m 98 #[.val (.int k1), .val (.int k2), .val (.int k3), .val (.int v4), .val (.int (2 : Int32)), .val (.int m96_l5), .unset, .unset, .unset, .unset, .unset, .unset, .unset, .unset, .unset, .unset] [(.int (k3.toInt8.toInt32))])) _
      refine XS.istore X0.here hx rfl (hb hby at_98) rfl (l' := #[.val (.int k1), .val (.int k2), .val (.int k3), .val (.int v4), .val (.int (2 : Int32)), .val (.int m96_l5), .val (.int v98), .unset, .unset, .unset, .unset, .unset, .unset, .unset, .unset, .unset]) (by rw [hv98]; rfl) ?_
      show Steps p.tables e below (s₁.setTop (mkF m 100 #[.val (.int k1), .val (.int k2), .val (.int k3), .val (.int v4), .val (.int (2 : Int32)), .val (.int m96_l5), .val (.int v98), .unset, .unset, .unset, .unset, .unset, .unset, .unset, .unset, .unset] [])) _
      refine XS.iconst X0.here hx rfl (hb hby at_100) ?_
      show Steps p.tables e below (s₁.setTop (mkF m 101 #[.val (.int k1), .val (.int k2), .val (.int k3), .val (.int v4), .val (.int (2 : Int32)), .val (.int m96_l5), .val (.int v98), .unset, .unset, .unset, .unset, .unset, .unset, .unset, .unset, .unset] [(.int (4 : Int32))])) _
      refine st89 _ ?_
      show Steps p.tables e below (T89.setTop (mkF m 103 #[.val (.int k1), .val (.int k2), .val (.int k3), .val (.int v4), .val (.int (2 : Int32)), .val (.int m96_l5), .val (.int v98), .unset, .unset, .unset, .unset, .unset, .unset, .unset, .unset, .unset] [(.ref b89)])) _
      refine XS.astore X89.here hx rfl (hb hby at_103) rfl rfl (l' := #[.val (.int k1), .val (.int k2), .val (.int k3), .val (.int v4), .val (.int (2 : Int32)), .val (.int m96_l5), .val (.int v98), .val (.ref b89), .unset, .unset, .unset, .unset, .unset, .unset, .unset, .unset]) rfl ?_
      show Steps p.tables e below (T89.setTop (mkF m 105 #[.val (.int k1), .val (.int k2), .val (.int k3), .val (.int v4), .val (.int (2 : Int32)), .val (.int m96_l5), .val (.int v98), .val (.ref b89), .unset, .unset, .unset, .unset, .unset, .unset, .unset, .unset] [])) _
      refine XS.aload X89.here hx rfl (hb hby at_105) rfl rfl ?_
      show Steps p.tables e below (T89.setTop (mkF m 107 #[.val (.int k1), .val (.int k2), .val (.int k3), .val (.int v4), .val (.int (2 : Int32)), .val (.int m96_l5), .val (.int v98), .val (.ref b89), .unset, .unset, .unset, .unset, .unset, .unset, .unset, .unset] [(.ref b89)])) _
      refine XS.iconst X89.here hx rfl (hb hby at_107) ?_
      show Steps p.tables e below (T89.setTop (mkF m 108 #[.val (.int k1), .val (.int k2), .val (.int k3), .val (.int v4), .val (.int (2 : Int32)), .val (.int m96_l5), .val (.int v98), .val (.ref b89), .unset, .unset, .unset, .unset, .unset, .unset, .unset, .unset] [(.int (0 : Int32)), (.ref b89)])) _
      refine XS.iload X89.here hx rfl (hb hby at_108) rfl ?_
      show Steps p.tables e below (T89.setTop (mkF m 110 #[.val (.int k1), .val (.int k2), .val (.int k3), .val (.int v4), .val (.int (2 : Int32)), .val (.int m96_l5), .val (.int v98), .val (.ref b89), .unset, .unset, .unset, .unset, .unset, .unset, .unset, .unset] [(.int v98), (.int (0 : Int32)), (.ref b89)])) _
      refine st93 _ ?_
      show Steps p.tables e below (T93.setTop (mkF m 111 #[.val (.int k1), .val (.int k2), .val (.int k3), .val (.int v4), .val (.int (2 : Int32)), .val (.int m96_l5), .val (.int v98), .val (.ref b89), .unset, .unset, .unset, .unset, .unset, .unset, .unset, .unset] [])) _
      refine XS.aload X93.here hx rfl (hb hby at_111) rfl rfl ?_
      show Steps p.tables e below (T93.setTop (mkF m 113 #[.val (.int k1), .val (.int k2), .val (.int k3), .val (.int v4), .val (.int (2 : Int32)), .val (.int m96_l5), .val (.int v98), .val (.ref b89), .unset, .unset, .unset, .unset, .unset, .unset, .unset, .unset] [(.ref b89)])) _
      refine XS.iconst X93.here hx rfl (hb hby at_113) ?_
      show Steps p.tables e below (T93.setTop (mkF m 114 #[.val (.int k1), .val (.int k2), .val (.int k3), .val (.int v4), .val (.int (2 : Int32)), .val (.int m96_l5), .val (.int v98), .val (.ref b89), .unset, .unset, .unset, .unset, .unset, .unset, .unset, .unset] [(.int (1 : Int32)), (.ref b89)])) _
      refine XS.iload X93.here hx rfl (hb hby at_114) rfl ?_
      show Steps p.tables e below (T93.setTop (mkF m 116 #[.val (.int k1), .val (.int k2), .val (.int k3), .val (.int v4), .val (.int (2 : Int32)), .val (.int m96_l5), .val (.int v98), .val (.ref b89), .unset, .unset, .unset, .unset, .unset, .unset, .unset, .unset] [(.int v98), (.int (1 : Int32)), (.ref b89)])) _
      refine st97 _ ?_
      show Steps p.tables e below (T97.setTop (mkF m 117 #[.val (.int k1), .val (.int k2), .val (.int k3), .val (.int v4), .val (.int (2 : Int32)), .val (.int m96_l5), .val (.int v98), .val (.ref b89), .unset, .unset, .unset, .unset, .unset, .unset, .unset, .unset] [])) _
      refine XS.aload X97.here hx rfl (hb hby at_117) rfl rfl ?_
      show Steps p.tables e below (T97.setTop (mkF m 119 #[.val (.int k1), .val (.int k2), .val (.int k3), .val (.int v4), .val (.int (2 : Int32)), .val (.int m96_l5), .val (.int v98), .val (.ref b89), .unset, .unset, .unset, .unset, .unset, .unset, .unset, .unset] [(.ref b89)])) _
      refine XS.iconst X97.here hx rfl (hb hby at_119) ?_
      show Steps p.tables e below (T97.setTop (mkF m 120 #[.val (.int k1), .val (.int k2), .val (.int k3), .val (.int v4), .val (.int (2 : Int32)), .val (.int m96_l5), .val (.int v98), .val (.ref b89), .unset, .unset, .unset, .unset, .unset, .unset, .unset, .unset] [(.int (2 : Int32)), (.ref b89)])) _
      refine XS.iload X97.here hx rfl (hb hby at_120) rfl ?_
      show Steps p.tables e below (T97.setTop (mkF m 122 #[.val (.int k1), .val (.int k2), .val (.int k3), .val (.int v4), .val (.int (2 : Int32)), .val (.int m96_l5), .val (.int v98), .val (.ref b89), .unset, .unset, .unset, .unset, .unset, .unset, .unset, .unset] [(.int v98), (.int (2 : Int32)), (.ref b89)])) _
      refine st101 _ ?_
      show Steps p.tables e below (T101.setTop (mkF m 123 #[.val (.int k1), .val (.int k2), .val (.int k3), .val (.int v4), .val (.int (2 : Int32)), .val (.int m96_l5), .val (.int v98), .val (.ref b89), .unset, .unset, .unset, .unset, .unset, .unset, .unset, .unset] [])) _
      refine XS.aload X101.here hx rfl (hb hby at_123) rfl rfl ?_
      show Steps p.tables e below (T101.setTop (mkF m 125 #[.val (.int k1), .val (.int k2), .val (.int k3), .val (.int v4), .val (.int (2 : Int32)), .val (.int m96_l5), .val (.int v98), .val (.ref b89), .unset, .unset, .unset, .unset, .unset, .unset, .unset, .unset] [(.ref b89)])) _
      refine XS.iconst X101.here hx rfl (hb hby at_125) ?_
      show Steps p.tables e below (T101.setTop (mkF m 126 #[.val (.int k1), .val (.int k2), .val (.int k3), .val (.int v4), .val (.int (2 : Int32)), .val (.int m96_l5), .val (.int v98), .val (.ref b89), .unset, .unset, .unset, .unset, .unset, .unset, .unset, .unset] [(.int (3 : Int32)), (.ref b89)])) _
      refine XS.iload X101.here hx rfl (hb hby at_126) rfl ?_
      show Steps p.tables e below (T101.setTop (mkF m 128 #[.val (.int k1), .val (.int k2), .val (.int k3), .val (.int v4), .val (.int (2 : Int32)), .val (.int m96_l5), .val (.int v98), .val (.ref b89), .unset, .unset, .unset, .unset, .unset, .unset, .unset, .unset] [(.int v98), (.int (3 : Int32)), (.ref b89)])) _
      refine st105 _ ?_
      show Steps p.tables e below (T105.setTop (mkF m 129 #[.val (.int k1), .val (.int k2), .val (.int k3), .val (.int v4), .val (.int (2 : Int32)), .val (.int m96_l5), .val (.int v98), .val (.ref b89), .unset, .unset, .unset, .unset, .unset, .unset, .unset, .unset] [])) _
      refine XS.iload X105.here hx rfl (hb hby at_129) rfl ?_
      show Steps p.tables e below (T105.setTop (mkF m 131 #[.val (.int k1), .val (.int k2), .val (.int k3), .val (.int v4), .val (.int (2 : Int32)), .val (.int m96_l5), .val (.int v98), .val (.ref b89), .unset, .unset, .unset, .unset, .unset, .unset, .unset, .unset] [(.int m96_l5)])) _
      refine XS.aload X105.here hx rfl (hb hby at_131) rfl rfl ?_
      show Steps p.tables e below (T105.setTop (mkF m 133 #[.val (.int k1), .val (.int k2), .val (.int k3), .val (.int v4), .val (.int (2 : Int32)), .val (.int m96_l5), .val (.int v98), .val (.ref b89), .unset, .unset, .unset, .unset, .unset, .unset, .unset, .unset] [(.ref b89), (.int m96_l5)])) _
      refine st109 _ ?_
      show Steps p.tables e below (T109.setTop (mkF m 136 #[.val (.int k1), .val (.int k2), .val (.int k3), .val (.int v4), .val (.int (2 : Int32)), .val (.int m96_l5), .val (.int v98), .val (.ref b89), .unset, .unset, .unset, .unset, .unset, .unset, .unset, .unset] [(.int (3 : Int32))])) _
      refine XS.istore X109.here hx rfl (hb hby at_136) rfl (l' := #[.val (.int k1), .val (.int k2), .val (.int k3), .val (.int v4), .val (.int (2 : Int32)), .val (.int m96_l5), .val (.int v98), .val (.ref b89), .val (.int (3 : Int32)), .unset, .unset, .unset, .unset, .unset, .unset, .unset]) rfl ?_
      show Steps p.tables e below (T109.setTop (mkF m 138 #[.val (.int k1), .val (.int k2), .val (.int k3), .val (.int v4), .val (.int (2 : Int32)), .val (.int m96_l5), .val (.int v98), .val (.ref b89), .val (.int (3 : Int32)), .unset, .unset, .unset, .unset, .unset, .unset, .unset] [])) _
      refine XS.iload X109.here hx rfl (hb hby at_138) rfl ?_
      show Steps p.tables e below (T109.setTop (mkF m 140 #[.val (.int k1), .val (.int k2), .val (.int k3), .val (.int v4), .val (.int (2 : Int32)), .val (.int m96_l5), .val (.int v98), .val (.ref b89), .val (.int (3 : Int32)), .unset, .unset, .unset, .unset, .unset, .unset, .unset] [(.int m96_l5)])) _
      refine XS.sipush X109.here hx rfl (hb hby at_140) ?_
      show Steps p.tables e below (T109.setTop (mkF m 143 #[.val (.int k1), .val (.int k2), .val (.int k3), .val (.int v4), .val (.int (2 : Int32)), .val (.int m96_l5), .val (.int v98), .val (.ref b89), .val (.int (3 : Int32)), .unset, .unset, .unset, .unset, .unset, .unset, .unset] [(.int (128 : Int32)), (.int m96_l5)])) _
      refine XS.icmpYes X109.here hx rfl (pc0 := 143) (pc' := 152) rfl (hb hby at_143) rfl (flt hp109_h1).2.1 (by decide) (by decide) ?_
      show Steps p.tables e below (T109.setTop (mkF m 152 #[.val (.int k1), .val (.int k2), .val (.int k3), .val (.int v4), .val (.int (2 : Int32)), .val (.int m96_l5), .val (.int v98), .val (.ref b89), .val (.int (3 : Int32)), .unset, .unset, .unset, .unset, .unset, .unset, .unset] [])) _
      refine XS.iload X109.here hx rfl (hb hby at_152) rfl ?_
      show Steps p.tables e below (T109.setTop (mkF m 154 #[.val (.int k1), .val (.int k2), .val (.int k3), .val (.int v4), .val (.int (2 : Int32)), .val (.int m96_l5), .val (.int v98), .val (.ref b89), .val (.int (3 : Int32)), .unset, .unset, .unset, .unset, .unset, .unset, .unset] [(.int m96_l5)])) _
      refine XS.sipush X109.here hx rfl (hb hby at_154) ?_
      show Steps p.tables e below (T109.setTop (mkF m 157 #[.val (.int k1), .val (.int k2), .val (.int k3), .val (.int v4), .val (.int (2 : Int32)), .val (.int m96_l5), .val (.int v98), .val (.ref b89), .val (.int (3 : Int32)), .unset, .unset, .unset, .unset, .unset, .unset, .unset] [(.int (2048 : Int32)), (.int m96_l5)])) _
      refine XS.icmpYes X109.here hx rfl (pc0 := 157) (pc' := 166) rfl (hb hby at_157) rfl (flt hp109_h2).2.1 (by decide) (by decide) ?_
      show Steps p.tables e below (T109.setTop (mkF m 166 #[.val (.int k1), .val (.int k2), .val (.int k3), .val (.int v4), .val (.int (2 : Int32)), .val (.int m96_l5), .val (.int v98), .val (.ref b89), .val (.int (3 : Int32)), .unset, .unset, .unset, .unset, .unset, .unset, .unset] [])) _
      refine XS.iload X109.here hx rfl (hb hby at_166) rfl ?_
      show Steps p.tables e below (T109.setTop (mkF m 168 #[.val (.int k1), .val (.int k2), .val (.int k3), .val (.int v4), .val (.int (2 : Int32)), .val (.int m96_l5), .val (.int v98), .val (.ref b89), .val (.int (3 : Int32)), .unset, .unset, .unset, .unset, .unset, .unset, .unset] [(.int m96_l5)])) _
      refine X109.ldcInt hx hown (mvT hZ (hw _ (List.mem_of_getElem? (i := 1) rfl))) (g := (mkF m 168 #[.val (.int k1), .val (.int k2), .val (.int k3), .val (.int v4), .val (.int (2 : Int32)), .val (.int m96_l5), .val (.int v98), .val (.ref b89), .val (.int (3 : Int32)), .unset, .unset, .unset, .unset, .unset, .unset, .unset] [(.int m96_l5)])) rfl (hb hby at_168) _ ?_
      show Steps p.tables e below (T109.setTop (mkF m 170 #[.val (.int k1), .val (.int k2), .val (.int k3), .val (.int v4), .val (.int (2 : Int32)), .val (.int m96_l5), .val (.int v98), .val (.ref b89), .val (.int (3 : Int32)), .unset, .unset, .unset, .unset, .unset, .unset, .unset] [(.int (65536 : Int32)), (.int m96_l5)])) _
      refine XS.icmpNo X109.here hx rfl (hb hby at_170) rfl (tlt hp109_h3).2.1 ?_
      show Steps p.tables e below (T109.setTop (mkF m 173 #[.val (.int k1), .val (.int k2), .val (.int k3), .val (.int v4), .val (.int (2 : Int32)), .val (.int m96_l5), .val (.int v98), .val (.ref b89), .val (.int (3 : Int32)), .unset, .unset, .unset, .unset, .unset, .unset, .unset] [])) _
      refine XS.iconst X109.here hx rfl (hb hby at_173) ?_
      show Steps p.tables e below (T109.setTop (mkF m 174 #[.val (.int k1), .val (.int k2), .val (.int k3), .val (.int v4), .val (.int (2 : Int32)), .val (.int m96_l5), .val (.int v98), .val (.ref b89), .val (.int (3 : Int32)), .unset, .unset, .unset, .unset, .unset, .unset, .unset] [(.int (3 : Int32))])) _
      refine XS.istore X109.here hx rfl (hb hby at_174) rfl (l' := #[.val (.int k1), .val (.int k2), .val (.int k3), .val (.int v4), .val (.int (2 : Int32)), .val (.int m96_l5), .val (.int v98), .val (.ref b89), .val (.int (3 : Int32)), .val (.int (3 : Int32)), .unset, .unset, .unset, .unset, .unset, .unset]) rfl ?_
      show Steps p.tables e below (T109.setTop (mkF m 176 #[.val (.int k1), .val (.int k2), .val (.int k3), .val (.int v4), .val (.int (2 : Int32)), .val (.int m96_l5), .val (.int v98), .val (.ref b89), .val (.int (3 : Int32)), .val (.int (3 : Int32)), .unset, .unset, .unset, .unset, .unset, .unset] [])) _
      refine XS.goto X109.here hx rfl (pc0 := 176) (pc' := 182) rfl (hb hby at_176) (by decide) (by decide) ?_
      show Steps p.tables e below (T109.setTop (mkF m 182 #[.val (.int k1), .val (.int k2), .val (.int k3), .val (.int v4), .val (.int (2 : Int32)), .val (.int m96_l5), .val (.int v98), .val (.ref b89), .val (.int (3 : Int32)), .val (.int (3 : Int32)), .unset, .unset, .unset, .unset, .unset, .unset] [])) _
      refine XS.iload X109.here hx rfl (hb hby at_182) rfl ?_
      show Steps p.tables e below (T109.setTop (mkF m 184 #[.val (.int k1), .val (.int k2), .val (.int k3), .val (.int v4), .val (.int (2 : Int32)), .val (.int m96_l5), .val (.int v98), .val (.ref b89), .val (.int (3 : Int32)), .val (.int (3 : Int32)), .unset, .unset, .unset, .unset, .unset, .unset] [(.int (3 : Int32))])) _
      refine XS.iload X109.here hx rfl (hb hby at_184) rfl ?_
      show Steps p.tables e below (T109.setTop (mkF m 186 #[.val (.int k1), .val (.int k2), .val (.int k3), .val (.int v4), .val (.int (2 : Int32)), .val (.int m96_l5), .val (.int v98), .val (.ref b89), .val (.int (3 : Int32)), .val (.int (3 : Int32)), .unset, .unset, .unset, .unset, .unset, .unset] [(.int (3 : Int32)), (.int (3 : Int32))])) _
      refine XS.icmpYes X109.here hx rfl (pc0 := 186) (pc' := 191) rfl (hb hby at_186) rfl (teq rfl).1 (by decide) (by decide) ?_
      show Steps p.tables e below (T109.setTop (mkF m 191 #[.val (.int k1), .val (.int k2), .val (.int k3), .val (.int v4), .val (.int (2 : Int32)), .val (.int m96_l5), .val (.int v98), .val (.ref b89), .val (.int (3 : Int32)), .val (.int (3 : Int32)), .unset, .unset, .unset, .unset, .unset, .unset] [])) _
      refine XS.aload X109.here hx rfl (hb hby at_191) rfl rfl ?_
      show Steps p.tables e below (T109.setTop (mkF m 193 #[.val (.int k1), .val (.int k2), .val (.int k3), .val (.int v4), .val (.int (2 : Int32)), .val (.int m96_l5), .val (.int v98), .val (.ref b89), .val (.int (3 : Int32)), .val (.int (3 : Int32)), .unset, .unset, .unset, .unset, .unset, .unset] [(.ref b89)])) _
      refine XS.iconst X109.here hx rfl (hb hby at_193) ?_
      show Steps p.tables e below (T109.setTop (mkF m 194 #[.val (.int k1), .val (.int k2), .val (.int k3), .val (.int v4), .val (.int (2 : Int32)), .val (.int m96_l5), .val (.int v98), .val (.ref b89), .val (.int (3 : Int32)), .val (.int (3 : Int32)), .unset, .unset, .unset, .unset, .unset, .unset] [(.int (0 : Int32)), (.ref b89)])) _
      refine X109.baloadBytes hx (j := (0 : Int32)) (v := (.int (nar .byte (((224 : Int32) ||| (m96_l5 >>> ((12 : Int32) &&& 31))).toInt8.toInt32)))) (heq_of rfl Ar113.1) (State.isArrayOf_alike hZ.alike Ar113.2.1) Ar113.2.2 hin113 hat113 (g := (mkF m 194 #[.val (.int k1), .val (.int k2), .val (.int k3), .val (.int v4), .val (.int (2 : Int32)), .val (.int m96_l5), .val (.int v98), .val (.ref b89), .val (.int (3 : Int32)), .val (.int (3 : Int32)), .unset, .unset, .unset, .unset, .unset, .unset] [(.int (0 : Int32)), (.ref b89)])) rfl rfl (hb hby at_194) _ ?_
      show Steps p.tables e below (T109.setTop (mkF m 195 #[.val (.int k1), .val (.int k2), .val (.int k3), .val (.int v4), .val (.int (2 : Int32)), .val (.int m96_l5), .val (.int v98), .val (.ref b89), .val (.int (3 : Int32)), .val (.int (3 : Int32)), .unset, .unset, .unset, .unset, .unset, .unset] [(.int (nar .byte (((224 : Int32) ||| (m96_l5 >>> ((12 : Int32) &&& 31))).toInt8.toInt32)))])) _
      refine XS.sipush X109.here hx rfl (hb hby at_195) ?_
      show Steps p.tables e below (T109.setTop (mkF m 198 #[.val (.int k1), .val (.int k2), .val (.int k3), .val (.int v4), .val (.int (2 : Int32)), .val (.int m96_l5), .val (.int v98), .val (.ref b89), .val (.int (3 : Int32)), .val (.int (3 : Int32)), .unset, .unset, .unset, .unset, .unset, .unset] [(.int (255 : Int32)), (.int (nar .byte (((224 : Int32) ||| (m96_l5 >>> ((12 : Int32) &&& 31))).toInt8.toInt32)))])) _
      refine XS.iand X109.here hx rfl (hb hby at_198) rfl ?_
      show Steps p.tables e below (T109.setTop (mkF m 199 #[.val (.int k1), .val (.int k2), .val (.int k3), .val (.int v4), .val (.int (2 : Int32)), .val (.int m96_l5), .val (.int v98), .val (.ref b89), .val (.int (3 : Int32)), .val (.int (3 : Int32)), .unset, .unset, .unset, .unset, .unset, .unset] [(.int ((nar .byte (((224 : Int32) ||| (m96_l5 >>> ((12 : Int32) &&& 31))).toInt8.toInt32)) &&& (255 : Int32)))])) _
      refine XS.istore X109.here hx rfl (hb hby at_199) rfl (l' := #[.val (.int k1), .val (.int k2), .val (.int k3), .val (.int v4), .val (.int (2 : Int32)), .val (.int m96_l5), .val (.int v98), .val (.ref b89), .val (.int (3 : Int32)), .val (.int (3 : Int32)), .val (.int v199), .unset, .unset, .unset, .unset, .unset]) (by rw [hv199]; rfl) ?_
      show Steps p.tables e below (T109.setTop (mkF m 201 #[.val (.int k1), .val (.int k2), .val (.int k3), .val (.int v4), .val (.int (2 : Int32)), .val (.int m96_l5), .val (.int v98), .val (.ref b89), .val (.int (3 : Int32)), .val (.int (3 : Int32)), .val (.int v199), .unset, .unset, .unset, .unset, .unset] [])) _
      refine XS.aload X109.here hx rfl (hb hby at_201) rfl rfl ?_
      show Steps p.tables e below (T109.setTop (mkF m 203 #[.val (.int k1), .val (.int k2), .val (.int k3), .val (.int v4), .val (.int (2 : Int32)), .val (.int m96_l5), .val (.int v98), .val (.ref b89), .val (.int (3 : Int32)), .val (.int (3 : Int32)), .val (.int v199), .unset, .unset, .unset, .unset, .unset] [(.ref b89)])) _
      refine XS.iconst X109.here hx rfl (hb hby at_203) ?_
      show Steps p.tables e below (T109.setTop (mkF m 204 #[.val (.int k1), .val (.int k2), .val (.int k3), .val (.int v4), .val (.int (2 : Int32)), .val (.int m96_l5), .val (.int v98), .val (.ref b89), .val (.int (3 : Int32)), .val (.int (3 : Int32)), .val (.int v199), .unset, .unset, .unset, .unset, .unset] [(.int (1 : Int32)), (.ref b89)])) _
      refine X109.baloadBytes hx (j := (1 : Int32)) (v := (.int (nar .byte (((128 : Int32) ||| ((m96_l5 >>> ((6 : Int32) &&& 31)) &&& (63 : Int32))).toInt8.toInt32)))) (heq_of rfl Ar114.1) (State.isArrayOf_alike hZ.alike Ar114.2.1) Ar114.2.2 hin114 hat114 (g := (mkF m 204 #[.val (.int k1), .val (.int k2), .val (.int k3), .val (.int v4), .val (.int (2 : Int32)), .val (.int m96_l5), .val (.int v98), .val (.ref b89), .val (.int (3 : Int32)), .val (.int (3 : Int32)), .val (.int v199), .unset, .unset, .unset, .unset, .unset] [(.int (1 : Int32)), (.ref b89)])) rfl rfl (hb hby at_204) _ ?_
      show Steps p.tables e below (T109.setTop (mkF m 205 #[.val (.int k1), .val (.int k2), .val (.int k3), .val (.int v4), .val (.int (2 : Int32)), .val (.int m96_l5), .val (.int v98), .val (.ref b89), .val (.int (3 : Int32)), .val (.int (3 : Int32)), .val (.int v199), .unset, .unset, .unset, .unset, .unset] [(.int (nar .byte (((128 : Int32) ||| ((m96_l5 >>> ((6 : Int32) &&& 31)) &&& (63 : Int32))).toInt8.toInt32)))])) _
      refine XS.sipush X109.here hx rfl (hb hby at_205) ?_
      show Steps p.tables e below (T109.setTop (mkF m 208 #[.val (.int k1), .val (.int k2), .val (.int k3), .val (.int v4), .val (.int (2 : Int32)), .val (.int m96_l5), .val (.int v98), .val (.ref b89), .val (.int (3 : Int32)), .val (.int (3 : Int32)), .val (.int v199), .unset, .unset, .unset, .unset, .unset] [(.int (255 : Int32)), (.int (nar .byte (((128 : Int32) ||| ((m96_l5 >>> ((6 : Int32) &&& 31)) &&& (63 : Int32))).toInt8.toInt32)))])) _
      refine XS.iand X109.here hx rfl (hb hby at_208) rfl ?_
      show Steps p.tables e below (T109.setTop (mkF m 209 #[.val (.int k1), .val (.int k2), .val (.int k3), .val (.int v4), .val (.int (2 : Int32)), .val (.int m96_l5), .val (.int v98), .val (.ref b89), .val (.int (3 : Int32)), .val (.int (3 : Int32)), .val (.int v199), .unset, .unset, .unset, .unset, .unset] [(.int ((nar .byte (((128 : Int32) ||| ((m96_l5 >>> ((6 : Int32) &&& 31)) &&& (63 : Int32))).toInt8.toInt32)) &&& (255 : Int32)))])) _
      refine XS.istore X109.here hx rfl (hb hby at_209) rfl (l' := #[.val (.int k1), .val (.int k2), .val (.int k3), .val (.int v4), .val (.int (2 : Int32)), .val (.int m96_l5), .val (.int v98), .val (.ref b89), .val (.int (3 : Int32)), .val (.int (3 : Int32)), .val (.int v199), .val (.int v209), .unset, .unset, .unset, .unset]) (by rw [hv209]; rfl) ?_
      show Steps p.tables e below (T109.setTop (mkF m 211 #[.val (.int k1), .val (.int k2), .val (.int k3), .val (.int v4), .val (.int (2 : Int32)), .val (.int m96_l5), .val (.int v98), .val (.ref b89), .val (.int (3 : Int32)), .val (.int (3 : Int32)), .val (.int v199), .val (.int v209), .unset, .unset, .unset, .unset] [])) _
      refine XS.aload X109.here hx rfl (hb hby at_211) rfl rfl ?_
      show Steps p.tables e below (T109.setTop (mkF m 213 #[.val (.int k1), .val (.int k2), .val (.int k3), .val (.int v4), .val (.int (2 : Int32)), .val (.int m96_l5), .val (.int v98), .val (.ref b89), .val (.int (3 : Int32)), .val (.int (3 : Int32)), .val (.int v199), .val (.int v209), .unset, .unset, .unset, .unset] [(.ref b89)])) _
      refine XS.iconst X109.here hx rfl (hb hby at_213) ?_
      show Steps p.tables e below (T109.setTop (mkF m 214 #[.val (.int k1), .val (.int k2), .val (.int k3), .val (.int v4), .val (.int (2 : Int32)), .val (.int m96_l5), .val (.int v98), .val (.ref b89), .val (.int (3 : Int32)), .val (.int (3 : Int32)), .val (.int v199), .val (.int v209), .unset, .unset, .unset, .unset] [(.int (2 : Int32)), (.ref b89)])) _
      refine X109.baloadBytes hx (j := (2 : Int32)) (v := (.int (nar .byte (((128 : Int32) ||| (m96_l5 &&& (63 : Int32))).toInt8.toInt32)))) (heq_of rfl Ar115.1) (State.isArrayOf_alike hZ.alike Ar115.2.1) Ar115.2.2 hin115 hat115 (g := (mkF m 214 #[.val (.int k1), .val (.int k2), .val (.int k3), .val (.int v4), .val (.int (2 : Int32)), .val (.int m96_l5), .val (.int v98), .val (.ref b89), .val (.int (3 : Int32)), .val (.int (3 : Int32)), .val (.int v199), .val (.int v209), .unset, .unset, .unset, .unset] [(.int (2 : Int32)), (.ref b89)])) rfl rfl (hb hby at_214) _ ?_
      show Steps p.tables e below (T109.setTop (mkF m 215 #[.val (.int k1), .val (.int k2), .val (.int k3), .val (.int v4), .val (.int (2 : Int32)), .val (.int m96_l5), .val (.int v98), .val (.ref b89), .val (.int (3 : Int32)), .val (.int (3 : Int32)), .val (.int v199), .val (.int v209), .unset, .unset, .unset, .unset] [(.int (nar .byte (((128 : Int32) ||| (m96_l5 &&& (63 : Int32))).toInt8.toInt32)))])) _
      refine XS.sipush X109.here hx rfl (hb hby at_215) ?_
      show Steps p.tables e below (T109.setTop (mkF m 218 #[.val (.int k1), .val (.int k2), .val (.int k3), .val (.int v4), .val (.int (2 : Int32)), .val (.int m96_l5), .val (.int v98), .val (.ref b89), .val (.int (3 : Int32)), .val (.int (3 : Int32)), .val (.int v199), .val (.int v209), .unset, .unset, .unset, .unset] [(.int (255 : Int32)), (.int (nar .byte (((128 : Int32) ||| (m96_l5 &&& (63 : Int32))).toInt8.toInt32)))])) _
      refine XS.iand X109.here hx rfl (hb hby at_218) rfl ?_
      show Steps p.tables e below (T109.setTop (mkF m 219 #[.val (.int k1), .val (.int k2), .val (.int k3), .val (.int v4), .val (.int (2 : Int32)), .val (.int m96_l5), .val (.int v98), .val (.ref b89), .val (.int (3 : Int32)), .val (.int (3 : Int32)), .val (.int v199), .val (.int v209), .unset, .unset, .unset, .unset] [(.int ((nar .byte (((128 : Int32) ||| (m96_l5 &&& (63 : Int32))).toInt8.toInt32)) &&& (255 : Int32)))])) _
      refine XS.istore X109.here hx rfl (hb hby at_219) rfl (l' := #[.val (.int k1), .val (.int k2), .val (.int k3), .val (.int v4), .val (.int (2 : Int32)), .val (.int m96_l5), .val (.int v98), .val (.ref b89), .val (.int (3 : Int32)), .val (.int (3 : Int32)), .val (.int v199), .val (.int v209), .val (.int v219), .unset, .unset, .unset]) (by rw [hv219]; rfl) ?_
      show Steps p.tables e below (T109.setTop (mkF m 221 #[.val (.int k1), .val (.int k2), .val (.int k3), .val (.int v4), .val (.int (2 : Int32)), .val (.int m96_l5), .val (.int v98), .val (.ref b89), .val (.int (3 : Int32)), .val (.int (3 : Int32)), .val (.int v199), .val (.int v209), .val (.int v219), .unset, .unset, .unset] [])) _
      refine XS.aload X109.here hx rfl (hb hby at_221) rfl rfl ?_
      show Steps p.tables e below (T109.setTop (mkF m 223 #[.val (.int k1), .val (.int k2), .val (.int k3), .val (.int v4), .val (.int (2 : Int32)), .val (.int m96_l5), .val (.int v98), .val (.ref b89), .val (.int (3 : Int32)), .val (.int (3 : Int32)), .val (.int v199), .val (.int v209), .val (.int v219), .unset, .unset, .unset] [(.ref b89)])) _
      refine XS.iconst X109.here hx rfl (hb hby at_223) ?_
      show Steps p.tables e below (T109.setTop (mkF m 224 #[.val (.int k1), .val (.int k2), .val (.int k3), .val (.int v4), .val (.int (2 : Int32)), .val (.int m96_l5), .val (.int v98), .val (.ref b89), .val (.int (3 : Int32)), .val (.int (3 : Int32)), .val (.int v199), .val (.int v209), .val (.int v219), .unset, .unset, .unset] [(.int (3 : Int32)), (.ref b89)])) _
      refine X109.baloadBytes hx (j := (3 : Int32)) (v := (.int (nar .byte v98))) (heq_of rfl Ar116.1) (State.isArrayOf_alike hZ.alike Ar116.2.1) Ar116.2.2 hin116 hat116 (g := (mkF m 224 #[.val (.int k1), .val (.int k2), .val (.int k3), .val (.int v4), .val (.int (2 : Int32)), .val (.int m96_l5), .val (.int v98), .val (.ref b89), .val (.int (3 : Int32)), .val (.int (3 : Int32)), .val (.int v199), .val (.int v209), .val (.int v219), .unset, .unset, .unset] [(.int (3 : Int32)), (.ref b89)])) rfl rfl (hb hby at_224) _ ?_
      show Steps p.tables e below (T109.setTop (mkF m 225 #[.val (.int k1), .val (.int k2), .val (.int k3), .val (.int v4), .val (.int (2 : Int32)), .val (.int m96_l5), .val (.int v98), .val (.ref b89), .val (.int (3 : Int32)), .val (.int (3 : Int32)), .val (.int v199), .val (.int v209), .val (.int v219), .unset, .unset, .unset] [(.int (nar .byte v98))])) _
      refine XS.sipush X109.here hx rfl (hb hby at_225) ?_
      show Steps p.tables e below (T109.setTop (mkF m 228 #[.val (.int k1), .val (.int k2), .val (.int k3), .val (.int v4), .val (.int (2 : Int32)), .val (.int m96_l5), .val (.int v98), .val (.ref b89), .val (.int (3 : Int32)), .val (.int (3 : Int32)), .val (.int v199), .val (.int v209), .val (.int v219), .unset, .unset, .unset] [(.int (255 : Int32)), (.int (nar .byte v98))])) _
      refine XS.iand X109.here hx rfl (hb hby at_228) rfl ?_
      show Steps p.tables e below (T109.setTop (mkF m 229 #[.val (.int k1), .val (.int k2), .val (.int k3), .val (.int v4), .val (.int (2 : Int32)), .val (.int m96_l5), .val (.int v98), .val (.ref b89), .val (.int (3 : Int32)), .val (.int (3 : Int32)), .val (.int v199), .val (.int v209), .val (.int v219), .unset, .unset, .unset] [(.int ((nar .byte v98) &&& (255 : Int32)))])) _
      refine XS.istore X109.here hx rfl (hb hby at_229) rfl (l' := #[.val (.int k1), .val (.int k2), .val (.int k3), .val (.int v4), .val (.int (2 : Int32)), .val (.int m96_l5), .val (.int v98), .val (.ref b89), .val (.int (3 : Int32)), .val (.int (3 : Int32)), .val (.int v199), .val (.int v209), .val (.int v219), .val (.int v229), .unset, .unset]) (by rw [hv229]; rfl) ?_
      show Steps p.tables e below (T109.setTop (mkF m 231 #[.val (.int k1), .val (.int k2), .val (.int k3), .val (.int v4), .val (.int (2 : Int32)), .val (.int m96_l5), .val (.int v98), .val (.ref b89), .val (.int (3 : Int32)), .val (.int (3 : Int32)), .val (.int v199), .val (.int v209), .val (.int v219), .val (.int v229), .unset, .unset] [])) _
      refine XS.iload X109.here hx rfl (hb hby at_231) rfl ?_
      show Steps p.tables e below (T109.setTop (mkF m 233 #[.val (.int k1), .val (.int k2), .val (.int k3), .val (.int v4), .val (.int (2 : Int32)), .val (.int m96_l5), .val (.int v98), .val (.ref b89), .val (.int (3 : Int32)), .val (.int (3 : Int32)), .val (.int v199), .val (.int v209), .val (.int v219), .val (.int v229), .unset, .unset] [(.int (3 : Int32))])) _
      refine XS.iconst X109.here hx rfl (hb hby at_233) ?_
      show Steps p.tables e below (T109.setTop (mkF m 234 #[.val (.int k1), .val (.int k2), .val (.int k3), .val (.int v4), .val (.int (2 : Int32)), .val (.int m96_l5), .val (.int v98), .val (.ref b89), .val (.int (3 : Int32)), .val (.int (3 : Int32)), .val (.int v199), .val (.int v209), .val (.int v219), .val (.int v229), .unset, .unset] [(.int (1 : Int32)), (.int (3 : Int32))])) _
      refine XS.icmpYes X109.here hx rfl (pc0 := 234) (pc' := 254) rfl (hb hby at_234) rfl (feq (by decide)).2 (by decide) (by decide) ?_
      show Steps p.tables e below (T109.setTop (mkF m 254 #[.val (.int k1), .val (.int k2), .val (.int k3), .val (.int v4), .val (.int (2 : Int32)), .val (.int m96_l5), .val (.int v98), .val (.ref b89), .val (.int (3 : Int32)), .val (.int (3 : Int32)), .val (.int v199), .val (.int v209), .val (.int v219), .val (.int v229), .unset, .unset] [])) _
      refine XS.iload X109.here hx rfl (hb hby at_254) rfl ?_
      show Steps p.tables e below (T109.setTop (mkF m 256 #[.val (.int k1), .val (.int k2), .val (.int k3), .val (.int v4), .val (.int (2 : Int32)), .val (.int m96_l5), .val (.int v98), .val (.ref b89), .val (.int (3 : Int32)), .val (.int (3 : Int32)), .val (.int v199), .val (.int v209), .val (.int v219), .val (.int v229), .unset, .unset] [(.int (3 : Int32))])) _
      refine XS.iconst X109.here hx rfl (hb hby at_256) ?_
      show Steps p.tables e below (T109.setTop (mkF m 257 #[.val (.int k1), .val (.int k2), .val (.int k3), .val (.int v4), .val (.int (2 : Int32)), .val (.int m96_l5), .val (.int v98), .val (.ref b89), .val (.int (3 : Int32)), .val (.int (3 : Int32)), .val (.int v199), .val (.int v209), .val (.int v219), .val (.int v229), .unset, .unset] [(.int (2 : Int32)), (.int (3 : Int32))])) _
      refine XS.icmpYes X109.here hx rfl (pc0 := 257) (pc' := 313) rfl (hb hby at_257) rfl (feq (by decide)).2 (by decide) (by decide) ?_
      show Steps p.tables e below (T109.setTop (mkF m 313 #[.val (.int k1), .val (.int k2), .val (.int k3), .val (.int v4), .val (.int (2 : Int32)), .val (.int m96_l5), .val (.int v98), .val (.ref b89), .val (.int (3 : Int32)), .val (.int (3 : Int32)), .val (.int v199), .val (.int v209), .val (.int v219), .val (.int v229), .unset, .unset] [])) _
      refine XS.iload X109.here hx rfl (hb hby at_313) rfl ?_
      show Steps p.tables e below (T109.setTop (mkF m 315 #[.val (.int k1), .val (.int k2), .val (.int k3), .val (.int v4), .val (.int (2 : Int32)), .val (.int m96_l5), .val (.int v98), .val (.ref b89), .val (.int (3 : Int32)), .val (.int (3 : Int32)), .val (.int v199), .val (.int v209), .val (.int v219), .val (.int v229), .unset, .unset] [(.int (3 : Int32))])) _
      refine XS.iconst X109.here hx rfl (hb hby at_315) ?_
      show Steps p.tables e below (T109.setTop (mkF m 316 #[.val (.int k1), .val (.int k2), .val (.int k3), .val (.int v4), .val (.int (2 : Int32)), .val (.int m96_l5), .val (.int v98), .val (.ref b89), .val (.int (3 : Int32)), .val (.int (3 : Int32)), .val (.int v199), .val (.int v209), .val (.int v219), .val (.int v229), .unset, .unset] [(.int (3 : Int32)), (.int (3 : Int32))])) _
      refine XS.icmpNo X109.here hx rfl (hb hby at_316) rfl (teq rfl).2 ?_
      show Steps p.tables e below (T109.setTop (mkF m 319 #[.val (.int k1), .val (.int k2), .val (.int k3), .val (.int v4), .val (.int (2 : Int32)), .val (.int m96_l5), .val (.int v98), .val (.ref b89), .val (.int (3 : Int32)), .val (.int (3 : Int32)), .val (.int v199), .val (.int v209), .val (.int v219), .val (.int v229), .unset, .unset] [])) _
      refine XS.iload X109.here hx rfl (hb hby at_319) rfl ?_
      show Steps p.tables e below (T109.setTop (mkF m 321 #[.val (.int k1), .val (.int k2), .val (.int k3), .val (.int v4), .val (.int (2 : Int32)), .val (.int m96_l5), .val (.int v98), .val (.ref b89), .val (.int (3 : Int32)), .val (.int (3 : Int32)), .val (.int v199), .val (.int v209), .val (.int v219), .val (.int v229), .unset, .unset] [(.int v199)])) _
      refine XS.sipush X109.here hx rfl (hb hby at_321) ?_
      show Steps p.tables e below (T109.setTop (mkF m 324 #[.val (.int k1), .val (.int k2), .val (.int k3), .val (.int v4), .val (.int (2 : Int32)), .val (.int m96_l5), .val (.int v98), .val (.ref b89), .val (.int (3 : Int32)), .val (.int (3 : Int32)), .val (.int v199), .val (.int v209), .val (.int v219), .val (.int v229), .unset, .unset] [(.int (240 : Int32)), (.int v199)])) _
      refine XS.iand X109.here hx rfl (hb hby at_324) rfl ?_
      show Steps p.tables e below (T109.setTop (mkF m 325 #[.val (.int k1), .val (.int k2), .val (.int k3), .val (.int v4), .val (.int (2 : Int32)), .val (.int m96_l5), .val (.int v98), .val (.ref b89), .val (.int (3 : Int32)), .val (.int (3 : Int32)), .val (.int v199), .val (.int v209), .val (.int v219), .val (.int v229), .unset, .unset] [(.int (v199 &&& (240 : Int32)))])) _
      refine XS.sipush X109.here hx rfl (hb hby at_325) ?_
      by_cases d117 : (v199 &&& (240 : Int32)) = (224 : Int32)
      · skip
        show Steps p.tables e below (T109.setTop (mkF m 328 #[.val (.int k1), .val (.int k2), .val (.int k3), .val (.int v4), .val (.int (2 : Int32)), .val (.int m96_l5), .val (.int v98), .val (.ref b89), .val (.int (3 : Int32)), .val (.int (3 : Int32)), .val (.int v199), .val (.int v209), .val (.int v219), .val (.int v229), .unset, .unset] [(.int (224 : Int32)), (.int (v199 &&& (240 : Int32)))])) _
        refine XS.icmpNo X109.here hx rfl (hb hby at_328) rfl (teq d117).2 ?_
        show Steps p.tables e below (T109.setTop (mkF m 331 #[.val (.int k1), .val (.int k2), .val (.int k3), .val (.int v4), .val (.int (2 : Int32)), .val (.int m96_l5), .val (.int v98), .val (.ref b89), .val (.int (3 : Int32)), .val (.int (3 : Int32)), .val (.int v199), .val (.int v209), .val (.int v219), .val (.int v229), .unset, .unset] [])) _
        refine XS.iload X109.here hx rfl (hb hby at_331) rfl ?_
        show Steps p.tables e below (T109.setTop (mkF m 333 #[.val (.int k1), .val (.int k2), .val (.int k3), .val (.int v4), .val (.int (2 : Int32)), .val (.int m96_l5), .val (.int v98), .val (.ref b89), .val (.int (3 : Int32)), .val (.int (3 : Int32)), .val (.int v199), .val (.int v209), .val (.int v219), .val (.int v229), .unset, .unset] [(.int v209)])) _
        refine XS.sipush X109.here hx rfl (hb hby at_333) ?_
        show Steps p.tables e below (T109.setTop (mkF m 336 #[.val (.int k1), .val (.int k2), .val (.int k3), .val (.int v4), .val (.int (2 : Int32)), .val (.int m96_l5), .val (.int v98), .val (.ref b89), .val (.int (3 : Int32)), .val (.int (3 : Int32)), .val (.int v199), .val (.int v209), .val (.int v219), .val (.int v229), .unset, .unset] [(.int (192 : Int32)), (.int v209)])) _
        refine XS.iand X109.here hx rfl (hb hby at_336) rfl ?_
        show Steps p.tables e below (T109.setTop (mkF m 337 #[.val (.int k1), .val (.int k2), .val (.int k3), .val (.int v4), .val (.int (2 : Int32)), .val (.int m96_l5), .val (.int v98), .val (.ref b89), .val (.int (3 : Int32)), .val (.int (3 : Int32)), .val (.int v199), .val (.int v209), .val (.int v219), .val (.int v229), .unset, .unset] [(.int (v209 &&& (192 : Int32)))])) _
        refine XS.sipush X109.here hx rfl (hb hby at_337) ?_
        by_cases d118 : (v209 &&& (192 : Int32)) = (128 : Int32)
        · skip
          show Steps p.tables e below (T109.setTop (mkF m 340 #[.val (.int k1), .val (.int k2), .val (.int k3), .val (.int v4), .val (.int (2 : Int32)), .val (.int m96_l5), .val (.int v98), .val (.ref b89), .val (.int (3 : Int32)), .val (.int (3 : Int32)), .val (.int v199), .val (.int v209), .val (.int v219), .val (.int v229), .unset, .unset] [(.int (128 : Int32)), (.int (v209 &&& (192 : Int32)))])) _
          refine XS.icmpNo X109.here hx rfl (hb hby at_340) rfl (teq d118).2 ?_
          show Steps p.tables e below (T109.setTop (mkF m 343 #[.val (.int k1), .val (.int k2), .val (.int k3), .val (.int v4), .val (.int (2 : Int32)), .val (.int m96_l5), .val (.int v98), .val (.ref b89), .val (.int (3 : Int32)), .val (.int (3 : Int32)), .val (.int v199), .val (.int v209), .val (.int v219), .val (.int v229), .unset, .unset] [])) _
          refine XS.iload X109.here hx rfl (hb hby at_343) rfl ?_
          show Steps p.tables e below (T109.setTop (mkF m 345 #[.val (.int k1), .val (.int k2), .val (.int k3), .val (.int v4), .val (.int (2 : Int32)), .val (.int m96_l5), .val (.int v98), .val (.ref b89), .val (.int (3 : Int32)), .val (.int (3 : Int32)), .val (.int v199), .val (.int v209), .val (.int v219), .val (.int v229), .unset, .unset] [(.int v219)])) _
          refine XS.sipush X109.here hx rfl (hb hby at_345) ?_
          show Steps p.tables e below (T109.setTop (mkF m 348 #[.val (.int k1), .val (.int k2), .val (.int k3), .val (.int v4), .val (.int (2 : Int32)), .val (.int m96_l5), .val (.int v98), .val (.ref b89), .val (.int (3 : Int32)), .val (.int (3 : Int32)), .val (.int v199), .val (.int v209), .val (.int v219), .val (.int v229), .unset, .unset] [(.int (192 : Int32)), (.int v219)])) _
          refine XS.iand X109.here hx rfl (hb hby at_348) rfl ?_
          show Steps p.tables e below (T109.setTop (mkF m 349 #[.val (.int k1), .val (.int k2), .val (.int k3), .val (.int v4), .val (.int (2 : Int32)), .val (.int m96_l5), .val (.int v98), .val (.ref b89), .val (.int (3 : Int32)), .val (.int (3 : Int32)), .val (.int v199), .val (.int v209), .val (.int v219), .val (.int v229), .unset, .unset] [(.int (v219 &&& (192 : Int32)))])) _
          refine XS.sipush X109.here hx rfl (hb hby at_349) ?_
          by_cases d119 : (v219 &&& (192 : Int32)) = (128 : Int32)
          · skip
            show Steps p.tables e below (T109.setTop (mkF m 352 #[.val (.int k1), .val (.int k2), .val (.int k3), .val (.int v4), .val (.int (2 : Int32)), .val (.int m96_l5), .val (.int v98), .val (.ref b89), .val (.int (3 : Int32)), .val (.int (3 : Int32)), .val (.int v199), .val (.int v209), .val (.int v219), .val (.int v229), .unset, .unset] [(.int (128 : Int32)), (.int (v219 &&& (192 : Int32)))])) _
            refine XS.icmpNo X109.here hx rfl (hb hby at_352) rfl (teq d119).2 ?_
            show Steps p.tables e below (T109.setTop (mkF m 355 #[.val (.int k1), .val (.int k2), .val (.int k3), .val (.int v4), .val (.int (2 : Int32)), .val (.int m96_l5), .val (.int v98), .val (.ref b89), .val (.int (3 : Int32)), .val (.int (3 : Int32)), .val (.int v199), .val (.int v209), .val (.int v219), .val (.int v229), .unset, .unset] [])) _
            refine XS.iload X109.here hx rfl (hb hby at_355) rfl ?_
            show Steps p.tables e below (T109.setTop (mkF m 357 #[.val (.int k1), .val (.int k2), .val (.int k3), .val (.int v4), .val (.int (2 : Int32)), .val (.int m96_l5), .val (.int v98), .val (.ref b89), .val (.int (3 : Int32)), .val (.int (3 : Int32)), .val (.int v199), .val (.int v209), .val (.int v219), .val (.int v229), .unset, .unset] [(.int v199)])) _
            refine XS.bipush X109.here hx rfl (hb hby at_357) ?_
            show Steps p.tables e below (T109.setTop (mkF m 359 #[.val (.int k1), .val (.int k2), .val (.int k3), .val (.int v4), .val (.int (2 : Int32)), .val (.int m96_l5), .val (.int v98), .val (.ref b89), .val (.int (3 : Int32)), .val (.int (3 : Int32)), .val (.int v199), .val (.int v209), .val (.int v219), .val (.int v229), .unset, .unset] [(.int (15 : Int32)), (.int v199)])) _
            refine XS.iand X109.here hx rfl (hb hby at_359) rfl ?_
            show Steps p.tables e below (T109.setTop (mkF m 360 #[.val (.int k1), .val (.int k2), .val (.int k3), .val (.int v4), .val (.int (2 : Int32)), .val (.int m96_l5), .val (.int v98), .val (.ref b89), .val (.int (3 : Int32)), .val (.int (3 : Int32)), .val (.int v199), .val (.int v209), .val (.int v219), .val (.int v229), .unset, .unset] [(.int (v199 &&& (15 : Int32)))])) _
            refine XS.bipush X109.here hx rfl (hb hby at_360) ?_
            show Steps p.tables e below (T109.setTop (mkF m 362 #[.val (.int k1), .val (.int k2), .val (.int k3), .val (.int v4), .val (.int (2 : Int32)), .val (.int m96_l5), .val (.int v98), .val (.ref b89), .val (.int (3 : Int32)), .val (.int (3 : Int32)), .val (.int v199), .val (.int v209), .val (.int v219), .val (.int v229), .unset, .unset] [(.int (12 : Int32)), (.int (v199 &&& (15 : Int32)))])) _
            refine XS.ishl X109.here hx rfl (hb hby at_362) rfl ?_
            show Steps p.tables e below (T109.setTop (mkF m 363 #[.val (.int k1), .val (.int k2), .val (.int k3), .val (.int v4), .val (.int (2 : Int32)), .val (.int m96_l5), .val (.int v98), .val (.ref b89), .val (.int (3 : Int32)), .val (.int (3 : Int32)), .val (.int v199), .val (.int v209), .val (.int v219), .val (.int v229), .unset, .unset] [(.int ((v199 &&& (15 : Int32)) <<< ((12 : Int32) &&& 31)))])) _
            refine XS.iload X109.here hx rfl (hb hby at_363) rfl ?_
            show Steps p.tables e below (T109.setTop (mkF m 365 #[.val (.int k1), .val (.int k2), .val (.int k3), .val (.int v4), .val (.int (2 : Int32)), .val (.int m96_l5), .val (.int v98), .val (.ref b89), .val (.int (3 : Int32)), .val (.int (3 : Int32)), .val (.int v199), .val (.int v209), .val (.int v219), .val (.int v229), .unset, .unset] [(.int v209), (.int ((v199 &&& (15 : Int32)) <<< ((12 : Int32) &&& 31)))])) _
            refine XS.bipush X109.here hx rfl (hb hby at_365) ?_
            show Steps p.tables e below (T109.setTop (mkF m 367 #[.val (.int k1), .val (.int k2), .val (.int k3), .val (.int v4), .val (.int (2 : Int32)), .val (.int m96_l5), .val (.int v98), .val (.ref b89), .val (.int (3 : Int32)), .val (.int (3 : Int32)), .val (.int v199), .val (.int v209), .val (.int v219), .val (.int v229), .unset, .unset] [(.int (63 : Int32)), (.int v209), (.int ((v199 &&& (15 : Int32)) <<< ((12 : Int32) &&& 31)))])) _
            refine XS.iand X109.here hx rfl (hb hby at_367) rfl ?_
            show Steps p.tables e below (T109.setTop (mkF m 368 #[.val (.int k1), .val (.int k2), .val (.int k3), .val (.int v4), .val (.int (2 : Int32)), .val (.int m96_l5), .val (.int v98), .val (.ref b89), .val (.int (3 : Int32)), .val (.int (3 : Int32)), .val (.int v199), .val (.int v209), .val (.int v219), .val (.int v229), .unset, .unset] [(.int (v209 &&& (63 : Int32))), (.int ((v199 &&& (15 : Int32)) <<< ((12 : Int32) &&& 31)))])) _
            refine XS.bipush X109.here hx rfl (hb hby at_368) ?_
            show Steps p.tables e below (T109.setTop (mkF m 370 #[.val (.int k1), .val (.int k2), .val (.int k3), .val (.int v4), .val (.int (2 : Int32)), .val (.int m96_l5), .val (.int v98), .val (.ref b89), .val (.int (3 : Int32)), .val (.int (3 : Int32)), .val (.int v199), .val (.int v209), .val (.int v219), .val (.int v229), .unset, .unset] [(.int (6 : Int32)), (.int (v209 &&& (63 : Int32))), (.int ((v199 &&& (15 : Int32)) <<< ((12 : Int32) &&& 31)))])) _
            refine XS.ishl X109.here hx rfl (hb hby at_370) rfl ?_
            show Steps p.tables e below (T109.setTop (mkF m 371 #[.val (.int k1), .val (.int k2), .val (.int k3), .val (.int v4), .val (.int (2 : Int32)), .val (.int m96_l5), .val (.int v98), .val (.ref b89), .val (.int (3 : Int32)), .val (.int (3 : Int32)), .val (.int v199), .val (.int v209), .val (.int v219), .val (.int v229), .unset, .unset] [(.int ((v209 &&& (63 : Int32)) <<< ((6 : Int32) &&& 31))), (.int ((v199 &&& (15 : Int32)) <<< ((12 : Int32) &&& 31)))])) _
            refine XS.ior X109.here hx rfl (hb hby at_371) rfl ?_
            show Steps p.tables e below (T109.setTop (mkF m 372 #[.val (.int k1), .val (.int k2), .val (.int k3), .val (.int v4), .val (.int (2 : Int32)), .val (.int m96_l5), .val (.int v98), .val (.ref b89), .val (.int (3 : Int32)), .val (.int (3 : Int32)), .val (.int v199), .val (.int v209), .val (.int v219), .val (.int v229), .unset, .unset] [(.int (((v199 &&& (15 : Int32)) <<< ((12 : Int32) &&& 31)) ||| ((v209 &&& (63 : Int32)) <<< ((6 : Int32) &&& 31))))])) _
            refine XS.iload X109.here hx rfl (hb hby at_372) rfl ?_
            show Steps p.tables e below (T109.setTop (mkF m 374 #[.val (.int k1), .val (.int k2), .val (.int k3), .val (.int v4), .val (.int (2 : Int32)), .val (.int m96_l5), .val (.int v98), .val (.ref b89), .val (.int (3 : Int32)), .val (.int (3 : Int32)), .val (.int v199), .val (.int v209), .val (.int v219), .val (.int v229), .unset, .unset] [(.int v219), (.int (((v199 &&& (15 : Int32)) <<< ((12 : Int32) &&& 31)) ||| ((v209 &&& (63 : Int32)) <<< ((6 : Int32) &&& 31))))])) _
            refine XS.bipush X109.here hx rfl (hb hby at_374) ?_
            show Steps p.tables e below (T109.setTop (mkF m 376 #[.val (.int k1), .val (.int k2), .val (.int k3), .val (.int v4), .val (.int (2 : Int32)), .val (.int m96_l5), .val (.int v98), .val (.ref b89), .val (.int (3 : Int32)), .val (.int (3 : Int32)), .val (.int v199), .val (.int v209), .val (.int v219), .val (.int v229), .unset, .unset] [(.int (63 : Int32)), (.int v219), (.int (((v199 &&& (15 : Int32)) <<< ((12 : Int32) &&& 31)) ||| ((v209 &&& (63 : Int32)) <<< ((6 : Int32) &&& 31))))])) _
            refine XS.iand X109.here hx rfl (hb hby at_376) rfl ?_
            show Steps p.tables e below (T109.setTop (mkF m 377 #[.val (.int k1), .val (.int k2), .val (.int k3), .val (.int v4), .val (.int (2 : Int32)), .val (.int m96_l5), .val (.int v98), .val (.ref b89), .val (.int (3 : Int32)), .val (.int (3 : Int32)), .val (.int v199), .val (.int v209), .val (.int v219), .val (.int v229), .unset, .unset] [(.int (v219 &&& (63 : Int32))), (.int (((v199 &&& (15 : Int32)) <<< ((12 : Int32) &&& 31)) ||| ((v209 &&& (63 : Int32)) <<< ((6 : Int32) &&& 31))))])) _
            refine XS.ior X109.here hx rfl (hb hby at_377) rfl ?_
            show Steps p.tables e below (T109.setTop (mkF m 378 #[.val (.int k1), .val (.int k2), .val (.int k3), .val (.int v4), .val (.int (2 : Int32)), .val (.int m96_l5), .val (.int v98), .val (.ref b89), .val (.int (3 : Int32)), .val (.int (3 : Int32)), .val (.int v199), .val (.int v209), .val (.int v219), .val (.int v229), .unset, .unset] [(.int ((((v199 &&& (15 : Int32)) <<< ((12 : Int32) &&& 31)) ||| ((v209 &&& (63 : Int32)) <<< ((6 : Int32) &&& 31))) ||| (v219 &&& (63 : Int32))))])) _
            refine XS.iload X109.here hx rfl (hb hby at_378) rfl ?_
            by_cases d120 : ((((v199 &&& (15 : Int32)) <<< ((12 : Int32) &&& 31)) ||| ((v209 &&& (63 : Int32)) <<< ((6 : Int32) &&& 31))) ||| (v219 &&& (63 : Int32))) = m96_l5
            · skip
              show Steps p.tables e below (T109.setTop (mkF m 380 #[.val (.int k1), .val (.int k2), .val (.int k3), .val (.int v4), .val (.int (2 : Int32)), .val (.int m96_l5), .val (.int v98), .val (.ref b89), .val (.int (3 : Int32)), .val (.int (3 : Int32)), .val (.int v199), .val (.int v209), .val (.int v219), .val (.int v229), .unset, .unset] [(.int m96_l5), (.int ((((v199 &&& (15 : Int32)) <<< ((12 : Int32) &&& 31)) ||| ((v209 &&& (63 : Int32)) <<< ((6 : Int32) &&& 31))) ||| (v219 &&& (63 : Int32))))])) _
              refine XS.icmpNo X109.here hx rfl (hb hby at_380) rfl (teq d120).2 ?_
              show Steps p.tables e below (T109.setTop (mkF m 383 #[.val (.int k1), .val (.int k2), .val (.int k3), .val (.int v4), .val (.int (2 : Int32)), .val (.int m96_l5), .val (.int v98), .val (.ref b89), .val (.int (3 : Int32)), .val (.int (3 : Int32)), .val (.int v199), .val (.int v209), .val (.int v219), .val (.int v229), .unset, .unset] [])) _
              refine XS.iconst X109.here hx rfl (hb hby at_383) ?_
              show Steps p.tables e below (T109.setTop (mkF m 384 #[.val (.int k1), .val (.int k2), .val (.int k3), .val (.int v4), .val (.int (2 : Int32)), .val (.int m96_l5), .val (.int v98), .val (.ref b89), .val (.int (3 : Int32)), .val (.int (3 : Int32)), .val (.int v199), .val (.int v209), .val (.int v219), .val (.int v229), .unset, .unset] [(.int (1 : Int32))])) _
              refine XS.goto X109.here hx rfl (pc0 := 384) (pc' := 388) rfl (hb hby at_384) (by decide) (by decide) ?_
              show Steps p.tables e below (T109.setTop (mkF m 388 #[.val (.int k1), .val (.int k2), .val (.int k3), .val (.int v4), .val (.int (2 : Int32)), .val (.int m96_l5), .val (.int v98), .val (.ref b89), .val (.int (3 : Int32)), .val (.int (3 : Int32)), .val (.int v199), .val (.int v209), .val (.int v219), .val (.int v229), .unset, .unset] [(.int (1 : Int32))])) _
              exact castTop (by simp only [hm388, if_pos d117, if_pos d118, if_pos d119, if_pos d120]) kt
            · skip
              show Steps p.tables e below (T109.setTop (mkF m 380 #[.val (.int k1), .val (.int k2), .val (.int k3), .val (.int v4), .val (.int (2 : Int32)), .val (.int m96_l5), .val (.int v98), .val (.ref b89), .val (.int (3 : Int32)), .val (.int (3 : Int32)), .val (.int v199), .val (.int v209), .val (.int v219), .val (.int v229), .unset, .unset] [(.int m96_l5), (.int ((((v199 &&& (15 : Int32)) <<< ((12 : Int32) &&& 31)) ||| ((v209 &&& (63 : Int32)) <<< ((6 : Int32) &&& 31))) ||| (v219 &&& (63 : Int32))))])) _
              refine XS.icmpYes X109.here hx rfl (pc0 := 380) (pc' := 387) rfl (hb hby at_380) rfl (feq d120).2 (by decide) (by decide) ?_
              show Steps p.tables e below (T109.setTop (mkF m 387 #[.val (.int k1), .val (.int k2), .val (.int k3), .val (.int v4), .val (.int (2 : Int32)), .val (.int m96_l5), .val (.int v98), .val (.ref b89), .val (.int (3 : Int32)), .val (.int (3 : Int32)), .val (.int v199), .val (.int v209), .val (.int v219), .val (.int v229), .unset, .unset] [])) _
              refine XS.iconst X109.here hx rfl (hb hby at_387) ?_
              show Steps p.tables e below (T109.setTop (mkF m 388 #[.val (.int k1), .val (.int k2), .val (.int k3), .val (.int v4), .val (.int (2 : Int32)), .val (.int m96_l5), .val (.int v98), .val (.ref b89), .val (.int (3 : Int32)), .val (.int (3 : Int32)), .val (.int v199), .val (.int v209), .val (.int v219), .val (.int v229), .unset, .unset] [(.int (0 : Int32))])) _
              exact castTop (by simp only [hm388, if_pos d117, if_pos d118, if_pos d119, if_neg d120]) kt
          · skip
            show Steps p.tables e below (T109.setTop (mkF m 352 #[.val (.int k1), .val (.int k2), .val (.int k3), .val (.int v4), .val (.int (2 : Int32)), .val (.int m96_l5), .val (.int v98), .val (.ref b89), .val (.int (3 : Int32)), .val (.int (3 : Int32)), .val (.int v199), .val (.int v209), .val (.int v219), .val (.int v229), .unset, .unset] [(.int (128 : Int32)), (.int (v219 &&& (192 : Int32)))])) _
            refine XS.icmpYes X109.here hx rfl (pc0 := 352) (pc' := 387) rfl (hb hby at_352) rfl (feq d119).2 (by decide) (by decide) ?_
            show Steps p.tables e below (T109.setTop (mkF m 387 #[.val (.int k1), .val (.int k2), .val (.int k3), .val (.int v4), .val (.int (2 : Int32)), .val (.int m96_l5), .val (.int v98), .val (.ref b89), .val (.int (3 : Int32)), .val (.int (3 : Int32)), .val (.int v199), .val (.int v209), .val (.int v219), .val (.int v229), .unset, .unset] [])) _
            refine XS.iconst X109.here hx rfl (hb hby at_387) ?_
            show Steps p.tables e below (T109.setTop (mkF m 388 #[.val (.int k1), .val (.int k2), .val (.int k3), .val (.int v4), .val (.int (2 : Int32)), .val (.int m96_l5), .val (.int v98), .val (.ref b89), .val (.int (3 : Int32)), .val (.int (3 : Int32)), .val (.int v199), .val (.int v209), .val (.int v219), .val (.int v229), .unset, .unset] [(.int (0 : Int32))])) _
            exact castTop (by simp only [hm388, if_pos d117, if_pos d118, if_neg d119]) kt
        · skip
          show Steps p.tables e below (T109.setTop (mkF m 340 #[.val (.int k1), .val (.int k2), .val (.int k3), .val (.int v4), .val (.int (2 : Int32)), .val (.int m96_l5), .val (.int v98), .val (.ref b89), .val (.int (3 : Int32)), .val (.int (3 : Int32)), .val (.int v199), .val (.int v209), .val (.int v219), .val (.int v229), .unset, .unset] [(.int (128 : Int32)), (.int (v209 &&& (192 : Int32)))])) _
          refine XS.icmpYes X109.here hx rfl (pc0 := 340) (pc' := 387) rfl (hb hby at_340) rfl (feq d118).2 (by decide) (by decide) ?_
          show Steps p.tables e below (T109.setTop (mkF m 387 #[.val (.int k1), .val (.int k2), .val (.int k3), .val (.int v4), .val (.int (2 : Int32)), .val (.int m96_l5), .val (.int v98), .val (.ref b89), .val (.int (3 : Int32)), .val (.int (3 : Int32)), .val (.int v199), .val (.int v209), .val (.int v219), .val (.int v229), .unset, .unset] [])) _
          refine XS.iconst X109.here hx rfl (hb hby at_387) ?_
          show Steps p.tables e below (T109.setTop (mkF m 388 #[.val (.int k1), .val (.int k2), .val (.int k3), .val (.int v4), .val (.int (2 : Int32)), .val (.int m96_l5), .val (.int v98), .val (.ref b89), .val (.int (3 : Int32)), .val (.int (3 : Int32)), .val (.int v199), .val (.int v209), .val (.int v219), .val (.int v229), .unset, .unset] [(.int (0 : Int32))])) _
          exact castTop (by simp only [hm388, if_pos d117, if_neg d118]) kt
      · skip
        show Steps p.tables e below (T109.setTop (mkF m 328 #[.val (.int k1), .val (.int k2), .val (.int k3), .val (.int v4), .val (.int (2 : Int32)), .val (.int m96_l5), .val (.int v98), .val (.ref b89), .val (.int (3 : Int32)), .val (.int (3 : Int32)), .val (.int v199), .val (.int v209), .val (.int v219), .val (.int v229), .unset, .unset] [(.int (224 : Int32)), (.int (v199 &&& (240 : Int32)))])) _
        refine XS.icmpYes X109.here hx rfl (pc0 := 328) (pc' := 387) rfl (hb hby at_328) rfl (feq d117).2 (by decide) (by decide) ?_
        show Steps p.tables e below (T109.setTop (mkF m 387 #[.val (.int k1), .val (.int k2), .val (.int k3), .val (.int v4), .val (.int (2 : Int32)), .val (.int m96_l5), .val (.int v98), .val (.ref b89), .val (.int (3 : Int32)), .val (.int (3 : Int32)), .val (.int v199), .val (.int v209), .val (.int v219), .val (.int v229), .unset, .unset] [])) _
        refine XS.iconst X109.here hx rfl (hb hby at_387) ?_
        show Steps p.tables e below (T109.setTop (mkF m 388 #[.val (.int k1), .val (.int k2), .val (.int k3), .val (.int v4), .val (.int (2 : Int32)), .val (.int m96_l5), .val (.int v98), .val (.ref b89), .val (.int (3 : Int32)), .val (.int (3 : Int32)), .val (.int v199), .val (.int v209), .val (.int v219), .val (.int v229), .unset, .unset] [(.int (0 : Int32))])) _
        exact castTop (by simp only [hm388, if_neg d117]) kt
    obtain ⟨cl122, Ar122, q122, S122, M122, H122, G122⟩ := id F110
    have hin122 : ¬ ((3 : Int32) < 0 ∨ cl122.slots.size ≤ ((3 : Int32)).toNatClampNeg) := inb_of S122 ⟨by decide, by decide⟩
    have hat122 : cl122.slots[((3 : Int32)).toNatClampNeg]? = some (.int (nar .byte v98)) := Has.at H122 hin122 rfl
    obtain ⟨m535, hm535⟩ : ∃ z_q : Int32, z_q = (if (nar .byte v98) = v98 then (1 : Int32) else (0 : Int32)) := ⟨_, rfl⟩
    have pre124 : ∀ tq, Steps p.tables e below (T109.setTop (mkF m 535 #[.val (.int k1), .val (.int k2), .val (.int k3), .val (.int v4), .val (.int (2 : Int32)), .val (.int m96_l5), .val (.int v98), .val (.ref b89), .val (.int (3 : Int32)), .val (.int (3 : Int32)), .val (.int v199), .val (.int v209), .val (.int v219), .val (.int v229), .val (.int m388), .unset] [(.int m535)])) tq → Steps p.tables e below (s₁.setTop (entryFrame m #[(.int k1), (.int k2), (.int k3)] maxLocals)) tq := by
      intro tq kt
      refine pre121 _ ?_
      show Steps p.tables e below (T109.setTop (mkF m 388 #[.val (.int k1), .val (.int k2), .val (.int k3), .val (.int v4), .val (.int (2 : Int32)), .val (.int m96_l5), .val (.int v98), .val (.ref b89), .val (.int (3 : Int32)), .val (.int (3 : Int32)), .val (.int v199), .val (.int v209), .val (.int v219), .val (.int v229), .unset, .unset] [(.int m388)])) _
      refine XS.istore X109.here hx rfl (hb hby at_388) rfl (l' := #[.val (.int k1), .val (.int k2), .val (.int k3), .val (.int v4), .val (.int (2 : Int32)), .val (.int m96_l5), .val (.int v98), .val (.ref b89), .val (.int (3 : Int32)), .val (.int (3 : Int32)), .val (.int v199), .val (.int v209), .val (.int v219), .val (.int v229), .val (.int m388), .unset]) rfl ?_
      show Steps p.tables e below (T109.setTop (mkF m 390 #[.val (.int k1), .val (.int k2), .val (.int k3), .val (.int v4), .val (.int (2 : Int32)), .val (.int m96_l5), .val (.int v98), .val (.ref b89), .val (.int (3 : Int32)), .val (.int (3 : Int32)), .val (.int v199), .val (.int v209), .val (.int v219), .val (.int v229), .val (.int m388), .unset] [])) _
      refine XS.goto X109.here hx rfl (pc0 := 390) (pc' := 485) rfl (hb hby at_390) (by decide) (by decide) ?_
      show Steps p.tables e below (T109.setTop (mkF m 485 #[.val (.int k1), .val (.int k2), .val (.int k3), .val (.int v4), .val (.int (2 : Int32)), .val (.int m96_l5), .val (.int v98), .val (.ref b89), .val (.int (3 : Int32)), .val (.int (3 : Int32)), .val (.int v199), .val (.int v209), .val (.int v219), .val (.int v229), .val (.int m388), .unset] [])) _
      refine XS.iload X109.here hx rfl (hb hby at_485) rfl ?_
      show Steps p.tables e below (T109.setTop (mkF m 487 #[.val (.int k1), .val (.int k2), .val (.int k3), .val (.int v4), .val (.int (2 : Int32)), .val (.int m96_l5), .val (.int v98), .val (.ref b89), .val (.int (3 : Int32)), .val (.int (3 : Int32)), .val (.int v199), .val (.int v209), .val (.int v219), .val (.int v229), .val (.int m388), .unset] [(.int (3 : Int32))])) _
      refine XS.iconst X109.here hx rfl (hb hby at_487) ?_
      show Steps p.tables e below (T109.setTop (mkF m 488 #[.val (.int k1), .val (.int k2), .val (.int k3), .val (.int v4), .val (.int (2 : Int32)), .val (.int m96_l5), .val (.int v98), .val (.ref b89), .val (.int (3 : Int32)), .val (.int (3 : Int32)), .val (.int v199), .val (.int v209), .val (.int v219), .val (.int v229), .val (.int m388), .unset] [(.int (1 : Int32)), (.int (3 : Int32))])) _
      refine XS.icmpYes X109.here hx rfl (pc0 := 488) (pc' := 500) rfl (hb hby at_488) rfl (tlt (by decide)).2.2.1 (by decide) (by decide) ?_
      show Steps p.tables e below (T109.setTop (mkF m 500 #[.val (.int k1), .val (.int k2), .val (.int k3), .val (.int v4), .val (.int (2 : Int32)), .val (.int m96_l5), .val (.int v98), .val (.ref b89), .val (.int (3 : Int32)), .val (.int (3 : Int32)), .val (.int v199), .val (.int v209), .val (.int v219), .val (.int v229), .val (.int m388), .unset] [])) _
      refine XS.iload X109.here hx rfl (hb hby at_500) rfl ?_
      show Steps p.tables e below (T109.setTop (mkF m 502 #[.val (.int k1), .val (.int k2), .val (.int k3), .val (.int v4), .val (.int (2 : Int32)), .val (.int m96_l5), .val (.int v98), .val (.ref b89), .val (.int (3 : Int32)), .val (.int (3 : Int32)), .val (.int v199), .val (.int v209), .val (.int v219), .val (.int v229), .val (.int m388), .unset] [(.int (3 : Int32))])) _
      refine XS.iconst X109.here hx rfl (hb hby at_502) ?_
      show Steps p.tables e below (T109.setTop (mkF m 503 #[.val (.int k1), .val (.int k2), .val (.int k3), .val (.int v4), .val (.int (2 : Int32)), .val (.int m96_l5), .val (.int v98), .val (.ref b89), .val (.int (3 : Int32)), .val (.int (3 : Int32)), .val (.int v199), .val (.int v209), .val (.int v219), .val (.int v229), .val (.int m388), .unset] [(.int (2 : Int32)), (.int (3 : Int32))])) _
      refine XS.icmpYes X109.here hx rfl (pc0 := 503) (pc' := 515) rfl (hb hby at_503) rfl (tlt (by decide)).2.2.1 (by decide) (by decide) ?_
      show Steps p.tables e below (T109.setTop (mkF m 515 #[.val (.int k1), .val (.int k2), .val (.int k3), .val (.int v4), .val (.int (2 : Int32)), .val (.int m96_l5), .val (.int v98), .val (.ref b89), .val (.int (3 : Int32)), .val (.int (3 : Int32)), .val (.int v199), .val (.int v209), .val (.int v219), .val (.int v229), .val (.int m388), .unset] [])) _
      refine XS.iload X109.here hx rfl (hb hby at_515) rfl ?_
      show Steps p.tables e below (T109.setTop (mkF m 517 #[.val (.int k1), .val (.int k2), .val (.int k3), .val (.int v4), .val (.int (2 : Int32)), .val (.int m96_l5), .val (.int v98), .val (.ref b89), .val (.int (3 : Int32)), .val (.int (3 : Int32)), .val (.int v199), .val (.int v209), .val (.int v219), .val (.int v229), .val (.int m388), .unset] [(.int (3 : Int32))])) _
      refine XS.iconst X109.here hx rfl (hb hby at_517) ?_
      show Steps p.tables e below (T109.setTop (mkF m 518 #[.val (.int k1), .val (.int k2), .val (.int k3), .val (.int v4), .val (.int (2 : Int32)), .val (.int m96_l5), .val (.int v98), .val (.ref b89), .val (.int (3 : Int32)), .val (.int (3 : Int32)), .val (.int v199), .val (.int v209), .val (.int v219), .val (.int v229), .val (.int m388), .unset] [(.int (3 : Int32)), (.int (3 : Int32))])) _
      refine XS.icmpNo X109.here hx rfl (hb hby at_518) rfl (flt (by decide)).2.2.1 ?_
      show Steps p.tables e below (T109.setTop (mkF m 521 #[.val (.int k1), .val (.int k2), .val (.int k3), .val (.int v4), .val (.int (2 : Int32)), .val (.int m96_l5), .val (.int v98), .val (.ref b89), .val (.int (3 : Int32)), .val (.int (3 : Int32)), .val (.int v199), .val (.int v209), .val (.int v219), .val (.int v229), .val (.int m388), .unset] [])) _
      refine XS.aload X109.here hx rfl (hb hby at_521) rfl rfl ?_
      show Steps p.tables e below (T109.setTop (mkF m 523 #[.val (.int k1), .val (.int k2), .val (.int k3), .val (.int v4), .val (.int (2 : Int32)), .val (.int m96_l5), .val (.int v98), .val (.ref b89), .val (.int (3 : Int32)), .val (.int (3 : Int32)), .val (.int v199), .val (.int v209), .val (.int v219), .val (.int v229), .val (.int m388), .unset] [(.ref b89)])) _
      refine XS.iconst X109.here hx rfl (hb hby at_523) ?_
      show Steps p.tables e below (T109.setTop (mkF m 524 #[.val (.int k1), .val (.int k2), .val (.int k3), .val (.int v4), .val (.int (2 : Int32)), .val (.int m96_l5), .val (.int v98), .val (.ref b89), .val (.int (3 : Int32)), .val (.int (3 : Int32)), .val (.int v199), .val (.int v209), .val (.int v219), .val (.int v229), .val (.int m388), .unset] [(.int (3 : Int32)), (.ref b89)])) _
      refine X109.baloadBytes hx (j := (3 : Int32)) (v := (.int (nar .byte v98))) (heq_of rfl Ar122.1) (State.isArrayOf_alike hZ.alike Ar122.2.1) Ar122.2.2 hin122 hat122 (g := (mkF m 524 #[.val (.int k1), .val (.int k2), .val (.int k3), .val (.int v4), .val (.int (2 : Int32)), .val (.int m96_l5), .val (.int v98), .val (.ref b89), .val (.int (3 : Int32)), .val (.int (3 : Int32)), .val (.int v199), .val (.int v209), .val (.int v219), .val (.int v229), .val (.int m388), .unset] [(.int (3 : Int32)), (.ref b89)])) rfl rfl (hb hby at_524) _ ?_
      show Steps p.tables e below (T109.setTop (mkF m 525 #[.val (.int k1), .val (.int k2), .val (.int k3), .val (.int v4), .val (.int (2 : Int32)), .val (.int m96_l5), .val (.int v98), .val (.ref b89), .val (.int (3 : Int32)), .val (.int (3 : Int32)), .val (.int v199), .val (.int v209), .val (.int v219), .val (.int v229), .val (.int m388), .unset] [(.int (nar .byte v98))])) _
      refine XS.iload X109.here hx rfl (hb hby at_525) rfl ?_
      by_cases d123 : (nar .byte v98) = v98
      · skip
        show Steps p.tables e below (T109.setTop (mkF m 527 #[.val (.int k1), .val (.int k2), .val (.int k3), .val (.int v4), .val (.int (2 : Int32)), .val (.int m96_l5), .val (.int v98), .val (.ref b89), .val (.int (3 : Int32)), .val (.int (3 : Int32)), .val (.int v199), .val (.int v209), .val (.int v219), .val (.int v229), .val (.int m388), .unset] [(.int v98), (.int (nar .byte v98))])) _
        refine XS.icmpNo X109.here hx rfl (hb hby at_527) rfl (teq d123).2 ?_
        show Steps p.tables e below (T109.setTop (mkF m 530 #[.val (.int k1), .val (.int k2), .val (.int k3), .val (.int v4), .val (.int (2 : Int32)), .val (.int m96_l5), .val (.int v98), .val (.ref b89), .val (.int (3 : Int32)), .val (.int (3 : Int32)), .val (.int v199), .val (.int v209), .val (.int v219), .val (.int v229), .val (.int m388), .unset] [])) _
        refine XS.iconst X109.here hx rfl (hb hby at_530) ?_
        show Steps p.tables e below (T109.setTop (mkF m 531 #[.val (.int k1), .val (.int k2), .val (.int k3), .val (.int v4), .val (.int (2 : Int32)), .val (.int m96_l5), .val (.int v98), .val (.ref b89), .val (.int (3 : Int32)), .val (.int (3 : Int32)), .val (.int v199), .val (.int v209), .val (.int v219), .val (.int v229), .val (.int m388), .unset] [(.int (1 : Int32))])) _
        refine XS.goto X109.here hx rfl (pc0 := 531) (pc' := 535) rfl (hb hby at_531) (by decide) (by decide) ?_
        show Steps p.tables e below (T109.setTop (mkF m 535 #[.val (.int k1), .val (.int k2), .val (.int k3), .val (.int v4), .val (.int (2 : Int32)), .val (.int m96_l5), .val (.int v98), .val (.ref b89), .val (.int (3 : Int32)), .val (.int (3 : Int32)), .val (.int v199), .val (.int v209), .val (.int v219), .val (.int v229), .val (.int m388), .unset] [(.int (1 : Int32))])) _
        exact castTop (by simp only [hm535, if_pos d123]) kt
      · skip
        show Steps p.tables e below (T109.setTop (mkF m 527 #[.val (.int k1), .val (.int k2), .val (.int k3), .val (.int v4), .val (.int (2 : Int32)), .val (.int m96_l5), .val (.int v98), .val (.ref b89), .val (.int (3 : Int32)), .val (.int (3 : Int32)), .val (.int v199), .val (.int v209), .val (.int v219), .val (.int v229), .val (.int m388), .unset] [(.int v98), (.int (nar .byte v98))])) _
        refine XS.icmpYes X109.here hx rfl (pc0 := 527) (pc' := 534) rfl (hb hby at_527) rfl (feq d123).2 (by decide) (by decide) ?_
        show Steps p.tables e below (T109.setTop (mkF m 534 #[.val (.int k1), .val (.int k2), .val (.int k3), .val (.int v4), .val (.int (2 : Int32)), .val (.int m96_l5), .val (.int v98), .val (.ref b89), .val (.int (3 : Int32)), .val (.int (3 : Int32)), .val (.int v199), .val (.int v209), .val (.int v219), .val (.int v229), .val (.int m388), .unset] [])) _
        refine XS.iconst X109.here hx rfl (hb hby at_534) ?_
        show Steps p.tables e below (T109.setTop (mkF m 535 #[.val (.int k1), .val (.int k2), .val (.int k3), .val (.int v4), .val (.int (2 : Int32)), .val (.int m96_l5), .val (.int v98), .val (.ref b89), .val (.int (3 : Int32)), .val (.int (3 : Int32)), .val (.int v199), .val (.int v209), .val (.int v219), .val (.int v229), .val (.int m388), .unset] [(.int (0 : Int32))])) _
        exact castTop (by simp only [hm535, if_neg d123]) kt
    obtain ⟨m552, hm552⟩ : ∃ z_q : Int32, z_q = (if m388 = (0 : Int32) then (0 : Int32) else (if m535 = (0 : Int32) then (0 : Int32) else (1 : Int32))) := ⟨_, rfl⟩
    have pre127 : ∀ tq, Steps p.tables e below (T109.setTop (mkF m 552 #[.val (.int k1), .val (.int k2), .val (.int k3), .val (.int v4), .val (.int (2 : Int32)), .val (.int m96_l5), .val (.int v98), .val (.ref b89), .val (.int (3 : Int32)), .val (.int (3 : Int32)), .val (.int v199), .val (.int v209), .val (.int v219), .val (.int v229), .val (.int m388), .val (.int m535)] [(.int m552)])) tq → Steps p.tables e below (s₁.setTop (entryFrame m #[(.int k1), (.int k2), (.int k3)] maxLocals)) tq := by
      intro tq kt
      refine pre124 _ ?_
      show Steps p.tables e below (T109.setTop (mkF m 535 #[.val (.int k1), .val (.int k2), .val (.int k3), .val (.int v4), .val (.int (2 : Int32)), .val (.int m96_l5), .val (.int v98), .val (.ref b89), .val (.int (3 : Int32)), .val (.int (3 : Int32)), .val (.int v199), .val (.int v209), .val (.int v219), .val (.int v229), .val (.int m388), .unset] [(.int m535)])) _
      refine XS.istore X109.here hx rfl (hb hby at_535) rfl (l' := #[.val (.int k1), .val (.int k2), .val (.int k3), .val (.int v4), .val (.int (2 : Int32)), .val (.int m96_l5), .val (.int v98), .val (.ref b89), .val (.int (3 : Int32)), .val (.int (3 : Int32)), .val (.int v199), .val (.int v209), .val (.int v219), .val (.int v229), .val (.int m388), .val (.int m535)]) rfl ?_
      show Steps p.tables e below (T109.setTop (mkF m 537 #[.val (.int k1), .val (.int k2), .val (.int k3), .val (.int v4), .val (.int (2 : Int32)), .val (.int m96_l5), .val (.int v98), .val (.ref b89), .val (.int (3 : Int32)), .val (.int (3 : Int32)), .val (.int v199), .val (.int v209), .val (.int v219), .val (.int v229), .val (.int m388), .val (.int m535)] [])) _
      refine XS.iload X109.here hx rfl (hb hby at_537) rfl ?_
      by_cases d125 : m388 = (0 : Int32)
      · skip
        show Steps p.tables e below (T109.setTop (mkF m 539 #[.val (.int k1), .val (.int k2), .val (.int k3), .val (.int v4), .val (.int (2 : Int32)), .val (.int m96_l5), .val (.int v98), .val (.ref b89), .val (.int (3 : Int32)), .val (.int (3 : Int32)), .val (.int v199), .val (.int v209), .val (.int v219), .val (.int v229), .val (.int m388), .val (.int m535)] [(.int m388)])) _
        refine XS.ifYes X109.here hx rfl (pc0 := 539) (pc' := 551) rfl (hb hby at_539) rfl ((if0 _ _).trans (teq d125).1) (by decide) (by decide) ?_
        show Steps p.tables e below (T109.setTop (mkF m 551 #[.val (.int k1), .val (.int k2), .val (.int k3), .val (.int v4), .val (.int (2 : Int32)), .val (.int m96_l5), .val (.int v98), .val (.ref b89), .val (.int (3 : Int32)), .val (.int (3 : Int32)), .val (.int v199), .val (.int v209), .val (.int v219), .val (.int v229), .val (.int m388), .val (.int m535)] [])) _
        refine XS.iconst X109.here hx rfl (hb hby at_551) ?_
        show Steps p.tables e below (T109.setTop (mkF m 552 #[.val (.int k1), .val (.int k2), .val (.int k3), .val (.int v4), .val (.int (2 : Int32)), .val (.int m96_l5), .val (.int v98), .val (.ref b89), .val (.int (3 : Int32)), .val (.int (3 : Int32)), .val (.int v199), .val (.int v209), .val (.int v219), .val (.int v229), .val (.int m388), .val (.int m535)] [(.int (0 : Int32))])) _
        exact castTop (by simp only [hm552, if_pos d125]) kt
      · skip
        show Steps p.tables e below (T109.setTop (mkF m 539 #[.val (.int k1), .val (.int k2), .val (.int k3), .val (.int v4), .val (.int (2 : Int32)), .val (.int m96_l5), .val (.int v98), .val (.ref b89), .val (.int (3 : Int32)), .val (.int (3 : Int32)), .val (.int v199), .val (.int v209), .val (.int v219), .val (.int v229), .val (.int m388), .val (.int m535)] [(.int m388)])) _
        refine XS.ifNo X109.here hx rfl (hb hby at_539) rfl ((if0 _ _).trans (feq d125).1) ?_
        show Steps p.tables e below (T109.setTop (mkF m 542 #[.val (.int k1), .val (.int k2), .val (.int k3), .val (.int v4), .val (.int (2 : Int32)), .val (.int m96_l5), .val (.int v98), .val (.ref b89), .val (.int (3 : Int32)), .val (.int (3 : Int32)), .val (.int v199), .val (.int v209), .val (.int v219), .val (.int v229), .val (.int m388), .val (.int m535)] [])) _
        refine XS.iload X109.here hx rfl (hb hby at_542) rfl ?_
        by_cases d126 : m535 = (0 : Int32)
        · skip
          show Steps p.tables e below (T109.setTop (mkF m 544 #[.val (.int k1), .val (.int k2), .val (.int k3), .val (.int v4), .val (.int (2 : Int32)), .val (.int m96_l5), .val (.int v98), .val (.ref b89), .val (.int (3 : Int32)), .val (.int (3 : Int32)), .val (.int v199), .val (.int v209), .val (.int v219), .val (.int v229), .val (.int m388), .val (.int m535)] [(.int m535)])) _
          refine XS.ifYes X109.here hx rfl (pc0 := 544) (pc' := 551) rfl (hb hby at_544) rfl ((if0 _ _).trans (teq d126).1) (by decide) (by decide) ?_
          show Steps p.tables e below (T109.setTop (mkF m 551 #[.val (.int k1), .val (.int k2), .val (.int k3), .val (.int v4), .val (.int (2 : Int32)), .val (.int m96_l5), .val (.int v98), .val (.ref b89), .val (.int (3 : Int32)), .val (.int (3 : Int32)), .val (.int v199), .val (.int v209), .val (.int v219), .val (.int v229), .val (.int m388), .val (.int m535)] [])) _
          refine XS.iconst X109.here hx rfl (hb hby at_551) ?_
          show Steps p.tables e below (T109.setTop (mkF m 552 #[.val (.int k1), .val (.int k2), .val (.int k3), .val (.int v4), .val (.int (2 : Int32)), .val (.int m96_l5), .val (.int v98), .val (.ref b89), .val (.int (3 : Int32)), .val (.int (3 : Int32)), .val (.int v199), .val (.int v209), .val (.int v219), .val (.int v229), .val (.int m388), .val (.int m535)] [(.int (0 : Int32))])) _
          exact castTop (by simp only [hm552, if_neg d125, if_pos d126]) kt
        · skip
          show Steps p.tables e below (T109.setTop (mkF m 544 #[.val (.int k1), .val (.int k2), .val (.int k3), .val (.int v4), .val (.int (2 : Int32)), .val (.int m96_l5), .val (.int v98), .val (.ref b89), .val (.int (3 : Int32)), .val (.int (3 : Int32)), .val (.int v199), .val (.int v209), .val (.int v219), .val (.int v229), .val (.int m388), .val (.int m535)] [(.int m535)])) _
          refine XS.ifNo X109.here hx rfl (hb hby at_544) rfl ((if0 _ _).trans (feq d126).1) ?_
          show Steps p.tables e below (T109.setTop (mkF m 547 #[.val (.int k1), .val (.int k2), .val (.int k3), .val (.int v4), .val (.int (2 : Int32)), .val (.int m96_l5), .val (.int v98), .val (.ref b89), .val (.int (3 : Int32)), .val (.int (3 : Int32)), .val (.int v199), .val (.int v209), .val (.int v219), .val (.int v229), .val (.int m388), .val (.int m535)] [])) _
          refine XS.iconst X109.here hx rfl (hb hby at_547) ?_
          show Steps p.tables e below (T109.setTop (mkF m 548 #[.val (.int k1), .val (.int k2), .val (.int k3), .val (.int v4), .val (.int (2 : Int32)), .val (.int m96_l5), .val (.int v98), .val (.ref b89), .val (.int (3 : Int32)), .val (.int (3 : Int32)), .val (.int v199), .val (.int v209), .val (.int v219), .val (.int v229), .val (.int m388), .val (.int m535)] [(.int (1 : Int32))])) _
          refine XS.goto X109.here hx rfl (pc0 := 548) (pc' := 552) rfl (hb hby at_548) (by decide) (by decide) ?_
          show Steps p.tables e below (T109.setTop (mkF m 552 #[.val (.int k1), .val (.int k2), .val (.int k3), .val (.int v4), .val (.int (2 : Int32)), .val (.int m96_l5), .val (.int v98), .val (.ref b89), .val (.int (3 : Int32)), .val (.int (3 : Int32)), .val (.int v199), .val (.int v209), .val (.int v219), .val (.int v229), .val (.int m388), .val (.int m535)] [(.int (1 : Int32))])) _
          exact castTop (by simp only [hm552, if_neg d125, if_neg d126]) kt
    obtain ⟨fs, hr, hrun, hended, hW, hsame⟩ := X109.leave (v := some (Value.int (nar .boolean m552))) (fun h => by rw [Bd.returns] at h; cases h)
    have hres128 : (nar .boolean m552) = (1 : Int32) := (own_leaf_0_552_s2 k1 k2 k3 v4 hv4 hv8 v58 hv58 m96_l5 hm96_l5 v98 hv98 hp109_h1 hp109_h2 hp109_h3 v199 hv199 v209 hv209 v219 hv219 v229 hv229 m388 hm388 m535 hm535 m552 hm552)
    refine ⟨_, _, pre127 _ ?_, hrun, hended, _, _, rfl, ?_, ⟨_, rfl⟩, hW, hsame.mono (by decide) (by decide)⟩
    · skip
      show Steps p.tables e below (T109.setTop (mkF m 552 #[.val (.int k1), .val (.int k2), .val (.int k3), .val (.int v4), .val (.int (2 : Int32)), .val (.int m96_l5), .val (.int v98), .val (.ref b89), .val (.int (3 : Int32)), .val (.int (3 : Int32)), .val (.int v199), .val (.int v209), .val (.int v219), .val (.int v229), .val (.int m388), .val (.int m535)] [(.int m552)])) _
      exact retN X109 hx (t := .boolean) Bd.returns (by simp) (hb hby at_552) hr
    · show Q0 Z k1 k2 k3 h0 n0 _ T109.heap _
      exact ⟨congrArg (fun z => some (Value.int z)) hres128, N109⟩
  · subst hs2
    obtain ⟨v94, hv94⟩ : ∃ z_q : Int32, z_q = ((65536 : Int32) + (v4 % (1048576 : Int32))) := ⟨_, rfl⟩
    obtain ⟨v98, hv98⟩ : ∃ z_q : Int32, z_q = (k3.toInt8.toInt32) := ⟨_, rfl⟩
    obtain ⟨T129, hX129, kx129, X129, e129, E129, A129, st129⟩ := newP X0 hx hZ (hw _ (List.mem_of_getElem? (i := 3) rfl)) e0 (g := (mkF m 101 #[.val (.int k1), .val (.int k2), .val (.int k3), .val (.int v4), .val (.int (3 : Int32)), .val (.int v94), .val (.int v98), .unset, .unset, .unset, .unset, .unset, .unset, .unset, .unset, .unset] [(.int (4 : Int32))])) rfl (hb hby at_101) rfl (by decide) (cap := 4) (by decide) (by decide) (by decide) (by decide)
    obtain ⟨b129, g129⟩ : ∃ z_q, z_q = h0.size := ⟨_, rfl⟩
    rw [← g129] at A129 st129
    have g_b129 : n0 ≤ b129 := Nat.le_trans Z0 (Nat.le_of_eq g129.symm)
    have sz_b129 : h0.size ≤ b129 := Nat.le_trans K0.1 (Nat.le_of_eq g129.symm)
    have Z130 : n0 ≤ hX129.size := Nat.le_trans Z0 E129.1
    have K131 : Keep h0 hX129 [] := K0.ext E129
    have F132 : Arv Z hX129 b129 kx129 .byte (4 : Int32) [(.int (0 : Int32)), (.int (0 : Int32)), (.int (0 : Int32)), (.int (0 : Int32))] (.int (0 : Int32)) := (Arv.new A129 (by decide)).pad (pad_rep [] (.int (0 : Int32)) 4)
    obtain ⟨cl133, Ar133, q133, S133, M133, H133, G133⟩ := id F132
    have hin133 : ¬ ((0 : Int32) < 0 ∨ cl133.slots.size ≤ ((0 : Int32)).toNatClampNeg) := inb_of S133 ⟨by decide, by decide⟩
    obtain ⟨T133, hX133, X133, e133, W133, st133⟩ := stB X129 hx hZ e129 Ar133 (j := (0 : Int32)) hin133 (g := (mkF m 110 #[.val (.int k1), .val (.int k2), .val (.int k3), .val (.int v4), .val (.int (3 : Int32)), .val (.int v94), .val (.int v98), .val (.ref b129), .unset, .unset, .unset, .unset, .unset, .unset, .unset, .unset] [(.int v98), (.int (0 : Int32)), (.ref b129)])) rfl rfl (hb hby at_110)
    have F134 : Arv Z hX133 b129 kx129 .byte (4 : Int32) [(.int (nar .byte v98)), (.int (0 : Int32)), (.int (0 : Int32)), (.int (0 : Int32))] (.int (0 : Int32)) := Arv.set Ar133 q133 S133 M133 H133 G133 (fits_nar_byte _) W133 0 rfl (Nat.le_of_ble_eq_true rfl)
    have N133 := Fr.snoc X133 N0 g_b129
    have Z135 : n0 ≤ hX133.size := Nat.le_trans Z130 (Keep.of_wr W133).1
    have K136 : Keep h0 hX133 [] := K131.wr W133 (Or.inr sz_b129)
    obtain ⟨cl137, Ar137, q137, S137, M137, H137, G137⟩ := id F134
    have hin137 : ¬ ((1 : Int32) < 0 ∨ cl137.slots.size ≤ ((1 : Int32)).toNatClampNeg) := inb_of S137 ⟨by decide, by decide⟩
    obtain ⟨T137, hX137, X137, e137, W137, st137⟩ := stB X133 hx hZ e133 Ar137 (j := (1 : Int32)) hin137 (g := (mkF m 116 #[.val (.int k1), .val (.int k2), .val (.int k3), .val (.int v4), .val (.int (3 : Int32)), .val (.int v94), .val (.int v98), .val (.ref b129), .unset, .unset, .unset, .unset, .unset, .unset, .unset, .unset] [(.int v98), (.int (1 : Int32)), (.ref b129)])) rfl rfl (hb hby at_116)
    have F138 : Arv Z hX137 b129 kx129 .byte (4 : Int32) [(.int (nar .byte v98)), (.int (nar .byte v98)), (.int (0 : Int32)), (.int (0 : Int32))] (.int (0 : Int32)) := Arv.set Ar137 q137 S137 M137 H137 G137 (fits_nar_byte _) W137 1 rfl (Nat.le_of_ble_eq_true rfl)
    have N137 := Fr.snoc X137 N133 g_b129
    have Z139 : n0 ≤ hX137.size := Nat.le_trans Z135 (Keep.of_wr W137).1
    have K140 : Keep h0 hX137 [] := K136.wr W137 (Or.inr sz_b129)
    obtain ⟨cl141, Ar141, q141, S141, M141, H141, G141⟩ := id F138
    have hin141 : ¬ ((2 : Int32) < 0 ∨ cl141.slots.size ≤ ((2 : Int32)).toNatClampNeg) := inb_of S141 ⟨by decide, by decide⟩
    obtain ⟨T141, hX141, X141, e141, W141, st141⟩ := stB X137 hx hZ e137 Ar141 (j := (2 : Int32)) hin141 (g := (mkF m 122 #[.val (.int k1), .val (.int k2), .val (.int k3), .val (.int v4), .val (.int (3 : Int32)), .val (.int v94), .val (.int v98), .val (.ref b129), .unset, .unset, .unset, .unset, .unset, .unset, .unset, .unset] [(.int v98), (.int (2 : Int32)), (.ref b129)])) rfl rfl (hb hby at_122)
    have F142 : Arv Z hX141 b129 kx129 .byte (4 : Int32) [(.int (nar .byte v98)), (.int (nar .byte v98)), (.int (nar .byte v98)), (.int (0 : Int32))] (.int (0 : Int32)) := Arv.set Ar141 q141 S141 M141 H141 G141 (fits_nar_byte _) W141 2 rfl (Nat.le_of_ble_eq_true rfl)
    have N141 := Fr.snoc X141 N137 g_b129
    have Z143 : n0 ≤ hX141.size := Nat.le_trans Z139 (Keep.of_wr W141).1
    have K144 : Keep h0 hX141 [] := K140.wr W141 (Or.inr sz_b129)
    obtain ⟨cl145, Ar145, q145, S145, M145, H145, G145⟩ := id F142
    have hin145 : ¬ ((3 : Int32) < 0 ∨ cl145.slots.size ≤ ((3 : Int32)).toNatClampNeg) := inb_of S145 ⟨by decide, by decide⟩
    obtain ⟨T145, hX145, X145, e145, W145, st145⟩ := stB X141 hx hZ e141 Ar145 (j := (3 : Int32)) hin145 (g := (mkF m 128 #[.val (.int k1), .val (.int k2), .val (.int k3), .val (.int v4), .val (.int (3 : Int32)), .val (.int v94), .val (.int v98), .val (.ref b129), .unset, .unset, .unset, .unset, .unset, .unset, .unset, .unset] [(.int v98), (.int (3 : Int32)), (.ref b129)])) rfl rfl (hb hby at_128)
    have F146 : Arv Z hX145 b129 kx129 .byte (4 : Int32) [(.int (nar .byte v98)), (.int (nar .byte v98)), (.int (nar .byte v98)), (.int (nar .byte v98))] (.int (0 : Int32)) := Arv.set Ar145 q145 S145 M145 H145 G145 (fits_nar_byte _) W145 3 rfl (Nat.le_of_ble_eq_true rfl)
    have N145 := Fr.snoc X145 N141 g_b129
    have Z147 : n0 ≤ hX145.size := Nat.le_trans Z143 (Keep.of_wr W145).1
    have K148 : Keep h0 hX145 [] := K144.wr W145 (Or.inr sz_b129)
    have hp149_h1 : ¬ (v94 < (128 : Int32)) := (own_pre_0_133_h1_s3 k1 k2 k3 v4 hv4 hv8 v94 hv94 v98 hv98)
    have hp149_h2 : ¬ (v94 < (2048 : Int32)) := (own_pre_0_133_h2_s3 k1 k2 k3 v4 hv4 hv8 v94 hv94 v98 hv98 hp149_h1)
    have hp149_h3 : ¬ (v94 < (65536 : Int32)) := (own_pre_0_133_h3_s3 k1 k2 k3 v4 hv4 hv8 v94 hv94 v98 hv98 hp149_h1 hp149_h2)
    obtain ⟨_, _, ⟨T149, L149, k149, n149⟩, -, X149, ⟨Lc149, hQ149, l149, y149, z149⟩, st149⟩ := Jvm.LawKit.callS X145 hx (y := (⟨"com/example/marcotte/marcotte/XmlCharacters", "writeUtf8", "(I[B)I"⟩ : MethodName)) hown (mvT hZ (hw _ (List.mem_of_getElem? (i := 4) rfl))) (mvT hZ (hw _ (List.mem_of_getElem? (i := 5) rfl))) (mvT hZ (hw _ (List.mem_of_getElem? (i := 6) rfl))) (mvT hZ (hw _ (List.mem_of_getElem? (i := 7) rfl))) (by decide) (backOf (W := 0) (rm1_3 l Z a0 hw [] v94 b129 kx129 (nar .byte v98) (nar .byte v98) (nar .byte v98) (nar .byte v98) hX145 n0 Z147 F146 g_b129 hp149_h1 hp149_h2 hp149_h3) hZ (hw _ (List.mem_of_getElem? (i := 7) rfl)) (hw _ (List.mem_of_getElem? (i := 6) rfl)) (by decide) (by decide)) (g := (mkF m 133 #[.val (.int k1), .val (.int k2), .val (.int k3), .val (.int v4), .val (.int (3 : Int32)), .val (.int v94), .val (.int v98), .val (.ref b129), .unset, .unset, .unset, .unset, .unset, .unset, .unset, .unset] [(.ref b129), (.int v94)])) rfl (by rw [hml]; rfl) (argsL := [(.int v94), (.ref b129)]) (rest := []) (lenOf pd_0 rfl) rfl (by show 2 * 0 + _ ≤ _; exact Nat.le_of_eq rfl) (hb hby at_133) (fun _ _ => ⟨rfl, e145, (by decide : 1 + 0 ≤ _), (by decide : 4 + 0 ≤ _)⟩)
    dsimp only [Pt.U, Pt.locs, Pt.cells, Pt.slots] at X149 l149 y149 z149 st149 hQ149
    subst l149 y149 z149
    obtain ⟨rfl, N149q, K149q, F150⟩ := hQ149
    have N149 := Fr.app N145 N149q
    have Z151 : n0 ≤ T149.heap.size := Nat.le_trans Z147 K149q.1
    have K152 : Keep h0 T149.heap [] := K148.trans K149q (allS (Or.inr sz_b129) all0)
    obtain ⟨cl153, Ar153, q153, S153, M153, H153, G153⟩ := id F150
    have hin153 : ¬ ((0 : Int32) < 0 ∨ cl153.slots.size ≤ ((0 : Int32)).toNatClampNeg) := inb_of S153 ⟨by decide, by decide⟩
    have hat153 : cl153.slots[((0 : Int32)).toNatClampNeg]? = some (.int (nar .byte (((240 : Int32) ||| (v94 >>> ((18 : Int32) &&& 31))).toInt8.toInt32))) := Has.at H153 hin153 rfl
    obtain ⟨v199, hv199⟩ : ∃ z_q : Int32, z_q = ((nar .byte (((240 : Int32) ||| (v94 >>> ((18 : Int32) &&& 31))).toInt8.toInt32)) &&& (255 : Int32)) := ⟨_, rfl⟩
    obtain ⟨cl154, Ar154, q154, S154, M154, H154, G154⟩ := id F150
    have hin154 : ¬ ((1 : Int32) < 0 ∨ cl154.slots.size ≤ ((1 : Int32)).toNatClampNeg) := inb_of S154 ⟨by decide, by decide⟩
    have hat154 : cl154.slots[((1 : Int32)).toNatClampNeg]? = some (.int (nar .byte (((128 : Int32) ||| ((v94 >>> ((12 : Int32) &&& 31)) &&& (63 : Int32))).toInt8.toInt32))) := Has.at H154 hin154 rfl
    obtain ⟨v209, hv209⟩ : ∃ z_q : Int32, z_q = ((nar .byte (((128 : Int32) ||| ((v94 >>> ((12 : Int32) &&& 31)) &&& (63 : Int32))).toInt8.toInt32)) &&& (255 : Int32)) := ⟨_, rfl⟩
    obtain ⟨cl155, Ar155, q155, S155, M155, H155, G155⟩ := id F150
    have hin155 : ¬ ((2 : Int32) < 0 ∨ cl155.slots.size ≤ ((2 : Int32)).toNatClampNeg) := inb_of S155 ⟨by decide, by decide⟩
    have hat155 : cl155.slots[((2 : Int32)).toNatClampNeg]? = some (.int (nar .byte (((128 : Int32) ||| ((v94 >>> ((6 : Int32) &&& 31)) &&& (63 : Int32))).toInt8.toInt32))) := Has.at H155 hin155 rfl
    obtain ⟨v219, hv219⟩ : ∃ z_q : Int32, z_q = ((nar .byte (((128 : Int32) ||| ((v94 >>> ((6 : Int32) &&& 31)) &&& (63 : Int32))).toInt8.toInt32)) &&& (255 : Int32)) := ⟨_, rfl⟩
    obtain ⟨cl156, Ar156, q156, S156, M156, H156, G156⟩ := id F150
    have hin156 : ¬ ((3 : Int32) < 0 ∨ cl156.slots.size ≤ ((3 : Int32)).toNatClampNeg) := inb_of S156 ⟨by decide, by decide⟩
    have hat156 : cl156.slots[((3 : Int32)).toNatClampNeg]? = some (.int (nar .byte (((128 : Int32) ||| (v94 &&& (63 : Int32))).toInt8.toInt32))) := Has.at H156 hin156 rfl
    obtain ⟨v229, hv229⟩ : ∃ z_q : Int32, z_q = ((nar .byte (((128 : Int32) ||| (v94 &&& (63 : Int32))).toInt8.toInt32)) &&& (255 : Int32)) := ⟨_, rfl⟩
    obtain ⟨m483, hm483⟩ : ∃ z_q : Int32, z_q = (if (v199 &&& (248 : Int32)) = (240 : Int32) then (if (v209 &&& (192 : Int32)) = (128 : Int32) then (if (v219 &&& (192 : Int32)) = (128 : Int32) then (if (v229 &&& (192 : Int32)) = (128 : Int32) then (if (((((v199 &&& (7 : Int32)) <<< ((18 : Int32) &&& 31)) ||| ((v209 &&& (63 : Int32)) <<< ((12 : Int32) &&& 31))) ||| ((v219 &&& (63 : Int32)) <<< ((6 : Int32) &&& 31))) ||| (v229 &&& (63 : Int32))) = v94 then (1 : Int32) else (0 : Int32)) else (0 : Int32)) else (0 : Int32)) else (0 : Int32)) else (0 : Int32)) := ⟨_, rfl⟩
    have pre162 : ∀ tq, Steps p.tables e below (T149.setTop (mkF m 483 #[.val (.int k1), .val (.int k2), .val (.int k3), .val (.int v4), .val (.int (3 : Int32)), .val (.int v94), .val (.int v98), .val (.ref b129), .val (.int (4 : Int32)), .val (.int (4 : Int32)), .val (.int v199), .val (.int v209), .val (.int v219), .val (.int v229), .unset, .unset] [(.int m483)])) tq → Steps p.tables e below (s₁.setTop (entryFrame m #[(.int k1), (.int k2), (.int k3)] maxLocals)) tq := by
      intro tq kt
      refine pre1 _ ?_
      show Steps p.tables e below (s₁.setTop (mkF m 10 #[.val (.int k1), .val (.int k2), .val (.int k3), .val (.int v4), .val (.int (3 : Int32)), .unset, .unset, .unset, .unset, .unset, .unset, .unset, .unset, .unset, .unset, .unset] [])) _
      refine XS.iload X0.here hx rfl (hb hby at_10) rfl ?_
      show Steps p.tables e below (s₁.setTop (mkF m 12 #[.val (.int k1), .val (.int k2), .val (.int k3), .val (.int v4), .val (.int (3 : Int32)), .unset, .unset, .unset, .unset, .unset, .unset, .unset, .unset, .unset, .unset, .unset] [(.int (3 : Int32))])) _
      refine XS.ifYes X0.here hx rfl (pc0 := 12) (pc' := 24) rfl (hb hby at_12) rfl ((if0 _ _).trans (feq (by decide)).2) (by decide) (by decide) ?_
      show Steps p.tables e below (s₁.setTop (mkF m 24 #[.val (.int k1), .val (.int k2), .val (.int k3), .val (.int v4), .val (.int (3 : Int32)), .unset, .unset, .unset, .unset, .unset, .unset, .unset, .unset, .unset, .unset, .unset] [])) _
      refine XS.iload X0.here hx rfl (hb hby at_24) rfl ?_
      show Steps p.tables e below (s₁.setTop (mkF m 26 #[.val (.int k1), .val (.int k2), .val (.int k3), .val (.int v4), .val (.int (3 : Int32)), .unset, .unset, .unset, .unset, .unset, .unset, .unset, .unset, .unset, .unset, .unset] [(.int (3 : Int32))])) _
      refine XS.iconst X0.here hx rfl (hb hby at_26) ?_
      show Steps p.tables e below (s₁.setTop (mkF m 27 #[.val (.int k1), .val (.int k2), .val (.int k3), .val (.int v4), .val (.int (3 : Int32)), .unset, .unset, .unset, .unset, .unset, .unset, .unset, .unset, .unset, .unset, .unset] [(.int (1 : Int32)), (.int (3 : Int32))])) _
      refine XS.icmpYes X0.here hx rfl (pc0 := 27) (pc' := 44) rfl (hb hby at_27) rfl (feq (by decide)).2 (by decide) (by decide) ?_
      show Steps p.tables e below (s₁.setTop (mkF m 44 #[.val (.int k1), .val (.int k2), .val (.int k3), .val (.int v4), .val (.int (3 : Int32)), .unset, .unset, .unset, .unset, .unset, .unset, .unset, .unset, .unset, .unset, .unset] [])) _
      refine XS.iload X0.here hx rfl (hb hby at_44) rfl ?_
      show Steps p.tables e below (s₁.setTop (mkF m 46 #[.val (.int k1), .val (.int k2), .val (.int k3), .val (.int v4), .val (.int (3 : Int32)), .unset, .unset, .unset, .unset, .unset, .unset, .unset, .unset, .unset, .unset, .unset] [(.int (3 : Int32))])) _
      refine XS.iconst X0.here hx rfl (hb hby at_46) ?_
      show Steps p.tables e below (s₁.setTop (mkF m 47 #[.val (.int k1), .val (.int k2), .val (.int k3), .val (.int v4), .val (.int (3 : Int32)), .unset, .unset, .unset, .unset, .unset, .unset, .unset, .unset, .unset, .unset, .unset] [(.int (2 : Int32)), (.int (3 : Int32))])) _
      refine XS.icmpYes X0.here hx rfl (pc0 := 47) (pc' := 87) rfl (hb hby at_47) rfl (feq (by decide)).2 (by decide) (by decide) ?_
      show Steps p.tables e below (s₁.setTop (mkF m 87 #[.val (.int k1), .val (.int k2), .val (.int k3), .val (.int v4), .val (.int (3 : Int32)), .unset, .unset, .unset, .unset, .unset, .unset, .unset, .unset, .unset, .unset, .unset] [])) _
      refine X0.ldcInt hx hown (mvT hZ (hw _ (List.mem_of_getElem? (i := 1) rfl))) (g := (mkF m 87 #[.val (.int k1), .val (.int k2), .val (.int k3), .val (.int v4), .val (.int (3 : Int32)), .unset, .unset, .unset, .unset, .unset, .unset, .unset, .unset, .unset, .unset, .unset] [])) rfl (hb hby at_87) _ ?_
      show Steps p.tables e below (s₁.setTop (mkF m 89 #[.val (.int k1), .val (.int k2), .val (.int k3), .val (.int v4), .val (.int (3 : Int32)), .unset, .unset, .unset, .unset, .unset, .unset, .unset, .unset, .unset, .unset, .unset] [(.int (65536 : Int32))])) _
      refine XS.iloadN X0.here hx rfl (hb hby at_89) rfl ?_
      show Steps p.tables e below (s₁.setTop (mkF m 90 #[.val (.int k1), .val (.int k2), .val (.int k3), .val (.int v4), .val (.int (3 : Int32)), .unset, .unset, .unset, .unset, .unset, .unset, .unset, .unset, .unset, .unset, .unset] [(.int v4), (.int (65536 : Int32))])) _
      refine X0.ldcInt hx hown (mvT hZ (hw _ (List.mem_of_getElem? (i := 2) rfl))) (g := (mkF m 90 #[.val (.int k1), .val (.int k2), .val (.int k3), .val (.int v4), .val (.int (3 : Int32)), .unset, .unset, .unset, .unset, .unset, .unset, .unset, .unset, .unset, .unset, .unset] [(.int v4), (.int (65536 : Int32))])) rfl (hb hby at_90) _ ?_
      show Steps p.tables e below (s₁.setTop (mkF m 92 #[.val (.int k1), .val (.int k2), .val (.int k3), .val (.int v4), .val (.int (3 : Int32)), .unset, .unset, .unset, .unset, .unset, .unset, .unset, .unset, .unset, .unset, .unset] [(.int (1048576 : Int32)), (.int v4), (.int (65536 : Int32))])) _
      refine iremM X0 hx rfl (hb hby at_92) rfl (by decide : ¬ ((1048576 : Int32) = (0 : Int32))) ?_
      show Steps p.tables e below (s₁.setTop (mkF m 93 #[.val (.int k1), .val (.int k2), .val (.int k3), .val (.int v4), .val (.int (3 : Int32)), .unset, .unset, .unset, .unset, .unset, .unset, .unset, .unset, .unset, .unset, .unset] [(.int (v4 % (1048576 : Int32))), (.int (65536 : Int32))])) _
      refine XS.iadd X0.here hx rfl (hb hby at_93) rfl ?_
      show Steps p.tables e below (s₁.setTop (mkF m 94 #[.val (.int k1), .val (.int k2), .val (.int k3), .val (.int v4), .val (.int (3 : Int32)), .unset, .unset, .unset, .unset, .unset, .unset, .unset, .unset, .unset, .unset, .unset] [(.int ((65536 : Int32) + (v4 % (1048576 : Int32))))])) _
      refine XS.istore X0.here hx rfl (hb hby at_94) rfl (l' := #[.val (.int k1), .val (.int k2), .val (.int k3), .val (.int v4), .val (.int (3 : Int32)), .val (.int v94), .unset, .unset, .unset, .unset, .unset, .unset, .unset, .unset, .unset, .unset]) (by rw [hv94]; rfl) ?_
      show Steps p.tables e below (s₁.setTop (mkF m 96 #[.val (.int k1), .val (.int k2), .val (.int k3), .val (.int v4), .val (.int (3 : Int32)), .val (.int v94), .unset, .unset, .unset, .unset, .unset, .unset, .unset, .unset, .unset, .unset] [])) _
      refine XS.iloadN X0.here hx rfl (hb hby at_96) rfl ?_
      show Steps p.tables e below (s₁.setTop (mkF m 97 #[.val (.int k1), .val (.int k2), .val (.int k3), .val (.int v4), .val (.int (3 : Int32)), .val (.int v94), .unset, .unset, .unset, .unset, .unset, .unset, .unset, .unset, .unset, .unset] [(.int k3)])) _
      refine XS.i2b X0.here hx rfl (hb hby at_97) rfl ?_
      show Steps p.tables e below (s₁.setTop (mkF m 98 #[.val (.int k1), .val (.int k2), .val (.int k3), .val (.int v4), .val (.int (3 : Int32)), .val (.int v94), .unset, .unset, .unset, .unset, .unset, .unset, .unset, .unset, .unset, .unset] [(.int (k3.toInt8.toInt32))])) _
      refine XS.istore X0.here hx rfl (hb hby at_98) rfl (l' := #[.val (.int k1), .val (.int k2), .val (.int k3), .val (.int v4), .val (.int (3 : Int32)), .val (.int v94), .val (.int v98), .unset, .unset, .unset, .unset, .unset, .unset, .unset, .unset, .unset]) (by rw [hv98]; rfl) ?_
      show Steps p.tables e below (s₁.setTop (mkF m 100 #[.val (.int k1), .val (.int k2), .val (.int k3), .val (.int v4), .val (.int (3 : Int32)), .val (.int v94), .val (.int v98), .unset, .unset, .unset, .unset, .unset, .unset, .unset, .unset, .unset] [])) _
      refine XS.iconst X0.here hx rfl (hb hby at_100) ?_
      show Steps p.tables e below (s₁.setTop (mkF m 101 #[.val (.int k1), .val (.int k2), .val (.int k3), .val (.int v4), .val (.int (3 : Int32)), .val (.int v94), .val (.int v98), .unset, .unset, .unset, .unset, .unset, .unset, .unset, .unset, .unset] [(.int (4 : Int32))])) _
      refine st129 _ ?_
      show Steps p.tables e below (T129.setTop (mkF m 103 #[.val (.int k1), .val (.int k2), .val (.int k3), .val (.int v4), .val (.int (3 : Int32)), .val (.int v94), .val (.int v98), .unset, .unset, .unset, .unset, .unset, .unset, .unset, .unset, .unset] [(.ref b129)])) _
      refine XS.astore X129.here hx rfl (hb hby at_103) rfl rfl (l' := #[.val (.int k1), .val (.int k2), .val (.int k3), .val (.int v4), .val (.int (3 : Int32)), .val (.int v94), .val (.int v98), .val (.ref b129), .unset, .unset, .unset, .unset, .unset, .unset, .unset, .unset]) rfl ?_
      show Steps p.tables e below (T129.setTop (mkF m 105 #[.val (.int k1), .val (.int k2), .val (.int k3), .val (.int v4), .val (.int (3 : Int32)), .val (.int v94), .val (.int v98), .val (.ref b129), .unset, .unset, .unset, .unset, .unset, .unset, .unset, .unset] [])) _
      refine XS.aload X129.here hx rfl (hb hby at_105) rfl rfl ?_
      show Steps p.tables e below (T129.setTop (mkF m 107 #[.val (.int k1), .val (.int k2), .val (.int k3), .val (.int v4), .val (.int (3 : Int32)), .val (.int v94), .val (.int v98), .val (.ref b129), .unset, .unset, .unset, .unset, .unset, .unset, .unset, .unset] [(.ref b129)])) _
      refine XS.iconst X129.here hx rfl (hb hby at_107) ?_
      show Steps p.tables e below (T129.setTop (mkF m 108 #[.val (.int k1), .val (.int k2), .val (.int k3), .val (.int v4), .val (.int (3 : Int32)), .val (.int v94), .val (.int v98), .val (.ref b129), .unset, .unset, .unset, .unset, .unset, .unset, .unset, .unset] [(.int (0 : Int32)), (.ref b129)])) _
      refine XS.iload X129.here hx rfl (hb hby at_108) rfl ?_
      show Steps p.tables e below (T129.setTop (mkF m 110 #[.val (.int k1), .val (.int k2), .val (.int k3), .val (.int v4), .val (.int (3 : Int32)), .val (.int v94), .val (.int v98), .val (.ref b129), .unset, .unset, .unset, .unset, .unset, .unset, .unset, .unset] [(.int v98), (.int (0 : Int32)), (.ref b129)])) _
      refine st133 _ ?_
      show Steps p.tables e below (T133.setTop (mkF m 111 #[.val (.int k1), .val (.int k2), .val (.int k3), .val (.int v4), .val (.int (3 : Int32)), .val (.int v94), .val (.int v98), .val (.ref b129), .unset, .unset, .unset, .unset, .unset, .unset, .unset, .unset] [])) _
      refine XS.aload X133.here hx rfl (hb hby at_111) rfl rfl ?_
      show Steps p.tables e below (T133.setTop (mkF m 113 #[.val (.int k1), .val (.int k2), .val (.int k3), .val (.int v4), .val (.int (3 : Int32)), .val (.int v94), .val (.int v98), .val (.ref b129), .unset, .unset, .unset, .unset, .unset, .unset, .unset, .unset] [(.ref b129)])) _
      refine XS.iconst X133.here hx rfl (hb hby at_113) ?_
      show Steps p.tables e below (T133.setTop (mkF m 114 #[.val (.int k1), .val (.int k2), .val (.int k3), .val (.int v4), .val (.int (3 : Int32)), .val (.int v94), .val (.int v98), .val (.ref b129), .unset, .unset, .unset, .unset, .unset, .unset, .unset, .unset] [(.int (1 : Int32)), (.ref b129)])) _
      refine XS.iload X133.here hx rfl (hb hby at_114) rfl ?_
      show Steps p.tables e below (T133.setTop (mkF m 116 #[.val (.int k1), .val (.int k2), .val (.int k3), .val (.int v4), .val (.int (3 : Int32)), .val (.int v94), .val (.int v98), .val (.ref b129), .unset, .unset, .unset, .unset, .unset, .unset, .unset, .unset] [(.int v98), (.int (1 : Int32)), (.ref b129)])) _
      refine st137 _ ?_
      show Steps p.tables e below (T137.setTop (mkF m 117 #[.val (.int k1), .val (.int k2), .val (.int k3), .val (.int v4), .val (.int (3 : Int32)), .val (.int v94), .val (.int v98), .val (.ref b129), .unset, .unset, .unset, .unset, .unset, .unset, .unset, .unset] [])) _
      refine XS.aload X137.here hx rfl (hb hby at_117) rfl rfl ?_
      show Steps p.tables e below (T137.setTop (mkF m 119 #[.val (.int k1), .val (.int k2), .val (.int k3), .val (.int v4), .val (.int (3 : Int32)), .val (.int v94), .val (.int v98), .val (.ref b129), .unset, .unset, .unset, .unset, .unset, .unset, .unset, .unset] [(.ref b129)])) _
      refine XS.iconst X137.here hx rfl (hb hby at_119) ?_
      show Steps p.tables e below (T137.setTop (mkF m 120 #[.val (.int k1), .val (.int k2), .val (.int k3), .val (.int v4), .val (.int (3 : Int32)), .val (.int v94), .val (.int v98), .val (.ref b129), .unset, .unset, .unset, .unset, .unset, .unset, .unset, .unset] [(.int (2 : Int32)), (.ref b129)])) _
      refine XS.iload X137.here hx rfl (hb hby at_120) rfl ?_
      show Steps p.tables e below (T137.setTop (mkF m 122 #[.val (.int k1), .val (.int k2), .val (.int k3), .val (.int v4), .val (.int (3 : Int32)), .val (.int v94), .val (.int v98), .val (.ref b129), .unset, .unset, .unset, .unset, .unset, .unset, .unset, .unset] [(.int v98), (.int (2 : Int32)), (.ref b129)])) _
      refine st141 _ ?_
      show Steps p.tables e below (T141.setTop (mkF m 123 #[.val (.int k1), .val (.int k2), .val (.int k3), .val (.int v4), .val (.int (3 : Int32)), .val (.int v94), .val (.int v98), .val (.ref b129), .unset, .unset, .unset, .unset, .unset, .unset, .unset, .unset] [])) _
      refine XS.aload X141.here hx rfl (hb hby at_123) rfl rfl ?_
      show Steps p.tables e below (T141.setTop (mkF m 125 #[.val (.int k1), .val (.int k2), .val (.int k3), .val (.int v4), .val (.int (3 : Int32)), .val (.int v94), .val (.int v98), .val (.ref b129), .unset, .unset, .unset, .unset, .unset, .unset, .unset, .unset] [(.ref b129)])) _
      refine XS.iconst X141.here hx rfl (hb hby at_125) ?_
      show Steps p.tables e below (T141.setTop (mkF m 126 #[.val (.int k1), .val (.int k2), .val (.int k3), .val (.int v4), .val (.int (3 : Int32)), .val (.int v94), .val (.int v98), .val (.ref b129), .unset, .unset, .unset, .unset, .unset, .unset, .unset, .unset] [(.int (3 : Int32)), (.ref b129)])) _
      refine XS.iload X141.here hx rfl (hb hby at_126) rfl ?_
      show Steps p.tables e below (T141.setTop (mkF m 128 #[.val (.int k1), .val (.int k2), .val (.int k3), .val (.int v4), .val (.int (3 : Int32)), .val (.int v94), .val (.int v98), .val (.ref b129), .unset, .unset, .unset, .unset, .unset, .unset, .unset, .unset] [(.int v98), (.int (3 : Int32)), (.ref b129)])) _
      refine st145 _ ?_
      show Steps p.tables e below (T145.setTop (mkF m 129 #[.val (.int k1), .val (.int k2), .val (.int k3), .val (.int v4), .val (.int (3 : Int32)), .val (.int v94), .val (.int v98), .val (.ref b129), .unset, .unset, .unset, .unset, .unset, .unset, .unset, .unset] [])) _
      refine XS.iload X145.here hx rfl (hb hby at_129) rfl ?_
      show Steps p.tables e below (T145.setTop (mkF m 131 #[.val (.int k1), .val (.int k2), .val (.int k3), .val (.int v4), .val (.int (3 : Int32)), .val (.int v94), .val (.int v98), .val (.ref b129), .unset, .unset, .unset, .unset, .unset, .unset, .unset, .unset] [(.int v94)])) _
      refine XS.aload X145.here hx rfl (hb hby at_131) rfl rfl ?_
      show Steps p.tables e below (T145.setTop (mkF m 133 #[.val (.int k1), .val (.int k2), .val (.int k3), .val (.int v4), .val (.int (3 : Int32)), .val (.int v94), .val (.int v98), .val (.ref b129), .unset, .unset, .unset, .unset, .unset, .unset, .unset, .unset] [(.ref b129), (.int v94)])) _
      refine st149 _ ?_
      show Steps p.tables e below (T149.setTop (mkF m 136 #[.val (.int k1), .val (.int k2), .val (.int k3), .val (.int v4), .val (.int (3 : Int32)), .val (.int v94), .val (.int v98), .val (.ref b129), .unset, .unset, .unset, .unset, .unset, .unset, .unset, .unset] [(.int (4 : Int32))])) _
      refine XS.istore X149.here hx rfl (hb hby at_136) rfl (l' := #[.val (.int k1), .val (.int k2), .val (.int k3), .val (.int v4), .val (.int (3 : Int32)), .val (.int v94), .val (.int v98), .val (.ref b129), .val (.int (4 : Int32)), .unset, .unset, .unset, .unset, .unset, .unset, .unset]) rfl ?_
      show Steps p.tables e below (T149.setTop (mkF m 138 #[.val (.int k1), .val (.int k2), .val (.int k3), .val (.int v4), .val (.int (3 : Int32)), .val (.int v94), .val (.int v98), .val (.ref b129), .val (.int (4 : Int32)), .unset, .unset, .unset, .unset, .unset, .unset, .unset] [])) _
      refine XS.iload X149.here hx rfl (hb hby at_138) rfl ?_
      show Steps p.tables e below (T149.setTop (mkF m 140 #[.val (.int k1), .val (.int k2), .val (.int k3), .val (.int v4), .val (.int (3 : Int32)), .val (.int v94), .val (.int v98), .val (.ref b129), .val (.int (4 : Int32)), .unset, .unset, .unset, .unset, .unset, .unset, .unset] [(.int v94)])) _
      refine XS.sipush X149.here hx rfl (hb hby at_140) ?_
      show Steps p.tables e below (T149.setTop (mkF m 143 #[.val (.int k1), .val (.int k2), .val (.int k3), .val (.int v4), .val (.int (3 : Int32)), .val (.int v94), .val (.int v98), .val (.ref b129), .val (.int (4 : Int32)), .unset, .unset, .unset, .unset, .unset, .unset, .unset] [(.int (128 : Int32)), (.int v94)])) _
      refine XS.icmpYes X149.here hx rfl (pc0 := 143) (pc' := 152) rfl (hb hby at_143) rfl (flt hp149_h1).2.1 (by decide) (by decide) ?_
      show Steps p.tables e below (T149.setTop (mkF m 152 #[.val (.int k1), .val (.int k2), .val (.int k3), .val (.int v4), .val (.int (3 : Int32)), .val (.int v94), .val (.int v98), .val (.ref b129), .val (.int (4 : Int32)), .unset, .unset, .unset, .unset, .unset, .unset, .unset] [])) _
      refine XS.iload X149.here hx rfl (hb hby at_152) rfl ?_
      show Steps p.tables e below (T149.setTop (mkF m 154 #[.val (.int k1), .val (.int k2), .val (.int k3), .val (.int v4), .val (.int (3 : Int32)), .val (.int v94), .val (.int v98), .val (.ref b129), .val (.int (4 : Int32)), .unset, .unset, .unset, .unset, .unset, .unset, .unset] [(.int v94)])) _
      refine XS.sipush X149.here hx rfl (hb hby at_154) ?_
      show Steps p.tables e below (T149.setTop (mkF m 157 #[.val (.int k1), .val (.int k2), .val (.int k3), .val (.int v4), .val (.int (3 : Int32)), .val (.int v94), .val (.int v98), .val (.ref b129), .val (.int (4 : Int32)), .unset, .unset, .unset, .unset, .unset, .unset, .unset] [(.int (2048 : Int32)), (.int v94)])) _
      refine XS.icmpYes X149.here hx rfl (pc0 := 157) (pc' := 166) rfl (hb hby at_157) rfl (flt hp149_h2).2.1 (by decide) (by decide) ?_
      show Steps p.tables e below (T149.setTop (mkF m 166 #[.val (.int k1), .val (.int k2), .val (.int k3), .val (.int v4), .val (.int (3 : Int32)), .val (.int v94), .val (.int v98), .val (.ref b129), .val (.int (4 : Int32)), .unset, .unset, .unset, .unset, .unset, .unset, .unset] [])) _
      refine XS.iload X149.here hx rfl (hb hby at_166) rfl ?_
      show Steps p.tables e below (T149.setTop (mkF m 168 #[.val (.int k1), .val (.int k2), .val (.int k3), .val (.int v4), .val (.int (3 : Int32)), .val (.int v94), .val (.int v98), .val (.ref b129), .val (.int (4 : Int32)), .unset, .unset, .unset, .unset, .unset, .unset, .unset] [(.int v94)])) _
      refine X149.ldcInt hx hown (mvT hZ (hw _ (List.mem_of_getElem? (i := 1) rfl))) (g := (mkF m 168 #[.val (.int k1), .val (.int k2), .val (.int k3), .val (.int v4), .val (.int (3 : Int32)), .val (.int v94), .val (.int v98), .val (.ref b129), .val (.int (4 : Int32)), .unset, .unset, .unset, .unset, .unset, .unset, .unset] [(.int v94)])) rfl (hb hby at_168) _ ?_
      show Steps p.tables e below (T149.setTop (mkF m 170 #[.val (.int k1), .val (.int k2), .val (.int k3), .val (.int v4), .val (.int (3 : Int32)), .val (.int v94), .val (.int v98), .val (.ref b129), .val (.int (4 : Int32)), .unset, .unset, .unset, .unset, .unset, .unset, .unset] [(.int (65536 : Int32)), (.int v94)])) _
      refine XS.icmpYes X149.here hx rfl (pc0 := 170) (pc' := 179) rfl (hb hby at_170) rfl (flt hp149_h3).2.1 (by decide) (by decide) ?_
      show Steps p.tables e below (T149.setTop (mkF m 179 #[.val (.int k1), .val (.int k2), .val (.int k3), .val (.int v4), .val (.int (3 : Int32)), .val (.int v94), .val (.int v98), .val (.ref b129), .val (.int (4 : Int32)), .unset, .unset, .unset, .unset, .unset, .unset, .unset] [])) _
      refine XS.iconst X149.here hx rfl (hb hby at_179) ?_
      show Steps p.tables e below (T149.setTop (mkF m 180 #[.val (.int k1), .val (.int k2), .val (.int k3), .val (.int v4), .val (.int (3 : Int32)), .val (.int v94), .val (.int v98), .val (.ref b129), .val (.int (4 : Int32)), .unset, .unset, .unset, .unset, .unset, .unset, .unset] [(.int (4 : Int32))])) _
      refine XS.istore X149.here hx rfl (hb hby at_180) rfl (l' := #[.val (.int k1), .val (.int k2), .val (.int k3), .val (.int v4), .val (.int (3 : Int32)), .val (.int v94), .val (.int v98), .val (.ref b129), .val (.int (4 : Int32)), .val (.int (4 : Int32)), .unset, .unset, .unset, .unset, .unset, .unset]) rfl ?_
      show Steps p.tables e below (T149.setTop (mkF m 182 #[.val (.int k1), .val (.int k2), .val (.int k3), .val (.int v4), .val (.int (3 : Int32)), .val (.int v94), .val (.int v98), .val (.ref b129), .val (.int (4 : Int32)), .val (.int (4 : Int32)), .unset, .unset, .unset, .unset, .unset, .unset] [])) _
      refine XS.iload X149.here hx rfl (hb hby at_182) rfl ?_
      show Steps p.tables e below (T149.setTop (mkF m 184 #[.val (.int k1), .val (.int k2), .val (.int k3), .val (.int v4), .val (.int (3 : Int32)), .val (.int v94), .val (.int v98), .val (.ref b129), .val (.int (4 : Int32)), .val (.int (4 : Int32)), .unset, .unset, .unset, .unset, .unset, .unset] [(.int (4 : Int32))])) _
      refine XS.iload X149.here hx rfl (hb hby at_184) rfl ?_
      show Steps p.tables e below (T149.setTop (mkF m 186 #[.val (.int k1), .val (.int k2), .val (.int k3), .val (.int v4), .val (.int (3 : Int32)), .val (.int v94), .val (.int v98), .val (.ref b129), .val (.int (4 : Int32)), .val (.int (4 : Int32)), .unset, .unset, .unset, .unset, .unset, .unset] [(.int (4 : Int32)), (.int (4 : Int32))])) _
      refine XS.icmpYes X149.here hx rfl (pc0 := 186) (pc' := 191) rfl (hb hby at_186) rfl (teq rfl).1 (by decide) (by decide) ?_
      show Steps p.tables e below (T149.setTop (mkF m 191 #[.val (.int k1), .val (.int k2), .val (.int k3), .val (.int v4), .val (.int (3 : Int32)), .val (.int v94), .val (.int v98), .val (.ref b129), .val (.int (4 : Int32)), .val (.int (4 : Int32)), .unset, .unset, .unset, .unset, .unset, .unset] [])) _
      refine XS.aload X149.here hx rfl (hb hby at_191) rfl rfl ?_
      show Steps p.tables e below (T149.setTop (mkF m 193 #[.val (.int k1), .val (.int k2), .val (.int k3), .val (.int v4), .val (.int (3 : Int32)), .val (.int v94), .val (.int v98), .val (.ref b129), .val (.int (4 : Int32)), .val (.int (4 : Int32)), .unset, .unset, .unset, .unset, .unset, .unset] [(.ref b129)])) _
      refine XS.iconst X149.here hx rfl (hb hby at_193) ?_
      show Steps p.tables e below (T149.setTop (mkF m 194 #[.val (.int k1), .val (.int k2), .val (.int k3), .val (.int v4), .val (.int (3 : Int32)), .val (.int v94), .val (.int v98), .val (.ref b129), .val (.int (4 : Int32)), .val (.int (4 : Int32)), .unset, .unset, .unset, .unset, .unset, .unset] [(.int (0 : Int32)), (.ref b129)])) _
      refine X149.baloadBytes hx (j := (0 : Int32)) (v := (.int (nar .byte (((240 : Int32) ||| (v94 >>> ((18 : Int32) &&& 31))).toInt8.toInt32)))) (heq_of rfl Ar153.1) (State.isArrayOf_alike hZ.alike Ar153.2.1) Ar153.2.2 hin153 hat153 (g := (mkF m 194 #[.val (.int k1), .val (.int k2), .val (.int k3), .val (.int v4), .val (.int (3 : Int32)), .val (.int v94), .val (.int v98), .val (.ref b129), .val (.int (4 : Int32)), .val (.int (4 : Int32)), .unset, .unset, .unset, .unset, .unset, .unset] [(.int (0 : Int32)), (.ref b129)])) rfl rfl (hb hby at_194) _ ?_
      show Steps p.tables e below (T149.setTop (mkF m 195 #[.val (.int k1), .val (.int k2), .val (.int k3), .val (.int v4), .val (.int (3 : Int32)), .val (.int v94), .val (.int v98), .val (.ref b129), .val (.int (4 : Int32)), .val (.int (4 : Int32)), .unset, .unset, .unset, .unset, .unset, .unset] [(.int (nar .byte (((240 : Int32) ||| (v94 >>> ((18 : Int32) &&& 31))).toInt8.toInt32)))])) _
      refine XS.sipush X149.here hx rfl (hb hby at_195) ?_
      show Steps p.tables e below (T149.setTop (mkF m 198 #[.val (.int k1), .val (.int k2), .val (.int k3), .val (.int v4), .val (.int (3 : Int32)), .val (.int v94), .val (.int v98), .val (.ref b129), .val (.int (4 : Int32)), .val (.int (4 : Int32)), .unset, .unset, .unset, .unset, .unset, .unset] [(.int (255 : Int32)), (.int (nar .byte (((240 : Int32) ||| (v94 >>> ((18 : Int32) &&& 31))).toInt8.toInt32)))])) _
      refine XS.iand X149.here hx rfl (hb hby at_198) rfl ?_
      show Steps p.tables e below (T149.setTop (mkF m 199 #[.val (.int k1), .val (.int k2), .val (.int k3), .val (.int v4), .val (.int (3 : Int32)), .val (.int v94), .val (.int v98), .val (.ref b129), .val (.int (4 : Int32)), .val (.int (4 : Int32)), .unset, .unset, .unset, .unset, .unset, .unset] [(.int ((nar .byte (((240 : Int32) ||| (v94 >>> ((18 : Int32) &&& 31))).toInt8.toInt32)) &&& (255 : Int32)))])) _
      refine XS.istore X149.here hx rfl (hb hby at_199) rfl (l' := #[.val (.int k1), .val (.int k2), .val (.int k3), .val (.int v4), .val (.int (3 : Int32)), .val (.int v94), .val (.int v98), .val (.ref b129), .val (.int (4 : Int32)), .val (.int (4 : Int32)), .val (.int v199), .unset, .unset, .unset, .unset, .unset]) (by rw [hv199]; rfl) ?_
      show Steps p.tables e below (T149.setTop (mkF m 201 #[.val (.int k1), .val (.int k2), .val (.int k3), .val (.int v4), .val (.int (3 : Int32)), .val (.int v94), .val (.int v98), .val (.ref b129), .val (.int (4 : Int32)), .val (.int (4 : Int32)), .val (.int v199), .unset, .unset, .unset, .unset, .unset] [])) _
      refine XS.aload X149.here hx rfl (hb hby at_201) rfl rfl ?_
      show Steps p.tables e below (T149.setTop (mkF m 203 #[.val (.int k1), .val (.int k2), .val (.int k3), .val (.int v4), .val (.int (3 : Int32)), .val (.int v94), .val (.int v98), .val (.ref b129), .val (.int (4 : Int32)), .val (.int (4 : Int32)), .val (.int v199), .unset, .unset, .unset, .unset, .unset] [(.ref b129)])) _
      refine XS.iconst X149.here hx rfl (hb hby at_203) ?_
      show Steps p.tables e below (T149.setTop (mkF m 204 #[.val (.int k1), .val (.int k2), .val (.int k3), .val (.int v4), .val (.int (3 : Int32)), .val (.int v94), .val (.int v98), .val (.ref b129), .val (.int (4 : Int32)), .val (.int (4 : Int32)), .val (.int v199), .unset, .unset, .unset, .unset, .unset] [(.int (1 : Int32)), (.ref b129)])) _
      refine X149.baloadBytes hx (j := (1 : Int32)) (v := (.int (nar .byte (((128 : Int32) ||| ((v94 >>> ((12 : Int32) &&& 31)) &&& (63 : Int32))).toInt8.toInt32)))) (heq_of rfl Ar154.1) (State.isArrayOf_alike hZ.alike Ar154.2.1) Ar154.2.2 hin154 hat154 (g := (mkF m 204 #[.val (.int k1), .val (.int k2), .val (.int k3), .val (.int v4), .val (.int (3 : Int32)), .val (.int v94), .val (.int v98), .val (.ref b129), .val (.int (4 : Int32)), .val (.int (4 : Int32)), .val (.int v199), .unset, .unset, .unset, .unset, .unset] [(.int (1 : Int32)), (.ref b129)])) rfl rfl (hb hby at_204) _ ?_
      show Steps p.tables e below (T149.setTop (mkF m 205 #[.val (.int k1), .val (.int k2), .val (.int k3), .val (.int v4), .val (.int (3 : Int32)), .val (.int v94), .val (.int v98), .val (.ref b129), .val (.int (4 : Int32)), .val (.int (4 : Int32)), .val (.int v199), .unset, .unset, .unset, .unset, .unset] [(.int (nar .byte (((128 : Int32) ||| ((v94 >>> ((12 : Int32) &&& 31)) &&& (63 : Int32))).toInt8.toInt32)))])) _
      refine XS.sipush X149.here hx rfl (hb hby at_205) ?_
      show Steps p.tables e below (T149.setTop (mkF m 208 #[.val (.int k1), .val (.int k2), .val (.int k3), .val (.int v4), .val (.int (3 : Int32)), .val (.int v94), .val (.int v98), .val (.ref b129), .val (.int (4 : Int32)), .val (.int (4 : Int32)), .val (.int v199), .unset, .unset, .unset, .unset, .unset] [(.int (255 : Int32)), (.int (nar .byte (((128 : Int32) ||| ((v94 >>> ((12 : Int32) &&& 31)) &&& (63 : Int32))).toInt8.toInt32)))])) _
      refine XS.iand X149.here hx rfl (hb hby at_208) rfl ?_
      show Steps p.tables e below (T149.setTop (mkF m 209 #[.val (.int k1), .val (.int k2), .val (.int k3), .val (.int v4), .val (.int (3 : Int32)), .val (.int v94), .val (.int v98), .val (.ref b129), .val (.int (4 : Int32)), .val (.int (4 : Int32)), .val (.int v199), .unset, .unset, .unset, .unset, .unset] [(.int ((nar .byte (((128 : Int32) ||| ((v94 >>> ((12 : Int32) &&& 31)) &&& (63 : Int32))).toInt8.toInt32)) &&& (255 : Int32)))])) _
      refine XS.istore X149.here hx rfl (hb hby at_209) rfl (l' := #[.val (.int k1), .val (.int k2), .val (.int k3), .val (.int v4), .val (.int (3 : Int32)), .val (.int v94), .val (.int v98), .val (.ref b129), .val (.int (4 : Int32)), .val (.int (4 : Int32)), .val (.int v199), .val (.int v209), .unset, .unset, .unset, .unset]) (by rw [hv209]; rfl) ?_
      show Steps p.tables e below (T149.setTop (mkF m 211 #[.val (.int k1), .val (.int k2), .val (.int k3), .val (.int v4), .val (.int (3 : Int32)), .val (.int v94), .val (.int v98), .val (.ref b129), .val (.int (4 : Int32)), .val (.int (4 : Int32)), .val (.int v199), .val (.int v209), .unset, .unset, .unset, .unset] [])) _
      refine XS.aload X149.here hx rfl (hb hby at_211) rfl rfl ?_
      show Steps p.tables e below (T149.setTop (mkF m 213 #[.val (.int k1), .val (.int k2), .val (.int k3), .val (.int v4), .val (.int (3 : Int32)), .val (.int v94), .val (.int v98), .val (.ref b129), .val (.int (4 : Int32)), .val (.int (4 : Int32)), .val (.int v199), .val (.int v209), .unset, .unset, .unset, .unset] [(.ref b129)])) _
      refine XS.iconst X149.here hx rfl (hb hby at_213) ?_
      show Steps p.tables e below (T149.setTop (mkF m 214 #[.val (.int k1), .val (.int k2), .val (.int k3), .val (.int v4), .val (.int (3 : Int32)), .val (.int v94), .val (.int v98), .val (.ref b129), .val (.int (4 : Int32)), .val (.int (4 : Int32)), .val (.int v199), .val (.int v209), .unset, .unset, .unset, .unset] [(.int (2 : Int32)), (.ref b129)])) _
      refine X149.baloadBytes hx (j := (2 : Int32)) (v := (.int (nar .byte (((128 : Int32) ||| ((v94 >>> ((6 : Int32) &&& 31)) &&& (63 : Int32))).toInt8.toInt32)))) (heq_of rfl Ar155.1) (State.isArrayOf_alike hZ.alike Ar155.2.1) Ar155.2.2 hin155 hat155 (g := (mkF m 214 #[.val (.int k1), .val (.int k2), .val (.int k3), .val (.int v4), .val (.int (3 : Int32)), .val (.int v94), .val (.int v98), .val (.ref b129), .val (.int (4 : Int32)), .val (.int (4 : Int32)), .val (.int v199), .val (.int v209), .unset, .unset, .unset, .unset] [(.int (2 : Int32)), (.ref b129)])) rfl rfl (hb hby at_214) _ ?_
      show Steps p.tables e below (T149.setTop (mkF m 215 #[.val (.int k1), .val (.int k2), .val (.int k3), .val (.int v4), .val (.int (3 : Int32)), .val (.int v94), .val (.int v98), .val (.ref b129), .val (.int (4 : Int32)), .val (.int (4 : Int32)), .val (.int v199), .val (.int v209), .unset, .unset, .unset, .unset] [(.int (nar .byte (((128 : Int32) ||| ((v94 >>> ((6 : Int32) &&& 31)) &&& (63 : Int32))).toInt8.toInt32)))])) _
      refine XS.sipush X149.here hx rfl (hb hby at_215) ?_
      show Steps p.tables e below (T149.setTop (mkF m 218 #[.val (.int k1), .val (.int k2), .val (.int k3), .val (.int v4), .val (.int (3 : Int32)), .val (.int v94), .val (.int v98), .val (.ref b129), .val (.int (4 : Int32)), .val (.int (4 : Int32)), .val (.int v199), .val (.int v209), .unset, .unset, .unset, .unset] [(.int (255 : Int32)), (.int (nar .byte (((128 : Int32) ||| ((v94 >>> ((6 : Int32) &&& 31)) &&& (63 : Int32))).toInt8.toInt32)))])) _
      refine XS.iand X149.here hx rfl (hb hby at_218) rfl ?_
      show Steps p.tables e below (T149.setTop (mkF m 219 #[.val (.int k1), .val (.int k2), .val (.int k3), .val (.int v4), .val (.int (3 : Int32)), .val (.int v94), .val (.int v98), .val (.ref b129), .val (.int (4 : Int32)), .val (.int (4 : Int32)), .val (.int v199), .val (.int v209), .unset, .unset, .unset, .unset] [(.int ((nar .byte (((128 : Int32) ||| ((v94 >>> ((6 : Int32) &&& 31)) &&& (63 : Int32))).toInt8.toInt32)) &&& (255 : Int32)))])) _
      refine XS.istore X149.here hx rfl (hb hby at_219) rfl (l' := #[.val (.int k1), .val (.int k2), .val (.int k3), .val (.int v4), .val (.int (3 : Int32)), .val (.int v94), .val (.int v98), .val (.ref b129), .val (.int (4 : Int32)), .val (.int (4 : Int32)), .val (.int v199), .val (.int v209), .val (.int v219), .unset, .unset, .unset]) (by rw [hv219]; rfl) ?_
      show Steps p.tables e below (T149.setTop (mkF m 221 #[.val (.int k1), .val (.int k2), .val (.int k3), .val (.int v4), .val (.int (3 : Int32)), .val (.int v94), .val (.int v98), .val (.ref b129), .val (.int (4 : Int32)), .val (.int (4 : Int32)), .val (.int v199), .val (.int v209), .val (.int v219), .unset, .unset, .unset] [])) _
      refine XS.aload X149.here hx rfl (hb hby at_221) rfl rfl ?_
      show Steps p.tables e below (T149.setTop (mkF m 223 #[.val (.int k1), .val (.int k2), .val (.int k3), .val (.int v4), .val (.int (3 : Int32)), .val (.int v94), .val (.int v98), .val (.ref b129), .val (.int (4 : Int32)), .val (.int (4 : Int32)), .val (.int v199), .val (.int v209), .val (.int v219), .unset, .unset, .unset] [(.ref b129)])) _
      refine XS.iconst X149.here hx rfl (hb hby at_223) ?_
      show Steps p.tables e below (T149.setTop (mkF m 224 #[.val (.int k1), .val (.int k2), .val (.int k3), .val (.int v4), .val (.int (3 : Int32)), .val (.int v94), .val (.int v98), .val (.ref b129), .val (.int (4 : Int32)), .val (.int (4 : Int32)), .val (.int v199), .val (.int v209), .val (.int v219), .unset, .unset, .unset] [(.int (3 : Int32)), (.ref b129)])) _
      refine X149.baloadBytes hx (j := (3 : Int32)) (v := (.int (nar .byte (((128 : Int32) ||| (v94 &&& (63 : Int32))).toInt8.toInt32)))) (heq_of rfl Ar156.1) (State.isArrayOf_alike hZ.alike Ar156.2.1) Ar156.2.2 hin156 hat156 (g := (mkF m 224 #[.val (.int k1), .val (.int k2), .val (.int k3), .val (.int v4), .val (.int (3 : Int32)), .val (.int v94), .val (.int v98), .val (.ref b129), .val (.int (4 : Int32)), .val (.int (4 : Int32)), .val (.int v199), .val (.int v209), .val (.int v219), .unset, .unset, .unset] [(.int (3 : Int32)), (.ref b129)])) rfl rfl (hb hby at_224) _ ?_
      show Steps p.tables e below (T149.setTop (mkF m 225 #[.val (.int k1), .val (.int k2), .val (.int k3), .val (.int v4), .val (.int (3 : Int32)), .val (.int v94), .val (.int v98), .val (.ref b129), .val (.int (4 : Int32)), .val (.int (4 : Int32)), .val (.int v199), .val (.int v209), .val (.int v219), .unset, .unset, .unset] [(.int (nar .byte (((128 : Int32) ||| (v94 &&& (63 : Int32))).toInt8.toInt32)))])) _
      refine XS.sipush X149.here hx rfl (hb hby at_225) ?_
      show Steps p.tables e below (T149.setTop (mkF m 228 #[.val (.int k1), .val (.int k2), .val (.int k3), .val (.int v4), .val (.int (3 : Int32)), .val (.int v94), .val (.int v98), .val (.ref b129), .val (.int (4 : Int32)), .val (.int (4 : Int32)), .val (.int v199), .val (.int v209), .val (.int v219), .unset, .unset, .unset] [(.int (255 : Int32)), (.int (nar .byte (((128 : Int32) ||| (v94 &&& (63 : Int32))).toInt8.toInt32)))])) _
      refine XS.iand X149.here hx rfl (hb hby at_228) rfl ?_
      show Steps p.tables e below (T149.setTop (mkF m 229 #[.val (.int k1), .val (.int k2), .val (.int k3), .val (.int v4), .val (.int (3 : Int32)), .val (.int v94), .val (.int v98), .val (.ref b129), .val (.int (4 : Int32)), .val (.int (4 : Int32)), .val (.int v199), .val (.int v209), .val (.int v219), .unset, .unset, .unset] [(.int ((nar .byte (((128 : Int32) ||| (v94 &&& (63 : Int32))).toInt8.toInt32)) &&& (255 : Int32)))])) _
      refine XS.istore X149.here hx rfl (hb hby at_229) rfl (l' := #[.val (.int k1), .val (.int k2), .val (.int k3), .val (.int v4), .val (.int (3 : Int32)), .val (.int v94), .val (.int v98), .val (.ref b129), .val (.int (4 : Int32)), .val (.int (4 : Int32)), .val (.int v199), .val (.int v209), .val (.int v219), .val (.int v229), .unset, .unset]) (by rw [hv229]; rfl) ?_
      show Steps p.tables e below (T149.setTop (mkF m 231 #[.val (.int k1), .val (.int k2), .val (.int k3), .val (.int v4), .val (.int (3 : Int32)), .val (.int v94), .val (.int v98), .val (.ref b129), .val (.int (4 : Int32)), .val (.int (4 : Int32)), .val (.int v199), .val (.int v209), .val (.int v219), .val (.int v229), .unset, .unset] [])) _
      refine XS.iload X149.here hx rfl (hb hby at_231) rfl ?_
      show Steps p.tables e below (T149.setTop (mkF m 233 #[.val (.int k1), .val (.int k2), .val (.int k3), .val (.int v4), .val (.int (3 : Int32)), .val (.int v94), .val (.int v98), .val (.ref b129), .val (.int (4 : Int32)), .val (.int (4 : Int32)), .val (.int v199), .val (.int v209), .val (.int v219), .val (.int v229), .unset, .unset] [(.int (4 : Int32))])) _
      refine XS.iconst X149.here hx rfl (hb hby at_233) ?_
      show Steps p.tables e below (T149.setTop (mkF m 234 #[.val (.int k1), .val (.int k2), .val (.int k3), .val (.int v4), .val (.int (3 : Int32)), .val (.int v94), .val (.int v98), .val (.ref b129), .val (.int (4 : Int32)), .val (.int (4 : Int32)), .val (.int v199), .val (.int v209), .val (.int v219), .val (.int v229), .unset, .unset] [(.int (1 : Int32)), (.int (4 : Int32))])) _
      refine XS.icmpYes X149.here hx rfl (pc0 := 234) (pc' := 254) rfl (hb hby at_234) rfl (feq (by decide)).2 (by decide) (by decide) ?_
      show Steps p.tables e below (T149.setTop (mkF m 254 #[.val (.int k1), .val (.int k2), .val (.int k3), .val (.int v4), .val (.int (3 : Int32)), .val (.int v94), .val (.int v98), .val (.ref b129), .val (.int (4 : Int32)), .val (.int (4 : Int32)), .val (.int v199), .val (.int v209), .val (.int v219), .val (.int v229), .unset, .unset] [])) _
      refine XS.iload X149.here hx rfl (hb hby at_254) rfl ?_
      show Steps p.tables e below (T149.setTop (mkF m 256 #[.val (.int k1), .val (.int k2), .val (.int k3), .val (.int v4), .val (.int (3 : Int32)), .val (.int v94), .val (.int v98), .val (.ref b129), .val (.int (4 : Int32)), .val (.int (4 : Int32)), .val (.int v199), .val (.int v209), .val (.int v219), .val (.int v229), .unset, .unset] [(.int (4 : Int32))])) _
      refine XS.iconst X149.here hx rfl (hb hby at_256) ?_
      show Steps p.tables e below (T149.setTop (mkF m 257 #[.val (.int k1), .val (.int k2), .val (.int k3), .val (.int v4), .val (.int (3 : Int32)), .val (.int v94), .val (.int v98), .val (.ref b129), .val (.int (4 : Int32)), .val (.int (4 : Int32)), .val (.int v199), .val (.int v209), .val (.int v219), .val (.int v229), .unset, .unset] [(.int (2 : Int32)), (.int (4 : Int32))])) _
      refine XS.icmpYes X149.here hx rfl (pc0 := 257) (pc' := 313) rfl (hb hby at_257) rfl (feq (by decide)).2 (by decide) (by decide) ?_
      show Steps p.tables e below (T149.setTop (mkF m 313 #[.val (.int k1), .val (.int k2), .val (.int k3), .val (.int v4), .val (.int (3 : Int32)), .val (.int v94), .val (.int v98), .val (.ref b129), .val (.int (4 : Int32)), .val (.int (4 : Int32)), .val (.int v199), .val (.int v209), .val (.int v219), .val (.int v229), .unset, .unset] [])) _
      refine XS.iload X149.here hx rfl (hb hby at_313) rfl ?_
      show Steps p.tables e below (T149.setTop (mkF m 315 #[.val (.int k1), .val (.int k2), .val (.int k3), .val (.int v4), .val (.int (3 : Int32)), .val (.int v94), .val (.int v98), .val (.ref b129), .val (.int (4 : Int32)), .val (.int (4 : Int32)), .val (.int v199), .val (.int v209), .val (.int v219), .val (.int v229), .unset, .unset] [(.int (4 : Int32))])) _
      refine XS.iconst X149.here hx rfl (hb hby at_315) ?_
      show Steps p.tables e below (T149.setTop (mkF m 316 #[.val (.int k1), .val (.int k2), .val (.int k3), .val (.int v4), .val (.int (3 : Int32)), .val (.int v94), .val (.int v98), .val (.ref b129), .val (.int (4 : Int32)), .val (.int (4 : Int32)), .val (.int v199), .val (.int v209), .val (.int v219), .val (.int v229), .unset, .unset] [(.int (3 : Int32)), (.int (4 : Int32))])) _
      refine XS.icmpYes X149.here hx rfl (pc0 := 316) (pc' := 393) rfl (hb hby at_316) rfl (feq (by decide)).2 (by decide) (by decide) ?_
      show Steps p.tables e below (T149.setTop (mkF m 393 #[.val (.int k1), .val (.int k2), .val (.int k3), .val (.int v4), .val (.int (3 : Int32)), .val (.int v94), .val (.int v98), .val (.ref b129), .val (.int (4 : Int32)), .val (.int (4 : Int32)), .val (.int v199), .val (.int v209), .val (.int v219), .val (.int v229), .unset, .unset] [])) _
      refine XS.iload X149.here hx rfl (hb hby at_393) rfl ?_
      show Steps p.tables e below (T149.setTop (mkF m 395 #[.val (.int k1), .val (.int k2), .val (.int k3), .val (.int v4), .val (.int (3 : Int32)), .val (.int v94), .val (.int v98), .val (.ref b129), .val (.int (4 : Int32)), .val (.int (4 : Int32)), .val (.int v199), .val (.int v209), .val (.int v219), .val (.int v229), .unset, .unset] [(.int v199)])) _
      refine XS.sipush X149.here hx rfl (hb hby at_395) ?_
      show Steps p.tables e below (T149.setTop (mkF m 398 #[.val (.int k1), .val (.int k2), .val (.int k3), .val (.int v4), .val (.int (3 : Int32)), .val (.int v94), .val (.int v98), .val (.ref b129), .val (.int (4 : Int32)), .val (.int (4 : Int32)), .val (.int v199), .val (.int v209), .val (.int v219), .val (.int v229), .unset, .unset] [(.int (248 : Int32)), (.int v199)])) _
      refine XS.iand X149.here hx rfl (hb hby at_398) rfl ?_
      show Steps p.tables e below (T149.setTop (mkF m 399 #[.val (.int k1), .val (.int k2), .val (.int k3), .val (.int v4), .val (.int (3 : Int32)), .val (.int v94), .val (.int v98), .val (.ref b129), .val (.int (4 : Int32)), .val (.int (4 : Int32)), .val (.int v199), .val (.int v209), .val (.int v219), .val (.int v229), .unset, .unset] [(.int (v199 &&& (248 : Int32)))])) _
      refine XS.sipush X149.here hx rfl (hb hby at_399) ?_
      by_cases d157 : (v199 &&& (248 : Int32)) = (240 : Int32)
      · skip
        show Steps p.tables e below (T149.setTop (mkF m 402 #[.val (.int k1), .val (.int k2), .val (.int k3), .val (.int v4), .val (.int (3 : Int32)), .val (.int v94), .val (.int v98), .val (.ref b129), .val (.int (4 : Int32)), .val (.int (4 : Int32)), .val (.int v199), .val (.int v209), .val (.int v219), .val (.int v229), .unset, .unset] [(.int (240 : Int32)), (.int (v199 &&& (248 : Int32)))])) _
        refine XS.icmpNo X149.here hx rfl (hb hby at_402) rfl (teq d157).2 ?_
        show Steps p.tables e below (T149.setTop (mkF m 405 #[.val (.int k1), .val (.int k2), .val (.int k3), .val (.int v4), .val (.int (3 : Int32)), .val (.int v94), .val (.int v98), .val (.ref b129), .val (.int (4 : Int32)), .val (.int (4 : Int32)), .val (.int v199), .val (.int v209), .val (.int v219), .val (.int v229), .unset, .unset] [])) _
        refine XS.iload X149.here hx rfl (hb hby at_405) rfl ?_
        show Steps p.tables e below (T149.setTop (mkF m 407 #[.val (.int k1), .val (.int k2), .val (.int k3), .val (.int v4), .val (.int (3 : Int32)), .val (.int v94), .val (.int v98), .val (.ref b129), .val (.int (4 : Int32)), .val (.int (4 : Int32)), .val (.int v199), .val (.int v209), .val (.int v219), .val (.int v229), .unset, .unset] [(.int v209)])) _
        refine XS.sipush X149.here hx rfl (hb hby at_407) ?_
        show Steps p.tables e below (T149.setTop (mkF m 410 #[.val (.int k1), .val (.int k2), .val (.int k3), .val (.int v4), .val (.int (3 : Int32)), .val (.int v94), .val (.int v98), .val (.ref b129), .val (.int (4 : Int32)), .val (.int (4 : Int32)), .val (.int v199), .val (.int v209), .val (.int v219), .val (.int v229), .unset, .unset] [(.int (192 : Int32)), (.int v209)])) _
        refine XS.iand X149.here hx rfl (hb hby at_410) rfl ?_
        show Steps p.tables e below (T149.setTop (mkF m 411 #[.val (.int k1), .val (.int k2), .val (.int k3), .val (.int v4), .val (.int (3 : Int32)), .val (.int v94), .val (.int v98), .val (.ref b129), .val (.int (4 : Int32)), .val (.int (4 : Int32)), .val (.int v199), .val (.int v209), .val (.int v219), .val (.int v229), .unset, .unset] [(.int (v209 &&& (192 : Int32)))])) _
        refine XS.sipush X149.here hx rfl (hb hby at_411) ?_
        by_cases d158 : (v209 &&& (192 : Int32)) = (128 : Int32)
        · skip
          show Steps p.tables e below (T149.setTop (mkF m 414 #[.val (.int k1), .val (.int k2), .val (.int k3), .val (.int v4), .val (.int (3 : Int32)), .val (.int v94), .val (.int v98), .val (.ref b129), .val (.int (4 : Int32)), .val (.int (4 : Int32)), .val (.int v199), .val (.int v209), .val (.int v219), .val (.int v229), .unset, .unset] [(.int (128 : Int32)), (.int (v209 &&& (192 : Int32)))])) _
          refine XS.icmpNo X149.here hx rfl (hb hby at_414) rfl (teq d158).2 ?_
          show Steps p.tables e below (T149.setTop (mkF m 417 #[.val (.int k1), .val (.int k2), .val (.int k3), .val (.int v4), .val (.int (3 : Int32)), .val (.int v94), .val (.int v98), .val (.ref b129), .val (.int (4 : Int32)), .val (.int (4 : Int32)), .val (.int v199), .val (.int v209), .val (.int v219), .val (.int v229), .unset, .unset] [])) _
          refine XS.iload X149.here hx rfl (hb hby at_417) rfl ?_
          show Steps p.tables e below (T149.setTop (mkF m 419 #[.val (.int k1), .val (.int k2), .val (.int k3), .val (.int v4), .val (.int (3 : Int32)), .val (.int v94), .val (.int v98), .val (.ref b129), .val (.int (4 : Int32)), .val (.int (4 : Int32)), .val (.int v199), .val (.int v209), .val (.int v219), .val (.int v229), .unset, .unset] [(.int v219)])) _
          refine XS.sipush X149.here hx rfl (hb hby at_419) ?_
          show Steps p.tables e below (T149.setTop (mkF m 422 #[.val (.int k1), .val (.int k2), .val (.int k3), .val (.int v4), .val (.int (3 : Int32)), .val (.int v94), .val (.int v98), .val (.ref b129), .val (.int (4 : Int32)), .val (.int (4 : Int32)), .val (.int v199), .val (.int v209), .val (.int v219), .val (.int v229), .unset, .unset] [(.int (192 : Int32)), (.int v219)])) _
          refine XS.iand X149.here hx rfl (hb hby at_422) rfl ?_
          show Steps p.tables e below (T149.setTop (mkF m 423 #[.val (.int k1), .val (.int k2), .val (.int k3), .val (.int v4), .val (.int (3 : Int32)), .val (.int v94), .val (.int v98), .val (.ref b129), .val (.int (4 : Int32)), .val (.int (4 : Int32)), .val (.int v199), .val (.int v209), .val (.int v219), .val (.int v229), .unset, .unset] [(.int (v219 &&& (192 : Int32)))])) _
          refine XS.sipush X149.here hx rfl (hb hby at_423) ?_
          by_cases d159 : (v219 &&& (192 : Int32)) = (128 : Int32)
          · skip
            show Steps p.tables e below (T149.setTop (mkF m 426 #[.val (.int k1), .val (.int k2), .val (.int k3), .val (.int v4), .val (.int (3 : Int32)), .val (.int v94), .val (.int v98), .val (.ref b129), .val (.int (4 : Int32)), .val (.int (4 : Int32)), .val (.int v199), .val (.int v209), .val (.int v219), .val (.int v229), .unset, .unset] [(.int (128 : Int32)), (.int (v219 &&& (192 : Int32)))])) _
            refine XS.icmpNo X149.here hx rfl (hb hby at_426) rfl (teq d159).2 ?_
            show Steps p.tables e below (T149.setTop (mkF m 429 #[.val (.int k1), .val (.int k2), .val (.int k3), .val (.int v4), .val (.int (3 : Int32)), .val (.int v94), .val (.int v98), .val (.ref b129), .val (.int (4 : Int32)), .val (.int (4 : Int32)), .val (.int v199), .val (.int v209), .val (.int v219), .val (.int v229), .unset, .unset] [])) _
            refine XS.iload X149.here hx rfl (hb hby at_429) rfl ?_
            show Steps p.tables e below (T149.setTop (mkF m 431 #[.val (.int k1), .val (.int k2), .val (.int k3), .val (.int v4), .val (.int (3 : Int32)), .val (.int v94), .val (.int v98), .val (.ref b129), .val (.int (4 : Int32)), .val (.int (4 : Int32)), .val (.int v199), .val (.int v209), .val (.int v219), .val (.int v229), .unset, .unset] [(.int v229)])) _
            refine XS.sipush X149.here hx rfl (hb hby at_431) ?_
            show Steps p.tables e below (T149.setTop (mkF m 434 #[.val (.int k1), .val (.int k2), .val (.int k3), .val (.int v4), .val (.int (3 : Int32)), .val (.int v94), .val (.int v98), .val (.ref b129), .val (.int (4 : Int32)), .val (.int (4 : Int32)), .val (.int v199), .val (.int v209), .val (.int v219), .val (.int v229), .unset, .unset] [(.int (192 : Int32)), (.int v229)])) _
            refine XS.iand X149.here hx rfl (hb hby at_434) rfl ?_
            show Steps p.tables e below (T149.setTop (mkF m 435 #[.val (.int k1), .val (.int k2), .val (.int k3), .val (.int v4), .val (.int (3 : Int32)), .val (.int v94), .val (.int v98), .val (.ref b129), .val (.int (4 : Int32)), .val (.int (4 : Int32)), .val (.int v199), .val (.int v209), .val (.int v219), .val (.int v229), .unset, .unset] [(.int (v229 &&& (192 : Int32)))])) _
            refine XS.sipush X149.here hx rfl (hb hby at_435) ?_
            by_cases d160 : (v229 &&& (192 : Int32)) = (128 : Int32)
            · skip
              show Steps p.tables e below (T149.setTop (mkF m 438 #[.val (.int k1), .val (.int k2), .val (.int k3), .val (.int v4), .val (.int (3 : Int32)), .val (.int v94), .val (.int v98), .val (.ref b129), .val (.int (4 : Int32)), .val (.int (4 : Int32)), .val (.int v199), .val (.int v209), .val (.int v219), .val (.int v229), .unset, .unset] [(.int (128 : Int32)), (.int (v229 &&& (192 : Int32)))])) _
              refine XS.icmpNo X149.here hx rfl (hb hby at_438) rfl (teq d160).2 ?_
              show Steps p.tables e below (T149.setTop (mkF m 441 #[.val (.int k1), .val (.int k2), .val (.int k3), .val (.int v4), .val (.int (3 : Int32)), .val (.int v94), .val (.int v98), .val (.ref b129), .val (.int (4 : Int32)), .val (.int (4 : Int32)), .val (.int v199), .val (.int v209), .val (.int v219), .val (.int v229), .unset, .unset] [])) _
              refine XS.iload X149.here hx rfl (hb hby at_441) rfl ?_
              show Steps p.tables e below (T149.setTop (mkF m 443 #[.val (.int k1), .val (.int k2), .val (.int k3), .val (.int v4), .val (.int (3 : Int32)), .val (.int v94), .val (.int v98), .val (.ref b129), .val (.int (4 : Int32)), .val (.int (4 : Int32)), .val (.int v199), .val (.int v209), .val (.int v219), .val (.int v229), .unset, .unset] [(.int v199)])) _
              refine XS.bipush X149.here hx rfl (hb hby at_443) ?_
              show Steps p.tables e below (T149.setTop (mkF m 445 #[.val (.int k1), .val (.int k2), .val (.int k3), .val (.int v4), .val (.int (3 : Int32)), .val (.int v94), .val (.int v98), .val (.ref b129), .val (.int (4 : Int32)), .val (.int (4 : Int32)), .val (.int v199), .val (.int v209), .val (.int v219), .val (.int v229), .unset, .unset] [(.int (7 : Int32)), (.int v199)])) _
              refine XS.iand X149.here hx rfl (hb hby at_445) rfl ?_
              show Steps p.tables e below (T149.setTop (mkF m 446 #[.val (.int k1), .val (.int k2), .val (.int k3), .val (.int v4), .val (.int (3 : Int32)), .val (.int v94), .val (.int v98), .val (.ref b129), .val (.int (4 : Int32)), .val (.int (4 : Int32)), .val (.int v199), .val (.int v209), .val (.int v219), .val (.int v229), .unset, .unset] [(.int (v199 &&& (7 : Int32)))])) _
              refine XS.bipush X149.here hx rfl (hb hby at_446) ?_
              show Steps p.tables e below (T149.setTop (mkF m 448 #[.val (.int k1), .val (.int k2), .val (.int k3), .val (.int v4), .val (.int (3 : Int32)), .val (.int v94), .val (.int v98), .val (.ref b129), .val (.int (4 : Int32)), .val (.int (4 : Int32)), .val (.int v199), .val (.int v209), .val (.int v219), .val (.int v229), .unset, .unset] [(.int (18 : Int32)), (.int (v199 &&& (7 : Int32)))])) _
              refine XS.ishl X149.here hx rfl (hb hby at_448) rfl ?_
              show Steps p.tables e below (T149.setTop (mkF m 449 #[.val (.int k1), .val (.int k2), .val (.int k3), .val (.int v4), .val (.int (3 : Int32)), .val (.int v94), .val (.int v98), .val (.ref b129), .val (.int (4 : Int32)), .val (.int (4 : Int32)), .val (.int v199), .val (.int v209), .val (.int v219), .val (.int v229), .unset, .unset] [(.int ((v199 &&& (7 : Int32)) <<< ((18 : Int32) &&& 31)))])) _
              refine XS.iload X149.here hx rfl (hb hby at_449) rfl ?_
              show Steps p.tables e below (T149.setTop (mkF m 451 #[.val (.int k1), .val (.int k2), .val (.int k3), .val (.int v4), .val (.int (3 : Int32)), .val (.int v94), .val (.int v98), .val (.ref b129), .val (.int (4 : Int32)), .val (.int (4 : Int32)), .val (.int v199), .val (.int v209), .val (.int v219), .val (.int v229), .unset, .unset] [(.int v209), (.int ((v199 &&& (7 : Int32)) <<< ((18 : Int32) &&& 31)))])) _
              refine XS.bipush X149.here hx rfl (hb hby at_451) ?_
              show Steps p.tables e below (T149.setTop (mkF m 453 #[.val (.int k1), .val (.int k2), .val (.int k3), .val (.int v4), .val (.int (3 : Int32)), .val (.int v94), .val (.int v98), .val (.ref b129), .val (.int (4 : Int32)), .val (.int (4 : Int32)), .val (.int v199), .val (.int v209), .val (.int v219), .val (.int v229), .unset, .unset] [(.int (63 : Int32)), (.int v209), (.int ((v199 &&& (7 : Int32)) <<< ((18 : Int32) &&& 31)))])) _
              refine XS.iand X149.here hx rfl (hb hby at_453) rfl ?_
              show Steps p.tables e below (T149.setTop (mkF m 454 #[.val (.int k1), .val (.int k2), .val (.int k3), .val (.int v4), .val (.int (3 : Int32)), .val (.int v94), .val (.int v98), .val (.ref b129), .val (.int (4 : Int32)), .val (.int (4 : Int32)), .val (.int v199), .val (.int v209), .val (.int v219), .val (.int v229), .unset, .unset] [(.int (v209 &&& (63 : Int32))), (.int ((v199 &&& (7 : Int32)) <<< ((18 : Int32) &&& 31)))])) _
              refine XS.bipush X149.here hx rfl (hb hby at_454) ?_
              show Steps p.tables e below (T149.setTop (mkF m 456 #[.val (.int k1), .val (.int k2), .val (.int k3), .val (.int v4), .val (.int (3 : Int32)), .val (.int v94), .val (.int v98), .val (.ref b129), .val (.int (4 : Int32)), .val (.int (4 : Int32)), .val (.int v199), .val (.int v209), .val (.int v219), .val (.int v229), .unset, .unset] [(.int (12 : Int32)), (.int (v209 &&& (63 : Int32))), (.int ((v199 &&& (7 : Int32)) <<< ((18 : Int32) &&& 31)))])) _
              refine XS.ishl X149.here hx rfl (hb hby at_456) rfl ?_
              show Steps p.tables e below (T149.setTop (mkF m 457 #[.val (.int k1), .val (.int k2), .val (.int k3), .val (.int v4), .val (.int (3 : Int32)), .val (.int v94), .val (.int v98), .val (.ref b129), .val (.int (4 : Int32)), .val (.int (4 : Int32)), .val (.int v199), .val (.int v209), .val (.int v219), .val (.int v229), .unset, .unset] [(.int ((v209 &&& (63 : Int32)) <<< ((12 : Int32) &&& 31))), (.int ((v199 &&& (7 : Int32)) <<< ((18 : Int32) &&& 31)))])) _
              refine XS.ior X149.here hx rfl (hb hby at_457) rfl ?_
              show Steps p.tables e below (T149.setTop (mkF m 458 #[.val (.int k1), .val (.int k2), .val (.int k3), .val (.int v4), .val (.int (3 : Int32)), .val (.int v94), .val (.int v98), .val (.ref b129), .val (.int (4 : Int32)), .val (.int (4 : Int32)), .val (.int v199), .val (.int v209), .val (.int v219), .val (.int v229), .unset, .unset] [(.int (((v199 &&& (7 : Int32)) <<< ((18 : Int32) &&& 31)) ||| ((v209 &&& (63 : Int32)) <<< ((12 : Int32) &&& 31))))])) _
              refine XS.iload X149.here hx rfl (hb hby at_458) rfl ?_
              show Steps p.tables e below (T149.setTop (mkF m 460 #[.val (.int k1), .val (.int k2), .val (.int k3), .val (.int v4), .val (.int (3 : Int32)), .val (.int v94), .val (.int v98), .val (.ref b129), .val (.int (4 : Int32)), .val (.int (4 : Int32)), .val (.int v199), .val (.int v209), .val (.int v219), .val (.int v229), .unset, .unset] [(.int v219), (.int (((v199 &&& (7 : Int32)) <<< ((18 : Int32) &&& 31)) ||| ((v209 &&& (63 : Int32)) <<< ((12 : Int32) &&& 31))))])) _
              refine XS.bipush X149.here hx rfl (hb hby at_460) ?_
              show Steps p.tables e below (T149.setTop (mkF m 462 #[.val (.int k1), .val (.int k2), .val (.int k3), .val (.int v4), .val (.int (3 : Int32)), .val (.int v94), .val (.int v98), .val (.ref b129), .val (.int (4 : Int32)), .val (.int (4 : Int32)), .val (.int v199), .val (.int v209), .val (.int v219), .val (.int v229), .unset, .unset] [(.int (63 : Int32)), (.int v219), (.int (((v199 &&& (7 : Int32)) <<< ((18 : Int32) &&& 31)) ||| ((v209 &&& (63 : Int32)) <<< ((12 : Int32) &&& 31))))])) _
              refine XS.iand X149.here hx rfl (hb hby at_462) rfl ?_
              show Steps p.tables e below (T149.setTop (mkF m 463 #[.val (.int k1), .val (.int k2), .val (.int k3), .val (.int v4), .val (.int (3 : Int32)), .val (.int v94), .val (.int v98), .val (.ref b129), .val (.int (4 : Int32)), .val (.int (4 : Int32)), .val (.int v199), .val (.int v209), .val (.int v219), .val (.int v229), .unset, .unset] [(.int (v219 &&& (63 : Int32))), (.int (((v199 &&& (7 : Int32)) <<< ((18 : Int32) &&& 31)) ||| ((v209 &&& (63 : Int32)) <<< ((12 : Int32) &&& 31))))])) _
              refine XS.bipush X149.here hx rfl (hb hby at_463) ?_
              show Steps p.tables e below (T149.setTop (mkF m 465 #[.val (.int k1), .val (.int k2), .val (.int k3), .val (.int v4), .val (.int (3 : Int32)), .val (.int v94), .val (.int v98), .val (.ref b129), .val (.int (4 : Int32)), .val (.int (4 : Int32)), .val (.int v199), .val (.int v209), .val (.int v219), .val (.int v229), .unset, .unset] [(.int (6 : Int32)), (.int (v219 &&& (63 : Int32))), (.int (((v199 &&& (7 : Int32)) <<< ((18 : Int32) &&& 31)) ||| ((v209 &&& (63 : Int32)) <<< ((12 : Int32) &&& 31))))])) _
              refine XS.ishl X149.here hx rfl (hb hby at_465) rfl ?_
              show Steps p.tables e below (T149.setTop (mkF m 466 #[.val (.int k1), .val (.int k2), .val (.int k3), .val (.int v4), .val (.int (3 : Int32)), .val (.int v94), .val (.int v98), .val (.ref b129), .val (.int (4 : Int32)), .val (.int (4 : Int32)), .val (.int v199), .val (.int v209), .val (.int v219), .val (.int v229), .unset, .unset] [(.int ((v219 &&& (63 : Int32)) <<< ((6 : Int32) &&& 31))), (.int (((v199 &&& (7 : Int32)) <<< ((18 : Int32) &&& 31)) ||| ((v209 &&& (63 : Int32)) <<< ((12 : Int32) &&& 31))))])) _
              refine XS.ior X149.here hx rfl (hb hby at_466) rfl ?_
              show Steps p.tables e below (T149.setTop (mkF m 467 #[.val (.int k1), .val (.int k2), .val (.int k3), .val (.int v4), .val (.int (3 : Int32)), .val (.int v94), .val (.int v98), .val (.ref b129), .val (.int (4 : Int32)), .val (.int (4 : Int32)), .val (.int v199), .val (.int v209), .val (.int v219), .val (.int v229), .unset, .unset] [(.int ((((v199 &&& (7 : Int32)) <<< ((18 : Int32) &&& 31)) ||| ((v209 &&& (63 : Int32)) <<< ((12 : Int32) &&& 31))) ||| ((v219 &&& (63 : Int32)) <<< ((6 : Int32) &&& 31))))])) _
              refine XS.iload X149.here hx rfl (hb hby at_467) rfl ?_
              show Steps p.tables e below (T149.setTop (mkF m 469 #[.val (.int k1), .val (.int k2), .val (.int k3), .val (.int v4), .val (.int (3 : Int32)), .val (.int v94), .val (.int v98), .val (.ref b129), .val (.int (4 : Int32)), .val (.int (4 : Int32)), .val (.int v199), .val (.int v209), .val (.int v219), .val (.int v229), .unset, .unset] [(.int v229), (.int ((((v199 &&& (7 : Int32)) <<< ((18 : Int32) &&& 31)) ||| ((v209 &&& (63 : Int32)) <<< ((12 : Int32) &&& 31))) ||| ((v219 &&& (63 : Int32)) <<< ((6 : Int32) &&& 31))))])) _
              refine XS.bipush X149.here hx rfl (hb hby at_469) ?_
              show Steps p.tables e below (T149.setTop (mkF m 471 #[.val (.int k1), .val (.int k2), .val (.int k3), .val (.int v4), .val (.int (3 : Int32)), .val (.int v94), .val (.int v98), .val (.ref b129), .val (.int (4 : Int32)), .val (.int (4 : Int32)), .val (.int v199), .val (.int v209), .val (.int v219), .val (.int v229), .unset, .unset] [(.int (63 : Int32)), (.int v229), (.int ((((v199 &&& (7 : Int32)) <<< ((18 : Int32) &&& 31)) ||| ((v209 &&& (63 : Int32)) <<< ((12 : Int32) &&& 31))) ||| ((v219 &&& (63 : Int32)) <<< ((6 : Int32) &&& 31))))])) _
              refine XS.iand X149.here hx rfl (hb hby at_471) rfl ?_
              show Steps p.tables e below (T149.setTop (mkF m 472 #[.val (.int k1), .val (.int k2), .val (.int k3), .val (.int v4), .val (.int (3 : Int32)), .val (.int v94), .val (.int v98), .val (.ref b129), .val (.int (4 : Int32)), .val (.int (4 : Int32)), .val (.int v199), .val (.int v209), .val (.int v219), .val (.int v229), .unset, .unset] [(.int (v229 &&& (63 : Int32))), (.int ((((v199 &&& (7 : Int32)) <<< ((18 : Int32) &&& 31)) ||| ((v209 &&& (63 : Int32)) <<< ((12 : Int32) &&& 31))) ||| ((v219 &&& (63 : Int32)) <<< ((6 : Int32) &&& 31))))])) _
              refine XS.ior X149.here hx rfl (hb hby at_472) rfl ?_
              show Steps p.tables e below (T149.setTop (mkF m 473 #[.val (.int k1), .val (.int k2), .val (.int k3), .val (.int v4), .val (.int (3 : Int32)), .val (.int v94), .val (.int v98), .val (.ref b129), .val (.int (4 : Int32)), .val (.int (4 : Int32)), .val (.int v199), .val (.int v209), .val (.int v219), .val (.int v229), .unset, .unset] [(.int (((((v199 &&& (7 : Int32)) <<< ((18 : Int32) &&& 31)) ||| ((v209 &&& (63 : Int32)) <<< ((12 : Int32) &&& 31))) ||| ((v219 &&& (63 : Int32)) <<< ((6 : Int32) &&& 31))) ||| (v229 &&& (63 : Int32))))])) _
              refine XS.iload X149.here hx rfl (hb hby at_473) rfl ?_
              by_cases d161 : (((((v199 &&& (7 : Int32)) <<< ((18 : Int32) &&& 31)) ||| ((v209 &&& (63 : Int32)) <<< ((12 : Int32) &&& 31))) ||| ((v219 &&& (63 : Int32)) <<< ((6 : Int32) &&& 31))) ||| (v229 &&& (63 : Int32))) = v94
              · skip
                show Steps p.tables e below (T149.setTop (mkF m 475 #[.val (.int k1), .val (.int k2), .val (.int k3), .val (.int v4), .val (.int (3 : Int32)), .val (.int v94), .val (.int v98), .val (.ref b129), .val (.int (4 : Int32)), .val (.int (4 : Int32)), .val (.int v199), .val (.int v209), .val (.int v219), .val (.int v229), .unset, .unset] [(.int v94), (.int (((((v199 &&& (7 : Int32)) <<< ((18 : Int32) &&& 31)) ||| ((v209 &&& (63 : Int32)) <<< ((12 : Int32) &&& 31))) ||| ((v219 &&& (63 : Int32)) <<< ((6 : Int32) &&& 31))) ||| (v229 &&& (63 : Int32))))])) _
                refine XS.icmpNo X149.here hx rfl (hb hby at_475) rfl (teq d161).2 ?_
                show Steps p.tables e below (T149.setTop (mkF m 478 #[.val (.int k1), .val (.int k2), .val (.int k3), .val (.int v4), .val (.int (3 : Int32)), .val (.int v94), .val (.int v98), .val (.ref b129), .val (.int (4 : Int32)), .val (.int (4 : Int32)), .val (.int v199), .val (.int v209), .val (.int v219), .val (.int v229), .unset, .unset] [])) _
                refine XS.iconst X149.here hx rfl (hb hby at_478) ?_
                show Steps p.tables e below (T149.setTop (mkF m 479 #[.val (.int k1), .val (.int k2), .val (.int k3), .val (.int v4), .val (.int (3 : Int32)), .val (.int v94), .val (.int v98), .val (.ref b129), .val (.int (4 : Int32)), .val (.int (4 : Int32)), .val (.int v199), .val (.int v209), .val (.int v219), .val (.int v229), .unset, .unset] [(.int (1 : Int32))])) _
                refine XS.goto X149.here hx rfl (pc0 := 479) (pc' := 483) rfl (hb hby at_479) (by decide) (by decide) ?_
                show Steps p.tables e below (T149.setTop (mkF m 483 #[.val (.int k1), .val (.int k2), .val (.int k3), .val (.int v4), .val (.int (3 : Int32)), .val (.int v94), .val (.int v98), .val (.ref b129), .val (.int (4 : Int32)), .val (.int (4 : Int32)), .val (.int v199), .val (.int v209), .val (.int v219), .val (.int v229), .unset, .unset] [(.int (1 : Int32))])) _
                exact castTop (by simp only [hm483, if_pos d157, if_pos d158, if_pos d159, if_pos d160, if_pos d161]) kt
              · skip
                show Steps p.tables e below (T149.setTop (mkF m 475 #[.val (.int k1), .val (.int k2), .val (.int k3), .val (.int v4), .val (.int (3 : Int32)), .val (.int v94), .val (.int v98), .val (.ref b129), .val (.int (4 : Int32)), .val (.int (4 : Int32)), .val (.int v199), .val (.int v209), .val (.int v219), .val (.int v229), .unset, .unset] [(.int v94), (.int (((((v199 &&& (7 : Int32)) <<< ((18 : Int32) &&& 31)) ||| ((v209 &&& (63 : Int32)) <<< ((12 : Int32) &&& 31))) ||| ((v219 &&& (63 : Int32)) <<< ((6 : Int32) &&& 31))) ||| (v229 &&& (63 : Int32))))])) _
                refine XS.icmpYes X149.here hx rfl (pc0 := 475) (pc' := 482) rfl (hb hby at_475) rfl (feq d161).2 (by decide) (by decide) ?_
                show Steps p.tables e below (T149.setTop (mkF m 482 #[.val (.int k1), .val (.int k2), .val (.int k3), .val (.int v4), .val (.int (3 : Int32)), .val (.int v94), .val (.int v98), .val (.ref b129), .val (.int (4 : Int32)), .val (.int (4 : Int32)), .val (.int v199), .val (.int v209), .val (.int v219), .val (.int v229), .unset, .unset] [])) _
                refine XS.iconst X149.here hx rfl (hb hby at_482) ?_
                show Steps p.tables e below (T149.setTop (mkF m 483 #[.val (.int k1), .val (.int k2), .val (.int k3), .val (.int v4), .val (.int (3 : Int32)), .val (.int v94), .val (.int v98), .val (.ref b129), .val (.int (4 : Int32)), .val (.int (4 : Int32)), .val (.int v199), .val (.int v209), .val (.int v219), .val (.int v229), .unset, .unset] [(.int (0 : Int32))])) _
                exact castTop (by simp only [hm483, if_pos d157, if_pos d158, if_pos d159, if_pos d160, if_neg d161]) kt
            · skip
              show Steps p.tables e below (T149.setTop (mkF m 438 #[.val (.int k1), .val (.int k2), .val (.int k3), .val (.int v4), .val (.int (3 : Int32)), .val (.int v94), .val (.int v98), .val (.ref b129), .val (.int (4 : Int32)), .val (.int (4 : Int32)), .val (.int v199), .val (.int v209), .val (.int v219), .val (.int v229), .unset, .unset] [(.int (128 : Int32)), (.int (v229 &&& (192 : Int32)))])) _
              refine XS.icmpYes X149.here hx rfl (pc0 := 438) (pc' := 482) rfl (hb hby at_438) rfl (feq d160).2 (by decide) (by decide) ?_
              show Steps p.tables e below (T149.setTop (mkF m 482 #[.val (.int k1), .val (.int k2), .val (.int k3), .val (.int v4), .val (.int (3 : Int32)), .val (.int v94), .val (.int v98), .val (.ref b129), .val (.int (4 : Int32)), .val (.int (4 : Int32)), .val (.int v199), .val (.int v209), .val (.int v219), .val (.int v229), .unset, .unset] [])) _
              refine XS.iconst X149.here hx rfl (hb hby at_482) ?_
              show Steps p.tables e below (T149.setTop (mkF m 483 #[.val (.int k1), .val (.int k2), .val (.int k3), .val (.int v4), .val (.int (3 : Int32)), .val (.int v94), .val (.int v98), .val (.ref b129), .val (.int (4 : Int32)), .val (.int (4 : Int32)), .val (.int v199), .val (.int v209), .val (.int v219), .val (.int v229), .unset, .unset] [(.int (0 : Int32))])) _
              exact castTop (by simp only [hm483, if_pos d157, if_pos d158, if_pos d159, if_neg d160]) kt
          · skip
            show Steps p.tables e below (T149.setTop (mkF m 426 #[.val (.int k1), .val (.int k2), .val (.int k3), .val (.int v4), .val (.int (3 : Int32)), .val (.int v94), .val (.int v98), .val (.ref b129), .val (.int (4 : Int32)), .val (.int (4 : Int32)), .val (.int v199), .val (.int v209), .val (.int v219), .val (.int v229), .unset, .unset] [(.int (128 : Int32)), (.int (v219 &&& (192 : Int32)))])) _
            refine XS.icmpYes X149.here hx rfl (pc0 := 426) (pc' := 482) rfl (hb hby at_426) rfl (feq d159).2 (by decide) (by decide) ?_
            show Steps p.tables e below (T149.setTop (mkF m 482 #[.val (.int k1), .val (.int k2), .val (.int k3), .val (.int v4), .val (.int (3 : Int32)), .val (.int v94), .val (.int v98), .val (.ref b129), .val (.int (4 : Int32)), .val (.int (4 : Int32)), .val (.int v199), .val (.int v209), .val (.int v219), .val (.int v229), .unset, .unset] [])) _
            refine XS.iconst X149.here hx rfl (hb hby at_482) ?_
            show Steps p.tables e below (T149.setTop (mkF m 483 #[.val (.int k1), .val (.int k2), .val (.int k3), .val (.int v4), .val (.int (3 : Int32)), .val (.int v94), .val (.int v98), .val (.ref b129), .val (.int (4 : Int32)), .val (.int (4 : Int32)), .val (.int v199), .val (.int v209), .val (.int v219), .val (.int v229), .unset, .unset] [(.int (0 : Int32))])) _
            exact castTop (by simp only [hm483, if_pos d157, if_pos d158, if_neg d159]) kt
        · skip
          show Steps p.tables e below (T149.setTop (mkF m 414 #[.val (.int k1), .val (.int k2), .val (.int k3), .val (.int v4), .val (.int (3 : Int32)), .val (.int v94), .val (.int v98), .val (.ref b129), .val (.int (4 : Int32)), .val (.int (4 : Int32)), .val (.int v199), .val (.int v209), .val (.int v219), .val (.int v229), .unset, .unset] [(.int (128 : Int32)), (.int (v209 &&& (192 : Int32)))])) _
          refine XS.icmpYes X149.here hx rfl (pc0 := 414) (pc' := 482) rfl (hb hby at_414) rfl (feq d158).2 (by decide) (by decide) ?_
          show Steps p.tables e below (T149.setTop (mkF m 482 #[.val (.int k1), .val (.int k2), .val (.int k3), .val (.int v4), .val (.int (3 : Int32)), .val (.int v94), .val (.int v98), .val (.ref b129), .val (.int (4 : Int32)), .val (.int (4 : Int32)), .val (.int v199), .val (.int v209), .val (.int v219), .val (.int v229), .unset, .unset] [])) _
          refine XS.iconst X149.here hx rfl (hb hby at_482) ?_
          show Steps p.tables e below (T149.setTop (mkF m 483 #[.val (.int k1), .val (.int k2), .val (.int k3), .val (.int v4), .val (.int (3 : Int32)), .val (.int v94), .val (.int v98), .val (.ref b129), .val (.int (4 : Int32)), .val (.int (4 : Int32)), .val (.int v199), .val (.int v209), .val (.int v219), .val (.int v229), .unset, .unset] [(.int (0 : Int32))])) _
          exact castTop (by simp only [hm483, if_pos d157, if_neg d158]) kt
      · skip
        show Steps p.tables e below (T149.setTop (mkF m 402 #[.val (.int k1), .val (.int k2), .val (.int k3), .val (.int v4), .val (.int (3 : Int32)), .val (.int v94), .val (.int v98), .val (.ref b129), .val (.int (4 : Int32)), .val (.int (4 : Int32)), .val (.int v199), .val (.int v209), .val (.int v219), .val (.int v229), .unset, .unset] [(.int (240 : Int32)), (.int (v199 &&& (248 : Int32)))])) _
        refine XS.icmpYes X149.here hx rfl (pc0 := 402) (pc' := 482) rfl (hb hby at_402) rfl (feq d157).2 (by decide) (by decide) ?_
        show Steps p.tables e below (T149.setTop (mkF m 482 #[.val (.int k1), .val (.int k2), .val (.int k3), .val (.int v4), .val (.int (3 : Int32)), .val (.int v94), .val (.int v98), .val (.ref b129), .val (.int (4 : Int32)), .val (.int (4 : Int32)), .val (.int v199), .val (.int v209), .val (.int v219), .val (.int v229), .unset, .unset] [])) _
        refine XS.iconst X149.here hx rfl (hb hby at_482) ?_
        show Steps p.tables e below (T149.setTop (mkF m 483 #[.val (.int k1), .val (.int k2), .val (.int k3), .val (.int v4), .val (.int (3 : Int32)), .val (.int v94), .val (.int v98), .val (.ref b129), .val (.int (4 : Int32)), .val (.int (4 : Int32)), .val (.int v199), .val (.int v209), .val (.int v219), .val (.int v229), .unset, .unset] [(.int (0 : Int32))])) _
        exact castTop (by simp only [hm483, if_neg d157]) kt
    obtain ⟨m552, hm552⟩ : ∃ z_q : Int32, z_q = (if m483 = (0 : Int32) then (0 : Int32) else (1 : Int32)) := ⟨_, rfl⟩
    have pre164 : ∀ tq, Steps p.tables e below (T149.setTop (mkF m 552 #[.val (.int k1), .val (.int k2), .val (.int k3), .val (.int v4), .val (.int (3 : Int32)), .val (.int v94), .val (.int v98), .val (.ref b129), .val (.int (4 : Int32)), .val (.int (4 : Int32)), .val (.int v199), .val (.int v209), .val (.int v219), .val (.int v229), .val (.int m483), .val (.int (1 : Int32))] [(.int m552)])) tq → Steps p.tables e below (s₁.setTop (entryFrame m #[(.int k1), (.int k2), (.int k3)] maxLocals)) tq := by
      intro tq kt
      refine pre162 _ ?_
      show Steps p.tables e below (T149.setTop (mkF m 483 #[.val (.int k1), .val (.int k2), .val (.int k3), .val (.int v4), .val (.int (3 : Int32)), .val (.int v94), .val (.int v98), .val (.ref b129), .val (.int (4 : Int32)), .val (.int (4 : Int32)), .val (.int v199), .val (.int v209), .val (.int v219), .val (.int v229), .unset, .unset] [(.int m483)])) _
      refine XS.istore X149.here hx rfl (hb hby at_483) rfl (l' := #[.val (.int k1), .val (.int k2), .val (.int k3), .val (.int v4), .val (.int (3 : Int32)), .val (.int v94), .val (.int v98), .val (.ref b129), .val (.int (4 : Int32)), .val (.int (4 : Int32)), .val (.int v199), .val (.int v209), .val (.int v219), .val (.int v229), .val (.int m483), .unset]) rfl ?_
      show Steps p.tables e below (T149.setTop (mkF m 485 #[.val (.int k1), .val (.int k2), .val (.int k3), .val (.int v4), .val (.int (3 : Int32)), .val (.int v94), .val (.int v98), .val (.ref b129), .val (.int (4 : Int32)), .val (.int (4 : Int32)), .val (.int v199), .val (.int v209), .val (.int v219), .val (.int v229), .val (.int m483), .unset] [])) _
      refine XS.iload X149.here hx rfl (hb hby at_485) rfl ?_
      show Steps p.tables e below (T149.setTop (mkF m 487 #[.val (.int k1), .val (.int k2), .val (.int k3), .val (.int v4), .val (.int (3 : Int32)), .val (.int v94), .val (.int v98), .val (.ref b129), .val (.int (4 : Int32)), .val (.int (4 : Int32)), .val (.int v199), .val (.int v209), .val (.int v219), .val (.int v229), .val (.int m483), .unset] [(.int (4 : Int32))])) _
      refine XS.iconst X149.here hx rfl (hb hby at_487) ?_
      show Steps p.tables e below (T149.setTop (mkF m 488 #[.val (.int k1), .val (.int k2), .val (.int k3), .val (.int v4), .val (.int (3 : Int32)), .val (.int v94), .val (.int v98), .val (.ref b129), .val (.int (4 : Int32)), .val (.int (4 : Int32)), .val (.int v199), .val (.int v209), .val (.int v219), .val (.int v229), .val (.int m483), .unset] [(.int (1 : Int32)), (.int (4 : Int32))])) _
      refine XS.icmpYes X149.here hx rfl (pc0 := 488) (pc' := 500) rfl (hb hby at_488) rfl (tlt (by decide)).2.2.1 (by decide) (by decide) ?_
      show Steps p.tables e below (T149.setTop (mkF m 500 #[.val (.int k1), .val (.int k2), .val (.int k3), .val (.int v4), .val (.int (3 : Int32)), .val (.int v94), .val (.int v98), .val (.ref b129), .val (.int (4 : Int32)), .val (.int (4 : Int32)), .val (.int v199), .val (.int v209), .val (.int v219), .val (.int v229), .val (.int m483), .unset] [])) _
      refine XS.iload X149.here hx rfl (hb hby at_500) rfl ?_
      show Steps p.tables e below (T149.setTop (mkF m 502 #[.val (.int k1), .val (.int k2), .val (.int k3), .val (.int v4), .val (.int (3 : Int32)), .val (.int v94), .val (.int v98), .val (.ref b129), .val (.int (4 : Int32)), .val (.int (4 : Int32)), .val (.int v199), .val (.int v209), .val (.int v219), .val (.int v229), .val (.int m483), .unset] [(.int (4 : Int32))])) _
      refine XS.iconst X149.here hx rfl (hb hby at_502) ?_
      show Steps p.tables e below (T149.setTop (mkF m 503 #[.val (.int k1), .val (.int k2), .val (.int k3), .val (.int v4), .val (.int (3 : Int32)), .val (.int v94), .val (.int v98), .val (.ref b129), .val (.int (4 : Int32)), .val (.int (4 : Int32)), .val (.int v199), .val (.int v209), .val (.int v219), .val (.int v229), .val (.int m483), .unset] [(.int (2 : Int32)), (.int (4 : Int32))])) _
      refine XS.icmpYes X149.here hx rfl (pc0 := 503) (pc' := 515) rfl (hb hby at_503) rfl (tlt (by decide)).2.2.1 (by decide) (by decide) ?_
      show Steps p.tables e below (T149.setTop (mkF m 515 #[.val (.int k1), .val (.int k2), .val (.int k3), .val (.int v4), .val (.int (3 : Int32)), .val (.int v94), .val (.int v98), .val (.ref b129), .val (.int (4 : Int32)), .val (.int (4 : Int32)), .val (.int v199), .val (.int v209), .val (.int v219), .val (.int v229), .val (.int m483), .unset] [])) _
      refine XS.iload X149.here hx rfl (hb hby at_515) rfl ?_
      show Steps p.tables e below (T149.setTop (mkF m 517 #[.val (.int k1), .val (.int k2), .val (.int k3), .val (.int v4), .val (.int (3 : Int32)), .val (.int v94), .val (.int v98), .val (.ref b129), .val (.int (4 : Int32)), .val (.int (4 : Int32)), .val (.int v199), .val (.int v209), .val (.int v219), .val (.int v229), .val (.int m483), .unset] [(.int (4 : Int32))])) _
      refine XS.iconst X149.here hx rfl (hb hby at_517) ?_
      show Steps p.tables e below (T149.setTop (mkF m 518 #[.val (.int k1), .val (.int k2), .val (.int k3), .val (.int v4), .val (.int (3 : Int32)), .val (.int v94), .val (.int v98), .val (.ref b129), .val (.int (4 : Int32)), .val (.int (4 : Int32)), .val (.int v199), .val (.int v209), .val (.int v219), .val (.int v229), .val (.int m483), .unset] [(.int (3 : Int32)), (.int (4 : Int32))])) _
      refine XS.icmpYes X149.here hx rfl (pc0 := 518) (pc' := 530) rfl (hb hby at_518) rfl (tlt (by decide)).2.2.1 (by decide) (by decide) ?_
      show Steps p.tables e below (T149.setTop (mkF m 530 #[.val (.int k1), .val (.int k2), .val (.int k3), .val (.int v4), .val (.int (3 : Int32)), .val (.int v94), .val (.int v98), .val (.ref b129), .val (.int (4 : Int32)), .val (.int (4 : Int32)), .val (.int v199), .val (.int v209), .val (.int v219), .val (.int v229), .val (.int m483), .unset] [])) _
      refine XS.iconst X149.here hx rfl (hb hby at_530) ?_
      show Steps p.tables e below (T149.setTop (mkF m 531 #[.val (.int k1), .val (.int k2), .val (.int k3), .val (.int v4), .val (.int (3 : Int32)), .val (.int v94), .val (.int v98), .val (.ref b129), .val (.int (4 : Int32)), .val (.int (4 : Int32)), .val (.int v199), .val (.int v209), .val (.int v219), .val (.int v229), .val (.int m483), .unset] [(.int (1 : Int32))])) _
      refine XS.goto X149.here hx rfl (pc0 := 531) (pc' := 535) rfl (hb hby at_531) (by decide) (by decide) ?_
      show Steps p.tables e below (T149.setTop (mkF m 535 #[.val (.int k1), .val (.int k2), .val (.int k3), .val (.int v4), .val (.int (3 : Int32)), .val (.int v94), .val (.int v98), .val (.ref b129), .val (.int (4 : Int32)), .val (.int (4 : Int32)), .val (.int v199), .val (.int v209), .val (.int v219), .val (.int v229), .val (.int m483), .unset] [(.int (1 : Int32))])) _
      refine XS.istore X149.here hx rfl (hb hby at_535) rfl (l' := #[.val (.int k1), .val (.int k2), .val (.int k3), .val (.int v4), .val (.int (3 : Int32)), .val (.int v94), .val (.int v98), .val (.ref b129), .val (.int (4 : Int32)), .val (.int (4 : Int32)), .val (.int v199), .val (.int v209), .val (.int v219), .val (.int v229), .val (.int m483), .val (.int (1 : Int32))]) rfl ?_
      show Steps p.tables e below (T149.setTop (mkF m 537 #[.val (.int k1), .val (.int k2), .val (.int k3), .val (.int v4), .val (.int (3 : Int32)), .val (.int v94), .val (.int v98), .val (.ref b129), .val (.int (4 : Int32)), .val (.int (4 : Int32)), .val (.int v199), .val (.int v209), .val (.int v219), .val (.int v229), .val (.int m483), .val (.int (1 : Int32))] [])) _
      refine XS.iload X149.here hx rfl (hb hby at_537) rfl ?_
      by_cases d163 : m483 = (0 : Int32)
      · skip
        show Steps p.tables e below (T149.setTop (mkF m 539 #[.val (.int k1), .val (.int k2), .val (.int k3), .val (.int v4), .val (.int (3 : Int32)), .val (.int v94), .val (.int v98), .val (.ref b129), .val (.int (4 : Int32)), .val (.int (4 : Int32)), .val (.int v199), .val (.int v209), .val (.int v219), .val (.int v229), .val (.int m483), .val (.int (1 : Int32))] [(.int m483)])) _
        refine XS.ifYes X149.here hx rfl (pc0 := 539) (pc' := 551) rfl (hb hby at_539) rfl ((if0 _ _).trans (teq d163).1) (by decide) (by decide) ?_
        show Steps p.tables e below (T149.setTop (mkF m 551 #[.val (.int k1), .val (.int k2), .val (.int k3), .val (.int v4), .val (.int (3 : Int32)), .val (.int v94), .val (.int v98), .val (.ref b129), .val (.int (4 : Int32)), .val (.int (4 : Int32)), .val (.int v199), .val (.int v209), .val (.int v219), .val (.int v229), .val (.int m483), .val (.int (1 : Int32))] [])) _
        refine XS.iconst X149.here hx rfl (hb hby at_551) ?_
        show Steps p.tables e below (T149.setTop (mkF m 552 #[.val (.int k1), .val (.int k2), .val (.int k3), .val (.int v4), .val (.int (3 : Int32)), .val (.int v94), .val (.int v98), .val (.ref b129), .val (.int (4 : Int32)), .val (.int (4 : Int32)), .val (.int v199), .val (.int v209), .val (.int v219), .val (.int v229), .val (.int m483), .val (.int (1 : Int32))] [(.int (0 : Int32))])) _
        exact castTop (by simp only [hm552, if_pos d163]) kt
      · skip
        show Steps p.tables e below (T149.setTop (mkF m 539 #[.val (.int k1), .val (.int k2), .val (.int k3), .val (.int v4), .val (.int (3 : Int32)), .val (.int v94), .val (.int v98), .val (.ref b129), .val (.int (4 : Int32)), .val (.int (4 : Int32)), .val (.int v199), .val (.int v209), .val (.int v219), .val (.int v229), .val (.int m483), .val (.int (1 : Int32))] [(.int m483)])) _
        refine XS.ifNo X149.here hx rfl (hb hby at_539) rfl ((if0 _ _).trans (feq d163).1) ?_
        show Steps p.tables e below (T149.setTop (mkF m 542 #[.val (.int k1), .val (.int k2), .val (.int k3), .val (.int v4), .val (.int (3 : Int32)), .val (.int v94), .val (.int v98), .val (.ref b129), .val (.int (4 : Int32)), .val (.int (4 : Int32)), .val (.int v199), .val (.int v209), .val (.int v219), .val (.int v229), .val (.int m483), .val (.int (1 : Int32))] [])) _
        refine XS.iload X149.here hx rfl (hb hby at_542) rfl ?_
        show Steps p.tables e below (T149.setTop (mkF m 544 #[.val (.int k1), .val (.int k2), .val (.int k3), .val (.int v4), .val (.int (3 : Int32)), .val (.int v94), .val (.int v98), .val (.ref b129), .val (.int (4 : Int32)), .val (.int (4 : Int32)), .val (.int v199), .val (.int v209), .val (.int v219), .val (.int v229), .val (.int m483), .val (.int (1 : Int32))] [(.int (1 : Int32))])) _
        refine XS.ifNo X149.here hx rfl (hb hby at_544) rfl ((if0 _ _).trans (feq (by decide)).1) ?_
        show Steps p.tables e below (T149.setTop (mkF m 547 #[.val (.int k1), .val (.int k2), .val (.int k3), .val (.int v4), .val (.int (3 : Int32)), .val (.int v94), .val (.int v98), .val (.ref b129), .val (.int (4 : Int32)), .val (.int (4 : Int32)), .val (.int v199), .val (.int v209), .val (.int v219), .val (.int v229), .val (.int m483), .val (.int (1 : Int32))] [])) _
        refine XS.iconst X149.here hx rfl (hb hby at_547) ?_
        show Steps p.tables e below (T149.setTop (mkF m 548 #[.val (.int k1), .val (.int k2), .val (.int k3), .val (.int v4), .val (.int (3 : Int32)), .val (.int v94), .val (.int v98), .val (.ref b129), .val (.int (4 : Int32)), .val (.int (4 : Int32)), .val (.int v199), .val (.int v209), .val (.int v219), .val (.int v229), .val (.int m483), .val (.int (1 : Int32))] [(.int (1 : Int32))])) _
        refine XS.goto X149.here hx rfl (pc0 := 548) (pc' := 552) rfl (hb hby at_548) (by decide) (by decide) ?_
        show Steps p.tables e below (T149.setTop (mkF m 552 #[.val (.int k1), .val (.int k2), .val (.int k3), .val (.int v4), .val (.int (3 : Int32)), .val (.int v94), .val (.int v98), .val (.ref b129), .val (.int (4 : Int32)), .val (.int (4 : Int32)), .val (.int v199), .val (.int v209), .val (.int v219), .val (.int v229), .val (.int m483), .val (.int (1 : Int32))] [(.int (1 : Int32))])) _
        exact castTop (by simp only [hm552, if_neg d163]) kt
    obtain ⟨fs, hr, hrun, hended, hW, hsame⟩ := X149.leave (v := some (Value.int (nar .boolean m552))) (fun h => by rw [Bd.returns] at h; cases h)
    have hres165 : (nar .boolean m552) = (1 : Int32) := (own_leaf_0_552_s3 k1 k2 k3 v4 hv4 hv8 v94 hv94 v98 hv98 hp149_h1 hp149_h2 hp149_h3 v199 hv199 v209 hv209 v219 hv219 v229 hv229 m483 hm483 m552 hm552)
    refine ⟨_, _, pre164 _ ?_, hrun, hended, _, _, rfl, ?_, ⟨_, rfl⟩, hW, hsame.mono (by decide) (by decide)⟩
    · skip
      show Steps p.tables e below (T149.setTop (mkF m 552 #[.val (.int k1), .val (.int k2), .val (.int k3), .val (.int v4), .val (.int (3 : Int32)), .val (.int v94), .val (.int v98), .val (.ref b129), .val (.int (4 : Int32)), .val (.int (4 : Int32)), .val (.int v199), .val (.int v209), .val (.int v219), .val (.int v229), .val (.int m483), .val (.int (1 : Int32))] [(.int m552)])) _
      exact retN X149 hx (t := .boolean) Bd.returns (by simp) (hb hby at_552) hr
    · show Q0 Z k1 k2 k3 h0 n0 _ T149.heap _
      exact ⟨congrArg (fun z => some (Value.int z)) hres165, N149⟩
set_option maxRecDepth 65536 in
set_option maxHeartbeats 40000000 in
theorem comes_1 {Post : Tables → Env → Array Value → State → Outcome → State → Prop} (hpost : ∀ tb e args s v u, (limb_1_1.after args s (.returned v) u = true ∧ limb_1_2.after args s (.returned v) u = true ∧ True) → FrameEnd s (.returned v) u (Jvm.fieldLocs frame_1_writes args s ++ Jvm.arrayLocs frame_1_arrays args s ++ Jvm.staticLocs frame_1_statics s) 16 128 → Post tb e args s (.returned v) u) :
    ArmFor flags0 classFile x code maxLocals ret World_1 tables_1 room_1 Calls_1 rest_1 Pre_1 Post := by
  intro l hfl _ _ p e ha hc hk s m args below hf hA hF happ hP
  obtain ⟨hcalls, hrest, hpre⟩ := hP
  obtain ⟨-, -, -, hnamed, -, -, -, hat⟩ := (Spec.applies_iff hf).mp happ
  obtain ⟨hg, hn⟩ := and_e (Cond.before_iff.mp (show (Jvm.Cond.and given_1 narrow_1).before args s = true from hpre))
  obtain ⟨gv1, gv2⟩ := and_e hg
  obtain ⟨gv3, gv4⟩ := and_e gv2
  obtain ⟨gv5, gv6⟩ := and_e gv4
  obtain ⟨w0, w1, w2, rfl⟩ : ∃ w0 w1 w2 : Value, args = #[w0, w1, w2] := by
    have hs : args.size = 3 := by simpa [Cond.value, given_1] using gv1
    obtain ⟨L⟩ := args
    match L, hs with
    | [w0, w1, w2], _ => exact ⟨w0, w1, w2, rfl⟩
  have hw := fun d (hd : d ∈ tables_1) => atoms_spec (ws := Jvm.Cond.code x code maxLocals ret :: tables_1) hat d (List.mem_cons_of_mem _ hd)
  obtain ⟨i0, ei0⟩ := is_v gv3
  obtain rfl : w0 = (.int i0) := Option.some.inj ei0
  obtain ⟨i1, ei1⟩ := is_v gv5
  obtain rfl : w1 = (.int i1) := Option.some.inj ei1
  obtain ⟨i2, ei2⟩ := is_v gv6
  obtain rfl : w2 = (.int i2) := Option.some.inj ei2
  obtain ⟨n, o, h1, h2, h3, _, L, rfl, ⟨rfl, N⟩, hq⟩ := rm0 l s _ hw tables_1 i0 i1 i2  s.heap s.heap.size (Nat.le_refl _)  p e ha hc hk s m _ below hf ((Spec.applies_iff_loose hf).mp happ).1 ⟨rfl, State.Warmed39.refl s, rfl⟩ trivial
  refine ⟨n, _, h1, h2, h3, hpost _ _ _ _ _ _ ⟨Cond.after_iff.mpr rfl, Cond.after_iff.mpr (eq_i res_at (Term.int_eval (1)) rfl), trivial⟩ ⟨hq.1, hq.2.1, (hq.2.2.sift fun y hy => Or.inr (N y hy)).mono (by decide) (by decide)⟩⟩
theorem main_1_1 : Claimed_1_1 := comes_1 fun _ _ _ _ _ _ h hF => ⟨h.1, hF⟩
theorem main_1_2 : Claimed_1_2 := comes_1 fun _ _ _ _ _ _ h hF => ⟨h.2.1, hF⟩
end Jvm.Pilot.@@N@@
namespace Jvm.Pilot.@@N@@
open Jvm Jvm.ClassFile Sem Op Lib Jvm.Free Jvm.Stand Jvm.Pilot.@@N@@.Jvm.D
/-! MADE BY PROGRAM (witnessworld.py) out of the Statement's table words and the real class files: 9 classes; the members and pool entries that the words name. The judged class is class 1, her method 1. -/
namespace start1
open Jvm.ClassFile
def u (s : String) : CpInfo := .utf8 (stringToUtf16 s)
/-- a pool by its gaps: so many unusable entries, then the entry; so many at the end -/
def gap : Nat → List CpInfo → List CpInfo
  | 0, r => r
  | n + 1, r => .unusable :: gap n r
def poolList (es : List (Nat × CpInfo)) (last : Nat) : List CpInfo := es.foldr (fun e r => gap e.1 (e.2 :: r)) (gap last [])
def pool (es : List (Nat × CpInfo)) (last : Nat) : Array CpInfo := ⟨poolList es last⟩
def fileOf (pool : Array CpInfo) (this : Nat) (attrs : Array Attribute := #[]) (ms : Array MethodInfo := #[]) (fl : Nat := 33) (sup : Nat := 0) (ifs : Array Nat := #[]) (fds : Array FieldInfo := #[]) : ClassFile where
  minorVersion := 0
  majorVersion := 65
  constantPool := pool
  accessFlags := fl
  thisClass := this
  superClass := sup
  interfaces := ifs
  fields := fds
  methods := ms
  attributes := attrs
def plain (name : String) (sup : Option ClassId) : Class where
  name := name
  kind := .ordinary
  loader := none
  accessFlags := 33
  super := sup
  interfaces := #[]
  cf := none
  fields := #[]
  methods := #[]
  instanceTypes := #[]
  staticTypes := #[]
  resolved := #[]
  callSites := []
  init := .initialized
  statics := none
  mirror := none

def pool0 : Array CpInfo := pool [(5, u "<init>"), (0, u "()V"), (1, .class_ 10), (1, u "java/lang/Object")] 113

def k0m0 : Method := { name := "<init>", desc := "()V", sig := { parameters := [], returnType := none }, accessFlags := 1, code := none }
/-- java/lang/Object -/
def k0 : Class := { plain "java/lang/Object" none with
  accessFlags := 33
  interfaces := #[]
  cf := some (fileOf pool0 8 #[] #[{ accessFlags := 1, nameIndex := 5, descriptorIndex := 6, attributes := #[] }] 33 0 #[] #[])
  fields := #[]
  methods := #[k0m0]
  instanceTypes := #[]
  staticTypes := #[]
  resolved := Array.replicate 124 none
  statics := none }

def pool1 : Array CpInfo := pool [(2, .class_ 4), (1, u "java/lang/Object"), (0, u "<init>"), (0, u "()V"), (0, .integer 2147483647), (0, .integer 63488), (0, .integer 55296), (0, .integer 57343), (0, .integer 57344), (0, .integer 65536), (0, .integer 1048576), (0, .methodref 15 16), (0, .class_ 17), (0, .nameAndType 18 19), (0, u "com/example/marcotte/marcotte/XmlCharacters"), (0, u "writeUtf8"), (0, u "(I[B)I"), (0, .class_ 21), (0, u "com/example/marcotte/marcotte/XmlCharactersWriteUtf8PinLaw"), (2, u "law"), (0, u "(III)Z")] 5

def k1m0 : Method := { name := "<init>", desc := "()V", sig := { parameters := [], returnType := none }, accessFlags := 2, code := none }
def k1c1 : Code := { maxStack := 3, maxLocals := 16, code := code, exceptionTable := #[], attributes := #[] }
def k1m1 : Method := { name := "law", desc := "(III)Z", sig := { parameters := [.int, .int, .int], returnType := some .boolean }, accessFlags := 9, code := some k1c1 }
/-- com/example/marcotte/marcotte/XmlCharactersWriteUtf8PinLaw -/
def k1 : Class := { plain "com/example/marcotte/marcotte/XmlCharactersWriteUtf8PinLaw" (some 0) with
  accessFlags := 49
  interfaces := #[]
  cf := some (fileOf pool1 20 #[] #[{ accessFlags := 2, nameIndex := 5, descriptorIndex := 6, attributes := #[] }, { accessFlags := 9, nameIndex := 24, descriptorIndex := 25, attributes := #[] }] 49 2 #[] #[])
  fields := #[]
  methods := #[k1m0, k1m1]
  instanceTypes := #[]
  staticTypes := #[]
  resolved := Array.replicate 31 none
  statics := none }

def pool2 : Array CpInfo := pool [(2, .class_ 4), (1, u "java/lang/Object"), (0, u "<init>"), (0, u "()V"), (1, .class_ 10), (1, u "com/example/marcotte/marcotte/XmlCharacters"), (0, u "CLASSES"), (0, u "[B"), (2, u "NAME_START_RANGES"), (0, u "[I"), (6, u "NAME_RANGES"), (5, .integer 65536), (11, u "NAME_START"), (0, u "B"), (2, u "NAME"), (1, u "TEXT_STOP"), (1, u "VALUE_STOP"), (1, u "NOT_XML"), (1, u "ENCODING_NAME"), (0, u "Ljava/lang/String;"), (10, u "writeUtf8"), (0, u "(I[B)I")] 3

def k2m0 : Method := { name := "<init>", desc := "()V", sig := { parameters := [], returnType := none }, accessFlags := 2, code := none }
def k2c1 : Code := { maxStack := 5, maxLocals := 3, code := prog_47_method_6_code, exceptionTable := #[], attributes := #[] }
def k2m1 : Method := { name := "writeUtf8", desc := "(I[B)I", sig := { parameters := [.int, (.array .byte)], returnType := some .int }, accessFlags := 8, code := some k2c1 }
/-- com/example/marcotte/marcotte/XmlCharacters -/
def k2 : Class := { plain "com/example/marcotte/marcotte/XmlCharacters" (some 0) with
  accessFlags := 48
  interfaces := #[]
  cf := some (fileOf pool2 8 #[] #[{ accessFlags := 2, nameIndex := 5, descriptorIndex := 6, attributes := #[] }, { accessFlags := 8, nameIndex := 65, descriptorIndex := 66, attributes := #[] }] 48 2 #[] #[{ accessFlags := 24, nameIndex := 41, descriptorIndex := 42, attributes := #[] }, { accessFlags := 24, nameIndex := 45, descriptorIndex := 42, attributes := #[] }, { accessFlags := 24, nameIndex := 47, descriptorIndex := 42, attributes := #[] }, { accessFlags := 24, nameIndex := 49, descriptorIndex := 42, attributes := #[] }, { accessFlags := 24, nameIndex := 51, descriptorIndex := 42, attributes := #[] }, { accessFlags := 24, nameIndex := 11, descriptorIndex := 12, attributes := #[] }, { accessFlags := 24, nameIndex := 53, descriptorIndex := 54, attributes := #[] }, { accessFlags := 26, nameIndex := 15, descriptorIndex := 16, attributes := #[] }, { accessFlags := 26, nameIndex := 23, descriptorIndex := 16, attributes := #[] }])
  fields := #[{ name := "NAME_START", type := .byte, accessFlags := 24, slot := 0, constantValue := 0 }, { name := "NAME", type := .byte, accessFlags := 24, slot := 1, constantValue := 0 }, { name := "TEXT_STOP", type := .byte, accessFlags := 24, slot := 2, constantValue := 0 }, { name := "VALUE_STOP", type := .byte, accessFlags := 24, slot := 3, constantValue := 0 }, { name := "NOT_XML", type := .byte, accessFlags := 24, slot := 4, constantValue := 0 }, { name := "CLASSES", type := (.array .byte), accessFlags := 24, slot := 5, constantValue := 0 }, { name := "ENCODING_NAME", type := (.object "java/lang/String"), accessFlags := 24, slot := 6, constantValue := 0 }, { name := "NAME_START_RANGES", type := (.array .int), accessFlags := 26, slot := 7, constantValue := 0 }, { name := "NAME_RANGES", type := (.array .int), accessFlags := 26, slot := 8, constantValue := 0 }]
  methods := #[k2m0, k2m1]
  instanceTypes := #[]
  staticTypes := #[.byte, .byte, .byte, .byte, .byte, (.array .byte), (.object "java/lang/String"), (.array .int), (.array .int)]
  resolved := Array.replicate 70 none
  statics := none }

def pool3 : Array CpInfo := pool [(1, u "java/lang/Cloneable"), (0, .class_ 1), (0, u "java/lang/Object"), (0, .class_ 3)] 3

/-- java/lang/Cloneable -/
def k3 : Class := { plain "java/lang/Cloneable" (some 0) with
  accessFlags := 1537
  interfaces := #[]
  cf := some (fileOf pool3 2 #[] #[] 1537 4 #[] #[])
  fields := #[]
  methods := #[]
  instanceTypes := #[]
  staticTypes := #[]
  resolved := Array.replicate 8 none
  statics := none }

def pool4 : Array CpInfo := pool [(1, u "java/io/Serializable"), (0, .class_ 1), (0, u "java/lang/Object"), (0, .class_ 3)] 3

/-- java/io/Serializable -/
def k4 : Class := { plain "java/io/Serializable" (some 0) with
  accessFlags := 1537
  interfaces := #[]
  cf := some (fileOf pool4 2 #[] #[] 1537 4 #[] #[])
  fields := #[]
  methods := #[]
  instanceTypes := #[]
  staticTypes := #[]
  resolved := Array.replicate 8 none
  statics := none }

/-- the primitive byte -/
def k5 : Class := { plain "byte" none with kind := .primitive 'B', accessFlags := 0x411 }
/-- [B -/
def k6 : Class := { plain "[B" (some 0) with kind := .array 5 .byte, interfaces := #[3, 4], accessFlags := 1041 }

/-- the primitive int -/
def k7 : Class := { plain "int" none with kind := .primitive 'I', accessFlags := 0x411 }
/-- [I -/
def k8 : Class := { plain "[I" (some 0) with kind := .array 7 .int, interfaces := #[3, 4], accessFlags := 1041 }

def heap : Heap := #[]
def classes : Array Class := #[k0, k1, k2, k3, k4, k5, k6, k7, k8]
def interned : List (Array UInt16 × Addr) := []
def slotsUsed : Nat := 0
def theMethod : MethodId := ⟨1, 1⟩
def args0 : Array Value := #[.int 5, .int 6, .int 7]
def aboutOver (below : List Frame) : State where
  vm := { classes := classes, interned := interned.toArray }
  heap := heap
  slotsUsed := slotsUsed
  threads := #[{ frames := .invoking theMethod args0 :: below }]
def below0 : List Frame := [.native { method := ⟨0, 0⟩, args := #[] }]
def about1 : State := aboutOver below0
def p0 : Program := .bare "" "" ""
def e0 : Env := launch0.env 0 0 0
theorem w_frames : about1.frames = Frame.invoking theMethod args0 :: below0 := rfl
set_option maxRecDepth 65536 in
theorem w_args : argsFit about1.vm theMethod args0 = true := by decide +kernel
set_option maxRecDepth 65536 in
theorem w_heap : heapFits about1 = true := by decide +kernel
set_option maxRecDepth 65536 in
theorem w_runnable : about1.curStatus? = some .runnable := by decide +kernel
set_option maxRecDepth 65536 in
theorem w_alone : about1.alone = true := by decide +kernel
set_option maxRecDepth 65536 in
theorem w_named : about1.methodNamed? x = some theMethod := by decide +kernel
set_option maxRecDepth 65536 in
theorem w_hears : about1.hears theMethod below0 = true := by decide +kernel
set_option maxRecDepth 65536 in
theorem w_ripe : about1.ripe theMethod args0 below0 = true := by decide +kernel
theorem w_running : about1.status = .running := rfl
set_option maxRecDepth 65536 in
theorem w_room : about1.hasRoom e0.platform room_1 = true :=
  launch0.hasRoom_least _ room_1 (by decide +kernel) (by decide +kernel) (by decide +kernel) (by decide +kernel) (by decide +kernel) (by decide +kernel)
theorem allAtoms_all (ts : List Jvm.Cond) (a : Array Jvm.Value) (st : Jvm.State) : (allAtoms ts).before a st = ts.all (fun c => c.before a st) := by
  induction ts with
  | nil => rfl
  | cons c t ih =>
    show (Jvm.Cond.and c (allAtoms t)).before a st = _
    rw [Jvm.Cond.before_and, ih, List.all_cons]
def words1 : List Jvm.Cond := Jvm.Cond.code x code maxLocals ret :: tables_1
/-- a 'code' word, met by the world's own term for the bytes: nothing is compared byte by byte -/
theorem code_word {y : MethodName} {bytes : ByteArray} {mx : Nat} {rt : Option FieldType} {a : Array Value} {s : State} {m : MethodId} {meth : Method} {c : Code} (h1 : s.methodNamed? y = some m) (h2 : s.vm.method? m = some meth) (h3 : meth.code = some c) (h4 : c.code = bytes)
    (h5 : (c.maxLocals == mx && c.exceptionTable.isEmpty && decide (c.maxStack ≤ mostOperands) && decide (meth.sig.returnType = rt) && !meth.locks && decide (parseMethodDescriptor y.desc = some meth.sig)) = true) : (Jvm.Cond.code y bytes mx rt).before a s = true := by
  simp only [Bool.and_eq_true, beq_iff_eq, Bool.not_eq_true', decide_eq_true_eq] at h5
  obtain ⟨⟨⟨⟨⟨g1, g2⟩, g3⟩, g4⟩, g5⟩, g6⟩ := h5
  simp [Cond.before, Cond.holds, Cond.value, h1, h2, h3, h4, g1, g2, g3, g4, g5, g6]
def isCode : Jvm.Cond → Bool
  | .code _ _ _ _ => true
  | _ => false
theorem all_split {L : List Jvm.Cond} {P : Jvm.Cond → Bool} (h1 : L.all (fun c => isCode c || P c) = true) (h2 : ∀ c ∈ L.filter isCode, P c = true) : L.all P = true := by
  refine List.all_eq_true.mpr fun c hc => ?_
  have h := List.all_eq_true.mp h1 c hc
  rcases Bool.eq_false_or_eq_true (isCode c) with hi | hi
  · exact h2 c (List.mem_filter.mpr ⟨hc, hi⟩)
  · simpa [hi] using h
set_option maxRecDepth 65536 in
theorem w_c0 : (Jvm.Cond.code x code maxLocals ret).before args0 about1 = true := code_word (m := ⟨1, 1⟩) (meth := k1m1) (c := k1c1) (by decide +kernel) rfl rfl rfl (by decide +kernel)
set_option maxRecDepth 65536 in
theorem w_c1 : (Jvm.Cond.code ({ cls := "com/example/marcotte/marcotte/XmlCharacters", name := "writeUtf8", desc := "(I[B)I" } : Jvm.MethodName) prog_47_method_6_code (3 : Nat) (Option.some Jvm.ClassFile.FieldType.int)).before args0 about1 = true := code_word (m := ⟨2, 1⟩) (meth := k2m1) (c := k2c1) (by decide +kernel) rfl rfl rfl (by decide +kernel)
def codes1 : List Jvm.Cond := [Jvm.Cond.code x code maxLocals ret, Jvm.Cond.code ({ cls := "com/example/marcotte/marcotte/XmlCharacters", name := "writeUtf8", desc := "(I[B)I" } : Jvm.MethodName) prog_47_method_6_code (3 : Nat) (Option.some Jvm.ClassFile.FieldType.int)]
set_option maxRecDepth 65536 in
theorem codes_eq : words1.filter isCode = codes1 := rfl
theorem w_codes : ∀ c ∈ words1.filter isCode, c.before args0 about1 = true := by
  rw [codes_eq]
  intro c hc
  simp only [codes1, List.mem_cons, List.not_mem_nil, or_false] at hc
  rcases hc with rfl | rfl
  · exact w_c0
  · exact w_c1
set_option maxRecDepth 65536 in
theorem w_t1 : words1.all (fun c => isCode c || c.before args0 about1) = true := by decide +kernel
theorem w_tables : (allAtoms (Jvm.Cond.code x code maxLocals ret :: tables_1)).before args0 about1 = true := by
  rw [allAtoms_all]
  show words1.all (fun c => c.before args0 about1) = true
  refine all_split ?_ w_codes
  rw [w_t1]
set_option maxRecDepth 65536 in
theorem w_case : (Jvm.Cond.and given_1 narrow_1).before args0 about1 = true := by decide +kernel
theorem w_applies : (headSpec (Jvm.Cond.code x code maxLocals ret :: tables_1) room_1).applies x e0.platform about1 = true :=
  (Spec.applies_iff w_frames).mpr ⟨w_running, w_runnable, w_alone, w_named, w_hears, w_ripe, w_room, w_tables⟩
theorem atStart : AtStart classFile x code maxLocals ret World_1 tables_1 room_1 Calls_1 rest_1 Pre_1 launch0 p0 e0 about1 theMethod args0 below0 :=
  ⟨lists_1, trivial, launch0.admits_env _ _ _, launch0.least_env, fairChoices_fair.cas, fairChoices_fair.clock, w_frames, w_args, w_heap, w_applies, trivial, trivial, w_case⟩
end start1
theorem witness_1 : WitnessClaimed_1 := ⟨start1.p0, start1.e0, start1.about1, start1.theMethod, start1.args0, start1.below0, start1.atStart⟩
end Jvm.Pilot.@@N@@
