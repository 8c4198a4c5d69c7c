import JvmDerived
import JvmDerived.Pilot.@@N@@Statement
import JvmDerived.Pilot.@@N@@Code
set_option linter.unusedVariables false
set_option linter.unusedSimpArgs false
namespace Jvm.RoadKit
theorem heq_of {T : State} {h : Heap} {a : Addr} {c : Cell} (e : T.heap = h) (q : h[a]? = some c) : T.heap[a]? = some c := by rw [e]; exact q
open Sem ClassFile Op Lib Jvm.Stand Jvm.Free Jvm.LawKit
section New
variable {p : Program} {l : Launch} {e : Env} {R : Room} {s : State} {m : MethodId} {args : Array Value} {below : List Frame} {meth : Method} {c : Code} {T : State} {locs : List Loc} {cells slots : Nat}
theorem retI (X : Stand p l e R s m args below meth c T locs cells slots) (hx : p.tables.exec = Jvm.exec) {pc : Nat} {Ls : Array Slot} {z : Int32} {rest : List Value} (hret : meth.sig.returnType = some .int) (hd : decode c.code pc = .ok (.ireturn, 1)) {fs : List Frame}
    (hl : ∀ (f : JFrame) (acts : List Action), f.method = m → f.locked = none → f.entered = [] → (doReturn e (T.setTop f) acts (some (.int z))).1 = T.setFrames fs) : Steps p.tables e below (T.setTop (mkF m pc Ls (.int z :: rest))) (T.setFrames fs) := by
  have hm' : T.vm.method? m = some meth := X.method'
  have hn : narrow .int (.int z) = .int z := rfl
  show Steps p.tables e below (T.setTop { method := m, pc := pc, locals := Ls, stack := _ :: rest, locked := none }) _
  jvm_step X.here [X.here.top, hx, hd, hm', hret, hn]
  first | (intro acts; rw [hl _ acts rfl rfl rfl]) | rw [hl _ _ rfl rfl rfl]
  exact Steps.refl _
end New
end Jvm.RoadKit
namespace Jvm.Pilot.@@N@@
open Jvm Jvm.ClassFile Sem Op Lib Jvm.Free Jvm.Stand Jvm.LawKit Jvm.RoadKit Bundle Jvm.Pilot.@@N@@.Jvm.D
def own_us (x : Int64) (k : Int32) : Int64 := (x.toUInt64 >>> (k &&& 0x3f).toInt64.toUInt64).toInt64
def own_mix (z : Int64) : Int64 :=
  let a := (z ^^^ own_us z 30) * (-4658895280553007687)
  let b := (a ^^^ own_us a 27) * (-7723592293110705685)
  b ^^^ own_us b 31
def own_inv (c : Int64) : Int64 :=
  let x := c * (2 - c * c)
  let x := x * (2 - c * x)
  let x := x * (2 - c * x)
  let x := x * (2 - c * x)
  x * (2 - c * x)
def own_unmix (y : Int64) : Int64 :=
  let z := (y ^^^ own_us y 31) ^^^ own_us y 62
  let z := z * own_inv (-7723592293110705685)
  let z := (z ^^^ own_us z 27) ^^^ own_us z 54
  let z := z * own_inv (-4658895280553007687)
  (z ^^^ own_us z 30) ^^^ own_us z 60
theorem own_bv_xs (y : BitVec 64) (k : Nat) (hk : 64 ≤ k + k + k) : ((y ^^^ (y >>> k)) ^^^ ((y ^^^ (y >>> k)) >>> k)) ^^^ ((y ^^^ (y >>> k)) >>> (k + k)) = y := by
  apply BitVec.eq_of_getLsbD_eq
  intro i hi
  simp only [BitVec.getLsbD_xor, BitVec.getLsbD_ushiftRight]
  have e : k + (k + i) = k + k + i := by omega
  have : y.getLsbD (k + (k + k + i)) = false := BitVec.getLsbD_of_ge _ _ (by omega)
  rw [this, e]
  cases y.getLsbD i <;> cases y.getLsbD (k + i) <;> cases y.getLsbD (k + k + i) <;> rfl
theorem own_bv_xs' (y : BitVec 64) (k : Nat) (hk : 64 ≤ k + k + k) : ((y ^^^ (y >>> k)) ^^^ (y >>> (k + k))) ^^^ (((y ^^^ (y >>> k)) ^^^ (y >>> (k + k))) >>> k) = y := by
  apply BitVec.eq_of_getLsbD_eq
  intro i hi
  simp only [BitVec.getLsbD_xor, BitVec.getLsbD_ushiftRight]
  have e : k + (k + i) = k + k + i := by omega
  have : y.getLsbD (k + k + (k + i)) = false := BitVec.getLsbD_of_ge _ _ (by omega)
  rw [this, e]
  cases y.getLsbD i <;> cases y.getLsbD (k + i) <;> cases y.getLsbD (k + k + i) <;> rfl
theorem own_us_bv (x : Int64) (k : Int32) (n : Nat) (h : ((k &&& 0x3f).toInt64.toUInt64.toBitVec % 64#64).toNat = n) : (own_us x k).toBitVec = x.toBitVec >>> n := by
  subst h; rfl
theorem own_xs (y : Int64) (k k2 : Int32) (n : Nat) (h : ((k &&& 0x3f).toInt64.toUInt64.toBitVec % 64#64).toNat = n) (h2 : ((k2 &&& 0x3f).toInt64.toUInt64.toBitVec % 64#64).toNat = n + n) (hn : 64 ≤ n + n + n) :
    ((y ^^^ own_us y k) ^^^ own_us (y ^^^ own_us y k) k) ^^^ own_us (y ^^^ own_us y k) k2 = y := by
  apply Int64.toBitVec_inj.1
  simp only [Int64.toBitVec_xor, own_us_bv _ _ _ h, own_us_bv _ _ _ h2]
  exact own_bv_xs _ _ hn
theorem own_xs' (y : Int64) (k k2 : Int32) (n : Nat) (h : ((k &&& 0x3f).toInt64.toUInt64.toBitVec % 64#64).toNat = n) (h2 : ((k2 &&& 0x3f).toInt64.toUInt64.toBitVec % 64#64).toNat = n + n) (hn : 64 ≤ n + n + n) :
    ((y ^^^ own_us y k) ^^^ own_us y k2) ^^^ own_us ((y ^^^ own_us y k) ^^^ own_us y k2) k = y := by
  apply Int64.toBitVec_inj.1
  simp only [Int64.toBitVec_xor, own_us_bv _ _ _ h, own_us_bv _ _ _ h2]
  exact own_bv_xs' _ _ hn
theorem own_inv1 : (-7723592293110705685 : Int64) * own_inv (-7723592293110705685) = 1 := by decide +kernel
theorem own_inv2 : (-4658895280553007687 : Int64) * own_inv (-4658895280553007687) = 1 := by decide +kernel
theorem own_inv1' : own_inv (-7723592293110705685) * (-7723592293110705685 : Int64) = 1 := by decide +kernel
theorem own_inv2' : own_inv (-4658895280553007687) * (-4658895280553007687 : Int64) = 1 := by decide +kernel
theorem own_unmix_mix (z : Int64) : own_unmix (own_mix z) = z := by
  unfold own_unmix own_mix
  dsimp only
  rw [own_xs _ 31 62 31 (by decide) (by decide) (by decide), Int64.mul_assoc, own_inv1, Int64.mul_one, own_xs _ 27 54 27 (by decide) (by decide) (by decide), Int64.mul_assoc, own_inv2, Int64.mul_one, own_xs _ 30 60 30 (by decide) (by decide) (by decide)]
theorem own_mix_unmix (z : Int64) : own_mix (own_unmix z) = z := by
  unfold own_unmix own_mix
  dsimp only
  rw [own_xs' _ 30 60 30 (by decide) (by decide) (by decide), Int64.mul_assoc, own_inv2', Int64.mul_one, own_xs' _ 27 54 27 (by decide) (by decide) (by decide), Int64.mul_assoc, own_inv1', Int64.mul_one, own_xs' _ 31 62 31 (by decide) (by decide) (by decide)]
theorem own_mask31 (a : Int32) : 0 ≤ (a &&& (2147483647 : Int32)).toInt ∧ (a &&& (2147483647 : Int32)).toInt < 2147483648 := by
  have h : (a &&& (2147483647 : Int32)).toBitVec = a.toBitVec &&& 2147483647#32 := rfl
  have e : (a &&& (2147483647 : Int32)).toInt = (a.toBitVec &&& 2147483647#32).toInt := by rw [← h]; rfl
  have hm : (a.toBitVec &&& 2147483647#32).toNat ≤ 2147483647 := by rw [BitVec.toNat_and]; exact Nat.and_le_right
  rw [e, BitVec.toInt_eq_toNat_of_lt (by omega)]
  omega
theorem own_rem (u s : Int32) (hu : 0 ≤ u.toInt) (hs : 0 < s.toInt) : 0 ≤ (u % s).toInt ∧ (u % s).toInt < s.toInt := by
  have : (u % s).toInt = u.toInt.tmod s.toInt := Int32.toInt_mod ..
  rw [this, Int.tmod_eq_emod_of_nonneg hu]
  exact ⟨Int.emod_nonneg _ (by omega), Int.emod_lt_of_pos _ hs⟩
theorem own_i32_add (x y : Int32) (h1 : -2147483648 ≤ x.toInt + y.toInt) (h2 : x.toInt + y.toInt < 2147483648) : (x + y).toInt = x.toInt + y.toInt := by
  rw [Int32.toInt_add, Int.bmod_eq_of_le (by omega) (by omega)]
theorem own_i32_sub (x y : Int32) (h1 : -2147483648 ≤ x.toInt - y.toInt) (h2 : x.toInt - y.toInt < 2147483648) : (x - y).toInt = x.toInt - y.toInt := by
  rw [Int32.toInt_sub, Int.bmod_eq_of_le (by omega) (by omega)]
theorem own_i64_add (x y : Int64) (h1 : -9223372036854775808 ≤ x.toInt + y.toInt) (h2 : x.toInt + y.toInt < 9223372036854775808) : (x + y).toInt = x.toInt + y.toInt := by
  rw [Int64.toInt_add, Int.bmod_eq_of_le (by omega) (by omega)]
theorem own_i64_sub (x y : Int64) (h1 : -9223372036854775808 ≤ x.toInt - y.toInt) (h2 : x.toInt - y.toInt < 9223372036854775808) : (x - y).toInt = x.toInt - y.toInt := by
  rw [Int64.toInt_sub, Int.bmod_eq_of_le (by omega) (by omega)]
theorem own_i64_mul (x y : Int64) (h1 : -9223372036854775808 ≤ x.toInt * y.toInt) (h2 : x.toInt * y.toInt < 9223372036854775808) : (x * y).toInt = x.toInt * y.toInt := by
  rw [Int64.toInt_mul, Int.bmod_eq_of_le (by omega) (by omega)]
theorem own_i2l (x : Int32) : x.toInt64.toInt = x.toInt := Int32.toInt_toInt64 x
theorem own_l2i (x : Int64) (h1 : -2147483648 ≤ x.toInt) (h2 : x.toInt < 2147483648) : x.toInt32.toInt = x.toInt := by
  rw [Int64.toInt_toInt32, Int.bmod_eq_of_le (by omega) (by omega)]
theorem own_rangeI (x : Int32) : -2147483648 ≤ x.toInt ∧ x.toInt < 2147483648 := by
  have h1 := Int32.le_toInt x; have h2 := Int32.toInt_lt x; omega
theorem own_rangeL (x : Int64) : -9223372036854775808 ≤ x.toInt ∧ x.toInt < 9223372036854775808 := by
  have h1 := Int64.le_toInt x; have h2 := Int64.toInt_lt x; omega
theorem own_mask63 (a : Int64) : 0 ≤ (a &&& (9223372036854775807 : Int64)).toInt ∧ (a &&& (9223372036854775807 : Int64)).toInt < 9223372036854775808 := by
  have h : (a &&& (9223372036854775807 : Int64)).toBitVec = a.toBitVec &&& 9223372036854775807#64 := rfl
  have e : (a &&& (9223372036854775807 : Int64)).toInt = (a.toBitVec &&& 9223372036854775807#64).toInt := by rw [← h]; rfl
  have hm : (a.toBitVec &&& 9223372036854775807#64).toNat ≤ 9223372036854775807 := by rw [BitVec.toNat_and]; exact Nat.and_le_right
  rw [e, BitVec.toInt_eq_toNat_of_lt (by omega)]
  omega
theorem own_remL (u s : Int64) (hu : 0 ≤ u.toInt) (hs : 0 < s.toInt) : 0 ≤ (u % s).toInt ∧ (u % s).toInt < s.toInt := by
  have : (u % s).toInt = u.toInt.tmod s.toInt := Int64.toInt_mod ..
  rw [this, Int.tmod_eq_emod_of_nonneg hu]
  exact ⟨Int.emod_nonneg _ (by omega), Int.emod_lt_of_pos _ hs⟩
def own_gam : Int64 := -7046029254386353131
def own_st (w : Int64) : Nat → Int64
  | 0 => w
  | n + 1 => own_st w n + (-7046029254386353131 : Int64)
def own_p (w : Int64) (bd : Int32) (n : Nat) : Int64 := (own_us (own_mix (own_st w (n + 1))) 32) * bd.toInt64
def own_thr (bd : Int32) : Int64 := (4294967296 : Int64) % bd.toInt64
def own_acc (w : Int64) (bd : Int32) (n : Nat) : Prop := ¬ ((own_p w bd n &&& (4294967295 : Int64)) < own_thr bd)
def own_min (w : Int64) (bd : Int32) (n : Nat) : Prop := own_acc w bd n ∧ ∀ j, j < n → ¬ own_acc w bd j
def own_nii (w : Int64) (bd : Int32) (k : Nat) (pv sv : Int64) : Prop := ∃ n N : Nat, own_acc w bd N ∧ n + k = N ∧ pv = own_p w bd n ∧ sv = own_st w (n + 1) ∧ ∀ j, j < n → ¬ own_acc w bd j
theorem own_st_succ (w : Int64) (n : Nat) : own_st w (n + 1) = own_st w n + (-7046029254386353131 : Int64) := rfl
theorem own_st_eq (w : Int64) (n : Nat) : own_st w n = w + Int64.ofNat n * (-7046029254386353131 : Int64) := by
  induction n with
  | zero => show w = w + (0 : Int64) * _; rw [Int64.zero_mul, Int64.add_zero]
  | succ n ih =>
    show own_st w n + _ = _
    rw [ih, Int64.ofNat_add, Int64.add_mul, ← Int64.add_assoc]
    have : Int64.ofNat 1 * (-7046029254386353131 : Int64) = -7046029254386353131 := by decide
    rw [this]
theorem own_ginv : (-1018231460777725123 : Int64) * (-7046029254386353131 : Int64) = 1 := by decide
theorem own_reach (w y : Int64) : ∃ n : Nat, own_st w (n + 1) = y := by
  obtain ⟨X, hX⟩ : ∃ X : Nat, X = ((y - w - (-7046029254386353131 : Int64)) * (-1018231460777725123 : Int64)).toUInt64.toNat := ⟨_, rfl⟩
  refine ⟨X, ?_⟩
  rw [own_st_succ, own_st_eq, hX]
  have e : ∀ z : Int64, Int64.ofNat z.toUInt64.toNat = z := fun z => by
    apply Int64.toBitVec_inj.1
    show BitVec.ofNat 64 z.toBitVec.toNat = z.toBitVec
    rw [BitVec.ofNat_toNat, BitVec.setWidth_eq]
  rw [e, Int64.mul_assoc, own_ginv, Int64.mul_one, Int64.add_assoc, Int64.sub_add_cancel, Int64.add_comm, Int64.sub_add_cancel]
theorem own_us32 (x : Int64) : 0 ≤ (own_us x 32).toInt ∧ (own_us x 32).toInt < 4294967296 := by
  have h : (own_us x 32).toBitVec = x.toBitVec >>> 32 := rfl
  have hm : (x.toBitVec >>> 32).toNat < 4294967296 := by
    rw [BitVec.toNat_ushiftRight, Nat.shiftRight_eq_div_pow]
    have := x.toBitVec.isLt
    omega
  have e : (own_us x 32).toInt = (x.toBitVec >>> 32).toInt := by rw [← h]; rfl
  rw [e, BitVec.toInt_eq_toNat_of_lt (by omega)]
  omega
def own_N (x : Int64) : Nat := x.toBitVec.toNat
theorem own_N_of (z : Int64) (h : 0 ≤ z.toInt) : (own_N z : Int) = z.toInt := by
  have := z.toBitVec.isLt
  have e : z.toInt = z.toBitVec.toInt := rfl
  rw [BitVec.toInt_eq_toNat_cond] at e
  unfold own_N
  split at e <;> omega
theorem own_low32 (p : Int64) : (own_N (p &&& (4294967295 : Int64))) = own_N p % 4294967296 := by
  have h : (p &&& (4294967295 : Int64)).toBitVec = p.toBitVec &&& 4294967295#64 := rfl
  have t : (4294967295#64).toNat = 2 ^ 32 - 1 := rfl
  unfold own_N
  rw [h, BitVec.toNat_and, t, Nat.and_two_pow_sub_one_eq_mod]
theorem own_low32i (p : Int64) : (p &&& (4294967295 : Int64)).toInt = ((own_N p % 4294967296 : Nat) : Int) := by
  have h := own_low32 p
  have e : (p &&& (4294967295 : Int64)).toInt = (p &&& (4294967295 : Int64)).toBitVec.toInt := rfl
  unfold own_N at h
  rw [e, BitVec.toInt_eq_toNat_of_lt (by omega), h]; rfl
theorem own_thr_int (bd : Int32) (h1 : 1 ≤ bd.toInt) : (own_thr bd).toInt = 4294967296 % bd.toInt := by
  unfold own_thr
  have t : (4294967296 : Int64).toInt = 4294967296 := rfl
  rw [Int64.toInt_mod, t, own_i2l, Int.tmod_eq_emod_of_nonneg (by decide)]
theorem own_p_int (w : Int64) (bd : Int32) (n : Nat) (h1 : 1 ≤ bd.toInt) : (own_p w bd n).toInt = (own_us (own_mix (own_st w (n + 1))) 32).toInt * bd.toInt ∧ 0 ≤ (own_p w bd n).toInt ∧ (own_p w bd n).toInt < 4294967296 * bd.toInt := by
  have hu := own_us32 (own_mix (own_st w (n + 1)))
  have rb := own_rangeI bd
  have hle : (own_us (own_mix (own_st w (n + 1))) 32).toInt * bd.toInt ≤ 4294967295 * bd.toInt := Int.mul_le_mul_of_nonneg_right (by omega) (by omega)
  have hge : 0 ≤ (own_us (own_mix (own_st w (n + 1))) 32).toInt * bd.toInt := Int.mul_nonneg hu.1 (by omega)
  have e : (own_p w bd n).toInt = (own_us (own_mix (own_st w (n + 1))) 32).toInt * bd.toInt := by
    unfold own_p
    rw [own_i64_mul _ _ (by rw [own_i2l]; omega) (by rw [own_i2l]; omega), own_i2l]
  rw [e]; omega
theorem own_some (w : Int64) (bd : Int32) (h1 : 1 ≤ bd.toInt) : ∃ N : Nat, own_acc w bd N := by
  obtain ⟨n, hn⟩ := own_reach w (own_unmix (-1))
  refine ⟨n, ?_⟩
  unfold own_acc
  rw [Int64.lt_iff_toInt_lt, own_low32i, own_thr_int bd h1]
  have hp := own_p_int w bd n h1
  have hu : (own_us (own_mix (own_st w (n + 1))) 32).toInt = 4294967295 := by rw [hn, own_mix_unmix]; rfl
  rw [hu] at hp
  have hN := own_N_of (own_p w bd n) hp.2.1
  have rb := own_rangeI bd
  have hm := Int.emod_lt_of_pos 4294967296 (show 0 < bd.toInt by omega)
  have hlow : ((own_N (own_p w bd n) % 4294967296 : Nat) : Int) = 4294967296 - bd.toInt := by
    rw [Int.natCast_emod, hN, hp.1]
    omega
  rw [hlow]; omega
theorem own_start (w : Int64) (bd : Int32) (h1 : 1 ≤ bd.toInt) : ∃ k : Nat, own_nii w bd k (own_p w bd 0) (own_st w 1) := by
  obtain ⟨N, hN⟩ := own_some w bd h1
  exact ⟨N, 0, N, hN, Nat.zero_add _, rfl, rfl, fun j hj => by omega⟩
theorem own_next (w : Int64) (bd : Int32) (k : Nat) (pv sv : Int64) (h : own_nii w bd k pv sv) (hc : (pv &&& (4294967295 : Int64)) < own_thr bd) : ∃ k' : Nat, k' < k ∧ own_nii w bd k' ((own_us (own_mix (sv + (-7046029254386353131 : Int64))) 32) * bd.toInt64) (sv + (-7046029254386353131 : Int64)) := by
  obtain ⟨n, N, hN, rfl, rfl, rfl, hj⟩ := h
  have hna : ¬ own_acc w bd n := fun q => q hc
  have hk : k ≠ 0 := fun q => by subst q; exact hna hN
  refine ⟨k - 1, by omega, n + 1, n + k, hN, by omega, rfl, rfl, fun j q => ?_⟩
  by_cases e : j = n
  · subst e; exact hna
  · exact hj j (by omega)
theorem own_end (w : Int64) (bd : Int32) (k : Nat) (pv sv : Int64) (h : own_nii w bd k pv sv) (hc : ¬ ((pv &&& (4294967295 : Int64)) < own_thr bd)) : ∃ n, pv = own_p w bd n ∧ sv = own_st w (n + 1) ∧ own_min w bd n := by
  obtain ⟨n, N, hN, rfl, rfl, rfl, hj⟩ := h
  exact ⟨n, rfl, rfl, hc, hj⟩
theorem own_first (w : Int64) (bd : Int32) (h1 : 1 ≤ bd.toInt) (hc : ¬ ((own_p w bd 0 &&& (4294967295 : Int64)) < bd.toInt64)) : own_min w bd 0 := by
  refine ⟨fun q => hc ?_, fun j hj => by omega⟩
  rw [Int64.lt_iff_toInt_lt] at *
  rw [own_thr_int bd h1] at q
  rw [own_i2l]
  have := Int.emod_lt_of_pos 4294967296 (show 0 < bd.toInt by omega)
  omega
def own_r (w : Int64) (bd : Int32) (n : Nat) : Int32 := (own_us (own_p w bd n) 32).toInt32
theorem own_r_range (w : Int64) (bd : Int32) (n : Nat) (h1 : 1 ≤ bd.toInt) : 0 ≤ (own_r w bd n).toInt ∧ (own_r w bd n).toInt < bd.toInt := by
  have hp := own_p_int w bd n h1
  have hN := own_N_of (own_p w bd n) hp.2.1
  have rb := own_rangeI bd
  have h : (own_us (own_p w bd n) 32).toBitVec = (own_p w bd n).toBitVec >>> 32 := rfl
  have hu := own_us32 (own_p w bd n)
  have e : (own_N (own_us (own_p w bd n) 32)) = own_N (own_p w bd n) / 4294967296 := by
    unfold own_N
    rw [h, BitVec.toNat_ushiftRight, Nat.shiftRight_eq_div_pow]
  have eN := own_N_of _ hu.1
  unfold own_r
  have hlt : (own_us (own_p w bd n) 32).toInt < bd.toInt := by
    rw [← eN, e]
    have : own_N (own_p w bd n) < 4294967296 * bd.toInt.toNat := by omega
    omega
  rw [own_l2i _ (by omega) (by omega)]
  omega
theorem own_uniq (w : Int64) (bd : Int32) (n k : Nat) (h : own_min w bd n) (ha : own_acc w bd k) (hl : ∀ j, j < k → ¬ own_acc w bd j) : n = k := by
  by_cases q : n < k
  · exact absurd h.1 (hl n q)
  · by_cases q2 : k < n
    · exact absurd ha (h.2 k q2)
    · omega
theorem own_thr_ne (bd : Int32) (h1 : 1 ≤ bd.toInt) : ¬ (bd.toInt64 = (0 : Int64)) := fun q => by
  have := congrArg Int64.toInt q
  rw [own_i2l] at this
  have t : (0 : Int64).toInt = 0 := rfl
  omega
theorem own_bd (kb km : Int32) : 1 ≤ (if (km &&& (1 : Int32)) = (0 : Int32) then (if (kb &&& (2147483647 : Int32)) = (0 : Int32) then (1 : Int32) else (kb &&& (2147483647 : Int32))) else ((kb &&& (15 : Int32)) + (1 : Int32))).toInt := by
  have t1 : (1 : Int32).toInt = 1 := rfl
  have t0 : (0 : Int32).toInt = 0 := rfl
  split
  · split
    · decide
    · rename_i h
      have h2 := own_mask31 kb
      have : (kb &&& (2147483647 : Int32)).toInt ≠ 0 := fun q => h (Int32.toInt_inj.1 q)
      omega
  · have h : (kb &&& (15 : Int32)).toBitVec = kb.toBitVec &&& 15#32 := rfl
    have e : (kb &&& (15 : Int32)).toInt = (kb.toBitVec &&& 15#32).toInt := by rw [← h]; rfl
    have hm : (kb.toBitVec &&& 15#32).toNat ≤ 15 := by rw [BitVec.toNat_and]; exact Nat.and_le_right
    rw [BitVec.toInt_eq_toNat_of_lt (by omega)] at e
    rw [own_i32_add _ _ (by omega) (by omega)]
    omega
theorem d1_0 : decode prog_42_method_1_code 0 = .ok (.aload_n 0, 1) := by decide +kernel
theorem d1_1 : decode prog_42_method_1_code 1 = .ok (.invokespecial 3, 3) := by decide +kernel
theorem d1_4 : decode prog_42_method_1_code 4 = .ok (.aload_n 0, 1) := by decide +kernel
theorem d1_5 : decode prog_42_method_1_code 5 = .ok (.lload_n 1, 1) := by decide +kernel
theorem d1_6 : decode prog_42_method_1_code 6 = .ok (.putfield 9, 3) := by decide +kernel
theorem d1_9 : decode prog_42_method_1_code 9 = .ok (.return_, 1) := by decide +kernel
theorem pn_1 : plainName "com/example/wary_rank/waryrank/SplitMix64" = true := by first | (simp [plainName, overriddenIn]; done) | decide +kernel
theorem ef_1 (m : MethodId) (x0 : Addr) (x1 : Int64) : entryFrame m #[(.ref x0), (.long x1)] 3 = mkF m 0 #[.val (.ref x0), .val (.long x1), .second] [] := by first | (simp [entryFrame, mkF, argsToLocals, Value.category]; done) | rfl
def Q1 (Z : State) (ob : Addr) (z : Int64) (h0 : Heap) (n0 : Nat) (v : Option Value) (h : Heap) (L : List Loc) : Prop := v = none ∧ Fr n0 L ∧ Keep h0 h [ob] ∧ Exa Z h ob "com/example/wary_rank/waryrank/SplitMix64" ∧ Fld Z h ob "com/example/wary_rank/waryrank/SplitMix64" "state" "J" (.long z)
set_option maxRecDepth 65536 in
set_option maxHeartbeats 40000000 in
theorem rm1 (l : Launch) (Z : State) (a0 : Array Value) (hw : ∀ d ∈ tables_1, d.before a0 Z = true) (ws : List Jvm.Cond) (ob : Addr) (z : Int64) (h0 : Heap) (n0 : Nat) (Z0 : n0 ≤ h0.size) (I0 : Fld Z h0 ob "com/example/wary_rank/waryrank/SplitMix64" "state" "J" (.long (0 : Int64))) (I1 : Exa Z h0 ob "com/example/wary_rank/waryrank/SplitMix64") (g_ob : n0 ≤ ob) :
    MetFree l (⟨"com/example/wary_rank/waryrank/SplitMix64", "<init>", "(J)V"⟩ : MethodName) (head1 (Jvm.Cond.code (⟨"com/example/wary_rank/waryrank/SplitMix64", "<init>", "(J)V"⟩ : MethodName) prog_42_method_1_code 3 none :: ws) ({ frames := 1, cells := 0, slots := 0, locals := 12 } : Room)) (fun a U => a = #[(.ref ob), (.long z)] ∧ Z.Warmed39 U.vm ∧ U.heap = h0) (fun _ _ _ _ _ => True) (fun _ U o U' => ∃ v L, o = .returned v ∧ Q1 Z ob z h0 n0 v U'.heap L ∧ FrameEnd U o U' L ({ frames := 1, cells := 0, slots := 0, locals := 12 } : Room).cells ({ frames := 1, cells := 0, slots := 0, locals := 12 } : Room).slots) := by
  refine MetFree.of_bodySF (plainFor_of_name pn_1) hisR ?_
  intro p e s m args below meth c s₁ Bd hml0 hP hK
  obtain ⟨rfl, hZ, hh⟩ := hP
  have hx := Bd.exec
  have hby := Bd.bytes
  have hml : c.maxLocals = 3 := hml0
  have hown : s.vm.findClass "com/example/wary_rank/waryrank/SplitMix64" = some m.cls := findClass_of_methodNamed Bd.named
  have hnm := (name_of_methodNamed Bd.named Bd.method).1
  have X0 : Stand p l e ({ frames := 1, cells := 0, slots := 0, locals := 12 } : Room) s m #[(.ref ob), (.long z)] below meth c s₁ [] 0 0 := Stand.of_body Bd
  have e0 : s₁.heap = h0 := by rw [← hh, Bd.state]; rfl
  have N0 := Fr.nil n0
  have K0 : Keep h0 h0 [ob] := Keep.refl h0 _
  have pre0 : ∀ tq, Steps p.tables e below (s₁.setTop (mkF m 0 #[.val (.ref ob), .val (.long z), .second] [])) tq → Steps p.tables e below (s₁.setTop (entryFrame m #[(.ref ob), (.long z)] 3)) tq := fun tq kq => castTop (ef_1 m ob z) kq
  obtain ⟨T1, X1, e1, st1⟩ := initO X0 hx hZ hown (hw _ (List.mem_of_getElem? (i := 6) rfl)) (hw _ (List.mem_of_getElem? (i := 7) rfl)) (hw _ (List.mem_of_getElem? (i := 8) rfl)) e0 (g := (mkF m 1 #[.val (.ref ob), .val (.long z), .second] [(.ref ob)])) rfl (by rw [hml]; rfl) rfl (hb hby d1_1) (by decide) (W := 0) (by show 2 * 0 + _ ≤ _; exact Nat.le_of_eq rfl) (by decide)
  obtain ⟨T2, hX2, X2, e2, W2, st2⟩ := putF X1 hx hZ hown (host := "") (Or.inl (hw _ (List.mem_of_getElem? (i := 9) rfl))) Via.refl e1 I0 I1 (Or.inl (hw _ (List.mem_of_getElem? (i := 10) rfl))) (hw _ (List.mem_of_getElem? (i := 1) rfl)) (ty := .long) (by decide) rfl rfl (g := (mkF m 6 #[.val (.ref ob), .val (.long z), .second] [(.long z), (.ref ob)])) rfl rfl (hb hby d1_6)
  have N2 := Fr.snoc X2 N0 g_ob
  have F3 : Fld Z hX2 ob "com/example/wary_rank/waryrank/SplitMix64" "state" "J" (.long z) := I0.same W2
  have F4 : Exa Z hX2 ob "com/example/wary_rank/waryrank/SplitMix64" := I1.wr W2
  have Z5 : n0 ≤ hX2.size := Nat.le_trans Z0 (Keep.of_wr W2).1
  have K6 : Keep h0 hX2 [ob] := K0.wr W2 (Or.inl (List.mem_of_getElem? (i := 0) rfl))
  obtain ⟨fs, hr, hrun, hended, hW, hsame⟩ := X2.leave (v := none) (fun _ => rfl)
  refine ⟨_, _, pre0 _ ?_, hrun, hended, _, _, rfl, ?_, ⟨_, rfl⟩, hW, hsame.mono (by decide) (by decide)⟩
  · skip
    show Steps p.tables e below (s₁.setTop (mkF m 0 #[.val (.ref ob), .val (.long z), .second] [])) _
    refine XS.aloadN X0.here hx rfl (hb hby d1_0) rfl rfl ?_
    show Steps p.tables e below (s₁.setTop (mkF m 1 #[.val (.ref ob), .val (.long z), .second] [(.ref ob)])) _
    refine st1 _ ?_
    show Steps p.tables e below (T1.setTop (mkF m 4 #[.val (.ref ob), .val (.long z), .second] [])) _
    refine XS.aloadN X1.here hx rfl (hb hby d1_4) rfl rfl ?_
    show Steps p.tables e below (T1.setTop (mkF m 5 #[.val (.ref ob), .val (.long z), .second] [(.ref ob)])) _
    refine XS.lloadN X1.here hx rfl (hb hby d1_5) rfl ?_
    show Steps p.tables e below (T1.setTop (mkF m 6 #[.val (.ref ob), .val (.long z), .second] [(.long z), (.ref ob)])) _
    refine st2 _ ?_
    show Steps p.tables e below (T2.setTop (mkF m 9 #[.val (.ref ob), .val (.long z), .second] [])) _
    exact X2.returnOut hx Bd.returns (hb hby d1_9) hr
  · show Q1 Z ob z h0 n0 _ T2.heap _
    rw [e2]
    exact ⟨rfl, N2, K6, F4, F3⟩
theorem d4_0 : decode prog_42_method_2_code 0 = .ok (.aload_n 0, 1) := by decide +kernel
theorem d4_1 : decode prog_42_method_2_code 1 = .ok (.dup, 1) := by decide +kernel
theorem d4_2 : decode prog_42_method_2_code 2 = .ok (.getfield 9, 3) := by decide +kernel
theorem d4_5 : decode prog_42_method_2_code 5 = .ok (.ldc2_w 15, 3) := by decide +kernel
theorem d4_8 : decode prog_42_method_2_code 8 = .ok (.ladd, 1) := by decide +kernel
theorem d4_9 : decode prog_42_method_2_code 9 = .ok (.putfield 9, 3) := by decide +kernel
theorem d4_12 : decode prog_42_method_2_code 12 = .ok (.aload_n 0, 1) := by decide +kernel
theorem d4_13 : decode prog_42_method_2_code 13 = .ok (.getfield 9, 3) := by decide +kernel
theorem d4_16 : decode prog_42_method_2_code 16 = .ok (.aload_n 0, 1) := by decide +kernel
theorem d4_17 : decode prog_42_method_2_code 17 = .ok (.getfield 9, 3) := by decide +kernel
theorem d4_20 : decode prog_42_method_2_code 20 = .ok (.bipush 30, 2) := by decide +kernel
theorem d4_22 : decode prog_42_method_2_code 22 = .ok (.lushr, 1) := by decide +kernel
theorem d4_23 : decode prog_42_method_2_code 23 = .ok (.lxor, 1) := by decide +kernel
theorem d4_24 : decode prog_42_method_2_code 24 = .ok (.ldc2_w 17, 3) := by decide +kernel
theorem d4_27 : decode prog_42_method_2_code 27 = .ok (.lmul, 1) := by decide +kernel
theorem d4_28 : decode prog_42_method_2_code 28 = .ok (.lstore_n 1, 1) := by decide +kernel
theorem d4_29 : decode prog_42_method_2_code 29 = .ok (.lload_n 1, 1) := by decide +kernel
theorem d4_30 : decode prog_42_method_2_code 30 = .ok (.lload_n 1, 1) := by decide +kernel
theorem d4_31 : decode prog_42_method_2_code 31 = .ok (.bipush 27, 2) := by decide +kernel
theorem d4_33 : decode prog_42_method_2_code 33 = .ok (.lushr, 1) := by decide +kernel
theorem d4_34 : decode prog_42_method_2_code 34 = .ok (.lxor, 1) := by decide +kernel
theorem d4_35 : decode prog_42_method_2_code 35 = .ok (.ldc2_w 19, 3) := by decide +kernel
theorem d4_38 : decode prog_42_method_2_code 38 = .ok (.lmul, 1) := by decide +kernel
theorem d4_39 : decode prog_42_method_2_code 39 = .ok (.lstore_n 1, 1) := by decide +kernel
theorem d4_40 : decode prog_42_method_2_code 40 = .ok (.lload_n 1, 1) := by decide +kernel
theorem d4_41 : decode prog_42_method_2_code 41 = .ok (.lload_n 1, 1) := by decide +kernel
theorem d4_42 : decode prog_42_method_2_code 42 = .ok (.bipush 31, 2) := by decide +kernel
theorem d4_44 : decode prog_42_method_2_code 44 = .ok (.lushr, 1) := by decide +kernel
theorem d4_45 : decode prog_42_method_2_code 45 = .ok (.lxor, 1) := by decide +kernel
theorem d4_46 : decode prog_42_method_2_code 46 = .ok (.lreturn, 1) := by decide +kernel
theorem pn_4 : plainName "com/example/wary_rank/waryrank/SplitMix64" = true := by first | (simp [plainName, overriddenIn]; done) | decide +kernel
theorem ef_4 (m : MethodId) (x0 : Addr) : entryFrame m #[(.ref x0)] 3 = mkF m 0 #[.val (.ref x0), .unset, .unset] [] := by first | (simp [entryFrame, mkF, argsToLocals, Value.category]; done) | rfl
def Q4 (Z : State) (ob : Addr) (w : Int64) (h0 : Heap) (n0 : Nat) (v : Option Value) (h : Heap) (L : List Loc) : Prop := v = some (.long (own_mix (w + (-7046029254386353131 : Int64)))) ∧ Fr n0 L ∧ Keep h0 h [ob] ∧ Exa Z h ob "com/example/wary_rank/waryrank/SplitMix64" ∧ Fld Z h ob "com/example/wary_rank/waryrank/SplitMix64" "state" "J" (.long (w + (-7046029254386353131 : Int64)))
set_option maxRecDepth 65536 in
set_option maxHeartbeats 40000000 in
theorem rm4 (l : Launch) (Z : State) (a0 : Array Value) (hw : ∀ d ∈ tables_1, d.before a0 Z = true) (ws : List Jvm.Cond) (ob : Addr) (w : Int64) (h0 : Heap) (n0 : Nat) (Z0 : n0 ≤ h0.size) (I0 : Fld Z h0 ob "com/example/wary_rank/waryrank/SplitMix64" "state" "J" (.long w)) (I1 : Exa Z h0 ob "com/example/wary_rank/waryrank/SplitMix64") (g_ob : n0 ≤ ob) :
    MetFree l (⟨"com/example/wary_rank/waryrank/SplitMix64", "nextLong", "()J"⟩ : MethodName) (head1 (Jvm.Cond.code (⟨"com/example/wary_rank/waryrank/SplitMix64", "nextLong", "()J"⟩ : MethodName) prog_42_method_2_code 3 (some .long) :: ws) ({ frames := 0, cells := 0, slots := 0, locals := 0 } : Room)) (fun a U => a = #[(.ref ob)] ∧ Z.Warmed39 U.vm ∧ U.heap = h0) (fun _ _ _ _ _ => True) (fun _ U o U' => ∃ v L, o = .returned v ∧ Q4 Z ob w h0 n0 v U'.heap L ∧ FrameEnd U o U' L ({ frames := 0, cells := 0, slots := 0, locals := 0 } : Room).cells ({ frames := 0, cells := 0, slots := 0, locals := 0 } : Room).slots) := by
  refine MetFree.of_bodySF (plainFor_of_name pn_4) hisR ?_
  intro p e s m args below meth c s₁ Bd hml0 hP hK
  obtain ⟨rfl, hZ, hh⟩ := hP
  have hx := Bd.exec
  have hby := Bd.bytes
  have hml : c.maxLocals = 3 := hml0
  have hown : s.vm.findClass "com/example/wary_rank/waryrank/SplitMix64" = some m.cls := findClass_of_methodNamed Bd.named
  have hnm := (name_of_methodNamed Bd.named Bd.method).1
  have X0 : Stand p l e ({ frames := 0, cells := 0, slots := 0, locals := 0 } : Room) s m #[(.ref ob)] below meth c s₁ [] 0 0 := Stand.of_body Bd
  have e0 : s₁.heap = h0 := by rw [← hh, Bd.state]; rfl
  have N0 := Fr.nil n0
  have K0 : Keep h0 h0 [ob] := Keep.refl h0 _
  have pre0 : ∀ tq, Steps p.tables e below (s₁.setTop (mkF m 0 #[.val (.ref ob), .unset, .unset] [])) tq → Steps p.tables e below (s₁.setTop (entryFrame m #[(.ref ob)] 3)) tq := fun tq kq => castTop (ef_4 m ob) kq
  obtain ⟨T1, X1, e1, st1⟩ := getF X0 hx hZ hown (host := "") (Or.inl (hw _ (List.mem_of_getElem? (i := 9) rfl))) Via.refl e0 I0 (g := (mkF m 2 #[.val (.ref ob), .unset, .unset] [(.ref ob), (.ref ob)])) rfl rfl (hb hby d4_2)
  obtain ⟨T2, hX2, X2, e2, W2, st2⟩ := putF X1 hx hZ hown (host := "") (Or.inl (hw _ (List.mem_of_getElem? (i := 9) rfl))) Via.refl e1 I0 I1 (Or.inl (hw _ (List.mem_of_getElem? (i := 10) rfl))) (hw _ (List.mem_of_getElem? (i := 1) rfl)) (ty := .long) (by decide) rfl rfl (g := (mkF m 9 #[.val (.ref ob), .unset, .unset] [(.long (w + (-7046029254386353131 : Int64))), (.ref ob)])) rfl rfl (hb hby d4_9)
  have N2 := Fr.snoc X2 N0 g_ob
  have F3 : Fld Z hX2 ob "com/example/wary_rank/waryrank/SplitMix64" "state" "J" (.long (w + (-7046029254386353131 : Int64))) := I0.same W2
  have F4 : Exa Z hX2 ob "com/example/wary_rank/waryrank/SplitMix64" := I1.wr W2
  have Z5 : n0 ≤ hX2.size := Nat.le_trans Z0 (Keep.of_wr W2).1
  have K6 : Keep h0 hX2 [ob] := K0.wr W2 (Or.inl (List.mem_of_getElem? (i := 0) rfl))
  obtain ⟨T7, X7, e7, st7⟩ := getF X2 hx hZ hown (host := "") (Or.inl (hw _ (List.mem_of_getElem? (i := 9) rfl))) Via.refl e2 F3 (g := (mkF m 13 #[.val (.ref ob), .unset, .unset] [(.ref ob)])) rfl rfl (hb hby d4_13)
  obtain ⟨T8, X8, e8, st8⟩ := getF X7 hx hZ hown (host := "") (Or.inl (hw _ (List.mem_of_getElem? (i := 9) rfl))) Via.refl e7 F3 (g := (mkF m 17 #[.val (.ref ob), .unset, .unset] [(.ref ob), (.long (w + (-7046029254386353131 : Int64)))])) rfl rfl (hb hby d4_17)
  obtain ⟨v28, hv28⟩ : ∃ z_q : Int64, z_q = (((w + (-7046029254386353131 : Int64)) ^^^ (((w + (-7046029254386353131 : Int64)).toUInt64 >>> ((30 : Int32) &&& 0x3f).toInt64.toUInt64).toInt64)) * (-4658895280553007687 : Int64)) := ⟨_, rfl⟩
  obtain ⟨v39, hv39⟩ : ∃ z_q : Int64, z_q = ((v28 ^^^ ((v28.toUInt64 >>> ((27 : Int32) &&& 0x3f).toInt64.toUInt64).toInt64)) * (-7723592293110705685 : Int64)) := ⟨_, rfl⟩
  obtain ⟨fs, hr, hrun, hended, hW, hsame⟩ := X8.leave (v := some (Value.long (v39 ^^^ ((v39.toUInt64 >>> ((31 : Int32) &&& 0x3f).toInt64.toUInt64).toInt64)))) (fun h => by rw [Bd.returns] at h; cases h)
  have hres9 : (v39 ^^^ ((v39.toUInt64 >>> ((31 : Int32) &&& 0x3f).toInt64.toUInt64).toInt64)) = (own_mix (w + (-7046029254386353131 : Int64))) := by subst_vars; rfl
  refine ⟨_, _, pre0 _ ?_, hrun, hended, _, _, rfl, ?_, ⟨_, rfl⟩, hW, hsame.mono (by decide) (by decide)⟩
  · skip
    show Steps p.tables e below (s₁.setTop (mkF m 0 #[.val (.ref ob), .unset, .unset] [])) _
    refine XS.aloadN X0.here hx rfl (hb hby d4_0) rfl rfl ?_
    show Steps p.tables e below (s₁.setTop (mkF m 1 #[.val (.ref ob), .unset, .unset] [(.ref ob)])) _
    refine XS.dup X0.here hx rfl (hb hby d4_1) rfl rfl ?_
    show Steps p.tables e below (s₁.setTop (mkF m 2 #[.val (.ref ob), .unset, .unset] [(.ref ob), (.ref ob)])) _
    refine st1 _ ?_
    show Steps p.tables e below (T1.setTop (mkF m 5 #[.val (.ref ob), .unset, .unset] [(.long w), (.ref ob)])) _
    refine X1.ldc2Long hx hown (mvT hZ (hw _ (List.mem_of_getElem? (i := 21) rfl))) (g := (mkF m 5 #[.val (.ref ob), .unset, .unset] [(.long w), (.ref ob)])) rfl (hb hby d4_5) _ ?_
    show Steps p.tables e below (T1.setTop (mkF m 8 #[.val (.ref ob), .unset, .unset] [(.long (-7046029254386353131 : Int64)), (.long w), (.ref ob)])) _
    refine XS.ladd X1.here hx rfl (hb hby d4_8) rfl ?_
    show Steps p.tables e below (T1.setTop (mkF m 9 #[.val (.ref ob), .unset, .unset] [(.long (w + (-7046029254386353131 : Int64))), (.ref ob)])) _
    refine st2 _ ?_
    show Steps p.tables e below (T2.setTop (mkF m 12 #[.val (.ref ob), .unset, .unset] [])) _
    refine XS.aloadN X2.here hx rfl (hb hby d4_12) rfl rfl ?_
    show Steps p.tables e below (T2.setTop (mkF m 13 #[.val (.ref ob), .unset, .unset] [(.ref ob)])) _
    refine st7 _ ?_
    show Steps p.tables e below (T7.setTop (mkF m 16 #[.val (.ref ob), .unset, .unset] [(.long (w + (-7046029254386353131 : Int64)))])) _
    refine XS.aloadN X7.here hx rfl (hb hby d4_16) rfl rfl ?_
    show Steps p.tables e below (T7.setTop (mkF m 17 #[.val (.ref ob), .unset, .unset] [(.ref ob), (.long (w + (-7046029254386353131 : Int64)))])) _
    refine st8 _ ?_
    show Steps p.tables e below (T8.setTop (mkF m 20 #[.val (.ref ob), .unset, .unset] [(.long (w + (-7046029254386353131 : Int64))), (.long (w + (-7046029254386353131 : Int64)))])) _
    refine XS.bipush X8.here hx rfl (hb hby d4_20) ?_
    show Steps p.tables e below (T8.setTop (mkF m 22 #[.val (.ref ob), .unset, .unset] [(.int (30 : Int32)), (.long (w + (-7046029254386353131 : Int64))), (.long (w + (-7046029254386353131 : Int64)))])) _
    refine XS.lushr X8.here hx rfl (hb hby d4_22) rfl ?_
    show Steps p.tables e below (T8.setTop (mkF m 23 #[.val (.ref ob), .unset, .unset] [(.long (((w + (-7046029254386353131 : Int64)).toUInt64 >>> ((30 : Int32) &&& 0x3f).toInt64.toUInt64).toInt64)), (.long (w + (-7046029254386353131 : Int64)))])) _
    refine XS.lxor X8.here hx rfl (hb hby d4_23) rfl ?_
    show Steps p.tables e below (T8.setTop (mkF m 24 #[.val (.ref ob), .unset, .unset] [(.long ((w + (-7046029254386353131 : Int64)) ^^^ (((w + (-7046029254386353131 : Int64)).toUInt64 >>> ((30 : Int32) &&& 0x3f).toInt64.toUInt64).toInt64)))])) _
    refine X8.ldc2Long hx hown (mvT hZ (hw _ (List.mem_of_getElem? (i := 22) rfl))) (g := (mkF m 24 #[.val (.ref ob), .unset, .unset] [(.long ((w + (-7046029254386353131 : Int64)) ^^^ (((w + (-7046029254386353131 : Int64)).toUInt64 >>> ((30 : Int32) &&& 0x3f).toInt64.toUInt64).toInt64)))])) rfl (hb hby d4_24) _ ?_
    show Steps p.tables e below (T8.setTop (mkF m 27 #[.val (.ref ob), .unset, .unset] [(.long (-4658895280553007687 : Int64)), (.long ((w + (-7046029254386353131 : Int64)) ^^^ (((w + (-7046029254386353131 : Int64)).toUInt64 >>> ((30 : Int32) &&& 0x3f).toInt64.toUInt64).toInt64)))])) _
    refine XS.lmul X8.here hx rfl (hb hby d4_27) rfl ?_
    show Steps p.tables e below (T8.setTop (mkF m 28 #[.val (.ref ob), .unset, .unset] [(.long (((w + (-7046029254386353131 : Int64)) ^^^ (((w + (-7046029254386353131 : Int64)).toUInt64 >>> ((30 : Int32) &&& 0x3f).toInt64.toUInt64).toInt64)) * (-4658895280553007687 : Int64)))])) _
    refine XS.lstoreN X8.here hx rfl (hb hby d4_28) rfl (l' := #[.val (.ref ob), .val (.long v28), .second]) (by rw [hv28]; rfl) ?_
    show Steps p.tables e below (T8.setTop (mkF m 29 #[.val (.ref ob), .val (.long v28), .second] [])) _
    refine XS.lloadN X8.here hx rfl (hb hby d4_29) rfl ?_
    show Steps p.tables e below (T8.setTop (mkF m 30 #[.val (.ref ob), .val (.long v28), .second] [(.long v28)])) _
    refine XS.lloadN X8.here hx rfl (hb hby d4_30) rfl ?_
    show Steps p.tables e below (T8.setTop (mkF m 31 #[.val (.ref ob), .val (.long v28), .second] [(.long v28), (.long v28)])) _
    refine XS.bipush X8.here hx rfl (hb hby d4_31) ?_
    show Steps p.tables e below (T8.setTop (mkF m 33 #[.val (.ref ob), .val (.long v28), .second] [(.int (27 : Int32)), (.long v28), (.long v28)])) _
    refine XS.lushr X8.here hx rfl (hb hby d4_33) rfl ?_
    show Steps p.tables e below (T8.setTop (mkF m 34 #[.val (.ref ob), .val (.long v28), .second] [(.long ((v28.toUInt64 >>> ((27 : Int32) &&& 0x3f).toInt64.toUInt64).toInt64)), (.long v28)])) _
    refine XS.lxor X8.here hx rfl (hb hby d4_34) rfl ?_
    show Steps p.tables e below (T8.setTop (mkF m 35 #[.val (.ref ob), .val (.long v28), .second] [(.long (v28 ^^^ ((v28.toUInt64 >>> ((27 : Int32) &&& 0x3f).toInt64.toUInt64).toInt64)))])) _
    refine X8.ldc2Long hx hown (mvT hZ (hw _ (List.mem_of_getElem? (i := 23) rfl))) (g := (mkF m 35 #[.val (.ref ob), .val (.long v28), .second] [(.long (v28 ^^^ ((v28.toUInt64 >>> ((27 : Int32) &&& 0x3f).toInt64.toUInt64).toInt64)))])) rfl (hb hby d4_35) _ ?_
    show Steps p.tables e below (T8.setTop (mkF m 38 #[.val (.ref ob), .val (.long v28), .second] [(.long (-7723592293110705685 : Int64)), (.long (v28 ^^^ ((v28.toUInt64 >>> ((27 : Int32) &&& 0x3f).toInt64.toUInt64).toInt64)))])) _
    refine XS.lmul X8.here hx rfl (hb hby d4_38) rfl ?_
    show Steps p.tables e below (T8.setTop (mkF m 39 #[.val (.ref ob), .val (.long v28), .second] [(.long ((v28 ^^^ ((v28.toUInt64 >>> ((27 : Int32) &&& 0x3f).toInt64.toUInt64).toInt64)) * (-7723592293110705685 : Int64)))])) _
    refine XS.lstoreN X8.here hx rfl (hb hby d4_39) rfl (l' := #[.val (.ref ob), .val (.long v39), .second]) (by rw [hv39]; rfl) ?_
    show Steps p.tables e below (T8.setTop (mkF m 40 #[.val (.ref ob), .val (.long v39), .second] [])) _
    refine XS.lloadN X8.here hx rfl (hb hby d4_40) rfl ?_
    show Steps p.tables e below (T8.setTop (mkF m 41 #[.val (.ref ob), .val (.long v39), .second] [(.long v39)])) _
    refine XS.lloadN X8.here hx rfl (hb hby d4_41) rfl ?_
    show Steps p.tables e below (T8.setTop (mkF m 42 #[.val (.ref ob), .val (.long v39), .second] [(.long v39), (.long v39)])) _
    refine XS.bipush X8.here hx rfl (hb hby d4_42) ?_
    show Steps p.tables e below (T8.setTop (mkF m 44 #[.val (.ref ob), .val (.long v39), .second] [(.int (31 : Int32)), (.long v39), (.long v39)])) _
    refine XS.lushr X8.here hx rfl (hb hby d4_44) rfl ?_
    show Steps p.tables e below (T8.setTop (mkF m 45 #[.val (.ref ob), .val (.long v39), .second] [(.long ((v39.toUInt64 >>> ((31 : Int32) &&& 0x3f).toInt64.toUInt64).toInt64)), (.long v39)])) _
    refine XS.lxor X8.here hx rfl (hb hby d4_45) rfl ?_
    show Steps p.tables e below (T8.setTop (mkF m 46 #[.val (.ref ob), .val (.long v39), .second] [(.long (v39 ^^^ ((v39.toUInt64 >>> ((31 : Int32) &&& 0x3f).toInt64.toUInt64).toInt64)))])) _
    exact retOut X8 hx Bd.returns rfl (Or.inr (Or.inl ⟨rfl, rfl, _, rfl⟩)) (hb hby d4_46) hr
  · show Q4 Z ob w h0 n0 _ T8.heap _
    rw [e8]
    exact ⟨congrArg (fun z => some (Value.long z)) hres9, N2, K6, F4, F3⟩
theorem d3_30 : decode prog_42_method_3_code 30 = .ok (.lload_n 2, 1) := by decide +kernel
theorem d3_31 : decode prog_42_method_3_code 31 = .ok (.ldc2_w 27, 3) := by decide +kernel
theorem d3_34 : decode prog_42_method_3_code 34 = .ok (.land, 1) := by decide +kernel
theorem d3_35 : decode prog_42_method_3_code 35 = .ok (.lload 4, 2) := by decide +kernel
theorem d3_37 : decode prog_42_method_3_code 37 = .ok (.lcmp, 1) := by decide +kernel
theorem d3_38 : decode prog_42_method_3_code 38 = .ok (.ifCond .ge 17, 3) := by decide +kernel
theorem d3_41 : decode prog_42_method_3_code 41 = .ok (.aload_n 0, 1) := by decide +kernel
theorem d3_42 : decode prog_42_method_3_code 42 = .ok (.invokevirtual 21, 3) := by decide +kernel
theorem d3_45 : decode prog_42_method_3_code 45 = .ok (.bipush 32, 2) := by decide +kernel
theorem d3_47 : decode prog_42_method_3_code 47 = .ok (.lushr, 1) := by decide +kernel
theorem d3_48 : decode prog_42_method_3_code 48 = .ok (.iload_n 1, 1) := by decide +kernel
theorem d3_49 : decode prog_42_method_3_code 49 = .ok (.i2l, 1) := by decide +kernel
theorem d3_50 : decode prog_42_method_3_code 50 = .ok (.lmul, 1) := by decide +kernel
theorem d3_51 : decode prog_42_method_3_code 51 = .ok (.lstore_n 2, 1) := by decide +kernel
theorem d3_52 : decode prog_42_method_3_code 52 = .ok (.goto (-22), 3) := by decide +kernel
theorem pd_0 : parseMethodDescriptor "()J" = some ⟨[], some .long⟩ := by decide +kernel
theorem own_back_3_30_f (bd : Int32) (w : Int64) (th : Int64) (hth : th = own_thr bd) (k : Nat) (pv : Int64) (sv : Int64) (hinv : own_nii w bd k pv sv) (hc38_2 : (pv &&& (4294967295 : Int64)) < th) (r42 : Int64) (hr42 : r42 = (own_mix (sv + (-7046029254386353131 : Int64)))) (v51 : Int64) (hv51 : v51 = (((r42.toUInt64 >>> ((32 : Int32) &&& 0x3f).toInt64.toUInt64).toInt64) * (bd.toInt64))) : ∃ k' : Nat, k' < k ∧ own_nii w bd k' v51 (sv + (-7046029254386353131 : Int64)) := by
  rw [hth] at *
  subst_vars
  exact own_next w bd k pv sv hinv (by assumption)
theorem own_post_3_55_t (bd : Int32) (w : Int64) (th : Int64) (hth : th = own_thr bd) (k : Nat) (pv : Int64) (sv : Int64) (hinv : own_nii w bd k pv sv) (hc38_2 : ¬ ((pv &&& (4294967295 : Int64)) < th)) : ∃ n, pv = own_p w bd n ∧ sv = own_st w (n + 1) ∧ own_min w bd n := by rw [hth] at *; exact own_end w bd k pv sv hinv (by assumption)
set_option maxRecDepth 65536 in
set_option maxHeartbeats 40000000 in
theorem lp3_30 {p : Program} {l : Launch} {e : Env} {s : State} {m : MethodId} {args : Array Value} {below : List Frame} {meth : Method} {c : Code} {Z : State} {a0 : Array Value} (n0 : Nat) (ob : Addr) (bd : Int32) (w : Int64) (th : Int64) (hx : p.tables.exec = Jvm.exec) (hZ : Z.Warmed39 s.vm) (hw : ∀ d ∈ tables_1, d.before a0 Z = true) (hby : c.code = prog_42_method_3_code) (hml : c.maxLocals = 6) (hown : s.vm.findClass "com/example/wary_rank/waryrank/SplitMix64" = some m.cls) (g_ob : n0 ≤ ob) (hth : th = own_thr bd) :
    ∀ (k : Nat) (pv : Int64) (sv : Int64) (T0 : State) (h0 : Heap) (locs : List Loc), (own_nii w bd k pv sv) → Stand p l e ({ frames := 1, cells := 0, slots := 0, locals := 14 } : Room) s m args below meth c T0 locs 0 0 → T0.heap = h0 → Fr n0 locs → n0 ≤ h0.size → Fld Z h0 ob "com/example/wary_rank/waryrank/SplitMix64" "state" "J" (.long sv) → Exa Z h0 ob "com/example/wary_rank/waryrank/SplitMix64" → 
      ∃ (T' : State) (h' : Heap) (locs' : List Loc) (po : Int64) (so : Int64), Stand p l e ({ frames := 1, cells := 0, slots := 0, locals := 14 } : Room) s m args below meth c T' locs' 0 0 ∧ T'.heap = h' ∧ Fr n0 locs' ∧ Keep h0 h' [ob] ∧ Fld Z h' ob "com/example/wary_rank/waryrank/SplitMix64" "state" "J" (.long so) ∧ Exa Z h' ob "com/example/wary_rank/waryrank/SplitMix64" ∧ (∃ n, po = own_p w bd n ∧ so = own_st w (n + 1) ∧ own_min w bd n) ∧
        ∀ tq, Steps p.tables e below (T'.setTop (mkF m 55 #[.val (.ref ob), .val (.int bd), .val (.long po), .second, .val (.long th), .second] [])) tq → Steps p.tables e below (T0.setTop (mkF m 30 #[.val (.ref ob), .val (.int bd), .val (.long pv), .second, .val (.long th), .second] [])) tq := by
  intro k
  induction k using Nat.strongRecOn with
  | _ k ih =>
    intro pv sv T0 h0 locs hinv X0 e0 N0 Z0 I0 I1
    have K0 : Keep h0 h0 [ob] := Keep.refl h0 _
    have pre0 : ∀ tq, Steps p.tables e below (T0.setTop (mkF m 30 #[.val (.ref ob), .val (.int bd), .val (.long pv), .second, .val (.long th), .second] [])) tq → Steps p.tables e below (T0.setTop (mkF m 30 #[.val (.ref ob), .val (.int bd), .val (.long pv), .second, .val (.long th), .second] [])) tq := fun _ h => h
    have pre1 : ∀ tq, Steps p.tables e below (T0.setTop (mkF m 38 #[.val (.ref ob), .val (.int bd), .val (.long pv), .second, .val (.long th), .second] [(.int (lcmpW (pv &&& (4294967295 : Int64)) th))])) tq → Steps p.tables e below (T0.setTop (mkF m 30 #[.val (.ref ob), .val (.int bd), .val (.long pv), .second, .val (.long th), .second] [])) tq := by
      intro tq kt
      refine pre0 _ ?_
      show Steps p.tables e below (T0.setTop (mkF m 30 #[.val (.ref ob), .val (.int bd), .val (.long pv), .second, .val (.long th), .second] [])) _
      refine XS.lloadN X0.here hx rfl (hb hby d3_30) rfl ?_
      show Steps p.tables e below (T0.setTop (mkF m 31 #[.val (.ref ob), .val (.int bd), .val (.long pv), .second, .val (.long th), .second] [(.long pv)])) _
      refine X0.ldc2Long hx hown (mvT hZ (hw _ (List.mem_of_getElem? (i := 24) rfl))) (g := (mkF m 31 #[.val (.ref ob), .val (.int bd), .val (.long pv), .second, .val (.long th), .second] [(.long pv)])) rfl (hb hby d3_31) _ ?_
      show Steps p.tables e below (T0.setTop (mkF m 34 #[.val (.ref ob), .val (.int bd), .val (.long pv), .second, .val (.long th), .second] [(.long (4294967295 : Int64)), (.long pv)])) _
      refine XS.land X0.here hx rfl (hb hby d3_34) rfl ?_
      show Steps p.tables e below (T0.setTop (mkF m 35 #[.val (.ref ob), .val (.int bd), .val (.long pv), .second, .val (.long th), .second] [(.long (pv &&& (4294967295 : Int64)))])) _
      refine XS.lload X0.here hx rfl (hb hby d3_35) rfl ?_
      show Steps p.tables e below (T0.setTop (mkF m 37 #[.val (.ref ob), .val (.int bd), .val (.long pv), .second, .val (.long th), .second] [(.long th), (.long (pv &&& (4294967295 : Int64)))])) _
      refine XS.lcmp X0.here hx rfl (hb hby d3_37) rfl ?_
      show Steps p.tables e below (T0.setTop (mkF m 38 #[.val (.ref ob), .val (.int bd), .val (.long pv), .second, .val (.long th), .second] [(.int (lcmpW (pv &&& (4294967295 : Int64)) th))])) _
      exact kt
    by_cases hc38_2 : (pv &&& (4294967295 : Int64)) < th
    · skip
      obtain ⟨cq3, kq3, q3a, q3b, q3c⟩ := isOf hZ e0 I1
      obtain ⟨_, _, ⟨T3, L3, k3, n3⟩, -, X3, ⟨Lc3, hQ3, l3, y3, z3⟩, st3⟩ := X0.virtualBack hx (y := (⟨"com/example/wary_rank/waryrank/SplitMix64", "nextLong", "()J"⟩ : MethodName)) (z := (⟨"com/example/wary_rank/waryrank/SplitMix64", "nextLong", "()J"⟩ : MethodName)) hown (mvT hZ (hw _ (List.mem_of_getElem? (i := 16) rfl))) (mvT hZ (hw _ (List.mem_of_getElem? (i := 17) rfl))) (notFace_of_selects (args := #[]) (mvT hZ (hw _ (List.mem_of_getElem? (i := 19) rfl)))) (mvT hZ (hw _ (List.mem_of_getElem? (i := 19) rfl))) (mvT hZ (hw _ (List.mem_of_getElem? (i := 18) rfl))) (by decide) (backOf (W := 0) (rm4 l Z a0 hw [] ob sv h0 n0 Z0 I0 I1 g_ob) hZ (hw _ (List.mem_of_getElem? (i := 20) rfl)) (hw _ (List.mem_of_getElem? (i := 2) rfl)) (by decide) (by decide)) q3a q3c (g := (mkF m 42 #[.val (.ref ob), .val (.int bd), .val (.long pv), .second, .val (.long th), .second] [(.ref ob)])) rfl (by rw [hml]; rfl) (Steps.refl _) (argsL := []) (rest := []) (lenOf pd_0 rfl) rfl (by show 2 * 0 + _ ≤ _; exact Nat.le_of_eq rfl) (hb hby d3_42) (fun _ _ => ⟨rfl, e0, (by decide : 0 + 0 ≤ _), (by decide : 0 + 0 ≤ _)⟩)
      dsimp only [Pt.U, Pt.locs, Pt.cells, Pt.slots] at X3 l3 y3 z3 st3 hQ3
      subst l3 y3 z3
      obtain ⟨rfl, N3q, K3q, F4, F5⟩ := hQ3
      have N3 := Fr.app N0 N3q
      have F6 : Exa Z T3.heap ob "com/example/wary_rank/waryrank/SplitMix64" := I1.keep K3q
      have Z7 : n0 ≤ T3.heap.size := Nat.le_trans Z0 K3q.1
      have K8 : Keep h0 T3.heap [ob] := K0.trans K3q (allS (Or.inl (List.mem_of_getElem? (i := 0) rfl)) all0)
      obtain ⟨r42, hr42⟩ : ∃ z_q : Int64, z_q = (own_mix (sv + (-7046029254386353131 : Int64))) := ⟨_, rfl⟩
      obtain ⟨v51, hv51⟩ : ∃ z_q : Int64, z_q = (((r42.toUInt64 >>> ((32 : Int32) &&& 0x3f).toInt64.toUInt64).toInt64) * (bd.toInt64)) := ⟨_, rfl⟩
      have pre9 : ∀ tq, Steps p.tables e below (T3.setTop (mkF m 30 #[.val (.ref ob), .val (.int bd), .val (.long v51), .second, .val (.long th), .second] [])) tq → Steps p.tables e below (T0.setTop (mkF m 30 #[.val (.ref ob), .val (.int bd), .val (.long pv), .second, .val (.long th), .second] [])) tq := by
        intro tq kt
        refine pre1 _ ?_
        show Steps p.tables e below (T0.setTop (mkF m 38 #[.val (.ref ob), .val (.int bd), .val (.long pv), .second, .val (.long th), .second] [(.int (lcmpW (pv &&& (4294967295 : Int64)) th))])) _
        refine XS.ifNo X0.here hx rfl (hb hby d3_38) rfl ((if0 _ _).trans (tlt ((lw_lt (pv &&& (4294967295 : Int64)) th).2 hc38_2)).2.1) ?_
        show Steps p.tables e below (T0.setTop (mkF m 41 #[.val (.ref ob), .val (.int bd), .val (.long pv), .second, .val (.long th), .second] [])) _
        refine XS.aloadN X0.here hx rfl (hb hby d3_41) rfl rfl ?_
        show Steps p.tables e below (T0.setTop (mkF m 42 #[.val (.ref ob), .val (.int bd), .val (.long pv), .second, .val (.long th), .second] [(.ref ob)])) _
        refine st3.trans ?_
        show Steps p.tables e below (T3.setTop (mkF m 45 #[.val (.ref ob), .val (.int bd), .val (.long pv), .second, .val (.long th), .second] [(.long (own_mix (sv + (-7046029254386353131 : Int64))))])) _
        rw [← hr42]
        show Steps p.tables e below (T3.setTop (mkF m 45 #[.val (.ref ob), .val (.int bd), .val (.long pv), .second, .val (.long th), .second] [(.long r42)])) _
        refine XS.bipush X3.here hx rfl (hb hby d3_45) ?_
        show Steps p.tables e below (T3.setTop (mkF m 47 #[.val (.ref ob), .val (.int bd), .val (.long pv), .second, .val (.long th), .second] [(.int (32 : Int32)), (.long r42)])) _
        refine XS.lushr X3.here hx rfl (hb hby d3_47) rfl ?_
        show Steps p.tables e below (T3.setTop (mkF m 48 #[.val (.ref ob), .val (.int bd), .val (.long pv), .second, .val (.long th), .second] [(.long ((r42.toUInt64 >>> ((32 : Int32) &&& 0x3f).toInt64.toUInt64).toInt64))])) _
        refine XS.iloadN X3.here hx rfl (hb hby d3_48) rfl ?_
        show Steps p.tables e below (T3.setTop (mkF m 49 #[.val (.ref ob), .val (.int bd), .val (.long pv), .second, .val (.long th), .second] [(.int bd), (.long ((r42.toUInt64 >>> ((32 : Int32) &&& 0x3f).toInt64.toUInt64).toInt64))])) _
        refine XS.i2l X3.here hx rfl (hb hby d3_49) rfl ?_
        show Steps p.tables e below (T3.setTop (mkF m 50 #[.val (.ref ob), .val (.int bd), .val (.long pv), .second, .val (.long th), .second] [(.long (bd.toInt64)), (.long ((r42.toUInt64 >>> ((32 : Int32) &&& 0x3f).toInt64.toUInt64).toInt64))])) _
        refine XS.lmul X3.here hx rfl (hb hby d3_50) rfl ?_
        show Steps p.tables e below (T3.setTop (mkF m 51 #[.val (.ref ob), .val (.int bd), .val (.long pv), .second, .val (.long th), .second] [(.long (((r42.toUInt64 >>> ((32 : Int32) &&& 0x3f).toInt64.toUInt64).toInt64) * (bd.toInt64)))])) _
        refine XS.lstoreN X3.here hx rfl (hb hby d3_51) rfl (l' := #[.val (.ref ob), .val (.int bd), .val (.long v51), .second, .val (.long th), .second]) (by rw [hv51]; rfl) ?_
        show Steps p.tables e below (T3.setTop (mkF m 52 #[.val (.ref ob), .val (.int bd), .val (.long v51), .second, .val (.long th), .second] [])) _
        refine XS.goto X3.here hx rfl (pc0 := 52) (pc' := 30) rfl (hb hby d3_52) (by decide) (by decide) ?_
        show Steps p.tables e below (T3.setTop (mkF m 30 #[.val (.ref ob), .val (.int bd), .val (.long v51), .second, .val (.long th), .second] [])) _
        exact kt
      obtain ⟨k', hk', hinv'⟩ : ∃ k' : Nat, k' < k ∧ own_nii w bd k' v51 (sv + (-7046029254386353131 : Int64)) := (own_back_3_30_f bd w th hth k pv sv hinv hc38_2 r42 hr42 v51 hv51)
      obtain ⟨T', h', lc', po, so, X', e', N', K', fo0_10, fo1_10, hpost', st'⟩ := ih k' hk' (v51) ((sv + (-7046029254386353131 : Int64))) T3 T3.heap _ hinv' X3 rfl N3 Z7 F5 F4
      exact ⟨T', h', lc', po, so, X', e', N', K8.trans K' (fun x hx => Or.inl hx), fo0_10, fo1_10, hpost', fun tq kt => pre9 tq (st' tq kt)⟩
    · skip
      have pre11 : ∀ tq, Steps p.tables e below (T0.setTop (mkF m 55 #[.val (.ref ob), .val (.int bd), .val (.long pv), .second, .val (.long th), .second] [])) tq → Steps p.tables e below (T0.setTop (mkF m 30 #[.val (.ref ob), .val (.int bd), .val (.long pv), .second, .val (.long th), .second] [])) tq := by
        intro tq kt
        refine pre1 _ ?_
        show Steps p.tables e below (T0.setTop (mkF m 38 #[.val (.ref ob), .val (.int bd), .val (.long pv), .second, .val (.long th), .second] [(.int (lcmpW (pv &&& (4294967295 : Int64)) th))])) _
        refine XS.ifYes X0.here hx rfl (pc0 := 38) (pc' := 55) rfl (hb hby d3_38) rfl ((if0 _ _).trans (flt (mt (lw_lt (pv &&& (4294967295 : Int64)) th).1 hc38_2)).2.1) (by decide) (by decide) ?_
        show Steps p.tables e below (T0.setTop (mkF m 55 #[.val (.ref ob), .val (.int bd), .val (.long pv), .second, .val (.long th), .second] [])) _
        exact kt
      have hq12 : ∃ n, pv = own_p w bd n ∧ sv = own_st w (n + 1) ∧ own_min w bd n := (own_post_3_55_t bd w th hth k pv sv hinv hc38_2)
      exact ⟨T0, h0, _, pv, sv, X0, e0, N0, K0, I0, I1, hq12, fun tq kt => pre11 tq kt⟩
theorem d3_0 : decode prog_42_method_3_code 0 = .ok (.aload_n 0, 1) := by decide +kernel
theorem d3_1 : decode prog_42_method_3_code 1 = .ok (.invokevirtual 21, 3) := by decide +kernel
theorem d3_4 : decode prog_42_method_3_code 4 = .ok (.bipush 32, 2) := by decide +kernel
theorem d3_6 : decode prog_42_method_3_code 6 = .ok (.lushr, 1) := by decide +kernel
theorem d3_7 : decode prog_42_method_3_code 7 = .ok (.iload_n 1, 1) := by decide +kernel
theorem d3_8 : decode prog_42_method_3_code 8 = .ok (.i2l, 1) := by decide +kernel
theorem d3_9 : decode prog_42_method_3_code 9 = .ok (.lmul, 1) := by decide +kernel
theorem d3_10 : decode prog_42_method_3_code 10 = .ok (.lstore_n 2, 1) := by decide +kernel
theorem d3_11 : decode prog_42_method_3_code 11 = .ok (.lload_n 2, 1) := by decide +kernel
theorem d3_12 : decode prog_42_method_3_code 12 = .ok (.ldc2_w 27, 3) := by decide +kernel
theorem d3_15 : decode prog_42_method_3_code 15 = .ok (.land, 1) := by decide +kernel
theorem d3_16 : decode prog_42_method_3_code 16 = .ok (.iload_n 1, 1) := by decide +kernel
theorem d3_17 : decode prog_42_method_3_code 17 = .ok (.i2l, 1) := by decide +kernel
theorem d3_18 : decode prog_42_method_3_code 18 = .ok (.lcmp, 1) := by decide +kernel
theorem d3_19 : decode prog_42_method_3_code 19 = .ok (.ifCond .ge 36, 3) := by decide +kernel
theorem d3_22 : decode prog_42_method_3_code 22 = .ok (.ldc2_w 29, 3) := by decide +kernel
theorem d3_25 : decode prog_42_method_3_code 25 = .ok (.iload_n 1, 1) := by decide +kernel
theorem d3_26 : decode prog_42_method_3_code 26 = .ok (.i2l, 1) := by decide +kernel
theorem d3_27 : decode prog_42_method_3_code 27 = .ok (.lrem, 1) := by decide +kernel
theorem d3_28 : decode prog_42_method_3_code 28 = .ok (.lstore 4, 2) := by decide +kernel
theorem d3_55 : decode prog_42_method_3_code 55 = .ok (.lload_n 2, 1) := by decide +kernel
theorem d3_56 : decode prog_42_method_3_code 56 = .ok (.bipush 32, 2) := by decide +kernel
theorem d3_58 : decode prog_42_method_3_code 58 = .ok (.lushr, 1) := by decide +kernel
theorem d3_59 : decode prog_42_method_3_code 59 = .ok (.l2i, 1) := by decide +kernel
theorem d3_60 : decode prog_42_method_3_code 60 = .ok (.ireturn, 1) := by decide +kernel
theorem pn_3 : plainName "com/example/wary_rank/waryrank/SplitMix64" = true := by first | (simp [plainName, overriddenIn]; done) | decide +kernel
theorem ef_3 (m : MethodId) (x0 : Addr) (x1 : Int32) : entryFrame m #[(.ref x0), (.int x1)] 6 = mkF m 0 #[.val (.ref x0), .val (.int x1), .unset, .unset, .unset, .unset] [] := by first | (simp [entryFrame, mkF, argsToLocals, Value.category]; done) | rfl
theorem own_side_3_27_f (bd : Int32) (w : Int64) (hbd : 1 ≤ bd.toInt) (r1 : Int64) (hr1 : r1 = (own_mix (w + (-7046029254386353131 : Int64)))) (v10 : Int64) (hv10 : v10 = (((r1.toUInt64 >>> ((32 : Int32) &&& 0x3f).toInt64.toUInt64).toInt64) * (bd.toInt64))) (hc19_8 : (v10 &&& (4294967295 : Int64)) < (bd.toInt64)) : ¬ ((bd.toInt64) = (0 : Int64)) := own_thr_ne bd hbd
theorem own_start_3_30_f (bd : Int32) (w : Int64) (hbd : 1 ≤ bd.toInt) (r1 : Int64) (hr1 : r1 = (own_mix (w + (-7046029254386353131 : Int64)))) (v10 : Int64) (hv10 : v10 = (((r1.toUInt64 >>> ((32 : Int32) &&& 0x3f).toInt64.toUInt64).toInt64) * (bd.toInt64))) (hc19_8 : (v10 &&& (4294967295 : Int64)) < (bd.toInt64)) (v28 : Int64) (hv28 : v28 = ((4294967296 : Int64) % (bd.toInt64))) : ∃ kz : Nat, own_nii w bd kz v10 (w + (-7046029254386353131 : Int64)) := by rw [hv10, hr1]; exact own_start w bd hbd
theorem own_inv_3_30_f (bd : Int32) (w : Int64) (hbd : 1 ≤ bd.toInt) (r1 : Int64) (hr1 : r1 = (own_mix (w + (-7046029254386353131 : Int64)))) (v10 : Int64) (hv10 : v10 = (((r1.toUInt64 >>> ((32 : Int32) &&& 0x3f).toInt64.toUInt64).toInt64) * (bd.toInt64))) (hc19_8 : (v10 &&& (4294967295 : Int64)) < (bd.toInt64)) (v28 : Int64) (hv28 : v28 = ((4294967296 : Int64) % (bd.toInt64))) (kz : Nat) (hkz : own_nii w bd kz v10 (w + (-7046029254386353131 : Int64))) : own_nii w bd (kz) v10 (w + (-7046029254386353131 : Int64)) := hkz
theorem own_lpre_3_30_hth_f (bd : Int32) (w : Int64) (hbd : 1 ≤ bd.toInt) (r1 : Int64) (hr1 : r1 = (own_mix (w + (-7046029254386353131 : Int64)))) (v10 : Int64) (hv10 : v10 = (((r1.toUInt64 >>> ((32 : Int32) &&& 0x3f).toInt64.toUInt64).toInt64) * (bd.toInt64))) (hc19_8 : (v10 &&& (4294967295 : Int64)) < (bd.toInt64)) (v28 : Int64) (hv28 : v28 = ((4294967296 : Int64) % (bd.toInt64))) (kz : Nat) (hkz : own_nii w bd kz v10 (w + (-7046029254386353131 : Int64))) : v28 = own_thr bd := hv28
theorem own_leaf_3_60_f (bd : Int32) (w : Int64) (hbd : 1 ≤ bd.toInt) (r1 : Int64) (hr1 : r1 = (own_mix (w + (-7046029254386353131 : Int64)))) (v10 : Int64) (hv10 : v10 = (((r1.toUInt64 >>> ((32 : Int32) &&& 0x3f).toInt64.toUInt64).toInt64) * (bd.toInt64))) (hc19_8 : (v10 &&& (4294967295 : Int64)) < (bd.toInt64)) (v28 : Int64) (hv28 : v28 = ((4294967296 : Int64) % (bd.toInt64))) (kz : Nat) (hkz : own_nii w bd kz v10 (w + (-7046029254386353131 : Int64))) (nl : Nat) (hmin : own_min w bd nl) : ((((own_p w bd nl).toUInt64 >>> ((32 : Int32) &&& 0x3f).toInt64.toUInt64).toInt64).toInt32) = (own_r w bd nl) := rfl
theorem own_rpost_3_60_f (bd : Int32) (w : Int64) (hbd : 1 ≤ bd.toInt) (r1 : Int64) (hr1 : r1 = (own_mix (w + (-7046029254386353131 : Int64)))) (v10 : Int64) (hv10 : v10 = (((r1.toUInt64 >>> ((32 : Int32) &&& 0x3f).toInt64.toUInt64).toInt64) * (bd.toInt64))) (hc19_8 : (v10 &&& (4294967295 : Int64)) < (bd.toInt64)) (v28 : Int64) (hv28 : v28 = ((4294967296 : Int64) % (bd.toInt64))) (kz : Nat) (hkz : own_nii w bd kz v10 (w + (-7046029254386353131 : Int64))) (nl : Nat) (hmin : own_min w bd nl) : own_min w bd nl := hmin
theorem own_leaf_3_60_t (bd : Int32) (w : Int64) (hbd : 1 ≤ bd.toInt) (r1 : Int64) (hr1 : r1 = (own_mix (w + (-7046029254386353131 : Int64)))) (v10 : Int64) (hv10 : v10 = (((r1.toUInt64 >>> ((32 : Int32) &&& 0x3f).toInt64.toUInt64).toInt64) * (bd.toInt64))) (hc19_8 : ¬ ((v10 &&& (4294967295 : Int64)) < (bd.toInt64))) : (((v10.toUInt64 >>> ((32 : Int32) &&& 0x3f).toInt64.toUInt64).toInt64).toInt32) = (own_r w bd 0) := by subst_vars; rfl
theorem own_rpost_3_60_t (bd : Int32) (w : Int64) (hbd : 1 ≤ bd.toInt) (r1 : Int64) (hr1 : r1 = (own_mix (w + (-7046029254386353131 : Int64)))) (v10 : Int64) (hv10 : v10 = (((r1.toUInt64 >>> ((32 : Int32) &&& 0x3f).toInt64.toUInt64).toInt64) * (bd.toInt64))) (hc19_8 : ¬ ((v10 &&& (4294967295 : Int64)) < (bd.toInt64))) : own_min w bd 0 := own_first w bd hbd (by subst_vars; assumption)
def Q3 (Z : State) (ob : Addr) (bd : Int32) (w : Int64) (h0 : Heap) (n0 : Nat) (v : Option Value) (h : Heap) (L : List Loc) : Prop := ∃ nn : Nat, v = some (.int (own_r w bd nn)) ∧ Fr n0 L ∧ Keep h0 h [ob] ∧ Exa Z h ob "com/example/wary_rank/waryrank/SplitMix64" ∧ Fld Z h ob "com/example/wary_rank/waryrank/SplitMix64" "state" "J" (.long (own_st w (nn + 1))) ∧ own_min w bd nn
set_option maxRecDepth 65536 in
set_option maxHeartbeats 40000000 in
theorem rm3 (l : Launch) (Z : State) (a0 : Array Value) (hw : ∀ d ∈ tables_1, d.before a0 Z = true) (ws : List Jvm.Cond) (ob : Addr) (bd : Int32) (w : Int64) (h0 : Heap) (n0 : Nat) (Z0 : n0 ≤ h0.size) (I0 : Fld Z h0 ob "com/example/wary_rank/waryrank/SplitMix64" "state" "J" (.long w)) (I1 : Exa Z h0 ob "com/example/wary_rank/waryrank/SplitMix64") (g_ob : n0 ≤ ob) (hbd : 1 ≤ bd.toInt) :
    MetFree l (⟨"com/example/wary_rank/waryrank/SplitMix64", "nextInt", "(I)I"⟩ : MethodName) (head1 (Jvm.Cond.code (⟨"com/example/wary_rank/waryrank/SplitMix64", "nextInt", "(I)I"⟩ : MethodName) prog_42_method_3_code 6 (some .int) :: ws) ({ frames := 1, cells := 0, slots := 0, locals := 14 } : Room)) (fun a U => a = #[(.ref ob), (.int bd)] ∧ Z.Warmed39 U.vm ∧ U.heap = h0) (fun _ _ _ _ _ => True) (fun _ U o U' => ∃ v L, o = .returned v ∧ Q3 Z ob bd w h0 n0 v U'.heap L ∧ FrameEnd U o U' L ({ frames := 1, cells := 0, slots := 0, locals := 14 } : Room).cells ({ frames := 1, cells := 0, slots := 0, locals := 14 } : Room).slots) := by
  refine MetFree.of_bodySF (plainFor_of_name pn_3) hisR ?_
  intro p e s m args below meth c s₁ Bd hml0 hP hK
  obtain ⟨rfl, hZ, hh⟩ := hP
  have hx := Bd.exec
  have hby := Bd.bytes
  have hml : c.maxLocals = 6 := hml0
  have hown : s.vm.findClass "com/example/wary_rank/waryrank/SplitMix64" = some m.cls := findClass_of_methodNamed Bd.named
  have hnm := (name_of_methodNamed Bd.named Bd.method).1
  have X0 : Stand p l e ({ frames := 1, cells := 0, slots := 0, locals := 14 } : Room) s m #[(.ref ob), (.int bd)] below meth c s₁ [] 0 0 := Stand.of_body Bd
  have e0 : s₁.heap = h0 := by rw [← hh, Bd.state]; rfl
  have N0 := Fr.nil n0
  have K0 : Keep h0 h0 [ob] := Keep.refl h0 _
  have pre0 : ∀ tq, Steps p.tables e below (s₁.setTop (mkF m 0 #[.val (.ref ob), .val (.int bd), .unset, .unset, .unset, .unset] [])) tq → Steps p.tables e below (s₁.setTop (entryFrame m #[(.ref ob), (.int bd)] 6)) tq := fun tq kq => castTop (ef_3 m ob bd) kq
  obtain ⟨cq1, kq1, q1a, q1b, q1c⟩ := isOf hZ e0 I1
  obtain ⟨_, _, ⟨T1, L1, k1, n1⟩, -, X1, ⟨Lc1, hQ1, l1, y1, z1⟩, st1⟩ := X0.virtualBack hx (y := (⟨"com/example/wary_rank/waryrank/SplitMix64", "nextLong", "()J"⟩ : MethodName)) (z := (⟨"com/example/wary_rank/waryrank/SplitMix64", "nextLong", "()J"⟩ : MethodName)) hown (mvT hZ (hw _ (List.mem_of_getElem? (i := 16) rfl))) (mvT hZ (hw _ (List.mem_of_getElem? (i := 17) rfl))) (notFace_of_selects (args := #[]) (mvT hZ (hw _ (List.mem_of_getElem? (i := 19) rfl)))) (mvT hZ (hw _ (List.mem_of_getElem? (i := 19) rfl))) (mvT hZ (hw _ (List.mem_of_getElem? (i := 18) rfl))) (by decide) (backOf (W := 0) (rm4 l Z a0 hw [] ob w h0 n0 Z0 I0 I1 g_ob) hZ (hw _ (List.mem_of_getElem? (i := 20) rfl)) (hw _ (List.mem_of_getElem? (i := 2) rfl)) (by decide) (by decide)) q1a q1c (g := (mkF m 1 #[.val (.ref ob), .val (.int bd), .unset, .unset, .unset, .unset] [(.ref ob)])) rfl (by rw [hml]; rfl) (Steps.refl _) (argsL := []) (rest := []) (lenOf pd_0 rfl) rfl (by show 2 * 0 + _ ≤ _; exact Nat.le_of_eq rfl) (hb hby d3_1) (fun _ _ => ⟨rfl, e0, (by decide : 0 + 0 ≤ _), (by decide : 0 + 0 ≤ _)⟩)
  dsimp only [Pt.U, Pt.locs, Pt.cells, Pt.slots] at X1 l1 y1 z1 st1 hQ1
  subst l1 y1 z1
  obtain ⟨rfl, N1q, K1q, F2, F3⟩ := hQ1
  have N1 := Fr.app N0 N1q
  have F4 : Exa Z T1.heap ob "com/example/wary_rank/waryrank/SplitMix64" := I1.keep K1q
  have Z5 : n0 ≤ T1.heap.size := Nat.le_trans Z0 K1q.1
  have K6 : Keep h0 T1.heap [ob] := K0.trans K1q (allS (Or.inl (List.mem_of_getElem? (i := 0) rfl)) all0)
  obtain ⟨r1, hr1⟩ : ∃ z_q : Int64, z_q = (own_mix (w + (-7046029254386353131 : Int64))) := ⟨_, rfl⟩
  obtain ⟨v10, hv10⟩ : ∃ z_q : Int64, z_q = (((r1.toUInt64 >>> ((32 : Int32) &&& 0x3f).toInt64.toUInt64).toInt64) * (bd.toInt64)) := ⟨_, rfl⟩
  have pre7 : ∀ tq, Steps p.tables e below (T1.setTop (mkF m 19 #[.val (.ref ob), .val (.int bd), .val (.long v10), .second, .unset, .unset] [(.int (lcmpW (v10 &&& (4294967295 : Int64)) (bd.toInt64)))])) tq → Steps p.tables e below (s₁.setTop (entryFrame m #[(.ref ob), (.int bd)] 6)) tq := by
    intro tq kt
    refine pre0 _ ?_
    show Steps p.tables e below (s₁.setTop (mkF m 0 #[.val (.ref ob), .val (.int bd), .unset, .unset, .unset, .unset] [])) _
    refine XS.aloadN X0.here hx rfl (hb hby d3_0) rfl rfl ?_
    show Steps p.tables e below (s₁.setTop (mkF m 1 #[.val (.ref ob), .val (.int bd), .unset, .unset, .unset, .unset] [(.ref ob)])) _
    refine st1.trans ?_
    show Steps p.tables e below (T1.setTop (mkF m 4 #[.val (.ref ob), .val (.int bd), .unset, .unset, .unset, .unset] [(.long (own_mix (w + (-7046029254386353131 : Int64))))])) _
    rw [← hr1]
    show Steps p.tables e below (T1.setTop (mkF m 4 #[.val (.ref ob), .val (.int bd), .unset, .unset, .unset, .unset] [(.long r1)])) _
    refine XS.bipush X1.here hx rfl (hb hby d3_4) ?_
    show Steps p.tables e below (T1.setTop (mkF m 6 #[.val (.ref ob), .val (.int bd), .unset, .unset, .unset, .unset] [(.int (32 : Int32)), (.long r1)])) _
    refine XS.lushr X1.here hx rfl (hb hby d3_6) rfl ?_
    show Steps p.tables e below (T1.setTop (mkF m 7 #[.val (.ref ob), .val (.int bd), .unset, .unset, .unset, .unset] [(.long ((r1.toUInt64 >>> ((32 : Int32) &&& 0x3f).toInt64.toUInt64).toInt64))])) _
    refine XS.iloadN X1.here hx rfl (hb hby d3_7) rfl ?_
    show Steps p.tables e below (T1.setTop (mkF m 8 #[.val (.ref ob), .val (.int bd), .unset, .unset, .unset, .unset] [(.int bd), (.long ((r1.toUInt64 >>> ((32 : Int32) &&& 0x3f).toInt64.toUInt64).toInt64))])) _
    refine XS.i2l X1.here hx rfl (hb hby d3_8) rfl ?_
    show Steps p.tables e below (T1.setTop (mkF m 9 #[.val (.ref ob), .val (.int bd), .unset, .unset, .unset, .unset] [(.long (bd.toInt64)), (.long ((r1.toUInt64 >>> ((32 : Int32) &&& 0x3f).toInt64.toUInt64).toInt64))])) _
    refine XS.lmul X1.here hx rfl (hb hby d3_9) rfl ?_
    show Steps p.tables e below (T1.setTop (mkF m 10 #[.val (.ref ob), .val (.int bd), .unset, .unset, .unset, .unset] [(.long (((r1.toUInt64 >>> ((32 : Int32) &&& 0x3f).toInt64.toUInt64).toInt64) * (bd.toInt64)))])) _
    refine XS.lstoreN X1.here hx rfl (hb hby d3_10) rfl (l' := #[.val (.ref ob), .val (.int bd), .val (.long v10), .second, .unset, .unset]) (by rw [hv10]; rfl) ?_
    show Steps p.tables e below (T1.setTop (mkF m 11 #[.val (.ref ob), .val (.int bd), .val (.long v10), .second, .unset, .unset] [])) _
    refine XS.lloadN X1.here hx rfl (hb hby d3_11) rfl ?_
    show Steps p.tables e below (T1.setTop (mkF m 12 #[.val (.ref ob), .val (.int bd), .val (.long v10), .second, .unset, .unset] [(.long v10)])) _
    refine X1.ldc2Long hx hown (mvT hZ (hw _ (List.mem_of_getElem? (i := 24) rfl))) (g := (mkF m 12 #[.val (.ref ob), .val (.int bd), .val (.long v10), .second, .unset, .unset] [(.long v10)])) rfl (hb hby d3_12) _ ?_
    show Steps p.tables e below (T1.setTop (mkF m 15 #[.val (.ref ob), .val (.int bd), .val (.long v10), .second, .unset, .unset] [(.long (4294967295 : Int64)), (.long v10)])) _
    refine XS.land X1.here hx rfl (hb hby d3_15) rfl ?_
    show Steps p.tables e below (T1.setTop (mkF m 16 #[.val (.ref ob), .val (.int bd), .val (.long v10), .second, .unset, .unset] [(.long (v10 &&& (4294967295 : Int64)))])) _
    refine XS.iloadN X1.here hx rfl (hb hby d3_16) rfl ?_
    show Steps p.tables e below (T1.setTop (mkF m 17 #[.val (.ref ob), .val (.int bd), .val (.long v10), .second, .unset, .unset] [(.int bd), (.long (v10 &&& (4294967295 : Int64)))])) _
    refine XS.i2l X1.here hx rfl (hb hby d3_17) rfl ?_
    show Steps p.tables e below (T1.setTop (mkF m 18 #[.val (.ref ob), .val (.int bd), .val (.long v10), .second, .unset, .unset] [(.long (bd.toInt64)), (.long (v10 &&& (4294967295 : Int64)))])) _
    refine XS.lcmp X1.here hx rfl (hb hby d3_18) rfl ?_
    show Steps p.tables e below (T1.setTop (mkF m 19 #[.val (.ref ob), .val (.int bd), .val (.long v10), .second, .unset, .unset] [(.int (lcmpW (v10 &&& (4294967295 : Int64)) (bd.toInt64)))])) _
    exact kt
  by_cases hc19_8 : (v10 &&& (4294967295 : Int64)) < (bd.toInt64)
  · skip
    have hnz27_9 : ¬ ((bd.toInt64) = (0 : Int64)) := (own_side_3_27_f bd w hbd r1 hr1 v10 hv10 hc19_8)
    obtain ⟨v28, hv28⟩ : ∃ z_q : Int64, z_q = ((4294967296 : Int64) % (bd.toInt64)) := ⟨_, rfl⟩
    obtain ⟨kz, hkz⟩ : ∃ kz : Nat, own_nii w bd kz v10 (w + (-7046029254386353131 : Int64)) := (own_start_3_30_f bd w hbd r1 hr1 v10 hv10 hc19_8 v28 hv28)
    have hinv10 : own_nii w bd (kz) v10 (w + (-7046029254386353131 : Int64)) := (own_inv_3_30_f bd w hbd r1 hr1 v10 hv10 hc19_8 v28 hv28 kz hkz)
    have hlp10_hth : v28 = own_thr bd := (own_lpre_3_30_hth_f bd w hbd r1 hr1 v10 hv10 hc19_8 v28 hv28 kz hkz)
    obtain ⟨T10, hX10, lc10, po_10, so_10, X10, e10, N10, K10q, F11, F12, hpost10, st10⟩ := lp3_30 n0 (ob) (bd) (w) (v28) hx hZ hw hby hml hown g_ob hlp10_hth (kz) (v10) ((w + (-7046029254386353131 : Int64))) T1 T1.heap _ hinv10 X1 rfl N1 Z5 F3 F2
    have F13 : Exa Z hX10 ob "com/example/wary_rank/waryrank/SplitMix64" := F2.keep K10q
    have Z14 : n0 ≤ hX10.size := Nat.le_trans Z5 K10q.1
    have K15 : Keep h0 hX10 [ob] := K6.trans K10q (allS (Or.inl (List.mem_of_getElem? (i := 0) rfl)) all0)
    have pre16 : ∀ tq, Steps p.tables e below (T10.setTop (mkF m 55 #[.val (.ref ob), .val (.int bd), .val (.long po_10), .second, .val (.long v28), .second] [])) tq → Steps p.tables e below (s₁.setTop (entryFrame m #[(.ref ob), (.int bd)] 6)) tq := by
      intro tq kt
      refine pre7 _ ?_
      show Steps p.tables e below (T1.setTop (mkF m 19 #[.val (.ref ob), .val (.int bd), .val (.long v10), .second, .unset, .unset] [(.int (lcmpW (v10 &&& (4294967295 : Int64)) (bd.toInt64)))])) _
      refine XS.ifNo X1.here hx rfl (hb hby d3_19) rfl ((if0 _ _).trans (tlt ((lw_lt (v10 &&& (4294967295 : Int64)) (bd.toInt64)).2 hc19_8)).2.1) ?_
      show Steps p.tables e below (T1.setTop (mkF m 22 #[.val (.ref ob), .val (.int bd), .val (.long v10), .second, .unset, .unset] [])) _
      refine X1.ldc2Long hx hown (mvT hZ (hw _ (List.mem_of_getElem? (i := 29) rfl))) (g := (mkF m 22 #[.val (.ref ob), .val (.int bd), .val (.long v10), .second, .unset, .unset] [])) rfl (hb hby d3_22) _ ?_
      show Steps p.tables e below (T1.setTop (mkF m 25 #[.val (.ref ob), .val (.int bd), .val (.long v10), .second, .unset, .unset] [(.long (4294967296 : Int64))])) _
      refine XS.iloadN X1.here hx rfl (hb hby d3_25) rfl ?_
      show Steps p.tables e below (T1.setTop (mkF m 26 #[.val (.ref ob), .val (.int bd), .val (.long v10), .second, .unset, .unset] [(.int bd), (.long (4294967296 : Int64))])) _
      refine XS.i2l X1.here hx rfl (hb hby d3_26) rfl ?_
      show Steps p.tables e below (T1.setTop (mkF m 27 #[.val (.ref ob), .val (.int bd), .val (.long v10), .second, .unset, .unset] [(.long (bd.toInt64)), (.long (4294967296 : Int64))])) _
      refine XS.lrem X1.here hx rfl (hb hby d3_27) rfl hnz27_9 ?_
      rw [lrem_mod]
      show Steps p.tables e below (T1.setTop (mkF m 28 #[.val (.ref ob), .val (.int bd), .val (.long v10), .second, .unset, .unset] [(.long ((4294967296 : Int64) % (bd.toInt64)))])) _
      refine XS.lstore X1.here hx rfl (hb hby d3_28) rfl (l' := #[.val (.ref ob), .val (.int bd), .val (.long v10), .second, .val (.long v28), .second]) (by rw [hv28]; rfl) ?_
      show Steps p.tables e below (T1.setTop (mkF m 30 #[.val (.ref ob), .val (.int bd), .val (.long v10), .second, .val (.long v28), .second] [])) _
      refine st10 _ ?_
      show Steps p.tables e below (T10.setTop (mkF m 55 #[.val (.ref ob), .val (.int bd), .val (.long po_10), .second, .val (.long v28), .second] [])) _
      exact kt
    obtain ⟨nl, rfl, rfl, hmin⟩ := hpost10
    obtain ⟨fs, hr, hrun, hended, hW, hsame⟩ := X10.leave (v := some (Value.int ((((own_p w bd nl).toUInt64 >>> ((32 : Int32) &&& 0x3f).toInt64.toUInt64).toInt64).toInt32))) (fun h => by rw [Bd.returns] at h; cases h)
    have hres17 : ((((own_p w bd nl).toUInt64 >>> ((32 : Int32) &&& 0x3f).toInt64.toUInt64).toInt64).toInt32) = (own_r w bd nl) := (own_leaf_3_60_f bd w hbd r1 hr1 v10 hv10 hc19_8 v28 hv28 kz hkz nl hmin)
    have hq18 : own_min w bd nl := (own_rpost_3_60_f bd w hbd r1 hr1 v10 hv10 hc19_8 v28 hv28 kz hkz nl hmin)
    refine ⟨_, _, pre16 _ ?_, hrun, hended, _, _, rfl, ?_, ⟨_, rfl⟩, hW, hsame.mono (by decide) (by decide)⟩
    · skip
      show Steps p.tables e below (T10.setTop (mkF m 55 #[.val (.ref ob), .val (.int bd), .val (.long (own_p w bd nl)), .second, .val (.long v28), .second] [])) _
      refine XS.lloadN X10.here hx rfl (hb hby d3_55) rfl ?_
      show Steps p.tables e below (T10.setTop (mkF m 56 #[.val (.ref ob), .val (.int bd), .val (.long (own_p w bd nl)), .second, .val (.long v28), .second] [(.long (own_p w bd nl))])) _
      refine XS.bipush X10.here hx rfl (hb hby d3_56) ?_
      show Steps p.tables e below (T10.setTop (mkF m 58 #[.val (.ref ob), .val (.int bd), .val (.long (own_p w bd nl)), .second, .val (.long v28), .second] [(.int (32 : Int32)), (.long (own_p w bd nl))])) _
      refine XS.lushr X10.here hx rfl (hb hby d3_58) rfl ?_
      show Steps p.tables e below (T10.setTop (mkF m 59 #[.val (.ref ob), .val (.int bd), .val (.long (own_p w bd nl)), .second, .val (.long v28), .second] [(.long (((own_p w bd nl).toUInt64 >>> ((32 : Int32) &&& 0x3f).toInt64.toUInt64).toInt64))])) _
      refine XS.l2i X10.here hx rfl (hb hby d3_59) rfl ?_
      show Steps p.tables e below (T10.setTop (mkF m 60 #[.val (.ref ob), .val (.int bd), .val (.long (own_p w bd nl)), .second, .val (.long v28), .second] [(.int ((((own_p w bd nl).toUInt64 >>> ((32 : Int32) &&& 0x3f).toInt64.toUInt64).toInt64).toInt32))])) _
      exact retI X10 hx Bd.returns (hb hby d3_60) hr
    · show Q3 Z ob bd w h0 n0 _ T10.heap _
      rw [e10]
      exact ⟨nl, congrArg (fun z => some (Value.int z)) hres17, N10, K15, F12, F11, hq18⟩
  · skip
    obtain ⟨fs, hr, hrun, hended, hW, hsame⟩ := X1.leave (v := some (Value.int (((v10.toUInt64 >>> ((32 : Int32) &&& 0x3f).toInt64.toUInt64).toInt64).toInt32))) (fun h => by rw [Bd.returns] at h; cases h)
    have hres19 : (((v10.toUInt64 >>> ((32 : Int32) &&& 0x3f).toInt64.toUInt64).toInt64).toInt32) = (own_r w bd 0) := (own_leaf_3_60_t bd w hbd r1 hr1 v10 hv10 hc19_8)
    have hq20 : own_min w bd 0 := (own_rpost_3_60_t bd w hbd r1 hr1 v10 hv10 hc19_8)
    refine ⟨_, _, pre7 _ ?_, hrun, hended, _, _, rfl, ?_, ⟨_, rfl⟩, hW, hsame.mono (by decide) (by decide)⟩
    · skip
      show Steps p.tables e below (T1.setTop (mkF m 19 #[.val (.ref ob), .val (.int bd), .val (.long v10), .second, .unset, .unset] [(.int (lcmpW (v10 &&& (4294967295 : Int64)) (bd.toInt64)))])) _
      refine XS.ifYes X1.here hx rfl (pc0 := 19) (pc' := 55) rfl (hb hby d3_19) rfl ((if0 _ _).trans (flt (mt (lw_lt (v10 &&& (4294967295 : Int64)) (bd.toInt64)).1 hc19_8)).2.1) (by decide) (by decide) ?_
      show Steps p.tables e below (T1.setTop (mkF m 55 #[.val (.ref ob), .val (.int bd), .val (.long v10), .second, .unset, .unset] [])) _
      refine XS.lloadN X1.here hx rfl (hb hby d3_55) rfl ?_
      show Steps p.tables e below (T1.setTop (mkF m 56 #[.val (.ref ob), .val (.int bd), .val (.long v10), .second, .unset, .unset] [(.long v10)])) _
      refine XS.bipush X1.here hx rfl (hb hby d3_56) ?_
      show Steps p.tables e below (T1.setTop (mkF m 58 #[.val (.ref ob), .val (.int bd), .val (.long v10), .second, .unset, .unset] [(.int (32 : Int32)), (.long v10)])) _
      refine XS.lushr X1.here hx rfl (hb hby d3_58) rfl ?_
      show Steps p.tables e below (T1.setTop (mkF m 59 #[.val (.ref ob), .val (.int bd), .val (.long v10), .second, .unset, .unset] [(.long ((v10.toUInt64 >>> ((32 : Int32) &&& 0x3f).toInt64.toUInt64).toInt64))])) _
      refine XS.l2i X1.here hx rfl (hb hby d3_59) rfl ?_
      show Steps p.tables e below (T1.setTop (mkF m 60 #[.val (.ref ob), .val (.int bd), .val (.long v10), .second, .unset, .unset] [(.int (((v10.toUInt64 >>> ((32 : Int32) &&& 0x3f).toInt64.toUInt64).toInt64).toInt32))])) _
      exact retI X1 hx Bd.returns (hb hby d3_60) hr
    · show Q3 Z ob bd w h0 n0 _ T1.heap _
      exact ⟨0, congrArg (fun z => some (Value.int z)) hres19, N1, K6, F2, F3, hq20⟩
theorem pn_0 : plainName "com/example/wary_rank/waryrank/SplitMix64NextIntPinLaw" = true := by first | (simp [plainName, overriddenIn]; done) | decide +kernel
theorem pd_1 : parseMethodDescriptor "(J)V" = some ⟨[.long], none⟩ := by decide +kernel
theorem pd_2 : parseMethodDescriptor "(I)I" = some ⟨[.int], some .int⟩ := by decide +kernel
theorem ef_0 (m : MethodId) (x0 : Int64) (x1 : Int32) (x2 : Int32) : entryFrame m #[(.long x0), (.int x1), (.int x2)] maxLocals = mkF m 0 #[.val (.long x0), .second, .val (.int x1), .val (.int x2), .unset, .unset, .unset, .unset, .unset, .unset, .unset, .unset, .unset, .unset, .unset, .unset] [] := by first | (simp [entryFrame, mkF, argsToLocals, Value.category, maxLocals]; done) | rfl
theorem own_pre_0_55_hbd (sd : Int64) (kb : Int32) (km : Int32) (m31_l4 : Int32) (hm31_l4 : m31_l4 = (if (km &&& (1 : Int32)) = (0 : Int32) then (if (kb &&& (2147483647 : Int32)) = (0 : Int32) then (1 : Int32) else (kb &&& (2147483647 : Int32))) else ((kb &&& (15 : Int32)) + (1 : Int32)))) : 1 ≤ m31_l4.toInt := by rw [hm31_l4]; exact own_bd kb km
theorem own_leaf_0_73_t (sd : Int64) (kb : Int32) (km : Int32) (m31_l4 : Int32) (hm31_l4 : m31_l4 = (if (km &&& (1 : Int32)) = (0 : Int32) then (if (kb &&& (2147483647 : Int32)) = (0 : Int32) then (1 : Int32) else (kb &&& (2147483647 : Int32))) else ((kb &&& (15 : Int32)) + (1 : Int32)))) (hp28_hbd : 1 ≤ m31_l4.toInt) (nn_29 : Nat) (r55 : Int32) (hr55 : r55 = (own_r sd m31_l4 nn_29)) (hq28 : own_min sd m31_l4 nn_29) (hc62_38 : r55 < (0 : Int32)) : (0 : Int32) = (1 : Int32) := by
  have h := own_r_range sd m31_l4 nn_29 hp28_hbd
  rw [← hr55] at h
  have q := Int32.lt_iff_toInt_lt.1 (by assumption : r55 < (0 : Int32))
  have t : (0 : Int32).toInt = 0 := rfl
  omega
theorem own_side_0_80_ft (sd : Int64) (kb : Int32) (km : Int32) (m31_l4 : Int32) (hm31_l4 : m31_l4 = (if (km &&& (1 : Int32)) = (0 : Int32) then (if (kb &&& (2147483647 : Int32)) = (0 : Int32) then (1 : Int32) else (kb &&& (2147483647 : Int32))) else ((kb &&& (15 : Int32)) + (1 : Int32)))) (hp28_hbd : 1 ≤ m31_l4.toInt) (nn_29 : Nat) (r55 : Int32) (hr55 : r55 = (own_r sd m31_l4 nn_29)) (hq28 : own_min sd m31_l4 nn_29) (hc62_38 : ¬ (r55 < (0 : Int32))) (hc69_41 : r55 < m31_l4) : ¬ ((m31_l4.toInt64) = (0 : Int64)) := own_thr_ne _ hp28_hbd
theorem own_leaf_0_253_ftttff (sd : Int64) (kb : Int32) (km : Int32) (m31_l4 : Int32) (hm31_l4 : m31_l4 = (if (km &&& (1 : Int32)) = (0 : Int32) then (if (kb &&& (2147483647 : Int32)) = (0 : Int32) then (1 : Int32) else (kb &&& (2147483647 : Int32))) else ((kb &&& (15 : Int32)) + (1 : Int32)))) (hp28_hbd : 1 ≤ m31_l4.toInt) (nn_29 : Nat) (r55 : Int32) (hr55 : r55 = (own_r sd m31_l4 nn_29)) (hq28 : own_min sd m31_l4 nn_29) (hc62_38 : ¬ (r55 < (0 : Int32))) (hc69_41 : r55 < m31_l4) (v81 : Int64) (hv81 : v81 = ((4294967296 : Int64) % (m31_l4.toInt64))) (r85 : Int64) (hr85 : r85 = (own_mix (sd + (-7046029254386353131 : Int64)))) (v95 : Int64) (hv95 : v95 = (((r85.toUInt64 >>> ((32 : Int32) &&& 0x3f).toInt64.toUInt64).toInt64) * (m31_l4.toInt64))) (hc106_52 : (v95 &&& (4294967295 : Int64)) < v81) (r142 : Int64) (hr142 : r142 = (own_mix ((sd + (-7046029254386353131 : Int64)) + (-7046029254386353131 : Int64)))) (v152 : Int64) (hv152 : v152 = (((r142.toUInt64 >>> ((32 : Int32) &&& 0x3f).toInt64.toUInt64).toInt64) * (m31_l4.toInt64))) (hc163_62 : (v152 &&& (4294967295 : Int64)) < v81) (r199 : Int64) (hr199 : r199 = (own_mix (((sd + (-7046029254386353131 : Int64)) + (-7046029254386353131 : Int64)) + (-7046029254386353131 : Int64)))) (v209 : Int64) (hv209 : v209 = (((r199.toUInt64 >>> ((32 : Int32) &&& 0x3f).toInt64.toUInt64).toInt64) * (m31_l4.toInt64))) (hc220_72 : ¬ ((v209 &&& (4294967295 : Int64)) < v81)) (hc231_74 : r55 = (((v209.toUInt64 >>> ((32 : Int32) &&& 0x3f).toInt64.toUInt64).toInt64).toInt32)) (r236 : Int64) (hr236 : r236 = (own_mix ((own_st sd (nn_29 + 1)) + (-7046029254386353131 : Int64)))) (r241 : Int64) (hr241 : r241 = (own_mix ((((sd + (-7046029254386353131 : Int64)) + (-7046029254386353131 : Int64)) + (-7046029254386353131 : Int64)) + (-7046029254386353131 : Int64)))) (m253 : Int32) (hm253 : m253 = (if r236 = r241 then (1 : Int32) else (0 : Int32))) : (nar .boolean m253) = (1 : Int32) := by
  have hv : v95 = own_p sd m31_l4 0 := by rw [hv95, hr85]; rfl
  have ht : v81 = own_thr m31_l4 := hv81
  have hv2 : v152 = own_p sd m31_l4 1 := by rw [hv152, hr142]; rfl
  have hv3 : v209 = own_p sd m31_l4 2 := by rw [hv209, hr199]; rfl
  have hn : nn_29 = 2 := own_uniq sd m31_l4 nn_29 2 hq28 (by unfold own_acc; rw [← hv3, ← ht]; assumption) (fun j hj => by
      have : j = 0 ∨ j = 1 := by omega
      rcases this with rfl | rfl
      · exact fun q => q (by rw [← hv, ← ht]; assumption)
      · exact fun q => q (by rw [← hv2, ← ht]; assumption))
  rw [hm253, if_pos (by rw [hr236, hr241, hn]; rfl)]; rfl
theorem own_leaf_0_253_ftttft (sd : Int64) (kb : Int32) (km : Int32) (m31_l4 : Int32) (hm31_l4 : m31_l4 = (if (km &&& (1 : Int32)) = (0 : Int32) then (if (kb &&& (2147483647 : Int32)) = (0 : Int32) then (1 : Int32) else (kb &&& (2147483647 : Int32))) else ((kb &&& (15 : Int32)) + (1 : Int32)))) (hp28_hbd : 1 ≤ m31_l4.toInt) (nn_29 : Nat) (r55 : Int32) (hr55 : r55 = (own_r sd m31_l4 nn_29)) (hq28 : own_min sd m31_l4 nn_29) (hc62_38 : ¬ (r55 < (0 : Int32))) (hc69_41 : r55 < m31_l4) (v81 : Int64) (hv81 : v81 = ((4294967296 : Int64) % (m31_l4.toInt64))) (r85 : Int64) (hr85 : r85 = (own_mix (sd + (-7046029254386353131 : Int64)))) (v95 : Int64) (hv95 : v95 = (((r85.toUInt64 >>> ((32 : Int32) &&& 0x3f).toInt64.toUInt64).toInt64) * (m31_l4.toInt64))) (hc106_52 : (v95 &&& (4294967295 : Int64)) < v81) (r142 : Int64) (hr142 : r142 = (own_mix ((sd + (-7046029254386353131 : Int64)) + (-7046029254386353131 : Int64)))) (v152 : Int64) (hv152 : v152 = (((r142.toUInt64 >>> ((32 : Int32) &&& 0x3f).toInt64.toUInt64).toInt64) * (m31_l4.toInt64))) (hc163_62 : (v152 &&& (4294967295 : Int64)) < v81) (r199 : Int64) (hr199 : r199 = (own_mix (((sd + (-7046029254386353131 : Int64)) + (-7046029254386353131 : Int64)) + (-7046029254386353131 : Int64)))) (v209 : Int64) (hv209 : v209 = (((r199.toUInt64 >>> ((32 : Int32) &&& 0x3f).toInt64.toUInt64).toInt64) * (m31_l4.toInt64))) (hc220_72 : ¬ ((v209 &&& (4294967295 : Int64)) < v81)) (hc231_74 : ¬ (r55 = (((v209.toUInt64 >>> ((32 : Int32) &&& 0x3f).toInt64.toUInt64).toInt64).toInt32))) : (0 : Int32) = (1 : Int32) := by
  have hv : v95 = own_p sd m31_l4 0 := by rw [hv95, hr85]; rfl
  have ht : v81 = own_thr m31_l4 := hv81
  have hv2 : v152 = own_p sd m31_l4 1 := by rw [hv152, hr142]; rfl
  have hv3 : v209 = own_p sd m31_l4 2 := by rw [hv209, hr199]; rfl
  have hn : nn_29 = 2 := own_uniq sd m31_l4 nn_29 2 hq28 (by unfold own_acc; rw [← hv3, ← ht]; assumption) (fun j hj => by
      have : j = 0 ∨ j = 1 := by omega
      rcases this with rfl | rfl
      · exact fun q => q (by rw [← hv, ← ht]; assumption)
      · exact fun q => q (by rw [← hv2, ← ht]; assumption))
  exact absurd (show r55 = (own_us v209 32).toInt32 by rw [hr55, hn, hv3]; rfl) (by assumption)
theorem own_leaf_0_196_fttff (sd : Int64) (kb : Int32) (km : Int32) (m31_l4 : Int32) (hm31_l4 : m31_l4 = (if (km &&& (1 : Int32)) = (0 : Int32) then (if (kb &&& (2147483647 : Int32)) = (0 : Int32) then (1 : Int32) else (kb &&& (2147483647 : Int32))) else ((kb &&& (15 : Int32)) + (1 : Int32)))) (hp28_hbd : 1 ≤ m31_l4.toInt) (nn_29 : Nat) (r55 : Int32) (hr55 : r55 = (own_r sd m31_l4 nn_29)) (hq28 : own_min sd m31_l4 nn_29) (hc62_38 : ¬ (r55 < (0 : Int32))) (hc69_41 : r55 < m31_l4) (v81 : Int64) (hv81 : v81 = ((4294967296 : Int64) % (m31_l4.toInt64))) (r85 : Int64) (hr85 : r85 = (own_mix (sd + (-7046029254386353131 : Int64)))) (v95 : Int64) (hv95 : v95 = (((r85.toUInt64 >>> ((32 : Int32) &&& 0x3f).toInt64.toUInt64).toInt64) * (m31_l4.toInt64))) (hc106_52 : (v95 &&& (4294967295 : Int64)) < v81) (r142 : Int64) (hr142 : r142 = (own_mix ((sd + (-7046029254386353131 : Int64)) + (-7046029254386353131 : Int64)))) (v152 : Int64) (hv152 : v152 = (((r142.toUInt64 >>> ((32 : Int32) &&& 0x3f).toInt64.toUInt64).toInt64) * (m31_l4.toInt64))) (hc163_62 : ¬ ((v152 &&& (4294967295 : Int64)) < v81)) (hc174_96 : r55 = (((v152.toUInt64 >>> ((32 : Int32) &&& 0x3f).toInt64.toUInt64).toInt64).toInt32)) (r179 : Int64) (hr179 : r179 = (own_mix ((own_st sd (nn_29 + 1)) + (-7046029254386353131 : Int64)))) (r184 : Int64) (hr184 : r184 = (own_mix (((sd + (-7046029254386353131 : Int64)) + (-7046029254386353131 : Int64)) + (-7046029254386353131 : Int64)))) (m196 : Int32) (hm196 : m196 = (if r179 = r184 then (1 : Int32) else (0 : Int32))) : (nar .boolean m196) = (1 : Int32) := by
  have hv : v95 = own_p sd m31_l4 0 := by rw [hv95, hr85]; rfl
  have ht : v81 = own_thr m31_l4 := hv81
  have hv2 : v152 = own_p sd m31_l4 1 := by rw [hv152, hr142]; rfl
  have hn : nn_29 = 1 := own_uniq sd m31_l4 nn_29 1 hq28 (by unfold own_acc; rw [← hv2, ← ht]; assumption) (fun j hj => by
      have : j = 0 := by omega
      subst this
      exact fun q => q (by rw [← hv, ← ht]; assumption))
  rw [hm196, if_pos (by rw [hr179, hr184, hn]; rfl)]; rfl
theorem own_leaf_0_196_fttft (sd : Int64) (kb : Int32) (km : Int32) (m31_l4 : Int32) (hm31_l4 : m31_l4 = (if (km &&& (1 : Int32)) = (0 : Int32) then (if (kb &&& (2147483647 : Int32)) = (0 : Int32) then (1 : Int32) else (kb &&& (2147483647 : Int32))) else ((kb &&& (15 : Int32)) + (1 : Int32)))) (hp28_hbd : 1 ≤ m31_l4.toInt) (nn_29 : Nat) (r55 : Int32) (hr55 : r55 = (own_r sd m31_l4 nn_29)) (hq28 : own_min sd m31_l4 nn_29) (hc62_38 : ¬ (r55 < (0 : Int32))) (hc69_41 : r55 < m31_l4) (v81 : Int64) (hv81 : v81 = ((4294967296 : Int64) % (m31_l4.toInt64))) (r85 : Int64) (hr85 : r85 = (own_mix (sd + (-7046029254386353131 : Int64)))) (v95 : Int64) (hv95 : v95 = (((r85.toUInt64 >>> ((32 : Int32) &&& 0x3f).toInt64.toUInt64).toInt64) * (m31_l4.toInt64))) (hc106_52 : (v95 &&& (4294967295 : Int64)) < v81) (r142 : Int64) (hr142 : r142 = (own_mix ((sd + (-7046029254386353131 : Int64)) + (-7046029254386353131 : Int64)))) (v152 : Int64) (hv152 : v152 = (((r142.toUInt64 >>> ((32 : Int32) &&& 0x3f).toInt64.toUInt64).toInt64) * (m31_l4.toInt64))) (hc163_62 : ¬ ((v152 &&& (4294967295 : Int64)) < v81)) (hc174_96 : ¬ (r55 = (((v152.toUInt64 >>> ((32 : Int32) &&& 0x3f).toInt64.toUInt64).toInt64).toInt32))) : (0 : Int32) = (1 : Int32) := by
  have hv : v95 = own_p sd m31_l4 0 := by rw [hv95, hr85]; rfl
  have ht : v81 = own_thr m31_l4 := hv81
  have hv2 : v152 = own_p sd m31_l4 1 := by rw [hv152, hr142]; rfl
  have hn : nn_29 = 1 := own_uniq sd m31_l4 nn_29 1 hq28 (by unfold own_acc; rw [← hv2, ← ht]; assumption) (fun j hj => by
      have : j = 0 := by omega
      subst this
      exact fun q => q (by rw [← hv, ← ht]; assumption))
  exact absurd (show r55 = (own_us v152 32).toInt32 by rw [hr55, hn, hv2]; rfl) (by assumption)
theorem own_leaf_0_139_ftff (sd : Int64) (kb : Int32) (km : Int32) (m31_l4 : Int32) (hm31_l4 : m31_l4 = (if (km &&& (1 : Int32)) = (0 : Int32) then (if (kb &&& (2147483647 : Int32)) = (0 : Int32) then (1 : Int32) else (kb &&& (2147483647 : Int32))) else ((kb &&& (15 : Int32)) + (1 : Int32)))) (hp28_hbd : 1 ≤ m31_l4.toInt) (nn_29 : Nat) (r55 : Int32) (hr55 : r55 = (own_r sd m31_l4 nn_29)) (hq28 : own_min sd m31_l4 nn_29) (hc62_38 : ¬ (r55 < (0 : Int32))) (hc69_41 : r55 < m31_l4) (v81 : Int64) (hv81 : v81 = ((4294967296 : Int64) % (m31_l4.toInt64))) (r85 : Int64) (hr85 : r85 = (own_mix (sd + (-7046029254386353131 : Int64)))) (v95 : Int64) (hv95 : v95 = (((r85.toUInt64 >>> ((32 : Int32) &&& 0x3f).toInt64.toUInt64).toInt64) * (m31_l4.toInt64))) (hc106_52 : ¬ ((v95 &&& (4294967295 : Int64)) < v81)) (hc117_118 : r55 = (((v95.toUInt64 >>> ((32 : Int32) &&& 0x3f).toInt64.toUInt64).toInt64).toInt32)) (r122 : Int64) (hr122 : r122 = (own_mix ((own_st sd (nn_29 + 1)) + (-7046029254386353131 : Int64)))) (r127 : Int64) (hr127 : r127 = (own_mix ((sd + (-7046029254386353131 : Int64)) + (-7046029254386353131 : Int64)))) (m139 : Int32) (hm139 : m139 = (if r122 = r127 then (1 : Int32) else (0 : Int32))) : (nar .boolean m139) = (1 : Int32) := by
  have hv : v95 = own_p sd m31_l4 0 := by rw [hv95, hr85]; rfl
  have ht : v81 = own_thr m31_l4 := hv81
  have hn : nn_29 = 0 := own_uniq sd m31_l4 nn_29 0 hq28 (by unfold own_acc; rw [← hv, ← ht]; assumption) (fun j hj => by omega)
  rw [hm139, if_pos (by rw [hr122, hr127, hn]; rfl)]; rfl
theorem own_leaf_0_139_ftft (sd : Int64) (kb : Int32) (km : Int32) (m31_l4 : Int32) (hm31_l4 : m31_l4 = (if (km &&& (1 : Int32)) = (0 : Int32) then (if (kb &&& (2147483647 : Int32)) = (0 : Int32) then (1 : Int32) else (kb &&& (2147483647 : Int32))) else ((kb &&& (15 : Int32)) + (1 : Int32)))) (hp28_hbd : 1 ≤ m31_l4.toInt) (nn_29 : Nat) (r55 : Int32) (hr55 : r55 = (own_r sd m31_l4 nn_29)) (hq28 : own_min sd m31_l4 nn_29) (hc62_38 : ¬ (r55 < (0 : Int32))) (hc69_41 : r55 < m31_l4) (v81 : Int64) (hv81 : v81 = ((4294967296 : Int64) % (m31_l4.toInt64))) (r85 : Int64) (hr85 : r85 = (own_mix (sd + (-7046029254386353131 : Int64)))) (v95 : Int64) (hv95 : v95 = (((r85.toUInt64 >>> ((32 : Int32) &&& 0x3f).toInt64.toUInt64).toInt64) * (m31_l4.toInt64))) (hc106_52 : ¬ ((v95 &&& (4294967295 : Int64)) < v81)) (hc117_118 : ¬ (r55 = (((v95.toUInt64 >>> ((32 : Int32) &&& 0x3f).toInt64.toUInt64).toInt64).toInt32))) : (0 : Int32) = (1 : Int32) := by
  have hv : v95 = own_p sd m31_l4 0 := by rw [hv95, hr85]; rfl
  have ht : v81 = own_thr m31_l4 := hv81
  have hn : nn_29 = 0 := own_uniq sd m31_l4 nn_29 0 hq28 (by unfold own_acc; rw [← hv, ← ht]; assumption) (fun j hj => by omega)
  exact absurd (show r55 = (own_us v95 32).toInt32 by rw [hr55, hn, hv]; rfl) (by assumption)
theorem own_leaf_0_73_ff (sd : Int64) (kb : Int32) (km : Int32) (m31_l4 : Int32) (hm31_l4 : m31_l4 = (if (km &&& (1 : Int32)) = (0 : Int32) then (if (kb &&& (2147483647 : Int32)) = (0 : Int32) then (1 : Int32) else (kb &&& (2147483647 : Int32))) else ((kb &&& (15 : Int32)) + (1 : Int32)))) (hp28_hbd : 1 ≤ m31_l4.toInt) (nn_29 : Nat) (r55 : Int32) (hr55 : r55 = (own_r sd m31_l4 nn_29)) (hq28 : own_min sd m31_l4 nn_29) (hc62_38 : ¬ (r55 < (0 : Int32))) (hc69_41 : ¬ (r55 < m31_l4)) : (0 : Int32) = (1 : Int32) := by
  have h := own_r_range sd m31_l4 nn_29 hp28_hbd
  rw [← hr55] at h
  exact absurd (Int32.lt_iff_toInt_lt.2 h.2) (by assumption)
def Q0 (Z : State) (sd : Int64) (kb : Int32) (km : Int32) (h0 : Heap) (n0 : Nat) (v : Option Value) (h : Heap) (L : List Loc) : Prop := v = some (.int (1 : Int32)) ∧ Fr n0 L
set_option maxRecDepth 65536 in
set_option maxHeartbeats 40000000 in
theorem rm0 (l : Launch) (Z : State) (a0 : Array Value) (hw : ∀ d ∈ tables_1, d.before a0 Z = true) (ws : List Jvm.Cond) (sd : Int64) (kb : Int32) (km : Int32) (h0 : Heap) (n0 : Nat) (Z0 : n0 ≤ h0.size)  :
    MetFree l x (head1 (Jvm.Cond.code x code maxLocals ret :: ws) room_1) (fun a U => a = #[(.long sd), (.int kb), (.int km)] ∧ Z.Warmed39 U.vm ∧ U.heap = h0) (fun _ _ _ _ _ => True) (fun _ U o U' => ∃ v L, o = .returned v ∧ Q0 Z sd kb km h0 n0 v U'.heap L ∧ FrameEnd U o U' L room_1.cells room_1.slots) := by
  refine MetFree.of_bodySF (plainFor_of_name pn_0) hisR ?_
  intro p e s m args below meth c s₁ Bd hml0 hP hK
  obtain ⟨rfl, hZ, hh⟩ := hP
  have hx := Bd.exec
  have hby := Bd.bytes
  have hml : c.maxLocals = 16 := hml0
  have hown : s.vm.findClass "com/example/wary_rank/waryrank/SplitMix64NextIntPinLaw" = some m.cls := findClass_of_methodNamed Bd.named
  have hnm := (name_of_methodNamed Bd.named Bd.method).1
  have X0 : Stand p l e room_1 s m #[(.long sd), (.int kb), (.int km)] below meth c s₁ [] 0 0 := Stand.of_body Bd
  have e0 : s₁.heap = h0 := by rw [← hh, Bd.state]; rfl
  have N0 := Fr.nil n0
  have K0 : Keep h0 h0 [] := Keep.refl h0 _
  have pre0 : ∀ tq, Steps p.tables e below (s₁.setTop (mkF m 0 #[.val (.long sd), .second, .val (.int kb), .val (.int km), .unset, .unset, .unset, .unset, .unset, .unset, .unset, .unset, .unset, .unset, .unset, .unset] [])) tq → Steps p.tables e below (s₁.setTop (entryFrame m #[(.long sd), (.int kb), (.int km)] maxLocals)) tq := fun tq kq => castTop (ef_0 m sd kb km) kq
  obtain ⟨m31_l4, hm31_l4⟩ : ∃ z_q : Int32, z_q = (if (km &&& (1 : Int32)) = (0 : Int32) then (if (kb &&& (2147483647 : Int32)) = (0 : Int32) then (1 : Int32) else (kb &&& (2147483647 : Int32))) else ((kb &&& (15 : Int32)) + (1 : Int32))) := ⟨_, rfl⟩
  have pre3 : ∀ tq, Steps p.tables e below (s₁.setTop (mkF m 31 #[.val (.long sd), .second, .val (.int kb), .val (.int km), .val (.int m31_l4), .unset, .unset, .unset, .unset, .unset, .unset, .unset, .unset, .unset, .unset, .unset] [])) tq → Steps p.tables e below (s₁.setTop (entryFrame m #[(.long sd), (.int kb), (.int km)] maxLocals)) tq := by
    intro tq kt
    refine pre0 _ ?_
    show Steps p.tables e below (s₁.setTop (mkF m 0 #[.val (.long sd), .second, .val (.int kb), .val (.int km), .unset, .unset, .unset, .unset, .unset, .unset, .unset, .unset, .unset, .unset, .unset, .unset] [])) _
    refine XS.iloadN X0.here hx rfl (hb hby at_0) rfl ?_
    show Steps p.tables e below (s₁.setTop (mkF m 1 #[.val (.long sd), .second, .val (.int kb), .val (.int km), .unset, .unset, .unset, .unset, .unset, .unset, .unset, .unset, .unset, .unset, .unset, .unset] [(.int km)])) _
    refine XS.iconst X0.here hx rfl (hb hby at_1) ?_
    show Steps p.tables e below (s₁.setTop (mkF m 2 #[.val (.long sd), .second, .val (.int kb), .val (.int km), .unset, .unset, .unset, .unset, .unset, .unset, .unset, .unset, .unset, .unset, .unset, .unset] [(.int (1 : Int32)), (.int km)])) _
    refine XS.iand X0.here hx rfl (hb hby at_2) rfl ?_
    by_cases d1 : (km &&& (1 : Int32)) = (0 : Int32)
    · skip
      show Steps p.tables e below (s₁.setTop (mkF m 3 #[.val (.long sd), .second, .val (.int kb), .val (.int km), .unset, .unset, .unset, .unset, .unset, .unset, .unset, .unset, .unset, .unset, .unset, .unset] [(.int (km &&& (1 : Int32)))])) _
      refine XS.ifYes X0.here hx rfl (pc0 := 3) (pc' := 17) rfl (hb hby at_3) rfl ((if0 _ _).trans (teq d1).1) (by decide) (by decide) ?_
      show Steps p.tables e below (s₁.setTop (mkF m 17 #[.val (.long sd), .second, .val (.int kb), .val (.int km), .unset, .unset, .unset, .unset, .unset, .unset, .unset, .unset, .unset, .unset, .unset, .unset] [])) _
      refine XS.iloadN X0.here hx rfl (hb hby at_17) rfl ?_
      show Steps p.tables e below (s₁.setTop (mkF m 18 #[.val (.long sd), .second, .val (.int kb), .val (.int km), .unset, .unset, .unset, .unset, .unset, .unset, .unset, .unset, .unset, .unset, .unset, .unset] [(.int kb)])) _
      refine X0.ldcInt hx hown (mvT hZ (hw _ (List.mem_of_getElem? (i := 28) rfl))) (g := (mkF m 18 #[.val (.long sd), .second, .val (.int kb), .val (.int km), .unset, .unset, .unset, .unset, .unset, .unset, .unset, .unset, .unset, .unset, .unset, .unset] [(.int kb)])) rfl (hb hby at_18) _ ?_
      show Steps p.tables e below (s₁.setTop (mkF m 20 #[.val (.long sd), .second, .val (.int kb), .val (.int km), .unset, .unset, .unset, .unset, .unset, .unset, .unset, .unset, .unset, .unset, .unset, .unset] [(.int (2147483647 : Int32)), (.int kb)])) _
      refine XS.iand X0.here hx rfl (hb hby at_20) rfl ?_
      show Steps p.tables e below (s₁.setTop (mkF m 21 #[.val (.long sd), .second, .val (.int kb), .val (.int km), .unset, .unset, .unset, .unset, .unset, .unset, .unset, .unset, .unset, .unset, .unset, .unset] [(.int (kb &&& (2147483647 : Int32)))])) _
      refine XS.istore X0.here hx rfl (hb hby at_21) rfl (l' := #[.val (.long sd), .second, .val (.int kb), .val (.int km), .val (.int (kb &&& (2147483647 : Int32))), .unset, .unset, .unset, .unset, .unset, .unset, .unset, .unset, .unset, .unset, .unset]) rfl ?_
      show Steps p.tables e below (s₁.setTop (mkF m 23 #[.val (.long sd), .second, .val (.int kb), .val (.int km), .val (.int (kb &&& (2147483647 : Int32))), .unset, .unset, .unset, .unset, .unset, .unset, .unset, .unset, .unset, .unset, .unset] [])) _
      refine XS.iload X0.here hx rfl (hb hby at_23) rfl ?_
      by_cases d2 : (kb &&& (2147483647 : Int32)) = (0 : Int32)
      · skip
        show Steps p.tables e below (s₁.setTop (mkF m 25 #[.val (.long sd), .second, .val (.int kb), .val (.int km), .val (.int (kb &&& (2147483647 : Int32))), .unset, .unset, .unset, .unset, .unset, .unset, .unset, .unset, .unset, .unset, .unset] [(.int (kb &&& (2147483647 : Int32)))])) _
        refine XS.ifNo X0.here hx rfl (hb hby at_25) rfl ((if0 _ _).trans (teq d2).2) ?_
        show Steps p.tables e below (s₁.setTop (mkF m 28 #[.val (.long sd), .second, .val (.int kb), .val (.int km), .val (.int (kb &&& (2147483647 : Int32))), .unset, .unset, .unset, .unset, .unset, .unset, .unset, .unset, .unset, .unset, .unset] [])) _
        refine XS.iconst X0.here hx rfl (hb hby at_28) ?_
        show Steps p.tables e below (s₁.setTop (mkF m 29 #[.val (.long sd), .second, .val (.int kb), .val (.int km), .val (.int (kb &&& (2147483647 : Int32))), .unset, .unset, .unset, .unset, .unset, .unset, .unset, .unset, .unset, .unset, .unset] [(.int (1 : Int32))])) _
        refine XS.istore X0.here hx rfl (hb hby at_29) rfl (l' := #[.val (.long sd), .second, .val (.int kb), .val (.int km), .val (.int (1 : Int32)), .unset, .unset, .unset, .unset, .unset, .unset, .unset, .unset, .unset, .unset, .unset]) rfl ?_
        show Steps p.tables e below (s₁.setTop (mkF m 31 #[.val (.long sd), .second, .val (.int kb), .val (.int km), .val (.int (1 : Int32)), .unset, .unset, .unset, .unset, .unset, .unset, .unset, .unset, .unset, .unset, .unset] [])) _
        exact castTop (by simp only [hm31_l4, if_pos d1, if_pos d2]) kt
      · skip
        show Steps p.tables e below (s₁.setTop (mkF m 25 #[.val (.long sd), .second, .val (.int kb), .val (.int km), .val (.int (kb &&& (2147483647 : Int32))), .unset, .unset, .unset, .unset, .unset, .unset, .unset, .unset, .unset, .unset, .unset] [(.int (kb &&& (2147483647 : Int32)))])) _
        refine XS.ifYes X0.here hx rfl (pc0 := 25) (pc' := 31) rfl (hb hby at_25) rfl ((if0 _ _).trans (feq d2).2) (by decide) (by decide) ?_
        show Steps p.tables e below (s₁.setTop (mkF m 31 #[.val (.long sd), .second, .val (.int kb), .val (.int km), .val (.int (kb &&& (2147483647 : Int32))), .unset, .unset, .unset, .unset, .unset, .unset, .unset, .unset, .unset, .unset, .unset] [])) _
        exact castTop (by simp only [hm31_l4, if_pos d1, if_neg d2]) kt
    · skip
      show Steps p.tables e below (s₁.setTop (mkF m 3 #[.val (.long sd), .second, .val (.int kb), .val (.int km), .unset, .unset, .unset, .unset, .unset, .unset, .unset, .unset, .unset, .unset, .unset, .unset] [(.int (km &&& (1 : Int32)))])) _
      refine XS.ifNo X0.here hx rfl (hb hby at_3) rfl ((if0 _ _).trans (feq d1).1) ?_
      show Steps p.tables e below (s₁.setTop (mkF m 6 #[.val (.long sd), .second, .val (.int kb), .val (.int km), .unset, .unset, .unset, .unset, .unset, .unset, .unset, .unset, .unset, .unset, .unset, .unset] [])) _
      refine XS.iloadN X0.here hx rfl (hb hby at_6) rfl ?_
      show Steps p.tables e below (s₁.setTop (mkF m 7 #[.val (.long sd), .second, .val (.int kb), .val (.int km), .unset, .unset, .unset, .unset, .unset, .unset, .unset, .unset, .unset, .unset, .unset, .unset] [(.int kb)])) _
      refine XS.bipush X0.here hx rfl (hb hby at_7) ?_
      show Steps p.tables e below (s₁.setTop (mkF m 9 #[.val (.long sd), .second, .val (.int kb), .val (.int km), .unset, .unset, .unset, .unset, .unset, .unset, .unset, .unset, .unset, .unset, .unset, .unset] [(.int (15 : Int32)), (.int kb)])) _
      refine XS.iand X0.here hx rfl (hb hby at_9) rfl ?_
      show Steps p.tables e below (s₁.setTop (mkF m 10 #[.val (.long sd), .second, .val (.int kb), .val (.int km), .unset, .unset, .unset, .unset, .unset, .unset, .unset, .unset, .unset, .unset, .unset, .unset] [(.int (kb &&& (15 : Int32)))])) _
      refine XS.iconst X0.here hx rfl (hb hby at_10) ?_
      show Steps p.tables e below (s₁.setTop (mkF m 11 #[.val (.long sd), .second, .val (.int kb), .val (.int km), .unset, .unset, .unset, .unset, .unset, .unset, .unset, .unset, .unset, .unset, .unset, .unset] [(.int (1 : Int32)), (.int (kb &&& (15 : Int32)))])) _
      refine XS.iadd X0.here hx rfl (hb hby at_11) rfl ?_
      show Steps p.tables e below (s₁.setTop (mkF m 12 #[.val (.long sd), .second, .val (.int kb), .val (.int km), .unset, .unset, .unset, .unset, .unset, .unset, .unset, .unset, .unset, .unset, .unset, .unset] [(.int ((kb &&& (15 : Int32)) + (1 : Int32)))])) _
      refine XS.istore X0.here hx rfl (hb hby at_12) rfl (l' := #[.val (.long sd), .second, .val (.int kb), .val (.int km), .val (.int ((kb &&& (15 : Int32)) + (1 : Int32))), .unset, .unset, .unset, .unset, .unset, .unset, .unset, .unset, .unset, .unset, .unset]) rfl ?_
      show Steps p.tables e below (s₁.setTop (mkF m 14 #[.val (.long sd), .second, .val (.int kb), .val (.int km), .val (.int ((kb &&& (15 : Int32)) + (1 : Int32))), .unset, .unset, .unset, .unset, .unset, .unset, .unset, .unset, .unset, .unset, .unset] [])) _
      refine XS.goto X0.here hx rfl (pc0 := 14) (pc' := 31) rfl (hb hby at_14) (by decide) (by decide) ?_
      show Steps p.tables e below (s₁.setTop (mkF m 31 #[.val (.long sd), .second, .val (.int kb), .val (.int km), .val (.int ((kb &&& (15 : Int32)) + (1 : Int32))), .unset, .unset, .unset, .unset, .unset, .unset, .unset, .unset, .unset, .unset, .unset] [])) _
      exact castTop (by simp only [hm31_l4, if_neg d1]) kt
  obtain ⟨T4, hX4, X4, e4, E4, A4, D4, -, st4⟩ := newO X0 hx hZ hown (hw _ (List.mem_of_getElem? (i := 0) rfl)) (hw _ (List.mem_of_getElem? (i := 1) rfl)) (hw _ (List.mem_of_getElem? (i := 2) rfl)) e0 (g := (mkF m 31 #[.val (.long sd), .second, .val (.int kb), .val (.int km), .val (.int m31_l4), .unset, .unset, .unset, .unset, .unset, .unset, .unset, .unset, .unset, .unset, .unset] [])) rfl (hb hby at_31) (by decide) (by decide)
  obtain ⟨b4, g4⟩ : ∃ z_q, z_q = h0.size := ⟨_, rfl⟩
  rw [← g4] at A4 D4 st4
  have g_b4 : n0 ≤ b4 := Nat.le_trans Z0 (Nat.le_of_eq g4.symm)
  have sz_b4 : h0.size ≤ b4 := Nat.le_trans K0.1 (Nat.le_of_eq g4.symm)
  have Z5 : n0 ≤ hX4.size := Nat.le_trans Z0 E4.1
  have K6 : Keep h0 hX4 [] := K0.ext E4
  have F7 : Fld Z hX4 b4 "com/example/wary_rank/waryrank/SplitMix64" "state" "J" (.long (0 : Int64)) := D4 (Or.inl (hw _ (List.mem_of_getElem? (i := 10) rfl))) (ty := .long) (by decide)
  obtain ⟨_, _, ⟨T8, L8, k8, n8⟩, -, X8, ⟨Lc8, hQ8, l8, y8, z8⟩, st8⟩ := X4.specialBack hx (y := (⟨"com/example/wary_rank/waryrank/SplitMix64", "<init>", "(J)V"⟩ : MethodName)) rfl hown (mvT hZ (hw _ (List.mem_of_getElem? (i := 3) rfl))) (mvT hZ (hw _ (List.mem_of_getElem? (i := 4) rfl))) (mvT hZ (hw _ (List.mem_of_getElem? (i := 5) rfl))) (by decide) (backOf (W := 1) (rm1 l Z a0 hw [] b4 sd hX4 n0 Z5 F7 A4 g_b4) hZ (hw _ (List.mem_of_getElem? (i := 5) rfl)) (hw _ (List.mem_of_getElem? (i := 2) rfl)) (by decide) (by decide)) (g := (mkF m 36 #[.val (.long sd), .second, .val (.int kb), .val (.int km), .val (.int m31_l4), .unset, .unset, .unset, .unset, .unset, .unset, .unset, .unset, .unset, .unset, .unset] [(.long sd), (.ref b4), (.ref b4)])) rfl (by rw [hml]; rfl) (Steps.refl _) (a := b4) (argsL := [(.long sd)]) (rest := [(.ref b4)]) (lenOf pd_1 rfl) rfl (by show 2 * 0 + _ ≤ _; exact Nat.le_of_eq rfl) (hb hby at_36) (fun _ _ => ⟨rfl, e4, (by decide : 1 + 0 ≤ _), (by decide : 1 + 0 ≤ _)⟩)
  dsimp only [Pt.U, Pt.locs, Pt.cells, Pt.slots] at X8 l8 y8 z8 st8 hQ8
  subst l8 y8 z8
  obtain ⟨rfl, N8q, K8q, F9, F10⟩ := hQ8
  have N8 := Fr.app N0 N8q
  have F11 : Exa Z T8.heap b4 "com/example/wary_rank/waryrank/SplitMix64" := A4.keep K8q
  have Z12 : n0 ≤ T8.heap.size := Nat.le_trans Z5 K8q.1
  have K13 : Keep h0 T8.heap [] := K6.trans K8q (allS (Or.inr sz_b4) all0)
  obtain ⟨T14, hX14, X14, e14, E14, A14, D14, -, st14⟩ := newO X8 hx hZ hown (hw _ (List.mem_of_getElem? (i := 0) rfl)) (hw _ (List.mem_of_getElem? (i := 1) rfl)) (hw _ (List.mem_of_getElem? (i := 2) rfl)) rfl (g := (mkF m 41 #[.val (.long sd), .second, .val (.int kb), .val (.int km), .val (.int m31_l4), .val (.ref b4), .unset, .unset, .unset, .unset, .unset, .unset, .unset, .unset, .unset, .unset] [])) rfl (hb hby at_41) (by decide) (by decide)
  obtain ⟨b14, g14⟩ : ∃ z_q, z_q = T8.heap.size := ⟨_, rfl⟩
  rw [← g14] at A14 D14 st14
  have g_b14 : n0 ≤ b14 := Nat.le_trans Z12 (Nat.le_of_eq g14.symm)
  have sz_b14 : h0.size ≤ b14 := Nat.le_trans K13.1 (Nat.le_of_eq g14.symm)
  have ne_b4_b14 : b4 ≠ b14 := Nat.ne_of_lt (Nat.lt_of_lt_of_le F9.lt (Nat.le_of_eq g14.symm))
  have F15 : Exa Z hX14 b4 "com/example/wary_rank/waryrank/SplitMix64" := F9.ext E14
  have F16 : Fld Z hX14 b4 "com/example/wary_rank/waryrank/SplitMix64" "state" "J" (.long sd) := F10.ext E14
  have Z17 : n0 ≤ hX14.size := Nat.le_trans Z12 E14.1
  have K18 : Keep h0 hX14 [] := K13.ext E14
  have F19 : Fld Z hX14 b14 "com/example/wary_rank/waryrank/SplitMix64" "state" "J" (.long (0 : Int64)) := D14 (Or.inl (hw _ (List.mem_of_getElem? (i := 10) rfl))) (ty := .long) (by decide)
  obtain ⟨_, _, ⟨T20, L20, k20, n20⟩, -, X20, ⟨Lc20, hQ20, l20, y20, z20⟩, st20⟩ := X14.specialBack hx (y := (⟨"com/example/wary_rank/waryrank/SplitMix64", "<init>", "(J)V"⟩ : MethodName)) rfl hown (mvT hZ (hw _ (List.mem_of_getElem? (i := 3) rfl))) (mvT hZ (hw _ (List.mem_of_getElem? (i := 4) rfl))) (mvT hZ (hw _ (List.mem_of_getElem? (i := 5) rfl))) (by decide) (backOf (W := 1) (rm1 l Z a0 hw [] b14 sd hX14 n0 Z17 F19 A14 g_b14) hZ (hw _ (List.mem_of_getElem? (i := 5) rfl)) (hw _ (List.mem_of_getElem? (i := 2) rfl)) (by decide) (by decide)) (g := (mkF m 46 #[.val (.long sd), .second, .val (.int kb), .val (.int km), .val (.int m31_l4), .val (.ref b4), .unset, .unset, .unset, .unset, .unset, .unset, .unset, .unset, .unset, .unset] [(.long sd), (.ref b14), (.ref b14)])) rfl (by rw [hml]; rfl) (Steps.refl _) (a := b14) (argsL := [(.long sd)]) (rest := [(.ref b14)]) (lenOf pd_1 rfl) rfl (by show 2 * 0 + _ ≤ _; exact Nat.le_of_eq rfl) (hb hby at_46) (fun _ _ => ⟨rfl, e14, (by decide : 2 + 0 ≤ _), (by decide : 2 + 0 ≤ _)⟩)
  dsimp only [Pt.U, Pt.locs, Pt.cells, Pt.slots] at X20 l20 y20 z20 st20 hQ20
  subst l20 y20 z20
  obtain ⟨rfl, N20q, K20q, F21, F22⟩ := hQ20
  have N20 := Fr.app N8 N20q
  have F23 : Exa Z T20.heap b4 "com/example/wary_rank/waryrank/SplitMix64" := F15.keep K20q
  have F24 : Fld Z T20.heap b4 "com/example/wary_rank/waryrank/SplitMix64" "state" "J" (.long sd) := F16.keep K20q (ninS ne_b4_b14 nin0)
  have F25 : Exa Z T20.heap b14 "com/example/wary_rank/waryrank/SplitMix64" := A14.keep K20q
  have Z26 : n0 ≤ T20.heap.size := Nat.le_trans Z17 K20q.1
  have K27 : Keep h0 T20.heap [] := K18.trans K20q (allS (Or.inr sz_b14) all0)
  have hp28_hbd : 1 ≤ m31_l4.toInt := (own_pre_0_55_hbd sd kb km m31_l4 hm31_l4)
  obtain ⟨cq28, kq28, q28a, q28b, q28c⟩ := isOf hZ rfl F23
  obtain ⟨_, _, ⟨T28, L28, k28, n28⟩, -, X28, ⟨Lc28, hQ28, l28, y28, z28⟩, st28⟩ := X20.virtualBack hx (y := (⟨"com/example/wary_rank/waryrank/SplitMix64", "nextInt", "(I)I"⟩ : MethodName)) (z := (⟨"com/example/wary_rank/waryrank/SplitMix64", "nextInt", "(I)I"⟩ : MethodName)) hown (mvT hZ (hw _ (List.mem_of_getElem? (i := 11) rfl))) (mvT hZ (hw _ (List.mem_of_getElem? (i := 12) rfl))) (notFace_of_selects (args := #[]) (mvT hZ (hw _ (List.mem_of_getElem? (i := 14) rfl)))) (mvT hZ (hw _ (List.mem_of_getElem? (i := 14) rfl))) (mvT hZ (hw _ (List.mem_of_getElem? (i := 13) rfl))) (by decide) (backOf (W := 0) (rm3 l Z a0 hw [] b4 m31_l4 sd T20.heap n0 Z26 F24 F23 g_b4 hp28_hbd) hZ (hw _ (List.mem_of_getElem? (i := 15) rfl)) (hw _ (List.mem_of_getElem? (i := 2) rfl)) (by decide) (by decide)) q28a q28c (g := (mkF m 55 #[.val (.long sd), .second, .val (.int kb), .val (.int km), .val (.int m31_l4), .val (.ref b4), .val (.ref b14), .unset, .unset, .unset, .unset, .unset, .unset, .unset, .unset, .unset] [(.int m31_l4), (.ref b4)])) rfl (by rw [hml]; rfl) (Steps.refl _) (argsL := [(.int m31_l4)]) (rest := []) (lenOf pd_2 rfl) rfl (by show 2 * 0 + _ ≤ _; exact Nat.le_of_eq rfl) (hb hby at_55) (fun _ _ => ⟨rfl, rfl, (by decide : 2 + 0 ≤ _), (by decide : 2 + 0 ≤ _)⟩)
  dsimp only [Pt.U, Pt.locs, Pt.cells, Pt.slots] at X28 l28 y28 z28 st28 hQ28
  subst l28 y28 z28
  obtain ⟨nn_29, rfl, N28q, K28q, F30, F31, hq28⟩ := hQ28
  have N28 := Fr.app N20 N28q
  have F32 : Exa Z T28.heap b4 "com/example/wary_rank/waryrank/SplitMix64" := F23.keep K28q
  have F33 : Exa Z T28.heap b14 "com/example/wary_rank/waryrank/SplitMix64" := F21.keep K28q
  have F34 : Fld Z T28.heap b14 "com/example/wary_rank/waryrank/SplitMix64" "state" "J" (.long sd) := F22.keep K28q (ninS (Ne.symm ne_b4_b14) nin0)
  have Z35 : n0 ≤ T28.heap.size := Nat.le_trans Z26 K28q.1
  have K36 : Keep h0 T28.heap [] := K27.trans K28q (allS (Or.inr sz_b4) all0)
  obtain ⟨r55, hr55⟩ : ∃ z_q : Int32, z_q = (own_r sd m31_l4 nn_29) := ⟨_, rfl⟩
  have pre37 : ∀ tq, Steps p.tables e below (T28.setTop (mkF m 62 #[.val (.long sd), .second, .val (.int kb), .val (.int km), .val (.int m31_l4), .val (.ref b4), .val (.ref b14), .val (.int r55), .unset, .unset, .unset, .unset, .unset, .unset, .unset, .unset] [(.int r55)])) tq → Steps p.tables e below (s₁.setTop (entryFrame m #[(.long sd), (.int kb), (.int km)] maxLocals)) tq := by
    intro tq kt
    refine pre3 _ ?_
    show Steps p.tables e below (s₁.setTop (mkF m 31 #[.val (.long sd), .second, .val (.int kb), .val (.int km), .val (.int m31_l4), .unset, .unset, .unset, .unset, .unset, .unset, .unset, .unset, .unset, .unset, .unset] [])) _
    refine st4 _ ?_
    show Steps p.tables e below (T4.setTop (mkF m 34 #[.val (.long sd), .second, .val (.int kb), .val (.int km), .val (.int m31_l4), .unset, .unset, .unset, .unset, .unset, .unset, .unset, .unset, .unset, .unset, .unset] [(.ref b4)])) _
    refine XS.dup X4.here hx rfl (hb hby at_34) rfl rfl ?_
    show Steps p.tables e below (T4.setTop (mkF m 35 #[.val (.long sd), .second, .val (.int kb), .val (.int km), .val (.int m31_l4), .unset, .unset, .unset, .unset, .unset, .unset, .unset, .unset, .unset, .unset, .unset] [(.ref b4), (.ref b4)])) _
    refine XS.lloadN X4.here hx rfl (hb hby at_35) rfl ?_
    show Steps p.tables e below (T4.setTop (mkF m 36 #[.val (.long sd), .second, .val (.int kb), .val (.int km), .val (.int m31_l4), .unset, .unset, .unset, .unset, .unset, .unset, .unset, .unset, .unset, .unset, .unset] [(.long sd), (.ref b4), (.ref b4)])) _
    refine st8.trans ?_
    show Steps p.tables e below (T8.setTop (mkF m 39 #[.val (.long sd), .second, .val (.int kb), .val (.int km), .val (.int m31_l4), .unset, .unset, .unset, .unset, .unset, .unset, .unset, .unset, .unset, .unset, .unset] [(.ref b4)])) _
    refine XS.astore X8.here hx rfl (hb hby at_39) rfl rfl (l' := #[.val (.long sd), .second, .val (.int kb), .val (.int km), .val (.int m31_l4), .val (.ref b4), .unset, .unset, .unset, .unset, .unset, .unset, .unset, .unset, .unset, .unset]) rfl ?_
    show Steps p.tables e below (T8.setTop (mkF m 41 #[.val (.long sd), .second, .val (.int kb), .val (.int km), .val (.int m31_l4), .val (.ref b4), .unset, .unset, .unset, .unset, .unset, .unset, .unset, .unset, .unset, .unset] [])) _
    refine st14 _ ?_
    show Steps p.tables e below (T14.setTop (mkF m 44 #[.val (.long sd), .second, .val (.int kb), .val (.int km), .val (.int m31_l4), .val (.ref b4), .unset, .unset, .unset, .unset, .unset, .unset, .unset, .unset, .unset, .unset] [(.ref b14)])) _
    refine XS.dup X14.here hx rfl (hb hby at_44) rfl rfl ?_
    show Steps p.tables e below (T14.setTop (mkF m 45 #[.val (.long sd), .second, .val (.int kb), .val (.int km), .val (.int m31_l4), .val (.ref b4), .unset, .unset, .unset, .unset, .unset, .unset, .unset, .unset, .unset, .unset] [(.ref b14), (.ref b14)])) _
    refine XS.lloadN X14.here hx rfl (hb hby at_45) rfl ?_
    show Steps p.tables e below (T14.setTop (mkF m 46 #[.val (.long sd), .second, .val (.int kb), .val (.int km), .val (.int m31_l4), .val (.ref b4), .unset, .unset, .unset, .unset, .unset, .unset, .unset, .unset, .unset, .unset] [(.long sd), (.ref b14), (.ref b14)])) _
    refine st20.trans ?_
    show Steps p.tables e below (T20.setTop (mkF m 49 #[.val (.long sd), .second, .val (.int kb), .val (.int km), .val (.int m31_l4), .val (.ref b4), .unset, .unset, .unset, .unset, .unset, .unset, .unset, .unset, .unset, .unset] [(.ref b14)])) _
    refine XS.astore X20.here hx rfl (hb hby at_49) rfl rfl (l' := #[.val (.long sd), .second, .val (.int kb), .val (.int km), .val (.int m31_l4), .val (.ref b4), .val (.ref b14), .unset, .unset, .unset, .unset, .unset, .unset, .unset, .unset, .unset]) rfl ?_
    show Steps p.tables e below (T20.setTop (mkF m 51 #[.val (.long sd), .second, .val (.int kb), .val (.int km), .val (.int m31_l4), .val (.ref b4), .val (.ref b14), .unset, .unset, .unset, .unset, .unset, .unset, .unset, .unset, .unset] [])) _
    refine XS.aload X20.here hx rfl (hb hby at_51) rfl rfl ?_
    show Steps p.tables e below (T20.setTop (mkF m 53 #[.val (.long sd), .second, .val (.int kb), .val (.int km), .val (.int m31_l4), .val (.ref b4), .val (.ref b14), .unset, .unset, .unset, .unset, .unset, .unset, .unset, .unset, .unset] [(.ref b4)])) _
    refine XS.iload X20.here hx rfl (hb hby at_53) rfl ?_
    show Steps p.tables e below (T20.setTop (mkF m 55 #[.val (.long sd), .second, .val (.int kb), .val (.int km), .val (.int m31_l4), .val (.ref b4), .val (.ref b14), .unset, .unset, .unset, .unset, .unset, .unset, .unset, .unset, .unset] [(.int m31_l4), (.ref b4)])) _
    refine st28.trans ?_
    show Steps p.tables e below (T28.setTop (mkF m 58 #[.val (.long sd), .second, .val (.int kb), .val (.int km), .val (.int m31_l4), .val (.ref b4), .val (.ref b14), .unset, .unset, .unset, .unset, .unset, .unset, .unset, .unset, .unset] [(.int (own_r sd m31_l4 nn_29))])) _
    rw [← hr55]
    show Steps p.tables e below (T28.setTop (mkF m 58 #[.val (.long sd), .second, .val (.int kb), .val (.int km), .val (.int m31_l4), .val (.ref b4), .val (.ref b14), .unset, .unset, .unset, .unset, .unset, .unset, .unset, .unset, .unset] [(.int r55)])) _
    refine XS.istore X28.here hx rfl (hb hby at_58) rfl (l' := #[.val (.long sd), .second, .val (.int kb), .val (.int km), .val (.int m31_l4), .val (.ref b4), .val (.ref b14), .val (.int r55), .unset, .unset, .unset, .unset, .unset, .unset, .unset, .unset]) rfl ?_
    show Steps p.tables e below (T28.setTop (mkF m 60 #[.val (.long sd), .second, .val (.int kb), .val (.int km), .val (.int m31_l4), .val (.ref b4), .val (.ref b14), .val (.int r55), .unset, .unset, .unset, .unset, .unset, .unset, .unset, .unset] [])) _
    refine XS.iload X28.here hx rfl (hb hby at_60) rfl ?_
    show Steps p.tables e below (T28.setTop (mkF m 62 #[.val (.long sd), .second, .val (.int kb), .val (.int km), .val (.int m31_l4), .val (.ref b4), .val (.ref b14), .val (.int r55), .unset, .unset, .unset, .unset, .unset, .unset, .unset, .unset] [(.int r55)])) _
    exact kt
  by_cases hc62_38 : r55 < (0 : Int32)
  · skip
    obtain ⟨fs, hr, hrun, hended, hW, hsame⟩ := X28.leave (v := some (Value.int (0 : Int32))) (fun h => by rw [Bd.returns] at h; cases h)
    have hres39 : (0 : Int32) = (1 : Int32) := (own_leaf_0_73_t sd kb km m31_l4 hm31_l4 hp28_hbd nn_29 r55 hr55 hq28 hc62_38)
    refine ⟨_, _, pre37 _ ?_, hrun, hended, _, _, rfl, ?_, ⟨_, rfl⟩, hW, hsame.mono (by decide) (by decide)⟩
    · skip
      show Steps p.tables e below (T28.setTop (mkF m 62 #[.val (.long sd), .second, .val (.int kb), .val (.int km), .val (.int m31_l4), .val (.ref b4), .val (.ref b14), .val (.int r55), .unset, .unset, .unset, .unset, .unset, .unset, .unset, .unset] [(.int r55)])) _
      refine XS.ifYes X28.here hx rfl (pc0 := 62) (pc' := 72) rfl (hb hby at_62) rfl ((if0 _ _).trans (tlt hc62_38).1) (by decide) (by decide) ?_
      show Steps p.tables e below (T28.setTop (mkF m 72 #[.val (.long sd), .second, .val (.int kb), .val (.int km), .val (.int m31_l4), .val (.ref b4), .val (.ref b14), .val (.int r55), .unset, .unset, .unset, .unset, .unset, .unset, .unset, .unset] [])) _
      refine XS.iconst X28.here hx rfl (hb hby at_72) ?_
      show Steps p.tables e below (T28.setTop (mkF m 73 #[.val (.long sd), .second, .val (.int kb), .val (.int km), .val (.int m31_l4), .val (.ref b4), .val (.ref b14), .val (.int r55), .unset, .unset, .unset, .unset, .unset, .unset, .unset, .unset] [(.int (0 : Int32))])) _
      exact retN X28 hx (t := .boolean) Bd.returns (by simp) (hb hby at_73) hr
    · show Q0 Z sd kb km h0 n0 _ T28.heap _
      exact ⟨congrArg (fun z => some (Value.int z)) hres39, N28⟩
  · skip
    have pre40 : ∀ tq, Steps p.tables e below (T28.setTop (mkF m 69 #[.val (.long sd), .second, .val (.int kb), .val (.int km), .val (.int m31_l4), .val (.ref b4), .val (.ref b14), .val (.int r55), .unset, .unset, .unset, .unset, .unset, .unset, .unset, .unset] [(.int m31_l4), (.int r55)])) tq → Steps p.tables e below (s₁.setTop (entryFrame m #[(.long sd), (.int kb), (.int km)] maxLocals)) tq := by
      intro tq kt
      refine pre37 _ ?_
      show Steps p.tables e below (T28.setTop (mkF m 62 #[.val (.long sd), .second, .val (.int kb), .val (.int km), .val (.int m31_l4), .val (.ref b4), .val (.ref b14), .val (.int r55), .unset, .unset, .unset, .unset, .unset, .unset, .unset, .unset] [(.int r55)])) _
      refine XS.ifNo X28.here hx rfl (hb hby at_62) rfl ((if0 _ _).trans (flt hc62_38).1) ?_
      show Steps p.tables e below (T28.setTop (mkF m 65 #[.val (.long sd), .second, .val (.int kb), .val (.int km), .val (.int m31_l4), .val (.ref b4), .val (.ref b14), .val (.int r55), .unset, .unset, .unset, .unset, .unset, .unset, .unset, .unset] [])) _
      refine XS.iload X28.here hx rfl (hb hby at_65) rfl ?_
      show Steps p.tables e below (T28.setTop (mkF m 67 #[.val (.long sd), .second, .val (.int kb), .val (.int km), .val (.int m31_l4), .val (.ref b4), .val (.ref b14), .val (.int r55), .unset, .unset, .unset, .unset, .unset, .unset, .unset, .unset] [(.int r55)])) _
      refine XS.iload X28.here hx rfl (hb hby at_67) rfl ?_
      show Steps p.tables e below (T28.setTop (mkF m 69 #[.val (.long sd), .second, .val (.int kb), .val (.int km), .val (.int m31_l4), .val (.ref b4), .val (.ref b14), .val (.int r55), .unset, .unset, .unset, .unset, .unset, .unset, .unset, .unset] [(.int m31_l4), (.int r55)])) _
      exact kt
    by_cases hc69_41 : r55 < m31_l4
    · skip
      have hnz80_42 : ¬ ((m31_l4.toInt64) = (0 : Int64)) := (own_side_0_80_ft sd kb km m31_l4 hm31_l4 hp28_hbd nn_29 r55 hr55 hq28 hc62_38 hc69_41)
      obtain ⟨v81, hv81⟩ : ∃ z_q : Int64, z_q = ((4294967296 : Int64) % (m31_l4.toInt64)) := ⟨_, rfl⟩
      obtain ⟨cq43, kq43, q43a, q43b, q43c⟩ := isOf hZ rfl F33
      obtain ⟨_, _, ⟨T43, L43, k43, n43⟩, -, X43, ⟨Lc43, hQ43, l43, y43, z43⟩, st43⟩ := X28.virtualBack hx (y := (⟨"com/example/wary_rank/waryrank/SplitMix64", "nextLong", "()J"⟩ : MethodName)) (z := (⟨"com/example/wary_rank/waryrank/SplitMix64", "nextLong", "()J"⟩ : MethodName)) hown (mvT hZ (hw _ (List.mem_of_getElem? (i := 26) rfl))) (mvT hZ (hw _ (List.mem_of_getElem? (i := 17) rfl))) (notFace_of_selects (args := #[]) (mvT hZ (hw _ (List.mem_of_getElem? (i := 19) rfl)))) (mvT hZ (hw _ (List.mem_of_getElem? (i := 19) rfl))) (mvT hZ (hw _ (List.mem_of_getElem? (i := 18) rfl))) (by decide) (backOf (W := 0) (rm4 l Z a0 hw [] b14 sd T28.heap n0 Z35 F34 F33 g_b14) hZ (hw _ (List.mem_of_getElem? (i := 20) rfl)) (hw _ (List.mem_of_getElem? (i := 2) rfl)) (by decide) (by decide)) q43a q43c (g := (mkF m 85 #[.val (.long sd), .second, .val (.int kb), .val (.int km), .val (.int m31_l4), .val (.ref b4), .val (.ref b14), .val (.int r55), .val (.long v81), .second, .unset, .unset, .unset, .unset, .unset, .unset] [(.ref b14)])) rfl (by rw [hml]; rfl) (Steps.refl _) (argsL := []) (rest := []) (lenOf pd_0 rfl) rfl (by show 2 * 0 + _ ≤ _; exact Nat.le_of_eq rfl) (hb hby at_85) (fun _ _ => ⟨rfl, rfl, (by decide : 2 + 0 ≤ _), (by decide : 2 + 0 ≤ _)⟩)
      dsimp only [Pt.U, Pt.locs, Pt.cells, Pt.slots] at X43 l43 y43 z43 st43 hQ43
      subst l43 y43 z43
      obtain ⟨rfl, N43q, K43q, F44, F45⟩ := hQ43
      have N43 := Fr.app N28 N43q
      have F46 : Exa Z T43.heap b4 "com/example/wary_rank/waryrank/SplitMix64" := F30.keep K43q
      have F47 : Exa Z T43.heap b14 "com/example/wary_rank/waryrank/SplitMix64" := F33.keep K43q
      have F48 : Fld Z T43.heap b4 "com/example/wary_rank/waryrank/SplitMix64" "state" "J" (.long (own_st sd (nn_29 + 1))) := F31.keep K43q (ninS ne_b4_b14 nin0)
      have Z49 : n0 ≤ T43.heap.size := Nat.le_trans Z35 K43q.1
      have K50 : Keep h0 T43.heap [] := K36.trans K43q (allS (Or.inr sz_b14) all0)
      obtain ⟨r85, hr85⟩ : ∃ z_q : Int64, z_q = (own_mix (sd + (-7046029254386353131 : Int64))) := ⟨_, rfl⟩
      obtain ⟨v95, hv95⟩ : ∃ z_q : Int64, z_q = (((r85.toUInt64 >>> ((32 : Int32) &&& 0x3f).toInt64.toUInt64).toInt64) * (m31_l4.toInt64)) := ⟨_, rfl⟩
      have pre51 : ∀ tq, Steps p.tables e below (T43.setTop (mkF m 106 #[.val (.long sd), .second, .val (.int kb), .val (.int km), .val (.int m31_l4), .val (.ref b4), .val (.ref b14), .val (.int r55), .val (.long v81), .second, .val (.long v95), .second, .unset, .unset, .unset, .unset] [(.int (lcmpW (v95 &&& (4294967295 : Int64)) v81))])) tq → Steps p.tables e below (s₁.setTop (entryFrame m #[(.long sd), (.int kb), (.int km)] maxLocals)) tq := by
        intro tq kt
        refine pre40 _ ?_
        show Steps p.tables e below (T28.setTop (mkF m 69 #[.val (.long sd), .second, .val (.int kb), .val (.int km), .val (.int m31_l4), .val (.ref b4), .val (.ref b14), .val (.int r55), .unset, .unset, .unset, .unset, .unset, .unset, .unset, .unset] [(.int m31_l4), (.int r55)])) _
        refine XS.icmpYes X28.here hx rfl (pc0 := 69) (pc' := 74) rfl (hb hby at_69) rfl (tlt hc69_41).1 (by decide) (by decide) ?_
        show Steps p.tables e below (T28.setTop (mkF m 74 #[.val (.long sd), .second, .val (.int kb), .val (.int km), .val (.int m31_l4), .val (.ref b4), .val (.ref b14), .val (.int r55), .unset, .unset, .unset, .unset, .unset, .unset, .unset, .unset] [])) _
        refine X28.ldc2Long hx hown (mvT hZ (hw _ (List.mem_of_getElem? (i := 25) rfl))) (g := (mkF m 74 #[.val (.long sd), .second, .val (.int kb), .val (.int km), .val (.int m31_l4), .val (.ref b4), .val (.ref b14), .val (.int r55), .unset, .unset, .unset, .unset, .unset, .unset, .unset, .unset] [])) rfl (hb hby at_74) _ ?_
        show Steps p.tables e below (T28.setTop (mkF m 77 #[.val (.long sd), .second, .val (.int kb), .val (.int km), .val (.int m31_l4), .val (.ref b4), .val (.ref b14), .val (.int r55), .unset, .unset, .unset, .unset, .unset, .unset, .unset, .unset] [(.long (4294967296 : Int64))])) _
        refine XS.iload X28.here hx rfl (hb hby at_77) rfl ?_
        show Steps p.tables e below (T28.setTop (mkF m 79 #[.val (.long sd), .second, .val (.int kb), .val (.int km), .val (.int m31_l4), .val (.ref b4), .val (.ref b14), .val (.int r55), .unset, .unset, .unset, .unset, .unset, .unset, .unset, .unset] [(.int m31_l4), (.long (4294967296 : Int64))])) _
        refine XS.i2l X28.here hx rfl (hb hby at_79) rfl ?_
        show Steps p.tables e below (T28.setTop (mkF m 80 #[.val (.long sd), .second, .val (.int kb), .val (.int km), .val (.int m31_l4), .val (.ref b4), .val (.ref b14), .val (.int r55), .unset, .unset, .unset, .unset, .unset, .unset, .unset, .unset] [(.long (m31_l4.toInt64)), (.long (4294967296 : Int64))])) _
        refine XS.lrem X28.here hx rfl (hb hby at_80) rfl hnz80_42 ?_
        rw [lrem_mod]
        show Steps p.tables e below (T28.setTop (mkF m 81 #[.val (.long sd), .second, .val (.int kb), .val (.int km), .val (.int m31_l4), .val (.ref b4), .val (.ref b14), .val (.int r55), .unset, .unset, .unset, .unset, .unset, .unset, .unset, .unset] [(.long ((4294967296 : Int64) % (m31_l4.toInt64)))])) _
        refine XS.lstore X28.here hx rfl (hb hby at_81) rfl (l' := #[.val (.long sd), .second, .val (.int kb), .val (.int km), .val (.int m31_l4), .val (.ref b4), .val (.ref b14), .val (.int r55), .val (.long v81), .second, .unset, .unset, .unset, .unset, .unset, .unset]) (by rw [hv81]; rfl) ?_
        show Steps p.tables e below (T28.setTop (mkF m 83 #[.val (.long sd), .second, .val (.int kb), .val (.int km), .val (.int m31_l4), .val (.ref b4), .val (.ref b14), .val (.int r55), .val (.long v81), .second, .unset, .unset, .unset, .unset, .unset, .unset] [])) _
        refine XS.aload X28.here hx rfl (hb hby at_83) rfl rfl ?_
        show Steps p.tables e below (T28.setTop (mkF m 85 #[.val (.long sd), .second, .val (.int kb), .val (.int km), .val (.int m31_l4), .val (.ref b4), .val (.ref b14), .val (.int r55), .val (.long v81), .second, .unset, .unset, .unset, .unset, .unset, .unset] [(.ref b14)])) _
        refine st43.trans ?_
        show Steps p.tables e below (T43.setTop (mkF m 88 #[.val (.long sd), .second, .val (.int kb), .val (.int km), .val (.int m31_l4), .val (.ref b4), .val (.ref b14), .val (.int r55), .val (.long v81), .second, .unset, .unset, .unset, .unset, .unset, .unset] [(.long (own_mix (sd + (-7046029254386353131 : Int64))))])) _
        rw [← hr85]
        show Steps p.tables e below (T43.setTop (mkF m 88 #[.val (.long sd), .second, .val (.int kb), .val (.int km), .val (.int m31_l4), .val (.ref b4), .val (.ref b14), .val (.int r55), .val (.long v81), .second, .unset, .unset, .unset, .unset, .unset, .unset] [(.long r85)])) _
        refine XS.bipush X43.here hx rfl (hb hby at_88) ?_
        show Steps p.tables e below (T43.setTop (mkF m 90 #[.val (.long sd), .second, .val (.int kb), .val (.int km), .val (.int m31_l4), .val (.ref b4), .val (.ref b14), .val (.int r55), .val (.long v81), .second, .unset, .unset, .unset, .unset, .unset, .unset] [(.int (32 : Int32)), (.long r85)])) _
        refine XS.lushr X43.here hx rfl (hb hby at_90) rfl ?_
        show Steps p.tables e below (T43.setTop (mkF m 91 #[.val (.long sd), .second, .val (.int kb), .val (.int km), .val (.int m31_l4), .val (.ref b4), .val (.ref b14), .val (.int r55), .val (.long v81), .second, .unset, .unset, .unset, .unset, .unset, .unset] [(.long ((r85.toUInt64 >>> ((32 : Int32) &&& 0x3f).toInt64.toUInt64).toInt64))])) _
        refine XS.iload X43.here hx rfl (hb hby at_91) rfl ?_
        show Steps p.tables e below (T43.setTop (mkF m 93 #[.val (.long sd), .second, .val (.int kb), .val (.int km), .val (.int m31_l4), .val (.ref b4), .val (.ref b14), .val (.int r55), .val (.long v81), .second, .unset, .unset, .unset, .unset, .unset, .unset] [(.int m31_l4), (.long ((r85.toUInt64 >>> ((32 : Int32) &&& 0x3f).toInt64.toUInt64).toInt64))])) _
        refine XS.i2l X43.here hx rfl (hb hby at_93) rfl ?_
        show Steps p.tables e below (T43.setTop (mkF m 94 #[.val (.long sd), .second, .val (.int kb), .val (.int km), .val (.int m31_l4), .val (.ref b4), .val (.ref b14), .val (.int r55), .val (.long v81), .second, .unset, .unset, .unset, .unset, .unset, .unset] [(.long (m31_l4.toInt64)), (.long ((r85.toUInt64 >>> ((32 : Int32) &&& 0x3f).toInt64.toUInt64).toInt64))])) _
        refine XS.lmul X43.here hx rfl (hb hby at_94) rfl ?_
        show Steps p.tables e below (T43.setTop (mkF m 95 #[.val (.long sd), .second, .val (.int kb), .val (.int km), .val (.int m31_l4), .val (.ref b4), .val (.ref b14), .val (.int r55), .val (.long v81), .second, .unset, .unset, .unset, .unset, .unset, .unset] [(.long (((r85.toUInt64 >>> ((32 : Int32) &&& 0x3f).toInt64.toUInt64).toInt64) * (m31_l4.toInt64)))])) _
        refine XS.lstore X43.here hx rfl (hb hby at_95) rfl (l' := #[.val (.long sd), .second, .val (.int kb), .val (.int km), .val (.int m31_l4), .val (.ref b4), .val (.ref b14), .val (.int r55), .val (.long v81), .second, .val (.long v95), .second, .unset, .unset, .unset, .unset]) (by rw [hv95]; rfl) ?_
        show Steps p.tables e below (T43.setTop (mkF m 97 #[.val (.long sd), .second, .val (.int kb), .val (.int km), .val (.int m31_l4), .val (.ref b4), .val (.ref b14), .val (.int r55), .val (.long v81), .second, .val (.long v95), .second, .unset, .unset, .unset, .unset] [])) _
        refine XS.lload X43.here hx rfl (hb hby at_97) rfl ?_
        show Steps p.tables e below (T43.setTop (mkF m 99 #[.val (.long sd), .second, .val (.int kb), .val (.int km), .val (.int m31_l4), .val (.ref b4), .val (.ref b14), .val (.int r55), .val (.long v81), .second, .val (.long v95), .second, .unset, .unset, .unset, .unset] [(.long v95)])) _
        refine X43.ldc2Long hx hown (mvT hZ (hw _ (List.mem_of_getElem? (i := 27) rfl))) (g := (mkF m 99 #[.val (.long sd), .second, .val (.int kb), .val (.int km), .val (.int m31_l4), .val (.ref b4), .val (.ref b14), .val (.int r55), .val (.long v81), .second, .val (.long v95), .second, .unset, .unset, .unset, .unset] [(.long v95)])) rfl (hb hby at_99) _ ?_
        show Steps p.tables e below (T43.setTop (mkF m 102 #[.val (.long sd), .second, .val (.int kb), .val (.int km), .val (.int m31_l4), .val (.ref b4), .val (.ref b14), .val (.int r55), .val (.long v81), .second, .val (.long v95), .second, .unset, .unset, .unset, .unset] [(.long (4294967295 : Int64)), (.long v95)])) _
        refine XS.land X43.here hx rfl (hb hby at_102) rfl ?_
        show Steps p.tables e below (T43.setTop (mkF m 103 #[.val (.long sd), .second, .val (.int kb), .val (.int km), .val (.int m31_l4), .val (.ref b4), .val (.ref b14), .val (.int r55), .val (.long v81), .second, .val (.long v95), .second, .unset, .unset, .unset, .unset] [(.long (v95 &&& (4294967295 : Int64)))])) _
        refine XS.lload X43.here hx rfl (hb hby at_103) rfl ?_
        show Steps p.tables e below (T43.setTop (mkF m 105 #[.val (.long sd), .second, .val (.int kb), .val (.int km), .val (.int m31_l4), .val (.ref b4), .val (.ref b14), .val (.int r55), .val (.long v81), .second, .val (.long v95), .second, .unset, .unset, .unset, .unset] [(.long v81), (.long (v95 &&& (4294967295 : Int64)))])) _
        refine XS.lcmp X43.here hx rfl (hb hby at_105) rfl ?_
        show Steps p.tables e below (T43.setTop (mkF m 106 #[.val (.long sd), .second, .val (.int kb), .val (.int km), .val (.int m31_l4), .val (.ref b4), .val (.ref b14), .val (.int r55), .val (.long v81), .second, .val (.long v95), .second, .unset, .unset, .unset, .unset] [(.int (lcmpW (v95 &&& (4294967295 : Int64)) v81))])) _
        exact kt
      by_cases hc106_52 : (v95 &&& (4294967295 : Int64)) < v81
      · skip
        obtain ⟨cq53, kq53, q53a, q53b, q53c⟩ := isOf hZ rfl F44
        obtain ⟨_, _, ⟨T53, L53, k53, n53⟩, -, X53, ⟨Lc53, hQ53, l53, y53, z53⟩, st53⟩ := X43.virtualBack hx (y := (⟨"com/example/wary_rank/waryrank/SplitMix64", "nextLong", "()J"⟩ : MethodName)) (z := (⟨"com/example/wary_rank/waryrank/SplitMix64", "nextLong", "()J"⟩ : MethodName)) hown (mvT hZ (hw _ (List.mem_of_getElem? (i := 26) rfl))) (mvT hZ (hw _ (List.mem_of_getElem? (i := 17) rfl))) (notFace_of_selects (args := #[]) (mvT hZ (hw _ (List.mem_of_getElem? (i := 19) rfl)))) (mvT hZ (hw _ (List.mem_of_getElem? (i := 19) rfl))) (mvT hZ (hw _ (List.mem_of_getElem? (i := 18) rfl))) (by decide) (backOf (W := 0) (rm4 l Z a0 hw [] b14 (sd + (-7046029254386353131 : Int64)) T43.heap n0 Z49 F45 F44 g_b14) hZ (hw _ (List.mem_of_getElem? (i := 20) rfl)) (hw _ (List.mem_of_getElem? (i := 2) rfl)) (by decide) (by decide)) q53a q53c (g := (mkF m 142 #[.val (.long sd), .second, .val (.int kb), .val (.int km), .val (.int m31_l4), .val (.ref b4), .val (.ref b14), .val (.int r55), .val (.long v81), .second, .val (.long v95), .second, .unset, .unset, .unset, .unset] [(.ref b14)])) rfl (by rw [hml]; rfl) (Steps.refl _) (argsL := []) (rest := []) (lenOf pd_0 rfl) rfl (by show 2 * 0 + _ ≤ _; exact Nat.le_of_eq rfl) (hb hby at_142) (fun _ _ => ⟨rfl, rfl, (by decide : 2 + 0 ≤ _), (by decide : 2 + 0 ≤ _)⟩)
        dsimp only [Pt.U, Pt.locs, Pt.cells, Pt.slots] at X53 l53 y53 z53 st53 hQ53
        subst l53 y53 z53
        obtain ⟨rfl, N53q, K53q, F54, F55⟩ := hQ53
        have N53 := Fr.app N43 N53q
        have F56 : Exa Z T53.heap b4 "com/example/wary_rank/waryrank/SplitMix64" := F46.keep K53q
        have F57 : Exa Z T53.heap b14 "com/example/wary_rank/waryrank/SplitMix64" := F44.keep K53q
        have F58 : Fld Z T53.heap b4 "com/example/wary_rank/waryrank/SplitMix64" "state" "J" (.long (own_st sd (nn_29 + 1))) := F48.keep K53q (ninS ne_b4_b14 nin0)
        have Z59 : n0 ≤ T53.heap.size := Nat.le_trans Z49 K53q.1
        have K60 : Keep h0 T53.heap [] := K50.trans K53q (allS (Or.inr sz_b14) all0)
        obtain ⟨r142, hr142⟩ : ∃ z_q : Int64, z_q = (own_mix ((sd + (-7046029254386353131 : Int64)) + (-7046029254386353131 : Int64))) := ⟨_, rfl⟩
        obtain ⟨v152, hv152⟩ : ∃ z_q : Int64, z_q = (((r142.toUInt64 >>> ((32 : Int32) &&& 0x3f).toInt64.toUInt64).toInt64) * (m31_l4.toInt64)) := ⟨_, rfl⟩
        have pre61 : ∀ tq, Steps p.tables e below (T53.setTop (mkF m 163 #[.val (.long sd), .second, .val (.int kb), .val (.int km), .val (.int m31_l4), .val (.ref b4), .val (.ref b14), .val (.int r55), .val (.long v81), .second, .val (.long v95), .second, .val (.long v152), .second, .unset, .unset] [(.int (lcmpW (v152 &&& (4294967295 : Int64)) v81))])) tq → Steps p.tables e below (s₁.setTop (entryFrame m #[(.long sd), (.int kb), (.int km)] maxLocals)) tq := by
          intro tq kt
          refine pre51 _ ?_
          show Steps p.tables e below (T43.setTop (mkF m 106 #[.val (.long sd), .second, .val (.int kb), .val (.int km), .val (.int m31_l4), .val (.ref b4), .val (.ref b14), .val (.int r55), .val (.long v81), .second, .val (.long v95), .second, .unset, .unset, .unset, .unset] [(.int (lcmpW (v95 &&& (4294967295 : Int64)) v81))])) _
          refine XS.ifYes X43.here hx rfl (pc0 := 106) (pc' := 140) rfl (hb hby at_106) rfl ((if0 _ _).trans (tlt ((lw_lt (v95 &&& (4294967295 : Int64)) v81).2 hc106_52)).1) (by decide) (by decide) ?_
          show Steps p.tables e below (T43.setTop (mkF m 140 #[.val (.long sd), .second, .val (.int kb), .val (.int km), .val (.int m31_l4), .val (.ref b4), .val (.ref b14), .val (.int r55), .val (.long v81), .second, .val (.long v95), .second, .unset, .unset, .unset, .unset] [])) _
          refine XS.aload X43.here hx rfl (hb hby at_140) rfl rfl ?_
          show Steps p.tables e below (T43.setTop (mkF m 142 #[.val (.long sd), .second, .val (.int kb), .val (.int km), .val (.int m31_l4), .val (.ref b4), .val (.ref b14), .val (.int r55), .val (.long v81), .second, .val (.long v95), .second, .unset, .unset, .unset, .unset] [(.ref b14)])) _
          refine st53.trans ?_
          show Steps p.tables e below (T53.setTop (mkF m 145 #[.val (.long sd), .second, .val (.int kb), .val (.int km), .val (.int m31_l4), .val (.ref b4), .val (.ref b14), .val (.int r55), .val (.long v81), .second, .val (.long v95), .second, .unset, .unset, .unset, .unset] [(.long (own_mix ((sd + (-7046029254386353131 : Int64)) + (-7046029254386353131 : Int64))))])) _
          rw [← hr142]
          show Steps p.tables e below (T53.setTop (mkF m 145 #[.val (.long sd), .second, .val (.int kb), .val (.int km), .val (.int m31_l4), .val (.ref b4), .val (.ref b14), .val (.int r55), .val (.long v81), .second, .val (.long v95), .second, .unset, .unset, .unset, .unset] [(.long r142)])) _
          refine XS.bipush X53.here hx rfl (hb hby at_145) ?_
          show Steps p.tables e below (T53.setTop (mkF m 147 #[.val (.long sd), .second, .val (.int kb), .val (.int km), .val (.int m31_l4), .val (.ref b4), .val (.ref b14), .val (.int r55), .val (.long v81), .second, .val (.long v95), .second, .unset, .unset, .unset, .unset] [(.int (32 : Int32)), (.long r142)])) _
          refine XS.lushr X53.here hx rfl (hb hby at_147) rfl ?_
          show Steps p.tables e below (T53.setTop (mkF m 148 #[.val (.long sd), .second, .val (.int kb), .val (.int km), .val (.int m31_l4), .val (.ref b4), .val (.ref b14), .val (.int r55), .val (.long v81), .second, .val (.long v95), .second, .unset, .unset, .unset, .unset] [(.long ((r142.toUInt64 >>> ((32 : Int32) &&& 0x3f).toInt64.toUInt64).toInt64))])) _
          refine XS.iload X53.here hx rfl (hb hby at_148) rfl ?_
          show Steps p.tables e below (T53.setTop (mkF m 150 #[.val (.long sd), .second, .val (.int kb), .val (.int km), .val (.int m31_l4), .val (.ref b4), .val (.ref b14), .val (.int r55), .val (.long v81), .second, .val (.long v95), .second, .unset, .unset, .unset, .unset] [(.int m31_l4), (.long ((r142.toUInt64 >>> ((32 : Int32) &&& 0x3f).toInt64.toUInt64).toInt64))])) _
          refine XS.i2l X53.here hx rfl (hb hby at_150) rfl ?_
          show Steps p.tables e below (T53.setTop (mkF m 151 #[.val (.long sd), .second, .val (.int kb), .val (.int km), .val (.int m31_l4), .val (.ref b4), .val (.ref b14), .val (.int r55), .val (.long v81), .second, .val (.long v95), .second, .unset, .unset, .unset, .unset] [(.long (m31_l4.toInt64)), (.long ((r142.toUInt64 >>> ((32 : Int32) &&& 0x3f).toInt64.toUInt64).toInt64))])) _
          refine XS.lmul X53.here hx rfl (hb hby at_151) rfl ?_
          show Steps p.tables e below (T53.setTop (mkF m 152 #[.val (.long sd), .second, .val (.int kb), .val (.int km), .val (.int m31_l4), .val (.ref b4), .val (.ref b14), .val (.int r55), .val (.long v81), .second, .val (.long v95), .second, .unset, .unset, .unset, .unset] [(.long (((r142.toUInt64 >>> ((32 : Int32) &&& 0x3f).toInt64.toUInt64).toInt64) * (m31_l4.toInt64)))])) _
          refine XS.lstore X53.here hx rfl (hb hby at_152) rfl (l' := #[.val (.long sd), .second, .val (.int kb), .val (.int km), .val (.int m31_l4), .val (.ref b4), .val (.ref b14), .val (.int r55), .val (.long v81), .second, .val (.long v95), .second, .val (.long v152), .second, .unset, .unset]) (by rw [hv152]; rfl) ?_
          show Steps p.tables e below (T53.setTop (mkF m 154 #[.val (.long sd), .second, .val (.int kb), .val (.int km), .val (.int m31_l4), .val (.ref b4), .val (.ref b14), .val (.int r55), .val (.long v81), .second, .val (.long v95), .second, .val (.long v152), .second, .unset, .unset] [])) _
          refine XS.lload X53.here hx rfl (hb hby at_154) rfl ?_
          show Steps p.tables e below (T53.setTop (mkF m 156 #[.val (.long sd), .second, .val (.int kb), .val (.int km), .val (.int m31_l4), .val (.ref b4), .val (.ref b14), .val (.int r55), .val (.long v81), .second, .val (.long v95), .second, .val (.long v152), .second, .unset, .unset] [(.long v152)])) _
          refine X53.ldc2Long hx hown (mvT hZ (hw _ (List.mem_of_getElem? (i := 27) rfl))) (g := (mkF m 156 #[.val (.long sd), .second, .val (.int kb), .val (.int km), .val (.int m31_l4), .val (.ref b4), .val (.ref b14), .val (.int r55), .val (.long v81), .second, .val (.long v95), .second, .val (.long v152), .second, .unset, .unset] [(.long v152)])) rfl (hb hby at_156) _ ?_
          show Steps p.tables e below (T53.setTop (mkF m 159 #[.val (.long sd), .second, .val (.int kb), .val (.int km), .val (.int m31_l4), .val (.ref b4), .val (.ref b14), .val (.int r55), .val (.long v81), .second, .val (.long v95), .second, .val (.long v152), .second, .unset, .unset] [(.long (4294967295 : Int64)), (.long v152)])) _
          refine XS.land X53.here hx rfl (hb hby at_159) rfl ?_
          show Steps p.tables e below (T53.setTop (mkF m 160 #[.val (.long sd), .second, .val (.int kb), .val (.int km), .val (.int m31_l4), .val (.ref b4), .val (.ref b14), .val (.int r55), .val (.long v81), .second, .val (.long v95), .second, .val (.long v152), .second, .unset, .unset] [(.long (v152 &&& (4294967295 : Int64)))])) _
          refine XS.lload X53.here hx rfl (hb hby at_160) rfl ?_
          show Steps p.tables e below (T53.setTop (mkF m 162 #[.val (.long sd), .second, .val (.int kb), .val (.int km), .val (.int m31_l4), .val (.ref b4), .val (.ref b14), .val (.int r55), .val (.long v81), .second, .val (.long v95), .second, .val (.long v152), .second, .unset, .unset] [(.long v81), (.long (v152 &&& (4294967295 : Int64)))])) _
          refine XS.lcmp X53.here hx rfl (hb hby at_162) rfl ?_
          show Steps p.tables e below (T53.setTop (mkF m 163 #[.val (.long sd), .second, .val (.int kb), .val (.int km), .val (.int m31_l4), .val (.ref b4), .val (.ref b14), .val (.int r55), .val (.long v81), .second, .val (.long v95), .second, .val (.long v152), .second, .unset, .unset] [(.int (lcmpW (v152 &&& (4294967295 : Int64)) v81))])) _
          exact kt
        by_cases hc163_62 : (v152 &&& (4294967295 : Int64)) < v81
        · skip
          obtain ⟨cq63, kq63, q63a, q63b, q63c⟩ := isOf hZ rfl F54
          obtain ⟨_, _, ⟨T63, L63, k63, n63⟩, -, X63, ⟨Lc63, hQ63, l63, y63, z63⟩, st63⟩ := X53.virtualBack hx (y := (⟨"com/example/wary_rank/waryrank/SplitMix64", "nextLong", "()J"⟩ : MethodName)) (z := (⟨"com/example/wary_rank/waryrank/SplitMix64", "nextLong", "()J"⟩ : MethodName)) hown (mvT hZ (hw _ (List.mem_of_getElem? (i := 26) rfl))) (mvT hZ (hw _ (List.mem_of_getElem? (i := 17) rfl))) (notFace_of_selects (args := #[]) (mvT hZ (hw _ (List.mem_of_getElem? (i := 19) rfl)))) (mvT hZ (hw _ (List.mem_of_getElem? (i := 19) rfl))) (mvT hZ (hw _ (List.mem_of_getElem? (i := 18) rfl))) (by decide) (backOf (W := 0) (rm4 l Z a0 hw [] b14 ((sd + (-7046029254386353131 : Int64)) + (-7046029254386353131 : Int64)) T53.heap n0 Z59 F55 F54 g_b14) hZ (hw _ (List.mem_of_getElem? (i := 20) rfl)) (hw _ (List.mem_of_getElem? (i := 2) rfl)) (by decide) (by decide)) q63a q63c (g := (mkF m 199 #[.val (.long sd), .second, .val (.int kb), .val (.int km), .val (.int m31_l4), .val (.ref b4), .val (.ref b14), .val (.int r55), .val (.long v81), .second, .val (.long v95), .second, .val (.long v152), .second, .unset, .unset] [(.ref b14)])) rfl (by rw [hml]; rfl) (Steps.refl _) (argsL := []) (rest := []) (lenOf pd_0 rfl) rfl (by show 2 * 0 + _ ≤ _; exact Nat.le_of_eq rfl) (hb hby at_199) (fun _ _ => ⟨rfl, rfl, (by decide : 2 + 0 ≤ _), (by decide : 2 + 0 ≤ _)⟩)
          dsimp only [Pt.U, Pt.locs, Pt.cells, Pt.slots] at X63 l63 y63 z63 st63 hQ63
          subst l63 y63 z63
          obtain ⟨rfl, N63q, K63q, F64, F65⟩ := hQ63
          have N63 := Fr.app N53 N63q
          have F66 : Exa Z T63.heap b4 "com/example/wary_rank/waryrank/SplitMix64" := F56.keep K63q
          have F67 : Exa Z T63.heap b14 "com/example/wary_rank/waryrank/SplitMix64" := F54.keep K63q
          have F68 : Fld Z T63.heap b4 "com/example/wary_rank/waryrank/SplitMix64" "state" "J" (.long (own_st sd (nn_29 + 1))) := F58.keep K63q (ninS ne_b4_b14 nin0)
          have Z69 : n0 ≤ T63.heap.size := Nat.le_trans Z59 K63q.1
          have K70 : Keep h0 T63.heap [] := K60.trans K63q (allS (Or.inr sz_b14) all0)
          obtain ⟨r199, hr199⟩ : ∃ z_q : Int64, z_q = (own_mix (((sd + (-7046029254386353131 : Int64)) + (-7046029254386353131 : Int64)) + (-7046029254386353131 : Int64))) := ⟨_, rfl⟩
          obtain ⟨v209, hv209⟩ : ∃ z_q : Int64, z_q = (((r199.toUInt64 >>> ((32 : Int32) &&& 0x3f).toInt64.toUInt64).toInt64) * (m31_l4.toInt64)) := ⟨_, rfl⟩
          have pre71 : ∀ tq, Steps p.tables e below (T63.setTop (mkF m 220 #[.val (.long sd), .second, .val (.int kb), .val (.int km), .val (.int m31_l4), .val (.ref b4), .val (.ref b14), .val (.int r55), .val (.long v81), .second, .val (.long v95), .second, .val (.long v152), .second, .val (.long v209), .second] [(.int (lcmpW (v209 &&& (4294967295 : Int64)) v81))])) tq → Steps p.tables e below (s₁.setTop (entryFrame m #[(.long sd), (.int kb), (.int km)] maxLocals)) tq := by
            intro tq kt
            refine pre61 _ ?_
            show Steps p.tables e below (T53.setTop (mkF m 163 #[.val (.long sd), .second, .val (.int kb), .val (.int km), .val (.int m31_l4), .val (.ref b4), .val (.ref b14), .val (.int r55), .val (.long v81), .second, .val (.long v95), .second, .val (.long v152), .second, .unset, .unset] [(.int (lcmpW (v152 &&& (4294967295 : Int64)) v81))])) _
            refine XS.ifYes X53.here hx rfl (pc0 := 163) (pc' := 197) rfl (hb hby at_163) rfl ((if0 _ _).trans (tlt ((lw_lt (v152 &&& (4294967295 : Int64)) v81).2 hc163_62)).1) (by decide) (by decide) ?_
            show Steps p.tables e below (T53.setTop (mkF m 197 #[.val (.long sd), .second, .val (.int kb), .val (.int km), .val (.int m31_l4), .val (.ref b4), .val (.ref b14), .val (.int r55), .val (.long v81), .second, .val (.long v95), .second, .val (.long v152), .second, .unset, .unset] [])) _
            refine XS.aload X53.here hx rfl (hb hby at_197) rfl rfl ?_
            show Steps p.tables e below (T53.setTop (mkF m 199 #[.val (.long sd), .second, .val (.int kb), .val (.int km), .val (.int m31_l4), .val (.ref b4), .val (.ref b14), .val (.int r55), .val (.long v81), .second, .val (.long v95), .second, .val (.long v152), .second, .unset, .unset] [(.ref b14)])) _
            refine st63.trans ?_
            show Steps p.tables e below (T63.setTop (mkF m 202 #[.val (.long sd), .second, .val (.int kb), .val (.int km), .val (.int m31_l4), .val (.ref b4), .val (.ref b14), .val (.int r55), .val (.long v81), .second, .val (.long v95), .second, .val (.long v152), .second, .unset, .unset] [(.long (own_mix (((sd + (-7046029254386353131 : Int64)) + (-7046029254386353131 : Int64)) + (-7046029254386353131 : Int64))))])) _
            rw [← hr199]
            show Steps p.tables e below (T63.setTop (mkF m 202 #[.val (.long sd), .second, .val (.int kb), .val (.int km), .val (.int m31_l4), .val (.ref b4), .val (.ref b14), .val (.int r55), .val (.long v81), .second, .val (.long v95), .second, .val (.long v152), .second, .unset, .unset] [(.long r199)])) _
            refine XS.bipush X63.here hx rfl (hb hby at_202) ?_
            show Steps p.tables e below (T63.setTop (mkF m 204 #[.val (.long sd), .second, .val (.int kb), .val (.int km), .val (.int m31_l4), .val (.ref b4), .val (.ref b14), .val (.int r55), .val (.long v81), .second, .val (.long v95), .second, .val (.long v152), .second, .unset, .unset] [(.int (32 : Int32)), (.long r199)])) _
            refine XS.lushr X63.here hx rfl (hb hby at_204) rfl ?_
            show Steps p.tables e below (T63.setTop (mkF m 205 #[.val (.long sd), .second, .val (.int kb), .val (.int km), .val (.int m31_l4), .val (.ref b4), .val (.ref b14), .val (.int r55), .val (.long v81), .second, .val (.long v95), .second, .val (.long v152), .second, .unset, .unset] [(.long ((r199.toUInt64 >>> ((32 : Int32) &&& 0x3f).toInt64.toUInt64).toInt64))])) _
            refine XS.iload X63.here hx rfl (hb hby at_205) rfl ?_
            show Steps p.tables e below (T63.setTop (mkF m 207 #[.val (.long sd), .second, .val (.int kb), .val (.int km), .val (.int m31_l4), .val (.ref b4), .val (.ref b14), .val (.int r55), .val (.long v81), .second, .val (.long v95), .second, .val (.long v152), .second, .unset, .unset] [(.int m31_l4), (.long ((r199.toUInt64 >>> ((32 : Int32) &&& 0x3f).toInt64.toUInt64).toInt64))])) _
            refine XS.i2l X63.here hx rfl (hb hby at_207) rfl ?_
            show Steps p.tables e below (T63.setTop (mkF m 208 #[.val (.long sd), .second, .val (.int kb), .val (.int km), .val (.int m31_l4), .val (.ref b4), .val (.ref b14), .val (.int r55), .val (.long v81), .second, .val (.long v95), .second, .val (.long v152), .second, .unset, .unset] [(.long (m31_l4.toInt64)), (.long ((r199.toUInt64 >>> ((32 : Int32) &&& 0x3f).toInt64.toUInt64).toInt64))])) _
            refine XS.lmul X63.here hx rfl (hb hby at_208) rfl ?_
            show Steps p.tables e below (T63.setTop (mkF m 209 #[.val (.long sd), .second, .val (.int kb), .val (.int km), .val (.int m31_l4), .val (.ref b4), .val (.ref b14), .val (.int r55), .val (.long v81), .second, .val (.long v95), .second, .val (.long v152), .second, .unset, .unset] [(.long (((r199.toUInt64 >>> ((32 : Int32) &&& 0x3f).toInt64.toUInt64).toInt64) * (m31_l4.toInt64)))])) _
            refine XS.lstore X63.here hx rfl (hb hby at_209) rfl (l' := #[.val (.long sd), .second, .val (.int kb), .val (.int km), .val (.int m31_l4), .val (.ref b4), .val (.ref b14), .val (.int r55), .val (.long v81), .second, .val (.long v95), .second, .val (.long v152), .second, .val (.long v209), .second]) (by rw [hv209]; rfl) ?_
            show Steps p.tables e below (T63.setTop (mkF m 211 #[.val (.long sd), .second, .val (.int kb), .val (.int km), .val (.int m31_l4), .val (.ref b4), .val (.ref b14), .val (.int r55), .val (.long v81), .second, .val (.long v95), .second, .val (.long v152), .second, .val (.long v209), .second] [])) _
            refine XS.lload X63.here hx rfl (hb hby at_211) rfl ?_
            show Steps p.tables e below (T63.setTop (mkF m 213 #[.val (.long sd), .second, .val (.int kb), .val (.int km), .val (.int m31_l4), .val (.ref b4), .val (.ref b14), .val (.int r55), .val (.long v81), .second, .val (.long v95), .second, .val (.long v152), .second, .val (.long v209), .second] [(.long v209)])) _
            refine X63.ldc2Long hx hown (mvT hZ (hw _ (List.mem_of_getElem? (i := 27) rfl))) (g := (mkF m 213 #[.val (.long sd), .second, .val (.int kb), .val (.int km), .val (.int m31_l4), .val (.ref b4), .val (.ref b14), .val (.int r55), .val (.long v81), .second, .val (.long v95), .second, .val (.long v152), .second, .val (.long v209), .second] [(.long v209)])) rfl (hb hby at_213) _ ?_
            show Steps p.tables e below (T63.setTop (mkF m 216 #[.val (.long sd), .second, .val (.int kb), .val (.int km), .val (.int m31_l4), .val (.ref b4), .val (.ref b14), .val (.int r55), .val (.long v81), .second, .val (.long v95), .second, .val (.long v152), .second, .val (.long v209), .second] [(.long (4294967295 : Int64)), (.long v209)])) _
            refine XS.land X63.here hx rfl (hb hby at_216) rfl ?_
            show Steps p.tables e below (T63.setTop (mkF m 217 #[.val (.long sd), .second, .val (.int kb), .val (.int km), .val (.int m31_l4), .val (.ref b4), .val (.ref b14), .val (.int r55), .val (.long v81), .second, .val (.long v95), .second, .val (.long v152), .second, .val (.long v209), .second] [(.long (v209 &&& (4294967295 : Int64)))])) _
            refine XS.lload X63.here hx rfl (hb hby at_217) rfl ?_
            show Steps p.tables e below (T63.setTop (mkF m 219 #[.val (.long sd), .second, .val (.int kb), .val (.int km), .val (.int m31_l4), .val (.ref b4), .val (.ref b14), .val (.int r55), .val (.long v81), .second, .val (.long v95), .second, .val (.long v152), .second, .val (.long v209), .second] [(.long v81), (.long (v209 &&& (4294967295 : Int64)))])) _
            refine XS.lcmp X63.here hx rfl (hb hby at_219) rfl ?_
            show Steps p.tables e below (T63.setTop (mkF m 220 #[.val (.long sd), .second, .val (.int kb), .val (.int km), .val (.int m31_l4), .val (.ref b4), .val (.ref b14), .val (.int r55), .val (.long v81), .second, .val (.long v95), .second, .val (.long v152), .second, .val (.long v209), .second] [(.int (lcmpW (v209 &&& (4294967295 : Int64)) v81))])) _
            exact kt
          by_cases hc220_72 : (v209 &&& (4294967295 : Int64)) < v81
          · skip
            obtain ⟨fs, hr, hrun, hended, hW, hsame⟩ := X63.leave (v := some (Value.int (1 : Int32))) (fun h => by rw [Bd.returns] at h; cases h)
            refine ⟨_, _, pre71 _ ?_, hrun, hended, _, _, rfl, ?_, ⟨_, rfl⟩, hW, hsame.mono (by decide) (by decide)⟩
            · skip
              show Steps p.tables e below (T63.setTop (mkF m 220 #[.val (.long sd), .second, .val (.int kb), .val (.int km), .val (.int m31_l4), .val (.ref b4), .val (.ref b14), .val (.int r55), .val (.long v81), .second, .val (.long v95), .second, .val (.long v152), .second, .val (.long v209), .second] [(.int (lcmpW (v209 &&& (4294967295 : Int64)) v81))])) _
              refine XS.ifYes X63.here hx rfl (pc0 := 220) (pc' := 254) rfl (hb hby at_220) rfl ((if0 _ _).trans (tlt ((lw_lt (v209 &&& (4294967295 : Int64)) v81).2 hc220_72)).1) (by decide) (by decide) ?_
              show Steps p.tables e below (T63.setTop (mkF m 254 #[.val (.long sd), .second, .val (.int kb), .val (.int km), .val (.int m31_l4), .val (.ref b4), .val (.ref b14), .val (.int r55), .val (.long v81), .second, .val (.long v95), .second, .val (.long v152), .second, .val (.long v209), .second] [])) _
              refine XS.iconst X63.here hx rfl (hb hby at_254) ?_
              show Steps p.tables e below (T63.setTop (mkF m 255 #[.val (.long sd), .second, .val (.int kb), .val (.int km), .val (.int m31_l4), .val (.ref b4), .val (.ref b14), .val (.int r55), .val (.long v81), .second, .val (.long v95), .second, .val (.long v152), .second, .val (.long v209), .second] [(.int (1 : Int32))])) _
              exact retN X63 hx (t := .boolean) Bd.returns (by simp) (hb hby at_255) hr
            · show Q0 Z sd kb km h0 n0 _ T63.heap _
              exact ⟨rfl, N63⟩
          · skip
            have pre73 : ∀ tq, Steps p.tables e below (T63.setTop (mkF m 231 #[.val (.long sd), .second, .val (.int kb), .val (.int km), .val (.int m31_l4), .val (.ref b4), .val (.ref b14), .val (.int r55), .val (.long v81), .second, .val (.long v95), .second, .val (.long v152), .second, .val (.long v209), .second] [(.int (((v209.toUInt64 >>> ((32 : Int32) &&& 0x3f).toInt64.toUInt64).toInt64).toInt32)), (.int r55)])) tq → Steps p.tables e below (s₁.setTop (entryFrame m #[(.long sd), (.int kb), (.int km)] maxLocals)) tq := by
              intro tq kt
              refine pre71 _ ?_
              show Steps p.tables e below (T63.setTop (mkF m 220 #[.val (.long sd), .second, .val (.int kb), .val (.int km), .val (.int m31_l4), .val (.ref b4), .val (.ref b14), .val (.int r55), .val (.long v81), .second, .val (.long v95), .second, .val (.long v152), .second, .val (.long v209), .second] [(.int (lcmpW (v209 &&& (4294967295 : Int64)) v81))])) _
              refine XS.ifNo X63.here hx rfl (hb hby at_220) rfl ((if0 _ _).trans (flt (mt (lw_lt (v209 &&& (4294967295 : Int64)) v81).1 hc220_72)).1) ?_
              show Steps p.tables e below (T63.setTop (mkF m 223 #[.val (.long sd), .second, .val (.int kb), .val (.int km), .val (.int m31_l4), .val (.ref b4), .val (.ref b14), .val (.int r55), .val (.long v81), .second, .val (.long v95), .second, .val (.long v152), .second, .val (.long v209), .second] [])) _
              refine XS.iload X63.here hx rfl (hb hby at_223) rfl ?_
              show Steps p.tables e below (T63.setTop (mkF m 225 #[.val (.long sd), .second, .val (.int kb), .val (.int km), .val (.int m31_l4), .val (.ref b4), .val (.ref b14), .val (.int r55), .val (.long v81), .second, .val (.long v95), .second, .val (.long v152), .second, .val (.long v209), .second] [(.int r55)])) _
              refine XS.lload X63.here hx rfl (hb hby at_225) rfl ?_
              show Steps p.tables e below (T63.setTop (mkF m 227 #[.val (.long sd), .second, .val (.int kb), .val (.int km), .val (.int m31_l4), .val (.ref b4), .val (.ref b14), .val (.int r55), .val (.long v81), .second, .val (.long v95), .second, .val (.long v152), .second, .val (.long v209), .second] [(.long v209), (.int r55)])) _
              refine XS.bipush X63.here hx rfl (hb hby at_227) ?_
              show Steps p.tables e below (T63.setTop (mkF m 229 #[.val (.long sd), .second, .val (.int kb), .val (.int km), .val (.int m31_l4), .val (.ref b4), .val (.ref b14), .val (.int r55), .val (.long v81), .second, .val (.long v95), .second, .val (.long v152), .second, .val (.long v209), .second] [(.int (32 : Int32)), (.long v209), (.int r55)])) _
              refine XS.lushr X63.here hx rfl (hb hby at_229) rfl ?_
              show Steps p.tables e below (T63.setTop (mkF m 230 #[.val (.long sd), .second, .val (.int kb), .val (.int km), .val (.int m31_l4), .val (.ref b4), .val (.ref b14), .val (.int r55), .val (.long v81), .second, .val (.long v95), .second, .val (.long v152), .second, .val (.long v209), .second] [(.long ((v209.toUInt64 >>> ((32 : Int32) &&& 0x3f).toInt64.toUInt64).toInt64)), (.int r55)])) _
              refine XS.l2i X63.here hx rfl (hb hby at_230) rfl ?_
              show Steps p.tables e below (T63.setTop (mkF m 231 #[.val (.long sd), .second, .val (.int kb), .val (.int km), .val (.int m31_l4), .val (.ref b4), .val (.ref b14), .val (.int r55), .val (.long v81), .second, .val (.long v95), .second, .val (.long v152), .second, .val (.long v209), .second] [(.int (((v209.toUInt64 >>> ((32 : Int32) &&& 0x3f).toInt64.toUInt64).toInt64).toInt32)), (.int r55)])) _
              exact kt
            by_cases hc231_74 : r55 = (((v209.toUInt64 >>> ((32 : Int32) &&& 0x3f).toInt64.toUInt64).toInt64).toInt32)
            · skip
              obtain ⟨cq75, kq75, q75a, q75b, q75c⟩ := isOf hZ rfl F66
              obtain ⟨_, _, ⟨T75, L75, k75, n75⟩, -, X75, ⟨Lc75, hQ75, l75, y75, z75⟩, st75⟩ := X63.virtualBack hx (y := (⟨"com/example/wary_rank/waryrank/SplitMix64", "nextLong", "()J"⟩ : MethodName)) (z := (⟨"com/example/wary_rank/waryrank/SplitMix64", "nextLong", "()J"⟩ : MethodName)) hown (mvT hZ (hw _ (List.mem_of_getElem? (i := 26) rfl))) (mvT hZ (hw _ (List.mem_of_getElem? (i := 17) rfl))) (notFace_of_selects (args := #[]) (mvT hZ (hw _ (List.mem_of_getElem? (i := 19) rfl)))) (mvT hZ (hw _ (List.mem_of_getElem? (i := 19) rfl))) (mvT hZ (hw _ (List.mem_of_getElem? (i := 18) rfl))) (by decide) (backOf (W := 0) (rm4 l Z a0 hw [] b4 (own_st sd (nn_29 + 1)) T63.heap n0 Z69 F68 F66 g_b4) hZ (hw _ (List.mem_of_getElem? (i := 20) rfl)) (hw _ (List.mem_of_getElem? (i := 2) rfl)) (by decide) (by decide)) q75a q75c (g := (mkF m 236 #[.val (.long sd), .second, .val (.int kb), .val (.int km), .val (.int m31_l4), .val (.ref b4), .val (.ref b14), .val (.int r55), .val (.long v81), .second, .val (.long v95), .second, .val (.long v152), .second, .val (.long v209), .second] [(.ref b4)])) rfl (by rw [hml]; rfl) (Steps.refl _) (argsL := []) (rest := []) (lenOf pd_0 rfl) rfl (by show 2 * 0 + _ ≤ _; exact Nat.le_of_eq rfl) (hb hby at_236) (fun _ _ => ⟨rfl, rfl, (by decide : 2 + 0 ≤ _), (by decide : 2 + 0 ≤ _)⟩)
              dsimp only [Pt.U, Pt.locs, Pt.cells, Pt.slots] at X75 l75 y75 z75 st75 hQ75
              subst l75 y75 z75
              obtain ⟨rfl, N75q, K75q, F76, F77⟩ := hQ75
              have N75 := Fr.app N63 N75q
              have F78 : Exa Z T75.heap b4 "com/example/wary_rank/waryrank/SplitMix64" := F66.keep K75q
              have F79 : Exa Z T75.heap b14 "com/example/wary_rank/waryrank/SplitMix64" := F64.keep K75q
              have F80 : Fld Z T75.heap b14 "com/example/wary_rank/waryrank/SplitMix64" "state" "J" (.long (((sd + (-7046029254386353131 : Int64)) + (-7046029254386353131 : Int64)) + (-7046029254386353131 : Int64))) := F65.keep K75q (ninS (Ne.symm ne_b4_b14) nin0)
              have Z81 : n0 ≤ T75.heap.size := Nat.le_trans Z69 K75q.1
              have K82 : Keep h0 T75.heap [] := K70.trans K75q (allS (Or.inr sz_b4) all0)
              obtain ⟨r236, hr236⟩ : ∃ z_q : Int64, z_q = (own_mix ((own_st sd (nn_29 + 1)) + (-7046029254386353131 : Int64))) := ⟨_, rfl⟩
              obtain ⟨cq83, kq83, q83a, q83b, q83c⟩ := isOf hZ rfl F79
              obtain ⟨_, _, ⟨T83, L83, k83, n83⟩, -, X83, ⟨Lc83, hQ83, l83, y83, z83⟩, st83⟩ := X75.virtualBack hx (y := (⟨"com/example/wary_rank/waryrank/SplitMix64", "nextLong", "()J"⟩ : MethodName)) (z := (⟨"com/example/wary_rank/waryrank/SplitMix64", "nextLong", "()J"⟩ : MethodName)) hown (mvT hZ (hw _ (List.mem_of_getElem? (i := 26) rfl))) (mvT hZ (hw _ (List.mem_of_getElem? (i := 17) rfl))) (notFace_of_selects (args := #[]) (mvT hZ (hw _ (List.mem_of_getElem? (i := 19) rfl)))) (mvT hZ (hw _ (List.mem_of_getElem? (i := 19) rfl))) (mvT hZ (hw _ (List.mem_of_getElem? (i := 18) rfl))) (by decide) (backOf (W := 2) (rm4 l Z a0 hw [] b14 (((sd + (-7046029254386353131 : Int64)) + (-7046029254386353131 : Int64)) + (-7046029254386353131 : Int64)) T75.heap n0 Z81 F80 F79 g_b14) hZ (hw _ (List.mem_of_getElem? (i := 20) rfl)) (hw _ (List.mem_of_getElem? (i := 2) rfl)) (by decide) (by decide)) q83a q83c (g := (mkF m 241 #[.val (.long sd), .second, .val (.int kb), .val (.int km), .val (.int m31_l4), .val (.ref b4), .val (.ref b14), .val (.int r55), .val (.long v81), .second, .val (.long v95), .second, .val (.long v152), .second, .val (.long v209), .second] [(.ref b14), (.long r236)])) rfl (by rw [hml]; rfl) (Steps.refl _) (argsL := []) (rest := [(.long r236)]) (lenOf pd_0 rfl) rfl (by show 2 * 0 + _ ≤ _; exact Nat.le_of_eq rfl) (hb hby at_241) (fun _ _ => ⟨rfl, rfl, (by decide : 2 + 0 ≤ _), (by decide : 2 + 0 ≤ _)⟩)
              dsimp only [Pt.U, Pt.locs, Pt.cells, Pt.slots] at X83 l83 y83 z83 st83 hQ83
              subst l83 y83 z83
              obtain ⟨rfl, N83q, K83q, F84, F85⟩ := hQ83
              have N83 := Fr.app N75 N83q
              have F86 : Exa Z T83.heap b4 "com/example/wary_rank/waryrank/SplitMix64" := F76.keep K83q
              have F87 : Exa Z T83.heap b14 "com/example/wary_rank/waryrank/SplitMix64" := F79.keep K83q
              have F88 : Fld Z T83.heap b4 "com/example/wary_rank/waryrank/SplitMix64" "state" "J" (.long ((own_st sd (nn_29 + 1)) + (-7046029254386353131 : Int64))) := F77.keep K83q (ninS ne_b4_b14 nin0)
              have Z89 : n0 ≤ T83.heap.size := Nat.le_trans Z81 K83q.1
              have K90 : Keep h0 T83.heap [] := K82.trans K83q (allS (Or.inr sz_b14) all0)
              obtain ⟨r241, hr241⟩ : ∃ z_q : Int64, z_q = (own_mix ((((sd + (-7046029254386353131 : Int64)) + (-7046029254386353131 : Int64)) + (-7046029254386353131 : Int64)) + (-7046029254386353131 : Int64))) := ⟨_, rfl⟩
              obtain ⟨m253, hm253⟩ : ∃ z_q : Int32, z_q = (if r236 = r241 then (1 : Int32) else (0 : Int32)) := ⟨_, rfl⟩
              have pre92 : ∀ tq, Steps p.tables e below (T83.setTop (mkF m 253 #[.val (.long sd), .second, .val (.int kb), .val (.int km), .val (.int m31_l4), .val (.ref b4), .val (.ref b14), .val (.int r55), .val (.long v81), .second, .val (.long v95), .second, .val (.long v152), .second, .val (.long v209), .second] [(.int m253)])) tq → Steps p.tables e below (s₁.setTop (entryFrame m #[(.long sd), (.int kb), (.int km)] maxLocals)) tq := by
                intro tq kt
                refine pre73 _ ?_
                show Steps p.tables e below (T63.setTop (mkF m 231 #[.val (.long sd), .second, .val (.int kb), .val (.int km), .val (.int m31_l4), .val (.ref b4), .val (.ref b14), .val (.int r55), .val (.long v81), .second, .val (.long v95), .second, .val (.long v152), .second, .val (.long v209), .second] [(.int (((v209.toUInt64 >>> ((32 : Int32) &&& 0x3f).toInt64.toUInt64).toInt64).toInt32)), (.int r55)])) _
                refine XS.icmpNo X63.here hx rfl (hb hby at_231) rfl (teq hc231_74).2 ?_
                show Steps p.tables e below (T63.setTop (mkF m 234 #[.val (.long sd), .second, .val (.int kb), .val (.int km), .val (.int m31_l4), .val (.ref b4), .val (.ref b14), .val (.int r55), .val (.long v81), .second, .val (.long v95), .second, .val (.long v152), .second, .val (.long v209), .second] [])) _
                refine XS.aload X63.here hx rfl (hb hby at_234) rfl rfl ?_
                show Steps p.tables e below (T63.setTop (mkF m 236 #[.val (.long sd), .second, .val (.int kb), .val (.int km), .val (.int m31_l4), .val (.ref b4), .val (.ref b14), .val (.int r55), .val (.long v81), .second, .val (.long v95), .second, .val (.long v152), .second, .val (.long v209), .second] [(.ref b4)])) _
                refine st75.trans ?_
                show Steps p.tables e below (T75.setTop (mkF m 239 #[.val (.long sd), .second, .val (.int kb), .val (.int km), .val (.int m31_l4), .val (.ref b4), .val (.ref b14), .val (.int r55), .val (.long v81), .second, .val (.long v95), .second, .val (.long v152), .second, .val (.long v209), .second] [(.long (own_mix ((own_st sd (nn_29 + 1)) + (-7046029254386353131 : Int64))))])) _
                rw [← hr236]
                show Steps p.tables e below (T75.setTop (mkF m 239 #[.val (.long sd), .second, .val (.int kb), .val (.int km), .val (.int m31_l4), .val (.ref b4), .val (.ref b14), .val (.int r55), .val (.long v81), .second, .val (.long v95), .second, .val (.long v152), .second, .val (.long v209), .second] [(.long r236)])) _
                refine XS.aload X75.here hx rfl (hb hby at_239) rfl rfl ?_
                show Steps p.tables e below (T75.setTop (mkF m 241 #[.val (.long sd), .second, .val (.int kb), .val (.int km), .val (.int m31_l4), .val (.ref b4), .val (.ref b14), .val (.int r55), .val (.long v81), .second, .val (.long v95), .second, .val (.long v152), .second, .val (.long v209), .second] [(.ref b14), (.long r236)])) _
                refine st83.trans ?_
                show Steps p.tables e below (T83.setTop (mkF m 244 #[.val (.long sd), .second, .val (.int kb), .val (.int km), .val (.int m31_l4), .val (.ref b4), .val (.ref b14), .val (.int r55), .val (.long v81), .second, .val (.long v95), .second, .val (.long v152), .second, .val (.long v209), .second] [(.long (own_mix ((((sd + (-7046029254386353131 : Int64)) + (-7046029254386353131 : Int64)) + (-7046029254386353131 : Int64)) + (-7046029254386353131 : Int64)))), (.long r236)])) _
                rw [← hr241]
                show Steps p.tables e below (T83.setTop (mkF m 244 #[.val (.long sd), .second, .val (.int kb), .val (.int km), .val (.int m31_l4), .val (.ref b4), .val (.ref b14), .val (.int r55), .val (.long v81), .second, .val (.long v95), .second, .val (.long v152), .second, .val (.long v209), .second] [(.long r241), (.long r236)])) _
                refine XS.lcmp X83.here hx rfl (hb hby at_244) rfl ?_
                by_cases d91 : r236 = r241
                · skip
                  show Steps p.tables e below (T83.setTop (mkF m 245 #[.val (.long sd), .second, .val (.int kb), .val (.int km), .val (.int m31_l4), .val (.ref b4), .val (.ref b14), .val (.int r55), .val (.long v81), .second, .val (.long v95), .second, .val (.long v152), .second, .val (.long v209), .second] [(.int (lcmpW r236 r241))])) _
                  refine XS.ifNo X83.here hx rfl (hb hby at_245) rfl ((if0 _ _).trans (teq ((lw_eq r236 r241).2 d91)).2) ?_
                  show Steps p.tables e below (T83.setTop (mkF m 248 #[.val (.long sd), .second, .val (.int kb), .val (.int km), .val (.int m31_l4), .val (.ref b4), .val (.ref b14), .val (.int r55), .val (.long v81), .second, .val (.long v95), .second, .val (.long v152), .second, .val (.long v209), .second] [])) _
                  refine XS.iconst X83.here hx rfl (hb hby at_248) ?_
                  show Steps p.tables e below (T83.setTop (mkF m 249 #[.val (.long sd), .second, .val (.int kb), .val (.int km), .val (.int m31_l4), .val (.ref b4), .val (.ref b14), .val (.int r55), .val (.long v81), .second, .val (.long v95), .second, .val (.long v152), .second, .val (.long v209), .second] [(.int (1 : Int32))])) _
                  refine XS.goto X83.here hx rfl (pc0 := 249) (pc' := 253) rfl (hb hby at_249) (by decide) (by decide) ?_
                  show Steps p.tables e below (T83.setTop (mkF m 253 #[.val (.long sd), .second, .val (.int kb), .val (.int km), .val (.int m31_l4), .val (.ref b4), .val (.ref b14), .val (.int r55), .val (.long v81), .second, .val (.long v95), .second, .val (.long v152), .second, .val (.long v209), .second] [(.int (1 : Int32))])) _
                  exact castTop (by simp only [hm253, if_pos d91]) kt
                · skip
                  show Steps p.tables e below (T83.setTop (mkF m 245 #[.val (.long sd), .second, .val (.int kb), .val (.int km), .val (.int m31_l4), .val (.ref b4), .val (.ref b14), .val (.int r55), .val (.long v81), .second, .val (.long v95), .second, .val (.long v152), .second, .val (.long v209), .second] [(.int (lcmpW r236 r241))])) _
                  refine XS.ifYes X83.here hx rfl (pc0 := 245) (pc' := 252) rfl (hb hby at_245) rfl ((if0 _ _).trans (feq (mt (lw_eq r236 r241).1 d91)).2) (by decide) (by decide) ?_
                  show Steps p.tables e below (T83.setTop (mkF m 252 #[.val (.long sd), .second, .val (.int kb), .val (.int km), .val (.int m31_l4), .val (.ref b4), .val (.ref b14), .val (.int r55), .val (.long v81), .second, .val (.long v95), .second, .val (.long v152), .second, .val (.long v209), .second] [])) _
                  refine XS.iconst X83.here hx rfl (hb hby at_252) ?_
                  show Steps p.tables e below (T83.setTop (mkF m 253 #[.val (.long sd), .second, .val (.int kb), .val (.int km), .val (.int m31_l4), .val (.ref b4), .val (.ref b14), .val (.int r55), .val (.long v81), .second, .val (.long v95), .second, .val (.long v152), .second, .val (.long v209), .second] [(.int (0 : Int32))])) _
                  exact castTop (by simp only [hm253, if_neg d91]) kt
              obtain ⟨fs, hr, hrun, hended, hW, hsame⟩ := X83.leave (v := some (Value.int (nar .boolean m253))) (fun h => by rw [Bd.returns] at h; cases h)
              have hres93 : (nar .boolean m253) = (1 : Int32) := (own_leaf_0_253_ftttff sd kb km m31_l4 hm31_l4 hp28_hbd nn_29 r55 hr55 hq28 hc62_38 hc69_41 v81 hv81 r85 hr85 v95 hv95 hc106_52 r142 hr142 v152 hv152 hc163_62 r199 hr199 v209 hv209 hc220_72 hc231_74 r236 hr236 r241 hr241 m253 hm253)
              refine ⟨_, _, pre92 _ ?_, hrun, hended, _, _, rfl, ?_, ⟨_, rfl⟩, hW, hsame.mono (by decide) (by decide)⟩
              · skip
                show Steps p.tables e below (T83.setTop (mkF m 253 #[.val (.long sd), .second, .val (.int kb), .val (.int km), .val (.int m31_l4), .val (.ref b4), .val (.ref b14), .val (.int r55), .val (.long v81), .second, .val (.long v95), .second, .val (.long v152), .second, .val (.long v209), .second] [(.int m253)])) _
                exact retN X83 hx (t := .boolean) Bd.returns (by simp) (hb hby at_253) hr
              · show Q0 Z sd kb km h0 n0 _ T83.heap _
                exact ⟨congrArg (fun z => some (Value.int z)) hres93, N83⟩
            · skip
              obtain ⟨fs, hr, hrun, hended, hW, hsame⟩ := X63.leave (v := some (Value.int (0 : Int32))) (fun h => by rw [Bd.returns] at h; cases h)
              have hres94 : (0 : Int32) = (1 : Int32) := (own_leaf_0_253_ftttft sd kb km m31_l4 hm31_l4 hp28_hbd nn_29 r55 hr55 hq28 hc62_38 hc69_41 v81 hv81 r85 hr85 v95 hv95 hc106_52 r142 hr142 v152 hv152 hc163_62 r199 hr199 v209 hv209 hc220_72 hc231_74)
              refine ⟨_, _, pre73 _ ?_, hrun, hended, _, _, rfl, ?_, ⟨_, rfl⟩, hW, hsame.mono (by decide) (by decide)⟩
              · skip
                show Steps p.tables e below (T63.setTop (mkF m 231 #[.val (.long sd), .second, .val (.int kb), .val (.int km), .val (.int m31_l4), .val (.ref b4), .val (.ref b14), .val (.int r55), .val (.long v81), .second, .val (.long v95), .second, .val (.long v152), .second, .val (.long v209), .second] [(.int (((v209.toUInt64 >>> ((32 : Int32) &&& 0x3f).toInt64.toUInt64).toInt64).toInt32)), (.int r55)])) _
                refine XS.icmpYes X63.here hx rfl (pc0 := 231) (pc' := 252) rfl (hb hby at_231) rfl (feq hc231_74).2 (by decide) (by decide) ?_
                show Steps p.tables e below (T63.setTop (mkF m 252 #[.val (.long sd), .second, .val (.int kb), .val (.int km), .val (.int m31_l4), .val (.ref b4), .val (.ref b14), .val (.int r55), .val (.long v81), .second, .val (.long v95), .second, .val (.long v152), .second, .val (.long v209), .second] [])) _
                refine XS.iconst X63.here hx rfl (hb hby at_252) ?_
                show Steps p.tables e below (T63.setTop (mkF m 253 #[.val (.long sd), .second, .val (.int kb), .val (.int km), .val (.int m31_l4), .val (.ref b4), .val (.ref b14), .val (.int r55), .val (.long v81), .second, .val (.long v95), .second, .val (.long v152), .second, .val (.long v209), .second] [(.int (0 : Int32))])) _
                exact retN X63 hx (t := .boolean) Bd.returns (by simp) (hb hby at_253) hr
              · show Q0 Z sd kb km h0 n0 _ T63.heap _
                exact ⟨congrArg (fun z => some (Value.int z)) hres94, N63⟩
        · skip
          have pre95 : ∀ tq, Steps p.tables e below (T53.setTop (mkF m 174 #[.val (.long sd), .second, .val (.int kb), .val (.int km), .val (.int m31_l4), .val (.ref b4), .val (.ref b14), .val (.int r55), .val (.long v81), .second, .val (.long v95), .second, .val (.long v152), .second, .unset, .unset] [(.int (((v152.toUInt64 >>> ((32 : Int32) &&& 0x3f).toInt64.toUInt64).toInt64).toInt32)), (.int r55)])) tq → Steps p.tables e below (s₁.setTop (entryFrame m #[(.long sd), (.int kb), (.int km)] maxLocals)) tq := by
            intro tq kt
            refine pre61 _ ?_
            show Steps p.tables e below (T53.setTop (mkF m 163 #[.val (.long sd), .second, .val (.int kb), .val (.int km), .val (.int m31_l4), .val (.ref b4), .val (.ref b14), .val (.int r55), .val (.long v81), .second, .val (.long v95), .second, .val (.long v152), .second, .unset, .unset] [(.int (lcmpW (v152 &&& (4294967295 : Int64)) v81))])) _
            refine XS.ifNo X53.here hx rfl (hb hby at_163) rfl ((if0 _ _).trans (flt (mt (lw_lt (v152 &&& (4294967295 : Int64)) v81).1 hc163_62)).1) ?_
            show Steps p.tables e below (T53.setTop (mkF m 166 #[.val (.long sd), .second, .val (.int kb), .val (.int km), .val (.int m31_l4), .val (.ref b4), .val (.ref b14), .val (.int r55), .val (.long v81), .second, .val (.long v95), .second, .val (.long v152), .second, .unset, .unset] [])) _
            refine XS.iload X53.here hx rfl (hb hby at_166) rfl ?_
            show Steps p.tables e below (T53.setTop (mkF m 168 #[.val (.long sd), .second, .val (.int kb), .val (.int km), .val (.int m31_l4), .val (.ref b4), .val (.ref b14), .val (.int r55), .val (.long v81), .second, .val (.long v95), .second, .val (.long v152), .second, .unset, .unset] [(.int r55)])) _
            refine XS.lload X53.here hx rfl (hb hby at_168) rfl ?_
            show Steps p.tables e below (T53.setTop (mkF m 170 #[.val (.long sd), .second, .val (.int kb), .val (.int km), .val (.int m31_l4), .val (.ref b4), .val (.ref b14), .val (.int r55), .val (.long v81), .second, .val (.long v95), .second, .val (.long v152), .second, .unset, .unset] [(.long v152), (.int r55)])) _
            refine XS.bipush X53.here hx rfl (hb hby at_170) ?_
            show Steps p.tables e below (T53.setTop (mkF m 172 #[.val (.long sd), .second, .val (.int kb), .val (.int km), .val (.int m31_l4), .val (.ref b4), .val (.ref b14), .val (.int r55), .val (.long v81), .second, .val (.long v95), .second, .val (.long v152), .second, .unset, .unset] [(.int (32 : Int32)), (.long v152), (.int r55)])) _
            refine XS.lushr X53.here hx rfl (hb hby at_172) rfl ?_
            show Steps p.tables e below (T53.setTop (mkF m 173 #[.val (.long sd), .second, .val (.int kb), .val (.int km), .val (.int m31_l4), .val (.ref b4), .val (.ref b14), .val (.int r55), .val (.long v81), .second, .val (.long v95), .second, .val (.long v152), .second, .unset, .unset] [(.long ((v152.toUInt64 >>> ((32 : Int32) &&& 0x3f).toInt64.toUInt64).toInt64)), (.int r55)])) _
            refine XS.l2i X53.here hx rfl (hb hby at_173) rfl ?_
            show Steps p.tables e below (T53.setTop (mkF m 174 #[.val (.long sd), .second, .val (.int kb), .val (.int km), .val (.int m31_l4), .val (.ref b4), .val (.ref b14), .val (.int r55), .val (.long v81), .second, .val (.long v95), .second, .val (.long v152), .second, .unset, .unset] [(.int (((v152.toUInt64 >>> ((32 : Int32) &&& 0x3f).toInt64.toUInt64).toInt64).toInt32)), (.int r55)])) _
            exact kt
          by_cases hc174_96 : r55 = (((v152.toUInt64 >>> ((32 : Int32) &&& 0x3f).toInt64.toUInt64).toInt64).toInt32)
          · skip
            obtain ⟨cq97, kq97, q97a, q97b, q97c⟩ := isOf hZ rfl F56
            obtain ⟨_, _, ⟨T97, L97, k97, n97⟩, -, X97, ⟨Lc97, hQ97, l97, y97, z97⟩, st97⟩ := X53.virtualBack hx (y := (⟨"com/example/wary_rank/waryrank/SplitMix64", "nextLong", "()J"⟩ : MethodName)) (z := (⟨"com/example/wary_rank/waryrank/SplitMix64", "nextLong", "()J"⟩ : MethodName)) hown (mvT hZ (hw _ (List.mem_of_getElem? (i := 26) rfl))) (mvT hZ (hw _ (List.mem_of_getElem? (i := 17) rfl))) (notFace_of_selects (args := #[]) (mvT hZ (hw _ (List.mem_of_getElem? (i := 19) rfl)))) (mvT hZ (hw _ (List.mem_of_getElem? (i := 19) rfl))) (mvT hZ (hw _ (List.mem_of_getElem? (i := 18) rfl))) (by decide) (backOf (W := 0) (rm4 l Z a0 hw [] b4 (own_st sd (nn_29 + 1)) T53.heap n0 Z59 F58 F56 g_b4) hZ (hw _ (List.mem_of_getElem? (i := 20) rfl)) (hw _ (List.mem_of_getElem? (i := 2) rfl)) (by decide) (by decide)) q97a q97c (g := (mkF m 179 #[.val (.long sd), .second, .val (.int kb), .val (.int km), .val (.int m31_l4), .val (.ref b4), .val (.ref b14), .val (.int r55), .val (.long v81), .second, .val (.long v95), .second, .val (.long v152), .second, .unset, .unset] [(.ref b4)])) rfl (by rw [hml]; rfl) (Steps.refl _) (argsL := []) (rest := []) (lenOf pd_0 rfl) rfl (by show 2 * 0 + _ ≤ _; exact Nat.le_of_eq rfl) (hb hby at_179) (fun _ _ => ⟨rfl, rfl, (by decide : 2 + 0 ≤ _), (by decide : 2 + 0 ≤ _)⟩)
            dsimp only [Pt.U, Pt.locs, Pt.cells, Pt.slots] at X97 l97 y97 z97 st97 hQ97
            subst l97 y97 z97
            obtain ⟨rfl, N97q, K97q, F98, F99⟩ := hQ97
            have N97 := Fr.app N53 N97q
            have F100 : Exa Z T97.heap b4 "com/example/wary_rank/waryrank/SplitMix64" := F56.keep K97q
            have F101 : Exa Z T97.heap b14 "com/example/wary_rank/waryrank/SplitMix64" := F54.keep K97q
            have F102 : Fld Z T97.heap b14 "com/example/wary_rank/waryrank/SplitMix64" "state" "J" (.long ((sd + (-7046029254386353131 : Int64)) + (-7046029254386353131 : Int64))) := F55.keep K97q (ninS (Ne.symm ne_b4_b14) nin0)
            have Z103 : n0 ≤ T97.heap.size := Nat.le_trans Z59 K97q.1
            have K104 : Keep h0 T97.heap [] := K60.trans K97q (allS (Or.inr sz_b4) all0)
            obtain ⟨r179, hr179⟩ : ∃ z_q : Int64, z_q = (own_mix ((own_st sd (nn_29 + 1)) + (-7046029254386353131 : Int64))) := ⟨_, rfl⟩
            obtain ⟨cq105, kq105, q105a, q105b, q105c⟩ := isOf hZ rfl F101
            obtain ⟨_, _, ⟨T105, L105, k105, n105⟩, -, X105, ⟨Lc105, hQ105, l105, y105, z105⟩, st105⟩ := X97.virtualBack hx (y := (⟨"com/example/wary_rank/waryrank/SplitMix64", "nextLong", "()J"⟩ : MethodName)) (z := (⟨"com/example/wary_rank/waryrank/SplitMix64", "nextLong", "()J"⟩ : MethodName)) hown (mvT hZ (hw _ (List.mem_of_getElem? (i := 26) rfl))) (mvT hZ (hw _ (List.mem_of_getElem? (i := 17) rfl))) (notFace_of_selects (args := #[]) (mvT hZ (hw _ (List.mem_of_getElem? (i := 19) rfl)))) (mvT hZ (hw _ (List.mem_of_getElem? (i := 19) rfl))) (mvT hZ (hw _ (List.mem_of_getElem? (i := 18) rfl))) (by decide) (backOf (W := 2) (rm4 l Z a0 hw [] b14 ((sd + (-7046029254386353131 : Int64)) + (-7046029254386353131 : Int64)) T97.heap n0 Z103 F102 F101 g_b14) hZ (hw _ (List.mem_of_getElem? (i := 20) rfl)) (hw _ (List.mem_of_getElem? (i := 2) rfl)) (by decide) (by decide)) q105a q105c (g := (mkF m 184 #[.val (.long sd), .second, .val (.int kb), .val (.int km), .val (.int m31_l4), .val (.ref b4), .val (.ref b14), .val (.int r55), .val (.long v81), .second, .val (.long v95), .second, .val (.long v152), .second, .unset, .unset] [(.ref b14), (.long r179)])) rfl (by rw [hml]; rfl) (Steps.refl _) (argsL := []) (rest := [(.long r179)]) (lenOf pd_0 rfl) rfl (by show 2 * 0 + _ ≤ _; exact Nat.le_of_eq rfl) (hb hby at_184) (fun _ _ => ⟨rfl, rfl, (by decide : 2 + 0 ≤ _), (by decide : 2 + 0 ≤ _)⟩)
            dsimp only [Pt.U, Pt.locs, Pt.cells, Pt.slots] at X105 l105 y105 z105 st105 hQ105
            subst l105 y105 z105
            obtain ⟨rfl, N105q, K105q, F106, F107⟩ := hQ105
            have N105 := Fr.app N97 N105q
            have F108 : Exa Z T105.heap b4 "com/example/wary_rank/waryrank/SplitMix64" := F98.keep K105q
            have F109 : Exa Z T105.heap b14 "com/example/wary_rank/waryrank/SplitMix64" := F101.keep K105q
            have F110 : Fld Z T105.heap b4 "com/example/wary_rank/waryrank/SplitMix64" "state" "J" (.long ((own_st sd (nn_29 + 1)) + (-7046029254386353131 : Int64))) := F99.keep K105q (ninS ne_b4_b14 nin0)
            have Z111 : n0 ≤ T105.heap.size := Nat.le_trans Z103 K105q.1
            have K112 : Keep h0 T105.heap [] := K104.trans K105q (allS (Or.inr sz_b14) all0)
            obtain ⟨r184, hr184⟩ : ∃ z_q : Int64, z_q = (own_mix (((sd + (-7046029254386353131 : Int64)) + (-7046029254386353131 : Int64)) + (-7046029254386353131 : Int64))) := ⟨_, rfl⟩
            obtain ⟨m196, hm196⟩ : ∃ z_q : Int32, z_q = (if r179 = r184 then (1 : Int32) else (0 : Int32)) := ⟨_, rfl⟩
            have pre114 : ∀ tq, Steps p.tables e below (T105.setTop (mkF m 196 #[.val (.long sd), .second, .val (.int kb), .val (.int km), .val (.int m31_l4), .val (.ref b4), .val (.ref b14), .val (.int r55), .val (.long v81), .second, .val (.long v95), .second, .val (.long v152), .second, .unset, .unset] [(.int m196)])) tq → Steps p.tables e below (s₁.setTop (entryFrame m #[(.long sd), (.int kb), (.int km)] maxLocals)) tq := by
              intro tq kt
              refine pre95 _ ?_
              show Steps p.tables e below (T53.setTop (mkF m 174 #[.val (.long sd), .second, .val (.int kb), .val (.int km), .val (.int m31_l4), .val (.ref b4), .val (.ref b14), .val (.int r55), .val (.long v81), .second, .val (.long v95), .second, .val (.long v152), .second, .unset, .unset] [(.int (((v152.toUInt64 >>> ((32 : Int32) &&& 0x3f).toInt64.toUInt64).toInt64).toInt32)), (.int r55)])) _
              refine XS.icmpNo X53.here hx rfl (hb hby at_174) rfl (teq hc174_96).2 ?_
              show Steps p.tables e below (T53.setTop (mkF m 177 #[.val (.long sd), .second, .val (.int kb), .val (.int km), .val (.int m31_l4), .val (.ref b4), .val (.ref b14), .val (.int r55), .val (.long v81), .second, .val (.long v95), .second, .val (.long v152), .second, .unset, .unset] [])) _
              refine XS.aload X53.here hx rfl (hb hby at_177) rfl rfl ?_
              show Steps p.tables e below (T53.setTop (mkF m 179 #[.val (.long sd), .second, .val (.int kb), .val (.int km), .val (.int m31_l4), .val (.ref b4), .val (.ref b14), .val (.int r55), .val (.long v81), .second, .val (.long v95), .second, .val (.long v152), .second, .unset, .unset] [(.ref b4)])) _
              refine st97.trans ?_
              show Steps p.tables e below (T97.setTop (mkF m 182 #[.val (.long sd), .second, .val (.int kb), .val (.int km), .val (.int m31_l4), .val (.ref b4), .val (.ref b14), .val (.int r55), .val (.long v81), .second, .val (.long v95), .second, .val (.long v152), .second, .unset, .unset] [(.long (own_mix ((own_st sd (nn_29 + 1)) + (-7046029254386353131 : Int64))))])) _
              rw [← hr179]
              show Steps p.tables e below (T97.setTop (mkF m 182 #[.val (.long sd), .second, .val (.int kb), .val (.int km), .val (.int m31_l4), .val (.ref b4), .val (.ref b14), .val (.int r55), .val (.long v81), .second, .val (.long v95), .second, .val (.long v152), .second, .unset, .unset] [(.long r179)])) _
              refine XS.aload X97.here hx rfl (hb hby at_182) rfl rfl ?_
              show Steps p.tables e below (T97.setTop (mkF m 184 #[.val (.long sd), .second, .val (.int kb), .val (.int km), .val (.int m31_l4), .val (.ref b4), .val (.ref b14), .val (.int r55), .val (.long v81), .second, .val (.long v95), .second, .val (.long v152), .second, .unset, .unset] [(.ref b14), (.long r179)])) _
              refine st105.trans ?_
              show Steps p.tables e below (T105.setTop (mkF m 187 #[.val (.long sd), .second, .val (.int kb), .val (.int km), .val (.int m31_l4), .val (.ref b4), .val (.ref b14), .val (.int r55), .val (.long v81), .second, .val (.long v95), .second, .val (.long v152), .second, .unset, .unset] [(.long (own_mix (((sd + (-7046029254386353131 : Int64)) + (-7046029254386353131 : Int64)) + (-7046029254386353131 : Int64)))), (.long r179)])) _
              rw [← hr184]
              show Steps p.tables e below (T105.setTop (mkF m 187 #[.val (.long sd), .second, .val (.int kb), .val (.int km), .val (.int m31_l4), .val (.ref b4), .val (.ref b14), .val (.int r55), .val (.long v81), .second, .val (.long v95), .second, .val (.long v152), .second, .unset, .unset] [(.long r184), (.long r179)])) _
              refine XS.lcmp X105.here hx rfl (hb hby at_187) rfl ?_
              by_cases d113 : r179 = r184
              · skip
                show Steps p.tables e below (T105.setTop (mkF m 188 #[.val (.long sd), .second, .val (.int kb), .val (.int km), .val (.int m31_l4), .val (.ref b4), .val (.ref b14), .val (.int r55), .val (.long v81), .second, .val (.long v95), .second, .val (.long v152), .second, .unset, .unset] [(.int (lcmpW r179 r184))])) _
                refine XS.ifNo X105.here hx rfl (hb hby at_188) rfl ((if0 _ _).trans (teq ((lw_eq r179 r184).2 d113)).2) ?_
                show Steps p.tables e below (T105.setTop (mkF m 191 #[.val (.long sd), .second, .val (.int kb), .val (.int km), .val (.int m31_l4), .val (.ref b4), .val (.ref b14), .val (.int r55), .val (.long v81), .second, .val (.long v95), .second, .val (.long v152), .second, .unset, .unset] [])) _
                refine XS.iconst X105.here hx rfl (hb hby at_191) ?_
                show Steps p.tables e below (T105.setTop (mkF m 192 #[.val (.long sd), .second, .val (.int kb), .val (.int km), .val (.int m31_l4), .val (.ref b4), .val (.ref b14), .val (.int r55), .val (.long v81), .second, .val (.long v95), .second, .val (.long v152), .second, .unset, .unset] [(.int (1 : Int32))])) _
                refine XS.goto X105.here hx rfl (pc0 := 192) (pc' := 196) rfl (hb hby at_192) (by decide) (by decide) ?_
                show Steps p.tables e below (T105.setTop (mkF m 196 #[.val (.long sd), .second, .val (.int kb), .val (.int km), .val (.int m31_l4), .val (.ref b4), .val (.ref b14), .val (.int r55), .val (.long v81), .second, .val (.long v95), .second, .val (.long v152), .second, .unset, .unset] [(.int (1 : Int32))])) _
                exact castTop (by simp only [hm196, if_pos d113]) kt
              · skip
                show Steps p.tables e below (T105.setTop (mkF m 188 #[.val (.long sd), .second, .val (.int kb), .val (.int km), .val (.int m31_l4), .val (.ref b4), .val (.ref b14), .val (.int r55), .val (.long v81), .second, .val (.long v95), .second, .val (.long v152), .second, .unset, .unset] [(.int (lcmpW r179 r184))])) _
                refine XS.ifYes X105.here hx rfl (pc0 := 188) (pc' := 195) rfl (hb hby at_188) rfl ((if0 _ _).trans (feq (mt (lw_eq r179 r184).1 d113)).2) (by decide) (by decide) ?_
                show Steps p.tables e below (T105.setTop (mkF m 195 #[.val (.long sd), .second, .val (.int kb), .val (.int km), .val (.int m31_l4), .val (.ref b4), .val (.ref b14), .val (.int r55), .val (.long v81), .second, .val (.long v95), .second, .val (.long v152), .second, .unset, .unset] [])) _
                refine XS.iconst X105.here hx rfl (hb hby at_195) ?_
                show Steps p.tables e below (T105.setTop (mkF m 196 #[.val (.long sd), .second, .val (.int kb), .val (.int km), .val (.int m31_l4), .val (.ref b4), .val (.ref b14), .val (.int r55), .val (.long v81), .second, .val (.long v95), .second, .val (.long v152), .second, .unset, .unset] [(.int (0 : Int32))])) _
                exact castTop (by simp only [hm196, if_neg d113]) kt
            obtain ⟨fs, hr, hrun, hended, hW, hsame⟩ := X105.leave (v := some (Value.int (nar .boolean m196))) (fun h => by rw [Bd.returns] at h; cases h)
            have hres115 : (nar .boolean m196) = (1 : Int32) := (own_leaf_0_196_fttff sd kb km m31_l4 hm31_l4 hp28_hbd nn_29 r55 hr55 hq28 hc62_38 hc69_41 v81 hv81 r85 hr85 v95 hv95 hc106_52 r142 hr142 v152 hv152 hc163_62 hc174_96 r179 hr179 r184 hr184 m196 hm196)
            refine ⟨_, _, pre114 _ ?_, hrun, hended, _, _, rfl, ?_, ⟨_, rfl⟩, hW, hsame.mono (by decide) (by decide)⟩
            · skip
              show Steps p.tables e below (T105.setTop (mkF m 196 #[.val (.long sd), .second, .val (.int kb), .val (.int km), .val (.int m31_l4), .val (.ref b4), .val (.ref b14), .val (.int r55), .val (.long v81), .second, .val (.long v95), .second, .val (.long v152), .second, .unset, .unset] [(.int m196)])) _
              exact retN X105 hx (t := .boolean) Bd.returns (by simp) (hb hby at_196) hr
            · show Q0 Z sd kb km h0 n0 _ T105.heap _
              exact ⟨congrArg (fun z => some (Value.int z)) hres115, N105⟩
          · skip
            obtain ⟨fs, hr, hrun, hended, hW, hsame⟩ := X53.leave (v := some (Value.int (0 : Int32))) (fun h => by rw [Bd.returns] at h; cases h)
            have hres116 : (0 : Int32) = (1 : Int32) := (own_leaf_0_196_fttft sd kb km m31_l4 hm31_l4 hp28_hbd nn_29 r55 hr55 hq28 hc62_38 hc69_41 v81 hv81 r85 hr85 v95 hv95 hc106_52 r142 hr142 v152 hv152 hc163_62 hc174_96)
            refine ⟨_, _, pre95 _ ?_, hrun, hended, _, _, rfl, ?_, ⟨_, rfl⟩, hW, hsame.mono (by decide) (by decide)⟩
            · skip
              show Steps p.tables e below (T53.setTop (mkF m 174 #[.val (.long sd), .second, .val (.int kb), .val (.int km), .val (.int m31_l4), .val (.ref b4), .val (.ref b14), .val (.int r55), .val (.long v81), .second, .val (.long v95), .second, .val (.long v152), .second, .unset, .unset] [(.int (((v152.toUInt64 >>> ((32 : Int32) &&& 0x3f).toInt64.toUInt64).toInt64).toInt32)), (.int r55)])) _
              refine XS.icmpYes X53.here hx rfl (pc0 := 174) (pc' := 195) rfl (hb hby at_174) rfl (feq hc174_96).2 (by decide) (by decide) ?_
              show Steps p.tables e below (T53.setTop (mkF m 195 #[.val (.long sd), .second, .val (.int kb), .val (.int km), .val (.int m31_l4), .val (.ref b4), .val (.ref b14), .val (.int r55), .val (.long v81), .second, .val (.long v95), .second, .val (.long v152), .second, .unset, .unset] [])) _
              refine XS.iconst X53.here hx rfl (hb hby at_195) ?_
              show Steps p.tables e below (T53.setTop (mkF m 196 #[.val (.long sd), .second, .val (.int kb), .val (.int km), .val (.int m31_l4), .val (.ref b4), .val (.ref b14), .val (.int r55), .val (.long v81), .second, .val (.long v95), .second, .val (.long v152), .second, .unset, .unset] [(.int (0 : Int32))])) _
              exact retN X53 hx (t := .boolean) Bd.returns (by simp) (hb hby at_196) hr
            · show Q0 Z sd kb km h0 n0 _ T53.heap _
              exact ⟨congrArg (fun z => some (Value.int z)) hres116, N53⟩
      · skip
        have pre117 : ∀ tq, Steps p.tables e below (T43.setTop (mkF m 117 #[.val (.long sd), .second, .val (.int kb), .val (.int km), .val (.int m31_l4), .val (.ref b4), .val (.ref b14), .val (.int r55), .val (.long v81), .second, .val (.long v95), .second, .unset, .unset, .unset, .unset] [(.int (((v95.toUInt64 >>> ((32 : Int32) &&& 0x3f).toInt64.toUInt64).toInt64).toInt32)), (.int r55)])) tq → Steps p.tables e below (s₁.setTop (entryFrame m #[(.long sd), (.int kb), (.int km)] maxLocals)) tq := by
          intro tq kt
          refine pre51 _ ?_
          show Steps p.tables e below (T43.setTop (mkF m 106 #[.val (.long sd), .second, .val (.int kb), .val (.int km), .val (.int m31_l4), .val (.ref b4), .val (.ref b14), .val (.int r55), .val (.long v81), .second, .val (.long v95), .second, .unset, .unset, .unset, .unset] [(.int (lcmpW (v95 &&& (4294967295 : Int64)) v81))])) _
          refine XS.ifNo X43.here hx rfl (hb hby at_106) rfl ((if0 _ _).trans (flt (mt (lw_lt (v95 &&& (4294967295 : Int64)) v81).1 hc106_52)).1) ?_
          show Steps p.tables e below (T43.setTop (mkF m 109 #[.val (.long sd), .second, .val (.int kb), .val (.int km), .val (.int m31_l4), .val (.ref b4), .val (.ref b14), .val (.int r55), .val (.long v81), .second, .val (.long v95), .second, .unset, .unset, .unset, .unset] [])) _
          refine XS.iload X43.here hx rfl (hb hby at_109) rfl ?_
          show Steps p.tables e below (T43.setTop (mkF m 111 #[.val (.long sd), .second, .val (.int kb), .val (.int km), .val (.int m31_l4), .val (.ref b4), .val (.ref b14), .val (.int r55), .val (.long v81), .second, .val (.long v95), .second, .unset, .unset, .unset, .unset] [(.int r55)])) _
          refine XS.lload X43.here hx rfl (hb hby at_111) rfl ?_
          show Steps p.tables e below (T43.setTop (mkF m 113 #[.val (.long sd), .second, .val (.int kb), .val (.int km), .val (.int m31_l4), .val (.ref b4), .val (.ref b14), .val (.int r55), .val (.long v81), .second, .val (.long v95), .second, .unset, .unset, .unset, .unset] [(.long v95), (.int r55)])) _
          refine XS.bipush X43.here hx rfl (hb hby at_113) ?_
          show Steps p.tables e below (T43.setTop (mkF m 115 #[.val (.long sd), .second, .val (.int kb), .val (.int km), .val (.int m31_l4), .val (.ref b4), .val (.ref b14), .val (.int r55), .val (.long v81), .second, .val (.long v95), .second, .unset, .unset, .unset, .unset] [(.int (32 : Int32)), (.long v95), (.int r55)])) _
          refine XS.lushr X43.here hx rfl (hb hby at_115) rfl ?_
          show Steps p.tables e below (T43.setTop (mkF m 116 #[.val (.long sd), .second, .val (.int kb), .val (.int km), .val (.int m31_l4), .val (.ref b4), .val (.ref b14), .val (.int r55), .val (.long v81), .second, .val (.long v95), .second, .unset, .unset, .unset, .unset] [(.long ((v95.toUInt64 >>> ((32 : Int32) &&& 0x3f).toInt64.toUInt64).toInt64)), (.int r55)])) _
          refine XS.l2i X43.here hx rfl (hb hby at_116) rfl ?_
          show Steps p.tables e below (T43.setTop (mkF m 117 #[.val (.long sd), .second, .val (.int kb), .val (.int km), .val (.int m31_l4), .val (.ref b4), .val (.ref b14), .val (.int r55), .val (.long v81), .second, .val (.long v95), .second, .unset, .unset, .unset, .unset] [(.int (((v95.toUInt64 >>> ((32 : Int32) &&& 0x3f).toInt64.toUInt64).toInt64).toInt32)), (.int r55)])) _
          exact kt
        by_cases hc117_118 : r55 = (((v95.toUInt64 >>> ((32 : Int32) &&& 0x3f).toInt64.toUInt64).toInt64).toInt32)
        · skip
          obtain ⟨cq119, kq119, q119a, q119b, q119c⟩ := isOf hZ rfl F46
          obtain ⟨_, _, ⟨T119, L119, k119, n119⟩, -, X119, ⟨Lc119, hQ119, l119, y119, z119⟩, st119⟩ := X43.virtualBack hx (y := (⟨"com/example/wary_rank/waryrank/SplitMix64", "nextLong", "()J"⟩ : MethodName)) (z := (⟨"com/example/wary_rank/waryrank/SplitMix64", "nextLong", "()J"⟩ : MethodName)) hown (mvT hZ (hw _ (List.mem_of_getElem? (i := 26) rfl))) (mvT hZ (hw _ (List.mem_of_getElem? (i := 17) rfl))) (notFace_of_selects (args := #[]) (mvT hZ (hw _ (List.mem_of_getElem? (i := 19) rfl)))) (mvT hZ (hw _ (List.mem_of_getElem? (i := 19) rfl))) (mvT hZ (hw _ (List.mem_of_getElem? (i := 18) rfl))) (by decide) (backOf (W := 0) (rm4 l Z a0 hw [] b4 (own_st sd (nn_29 + 1)) T43.heap n0 Z49 F48 F46 g_b4) hZ (hw _ (List.mem_of_getElem? (i := 20) rfl)) (hw _ (List.mem_of_getElem? (i := 2) rfl)) (by decide) (by decide)) q119a q119c (g := (mkF m 122 #[.val (.long sd), .second, .val (.int kb), .val (.int km), .val (.int m31_l4), .val (.ref b4), .val (.ref b14), .val (.int r55), .val (.long v81), .second, .val (.long v95), .second, .unset, .unset, .unset, .unset] [(.ref b4)])) rfl (by rw [hml]; rfl) (Steps.refl _) (argsL := []) (rest := []) (lenOf pd_0 rfl) rfl (by show 2 * 0 + _ ≤ _; exact Nat.le_of_eq rfl) (hb hby at_122) (fun _ _ => ⟨rfl, rfl, (by decide : 2 + 0 ≤ _), (by decide : 2 + 0 ≤ _)⟩)
          dsimp only [Pt.U, Pt.locs, Pt.cells, Pt.slots] at X119 l119 y119 z119 st119 hQ119
          subst l119 y119 z119
          obtain ⟨rfl, N119q, K119q, F120, F121⟩ := hQ119
          have N119 := Fr.app N43 N119q
          have F122 : Exa Z T119.heap b4 "com/example/wary_rank/waryrank/SplitMix64" := F46.keep K119q
          have F123 : Exa Z T119.heap b14 "com/example/wary_rank/waryrank/SplitMix64" := F44.keep K119q
          have F124 : Fld Z T119.heap b14 "com/example/wary_rank/waryrank/SplitMix64" "state" "J" (.long (sd + (-7046029254386353131 : Int64))) := F45.keep K119q (ninS (Ne.symm ne_b4_b14) nin0)
          have Z125 : n0 ≤ T119.heap.size := Nat.le_trans Z49 K119q.1
          have K126 : Keep h0 T119.heap [] := K50.trans K119q (allS (Or.inr sz_b4) all0)
          obtain ⟨r122, hr122⟩ : ∃ z_q : Int64, z_q = (own_mix ((own_st sd (nn_29 + 1)) + (-7046029254386353131 : Int64))) := ⟨_, rfl⟩
          obtain ⟨cq127, kq127, q127a, q127b, q127c⟩ := isOf hZ rfl F123
          obtain ⟨_, _, ⟨T127, L127, k127, n127⟩, -, X127, ⟨Lc127, hQ127, l127, y127, z127⟩, st127⟩ := X119.virtualBack hx (y := (⟨"com/example/wary_rank/waryrank/SplitMix64", "nextLong", "()J"⟩ : MethodName)) (z := (⟨"com/example/wary_rank/waryrank/SplitMix64", "nextLong", "()J"⟩ : MethodName)) hown (mvT hZ (hw _ (List.mem_of_getElem? (i := 26) rfl))) (mvT hZ (hw _ (List.mem_of_getElem? (i := 17) rfl))) (notFace_of_selects (args := #[]) (mvT hZ (hw _ (List.mem_of_getElem? (i := 19) rfl)))) (mvT hZ (hw _ (List.mem_of_getElem? (i := 19) rfl))) (mvT hZ (hw _ (List.mem_of_getElem? (i := 18) rfl))) (by decide) (backOf (W := 2) (rm4 l Z a0 hw [] b14 (sd + (-7046029254386353131 : Int64)) T119.heap n0 Z125 F124 F123 g_b14) hZ (hw _ (List.mem_of_getElem? (i := 20) rfl)) (hw _ (List.mem_of_getElem? (i := 2) rfl)) (by decide) (by decide)) q127a q127c (g := (mkF m 127 #[.val (.long sd), .second, .val (.int kb), .val (.int km), .val (.int m31_l4), .val (.ref b4), .val (.ref b14), .val (.int r55), .val (.long v81), .second, .val (.long v95), .second, .unset, .unset, .unset, .unset] [(.ref b14), (.long r122)])) rfl (by rw [hml]; rfl) (Steps.refl _) (argsL := []) (rest := [(.long r122)]) (lenOf pd_0 rfl) rfl (by show 2 * 0 + _ ≤ _; exact Nat.le_of_eq rfl) (hb hby at_127) (fun _ _ => ⟨rfl, rfl, (by decide : 2 + 0 ≤ _), (by decide : 2 + 0 ≤ _)⟩)
          dsimp only [Pt.U, Pt.locs, Pt.cells, Pt.slots] at X127 l127 y127 z127 st127 hQ127
          subst l127 y127 z127
          obtain ⟨rfl, N127q, K127q, F128, F129⟩ := hQ127
          have N127 := Fr.app N119 N127q
          have F130 : Exa Z T127.heap b4 "com/example/wary_rank/waryrank/SplitMix64" := F120.keep K127q
          have F131 : Exa Z T127.heap b14 "com/example/wary_rank/waryrank/SplitMix64" := F123.keep K127q
          have F132 : Fld Z T127.heap b4 "com/example/wary_rank/waryrank/SplitMix64" "state" "J" (.long ((own_st sd (nn_29 + 1)) + (-7046029254386353131 : Int64))) := F121.keep K127q (ninS ne_b4_b14 nin0)
          have Z133 : n0 ≤ T127.heap.size := Nat.le_trans Z125 K127q.1
          have K134 : Keep h0 T127.heap [] := K126.trans K127q (allS (Or.inr sz_b14) all0)
          obtain ⟨r127, hr127⟩ : ∃ z_q : Int64, z_q = (own_mix ((sd + (-7046029254386353131 : Int64)) + (-7046029254386353131 : Int64))) := ⟨_, rfl⟩
          obtain ⟨m139, hm139⟩ : ∃ z_q : Int32, z_q = (if r122 = r127 then (1 : Int32) else (0 : Int32)) := ⟨_, rfl⟩
          have pre136 : ∀ tq, Steps p.tables e below (T127.setTop (mkF m 139 #[.val (.long sd), .second, .val (.int kb), .val (.int km), .val (.int m31_l4), .val (.ref b4), .val (.ref b14), .val (.int r55), .val (.long v81), .second, .val (.long v95), .second, .unset, .unset, .unset, .unset] [(.int m139)])) tq → Steps p.tables e below (s₁.setTop (entryFrame m #[(.long sd), (.int kb), (.int km)] maxLocals)) tq := by
            intro tq kt
            refine pre117 _ ?_
            show Steps p.tables e below (T43.setTop (mkF m 117 #[.val (.long sd), .second, .val (.int kb), .val (.int km), .val (.int m31_l4), .val (.ref b4), .val (.ref b14), .val (.int r55), .val (.long v81), .second, .val (.long v95), .second, .unset, .unset, .unset, .unset] [(.int (((v95.toUInt64 >>> ((32 : Int32) &&& 0x3f).toInt64.toUInt64).toInt64).toInt32)), (.int r55)])) _
            refine XS.icmpNo X43.here hx rfl (hb hby at_117) rfl (teq hc117_118).2 ?_
            show Steps p.tables e below (T43.setTop (mkF m 120 #[.val (.long sd), .second, .val (.int kb), .val (.int km), .val (.int m31_l4), .val (.ref b4), .val (.ref b14), .val (.int r55), .val (.long v81), .second, .val (.long v95), .second, .unset, .unset, .unset, .unset] [])) _
            refine XS.aload X43.here hx rfl (hb hby at_120) rfl rfl ?_
            show Steps p.tables e below (T43.setTop (mkF m 122 #[.val (.long sd), .second, .val (.int kb), .val (.int km), .val (.int m31_l4), .val (.ref b4), .val (.ref b14), .val (.int r55), .val (.long v81), .second, .val (.long v95), .second, .unset, .unset, .unset, .unset] [(.ref b4)])) _
            refine st119.trans ?_
            show Steps p.tables e below (T119.setTop (mkF m 125 #[.val (.long sd), .second, .val (.int kb), .val (.int km), .val (.int m31_l4), .val (.ref b4), .val (.ref b14), .val (.int r55), .val (.long v81), .second, .val (.long v95), .second, .unset, .unset, .unset, .unset] [(.long (own_mix ((own_st sd (nn_29 + 1)) + (-7046029254386353131 : Int64))))])) _
            rw [← hr122]
            show Steps p.tables e below (T119.setTop (mkF m 125 #[.val (.long sd), .second, .val (.int kb), .val (.int km), .val (.int m31_l4), .val (.ref b4), .val (.ref b14), .val (.int r55), .val (.long v81), .second, .val (.long v95), .second, .unset, .unset, .unset, .unset] [(.long r122)])) _
            refine XS.aload X119.here hx rfl (hb hby at_125) rfl rfl ?_
            show Steps p.tables e below (T119.setTop (mkF m 127 #[.val (.long sd), .second, .val (.int kb), .val (.int km), .val (.int m31_l4), .val (.ref b4), .val (.ref b14), .val (.int r55), .val (.long v81), .second, .val (.long v95), .second, .unset, .unset, .unset, .unset] [(.ref b14), (.long r122)])) _
            refine st127.trans ?_
            show Steps p.tables e below (T127.setTop (mkF m 130 #[.val (.long sd), .second, .val (.int kb), .val (.int km), .val (.int m31_l4), .val (.ref b4), .val (.ref b14), .val (.int r55), .val (.long v81), .second, .val (.long v95), .second, .unset, .unset, .unset, .unset] [(.long (own_mix ((sd + (-7046029254386353131 : Int64)) + (-7046029254386353131 : Int64)))), (.long r122)])) _
            rw [← hr127]
            show Steps p.tables e below (T127.setTop (mkF m 130 #[.val (.long sd), .second, .val (.int kb), .val (.int km), .val (.int m31_l4), .val (.ref b4), .val (.ref b14), .val (.int r55), .val (.long v81), .second, .val (.long v95), .second, .unset, .unset, .unset, .unset] [(.long r127), (.long r122)])) _
            refine XS.lcmp X127.here hx rfl (hb hby at_130) rfl ?_
            by_cases d135 : r122 = r127
            · skip
              show Steps p.tables e below (T127.setTop (mkF m 131 #[.val (.long sd), .second, .val (.int kb), .val (.int km), .val (.int m31_l4), .val (.ref b4), .val (.ref b14), .val (.int r55), .val (.long v81), .second, .val (.long v95), .second, .unset, .unset, .unset, .unset] [(.int (lcmpW r122 r127))])) _
              refine XS.ifNo X127.here hx rfl (hb hby at_131) rfl ((if0 _ _).trans (teq ((lw_eq r122 r127).2 d135)).2) ?_
              show Steps p.tables e below (T127.setTop (mkF m 134 #[.val (.long sd), .second, .val (.int kb), .val (.int km), .val (.int m31_l4), .val (.ref b4), .val (.ref b14), .val (.int r55), .val (.long v81), .second, .val (.long v95), .second, .unset, .unset, .unset, .unset] [])) _
              refine XS.iconst X127.here hx rfl (hb hby at_134) ?_
              show Steps p.tables e below (T127.setTop (mkF m 135 #[.val (.long sd), .second, .val (.int kb), .val (.int km), .val (.int m31_l4), .val (.ref b4), .val (.ref b14), .val (.int r55), .val (.long v81), .second, .val (.long v95), .second, .unset, .unset, .unset, .unset] [(.int (1 : Int32))])) _
              refine XS.goto X127.here hx rfl (pc0 := 135) (pc' := 139) rfl (hb hby at_135) (by decide) (by decide) ?_
              show Steps p.tables e below (T127.setTop (mkF m 139 #[.val (.long sd), .second, .val (.int kb), .val (.int km), .val (.int m31_l4), .val (.ref b4), .val (.ref b14), .val (.int r55), .val (.long v81), .second, .val (.long v95), .second, .unset, .unset, .unset, .unset] [(.int (1 : Int32))])) _
              exact castTop (by simp only [hm139, if_pos d135]) kt
            · skip
              show Steps p.tables e below (T127.setTop (mkF m 131 #[.val (.long sd), .second, .val (.int kb), .val (.int km), .val (.int m31_l4), .val (.ref b4), .val (.ref b14), .val (.int r55), .val (.long v81), .second, .val (.long v95), .second, .unset, .unset, .unset, .unset] [(.int (lcmpW r122 r127))])) _
              refine XS.ifYes X127.here hx rfl (pc0 := 131) (pc' := 138) rfl (hb hby at_131) rfl ((if0 _ _).trans (feq (mt (lw_eq r122 r127).1 d135)).2) (by decide) (by decide) ?_
              show Steps p.tables e below (T127.setTop (mkF m 138 #[.val (.long sd), .second, .val (.int kb), .val (.int km), .val (.int m31_l4), .val (.ref b4), .val (.ref b14), .val (.int r55), .val (.long v81), .second, .val (.long v95), .second, .unset, .unset, .unset, .unset] [])) _
              refine XS.iconst X127.here hx rfl (hb hby at_138) ?_
              show Steps p.tables e below (T127.setTop (mkF m 139 #[.val (.long sd), .second, .val (.int kb), .val (.int km), .val (.int m31_l4), .val (.ref b4), .val (.ref b14), .val (.int r55), .val (.long v81), .second, .val (.long v95), .second, .unset, .unset, .unset, .unset] [(.int (0 : Int32))])) _
              exact castTop (by simp only [hm139, if_neg d135]) kt
          obtain ⟨fs, hr, hrun, hended, hW, hsame⟩ := X127.leave (v := some (Value.int (nar .boolean m139))) (fun h => by rw [Bd.returns] at h; cases h)
          have hres137 : (nar .boolean m139) = (1 : Int32) := (own_leaf_0_139_ftff sd kb km m31_l4 hm31_l4 hp28_hbd nn_29 r55 hr55 hq28 hc62_38 hc69_41 v81 hv81 r85 hr85 v95 hv95 hc106_52 hc117_118 r122 hr122 r127 hr127 m139 hm139)
          refine ⟨_, _, pre136 _ ?_, hrun, hended, _, _, rfl, ?_, ⟨_, rfl⟩, hW, hsame.mono (by decide) (by decide)⟩
          · skip
            show Steps p.tables e below (T127.setTop (mkF m 139 #[.val (.long sd), .second, .val (.int kb), .val (.int km), .val (.int m31_l4), .val (.ref b4), .val (.ref b14), .val (.int r55), .val (.long v81), .second, .val (.long v95), .second, .unset, .unset, .unset, .unset] [(.int m139)])) _
            exact retN X127 hx (t := .boolean) Bd.returns (by simp) (hb hby at_139) hr
          · show Q0 Z sd kb km h0 n0 _ T127.heap _
            exact ⟨congrArg (fun z => some (Value.int z)) hres137, N127⟩
        · skip
          obtain ⟨fs, hr, hrun, hended, hW, hsame⟩ := X43.leave (v := some (Value.int (0 : Int32))) (fun h => by rw [Bd.returns] at h; cases h)
          have hres138 : (0 : Int32) = (1 : Int32) := (own_leaf_0_139_ftft sd kb km m31_l4 hm31_l4 hp28_hbd nn_29 r55 hr55 hq28 hc62_38 hc69_41 v81 hv81 r85 hr85 v95 hv95 hc106_52 hc117_118)
          refine ⟨_, _, pre117 _ ?_, hrun, hended, _, _, rfl, ?_, ⟨_, rfl⟩, hW, hsame.mono (by decide) (by decide)⟩
          · skip
            show Steps p.tables e below (T43.setTop (mkF m 117 #[.val (.long sd), .second, .val (.int kb), .val (.int km), .val (.int m31_l4), .val (.ref b4), .val (.ref b14), .val (.int r55), .val (.long v81), .second, .val (.long v95), .second, .unset, .unset, .unset, .unset] [(.int (((v95.toUInt64 >>> ((32 : Int32) &&& 0x3f).toInt64.toUInt64).toInt64).toInt32)), (.int r55)])) _
            refine XS.icmpYes X43.here hx rfl (pc0 := 117) (pc' := 138) rfl (hb hby at_117) rfl (feq hc117_118).2 (by decide) (by decide) ?_
            show Steps p.tables e below (T43.setTop (mkF m 138 #[.val (.long sd), .second, .val (.int kb), .val (.int km), .val (.int m31_l4), .val (.ref b4), .val (.ref b14), .val (.int r55), .val (.long v81), .second, .val (.long v95), .second, .unset, .unset, .unset, .unset] [])) _
            refine XS.iconst X43.here hx rfl (hb hby at_138) ?_
            show Steps p.tables e below (T43.setTop (mkF m 139 #[.val (.long sd), .second, .val (.int kb), .val (.int km), .val (.int m31_l4), .val (.ref b4), .val (.ref b14), .val (.int r55), .val (.long v81), .second, .val (.long v95), .second, .unset, .unset, .unset, .unset] [(.int (0 : Int32))])) _
            exact retN X43 hx (t := .boolean) Bd.returns (by simp) (hb hby at_139) hr
          · show Q0 Z sd kb km h0 n0 _ T43.heap _
            exact ⟨congrArg (fun z => some (Value.int z)) hres138, N43⟩
    · skip
      obtain ⟨fs, hr, hrun, hended, hW, hsame⟩ := X28.leave (v := some (Value.int (0 : Int32))) (fun h => by rw [Bd.returns] at h; cases h)
      have hres139 : (0 : Int32) = (1 : Int32) := (own_leaf_0_73_ff sd kb km m31_l4 hm31_l4 hp28_hbd nn_29 r55 hr55 hq28 hc62_38 hc69_41)
      refine ⟨_, _, pre40 _ ?_, hrun, hended, _, _, rfl, ?_, ⟨_, rfl⟩, hW, hsame.mono (by decide) (by decide)⟩
      · skip
        show Steps p.tables e below (T28.setTop (mkF m 69 #[.val (.long sd), .second, .val (.int kb), .val (.int km), .val (.int m31_l4), .val (.ref b4), .val (.ref b14), .val (.int r55), .unset, .unset, .unset, .unset, .unset, .unset, .unset, .unset] [(.int m31_l4), (.int r55)])) _
        refine XS.icmpNo X28.here hx rfl (hb hby at_69) rfl (flt hc69_41).1 ?_
        show Steps p.tables e below (T28.setTop (mkF m 72 #[.val (.long sd), .second, .val (.int kb), .val (.int km), .val (.int m31_l4), .val (.ref b4), .val (.ref b14), .val (.int r55), .unset, .unset, .unset, .unset, .unset, .unset, .unset, .unset] [])) _
        refine XS.iconst X28.here hx rfl (hb hby at_72) ?_
        show Steps p.tables e below (T28.setTop (mkF m 73 #[.val (.long sd), .second, .val (.int kb), .val (.int km), .val (.int m31_l4), .val (.ref b4), .val (.ref b14), .val (.int r55), .unset, .unset, .unset, .unset, .unset, .unset, .unset, .unset] [(.int (0 : Int32))])) _
        exact retN X28 hx (t := .boolean) Bd.returns (by simp) (hb hby at_73) hr
      · show Q0 Z sd kb km h0 n0 _ T28.heap _
        exact ⟨congrArg (fun z => some (Value.int z)) hres139, N28⟩
set_option maxRecDepth 65536 in
set_option maxHeartbeats 40000000 in
theorem comes_1 {Post : Tables → Env → Array Value → State → Outcome → State → Prop} (hpost : ∀ tb e args s v u, (limb_1_1.after args s (.returned v) u = true ∧ limb_1_2.after args s (.returned v) u = true ∧ True) → FrameEnd s (.returned v) u (Jvm.fieldLocs frame_1_writes args s ++ Jvm.arrayLocs frame_1_arrays args s ++ Jvm.staticLocs frame_1_statics s) 16 128 → Post tb e args s (.returned v) u) :
    ArmFor flags0 classFile x code maxLocals ret World_1 tables_1 room_1 Calls_1 rest_1 Pre_1 Post := by
  intro l hfl _ _ p e ha hc hk s m args below hf hA hF happ hP
  obtain ⟨hcalls, hrest, hpre⟩ := hP
  obtain ⟨-, -, -, hnamed, -, -, -, hat⟩ := (Spec.applies_iff hf).mp happ
  obtain ⟨hg, hn⟩ := and_e (Cond.before_iff.mp (show (Jvm.Cond.and given_1 narrow_1).before args s = true from hpre))
  obtain ⟨gv1, gv2⟩ := and_e hg
  obtain ⟨gv3, gv4⟩ := and_e gv2
  obtain ⟨gv5, gv6⟩ := and_e gv4
  obtain ⟨w0, w1, w2, rfl⟩ : ∃ w0 w1 w2 : Value, args = #[w0, w1, w2] := by
    have hs : args.size = 3 := by simpa [Cond.value, given_1] using gv1
    obtain ⟨L⟩ := args
    match L, hs with
    | [w0, w1, w2], _ => exact ⟨w0, w1, w2, rfl⟩
  have hw := fun d (hd : d ∈ tables_1) => atoms_spec (ws := Jvm.Cond.code x code maxLocals ret :: tables_1) hat d (List.mem_cons_of_mem _ hd)
  obtain ⟨i0, ei0⟩ := isL_v gv3
  obtain rfl : w0 = (.long i0) := Option.some.inj ei0
  obtain ⟨i1, ei1⟩ := is_v gv5
  obtain rfl : w1 = (.int i1) := Option.some.inj ei1
  obtain ⟨i2, ei2⟩ := is_v gv6
  obtain rfl : w2 = (.int i2) := Option.some.inj ei2
  obtain ⟨n, o, h1, h2, h3, _, L, rfl, ⟨rfl, N⟩, hq⟩ := rm0 l s _ hw tables_1 i0 i1 i2  s.heap s.heap.size (Nat.le_refl _)  p e ha hc hk s m _ below hf ((Spec.applies_iff_loose hf).mp happ).1 ⟨rfl, State.Warmed39.refl s, rfl⟩ trivial
  refine ⟨n, _, h1, h2, h3, hpost _ _ _ _ _ _ ⟨Cond.after_iff.mpr rfl, Cond.after_iff.mpr (eq_i res_at (Term.int_eval (1)) rfl), trivial⟩ ⟨hq.1, hq.2.1, (hq.2.2.sift fun y hy => Or.inr (N y hy)).mono (by decide) (by decide)⟩⟩
theorem main_1_1 : Claimed_1_1 := comes_1 fun _ _ _ _ _ _ h hF => ⟨h.1, hF⟩
theorem main_1_2 : Claimed_1_2 := comes_1 fun _ _ _ _ _ _ h hF => ⟨h.2.1, hF⟩
end Jvm.Pilot.@@N@@
namespace Jvm.Pilot.@@N@@
open Jvm Jvm.ClassFile Sem Op Lib Jvm.Free Jvm.Stand Jvm.Pilot.@@N@@.Jvm.D
/-! MADE BY PROGRAM (witnessworld.py) out of the Statement's table words and the real class files: 9 classes; the members and pool entries that the words name. The judged class is class 1, her method 1. -/
namespace start1
open Jvm.ClassFile
def u (s : String) : CpInfo := .utf8 (stringToUtf16 s)
/-- a pool by its gaps: so many unusable entries, then the entry; so many at the end -/
def gap : Nat → List CpInfo → List CpInfo
  | 0, r => r
  | n + 1, r => .unusable :: gap n r
def poolList (es : List (Nat × CpInfo)) (last : Nat) : List CpInfo := es.foldr (fun e r => gap e.1 (e.2 :: r)) (gap last [])
def pool (es : List (Nat × CpInfo)) (last : Nat) : Array CpInfo := ⟨poolList es last⟩
def fileOf (pool : Array CpInfo) (this : Nat) (attrs : Array Attribute := #[]) (ms : Array MethodInfo := #[]) (fl : Nat := 33) (sup : Nat := 0) (ifs : Array Nat := #[]) (fds : Array FieldInfo := #[]) : ClassFile where
  minorVersion := 0
  majorVersion := 65
  constantPool := pool
  accessFlags := fl
  thisClass := this
  superClass := sup
  interfaces := ifs
  fields := fds
  methods := ms
  attributes := attrs
def plain (name : String) (sup : Option ClassId) : Class where
  name := name
  kind := .ordinary
  loader := none
  accessFlags := 33
  super := sup
  interfaces := #[]
  cf := none
  fields := #[]
  methods := #[]
  instanceTypes := #[]
  staticTypes := #[]
  resolved := #[]
  callSites := []
  init := .initialized
  statics := none
  mirror := none

def pool0 : Array CpInfo := pool [(5, u "<init>"), (0, u "()V"), (1, .class_ 10), (1, u "java/lang/Object")] 113

def k0c0 : Code := { maxStack := 0, maxLocals := 1, code := object_method_1_code, exceptionTable := #[], attributes := #[] }
def k0m0 : Method := { name := "<init>", desc := "()V", sig := { parameters := [], returnType := none }, accessFlags := 1, code := some k0c0 }
/-- java/lang/Object -/
def k0 : Class := { plain "java/lang/Object" none with
  accessFlags := 33
  interfaces := #[]
  cf := some (fileOf pool0 8 #[] #[{ accessFlags := 1, nameIndex := 5, descriptorIndex := 6, attributes := #[] }] 33 0 #[] #[])
  fields := #[]
  methods := #[k0m0]
  instanceTypes := #[]
  staticTypes := #[]
  resolved := Array.replicate 124 none
  statics := none }

def pool1 : Array CpInfo := pool [(2, .class_ 4), (1, u "java/lang/Object"), (0, u "<init>"), (0, u "()V"), (0, .integer 2147483647), (0, .class_ 9), (0, u "com/example/wary_rank/waryrank/SplitMix64"), (0, .methodref 8 11), (0, .nameAndType 5 12), (0, u "(J)V"), (0, .methodref 8 14), (0, .nameAndType 15 16), (0, u "nextInt"), (0, u "(I)I"), (0, .long 4294967296), (1, .methodref 8 20), (0, .nameAndType 21 22), (0, u "nextLong"), (0, u "()J"), (0, .class_ 24), (0, u "com/example/wary_rank/waryrank/SplitMix64NextIntPinLaw"), (0, .long 4294967295), (1, u "LOW"), (0, u "J"), (3, u "law"), (0, u "(JII)Z")] 3

def k1m0 : Method := { name := "<init>", desc := "()V", sig := { parameters := [], returnType := none }, accessFlags := 1, code := none }
def k1c1 : Code := { maxStack := 4, maxLocals := 16, code := code, exceptionTable := #[], attributes := #[] }
def k1m1 : Method := { name := "law", desc := "(JII)Z", sig := { parameters := [.long, .int, .int], returnType := some .boolean }, accessFlags := 9, code := some k1c1 }
/-- com/example/wary_rank/waryrank/SplitMix64NextIntPinLaw -/
def k1 : Class := { plain "com/example/wary_rank/waryrank/SplitMix64NextIntPinLaw" (some 0) with
  accessFlags := 49
  interfaces := #[]
  cf := some (fileOf pool1 23 #[] #[{ accessFlags := 1, nameIndex := 5, descriptorIndex := 6, attributes := #[] }, { accessFlags := 9, nameIndex := 32, descriptorIndex := 33, attributes := #[] }] 49 2 #[] #[{ accessFlags := 26, nameIndex := 27, descriptorIndex := 28, attributes := #[] }])
  fields := #[{ name := "LOW", type := .long, accessFlags := 26, slot := 0, constantValue := 0 }]
  methods := #[k1m0, k1m1]
  instanceTypes := #[]
  staticTypes := #[.long]
  resolved := Array.replicate 37 none
  statics := none }

def pool2 : Array CpInfo := pool [(3, .methodref 4 5), (0, .class_ 6), (0, .nameAndType 7 8), (0, u "java/lang/Object"), (0, u "<init>"), (0, u "()V"), (0, .fieldref 10 11), (0, .class_ 12), (0, .nameAndType 13 14), (0, u "com/example/wary_rank/waryrank/SplitMix64"), (0, u "state"), (0, u "J"), (0, .long 11400714819323198485), (1, .long 13787848793156543929), (1, .long 10723151780598845931), (1, .methodref 10 22), (0, .nameAndType 23 24), (0, u "nextLong"), (0, u "()J"), (2, .long 4294967295), (1, .long 4294967296), (3, u "GAMMA"), (1, u "MIX_1"), (0, u "MIX_2"), (0, u "LOW_WORD"), (0, u "FRACTION_SHIFT"), (0, u "I"), (1, u "FRACTION_UNIT"), (0, u "D"), (0, u "(J)V"), (2, u "nextInt"), (0, u "(I)I")] 5

def k2c0 : Code := { maxStack := 3, maxLocals := 3, code := prog_42_method_1_code, exceptionTable := #[], attributes := #[] }
def k2m0 : Method := { name := "<init>", desc := "(J)V", sig := { parameters := [.long], returnType := none }, accessFlags := 0, code := some k2c0 }
def k2c1 : Code := { maxStack := 5, maxLocals := 3, code := prog_42_method_2_code, exceptionTable := #[], attributes := #[] }
def k2m1 : Method := { name := "nextLong", desc := "()J", sig := { parameters := [], returnType := some .long }, accessFlags := 0, code := some k2c1 }
def k2c2 : Code := { maxStack := 4, maxLocals := 6, code := prog_42_method_3_code, exceptionTable := #[], attributes := #[] }
def k2m2 : Method := { name := "nextInt", desc := "(I)I", sig := { parameters := [.int], returnType := some .int }, accessFlags := 0, code := some k2c2 }
/-- com/example/wary_rank/waryrank/SplitMix64 -/
def k2 : Class := { plain "com/example/wary_rank/waryrank/SplitMix64" (some 0) with
  accessFlags := 32
  interfaces := #[]
  cf := some (fileOf pool2 10 #[] #[{ accessFlags := 0, nameIndex := 7, descriptorIndex := 43, attributes := #[] }, { accessFlags := 0, nameIndex := 23, descriptorIndex := 24, attributes := #[] }, { accessFlags := 0, nameIndex := 46, descriptorIndex := 47, attributes := #[] }] 32 4 #[] #[{ accessFlags := 26, nameIndex := 33, descriptorIndex := 14, attributes := #[] }, { accessFlags := 26, nameIndex := 35, descriptorIndex := 14, attributes := #[] }, { accessFlags := 26, nameIndex := 36, descriptorIndex := 14, attributes := #[] }, { accessFlags := 26, nameIndex := 37, descriptorIndex := 14, attributes := #[] }, { accessFlags := 26, nameIndex := 38, descriptorIndex := 39, attributes := #[] }, { accessFlags := 26, nameIndex := 41, descriptorIndex := 42, attributes := #[] }, { accessFlags := 2, nameIndex := 13, descriptorIndex := 14, attributes := #[] }])
  fields := #[{ name := "GAMMA", type := .long, accessFlags := 26, slot := 0, constantValue := 0 }, { name := "MIX_1", type := .long, accessFlags := 26, slot := 1, constantValue := 0 }, { name := "MIX_2", type := .long, accessFlags := 26, slot := 2, constantValue := 0 }, { name := "LOW_WORD", type := .long, accessFlags := 26, slot := 3, constantValue := 0 }, { name := "FRACTION_SHIFT", type := .int, accessFlags := 26, slot := 4, constantValue := 0 }, { name := "FRACTION_UNIT", type := .double, accessFlags := 26, slot := 5, constantValue := 0 }, { name := "state", type := .long, accessFlags := 2, slot := 0, constantValue := 0 }]
  methods := #[k2m0, k2m1, k2m2]
  instanceTypes := #[.long]
  staticTypes := #[.long, .long, .long, .long, .int, .double]
  resolved := Array.replicate 53 none
  statics := none }

def pool3 : Array CpInfo := pool [(1, u "java/lang/Cloneable"), (0, .class_ 1), (0, u "java/lang/Object"), (0, .class_ 3)] 3

/-- java/lang/Cloneable -/
def k3 : Class := { plain "java/lang/Cloneable" (some 0) with
  accessFlags := 1537
  interfaces := #[]
  cf := some (fileOf pool3 2 #[] #[] 1537 4 #[] #[])
  fields := #[]
  methods := #[]
  instanceTypes := #[]
  staticTypes := #[]
  resolved := Array.replicate 8 none
  statics := none }

def pool4 : Array CpInfo := pool [(1, u "java/io/Serializable"), (0, .class_ 1), (0, u "java/lang/Object"), (0, .class_ 3)] 3

/-- java/io/Serializable -/
def k4 : Class := { plain "java/io/Serializable" (some 0) with
  accessFlags := 1537
  interfaces := #[]
  cf := some (fileOf pool4 2 #[] #[] 1537 4 #[] #[])
  fields := #[]
  methods := #[]
  instanceTypes := #[]
  staticTypes := #[]
  resolved := Array.replicate 8 none
  statics := none }

/-- the primitive byte -/
def k5 : Class := { plain "byte" none with kind := .primitive 'B', accessFlags := 0x411 }
/-- [B -/
def k6 : Class := { plain "[B" (some 0) with kind := .array 5 .byte, interfaces := #[3, 4], accessFlags := 1041 }

/-- the primitive int -/
def k7 : Class := { plain "int" none with kind := .primitive 'I', accessFlags := 0x411 }
/-- [I -/
def k8 : Class := { plain "[I" (some 0) with kind := .array 7 .int, interfaces := #[3, 4], accessFlags := 1041 }

def heap : Heap := #[]
def classes : Array Class := #[k0, k1, k2, k3, k4, k5, k6, k7, k8]
def interned : List (Array UInt16 × Addr) := []
def slotsUsed : Nat := 0
def theMethod : MethodId := ⟨1, 1⟩
def args0 : Array Value := #[.long 5, .int 6, .int 7]
def aboutOver (below : List Frame) : State where
  vm := { classes := classes, interned := interned.toArray }
  heap := heap
  slotsUsed := slotsUsed
  threads := #[{ frames := .invoking theMethod args0 :: below }]
def below0 : List Frame := [.native { method := ⟨0, 0⟩, args := #[] }]
def about1 : State := aboutOver below0
def p0 : Program := .bare "" "" ""
def e0 : Env := launch0.env 0 0 0
theorem w_frames : about1.frames = Frame.invoking theMethod args0 :: below0 := rfl
set_option maxRecDepth 65536 in
theorem w_args : argsFit about1.vm theMethod args0 = true := by decide +kernel
set_option maxRecDepth 65536 in
theorem w_heap : heapFits about1 = true := by decide +kernel
set_option maxRecDepth 65536 in
theorem w_runnable : about1.curStatus? = some .runnable := by decide +kernel
set_option maxRecDepth 65536 in
theorem w_alone : about1.alone = true := by decide +kernel
set_option maxRecDepth 65536 in
theorem w_named : about1.methodNamed? x = some theMethod := by decide +kernel
set_option maxRecDepth 65536 in
theorem w_hears : about1.hears theMethod below0 = true := by decide +kernel
set_option maxRecDepth 65536 in
theorem w_ripe : about1.ripe theMethod args0 below0 = true := by decide +kernel
theorem w_running : about1.status = .running := rfl
set_option maxRecDepth 65536 in
theorem w_room : about1.hasRoom e0.platform room_1 = true :=
  launch0.hasRoom_least _ room_1 (by decide +kernel) (by decide +kernel) (by decide +kernel) (by decide +kernel) (by decide +kernel) (by decide +kernel)
theorem allAtoms_all (ts : List Jvm.Cond) (a : Array Jvm.Value) (st : Jvm.State) : (allAtoms ts).before a st = ts.all (fun c => c.before a st) := by
  induction ts with
  | nil => rfl
  | cons c t ih =>
    show (Jvm.Cond.and c (allAtoms t)).before a st = _
    rw [Jvm.Cond.before_and, ih, List.all_cons]
def words1 : List Jvm.Cond := Jvm.Cond.code x code maxLocals ret :: tables_1
/-- a 'code' word, met by the world's own term for the bytes: nothing is compared byte by byte -/
theorem code_word {y : MethodName} {bytes : ByteArray} {mx : Nat} {rt : Option FieldType} {a : Array Value} {s : State} {m : MethodId} {meth : Method} {c : Code} (h1 : s.methodNamed? y = some m) (h2 : s.vm.method? m = some meth) (h3 : meth.code = some c) (h4 : c.code = bytes)
    (h5 : (c.maxLocals == mx && c.exceptionTable.isEmpty && decide (c.maxStack ≤ mostOperands) && decide (meth.sig.returnType = rt) && !meth.locks && decide (parseMethodDescriptor y.desc = some meth.sig)) = true) : (Jvm.Cond.code y bytes mx rt).before a s = true := by
  simp only [Bool.and_eq_true, beq_iff_eq, Bool.not_eq_true', decide_eq_true_eq] at h5
  obtain ⟨⟨⟨⟨⟨g1, g2⟩, g3⟩, g4⟩, g5⟩, g6⟩ := h5
  simp [Cond.before, Cond.holds, Cond.value, h1, h2, h3, h4, g1, g2, g3, g4, g5, g6]
def isCode : Jvm.Cond → Bool
  | .code _ _ _ _ => true
  | _ => false
theorem all_split {L : List Jvm.Cond} {P : Jvm.Cond → Bool} (h1 : L.all (fun c => isCode c || P c) = true) (h2 : ∀ c ∈ L.filter isCode, P c = true) : L.all P = true := by
  refine List.all_eq_true.mpr fun c hc => ?_
  have h := List.all_eq_true.mp h1 c hc
  rcases Bool.eq_false_or_eq_true (isCode c) with hi | hi
  · exact h2 c (List.mem_filter.mpr ⟨hc, hi⟩)
  · simpa [hi] using h
set_option maxRecDepth 65536 in
theorem w_c0 : (Jvm.Cond.code x code maxLocals ret).before args0 about1 = true := code_word (m := ⟨1, 1⟩) (meth := k1m1) (c := k1c1) (by decide +kernel) rfl rfl rfl (by decide +kernel)
set_option maxRecDepth 65536 in
theorem w_c1 : (Jvm.Cond.code ({ cls := "com/example/wary_rank/waryrank/SplitMix64", name := "<init>", desc := "(J)V" } : Jvm.MethodName) prog_42_method_1_code (3 : Nat) (Option.none : Option Jvm.ClassFile.FieldType)).before args0 about1 = true := code_word (m := ⟨2, 0⟩) (meth := k2m0) (c := k2c0) (by decide +kernel) rfl rfl rfl (by decide +kernel)
set_option maxRecDepth 65536 in
theorem w_c2 : (Jvm.Cond.code ({ cls := "java/lang/Object", name := "<init>", desc := "()V" } : Jvm.MethodName) object_method_1_code (1 : Nat) (Option.none : Option Jvm.ClassFile.FieldType)).before args0 about1 = true := code_word (m := ⟨0, 0⟩) (meth := k0m0) (c := k0c0) (by decide +kernel) rfl rfl rfl (by decide +kernel)
set_option maxRecDepth 65536 in
theorem w_c3 : (Jvm.Cond.code ({ cls := "com/example/wary_rank/waryrank/SplitMix64", name := "nextInt", desc := "(I)I" } : Jvm.MethodName) prog_42_method_3_code (6 : Nat) (Option.some Jvm.ClassFile.FieldType.int)).before args0 about1 = true := code_word (m := ⟨2, 2⟩) (meth := k2m2) (c := k2c2) (by decide +kernel) rfl rfl rfl (by decide +kernel)
set_option maxRecDepth 65536 in
theorem w_c4 : (Jvm.Cond.code ({ cls := "com/example/wary_rank/waryrank/SplitMix64", name := "nextLong", desc := "()J" } : Jvm.MethodName) prog_42_method_2_code (3 : Nat) (Option.some Jvm.ClassFile.FieldType.long)).before args0 about1 = true := code_word (m := ⟨2, 1⟩) (meth := k2m1) (c := k2c1) (by decide +kernel) rfl rfl rfl (by decide +kernel)
def codes1 : List Jvm.Cond := [Jvm.Cond.code x code maxLocals ret, Jvm.Cond.code ({ cls := "com/example/wary_rank/waryrank/SplitMix64", name := "<init>", desc := "(J)V" } : Jvm.MethodName) prog_42_method_1_code (3 : Nat) (Option.none : Option Jvm.ClassFile.FieldType), Jvm.Cond.code ({ cls := "java/lang/Object", name := "<init>", desc := "()V" } : Jvm.MethodName) object_method_1_code (1 : Nat) (Option.none : Option Jvm.ClassFile.FieldType), Jvm.Cond.code ({ cls := "com/example/wary_rank/waryrank/SplitMix64", name := "nextInt", desc := "(I)I" } : Jvm.MethodName) prog_42_method_3_code (6 : Nat) (Option.some Jvm.ClassFile.FieldType.int), Jvm.Cond.code ({ cls := "com/example/wary_rank/waryrank/SplitMix64", name := "nextLong", desc := "()J" } : Jvm.MethodName) prog_42_method_2_code (3 : Nat) (Option.some Jvm.ClassFile.FieldType.long)]
set_option maxRecDepth 65536 in
theorem codes_eq : words1.filter isCode = codes1 := rfl
theorem w_codes : ∀ c ∈ words1.filter isCode, c.before args0 about1 = true := by
  rw [codes_eq]
  intro c hc
  simp only [codes1, List.mem_cons, List.not_mem_nil, or_false] at hc
  rcases hc with rfl | rfl | rfl | rfl | rfl
  · exact w_c0
  · exact w_c1
  · exact w_c2
  · exact w_c3
  · exact w_c4
set_option maxRecDepth 65536 in
theorem w_t1 : (words1.take 24).all (fun c => isCode c || c.before args0 about1) = true := by decide +kernel
set_option maxRecDepth 65536 in
theorem w_t2 : (words1.drop 24).all (fun c => isCode c || c.before args0 about1) = true := by decide +kernel
theorem w_tables : (allAtoms (Jvm.Cond.code x code maxLocals ret :: tables_1)).before args0 about1 = true := by
  rw [allAtoms_all]
  show words1.all (fun c => c.before args0 about1) = true
  refine all_split ?_ w_codes
  rw [← List.take_append_drop 24 words1, List.all_append, w_t1, w_t2]
  rfl
set_option maxRecDepth 65536 in
theorem w_case : (Jvm.Cond.and given_1 narrow_1).before args0 about1 = true := by decide +kernel
theorem w_applies : (headSpec (Jvm.Cond.code x code maxLocals ret :: tables_1) room_1).applies x e0.platform about1 = true :=
  (Spec.applies_iff w_frames).mpr ⟨w_running, w_runnable, w_alone, w_named, w_hears, w_ripe, w_room, w_tables⟩
theorem atStart : AtStart classFile x code maxLocals ret World_1 tables_1 room_1 Calls_1 rest_1 Pre_1 launch0 p0 e0 about1 theMethod args0 below0 :=
  ⟨lists_1, trivial, launch0.admits_env _ _ _, launch0.least_env, fairChoices_fair.cas, fairChoices_fair.clock, w_frames, w_args, w_heap, w_applies, trivial, trivial, w_case⟩
end start1
theorem witness_1 : WitnessClaimed_1 := ⟨start1.p0, start1.e0, start1.about1, start1.theMethod, start1.args0, start1.below0, start1.atStart⟩
end Jvm.Pilot.@@N@@
