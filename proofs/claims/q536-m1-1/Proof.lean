import JvmDerived
import JvmDerived.Pilot.@@N@@Statement
import JvmDerived.Pilot.@@N@@Code
set_option linter.unusedVariables false
set_option linter.unusedSimpArgs false
namespace Jvm.RoadKit
theorem heq_of {T : State} {h : Heap} {a : Addr} {c : Cell} (e : T.heap = h) (q : h[a]? = some c) : T.heap[a]? = some c := by rw [e]; exact q
open Sem ClassFile Op Lib Jvm.Stand Jvm.Free Jvm.LawKit
section New
variable {p : Program} {l : Launch} {e : Env} {R : Room} {s : State} {m : MethodId} {args : Array Value} {below : List Frame} {meth : Method} {c : Code} {T : State} {locs : List Loc} {cells slots : Nat}
theorem retI (X : Stand p l e R s m args below meth c T locs cells slots) (hx : p.tables.exec = Jvm.exec) {pc : Nat} {Ls : Array Slot} {z : Int32} {rest : List Value} (hret : meth.sig.returnType = some .int) (hd : decode c.code pc = .ok (.ireturn, 1)) {fs : List Frame}
    (hl : ∀ (f : JFrame) (acts : List Action), f.method = m → f.locked = none → f.entered = [] → (doReturn e (T.setTop f) acts (some (.int z))).1 = T.setFrames fs) : Steps p.tables e below (T.setTop (mkF m pc Ls (.int z :: rest))) (T.setFrames fs) := by
  have hm' : T.vm.method? m = some meth := X.method'
  have hn : narrow .int (.int z) = .int z := rfl
  show Steps p.tables e below (T.setTop { method := m, pc := pc, locals := Ls, stack := _ :: rest, locked := none }) _
  jvm_step X.here [X.here.top, hx, hd, hm', hret, hn]
  first | (intro acts; rw [hl _ acts rfl rfl rfl]) | rw [hl _ _ rfl rfl rfl]
  exact Steps.refl _
end New
end Jvm.RoadKit
namespace Jvm.Pilot.@@N@@
open Jvm Jvm.ClassFile Sem Op Lib Jvm.Free Jvm.Stand Jvm.LawKit Jvm.RoadKit Bundle Jvm.Pilot.@@N@@.Jvm.D
theorem own_mask31 (a : Int32) : 0 ≤ (a &&& (2147483647 : Int32)).toInt ∧ (a &&& (2147483647 : Int32)).toInt < 2147483648 := by
  have h : (a &&& (2147483647 : Int32)).toBitVec = a.toBitVec &&& 2147483647#32 := rfl
  have e : (a &&& (2147483647 : Int32)).toInt = (a.toBitVec &&& 2147483647#32).toInt := by rw [← h]; rfl
  have hm : (a.toBitVec &&& 2147483647#32).toNat ≤ 2147483647 := by rw [BitVec.toNat_and]; exact Nat.and_le_right
  rw [e, BitVec.toInt_eq_toNat_of_lt (by omega)]
  omega
theorem own_rem (u s : Int32) (hu : 0 ≤ u.toInt) (hs : 0 < s.toInt) : 0 ≤ (u % s).toInt ∧ (u % s).toInt < s.toInt := by
  have : (u % s).toInt = u.toInt.tmod s.toInt := Int32.toInt_mod ..
  rw [this, Int.tmod_eq_emod_of_nonneg hu]
  exact ⟨Int.emod_nonneg _ (by omega), Int.emod_lt_of_pos _ hs⟩
theorem own_i32_add (x y : Int32) (h1 : -2147483648 ≤ x.toInt + y.toInt) (h2 : x.toInt + y.toInt < 2147483648) : (x + y).toInt = x.toInt + y.toInt := by
  rw [Int32.toInt_add, Int.bmod_eq_of_le (by omega) (by omega)]
theorem own_i32_sub (x y : Int32) (h1 : -2147483648 ≤ x.toInt - y.toInt) (h2 : x.toInt - y.toInt < 2147483648) : (x - y).toInt = x.toInt - y.toInt := by
  rw [Int32.toInt_sub, Int.bmod_eq_of_le (by omega) (by omega)]
theorem own_i64_add (x y : Int64) (h1 : -9223372036854775808 ≤ x.toInt + y.toInt) (h2 : x.toInt + y.toInt < 9223372036854775808) : (x + y).toInt = x.toInt + y.toInt := by
  rw [Int64.toInt_add, Int.bmod_eq_of_le (by omega) (by omega)]
theorem own_i64_sub (x y : Int64) (h1 : -9223372036854775808 ≤ x.toInt - y.toInt) (h2 : x.toInt - y.toInt < 9223372036854775808) : (x - y).toInt = x.toInt - y.toInt := by
  rw [Int64.toInt_sub, Int.bmod_eq_of_le (by omega) (by omega)]
theorem own_i64_mul (x y : Int64) (h1 : -9223372036854775808 ≤ x.toInt * y.toInt) (h2 : x.toInt * y.toInt < 9223372036854775808) : (x * y).toInt = x.toInt * y.toInt := by
  rw [Int64.toInt_mul, Int.bmod_eq_of_le (by omega) (by omega)]
theorem own_i2l (x : Int32) : x.toInt64.toInt = x.toInt := Int32.toInt_toInt64 x
theorem own_l2i (x : Int64) (h1 : -2147483648 ≤ x.toInt) (h2 : x.toInt < 2147483648) : x.toInt32.toInt = x.toInt := by
  rw [Int64.toInt_toInt32, Int.bmod_eq_of_le (by omega) (by omega)]
theorem own_rangeI (x : Int32) : -2147483648 ≤ x.toInt ∧ x.toInt < 2147483648 := by
  have h1 := Int32.le_toInt x; have h2 := Int32.toInt_lt x; omega
theorem own_rangeL (x : Int64) : -9223372036854775808 ≤ x.toInt ∧ x.toInt < 9223372036854775808 := by
  have h1 := Int64.le_toInt x; have h2 := Int64.toInt_lt x; omega
theorem own_mask63 (a : Int64) : 0 ≤ (a &&& (9223372036854775807 : Int64)).toInt ∧ (a &&& (9223372036854775807 : Int64)).toInt < 9223372036854775808 := by
  have h : (a &&& (9223372036854775807 : Int64)).toBitVec = a.toBitVec &&& 9223372036854775807#64 := rfl
  have e : (a &&& (9223372036854775807 : Int64)).toInt = (a.toBitVec &&& 9223372036854775807#64).toInt := by rw [← h]; rfl
  have hm : (a.toBitVec &&& 9223372036854775807#64).toNat ≤ 9223372036854775807 := by rw [BitVec.toNat_and]; exact Nat.and_le_right
  rw [e, BitVec.toInt_eq_toNat_of_lt (by omega)]
  omega
theorem own_remL (u s : Int64) (hu : 0 ≤ u.toInt) (hs : 0 < s.toInt) : 0 ≤ (u % s).toInt ∧ (u % s).toInt < s.toInt := by
  have : (u % s).toInt = u.toInt.tmod s.toInt := Int64.toInt_mod ..
  rw [this, Int.tmod_eq_emod_of_nonneg hu]
  exact ⟨Int.emod_nonneg _ (by omega), Int.emod_lt_of_pos _ hs⟩
def own_bc (z : Int64) (b : Int32) : Int64 := (z / b.toInt64) + (if (z % b.toInt64) = (0 : Int64) then (0 : Int32) else (1 : Int32)).toInt64
theorem own_bc_int (z : Int64) (b : Int32) (hz : 0 ≤ z.toInt) (hb : 0 < b.toInt) :
    (own_bc z b).toInt = z.toInt / b.toInt + (if z.toInt % b.toInt = 0 then 0 else 1) := by
  have rz := own_rangeL z
  have eb : b.toInt64.toInt = b.toInt := own_i2l b
  have hq0 : 0 ≤ z.toInt / b.toInt := Int.ediv_nonneg hz (by omega)
  have hq1 : z.toInt / b.toInt ≤ z.toInt := Int.ediv_le_self _ hz
  have e1 : (z / b.toInt64).toInt = z.toInt / b.toInt := by
    rw [Int64.toInt_div, eb, Int.tdiv_eq_ediv_of_nonneg hz, Int.bmod_eq_of_le (by omega) (by omega)]
  have e2 : (z % b.toInt64).toInt = z.toInt % b.toInt := by
    rw [Int64.toInt_mod, eb, Int.tmod_eq_emod_of_nonneg hz]
  have e3 : ((z % b.toInt64) = (0 : Int64)) ↔ z.toInt % b.toInt = 0 := by
    rw [← Int64.toInt_inj, e2]; exact Iff.rfl
  unfold own_bc
  by_cases h : z.toInt % b.toInt = 0
  · rw [if_pos (e3.2 h), if_pos h]
    have t0 : (0 : Int32).toInt64.toInt = 0 := rfl
    rw [own_i64_add _ _ (by omega) (by omega), e1, t0]
  · rw [if_neg (fun q => h (e3.1 q)), if_neg h]
    have t1 : (1 : Int32).toInt64.toInt = 1 := rfl
    have hlt : z.toInt / b.toInt < 9223372036854775807 := by
      by_cases q : z.toInt / b.toInt < 9223372036854775807
      · exact q
      · exfalso
        have hzq : z.toInt = 9223372036854775807 := by omega
        have hm : b.toInt * (z.toInt / b.toInt) ≤ z.toInt := by rw [Int.mul_comm]; exact Int.ediv_mul_le _ (by omega)
        have hq : z.toInt / b.toInt = 9223372036854775807 := by omega
        rw [hq, hzq] at hm
        have : b.toInt = 1 := by omega
        rw [this] at h
        exact h (Int.emod_one _)
    rw [own_i64_add _ _ (by omega) (by omega), e1, t1]
theorem own_blk (a : Int32) : 4096 ≤ ((4096 : Int32) + ((a &&& (2147483647 : Int32)) % (16773121 : Int32))).toInt ∧ ((4096 : Int32) + ((a &&& (2147483647 : Int32)) % (16773121 : Int32))).toInt ≤ 16777216 := by
  have h1 := own_mask31 a
  have h2 := own_rem (a &&& (2147483647 : Int32)) (16773121 : Int32) h1.1 (by decide)
  have e1 : (4096 : Int32).toInt = 4096 := rfl
  have e2 : (16773121 : Int32).toInt = 16773121 := rfl
  rw [own_i32_add _ _ (by omega) (by omega)]
  omega
theorem own_max (v13 : Int32) (h1 : 4096 ≤ v13.toInt) (h2 : v13.toInt ≤ 16777216) : (((2147483647 : Int64) * v13.toInt64) + (1 : Int64)).toInt = 2147483647 * v13.toInt + 1 := by
  have t0 : (2147483647 : Int64).toInt = 2147483647 := rfl
  have t1 : (1 : Int64).toInt = 1 := rfl
  have eb : v13.toInt64.toInt = v13.toInt := own_i2l v13
  have e1 : ((2147483647 : Int64) * v13.toInt64).toInt = 2147483647 * v13.toInt := by rw [own_i64_mul _ _ (by rw [t0, eb]; omega) (by rw [t0, eb]; omega), t0, eb]
  rw [own_i64_add _ _ (by omega) (by omega), e1, t1]
theorem own_core (ls : Int64) (bs : Int32) (v13 : Int32) (hv13 : v13 = ((4096 : Int32) + ((bs &&& (2147483647 : Int32)) % (16773121 : Int32)))) (v18 : Int64) (hv18 : v18 = (v13.toInt64)) (v26 : Int64) (hv26 : v26 = ((2147483647 : Int64) * v18)) (v38 : Int64) (hv38 : v38 = ((ls &&& (9223372036854775807 : Int64)) % (v26 + (1 : Int64)))) :
    4096 ≤ v13.toInt ∧ v13.toInt ≤ 16777216 ∧ v18.toInt = v13.toInt ∧ 0 ≤ v38.toInt ∧ ∃ N : Int, 0 ≤ N ∧ N ≤ 2147483647 ∧ (own_bc v38 v13).toInt = N ∧ v38.toInt ≤ N * v13.toInt ∧ (N = 0 → v38.toInt = 0) ∧ (N ≠ 0 → (N - 1) * v13.toInt < v38.toInt) := by
  have hb := own_blk bs
  rw [← hv13] at hb
  have h63 := own_mask63 ls
  have hM := own_max v13 hb.1 hb.2
  rw [← hv18, ← hv26] at hM
  have hr := own_remL (ls &&& (9223372036854775807 : Int64)) (v26 + (1 : Int64)) h63.1 (by rw [hM]; omega)
  rw [← hv38, hM] at hr
  have hN := own_bc_int v38 v13 hr.1 (by omega)
  refine ⟨hb.1, hb.2, by rw [hv18]; exact own_i2l v13, hr.1, _, ?_, ?_, hN, ?_⟩
  · have : 0 ≤ v38.toInt / v13.toInt := Int.ediv_nonneg hr.1 (by omega)
    split <;> omega
  · have hd := Int.mul_ediv_add_emod v38.toInt v13.toInt
    have hm := Int.emod_nonneg v38.toInt (show v13.toInt ≠ 0 by omega)
    generalize v38.toInt / v13.toInt = k at *
    generalize hB : v13.toInt = B at *
    split
    · rename_i h0
      have : B * k ≤ B * 2147483647 := by omega
      have := Int.le_of_mul_le_mul_left this (by omega)
      omega
    · rename_i h0
      have : B * k < B * 2147483647 := by omega
      have := Int.lt_of_mul_lt_mul_left this (by omega)
      omega
  · have hd := Int.mul_ediv_add_emod v38.toInt v13.toInt
    have hm := Int.emod_nonneg v38.toInt (show v13.toInt ≠ 0 by omega)
    have hl := Int.emod_lt_of_pos v38.toInt (show 0 < v13.toInt by omega)
    generalize v38.toInt / v13.toInt = k at *
    generalize v13.toInt = B at *
    split
    · rename_i h0
      refine ⟨by rw [Int.add_zero, Int.mul_comm]; omega, fun q => ?_, fun q => ?_⟩
      · have : k = 0 := by omega
        subst this
        omega
      · rw [Int.add_zero, Int.sub_mul, Int.mul_comm k B]; omega
    · rename_i h0
      refine ⟨by rw [Int.add_mul, Int.mul_comm k B]; omega, fun q => ?_, fun q => ?_⟩
      · have : k = -1 := by omega
        subst this
        omega
      · rw [Int.add_sub_cancel, Int.mul_comm k B]; omega
theorem own_n (x : Int64) (N : Int) (h : x.toInt = N) (h0 : 0 ≤ N) (h1 : N ≤ 2147483647) : x.toInt32.toInt = N := by
  rw [own_l2i x (by omega) (by omega), h]
theorem own_prod (n : Int32) (v18 : Int64) (B : Int) (h0 : 0 ≤ n.toInt) (hB : v18.toInt = B) (hB0 : 4096 ≤ B) (hB1 : B ≤ 16777216) : (n.toInt64 * v18).toInt = n.toInt * B := by
  have r := own_rangeI n
  have e := own_i2l n
  have hle : n.toInt * B ≤ 2147483647 * 16777216 := Int.mul_le_mul (by omega) hB1 (by omega) (by omega)
  have hge : 0 ≤ n.toInt * B := Int.mul_nonneg h0 (by omega)
  rw [own_i64_mul _ _ (by rw [e, hB]; omega) (by rw [e, hB]; omega), e, hB]
theorem d1_0 : decode prog_39_method_5_code 0 = .ok (.lload_n 0, 1) := by decide +kernel
theorem d1_1 : decode prog_39_method_5_code 1 = .ok (.iload_n 2, 1) := by decide +kernel
theorem d1_2 : decode prog_39_method_5_code 2 = .ok (.i2l, 1) := by decide +kernel
theorem d1_3 : decode prog_39_method_5_code 3 = .ok (.ldiv, 1) := by decide +kernel
theorem d1_4 : decode prog_39_method_5_code 4 = .ok (.lload_n 0, 1) := by decide +kernel
theorem d1_5 : decode prog_39_method_5_code 5 = .ok (.iload_n 2, 1) := by decide +kernel
theorem d1_6 : decode prog_39_method_5_code 6 = .ok (.i2l, 1) := by decide +kernel
theorem d1_7 : decode prog_39_method_5_code 7 = .ok (.lrem, 1) := by decide +kernel
theorem d1_8 : decode prog_39_method_5_code 8 = .ok (.lconst 0, 1) := by decide +kernel
theorem d1_9 : decode prog_39_method_5_code 9 = .ok (.lcmp, 1) := by decide +kernel
theorem d1_10 : decode prog_39_method_5_code 10 = .ok (.ifCond .ne 7, 3) := by decide +kernel
theorem d1_13 : decode prog_39_method_5_code 13 = .ok (.iconst 0, 1) := by decide +kernel
theorem d1_14 : decode prog_39_method_5_code 14 = .ok (.goto 4, 3) := by decide +kernel
theorem d1_17 : decode prog_39_method_5_code 17 = .ok (.iconst 1, 1) := by decide +kernel
theorem d1_18 : decode prog_39_method_5_code 18 = .ok (.i2l, 1) := by decide +kernel
theorem d1_19 : decode prog_39_method_5_code 19 = .ok (.ladd, 1) := by decide +kernel
theorem d1_20 : decode prog_39_method_5_code 20 = .ok (.lstore_n 3, 1) := by decide +kernel
theorem d1_21 : decode prog_39_method_5_code 21 = .ok (.lload_n 3, 1) := by decide +kernel
theorem d1_22 : decode prog_39_method_5_code 22 = .ok (.ldc2_w 47, 3) := by decide +kernel
theorem d1_25 : decode prog_39_method_5_code 25 = .ok (.lcmp, 1) := by decide +kernel
theorem d1_26 : decode prog_39_method_5_code 26 = .ok (.ifCond .le 18, 3) := by decide +kernel
theorem d1_44 : decode prog_39_method_5_code 44 = .ok (.lload_n 3, 1) := by decide +kernel
theorem d1_45 : decode prog_39_method_5_code 45 = .ok (.l2i, 1) := by decide +kernel
theorem d1_46 : decode prog_39_method_5_code 46 = .ok (.ireturn, 1) := by decide +kernel
theorem pn_1 : plainName "com/example/talence/talence/model/ObjectLayout" = true := by first | (simp [plainName, overriddenIn]; done) | decide +kernel
theorem ef_1 (m : MethodId) (x0 : Int64) (x1 : Int32) : entryFrame m #[(.long x0), (.int x1)] 5 = mkF m 0 #[.val (.long x0), .second, .val (.int x1), .unset, .unset] [] := by first | (simp [entryFrame, mkF, argsToLocals, Value.category]; done) | rfl
theorem own_side_1_3 (z : Int64) (b : Int32) (hb0 : ¬ (b.toInt64 = (0 : Int64))) (hq : ¬ ((2147483647 : Int64) < own_bc z b)) : ¬ ((b.toInt64) = (0 : Int64)) := hb0
theorem own_side_1_7 (z : Int64) (b : Int32) (hb0 : ¬ (b.toInt64 = (0 : Int64))) (hq : ¬ ((2147483647 : Int64) < own_bc z b)) : ¬ ((b.toInt64) = (0 : Int64)) := hb0
theorem own_dead_1_26_f (z : Int64) (b : Int32) (hb0 : ¬ (b.toInt64 = (0 : Int64))) (hq : ¬ ((2147483647 : Int64) < own_bc z b)) (m18 : Int32) (hm18 : m18 = (if (z % (b.toInt64)) = (0 : Int64) then (0 : Int32) else (1 : Int32))) (v20 : Int64) (hv20 : v20 = ((z / (b.toInt64)) + (m18.toInt64))) (hc26_6 : (2147483647 : Int64) < v20) : False := by subst_vars; exact absurd (by assumption) hq
theorem own_leaf_1_46_t (z : Int64) (b : Int32) (hb0 : ¬ (b.toInt64 = (0 : Int64))) (hq : ¬ ((2147483647 : Int64) < own_bc z b)) (m18 : Int32) (hm18 : m18 = (if (z % (b.toInt64)) = (0 : Int64) then (0 : Int32) else (1 : Int32))) (v20 : Int64) (hv20 : v20 = ((z / (b.toInt64)) + (m18.toInt64))) (hc26_6 : ¬ ((2147483647 : Int64) < v20)) : (v20.toInt32) = (own_bc z b).toInt32 := by subst_vars; rfl
def Q1 (Z : State) (z : Int64) (b : Int32) (h0 : Heap) (n0 : Nat) (v : Option Value) (h : Heap) (L : List Loc) : Prop := v = some (.int (own_bc z b).toInt32) ∧ Fr n0 L ∧ h = h0
set_option maxRecDepth 65536 in
set_option maxHeartbeats 40000000 in
theorem rm1 (l : Launch) (Z : State) (a0 : Array Value) (hw : ∀ d ∈ tables_1, d.before a0 Z = true) (ws : List Jvm.Cond) (z : Int64) (b : Int32) (h0 : Heap) (n0 : Nat) (Z0 : n0 ≤ h0.size) (hb0 : ¬ (b.toInt64 = (0 : Int64))) (hq : ¬ ((2147483647 : Int64) < own_bc z b)) :
    MetFree l (⟨"com/example/talence/talence/model/ObjectLayout", "blockCount", "(JI)I"⟩ : MethodName) (head1 (Jvm.Cond.code (⟨"com/example/talence/talence/model/ObjectLayout", "blockCount", "(JI)I"⟩ : MethodName) prog_39_method_5_code 5 (some .int) :: ws) ({ frames := 0, cells := 0, slots := 0, locals := 0 } : Room)) (fun a U => a = #[(.long z), (.int b)] ∧ Z.Warmed39 U.vm ∧ U.heap = h0) (fun _ _ _ _ _ => True) (fun _ U o U' => ∃ v L, o = .returned v ∧ Q1 Z z b h0 n0 v U'.heap L ∧ FrameEnd U o U' L ({ frames := 0, cells := 0, slots := 0, locals := 0 } : Room).cells ({ frames := 0, cells := 0, slots := 0, locals := 0 } : Room).slots) := by
  refine MetFree.of_bodySF (plainFor_of_name pn_1) hisR ?_
  intro p e s m args below meth c s₁ Bd hml0 hP hK
  obtain ⟨rfl, hZ, hh⟩ := hP
  have hx := Bd.exec
  have hby := Bd.bytes
  have hml : c.maxLocals = 5 := hml0
  have hown : s.vm.findClass "com/example/talence/talence/model/ObjectLayout" = some m.cls := findClass_of_methodNamed Bd.named
  have hnm := (name_of_methodNamed Bd.named Bd.method).1
  have X0 : Stand p l e ({ frames := 0, cells := 0, slots := 0, locals := 0 } : Room) s m #[(.long z), (.int b)] below meth c s₁ [] 0 0 := Stand.of_body Bd
  have e0 : s₁.heap = h0 := by rw [← hh, Bd.state]; rfl
  have N0 := Fr.nil n0
  have K0 : Keep h0 h0 [] := Keep.refl h0 _
  have pre0 : ∀ tq, Steps p.tables e below (s₁.setTop (mkF m 0 #[.val (.long z), .second, .val (.int b), .unset, .unset] [])) tq → Steps p.tables e below (s₁.setTop (entryFrame m #[(.long z), (.int b)] 5)) tq := fun tq kq => castTop (ef_1 m z b) kq
  have hnz3_1 : ¬ ((b.toInt64) = (0 : Int64)) := (own_side_1_3 z b hb0 hq)
  have hnz7_2 : ¬ ((b.toInt64) = (0 : Int64)) := (own_side_1_7 z b hb0 hq)
  obtain ⟨m18, hm18⟩ : ∃ z_q : Int32, z_q = (if (z % (b.toInt64)) = (0 : Int64) then (0 : Int32) else (1 : Int32)) := ⟨_, rfl⟩
  have pre4 : ∀ tq, Steps p.tables e below (s₁.setTop (mkF m 18 #[.val (.long z), .second, .val (.int b), .unset, .unset] [(.int m18), (.long (z / (b.toInt64)))])) tq → Steps p.tables e below (s₁.setTop (entryFrame m #[(.long z), (.int b)] 5)) tq := by
    intro tq kt
    refine pre0 _ ?_
    show Steps p.tables e below (s₁.setTop (mkF m 0 #[.val (.long z), .second, .val (.int b), .unset, .unset] [])) _
    refine XS.lloadN X0.here hx rfl (hb hby d1_0) rfl ?_
    show Steps p.tables e below (s₁.setTop (mkF m 1 #[.val (.long z), .second, .val (.int b), .unset, .unset] [(.long z)])) _
    refine XS.iloadN X0.here hx rfl (hb hby d1_1) rfl ?_
    show Steps p.tables e below (s₁.setTop (mkF m 2 #[.val (.long z), .second, .val (.int b), .unset, .unset] [(.int b), (.long z)])) _
    refine XS.i2l X0.here hx rfl (hb hby d1_2) rfl ?_
    show Steps p.tables e below (s₁.setTop (mkF m 3 #[.val (.long z), .second, .val (.int b), .unset, .unset] [(.long (b.toInt64)), (.long z)])) _
    refine XS.ldiv X0.here hx rfl (hb hby d1_3) rfl hnz3_1 ?_
    show Steps p.tables e below (s₁.setTop (mkF m 4 #[.val (.long z), .second, .val (.int b), .unset, .unset] [(.long (z / (b.toInt64)))])) _
    refine XS.lloadN X0.here hx rfl (hb hby d1_4) rfl ?_
    show Steps p.tables e below (s₁.setTop (mkF m 5 #[.val (.long z), .second, .val (.int b), .unset, .unset] [(.long z), (.long (z / (b.toInt64)))])) _
    refine XS.iloadN X0.here hx rfl (hb hby d1_5) rfl ?_
    show Steps p.tables e below (s₁.setTop (mkF m 6 #[.val (.long z), .second, .val (.int b), .unset, .unset] [(.int b), (.long z), (.long (z / (b.toInt64)))])) _
    refine XS.i2l X0.here hx rfl (hb hby d1_6) rfl ?_
    show Steps p.tables e below (s₁.setTop (mkF m 7 #[.val (.long z), .second, .val (.int b), .unset, .unset] [(.long (b.toInt64)), (.long z), (.long (z / (b.toInt64)))])) _
    refine XS.lrem X0.here hx rfl (hb hby d1_7) rfl hnz7_2 ?_
    rw [lrem_mod]
    show Steps p.tables e below (s₁.setTop (mkF m 8 #[.val (.long z), .second, .val (.int b), .unset, .unset] [(.long (z % (b.toInt64))), (.long (z / (b.toInt64)))])) _
    refine XS.lconst X0.here hx rfl (hb hby d1_8) ?_
    show Steps p.tables e below (s₁.setTop (mkF m 9 #[.val (.long z), .second, .val (.int b), .unset, .unset] [(.long (0 : Int64)), (.long (z % (b.toInt64))), (.long (z / (b.toInt64)))])) _
    refine XS.lcmp X0.here hx rfl (hb hby d1_9) rfl ?_
    by_cases d3 : (z % (b.toInt64)) = (0 : Int64)
    · skip
      show Steps p.tables e below (s₁.setTop (mkF m 10 #[.val (.long z), .second, .val (.int b), .unset, .unset] [(.int (lcmpW (z % (b.toInt64)) (0 : Int64))), (.long (z / (b.toInt64)))])) _
      refine XS.ifNo X0.here hx rfl (hb hby d1_10) rfl ((if0 _ _).trans (teq ((lw_eq (z % (b.toInt64)) (0 : Int64)).2 d3)).2) ?_
      show Steps p.tables e below (s₁.setTop (mkF m 13 #[.val (.long z), .second, .val (.int b), .unset, .unset] [(.long (z / (b.toInt64)))])) _
      refine XS.iconst X0.here hx rfl (hb hby d1_13) ?_
      show Steps p.tables e below (s₁.setTop (mkF m 14 #[.val (.long z), .second, .val (.int b), .unset, .unset] [(.int (0 : Int32)), (.long (z / (b.toInt64)))])) _
      refine XS.goto X0.here hx rfl (pc0 := 14) (pc' := 18) rfl (hb hby d1_14) (by decide) (by decide) ?_
      show Steps p.tables e below (s₁.setTop (mkF m 18 #[.val (.long z), .second, .val (.int b), .unset, .unset] [(.int (0 : Int32)), (.long (z / (b.toInt64)))])) _
      exact castTop (by simp only [hm18, if_pos d3]) kt
    · skip
      show Steps p.tables e below (s₁.setTop (mkF m 10 #[.val (.long z), .second, .val (.int b), .unset, .unset] [(.int (lcmpW (z % (b.toInt64)) (0 : Int64))), (.long (z / (b.toInt64)))])) _
      refine XS.ifYes X0.here hx rfl (pc0 := 10) (pc' := 17) rfl (hb hby d1_10) rfl ((if0 _ _).trans (feq (mt (lw_eq (z % (b.toInt64)) (0 : Int64)).1 d3)).2) (by decide) (by decide) ?_
      show Steps p.tables e below (s₁.setTop (mkF m 17 #[.val (.long z), .second, .val (.int b), .unset, .unset] [(.long (z / (b.toInt64)))])) _
      refine XS.iconst X0.here hx rfl (hb hby d1_17) ?_
      show Steps p.tables e below (s₁.setTop (mkF m 18 #[.val (.long z), .second, .val (.int b), .unset, .unset] [(.int (1 : Int32)), (.long (z / (b.toInt64)))])) _
      exact castTop (by simp only [hm18, if_neg d3]) kt
  obtain ⟨v20, hv20⟩ : ∃ z_q : Int64, z_q = ((z / (b.toInt64)) + (m18.toInt64)) := ⟨_, rfl⟩
  have pre5 : ∀ tq, Steps p.tables e below (s₁.setTop (mkF m 26 #[.val (.long z), .second, .val (.int b), .val (.long v20), .second] [(.int (lcmpW v20 (2147483647 : Int64)))])) tq → Steps p.tables e below (s₁.setTop (entryFrame m #[(.long z), (.int b)] 5)) tq := by
    intro tq kt
    refine pre4 _ ?_
    show Steps p.tables e below (s₁.setTop (mkF m 18 #[.val (.long z), .second, .val (.int b), .unset, .unset] [(.int m18), (.long (z / (b.toInt64)))])) _
    refine XS.i2l X0.here hx rfl (hb hby d1_18) rfl ?_
    show Steps p.tables e below (s₁.setTop (mkF m 19 #[.val (.long z), .second, .val (.int b), .unset, .unset] [(.long (m18.toInt64)), (.long (z / (b.toInt64)))])) _
    refine XS.ladd X0.here hx rfl (hb hby d1_19) rfl ?_
    show Steps p.tables e below (s₁.setTop (mkF m 20 #[.val (.long z), .second, .val (.int b), .unset, .unset] [(.long ((z / (b.toInt64)) + (m18.toInt64)))])) _
    refine XS.lstoreN X0.here hx rfl (hb hby d1_20) rfl (l' := #[.val (.long z), .second, .val (.int b), .val (.long v20), .second]) (by rw [hv20]; rfl) ?_
    show Steps p.tables e below (s₁.setTop (mkF m 21 #[.val (.long z), .second, .val (.int b), .val (.long v20), .second] [])) _
    refine XS.lloadN X0.here hx rfl (hb hby d1_21) rfl ?_
    show Steps p.tables e below (s₁.setTop (mkF m 22 #[.val (.long z), .second, .val (.int b), .val (.long v20), .second] [(.long v20)])) _
    refine X0.ldc2Long hx hown (mvT hZ (hw _ (List.mem_of_getElem? (i := 8) rfl))) (g := (mkF m 22 #[.val (.long z), .second, .val (.int b), .val (.long v20), .second] [(.long v20)])) rfl (hb hby d1_22) _ ?_
    show Steps p.tables e below (s₁.setTop (mkF m 25 #[.val (.long z), .second, .val (.int b), .val (.long v20), .second] [(.long (2147483647 : Int64)), (.long v20)])) _
    refine XS.lcmp X0.here hx rfl (hb hby d1_25) rfl ?_
    show Steps p.tables e below (s₁.setTop (mkF m 26 #[.val (.long z), .second, .val (.int b), .val (.long v20), .second] [(.int (lcmpW v20 (2147483647 : Int64)))])) _
    exact kt
  by_cases hc26_6 : (2147483647 : Int64) < v20
  · skip
    exact (own_dead_1_26_f z b hb0 hq m18 hm18 v20 hv20 hc26_6).elim
  · skip
    obtain ⟨fs, hr, hrun, hended, hW, hsame⟩ := X0.leave (v := some (Value.int (v20.toInt32))) (fun h => by rw [Bd.returns] at h; cases h)
    have hres7 : (v20.toInt32) = (own_bc z b).toInt32 := (own_leaf_1_46_t z b hb0 hq m18 hm18 v20 hv20 hc26_6)
    refine ⟨_, _, pre5 _ ?_, hrun, hended, _, _, rfl, ?_, ⟨_, rfl⟩, hW, hsame.mono (by decide) (by decide)⟩
    · skip
      show Steps p.tables e below (s₁.setTop (mkF m 26 #[.val (.long z), .second, .val (.int b), .val (.long v20), .second] [(.int (lcmpW v20 (2147483647 : Int64)))])) _
      refine XS.ifYes X0.here hx rfl (pc0 := 26) (pc' := 44) rfl (hb hby d1_26) rfl ((if0 _ _).trans (flt (mt (lw_gt v20 (2147483647 : Int64)).1 hc26_6)).2.2.2) (by decide) (by decide) ?_
      show Steps p.tables e below (s₁.setTop (mkF m 44 #[.val (.long z), .second, .val (.int b), .val (.long v20), .second] [])) _
      refine XS.lloadN X0.here hx rfl (hb hby d1_44) rfl ?_
      show Steps p.tables e below (s₁.setTop (mkF m 45 #[.val (.long z), .second, .val (.int b), .val (.long v20), .second] [(.long v20)])) _
      refine XS.l2i X0.here hx rfl (hb hby d1_45) rfl ?_
      show Steps p.tables e below (s₁.setTop (mkF m 46 #[.val (.long z), .second, .val (.int b), .val (.long v20), .second] [(.int (v20.toInt32))])) _
      exact retI X0 hx Bd.returns (hb hby d1_46) hr
    · show Q1 Z z b h0 n0 _ s₁.heap _
      rw [e0]
      exact ⟨congrArg (fun z => some (Value.int z)) hres7, N0, rfl⟩
theorem pn_0 : plainName "com/example/talence/talence/model/ObjectLayoutBlockCountPinLaw" = true := by first | (simp [plainName, overriddenIn]; done) | decide +kernel
theorem pd_0 : parseMethodDescriptor "(JI)I" = some ⟨[.long, .int], some .int⟩ := by decide +kernel
theorem ef_0 (m : MethodId) (x0 : Int64) (x1 : Int32) : entryFrame m #[(.long x0), (.int x1)] maxLocals = mkF m 0 #[.val (.long x0), .second, .val (.int x1), .unset, .unset, .unset, .unset, .unset, .unset, .unset, .unset, .unset] [] := by first | (simp [entryFrame, mkF, argsToLocals, Value.category, maxLocals]; done) | rfl
theorem own_side_0_37 (ls : Int64) (bs : Int32) (v13 : Int32) (hv13 : v13 = ((4096 : Int32) + ((bs &&& (2147483647 : Int32)) % (16773121 : Int32)))) (v18 : Int64) (hv18 : v18 = (v13.toInt64)) (v26 : Int64) (hv26 : v26 = ((2147483647 : Int64) * v18)) : ¬ ((v26 + (1 : Int64)) = (0 : Int64)) := by
  have hb := own_blk bs
  rw [← hv13] at hb
  have hM := own_max v13 hb.1 hb.2
  rw [← hv18, ← hv26] at hM
  intro q
  rw [q] at hM
  have : (0 : Int64).toInt = 0 := rfl
  omega
theorem own_pre_0_44_hb0 (ls : Int64) (bs : Int32) (v13 : Int32) (hv13 : v13 = ((4096 : Int32) + ((bs &&& (2147483647 : Int32)) % (16773121 : Int32)))) (v18 : Int64) (hv18 : v18 = (v13.toInt64)) (v26 : Int64) (hv26 : v26 = ((2147483647 : Int64) * v18)) (v38 : Int64) (hv38 : v38 = ((ls &&& (9223372036854775807 : Int64)) % (v26 + (1 : Int64)))) : ¬ (v13.toInt64 = (0 : Int64)) := by
  obtain ⟨b1, b2, e18, z0, N, n0, n1, eN, k1, k2, k3⟩ := own_core ls bs v13 hv13 v18 hv18 v26 hv26 v38 hv38
  intro q
  have q2 := congrArg Int64.toInt q
  rw [own_i2l] at q2
  have : (0 : Int64).toInt = 0 := rfl
  omega
theorem own_pre_0_44_hq (ls : Int64) (bs : Int32) (v13 : Int32) (hv13 : v13 = ((4096 : Int32) + ((bs &&& (2147483647 : Int32)) % (16773121 : Int32)))) (v18 : Int64) (hv18 : v18 = (v13.toInt64)) (v26 : Int64) (hv26 : v26 = ((2147483647 : Int64) * v18)) (v38 : Int64) (hv38 : v38 = ((ls &&& (9223372036854775807 : Int64)) % (v26 + (1 : Int64)))) (hp2_hb0 : ¬ (v13.toInt64 = (0 : Int64))) : ¬ ((2147483647 : Int64) < own_bc v38 v13) := by
  obtain ⟨b1, b2, e18, z0, N, n0, n1, eN, k1, k2, k3⟩ := own_core ls bs v13 hv13 v18 hv18 v26 hv26 v38 hv38
  rw [Int64.lt_iff_toInt_lt, eN]
  have : (2147483647 : Int64).toInt = 2147483647 := rfl
  omega
theorem own_leaf_0_55_f (ls : Int64) (bs : Int32) (v13 : Int32) (hv13 : v13 = ((4096 : Int32) + ((bs &&& (2147483647 : Int32)) % (16773121 : Int32)))) (v18 : Int64) (hv18 : v18 = (v13.toInt64)) (v26 : Int64) (hv26 : v26 = ((2147483647 : Int64) * v18)) (v38 : Int64) (hv38 : v38 = ((ls &&& (9223372036854775807 : Int64)) % (v26 + (1 : Int64)))) (hp2_hb0 : ¬ (v13.toInt64 = (0 : Int64))) (hp2_hq : ¬ ((2147483647 : Int64) < own_bc v38 v13)) (r44 : Int32) (hr44 : r44 = (own_bc v38 v13).toInt32) (hc51_4 : r44 < (0 : Int32)) : (0 : Int32) = (1 : Int32) := by
  exfalso
  obtain ⟨b1, b2, e18, z0, N, n0, n1, eN, k1, k2, k3⟩ := own_core ls bs v13 hv13 v18 hv18 v26 hv26 v38 hv38
  have en := own_n _ N eN n0 n1
  rw [← hr44] at en
  have h := (Int32.lt_iff_toInt_lt.1 (by assumption : r44 < (0 : Int32)))
  have : (0 : Int32).toInt = 0 := rfl
  omega
theorem own_leaf_0_69_tf (ls : Int64) (bs : Int32) (v13 : Int32) (hv13 : v13 = ((4096 : Int32) + ((bs &&& (2147483647 : Int32)) % (16773121 : Int32)))) (v18 : Int64) (hv18 : v18 = (v13.toInt64)) (v26 : Int64) (hv26 : v26 = ((2147483647 : Int64) * v18)) (v38 : Int64) (hv38 : v38 = ((ls &&& (9223372036854775807 : Int64)) % (v26 + (1 : Int64)))) (hp2_hb0 : ¬ (v13.toInt64 = (0 : Int64))) (hp2_hq : ¬ ((2147483647 : Int64) < own_bc v38 v13)) (r44 : Int32) (hr44 : r44 = (own_bc v38 v13).toInt32) (hc51_4 : ¬ (r44 < (0 : Int32))) (hc65_7 : ((r44.toInt64) * v18) < v38) : (0 : Int32) = (1 : Int32) := by
  exfalso
  obtain ⟨b1, b2, e18, z0, N, n0, n1, eN, k1, k2, k3⟩ := own_core ls bs v13 hv13 v18 hv18 v26 hv26 v38 hv38
  have en := own_n _ N eN n0 n1
  rw [← hr44] at en
  have h := (Int64.lt_iff_toInt_lt.1 (by assumption : (r44.toInt64) * v18 < v38))
  rw [own_prod r44 v18 v13.toInt (by omega) e18 b1 b2, en] at h
  omega
theorem own_leaf_0_87_ttf (ls : Int64) (bs : Int32) (v13 : Int32) (hv13 : v13 = ((4096 : Int32) + ((bs &&& (2147483647 : Int32)) % (16773121 : Int32)))) (v18 : Int64) (hv18 : v18 = (v13.toInt64)) (v26 : Int64) (hv26 : v26 = ((2147483647 : Int64) * v18)) (v38 : Int64) (hv38 : v38 = ((ls &&& (9223372036854775807 : Int64)) % (v26 + (1 : Int64)))) (hp2_hb0 : ¬ (v13.toInt64 = (0 : Int64))) (hp2_hq : ¬ ((2147483647 : Int64) < own_bc v38 v13)) (r44 : Int32) (hr44 : r44 = (own_bc v38 v13).toInt32) (hc51_4 : ¬ (r44 < (0 : Int32))) (hc65_7 : ¬ (((r44.toInt64) * v18) < v38)) (hc72_10 : r44 = (0 : Int32)) (m87 : Int32) (hm87 : m87 = (if v38 = (0 : Int64) then (1 : Int32) else (0 : Int32))) : (nar .boolean m87) = (1 : Int32) := by
  obtain ⟨b1, b2, e18, z0, N, n0, n1, eN, k1, k2, k3⟩ := own_core ls bs v13 hv13 v18 hv18 v26 hv26 v38 hv38
  have en := own_n _ N eN n0 n1
  rw [← hr44] at en
  have hr : r44 = (0 : Int32) := by assumption
  rw [hr] at en
  have t : (0 : Int32).toInt = 0 := rfl
  have hv : v38 = 0 := Int64.toInt_inj.1 (by rw [k2 (by omega)]; rfl)
  rw [hm87, if_pos hv]; rfl
theorem own_leaf_0_107_ttt (ls : Int64) (bs : Int32) (v13 : Int32) (hv13 : v13 = ((4096 : Int32) + ((bs &&& (2147483647 : Int32)) % (16773121 : Int32)))) (v18 : Int64) (hv18 : v18 = (v13.toInt64)) (v26 : Int64) (hv26 : v26 = ((2147483647 : Int64) * v18)) (v38 : Int64) (hv38 : v38 = ((ls &&& (9223372036854775807 : Int64)) % (v26 + (1 : Int64)))) (hp2_hb0 : ¬ (v13.toInt64 = (0 : Int64))) (hp2_hq : ¬ ((2147483647 : Int64) < own_bc v38 v13)) (r44 : Int32) (hr44 : r44 = (own_bc v38 v13).toInt32) (hc51_4 : ¬ (r44 < (0 : Int32))) (hc65_7 : ¬ (((r44.toInt64) * v18) < v38)) (hc72_10 : ¬ (r44 = (0 : Int32))) (m107 : Int32) (hm107 : m107 = (if (((r44 - (1 : Int32)).toInt64) * v18) < v38 then (1 : Int32) else (0 : Int32))) : (nar .boolean m107) = (1 : Int32) := by
  obtain ⟨b1, b2, e18, z0, N, n0, n1, eN, k1, k2, k3⟩ := own_core ls bs v13 hv13 v18 hv18 v26 hv26 v38 hv38
  have en := own_n _ N eN n0 n1
  rw [← hr44] at en
  have hr : ¬ (r44 = (0 : Int32)) := by assumption
  have hN : N ≠ 0 := fun q => hr (Int32.toInt_inj.1 (by rw [en, q]; rfl))
  have t1 : (1 : Int32).toInt = 1 := rfl
  have es : (r44 - (1 : Int32)).toInt = N - 1 := by rw [own_i32_sub _ _ (by omega) (by omega), en, t1]
  have hlt : ((r44 - (1 : Int32)).toInt64) * v18 < v38 := by
    rw [Int64.lt_iff_toInt_lt, own_prod _ v18 v13.toInt (by omega) e18 b1 b2, es]
    exact k3 hN
  rw [hm107, if_pos hlt]; rfl
def Q0 (Z : State) (ls : Int64) (bs : Int32) (h0 : Heap) (n0 : Nat) (v : Option Value) (h : Heap) (L : List Loc) : Prop := v = some (.int (1 : Int32)) ∧ Fr n0 L
set_option maxRecDepth 65536 in
set_option maxHeartbeats 40000000 in
theorem rm0 (l : Launch) (Z : State) (a0 : Array Value) (hw : ∀ d ∈ tables_1, d.before a0 Z = true) (ws : List Jvm.Cond) (ls : Int64) (bs : Int32) (h0 : Heap) (n0 : Nat) (Z0 : n0 ≤ h0.size)  :
    MetFree l x (head1 (Jvm.Cond.code x code maxLocals ret :: ws) room_1) (fun a U => a = #[(.long ls), (.int bs)] ∧ Z.Warmed39 U.vm ∧ U.heap = h0) (fun _ _ _ _ _ => True) (fun _ U o U' => ∃ v L, o = .returned v ∧ Q0 Z ls bs h0 n0 v U'.heap L ∧ FrameEnd U o U' L room_1.cells room_1.slots) := by
  refine MetFree.of_bodySF (plainFor_of_name pn_0) hisR ?_
  intro p e s m args below meth c s₁ Bd hml0 hP hK
  obtain ⟨rfl, hZ, hh⟩ := hP
  have hx := Bd.exec
  have hby := Bd.bytes
  have hml : c.maxLocals = 12 := hml0
  have hown : s.vm.findClass "com/example/talence/talence/model/ObjectLayoutBlockCountPinLaw" = some m.cls := findClass_of_methodNamed Bd.named
  have hnm := (name_of_methodNamed Bd.named Bd.method).1
  have X0 : Stand p l e room_1 s m #[(.long ls), (.int bs)] below meth c s₁ [] 0 0 := Stand.of_body Bd
  have e0 : s₁.heap = h0 := by rw [← hh, Bd.state]; rfl
  have N0 := Fr.nil n0
  have K0 : Keep h0 h0 [] := Keep.refl h0 _
  have pre0 : ∀ tq, Steps p.tables e below (s₁.setTop (mkF m 0 #[.val (.long ls), .second, .val (.int bs), .unset, .unset, .unset, .unset, .unset, .unset, .unset, .unset, .unset] [])) tq → Steps p.tables e below (s₁.setTop (entryFrame m #[(.long ls), (.int bs)] maxLocals)) tq := fun tq kq => castTop (ef_0 m ls bs) kq
  obtain ⟨v13, hv13⟩ : ∃ z_q : Int32, z_q = ((4096 : Int32) + ((bs &&& (2147483647 : Int32)) % (16773121 : Int32))) := ⟨_, rfl⟩
  obtain ⟨v18, hv18⟩ : ∃ z_q : Int64, z_q = (v13.toInt64) := ⟨_, rfl⟩
  obtain ⟨v26, hv26⟩ : ∃ z_q : Int64, z_q = ((2147483647 : Int64) * v18) := ⟨_, rfl⟩
  have hnz37_1 : ¬ ((v26 + (1 : Int64)) = (0 : Int64)) := (own_side_0_37 ls bs v13 hv13 v18 hv18 v26 hv26)
  obtain ⟨v38, hv38⟩ : ∃ z_q : Int64, z_q = ((ls &&& (9223372036854775807 : Int64)) % (v26 + (1 : Int64))) := ⟨_, rfl⟩
  have hp2_hb0 : ¬ (v13.toInt64 = (0 : Int64)) := (own_pre_0_44_hb0 ls bs v13 hv13 v18 hv18 v26 hv26 v38 hv38)
  have hp2_hq : ¬ ((2147483647 : Int64) < own_bc v38 v13) := (own_pre_0_44_hq ls bs v13 hv13 v18 hv18 v26 hv26 v38 hv38 hp2_hb0)
  obtain ⟨_, _, ⟨T2, L2, k2, n2⟩, -, X2, ⟨Lc2, hQ2, l2, y2, z2⟩, st2⟩ := Jvm.LawKit.callS X0 hx (y := (⟨"com/example/talence/talence/model/ObjectLayout", "blockCount", "(JI)I"⟩ : MethodName)) hown (mvT hZ (hw _ (List.mem_of_getElem? (i := 4) rfl))) (mvT hZ (hw _ (List.mem_of_getElem? (i := 5) rfl))) (mvT hZ (hw _ (List.mem_of_getElem? (i := 6) rfl))) (mvT hZ (hw _ (List.mem_of_getElem? (i := 7) rfl))) (by decide) (backOf (W := 0) (rm1 l Z a0 hw [] v38 v13 h0 n0 Z0 hp2_hb0 hp2_hq) hZ (hw _ (List.mem_of_getElem? (i := 7) rfl)) (hw _ (List.mem_of_getElem? (i := 6) rfl)) (by decide) (by decide)) (g := (mkF m 44 #[.val (.long ls), .second, .val (.int bs), .val (.int (16773121 : Int32)), .val (.int v13), .val (.long v18), .second, .val (.long v26), .second, .val (.long v38), .second, .unset] [(.int v13), (.long v38)])) rfl (by rw [hml]; rfl) (argsL := [(.long v38), (.int v13)]) (rest := []) (lenOf pd_0 rfl) rfl (by show 2 * 0 + _ ≤ _; exact Nat.le_of_eq rfl) (hb hby at_44) (fun _ _ => ⟨rfl, e0, (by decide : 0 + 0 ≤ _), (by decide : 0 + 0 ≤ _)⟩)
  dsimp only [Pt.U, Pt.locs, Pt.cells, Pt.slots] at X2 l2 y2 z2 st2 hQ2
  subst l2 y2 z2
  obtain ⟨rfl, N2q, e2⟩ := hQ2
  have N2 := Fr.app N0 N2q
  obtain ⟨r44, hr44⟩ : ∃ z_q : Int32, z_q = (own_bc v38 v13).toInt32 := ⟨_, rfl⟩
  have pre3 : ∀ tq, Steps p.tables e below (T2.setTop (mkF m 51 #[.val (.long ls), .second, .val (.int bs), .val (.int (16773121 : Int32)), .val (.int v13), .val (.long v18), .second, .val (.long v26), .second, .val (.long v38), .second, .val (.int r44)] [(.int r44)])) tq → Steps p.tables e below (s₁.setTop (entryFrame m #[(.long ls), (.int bs)] maxLocals)) tq := by
    intro tq kt
    refine pre0 _ ?_
    show Steps p.tables e below (s₁.setTop (mkF m 0 #[.val (.long ls), .second, .val (.int bs), .unset, .unset, .unset, .unset, .unset, .unset, .unset, .unset, .unset] [])) _
    refine X0.ldcInt hx hown (mvT hZ (hw _ (List.mem_of_getElem? (i := 0) rfl))) (g := (mkF m 0 #[.val (.long ls), .second, .val (.int bs), .unset, .unset, .unset, .unset, .unset, .unset, .unset, .unset, .unset] [])) rfl (hb hby at_0) _ ?_
    show Steps p.tables e below (s₁.setTop (mkF m 2 #[.val (.long ls), .second, .val (.int bs), .unset, .unset, .unset, .unset, .unset, .unset, .unset, .unset, .unset] [(.int (16773121 : Int32))])) _
    refine XS.istoreN X0.here hx rfl (hb hby at_2) rfl (l' := #[.val (.long ls), .second, .val (.int bs), .val (.int (16773121 : Int32)), .unset, .unset, .unset, .unset, .unset, .unset, .unset, .unset]) rfl ?_
    show Steps p.tables e below (s₁.setTop (mkF m 3 #[.val (.long ls), .second, .val (.int bs), .val (.int (16773121 : Int32)), .unset, .unset, .unset, .unset, .unset, .unset, .unset, .unset] [])) _
    refine XS.sipush X0.here hx rfl (hb hby at_3) ?_
    show Steps p.tables e below (s₁.setTop (mkF m 6 #[.val (.long ls), .second, .val (.int bs), .val (.int (16773121 : Int32)), .unset, .unset, .unset, .unset, .unset, .unset, .unset, .unset] [(.int (4096 : Int32))])) _
    refine XS.iloadN X0.here hx rfl (hb hby at_6) rfl ?_
    show Steps p.tables e below (s₁.setTop (mkF m 7 #[.val (.long ls), .second, .val (.int bs), .val (.int (16773121 : Int32)), .unset, .unset, .unset, .unset, .unset, .unset, .unset, .unset] [(.int bs), (.int (4096 : Int32))])) _
    refine X0.ldcInt hx hown (mvT hZ (hw _ (List.mem_of_getElem? (i := 1) rfl))) (g := (mkF m 7 #[.val (.long ls), .second, .val (.int bs), .val (.int (16773121 : Int32)), .unset, .unset, .unset, .unset, .unset, .unset, .unset, .unset] [(.int bs), (.int (4096 : Int32))])) rfl (hb hby at_7) _ ?_
    show Steps p.tables e below (s₁.setTop (mkF m 9 #[.val (.long ls), .second, .val (.int bs), .val (.int (16773121 : Int32)), .unset, .unset, .unset, .unset, .unset, .unset, .unset, .unset] [(.int (2147483647 : Int32)), (.int bs), (.int (4096 : Int32))])) _
    refine XS.iand X0.here hx rfl (hb hby at_9) rfl ?_
    show Steps p.tables e below (s₁.setTop (mkF m 10 #[.val (.long ls), .second, .val (.int bs), .val (.int (16773121 : Int32)), .unset, .unset, .unset, .unset, .unset, .unset, .unset, .unset] [(.int (bs &&& (2147483647 : Int32))), (.int (4096 : Int32))])) _
    refine XS.iloadN X0.here hx rfl (hb hby at_10) rfl ?_
    show Steps p.tables e below (s₁.setTop (mkF m 11 #[.val (.long ls), .second, .val (.int bs), .val (.int (16773121 : Int32)), .unset, .unset, .unset, .unset, .unset, .unset, .unset, .unset] [(.int (16773121 : Int32)), (.int (bs &&& (2147483647 : Int32))), (.int (4096 : Int32))])) _
    refine iremM X0 hx rfl (hb hby at_11) rfl (by decide : ¬ ((16773121 : Int32) = (0 : Int32))) ?_
    show Steps p.tables e below (s₁.setTop (mkF m 12 #[.val (.long ls), .second, .val (.int bs), .val (.int (16773121 : Int32)), .unset, .unset, .unset, .unset, .unset, .unset, .unset, .unset] [(.int ((bs &&& (2147483647 : Int32)) % (16773121 : Int32))), (.int (4096 : Int32))])) _
    refine XS.iadd X0.here hx rfl (hb hby at_12) rfl ?_
    show Steps p.tables e below (s₁.setTop (mkF m 13 #[.val (.long ls), .second, .val (.int bs), .val (.int (16773121 : Int32)), .unset, .unset, .unset, .unset, .unset, .unset, .unset, .unset] [(.int ((4096 : Int32) + ((bs &&& (2147483647 : Int32)) % (16773121 : Int32))))])) _
    refine XS.istore X0.here hx rfl (hb hby at_13) rfl (l' := #[.val (.long ls), .second, .val (.int bs), .val (.int (16773121 : Int32)), .val (.int v13), .unset, .unset, .unset, .unset, .unset, .unset, .unset]) (by rw [hv13]; rfl) ?_
    show Steps p.tables e below (s₁.setTop (mkF m 15 #[.val (.long ls), .second, .val (.int bs), .val (.int (16773121 : Int32)), .val (.int v13), .unset, .unset, .unset, .unset, .unset, .unset, .unset] [])) _
    refine XS.iload X0.here hx rfl (hb hby at_15) rfl ?_
    show Steps p.tables e below (s₁.setTop (mkF m 17 #[.val (.long ls), .second, .val (.int bs), .val (.int (16773121 : Int32)), .val (.int v13), .unset, .unset, .unset, .unset, .unset, .unset, .unset] [(.int v13)])) _
    refine XS.i2l X0.here hx rfl (hb hby at_17) rfl ?_
    show Steps p.tables e below (s₁.setTop (mkF m 18 #[.val (.long ls), .second, .val (.int bs), .val (.int (16773121 : Int32)), .val (.int v13), .unset, .unset, .unset, .unset, .unset, .unset, .unset] [(.long (v13.toInt64))])) _
    refine XS.lstore X0.here hx rfl (hb hby at_18) rfl (l' := #[.val (.long ls), .second, .val (.int bs), .val (.int (16773121 : Int32)), .val (.int v13), .val (.long v18), .second, .unset, .unset, .unset, .unset, .unset]) (by rw [hv18]; rfl) ?_
    show Steps p.tables e below (s₁.setTop (mkF m 20 #[.val (.long ls), .second, .val (.int bs), .val (.int (16773121 : Int32)), .val (.int v13), .val (.long v18), .second, .unset, .unset, .unset, .unset, .unset] [])) _
    refine X0.ldc2Long hx hown (mvT hZ (hw _ (List.mem_of_getElem? (i := 2) rfl))) (g := (mkF m 20 #[.val (.long ls), .second, .val (.int bs), .val (.int (16773121 : Int32)), .val (.int v13), .val (.long v18), .second, .unset, .unset, .unset, .unset, .unset] [])) rfl (hb hby at_20) _ ?_
    show Steps p.tables e below (s₁.setTop (mkF m 23 #[.val (.long ls), .second, .val (.int bs), .val (.int (16773121 : Int32)), .val (.int v13), .val (.long v18), .second, .unset, .unset, .unset, .unset, .unset] [(.long (2147483647 : Int64))])) _
    refine XS.lload X0.here hx rfl (hb hby at_23) rfl ?_
    show Steps p.tables e below (s₁.setTop (mkF m 25 #[.val (.long ls), .second, .val (.int bs), .val (.int (16773121 : Int32)), .val (.int v13), .val (.long v18), .second, .unset, .unset, .unset, .unset, .unset] [(.long v18), (.long (2147483647 : Int64))])) _
    refine XS.lmul X0.here hx rfl (hb hby at_25) rfl ?_
    show Steps p.tables e below (s₁.setTop (mkF m 26 #[.val (.long ls), .second, .val (.int bs), .val (.int (16773121 : Int32)), .val (.int v13), .val (.long v18), .second, .unset, .unset, .unset, .unset, .unset] [(.long ((2147483647 : Int64) * v18))])) _
    refine XS.lstore X0.here hx rfl (hb hby at_26) rfl (l' := #[.val (.long ls), .second, .val (.int bs), .val (.int (16773121 : Int32)), .val (.int v13), .val (.long v18), .second, .val (.long v26), .second, .unset, .unset, .unset]) (by rw [hv26]; rfl) ?_
    show Steps p.tables e below (s₁.setTop (mkF m 28 #[.val (.long ls), .second, .val (.int bs), .val (.int (16773121 : Int32)), .val (.int v13), .val (.long v18), .second, .val (.long v26), .second, .unset, .unset, .unset] [])) _
    refine XS.lloadN X0.here hx rfl (hb hby at_28) rfl ?_
    show Steps p.tables e below (s₁.setTop (mkF m 29 #[.val (.long ls), .second, .val (.int bs), .val (.int (16773121 : Int32)), .val (.int v13), .val (.long v18), .second, .val (.long v26), .second, .unset, .unset, .unset] [(.long ls)])) _
    refine X0.ldc2Long hx hown (mvT hZ (hw _ (List.mem_of_getElem? (i := 3) rfl))) (g := (mkF m 29 #[.val (.long ls), .second, .val (.int bs), .val (.int (16773121 : Int32)), .val (.int v13), .val (.long v18), .second, .val (.long v26), .second, .unset, .unset, .unset] [(.long ls)])) rfl (hb hby at_29) _ ?_
    show Steps p.tables e below (s₁.setTop (mkF m 32 #[.val (.long ls), .second, .val (.int bs), .val (.int (16773121 : Int32)), .val (.int v13), .val (.long v18), .second, .val (.long v26), .second, .unset, .unset, .unset] [(.long (9223372036854775807 : Int64)), (.long ls)])) _
    refine XS.land X0.here hx rfl (hb hby at_32) rfl ?_
    show Steps p.tables e below (s₁.setTop (mkF m 33 #[.val (.long ls), .second, .val (.int bs), .val (.int (16773121 : Int32)), .val (.int v13), .val (.long v18), .second, .val (.long v26), .second, .unset, .unset, .unset] [(.long (ls &&& (9223372036854775807 : Int64)))])) _
    refine XS.lload X0.here hx rfl (hb hby at_33) rfl ?_
    show Steps p.tables e below (s₁.setTop (mkF m 35 #[.val (.long ls), .second, .val (.int bs), .val (.int (16773121 : Int32)), .val (.int v13), .val (.long v18), .second, .val (.long v26), .second, .unset, .unset, .unset] [(.long v26), (.long (ls &&& (9223372036854775807 : Int64)))])) _
    refine XS.lconst X0.here hx rfl (hb hby at_35) ?_
    show Steps p.tables e below (s₁.setTop (mkF m 36 #[.val (.long ls), .second, .val (.int bs), .val (.int (16773121 : Int32)), .val (.int v13), .val (.long v18), .second, .val (.long v26), .second, .unset, .unset, .unset] [(.long (1 : Int64)), (.long v26), (.long (ls &&& (9223372036854775807 : Int64)))])) _
    refine XS.ladd X0.here hx rfl (hb hby at_36) rfl ?_
    show Steps p.tables e below (s₁.setTop (mkF m 37 #[.val (.long ls), .second, .val (.int bs), .val (.int (16773121 : Int32)), .val (.int v13), .val (.long v18), .second, .val (.long v26), .second, .unset, .unset, .unset] [(.long (v26 + (1 : Int64))), (.long (ls &&& (9223372036854775807 : Int64)))])) _
    refine XS.lrem X0.here hx rfl (hb hby at_37) rfl hnz37_1 ?_
    rw [lrem_mod]
    show Steps p.tables e below (s₁.setTop (mkF m 38 #[.val (.long ls), .second, .val (.int bs), .val (.int (16773121 : Int32)), .val (.int v13), .val (.long v18), .second, .val (.long v26), .second, .unset, .unset, .unset] [(.long ((ls &&& (9223372036854775807 : Int64)) % (v26 + (1 : Int64))))])) _
    refine XS.lstore X0.here hx rfl (hb hby at_38) rfl (l' := #[.val (.long ls), .second, .val (.int bs), .val (.int (16773121 : Int32)), .val (.int v13), .val (.long v18), .second, .val (.long v26), .second, .val (.long v38), .second, .unset]) (by rw [hv38]; rfl) ?_
    show Steps p.tables e below (s₁.setTop (mkF m 40 #[.val (.long ls), .second, .val (.int bs), .val (.int (16773121 : Int32)), .val (.int v13), .val (.long v18), .second, .val (.long v26), .second, .val (.long v38), .second, .unset] [])) _
    refine XS.lload X0.here hx rfl (hb hby at_40) rfl ?_
    show Steps p.tables e below (s₁.setTop (mkF m 42 #[.val (.long ls), .second, .val (.int bs), .val (.int (16773121 : Int32)), .val (.int v13), .val (.long v18), .second, .val (.long v26), .second, .val (.long v38), .second, .unset] [(.long v38)])) _
    refine XS.iload X0.here hx rfl (hb hby at_42) rfl ?_
    show Steps p.tables e below (s₁.setTop (mkF m 44 #[.val (.long ls), .second, .val (.int bs), .val (.int (16773121 : Int32)), .val (.int v13), .val (.long v18), .second, .val (.long v26), .second, .val (.long v38), .second, .unset] [(.int v13), (.long v38)])) _
    refine st2 _ ?_
    show Steps p.tables e below (T2.setTop (mkF m 47 #[.val (.long ls), .second, .val (.int bs), .val (.int (16773121 : Int32)), .val (.int v13), .val (.long v18), .second, .val (.long v26), .second, .val (.long v38), .second, .unset] [(.int (own_bc v38 v13).toInt32)])) _
    rw [← hr44]
    show Steps p.tables e below (T2.setTop (mkF m 47 #[.val (.long ls), .second, .val (.int bs), .val (.int (16773121 : Int32)), .val (.int v13), .val (.long v18), .second, .val (.long v26), .second, .val (.long v38), .second, .unset] [(.int r44)])) _
    refine XS.istore X2.here hx rfl (hb hby at_47) rfl (l' := #[.val (.long ls), .second, .val (.int bs), .val (.int (16773121 : Int32)), .val (.int v13), .val (.long v18), .second, .val (.long v26), .second, .val (.long v38), .second, .val (.int r44)]) rfl ?_
    show Steps p.tables e below (T2.setTop (mkF m 49 #[.val (.long ls), .second, .val (.int bs), .val (.int (16773121 : Int32)), .val (.int v13), .val (.long v18), .second, .val (.long v26), .second, .val (.long v38), .second, .val (.int r44)] [])) _
    refine XS.iload X2.here hx rfl (hb hby at_49) rfl ?_
    show Steps p.tables e below (T2.setTop (mkF m 51 #[.val (.long ls), .second, .val (.int bs), .val (.int (16773121 : Int32)), .val (.int v13), .val (.long v18), .second, .val (.long v26), .second, .val (.long v38), .second, .val (.int r44)] [(.int r44)])) _
    exact kt
  by_cases hc51_4 : r44 < (0 : Int32)
  · skip
    obtain ⟨fs, hr, hrun, hended, hW, hsame⟩ := X2.leave (v := some (Value.int (0 : Int32))) (fun h => by rw [Bd.returns] at h; cases h)
    have hres5 : (0 : Int32) = (1 : Int32) := (own_leaf_0_55_f ls bs v13 hv13 v18 hv18 v26 hv26 v38 hv38 hp2_hb0 hp2_hq r44 hr44 hc51_4)
    refine ⟨_, _, pre3 _ ?_, hrun, hended, _, _, rfl, ?_, ⟨_, rfl⟩, hW, hsame.mono (by decide) (by decide)⟩
    · skip
      show Steps p.tables e below (T2.setTop (mkF m 51 #[.val (.long ls), .second, .val (.int bs), .val (.int (16773121 : Int32)), .val (.int v13), .val (.long v18), .second, .val (.long v26), .second, .val (.long v38), .second, .val (.int r44)] [(.int r44)])) _
      refine XS.ifNo X2.here hx rfl (hb hby at_51) rfl ((if0 _ _).trans (tlt hc51_4).2.1) ?_
      show Steps p.tables e below (T2.setTop (mkF m 54 #[.val (.long ls), .second, .val (.int bs), .val (.int (16773121 : Int32)), .val (.int v13), .val (.long v18), .second, .val (.long v26), .second, .val (.long v38), .second, .val (.int r44)] [])) _
      refine XS.iconst X2.here hx rfl (hb hby at_54) ?_
      show Steps p.tables e below (T2.setTop (mkF m 55 #[.val (.long ls), .second, .val (.int bs), .val (.int (16773121 : Int32)), .val (.int v13), .val (.long v18), .second, .val (.long v26), .second, .val (.long v38), .second, .val (.int r44)] [(.int (0 : Int32))])) _
      exact retN X2 hx (t := .boolean) Bd.returns (by simp) (hb hby at_55) hr
    · show Q0 Z ls bs h0 n0 _ T2.heap _
      rw [e2]
      exact ⟨congrArg (fun z => some (Value.int z)) hres5, N2⟩
  · skip
    have pre6 : ∀ tq, Steps p.tables e below (T2.setTop (mkF m 65 #[.val (.long ls), .second, .val (.int bs), .val (.int (16773121 : Int32)), .val (.int v13), .val (.long v18), .second, .val (.long v26), .second, .val (.long v38), .second, .val (.int r44)] [(.int (lcmpW ((r44.toInt64) * v18) v38))])) tq → Steps p.tables e below (s₁.setTop (entryFrame m #[(.long ls), (.int bs)] maxLocals)) tq := by
      intro tq kt
      refine pre3 _ ?_
      show Steps p.tables e below (T2.setTop (mkF m 51 #[.val (.long ls), .second, .val (.int bs), .val (.int (16773121 : Int32)), .val (.int v13), .val (.long v18), .second, .val (.long v26), .second, .val (.long v38), .second, .val (.int r44)] [(.int r44)])) _
      refine XS.ifYes X2.here hx rfl (pc0 := 51) (pc' := 56) rfl (hb hby at_51) rfl ((if0 _ _).trans (flt hc51_4).2.1) (by decide) (by decide) ?_
      show Steps p.tables e below (T2.setTop (mkF m 56 #[.val (.long ls), .second, .val (.int bs), .val (.int (16773121 : Int32)), .val (.int v13), .val (.long v18), .second, .val (.long v26), .second, .val (.long v38), .second, .val (.int r44)] [])) _
      refine XS.iload X2.here hx rfl (hb hby at_56) rfl ?_
      show Steps p.tables e below (T2.setTop (mkF m 58 #[.val (.long ls), .second, .val (.int bs), .val (.int (16773121 : Int32)), .val (.int v13), .val (.long v18), .second, .val (.long v26), .second, .val (.long v38), .second, .val (.int r44)] [(.int r44)])) _
      refine XS.i2l X2.here hx rfl (hb hby at_58) rfl ?_
      show Steps p.tables e below (T2.setTop (mkF m 59 #[.val (.long ls), .second, .val (.int bs), .val (.int (16773121 : Int32)), .val (.int v13), .val (.long v18), .second, .val (.long v26), .second, .val (.long v38), .second, .val (.int r44)] [(.long (r44.toInt64))])) _
      refine XS.lload X2.here hx rfl (hb hby at_59) rfl ?_
      show Steps p.tables e below (T2.setTop (mkF m 61 #[.val (.long ls), .second, .val (.int bs), .val (.int (16773121 : Int32)), .val (.int v13), .val (.long v18), .second, .val (.long v26), .second, .val (.long v38), .second, .val (.int r44)] [(.long v18), (.long (r44.toInt64))])) _
      refine XS.lmul X2.here hx rfl (hb hby at_61) rfl ?_
      show Steps p.tables e below (T2.setTop (mkF m 62 #[.val (.long ls), .second, .val (.int bs), .val (.int (16773121 : Int32)), .val (.int v13), .val (.long v18), .second, .val (.long v26), .second, .val (.long v38), .second, .val (.int r44)] [(.long ((r44.toInt64) * v18))])) _
      refine XS.lload X2.here hx rfl (hb hby at_62) rfl ?_
      show Steps p.tables e below (T2.setTop (mkF m 64 #[.val (.long ls), .second, .val (.int bs), .val (.int (16773121 : Int32)), .val (.int v13), .val (.long v18), .second, .val (.long v26), .second, .val (.long v38), .second, .val (.int r44)] [(.long v38), (.long ((r44.toInt64) * v18))])) _
      refine XS.lcmp X2.here hx rfl (hb hby at_64) rfl ?_
      show Steps p.tables e below (T2.setTop (mkF m 65 #[.val (.long ls), .second, .val (.int bs), .val (.int (16773121 : Int32)), .val (.int v13), .val (.long v18), .second, .val (.long v26), .second, .val (.long v38), .second, .val (.int r44)] [(.int (lcmpW ((r44.toInt64) * v18) v38))])) _
      exact kt
    by_cases hc65_7 : ((r44.toInt64) * v18) < v38
    · skip
      obtain ⟨fs, hr, hrun, hended, hW, hsame⟩ := X2.leave (v := some (Value.int (0 : Int32))) (fun h => by rw [Bd.returns] at h; cases h)
      have hres8 : (0 : Int32) = (1 : Int32) := (own_leaf_0_69_tf ls bs v13 hv13 v18 hv18 v26 hv26 v38 hv38 hp2_hb0 hp2_hq r44 hr44 hc51_4 hc65_7)
      refine ⟨_, _, pre6 _ ?_, hrun, hended, _, _, rfl, ?_, ⟨_, rfl⟩, hW, hsame.mono (by decide) (by decide)⟩
      · skip
        show Steps p.tables e below (T2.setTop (mkF m 65 #[.val (.long ls), .second, .val (.int bs), .val (.int (16773121 : Int32)), .val (.int v13), .val (.long v18), .second, .val (.long v26), .second, .val (.long v38), .second, .val (.int r44)] [(.int (lcmpW ((r44.toInt64) * v18) v38))])) _
        refine XS.ifNo X2.here hx rfl (hb hby at_65) rfl ((if0 _ _).trans (tlt ((lw_lt ((r44.toInt64) * v18) v38).2 hc65_7)).2.1) ?_
        show Steps p.tables e below (T2.setTop (mkF m 68 #[.val (.long ls), .second, .val (.int bs), .val (.int (16773121 : Int32)), .val (.int v13), .val (.long v18), .second, .val (.long v26), .second, .val (.long v38), .second, .val (.int r44)] [])) _
        refine XS.iconst X2.here hx rfl (hb hby at_68) ?_
        show Steps p.tables e below (T2.setTop (mkF m 69 #[.val (.long ls), .second, .val (.int bs), .val (.int (16773121 : Int32)), .val (.int v13), .val (.long v18), .second, .val (.long v26), .second, .val (.long v38), .second, .val (.int r44)] [(.int (0 : Int32))])) _
        exact retN X2 hx (t := .boolean) Bd.returns (by simp) (hb hby at_69) hr
      · show Q0 Z ls bs h0 n0 _ T2.heap _
        rw [e2]
        exact ⟨congrArg (fun z => some (Value.int z)) hres8, N2⟩
    · skip
      have pre9 : ∀ tq, Steps p.tables e below (T2.setTop (mkF m 72 #[.val (.long ls), .second, .val (.int bs), .val (.int (16773121 : Int32)), .val (.int v13), .val (.long v18), .second, .val (.long v26), .second, .val (.long v38), .second, .val (.int r44)] [(.int r44)])) tq → Steps p.tables e below (s₁.setTop (entryFrame m #[(.long ls), (.int bs)] maxLocals)) tq := by
        intro tq kt
        refine pre6 _ ?_
        show Steps p.tables e below (T2.setTop (mkF m 65 #[.val (.long ls), .second, .val (.int bs), .val (.int (16773121 : Int32)), .val (.int v13), .val (.long v18), .second, .val (.long v26), .second, .val (.long v38), .second, .val (.int r44)] [(.int (lcmpW ((r44.toInt64) * v18) v38))])) _
        refine XS.ifYes X2.here hx rfl (pc0 := 65) (pc' := 70) rfl (hb hby at_65) rfl ((if0 _ _).trans (flt (mt (lw_lt ((r44.toInt64) * v18) v38).1 hc65_7)).2.1) (by decide) (by decide) ?_
        show Steps p.tables e below (T2.setTop (mkF m 70 #[.val (.long ls), .second, .val (.int bs), .val (.int (16773121 : Int32)), .val (.int v13), .val (.long v18), .second, .val (.long v26), .second, .val (.long v38), .second, .val (.int r44)] [])) _
        refine XS.iload X2.here hx rfl (hb hby at_70) rfl ?_
        show Steps p.tables e below (T2.setTop (mkF m 72 #[.val (.long ls), .second, .val (.int bs), .val (.int (16773121 : Int32)), .val (.int v13), .val (.long v18), .second, .val (.long v26), .second, .val (.long v38), .second, .val (.int r44)] [(.int r44)])) _
        exact kt
      by_cases hc72_10 : r44 = (0 : Int32)
      · skip
        obtain ⟨m87, hm87⟩ : ∃ z_q : Int32, z_q = (if v38 = (0 : Int64) then (1 : Int32) else (0 : Int32)) := ⟨_, rfl⟩
        have pre12 : ∀ tq, Steps p.tables e below (T2.setTop (mkF m 87 #[.val (.long ls), .second, .val (.int bs), .val (.int (16773121 : Int32)), .val (.int v13), .val (.long v18), .second, .val (.long v26), .second, .val (.long v38), .second, .val (.int r44)] [(.int m87)])) tq → Steps p.tables e below (s₁.setTop (entryFrame m #[(.long ls), (.int bs)] maxLocals)) tq := by
          intro tq kt
          refine pre9 _ ?_
          show Steps p.tables e below (T2.setTop (mkF m 72 #[.val (.long ls), .second, .val (.int bs), .val (.int (16773121 : Int32)), .val (.int v13), .val (.long v18), .second, .val (.long v26), .second, .val (.long v38), .second, .val (.int r44)] [(.int r44)])) _
          refine XS.ifNo X2.here hx rfl (hb hby at_72) rfl ((if0 _ _).trans (teq hc72_10).2) ?_
          show Steps p.tables e below (T2.setTop (mkF m 75 #[.val (.long ls), .second, .val (.int bs), .val (.int (16773121 : Int32)), .val (.int v13), .val (.long v18), .second, .val (.long v26), .second, .val (.long v38), .second, .val (.int r44)] [])) _
          refine XS.lload X2.here hx rfl (hb hby at_75) rfl ?_
          show Steps p.tables e below (T2.setTop (mkF m 77 #[.val (.long ls), .second, .val (.int bs), .val (.int (16773121 : Int32)), .val (.int v13), .val (.long v18), .second, .val (.long v26), .second, .val (.long v38), .second, .val (.int r44)] [(.long v38)])) _
          refine XS.lconst X2.here hx rfl (hb hby at_77) ?_
          show Steps p.tables e below (T2.setTop (mkF m 78 #[.val (.long ls), .second, .val (.int bs), .val (.int (16773121 : Int32)), .val (.int v13), .val (.long v18), .second, .val (.long v26), .second, .val (.long v38), .second, .val (.int r44)] [(.long (0 : Int64)), (.long v38)])) _
          refine XS.lcmp X2.here hx rfl (hb hby at_78) rfl ?_
          by_cases d11 : v38 = (0 : Int64)
          · skip
            show Steps p.tables e below (T2.setTop (mkF m 79 #[.val (.long ls), .second, .val (.int bs), .val (.int (16773121 : Int32)), .val (.int v13), .val (.long v18), .second, .val (.long v26), .second, .val (.long v38), .second, .val (.int r44)] [(.int (lcmpW v38 (0 : Int64)))])) _
            refine XS.ifNo X2.here hx rfl (hb hby at_79) rfl ((if0 _ _).trans (teq ((lw_eq v38 (0 : Int64)).2 d11)).2) ?_
            show Steps p.tables e below (T2.setTop (mkF m 82 #[.val (.long ls), .second, .val (.int bs), .val (.int (16773121 : Int32)), .val (.int v13), .val (.long v18), .second, .val (.long v26), .second, .val (.long v38), .second, .val (.int r44)] [])) _
            refine XS.iconst X2.here hx rfl (hb hby at_82) ?_
            show Steps p.tables e below (T2.setTop (mkF m 83 #[.val (.long ls), .second, .val (.int bs), .val (.int (16773121 : Int32)), .val (.int v13), .val (.long v18), .second, .val (.long v26), .second, .val (.long v38), .second, .val (.int r44)] [(.int (1 : Int32))])) _
            refine XS.goto X2.here hx rfl (pc0 := 83) (pc' := 87) rfl (hb hby at_83) (by decide) (by decide) ?_
            show Steps p.tables e below (T2.setTop (mkF m 87 #[.val (.long ls), .second, .val (.int bs), .val (.int (16773121 : Int32)), .val (.int v13), .val (.long v18), .second, .val (.long v26), .second, .val (.long v38), .second, .val (.int r44)] [(.int (1 : Int32))])) _
            exact castTop (by simp only [hm87, if_pos d11]) kt
          · skip
            show Steps p.tables e below (T2.setTop (mkF m 79 #[.val (.long ls), .second, .val (.int bs), .val (.int (16773121 : Int32)), .val (.int v13), .val (.long v18), .second, .val (.long v26), .second, .val (.long v38), .second, .val (.int r44)] [(.int (lcmpW v38 (0 : Int64)))])) _
            refine XS.ifYes X2.here hx rfl (pc0 := 79) (pc' := 86) rfl (hb hby at_79) rfl ((if0 _ _).trans (feq (mt (lw_eq v38 (0 : Int64)).1 d11)).2) (by decide) (by decide) ?_
            show Steps p.tables e below (T2.setTop (mkF m 86 #[.val (.long ls), .second, .val (.int bs), .val (.int (16773121 : Int32)), .val (.int v13), .val (.long v18), .second, .val (.long v26), .second, .val (.long v38), .second, .val (.int r44)] [])) _
            refine XS.iconst X2.here hx rfl (hb hby at_86) ?_
            show Steps p.tables e below (T2.setTop (mkF m 87 #[.val (.long ls), .second, .val (.int bs), .val (.int (16773121 : Int32)), .val (.int v13), .val (.long v18), .second, .val (.long v26), .second, .val (.long v38), .second, .val (.int r44)] [(.int (0 : Int32))])) _
            exact castTop (by simp only [hm87, if_neg d11]) kt
        obtain ⟨fs, hr, hrun, hended, hW, hsame⟩ := X2.leave (v := some (Value.int (nar .boolean m87))) (fun h => by rw [Bd.returns] at h; cases h)
        have hres13 : (nar .boolean m87) = (1 : Int32) := (own_leaf_0_87_ttf ls bs v13 hv13 v18 hv18 v26 hv26 v38 hv38 hp2_hb0 hp2_hq r44 hr44 hc51_4 hc65_7 hc72_10 m87 hm87)
        refine ⟨_, _, pre12 _ ?_, hrun, hended, _, _, rfl, ?_, ⟨_, rfl⟩, hW, hsame.mono (by decide) (by decide)⟩
        · skip
          show Steps p.tables e below (T2.setTop (mkF m 87 #[.val (.long ls), .second, .val (.int bs), .val (.int (16773121 : Int32)), .val (.int v13), .val (.long v18), .second, .val (.long v26), .second, .val (.long v38), .second, .val (.int r44)] [(.int m87)])) _
          exact retN X2 hx (t := .boolean) Bd.returns (by simp) (hb hby at_87) hr
        · show Q0 Z ls bs h0 n0 _ T2.heap _
          rw [e2]
          exact ⟨congrArg (fun z => some (Value.int z)) hres13, N2⟩
      · skip
        obtain ⟨m107, hm107⟩ : ∃ z_q : Int32, z_q = (if (((r44 - (1 : Int32)).toInt64) * v18) < v38 then (1 : Int32) else (0 : Int32)) := ⟨_, rfl⟩
        have pre15 : ∀ tq, Steps p.tables e below (T2.setTop (mkF m 107 #[.val (.long ls), .second, .val (.int bs), .val (.int (16773121 : Int32)), .val (.int v13), .val (.long v18), .second, .val (.long v26), .second, .val (.long v38), .second, .val (.int r44)] [(.int m107)])) tq → Steps p.tables e below (s₁.setTop (entryFrame m #[(.long ls), (.int bs)] maxLocals)) tq := by
          intro tq kt
          refine pre9 _ ?_
          show Steps p.tables e below (T2.setTop (mkF m 72 #[.val (.long ls), .second, .val (.int bs), .val (.int (16773121 : Int32)), .val (.int v13), .val (.long v18), .second, .val (.long v26), .second, .val (.long v38), .second, .val (.int r44)] [(.int r44)])) _
          refine XS.ifYes X2.here hx rfl (pc0 := 72) (pc' := 88) rfl (hb hby at_72) rfl ((if0 _ _).trans (feq hc72_10).2) (by decide) (by decide) ?_
          show Steps p.tables e below (T2.setTop (mkF m 88 #[.val (.long ls), .second, .val (.int bs), .val (.int (16773121 : Int32)), .val (.int v13), .val (.long v18), .second, .val (.long v26), .second, .val (.long v38), .second, .val (.int r44)] [])) _
          refine XS.iload X2.here hx rfl (hb hby at_88) rfl ?_
          show Steps p.tables e below (T2.setTop (mkF m 90 #[.val (.long ls), .second, .val (.int bs), .val (.int (16773121 : Int32)), .val (.int v13), .val (.long v18), .second, .val (.long v26), .second, .val (.long v38), .second, .val (.int r44)] [(.int r44)])) _
          refine XS.iconst X2.here hx rfl (hb hby at_90) ?_
          show Steps p.tables e below (T2.setTop (mkF m 91 #[.val (.long ls), .second, .val (.int bs), .val (.int (16773121 : Int32)), .val (.int v13), .val (.long v18), .second, .val (.long v26), .second, .val (.long v38), .second, .val (.int r44)] [(.int (1 : Int32)), (.int r44)])) _
          refine XS.isub X2.here hx rfl (hb hby at_91) rfl ?_
          show Steps p.tables e below (T2.setTop (mkF m 92 #[.val (.long ls), .second, .val (.int bs), .val (.int (16773121 : Int32)), .val (.int v13), .val (.long v18), .second, .val (.long v26), .second, .val (.long v38), .second, .val (.int r44)] [(.int (r44 - (1 : Int32)))])) _
          refine XS.i2l X2.here hx rfl (hb hby at_92) rfl ?_
          show Steps p.tables e below (T2.setTop (mkF m 93 #[.val (.long ls), .second, .val (.int bs), .val (.int (16773121 : Int32)), .val (.int v13), .val (.long v18), .second, .val (.long v26), .second, .val (.long v38), .second, .val (.int r44)] [(.long ((r44 - (1 : Int32)).toInt64))])) _
          refine XS.lload X2.here hx rfl (hb hby at_93) rfl ?_
          show Steps p.tables e below (T2.setTop (mkF m 95 #[.val (.long ls), .second, .val (.int bs), .val (.int (16773121 : Int32)), .val (.int v13), .val (.long v18), .second, .val (.long v26), .second, .val (.long v38), .second, .val (.int r44)] [(.long v18), (.long ((r44 - (1 : Int32)).toInt64))])) _
          refine XS.lmul X2.here hx rfl (hb hby at_95) rfl ?_
          show Steps p.tables e below (T2.setTop (mkF m 96 #[.val (.long ls), .second, .val (.int bs), .val (.int (16773121 : Int32)), .val (.int v13), .val (.long v18), .second, .val (.long v26), .second, .val (.long v38), .second, .val (.int r44)] [(.long (((r44 - (1 : Int32)).toInt64) * v18))])) _
          refine XS.lload X2.here hx rfl (hb hby at_96) rfl ?_
          show Steps p.tables e below (T2.setTop (mkF m 98 #[.val (.long ls), .second, .val (.int bs), .val (.int (16773121 : Int32)), .val (.int v13), .val (.long v18), .second, .val (.long v26), .second, .val (.long v38), .second, .val (.int r44)] [(.long v38), (.long (((r44 - (1 : Int32)).toInt64) * v18))])) _
          refine XS.lcmp X2.here hx rfl (hb hby at_98) rfl ?_
          by_cases d14 : (((r44 - (1 : Int32)).toInt64) * v18) < v38
          · skip
            show Steps p.tables e below (T2.setTop (mkF m 99 #[.val (.long ls), .second, .val (.int bs), .val (.int (16773121 : Int32)), .val (.int v13), .val (.long v18), .second, .val (.long v26), .second, .val (.long v38), .second, .val (.int r44)] [(.int (lcmpW (((r44 - (1 : Int32)).toInt64) * v18) v38))])) _
            refine XS.ifNo X2.here hx rfl (hb hby at_99) rfl ((if0 _ _).trans (tlt ((lw_lt (((r44 - (1 : Int32)).toInt64) * v18) v38).2 d14)).2.1) ?_
            show Steps p.tables e below (T2.setTop (mkF m 102 #[.val (.long ls), .second, .val (.int bs), .val (.int (16773121 : Int32)), .val (.int v13), .val (.long v18), .second, .val (.long v26), .second, .val (.long v38), .second, .val (.int r44)] [])) _
            refine XS.iconst X2.here hx rfl (hb hby at_102) ?_
            show Steps p.tables e below (T2.setTop (mkF m 103 #[.val (.long ls), .second, .val (.int bs), .val (.int (16773121 : Int32)), .val (.int v13), .val (.long v18), .second, .val (.long v26), .second, .val (.long v38), .second, .val (.int r44)] [(.int (1 : Int32))])) _
            refine XS.goto X2.here hx rfl (pc0 := 103) (pc' := 107) rfl (hb hby at_103) (by decide) (by decide) ?_
            show Steps p.tables e below (T2.setTop (mkF m 107 #[.val (.long ls), .second, .val (.int bs), .val (.int (16773121 : Int32)), .val (.int v13), .val (.long v18), .second, .val (.long v26), .second, .val (.long v38), .second, .val (.int r44)] [(.int (1 : Int32))])) _
            exact castTop (by simp only [hm107, if_pos d14]) kt
          · skip
            show Steps p.tables e below (T2.setTop (mkF m 99 #[.val (.long ls), .second, .val (.int bs), .val (.int (16773121 : Int32)), .val (.int v13), .val (.long v18), .second, .val (.long v26), .second, .val (.long v38), .second, .val (.int r44)] [(.int (lcmpW (((r44 - (1 : Int32)).toInt64) * v18) v38))])) _
            refine XS.ifYes X2.here hx rfl (pc0 := 99) (pc' := 106) rfl (hb hby at_99) rfl ((if0 _ _).trans (flt (mt (lw_lt (((r44 - (1 : Int32)).toInt64) * v18) v38).1 d14)).2.1) (by decide) (by decide) ?_
            show Steps p.tables e below (T2.setTop (mkF m 106 #[.val (.long ls), .second, .val (.int bs), .val (.int (16773121 : Int32)), .val (.int v13), .val (.long v18), .second, .val (.long v26), .second, .val (.long v38), .second, .val (.int r44)] [])) _
            refine XS.iconst X2.here hx rfl (hb hby at_106) ?_
            show Steps p.tables e below (T2.setTop (mkF m 107 #[.val (.long ls), .second, .val (.int bs), .val (.int (16773121 : Int32)), .val (.int v13), .val (.long v18), .second, .val (.long v26), .second, .val (.long v38), .second, .val (.int r44)] [(.int (0 : Int32))])) _
            exact castTop (by simp only [hm107, if_neg d14]) kt
        obtain ⟨fs, hr, hrun, hended, hW, hsame⟩ := X2.leave (v := some (Value.int (nar .boolean m107))) (fun h => by rw [Bd.returns] at h; cases h)
        have hres16 : (nar .boolean m107) = (1 : Int32) := (own_leaf_0_107_ttt ls bs v13 hv13 v18 hv18 v26 hv26 v38 hv38 hp2_hb0 hp2_hq r44 hr44 hc51_4 hc65_7 hc72_10 m107 hm107)
        refine ⟨_, _, pre15 _ ?_, hrun, hended, _, _, rfl, ?_, ⟨_, rfl⟩, hW, hsame.mono (by decide) (by decide)⟩
        · skip
          show Steps p.tables e below (T2.setTop (mkF m 107 #[.val (.long ls), .second, .val (.int bs), .val (.int (16773121 : Int32)), .val (.int v13), .val (.long v18), .second, .val (.long v26), .second, .val (.long v38), .second, .val (.int r44)] [(.int m107)])) _
          exact retN X2 hx (t := .boolean) Bd.returns (by simp) (hb hby at_107) hr
        · show Q0 Z ls bs h0 n0 _ T2.heap _
          rw [e2]
          exact ⟨congrArg (fun z => some (Value.int z)) hres16, N2⟩
set_option maxRecDepth 65536 in
set_option maxHeartbeats 40000000 in
theorem comes_1 {Post : Tables → Env → Array Value → State → Outcome → State → Prop} (hpost : ∀ tb e args s v u, (limb_1_1.after args s (.returned v) u = true ∧ limb_1_2.after args s (.returned v) u = true ∧ True) → FrameEnd s (.returned v) u (Jvm.fieldLocs frame_1_writes args s ++ Jvm.arrayLocs frame_1_arrays args s ++ Jvm.staticLocs frame_1_statics s) 0 0 → Post tb e args s (.returned v) u) :
    ArmFor flags0 classFile x code maxLocals ret World_1 tables_1 room_1 Calls_1 rest_1 Pre_1 Post := by
  intro l hfl _ _ p e ha hc hk s m args below hf hA hF happ hP
  obtain ⟨hcalls, hrest, hpre⟩ := hP
  obtain ⟨-, -, -, hnamed, -, -, -, hat⟩ := (Spec.applies_iff hf).mp happ
  obtain ⟨hg, hn⟩ := and_e (Cond.before_iff.mp (show (Jvm.Cond.and given_1 narrow_1).before args s = true from hpre))
  obtain ⟨gv1, gv2⟩ := and_e hg
  obtain ⟨gv3, gv4⟩ := and_e gv2
  obtain ⟨w0, w1, rfl⟩ : ∃ w0 w1 : Value, args = #[w0, w1] := by
    have hs : args.size = 2 := by simpa [Cond.value, given_1] using gv1
    obtain ⟨L⟩ := args
    match L, hs with
    | [w0, w1], _ => exact ⟨w0, w1, rfl⟩
  have hw := fun d (hd : d ∈ tables_1) => atoms_spec (ws := Jvm.Cond.code x code maxLocals ret :: tables_1) hat d (List.mem_cons_of_mem _ hd)
  obtain ⟨i0, ei0⟩ := isL_v gv3
  obtain rfl : w0 = (.long i0) := Option.some.inj ei0
  obtain ⟨i1, ei1⟩ := is_v gv4
  obtain rfl : w1 = (.int i1) := Option.some.inj ei1
  obtain ⟨n, o, h1, h2, h3, _, L, rfl, ⟨rfl, N⟩, hq⟩ := rm0 l s _ hw tables_1 i0 i1  s.heap s.heap.size (Nat.le_refl _)  p e ha hc hk s m _ below hf ((Spec.applies_iff_loose hf).mp happ).1 ⟨rfl, State.Warmed39.refl s, rfl⟩ trivial
  refine ⟨n, _, h1, h2, h3, hpost _ _ _ _ _ _ ⟨Cond.after_iff.mpr rfl, Cond.after_iff.mpr (eq_i res_at (Term.int_eval (1)) rfl), trivial⟩ ⟨hq.1, hq.2.1, (hq.2.2.sift fun y hy => Or.inr (N y hy)).mono (by decide) (by decide)⟩⟩
theorem main_1_1 : Claimed_1_1 := comes_1 fun _ _ _ _ _ _ h hF => ⟨h.1, hF⟩
theorem main_1_2 : Claimed_1_2 := comes_1 fun _ _ _ _ _ _ h hF => ⟨h.2.1, hF⟩
end Jvm.Pilot.@@N@@
namespace Jvm.Pilot.@@N@@
open Jvm Jvm.ClassFile Sem Op Lib Jvm.Free Jvm.Stand Jvm.Pilot.@@N@@.Jvm.D
/-! MADE BY PROGRAM (witnessworld.py) out of the Statement's table words and the real class files: 9 classes; the members and pool entries that the words name. The judged class is class 1, her method 1. -/
namespace start1
open Jvm.ClassFile
def u (s : String) : CpInfo := .utf8 (stringToUtf16 s)
/-- a pool by its gaps: so many unusable entries, then the entry; so many at the end -/
def gap : Nat → List CpInfo → List CpInfo
  | 0, r => r
  | n + 1, r => .unusable :: gap n r
def poolList (es : List (Nat × CpInfo)) (last : Nat) : List CpInfo := es.foldr (fun e r => gap e.1 (e.2 :: r)) (gap last [])
def pool (es : List (Nat × CpInfo)) (last : Nat) : Array CpInfo := ⟨poolList es last⟩
def fileOf (pool : Array CpInfo) (this : Nat) (attrs : Array Attribute := #[]) (ms : Array MethodInfo := #[]) (fl : Nat := 33) (sup : Nat := 0) (ifs : Array Nat := #[]) (fds : Array FieldInfo := #[]) : ClassFile where
  minorVersion := 0
  majorVersion := 65
  constantPool := pool
  accessFlags := fl
  thisClass := this
  superClass := sup
  interfaces := ifs
  fields := fds
  methods := ms
  attributes := attrs
def plain (name : String) (sup : Option ClassId) : Class where
  name := name
  kind := .ordinary
  loader := none
  accessFlags := 33
  super := sup
  interfaces := #[]
  cf := none
  fields := #[]
  methods := #[]
  instanceTypes := #[]
  staticTypes := #[]
  resolved := #[]
  callSites := []
  init := .initialized
  statics := none
  mirror := none

def pool0 : Array CpInfo := pool [(5, u "<init>"), (0, u "()V"), (1, .class_ 10), (1, u "java/lang/Object")] 113

def k0m0 : Method := { name := "<init>", desc := "()V", sig := { parameters := [], returnType := none }, accessFlags := 1, code := none }
/-- java/lang/Object -/
def k0 : Class := { plain "java/lang/Object" none with
  accessFlags := 33
  interfaces := #[]
  cf := some (fileOf pool0 8 #[] #[{ accessFlags := 1, nameIndex := 5, descriptorIndex := 6, attributes := #[] }] 33 0 #[] #[])
  fields := #[]
  methods := #[k0m0]
  instanceTypes := #[]
  staticTypes := #[]
  resolved := Array.replicate 124 none
  statics := none }

def pool1 : Array CpInfo := pool [(2, .class_ 4), (1, u "java/lang/Object"), (0, u "<init>"), (0, u "()V"), (0, .class_ 8), (0, u "com/example/talence/talence/model/ObjectLayout"), (0, .integer 16773121), (0, .integer 2147483647), (2, .long 2147483647), (3, .long 9223372036854775807), (1, .methodref 7 20), (0, .nameAndType 21 22), (0, u "blockCount"), (0, u "(JI)I"), (0, .class_ 24), (0, u "com/example/talence/talence/model/ObjectLayoutBlockCountPinLaw"), (2, u "law"), (0, u "(JI)Z")] 3

def k1m0 : Method := { name := "<init>", desc := "()V", sig := { parameters := [], returnType := none }, accessFlags := 1, code := none }
def k1c1 : Code := { maxStack := 6, maxLocals := 12, code := code, exceptionTable := #[], attributes := #[] }
def k1m1 : Method := { name := "law", desc := "(JI)Z", sig := { parameters := [.long, .int], returnType := some .boolean }, accessFlags := 9, code := some k1c1 }
/-- com/example/talence/talence/model/ObjectLayoutBlockCountPinLaw -/
def k1 : Class := { plain "com/example/talence/talence/model/ObjectLayoutBlockCountPinLaw" (some 0) with
  accessFlags := 49
  interfaces := #[]
  cf := some (fileOf pool1 23 #[] #[{ accessFlags := 1, nameIndex := 5, descriptorIndex := 6, attributes := #[] }, { accessFlags := 9, nameIndex := 27, descriptorIndex := 28, attributes := #[] }] 49 2 #[] #[])
  fields := #[]
  methods := #[k1m0, k1m1]
  instanceTypes := #[]
  staticTypes := #[]
  resolved := Array.replicate 32 none
  statics := none }

def pool2 : Array CpInfo := pool [(2, .class_ 4), (1, u "java/lang/Object"), (3, .class_ 10), (1, u "com/example/talence/talence/model/ObjectLayout"), (0, u "mode"), (0, u "Lcom/example/talence/talence/model/ObjectLayout$Mode;"), (2, u "blockSize"), (0, u "I"), (2, u "superBlocks"), (12, .class_ 34), (1, u "com/example/talence/talence/model/ObjectLayout$Mode"), (12, .long 2147483647), (14, u "MIN_BLOCK_SIZE"), (2, u "MAX_BLOCK_SIZE"), (0, u "DEFAULT_BLOCK_SIZE"), (1, u "DEFAULT_SUPER_BLOCKS"), (8, u "blockCount"), (0, u "(JI)I")] 24

def k2c0 : Code := { maxStack := 6, maxLocals := 5, code := prog_39_method_5_code, exceptionTable := #[], attributes := #[] }
def k2m0 : Method := { name := "blockCount", desc := "(JI)I", sig := { parameters := [.long, .int], returnType := some .int }, accessFlags := 9, code := some k2c0 }
/-- com/example/talence/talence/model/ObjectLayout -/
def k2 : Class := { plain "com/example/talence/talence/model/ObjectLayout" (some 0) with
  accessFlags := 33
  interfaces := #[]
  cf := some (fileOf pool2 8 #[.nestMembers #[32]] #[{ accessFlags := 9, nameIndex := 77, descriptorIndex := 78, attributes := #[] }] 33 2 #[] #[{ accessFlags := 25, nameIndex := 62, descriptorIndex := 16, attributes := #[] }, { accessFlags := 25, nameIndex := 65, descriptorIndex := 16, attributes := #[] }, { accessFlags := 25, nameIndex := 66, descriptorIndex := 16, attributes := #[] }, { accessFlags := 25, nameIndex := 68, descriptorIndex := 16, attributes := #[] }, { accessFlags := 18, nameIndex := 11, descriptorIndex := 12, attributes := #[] }, { accessFlags := 18, nameIndex := 15, descriptorIndex := 16, attributes := #[] }, { accessFlags := 18, nameIndex := 19, descriptorIndex := 16, attributes := #[] }])
  fields := #[{ name := "MIN_BLOCK_SIZE", type := .int, accessFlags := 25, slot := 0, constantValue := 0 }, { name := "MAX_BLOCK_SIZE", type := .int, accessFlags := 25, slot := 1, constantValue := 0 }, { name := "DEFAULT_BLOCK_SIZE", type := .int, accessFlags := 25, slot := 2, constantValue := 0 }, { name := "DEFAULT_SUPER_BLOCKS", type := .int, accessFlags := 25, slot := 3, constantValue := 0 }, { name := "mode", type := (.object "com/example/talence/talence/model/ObjectLayout$Mode"), accessFlags := 18, slot := 0, constantValue := 0 }, { name := "blockSize", type := .int, accessFlags := 18, slot := 1, constantValue := 0 }, { name := "superBlocks", type := .int, accessFlags := 18, slot := 2, constantValue := 0 }]
  methods := #[k2m0]
  instanceTypes := #[(.object "com/example/talence/talence/model/ObjectLayout$Mode"), .int, .int]
  staticTypes := #[.int, .int, .int, .int]
  resolved := Array.replicate 103 none
  statics := none }

def pool3 : Array CpInfo := pool [(1, u "java/lang/Cloneable"), (0, .class_ 1), (0, u "java/lang/Object"), (0, .class_ 3)] 3

/-- java/lang/Cloneable -/
def k3 : Class := { plain "java/lang/Cloneable" (some 0) with
  accessFlags := 1537
  interfaces := #[]
  cf := some (fileOf pool3 2 #[] #[] 1537 4 #[] #[])
  fields := #[]
  methods := #[]
  instanceTypes := #[]
  staticTypes := #[]
  resolved := Array.replicate 8 none
  statics := none }

def pool4 : Array CpInfo := pool [(1, u "java/io/Serializable"), (0, .class_ 1), (0, u "java/lang/Object"), (0, .class_ 3)] 3

/-- java/io/Serializable -/
def k4 : Class := { plain "java/io/Serializable" (some 0) with
  accessFlags := 1537
  interfaces := #[]
  cf := some (fileOf pool4 2 #[] #[] 1537 4 #[] #[])
  fields := #[]
  methods := #[]
  instanceTypes := #[]
  staticTypes := #[]
  resolved := Array.replicate 8 none
  statics := none }

/-- the primitive byte -/
def k5 : Class := { plain "byte" none with kind := .primitive 'B', accessFlags := 0x411 }
/-- [B -/
def k6 : Class := { plain "[B" (some 0) with kind := .array 5 .byte, interfaces := #[3, 4], accessFlags := 1041 }

/-- the primitive int -/
def k7 : Class := { plain "int" none with kind := .primitive 'I', accessFlags := 0x411 }
/-- [I -/
def k8 : Class := { plain "[I" (some 0) with kind := .array 7 .int, interfaces := #[3, 4], accessFlags := 1041 }

def heap : Heap := #[]
def classes : Array Class := #[k0, k1, k2, k3, k4, k5, k6, k7, k8]
def interned : List (Array UInt16 × Addr) := []
def slotsUsed : Nat := 0
def theMethod : MethodId := ⟨1, 1⟩
def args0 : Array Value := #[.long 5, .int 7]
def aboutOver (below : List Frame) : State where
  vm := { classes := classes, interned := interned.toArray }
  heap := heap
  slotsUsed := slotsUsed
  threads := #[{ frames := .invoking theMethod args0 :: below }]
def below0 : List Frame := [.native { method := ⟨0, 0⟩, args := #[] }]
def about1 : State := aboutOver below0
def p0 : Program := .bare "" "" ""
def e0 : Env := launch0.env 0 0 0
theorem w_frames : about1.frames = Frame.invoking theMethod args0 :: below0 := rfl
set_option maxRecDepth 65536 in
theorem w_args : argsFit about1.vm theMethod args0 = true := by decide +kernel
set_option maxRecDepth 65536 in
theorem w_heap : heapFits about1 = true := by decide +kernel
set_option maxRecDepth 65536 in
theorem w_runnable : about1.curStatus? = some .runnable := by decide +kernel
set_option maxRecDepth 65536 in
theorem w_alone : about1.alone = true := by decide +kernel
set_option maxRecDepth 65536 in
theorem w_named : about1.methodNamed? x = some theMethod := by decide +kernel
set_option maxRecDepth 65536 in
theorem w_hears : about1.hears theMethod below0 = true := by decide +kernel
set_option maxRecDepth 65536 in
theorem w_ripe : about1.ripe theMethod args0 below0 = true := by decide +kernel
theorem w_running : about1.status = .running := rfl
set_option maxRecDepth 65536 in
theorem w_room : about1.hasRoom e0.platform room_1 = true :=
  launch0.hasRoom_least _ room_1 (by decide +kernel) (by decide +kernel) (by decide +kernel) (by decide +kernel) (by decide +kernel) (by decide +kernel)
theorem allAtoms_all (ts : List Jvm.Cond) (a : Array Jvm.Value) (st : Jvm.State) : (allAtoms ts).before a st = ts.all (fun c => c.before a st) := by
  induction ts with
  | nil => rfl
  | cons c t ih =>
    show (Jvm.Cond.and c (allAtoms t)).before a st = _
    rw [Jvm.Cond.before_and, ih, List.all_cons]
def words1 : List Jvm.Cond := Jvm.Cond.code x code maxLocals ret :: tables_1
/-- a 'code' word, met by the world's own term for the bytes: nothing is compared byte by byte -/
theorem code_word {y : MethodName} {bytes : ByteArray} {mx : Nat} {rt : Option FieldType} {a : Array Value} {s : State} {m : MethodId} {meth : Method} {c : Code} (h1 : s.methodNamed? y = some m) (h2 : s.vm.method? m = some meth) (h3 : meth.code = some c) (h4 : c.code = bytes)
    (h5 : (c.maxLocals == mx && c.exceptionTable.isEmpty && decide (c.maxStack ≤ mostOperands) && decide (meth.sig.returnType = rt) && !meth.locks && decide (parseMethodDescriptor y.desc = some meth.sig)) = true) : (Jvm.Cond.code y bytes mx rt).before a s = true := by
  simp only [Bool.and_eq_true, beq_iff_eq, Bool.not_eq_true', decide_eq_true_eq] at h5
  obtain ⟨⟨⟨⟨⟨g1, g2⟩, g3⟩, g4⟩, g5⟩, g6⟩ := h5
  simp [Cond.before, Cond.holds, Cond.value, h1, h2, h3, h4, g1, g2, g3, g4, g5, g6]
def isCode : Jvm.Cond → Bool
  | .code _ _ _ _ => true
  | _ => false
theorem all_split {L : List Jvm.Cond} {P : Jvm.Cond → Bool} (h1 : L.all (fun c => isCode c || P c) = true) (h2 : ∀ c ∈ L.filter isCode, P c = true) : L.all P = true := by
  refine List.all_eq_true.mpr fun c hc => ?_
  have h := List.all_eq_true.mp h1 c hc
  rcases Bool.eq_false_or_eq_true (isCode c) with hi | hi
  · exact h2 c (List.mem_filter.mpr ⟨hc, hi⟩)
  · simpa [hi] using h
set_option maxRecDepth 65536 in
theorem w_c0 : (Jvm.Cond.code x code maxLocals ret).before args0 about1 = true := code_word (m := ⟨1, 1⟩) (meth := k1m1) (c := k1c1) (by decide +kernel) rfl rfl rfl (by decide +kernel)
set_option maxRecDepth 65536 in
theorem w_c1 : (Jvm.Cond.code ({ cls := "com/example/talence/talence/model/ObjectLayout", name := "blockCount", desc := "(JI)I" } : Jvm.MethodName) prog_39_method_5_code (5 : Nat) (Option.some Jvm.ClassFile.FieldType.int)).before args0 about1 = true := code_word (m := ⟨2, 0⟩) (meth := k2m0) (c := k2c0) (by decide +kernel) rfl rfl rfl (by decide +kernel)
def codes1 : List Jvm.Cond := [Jvm.Cond.code x code maxLocals ret, Jvm.Cond.code ({ cls := "com/example/talence/talence/model/ObjectLayout", name := "blockCount", desc := "(JI)I" } : Jvm.MethodName) prog_39_method_5_code (5 : Nat) (Option.some Jvm.ClassFile.FieldType.int)]
set_option maxRecDepth 65536 in
theorem codes_eq : words1.filter isCode = codes1 := rfl
theorem w_codes : ∀ c ∈ words1.filter isCode, c.before args0 about1 = true := by
  rw [codes_eq]
  intro c hc
  simp only [codes1, List.mem_cons, List.not_mem_nil, or_false] at hc
  rcases hc with rfl | rfl
  · exact w_c0
  · exact w_c1
set_option maxRecDepth 65536 in
theorem w_t1 : words1.all (fun c => isCode c || c.before args0 about1) = true := by decide +kernel
theorem w_tables : (allAtoms (Jvm.Cond.code x code maxLocals ret :: tables_1)).before args0 about1 = true := by
  rw [allAtoms_all]
  show words1.all (fun c => c.before args0 about1) = true
  refine all_split ?_ w_codes
  rw [w_t1]
set_option maxRecDepth 65536 in
theorem w_case : (Jvm.Cond.and given_1 narrow_1).before args0 about1 = true := by decide +kernel
theorem w_applies : (headSpec (Jvm.Cond.code x code maxLocals ret :: tables_1) room_1).applies x e0.platform about1 = true :=
  (Spec.applies_iff w_frames).mpr ⟨w_running, w_runnable, w_alone, w_named, w_hears, w_ripe, w_room, w_tables⟩
theorem atStart : AtStart classFile x code maxLocals ret World_1 tables_1 room_1 Calls_1 rest_1 Pre_1 launch0 p0 e0 about1 theMethod args0 below0 :=
  ⟨lists_1, trivial, launch0.admits_env _ _ _, launch0.least_env, fairChoices_fair.cas, fairChoices_fair.clock, w_frames, w_args, w_heap, w_applies, trivial, trivial, w_case⟩
end start1
theorem witness_1 : WitnessClaimed_1 := ⟨start1.p0, start1.e0, start1.about1, start1.theMethod, start1.args0, start1.below0, start1.atStart⟩
end Jvm.Pilot.@@N@@
