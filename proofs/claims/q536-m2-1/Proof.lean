import JvmDerived
import JvmDerived.Pilot.@@N@@Statement
import JvmDerived.Pilot.@@N@@Code
set_option linter.unusedVariables false
set_option linter.unusedSimpArgs false
namespace Jvm.RoadKit
theorem heq_of {T : State} {h : Heap} {a : Addr} {c : Cell} (e : T.heap = h) (q : h[a]? = some c) : T.heap[a]? = some c := by rw [e]; exact q
open Sem ClassFile Op Lib Jvm.Stand Jvm.Free Jvm.LawKit
section New
variable {p : Program} {l : Launch} {e : Env} {R : Room} {s : State} {m : MethodId} {args : Array Value} {below : List Frame} {meth : Method} {c : Code} {T : State} {locs : List Loc} {cells slots : Nat}
theorem retI (X : Stand p l e R s m args below meth c T locs cells slots) (hx : p.tables.exec = Jvm.exec) {pc : Nat} {Ls : Array Slot} {z : Int32} {rest : List Value} (hret : meth.sig.returnType = some .int) (hd : decode c.code pc = .ok (.ireturn, 1)) {fs : List Frame}
    (hl : ∀ (f : JFrame) (acts : List Action), f.method = m → f.locked = none → f.entered = [] → (doReturn e (T.setTop f) acts (some (.int z))).1 = T.setFrames fs) : Steps p.tables e below (T.setTop (mkF m pc Ls (.int z :: rest))) (T.setFrames fs) := by
  have hm' : T.vm.method? m = some meth := X.method'
  have hn : narrow .int (.int z) = .int z := rfl
  show Steps p.tables e below (T.setTop { method := m, pc := pc, locals := Ls, stack := _ :: rest, locked := none }) _
  jvm_step X.here [X.here.top, hx, hd, hm', hret, hn]
  first | (intro acts; rw [hl _ acts rfl rfl rfl]) | rw [hl _ _ rfl rfl rfl]
  exact Steps.refl _
end New
end Jvm.RoadKit
namespace Jvm.Pilot.@@N@@
open Jvm Jvm.ClassFile Sem Op Lib Jvm.Free Jvm.Stand Jvm.LawKit Jvm.RoadKit Bundle Jvm.Pilot.@@N@@.Jvm.D
theorem own_mask31 (a : Int32) : 0 ≤ (a &&& (2147483647 : Int32)).toInt ∧ (a &&& (2147483647 : Int32)).toInt < 2147483648 := by
  have h : (a &&& (2147483647 : Int32)).toBitVec = a.toBitVec &&& 2147483647#32 := rfl
  have e : (a &&& (2147483647 : Int32)).toInt = (a.toBitVec &&& 2147483647#32).toInt := by rw [← h]; rfl
  have hm : (a.toBitVec &&& 2147483647#32).toNat ≤ 2147483647 := by rw [BitVec.toNat_and]; exact Nat.and_le_right
  rw [e, BitVec.toInt_eq_toNat_of_lt (by omega)]
  omega
theorem own_rem (u s : Int32) (hu : 0 ≤ u.toInt) (hs : 0 < s.toInt) : 0 ≤ (u % s).toInt ∧ (u % s).toInt < s.toInt := by
  have : (u % s).toInt = u.toInt.tmod s.toInt := Int32.toInt_mod ..
  rw [this, Int.tmod_eq_emod_of_nonneg hu]
  exact ⟨Int.emod_nonneg _ (by omega), Int.emod_lt_of_pos _ hs⟩
theorem own_i32_add (x y : Int32) (h1 : -2147483648 ≤ x.toInt + y.toInt) (h2 : x.toInt + y.toInt < 2147483648) : (x + y).toInt = x.toInt + y.toInt := by
  rw [Int32.toInt_add, Int.bmod_eq_of_le (by omega) (by omega)]
theorem own_i32_sub (x y : Int32) (h1 : -2147483648 ≤ x.toInt - y.toInt) (h2 : x.toInt - y.toInt < 2147483648) : (x - y).toInt = x.toInt - y.toInt := by
  rw [Int32.toInt_sub, Int.bmod_eq_of_le (by omega) (by omega)]
theorem own_i64_add (x y : Int64) (h1 : -9223372036854775808 ≤ x.toInt + y.toInt) (h2 : x.toInt + y.toInt < 9223372036854775808) : (x + y).toInt = x.toInt + y.toInt := by
  rw [Int64.toInt_add, Int.bmod_eq_of_le (by omega) (by omega)]
theorem own_i64_sub (x y : Int64) (h1 : -9223372036854775808 ≤ x.toInt - y.toInt) (h2 : x.toInt - y.toInt < 9223372036854775808) : (x - y).toInt = x.toInt - y.toInt := by
  rw [Int64.toInt_sub, Int.bmod_eq_of_le (by omega) (by omega)]
theorem own_i64_mul (x y : Int64) (h1 : -9223372036854775808 ≤ x.toInt * y.toInt) (h2 : x.toInt * y.toInt < 9223372036854775808) : (x * y).toInt = x.toInt * y.toInt := by
  rw [Int64.toInt_mul, Int.bmod_eq_of_le (by omega) (by omega)]
theorem own_i2l (x : Int32) : x.toInt64.toInt = x.toInt := Int32.toInt_toInt64 x
theorem own_l2i (x : Int64) (h1 : -2147483648 ≤ x.toInt) (h2 : x.toInt < 2147483648) : x.toInt32.toInt = x.toInt := by
  rw [Int64.toInt_toInt32, Int.bmod_eq_of_le (by omega) (by omega)]
theorem own_rangeI (x : Int32) : -2147483648 ≤ x.toInt ∧ x.toInt < 2147483648 := by
  have h1 := Int32.le_toInt x; have h2 := Int32.toInt_lt x; omega
theorem own_rangeL (x : Int64) : -9223372036854775808 ≤ x.toInt ∧ x.toInt < 9223372036854775808 := by
  have h1 := Int64.le_toInt x; have h2 := Int64.toInt_lt x; omega
theorem own_mask63 (a : Int64) : 0 ≤ (a &&& (9223372036854775807 : Int64)).toInt ∧ (a &&& (9223372036854775807 : Int64)).toInt < 9223372036854775808 := by
  have h : (a &&& (9223372036854775807 : Int64)).toBitVec = a.toBitVec &&& 9223372036854775807#64 := rfl
  have e : (a &&& (9223372036854775807 : Int64)).toInt = (a.toBitVec &&& 9223372036854775807#64).toInt := by rw [← h]; rfl
  have hm : (a.toBitVec &&& 9223372036854775807#64).toNat ≤ 9223372036854775807 := by rw [BitVec.toNat_and]; exact Nat.and_le_right
  rw [e, BitVec.toInt_eq_toNat_of_lt (by omega)]
  omega
theorem own_remL (u s : Int64) (hu : 0 ≤ u.toInt) (hs : 0 < s.toInt) : 0 ≤ (u % s).toInt ∧ (u % s).toInt < s.toInt := by
  have : (u % s).toInt = u.toInt.tmod s.toInt := Int64.toInt_mod ..
  rw [this, Int.tmod_eq_emod_of_nonneg hu]
  exact ⟨Int.emod_nonneg _ (by omega), Int.emod_lt_of_pos _ hs⟩
theorem own_x (a : Int32) : 4096 ≤ ((4096 : Int32) + ((a &&& (2147483647 : Int32)) % (16773121 : Int32))).toInt ∧ ((4096 : Int32) + ((a &&& (2147483647 : Int32)) % (16773121 : Int32))).toInt ≤ 16777216 := by
  have h1 := own_mask31 a
  have h2 := own_rem (a &&& (2147483647 : Int32)) (16773121 : Int32) h1.1 (by decide)
  have e1 : (4096 : Int32).toInt = 4096 := rfl
  have e2 : (16773121 : Int32).toInt = 16773121 := rfl
  rw [own_i32_add _ _ (by omega) (by omega)]
  omega
theorem own_y (a : Int32) : 4096 ≤ ((16777216 : Int32) - ((a &&& (2147483647 : Int32)) % (16773121 : Int32))).toInt ∧ ((16777216 : Int32) - ((a &&& (2147483647 : Int32)) % (16773121 : Int32))).toInt ≤ 16777216 := by
  have h1 := own_mask31 a
  have h2 := own_rem (a &&& (2147483647 : Int32)) (16773121 : Int32) h1.1 (by decide)
  have e1 : (16777216 : Int32).toInt = 16777216 := rfl
  have e2 : (16773121 : Int32).toInt = 16773121 := rfl
  rw [own_i32_sub _ _ (by omega) (by omega)]
  omega
theorem own_lo (z : Int32) (h : 4096 ≤ z.toInt) : ¬ z < (4096 : Int32) := by
  rw [Int32.lt_iff_toInt_lt]; have e1 : (4096 : Int32).toInt = 4096 := rfl; omega
theorem own_hi (z : Int32) (h : z.toInt ≤ 16777216) : ¬ (16777216 : Int32) < z := by
  rw [Int32.lt_iff_toInt_lt]; have e1 : (16777216 : Int32).toInt = 16777216 := rfl; omega
theorem d1_0 : decode prog_39_method_4_code 0 = .ok (.iload_n 0, 1) := by decide +kernel
theorem d1_1 : decode prog_39_method_4_code 1 = .ok (.sipush 4096, 3) := by decide +kernel
theorem d1_4 : decode prog_39_method_4_code 4 = .ok (.if_icmp .lt 9, 3) := by decide +kernel
theorem d1_7 : decode prog_39_method_4_code 7 = .ok (.iload_n 0, 1) := by decide +kernel
theorem d1_8 : decode prog_39_method_4_code 8 = .ok (.ldc 42, 2) := by decide +kernel
theorem d1_10 : decode prog_39_method_4_code 10 = .ok (.if_icmp .le 13, 3) := by decide +kernel
theorem d1_23 : decode prog_39_method_4_code 23 = .ok (.return_, 1) := by decide +kernel
theorem pn_1 : plainName "com/example/talence/talence/model/ObjectLayout" = true := by first | (simp [plainName, overriddenIn]; done) | decide +kernel
theorem ef_1 (m : MethodId) (x0 : Int32) : entryFrame m #[(.int x0)] 1 = mkF m 0 #[.val (.int x0)] [] := by first | (simp [entryFrame, mkF, argsToLocals, Value.category]; done) | rfl
def Q1 (Z : State) (z : Int32) (h0 : Heap) (n0 : Nat) (v : Option Value) (h : Heap) (L : List Loc) : Prop := v = none ∧ Fr n0 L ∧ h = h0
set_option maxRecDepth 65536 in
set_option maxHeartbeats 40000000 in
theorem rm1 (l : Launch) (Z : State) (a0 : Array Value) (hw : ∀ d ∈ tables_1, d.before a0 Z = true) (ws : List Jvm.Cond) (z : Int32) (h0 : Heap) (n0 : Nat) (Z0 : n0 ≤ h0.size) (hlo : ¬ (z < (4096 : Int32))) (hhi : ¬ ((16777216 : Int32) < z)) :
    MetFree l (⟨"com/example/talence/talence/model/ObjectLayout", "checkBlockSize", "(I)V"⟩ : MethodName) (head1 (Jvm.Cond.code (⟨"com/example/talence/talence/model/ObjectLayout", "checkBlockSize", "(I)V"⟩ : MethodName) prog_39_method_4_code 1 none :: ws) ({ frames := 0, cells := 0, slots := 0, locals := 0 } : Room)) (fun a U => a = #[(.int z)] ∧ Z.Warmed39 U.vm ∧ U.heap = h0) (fun _ _ _ _ _ => True) (fun _ U o U' => ∃ v L, o = .returned v ∧ Q1 Z z h0 n0 v U'.heap L ∧ FrameEnd U o U' L ({ frames := 0, cells := 0, slots := 0, locals := 0 } : Room).cells ({ frames := 0, cells := 0, slots := 0, locals := 0 } : Room).slots) := by
  refine MetFree.of_bodySF (plainFor_of_name pn_1) hisR ?_
  intro p e s m args below meth c s₁ Bd hml0 hP hK
  obtain ⟨rfl, hZ, hh⟩ := hP
  have hx := Bd.exec
  have hby := Bd.bytes
  have hml : c.maxLocals = 1 := hml0
  have hown : s.vm.findClass "com/example/talence/talence/model/ObjectLayout" = some m.cls := findClass_of_methodNamed Bd.named
  have hnm := (name_of_methodNamed Bd.named Bd.method).1
  have X0 : Stand p l e ({ frames := 0, cells := 0, slots := 0, locals := 0 } : Room) s m #[(.int z)] below meth c s₁ [] 0 0 := Stand.of_body Bd
  have e0 : s₁.heap = h0 := by rw [← hh, Bd.state]; rfl
  have N0 := Fr.nil n0
  have K0 : Keep h0 h0 [] := Keep.refl h0 _
  have pre0 : ∀ tq, Steps p.tables e below (s₁.setTop (mkF m 0 #[.val (.int z)] [])) tq → Steps p.tables e below (s₁.setTop (entryFrame m #[(.int z)] 1)) tq := fun tq kq => castTop (ef_1 m z) kq
  obtain ⟨fs, hr, hrun, hended, hW, hsame⟩ := X0.leave (v := none) (fun _ => rfl)
  refine ⟨_, _, pre0 _ ?_, hrun, hended, _, _, rfl, ?_, ⟨_, rfl⟩, hW, hsame.mono (by decide) (by decide)⟩
  · skip
    show Steps p.tables e below (s₁.setTop (mkF m 0 #[.val (.int z)] [])) _
    refine XS.iloadN X0.here hx rfl (hb hby d1_0) rfl ?_
    show Steps p.tables e below (s₁.setTop (mkF m 1 #[.val (.int z)] [(.int z)])) _
    refine XS.sipush X0.here hx rfl (hb hby d1_1) ?_
    show Steps p.tables e below (s₁.setTop (mkF m 4 #[.val (.int z)] [(.int (4096 : Int32)), (.int z)])) _
    refine XS.icmpNo X0.here hx rfl (hb hby d1_4) rfl (flt hlo).1 ?_
    show Steps p.tables e below (s₁.setTop (mkF m 7 #[.val (.int z)] [])) _
    refine XS.iloadN X0.here hx rfl (hb hby d1_7) rfl ?_
    show Steps p.tables e below (s₁.setTop (mkF m 8 #[.val (.int z)] [(.int z)])) _
    refine X0.ldcInt hx hown (mvT hZ (hw _ (List.mem_of_getElem? (i := 7) rfl))) (g := (mkF m 8 #[.val (.int z)] [(.int z)])) rfl (hb hby d1_8) _ ?_
    show Steps p.tables e below (s₁.setTop (mkF m 10 #[.val (.int z)] [(.int (16777216 : Int32)), (.int z)])) _
    refine XS.icmpYes X0.here hx rfl (pc0 := 10) (pc' := 23) rfl (hb hby d1_10) rfl (flt hhi).2.2.2 (by decide) (by decide) ?_
    show Steps p.tables e below (s₁.setTop (mkF m 23 #[.val (.int z)] [])) _
    exact X0.returnOut hx Bd.returns (hb hby d1_23) hr
  · show Q1 Z z h0 n0 _ s₁.heap _
    rw [e0]
    exact ⟨rfl, N0, rfl⟩
theorem pn_0 : plainName "com/example/talence/talence/model/ObjectLayoutCheckBlockSizePinLaw" = true := by first | (simp [plainName, overriddenIn]; done) | decide +kernel
theorem pd_0 : parseMethodDescriptor "(I)V" = some ⟨[.int], none⟩ := by decide +kernel
theorem ef_0 (m : MethodId) (x0 : Int32) (x1 : Int32) : entryFrame m #[(.int x0), (.int x1)] maxLocals = mkF m 0 #[.val (.int x0), .val (.int x1), .unset, .unset, .unset] [] := by first | (simp [entryFrame, mkF, argsToLocals, Value.category, maxLocals]; done) | rfl
theorem own_pre_0_28_hlo (pa : Int32) (pb : Int32) (v13 : Int32) (hv13 : v13 = ((4096 : Int32) + ((pa &&& (2147483647 : Int32)) % (16773121 : Int32)))) (v23 : Int32) (hv23 : v23 = ((16777216 : Int32) - ((pb &&& (2147483647 : Int32)) % (16773121 : Int32)))) : ¬ ((4096 : Int32) < (4096 : Int32)) := by decide
theorem own_pre_0_28_hhi (pa : Int32) (pb : Int32) (v13 : Int32) (hv13 : v13 = ((4096 : Int32) + ((pa &&& (2147483647 : Int32)) % (16773121 : Int32)))) (v23 : Int32) (hv23 : v23 = ((16777216 : Int32) - ((pb &&& (2147483647 : Int32)) % (16773121 : Int32)))) (hp1_hlo : ¬ ((4096 : Int32) < (4096 : Int32))) : ¬ ((16777216 : Int32) < (4096 : Int32)) := by decide
theorem own_pre_0_33_hlo (pa : Int32) (pb : Int32) (v13 : Int32) (hv13 : v13 = ((4096 : Int32) + ((pa &&& (2147483647 : Int32)) % (16773121 : Int32)))) (v23 : Int32) (hv23 : v23 = ((16777216 : Int32) - ((pb &&& (2147483647 : Int32)) % (16773121 : Int32)))) (hp1_hlo : ¬ ((4096 : Int32) < (4096 : Int32))) (hp1_hhi : ¬ ((16777216 : Int32) < (4096 : Int32))) : ¬ ((16777216 : Int32) < (4096 : Int32)) := by decide
theorem own_pre_0_33_hhi (pa : Int32) (pb : Int32) (v13 : Int32) (hv13 : v13 = ((4096 : Int32) + ((pa &&& (2147483647 : Int32)) % (16773121 : Int32)))) (v23 : Int32) (hv23 : v23 = ((16777216 : Int32) - ((pb &&& (2147483647 : Int32)) % (16773121 : Int32)))) (hp1_hlo : ¬ ((4096 : Int32) < (4096 : Int32))) (hp1_hhi : ¬ ((16777216 : Int32) < (4096 : Int32))) (hp2_hlo : ¬ ((16777216 : Int32) < (4096 : Int32))) : ¬ ((16777216 : Int32) < (16777216 : Int32)) := by decide
theorem own_pre_0_37_hlo (pa : Int32) (pb : Int32) (v13 : Int32) (hv13 : v13 = ((4096 : Int32) + ((pa &&& (2147483647 : Int32)) % (16773121 : Int32)))) (v23 : Int32) (hv23 : v23 = ((16777216 : Int32) - ((pb &&& (2147483647 : Int32)) % (16773121 : Int32)))) (hp1_hlo : ¬ ((4096 : Int32) < (4096 : Int32))) (hp1_hhi : ¬ ((16777216 : Int32) < (4096 : Int32))) (hp2_hlo : ¬ ((16777216 : Int32) < (4096 : Int32))) (hp2_hhi : ¬ ((16777216 : Int32) < (16777216 : Int32))) : ¬ (v13 < (4096 : Int32)) := by rw [hv13]; exact own_lo _ (own_x pa).1
theorem own_pre_0_37_hhi (pa : Int32) (pb : Int32) (v13 : Int32) (hv13 : v13 = ((4096 : Int32) + ((pa &&& (2147483647 : Int32)) % (16773121 : Int32)))) (v23 : Int32) (hv23 : v23 = ((16777216 : Int32) - ((pb &&& (2147483647 : Int32)) % (16773121 : Int32)))) (hp1_hlo : ¬ ((4096 : Int32) < (4096 : Int32))) (hp1_hhi : ¬ ((16777216 : Int32) < (4096 : Int32))) (hp2_hlo : ¬ ((16777216 : Int32) < (4096 : Int32))) (hp2_hhi : ¬ ((16777216 : Int32) < (16777216 : Int32))) (hp3_hlo : ¬ (v13 < (4096 : Int32))) : ¬ ((16777216 : Int32) < v13) := by rw [hv13]; exact own_hi _ (own_x pa).2
theorem own_pre_0_42_hlo (pa : Int32) (pb : Int32) (v13 : Int32) (hv13 : v13 = ((4096 : Int32) + ((pa &&& (2147483647 : Int32)) % (16773121 : Int32)))) (v23 : Int32) (hv23 : v23 = ((16777216 : Int32) - ((pb &&& (2147483647 : Int32)) % (16773121 : Int32)))) (hp1_hlo : ¬ ((4096 : Int32) < (4096 : Int32))) (hp1_hhi : ¬ ((16777216 : Int32) < (4096 : Int32))) (hp2_hlo : ¬ ((16777216 : Int32) < (4096 : Int32))) (hp2_hhi : ¬ ((16777216 : Int32) < (16777216 : Int32))) (hp3_hlo : ¬ (v13 < (4096 : Int32))) (hp3_hhi : ¬ ((16777216 : Int32) < v13)) : ¬ (v23 < (4096 : Int32)) := by rw [hv23]; exact own_lo _ (own_y pb).1
theorem own_pre_0_42_hhi (pa : Int32) (pb : Int32) (v13 : Int32) (hv13 : v13 = ((4096 : Int32) + ((pa &&& (2147483647 : Int32)) % (16773121 : Int32)))) (v23 : Int32) (hv23 : v23 = ((16777216 : Int32) - ((pb &&& (2147483647 : Int32)) % (16773121 : Int32)))) (hp1_hlo : ¬ ((4096 : Int32) < (4096 : Int32))) (hp1_hhi : ¬ ((16777216 : Int32) < (4096 : Int32))) (hp2_hlo : ¬ ((16777216 : Int32) < (4096 : Int32))) (hp2_hhi : ¬ ((16777216 : Int32) < (16777216 : Int32))) (hp3_hlo : ¬ (v13 < (4096 : Int32))) (hp3_hhi : ¬ ((16777216 : Int32) < v13)) (hp4_hlo : ¬ (v23 < (4096 : Int32))) : ¬ ((16777216 : Int32) < v23) := by rw [hv23]; exact own_hi _ (own_y pb).2
def Q0 (Z : State) (pa : Int32) (pb : Int32) (h0 : Heap) (n0 : Nat) (v : Option Value) (h : Heap) (L : List Loc) : Prop := v = some (.int (1 : Int32)) ∧ Fr n0 L
set_option maxRecDepth 65536 in
set_option maxHeartbeats 40000000 in
theorem rm0 (l : Launch) (Z : State) (a0 : Array Value) (hw : ∀ d ∈ tables_1, d.before a0 Z = true) (ws : List Jvm.Cond) (pa : Int32) (pb : Int32) (h0 : Heap) (n0 : Nat) (Z0 : n0 ≤ h0.size)  :
    MetFree l x (head1 (Jvm.Cond.code x code maxLocals ret :: ws) room_1) (fun a U => a = #[(.int pa), (.int pb)] ∧ Z.Warmed39 U.vm ∧ U.heap = h0) (fun _ _ _ _ _ => True) (fun _ U o U' => ∃ v L, o = .returned v ∧ Q0 Z pa pb h0 n0 v U'.heap L ∧ FrameEnd U o U' L room_1.cells room_1.slots) := by
  refine MetFree.of_bodySF (plainFor_of_name pn_0) hisR ?_
  intro p e s m args below meth c s₁ Bd hml0 hP hK
  obtain ⟨rfl, hZ, hh⟩ := hP
  have hx := Bd.exec
  have hby := Bd.bytes
  have hml : c.maxLocals = 5 := hml0
  have hown : s.vm.findClass "com/example/talence/talence/model/ObjectLayoutCheckBlockSizePinLaw" = some m.cls := findClass_of_methodNamed Bd.named
  have hnm := (name_of_methodNamed Bd.named Bd.method).1
  have X0 : Stand p l e room_1 s m #[(.int pa), (.int pb)] below meth c s₁ [] 0 0 := Stand.of_body Bd
  have e0 : s₁.heap = h0 := by rw [← hh, Bd.state]; rfl
  have N0 := Fr.nil n0
  have K0 : Keep h0 h0 [] := Keep.refl h0 _
  have pre0 : ∀ tq, Steps p.tables e below (s₁.setTop (mkF m 0 #[.val (.int pa), .val (.int pb), .unset, .unset, .unset] [])) tq → Steps p.tables e below (s₁.setTop (entryFrame m #[(.int pa), (.int pb)] maxLocals)) tq := fun tq kq => castTop (ef_0 m pa pb) kq
  obtain ⟨v13, hv13⟩ : ∃ z_q : Int32, z_q = ((4096 : Int32) + ((pa &&& (2147483647 : Int32)) % (16773121 : Int32))) := ⟨_, rfl⟩
  obtain ⟨v23, hv23⟩ : ∃ z_q : Int32, z_q = ((16777216 : Int32) - ((pb &&& (2147483647 : Int32)) % (16773121 : Int32))) := ⟨_, rfl⟩
  have hp1_hlo : ¬ ((4096 : Int32) < (4096 : Int32)) := (own_pre_0_28_hlo pa pb v13 hv13 v23 hv23)
  have hp1_hhi : ¬ ((16777216 : Int32) < (4096 : Int32)) := (own_pre_0_28_hhi pa pb v13 hv13 v23 hv23 hp1_hlo)
  obtain ⟨_, _, ⟨T1, L1, k1, n1⟩, -, X1, ⟨Lc1, hQ1, l1, y1, z1⟩, st1⟩ := Jvm.LawKit.callS X0 hx (y := (⟨"com/example/talence/talence/model/ObjectLayout", "checkBlockSize", "(I)V"⟩ : MethodName)) hown (mvT hZ (hw _ (List.mem_of_getElem? (i := 3) rfl))) (mvT hZ (hw _ (List.mem_of_getElem? (i := 4) rfl))) (mvT hZ (hw _ (List.mem_of_getElem? (i := 5) rfl))) (mvT hZ (hw _ (List.mem_of_getElem? (i := 6) rfl))) (by decide) (backOf (W := 0) (rm1 l Z a0 hw [] (4096 : Int32) h0 n0 Z0 hp1_hlo hp1_hhi) hZ (hw _ (List.mem_of_getElem? (i := 6) rfl)) (hw _ (List.mem_of_getElem? (i := 5) rfl)) (by decide) (by decide)) (g := (mkF m 28 #[.val (.int pa), .val (.int pb), .val (.int (16773121 : Int32)), .val (.int v13), .val (.int v23)] [(.int (4096 : Int32))])) rfl (by rw [hml]; rfl) (argsL := [(.int (4096 : Int32))]) (rest := []) (lenOf pd_0 rfl) rfl (by show 2 * 0 + _ ≤ _; exact Nat.le_of_eq rfl) (hb hby at_28) (fun _ _ => ⟨rfl, e0, (by decide : 0 + 0 ≤ _), (by decide : 0 + 0 ≤ _)⟩)
  dsimp only [Pt.U, Pt.locs, Pt.cells, Pt.slots] at X1 l1 y1 z1 st1 hQ1
  subst l1 y1 z1
  obtain ⟨rfl, N1q, e1⟩ := hQ1
  have N1 := Fr.app N0 N1q
  have hp2_hlo : ¬ ((16777216 : Int32) < (4096 : Int32)) := (own_pre_0_33_hlo pa pb v13 hv13 v23 hv23 hp1_hlo hp1_hhi)
  have hp2_hhi : ¬ ((16777216 : Int32) < (16777216 : Int32)) := (own_pre_0_33_hhi pa pb v13 hv13 v23 hv23 hp1_hlo hp1_hhi hp2_hlo)
  obtain ⟨_, _, ⟨T2, L2, k2, n2⟩, -, X2, ⟨Lc2, hQ2, l2, y2, z2⟩, st2⟩ := Jvm.LawKit.callS X1 hx (y := (⟨"com/example/talence/talence/model/ObjectLayout", "checkBlockSize", "(I)V"⟩ : MethodName)) hown (mvT hZ (hw _ (List.mem_of_getElem? (i := 3) rfl))) (mvT hZ (hw _ (List.mem_of_getElem? (i := 4) rfl))) (mvT hZ (hw _ (List.mem_of_getElem? (i := 5) rfl))) (mvT hZ (hw _ (List.mem_of_getElem? (i := 6) rfl))) (by decide) (backOf (W := 0) (rm1 l Z a0 hw [] (16777216 : Int32) h0 n0 Z0 hp2_hlo hp2_hhi) hZ (hw _ (List.mem_of_getElem? (i := 6) rfl)) (hw _ (List.mem_of_getElem? (i := 5) rfl)) (by decide) (by decide)) (g := (mkF m 33 #[.val (.int pa), .val (.int pb), .val (.int (16773121 : Int32)), .val (.int v13), .val (.int v23)] [(.int (16777216 : Int32))])) rfl (by rw [hml]; rfl) (argsL := [(.int (16777216 : Int32))]) (rest := []) (lenOf pd_0 rfl) rfl (by show 2 * 0 + _ ≤ _; exact Nat.le_of_eq rfl) (hb hby at_33) (fun _ _ => ⟨rfl, e1, (by decide : 0 + 0 ≤ _), (by decide : 0 + 0 ≤ _)⟩)
  dsimp only [Pt.U, Pt.locs, Pt.cells, Pt.slots] at X2 l2 y2 z2 st2 hQ2
  subst l2 y2 z2
  obtain ⟨rfl, N2q, e2⟩ := hQ2
  have N2 := Fr.app N1 N2q
  have hp3_hlo : ¬ (v13 < (4096 : Int32)) := (own_pre_0_37_hlo pa pb v13 hv13 v23 hv23 hp1_hlo hp1_hhi hp2_hlo hp2_hhi)
  have hp3_hhi : ¬ ((16777216 : Int32) < v13) := (own_pre_0_37_hhi pa pb v13 hv13 v23 hv23 hp1_hlo hp1_hhi hp2_hlo hp2_hhi hp3_hlo)
  obtain ⟨_, _, ⟨T3, L3, k3, n3⟩, -, X3, ⟨Lc3, hQ3, l3, y3, z3⟩, st3⟩ := Jvm.LawKit.callS X2 hx (y := (⟨"com/example/talence/talence/model/ObjectLayout", "checkBlockSize", "(I)V"⟩ : MethodName)) hown (mvT hZ (hw _ (List.mem_of_getElem? (i := 3) rfl))) (mvT hZ (hw _ (List.mem_of_getElem? (i := 4) rfl))) (mvT hZ (hw _ (List.mem_of_getElem? (i := 5) rfl))) (mvT hZ (hw _ (List.mem_of_getElem? (i := 6) rfl))) (by decide) (backOf (W := 0) (rm1 l Z a0 hw [] v13 h0 n0 Z0 hp3_hlo hp3_hhi) hZ (hw _ (List.mem_of_getElem? (i := 6) rfl)) (hw _ (List.mem_of_getElem? (i := 5) rfl)) (by decide) (by decide)) (g := (mkF m 37 #[.val (.int pa), .val (.int pb), .val (.int (16773121 : Int32)), .val (.int v13), .val (.int v23)] [(.int v13)])) rfl (by rw [hml]; rfl) (argsL := [(.int v13)]) (rest := []) (lenOf pd_0 rfl) rfl (by show 2 * 0 + _ ≤ _; exact Nat.le_of_eq rfl) (hb hby at_37) (fun _ _ => ⟨rfl, e2, (by decide : 0 + 0 ≤ _), (by decide : 0 + 0 ≤ _)⟩)
  dsimp only [Pt.U, Pt.locs, Pt.cells, Pt.slots] at X3 l3 y3 z3 st3 hQ3
  subst l3 y3 z3
  obtain ⟨rfl, N3q, e3⟩ := hQ3
  have N3 := Fr.app N2 N3q
  have hp4_hlo : ¬ (v23 < (4096 : Int32)) := (own_pre_0_42_hlo pa pb v13 hv13 v23 hv23 hp1_hlo hp1_hhi hp2_hlo hp2_hhi hp3_hlo hp3_hhi)
  have hp4_hhi : ¬ ((16777216 : Int32) < v23) := (own_pre_0_42_hhi pa pb v13 hv13 v23 hv23 hp1_hlo hp1_hhi hp2_hlo hp2_hhi hp3_hlo hp3_hhi hp4_hlo)
  obtain ⟨_, _, ⟨T4, L4, k4, n4⟩, -, X4, ⟨Lc4, hQ4, l4, y4, z4⟩, st4⟩ := Jvm.LawKit.callS X3 hx (y := (⟨"com/example/talence/talence/model/ObjectLayout", "checkBlockSize", "(I)V"⟩ : MethodName)) hown (mvT hZ (hw _ (List.mem_of_getElem? (i := 3) rfl))) (mvT hZ (hw _ (List.mem_of_getElem? (i := 4) rfl))) (mvT hZ (hw _ (List.mem_of_getElem? (i := 5) rfl))) (mvT hZ (hw _ (List.mem_of_getElem? (i := 6) rfl))) (by decide) (backOf (W := 0) (rm1 l Z a0 hw [] v23 h0 n0 Z0 hp4_hlo hp4_hhi) hZ (hw _ (List.mem_of_getElem? (i := 6) rfl)) (hw _ (List.mem_of_getElem? (i := 5) rfl)) (by decide) (by decide)) (g := (mkF m 42 #[.val (.int pa), .val (.int pb), .val (.int (16773121 : Int32)), .val (.int v13), .val (.int v23)] [(.int v23)])) rfl (by rw [hml]; rfl) (argsL := [(.int v23)]) (rest := []) (lenOf pd_0 rfl) rfl (by show 2 * 0 + _ ≤ _; exact Nat.le_of_eq rfl) (hb hby at_42) (fun _ _ => ⟨rfl, e3, (by decide : 0 + 0 ≤ _), (by decide : 0 + 0 ≤ _)⟩)
  dsimp only [Pt.U, Pt.locs, Pt.cells, Pt.slots] at X4 l4 y4 z4 st4 hQ4
  subst l4 y4 z4
  obtain ⟨rfl, N4q, e4⟩ := hQ4
  have N4 := Fr.app N3 N4q
  obtain ⟨fs, hr, hrun, hended, hW, hsame⟩ := X4.leave (v := some (Value.int (1 : Int32))) (fun h => by rw [Bd.returns] at h; cases h)
  refine ⟨_, _, pre0 _ ?_, hrun, hended, _, _, rfl, ?_, ⟨_, rfl⟩, hW, hsame.mono (by decide) (by decide)⟩
  · skip
    show Steps p.tables e below (s₁.setTop (mkF m 0 #[.val (.int pa), .val (.int pb), .unset, .unset, .unset] [])) _
    refine X0.ldcInt hx hown (mvT hZ (hw _ (List.mem_of_getElem? (i := 0) rfl))) (g := (mkF m 0 #[.val (.int pa), .val (.int pb), .unset, .unset, .unset] [])) rfl (hb hby at_0) _ ?_
    show Steps p.tables e below (s₁.setTop (mkF m 2 #[.val (.int pa), .val (.int pb), .unset, .unset, .unset] [(.int (16773121 : Int32))])) _
    refine XS.istoreN X0.here hx rfl (hb hby at_2) rfl (l' := #[.val (.int pa), .val (.int pb), .val (.int (16773121 : Int32)), .unset, .unset]) rfl ?_
    show Steps p.tables e below (s₁.setTop (mkF m 3 #[.val (.int pa), .val (.int pb), .val (.int (16773121 : Int32)), .unset, .unset] [])) _
    refine XS.sipush X0.here hx rfl (hb hby at_3) ?_
    show Steps p.tables e below (s₁.setTop (mkF m 6 #[.val (.int pa), .val (.int pb), .val (.int (16773121 : Int32)), .unset, .unset] [(.int (4096 : Int32))])) _
    refine XS.iloadN X0.here hx rfl (hb hby at_6) rfl ?_
    show Steps p.tables e below (s₁.setTop (mkF m 7 #[.val (.int pa), .val (.int pb), .val (.int (16773121 : Int32)), .unset, .unset] [(.int pa), (.int (4096 : Int32))])) _
    refine X0.ldcInt hx hown (mvT hZ (hw _ (List.mem_of_getElem? (i := 1) rfl))) (g := (mkF m 7 #[.val (.int pa), .val (.int pb), .val (.int (16773121 : Int32)), .unset, .unset] [(.int pa), (.int (4096 : Int32))])) rfl (hb hby at_7) _ ?_
    show Steps p.tables e below (s₁.setTop (mkF m 9 #[.val (.int pa), .val (.int pb), .val (.int (16773121 : Int32)), .unset, .unset] [(.int (2147483647 : Int32)), (.int pa), (.int (4096 : Int32))])) _
    refine XS.iand X0.here hx rfl (hb hby at_9) rfl ?_
    show Steps p.tables e below (s₁.setTop (mkF m 10 #[.val (.int pa), .val (.int pb), .val (.int (16773121 : Int32)), .unset, .unset] [(.int (pa &&& (2147483647 : Int32))), (.int (4096 : Int32))])) _
    refine XS.iloadN X0.here hx rfl (hb hby at_10) rfl ?_
    show Steps p.tables e below (s₁.setTop (mkF m 11 #[.val (.int pa), .val (.int pb), .val (.int (16773121 : Int32)), .unset, .unset] [(.int (16773121 : Int32)), (.int (pa &&& (2147483647 : Int32))), (.int (4096 : Int32))])) _
    refine iremM X0 hx rfl (hb hby at_11) rfl (by decide : ¬ ((16773121 : Int32) = (0 : Int32))) ?_
    show Steps p.tables e below (s₁.setTop (mkF m 12 #[.val (.int pa), .val (.int pb), .val (.int (16773121 : Int32)), .unset, .unset] [(.int ((pa &&& (2147483647 : Int32)) % (16773121 : Int32))), (.int (4096 : Int32))])) _
    refine XS.iadd X0.here hx rfl (hb hby at_12) rfl ?_
    show Steps p.tables e below (s₁.setTop (mkF m 13 #[.val (.int pa), .val (.int pb), .val (.int (16773121 : Int32)), .unset, .unset] [(.int ((4096 : Int32) + ((pa &&& (2147483647 : Int32)) % (16773121 : Int32))))])) _
    refine XS.istoreN X0.here hx rfl (hb hby at_13) rfl (l' := #[.val (.int pa), .val (.int pb), .val (.int (16773121 : Int32)), .val (.int v13), .unset]) (by rw [hv13]; rfl) ?_
    show Steps p.tables e below (s₁.setTop (mkF m 14 #[.val (.int pa), .val (.int pb), .val (.int (16773121 : Int32)), .val (.int v13), .unset] [])) _
    refine X0.ldcInt hx hown (mvT hZ (hw _ (List.mem_of_getElem? (i := 2) rfl))) (g := (mkF m 14 #[.val (.int pa), .val (.int pb), .val (.int (16773121 : Int32)), .val (.int v13), .unset] [])) rfl (hb hby at_14) _ ?_
    show Steps p.tables e below (s₁.setTop (mkF m 16 #[.val (.int pa), .val (.int pb), .val (.int (16773121 : Int32)), .val (.int v13), .unset] [(.int (16777216 : Int32))])) _
    refine XS.iloadN X0.here hx rfl (hb hby at_16) rfl ?_
    show Steps p.tables e below (s₁.setTop (mkF m 17 #[.val (.int pa), .val (.int pb), .val (.int (16773121 : Int32)), .val (.int v13), .unset] [(.int pb), (.int (16777216 : Int32))])) _
    refine X0.ldcInt hx hown (mvT hZ (hw _ (List.mem_of_getElem? (i := 1) rfl))) (g := (mkF m 17 #[.val (.int pa), .val (.int pb), .val (.int (16773121 : Int32)), .val (.int v13), .unset] [(.int pb), (.int (16777216 : Int32))])) rfl (hb hby at_17) _ ?_
    show Steps p.tables e below (s₁.setTop (mkF m 19 #[.val (.int pa), .val (.int pb), .val (.int (16773121 : Int32)), .val (.int v13), .unset] [(.int (2147483647 : Int32)), (.int pb), (.int (16777216 : Int32))])) _
    refine XS.iand X0.here hx rfl (hb hby at_19) rfl ?_
    show Steps p.tables e below (s₁.setTop (mkF m 20 #[.val (.int pa), .val (.int pb), .val (.int (16773121 : Int32)), .val (.int v13), .unset] [(.int (pb &&& (2147483647 : Int32))), (.int (16777216 : Int32))])) _
    refine XS.iloadN X0.here hx rfl (hb hby at_20) rfl ?_
    show Steps p.tables e below (s₁.setTop (mkF m 21 #[.val (.int pa), .val (.int pb), .val (.int (16773121 : Int32)), .val (.int v13), .unset] [(.int (16773121 : Int32)), (.int (pb &&& (2147483647 : Int32))), (.int (16777216 : Int32))])) _
    refine iremM X0 hx rfl (hb hby at_21) rfl (by decide : ¬ ((16773121 : Int32) = (0 : Int32))) ?_
    show Steps p.tables e below (s₁.setTop (mkF m 22 #[.val (.int pa), .val (.int pb), .val (.int (16773121 : Int32)), .val (.int v13), .unset] [(.int ((pb &&& (2147483647 : Int32)) % (16773121 : Int32))), (.int (16777216 : Int32))])) _
    refine XS.isub X0.here hx rfl (hb hby at_22) rfl ?_
    show Steps p.tables e below (s₁.setTop (mkF m 23 #[.val (.int pa), .val (.int pb), .val (.int (16773121 : Int32)), .val (.int v13), .unset] [(.int ((16777216 : Int32) - ((pb &&& (2147483647 : Int32)) % (16773121 : Int32))))])) _
    refine XS.istore X0.here hx rfl (hb hby at_23) rfl (l' := #[.val (.int pa), .val (.int pb), .val (.int (16773121 : Int32)), .val (.int v13), .val (.int v23)]) (by rw [hv23]; rfl) ?_
    show Steps p.tables e below (s₁.setTop (mkF m 25 #[.val (.int pa), .val (.int pb), .val (.int (16773121 : Int32)), .val (.int v13), .val (.int v23)] [])) _
    refine XS.sipush X0.here hx rfl (hb hby at_25) ?_
    show Steps p.tables e below (s₁.setTop (mkF m 28 #[.val (.int pa), .val (.int pb), .val (.int (16773121 : Int32)), .val (.int v13), .val (.int v23)] [(.int (4096 : Int32))])) _
    refine st1 _ ?_
    show Steps p.tables e below (T1.setTop (mkF m 31 #[.val (.int pa), .val (.int pb), .val (.int (16773121 : Int32)), .val (.int v13), .val (.int v23)] [])) _
    refine X1.ldcInt hx hown (mvT hZ (hw _ (List.mem_of_getElem? (i := 2) rfl))) (g := (mkF m 31 #[.val (.int pa), .val (.int pb), .val (.int (16773121 : Int32)), .val (.int v13), .val (.int v23)] [])) rfl (hb hby at_31) _ ?_
    show Steps p.tables e below (T1.setTop (mkF m 33 #[.val (.int pa), .val (.int pb), .val (.int (16773121 : Int32)), .val (.int v13), .val (.int v23)] [(.int (16777216 : Int32))])) _
    refine st2 _ ?_
    show Steps p.tables e below (T2.setTop (mkF m 36 #[.val (.int pa), .val (.int pb), .val (.int (16773121 : Int32)), .val (.int v13), .val (.int v23)] [])) _
    refine XS.iloadN X2.here hx rfl (hb hby at_36) rfl ?_
    show Steps p.tables e below (T2.setTop (mkF m 37 #[.val (.int pa), .val (.int pb), .val (.int (16773121 : Int32)), .val (.int v13), .val (.int v23)] [(.int v13)])) _
    refine st3 _ ?_
    show Steps p.tables e below (T3.setTop (mkF m 40 #[.val (.int pa), .val (.int pb), .val (.int (16773121 : Int32)), .val (.int v13), .val (.int v23)] [])) _
    refine XS.iload X3.here hx rfl (hb hby at_40) rfl ?_
    show Steps p.tables e below (T3.setTop (mkF m 42 #[.val (.int pa), .val (.int pb), .val (.int (16773121 : Int32)), .val (.int v13), .val (.int v23)] [(.int v23)])) _
    refine st4 _ ?_
    show Steps p.tables e below (T4.setTop (mkF m 45 #[.val (.int pa), .val (.int pb), .val (.int (16773121 : Int32)), .val (.int v13), .val (.int v23)] [])) _
    refine XS.iloadN X4.here hx rfl (hb hby at_45) rfl ?_
    show Steps p.tables e below (T4.setTop (mkF m 46 #[.val (.int pa), .val (.int pb), .val (.int (16773121 : Int32)), .val (.int v13), .val (.int v23)] [(.int v13)])) _
    refine XS.sipush X4.here hx rfl (hb hby at_46) ?_
    show Steps p.tables e below (T4.setTop (mkF m 49 #[.val (.int pa), .val (.int pb), .val (.int (16773121 : Int32)), .val (.int v13), .val (.int v23)] [(.int (4096 : Int32)), (.int v13)])) _
    refine XS.icmpNo X4.here hx rfl (hb hby at_49) rfl (flt hp3_hlo).1 ?_
    show Steps p.tables e below (T4.setTop (mkF m 52 #[.val (.int pa), .val (.int pb), .val (.int (16773121 : Int32)), .val (.int v13), .val (.int v23)] [])) _
    refine XS.iloadN X4.here hx rfl (hb hby at_52) rfl ?_
    show Steps p.tables e below (T4.setTop (mkF m 53 #[.val (.int pa), .val (.int pb), .val (.int (16773121 : Int32)), .val (.int v13), .val (.int v23)] [(.int v13)])) _
    refine X4.ldcInt hx hown (mvT hZ (hw _ (List.mem_of_getElem? (i := 2) rfl))) (g := (mkF m 53 #[.val (.int pa), .val (.int pb), .val (.int (16773121 : Int32)), .val (.int v13), .val (.int v23)] [(.int v13)])) rfl (hb hby at_53) _ ?_
    show Steps p.tables e below (T4.setTop (mkF m 55 #[.val (.int pa), .val (.int pb), .val (.int (16773121 : Int32)), .val (.int v13), .val (.int v23)] [(.int (16777216 : Int32)), (.int v13)])) _
    refine XS.icmpNo X4.here hx rfl (hb hby at_55) rfl (flt hp3_hhi).2.2.1 ?_
    show Steps p.tables e below (T4.setTop (mkF m 58 #[.val (.int pa), .val (.int pb), .val (.int (16773121 : Int32)), .val (.int v13), .val (.int v23)] [])) _
    refine XS.iload X4.here hx rfl (hb hby at_58) rfl ?_
    show Steps p.tables e below (T4.setTop (mkF m 60 #[.val (.int pa), .val (.int pb), .val (.int (16773121 : Int32)), .val (.int v13), .val (.int v23)] [(.int v23)])) _
    refine XS.sipush X4.here hx rfl (hb hby at_60) ?_
    show Steps p.tables e below (T4.setTop (mkF m 63 #[.val (.int pa), .val (.int pb), .val (.int (16773121 : Int32)), .val (.int v13), .val (.int v23)] [(.int (4096 : Int32)), (.int v23)])) _
    refine XS.icmpNo X4.here hx rfl (hb hby at_63) rfl (flt hp4_hlo).1 ?_
    show Steps p.tables e below (T4.setTop (mkF m 66 #[.val (.int pa), .val (.int pb), .val (.int (16773121 : Int32)), .val (.int v13), .val (.int v23)] [])) _
    refine XS.iload X4.here hx rfl (hb hby at_66) rfl ?_
    show Steps p.tables e below (T4.setTop (mkF m 68 #[.val (.int pa), .val (.int pb), .val (.int (16773121 : Int32)), .val (.int v13), .val (.int v23)] [(.int v23)])) _
    refine X4.ldcInt hx hown (mvT hZ (hw _ (List.mem_of_getElem? (i := 2) rfl))) (g := (mkF m 68 #[.val (.int pa), .val (.int pb), .val (.int (16773121 : Int32)), .val (.int v13), .val (.int v23)] [(.int v23)])) rfl (hb hby at_68) _ ?_
    show Steps p.tables e below (T4.setTop (mkF m 70 #[.val (.int pa), .val (.int pb), .val (.int (16773121 : Int32)), .val (.int v13), .val (.int v23)] [(.int (16777216 : Int32)), (.int v23)])) _
    refine XS.icmpNo X4.here hx rfl (hb hby at_70) rfl (flt hp4_hhi).2.2.1 ?_
    show Steps p.tables e below (T4.setTop (mkF m 73 #[.val (.int pa), .val (.int pb), .val (.int (16773121 : Int32)), .val (.int v13), .val (.int v23)] [])) _
    refine XS.iconst X4.here hx rfl (hb hby at_73) ?_
    show Steps p.tables e below (T4.setTop (mkF m 74 #[.val (.int pa), .val (.int pb), .val (.int (16773121 : Int32)), .val (.int v13), .val (.int v23)] [(.int (1 : Int32))])) _
    refine XS.goto X4.here hx rfl (pc0 := 74) (pc' := 78) rfl (hb hby at_74) (by decide) (by decide) ?_
    show Steps p.tables e below (T4.setTop (mkF m 78 #[.val (.int pa), .val (.int pb), .val (.int (16773121 : Int32)), .val (.int v13), .val (.int v23)] [(.int (1 : Int32))])) _
    exact retN X4 hx (t := .boolean) Bd.returns (by simp) (hb hby at_78) hr
  · show Q0 Z pa pb h0 n0 _ T4.heap _
    rw [e4]
    exact ⟨rfl, N4⟩
set_option maxRecDepth 65536 in
set_option maxHeartbeats 40000000 in
theorem comes_1 {Post : Tables → Env → Array Value → State → Outcome → State → Prop} (hpost : ∀ tb e args s v u, (limb_1_1.after args s (.returned v) u = true ∧ limb_1_2.after args s (.returned v) u = true ∧ True) → FrameEnd s (.returned v) u (Jvm.fieldLocs frame_1_writes args s ++ Jvm.arrayLocs frame_1_arrays args s ++ Jvm.staticLocs frame_1_statics s) 0 0 → Post tb e args s (.returned v) u) :
    ArmFor flags0 classFile x code maxLocals ret World_1 tables_1 room_1 Calls_1 rest_1 Pre_1 Post := by
  intro l hfl _ _ p e ha hc hk s m args below hf hA hF happ hP
  obtain ⟨hcalls, hrest, hpre⟩ := hP
  obtain ⟨-, -, -, hnamed, -, -, -, hat⟩ := (Spec.applies_iff hf).mp happ
  obtain ⟨hg, hn⟩ := and_e (Cond.before_iff.mp (show (Jvm.Cond.and given_1 narrow_1).before args s = true from hpre))
  obtain ⟨gv1, gv2⟩ := and_e hg
  obtain ⟨gv3, gv4⟩ := and_e gv2
  obtain ⟨w0, w1, rfl⟩ : ∃ w0 w1 : Value, args = #[w0, w1] := by
    have hs : args.size = 2 := by simpa [Cond.value, given_1] using gv1
    obtain ⟨L⟩ := args
    match L, hs with
    | [w0, w1], _ => exact ⟨w0, w1, rfl⟩
  have hw := fun d (hd : d ∈ tables_1) => atoms_spec (ws := Jvm.Cond.code x code maxLocals ret :: tables_1) hat d (List.mem_cons_of_mem _ hd)
  obtain ⟨i0, ei0⟩ := is_v gv3
  obtain rfl : w0 = (.int i0) := Option.some.inj ei0
  obtain ⟨i1, ei1⟩ := is_v gv4
  obtain rfl : w1 = (.int i1) := Option.some.inj ei1
  obtain ⟨n, o, h1, h2, h3, _, L, rfl, ⟨rfl, N⟩, hq⟩ := rm0 l s _ hw tables_1 i0 i1  s.heap s.heap.size (Nat.le_refl _)  p e ha hc hk s m _ below hf ((Spec.applies_iff_loose hf).mp happ).1 ⟨rfl, State.Warmed39.refl s, rfl⟩ trivial
  refine ⟨n, _, h1, h2, h3, hpost _ _ _ _ _ _ ⟨Cond.after_iff.mpr rfl, Cond.after_iff.mpr (eq_i res_at (Term.int_eval (1)) rfl), trivial⟩ ⟨hq.1, hq.2.1, (hq.2.2.sift fun y hy => Or.inr (N y hy)).mono (by decide) (by decide)⟩⟩
theorem main_1_1 : Claimed_1_1 := comes_1 fun _ _ _ _ _ _ h hF => ⟨h.1, hF⟩
theorem main_1_2 : Claimed_1_2 := comes_1 fun _ _ _ _ _ _ h hF => ⟨h.2.1, hF⟩
end Jvm.Pilot.@@N@@
namespace Jvm.Pilot.@@N@@
open Jvm Jvm.ClassFile Sem Op Lib Jvm.Free Jvm.Stand Jvm.Pilot.@@N@@.Jvm.D
/-! MADE BY PROGRAM (witnessworld.py) out of the Statement's table words and the real class files: 9 classes; the members and pool entries that the words name. The judged class is class 1, her method 1. -/
namespace start1
open Jvm.ClassFile
def u (s : String) : CpInfo := .utf8 (stringToUtf16 s)
/-- a pool by its gaps: so many unusable entries, then the entry; so many at the end -/
def gap : Nat → List CpInfo → List CpInfo
  | 0, r => r
  | n + 1, r => .unusable :: gap n r
def poolList (es : List (Nat × CpInfo)) (last : Nat) : List CpInfo := es.foldr (fun e r => gap e.1 (e.2 :: r)) (gap last [])
def pool (es : List (Nat × CpInfo)) (last : Nat) : Array CpInfo := ⟨poolList es last⟩
def fileOf (pool : Array CpInfo) (this : Nat) (attrs : Array Attribute := #[]) (ms : Array MethodInfo := #[]) (fl : Nat := 33) (sup : Nat := 0) (ifs : Array Nat := #[]) (fds : Array FieldInfo := #[]) : ClassFile where
  minorVersion := 0
  majorVersion := 65
  constantPool := pool
  accessFlags := fl
  thisClass := this
  superClass := sup
  interfaces := ifs
  fields := fds
  methods := ms
  attributes := attrs
def plain (name : String) (sup : Option ClassId) : Class where
  name := name
  kind := .ordinary
  loader := none
  accessFlags := 33
  super := sup
  interfaces := #[]
  cf := none
  fields := #[]
  methods := #[]
  instanceTypes := #[]
  staticTypes := #[]
  resolved := #[]
  callSites := []
  init := .initialized
  statics := none
  mirror := none

def pool0 : Array CpInfo := pool [(5, u "<init>"), (0, u "()V"), (1, .class_ 10), (1, u "java/lang/Object")] 113

def k0m0 : Method := { name := "<init>", desc := "()V", sig := { parameters := [], returnType := none }, accessFlags := 1, code := none }
/-- java/lang/Object -/
def k0 : Class := { plain "java/lang/Object" none with
  accessFlags := 33
  interfaces := #[]
  cf := some (fileOf pool0 8 #[] #[{ accessFlags := 1, nameIndex := 5, descriptorIndex := 6, attributes := #[] }] 33 0 #[] #[])
  fields := #[]
  methods := #[k0m0]
  instanceTypes := #[]
  staticTypes := #[]
  resolved := Array.replicate 124 none
  statics := none }

def pool1 : Array CpInfo := pool [(2, .class_ 4), (1, u "java/lang/Object"), (0, u "<init>"), (0, u "()V"), (0, .class_ 8), (0, u "com/example/talence/talence/model/ObjectLayout"), (0, .integer 16773121), (0, .integer 2147483647), (0, .integer 16777216), (0, .methodref 7 13), (0, .nameAndType 14 15), (0, u "checkBlockSize"), (0, u "(I)V"), (0, .class_ 17), (0, u "com/example/talence/talence/model/ObjectLayoutCheckBlockSizePinLaw"), (2, u "law"), (0, u "(II)Z")] 3

def k1m0 : Method := { name := "<init>", desc := "()V", sig := { parameters := [], returnType := none }, accessFlags := 1, code := none }
def k1c1 : Code := { maxStack := 3, maxLocals := 5, code := code, exceptionTable := #[], attributes := #[] }
def k1m1 : Method := { name := "law", desc := "(II)Z", sig := { parameters := [.int, .int], returnType := some .boolean }, accessFlags := 9, code := some k1c1 }
/-- com/example/talence/talence/model/ObjectLayoutCheckBlockSizePinLaw -/
def k1 : Class := { plain "com/example/talence/talence/model/ObjectLayoutCheckBlockSizePinLaw" (some 0) with
  accessFlags := 49
  interfaces := #[]
  cf := some (fileOf pool1 16 #[] #[{ accessFlags := 1, nameIndex := 5, descriptorIndex := 6, attributes := #[] }, { accessFlags := 9, nameIndex := 20, descriptorIndex := 21, attributes := #[] }] 49 2 #[] #[])
  fields := #[]
  methods := #[k1m0, k1m1]
  instanceTypes := #[]
  staticTypes := #[]
  resolved := Array.replicate 25 none
  statics := none }

def pool2 : Array CpInfo := pool [(2, .class_ 4), (1, u "java/lang/Object"), (3, .class_ 10), (1, u "com/example/talence/talence/model/ObjectLayout"), (0, u "mode"), (0, u "Lcom/example/talence/talence/model/ObjectLayout$Mode;"), (2, u "blockSize"), (0, u "I"), (2, u "superBlocks"), (2, u "checkBlockSize"), (0, u "(I)V"), (8, .class_ 34), (1, u "com/example/talence/talence/model/ObjectLayout$Mode"), (7, .integer 16777216), (19, u "MIN_BLOCK_SIZE"), (2, u "MAX_BLOCK_SIZE"), (0, u "DEFAULT_BLOCK_SIZE"), (1, u "DEFAULT_SUPER_BLOCKS")] 34

def k2c0 : Code := { maxStack := 3, maxLocals := 1, code := prog_39_method_4_code, exceptionTable := #[], attributes := #[] }
def k2m0 : Method := { name := "checkBlockSize", desc := "(I)V", sig := { parameters := [.int], returnType := none }, accessFlags := 9, code := some k2c0 }
/-- com/example/talence/talence/model/ObjectLayout -/
def k2 : Class := { plain "com/example/talence/talence/model/ObjectLayout" (some 0) with
  accessFlags := 33
  interfaces := #[]
  cf := some (fileOf pool2 8 #[.nestMembers #[32]] #[{ accessFlags := 9, nameIndex := 22, descriptorIndex := 23, attributes := #[] }] 33 2 #[] #[{ accessFlags := 25, nameIndex := 62, descriptorIndex := 16, attributes := #[] }, { accessFlags := 25, nameIndex := 65, descriptorIndex := 16, attributes := #[] }, { accessFlags := 25, nameIndex := 66, descriptorIndex := 16, attributes := #[] }, { accessFlags := 25, nameIndex := 68, descriptorIndex := 16, attributes := #[] }, { accessFlags := 18, nameIndex := 11, descriptorIndex := 12, attributes := #[] }, { accessFlags := 18, nameIndex := 15, descriptorIndex := 16, attributes := #[] }, { accessFlags := 18, nameIndex := 19, descriptorIndex := 16, attributes := #[] }])
  fields := #[{ name := "MIN_BLOCK_SIZE", type := .int, accessFlags := 25, slot := 0, constantValue := 0 }, { name := "MAX_BLOCK_SIZE", type := .int, accessFlags := 25, slot := 1, constantValue := 0 }, { name := "DEFAULT_BLOCK_SIZE", type := .int, accessFlags := 25, slot := 2, constantValue := 0 }, { name := "DEFAULT_SUPER_BLOCKS", type := .int, accessFlags := 25, slot := 3, constantValue := 0 }, { name := "mode", type := (.object "com/example/talence/talence/model/ObjectLayout$Mode"), accessFlags := 18, slot := 0, constantValue := 0 }, { name := "blockSize", type := .int, accessFlags := 18, slot := 1, constantValue := 0 }, { name := "superBlocks", type := .int, accessFlags := 18, slot := 2, constantValue := 0 }]
  methods := #[k2m0]
  instanceTypes := #[(.object "com/example/talence/talence/model/ObjectLayout$Mode"), .int, .int]
  staticTypes := #[.int, .int, .int, .int]
  resolved := Array.replicate 103 none
  statics := none }

def pool3 : Array CpInfo := pool [(1, u "java/lang/Cloneable"), (0, .class_ 1), (0, u "java/lang/Object"), (0, .class_ 3)] 3

/-- java/lang/Cloneable -/
def k3 : Class := { plain "java/lang/Cloneable" (some 0) with
  accessFlags := 1537
  interfaces := #[]
  cf := some (fileOf pool3 2 #[] #[] 1537 4 #[] #[])
  fields := #[]
  methods := #[]
  instanceTypes := #[]
  staticTypes := #[]
  resolved := Array.replicate 8 none
  statics := none }

def pool4 : Array CpInfo := pool [(1, u "java/io/Serializable"), (0, .class_ 1), (0, u "java/lang/Object"), (0, .class_ 3)] 3

/-- java/io/Serializable -/
def k4 : Class := { plain "java/io/Serializable" (some 0) with
  accessFlags := 1537
  interfaces := #[]
  cf := some (fileOf pool4 2 #[] #[] 1537 4 #[] #[])
  fields := #[]
  methods := #[]
  instanceTypes := #[]
  staticTypes := #[]
  resolved := Array.replicate 8 none
  statics := none }

/-- the primitive byte -/
def k5 : Class := { plain "byte" none with kind := .primitive 'B', accessFlags := 0x411 }
/-- [B -/
def k6 : Class := { plain "[B" (some 0) with kind := .array 5 .byte, interfaces := #[3, 4], accessFlags := 1041 }

/-- the primitive int -/
def k7 : Class := { plain "int" none with kind := .primitive 'I', accessFlags := 0x411 }
/-- [I -/
def k8 : Class := { plain "[I" (some 0) with kind := .array 7 .int, interfaces := #[3, 4], accessFlags := 1041 }

def heap : Heap := #[]
def classes : Array Class := #[k0, k1, k2, k3, k4, k5, k6, k7, k8]
def interned : List (Array UInt16 × Addr) := []
def slotsUsed : Nat := 0
def theMethod : MethodId := ⟨1, 1⟩
def args0 : Array Value := #[.int 5, .int 7]
def aboutOver (below : List Frame) : State where
  vm := { classes := classes, interned := interned.toArray }
  heap := heap
  slotsUsed := slotsUsed
  threads := #[{ frames := .invoking theMethod args0 :: below }]
def below0 : List Frame := [.native { method := ⟨0, 0⟩, args := #[] }]
def about1 : State := aboutOver below0
def p0 : Program := .bare "" "" ""
def e0 : Env := launch0.env 0 0 0
theorem w_frames : about1.frames = Frame.invoking theMethod args0 :: below0 := rfl
set_option maxRecDepth 65536 in
theorem w_args : argsFit about1.vm theMethod args0 = true := by decide +kernel
set_option maxRecDepth 65536 in
theorem w_heap : heapFits about1 = true := by decide +kernel
set_option maxRecDepth 65536 in
theorem w_runnable : about1.curStatus? = some .runnable := by decide +kernel
set_option maxRecDepth 65536 in
theorem w_alone : about1.alone = true := by decide +kernel
set_option maxRecDepth 65536 in
theorem w_named : about1.methodNamed? x = some theMethod := by decide +kernel
set_option maxRecDepth 65536 in
theorem w_hears : about1.hears theMethod below0 = true := by decide +kernel
set_option maxRecDepth 65536 in
theorem w_ripe : about1.ripe theMethod args0 below0 = true := by decide +kernel
theorem w_running : about1.status = .running := rfl
set_option maxRecDepth 65536 in
theorem w_room : about1.hasRoom e0.platform room_1 = true :=
  launch0.hasRoom_least _ room_1 (by decide +kernel) (by decide +kernel) (by decide +kernel) (by decide +kernel) (by decide +kernel) (by decide +kernel)
theorem allAtoms_all (ts : List Jvm.Cond) (a : Array Jvm.Value) (st : Jvm.State) : (allAtoms ts).before a st = ts.all (fun c => c.before a st) := by
  induction ts with
  | nil => rfl
  | cons c t ih =>
    show (Jvm.Cond.and c (allAtoms t)).before a st = _
    rw [Jvm.Cond.before_and, ih, List.all_cons]
def words1 : List Jvm.Cond := Jvm.Cond.code x code maxLocals ret :: tables_1
/-- a 'code' word, met by the world's own term for the bytes: nothing is compared byte by byte -/
theorem code_word {y : MethodName} {bytes : ByteArray} {mx : Nat} {rt : Option FieldType} {a : Array Value} {s : State} {m : MethodId} {meth : Method} {c : Code} (h1 : s.methodNamed? y = some m) (h2 : s.vm.method? m = some meth) (h3 : meth.code = some c) (h4 : c.code = bytes)
    (h5 : (c.maxLocals == mx && c.exceptionTable.isEmpty && decide (c.maxStack ≤ mostOperands) && decide (meth.sig.returnType = rt) && !meth.locks && decide (parseMethodDescriptor y.desc = some meth.sig)) = true) : (Jvm.Cond.code y bytes mx rt).before a s = true := by
  simp only [Bool.and_eq_true, beq_iff_eq, Bool.not_eq_true', decide_eq_true_eq] at h5
  obtain ⟨⟨⟨⟨⟨g1, g2⟩, g3⟩, g4⟩, g5⟩, g6⟩ := h5
  simp [Cond.before, Cond.holds, Cond.value, h1, h2, h3, h4, g1, g2, g3, g4, g5, g6]
def isCode : Jvm.Cond → Bool
  | .code _ _ _ _ => true
  | _ => false
theorem all_split {L : List Jvm.Cond} {P : Jvm.Cond → Bool} (h1 : L.all (fun c => isCode c || P c) = true) (h2 : ∀ c ∈ L.filter isCode, P c = true) : L.all P = true := by
  refine List.all_eq_true.mpr fun c hc => ?_
  have h := List.all_eq_true.mp h1 c hc
  rcases Bool.eq_false_or_eq_true (isCode c) with hi | hi
  · exact h2 c (List.mem_filter.mpr ⟨hc, hi⟩)
  · simpa [hi] using h
set_option maxRecDepth 65536 in
theorem w_c0 : (Jvm.Cond.code x code maxLocals ret).before args0 about1 = true := code_word (m := ⟨1, 1⟩) (meth := k1m1) (c := k1c1) (by decide +kernel) rfl rfl rfl (by decide +kernel)
set_option maxRecDepth 65536 in
theorem w_c1 : (Jvm.Cond.code ({ cls := "com/example/talence/talence/model/ObjectLayout", name := "checkBlockSize", desc := "(I)V" } : Jvm.MethodName) prog_39_method_4_code (1 : Nat) (Option.none : Option Jvm.ClassFile.FieldType)).before args0 about1 = true := code_word (m := ⟨2, 0⟩) (meth := k2m0) (c := k2c0) (by decide +kernel) rfl rfl rfl (by decide +kernel)
def codes1 : List Jvm.Cond := [Jvm.Cond.code x code maxLocals ret, Jvm.Cond.code ({ cls := "com/example/talence/talence/model/ObjectLayout", name := "checkBlockSize", desc := "(I)V" } : Jvm.MethodName) prog_39_method_4_code (1 : Nat) (Option.none : Option Jvm.ClassFile.FieldType)]
set_option maxRecDepth 65536 in
theorem codes_eq : words1.filter isCode = codes1 := rfl
theorem w_codes : ∀ c ∈ words1.filter isCode, c.before args0 about1 = true := by
  rw [codes_eq]
  intro c hc
  simp only [codes1, List.mem_cons, List.not_mem_nil, or_false] at hc
  rcases hc with rfl | rfl
  · exact w_c0
  · exact w_c1
set_option maxRecDepth 65536 in
theorem w_t1 : words1.all (fun c => isCode c || c.before args0 about1) = true := by decide +kernel
theorem w_tables : (allAtoms (Jvm.Cond.code x code maxLocals ret :: tables_1)).before args0 about1 = true := by
  rw [allAtoms_all]
  show words1.all (fun c => c.before args0 about1) = true
  refine all_split ?_ w_codes
  rw [w_t1]
set_option maxRecDepth 65536 in
theorem w_case : (Jvm.Cond.and given_1 narrow_1).before args0 about1 = true := by decide +kernel
theorem w_applies : (headSpec (Jvm.Cond.code x code maxLocals ret :: tables_1) room_1).applies x e0.platform about1 = true :=
  (Spec.applies_iff w_frames).mpr ⟨w_running, w_runnable, w_alone, w_named, w_hears, w_ripe, w_room, w_tables⟩
theorem atStart : AtStart classFile x code maxLocals ret World_1 tables_1 room_1 Calls_1 rest_1 Pre_1 launch0 p0 e0 about1 theMethod args0 below0 :=
  ⟨lists_1, trivial, launch0.admits_env _ _ _, launch0.least_env, fairChoices_fair.cas, fairChoices_fair.clock, w_frames, w_args, w_heap, w_applies, trivial, trivial, w_case⟩
end start1
theorem witness_1 : WitnessClaimed_1 := ⟨start1.p0, start1.e0, start1.about1, start1.theMethod, start1.args0, start1.below0, start1.atStart⟩
end Jvm.Pilot.@@N@@
