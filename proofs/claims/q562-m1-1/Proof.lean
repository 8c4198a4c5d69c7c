import JvmDerived
import JvmDerived.Pilot.@@N@@Statement
import JvmDerived.Pilot.@@N@@Code
set_option linter.unusedVariables false
set_option linter.unusedSimpArgs false
namespace Jvm.RoadKit
theorem heq_of {T : State} {h : Heap} {a : Addr} {c : Cell} (e : T.heap = h) (q : h[a]? = some c) : T.heap[a]? = some c := by rw [e]; exact q
open Sem ClassFile Op Lib Jvm.Stand Jvm.Free Jvm.LawKit
section New
variable {p : Program} {l : Launch} {e : Env} {R : Room} {s : State} {m : MethodId} {args : Array Value} {below : List Frame} {meth : Method} {c : Code} {T : State} {locs : List Loc} {cells slots : Nat}
theorem retI (X : Stand p l e R s m args below meth c T locs cells slots) (hx : p.tables.exec = Jvm.exec) {pc : Nat} {Ls : Array Slot} {z : Int32} {rest : List Value} (hret : meth.sig.returnType = some .int) (hd : decode c.code pc = .ok (.ireturn, 1)) {fs : List Frame}
    (hl : ∀ (f : JFrame) (acts : List Action), f.method = m → f.locked = none → f.entered = [] → (doReturn e (T.setTop f) acts (some (.int z))).1 = T.setFrames fs) : Steps p.tables e below (T.setTop (mkF m pc Ls (.int z :: rest))) (T.setFrames fs) := by
  have hm' : T.vm.method? m = some meth := X.method'
  have hn : narrow .int (.int z) = .int z := rfl
  show Steps p.tables e below (T.setTop { method := m, pc := pc, locals := Ls, stack := _ :: rest, locked := none }) _
  jvm_step X.here [X.here.top, hx, hd, hm', hret, hn]
  first | (intro acts; rw [hl _ acts rfl rfl rfl]) | rw [hl _ _ rfl rfl rfl]
  exact Steps.refl _
end New
end Jvm.RoadKit
namespace Jvm.Pilot.@@N@@
open Jvm Jvm.ClassFile Sem Op Lib Jvm.Free Jvm.Stand Jvm.LawKit Jvm.RoadKit Bundle Jvm.Pilot.@@N@@.Jvm.D
theorem own_mask31 (a : Int32) : 0 ≤ (a &&& (2147483647 : Int32)).toInt ∧ (a &&& (2147483647 : Int32)).toInt < 2147483648 := by
  have h : (a &&& (2147483647 : Int32)).toBitVec = a.toBitVec &&& 2147483647#32 := rfl
  have e : (a &&& (2147483647 : Int32)).toInt = (a.toBitVec &&& 2147483647#32).toInt := by rw [← h]; rfl
  have hm : (a.toBitVec &&& 2147483647#32).toNat ≤ 2147483647 := by rw [BitVec.toNat_and]; exact Nat.and_le_right
  rw [e, BitVec.toInt_eq_toNat_of_lt (by omega)]
  omega
theorem own_rem (u s : Int32) (hu : 0 ≤ u.toInt) (hs : 0 < s.toInt) : 0 ≤ (u % s).toInt ∧ (u % s).toInt < s.toInt := by
  have : (u % s).toInt = u.toInt.tmod s.toInt := Int32.toInt_mod ..
  rw [this, Int.tmod_eq_emod_of_nonneg hu]
  exact ⟨Int.emod_nonneg _ (by omega), Int.emod_lt_of_pos _ hs⟩
theorem own_i32_add (x y : Int32) (h1 : -2147483648 ≤ x.toInt + y.toInt) (h2 : x.toInt + y.toInt < 2147483648) : (x + y).toInt = x.toInt + y.toInt := by
  rw [Int32.toInt_add, Int.bmod_eq_of_le (by omega) (by omega)]
theorem own_i32_sub (x y : Int32) (h1 : -2147483648 ≤ x.toInt - y.toInt) (h2 : x.toInt - y.toInt < 2147483648) : (x - y).toInt = x.toInt - y.toInt := by
  rw [Int32.toInt_sub, Int.bmod_eq_of_le (by omega) (by omega)]
theorem own_i64_add (x y : Int64) (h1 : -9223372036854775808 ≤ x.toInt + y.toInt) (h2 : x.toInt + y.toInt < 9223372036854775808) : (x + y).toInt = x.toInt + y.toInt := by
  rw [Int64.toInt_add, Int.bmod_eq_of_le (by omega) (by omega)]
theorem own_i64_sub (x y : Int64) (h1 : -9223372036854775808 ≤ x.toInt - y.toInt) (h2 : x.toInt - y.toInt < 9223372036854775808) : (x - y).toInt = x.toInt - y.toInt := by
  rw [Int64.toInt_sub, Int.bmod_eq_of_le (by omega) (by omega)]
theorem own_i64_mul (x y : Int64) (h1 : -9223372036854775808 ≤ x.toInt * y.toInt) (h2 : x.toInt * y.toInt < 9223372036854775808) : (x * y).toInt = x.toInt * y.toInt := by
  rw [Int64.toInt_mul, Int.bmod_eq_of_le (by omega) (by omega)]
theorem own_i2l (x : Int32) : x.toInt64.toInt = x.toInt := Int32.toInt_toInt64 x
theorem own_l2i (x : Int64) (h1 : -2147483648 ≤ x.toInt) (h2 : x.toInt < 2147483648) : x.toInt32.toInt = x.toInt := by
  rw [Int64.toInt_toInt32, Int.bmod_eq_of_le (by omega) (by omega)]
theorem own_rangeI (x : Int32) : -2147483648 ≤ x.toInt ∧ x.toInt < 2147483648 := by
  have h1 := Int32.le_toInt x; have h2 := Int32.toInt_lt x; omega
theorem own_rangeL (x : Int64) : -9223372036854775808 ≤ x.toInt ∧ x.toInt < 9223372036854775808 := by
  have h1 := Int64.le_toInt x; have h2 := Int64.toInt_lt x; omega
theorem own_mask63 (a : Int64) : 0 ≤ (a &&& (9223372036854775807 : Int64)).toInt ∧ (a &&& (9223372036854775807 : Int64)).toInt < 9223372036854775808 := by
  have h : (a &&& (9223372036854775807 : Int64)).toBitVec = a.toBitVec &&& 9223372036854775807#64 := rfl
  have e : (a &&& (9223372036854775807 : Int64)).toInt = (a.toBitVec &&& 9223372036854775807#64).toInt := by rw [← h]; rfl
  have hm : (a.toBitVec &&& 9223372036854775807#64).toNat ≤ 9223372036854775807 := by rw [BitVec.toNat_and]; exact Nat.and_le_right
  rw [e, BitVec.toInt_eq_toNat_of_lt (by omega)]
  omega
theorem own_remL (u s : Int64) (hu : 0 ≤ u.toInt) (hs : 0 < s.toInt) : 0 ≤ (u % s).toInt ∧ (u % s).toInt < s.toInt := by
  have : (u % s).toInt = u.toInt.tmod s.toInt := Int64.toInt_mod ..
  rw [this, Int.tmod_eq_emod_of_nonneg hu]
  exact ⟨Int.emod_nonneg _ (by omega), Int.emod_lt_of_pos _ hs⟩
def own_us (x : Int64) (k : Int32) : Int64 := (x.toUInt64 >>> (k &&& 0x3f).toInt64.toUInt64).toInt64
theorem own_us63 (x : Int64) : own_us x 63 = 0 ∨ own_us x 63 = 1 := by
  have h : (own_us x 63).toBitVec = x.toBitVec >>> 63 := rfl
  have hm : (x.toBitVec >>> 63).toNat < 2 := by
    rw [BitVec.toNat_ushiftRight, Nat.shiftRight_eq_div_pow]
    have := x.toBitVec.isLt
    omega
  rw [← h] at hm
  generalize own_us x 63 = w at *
  have hc : w.toBitVec.toNat = 0 ∨ w.toBitVec.toNat = 1 := by omega
  rcases hc with hc | hc
  · exact Or.inl (Int64.toBitVec_inj.1 (BitVec.eq_of_toNat_eq hc))
  · exact Or.inr (Int64.toBitVec_inj.1 (BitVec.eq_of_toNat_eq hc))
theorem own_n (x y : Int64) : (own_us x 63 + own_us y 63).toInt32 = 0 ∨ (own_us x 63 + own_us y 63).toInt32 = 1 ∨ (own_us x 63 + own_us y 63).toInt32 = 2 := by
  rcases own_us63 x with h | h <;> rcases own_us63 y with g | g <;> rw [h, g] <;> decide
def own_one (d b c : Int64) : Int32 := if (d + c) < (0 : Int64) then (0 : Int32) else (if b < (d + c) then (0 : Int32) else (1 : Int32))
def own_fits0 : Int32 := 1
def own_fits1 (d0 b0 c0 : Int64) : Int32 := if (b0 - c0) < d0 then (0 : Int32) else (1 : Int32)
def own_fits2 (d0 d1 b0 b1 c0 c1 : Int64) : Int32 := if (b0 - c0) < d0 then (0 : Int32) else (if (b1 - c1) < d1 then (0 : Int32) else (1 : Int32))
theorem own_eq (d b c : Int64) (h1 : 0 ≤ d.toInt) (h2 : 0 ≤ b.toInt) (h3 : 0 ≤ c.toInt) : own_one d b c = own_fits1 d b c := by
  have rd := own_rangeL d
  have rb := own_rangeL b
  have rc := own_rangeL c
  have t0 : (0 : Int64).toInt = 0 := rfl
  have es : (b - c).toInt = b.toInt - c.toInt := own_i64_sub _ _ (by omega) (by omega)
  unfold own_one own_fits1
  simp only [Int64.lt_iff_toInt_lt, es, t0]
  by_cases hb : d.toInt + c.toInt < 9223372036854775808
  · rw [own_i64_add d c (by omega) hb]
    have e1 : ¬ (d.toInt + c.toInt < 0) := by omega
    rw [if_neg e1]
    by_cases c1 : b.toInt < d.toInt + c.toInt
    · have c2 : b.toInt - c.toInt < d.toInt := by omega
      rw [if_pos c1, if_pos c2]
    · have c2 : ¬ (b.toInt - c.toInt < d.toInt) := by omega
      rw [if_neg c1, if_neg c2]
  · have e : (d + c).toInt = d.toInt + c.toInt - 18446744073709551616 := by
      rw [Int64.toInt_add, Int.bmod_def]
      split <;> omega
    have c1 : d.toInt + c.toInt - 18446744073709551616 < 0 := by omega
    have c2 : b.toInt - c.toInt < d.toInt := by omega
    rw [e, if_pos c1, if_pos c2]
theorem own_eq2 (d0 d1 b0 b1 c0 c1 : Int64) : own_fits2 d0 d1 b0 b1 c0 c1 = if own_fits1 d0 b0 c0 = (0 : Int32) then (0 : Int32) else own_fits1 d1 b1 c1 := by
  unfold own_fits2 own_fits1
  by_cases c1 : (b0 - c0) < d0
  · rw [if_pos c1, if_pos c1, if_pos rfl]
  · rw [if_neg c1, if_neg c1]; rfl
theorem own_f01 (d b c : Int64) : own_fits1 d b c = 0 ∨ own_fits1 d b c = 1 := by
  unfold own_fits1; split
  · exact Or.inl rfl
  · exact Or.inr rfl
theorem d1_0 : decode method_3_code 0 = .ok (.iload_n 0, 1) := by decide +kernel
theorem d1_1 : decode method_3_code 1 = .ok (.ifCond .ne 7, 3) := by decide +kernel
theorem d1_4 : decode method_3_code 4 = .ok (.iconst 0, 1) := by decide +kernel
theorem d1_5 : decode method_3_code 5 = .ok (.newarray .long, 2) := by decide +kernel
theorem d1_7 : decode method_3_code 7 = .ok (.areturn, 1) := by decide +kernel
theorem pn_1 : plainName "com/example/evenkeel/evenkeel/cli/AuditFitsPinLaw" = true := by first | (simp [plainName, overriddenIn]; done) | decide +kernel
theorem ef_1 (m : MethodId) (x0 : Int32) (x1 : Int64) (x2 : Int64) : entryFrame m #[(.int x0), (.long x1), (.long x2)] 5 = mkF m 0 #[.val (.int x0), .val (.long x1), .second, .val (.long x2), .second] [] := by first | (simp [entryFrame, mkF, argsToLocals, Value.category]; done) | rfl
def Q1 (Z : State) (nn : Int32) (x1 : Int64) (x2 : Int64) (h0 : Heap) (n0 : Nat) (v : Option Value) (h : Heap) (L : List Loc) : Prop := ∃ ko : ClassId, ∃ RES : Addr, v = some (.ref RES) ∧ Fr n0 L ∧ Keep h0 h [] ∧ n0 ≤ RES ∧ h0.size ≤ RES ∧ Arv Z h RES ko .long (0 : Int32) [] (.long (0 : Int64))
set_option maxRecDepth 65536 in
set_option maxHeartbeats 40000000 in
theorem rm1 (l : Launch) (Z : State) (a0 : Array Value) (hw : ∀ d ∈ tables_1, d.before a0 Z = true) (ws : List Jvm.Cond) (nn : Int32) (x1 : Int64) (x2 : Int64) (h0 : Heap) (n0 : Nat) (Z0 : n0 ≤ h0.size) (hlit_nn : nn = (0 : Int32)) :
    MetFree l (⟨"com/example/evenkeel/evenkeel/cli/AuditFitsPinLaw", "make", "(IJJ)[J"⟩ : MethodName) (head1 (Jvm.Cond.code (⟨"com/example/evenkeel/evenkeel/cli/AuditFitsPinLaw", "make", "(IJJ)[J"⟩ : MethodName) method_3_code 5 (some (.array .long)) :: ws) ({ frames := 0, cells := 1, slots := 0, locals := 0 } : Room)) (fun a U => a = #[(.int nn), (.long x1), (.long x2)] ∧ Z.Warmed39 U.vm ∧ U.heap = h0) (fun _ _ _ _ _ => True) (fun _ U o U' => ∃ v L, o = .returned v ∧ Q1 Z nn x1 x2 h0 n0 v U'.heap L ∧ FrameEnd U o U' L ({ frames := 0, cells := 1, slots := 0, locals := 0 } : Room).cells ({ frames := 0, cells := 1, slots := 0, locals := 0 } : Room).slots) := by
  refine MetFree.of_bodySF (plainFor_of_name pn_1) hisR ?_
  intro p e s m args below meth c s₁ Bd hml0 hP hK
  obtain ⟨rfl, hZ, hh⟩ := hP
  have hx := Bd.exec
  have hby := Bd.bytes
  have hml : c.maxLocals = 5 := hml0
  have hown : s.vm.findClass "com/example/evenkeel/evenkeel/cli/AuditFitsPinLaw" = some m.cls := findClass_of_methodNamed Bd.named
  have hnm := (name_of_methodNamed Bd.named Bd.method).1
  have X0 : Stand p l e ({ frames := 0, cells := 1, slots := 0, locals := 0 } : Room) s m #[(.int nn), (.long x1), (.long x2)] below meth c s₁ [] 0 0 := Stand.of_body Bd
  have e0 : s₁.heap = h0 := by rw [← hh, Bd.state]; rfl
  have N0 := Fr.nil n0
  have K0 : Keep h0 h0 [] := Keep.refl h0 _
  have pre0 : ∀ tq, Steps p.tables e below (s₁.setTop (mkF m 0 #[.val (.int nn), .val (.long x1), .second, .val (.long x2), .second] [])) tq → Steps p.tables e below (s₁.setTop (entryFrame m #[(.int nn), (.long x1), (.long x2)] 5)) tq := fun tq kq => castTop (ef_1 m nn x1 x2) kq
  subst hlit_nn
  obtain ⟨T1, hX1, kx1, X1, e1, E1, A1, st1⟩ := newP X0 hx hZ (hw _ (List.mem_of_getElem? (i := 5) rfl)) e0 (g := (mkF m 5 #[.val (.int (0 : Int32)), .val (.long x1), .second, .val (.long x2), .second] [(.int (0 : Int32))])) rfl (hb hby d1_5) rfl (by decide) (cap := 0) (by decide) (by decide) (by decide) (by decide)
  obtain ⟨b1, g1⟩ : ∃ z_q, z_q = h0.size := ⟨_, rfl⟩
  rw [← g1] at A1 st1
  have g_b1 : n0 ≤ b1 := Nat.le_trans Z0 (Nat.le_of_eq g1.symm)
  have sz_b1 : h0.size ≤ b1 := Nat.le_trans K0.1 (Nat.le_of_eq g1.symm)
  have Z2 : n0 ≤ hX1.size := Nat.le_trans Z0 E1.1
  have K3 : Keep h0 hX1 [] := K0.ext E1
  have F4 : Arv Z hX1 b1 kx1 .long (0 : Int32) [] (.long (0 : Int64)) := Arv.new A1 (by decide)
  obtain ⟨fs, hr, hrun, hended, hW, hsame⟩ := X1.leave (v := some (Value.ref b1)) (fun h => by rw [Bd.returns] at h; cases h)
  refine ⟨_, _, pre0 _ ?_, hrun, hended, _, _, rfl, ?_, ⟨_, rfl⟩, hW, hsame.mono (by decide) (by decide)⟩
  · skip
    show Steps p.tables e below (s₁.setTop (mkF m 0 #[.val (.int (0 : Int32)), .val (.long x1), .second, .val (.long x2), .second] [])) _
    refine XS.iloadN X0.here hx rfl (hb hby d1_0) rfl ?_
    show Steps p.tables e below (s₁.setTop (mkF m 1 #[.val (.int (0 : Int32)), .val (.long x1), .second, .val (.long x2), .second] [(.int (0 : Int32))])) _
    refine XS.ifNo X0.here hx rfl (hb hby d1_1) rfl ((if0 _ _).trans (teq rfl).2) ?_
    show Steps p.tables e below (s₁.setTop (mkF m 4 #[.val (.int (0 : Int32)), .val (.long x1), .second, .val (.long x2), .second] [])) _
    refine XS.iconst X0.here hx rfl (hb hby d1_4) ?_
    show Steps p.tables e below (s₁.setTop (mkF m 5 #[.val (.int (0 : Int32)), .val (.long x1), .second, .val (.long x2), .second] [(.int (0 : Int32))])) _
    refine st1 _ ?_
    show Steps p.tables e below (T1.setTop (mkF m 7 #[.val (.int (0 : Int32)), .val (.long x1), .second, .val (.long x2), .second] [(.ref b1)])) _
    exact retOut X1 hx Bd.returns rfl (Or.inr (Or.inr (Or.inr (Or.inr ⟨rfl, rfl, rfl⟩)))) (hb hby d1_7) hr
  · show Q1 Z (0 : Int32) x1 x2 h0 n0 _ T1.heap _
    rw [e1]
    exact ⟨kx1, b1, rfl, N0, K3, g_b1, sz_b1, F4⟩
theorem d1_8 : decode method_3_code 8 = .ok (.iload_n 0, 1) := by decide +kernel
theorem d1_9 : decode method_3_code 9 = .ok (.iconst 1, 1) := by decide +kernel
theorem d1_10 : decode method_3_code 10 = .ok (.if_icmp .ne 11, 3) := by decide +kernel
theorem d1_13 : decode method_3_code 13 = .ok (.iconst 1, 1) := by decide +kernel
theorem d1_14 : decode method_3_code 14 = .ok (.newarray .long, 2) := by decide +kernel
theorem d1_16 : decode method_3_code 16 = .ok (.dup, 1) := by decide +kernel
theorem d1_17 : decode method_3_code 17 = .ok (.iconst 0, 1) := by decide +kernel
theorem d1_18 : decode method_3_code 18 = .ok (.lload_n 1, 1) := by decide +kernel
theorem d1_19 : decode method_3_code 19 = .ok (.lastore, 1) := by decide +kernel
theorem d1_20 : decode method_3_code 20 = .ok (.areturn, 1) := by decide +kernel
theorem ef_1_1 (m : MethodId) (x0 : Int32) (x1 : Int64) (x2 : Int64) : entryFrame m #[(.int x0), (.long x1), (.long x2)] 5 = mkF m 0 #[.val (.int x0), .val (.long x1), .second, .val (.long x2), .second] [] := by first | (simp [entryFrame, mkF, argsToLocals, Value.category]; done) | rfl
def Q1_1 (Z : State) (nn : Int32) (x1 : Int64) (x2 : Int64) (h0 : Heap) (n0 : Nat) (v : Option Value) (h : Heap) (L : List Loc) : Prop := ∃ ko : ClassId, ∃ RES : Addr, v = some (.ref RES) ∧ Fr n0 L ∧ Keep h0 h [] ∧ n0 ≤ RES ∧ h0.size ≤ RES ∧ Arv Z h RES ko .long (1 : Int32) [(.long x1)] (.long (0 : Int64))
set_option maxRecDepth 65536 in
set_option maxHeartbeats 40000000 in
theorem rm1_1 (l : Launch) (Z : State) (a0 : Array Value) (hw : ∀ d ∈ tables_1, d.before a0 Z = true) (ws : List Jvm.Cond) (nn : Int32) (x1 : Int64) (x2 : Int64) (h0 : Heap) (n0 : Nat) (Z0 : n0 ≤ h0.size) (hlit_nn : nn = (1 : Int32)) :
    MetFree l (⟨"com/example/evenkeel/evenkeel/cli/AuditFitsPinLaw", "make", "(IJJ)[J"⟩ : MethodName) (head1 (Jvm.Cond.code (⟨"com/example/evenkeel/evenkeel/cli/AuditFitsPinLaw", "make", "(IJJ)[J"⟩ : MethodName) method_3_code 5 (some (.array .long)) :: ws) ({ frames := 0, cells := 1, slots := 1, locals := 0 } : Room)) (fun a U => a = #[(.int nn), (.long x1), (.long x2)] ∧ Z.Warmed39 U.vm ∧ U.heap = h0) (fun _ _ _ _ _ => True) (fun _ U o U' => ∃ v L, o = .returned v ∧ Q1_1 Z nn x1 x2 h0 n0 v U'.heap L ∧ FrameEnd U o U' L ({ frames := 0, cells := 1, slots := 1, locals := 0 } : Room).cells ({ frames := 0, cells := 1, slots := 1, locals := 0 } : Room).slots) := by
  refine MetFree.of_bodySF (plainFor_of_name pn_1) hisR ?_
  intro p e s m args below meth c s₁ Bd hml0 hP hK
  obtain ⟨rfl, hZ, hh⟩ := hP
  have hx := Bd.exec
  have hby := Bd.bytes
  have hml : c.maxLocals = 5 := hml0
  have hown : s.vm.findClass "com/example/evenkeel/evenkeel/cli/AuditFitsPinLaw" = some m.cls := findClass_of_methodNamed Bd.named
  have hnm := (name_of_methodNamed Bd.named Bd.method).1
  have X0 : Stand p l e ({ frames := 0, cells := 1, slots := 1, locals := 0 } : Room) s m #[(.int nn), (.long x1), (.long x2)] below meth c s₁ [] 0 0 := Stand.of_body Bd
  have e0 : s₁.heap = h0 := by rw [← hh, Bd.state]; rfl
  have N0 := Fr.nil n0
  have K0 : Keep h0 h0 [] := Keep.refl h0 _
  have pre0 : ∀ tq, Steps p.tables e below (s₁.setTop (mkF m 0 #[.val (.int nn), .val (.long x1), .second, .val (.long x2), .second] [])) tq → Steps p.tables e below (s₁.setTop (entryFrame m #[(.int nn), (.long x1), (.long x2)] 5)) tq := fun tq kq => castTop (ef_1_1 m nn x1 x2) kq
  subst hlit_nn
  obtain ⟨T1, hX1, kx1, X1, e1, E1, A1, st1⟩ := newP X0 hx hZ (hw _ (List.mem_of_getElem? (i := 5) rfl)) e0 (g := (mkF m 14 #[.val (.int (1 : Int32)), .val (.long x1), .second, .val (.long x2), .second] [(.int (1 : Int32))])) rfl (hb hby d1_14) rfl (by decide) (cap := 1) (by decide) (by decide) (by decide) (by decide)
  obtain ⟨b1, g1⟩ : ∃ z_q, z_q = h0.size := ⟨_, rfl⟩
  rw [← g1] at A1 st1
  have g_b1 : n0 ≤ b1 := Nat.le_trans Z0 (Nat.le_of_eq g1.symm)
  have sz_b1 : h0.size ≤ b1 := Nat.le_trans K0.1 (Nat.le_of_eq g1.symm)
  have Z2 : n0 ≤ hX1.size := Nat.le_trans Z0 E1.1
  have K3 : Keep h0 hX1 [] := K0.ext E1
  have F4 : Arv Z hX1 b1 kx1 .long (1 : Int32) [(.long (0 : Int64))] (.long (0 : Int64)) := (Arv.new A1 (by decide)).pad (pad_rep [] (.long (0 : Int64)) 1)
  obtain ⟨cl5, Ar5, q5, S5, M5, H5, G5⟩ := id F4
  have hin5 : ¬ ((0 : Int32) < 0 ∨ cl5.slots.size ≤ ((0 : Int32)).toNatClampNeg) := inb_of S5 ⟨by decide, by decide⟩
  obtain ⟨T5, hX5, X5, e5, W5, st5⟩ := stJ X1 hx hZ e1 Ar5 (j := (0 : Int32)) hin5 (g := (mkF m 19 #[.val (.int (1 : Int32)), .val (.long x1), .second, .val (.long x2), .second] [(.long x1), (.int (0 : Int32)), (.ref b1), (.ref b1)])) rfl rfl (hb hby d1_19)
  have F6 : Arv Z hX5 b1 kx1 .long (1 : Int32) [(.long x1)] (.long (0 : Int64)) := Arv.set Ar5 q5 S5 M5 H5 G5 rfl W5 0 rfl (Nat.le_of_ble_eq_true rfl)
  have N5 := Fr.snoc X5 N0 g_b1
  have Z7 : n0 ≤ hX5.size := Nat.le_trans Z2 (Keep.of_wr W5).1
  have K8 : Keep h0 hX5 [] := K3.wr W5 (Or.inr sz_b1)
  obtain ⟨fs, hr, hrun, hended, hW, hsame⟩ := X5.leave (v := some (Value.ref b1)) (fun h => by rw [Bd.returns] at h; cases h)
  refine ⟨_, _, pre0 _ ?_, hrun, hended, _, _, rfl, ?_, ⟨_, rfl⟩, hW, hsame.mono (by decide) (by decide)⟩
  · skip
    show Steps p.tables e below (s₁.setTop (mkF m 0 #[.val (.int (1 : Int32)), .val (.long x1), .second, .val (.long x2), .second] [])) _
    refine XS.iloadN X0.here hx rfl (hb hby d1_0) rfl ?_
    show Steps p.tables e below (s₁.setTop (mkF m 1 #[.val (.int (1 : Int32)), .val (.long x1), .second, .val (.long x2), .second] [(.int (1 : Int32))])) _
    refine XS.ifYes X0.here hx rfl (pc0 := 1) (pc' := 8) rfl (hb hby d1_1) rfl ((if0 _ _).trans (feq (by decide)).2) (by decide) (by decide) ?_
    show Steps p.tables e below (s₁.setTop (mkF m 8 #[.val (.int (1 : Int32)), .val (.long x1), .second, .val (.long x2), .second] [])) _
    refine XS.iloadN X0.here hx rfl (hb hby d1_8) rfl ?_
    show Steps p.tables e below (s₁.setTop (mkF m 9 #[.val (.int (1 : Int32)), .val (.long x1), .second, .val (.long x2), .second] [(.int (1 : Int32))])) _
    refine XS.iconst X0.here hx rfl (hb hby d1_9) ?_
    show Steps p.tables e below (s₁.setTop (mkF m 10 #[.val (.int (1 : Int32)), .val (.long x1), .second, .val (.long x2), .second] [(.int (1 : Int32)), (.int (1 : Int32))])) _
    refine XS.icmpNo X0.here hx rfl (hb hby d1_10) rfl (teq rfl).2 ?_
    show Steps p.tables e below (s₁.setTop (mkF m 13 #[.val (.int (1 : Int32)), .val (.long x1), .second, .val (.long x2), .second] [])) _
    refine XS.iconst X0.here hx rfl (hb hby d1_13) ?_
    show Steps p.tables e below (s₁.setTop (mkF m 14 #[.val (.int (1 : Int32)), .val (.long x1), .second, .val (.long x2), .second] [(.int (1 : Int32))])) _
    refine st1 _ ?_
    show Steps p.tables e below (T1.setTop (mkF m 16 #[.val (.int (1 : Int32)), .val (.long x1), .second, .val (.long x2), .second] [(.ref b1)])) _
    refine XS.dup X1.here hx rfl (hb hby d1_16) rfl rfl ?_
    show Steps p.tables e below (T1.setTop (mkF m 17 #[.val (.int (1 : Int32)), .val (.long x1), .second, .val (.long x2), .second] [(.ref b1), (.ref b1)])) _
    refine XS.iconst X1.here hx rfl (hb hby d1_17) ?_
    show Steps p.tables e below (T1.setTop (mkF m 18 #[.val (.int (1 : Int32)), .val (.long x1), .second, .val (.long x2), .second] [(.int (0 : Int32)), (.ref b1), (.ref b1)])) _
    refine XS.lloadN X1.here hx rfl (hb hby d1_18) rfl ?_
    show Steps p.tables e below (T1.setTop (mkF m 19 #[.val (.int (1 : Int32)), .val (.long x1), .second, .val (.long x2), .second] [(.long x1), (.int (0 : Int32)), (.ref b1), (.ref b1)])) _
    refine st5 _ ?_
    show Steps p.tables e below (T5.setTop (mkF m 20 #[.val (.int (1 : Int32)), .val (.long x1), .second, .val (.long x2), .second] [(.ref b1)])) _
    exact retOut X5 hx Bd.returns rfl (Or.inr (Or.inr (Or.inr (Or.inr ⟨rfl, rfl, rfl⟩)))) (hb hby d1_20) hr
  · show Q1_1 Z (1 : Int32) x1 x2 h0 n0 _ T5.heap _
    rw [e5]
    exact ⟨kx1, b1, rfl, N5, K8, g_b1, sz_b1, F6⟩
theorem d1_21 : decode method_3_code 21 = .ok (.iconst 2, 1) := by decide +kernel
theorem d1_22 : decode method_3_code 22 = .ok (.newarray .long, 2) := by decide +kernel
theorem d1_24 : decode method_3_code 24 = .ok (.dup, 1) := by decide +kernel
theorem d1_25 : decode method_3_code 25 = .ok (.iconst 0, 1) := by decide +kernel
theorem d1_26 : decode method_3_code 26 = .ok (.lload_n 1, 1) := by decide +kernel
theorem d1_27 : decode method_3_code 27 = .ok (.lastore, 1) := by decide +kernel
theorem d1_28 : decode method_3_code 28 = .ok (.dup, 1) := by decide +kernel
theorem d1_29 : decode method_3_code 29 = .ok (.iconst 1, 1) := by decide +kernel
theorem d1_30 : decode method_3_code 30 = .ok (.lload_n 3, 1) := by decide +kernel
theorem d1_31 : decode method_3_code 31 = .ok (.lastore, 1) := by decide +kernel
theorem d1_32 : decode method_3_code 32 = .ok (.areturn, 1) := by decide +kernel
theorem ef_1_2 (m : MethodId) (x0 : Int32) (x1 : Int64) (x2 : Int64) : entryFrame m #[(.int x0), (.long x1), (.long x2)] 5 = mkF m 0 #[.val (.int x0), .val (.long x1), .second, .val (.long x2), .second] [] := by first | (simp [entryFrame, mkF, argsToLocals, Value.category]; done) | rfl
def Q1_2 (Z : State) (nn : Int32) (x1 : Int64) (x2 : Int64) (h0 : Heap) (n0 : Nat) (v : Option Value) (h : Heap) (L : List Loc) : Prop := ∃ ko : ClassId, ∃ RES : Addr, v = some (.ref RES) ∧ Fr n0 L ∧ Keep h0 h [] ∧ n0 ≤ RES ∧ h0.size ≤ RES ∧ Arv Z h RES ko .long (2 : Int32) [(.long x1), (.long x2)] (.long (0 : Int64))
set_option maxRecDepth 65536 in
set_option maxHeartbeats 40000000 in
theorem rm1_2 (l : Launch) (Z : State) (a0 : Array Value) (hw : ∀ d ∈ tables_1, d.before a0 Z = true) (ws : List Jvm.Cond) (nn : Int32) (x1 : Int64) (x2 : Int64) (h0 : Heap) (n0 : Nat) (Z0 : n0 ≤ h0.size) (hlit_nn : nn = (2 : Int32)) :
    MetFree l (⟨"com/example/evenkeel/evenkeel/cli/AuditFitsPinLaw", "make", "(IJJ)[J"⟩ : MethodName) (head1 (Jvm.Cond.code (⟨"com/example/evenkeel/evenkeel/cli/AuditFitsPinLaw", "make", "(IJJ)[J"⟩ : MethodName) method_3_code 5 (some (.array .long)) :: ws) ({ frames := 0, cells := 1, slots := 2, locals := 0 } : Room)) (fun a U => a = #[(.int nn), (.long x1), (.long x2)] ∧ Z.Warmed39 U.vm ∧ U.heap = h0) (fun _ _ _ _ _ => True) (fun _ U o U' => ∃ v L, o = .returned v ∧ Q1_2 Z nn x1 x2 h0 n0 v U'.heap L ∧ FrameEnd U o U' L ({ frames := 0, cells := 1, slots := 2, locals := 0 } : Room).cells ({ frames := 0, cells := 1, slots := 2, locals := 0 } : Room).slots) := by
  refine MetFree.of_bodySF (plainFor_of_name pn_1) hisR ?_
  intro p e s m args below meth c s₁ Bd hml0 hP hK
  obtain ⟨rfl, hZ, hh⟩ := hP
  have hx := Bd.exec
  have hby := Bd.bytes
  have hml : c.maxLocals = 5 := hml0
  have hown : s.vm.findClass "com/example/evenkeel/evenkeel/cli/AuditFitsPinLaw" = some m.cls := findClass_of_methodNamed Bd.named
  have hnm := (name_of_methodNamed Bd.named Bd.method).1
  have X0 : Stand p l e ({ frames := 0, cells := 1, slots := 2, locals := 0 } : Room) s m #[(.int nn), (.long x1), (.long x2)] below meth c s₁ [] 0 0 := Stand.of_body Bd
  have e0 : s₁.heap = h0 := by rw [← hh, Bd.state]; rfl
  have N0 := Fr.nil n0
  have K0 : Keep h0 h0 [] := Keep.refl h0 _
  have pre0 : ∀ tq, Steps p.tables e below (s₁.setTop (mkF m 0 #[.val (.int nn), .val (.long x1), .second, .val (.long x2), .second] [])) tq → Steps p.tables e below (s₁.setTop (entryFrame m #[(.int nn), (.long x1), (.long x2)] 5)) tq := fun tq kq => castTop (ef_1_2 m nn x1 x2) kq
  subst hlit_nn
  obtain ⟨T1, hX1, kx1, X1, e1, E1, A1, st1⟩ := newP X0 hx hZ (hw _ (List.mem_of_getElem? (i := 5) rfl)) e0 (g := (mkF m 22 #[.val (.int (2 : Int32)), .val (.long x1), .second, .val (.long x2), .second] [(.int (2 : Int32))])) rfl (hb hby d1_22) rfl (by decide) (cap := 2) (by decide) (by decide) (by decide) (by decide)
  obtain ⟨b1, g1⟩ : ∃ z_q, z_q = h0.size := ⟨_, rfl⟩
  rw [← g1] at A1 st1
  have g_b1 : n0 ≤ b1 := Nat.le_trans Z0 (Nat.le_of_eq g1.symm)
  have sz_b1 : h0.size ≤ b1 := Nat.le_trans K0.1 (Nat.le_of_eq g1.symm)
  have Z2 : n0 ≤ hX1.size := Nat.le_trans Z0 E1.1
  have K3 : Keep h0 hX1 [] := K0.ext E1
  have F4 : Arv Z hX1 b1 kx1 .long (2 : Int32) [(.long (0 : Int64)), (.long (0 : Int64))] (.long (0 : Int64)) := (Arv.new A1 (by decide)).pad (pad_rep [] (.long (0 : Int64)) 2)
  obtain ⟨cl5, Ar5, q5, S5, M5, H5, G5⟩ := id F4
  have hin5 : ¬ ((0 : Int32) < 0 ∨ cl5.slots.size ≤ ((0 : Int32)).toNatClampNeg) := inb_of S5 ⟨by decide, by decide⟩
  obtain ⟨T5, hX5, X5, e5, W5, st5⟩ := stJ X1 hx hZ e1 Ar5 (j := (0 : Int32)) hin5 (g := (mkF m 27 #[.val (.int (2 : Int32)), .val (.long x1), .second, .val (.long x2), .second] [(.long x1), (.int (0 : Int32)), (.ref b1), (.ref b1)])) rfl rfl (hb hby d1_27)
  have F6 : Arv Z hX5 b1 kx1 .long (2 : Int32) [(.long x1), (.long (0 : Int64))] (.long (0 : Int64)) := Arv.set Ar5 q5 S5 M5 H5 G5 rfl W5 0 rfl (Nat.le_of_ble_eq_true rfl)
  have N5 := Fr.snoc X5 N0 g_b1
  have Z7 : n0 ≤ hX5.size := Nat.le_trans Z2 (Keep.of_wr W5).1
  have K8 : Keep h0 hX5 [] := K3.wr W5 (Or.inr sz_b1)
  obtain ⟨cl9, Ar9, q9, S9, M9, H9, G9⟩ := id F6
  have hin9 : ¬ ((1 : Int32) < 0 ∨ cl9.slots.size ≤ ((1 : Int32)).toNatClampNeg) := inb_of S9 ⟨by decide, by decide⟩
  obtain ⟨T9, hX9, X9, e9, W9, st9⟩ := stJ X5 hx hZ e5 Ar9 (j := (1 : Int32)) hin9 (g := (mkF m 31 #[.val (.int (2 : Int32)), .val (.long x1), .second, .val (.long x2), .second] [(.long x2), (.int (1 : Int32)), (.ref b1), (.ref b1)])) rfl rfl (hb hby d1_31)
  have F10 : Arv Z hX9 b1 kx1 .long (2 : Int32) [(.long x1), (.long x2)] (.long (0 : Int64)) := Arv.set Ar9 q9 S9 M9 H9 G9 rfl W9 1 rfl (Nat.le_of_ble_eq_true rfl)
  have N9 := Fr.snoc X9 N5 g_b1
  have Z11 : n0 ≤ hX9.size := Nat.le_trans Z7 (Keep.of_wr W9).1
  have K12 : Keep h0 hX9 [] := K8.wr W9 (Or.inr sz_b1)
  obtain ⟨fs, hr, hrun, hended, hW, hsame⟩ := X9.leave (v := some (Value.ref b1)) (fun h => by rw [Bd.returns] at h; cases h)
  refine ⟨_, _, pre0 _ ?_, hrun, hended, _, _, rfl, ?_, ⟨_, rfl⟩, hW, hsame.mono (by decide) (by decide)⟩
  · skip
    show Steps p.tables e below (s₁.setTop (mkF m 0 #[.val (.int (2 : Int32)), .val (.long x1), .second, .val (.long x2), .second] [])) _
    refine XS.iloadN X0.here hx rfl (hb hby d1_0) rfl ?_
    show Steps p.tables e below (s₁.setTop (mkF m 1 #[.val (.int (2 : Int32)), .val (.long x1), .second, .val (.long x2), .second] [(.int (2 : Int32))])) _
    refine XS.ifYes X0.here hx rfl (pc0 := 1) (pc' := 8) rfl (hb hby d1_1) rfl ((if0 _ _).trans (feq (by decide)).2) (by decide) (by decide) ?_
    show Steps p.tables e below (s₁.setTop (mkF m 8 #[.val (.int (2 : Int32)), .val (.long x1), .second, .val (.long x2), .second] [])) _
    refine XS.iloadN X0.here hx rfl (hb hby d1_8) rfl ?_
    show Steps p.tables e below (s₁.setTop (mkF m 9 #[.val (.int (2 : Int32)), .val (.long x1), .second, .val (.long x2), .second] [(.int (2 : Int32))])) _
    refine XS.iconst X0.here hx rfl (hb hby d1_9) ?_
    show Steps p.tables e below (s₁.setTop (mkF m 10 #[.val (.int (2 : Int32)), .val (.long x1), .second, .val (.long x2), .second] [(.int (1 : Int32)), (.int (2 : Int32))])) _
    refine XS.icmpYes X0.here hx rfl (pc0 := 10) (pc' := 21) rfl (hb hby d1_10) rfl (feq (by decide)).2 (by decide) (by decide) ?_
    show Steps p.tables e below (s₁.setTop (mkF m 21 #[.val (.int (2 : Int32)), .val (.long x1), .second, .val (.long x2), .second] [])) _
    refine XS.iconst X0.here hx rfl (hb hby d1_21) ?_
    show Steps p.tables e below (s₁.setTop (mkF m 22 #[.val (.int (2 : Int32)), .val (.long x1), .second, .val (.long x2), .second] [(.int (2 : Int32))])) _
    refine st1 _ ?_
    show Steps p.tables e below (T1.setTop (mkF m 24 #[.val (.int (2 : Int32)), .val (.long x1), .second, .val (.long x2), .second] [(.ref b1)])) _
    refine XS.dup X1.here hx rfl (hb hby d1_24) rfl rfl ?_
    show Steps p.tables e below (T1.setTop (mkF m 25 #[.val (.int (2 : Int32)), .val (.long x1), .second, .val (.long x2), .second] [(.ref b1), (.ref b1)])) _
    refine XS.iconst X1.here hx rfl (hb hby d1_25) ?_
    show Steps p.tables e below (T1.setTop (mkF m 26 #[.val (.int (2 : Int32)), .val (.long x1), .second, .val (.long x2), .second] [(.int (0 : Int32)), (.ref b1), (.ref b1)])) _
    refine XS.lloadN X1.here hx rfl (hb hby d1_26) rfl ?_
    show Steps p.tables e below (T1.setTop (mkF m 27 #[.val (.int (2 : Int32)), .val (.long x1), .second, .val (.long x2), .second] [(.long x1), (.int (0 : Int32)), (.ref b1), (.ref b1)])) _
    refine st5 _ ?_
    show Steps p.tables e below (T5.setTop (mkF m 28 #[.val (.int (2 : Int32)), .val (.long x1), .second, .val (.long x2), .second] [(.ref b1)])) _
    refine XS.dup X5.here hx rfl (hb hby d1_28) rfl rfl ?_
    show Steps p.tables e below (T5.setTop (mkF m 29 #[.val (.int (2 : Int32)), .val (.long x1), .second, .val (.long x2), .second] [(.ref b1), (.ref b1)])) _
    refine XS.iconst X5.here hx rfl (hb hby d1_29) ?_
    show Steps p.tables e below (T5.setTop (mkF m 30 #[.val (.int (2 : Int32)), .val (.long x1), .second, .val (.long x2), .second] [(.int (1 : Int32)), (.ref b1), (.ref b1)])) _
    refine XS.lloadN X5.here hx rfl (hb hby d1_30) rfl ?_
    show Steps p.tables e below (T5.setTop (mkF m 31 #[.val (.int (2 : Int32)), .val (.long x1), .second, .val (.long x2), .second] [(.long x2), (.int (1 : Int32)), (.ref b1), (.ref b1)])) _
    refine st9 _ ?_
    show Steps p.tables e below (T9.setTop (mkF m 32 #[.val (.int (2 : Int32)), .val (.long x1), .second, .val (.long x2), .second] [(.ref b1)])) _
    exact retOut X9 hx Bd.returns rfl (Or.inr (Or.inr (Or.inr (Or.inr ⟨rfl, rfl, rfl⟩)))) (hb hby d1_32) hr
  · show Q1_2 Z (2 : Int32) x1 x2 h0 n0 _ T9.heap _
    rw [e9]
    exact ⟨kx1, b1, rfl, N9, K12, g_b1, sz_b1, F10⟩
theorem d2_0 : decode prog_27_method_9_code 0 = .ok (.iconst 0, 1) := by decide +kernel
theorem d2_1 : decode prog_27_method_9_code 1 = .ok (.istore_n 3, 1) := by decide +kernel
theorem d2_2 : decode prog_27_method_9_code 2 = .ok (.iload_n 3, 1) := by decide +kernel
theorem d2_3 : decode prog_27_method_9_code 3 = .ok (.aload_n 0, 1) := by decide +kernel
theorem d2_4 : decode prog_27_method_9_code 4 = .ok (.arraylength, 1) := by decide +kernel
theorem d2_5 : decode prog_27_method_9_code 5 = .ok (.if_icmp .ge 25, 3) := by decide +kernel
theorem d2_30 : decode prog_27_method_9_code 30 = .ok (.iconst 1, 1) := by decide +kernel
theorem d2_31 : decode prog_27_method_9_code 31 = .ok (.ireturn, 1) := by decide +kernel
theorem pn_2 : plainName "com/example/evenkeel/evenkeel/cli/Audit" = true := by first | (simp [plainName, overriddenIn]; done) | decide +kernel
theorem ef_2 (m : MethodId) (x0 : Addr) (x1 : Addr) (x2 : Addr) : entryFrame m #[(.ref x0), (.ref x1), (.ref x2)] 4 = mkF m 0 #[.val (.ref x0), .val (.ref x1), .val (.ref x2), .unset] [] := by first | (simp [entryFrame, mkF, argsToLocals, Value.category]; done) | rfl
def Q2 (Z : State) (ar : Addr) (br : Addr) (cr : Addr) (ka : ClassId) (kb : ClassId) (kc : ClassId) (h0 : Heap) (n0 : Nat) (v : Option Value) (h : Heap) (L : List Loc) : Prop := v = some (.int (1 : Int32)) ∧ Fr n0 L ∧ h = h0
set_option maxRecDepth 65536 in
set_option maxHeartbeats 40000000 in
theorem rm2 (l : Launch) (Z : State) (a0 : Array Value) (hw : ∀ d ∈ tables_1, d.before a0 Z = true) (ws : List Jvm.Cond) (ar : Addr) (br : Addr) (cr : Addr) (ka : ClassId) (kb : ClassId) (kc : ClassId) (h0 : Heap) (n0 : Nat) (Z0 : n0 ≤ h0.size) (I0 : Arv Z h0 ar ka .long (0 : Int32) [] (.long (0 : Int64))) (I1 : Arv Z h0 br kb .long (0 : Int32) [] (.long (0 : Int64))) (I2 : Arv Z h0 cr kc .long (0 : Int32) [] (.long (0 : Int64))) :
    MetFree l (⟨"com/example/evenkeel/evenkeel/cli/Audit", "fits", "([J[J[J)Z"⟩ : MethodName) (head1 (Jvm.Cond.code (⟨"com/example/evenkeel/evenkeel/cli/Audit", "fits", "([J[J[J)Z"⟩ : MethodName) prog_27_method_9_code 4 (some .boolean) :: ws) ({ frames := 0, cells := 0, slots := 0, locals := 0 } : Room)) (fun a U => a = #[(.ref ar), (.ref br), (.ref cr)] ∧ Z.Warmed39 U.vm ∧ U.heap = h0) (fun _ _ _ _ _ => True) (fun _ U o U' => ∃ v L, o = .returned v ∧ Q2 Z ar br cr ka kb kc h0 n0 v U'.heap L ∧ FrameEnd U o U' L ({ frames := 0, cells := 0, slots := 0, locals := 0 } : Room).cells ({ frames := 0, cells := 0, slots := 0, locals := 0 } : Room).slots) := by
  refine MetFree.of_bodySF (plainFor_of_name pn_2) hisR ?_
  intro p e s m args below meth c s₁ Bd hml0 hP hK
  obtain ⟨rfl, hZ, hh⟩ := hP
  have hx := Bd.exec
  have hby := Bd.bytes
  have hml : c.maxLocals = 4 := hml0
  have hown : s.vm.findClass "com/example/evenkeel/evenkeel/cli/Audit" = some m.cls := findClass_of_methodNamed Bd.named
  have hnm := (name_of_methodNamed Bd.named Bd.method).1
  have X0 : Stand p l e ({ frames := 0, cells := 0, slots := 0, locals := 0 } : Room) s m #[(.ref ar), (.ref br), (.ref cr)] below meth c s₁ [] 0 0 := Stand.of_body Bd
  have e0 : s₁.heap = h0 := by rw [← hh, Bd.state]; rfl
  have N0 := Fr.nil n0
  have K0 : Keep h0 h0 [] := Keep.refl h0 _
  have pre0 : ∀ tq, Steps p.tables e below (s₁.setTop (mkF m 0 #[.val (.ref ar), .val (.ref br), .val (.ref cr), .unset] [])) tq → Steps p.tables e below (s₁.setTop (entryFrame m #[(.ref ar), (.ref br), (.ref cr)] 4)) tq := fun tq kq => castTop (ef_2 m ar br cr) kq
  obtain ⟨cl1, Ar1, q1, S1, M1, H1, G1⟩ := id I0
  obtain ⟨fs, hr, hrun, hended, hW, hsame⟩ := X0.leave (v := some (Value.int (1 : Int32))) (fun h => by rw [Bd.returns] at h; cases h)
  refine ⟨_, _, pre0 _ ?_, hrun, hended, _, _, rfl, ?_, ⟨_, rfl⟩, hW, hsame.mono (by decide) (by decide)⟩
  · skip
    show Steps p.tables e below (s₁.setTop (mkF m 0 #[.val (.ref ar), .val (.ref br), .val (.ref cr), .unset] [])) _
    refine XS.iconst X0.here hx rfl (hb hby d2_0) ?_
    show Steps p.tables e below (s₁.setTop (mkF m 1 #[.val (.ref ar), .val (.ref br), .val (.ref cr), .unset] [(.int (0 : Int32))])) _
    refine XS.istoreN X0.here hx rfl (hb hby d2_1) rfl (l' := #[.val (.ref ar), .val (.ref br), .val (.ref cr), .val (.int (0 : Int32))]) rfl ?_
    show Steps p.tables e below (s₁.setTop (mkF m 2 #[.val (.ref ar), .val (.ref br), .val (.ref cr), .val (.int (0 : Int32))] [])) _
    refine XS.iloadN X0.here hx rfl (hb hby d2_2) rfl ?_
    show Steps p.tables e below (s₁.setTop (mkF m 3 #[.val (.ref ar), .val (.ref br), .val (.ref cr), .val (.int (0 : Int32))] [(.int (0 : Int32))])) _
    refine XS.aloadN X0.here hx rfl (hb hby d2_3) rfl rfl ?_
    show Steps p.tables e below (s₁.setTop (mkF m 4 #[.val (.ref ar), .val (.ref br), .val (.ref cr), .val (.int (0 : Int32))] [(.ref ar), (.int (0 : Int32))])) _
    refine X0.arraylength hx (heq_of e0 Ar1.1) (State.isArrayOf_alike hZ.alike Ar1.2.1) (g := (mkF m 4 #[.val (.ref ar), .val (.ref br), .val (.ref cr), .val (.int (0 : Int32))] [(.ref ar), (.int (0 : Int32))])) rfl rfl (hb hby d2_4) _ ?_
    rw [len_of S1 M1]
    show Steps p.tables e below (s₁.setTop (mkF m 5 #[.val (.ref ar), .val (.ref br), .val (.ref cr), .val (.int (0 : Int32))] [(.int (0 : Int32)), (.int (0 : Int32))])) _
    refine XS.icmpYes X0.here hx rfl (pc0 := 5) (pc' := 30) rfl (hb hby d2_5) rfl (flt (by decide)).2.1 (by decide) (by decide) ?_
    show Steps p.tables e below (s₁.setTop (mkF m 30 #[.val (.ref ar), .val (.ref br), .val (.ref cr), .val (.int (0 : Int32))] [])) _
    refine XS.iconst X0.here hx rfl (hb hby d2_30) ?_
    show Steps p.tables e below (s₁.setTop (mkF m 31 #[.val (.ref ar), .val (.ref br), .val (.ref cr), .val (.int (0 : Int32))] [(.int (1 : Int32))])) _
    exact retN X0 hx (t := .boolean) Bd.returns (by simp) (hb hby d2_31) hr
  · show Q2 Z ar br cr ka kb kc h0 n0 _ s₁.heap _
    rw [e0]
    exact ⟨rfl, N0, rfl⟩
theorem d2_8 : decode prog_27_method_9_code 8 = .ok (.aload_n 0, 1) := by decide +kernel
theorem d2_9 : decode prog_27_method_9_code 9 = .ok (.iload_n 3, 1) := by decide +kernel
theorem d2_10 : decode prog_27_method_9_code 10 = .ok (.laload, 1) := by decide +kernel
theorem d2_11 : decode prog_27_method_9_code 11 = .ok (.aload_n 1, 1) := by decide +kernel
theorem d2_12 : decode prog_27_method_9_code 12 = .ok (.iload_n 3, 1) := by decide +kernel
theorem d2_13 : decode prog_27_method_9_code 13 = .ok (.laload, 1) := by decide +kernel
theorem d2_14 : decode prog_27_method_9_code 14 = .ok (.aload_n 2, 1) := by decide +kernel
theorem d2_15 : decode prog_27_method_9_code 15 = .ok (.iload_n 3, 1) := by decide +kernel
theorem d2_16 : decode prog_27_method_9_code 16 = .ok (.laload, 1) := by decide +kernel
theorem d2_17 : decode prog_27_method_9_code 17 = .ok (.lsub, 1) := by decide +kernel
theorem d2_18 : decode prog_27_method_9_code 18 = .ok (.lcmp, 1) := by decide +kernel
theorem d2_19 : decode prog_27_method_9_code 19 = .ok (.ifCond .le 5, 3) := by decide +kernel
theorem d2_22 : decode prog_27_method_9_code 22 = .ok (.iconst 0, 1) := by decide +kernel
theorem d2_23 : decode prog_27_method_9_code 23 = .ok (.ireturn, 1) := by decide +kernel
theorem d2_24 : decode prog_27_method_9_code 24 = .ok (.iinc 3 1, 3) := by decide +kernel
theorem d2_27 : decode prog_27_method_9_code 27 = .ok (.goto (-25), 3) := by decide +kernel
theorem ef_2_1 (m : MethodId) (x0 : Addr) (x1 : Addr) (x2 : Addr) : entryFrame m #[(.ref x0), (.ref x1), (.ref x2)] 4 = mkF m 0 #[.val (.ref x0), .val (.ref x1), .val (.ref x2), .unset] [] := by first | (simp [entryFrame, mkF, argsToLocals, Value.category]; done) | rfl
def Q2_1 (Z : State) (ar : Addr) (br : Addr) (cr : Addr) (ka : ClassId) (kb : ClassId) (kc : ClassId) (d0 : Int64) (b0 : Int64) (c0 : Int64) (h0 : Heap) (n0 : Nat) (v : Option Value) (h : Heap) (L : List Loc) : Prop := v = some (.int (own_fits1 d0 b0 c0)) ∧ Fr n0 L ∧ h = h0
set_option maxRecDepth 65536 in
set_option maxHeartbeats 40000000 in
theorem rm2_1 (l : Launch) (Z : State) (a0 : Array Value) (hw : ∀ d ∈ tables_1, d.before a0 Z = true) (ws : List Jvm.Cond) (ar : Addr) (br : Addr) (cr : Addr) (ka : ClassId) (kb : ClassId) (kc : ClassId) (d0 : Int64) (b0 : Int64) (c0 : Int64) (h0 : Heap) (n0 : Nat) (Z0 : n0 ≤ h0.size) (I0 : Arv Z h0 ar ka .long (1 : Int32) [(.long d0)] (.long (0 : Int64))) (I1 : Arv Z h0 br kb .long (1 : Int32) [(.long b0)] (.long (0 : Int64))) (I2 : Arv Z h0 cr kc .long (1 : Int32) [(.long c0)] (.long (0 : Int64))) :
    MetFree l (⟨"com/example/evenkeel/evenkeel/cli/Audit", "fits", "([J[J[J)Z"⟩ : MethodName) (head1 (Jvm.Cond.code (⟨"com/example/evenkeel/evenkeel/cli/Audit", "fits", "([J[J[J)Z"⟩ : MethodName) prog_27_method_9_code 4 (some .boolean) :: ws) ({ frames := 0, cells := 0, slots := 0, locals := 0 } : Room)) (fun a U => a = #[(.ref ar), (.ref br), (.ref cr)] ∧ Z.Warmed39 U.vm ∧ U.heap = h0) (fun _ _ _ _ _ => True) (fun _ U o U' => ∃ v L, o = .returned v ∧ Q2_1 Z ar br cr ka kb kc d0 b0 c0 h0 n0 v U'.heap L ∧ FrameEnd U o U' L ({ frames := 0, cells := 0, slots := 0, locals := 0 } : Room).cells ({ frames := 0, cells := 0, slots := 0, locals := 0 } : Room).slots) := by
  refine MetFree.of_bodySF (plainFor_of_name pn_2) hisR ?_
  intro p e s m args below meth c s₁ Bd hml0 hP hK
  obtain ⟨rfl, hZ, hh⟩ := hP
  have hx := Bd.exec
  have hby := Bd.bytes
  have hml : c.maxLocals = 4 := hml0
  have hown : s.vm.findClass "com/example/evenkeel/evenkeel/cli/Audit" = some m.cls := findClass_of_methodNamed Bd.named
  have hnm := (name_of_methodNamed Bd.named Bd.method).1
  have X0 : Stand p l e ({ frames := 0, cells := 0, slots := 0, locals := 0 } : Room) s m #[(.ref ar), (.ref br), (.ref cr)] below meth c s₁ [] 0 0 := Stand.of_body Bd
  have e0 : s₁.heap = h0 := by rw [← hh, Bd.state]; rfl
  have N0 := Fr.nil n0
  have K0 : Keep h0 h0 [] := Keep.refl h0 _
  have pre0 : ∀ tq, Steps p.tables e below (s₁.setTop (mkF m 0 #[.val (.ref ar), .val (.ref br), .val (.ref cr), .unset] [])) tq → Steps p.tables e below (s₁.setTop (entryFrame m #[(.ref ar), (.ref br), (.ref cr)] 4)) tq := fun tq kq => castTop (ef_2_1 m ar br cr) kq
  obtain ⟨cl1, Ar1, q1, S1, M1, H1, G1⟩ := id I0
  obtain ⟨cl2, Ar2, q2, S2, M2, H2, G2⟩ := id I0
  have hin2 : ¬ ((0 : Int32) < 0 ∨ cl2.slots.size ≤ ((0 : Int32)).toNatClampNeg) := inb_of S2 ⟨by decide, by decide⟩
  have hat2 : cl2.slots[((0 : Int32)).toNatClampNeg]? = some (.long d0) := Has.at H2 hin2 rfl
  obtain ⟨cl3, Ar3, q3, S3, M3, H3, G3⟩ := id I1
  have hin3 : ¬ ((0 : Int32) < 0 ∨ cl3.slots.size ≤ ((0 : Int32)).toNatClampNeg) := inb_of S3 ⟨by decide, by decide⟩
  have hat3 : cl3.slots[((0 : Int32)).toNatClampNeg]? = some (.long b0) := Has.at H3 hin3 rfl
  obtain ⟨cl4, Ar4, q4, S4, M4, H4, G4⟩ := id I2
  have hin4 : ¬ ((0 : Int32) < 0 ∨ cl4.slots.size ≤ ((0 : Int32)).toNatClampNeg) := inb_of S4 ⟨by decide, by decide⟩
  have hat4 : cl4.slots[((0 : Int32)).toNatClampNeg]? = some (.long c0) := Has.at H4 hin4 rfl
  have pre5 : ∀ tq, Steps p.tables e below (s₁.setTop (mkF m 19 #[.val (.ref ar), .val (.ref br), .val (.ref cr), .val (.int (0 : Int32))] [(.int (lcmpW d0 (b0 - c0)))])) tq → Steps p.tables e below (s₁.setTop (entryFrame m #[(.ref ar), (.ref br), (.ref cr)] 4)) tq := by
    intro tq kt
    refine pre0 _ ?_
    show Steps p.tables e below (s₁.setTop (mkF m 0 #[.val (.ref ar), .val (.ref br), .val (.ref cr), .unset] [])) _
    refine XS.iconst X0.here hx rfl (hb hby d2_0) ?_
    show Steps p.tables e below (s₁.setTop (mkF m 1 #[.val (.ref ar), .val (.ref br), .val (.ref cr), .unset] [(.int (0 : Int32))])) _
    refine XS.istoreN X0.here hx rfl (hb hby d2_1) rfl (l' := #[.val (.ref ar), .val (.ref br), .val (.ref cr), .val (.int (0 : Int32))]) rfl ?_
    show Steps p.tables e below (s₁.setTop (mkF m 2 #[.val (.ref ar), .val (.ref br), .val (.ref cr), .val (.int (0 : Int32))] [])) _
    refine XS.iloadN X0.here hx rfl (hb hby d2_2) rfl ?_
    show Steps p.tables e below (s₁.setTop (mkF m 3 #[.val (.ref ar), .val (.ref br), .val (.ref cr), .val (.int (0 : Int32))] [(.int (0 : Int32))])) _
    refine XS.aloadN X0.here hx rfl (hb hby d2_3) rfl rfl ?_
    show Steps p.tables e below (s₁.setTop (mkF m 4 #[.val (.ref ar), .val (.ref br), .val (.ref cr), .val (.int (0 : Int32))] [(.ref ar), (.int (0 : Int32))])) _
    refine X0.arraylength hx (heq_of e0 Ar1.1) (State.isArrayOf_alike hZ.alike Ar1.2.1) (g := (mkF m 4 #[.val (.ref ar), .val (.ref br), .val (.ref cr), .val (.int (0 : Int32))] [(.ref ar), (.int (0 : Int32))])) rfl rfl (hb hby d2_4) _ ?_
    rw [len_of S1 M1]
    show Steps p.tables e below (s₁.setTop (mkF m 5 #[.val (.ref ar), .val (.ref br), .val (.ref cr), .val (.int (0 : Int32))] [(.int (1 : Int32)), (.int (0 : Int32))])) _
    refine XS.icmpNo X0.here hx rfl (hb hby d2_5) rfl (tlt (by decide)).2.1 ?_
    show Steps p.tables e below (s₁.setTop (mkF m 8 #[.val (.ref ar), .val (.ref br), .val (.ref cr), .val (.int (0 : Int32))] [])) _
    refine XS.aloadN X0.here hx rfl (hb hby d2_8) rfl rfl ?_
    show Steps p.tables e below (s₁.setTop (mkF m 9 #[.val (.ref ar), .val (.ref br), .val (.ref cr), .val (.int (0 : Int32))] [(.ref ar)])) _
    refine XS.iloadN X0.here hx rfl (hb hby d2_9) rfl ?_
    show Steps p.tables e below (s₁.setTop (mkF m 10 #[.val (.ref ar), .val (.ref br), .val (.ref cr), .val (.int (0 : Int32))] [(.int (0 : Int32)), (.ref ar)])) _
    refine X0.laload hx (j := (0 : Int32)) (v := (.long d0)) (heq_of e0 Ar2.1) (State.isArrayOf_alike hZ.alike Ar2.2.1) Ar2.2.2 hin2 hat2 (g := (mkF m 10 #[.val (.ref ar), .val (.ref br), .val (.ref cr), .val (.int (0 : Int32))] [(.int (0 : Int32)), (.ref ar)])) rfl rfl (hb hby d2_10) _ ?_
    show Steps p.tables e below (s₁.setTop (mkF m 11 #[.val (.ref ar), .val (.ref br), .val (.ref cr), .val (.int (0 : Int32))] [(.long d0)])) _
    refine XS.aloadN X0.here hx rfl (hb hby d2_11) rfl rfl ?_
    show Steps p.tables e below (s₁.setTop (mkF m 12 #[.val (.ref ar), .val (.ref br), .val (.ref cr), .val (.int (0 : Int32))] [(.ref br), (.long d0)])) _
    refine XS.iloadN X0.here hx rfl (hb hby d2_12) rfl ?_
    show Steps p.tables e below (s₁.setTop (mkF m 13 #[.val (.ref ar), .val (.ref br), .val (.ref cr), .val (.int (0 : Int32))] [(.int (0 : Int32)), (.ref br), (.long d0)])) _
    refine X0.laload hx (j := (0 : Int32)) (v := (.long b0)) (heq_of e0 Ar3.1) (State.isArrayOf_alike hZ.alike Ar3.2.1) Ar3.2.2 hin3 hat3 (g := (mkF m 13 #[.val (.ref ar), .val (.ref br), .val (.ref cr), .val (.int (0 : Int32))] [(.int (0 : Int32)), (.ref br), (.long d0)])) rfl rfl (hb hby d2_13) _ ?_
    show Steps p.tables e below (s₁.setTop (mkF m 14 #[.val (.ref ar), .val (.ref br), .val (.ref cr), .val (.int (0 : Int32))] [(.long b0), (.long d0)])) _
    refine XS.aloadN X0.here hx rfl (hb hby d2_14) rfl rfl ?_
    show Steps p.tables e below (s₁.setTop (mkF m 15 #[.val (.ref ar), .val (.ref br), .val (.ref cr), .val (.int (0 : Int32))] [(.ref cr), (.long b0), (.long d0)])) _
    refine XS.iloadN X0.here hx rfl (hb hby d2_15) rfl ?_
    show Steps p.tables e below (s₁.setTop (mkF m 16 #[.val (.ref ar), .val (.ref br), .val (.ref cr), .val (.int (0 : Int32))] [(.int (0 : Int32)), (.ref cr), (.long b0), (.long d0)])) _
    refine X0.laload hx (j := (0 : Int32)) (v := (.long c0)) (heq_of e0 Ar4.1) (State.isArrayOf_alike hZ.alike Ar4.2.1) Ar4.2.2 hin4 hat4 (g := (mkF m 16 #[.val (.ref ar), .val (.ref br), .val (.ref cr), .val (.int (0 : Int32))] [(.int (0 : Int32)), (.ref cr), (.long b0), (.long d0)])) rfl rfl (hb hby d2_16) _ ?_
    show Steps p.tables e below (s₁.setTop (mkF m 17 #[.val (.ref ar), .val (.ref br), .val (.ref cr), .val (.int (0 : Int32))] [(.long c0), (.long b0), (.long d0)])) _
    refine XS.lsub X0.here hx rfl (hb hby d2_17) rfl ?_
    show Steps p.tables e below (s₁.setTop (mkF m 18 #[.val (.ref ar), .val (.ref br), .val (.ref cr), .val (.int (0 : Int32))] [(.long (b0 - c0)), (.long d0)])) _
    refine XS.lcmp X0.here hx rfl (hb hby d2_18) rfl ?_
    show Steps p.tables e below (s₁.setTop (mkF m 19 #[.val (.ref ar), .val (.ref br), .val (.ref cr), .val (.int (0 : Int32))] [(.int (lcmpW d0 (b0 - c0)))])) _
    exact kt
  by_cases hc19_6 : (b0 - c0) < d0
  · skip
    obtain ⟨fs, hr, hrun, hended, hW, hsame⟩ := X0.leave (v := some (Value.int (0 : Int32))) (fun h => by rw [Bd.returns] at h; cases h)
    have hres7 : (0 : Int32) = (own_fits1 d0 b0 c0) := by unfold own_fits1; simp only [if_pos hc19_6]
    refine ⟨_, _, pre5 _ ?_, hrun, hended, _, _, rfl, ?_, ⟨_, rfl⟩, hW, hsame.mono (by decide) (by decide)⟩
    · skip
      show Steps p.tables e below (s₁.setTop (mkF m 19 #[.val (.ref ar), .val (.ref br), .val (.ref cr), .val (.int (0 : Int32))] [(.int (lcmpW d0 (b0 - c0)))])) _
      refine XS.ifNo X0.here hx rfl (hb hby d2_19) rfl ((if0 _ _).trans (tlt ((lw_gt d0 (b0 - c0)).2 hc19_6)).2.2.2) ?_
      show Steps p.tables e below (s₁.setTop (mkF m 22 #[.val (.ref ar), .val (.ref br), .val (.ref cr), .val (.int (0 : Int32))] [])) _
      refine XS.iconst X0.here hx rfl (hb hby d2_22) ?_
      show Steps p.tables e below (s₁.setTop (mkF m 23 #[.val (.ref ar), .val (.ref br), .val (.ref cr), .val (.int (0 : Int32))] [(.int (0 : Int32))])) _
      exact retN X0 hx (t := .boolean) Bd.returns (by simp) (hb hby d2_23) hr
    · show Q2_1 Z ar br cr ka kb kc d0 b0 c0 h0 n0 _ s₁.heap _
      rw [e0]
      exact ⟨congrArg (fun z => some (Value.int z)) hres7, N0, rfl⟩
  · skip
    obtain ⟨cl8, Ar8, q8, S8, M8, H8, G8⟩ := id I0
    obtain ⟨fs, hr, hrun, hended, hW, hsame⟩ := X0.leave (v := some (Value.int (1 : Int32))) (fun h => by rw [Bd.returns] at h; cases h)
    have hres9 : (1 : Int32) = (own_fits1 d0 b0 c0) := by unfold own_fits1; simp only [if_neg hc19_6]
    refine ⟨_, _, pre5 _ ?_, hrun, hended, _, _, rfl, ?_, ⟨_, rfl⟩, hW, hsame.mono (by decide) (by decide)⟩
    · skip
      show Steps p.tables e below (s₁.setTop (mkF m 19 #[.val (.ref ar), .val (.ref br), .val (.ref cr), .val (.int (0 : Int32))] [(.int (lcmpW d0 (b0 - c0)))])) _
      refine XS.ifYes X0.here hx rfl (pc0 := 19) (pc' := 24) rfl (hb hby d2_19) rfl ((if0 _ _).trans (flt (mt (lw_gt d0 (b0 - c0)).1 hc19_6)).2.2.2) (by decide) (by decide) ?_
      show Steps p.tables e below (s₁.setTop (mkF m 24 #[.val (.ref ar), .val (.ref br), .val (.ref cr), .val (.int (0 : Int32))] [])) _
      refine XS.iinc X0.here hx rfl (hb hby d2_24) rfl (l' := #[.val (.ref ar), .val (.ref br), .val (.ref cr), .val (.int (1 : Int32))]) rfl ?_
      show Steps p.tables e below (s₁.setTop (mkF m 27 #[.val (.ref ar), .val (.ref br), .val (.ref cr), .val (.int (1 : Int32))] [])) _
      refine XS.goto X0.here hx rfl (pc0 := 27) (pc' := 2) rfl (hb hby d2_27) (by decide) (by decide) ?_
      show Steps p.tables e below (s₁.setTop (mkF m 2 #[.val (.ref ar), .val (.ref br), .val (.ref cr), .val (.int (1 : Int32))] [])) _
      refine XS.iloadN X0.here hx rfl (hb hby d2_2) rfl ?_
      show Steps p.tables e below (s₁.setTop (mkF m 3 #[.val (.ref ar), .val (.ref br), .val (.ref cr), .val (.int (1 : Int32))] [(.int (1 : Int32))])) _
      refine XS.aloadN X0.here hx rfl (hb hby d2_3) rfl rfl ?_
      show Steps p.tables e below (s₁.setTop (mkF m 4 #[.val (.ref ar), .val (.ref br), .val (.ref cr), .val (.int (1 : Int32))] [(.ref ar), (.int (1 : Int32))])) _
      refine X0.arraylength hx (heq_of e0 Ar8.1) (State.isArrayOf_alike hZ.alike Ar8.2.1) (g := (mkF m 4 #[.val (.ref ar), .val (.ref br), .val (.ref cr), .val (.int (1 : Int32))] [(.ref ar), (.int (1 : Int32))])) rfl rfl (hb hby d2_4) _ ?_
      rw [len_of S8 M8]
      show Steps p.tables e below (s₁.setTop (mkF m 5 #[.val (.ref ar), .val (.ref br), .val (.ref cr), .val (.int (1 : Int32))] [(.int (1 : Int32)), (.int (1 : Int32))])) _
      refine XS.icmpYes X0.here hx rfl (pc0 := 5) (pc' := 30) rfl (hb hby d2_5) rfl (flt (by decide)).2.1 (by decide) (by decide) ?_
      show Steps p.tables e below (s₁.setTop (mkF m 30 #[.val (.ref ar), .val (.ref br), .val (.ref cr), .val (.int (1 : Int32))] [])) _
      refine XS.iconst X0.here hx rfl (hb hby d2_30) ?_
      show Steps p.tables e below (s₁.setTop (mkF m 31 #[.val (.ref ar), .val (.ref br), .val (.ref cr), .val (.int (1 : Int32))] [(.int (1 : Int32))])) _
      exact retN X0 hx (t := .boolean) Bd.returns (by simp) (hb hby d2_31) hr
    · show Q2_1 Z ar br cr ka kb kc d0 b0 c0 h0 n0 _ s₁.heap _
      rw [e0]
      exact ⟨congrArg (fun z => some (Value.int z)) hres9, N0, rfl⟩
theorem ef_2_2 (m : MethodId) (x0 : Addr) (x1 : Addr) (x2 : Addr) : entryFrame m #[(.ref x0), (.ref x1), (.ref x2)] 4 = mkF m 0 #[.val (.ref x0), .val (.ref x1), .val (.ref x2), .unset] [] := by first | (simp [entryFrame, mkF, argsToLocals, Value.category]; done) | rfl
def Q2_2 (Z : State) (ar : Addr) (br : Addr) (cr : Addr) (ka : ClassId) (kb : ClassId) (kc : ClassId) (d0 : Int64) (d1 : Int64) (b0 : Int64) (b1 : Int64) (c0 : Int64) (c1 : Int64) (h0 : Heap) (n0 : Nat) (v : Option Value) (h : Heap) (L : List Loc) : Prop := v = some (.int (own_fits2 d0 d1 b0 b1 c0 c1)) ∧ Fr n0 L ∧ h = h0
set_option maxRecDepth 65536 in
set_option maxHeartbeats 40000000 in
theorem rm2_2 (l : Launch) (Z : State) (a0 : Array Value) (hw : ∀ d ∈ tables_1, d.before a0 Z = true) (ws : List Jvm.Cond) (ar : Addr) (br : Addr) (cr : Addr) (ka : ClassId) (kb : ClassId) (kc : ClassId) (d0 : Int64) (d1 : Int64) (b0 : Int64) (b1 : Int64) (c0 : Int64) (c1 : Int64) (h0 : Heap) (n0 : Nat) (Z0 : n0 ≤ h0.size) (I0 : Arv Z h0 ar ka .long (2 : Int32) [(.long d0), (.long d1)] (.long (0 : Int64))) (I1 : Arv Z h0 br kb .long (2 : Int32) [(.long b0), (.long b1)] (.long (0 : Int64))) (I2 : Arv Z h0 cr kc .long (2 : Int32) [(.long c0), (.long c1)] (.long (0 : Int64))) :
    MetFree l (⟨"com/example/evenkeel/evenkeel/cli/Audit", "fits", "([J[J[J)Z"⟩ : MethodName) (head1 (Jvm.Cond.code (⟨"com/example/evenkeel/evenkeel/cli/Audit", "fits", "([J[J[J)Z"⟩ : MethodName) prog_27_method_9_code 4 (some .boolean) :: ws) ({ frames := 0, cells := 0, slots := 0, locals := 0 } : Room)) (fun a U => a = #[(.ref ar), (.ref br), (.ref cr)] ∧ Z.Warmed39 U.vm ∧ U.heap = h0) (fun _ _ _ _ _ => True) (fun _ U o U' => ∃ v L, o = .returned v ∧ Q2_2 Z ar br cr ka kb kc d0 d1 b0 b1 c0 c1 h0 n0 v U'.heap L ∧ FrameEnd U o U' L ({ frames := 0, cells := 0, slots := 0, locals := 0 } : Room).cells ({ frames := 0, cells := 0, slots := 0, locals := 0 } : Room).slots) := by
  refine MetFree.of_bodySF (plainFor_of_name pn_2) hisR ?_
  intro p e s m args below meth c s₁ Bd hml0 hP hK
  obtain ⟨rfl, hZ, hh⟩ := hP
  have hx := Bd.exec
  have hby := Bd.bytes
  have hml : c.maxLocals = 4 := hml0
  have hown : s.vm.findClass "com/example/evenkeel/evenkeel/cli/Audit" = some m.cls := findClass_of_methodNamed Bd.named
  have hnm := (name_of_methodNamed Bd.named Bd.method).1
  have X0 : Stand p l e ({ frames := 0, cells := 0, slots := 0, locals := 0 } : Room) s m #[(.ref ar), (.ref br), (.ref cr)] below meth c s₁ [] 0 0 := Stand.of_body Bd
  have e0 : s₁.heap = h0 := by rw [← hh, Bd.state]; rfl
  have N0 := Fr.nil n0
  have K0 : Keep h0 h0 [] := Keep.refl h0 _
  have pre0 : ∀ tq, Steps p.tables e below (s₁.setTop (mkF m 0 #[.val (.ref ar), .val (.ref br), .val (.ref cr), .unset] [])) tq → Steps p.tables e below (s₁.setTop (entryFrame m #[(.ref ar), (.ref br), (.ref cr)] 4)) tq := fun tq kq => castTop (ef_2_2 m ar br cr) kq
  obtain ⟨cl1, Ar1, q1, S1, M1, H1, G1⟩ := id I0
  obtain ⟨cl2, Ar2, q2, S2, M2, H2, G2⟩ := id I0
  have hin2 : ¬ ((0 : Int32) < 0 ∨ cl2.slots.size ≤ ((0 : Int32)).toNatClampNeg) := inb_of S2 ⟨by decide, by decide⟩
  have hat2 : cl2.slots[((0 : Int32)).toNatClampNeg]? = some (.long d0) := Has.at H2 hin2 rfl
  obtain ⟨cl3, Ar3, q3, S3, M3, H3, G3⟩ := id I1
  have hin3 : ¬ ((0 : Int32) < 0 ∨ cl3.slots.size ≤ ((0 : Int32)).toNatClampNeg) := inb_of S3 ⟨by decide, by decide⟩
  have hat3 : cl3.slots[((0 : Int32)).toNatClampNeg]? = some (.long b0) := Has.at H3 hin3 rfl
  obtain ⟨cl4, Ar4, q4, S4, M4, H4, G4⟩ := id I2
  have hin4 : ¬ ((0 : Int32) < 0 ∨ cl4.slots.size ≤ ((0 : Int32)).toNatClampNeg) := inb_of S4 ⟨by decide, by decide⟩
  have hat4 : cl4.slots[((0 : Int32)).toNatClampNeg]? = some (.long c0) := Has.at H4 hin4 rfl
  have pre5 : ∀ tq, Steps p.tables e below (s₁.setTop (mkF m 19 #[.val (.ref ar), .val (.ref br), .val (.ref cr), .val (.int (0 : Int32))] [(.int (lcmpW d0 (b0 - c0)))])) tq → Steps p.tables e below (s₁.setTop (entryFrame m #[(.ref ar), (.ref br), (.ref cr)] 4)) tq := by
    intro tq kt
    refine pre0 _ ?_
    show Steps p.tables e below (s₁.setTop (mkF m 0 #[.val (.ref ar), .val (.ref br), .val (.ref cr), .unset] [])) _
    refine XS.iconst X0.here hx rfl (hb hby d2_0) ?_
    show Steps p.tables e below (s₁.setTop (mkF m 1 #[.val (.ref ar), .val (.ref br), .val (.ref cr), .unset] [(.int (0 : Int32))])) _
    refine XS.istoreN X0.here hx rfl (hb hby d2_1) rfl (l' := #[.val (.ref ar), .val (.ref br), .val (.ref cr), .val (.int (0 : Int32))]) rfl ?_
    show Steps p.tables e below (s₁.setTop (mkF m 2 #[.val (.ref ar), .val (.ref br), .val (.ref cr), .val (.int (0 : Int32))] [])) _
    refine XS.iloadN X0.here hx rfl (hb hby d2_2) rfl ?_
    show Steps p.tables e below (s₁.setTop (mkF m 3 #[.val (.ref ar), .val (.ref br), .val (.ref cr), .val (.int (0 : Int32))] [(.int (0 : Int32))])) _
    refine XS.aloadN X0.here hx rfl (hb hby d2_3) rfl rfl ?_
    show Steps p.tables e below (s₁.setTop (mkF m 4 #[.val (.ref ar), .val (.ref br), .val (.ref cr), .val (.int (0 : Int32))] [(.ref ar), (.int (0 : Int32))])) _
    refine X0.arraylength hx (heq_of e0 Ar1.1) (State.isArrayOf_alike hZ.alike Ar1.2.1) (g := (mkF m 4 #[.val (.ref ar), .val (.ref br), .val (.ref cr), .val (.int (0 : Int32))] [(.ref ar), (.int (0 : Int32))])) rfl rfl (hb hby d2_4) _ ?_
    rw [len_of S1 M1]
    show Steps p.tables e below (s₁.setTop (mkF m 5 #[.val (.ref ar), .val (.ref br), .val (.ref cr), .val (.int (0 : Int32))] [(.int (2 : Int32)), (.int (0 : Int32))])) _
    refine XS.icmpNo X0.here hx rfl (hb hby d2_5) rfl (tlt (by decide)).2.1 ?_
    show Steps p.tables e below (s₁.setTop (mkF m 8 #[.val (.ref ar), .val (.ref br), .val (.ref cr), .val (.int (0 : Int32))] [])) _
    refine XS.aloadN X0.here hx rfl (hb hby d2_8) rfl rfl ?_
    show Steps p.tables e below (s₁.setTop (mkF m 9 #[.val (.ref ar), .val (.ref br), .val (.ref cr), .val (.int (0 : Int32))] [(.ref ar)])) _
    refine XS.iloadN X0.here hx rfl (hb hby d2_9) rfl ?_
    show Steps p.tables e below (s₁.setTop (mkF m 10 #[.val (.ref ar), .val (.ref br), .val (.ref cr), .val (.int (0 : Int32))] [(.int (0 : Int32)), (.ref ar)])) _
    refine X0.laload hx (j := (0 : Int32)) (v := (.long d0)) (heq_of e0 Ar2.1) (State.isArrayOf_alike hZ.alike Ar2.2.1) Ar2.2.2 hin2 hat2 (g := (mkF m 10 #[.val (.ref ar), .val (.ref br), .val (.ref cr), .val (.int (0 : Int32))] [(.int (0 : Int32)), (.ref ar)])) rfl rfl (hb hby d2_10) _ ?_
    show Steps p.tables e below (s₁.setTop (mkF m 11 #[.val (.ref ar), .val (.ref br), .val (.ref cr), .val (.int (0 : Int32))] [(.long d0)])) _
    refine XS.aloadN X0.here hx rfl (hb hby d2_11) rfl rfl ?_
    show Steps p.tables e below (s₁.setTop (mkF m 12 #[.val (.ref ar), .val (.ref br), .val (.ref cr), .val (.int (0 : Int32))] [(.ref br), (.long d0)])) _
    refine XS.iloadN X0.here hx rfl (hb hby d2_12) rfl ?_
    show Steps p.tables e below (s₁.setTop (mkF m 13 #[.val (.ref ar), .val (.ref br), .val (.ref cr), .val (.int (0 : Int32))] [(.int (0 : Int32)), (.ref br), (.long d0)])) _
    refine X0.laload hx (j := (0 : Int32)) (v := (.long b0)) (heq_of e0 Ar3.1) (State.isArrayOf_alike hZ.alike Ar3.2.1) Ar3.2.2 hin3 hat3 (g := (mkF m 13 #[.val (.ref ar), .val (.ref br), .val (.ref cr), .val (.int (0 : Int32))] [(.int (0 : Int32)), (.ref br), (.long d0)])) rfl rfl (hb hby d2_13) _ ?_
    show Steps p.tables e below (s₁.setTop (mkF m 14 #[.val (.ref ar), .val (.ref br), .val (.ref cr), .val (.int (0 : Int32))] [(.long b0), (.long d0)])) _
    refine XS.aloadN X0.here hx rfl (hb hby d2_14) rfl rfl ?_
    show Steps p.tables e below (s₁.setTop (mkF m 15 #[.val (.ref ar), .val (.ref br), .val (.ref cr), .val (.int (0 : Int32))] [(.ref cr), (.long b0), (.long d0)])) _
    refine XS.iloadN X0.here hx rfl (hb hby d2_15) rfl ?_
    show Steps p.tables e below (s₁.setTop (mkF m 16 #[.val (.ref ar), .val (.ref br), .val (.ref cr), .val (.int (0 : Int32))] [(.int (0 : Int32)), (.ref cr), (.long b0), (.long d0)])) _
    refine X0.laload hx (j := (0 : Int32)) (v := (.long c0)) (heq_of e0 Ar4.1) (State.isArrayOf_alike hZ.alike Ar4.2.1) Ar4.2.2 hin4 hat4 (g := (mkF m 16 #[.val (.ref ar), .val (.ref br), .val (.ref cr), .val (.int (0 : Int32))] [(.int (0 : Int32)), (.ref cr), (.long b0), (.long d0)])) rfl rfl (hb hby d2_16) _ ?_
    show Steps p.tables e below (s₁.setTop (mkF m 17 #[.val (.ref ar), .val (.ref br), .val (.ref cr), .val (.int (0 : Int32))] [(.long c0), (.long b0), (.long d0)])) _
    refine XS.lsub X0.here hx rfl (hb hby d2_17) rfl ?_
    show Steps p.tables e below (s₁.setTop (mkF m 18 #[.val (.ref ar), .val (.ref br), .val (.ref cr), .val (.int (0 : Int32))] [(.long (b0 - c0)), (.long d0)])) _
    refine XS.lcmp X0.here hx rfl (hb hby d2_18) rfl ?_
    show Steps p.tables e below (s₁.setTop (mkF m 19 #[.val (.ref ar), .val (.ref br), .val (.ref cr), .val (.int (0 : Int32))] [(.int (lcmpW d0 (b0 - c0)))])) _
    exact kt
  by_cases hc19_6 : (b0 - c0) < d0
  · skip
    obtain ⟨fs, hr, hrun, hended, hW, hsame⟩ := X0.leave (v := some (Value.int (0 : Int32))) (fun h => by rw [Bd.returns] at h; cases h)
    have hres7 : (0 : Int32) = (own_fits2 d0 d1 b0 b1 c0 c1) := by unfold own_fits2; simp only [if_pos hc19_6]
    refine ⟨_, _, pre5 _ ?_, hrun, hended, _, _, rfl, ?_, ⟨_, rfl⟩, hW, hsame.mono (by decide) (by decide)⟩
    · skip
      show Steps p.tables e below (s₁.setTop (mkF m 19 #[.val (.ref ar), .val (.ref br), .val (.ref cr), .val (.int (0 : Int32))] [(.int (lcmpW d0 (b0 - c0)))])) _
      refine XS.ifNo X0.here hx rfl (hb hby d2_19) rfl ((if0 _ _).trans (tlt ((lw_gt d0 (b0 - c0)).2 hc19_6)).2.2.2) ?_
      show Steps p.tables e below (s₁.setTop (mkF m 22 #[.val (.ref ar), .val (.ref br), .val (.ref cr), .val (.int (0 : Int32))] [])) _
      refine XS.iconst X0.here hx rfl (hb hby d2_22) ?_
      show Steps p.tables e below (s₁.setTop (mkF m 23 #[.val (.ref ar), .val (.ref br), .val (.ref cr), .val (.int (0 : Int32))] [(.int (0 : Int32))])) _
      exact retN X0 hx (t := .boolean) Bd.returns (by simp) (hb hby d2_23) hr
    · show Q2_2 Z ar br cr ka kb kc d0 d1 b0 b1 c0 c1 h0 n0 _ s₁.heap _
      rw [e0]
      exact ⟨congrArg (fun z => some (Value.int z)) hres7, N0, rfl⟩
  · skip
    obtain ⟨cl8, Ar8, q8, S8, M8, H8, G8⟩ := id I0
    obtain ⟨cl9, Ar9, q9, S9, M9, H9, G9⟩ := id I0
    have hin9 : ¬ ((1 : Int32) < 0 ∨ cl9.slots.size ≤ ((1 : Int32)).toNatClampNeg) := inb_of S9 ⟨by decide, by decide⟩
    have hat9 : cl9.slots[((1 : Int32)).toNatClampNeg]? = some (.long d1) := Has.at H9 hin9 rfl
    obtain ⟨cl10, Ar10, q10, S10, M10, H10, G10⟩ := id I1
    have hin10 : ¬ ((1 : Int32) < 0 ∨ cl10.slots.size ≤ ((1 : Int32)).toNatClampNeg) := inb_of S10 ⟨by decide, by decide⟩
    have hat10 : cl10.slots[((1 : Int32)).toNatClampNeg]? = some (.long b1) := Has.at H10 hin10 rfl
    obtain ⟨cl11, Ar11, q11, S11, M11, H11, G11⟩ := id I2
    have hin11 : ¬ ((1 : Int32) < 0 ∨ cl11.slots.size ≤ ((1 : Int32)).toNatClampNeg) := inb_of S11 ⟨by decide, by decide⟩
    have hat11 : cl11.slots[((1 : Int32)).toNatClampNeg]? = some (.long c1) := Has.at H11 hin11 rfl
    have pre12 : ∀ tq, Steps p.tables e below (s₁.setTop (mkF m 19 #[.val (.ref ar), .val (.ref br), .val (.ref cr), .val (.int (1 : Int32))] [(.int (lcmpW d1 (b1 - c1)))])) tq → Steps p.tables e below (s₁.setTop (entryFrame m #[(.ref ar), (.ref br), (.ref cr)] 4)) tq := by
      intro tq kt
      refine pre5 _ ?_
      show Steps p.tables e below (s₁.setTop (mkF m 19 #[.val (.ref ar), .val (.ref br), .val (.ref cr), .val (.int (0 : Int32))] [(.int (lcmpW d0 (b0 - c0)))])) _
      refine XS.ifYes X0.here hx rfl (pc0 := 19) (pc' := 24) rfl (hb hby d2_19) rfl ((if0 _ _).trans (flt (mt (lw_gt d0 (b0 - c0)).1 hc19_6)).2.2.2) (by decide) (by decide) ?_
      show Steps p.tables e below (s₁.setTop (mkF m 24 #[.val (.ref ar), .val (.ref br), .val (.ref cr), .val (.int (0 : Int32))] [])) _
      refine XS.iinc X0.here hx rfl (hb hby d2_24) rfl (l' := #[.val (.ref ar), .val (.ref br), .val (.ref cr), .val (.int (1 : Int32))]) rfl ?_
      show Steps p.tables e below (s₁.setTop (mkF m 27 #[.val (.ref ar), .val (.ref br), .val (.ref cr), .val (.int (1 : Int32))] [])) _
      refine XS.goto X0.here hx rfl (pc0 := 27) (pc' := 2) rfl (hb hby d2_27) (by decide) (by decide) ?_
      show Steps p.tables e below (s₁.setTop (mkF m 2 #[.val (.ref ar), .val (.ref br), .val (.ref cr), .val (.int (1 : Int32))] [])) _
      refine XS.iloadN X0.here hx rfl (hb hby d2_2) rfl ?_
      show Steps p.tables e below (s₁.setTop (mkF m 3 #[.val (.ref ar), .val (.ref br), .val (.ref cr), .val (.int (1 : Int32))] [(.int (1 : Int32))])) _
      refine XS.aloadN X0.here hx rfl (hb hby d2_3) rfl rfl ?_
      show Steps p.tables e below (s₁.setTop (mkF m 4 #[.val (.ref ar), .val (.ref br), .val (.ref cr), .val (.int (1 : Int32))] [(.ref ar), (.int (1 : Int32))])) _
      refine X0.arraylength hx (heq_of e0 Ar8.1) (State.isArrayOf_alike hZ.alike Ar8.2.1) (g := (mkF m 4 #[.val (.ref ar), .val (.ref br), .val (.ref cr), .val (.int (1 : Int32))] [(.ref ar), (.int (1 : Int32))])) rfl rfl (hb hby d2_4) _ ?_
      rw [len_of S8 M8]
      show Steps p.tables e below (s₁.setTop (mkF m 5 #[.val (.ref ar), .val (.ref br), .val (.ref cr), .val (.int (1 : Int32))] [(.int (2 : Int32)), (.int (1 : Int32))])) _
      refine XS.icmpNo X0.here hx rfl (hb hby d2_5) rfl (tlt (by decide)).2.1 ?_
      show Steps p.tables e below (s₁.setTop (mkF m 8 #[.val (.ref ar), .val (.ref br), .val (.ref cr), .val (.int (1 : Int32))] [])) _
      refine XS.aloadN X0.here hx rfl (hb hby d2_8) rfl rfl ?_
      show Steps p.tables e below (s₁.setTop (mkF m 9 #[.val (.ref ar), .val (.ref br), .val (.ref cr), .val (.int (1 : Int32))] [(.ref ar)])) _
      refine XS.iloadN X0.here hx rfl (hb hby d2_9) rfl ?_
      show Steps p.tables e below (s₁.setTop (mkF m 10 #[.val (.ref ar), .val (.ref br), .val (.ref cr), .val (.int (1 : Int32))] [(.int (1 : Int32)), (.ref ar)])) _
      refine X0.laload hx (j := (1 : Int32)) (v := (.long d1)) (heq_of e0 Ar9.1) (State.isArrayOf_alike hZ.alike Ar9.2.1) Ar9.2.2 hin9 hat9 (g := (mkF m 10 #[.val (.ref ar), .val (.ref br), .val (.ref cr), .val (.int (1 : Int32))] [(.int (1 : Int32)), (.ref ar)])) rfl rfl (hb hby d2_10) _ ?_
      show Steps p.tables e below (s₁.setTop (mkF m 11 #[.val (.ref ar), .val (.ref br), .val (.ref cr), .val (.int (1 : Int32))] [(.long d1)])) _
      refine XS.aloadN X0.here hx rfl (hb hby d2_11) rfl rfl ?_
      show Steps p.tables e below (s₁.setTop (mkF m 12 #[.val (.ref ar), .val (.ref br), .val (.ref cr), .val (.int (1 : Int32))] [(.ref br), (.long d1)])) _
      refine XS.iloadN X0.here hx rfl (hb hby d2_12) rfl ?_
      show Steps p.tables e below (s₁.setTop (mkF m 13 #[.val (.ref ar), .val (.ref br), .val (.ref cr), .val (.int (1 : Int32))] [(.int (1 : Int32)), (.ref br), (.long d1)])) _
      refine X0.laload hx (j := (1 : Int32)) (v := (.long b1)) (heq_of e0 Ar10.1) (State.isArrayOf_alike hZ.alike Ar10.2.1) Ar10.2.2 hin10 hat10 (g := (mkF m 13 #[.val (.ref ar), .val (.ref br), .val (.ref cr), .val (.int (1 : Int32))] [(.int (1 : Int32)), (.ref br), (.long d1)])) rfl rfl (hb hby d2_13) _ ?_
      show Steps p.tables e below (s₁.setTop (mkF m 14 #[.val (.ref ar), .val (.ref br), .val (.ref cr), .val (.int (1 : Int32))] [(.long b1), (.long d1)])) _
      refine XS.aloadN X0.here hx rfl (hb hby d2_14) rfl rfl ?_
      show Steps p.tables e below (s₁.setTop (mkF m 15 #[.val (.ref ar), .val (.ref br), .val (.ref cr), .val (.int (1 : Int32))] [(.ref cr), (.long b1), (.long d1)])) _
      refine XS.iloadN X0.here hx rfl (hb hby d2_15) rfl ?_
      show Steps p.tables e below (s₁.setTop (mkF m 16 #[.val (.ref ar), .val (.ref br), .val (.ref cr), .val (.int (1 : Int32))] [(.int (1 : Int32)), (.ref cr), (.long b1), (.long d1)])) _
      refine X0.laload hx (j := (1 : Int32)) (v := (.long c1)) (heq_of e0 Ar11.1) (State.isArrayOf_alike hZ.alike Ar11.2.1) Ar11.2.2 hin11 hat11 (g := (mkF m 16 #[.val (.ref ar), .val (.ref br), .val (.ref cr), .val (.int (1 : Int32))] [(.int (1 : Int32)), (.ref cr), (.long b1), (.long d1)])) rfl rfl (hb hby d2_16) _ ?_
      show Steps p.tables e below (s₁.setTop (mkF m 17 #[.val (.ref ar), .val (.ref br), .val (.ref cr), .val (.int (1 : Int32))] [(.long c1), (.long b1), (.long d1)])) _
      refine XS.lsub X0.here hx rfl (hb hby d2_17) rfl ?_
      show Steps p.tables e below (s₁.setTop (mkF m 18 #[.val (.ref ar), .val (.ref br), .val (.ref cr), .val (.int (1 : Int32))] [(.long (b1 - c1)), (.long d1)])) _
      refine XS.lcmp X0.here hx rfl (hb hby d2_18) rfl ?_
      show Steps p.tables e below (s₁.setTop (mkF m 19 #[.val (.ref ar), .val (.ref br), .val (.ref cr), .val (.int (1 : Int32))] [(.int (lcmpW d1 (b1 - c1)))])) _
      exact kt
    by_cases hc19_13 : (b1 - c1) < d1
    · skip
      obtain ⟨fs, hr, hrun, hended, hW, hsame⟩ := X0.leave (v := some (Value.int (0 : Int32))) (fun h => by rw [Bd.returns] at h; cases h)
      have hres14 : (0 : Int32) = (own_fits2 d0 d1 b0 b1 c0 c1) := by unfold own_fits2; simp only [if_neg hc19_6, if_pos hc19_13]
      refine ⟨_, _, pre12 _ ?_, hrun, hended, _, _, rfl, ?_, ⟨_, rfl⟩, hW, hsame.mono (by decide) (by decide)⟩
      · skip
        show Steps p.tables e below (s₁.setTop (mkF m 19 #[.val (.ref ar), .val (.ref br), .val (.ref cr), .val (.int (1 : Int32))] [(.int (lcmpW d1 (b1 - c1)))])) _
        refine XS.ifNo X0.here hx rfl (hb hby d2_19) rfl ((if0 _ _).trans (tlt ((lw_gt d1 (b1 - c1)).2 hc19_13)).2.2.2) ?_
        show Steps p.tables e below (s₁.setTop (mkF m 22 #[.val (.ref ar), .val (.ref br), .val (.ref cr), .val (.int (1 : Int32))] [])) _
        refine XS.iconst X0.here hx rfl (hb hby d2_22) ?_
        show Steps p.tables e below (s₁.setTop (mkF m 23 #[.val (.ref ar), .val (.ref br), .val (.ref cr), .val (.int (1 : Int32))] [(.int (0 : Int32))])) _
        exact retN X0 hx (t := .boolean) Bd.returns (by simp) (hb hby d2_23) hr
      · show Q2_2 Z ar br cr ka kb kc d0 d1 b0 b1 c0 c1 h0 n0 _ s₁.heap _
        rw [e0]
        exact ⟨congrArg (fun z => some (Value.int z)) hres14, N0, rfl⟩
    · skip
      obtain ⟨cl15, Ar15, q15, S15, M15, H15, G15⟩ := id I0
      obtain ⟨fs, hr, hrun, hended, hW, hsame⟩ := X0.leave (v := some (Value.int (1 : Int32))) (fun h => by rw [Bd.returns] at h; cases h)
      have hres16 : (1 : Int32) = (own_fits2 d0 d1 b0 b1 c0 c1) := by unfold own_fits2; simp only [if_neg hc19_6, if_neg hc19_13]
      refine ⟨_, _, pre12 _ ?_, hrun, hended, _, _, rfl, ?_, ⟨_, rfl⟩, hW, hsame.mono (by decide) (by decide)⟩
      · skip
        show Steps p.tables e below (s₁.setTop (mkF m 19 #[.val (.ref ar), .val (.ref br), .val (.ref cr), .val (.int (1 : Int32))] [(.int (lcmpW d1 (b1 - c1)))])) _
        refine XS.ifYes X0.here hx rfl (pc0 := 19) (pc' := 24) rfl (hb hby d2_19) rfl ((if0 _ _).trans (flt (mt (lw_gt d1 (b1 - c1)).1 hc19_13)).2.2.2) (by decide) (by decide) ?_
        show Steps p.tables e below (s₁.setTop (mkF m 24 #[.val (.ref ar), .val (.ref br), .val (.ref cr), .val (.int (1 : Int32))] [])) _
        refine XS.iinc X0.here hx rfl (hb hby d2_24) rfl (l' := #[.val (.ref ar), .val (.ref br), .val (.ref cr), .val (.int (2 : Int32))]) rfl ?_
        show Steps p.tables e below (s₁.setTop (mkF m 27 #[.val (.ref ar), .val (.ref br), .val (.ref cr), .val (.int (2 : Int32))] [])) _
        refine XS.goto X0.here hx rfl (pc0 := 27) (pc' := 2) rfl (hb hby d2_27) (by decide) (by decide) ?_
        show Steps p.tables e below (s₁.setTop (mkF m 2 #[.val (.ref ar), .val (.ref br), .val (.ref cr), .val (.int (2 : Int32))] [])) _
        refine XS.iloadN X0.here hx rfl (hb hby d2_2) rfl ?_
        show Steps p.tables e below (s₁.setTop (mkF m 3 #[.val (.ref ar), .val (.ref br), .val (.ref cr), .val (.int (2 : Int32))] [(.int (2 : Int32))])) _
        refine XS.aloadN X0.here hx rfl (hb hby d2_3) rfl rfl ?_
        show Steps p.tables e below (s₁.setTop (mkF m 4 #[.val (.ref ar), .val (.ref br), .val (.ref cr), .val (.int (2 : Int32))] [(.ref ar), (.int (2 : Int32))])) _
        refine X0.arraylength hx (heq_of e0 Ar15.1) (State.isArrayOf_alike hZ.alike Ar15.2.1) (g := (mkF m 4 #[.val (.ref ar), .val (.ref br), .val (.ref cr), .val (.int (2 : Int32))] [(.ref ar), (.int (2 : Int32))])) rfl rfl (hb hby d2_4) _ ?_
        rw [len_of S15 M15]
        show Steps p.tables e below (s₁.setTop (mkF m 5 #[.val (.ref ar), .val (.ref br), .val (.ref cr), .val (.int (2 : Int32))] [(.int (2 : Int32)), (.int (2 : Int32))])) _
        refine XS.icmpYes X0.here hx rfl (pc0 := 5) (pc' := 30) rfl (hb hby d2_5) rfl (flt (by decide)).2.1 (by decide) (by decide) ?_
        show Steps p.tables e below (s₁.setTop (mkF m 30 #[.val (.ref ar), .val (.ref br), .val (.ref cr), .val (.int (2 : Int32))] [])) _
        refine XS.iconst X0.here hx rfl (hb hby d2_30) ?_
        show Steps p.tables e below (s₁.setTop (mkF m 31 #[.val (.ref ar), .val (.ref br), .val (.ref cr), .val (.int (2 : Int32))] [(.int (1 : Int32))])) _
        exact retN X0 hx (t := .boolean) Bd.returns (by simp) (hb hby d2_31) hr
      · show Q2_2 Z ar br cr ka kb kc d0 d1 b0 b1 c0 c1 h0 n0 _ s₁.heap _
        rw [e0]
        exact ⟨congrArg (fun z => some (Value.int z)) hres16, N0, rfl⟩
theorem d3_0 : decode method_4_code 0 = .ok (.lload_n 0, 1) := by decide +kernel
theorem d3_1 : decode method_4_code 1 = .ok (.lload 4, 2) := by decide +kernel
theorem d3_3 : decode method_4_code 3 = .ok (.ladd, 1) := by decide +kernel
theorem d3_4 : decode method_4_code 4 = .ok (.lstore 6, 2) := by decide +kernel
theorem d3_6 : decode method_4_code 6 = .ok (.lload 6, 2) := by decide +kernel
theorem d3_8 : decode method_4_code 8 = .ok (.lconst 0, 1) := by decide +kernel
theorem d3_9 : decode method_4_code 9 = .ok (.lcmp, 1) := by decide +kernel
theorem d3_10 : decode method_4_code 10 = .ok (.ifCond .lt 14, 3) := by decide +kernel
theorem d3_13 : decode method_4_code 13 = .ok (.lload 6, 2) := by decide +kernel
theorem d3_15 : decode method_4_code 15 = .ok (.lload_n 2, 1) := by decide +kernel
theorem d3_16 : decode method_4_code 16 = .ok (.lcmp, 1) := by decide +kernel
theorem d3_17 : decode method_4_code 17 = .ok (.ifCond .gt 7, 3) := by decide +kernel
theorem d3_20 : decode method_4_code 20 = .ok (.iconst 1, 1) := by decide +kernel
theorem d3_21 : decode method_4_code 21 = .ok (.goto 4, 3) := by decide +kernel
theorem d3_24 : decode method_4_code 24 = .ok (.iconst 0, 1) := by decide +kernel
theorem d3_25 : decode method_4_code 25 = .ok (.ireturn, 1) := by decide +kernel
theorem pn_3 : plainName "com/example/evenkeel/evenkeel/cli/AuditFitsPinLaw" = true := by first | (simp [plainName, overriddenIn]; done) | decide +kernel
theorem ef_3 (m : MethodId) (x0 : Int64) (x1 : Int64) (x2 : Int64) : entryFrame m #[(.long x0), (.long x1), (.long x2)] 8 = mkF m 0 #[.val (.long x0), .second, .val (.long x1), .second, .val (.long x2), .second, .unset, .unset] [] := by first | (simp [entryFrame, mkF, argsToLocals, Value.category]; done) | rfl
def Q3 (Z : State) (d : Int64) (b : Int64) (cc : Int64) (h0 : Heap) (n0 : Nat) (v : Option Value) (h : Heap) (L : List Loc) : Prop := v = some (.int (own_one d b cc)) ∧ Fr n0 L ∧ h = h0
set_option maxRecDepth 65536 in
set_option maxHeartbeats 40000000 in
theorem rm3 (l : Launch) (Z : State) (a0 : Array Value) (hw : ∀ d ∈ tables_1, d.before a0 Z = true) (ws : List Jvm.Cond) (d : Int64) (b : Int64) (cc : Int64) (h0 : Heap) (n0 : Nat) (Z0 : n0 ≤ h0.size)  :
    MetFree l (⟨"com/example/evenkeel/evenkeel/cli/AuditFitsPinLaw", "fitsOne", "(JJJ)Z"⟩ : MethodName) (head1 (Jvm.Cond.code (⟨"com/example/evenkeel/evenkeel/cli/AuditFitsPinLaw", "fitsOne", "(JJJ)Z"⟩ : MethodName) method_4_code 8 (some .boolean) :: ws) ({ frames := 0, cells := 0, slots := 0, locals := 0 } : Room)) (fun a U => a = #[(.long d), (.long b), (.long cc)] ∧ Z.Warmed39 U.vm ∧ U.heap = h0) (fun _ _ _ _ _ => True) (fun _ U o U' => ∃ v L, o = .returned v ∧ Q3 Z d b cc h0 n0 v U'.heap L ∧ FrameEnd U o U' L ({ frames := 0, cells := 0, slots := 0, locals := 0 } : Room).cells ({ frames := 0, cells := 0, slots := 0, locals := 0 } : Room).slots) := by
  refine MetFree.of_bodySF (plainFor_of_name pn_3) hisR ?_
  intro p e s m args below meth c s₁ Bd hml0 hP hK
  obtain ⟨rfl, hZ, hh⟩ := hP
  have hx := Bd.exec
  have hby := Bd.bytes
  have hml : c.maxLocals = 8 := hml0
  have hown : s.vm.findClass "com/example/evenkeel/evenkeel/cli/AuditFitsPinLaw" = some m.cls := findClass_of_methodNamed Bd.named
  have hnm := (name_of_methodNamed Bd.named Bd.method).1
  have X0 : Stand p l e ({ frames := 0, cells := 0, slots := 0, locals := 0 } : Room) s m #[(.long d), (.long b), (.long cc)] below meth c s₁ [] 0 0 := Stand.of_body Bd
  have e0 : s₁.heap = h0 := by rw [← hh, Bd.state]; rfl
  have N0 := Fr.nil n0
  have K0 : Keep h0 h0 [] := Keep.refl h0 _
  have pre0 : ∀ tq, Steps p.tables e below (s₁.setTop (mkF m 0 #[.val (.long d), .second, .val (.long b), .second, .val (.long cc), .second, .unset, .unset] [])) tq → Steps p.tables e below (s₁.setTop (entryFrame m #[(.long d), (.long b), (.long cc)] 8)) tq := fun tq kq => castTop (ef_3 m d b cc) kq
  obtain ⟨v4, hv4⟩ : ∃ z_q : Int64, z_q = (d + cc) := ⟨_, rfl⟩
  obtain ⟨m25, hm25⟩ : ∃ z_q : Int32, z_q = (if v4 < (0 : Int64) then (0 : Int32) else (if b < v4 then (0 : Int32) else (1 : Int32))) := ⟨_, rfl⟩
  have pre3 : ∀ tq, Steps p.tables e below (s₁.setTop (mkF m 25 #[.val (.long d), .second, .val (.long b), .second, .val (.long cc), .second, .val (.long v4), .second] [(.int m25)])) tq → Steps p.tables e below (s₁.setTop (entryFrame m #[(.long d), (.long b), (.long cc)] 8)) tq := by
    intro tq kt
    refine pre0 _ ?_
    show Steps p.tables e below (s₁.setTop (mkF m 0 #[.val (.long d), .second, .val (.long b), .second, .val (.long cc), .second, .unset, .unset] [])) _
    refine XS.lloadN X0.here hx rfl (hb hby d3_0) rfl ?_
    show Steps p.tables e below (s₁.setTop (mkF m 1 #[.val (.long d), .second, .val (.long b), .second, .val (.long cc), .second, .unset, .unset] [(.long d)])) _
    refine XS.lload X0.here hx rfl (hb hby d3_1) rfl ?_
    show Steps p.tables e below (s₁.setTop (mkF m 3 #[.val (.long d), .second, .val (.long b), .second, .val (.long cc), .second, .unset, .unset] [(.long cc), (.long d)])) _
    refine XS.ladd X0.here hx rfl (hb hby d3_3) rfl ?_
    show Steps p.tables e below (s₁.setTop (mkF m 4 #[.val (.long d), .second, .val (.long b), .second, .val (.long cc), .second, .unset, .unset] [(.long (d + cc))])) _
    refine XS.lstore X0.here hx rfl (hb hby d3_4) rfl (l' := #[.val (.long d), .second, .val (.long b), .second, .val (.long cc), .second, .val (.long v4), .second]) (by rw [hv4]; rfl) ?_
    show Steps p.tables e below (s₁.setTop (mkF m 6 #[.val (.long d), .second, .val (.long b), .second, .val (.long cc), .second, .val (.long v4), .second] [])) _
    refine XS.lload X0.here hx rfl (hb hby d3_6) rfl ?_
    show Steps p.tables e below (s₁.setTop (mkF m 8 #[.val (.long d), .second, .val (.long b), .second, .val (.long cc), .second, .val (.long v4), .second] [(.long v4)])) _
    refine XS.lconst X0.here hx rfl (hb hby d3_8) ?_
    show Steps p.tables e below (s₁.setTop (mkF m 9 #[.val (.long d), .second, .val (.long b), .second, .val (.long cc), .second, .val (.long v4), .second] [(.long (0 : Int64)), (.long v4)])) _
    refine XS.lcmp X0.here hx rfl (hb hby d3_9) rfl ?_
    by_cases d1 : v4 < (0 : Int64)
    · skip
      show Steps p.tables e below (s₁.setTop (mkF m 10 #[.val (.long d), .second, .val (.long b), .second, .val (.long cc), .second, .val (.long v4), .second] [(.int (lcmpW v4 (0 : Int64)))])) _
      refine XS.ifYes X0.here hx rfl (pc0 := 10) (pc' := 24) rfl (hb hby d3_10) rfl ((if0 _ _).trans (tlt ((lw_lt v4 (0 : Int64)).2 d1)).1) (by decide) (by decide) ?_
      show Steps p.tables e below (s₁.setTop (mkF m 24 #[.val (.long d), .second, .val (.long b), .second, .val (.long cc), .second, .val (.long v4), .second] [])) _
      refine XS.iconst X0.here hx rfl (hb hby d3_24) ?_
      show Steps p.tables e below (s₁.setTop (mkF m 25 #[.val (.long d), .second, .val (.long b), .second, .val (.long cc), .second, .val (.long v4), .second] [(.int (0 : Int32))])) _
      exact castTop (by simp only [hm25, if_pos d1]) kt
    · skip
      show Steps p.tables e below (s₁.setTop (mkF m 10 #[.val (.long d), .second, .val (.long b), .second, .val (.long cc), .second, .val (.long v4), .second] [(.int (lcmpW v4 (0 : Int64)))])) _
      refine XS.ifNo X0.here hx rfl (hb hby d3_10) rfl ((if0 _ _).trans (flt (mt (lw_lt v4 (0 : Int64)).1 d1)).1) ?_
      show Steps p.tables e below (s₁.setTop (mkF m 13 #[.val (.long d), .second, .val (.long b), .second, .val (.long cc), .second, .val (.long v4), .second] [])) _
      refine XS.lload X0.here hx rfl (hb hby d3_13) rfl ?_
      show Steps p.tables e below (s₁.setTop (mkF m 15 #[.val (.long d), .second, .val (.long b), .second, .val (.long cc), .second, .val (.long v4), .second] [(.long v4)])) _
      refine XS.lloadN X0.here hx rfl (hb hby d3_15) rfl ?_
      show Steps p.tables e below (s₁.setTop (mkF m 16 #[.val (.long d), .second, .val (.long b), .second, .val (.long cc), .second, .val (.long v4), .second] [(.long b), (.long v4)])) _
      refine XS.lcmp X0.here hx rfl (hb hby d3_16) rfl ?_
      by_cases d2 : b < v4
      · skip
        show Steps p.tables e below (s₁.setTop (mkF m 17 #[.val (.long d), .second, .val (.long b), .second, .val (.long cc), .second, .val (.long v4), .second] [(.int (lcmpW v4 b))])) _
        refine XS.ifYes X0.here hx rfl (pc0 := 17) (pc' := 24) rfl (hb hby d3_17) rfl ((if0 _ _).trans (tlt ((lw_gt v4 b).2 d2)).2.2.1) (by decide) (by decide) ?_
        show Steps p.tables e below (s₁.setTop (mkF m 24 #[.val (.long d), .second, .val (.long b), .second, .val (.long cc), .second, .val (.long v4), .second] [])) _
        refine XS.iconst X0.here hx rfl (hb hby d3_24) ?_
        show Steps p.tables e below (s₁.setTop (mkF m 25 #[.val (.long d), .second, .val (.long b), .second, .val (.long cc), .second, .val (.long v4), .second] [(.int (0 : Int32))])) _
        exact castTop (by simp only [hm25, if_neg d1, if_pos d2]) kt
      · skip
        show Steps p.tables e below (s₁.setTop (mkF m 17 #[.val (.long d), .second, .val (.long b), .second, .val (.long cc), .second, .val (.long v4), .second] [(.int (lcmpW v4 b))])) _
        refine XS.ifNo X0.here hx rfl (hb hby d3_17) rfl ((if0 _ _).trans (flt (mt (lw_gt v4 b).1 d2)).2.2.1) ?_
        show Steps p.tables e below (s₁.setTop (mkF m 20 #[.val (.long d), .second, .val (.long b), .second, .val (.long cc), .second, .val (.long v4), .second] [])) _
        refine XS.iconst X0.here hx rfl (hb hby d3_20) ?_
        show Steps p.tables e below (s₁.setTop (mkF m 21 #[.val (.long d), .second, .val (.long b), .second, .val (.long cc), .second, .val (.long v4), .second] [(.int (1 : Int32))])) _
        refine XS.goto X0.here hx rfl (pc0 := 21) (pc' := 25) rfl (hb hby d3_21) (by decide) (by decide) ?_
        show Steps p.tables e below (s₁.setTop (mkF m 25 #[.val (.long d), .second, .val (.long b), .second, .val (.long cc), .second, .val (.long v4), .second] [(.int (1 : Int32))])) _
        exact castTop (by simp only [hm25, if_neg d1, if_neg d2]) kt
  obtain ⟨fs, hr, hrun, hended, hW, hsame⟩ := X0.leave (v := some (Value.int (nar .boolean m25))) (fun h => by rw [Bd.returns] at h; cases h)
  have hres4 : (nar .boolean m25) = (own_one d b cc) := by subst_vars; unfold own_one; split <;> (try split) <;> rfl
  refine ⟨_, _, pre3 _ ?_, hrun, hended, _, _, rfl, ?_, ⟨_, rfl⟩, hW, hsame.mono (by decide) (by decide)⟩
  · skip
    show Steps p.tables e below (s₁.setTop (mkF m 25 #[.val (.long d), .second, .val (.long b), .second, .val (.long cc), .second, .val (.long v4), .second] [(.int m25)])) _
    exact retN X0 hx (t := .boolean) Bd.returns (by simp) (hb hby d3_25) hr
  · show Q3 Z d b cc h0 n0 _ s₁.heap _
    rw [e0]
    exact ⟨congrArg (fun z => some (Value.int z)) hres4, N0, rfl⟩
theorem pn_0 : plainName "com/example/evenkeel/evenkeel/cli/AuditFitsPinLaw" = true := by first | (simp [plainName, overriddenIn]; done) | decide +kernel
theorem pd_0 : parseMethodDescriptor "(IJJ)[J" = some ⟨[.int, .long, .long], some (.array .long)⟩ := by decide +kernel
theorem pd_1 : parseMethodDescriptor "([J[J[J)Z" = some ⟨[(.array .long), (.array .long), (.array .long)], some .boolean⟩ := by decide +kernel
theorem pd_2 : parseMethodDescriptor "(JJJ)Z" = some ⟨[.long, .long, .long], some .boolean⟩ := by decide +kernel
theorem ef_0 (m : MethodId) (x0 : Int64) (x1 : Int64) (x2 : Int64) (x3 : Int64) (x4 : Int64) (x5 : Int64) : entryFrame m #[(.long x0), (.long x1), (.long x2), (.long x3), (.long x4), (.long x5)] maxLocals = mkF m 0 #[.val (.long x0), .second, .val (.long x1), .second, .val (.long x2), .second, .val (.long x3), .second, .val (.long x4), .second, .val (.long x5), .second, .unset, .unset, .unset, .unset, .unset, .unset, .unset, .unset, .unset, .unset, .unset, .unset, .unset, .unset, .unset, .unset, .unset, .unset] [] := by first | (simp [entryFrame, mkF, argsToLocals, Value.category, maxLocals]; done) | rfl
theorem own_split_0_14 (d0 : Int64) (o0 : Int64) (u0 : Int64) (d1 : Int64) (o1 : Int64) (u1 : Int64) (v12 : Int32) (hv12 : v12 = ((((u0.toUInt64 >>> ((63 : Int32) &&& 0x3f).toInt64.toUInt64).toInt64) + ((u1.toUInt64 >>> ((63 : Int32) &&& 0x3f).toInt64.toUInt64).toInt64)).toInt32)) : v12 = (0 : Int32) ∨ v12 = (1 : Int32) ∨ v12 = (2 : Int32) := by rw [hv12]; exact own_n u0 u1
theorem own_leaf_0_159_s1t (d0 : Int64) (o0 : Int64) (u0 : Int64) (d1 : Int64) (o1 : Int64) (u1 : Int64) (hv12 : (1 : Int32) = ((((u0.toUInt64 >>> ((63 : Int32) &&& 0x3f).toInt64.toUInt64).toInt64) + ((u1.toUInt64 >>> ((63 : Int32) &&& 0x3f).toInt64.toUInt64).toInt64)).toInt32)) (v19 : Int64) (hv19 : v19 = (d0 &&& (9223372036854775807 : Int64))) (v26 : Int64) (hv26 : v26 = (o0 &&& (9223372036854775807 : Int64))) (v34 : Int64) (hv34 : v34 = (u0 &&& (9223372036854775807 : Int64))) (v42 : Int64) (hv42 : v42 = (d1 &&& (9223372036854775807 : Int64))) (v50 : Int64) (hv50 : v50 = (o1 &&& (9223372036854775807 : Int64))) (v58 : Int64) (hv58 : v58 = (u1 &&& (9223372036854775807 : Int64))) (r99 : Int32) (hr99 : r99 = (own_fits1 v19 v26 v34)) (r116 : Int32) (hr116 : r116 = (own_one v19 v26 v34)) (hc119_43 : r116 = (0 : Int32)) (m159 : Int32) (hm159 : m159 = (if r99 = (0 : Int32) then (1 : Int32) else (0 : Int32))) : (nar .boolean m159) = (1 : Int32) := by
  clear hv12
  have p0 := (own_mask63 d0).1
  have p1 := (own_mask63 o0).1
  have p2 := (own_mask63 u0).1
  have p3 := (own_mask63 d1).1
  have p4 := (own_mask63 o1).1
  have p5 := (own_mask63 u1).1
  have e1 := own_eq _ _ _ p0 p1 p2
  have e2 := own_eq _ _ _ p3 p4 p5
  rw [← hv19, ← hv26, ← hv34] at e1
  rw [← hv42, ← hv50, ← hv58] at e2
  clear hv19 hv26 hv34 hv42 hv50 hv58 p0 p1 p2 p3 p4 p5
  rw [e1] at hr116
  rcases own_f01 v19 v26 v34 with h | h <;> simp_all [nar]
theorem own_leaf_0_159_s1f (d0 : Int64) (o0 : Int64) (u0 : Int64) (d1 : Int64) (o1 : Int64) (u1 : Int64) (hv12 : (1 : Int32) = ((((u0.toUInt64 >>> ((63 : Int32) &&& 0x3f).toInt64.toUInt64).toInt64) + ((u1.toUInt64 >>> ((63 : Int32) &&& 0x3f).toInt64.toUInt64).toInt64)).toInt32)) (v19 : Int64) (hv19 : v19 = (d0 &&& (9223372036854775807 : Int64))) (v26 : Int64) (hv26 : v26 = (o0 &&& (9223372036854775807 : Int64))) (v34 : Int64) (hv34 : v34 = (u0 &&& (9223372036854775807 : Int64))) (v42 : Int64) (hv42 : v42 = (d1 &&& (9223372036854775807 : Int64))) (v50 : Int64) (hv50 : v50 = (o1 &&& (9223372036854775807 : Int64))) (v58 : Int64) (hv58 : v58 = (u1 &&& (9223372036854775807 : Int64))) (r99 : Int32) (hr99 : r99 = (own_fits1 v19 v26 v34)) (r116 : Int32) (hr116 : r116 = (own_one v19 v26 v34)) (hc119_43 : ¬ (r116 = (0 : Int32))) (m159 : Int32) (hm159 : m159 = (if r99 = (1 : Int32) then (1 : Int32) else (0 : Int32))) : (nar .boolean m159) = (1 : Int32) := by
  clear hv12
  have p0 := (own_mask63 d0).1
  have p1 := (own_mask63 o0).1
  have p2 := (own_mask63 u0).1
  have p3 := (own_mask63 d1).1
  have p4 := (own_mask63 o1).1
  have p5 := (own_mask63 u1).1
  have e1 := own_eq _ _ _ p0 p1 p2
  have e2 := own_eq _ _ _ p3 p4 p5
  rw [← hv19, ← hv26, ← hv34] at e1
  rw [← hv42, ← hv50, ← hv58] at e2
  clear hv19 hv26 hv34 hv42 hv50 hv58 p0 p1 p2 p3 p4 p5
  rw [e1] at hr116
  rcases own_f01 v19 v26 v34 with h | h <;> simp_all [nar]
theorem own_leaf_0_159_s2t (d0 : Int64) (o0 : Int64) (u0 : Int64) (d1 : Int64) (o1 : Int64) (u1 : Int64) (hv12 : (2 : Int32) = ((((u0.toUInt64 >>> ((63 : Int32) &&& 0x3f).toInt64.toUInt64).toInt64) + ((u1.toUInt64 >>> ((63 : Int32) &&& 0x3f).toInt64.toUInt64).toInt64)).toInt32)) (v19 : Int64) (hv19 : v19 = (d0 &&& (9223372036854775807 : Int64))) (v26 : Int64) (hv26 : v26 = (o0 &&& (9223372036854775807 : Int64))) (v34 : Int64) (hv34 : v34 = (u0 &&& (9223372036854775807 : Int64))) (v42 : Int64) (hv42 : v42 = (d1 &&& (9223372036854775807 : Int64))) (v50 : Int64) (hv50 : v50 = (o1 &&& (9223372036854775807 : Int64))) (v58 : Int64) (hv58 : v58 = (u1 &&& (9223372036854775807 : Int64))) (r99 : Int32) (hr99 : r99 = (own_fits2 v19 v42 v26 v50 v34 v58)) (r116 : Int32) (hr116 : r116 = (own_one v19 v26 v34)) (hc119_71 : r116 = (0 : Int32)) (m159 : Int32) (hm159 : m159 = (if r99 = (0 : Int32) then (1 : Int32) else (0 : Int32))) : (nar .boolean m159) = (1 : Int32) := by
  clear hv12
  have p0 := (own_mask63 d0).1
  have p1 := (own_mask63 o0).1
  have p2 := (own_mask63 u0).1
  have p3 := (own_mask63 d1).1
  have p4 := (own_mask63 o1).1
  have p5 := (own_mask63 u1).1
  have e1 := own_eq _ _ _ p0 p1 p2
  have e2 := own_eq _ _ _ p3 p4 p5
  rw [← hv19, ← hv26, ← hv34] at e1
  rw [← hv42, ← hv50, ← hv58] at e2
  clear hv19 hv26 hv34 hv42 hv50 hv58 p0 p1 p2 p3 p4 p5
  rw [e1] at hr116
  try rw [e2] at hr134
  rw [own_eq2] at hr99
  rcases own_f01 v19 v26 v34 with h | h <;> rcases own_f01 v42 v50 v58 with g | g <;> simp_all [nar]
theorem own_leaf_0_159_s2f (d0 : Int64) (o0 : Int64) (u0 : Int64) (d1 : Int64) (o1 : Int64) (u1 : Int64) (hv12 : (2 : Int32) = ((((u0.toUInt64 >>> ((63 : Int32) &&& 0x3f).toInt64.toUInt64).toInt64) + ((u1.toUInt64 >>> ((63 : Int32) &&& 0x3f).toInt64.toUInt64).toInt64)).toInt32)) (v19 : Int64) (hv19 : v19 = (d0 &&& (9223372036854775807 : Int64))) (v26 : Int64) (hv26 : v26 = (o0 &&& (9223372036854775807 : Int64))) (v34 : Int64) (hv34 : v34 = (u0 &&& (9223372036854775807 : Int64))) (v42 : Int64) (hv42 : v42 = (d1 &&& (9223372036854775807 : Int64))) (v50 : Int64) (hv50 : v50 = (o1 &&& (9223372036854775807 : Int64))) (v58 : Int64) (hv58 : v58 = (u1 &&& (9223372036854775807 : Int64))) (r99 : Int32) (hr99 : r99 = (own_fits2 v19 v42 v26 v50 v34 v58)) (r116 : Int32) (hr116 : r116 = (own_one v19 v26 v34)) (hc119_71 : ¬ (r116 = (0 : Int32))) (r134 : Int32) (hr134 : r134 = (own_one v42 v50 v58)) (m145 : Int32) (hm145 : m145 = (if r134 = (0 : Int32) then (0 : Int32) else (1 : Int32))) (m159 : Int32) (hm159 : m159 = (if r99 = m145 then (1 : Int32) else (0 : Int32))) : (nar .boolean m159) = (1 : Int32) := by
  clear hv12
  have p0 := (own_mask63 d0).1
  have p1 := (own_mask63 o0).1
  have p2 := (own_mask63 u0).1
  have p3 := (own_mask63 d1).1
  have p4 := (own_mask63 o1).1
  have p5 := (own_mask63 u1).1
  have e1 := own_eq _ _ _ p0 p1 p2
  have e2 := own_eq _ _ _ p3 p4 p5
  rw [← hv19, ← hv26, ← hv34] at e1
  rw [← hv42, ← hv50, ← hv58] at e2
  clear hv19 hv26 hv34 hv42 hv50 hv58 p0 p1 p2 p3 p4 p5
  rw [e1] at hr116
  try rw [e2] at hr134
  rw [own_eq2] at hr99
  rcases own_f01 v19 v26 v34 with h | h <;> rcases own_f01 v42 v50 v58 with g | g <;> simp_all [nar]
def Q0 (Z : State) (d0 : Int64) (o0 : Int64) (u0 : Int64) (d1 : Int64) (o1 : Int64) (u1 : Int64) (h0 : Heap) (n0 : Nat) (v : Option Value) (h : Heap) (L : List Loc) : Prop := v = some (.int (1 : Int32)) ∧ Fr n0 L
set_option maxRecDepth 65536 in
set_option maxHeartbeats 40000000 in
theorem rm0 (l : Launch) (Z : State) (a0 : Array Value) (hw : ∀ d ∈ tables_1, d.before a0 Z = true) (ws : List Jvm.Cond) (d0 : Int64) (o0 : Int64) (u0 : Int64) (d1 : Int64) (o1 : Int64) (u1 : Int64) (h0 : Heap) (n0 : Nat) (Z0 : n0 ≤ h0.size)  :
    MetFree l x (head1 (Jvm.Cond.code x code maxLocals ret :: ws) room_1) (fun a U => a = #[(.long d0), (.long o0), (.long u0), (.long d1), (.long o1), (.long u1)] ∧ Z.Warmed39 U.vm ∧ U.heap = h0) (fun _ _ _ _ _ => True) (fun _ U o U' => ∃ v L, o = .returned v ∧ Q0 Z d0 o0 u0 d1 o1 u1 h0 n0 v U'.heap L ∧ FrameEnd U o U' L room_1.cells room_1.slots) := by
  refine MetFree.of_bodySF (plainFor_of_name pn_0) hisR ?_
  intro p e s m args below meth c s₁ Bd hml0 hP hK
  obtain ⟨rfl, hZ, hh⟩ := hP
  have hx := Bd.exec
  have hby := Bd.bytes
  have hml : c.maxLocals = 30 := hml0
  have hown : s.vm.findClass "com/example/evenkeel/evenkeel/cli/AuditFitsPinLaw" = some m.cls := findClass_of_methodNamed Bd.named
  have hnm := (name_of_methodNamed Bd.named Bd.method).1
  have X0 : Stand p l e room_1 s m #[(.long d0), (.long o0), (.long u0), (.long d1), (.long o1), (.long u1)] below meth c s₁ [] 0 0 := Stand.of_body Bd
  have e0 : s₁.heap = h0 := by rw [← hh, Bd.state]; rfl
  have N0 := Fr.nil n0
  have K0 : Keep h0 h0 [] := Keep.refl h0 _
  have pre0 : ∀ tq, Steps p.tables e below (s₁.setTop (mkF m 0 #[.val (.long d0), .second, .val (.long o0), .second, .val (.long u0), .second, .val (.long d1), .second, .val (.long o1), .second, .val (.long u1), .second, .unset, .unset, .unset, .unset, .unset, .unset, .unset, .unset, .unset, .unset, .unset, .unset, .unset, .unset, .unset, .unset, .unset, .unset] [])) tq → Steps p.tables e below (s₁.setTop (entryFrame m #[(.long d0), (.long o0), (.long u0), (.long d1), (.long o1), (.long u1)] maxLocals)) tq := fun tq kq => castTop (ef_0 m d0 o0 u0 d1 o1 u1) kq
  obtain ⟨v12, hv12⟩ : ∃ z_q : Int32, z_q = ((((u0.toUInt64 >>> ((63 : Int32) &&& 0x3f).toInt64.toUInt64).toInt64) + ((u1.toUInt64 >>> ((63 : Int32) &&& 0x3f).toInt64.toUInt64).toInt64)).toInt32) := ⟨_, rfl⟩
  have pre1 : ∀ tq, Steps p.tables e below (s₁.setTop (mkF m 14 #[.val (.long d0), .second, .val (.long o0), .second, .val (.long u0), .second, .val (.long d1), .second, .val (.long o1), .second, .val (.long u1), .second, .val (.int v12), .unset, .unset, .unset, .unset, .unset, .unset, .unset, .unset, .unset, .unset, .unset, .unset, .unset, .unset, .unset, .unset, .unset] [])) tq → Steps p.tables e below (s₁.setTop (entryFrame m #[(.long d0), (.long o0), (.long u0), (.long d1), (.long o1), (.long u1)] maxLocals)) tq := by
    intro tq kt
    refine pre0 _ ?_
    show Steps p.tables e below (s₁.setTop (mkF m 0 #[.val (.long d0), .second, .val (.long o0), .second, .val (.long u0), .second, .val (.long d1), .second, .val (.long o1), .second, .val (.long u1), .second, .unset, .unset, .unset, .unset, .unset, .unset, .unset, .unset, .unset, .unset, .unset, .unset, .unset, .unset, .unset, .unset, .unset, .unset] [])) _
    refine XS.lload X0.here hx rfl (hb hby at_0) rfl ?_
    show Steps p.tables e below (s₁.setTop (mkF m 2 #[.val (.long d0), .second, .val (.long o0), .second, .val (.long u0), .second, .val (.long d1), .second, .val (.long o1), .second, .val (.long u1), .second, .unset, .unset, .unset, .unset, .unset, .unset, .unset, .unset, .unset, .unset, .unset, .unset, .unset, .unset, .unset, .unset, .unset, .unset] [(.long u0)])) _
    refine XS.bipush X0.here hx rfl (hb hby at_2) ?_
    show Steps p.tables e below (s₁.setTop (mkF m 4 #[.val (.long d0), .second, .val (.long o0), .second, .val (.long u0), .second, .val (.long d1), .second, .val (.long o1), .second, .val (.long u1), .second, .unset, .unset, .unset, .unset, .unset, .unset, .unset, .unset, .unset, .unset, .unset, .unset, .unset, .unset, .unset, .unset, .unset, .unset] [(.int (63 : Int32)), (.long u0)])) _
    refine XS.lushr X0.here hx rfl (hb hby at_4) rfl ?_
    show Steps p.tables e below (s₁.setTop (mkF m 5 #[.val (.long d0), .second, .val (.long o0), .second, .val (.long u0), .second, .val (.long d1), .second, .val (.long o1), .second, .val (.long u1), .second, .unset, .unset, .unset, .unset, .unset, .unset, .unset, .unset, .unset, .unset, .unset, .unset, .unset, .unset, .unset, .unset, .unset, .unset] [(.long ((u0.toUInt64 >>> ((63 : Int32) &&& 0x3f).toInt64.toUInt64).toInt64))])) _
    refine XS.lload X0.here hx rfl (hb hby at_5) rfl ?_
    show Steps p.tables e below (s₁.setTop (mkF m 7 #[.val (.long d0), .second, .val (.long o0), .second, .val (.long u0), .second, .val (.long d1), .second, .val (.long o1), .second, .val (.long u1), .second, .unset, .unset, .unset, .unset, .unset, .unset, .unset, .unset, .unset, .unset, .unset, .unset, .unset, .unset, .unset, .unset, .unset, .unset] [(.long u1), (.long ((u0.toUInt64 >>> ((63 : Int32) &&& 0x3f).toInt64.toUInt64).toInt64))])) _
    refine XS.bipush X0.here hx rfl (hb hby at_7) ?_
    show Steps p.tables e below (s₁.setTop (mkF m 9 #[.val (.long d0), .second, .val (.long o0), .second, .val (.long u0), .second, .val (.long d1), .second, .val (.long o1), .second, .val (.long u1), .second, .unset, .unset, .unset, .unset, .unset, .unset, .unset, .unset, .unset, .unset, .unset, .unset, .unset, .unset, .unset, .unset, .unset, .unset] [(.int (63 : Int32)), (.long u1), (.long ((u0.toUInt64 >>> ((63 : Int32) &&& 0x3f).toInt64.toUInt64).toInt64))])) _
    refine XS.lushr X0.here hx rfl (hb hby at_9) rfl ?_
    show Steps p.tables e below (s₁.setTop (mkF m 10 #[.val (.long d0), .second, .val (.long o0), .second, .val (.long u0), .second, .val (.long d1), .second, .val (.long o1), .second, .val (.long u1), .second, .unset, .unset, .unset, .unset, .unset, .unset, .unset, .unset, .unset, .unset, .unset, .unset, .unset, .unset, .unset, .unset, .unset, .unset] [(.long ((u1.toUInt64 >>> ((63 : Int32) &&& 0x3f).toInt64.toUInt64).toInt64)), (.long ((u0.toUInt64 >>> ((63 : Int32) &&& 0x3f).toInt64.toUInt64).toInt64))])) _
    refine XS.ladd X0.here hx rfl (hb hby at_10) rfl ?_
    show Steps p.tables e below (s₁.setTop (mkF m 11 #[.val (.long d0), .second, .val (.long o0), .second, .val (.long u0), .second, .val (.long d1), .second, .val (.long o1), .second, .val (.long u1), .second, .unset, .unset, .unset, .unset, .unset, .unset, .unset, .unset, .unset, .unset, .unset, .unset, .unset, .unset, .unset, .unset, .unset, .unset] [(.long (((u0.toUInt64 >>> ((63 : Int32) &&& 0x3f).toInt64.toUInt64).toInt64) + ((u1.toUInt64 >>> ((63 : Int32) &&& 0x3f).toInt64.toUInt64).toInt64)))])) _
    refine XS.l2i X0.here hx rfl (hb hby at_11) rfl ?_
    show Steps p.tables e below (s₁.setTop (mkF m 12 #[.val (.long d0), .second, .val (.long o0), .second, .val (.long u0), .second, .val (.long d1), .second, .val (.long o1), .second, .val (.long u1), .second, .unset, .unset, .unset, .unset, .unset, .unset, .unset, .unset, .unset, .unset, .unset, .unset, .unset, .unset, .unset, .unset, .unset, .unset] [(.int ((((u0.toUInt64 >>> ((63 : Int32) &&& 0x3f).toInt64.toUInt64).toInt64) + ((u1.toUInt64 >>> ((63 : Int32) &&& 0x3f).toInt64.toUInt64).toInt64)).toInt32))])) _
    refine XS.istore X0.here hx rfl (hb hby at_12) rfl (l' := #[.val (.long d0), .second, .val (.long o0), .second, .val (.long u0), .second, .val (.long d1), .second, .val (.long o1), .second, .val (.long u1), .second, .val (.int v12), .unset, .unset, .unset, .unset, .unset, .unset, .unset, .unset, .unset, .unset, .unset, .unset, .unset, .unset, .unset, .unset, .unset]) (by rw [hv12]; rfl) ?_
    show Steps p.tables e below (s₁.setTop (mkF m 14 #[.val (.long d0), .second, .val (.long o0), .second, .val (.long u0), .second, .val (.long d1), .second, .val (.long o1), .second, .val (.long u1), .second, .val (.int v12), .unset, .unset, .unset, .unset, .unset, .unset, .unset, .unset, .unset, .unset, .unset, .unset, .unset, .unset, .unset, .unset, .unset] [])) _
    exact kt
  rcases (own_split_0_14 d0 o0 u0 d1 o1 u1 v12 hv12) with hs2 | hs2 | hs2
  · subst hs2
    obtain ⟨v19, hv19⟩ : ∃ z_q : Int64, z_q = (d0 &&& (9223372036854775807 : Int64)) := ⟨_, rfl⟩
    obtain ⟨v26, hv26⟩ : ∃ z_q : Int64, z_q = (o0 &&& (9223372036854775807 : Int64)) := ⟨_, rfl⟩
    obtain ⟨v34, hv34⟩ : ∃ z_q : Int64, z_q = (u0 &&& (9223372036854775807 : Int64)) := ⟨_, rfl⟩
    obtain ⟨v42, hv42⟩ : ∃ z_q : Int64, z_q = (d1 &&& (9223372036854775807 : Int64)) := ⟨_, rfl⟩
    obtain ⟨v50, hv50⟩ : ∃ z_q : Int64, z_q = (o1 &&& (9223372036854775807 : Int64)) := ⟨_, rfl⟩
    obtain ⟨v58, hv58⟩ : ∃ z_q : Int64, z_q = (u1 &&& (9223372036854775807 : Int64)) := ⟨_, rfl⟩
    obtain ⟨_, _, ⟨T3, L3, k3, n3⟩, -, X3, ⟨Lc3, hQ3, l3, y3, z3⟩, st3⟩ := Jvm.LawKit.callS X0 hx (y := (⟨"com/example/evenkeel/evenkeel/cli/AuditFitsPinLaw", "make", "(IJJ)[J"⟩ : MethodName)) hown (mvT hZ (hw _ (List.mem_of_getElem? (i := 1) rfl))) (mvT hZ (hw _ (List.mem_of_getElem? (i := 2) rfl))) (mvT hZ (hw _ (List.mem_of_getElem? (i := 3) rfl))) (mvT hZ (hw _ (List.mem_of_getElem? (i := 4) rfl))) (by decide) (backOf (W := 0) (rm1 l Z a0 hw [] (0 : Int32) v19 v42 h0 n0 Z0 rfl) hZ (hw _ (List.mem_of_getElem? (i := 4) rfl)) (hw _ (List.mem_of_getElem? (i := 3) rfl)) (by decide) (by decide)) (g := (mkF m 66 #[.val (.long d0), .second, .val (.long o0), .second, .val (.long u0), .second, .val (.long d1), .second, .val (.long o1), .second, .val (.long u1), .second, .val (.int (0 : Int32)), .val (.long v19), .second, .val (.long v26), .second, .val (.long v34), .second, .val (.long v42), .second, .val (.long v50), .second, .val (.long v58), .second, .unset, .unset, .unset, .unset, .unset] [(.long v42), (.long v19), (.int (0 : Int32))])) rfl (by rw [hml]; rfl) (argsL := [(.int (0 : Int32)), (.long v19), (.long v42)]) (rest := []) (lenOf pd_0 rfl) rfl (by show 2 * 0 + _ ≤ _; exact Nat.le_of_eq rfl) (hb hby at_66) (fun _ _ => ⟨rfl, e0, (by decide : 0 + 1 ≤ _), (by decide : 0 + 0 ≤ _)⟩)
    dsimp only [Pt.U, Pt.locs, Pt.cells, Pt.slots] at X3 l3 y3 z3 st3 hQ3
    subst l3 y3 z3
    obtain ⟨kx4, b3, rfl, N3q, K3q, g_b3, szq_b3, F5⟩ := hQ3
    have N3 := Fr.app N0 N3q
    have sz_b3 : h0.size ≤ b3 := Nat.le_trans K0.1 szq_b3
    have Z6 : n0 ≤ T3.heap.size := Nat.le_trans Z0 K3q.1
    have K7 : Keep h0 T3.heap [] := K0.trans K3q all0
    obtain ⟨_, _, ⟨T8, L8, k8, n8⟩, -, X8, ⟨Lc8, hQ8, l8, y8, z8⟩, st8⟩ := Jvm.LawKit.callS X3 hx (y := (⟨"com/example/evenkeel/evenkeel/cli/AuditFitsPinLaw", "make", "(IJJ)[J"⟩ : MethodName)) hown (mvT hZ (hw _ (List.mem_of_getElem? (i := 1) rfl))) (mvT hZ (hw _ (List.mem_of_getElem? (i := 2) rfl))) (mvT hZ (hw _ (List.mem_of_getElem? (i := 3) rfl))) (mvT hZ (hw _ (List.mem_of_getElem? (i := 4) rfl))) (by decide) (backOf (W := 0) (rm1 l Z a0 hw [] (0 : Int32) v26 v50 T3.heap n0 Z6 rfl) hZ (hw _ (List.mem_of_getElem? (i := 4) rfl)) (hw _ (List.mem_of_getElem? (i := 3) rfl)) (by decide) (by decide)) (g := (mkF m 77 #[.val (.long d0), .second, .val (.long o0), .second, .val (.long u0), .second, .val (.long d1), .second, .val (.long o1), .second, .val (.long u1), .second, .val (.int (0 : Int32)), .val (.long v19), .second, .val (.long v26), .second, .val (.long v34), .second, .val (.long v42), .second, .val (.long v50), .second, .val (.long v58), .second, .val (.ref b3), .unset, .unset, .unset, .unset] [(.long v50), (.long v26), (.int (0 : Int32))])) rfl (by rw [hml]; rfl) (argsL := [(.int (0 : Int32)), (.long v26), (.long v50)]) (rest := []) (lenOf pd_0 rfl) rfl (by show 2 * 0 + _ ≤ _; exact Nat.le_of_eq rfl) (hb hby at_77) (fun _ _ => ⟨rfl, rfl, (by decide : 1 + 1 ≤ _), (by decide : 0 + 0 ≤ _)⟩)
    dsimp only [Pt.U, Pt.locs, Pt.cells, Pt.slots] at X8 l8 y8 z8 st8 hQ8
    subst l8 y8 z8
    obtain ⟨kx9, b8, rfl, N8q, K8q, g_b8, szq_b8, F10⟩ := hQ8
    have N8 := Fr.app N3 N8q
    have ne_b3_b8 : b3 ≠ b8 := Nat.ne_of_lt (Nat.lt_of_lt_of_le F5.lt szq_b8)
    have sz_b8 : h0.size ≤ b8 := Nat.le_trans K7.1 szq_b8
    have F11 : Arv Z T8.heap b3 kx4 .long (0 : Int32) [] (.long (0 : Int64)) := F5.keep K8q nin0
    have Z12 : n0 ≤ T8.heap.size := Nat.le_trans Z6 K8q.1
    have K13 : Keep h0 T8.heap [] := K7.trans K8q all0
    obtain ⟨_, _, ⟨T14, L14, k14, n14⟩, -, X14, ⟨Lc14, hQ14, l14, y14, z14⟩, st14⟩ := Jvm.LawKit.callS X8 hx (y := (⟨"com/example/evenkeel/evenkeel/cli/AuditFitsPinLaw", "make", "(IJJ)[J"⟩ : MethodName)) hown (mvT hZ (hw _ (List.mem_of_getElem? (i := 1) rfl))) (mvT hZ (hw _ (List.mem_of_getElem? (i := 2) rfl))) (mvT hZ (hw _ (List.mem_of_getElem? (i := 3) rfl))) (mvT hZ (hw _ (List.mem_of_getElem? (i := 4) rfl))) (by decide) (backOf (W := 0) (rm1 l Z a0 hw [] (0 : Int32) v34 v58 T8.heap n0 Z12 rfl) hZ (hw _ (List.mem_of_getElem? (i := 4) rfl)) (hw _ (List.mem_of_getElem? (i := 3) rfl)) (by decide) (by decide)) (g := (mkF m 88 #[.val (.long d0), .second, .val (.long o0), .second, .val (.long u0), .second, .val (.long d1), .second, .val (.long o1), .second, .val (.long u1), .second, .val (.int (0 : Int32)), .val (.long v19), .second, .val (.long v26), .second, .val (.long v34), .second, .val (.long v42), .second, .val (.long v50), .second, .val (.long v58), .second, .val (.ref b3), .val (.ref b8), .unset, .unset, .unset] [(.long v58), (.long v34), (.int (0 : Int32))])) rfl (by rw [hml]; rfl) (argsL := [(.int (0 : Int32)), (.long v34), (.long v58)]) (rest := []) (lenOf pd_0 rfl) rfl (by show 2 * 0 + _ ≤ _; exact Nat.le_of_eq rfl) (hb hby at_88) (fun _ _ => ⟨rfl, rfl, (by decide : 2 + 1 ≤ _), (by decide : 0 + 0 ≤ _)⟩)
    dsimp only [Pt.U, Pt.locs, Pt.cells, Pt.slots] at X14 l14 y14 z14 st14 hQ14
    subst l14 y14 z14
    obtain ⟨kx15, b14, rfl, N14q, K14q, g_b14, szq_b14, F16⟩ := hQ14
    have N14 := Fr.app N8 N14q
    have ne_b3_b14 : b3 ≠ b14 := Nat.ne_of_lt (Nat.lt_of_lt_of_le F11.lt szq_b14)
    have ne_b8_b14 : b8 ≠ b14 := Nat.ne_of_lt (Nat.lt_of_lt_of_le F10.lt szq_b14)
    have sz_b14 : h0.size ≤ b14 := Nat.le_trans K13.1 szq_b14
    have F17 : Arv Z T14.heap b3 kx4 .long (0 : Int32) [] (.long (0 : Int64)) := F11.keep K14q nin0
    have F18 : Arv Z T14.heap b8 kx9 .long (0 : Int32) [] (.long (0 : Int64)) := F10.keep K14q nin0
    have Z19 : n0 ≤ T14.heap.size := Nat.le_trans Z12 K14q.1
    have K20 : Keep h0 T14.heap [] := K13.trans K14q all0
    obtain ⟨_, _, ⟨T21, L21, k21, n21⟩, -, X21, ⟨Lc21, hQ21, l21, y21, z21⟩, st21⟩ := Jvm.LawKit.callS X14 hx (y := (⟨"com/example/evenkeel/evenkeel/cli/Audit", "fits", "([J[J[J)Z"⟩ : MethodName)) hown (mvT hZ (hw _ (List.mem_of_getElem? (i := 6) rfl))) (mvT hZ (hw _ (List.mem_of_getElem? (i := 7) rfl))) (mvT hZ (hw _ (List.mem_of_getElem? (i := 8) rfl))) (mvT hZ (hw _ (List.mem_of_getElem? (i := 9) rfl))) (by decide) (backOf (W := 0) (rm2 l Z a0 hw [] b3 b8 b14 kx4 kx9 kx15 T14.heap n0 Z19 F17 F18 F16) hZ (hw _ (List.mem_of_getElem? (i := 9) rfl)) (hw _ (List.mem_of_getElem? (i := 8) rfl)) (by decide) (by decide)) (g := (mkF m 99 #[.val (.long d0), .second, .val (.long o0), .second, .val (.long u0), .second, .val (.long d1), .second, .val (.long o1), .second, .val (.long u1), .second, .val (.int (0 : Int32)), .val (.long v19), .second, .val (.long v26), .second, .val (.long v34), .second, .val (.long v42), .second, .val (.long v50), .second, .val (.long v58), .second, .val (.ref b3), .val (.ref b8), .val (.ref b14), .unset, .unset] [(.ref b14), (.ref b8), (.ref b3)])) rfl (by rw [hml]; rfl) (argsL := [(.ref b3), (.ref b8), (.ref b14)]) (rest := []) (lenOf pd_1 rfl) rfl (by show 2 * 0 + _ ≤ _; exact Nat.le_of_eq rfl) (hb hby at_99) (fun _ _ => ⟨rfl, rfl, (by decide : 3 + 0 ≤ _), (by decide : 0 + 0 ≤ _)⟩)
    dsimp only [Pt.U, Pt.locs, Pt.cells, Pt.slots] at X21 l21 y21 z21 st21 hQ21
    subst l21 y21 z21
    obtain ⟨rfl, N21q, e21⟩ := hQ21
    have N21 := Fr.app N14 N21q
    obtain ⟨fs, hr, hrun, hended, hW, hsame⟩ := X21.leave (v := some (Value.int (1 : Int32))) (fun h => by rw [Bd.returns] at h; cases h)
    refine ⟨_, _, pre1 _ ?_, hrun, hended, _, _, rfl, ?_, ⟨_, rfl⟩, hW, hsame.mono (by decide) (by decide)⟩
    · skip
      show Steps p.tables e below (s₁.setTop (mkF m 14 #[.val (.long d0), .second, .val (.long o0), .second, .val (.long u0), .second, .val (.long d1), .second, .val (.long o1), .second, .val (.long u1), .second, .val (.int (0 : Int32)), .unset, .unset, .unset, .unset, .unset, .unset, .unset, .unset, .unset, .unset, .unset, .unset, .unset, .unset, .unset, .unset, .unset] [])) _
      refine XS.lloadN X0.here hx rfl (hb hby at_14) rfl ?_
      show Steps p.tables e below (s₁.setTop (mkF m 15 #[.val (.long d0), .second, .val (.long o0), .second, .val (.long u0), .second, .val (.long d1), .second, .val (.long o1), .second, .val (.long u1), .second, .val (.int (0 : Int32)), .unset, .unset, .unset, .unset, .unset, .unset, .unset, .unset, .unset, .unset, .unset, .unset, .unset, .unset, .unset, .unset, .unset] [(.long d0)])) _
      refine X0.ldc2Long hx hown (mvT hZ (hw _ (List.mem_of_getElem? (i := 0) rfl))) (g := (mkF m 15 #[.val (.long d0), .second, .val (.long o0), .second, .val (.long u0), .second, .val (.long d1), .second, .val (.long o1), .second, .val (.long u1), .second, .val (.int (0 : Int32)), .unset, .unset, .unset, .unset, .unset, .unset, .unset, .unset, .unset, .unset, .unset, .unset, .unset, .unset, .unset, .unset, .unset] [(.long d0)])) rfl (hb hby at_15) _ ?_
      show Steps p.tables e below (s₁.setTop (mkF m 18 #[.val (.long d0), .second, .val (.long o0), .second, .val (.long u0), .second, .val (.long d1), .second, .val (.long o1), .second, .val (.long u1), .second, .val (.int (0 : Int32)), .unset, .unset, .unset, .unset, .unset, .unset, .unset, .unset, .unset, .unset, .unset, .unset, .unset, .unset, .unset, .unset, .unset] [(.long (9223372036854775807 : Int64)), (.long d0)])) _
      refine XS.land X0.here hx rfl (hb hby at_18) rfl ?_
      show Steps p.tables e below (s₁.setTop (mkF m 19 #[.val (.long d0), .second, .val (.long o0), .second, .val (.long u0), .second, .val (.long d1), .second, .val (.long o1), .second, .val (.long u1), .second, .val (.int (0 : Int32)), .unset, .unset, .unset, .unset, .unset, .unset, .unset, .unset, .unset, .unset, .unset, .unset, .unset, .unset, .unset, .unset, .unset] [(.long (d0 &&& (9223372036854775807 : Int64)))])) _
      refine XS.lstore X0.here hx rfl (hb hby at_19) rfl (l' := #[.val (.long d0), .second, .val (.long o0), .second, .val (.long u0), .second, .val (.long d1), .second, .val (.long o1), .second, .val (.long u1), .second, .val (.int (0 : Int32)), .val (.long v19), .second, .unset, .unset, .unset, .unset, .unset, .unset, .unset, .unset, .unset, .unset, .unset, .unset, .unset, .unset, .unset]) (by rw [hv19]; rfl) ?_
      show Steps p.tables e below (s₁.setTop (mkF m 21 #[.val (.long d0), .second, .val (.long o0), .second, .val (.long u0), .second, .val (.long d1), .second, .val (.long o1), .second, .val (.long u1), .second, .val (.int (0 : Int32)), .val (.long v19), .second, .unset, .unset, .unset, .unset, .unset, .unset, .unset, .unset, .unset, .unset, .unset, .unset, .unset, .unset, .unset] [])) _
      refine XS.lloadN X0.here hx rfl (hb hby at_21) rfl ?_
      show Steps p.tables e below (s₁.setTop (mkF m 22 #[.val (.long d0), .second, .val (.long o0), .second, .val (.long u0), .second, .val (.long d1), .second, .val (.long o1), .second, .val (.long u1), .second, .val (.int (0 : Int32)), .val (.long v19), .second, .unset, .unset, .unset, .unset, .unset, .unset, .unset, .unset, .unset, .unset, .unset, .unset, .unset, .unset, .unset] [(.long o0)])) _
      refine X0.ldc2Long hx hown (mvT hZ (hw _ (List.mem_of_getElem? (i := 0) rfl))) (g := (mkF m 22 #[.val (.long d0), .second, .val (.long o0), .second, .val (.long u0), .second, .val (.long d1), .second, .val (.long o1), .second, .val (.long u1), .second, .val (.int (0 : Int32)), .val (.long v19), .second, .unset, .unset, .unset, .unset, .unset, .unset, .unset, .unset, .unset, .unset, .unset, .unset, .unset, .unset, .unset] [(.long o0)])) rfl (hb hby at_22) _ ?_
      show Steps p.tables e below (s₁.setTop (mkF m 25 #[.val (.long d0), .second, .val (.long o0), .second, .val (.long u0), .second, .val (.long d1), .second, .val (.long o1), .second, .val (.long u1), .second, .val (.int (0 : Int32)), .val (.long v19), .second, .unset, .unset, .unset, .unset, .unset, .unset, .unset, .unset, .unset, .unset, .unset, .unset, .unset, .unset, .unset] [(.long (9223372036854775807 : Int64)), (.long o0)])) _
      refine XS.land X0.here hx rfl (hb hby at_25) rfl ?_
      show Steps p.tables e below (s₁.setTop (mkF m 26 #[.val (.long d0), .second, .val (.long o0), .second, .val (.long u0), .second, .val (.long d1), .second, .val (.long o1), .second, .val (.long u1), .second, .val (.int (0 : Int32)), .val (.long v19), .second, .unset, .unset, .unset, .unset, .unset, .unset, .unset, .unset, .unset, .unset, .unset, .unset, .unset, .unset, .unset] [(.long (o0 &&& (9223372036854775807 : Int64)))])) _
      refine XS.lstore X0.here hx rfl (hb hby at_26) rfl (l' := #[.val (.long d0), .second, .val (.long o0), .second, .val (.long u0), .second, .val (.long d1), .second, .val (.long o1), .second, .val (.long u1), .second, .val (.int (0 : Int32)), .val (.long v19), .second, .val (.long v26), .second, .unset, .unset, .unset, .unset, .unset, .unset, .unset, .unset, .unset, .unset, .unset, .unset, .unset]) (by rw [hv26]; rfl) ?_
      show Steps p.tables e below (s₁.setTop (mkF m 28 #[.val (.long d0), .second, .val (.long o0), .second, .val (.long u0), .second, .val (.long d1), .second, .val (.long o1), .second, .val (.long u1), .second, .val (.int (0 : Int32)), .val (.long v19), .second, .val (.long v26), .second, .unset, .unset, .unset, .unset, .unset, .unset, .unset, .unset, .unset, .unset, .unset, .unset, .unset] [])) _
      refine XS.lload X0.here hx rfl (hb hby at_28) rfl ?_
      show Steps p.tables e below (s₁.setTop (mkF m 30 #[.val (.long d0), .second, .val (.long o0), .second, .val (.long u0), .second, .val (.long d1), .second, .val (.long o1), .second, .val (.long u1), .second, .val (.int (0 : Int32)), .val (.long v19), .second, .val (.long v26), .second, .unset, .unset, .unset, .unset, .unset, .unset, .unset, .unset, .unset, .unset, .unset, .unset, .unset] [(.long u0)])) _
      refine X0.ldc2Long hx hown (mvT hZ (hw _ (List.mem_of_getElem? (i := 0) rfl))) (g := (mkF m 30 #[.val (.long d0), .second, .val (.long o0), .second, .val (.long u0), .second, .val (.long d1), .second, .val (.long o1), .second, .val (.long u1), .second, .val (.int (0 : Int32)), .val (.long v19), .second, .val (.long v26), .second, .unset, .unset, .unset, .unset, .unset, .unset, .unset, .unset, .unset, .unset, .unset, .unset, .unset] [(.long u0)])) rfl (hb hby at_30) _ ?_
      show Steps p.tables e below (s₁.setTop (mkF m 33 #[.val (.long d0), .second, .val (.long o0), .second, .val (.long u0), .second, .val (.long d1), .second, .val (.long o1), .second, .val (.long u1), .second, .val (.int (0 : Int32)), .val (.long v19), .second, .val (.long v26), .second, .unset, .unset, .unset, .unset, .unset, .unset, .unset, .unset, .unset, .unset, .unset, .unset, .unset] [(.long (9223372036854775807 : Int64)), (.long u0)])) _
      refine XS.land X0.here hx rfl (hb hby at_33) rfl ?_
      show Steps p.tables e below (s₁.setTop (mkF m 34 #[.val (.long d0), .second, .val (.long o0), .second, .val (.long u0), .second, .val (.long d1), .second, .val (.long o1), .second, .val (.long u1), .second, .val (.int (0 : Int32)), .val (.long v19), .second, .val (.long v26), .second, .unset, .unset, .unset, .unset, .unset, .unset, .unset, .unset, .unset, .unset, .unset, .unset, .unset] [(.long (u0 &&& (9223372036854775807 : Int64)))])) _
      refine XS.lstore X0.here hx rfl (hb hby at_34) rfl (l' := #[.val (.long d0), .second, .val (.long o0), .second, .val (.long u0), .second, .val (.long d1), .second, .val (.long o1), .second, .val (.long u1), .second, .val (.int (0 : Int32)), .val (.long v19), .second, .val (.long v26), .second, .val (.long v34), .second, .unset, .unset, .unset, .unset, .unset, .unset, .unset, .unset, .unset, .unset, .unset]) (by rw [hv34]; rfl) ?_
      show Steps p.tables e below (s₁.setTop (mkF m 36 #[.val (.long d0), .second, .val (.long o0), .second, .val (.long u0), .second, .val (.long d1), .second, .val (.long o1), .second, .val (.long u1), .second, .val (.int (0 : Int32)), .val (.long v19), .second, .val (.long v26), .second, .val (.long v34), .second, .unset, .unset, .unset, .unset, .unset, .unset, .unset, .unset, .unset, .unset, .unset] [])) _
      refine XS.lload X0.here hx rfl (hb hby at_36) rfl ?_
      show Steps p.tables e below (s₁.setTop (mkF m 38 #[.val (.long d0), .second, .val (.long o0), .second, .val (.long u0), .second, .val (.long d1), .second, .val (.long o1), .second, .val (.long u1), .second, .val (.int (0 : Int32)), .val (.long v19), .second, .val (.long v26), .second, .val (.long v34), .second, .unset, .unset, .unset, .unset, .unset, .unset, .unset, .unset, .unset, .unset, .unset] [(.long d1)])) _
      refine X0.ldc2Long hx hown (mvT hZ (hw _ (List.mem_of_getElem? (i := 0) rfl))) (g := (mkF m 38 #[.val (.long d0), .second, .val (.long o0), .second, .val (.long u0), .second, .val (.long d1), .second, .val (.long o1), .second, .val (.long u1), .second, .val (.int (0 : Int32)), .val (.long v19), .second, .val (.long v26), .second, .val (.long v34), .second, .unset, .unset, .unset, .unset, .unset, .unset, .unset, .unset, .unset, .unset, .unset] [(.long d1)])) rfl (hb hby at_38) _ ?_
      show Steps p.tables e below (s₁.setTop (mkF m 41 #[.val (.long d0), .second, .val (.long o0), .second, .val (.long u0), .second, .val (.long d1), .second, .val (.long o1), .second, .val (.long u1), .second, .val (.int (0 : Int32)), .val (.long v19), .second, .val (.long v26), .second, .val (.long v34), .second, .unset, .unset, .unset, .unset, .unset, .unset, .unset, .unset, .unset, .unset, .unset] [(.long (9223372036854775807 : Int64)), (.long d1)])) _
      refine XS.land X0.here hx rfl (hb hby at_41) rfl ?_
      show Steps p.tables e below (s₁.setTop (mkF m 42 #[.val (.long d0), .second, .val (.long o0), .second, .val (.long u0), .second, .val (.long d1), .second, .val (.long o1), .second, .val (.long u1), .second, .val (.int (0 : Int32)), .val (.long v19), .second, .val (.long v26), .second, .val (.long v34), .second, .unset, .unset, .unset, .unset, .unset, .unset, .unset, .unset, .unset, .unset, .unset] [(.long (d1 &&& (9223372036854775807 : Int64)))])) _
      refine XS.lstore X0.here hx rfl (hb hby at_42) rfl (l' := #[.val (.long d0), .second, .val (.long o0), .second, .val (.long u0), .second, .val (.long d1), .second, .val (.long o1), .second, .val (.long u1), .second, .val (.int (0 : Int32)), .val (.long v19), .second, .val (.long v26), .second, .val (.long v34), .second, .val (.long v42), .second, .unset, .unset, .unset, .unset, .unset, .unset, .unset, .unset, .unset]) (by rw [hv42]; rfl) ?_
      show Steps p.tables e below (s₁.setTop (mkF m 44 #[.val (.long d0), .second, .val (.long o0), .second, .val (.long u0), .second, .val (.long d1), .second, .val (.long o1), .second, .val (.long u1), .second, .val (.int (0 : Int32)), .val (.long v19), .second, .val (.long v26), .second, .val (.long v34), .second, .val (.long v42), .second, .unset, .unset, .unset, .unset, .unset, .unset, .unset, .unset, .unset] [])) _
      refine XS.lload X0.here hx rfl (hb hby at_44) rfl ?_
      show Steps p.tables e below (s₁.setTop (mkF m 46 #[.val (.long d0), .second, .val (.long o0), .second, .val (.long u0), .second, .val (.long d1), .second, .val (.long o1), .second, .val (.long u1), .second, .val (.int (0 : Int32)), .val (.long v19), .second, .val (.long v26), .second, .val (.long v34), .second, .val (.long v42), .second, .unset, .unset, .unset, .unset, .unset, .unset, .unset, .unset, .unset] [(.long o1)])) _
      refine X0.ldc2Long hx hown (mvT hZ (hw _ (List.mem_of_getElem? (i := 0) rfl))) (g := (mkF m 46 #[.val (.long d0), .second, .val (.long o0), .second, .val (.long u0), .second, .val (.long d1), .second, .val (.long o1), .second, .val (.long u1), .second, .val (.int (0 : Int32)), .val (.long v19), .second, .val (.long v26), .second, .val (.long v34), .second, .val (.long v42), .second, .unset, .unset, .unset, .unset, .unset, .unset, .unset, .unset, .unset] [(.long o1)])) rfl (hb hby at_46) _ ?_
      show Steps p.tables e below (s₁.setTop (mkF m 49 #[.val (.long d0), .second, .val (.long o0), .second, .val (.long u0), .second, .val (.long d1), .second, .val (.long o1), .second, .val (.long u1), .second, .val (.int (0 : Int32)), .val (.long v19), .second, .val (.long v26), .second, .val (.long v34), .second, .val (.long v42), .second, .unset, .unset, .unset, .unset, .unset, .unset, .unset, .unset, .unset] [(.long (9223372036854775807 : Int64)), (.long o1)])) _
      refine XS.land X0.here hx rfl (hb hby at_49) rfl ?_
      show Steps p.tables e below (s₁.setTop (mkF m 50 #[.val (.long d0), .second, .val (.long o0), .second, .val (.long u0), .second, .val (.long d1), .second, .val (.long o1), .second, .val (.long u1), .second, .val (.int (0 : Int32)), .val (.long v19), .second, .val (.long v26), .second, .val (.long v34), .second, .val (.long v42), .second, .unset, .unset, .unset, .unset, .unset, .unset, .unset, .unset, .unset] [(.long (o1 &&& (9223372036854775807 : Int64)))])) _
      refine XS.lstore X0.here hx rfl (hb hby at_50) rfl (l' := #[.val (.long d0), .second, .val (.long o0), .second, .val (.long u0), .second, .val (.long d1), .second, .val (.long o1), .second, .val (.long u1), .second, .val (.int (0 : Int32)), .val (.long v19), .second, .val (.long v26), .second, .val (.long v34), .second, .val (.long v42), .second, .val (.long v50), .second, .unset, .unset, .unset, .unset, .unset, .unset, .unset]) (by rw [hv50]; rfl) ?_
      show Steps p.tables e below (s₁.setTop (mkF m 52 #[.val (.long d0), .second, .val (.long o0), .second, .val (.long u0), .second, .val (.long d1), .second, .val (.long o1), .second, .val (.long u1), .second, .val (.int (0 : Int32)), .val (.long v19), .second, .val (.long v26), .second, .val (.long v34), .second, .val (.long v42), .second, .val (.long v50), .second, .unset, .unset, .unset, .unset, .unset, .unset, .unset] [])) _
      refine XS.lload X0.here hx rfl (hb hby at_52) rfl ?_
      show Steps p.tables e below (s₁.setTop (mkF m 54 #[.val (.long d0), .second, .val (.long o0), .second, .val (.long u0), .second, .val (.long d1), .second, .val (.long o1), .second, .val (.long u1), .second, .val (.int (0 : Int32)), .val (.long v19), .second, .val (.long v26), .second, .val (.long v34), .second, .val (.long v42), .second, .val (.long v50), .second, .unset, .unset, .unset, .unset, .unset, .unset, .unset] [(.long u1)])) _
      refine X0.ldc2Long hx hown (mvT hZ (hw _ (List.mem_of_getElem? (i := 0) rfl))) (g := (mkF m 54 #[.val (.long d0), .second, .val (.long o0), .second, .val (.long u0), .second, .val (.long d1), .second, .val (.long o1), .second, .val (.long u1), .second, .val (.int (0 : Int32)), .val (.long v19), .second, .val (.long v26), .second, .val (.long v34), .second, .val (.long v42), .second, .val (.long v50), .second, .unset, .unset, .unset, .unset, .unset, .unset, .unset] [(.long u1)])) rfl (hb hby at_54) _ ?_
      show Steps p.tables e below (s₁.setTop (mkF m 57 #[.val (.long d0), .second, .val (.long o0), .second, .val (.long u0), .second, .val (.long d1), .second, .val (.long o1), .second, .val (.long u1), .second, .val (.int (0 : Int32)), .val (.long v19), .second, .val (.long v26), .second, .val (.long v34), .second, .val (.long v42), .second, .val (.long v50), .second, .unset, .unset, .unset, .unset, .unset, .unset, .unset] [(.long (9223372036854775807 : Int64)), (.long u1)])) _
      refine XS.land X0.here hx rfl (hb hby at_57) rfl ?_
      show Steps p.tables e below (s₁.setTop (mkF m 58 #[.val (.long d0), .second, .val (.long o0), .second, .val (.long u0), .second, .val (.long d1), .second, .val (.long o1), .second, .val (.long u1), .second, .val (.int (0 : Int32)), .val (.long v19), .second, .val (.long v26), .second, .val (.long v34), .second, .val (.long v42), .second, .val (.long v50), .second, .unset, .unset, .unset, .unset, .unset, .unset, .unset] [(.long (u1 &&& (9223372036854775807 : Int64)))])) _
      refine XS.lstore X0.here hx rfl (hb hby at_58) rfl (l' := #[.val (.long d0), .second, .val (.long o0), .second, .val (.long u0), .second, .val (.long d1), .second, .val (.long o1), .second, .val (.long u1), .second, .val (.int (0 : Int32)), .val (.long v19), .second, .val (.long v26), .second, .val (.long v34), .second, .val (.long v42), .second, .val (.long v50), .second, .val (.long v58), .second, .unset, .unset, .unset, .unset, .unset]) (by rw [hv58]; rfl) ?_
      show Steps p.tables e below (s₁.setTop (mkF m 60 #[.val (.long d0), .second, .val (.long o0), .second, .val (.long u0), .second, .val (.long d1), .second, .val (.long o1), .second, .val (.long u1), .second, .val (.int (0 : Int32)), .val (.long v19), .second, .val (.long v26), .second, .val (.long v34), .second, .val (.long v42), .second, .val (.long v50), .second, .val (.long v58), .second, .unset, .unset, .unset, .unset, .unset] [])) _
      refine XS.iload X0.here hx rfl (hb hby at_60) rfl ?_
      show Steps p.tables e below (s₁.setTop (mkF m 62 #[.val (.long d0), .second, .val (.long o0), .second, .val (.long u0), .second, .val (.long d1), .second, .val (.long o1), .second, .val (.long u1), .second, .val (.int (0 : Int32)), .val (.long v19), .second, .val (.long v26), .second, .val (.long v34), .second, .val (.long v42), .second, .val (.long v50), .second, .val (.long v58), .second, .unset, .unset, .unset, .unset, .unset] [(.int (0 : Int32))])) _
      refine XS.lload X0.here hx rfl (hb hby at_62) rfl ?_
      show Steps p.tables e below (s₁.setTop (mkF m 64 #[.val (.long d0), .second, .val (.long o0), .second, .val (.long u0), .second, .val (.long d1), .second, .val (.long o1), .second, .val (.long u1), .second, .val (.int (0 : Int32)), .val (.long v19), .second, .val (.long v26), .second, .val (.long v34), .second, .val (.long v42), .second, .val (.long v50), .second, .val (.long v58), .second, .unset, .unset, .unset, .unset, .unset] [(.long v19), (.int (0 : Int32))])) _
      refine XS.lload X0.here hx rfl (hb hby at_64) rfl ?_
      show Steps p.tables e below (s₁.setTop (mkF m 66 #[.val (.long d0), .second, .val (.long o0), .second, .val (.long u0), .second, .val (.long d1), .second, .val (.long o1), .second, .val (.long u1), .second, .val (.int (0 : Int32)), .val (.long v19), .second, .val (.long v26), .second, .val (.long v34), .second, .val (.long v42), .second, .val (.long v50), .second, .val (.long v58), .second, .unset, .unset, .unset, .unset, .unset] [(.long v42), (.long v19), (.int (0 : Int32))])) _
      refine st3 _ ?_
      show Steps p.tables e below (T3.setTop (mkF m 69 #[.val (.long d0), .second, .val (.long o0), .second, .val (.long u0), .second, .val (.long d1), .second, .val (.long o1), .second, .val (.long u1), .second, .val (.int (0 : Int32)), .val (.long v19), .second, .val (.long v26), .second, .val (.long v34), .second, .val (.long v42), .second, .val (.long v50), .second, .val (.long v58), .second, .unset, .unset, .unset, .unset, .unset] [(.ref b3)])) _
      refine XS.astore X3.here hx rfl (hb hby at_69) rfl rfl (l' := #[.val (.long d0), .second, .val (.long o0), .second, .val (.long u0), .second, .val (.long d1), .second, .val (.long o1), .second, .val (.long u1), .second, .val (.int (0 : Int32)), .val (.long v19), .second, .val (.long v26), .second, .val (.long v34), .second, .val (.long v42), .second, .val (.long v50), .second, .val (.long v58), .second, .val (.ref b3), .unset, .unset, .unset, .unset]) rfl ?_
      show Steps p.tables e below (T3.setTop (mkF m 71 #[.val (.long d0), .second, .val (.long o0), .second, .val (.long u0), .second, .val (.long d1), .second, .val (.long o1), .second, .val (.long u1), .second, .val (.int (0 : Int32)), .val (.long v19), .second, .val (.long v26), .second, .val (.long v34), .second, .val (.long v42), .second, .val (.long v50), .second, .val (.long v58), .second, .val (.ref b3), .unset, .unset, .unset, .unset] [])) _
      refine XS.iload X3.here hx rfl (hb hby at_71) rfl ?_
      show Steps p.tables e below (T3.setTop (mkF m 73 #[.val (.long d0), .second, .val (.long o0), .second, .val (.long u0), .second, .val (.long d1), .second, .val (.long o1), .second, .val (.long u1), .second, .val (.int (0 : Int32)), .val (.long v19), .second, .val (.long v26), .second, .val (.long v34), .second, .val (.long v42), .second, .val (.long v50), .second, .val (.long v58), .second, .val (.ref b3), .unset, .unset, .unset, .unset] [(.int (0 : Int32))])) _
      refine XS.lload X3.here hx rfl (hb hby at_73) rfl ?_
      show Steps p.tables e below (T3.setTop (mkF m 75 #[.val (.long d0), .second, .val (.long o0), .second, .val (.long u0), .second, .val (.long d1), .second, .val (.long o1), .second, .val (.long u1), .second, .val (.int (0 : Int32)), .val (.long v19), .second, .val (.long v26), .second, .val (.long v34), .second, .val (.long v42), .second, .val (.long v50), .second, .val (.long v58), .second, .val (.ref b3), .unset, .unset, .unset, .unset] [(.long v26), (.int (0 : Int32))])) _
      refine XS.lload X3.here hx rfl (hb hby at_75) rfl ?_
      show Steps p.tables e below (T3.setTop (mkF m 77 #[.val (.long d0), .second, .val (.long o0), .second, .val (.long u0), .second, .val (.long d1), .second, .val (.long o1), .second, .val (.long u1), .second, .val (.int (0 : Int32)), .val (.long v19), .second, .val (.long v26), .second, .val (.long v34), .second, .val (.long v42), .second, .val (.long v50), .second, .val (.long v58), .second, .val (.ref b3), .unset, .unset, .unset, .unset] [(.long v50), (.long v26), (.int (0 : Int32))])) _
      refine st8 _ ?_
      show Steps p.tables e below (T8.setTop (mkF m 80 #[.val (.long d0), .second, .val (.long o0), .second, .val (.long u0), .second, .val (.long d1), .second, .val (.long o1), .second, .val (.long u1), .second, .val (.int (0 : Int32)), .val (.long v19), .second, .val (.long v26), .second, .val (.long v34), .second, .val (.long v42), .second, .val (.long v50), .second, .val (.long v58), .second, .val (.ref b3), .unset, .unset, .unset, .unset] [(.ref b8)])) _
      refine XS.astore X8.here hx rfl (hb hby at_80) rfl rfl (l' := #[.val (.long d0), .second, .val (.long o0), .second, .val (.long u0), .second, .val (.long d1), .second, .val (.long o1), .second, .val (.long u1), .second, .val (.int (0 : Int32)), .val (.long v19), .second, .val (.long v26), .second, .val (.long v34), .second, .val (.long v42), .second, .val (.long v50), .second, .val (.long v58), .second, .val (.ref b3), .val (.ref b8), .unset, .unset, .unset]) rfl ?_
      show Steps p.tables e below (T8.setTop (mkF m 82 #[.val (.long d0), .second, .val (.long o0), .second, .val (.long u0), .second, .val (.long d1), .second, .val (.long o1), .second, .val (.long u1), .second, .val (.int (0 : Int32)), .val (.long v19), .second, .val (.long v26), .second, .val (.long v34), .second, .val (.long v42), .second, .val (.long v50), .second, .val (.long v58), .second, .val (.ref b3), .val (.ref b8), .unset, .unset, .unset] [])) _
      refine XS.iload X8.here hx rfl (hb hby at_82) rfl ?_
      show Steps p.tables e below (T8.setTop (mkF m 84 #[.val (.long d0), .second, .val (.long o0), .second, .val (.long u0), .second, .val (.long d1), .second, .val (.long o1), .second, .val (.long u1), .second, .val (.int (0 : Int32)), .val (.long v19), .second, .val (.long v26), .second, .val (.long v34), .second, .val (.long v42), .second, .val (.long v50), .second, .val (.long v58), .second, .val (.ref b3), .val (.ref b8), .unset, .unset, .unset] [(.int (0 : Int32))])) _
      refine XS.lload X8.here hx rfl (hb hby at_84) rfl ?_
      show Steps p.tables e below (T8.setTop (mkF m 86 #[.val (.long d0), .second, .val (.long o0), .second, .val (.long u0), .second, .val (.long d1), .second, .val (.long o1), .second, .val (.long u1), .second, .val (.int (0 : Int32)), .val (.long v19), .second, .val (.long v26), .second, .val (.long v34), .second, .val (.long v42), .second, .val (.long v50), .second, .val (.long v58), .second, .val (.ref b3), .val (.ref b8), .unset, .unset, .unset] [(.long v34), (.int (0 : Int32))])) _
      refine XS.lload X8.here hx rfl (hb hby at_86) rfl ?_
      show Steps p.tables e below (T8.setTop (mkF m 88 #[.val (.long d0), .second, .val (.long o0), .second, .val (.long u0), .second, .val (.long d1), .second, .val (.long o1), .second, .val (.long u1), .second, .val (.int (0 : Int32)), .val (.long v19), .second, .val (.long v26), .second, .val (.long v34), .second, .val (.long v42), .second, .val (.long v50), .second, .val (.long v58), .second, .val (.ref b3), .val (.ref b8), .unset, .unset, .unset] [(.long v58), (.long v34), (.int (0 : Int32))])) _
      refine st14 _ ?_
      show Steps p.tables e below (T14.setTop (mkF m 91 #[.val (.long d0), .second, .val (.long o0), .second, .val (.long u0), .second, .val (.long d1), .second, .val (.long o1), .second, .val (.long u1), .second, .val (.int (0 : Int32)), .val (.long v19), .second, .val (.long v26), .second, .val (.long v34), .second, .val (.long v42), .second, .val (.long v50), .second, .val (.long v58), .second, .val (.ref b3), .val (.ref b8), .unset, .unset, .unset] [(.ref b14)])) _
      refine XS.astore X14.here hx rfl (hb hby at_91) rfl rfl (l' := #[.val (.long d0), .second, .val (.long o0), .second, .val (.long u0), .second, .val (.long d1), .second, .val (.long o1), .second, .val (.long u1), .second, .val (.int (0 : Int32)), .val (.long v19), .second, .val (.long v26), .second, .val (.long v34), .second, .val (.long v42), .second, .val (.long v50), .second, .val (.long v58), .second, .val (.ref b3), .val (.ref b8), .val (.ref b14), .unset, .unset]) rfl ?_
      show Steps p.tables e below (T14.setTop (mkF m 93 #[.val (.long d0), .second, .val (.long o0), .second, .val (.long u0), .second, .val (.long d1), .second, .val (.long o1), .second, .val (.long u1), .second, .val (.int (0 : Int32)), .val (.long v19), .second, .val (.long v26), .second, .val (.long v34), .second, .val (.long v42), .second, .val (.long v50), .second, .val (.long v58), .second, .val (.ref b3), .val (.ref b8), .val (.ref b14), .unset, .unset] [])) _
      refine XS.aload X14.here hx rfl (hb hby at_93) rfl rfl ?_
      show Steps p.tables e below (T14.setTop (mkF m 95 #[.val (.long d0), .second, .val (.long o0), .second, .val (.long u0), .second, .val (.long d1), .second, .val (.long o1), .second, .val (.long u1), .second, .val (.int (0 : Int32)), .val (.long v19), .second, .val (.long v26), .second, .val (.long v34), .second, .val (.long v42), .second, .val (.long v50), .second, .val (.long v58), .second, .val (.ref b3), .val (.ref b8), .val (.ref b14), .unset, .unset] [(.ref b3)])) _
      refine XS.aload X14.here hx rfl (hb hby at_95) rfl rfl ?_
      show Steps p.tables e below (T14.setTop (mkF m 97 #[.val (.long d0), .second, .val (.long o0), .second, .val (.long u0), .second, .val (.long d1), .second, .val (.long o1), .second, .val (.long u1), .second, .val (.int (0 : Int32)), .val (.long v19), .second, .val (.long v26), .second, .val (.long v34), .second, .val (.long v42), .second, .val (.long v50), .second, .val (.long v58), .second, .val (.ref b3), .val (.ref b8), .val (.ref b14), .unset, .unset] [(.ref b8), (.ref b3)])) _
      refine XS.aload X14.here hx rfl (hb hby at_97) rfl rfl ?_
      show Steps p.tables e below (T14.setTop (mkF m 99 #[.val (.long d0), .second, .val (.long o0), .second, .val (.long u0), .second, .val (.long d1), .second, .val (.long o1), .second, .val (.long u1), .second, .val (.int (0 : Int32)), .val (.long v19), .second, .val (.long v26), .second, .val (.long v34), .second, .val (.long v42), .second, .val (.long v50), .second, .val (.long v58), .second, .val (.ref b3), .val (.ref b8), .val (.ref b14), .unset, .unset] [(.ref b14), (.ref b8), (.ref b3)])) _
      refine st21 _ ?_
      show Steps p.tables e below (T21.setTop (mkF m 102 #[.val (.long d0), .second, .val (.long o0), .second, .val (.long u0), .second, .val (.long d1), .second, .val (.long o1), .second, .val (.long u1), .second, .val (.int (0 : Int32)), .val (.long v19), .second, .val (.long v26), .second, .val (.long v34), .second, .val (.long v42), .second, .val (.long v50), .second, .val (.long v58), .second, .val (.ref b3), .val (.ref b8), .val (.ref b14), .unset, .unset] [(.int (1 : Int32))])) _
      refine XS.istore X21.here hx rfl (hb hby at_102) rfl (l' := #[.val (.long d0), .second, .val (.long o0), .second, .val (.long u0), .second, .val (.long d1), .second, .val (.long o1), .second, .val (.long u1), .second, .val (.int (0 : Int32)), .val (.long v19), .second, .val (.long v26), .second, .val (.long v34), .second, .val (.long v42), .second, .val (.long v50), .second, .val (.long v58), .second, .val (.ref b3), .val (.ref b8), .val (.ref b14), .val (.int (1 : Int32)), .unset]) rfl ?_
      show Steps p.tables e below (T21.setTop (mkF m 104 #[.val (.long d0), .second, .val (.long o0), .second, .val (.long u0), .second, .val (.long d1), .second, .val (.long o1), .second, .val (.long u1), .second, .val (.int (0 : Int32)), .val (.long v19), .second, .val (.long v26), .second, .val (.long v34), .second, .val (.long v42), .second, .val (.long v50), .second, .val (.long v58), .second, .val (.ref b3), .val (.ref b8), .val (.ref b14), .val (.int (1 : Int32)), .unset] [])) _
      refine XS.iload X21.here hx rfl (hb hby at_104) rfl ?_
      show Steps p.tables e below (T21.setTop (mkF m 106 #[.val (.long d0), .second, .val (.long o0), .second, .val (.long u0), .second, .val (.long d1), .second, .val (.long o1), .second, .val (.long u1), .second, .val (.int (0 : Int32)), .val (.long v19), .second, .val (.long v26), .second, .val (.long v34), .second, .val (.long v42), .second, .val (.long v50), .second, .val (.long v58), .second, .val (.ref b3), .val (.ref b8), .val (.ref b14), .val (.int (1 : Int32)), .unset] [(.int (0 : Int32))])) _
      refine XS.iconst X21.here hx rfl (hb hby at_106) ?_
      show Steps p.tables e below (T21.setTop (mkF m 107 #[.val (.long d0), .second, .val (.long o0), .second, .val (.long u0), .second, .val (.long d1), .second, .val (.long o1), .second, .val (.long u1), .second, .val (.int (0 : Int32)), .val (.long v19), .second, .val (.long v26), .second, .val (.long v34), .second, .val (.long v42), .second, .val (.long v50), .second, .val (.long v58), .second, .val (.ref b3), .val (.ref b8), .val (.ref b14), .val (.int (1 : Int32)), .unset] [(.int (1 : Int32)), (.int (0 : Int32))])) _
      refine XS.icmpYes X21.here hx rfl (pc0 := 107) (pc' := 122) rfl (hb hby at_107) rfl (tlt (by decide)).1 (by decide) (by decide) ?_
      show Steps p.tables e below (T21.setTop (mkF m 122 #[.val (.long d0), .second, .val (.long o0), .second, .val (.long u0), .second, .val (.long d1), .second, .val (.long o1), .second, .val (.long u1), .second, .val (.int (0 : Int32)), .val (.long v19), .second, .val (.long v26), .second, .val (.long v34), .second, .val (.long v42), .second, .val (.long v50), .second, .val (.long v58), .second, .val (.ref b3), .val (.ref b8), .val (.ref b14), .val (.int (1 : Int32)), .unset] [])) _
      refine XS.iload X21.here hx rfl (hb hby at_122) rfl ?_
      show Steps p.tables e below (T21.setTop (mkF m 124 #[.val (.long d0), .second, .val (.long o0), .second, .val (.long u0), .second, .val (.long d1), .second, .val (.long o1), .second, .val (.long u1), .second, .val (.int (0 : Int32)), .val (.long v19), .second, .val (.long v26), .second, .val (.long v34), .second, .val (.long v42), .second, .val (.long v50), .second, .val (.long v58), .second, .val (.ref b3), .val (.ref b8), .val (.ref b14), .val (.int (1 : Int32)), .unset] [(.int (0 : Int32))])) _
      refine XS.iconst X21.here hx rfl (hb hby at_124) ?_
      show Steps p.tables e below (T21.setTop (mkF m 125 #[.val (.long d0), .second, .val (.long o0), .second, .val (.long u0), .second, .val (.long d1), .second, .val (.long o1), .second, .val (.long u1), .second, .val (.int (0 : Int32)), .val (.long v19), .second, .val (.long v26), .second, .val (.long v34), .second, .val (.long v42), .second, .val (.long v50), .second, .val (.long v58), .second, .val (.ref b3), .val (.ref b8), .val (.ref b14), .val (.int (1 : Int32)), .unset] [(.int (2 : Int32)), (.int (0 : Int32))])) _
      refine XS.icmpYes X21.here hx rfl (pc0 := 125) (pc' := 140) rfl (hb hby at_125) rfl (tlt (by decide)).1 (by decide) (by decide) ?_
      show Steps p.tables e below (T21.setTop (mkF m 140 #[.val (.long d0), .second, .val (.long o0), .second, .val (.long u0), .second, .val (.long d1), .second, .val (.long o1), .second, .val (.long u1), .second, .val (.int (0 : Int32)), .val (.long v19), .second, .val (.long v26), .second, .val (.long v34), .second, .val (.long v42), .second, .val (.long v50), .second, .val (.long v58), .second, .val (.ref b3), .val (.ref b8), .val (.ref b14), .val (.int (1 : Int32)), .unset] [])) _
      refine XS.iconst X21.here hx rfl (hb hby at_140) ?_
      show Steps p.tables e below (T21.setTop (mkF m 141 #[.val (.long d0), .second, .val (.long o0), .second, .val (.long u0), .second, .val (.long d1), .second, .val (.long o1), .second, .val (.long u1), .second, .val (.int (0 : Int32)), .val (.long v19), .second, .val (.long v26), .second, .val (.long v34), .second, .val (.long v42), .second, .val (.long v50), .second, .val (.long v58), .second, .val (.ref b3), .val (.ref b8), .val (.ref b14), .val (.int (1 : Int32)), .unset] [(.int (1 : Int32))])) _
      refine XS.goto X21.here hx rfl (pc0 := 141) (pc' := 145) rfl (hb hby at_141) (by decide) (by decide) ?_
      show Steps p.tables e below (T21.setTop (mkF m 145 #[.val (.long d0), .second, .val (.long o0), .second, .val (.long u0), .second, .val (.long d1), .second, .val (.long o1), .second, .val (.long u1), .second, .val (.int (0 : Int32)), .val (.long v19), .second, .val (.long v26), .second, .val (.long v34), .second, .val (.long v42), .second, .val (.long v50), .second, .val (.long v58), .second, .val (.ref b3), .val (.ref b8), .val (.ref b14), .val (.int (1 : Int32)), .unset] [(.int (1 : Int32))])) _
      refine XS.istore X21.here hx rfl (hb hby at_145) rfl (l' := #[.val (.long d0), .second, .val (.long o0), .second, .val (.long u0), .second, .val (.long d1), .second, .val (.long o1), .second, .val (.long u1), .second, .val (.int (0 : Int32)), .val (.long v19), .second, .val (.long v26), .second, .val (.long v34), .second, .val (.long v42), .second, .val (.long v50), .second, .val (.long v58), .second, .val (.ref b3), .val (.ref b8), .val (.ref b14), .val (.int (1 : Int32)), .val (.int (1 : Int32))]) rfl ?_
      show Steps p.tables e below (T21.setTop (mkF m 147 #[.val (.long d0), .second, .val (.long o0), .second, .val (.long u0), .second, .val (.long d1), .second, .val (.long o1), .second, .val (.long u1), .second, .val (.int (0 : Int32)), .val (.long v19), .second, .val (.long v26), .second, .val (.long v34), .second, .val (.long v42), .second, .val (.long v50), .second, .val (.long v58), .second, .val (.ref b3), .val (.ref b8), .val (.ref b14), .val (.int (1 : Int32)), .val (.int (1 : Int32))] [])) _
      refine XS.iload X21.here hx rfl (hb hby at_147) rfl ?_
      show Steps p.tables e below (T21.setTop (mkF m 149 #[.val (.long d0), .second, .val (.long o0), .second, .val (.long u0), .second, .val (.long d1), .second, .val (.long o1), .second, .val (.long u1), .second, .val (.int (0 : Int32)), .val (.long v19), .second, .val (.long v26), .second, .val (.long v34), .second, .val (.long v42), .second, .val (.long v50), .second, .val (.long v58), .second, .val (.ref b3), .val (.ref b8), .val (.ref b14), .val (.int (1 : Int32)), .val (.int (1 : Int32))] [(.int (1 : Int32))])) _
      refine XS.iload X21.here hx rfl (hb hby at_149) rfl ?_
      show Steps p.tables e below (T21.setTop (mkF m 151 #[.val (.long d0), .second, .val (.long o0), .second, .val (.long u0), .second, .val (.long d1), .second, .val (.long o1), .second, .val (.long u1), .second, .val (.int (0 : Int32)), .val (.long v19), .second, .val (.long v26), .second, .val (.long v34), .second, .val (.long v42), .second, .val (.long v50), .second, .val (.long v58), .second, .val (.ref b3), .val (.ref b8), .val (.ref b14), .val (.int (1 : Int32)), .val (.int (1 : Int32))] [(.int (1 : Int32)), (.int (1 : Int32))])) _
      refine XS.icmpNo X21.here hx rfl (hb hby at_151) rfl (teq rfl).2 ?_
      show Steps p.tables e below (T21.setTop (mkF m 154 #[.val (.long d0), .second, .val (.long o0), .second, .val (.long u0), .second, .val (.long d1), .second, .val (.long o1), .second, .val (.long u1), .second, .val (.int (0 : Int32)), .val (.long v19), .second, .val (.long v26), .second, .val (.long v34), .second, .val (.long v42), .second, .val (.long v50), .second, .val (.long v58), .second, .val (.ref b3), .val (.ref b8), .val (.ref b14), .val (.int (1 : Int32)), .val (.int (1 : Int32))] [])) _
      refine XS.iconst X21.here hx rfl (hb hby at_154) ?_
      show Steps p.tables e below (T21.setTop (mkF m 155 #[.val (.long d0), .second, .val (.long o0), .second, .val (.long u0), .second, .val (.long d1), .second, .val (.long o1), .second, .val (.long u1), .second, .val (.int (0 : Int32)), .val (.long v19), .second, .val (.long v26), .second, .val (.long v34), .second, .val (.long v42), .second, .val (.long v50), .second, .val (.long v58), .second, .val (.ref b3), .val (.ref b8), .val (.ref b14), .val (.int (1 : Int32)), .val (.int (1 : Int32))] [(.int (1 : Int32))])) _
      refine XS.goto X21.here hx rfl (pc0 := 155) (pc' := 159) rfl (hb hby at_155) (by decide) (by decide) ?_
      show Steps p.tables e below (T21.setTop (mkF m 159 #[.val (.long d0), .second, .val (.long o0), .second, .val (.long u0), .second, .val (.long d1), .second, .val (.long o1), .second, .val (.long u1), .second, .val (.int (0 : Int32)), .val (.long v19), .second, .val (.long v26), .second, .val (.long v34), .second, .val (.long v42), .second, .val (.long v50), .second, .val (.long v58), .second, .val (.ref b3), .val (.ref b8), .val (.ref b14), .val (.int (1 : Int32)), .val (.int (1 : Int32))] [(.int (1 : Int32))])) _
      exact retN X21 hx (t := .boolean) Bd.returns (by simp) (hb hby at_159) hr
    · show Q0 Z d0 o0 u0 d1 o1 u1 h0 n0 _ T21.heap _
      rw [e21]
      exact ⟨rfl, N21⟩
  · subst hs2
    obtain ⟨v19, hv19⟩ : ∃ z_q : Int64, z_q = (d0 &&& (9223372036854775807 : Int64)) := ⟨_, rfl⟩
    obtain ⟨v26, hv26⟩ : ∃ z_q : Int64, z_q = (o0 &&& (9223372036854775807 : Int64)) := ⟨_, rfl⟩
    obtain ⟨v34, hv34⟩ : ∃ z_q : Int64, z_q = (u0 &&& (9223372036854775807 : Int64)) := ⟨_, rfl⟩
    obtain ⟨v42, hv42⟩ : ∃ z_q : Int64, z_q = (d1 &&& (9223372036854775807 : Int64)) := ⟨_, rfl⟩
    obtain ⟨v50, hv50⟩ : ∃ z_q : Int64, z_q = (o1 &&& (9223372036854775807 : Int64)) := ⟨_, rfl⟩
    obtain ⟨v58, hv58⟩ : ∃ z_q : Int64, z_q = (u1 &&& (9223372036854775807 : Int64)) := ⟨_, rfl⟩
    obtain ⟨_, _, ⟨T22, L22, k22, n22⟩, -, X22, ⟨Lc22, hQ22, l22, y22, z22⟩, st22⟩ := Jvm.LawKit.callS X0 hx (y := (⟨"com/example/evenkeel/evenkeel/cli/AuditFitsPinLaw", "make", "(IJJ)[J"⟩ : MethodName)) hown (mvT hZ (hw _ (List.mem_of_getElem? (i := 1) rfl))) (mvT hZ (hw _ (List.mem_of_getElem? (i := 2) rfl))) (mvT hZ (hw _ (List.mem_of_getElem? (i := 3) rfl))) (mvT hZ (hw _ (List.mem_of_getElem? (i := 4) rfl))) (by decide) (backOf (W := 0) (rm1_1 l Z a0 hw [] (1 : Int32) v19 v42 h0 n0 Z0 rfl) hZ (hw _ (List.mem_of_getElem? (i := 4) rfl)) (hw _ (List.mem_of_getElem? (i := 3) rfl)) (by decide) (by decide)) (g := (mkF m 66 #[.val (.long d0), .second, .val (.long o0), .second, .val (.long u0), .second, .val (.long d1), .second, .val (.long o1), .second, .val (.long u1), .second, .val (.int (1 : Int32)), .val (.long v19), .second, .val (.long v26), .second, .val (.long v34), .second, .val (.long v42), .second, .val (.long v50), .second, .val (.long v58), .second, .unset, .unset, .unset, .unset, .unset] [(.long v42), (.long v19), (.int (1 : Int32))])) rfl (by rw [hml]; rfl) (argsL := [(.int (1 : Int32)), (.long v19), (.long v42)]) (rest := []) (lenOf pd_0 rfl) rfl (by show 2 * 0 + _ ≤ _; exact Nat.le_of_eq rfl) (hb hby at_66) (fun _ _ => ⟨rfl, e0, (by decide : 0 + 1 ≤ _), (by decide : 0 + 1 ≤ _)⟩)
    dsimp only [Pt.U, Pt.locs, Pt.cells, Pt.slots] at X22 l22 y22 z22 st22 hQ22
    subst l22 y22 z22
    obtain ⟨kx23, b22, rfl, N22q, K22q, g_b22, szq_b22, F24⟩ := hQ22
    have N22 := Fr.app N0 N22q
    have sz_b22 : h0.size ≤ b22 := Nat.le_trans K0.1 szq_b22
    have Z25 : n0 ≤ T22.heap.size := Nat.le_trans Z0 K22q.1
    have K26 : Keep h0 T22.heap [] := K0.trans K22q all0
    obtain ⟨_, _, ⟨T27, L27, k27, n27⟩, -, X27, ⟨Lc27, hQ27, l27, y27, z27⟩, st27⟩ := Jvm.LawKit.callS X22 hx (y := (⟨"com/example/evenkeel/evenkeel/cli/AuditFitsPinLaw", "make", "(IJJ)[J"⟩ : MethodName)) hown (mvT hZ (hw _ (List.mem_of_getElem? (i := 1) rfl))) (mvT hZ (hw _ (List.mem_of_getElem? (i := 2) rfl))) (mvT hZ (hw _ (List.mem_of_getElem? (i := 3) rfl))) (mvT hZ (hw _ (List.mem_of_getElem? (i := 4) rfl))) (by decide) (backOf (W := 0) (rm1_1 l Z a0 hw [] (1 : Int32) v26 v50 T22.heap n0 Z25 rfl) hZ (hw _ (List.mem_of_getElem? (i := 4) rfl)) (hw _ (List.mem_of_getElem? (i := 3) rfl)) (by decide) (by decide)) (g := (mkF m 77 #[.val (.long d0), .second, .val (.long o0), .second, .val (.long u0), .second, .val (.long d1), .second, .val (.long o1), .second, .val (.long u1), .second, .val (.int (1 : Int32)), .val (.long v19), .second, .val (.long v26), .second, .val (.long v34), .second, .val (.long v42), .second, .val (.long v50), .second, .val (.long v58), .second, .val (.ref b22), .unset, .unset, .unset, .unset] [(.long v50), (.long v26), (.int (1 : Int32))])) rfl (by rw [hml]; rfl) (argsL := [(.int (1 : Int32)), (.long v26), (.long v50)]) (rest := []) (lenOf pd_0 rfl) rfl (by show 2 * 0 + _ ≤ _; exact Nat.le_of_eq rfl) (hb hby at_77) (fun _ _ => ⟨rfl, rfl, (by decide : 1 + 1 ≤ _), (by decide : 1 + 1 ≤ _)⟩)
    dsimp only [Pt.U, Pt.locs, Pt.cells, Pt.slots] at X27 l27 y27 z27 st27 hQ27
    subst l27 y27 z27
    obtain ⟨kx28, b27, rfl, N27q, K27q, g_b27, szq_b27, F29⟩ := hQ27
    have N27 := Fr.app N22 N27q
    have ne_b22_b27 : b22 ≠ b27 := Nat.ne_of_lt (Nat.lt_of_lt_of_le F24.lt szq_b27)
    have sz_b27 : h0.size ≤ b27 := Nat.le_trans K26.1 szq_b27
    have F30 : Arv Z T27.heap b22 kx23 .long (1 : Int32) [(.long v19)] (.long (0 : Int64)) := F24.keep K27q nin0
    have Z31 : n0 ≤ T27.heap.size := Nat.le_trans Z25 K27q.1
    have K32 : Keep h0 T27.heap [] := K26.trans K27q all0
    obtain ⟨_, _, ⟨T33, L33, k33, n33⟩, -, X33, ⟨Lc33, hQ33, l33, y33, z33⟩, st33⟩ := Jvm.LawKit.callS X27 hx (y := (⟨"com/example/evenkeel/evenkeel/cli/AuditFitsPinLaw", "make", "(IJJ)[J"⟩ : MethodName)) hown (mvT hZ (hw _ (List.mem_of_getElem? (i := 1) rfl))) (mvT hZ (hw _ (List.mem_of_getElem? (i := 2) rfl))) (mvT hZ (hw _ (List.mem_of_getElem? (i := 3) rfl))) (mvT hZ (hw _ (List.mem_of_getElem? (i := 4) rfl))) (by decide) (backOf (W := 0) (rm1_1 l Z a0 hw [] (1 : Int32) v34 v58 T27.heap n0 Z31 rfl) hZ (hw _ (List.mem_of_getElem? (i := 4) rfl)) (hw _ (List.mem_of_getElem? (i := 3) rfl)) (by decide) (by decide)) (g := (mkF m 88 #[.val (.long d0), .second, .val (.long o0), .second, .val (.long u0), .second, .val (.long d1), .second, .val (.long o1), .second, .val (.long u1), .second, .val (.int (1 : Int32)), .val (.long v19), .second, .val (.long v26), .second, .val (.long v34), .second, .val (.long v42), .second, .val (.long v50), .second, .val (.long v58), .second, .val (.ref b22), .val (.ref b27), .unset, .unset, .unset] [(.long v58), (.long v34), (.int (1 : Int32))])) rfl (by rw [hml]; rfl) (argsL := [(.int (1 : Int32)), (.long v34), (.long v58)]) (rest := []) (lenOf pd_0 rfl) rfl (by show 2 * 0 + _ ≤ _; exact Nat.le_of_eq rfl) (hb hby at_88) (fun _ _ => ⟨rfl, rfl, (by decide : 2 + 1 ≤ _), (by decide : 2 + 1 ≤ _)⟩)
    dsimp only [Pt.U, Pt.locs, Pt.cells, Pt.slots] at X33 l33 y33 z33 st33 hQ33
    subst l33 y33 z33
    obtain ⟨kx34, b33, rfl, N33q, K33q, g_b33, szq_b33, F35⟩ := hQ33
    have N33 := Fr.app N27 N33q
    have ne_b22_b33 : b22 ≠ b33 := Nat.ne_of_lt (Nat.lt_of_lt_of_le F30.lt szq_b33)
    have ne_b27_b33 : b27 ≠ b33 := Nat.ne_of_lt (Nat.lt_of_lt_of_le F29.lt szq_b33)
    have sz_b33 : h0.size ≤ b33 := Nat.le_trans K32.1 szq_b33
    have F36 : Arv Z T33.heap b22 kx23 .long (1 : Int32) [(.long v19)] (.long (0 : Int64)) := F30.keep K33q nin0
    have F37 : Arv Z T33.heap b27 kx28 .long (1 : Int32) [(.long v26)] (.long (0 : Int64)) := F29.keep K33q nin0
    have Z38 : n0 ≤ T33.heap.size := Nat.le_trans Z31 K33q.1
    have K39 : Keep h0 T33.heap [] := K32.trans K33q all0
    obtain ⟨_, _, ⟨T40, L40, k40, n40⟩, -, X40, ⟨Lc40, hQ40, l40, y40, z40⟩, st40⟩ := Jvm.LawKit.callS X33 hx (y := (⟨"com/example/evenkeel/evenkeel/cli/Audit", "fits", "([J[J[J)Z"⟩ : MethodName)) hown (mvT hZ (hw _ (List.mem_of_getElem? (i := 6) rfl))) (mvT hZ (hw _ (List.mem_of_getElem? (i := 7) rfl))) (mvT hZ (hw _ (List.mem_of_getElem? (i := 8) rfl))) (mvT hZ (hw _ (List.mem_of_getElem? (i := 9) rfl))) (by decide) (backOf (W := 0) (rm2_1 l Z a0 hw [] b22 b27 b33 kx23 kx28 kx34 v19 v26 v34 T33.heap n0 Z38 F36 F37 F35) hZ (hw _ (List.mem_of_getElem? (i := 9) rfl)) (hw _ (List.mem_of_getElem? (i := 8) rfl)) (by decide) (by decide)) (g := (mkF m 99 #[.val (.long d0), .second, .val (.long o0), .second, .val (.long u0), .second, .val (.long d1), .second, .val (.long o1), .second, .val (.long u1), .second, .val (.int (1 : Int32)), .val (.long v19), .second, .val (.long v26), .second, .val (.long v34), .second, .val (.long v42), .second, .val (.long v50), .second, .val (.long v58), .second, .val (.ref b22), .val (.ref b27), .val (.ref b33), .unset, .unset] [(.ref b33), (.ref b27), (.ref b22)])) rfl (by rw [hml]; rfl) (argsL := [(.ref b22), (.ref b27), (.ref b33)]) (rest := []) (lenOf pd_1 rfl) rfl (by show 2 * 0 + _ ≤ _; exact Nat.le_of_eq rfl) (hb hby at_99) (fun _ _ => ⟨rfl, rfl, (by decide : 3 + 0 ≤ _), (by decide : 3 + 0 ≤ _)⟩)
    dsimp only [Pt.U, Pt.locs, Pt.cells, Pt.slots] at X40 l40 y40 z40 st40 hQ40
    subst l40 y40 z40
    obtain ⟨rfl, N40q, e40⟩ := hQ40
    have N40 := Fr.app N33 N40q
    obtain ⟨r99, hr99⟩ : ∃ z_q : Int32, z_q = (own_fits1 v19 v26 v34) := ⟨_, rfl⟩
    obtain ⟨_, _, ⟨T41, L41, k41, n41⟩, -, X41, ⟨Lc41, hQ41, l41, y41, z41⟩, st41⟩ := Jvm.LawKit.callS X40 hx (y := (⟨"com/example/evenkeel/evenkeel/cli/AuditFitsPinLaw", "fitsOne", "(JJJ)Z"⟩ : MethodName)) hown (mvT hZ (hw _ (List.mem_of_getElem? (i := 10) rfl))) (mvT hZ (hw _ (List.mem_of_getElem? (i := 11) rfl))) (mvT hZ (hw _ (List.mem_of_getElem? (i := 3) rfl))) (mvT hZ (hw _ (List.mem_of_getElem? (i := 12) rfl))) (by decide) (backOf (W := 0) (rm3 l Z a0 hw [] v19 v26 v34 T33.heap n0 Z38 ) hZ (hw _ (List.mem_of_getElem? (i := 12) rfl)) (hw _ (List.mem_of_getElem? (i := 3) rfl)) (by decide) (by decide)) (g := (mkF m 116 #[.val (.long d0), .second, .val (.long o0), .second, .val (.long u0), .second, .val (.long d1), .second, .val (.long o1), .second, .val (.long u1), .second, .val (.int (1 : Int32)), .val (.long v19), .second, .val (.long v26), .second, .val (.long v34), .second, .val (.long v42), .second, .val (.long v50), .second, .val (.long v58), .second, .val (.ref b22), .val (.ref b27), .val (.ref b33), .val (.int r99), .unset] [(.long v34), (.long v26), (.long v19)])) rfl (by rw [hml]; rfl) (argsL := [(.long v19), (.long v26), (.long v34)]) (rest := []) (lenOf pd_2 rfl) rfl (by show 2 * 0 + _ ≤ _; exact Nat.le_of_eq rfl) (hb hby at_116) (fun _ _ => ⟨rfl, e40, (by decide : 3 + 0 ≤ _), (by decide : 3 + 0 ≤ _)⟩)
    dsimp only [Pt.U, Pt.locs, Pt.cells, Pt.slots] at X41 l41 y41 z41 st41 hQ41
    subst l41 y41 z41
    obtain ⟨rfl, N41q, e41⟩ := hQ41
    have N41 := Fr.app N40 N41q
    obtain ⟨r116, hr116⟩ : ∃ z_q : Int32, z_q = (own_one v19 v26 v34) := ⟨_, rfl⟩
    have pre42 : ∀ tq, Steps p.tables e below (T41.setTop (mkF m 119 #[.val (.long d0), .second, .val (.long o0), .second, .val (.long u0), .second, .val (.long d1), .second, .val (.long o1), .second, .val (.long u1), .second, .val (.int (1 : Int32)), .val (.long v19), .second, .val (.long v26), .second, .val (.long v34), .second, .val (.long v42), .second, .val (.long v50), .second, .val (.long v58), .second, .val (.ref b22), .val (.ref b27), .val (.ref b33), .val (.int r99), .unset] [(.int r116)])) tq → Steps p.tables e below (s₁.setTop (entryFrame m #[(.long d0), (.long o0), (.long u0), (.long d1), (.long o1), (.long u1)] maxLocals)) tq := by
      intro tq kt
      refine pre1 _ ?_
      show Steps p.tables e below (s₁.setTop (mkF m 14 #[.val (.long d0), .second, .val (.long o0), .second, .val (.long u0), .second, .val (.long d1), .second, .val (.long o1), .second, .val (.long u1), .second, .val (.int (1 : Int32)), .unset, .unset, .unset, .unset, .unset, .unset, .unset, .unset, .unset, .unset, .unset, .unset, .unset, .unset, .unset, .unset, .unset] [])) _
      refine XS.lloadN X0.here hx rfl (hb hby at_14) rfl ?_
      show Steps p.tables e below (s₁.setTop (mkF m 15 #[.val (.long d0), .second, .val (.long o0), .second, .val (.long u0), .second, .val (.long d1), .second, .val (.long o1), .second, .val (.long u1), .second, .val (.int (1 : Int32)), .unset, .unset, .unset, .unset, .unset, .unset, .unset, .unset, .unset, .unset, .unset, .unset, .unset, .unset, .unset, .unset, .unset] [(.long d0)])) _
      refine X0.ldc2Long hx hown (mvT hZ (hw _ (List.mem_of_getElem? (i := 0) rfl))) (g := (mkF m 15 #[.val (.long d0), .second, .val (.long o0), .second, .val (.long u0), .second, .val (.long d1), .second, .val (.long o1), .second, .val (.long u1), .second, .val (.int (1 : Int32)), .unset, .unset, .unset, .unset, .unset, .unset, .unset, .unset, .unset, .unset, .unset, .unset, .unset, .unset, .unset, .unset, .unset] [(.long d0)])) rfl (hb hby at_15) _ ?_
      show Steps p.tables e below (s₁.setTop (mkF m 18 #[.val (.long d0), .second, .val (.long o0), .second, .val (.long u0), .second, .val (.long d1), .second, .val (.long o1), .second, .val (.long u1), .second, .val (.int (1 : Int32)), .unset, .unset, .unset, .unset, .unset, .unset, .unset, .unset, .unset, .unset, .unset, .unset, .unset, .unset, .unset, .unset, .unset] [(.long (9223372036854775807 : Int64)), (.long d0)])) _
      refine XS.land X0.here hx rfl (hb hby at_18) rfl ?_
      show Steps p.tables e below (s₁.setTop (mkF m 19 #[.val (.long d0), .second, .val (.long o0), .second, .val (.long u0), .second, .val (.long d1), .second, .val (.long o1), .second, .val (.long u1), .second, .val (.int (1 : Int32)), .unset, .unset, .unset, .unset, .unset, .unset, .unset, .unset, .unset, .unset, .unset, .unset, .unset, .unset, .unset, .unset, .unset] [(.long (d0 &&& (9223372036854775807 : Int64)))])) _
      refine XS.lstore X0.here hx rfl (hb hby at_19) rfl (l' := #[.val (.long d0), .second, .val (.long o0), .second, .val (.long u0), .second, .val (.long d1), .second, .val (.long o1), .second, .val (.long u1), .second, .val (.int (1 : Int32)), .val (.long v19), .second, .unset, .unset, .unset, .unset, .unset, .unset, .unset, .unset, .unset, .unset, .unset, .unset, .unset, .unset, .unset]) (by rw [hv19]; rfl) ?_
      show Steps p.tables e below (s₁.setTop (mkF m 21 #[.val (.long d0), .second, .val (.long o0), .second, .val (.long u0), .second, .val (.long d1), .second, .val (.long o1), .second, .val (.long u1), .second, .val (.int (1 : Int32)), .val (.long v19), .second, .unset, .unset, .unset, .unset, .unset, .unset, .unset, .unset, .unset, .unset, .unset, .unset, .unset, .unset, .unset] [])) _
      refine XS.lloadN X0.here hx rfl (hb hby at_21) rfl ?_
      show Steps p.tables e below (s₁.setTop (mkF m 22 #[.val (.long d0), .second, .val (.long o0), .second, .val (.long u0), .second, .val (.long d1), .second, .val (.long o1), .second, .val (.long u1), .second, .val (.int (1 : Int32)), .val (.long v19), .second, .unset, .unset, .unset, .unset, .unset, .unset, .unset, .unset, .unset, .unset, .unset, .unset, .unset, .unset, .unset] [(.long o0)])) _
      refine X0.ldc2Long hx hown (mvT hZ (hw _ (List.mem_of_getElem? (i := 0) rfl))) (g := (mkF m 22 #[.val (.long d0), .second, .val (.long o0), .second, .val (.long u0), .second, .val (.long d1), .second, .val (.long o1), .second, .val (.long u1), .second, .val (.int (1 : Int32)), .val (.long v19), .second, .unset, .unset, .unset, .unset, .unset, .unset, .unset, .unset, .unset, .unset, .unset, .unset, .unset, .unset, .unset] [(.long o0)])) rfl (hb hby at_22) _ ?_
      show Steps p.tables e below (s₁.setTop (mkF m 25 #[.val (.long d0), .second, .val (.long o0), .second, .val (.long u0), .second, .val (.long d1), .second, .val (.long o1), .second, .val (.long u1), .second, .val (.int (1 : Int32)), .val (.long v19), .second, .unset, .unset, .unset, .unset, .unset, .unset, .unset, .unset, .unset, .unset, .unset, .unset, .unset, .unset, .unset] [(.long (9223372036854775807 : Int64)), (.long o0)])) _
      refine XS.land X0.here hx rfl (hb hby at_25) rfl ?_
      show Steps p.tables e below (s₁.setTop (mkF m 26 #[.val (.long d0), .second, .val (.long o0), .second, .val (.long u0), .second, .val (.long d1), .second, .val (.long o1), .second, .val (.long u1), .second, .val (.int (1 : Int32)), .val (.long v19), .second, .unset, .unset, .unset, .unset, .unset, .unset, .unset, .unset, .unset, .unset, .unset, .unset, .unset, .unset, .unset] [(.long (o0 &&& (9223372036854775807 : Int64)))])) _
      refine XS.lstore X0.here hx rfl (hb hby at_26) rfl (l' := #[.val (.long d0), .second, .val (.long o0), .second, .val (.long u0), .second, .val (.long d1), .second, .val (.long o1), .second, .val (.long u1), .second, .val (.int (1 : Int32)), .val (.long v19), .second, .val (.long v26), .second, .unset, .unset, .unset, .unset, .unset, .unset, .unset, .unset, .unset, .unset, .unset, .unset, .unset]) (by rw [hv26]; rfl) ?_
      show Steps p.tables e below (s₁.setTop (mkF m 28 #[.val (.long d0), .second, .val (.long o0), .second, .val (.long u0), .second, .val (.long d1), .second, .val (.long o1), .second, .val (.long u1), .second, .val (.int (1 : Int32)), .val (.long v19), .second, .val (.long v26), .second, .unset, .unset, .unset, .unset, .unset, .unset, .unset, .unset, .unset, .unset, .unset, .unset, .unset] [])) _
      refine XS.lload X0.here hx rfl (hb hby at_28) rfl ?_
      show Steps p.tables e below (s₁.setTop (mkF m 30 #[.val (.long d0), .second, .val (.long o0), .second, .val (.long u0), .second, .val (.long d1), .second, .val (.long o1), .second, .val (.long u1), .second, .val (.int (1 : Int32)), .val (.long v19), .second, .val (.long v26), .second, .unset, .unset, .unset, .unset, .unset, .unset, .unset, .unset, .unset, .unset, .unset, .unset, .unset] [(.long u0)])) _
      refine X0.ldc2Long hx hown (mvT hZ (hw _ (List.mem_of_getElem? (i := 0) rfl))) (g := (mkF m 30 #[.val (.long d0), .second, .val (.long o0), .second, .val (.long u0), .second, .val (.long d1), .second, .val (.long o1), .second, .val (.long u1), .second, .val (.int (1 : Int32)), .val (.long v19), .second, .val (.long v26), .second, .unset, .unset, .unset, .unset, .unset, .unset, .unset, .unset, .unset, .unset, .unset, .unset, .unset] [(.long u0)])) rfl (hb hby at_30) _ ?_
      show Steps p.tables e below (s₁.setTop (mkF m 33 #[.val (.long d0), .second, .val (.long o0), .second, .val (.long u0), .second, .val (.long d1), .second, .val (.long o1), .second, .val (.long u1), .second, .val (.int (1 : Int32)), .val (.long v19), .second, .val (.long v26), .second, .unset, .unset, .unset, .unset, .unset, .unset, .unset, .unset, .unset, .unset, .unset, .unset, .unset] [(.long (9223372036854775807 : Int64)), (.long u0)])) _
      refine XS.land X0.here hx rfl (hb hby at_33) rfl ?_
      show Steps p.tables e below (s₁.setTop (mkF m 34 #[.val (.long d0), .second, .val (.long o0), .second, .val (.long u0), .second, .val (.long d1), .second, .val (.long o1), .second, .val (.long u1), .second, .val (.int (1 : Int32)), .val (.long v19), .second, .val (.long v26), .second, .unset, .unset, .unset, .unset, .unset, .unset, .unset, .unset, .unset, .unset, .unset, .unset, .unset] [(.long (u0 &&& (9223372036854775807 : Int64)))])) _
      refine XS.lstore X0.here hx rfl (hb hby at_34) rfl (l' := #[.val (.long d0), .second, .val (.long o0), .second, .val (.long u0), .second, .val (.long d1), .second, .val (.long o1), .second, .val (.long u1), .second, .val (.int (1 : Int32)), .val (.long v19), .second, .val (.long v26), .second, .val (.long v34), .second, .unset, .unset, .unset, .unset, .unset, .unset, .unset, .unset, .unset, .unset, .unset]) (by rw [hv34]; rfl) ?_
      show Steps p.tables e below (s₁.setTop (mkF m 36 #[.val (.long d0), .second, .val (.long o0), .second, .val (.long u0), .second, .val (.long d1), .second, .val (.long o1), .second, .val (.long u1), .second, .val (.int (1 : Int32)), .val (.long v19), .second, .val (.long v26), .second, .val (.long v34), .second, .unset, .unset, .unset, .unset, .unset, .unset, .unset, .unset, .unset, .unset, .unset] [])) _
      refine XS.lload X0.here hx rfl (hb hby at_36) rfl ?_
      show Steps p.tables e below (s₁.setTop (mkF m 38 #[.val (.long d0), .second, .val (.long o0), .second, .val (.long u0), .second, .val (.long d1), .second, .val (.long o1), .second, .val (.long u1), .second, .val (.int (1 : Int32)), .val (.long v19), .second, .val (.long v26), .second, .val (.long v34), .second, .unset, .unset, .unset, .unset, .unset, .unset, .unset, .unset, .unset, .unset, .unset] [(.long d1)])) _
      refine X0.ldc2Long hx hown (mvT hZ (hw _ (List.mem_of_getElem? (i := 0) rfl))) (g := (mkF m 38 #[.val (.long d0), .second, .val (.long o0), .second, .val (.long u0), .second, .val (.long d1), .second, .val (.long o1), .second, .val (.long u1), .second, .val (.int (1 : Int32)), .val (.long v19), .second, .val (.long v26), .second, .val (.long v34), .second, .unset, .unset, .unset, .unset, .unset, .unset, .unset, .unset, .unset, .unset, .unset] [(.long d1)])) rfl (hb hby at_38) _ ?_
      show Steps p.tables e below (s₁.setTop (mkF m 41 #[.val (.long d0), .second, .val (.long o0), .second, .val (.long u0), .second, .val (.long d1), .second, .val (.long o1), .second, .val (.long u1), .second, .val (.int (1 : Int32)), .val (.long v19), .second, .val (.long v26), .second, .val (.long v34), .second, .unset, .unset, .unset, .unset, .unset, .unset, .unset, .unset, .unset, .unset, .unset] [(.long (9223372036854775807 : Int64)), (.long d1)])) _
      refine XS.land X0.here hx rfl (hb hby at_41) rfl ?_
      show Steps p.tables e below (s₁.setTop (mkF m 42 #[.val (.long d0), .second, .val (.long o0), .second, .val (.long u0), .second, .val (.long d1), .second, .val (.long o1), .second, .val (.long u1), .second, .val (.int (1 : Int32)), .val (.long v19), .second, .val (.long v26), .second, .val (.long v34), .second, .unset, .unset, .unset, .unset, .unset, .unset, .unset, .unset, .unset, .unset, .unset] [(.long (d1 &&& (9223372036854775807 : Int64)))])) _
      refine XS.lstore X0.here hx rfl (hb hby at_42) rfl (l' := #[.val (.long d0), .second, .val (.long o0), .second, .val (.long u0), .second, .val (.long d1), .second, .val (.long o1), .second, .val (.long u1), .second, .val (.int (1 : Int32)), .val (.long v19), .second, .val (.long v26), .second, .val (.long v34), .second, .val (.long v42), .second, .unset, .unset, .unset, .unset, .unset, .unset, .unset, .unset, .unset]) (by rw [hv42]; rfl) ?_
      show Steps p.tables e below (s₁.setTop (mkF m 44 #[.val (.long d0), .second, .val (.long o0), .second, .val (.long u0), .second, .val (.long d1), .second, .val (.long o1), .second, .val (.long u1), .second, .val (.int (1 : Int32)), .val (.long v19), .second, .val (.long v26), .second, .val (.long v34), .second, .val (.long v42), .second, .unset, .unset, .unset, .unset, .unset, .unset, .unset, .unset, .unset] [])) _
      refine XS.lload X0.here hx rfl (hb hby at_44) rfl ?_
      show Steps p.tables e below (s₁.setTop (mkF m 46 #[.val (.long d0), .second, .val (.long o0), .second, .val (.long u0), .second, .val (.long d1), .second, .val (.long o1), .second, .val (.long u1), .second, .val (.int (1 : Int32)), .val (.long v19), .second, .val (.long v26), .second, .val (.long v34), .second, .val (.long v42), .second, .unset, .unset, .unset, .unset, .unset, .unset, .unset, .unset, .unset] [(.long o1)])) _
      refine X0.ldc2Long hx hown (mvT hZ (hw _ (List.mem_of_getElem? (i := 0) rfl))) (g := (mkF m 46 #[.val (.long d0), .second, .val (.long o0), .second, .val (.long u0), .second, .val (.long d1), .second, .val (.long o1), .second, .val (.long u1), .second, .val (.int (1 : Int32)), .val (.long v19), .second, .val (.long v26), .second, .val (.long v34), .second, .val (.long v42), .second, .unset, .unset, .unset, .unset, .unset, .unset, .unset, .unset, .unset] [(.long o1)])) rfl (hb hby at_46) _ ?_
      show Steps p.tables e below (s₁.setTop (mkF m 49 #[.val (.long d0), .second, .val (.long o0), .second, .val (.long u0), .second, .val (.long d1), .second, .val (.long o1), .second, .val (.long u1), .second, .val (.int (1 : Int32)), .val (.long v19), .second, .val (.long v26), .second, .val (.long v34), .second, .val (.long v42), .second, .unset, .unset, .unset, .unset, .unset, .unset, .unset, .unset, .unset] [(.long (9223372036854775807 : Int64)), (.long o1)])) _
      refine XS.land X0.here hx rfl (hb hby at_49) rfl ?_
      show Steps p.tables e below (s₁.setTop (mkF m 50 #[.val (.long d0), .second, .val (.long o0), .second, .val (.long u0), .second, .val (.long d1), .second, .val (.long o1), .second, .val (.long u1), .second, .val (.int (1 : Int32)), .val (.long v19), .second, .val (.long v26), .second, .val (.long v34), .second, .val (.long v42), .second, .unset, .unset, .unset, .unset, .unset, .unset, .unset, .unset, .unset] [(.long (o1 &&& (9223372036854775807 : Int64)))])) _
      refine XS.lstore X0.here hx rfl (hb hby at_50) rfl (l' := #[.val (.long d0), .second, .val (.long o0), .second, .val (.long u0), .second, .val (.long d1), .second, .val (.long o1), .second, .val (.long u1), .second, .val (.int (1 : Int32)), .val (.long v19), .second, .val (.long v26), .second, .val (.long v34), .second, .val (.long v42), .second, .val (.long v50), .second, .unset, .unset, .unset, .unset, .unset, .unset, .unset]) (by rw [hv50]; rfl) ?_
      show Steps p.tables e below (s₁.setTop (mkF m 52 #[.val (.long d0), .second, .val (.long o0), .second, .val (.long u0), .second, .val (.long d1), .second, .val (.long o1), .second, .val (.long u1), .second, .val (.int (1 : Int32)), .val (.long v19), .second, .val (.long v26), .second, .val (.long v34), .second, .val (.long v42), .second, .val (.long v50), .second, .unset, .unset, .unset, .unset, .unset, .unset, .unset] [])) _
      refine XS.lload X0.here hx rfl (hb hby at_52) rfl ?_
      show Steps p.tables e below (s₁.setTop (mkF m 54 #[.val (.long d0), .second, .val (.long o0), .second, .val (.long u0), .second, .val (.long d1), .second, .val (.long o1), .second, .val (.long u1), .second, .val (.int (1 : Int32)), .val (.long v19), .second, .val (.long v26), .second, .val (.long v34), .second, .val (.long v42), .second, .val (.long v50), .second, .unset, .unset, .unset, .unset, .unset, .unset, .unset] [(.long u1)])) _
      refine X0.ldc2Long hx hown (mvT hZ (hw _ (List.mem_of_getElem? (i := 0) rfl))) (g := (mkF m 54 #[.val (.long d0), .second, .val (.long o0), .second, .val (.long u0), .second, .val (.long d1), .second, .val (.long o1), .second, .val (.long u1), .second, .val (.int (1 : Int32)), .val (.long v19), .second, .val (.long v26), .second, .val (.long v34), .second, .val (.long v42), .second, .val (.long v50), .second, .unset, .unset, .unset, .unset, .unset, .unset, .unset] [(.long u1)])) rfl (hb hby at_54) _ ?_
      show Steps p.tables e below (s₁.setTop (mkF m 57 #[.val (.long d0), .second, .val (.long o0), .second, .val (.long u0), .second, .val (.long d1), .second, .val (.long o1), .second, .val (.long u1), .second, .val (.int (1 : Int32)), .val (.long v19), .second, .val (.long v26), .second, .val (.long v34), .second, .val (.long v42), .second, .val (.long v50), .second, .unset, .unset, .unset, .unset, .unset, .unset, .unset] [(.long (9223372036854775807 : Int64)), (.long u1)])) _
      refine XS.land X0.here hx rfl (hb hby at_57) rfl ?_
      show Steps p.tables e below (s₁.setTop (mkF m 58 #[.val (.long d0), .second, .val (.long o0), .second, .val (.long u0), .second, .val (.long d1), .second, .val (.long o1), .second, .val (.long u1), .second, .val (.int (1 : Int32)), .val (.long v19), .second, .val (.long v26), .second, .val (.long v34), .second, .val (.long v42), .second, .val (.long v50), .second, .unset, .unset, .unset, .unset, .unset, .unset, .unset] [(.long (u1 &&& (9223372036854775807 : Int64)))])) _
      refine XS.lstore X0.here hx rfl (hb hby at_58) rfl (l' := #[.val (.long d0), .second, .val (.long o0), .second, .val (.long u0), .second, .val (.long d1), .second, .val (.long o1), .second, .val (.long u1), .second, .val (.int (1 : Int32)), .val (.long v19), .second, .val (.long v26), .second, .val (.long v34), .second, .val (.long v42), .second, .val (.long v50), .second, .val (.long v58), .second, .unset, .unset, .unset, .unset, .unset]) (by rw [hv58]; rfl) ?_
      show Steps p.tables e below (s₁.setTop (mkF m 60 #[.val (.long d0), .second, .val (.long o0), .second, .val (.long u0), .second, .val (.long d1), .second, .val (.long o1), .second, .val (.long u1), .second, .val (.int (1 : Int32)), .val (.long v19), .second, .val (.long v26), .second, .val (.long v34), .second, .val (.long v42), .second, .val (.long v50), .second, .val (.long v58), .second, .unset, .unset, .unset, .unset, .unset] [])) _
      refine XS.iload X0.here hx rfl (hb hby at_60) rfl ?_
      show Steps p.tables e below (s₁.setTop (mkF m 62 #[.val (.long d0), .second, .val (.long o0), .second, .val (.long u0), .second, .val (.long d1), .second, .val (.long o1), .second, .val (.long u1), .second, .val (.int (1 : Int32)), .val (.long v19), .second, .val (.long v26), .second, .val (.long v34), .second, .val (.long v42), .second, .val (.long v50), .second, .val (.long v58), .second, .unset, .unset, .unset, .unset, .unset] [(.int (1 : Int32))])) _
      refine XS.lload X0.here hx rfl (hb hby at_62) rfl ?_
      show Steps p.tables e below (s₁.setTop (mkF m 64 #[.val (.long d0), .second, .val (.long o0), .second, .val (.long u0), .second, .val (.long d1), .second, .val (.long o1), .second, .val (.long u1), .second, .val (.int (1 : Int32)), .val (.long v19), .second, .val (.long v26), .second, .val (.long v34), .second, .val (.long v42), .second, .val (.long v50), .second, .val (.long v58), .second, .unset, .unset, .unset, .unset, .unset] [(.long v19), (.int (1 : Int32))])) _
      refine XS.lload X0.here hx rfl (hb hby at_64) rfl ?_
      show Steps p.tables e below (s₁.setTop (mkF m 66 #[.val (.long d0), .second, .val (.long o0), .second, .val (.long u0), .second, .val (.long d1), .second, .val (.long o1), .second, .val (.long u1), .second, .val (.int (1 : Int32)), .val (.long v19), .second, .val (.long v26), .second, .val (.long v34), .second, .val (.long v42), .second, .val (.long v50), .second, .val (.long v58), .second, .unset, .unset, .unset, .unset, .unset] [(.long v42), (.long v19), (.int (1 : Int32))])) _
      refine st22 _ ?_
      show Steps p.tables e below (T22.setTop (mkF m 69 #[.val (.long d0), .second, .val (.long o0), .second, .val (.long u0), .second, .val (.long d1), .second, .val (.long o1), .second, .val (.long u1), .second, .val (.int (1 : Int32)), .val (.long v19), .second, .val (.long v26), .second, .val (.long v34), .second, .val (.long v42), .second, .val (.long v50), .second, .val (.long v58), .second, .unset, .unset, .unset, .unset, .unset] [(.ref b22)])) _
      refine XS.astore X22.here hx rfl (hb hby at_69) rfl rfl (l' := #[.val (.long d0), .second, .val (.long o0), .second, .val (.long u0), .second, .val (.long d1), .second, .val (.long o1), .second, .val (.long u1), .second, .val (.int (1 : Int32)), .val (.long v19), .second, .val (.long v26), .second, .val (.long v34), .second, .val (.long v42), .second, .val (.long v50), .second, .val (.long v58), .second, .val (.ref b22), .unset, .unset, .unset, .unset]) rfl ?_
      show Steps p.tables e below (T22.setTop (mkF m 71 #[.val (.long d0), .second, .val (.long o0), .second, .val (.long u0), .second, .val (.long d1), .second, .val (.long o1), .second, .val (.long u1), .second, .val (.int (1 : Int32)), .val (.long v19), .second, .val (.long v26), .second, .val (.long v34), .second, .val (.long v42), .second, .val (.long v50), .second, .val (.long v58), .second, .val (.ref b22), .unset, .unset, .unset, .unset] [])) _
      refine XS.iload X22.here hx rfl (hb hby at_71) rfl ?_
      show Steps p.tables e below (T22.setTop (mkF m 73 #[.val (.long d0), .second, .val (.long o0), .second, .val (.long u0), .second, .val (.long d1), .second, .val (.long o1), .second, .val (.long u1), .second, .val (.int (1 : Int32)), .val (.long v19), .second, .val (.long v26), .second, .val (.long v34), .second, .val (.long v42), .second, .val (.long v50), .second, .val (.long v58), .second, .val (.ref b22), .unset, .unset, .unset, .unset] [(.int (1 : Int32))])) _
      refine XS.lload X22.here hx rfl (hb hby at_73) rfl ?_
      show Steps p.tables e below (T22.setTop (mkF m 75 #[.val (.long d0), .second, .val (.long o0), .second, .val (.long u0), .second, .val (.long d1), .second, .val (.long o1), .second, .val (.long u1), .second, .val (.int (1 : Int32)), .val (.long v19), .second, .val (.long v26), .second, .val (.long v34), .second, .val (.long v42), .second, .val (.long v50), .second, .val (.long v58), .second, .val (.ref b22), .unset, .unset, .unset, .unset] [(.long v26), (.int (1 : Int32))])) _
      refine XS.lload X22.here hx rfl (hb hby at_75) rfl ?_
      show Steps p.tables e below (T22.setTop (mkF m 77 #[.val (.long d0), .second, .val (.long o0), .second, .val (.long u0), .second, .val (.long d1), .second, .val (.long o1), .second, .val (.long u1), .second, .val (.int (1 : Int32)), .val (.long v19), .second, .val (.long v26), .second, .val (.long v34), .second, .val (.long v42), .second, .val (.long v50), .second, .val (.long v58), .second, .val (.ref b22), .unset, .unset, .unset, .unset] [(.long v50), (.long v26), (.int (1 : Int32))])) _
      refine st27 _ ?_
      show Steps p.tables e below (T27.setTop (mkF m 80 #[.val (.long d0), .second, .val (.long o0), .second, .val (.long u0), .second, .val (.long d1), .second, .val (.long o1), .second, .val (.long u1), .second, .val (.int (1 : Int32)), .val (.long v19), .second, .val (.long v26), .second, .val (.long v34), .second, .val (.long v42), .second, .val (.long v50), .second, .val (.long v58), .second, .val (.ref b22), .unset, .unset, .unset, .unset] [(.ref b27)])) _
      refine XS.astore X27.here hx rfl (hb hby at_80) rfl rfl (l' := #[.val (.long d0), .second, .val (.long o0), .second, .val (.long u0), .second, .val (.long d1), .second, .val (.long o1), .second, .val (.long u1), .second, .val (.int (1 : Int32)), .val (.long v19), .second, .val (.long v26), .second, .val (.long v34), .second, .val (.long v42), .second, .val (.long v50), .second, .val (.long v58), .second, .val (.ref b22), .val (.ref b27), .unset, .unset, .unset]) rfl ?_
      show Steps p.tables e below (T27.setTop (mkF m 82 #[.val (.long d0), .second, .val (.long o0), .second, .val (.long u0), .second, .val (.long d1), .second, .val (.long o1), .second, .val (.long u1), .second, .val (.int (1 : Int32)), .val (.long v19), .second, .val (.long v26), .second, .val (.long v34), .second, .val (.long v42), .second, .val (.long v50), .second, .val (.long v58), .second, .val (.ref b22), .val (.ref b27), .unset, .unset, .unset] [])) _
      refine XS.iload X27.here hx rfl (hb hby at_82) rfl ?_
      show Steps p.tables e below (T27.setTop (mkF m 84 #[.val (.long d0), .second, .val (.long o0), .second, .val (.long u0), .second, .val (.long d1), .second, .val (.long o1), .second, .val (.long u1), .second, .val (.int (1 : Int32)), .val (.long v19), .second, .val (.long v26), .second, .val (.long v34), .second, .val (.long v42), .second, .val (.long v50), .second, .val (.long v58), .second, .val (.ref b22), .val (.ref b27), .unset, .unset, .unset] [(.int (1 : Int32))])) _
      refine XS.lload X27.here hx rfl (hb hby at_84) rfl ?_
      show Steps p.tables e below (T27.setTop (mkF m 86 #[.val (.long d0), .second, .val (.long o0), .second, .val (.long u0), .second, .val (.long d1), .second, .val (.long o1), .second, .val (.long u1), .second, .val (.int (1 : Int32)), .val (.long v19), .second, .val (.long v26), .second, .val (.long v34), .second, .val (.long v42), .second, .val (.long v50), .second, .val (.long v58), .second, .val (.ref b22), .val (.ref b27), .unset, .unset, .unset] [(.long v34), (.int (1 : Int32))])) _
      refine XS.lload X27.here hx rfl (hb hby at_86) rfl ?_
      show Steps p.tables e below (T27.setTop (mkF m 88 #[.val (.long d0), .second, .val (.long o0), .second, .val (.long u0), .second, .val (.long d1), .second, .val (.long o1), .second, .val (.long u1), .second, .val (.int (1 : Int32)), .val (.long v19), .second, .val (.long v26), .second, .val (.long v34), .second, .val (.long v42), .second, .val (.long v50), .second, .val (.long v58), .second, .val (.ref b22), .val (.ref b27), .unset, .unset, .unset] [(.long v58), (.long v34), (.int (1 : Int32))])) _
      refine st33 _ ?_
      show Steps p.tables e below (T33.setTop (mkF m 91 #[.val (.long d0), .second, .val (.long o0), .second, .val (.long u0), .second, .val (.long d1), .second, .val (.long o1), .second, .val (.long u1), .second, .val (.int (1 : Int32)), .val (.long v19), .second, .val (.long v26), .second, .val (.long v34), .second, .val (.long v42), .second, .val (.long v50), .second, .val (.long v58), .second, .val (.ref b22), .val (.ref b27), .unset, .unset, .unset] [(.ref b33)])) _
      refine XS.astore X33.here hx rfl (hb hby at_91) rfl rfl (l' := #[.val (.long d0), .second, .val (.long o0), .second, .val (.long u0), .second, .val (.long d1), .second, .val (.long o1), .second, .val (.long u1), .second, .val (.int (1 : Int32)), .val (.long v19), .second, .val (.long v26), .second, .val (.long v34), .second, .val (.long v42), .second, .val (.long v50), .second, .val (.long v58), .second, .val (.ref b22), .val (.ref b27), .val (.ref b33), .unset, .unset]) rfl ?_
      show Steps p.tables e below (T33.setTop (mkF m 93 #[.val (.long d0), .second, .val (.long o0), .second, .val (.long u0), .second, .val (.long d1), .second, .val (.long o1), .second, .val (.long u1), .second, .val (.int (1 : Int32)), .val (.long v19), .second, .val (.long v26), .second, .val (.long v34), .second, .val (.long v42), .second, .val (.long v50), .second, .val (.long v58), .second, .val (.ref b22), .val (.ref b27), .val (.ref b33), .unset, .unset] [])) _
      refine XS.aload X33.here hx rfl (hb hby at_93) rfl rfl ?_
      show Steps p.tables e below (T33.setTop (mkF m 95 #[.val (.long d0), .second, .val (.long o0), .second, .val (.long u0), .second, .val (.long d1), .second, .val (.long o1), .second, .val (.long u1), .second, .val (.int (1 : Int32)), .val (.long v19), .second, .val (.long v26), .second, .val (.long v34), .second, .val (.long v42), .second, .val (.long v50), .second, .val (.long v58), .second, .val (.ref b22), .val (.ref b27), .val (.ref b33), .unset, .unset] [(.ref b22)])) _
      refine XS.aload X33.here hx rfl (hb hby at_95) rfl rfl ?_
      show Steps p.tables e below (T33.setTop (mkF m 97 #[.val (.long d0), .second, .val (.long o0), .second, .val (.long u0), .second, .val (.long d1), .second, .val (.long o1), .second, .val (.long u1), .second, .val (.int (1 : Int32)), .val (.long v19), .second, .val (.long v26), .second, .val (.long v34), .second, .val (.long v42), .second, .val (.long v50), .second, .val (.long v58), .second, .val (.ref b22), .val (.ref b27), .val (.ref b33), .unset, .unset] [(.ref b27), (.ref b22)])) _
      refine XS.aload X33.here hx rfl (hb hby at_97) rfl rfl ?_
      show Steps p.tables e below (T33.setTop (mkF m 99 #[.val (.long d0), .second, .val (.long o0), .second, .val (.long u0), .second, .val (.long d1), .second, .val (.long o1), .second, .val (.long u1), .second, .val (.int (1 : Int32)), .val (.long v19), .second, .val (.long v26), .second, .val (.long v34), .second, .val (.long v42), .second, .val (.long v50), .second, .val (.long v58), .second, .val (.ref b22), .val (.ref b27), .val (.ref b33), .unset, .unset] [(.ref b33), (.ref b27), (.ref b22)])) _
      refine st40 _ ?_
      show Steps p.tables e below (T40.setTop (mkF m 102 #[.val (.long d0), .second, .val (.long o0), .second, .val (.long u0), .second, .val (.long d1), .second, .val (.long o1), .second, .val (.long u1), .second, .val (.int (1 : Int32)), .val (.long v19), .second, .val (.long v26), .second, .val (.long v34), .second, .val (.long v42), .second, .val (.long v50), .second, .val (.long v58), .second, .val (.ref b22), .val (.ref b27), .val (.ref b33), .unset, .unset] [(.int (own_fits1 v19 v26 v34))])) _
      rw [← hr99]
      show Steps p.tables e below (T40.setTop (mkF m 102 #[.val (.long d0), .second, .val (.long o0), .second, .val (.long u0), .second, .val (.long d1), .second, .val (.long o1), .second, .val (.long u1), .second, .val (.int (1 : Int32)), .val (.long v19), .second, .val (.long v26), .second, .val (.long v34), .second, .val (.long v42), .second, .val (.long v50), .second, .val (.long v58), .second, .val (.ref b22), .val (.ref b27), .val (.ref b33), .unset, .unset] [(.int r99)])) _
      refine XS.istore X40.here hx rfl (hb hby at_102) rfl (l' := #[.val (.long d0), .second, .val (.long o0), .second, .val (.long u0), .second, .val (.long d1), .second, .val (.long o1), .second, .val (.long u1), .second, .val (.int (1 : Int32)), .val (.long v19), .second, .val (.long v26), .second, .val (.long v34), .second, .val (.long v42), .second, .val (.long v50), .second, .val (.long v58), .second, .val (.ref b22), .val (.ref b27), .val (.ref b33), .val (.int r99), .unset]) rfl ?_
      show Steps p.tables e below (T40.setTop (mkF m 104 #[.val (.long d0), .second, .val (.long o0), .second, .val (.long u0), .second, .val (.long d1), .second, .val (.long o1), .second, .val (.long u1), .second, .val (.int (1 : Int32)), .val (.long v19), .second, .val (.long v26), .second, .val (.long v34), .second, .val (.long v42), .second, .val (.long v50), .second, .val (.long v58), .second, .val (.ref b22), .val (.ref b27), .val (.ref b33), .val (.int r99), .unset] [])) _
      refine XS.iload X40.here hx rfl (hb hby at_104) rfl ?_
      show Steps p.tables e below (T40.setTop (mkF m 106 #[.val (.long d0), .second, .val (.long o0), .second, .val (.long u0), .second, .val (.long d1), .second, .val (.long o1), .second, .val (.long u1), .second, .val (.int (1 : Int32)), .val (.long v19), .second, .val (.long v26), .second, .val (.long v34), .second, .val (.long v42), .second, .val (.long v50), .second, .val (.long v58), .second, .val (.ref b22), .val (.ref b27), .val (.ref b33), .val (.int r99), .unset] [(.int (1 : Int32))])) _
      refine XS.iconst X40.here hx rfl (hb hby at_106) ?_
      show Steps p.tables e below (T40.setTop (mkF m 107 #[.val (.long d0), .second, .val (.long o0), .second, .val (.long u0), .second, .val (.long d1), .second, .val (.long o1), .second, .val (.long u1), .second, .val (.int (1 : Int32)), .val (.long v19), .second, .val (.long v26), .second, .val (.long v34), .second, .val (.long v42), .second, .val (.long v50), .second, .val (.long v58), .second, .val (.ref b22), .val (.ref b27), .val (.ref b33), .val (.int r99), .unset] [(.int (1 : Int32)), (.int (1 : Int32))])) _
      refine XS.icmpNo X40.here hx rfl (hb hby at_107) rfl (flt (by decide)).1 ?_
      show Steps p.tables e below (T40.setTop (mkF m 110 #[.val (.long d0), .second, .val (.long o0), .second, .val (.long u0), .second, .val (.long d1), .second, .val (.long o1), .second, .val (.long u1), .second, .val (.int (1 : Int32)), .val (.long v19), .second, .val (.long v26), .second, .val (.long v34), .second, .val (.long v42), .second, .val (.long v50), .second, .val (.long v58), .second, .val (.ref b22), .val (.ref b27), .val (.ref b33), .val (.int r99), .unset] [])) _
      refine XS.lload X40.here hx rfl (hb hby at_110) rfl ?_
      show Steps p.tables e below (T40.setTop (mkF m 112 #[.val (.long d0), .second, .val (.long o0), .second, .val (.long u0), .second, .val (.long d1), .second, .val (.long o1), .second, .val (.long u1), .second, .val (.int (1 : Int32)), .val (.long v19), .second, .val (.long v26), .second, .val (.long v34), .second, .val (.long v42), .second, .val (.long v50), .second, .val (.long v58), .second, .val (.ref b22), .val (.ref b27), .val (.ref b33), .val (.int r99), .unset] [(.long v19)])) _
      refine XS.lload X40.here hx rfl (hb hby at_112) rfl ?_
      show Steps p.tables e below (T40.setTop (mkF m 114 #[.val (.long d0), .second, .val (.long o0), .second, .val (.long u0), .second, .val (.long d1), .second, .val (.long o1), .second, .val (.long u1), .second, .val (.int (1 : Int32)), .val (.long v19), .second, .val (.long v26), .second, .val (.long v34), .second, .val (.long v42), .second, .val (.long v50), .second, .val (.long v58), .second, .val (.ref b22), .val (.ref b27), .val (.ref b33), .val (.int r99), .unset] [(.long v26), (.long v19)])) _
      refine XS.lload X40.here hx rfl (hb hby at_114) rfl ?_
      show Steps p.tables e below (T40.setTop (mkF m 116 #[.val (.long d0), .second, .val (.long o0), .second, .val (.long u0), .second, .val (.long d1), .second, .val (.long o1), .second, .val (.long u1), .second, .val (.int (1 : Int32)), .val (.long v19), .second, .val (.long v26), .second, .val (.long v34), .second, .val (.long v42), .second, .val (.long v50), .second, .val (.long v58), .second, .val (.ref b22), .val (.ref b27), .val (.ref b33), .val (.int r99), .unset] [(.long v34), (.long v26), (.long v19)])) _
      refine st41 _ ?_
      show Steps p.tables e below (T41.setTop (mkF m 119 #[.val (.long d0), .second, .val (.long o0), .second, .val (.long u0), .second, .val (.long d1), .second, .val (.long o1), .second, .val (.long u1), .second, .val (.int (1 : Int32)), .val (.long v19), .second, .val (.long v26), .second, .val (.long v34), .second, .val (.long v42), .second, .val (.long v50), .second, .val (.long v58), .second, .val (.ref b22), .val (.ref b27), .val (.ref b33), .val (.int r99), .unset] [(.int (own_one v19 v26 v34))])) _
      rw [← hr116]
      show Steps p.tables e below (T41.setTop (mkF m 119 #[.val (.long d0), .second, .val (.long o0), .second, .val (.long u0), .second, .val (.long d1), .second, .val (.long o1), .second, .val (.long u1), .second, .val (.int (1 : Int32)), .val (.long v19), .second, .val (.long v26), .second, .val (.long v34), .second, .val (.long v42), .second, .val (.long v50), .second, .val (.long v58), .second, .val (.ref b22), .val (.ref b27), .val (.ref b33), .val (.int r99), .unset] [(.int r116)])) _
      exact kt
    by_cases hc119_43 : r116 = (0 : Int32)
    · skip
      obtain ⟨m159, hm159⟩ : ∃ z_q : Int32, z_q = (if r99 = (0 : Int32) then (1 : Int32) else (0 : Int32)) := ⟨_, rfl⟩
      have pre45 : ∀ tq, Steps p.tables e below (T41.setTop (mkF m 159 #[.val (.long d0), .second, .val (.long o0), .second, .val (.long u0), .second, .val (.long d1), .second, .val (.long o1), .second, .val (.long u1), .second, .val (.int (1 : Int32)), .val (.long v19), .second, .val (.long v26), .second, .val (.long v34), .second, .val (.long v42), .second, .val (.long v50), .second, .val (.long v58), .second, .val (.ref b22), .val (.ref b27), .val (.ref b33), .val (.int r99), .val (.int (0 : Int32))] [(.int m159)])) tq → Steps p.tables e below (s₁.setTop (entryFrame m #[(.long d0), (.long o0), (.long u0), (.long d1), (.long o1), (.long u1)] maxLocals)) tq := by
        intro tq kt
        refine pre42 _ ?_
        show Steps p.tables e below (T41.setTop (mkF m 119 #[.val (.long d0), .second, .val (.long o0), .second, .val (.long u0), .second, .val (.long d1), .second, .val (.long o1), .second, .val (.long u1), .second, .val (.int (1 : Int32)), .val (.long v19), .second, .val (.long v26), .second, .val (.long v34), .second, .val (.long v42), .second, .val (.long v50), .second, .val (.long v58), .second, .val (.ref b22), .val (.ref b27), .val (.ref b33), .val (.int r99), .unset] [(.int r116)])) _
        refine XS.ifYes X41.here hx rfl (pc0 := 119) (pc' := 144) rfl (hb hby at_119) rfl ((if0 _ _).trans (teq hc119_43).1) (by decide) (by decide) ?_
        show Steps p.tables e below (T41.setTop (mkF m 144 #[.val (.long d0), .second, .val (.long o0), .second, .val (.long u0), .second, .val (.long d1), .second, .val (.long o1), .second, .val (.long u1), .second, .val (.int (1 : Int32)), .val (.long v19), .second, .val (.long v26), .second, .val (.long v34), .second, .val (.long v42), .second, .val (.long v50), .second, .val (.long v58), .second, .val (.ref b22), .val (.ref b27), .val (.ref b33), .val (.int r99), .unset] [])) _
        refine XS.iconst X41.here hx rfl (hb hby at_144) ?_
        show Steps p.tables e below (T41.setTop (mkF m 145 #[.val (.long d0), .second, .val (.long o0), .second, .val (.long u0), .second, .val (.long d1), .second, .val (.long o1), .second, .val (.long u1), .second, .val (.int (1 : Int32)), .val (.long v19), .second, .val (.long v26), .second, .val (.long v34), .second, .val (.long v42), .second, .val (.long v50), .second, .val (.long v58), .second, .val (.ref b22), .val (.ref b27), .val (.ref b33), .val (.int r99), .unset] [(.int (0 : Int32))])) _
        refine XS.istore X41.here hx rfl (hb hby at_145) rfl (l' := #[.val (.long d0), .second, .val (.long o0), .second, .val (.long u0), .second, .val (.long d1), .second, .val (.long o1), .second, .val (.long u1), .second, .val (.int (1 : Int32)), .val (.long v19), .second, .val (.long v26), .second, .val (.long v34), .second, .val (.long v42), .second, .val (.long v50), .second, .val (.long v58), .second, .val (.ref b22), .val (.ref b27), .val (.ref b33), .val (.int r99), .val (.int (0 : Int32))]) rfl ?_
        show Steps p.tables e below (T41.setTop (mkF m 147 #[.val (.long d0), .second, .val (.long o0), .second, .val (.long u0), .second, .val (.long d1), .second, .val (.long o1), .second, .val (.long u1), .second, .val (.int (1 : Int32)), .val (.long v19), .second, .val (.long v26), .second, .val (.long v34), .second, .val (.long v42), .second, .val (.long v50), .second, .val (.long v58), .second, .val (.ref b22), .val (.ref b27), .val (.ref b33), .val (.int r99), .val (.int (0 : Int32))] [])) _
        refine XS.iload X41.here hx rfl (hb hby at_147) rfl ?_
        show Steps p.tables e below (T41.setTop (mkF m 149 #[.val (.long d0), .second, .val (.long o0), .second, .val (.long u0), .second, .val (.long d1), .second, .val (.long o1), .second, .val (.long u1), .second, .val (.int (1 : Int32)), .val (.long v19), .second, .val (.long v26), .second, .val (.long v34), .second, .val (.long v42), .second, .val (.long v50), .second, .val (.long v58), .second, .val (.ref b22), .val (.ref b27), .val (.ref b33), .val (.int r99), .val (.int (0 : Int32))] [(.int r99)])) _
        refine XS.iload X41.here hx rfl (hb hby at_149) rfl ?_
        by_cases d44 : r99 = (0 : Int32)
        · skip
          show Steps p.tables e below (T41.setTop (mkF m 151 #[.val (.long d0), .second, .val (.long o0), .second, .val (.long u0), .second, .val (.long d1), .second, .val (.long o1), .second, .val (.long u1), .second, .val (.int (1 : Int32)), .val (.long v19), .second, .val (.long v26), .second, .val (.long v34), .second, .val (.long v42), .second, .val (.long v50), .second, .val (.long v58), .second, .val (.ref b22), .val (.ref b27), .val (.ref b33), .val (.int r99), .val (.int (0 : Int32))] [(.int (0 : Int32)), (.int r99)])) _
          refine XS.icmpNo X41.here hx rfl (hb hby at_151) rfl (teq d44).2 ?_
          show Steps p.tables e below (T41.setTop (mkF m 154 #[.val (.long d0), .second, .val (.long o0), .second, .val (.long u0), .second, .val (.long d1), .second, .val (.long o1), .second, .val (.long u1), .second, .val (.int (1 : Int32)), .val (.long v19), .second, .val (.long v26), .second, .val (.long v34), .second, .val (.long v42), .second, .val (.long v50), .second, .val (.long v58), .second, .val (.ref b22), .val (.ref b27), .val (.ref b33), .val (.int r99), .val (.int (0 : Int32))] [])) _
          refine XS.iconst X41.here hx rfl (hb hby at_154) ?_
          show Steps p.tables e below (T41.setTop (mkF m 155 #[.val (.long d0), .second, .val (.long o0), .second, .val (.long u0), .second, .val (.long d1), .second, .val (.long o1), .second, .val (.long u1), .second, .val (.int (1 : Int32)), .val (.long v19), .second, .val (.long v26), .second, .val (.long v34), .second, .val (.long v42), .second, .val (.long v50), .second, .val (.long v58), .second, .val (.ref b22), .val (.ref b27), .val (.ref b33), .val (.int r99), .val (.int (0 : Int32))] [(.int (1 : Int32))])) _
          refine XS.goto X41.here hx rfl (pc0 := 155) (pc' := 159) rfl (hb hby at_155) (by decide) (by decide) ?_
          show Steps p.tables e below (T41.setTop (mkF m 159 #[.val (.long d0), .second, .val (.long o0), .second, .val (.long u0), .second, .val (.long d1), .second, .val (.long o1), .second, .val (.long u1), .second, .val (.int (1 : Int32)), .val (.long v19), .second, .val (.long v26), .second, .val (.long v34), .second, .val (.long v42), .second, .val (.long v50), .second, .val (.long v58), .second, .val (.ref b22), .val (.ref b27), .val (.ref b33), .val (.int r99), .val (.int (0 : Int32))] [(.int (1 : Int32))])) _
          exact castTop (by simp only [hm159, if_pos d44]) kt
        · skip
          show Steps p.tables e below (T41.setTop (mkF m 151 #[.val (.long d0), .second, .val (.long o0), .second, .val (.long u0), .second, .val (.long d1), .second, .val (.long o1), .second, .val (.long u1), .second, .val (.int (1 : Int32)), .val (.long v19), .second, .val (.long v26), .second, .val (.long v34), .second, .val (.long v42), .second, .val (.long v50), .second, .val (.long v58), .second, .val (.ref b22), .val (.ref b27), .val (.ref b33), .val (.int r99), .val (.int (0 : Int32))] [(.int (0 : Int32)), (.int r99)])) _
          refine XS.icmpYes X41.here hx rfl (pc0 := 151) (pc' := 158) rfl (hb hby at_151) rfl (feq d44).2 (by decide) (by decide) ?_
          show Steps p.tables e below (T41.setTop (mkF m 158 #[.val (.long d0), .second, .val (.long o0), .second, .val (.long u0), .second, .val (.long d1), .second, .val (.long o1), .second, .val (.long u1), .second, .val (.int (1 : Int32)), .val (.long v19), .second, .val (.long v26), .second, .val (.long v34), .second, .val (.long v42), .second, .val (.long v50), .second, .val (.long v58), .second, .val (.ref b22), .val (.ref b27), .val (.ref b33), .val (.int r99), .val (.int (0 : Int32))] [])) _
          refine XS.iconst X41.here hx rfl (hb hby at_158) ?_
          show Steps p.tables e below (T41.setTop (mkF m 159 #[.val (.long d0), .second, .val (.long o0), .second, .val (.long u0), .second, .val (.long d1), .second, .val (.long o1), .second, .val (.long u1), .second, .val (.int (1 : Int32)), .val (.long v19), .second, .val (.long v26), .second, .val (.long v34), .second, .val (.long v42), .second, .val (.long v50), .second, .val (.long v58), .second, .val (.ref b22), .val (.ref b27), .val (.ref b33), .val (.int r99), .val (.int (0 : Int32))] [(.int (0 : Int32))])) _
          exact castTop (by simp only [hm159, if_neg d44]) kt
      obtain ⟨fs, hr, hrun, hended, hW, hsame⟩ := X41.leave (v := some (Value.int (nar .boolean m159))) (fun h => by rw [Bd.returns] at h; cases h)
      have hres46 : (nar .boolean m159) = (1 : Int32) := (own_leaf_0_159_s1t d0 o0 u0 d1 o1 u1 hv12 v19 hv19 v26 hv26 v34 hv34 v42 hv42 v50 hv50 v58 hv58 r99 hr99 r116 hr116 hc119_43 m159 hm159)
      refine ⟨_, _, pre45 _ ?_, hrun, hended, _, _, rfl, ?_, ⟨_, rfl⟩, hW, hsame.mono (by decide) (by decide)⟩
      · skip
        show Steps p.tables e below (T41.setTop (mkF m 159 #[.val (.long d0), .second, .val (.long o0), .second, .val (.long u0), .second, .val (.long d1), .second, .val (.long o1), .second, .val (.long u1), .second, .val (.int (1 : Int32)), .val (.long v19), .second, .val (.long v26), .second, .val (.long v34), .second, .val (.long v42), .second, .val (.long v50), .second, .val (.long v58), .second, .val (.ref b22), .val (.ref b27), .val (.ref b33), .val (.int r99), .val (.int (0 : Int32))] [(.int m159)])) _
        exact retN X41 hx (t := .boolean) Bd.returns (by simp) (hb hby at_159) hr
      · show Q0 Z d0 o0 u0 d1 o1 u1 h0 n0 _ T41.heap _
        rw [e41]
        exact ⟨congrArg (fun z => some (Value.int z)) hres46, N41⟩
    · skip
      obtain ⟨m159, hm159⟩ : ∃ z_q : Int32, z_q = (if r99 = (1 : Int32) then (1 : Int32) else (0 : Int32)) := ⟨_, rfl⟩
      have pre48 : ∀ tq, Steps p.tables e below (T41.setTop (mkF m 159 #[.val (.long d0), .second, .val (.long o0), .second, .val (.long u0), .second, .val (.long d1), .second, .val (.long o1), .second, .val (.long u1), .second, .val (.int (1 : Int32)), .val (.long v19), .second, .val (.long v26), .second, .val (.long v34), .second, .val (.long v42), .second, .val (.long v50), .second, .val (.long v58), .second, .val (.ref b22), .val (.ref b27), .val (.ref b33), .val (.int r99), .val (.int (1 : Int32))] [(.int m159)])) tq → Steps p.tables e below (s₁.setTop (entryFrame m #[(.long d0), (.long o0), (.long u0), (.long d1), (.long o1), (.long u1)] maxLocals)) tq := by
        intro tq kt
        refine pre42 _ ?_
        show Steps p.tables e below (T41.setTop (mkF m 119 #[.val (.long d0), .second, .val (.long o0), .second, .val (.long u0), .second, .val (.long d1), .second, .val (.long o1), .second, .val (.long u1), .second, .val (.int (1 : Int32)), .val (.long v19), .second, .val (.long v26), .second, .val (.long v34), .second, .val (.long v42), .second, .val (.long v50), .second, .val (.long v58), .second, .val (.ref b22), .val (.ref b27), .val (.ref b33), .val (.int r99), .unset] [(.int r116)])) _
        refine XS.ifNo X41.here hx rfl (hb hby at_119) rfl ((if0 _ _).trans (feq hc119_43).1) ?_
        show Steps p.tables e below (T41.setTop (mkF m 122 #[.val (.long d0), .second, .val (.long o0), .second, .val (.long u0), .second, .val (.long d1), .second, .val (.long o1), .second, .val (.long u1), .second, .val (.int (1 : Int32)), .val (.long v19), .second, .val (.long v26), .second, .val (.long v34), .second, .val (.long v42), .second, .val (.long v50), .second, .val (.long v58), .second, .val (.ref b22), .val (.ref b27), .val (.ref b33), .val (.int r99), .unset] [])) _
        refine XS.iload X41.here hx rfl (hb hby at_122) rfl ?_
        show Steps p.tables e below (T41.setTop (mkF m 124 #[.val (.long d0), .second, .val (.long o0), .second, .val (.long u0), .second, .val (.long d1), .second, .val (.long o1), .second, .val (.long u1), .second, .val (.int (1 : Int32)), .val (.long v19), .second, .val (.long v26), .second, .val (.long v34), .second, .val (.long v42), .second, .val (.long v50), .second, .val (.long v58), .second, .val (.ref b22), .val (.ref b27), .val (.ref b33), .val (.int r99), .unset] [(.int (1 : Int32))])) _
        refine XS.iconst X41.here hx rfl (hb hby at_124) ?_
        show Steps p.tables e below (T41.setTop (mkF m 125 #[.val (.long d0), .second, .val (.long o0), .second, .val (.long u0), .second, .val (.long d1), .second, .val (.long o1), .second, .val (.long u1), .second, .val (.int (1 : Int32)), .val (.long v19), .second, .val (.long v26), .second, .val (.long v34), .second, .val (.long v42), .second, .val (.long v50), .second, .val (.long v58), .second, .val (.ref b22), .val (.ref b27), .val (.ref b33), .val (.int r99), .unset] [(.int (2 : Int32)), (.int (1 : Int32))])) _
        refine XS.icmpYes X41.here hx rfl (pc0 := 125) (pc' := 140) rfl (hb hby at_125) rfl (tlt (by decide)).1 (by decide) (by decide) ?_
        show Steps p.tables e below (T41.setTop (mkF m 140 #[.val (.long d0), .second, .val (.long o0), .second, .val (.long u0), .second, .val (.long d1), .second, .val (.long o1), .second, .val (.long u1), .second, .val (.int (1 : Int32)), .val (.long v19), .second, .val (.long v26), .second, .val (.long v34), .second, .val (.long v42), .second, .val (.long v50), .second, .val (.long v58), .second, .val (.ref b22), .val (.ref b27), .val (.ref b33), .val (.int r99), .unset] [])) _
        refine XS.iconst X41.here hx rfl (hb hby at_140) ?_
        show Steps p.tables e below (T41.setTop (mkF m 141 #[.val (.long d0), .second, .val (.long o0), .second, .val (.long u0), .second, .val (.long d1), .second, .val (.long o1), .second, .val (.long u1), .second, .val (.int (1 : Int32)), .val (.long v19), .second, .val (.long v26), .second, .val (.long v34), .second, .val (.long v42), .second, .val (.long v50), .second, .val (.long v58), .second, .val (.ref b22), .val (.ref b27), .val (.ref b33), .val (.int r99), .unset] [(.int (1 : Int32))])) _
        refine XS.goto X41.here hx rfl (pc0 := 141) (pc' := 145) rfl (hb hby at_141) (by decide) (by decide) ?_
        show Steps p.tables e below (T41.setTop (mkF m 145 #[.val (.long d0), .second, .val (.long o0), .second, .val (.long u0), .second, .val (.long d1), .second, .val (.long o1), .second, .val (.long u1), .second, .val (.int (1 : Int32)), .val (.long v19), .second, .val (.long v26), .second, .val (.long v34), .second, .val (.long v42), .second, .val (.long v50), .second, .val (.long v58), .second, .val (.ref b22), .val (.ref b27), .val (.ref b33), .val (.int r99), .unset] [(.int (1 : Int32))])) _
        refine XS.istore X41.here hx rfl (hb hby at_145) rfl (l' := #[.val (.long d0), .second, .val (.long o0), .second, .val (.long u0), .second, .val (.long d1), .second, .val (.long o1), .second, .val (.long u1), .second, .val (.int (1 : Int32)), .val (.long v19), .second, .val (.long v26), .second, .val (.long v34), .second, .val (.long v42), .second, .val (.long v50), .second, .val (.long v58), .second, .val (.ref b22), .val (.ref b27), .val (.ref b33), .val (.int r99), .val (.int (1 : Int32))]) rfl ?_
        show Steps p.tables e below (T41.setTop (mkF m 147 #[.val (.long d0), .second, .val (.long o0), .second, .val (.long u0), .second, .val (.long d1), .second, .val (.long o1), .second, .val (.long u1), .second, .val (.int (1 : Int32)), .val (.long v19), .second, .val (.long v26), .second, .val (.long v34), .second, .val (.long v42), .second, .val (.long v50), .second, .val (.long v58), .second, .val (.ref b22), .val (.ref b27), .val (.ref b33), .val (.int r99), .val (.int (1 : Int32))] [])) _
        refine XS.iload X41.here hx rfl (hb hby at_147) rfl ?_
        show Steps p.tables e below (T41.setTop (mkF m 149 #[.val (.long d0), .second, .val (.long o0), .second, .val (.long u0), .second, .val (.long d1), .second, .val (.long o1), .second, .val (.long u1), .second, .val (.int (1 : Int32)), .val (.long v19), .second, .val (.long v26), .second, .val (.long v34), .second, .val (.long v42), .second, .val (.long v50), .second, .val (.long v58), .second, .val (.ref b22), .val (.ref b27), .val (.ref b33), .val (.int r99), .val (.int (1 : Int32))] [(.int r99)])) _
        refine XS.iload X41.here hx rfl (hb hby at_149) rfl ?_
        by_cases d47 : r99 = (1 : Int32)
        · skip
          show Steps p.tables e below (T41.setTop (mkF m 151 #[.val (.long d0), .second, .val (.long o0), .second, .val (.long u0), .second, .val (.long d1), .second, .val (.long o1), .second, .val (.long u1), .second, .val (.int (1 : Int32)), .val (.long v19), .second, .val (.long v26), .second, .val (.long v34), .second, .val (.long v42), .second, .val (.long v50), .second, .val (.long v58), .second, .val (.ref b22), .val (.ref b27), .val (.ref b33), .val (.int r99), .val (.int (1 : Int32))] [(.int (1 : Int32)), (.int r99)])) _
          refine XS.icmpNo X41.here hx rfl (hb hby at_151) rfl (teq d47).2 ?_
          show Steps p.tables e below (T41.setTop (mkF m 154 #[.val (.long d0), .second, .val (.long o0), .second, .val (.long u0), .second, .val (.long d1), .second, .val (.long o1), .second, .val (.long u1), .second, .val (.int (1 : Int32)), .val (.long v19), .second, .val (.long v26), .second, .val (.long v34), .second, .val (.long v42), .second, .val (.long v50), .second, .val (.long v58), .second, .val (.ref b22), .val (.ref b27), .val (.ref b33), .val (.int r99), .val (.int (1 : Int32))] [])) _
          refine XS.iconst X41.here hx rfl (hb hby at_154) ?_
          show Steps p.tables e below (T41.setTop (mkF m 155 #[.val (.long d0), .second, .val (.long o0), .second, .val (.long u0), .second, .val (.long d1), .second, .val (.long o1), .second, .val (.long u1), .second, .val (.int (1 : Int32)), .val (.long v19), .second, .val (.long v26), .second, .val (.long v34), .second, .val (.long v42), .second, .val (.long v50), .second, .val (.long v58), .second, .val (.ref b22), .val (.ref b27), .val (.ref b33), .val (.int r99), .val (.int (1 : Int32))] [(.int (1 : Int32))])) _
          refine XS.goto X41.here hx rfl (pc0 := 155) (pc' := 159) rfl (hb hby at_155) (by decide) (by decide) ?_
          show Steps p.tables e below (T41.setTop (mkF m 159 #[.val (.long d0), .second, .val (.long o0), .second, .val (.long u0), .second, .val (.long d1), .second, .val (.long o1), .second, .val (.long u1), .second, .val (.int (1 : Int32)), .val (.long v19), .second, .val (.long v26), .second, .val (.long v34), .second, .val (.long v42), .second, .val (.long v50), .second, .val (.long v58), .second, .val (.ref b22), .val (.ref b27), .val (.ref b33), .val (.int r99), .val (.int (1 : Int32))] [(.int (1 : Int32))])) _
          exact castTop (by simp only [hm159, if_pos d47]) kt
        · skip
          show Steps p.tables e below (T41.setTop (mkF m 151 #[.val (.long d0), .second, .val (.long o0), .second, .val (.long u0), .second, .val (.long d1), .second, .val (.long o1), .second, .val (.long u1), .second, .val (.int (1 : Int32)), .val (.long v19), .second, .val (.long v26), .second, .val (.long v34), .second, .val (.long v42), .second, .val (.long v50), .second, .val (.long v58), .second, .val (.ref b22), .val (.ref b27), .val (.ref b33), .val (.int r99), .val (.int (1 : Int32))] [(.int (1 : Int32)), (.int r99)])) _
          refine XS.icmpYes X41.here hx rfl (pc0 := 151) (pc' := 158) rfl (hb hby at_151) rfl (feq d47).2 (by decide) (by decide) ?_
          show Steps p.tables e below (T41.setTop (mkF m 158 #[.val (.long d0), .second, .val (.long o0), .second, .val (.long u0), .second, .val (.long d1), .second, .val (.long o1), .second, .val (.long u1), .second, .val (.int (1 : Int32)), .val (.long v19), .second, .val (.long v26), .second, .val (.long v34), .second, .val (.long v42), .second, .val (.long v50), .second, .val (.long v58), .second, .val (.ref b22), .val (.ref b27), .val (.ref b33), .val (.int r99), .val (.int (1 : Int32))] [])) _
          refine XS.iconst X41.here hx rfl (hb hby at_158) ?_
          show Steps p.tables e below (T41.setTop (mkF m 159 #[.val (.long d0), .second, .val (.long o0), .second, .val (.long u0), .second, .val (.long d1), .second, .val (.long o1), .second, .val (.long u1), .second, .val (.int (1 : Int32)), .val (.long v19), .second, .val (.long v26), .second, .val (.long v34), .second, .val (.long v42), .second, .val (.long v50), .second, .val (.long v58), .second, .val (.ref b22), .val (.ref b27), .val (.ref b33), .val (.int r99), .val (.int (1 : Int32))] [(.int (0 : Int32))])) _
          exact castTop (by simp only [hm159, if_neg d47]) kt
      obtain ⟨fs, hr, hrun, hended, hW, hsame⟩ := X41.leave (v := some (Value.int (nar .boolean m159))) (fun h => by rw [Bd.returns] at h; cases h)
      have hres49 : (nar .boolean m159) = (1 : Int32) := (own_leaf_0_159_s1f d0 o0 u0 d1 o1 u1 hv12 v19 hv19 v26 hv26 v34 hv34 v42 hv42 v50 hv50 v58 hv58 r99 hr99 r116 hr116 hc119_43 m159 hm159)
      refine ⟨_, _, pre48 _ ?_, hrun, hended, _, _, rfl, ?_, ⟨_, rfl⟩, hW, hsame.mono (by decide) (by decide)⟩
      · skip
        show Steps p.tables e below (T41.setTop (mkF m 159 #[.val (.long d0), .second, .val (.long o0), .second, .val (.long u0), .second, .val (.long d1), .second, .val (.long o1), .second, .val (.long u1), .second, .val (.int (1 : Int32)), .val (.long v19), .second, .val (.long v26), .second, .val (.long v34), .second, .val (.long v42), .second, .val (.long v50), .second, .val (.long v58), .second, .val (.ref b22), .val (.ref b27), .val (.ref b33), .val (.int r99), .val (.int (1 : Int32))] [(.int m159)])) _
        exact retN X41 hx (t := .boolean) Bd.returns (by simp) (hb hby at_159) hr
      · show Q0 Z d0 o0 u0 d1 o1 u1 h0 n0 _ T41.heap _
        rw [e41]
        exact ⟨congrArg (fun z => some (Value.int z)) hres49, N41⟩
  · subst hs2
    obtain ⟨v19, hv19⟩ : ∃ z_q : Int64, z_q = (d0 &&& (9223372036854775807 : Int64)) := ⟨_, rfl⟩
    obtain ⟨v26, hv26⟩ : ∃ z_q : Int64, z_q = (o0 &&& (9223372036854775807 : Int64)) := ⟨_, rfl⟩
    obtain ⟨v34, hv34⟩ : ∃ z_q : Int64, z_q = (u0 &&& (9223372036854775807 : Int64)) := ⟨_, rfl⟩
    obtain ⟨v42, hv42⟩ : ∃ z_q : Int64, z_q = (d1 &&& (9223372036854775807 : Int64)) := ⟨_, rfl⟩
    obtain ⟨v50, hv50⟩ : ∃ z_q : Int64, z_q = (o1 &&& (9223372036854775807 : Int64)) := ⟨_, rfl⟩
    obtain ⟨v58, hv58⟩ : ∃ z_q : Int64, z_q = (u1 &&& (9223372036854775807 : Int64)) := ⟨_, rfl⟩
    obtain ⟨_, _, ⟨T50, L50, k50, n50⟩, -, X50, ⟨Lc50, hQ50, l50, y50, z50⟩, st50⟩ := Jvm.LawKit.callS X0 hx (y := (⟨"com/example/evenkeel/evenkeel/cli/AuditFitsPinLaw", "make", "(IJJ)[J"⟩ : MethodName)) hown (mvT hZ (hw _ (List.mem_of_getElem? (i := 1) rfl))) (mvT hZ (hw _ (List.mem_of_getElem? (i := 2) rfl))) (mvT hZ (hw _ (List.mem_of_getElem? (i := 3) rfl))) (mvT hZ (hw _ (List.mem_of_getElem? (i := 4) rfl))) (by decide) (backOf (W := 0) (rm1_2 l Z a0 hw [] (2 : Int32) v19 v42 h0 n0 Z0 rfl) hZ (hw _ (List.mem_of_getElem? (i := 4) rfl)) (hw _ (List.mem_of_getElem? (i := 3) rfl)) (by decide) (by decide)) (g := (mkF m 66 #[.val (.long d0), .second, .val (.long o0), .second, .val (.long u0), .second, .val (.long d1), .second, .val (.long o1), .second, .val (.long u1), .second, .val (.int (2 : Int32)), .val (.long v19), .second, .val (.long v26), .second, .val (.long v34), .second, .val (.long v42), .second, .val (.long v50), .second, .val (.long v58), .second, .unset, .unset, .unset, .unset, .unset] [(.long v42), (.long v19), (.int (2 : Int32))])) rfl (by rw [hml]; rfl) (argsL := [(.int (2 : Int32)), (.long v19), (.long v42)]) (rest := []) (lenOf pd_0 rfl) rfl (by show 2 * 0 + _ ≤ _; exact Nat.le_of_eq rfl) (hb hby at_66) (fun _ _ => ⟨rfl, e0, (by decide : 0 + 1 ≤ _), (by decide : 0 + 2 ≤ _)⟩)
    dsimp only [Pt.U, Pt.locs, Pt.cells, Pt.slots] at X50 l50 y50 z50 st50 hQ50
    subst l50 y50 z50
    obtain ⟨kx51, b50, rfl, N50q, K50q, g_b50, szq_b50, F52⟩ := hQ50
    have N50 := Fr.app N0 N50q
    have sz_b50 : h0.size ≤ b50 := Nat.le_trans K0.1 szq_b50
    have Z53 : n0 ≤ T50.heap.size := Nat.le_trans Z0 K50q.1
    have K54 : Keep h0 T50.heap [] := K0.trans K50q all0
    obtain ⟨_, _, ⟨T55, L55, k55, n55⟩, -, X55, ⟨Lc55, hQ55, l55, y55, z55⟩, st55⟩ := Jvm.LawKit.callS X50 hx (y := (⟨"com/example/evenkeel/evenkeel/cli/AuditFitsPinLaw", "make", "(IJJ)[J"⟩ : MethodName)) hown (mvT hZ (hw _ (List.mem_of_getElem? (i := 1) rfl))) (mvT hZ (hw _ (List.mem_of_getElem? (i := 2) rfl))) (mvT hZ (hw _ (List.mem_of_getElem? (i := 3) rfl))) (mvT hZ (hw _ (List.mem_of_getElem? (i := 4) rfl))) (by decide) (backOf (W := 0) (rm1_2 l Z a0 hw [] (2 : Int32) v26 v50 T50.heap n0 Z53 rfl) hZ (hw _ (List.mem_of_getElem? (i := 4) rfl)) (hw _ (List.mem_of_getElem? (i := 3) rfl)) (by decide) (by decide)) (g := (mkF m 77 #[.val (.long d0), .second, .val (.long o0), .second, .val (.long u0), .second, .val (.long d1), .second, .val (.long o1), .second, .val (.long u1), .second, .val (.int (2 : Int32)), .val (.long v19), .second, .val (.long v26), .second, .val (.long v34), .second, .val (.long v42), .second, .val (.long v50), .second, .val (.long v58), .second, .val (.ref b50), .unset, .unset, .unset, .unset] [(.long v50), (.long v26), (.int (2 : Int32))])) rfl (by rw [hml]; rfl) (argsL := [(.int (2 : Int32)), (.long v26), (.long v50)]) (rest := []) (lenOf pd_0 rfl) rfl (by show 2 * 0 + _ ≤ _; exact Nat.le_of_eq rfl) (hb hby at_77) (fun _ _ => ⟨rfl, rfl, (by decide : 1 + 1 ≤ _), (by decide : 2 + 2 ≤ _)⟩)
    dsimp only [Pt.U, Pt.locs, Pt.cells, Pt.slots] at X55 l55 y55 z55 st55 hQ55
    subst l55 y55 z55
    obtain ⟨kx56, b55, rfl, N55q, K55q, g_b55, szq_b55, F57⟩ := hQ55
    have N55 := Fr.app N50 N55q
    have ne_b50_b55 : b50 ≠ b55 := Nat.ne_of_lt (Nat.lt_of_lt_of_le F52.lt szq_b55)
    have sz_b55 : h0.size ≤ b55 := Nat.le_trans K54.1 szq_b55
    have F58 : Arv Z T55.heap b50 kx51 .long (2 : Int32) [(.long v19), (.long v42)] (.long (0 : Int64)) := F52.keep K55q nin0
    have Z59 : n0 ≤ T55.heap.size := Nat.le_trans Z53 K55q.1
    have K60 : Keep h0 T55.heap [] := K54.trans K55q all0
    obtain ⟨_, _, ⟨T61, L61, k61, n61⟩, -, X61, ⟨Lc61, hQ61, l61, y61, z61⟩, st61⟩ := Jvm.LawKit.callS X55 hx (y := (⟨"com/example/evenkeel/evenkeel/cli/AuditFitsPinLaw", "make", "(IJJ)[J"⟩ : MethodName)) hown (mvT hZ (hw _ (List.mem_of_getElem? (i := 1) rfl))) (mvT hZ (hw _ (List.mem_of_getElem? (i := 2) rfl))) (mvT hZ (hw _ (List.mem_of_getElem? (i := 3) rfl))) (mvT hZ (hw _ (List.mem_of_getElem? (i := 4) rfl))) (by decide) (backOf (W := 0) (rm1_2 l Z a0 hw [] (2 : Int32) v34 v58 T55.heap n0 Z59 rfl) hZ (hw _ (List.mem_of_getElem? (i := 4) rfl)) (hw _ (List.mem_of_getElem? (i := 3) rfl)) (by decide) (by decide)) (g := (mkF m 88 #[.val (.long d0), .second, .val (.long o0), .second, .val (.long u0), .second, .val (.long d1), .second, .val (.long o1), .second, .val (.long u1), .second, .val (.int (2 : Int32)), .val (.long v19), .second, .val (.long v26), .second, .val (.long v34), .second, .val (.long v42), .second, .val (.long v50), .second, .val (.long v58), .second, .val (.ref b50), .val (.ref b55), .unset, .unset, .unset] [(.long v58), (.long v34), (.int (2 : Int32))])) rfl (by rw [hml]; rfl) (argsL := [(.int (2 : Int32)), (.long v34), (.long v58)]) (rest := []) (lenOf pd_0 rfl) rfl (by show 2 * 0 + _ ≤ _; exact Nat.le_of_eq rfl) (hb hby at_88) (fun _ _ => ⟨rfl, rfl, (by decide : 2 + 1 ≤ _), (by decide : 4 + 2 ≤ _)⟩)
    dsimp only [Pt.U, Pt.locs, Pt.cells, Pt.slots] at X61 l61 y61 z61 st61 hQ61
    subst l61 y61 z61
    obtain ⟨kx62, b61, rfl, N61q, K61q, g_b61, szq_b61, F63⟩ := hQ61
    have N61 := Fr.app N55 N61q
    have ne_b50_b61 : b50 ≠ b61 := Nat.ne_of_lt (Nat.lt_of_lt_of_le F58.lt szq_b61)
    have ne_b55_b61 : b55 ≠ b61 := Nat.ne_of_lt (Nat.lt_of_lt_of_le F57.lt szq_b61)
    have sz_b61 : h0.size ≤ b61 := Nat.le_trans K60.1 szq_b61
    have F64 : Arv Z T61.heap b50 kx51 .long (2 : Int32) [(.long v19), (.long v42)] (.long (0 : Int64)) := F58.keep K61q nin0
    have F65 : Arv Z T61.heap b55 kx56 .long (2 : Int32) [(.long v26), (.long v50)] (.long (0 : Int64)) := F57.keep K61q nin0
    have Z66 : n0 ≤ T61.heap.size := Nat.le_trans Z59 K61q.1
    have K67 : Keep h0 T61.heap [] := K60.trans K61q all0
    obtain ⟨_, _, ⟨T68, L68, k68, n68⟩, -, X68, ⟨Lc68, hQ68, l68, y68, z68⟩, st68⟩ := Jvm.LawKit.callS X61 hx (y := (⟨"com/example/evenkeel/evenkeel/cli/Audit", "fits", "([J[J[J)Z"⟩ : MethodName)) hown (mvT hZ (hw _ (List.mem_of_getElem? (i := 6) rfl))) (mvT hZ (hw _ (List.mem_of_getElem? (i := 7) rfl))) (mvT hZ (hw _ (List.mem_of_getElem? (i := 8) rfl))) (mvT hZ (hw _ (List.mem_of_getElem? (i := 9) rfl))) (by decide) (backOf (W := 0) (rm2_2 l Z a0 hw [] b50 b55 b61 kx51 kx56 kx62 v19 v42 v26 v50 v34 v58 T61.heap n0 Z66 F64 F65 F63) hZ (hw _ (List.mem_of_getElem? (i := 9) rfl)) (hw _ (List.mem_of_getElem? (i := 8) rfl)) (by decide) (by decide)) (g := (mkF m 99 #[.val (.long d0), .second, .val (.long o0), .second, .val (.long u0), .second, .val (.long d1), .second, .val (.long o1), .second, .val (.long u1), .second, .val (.int (2 : Int32)), .val (.long v19), .second, .val (.long v26), .second, .val (.long v34), .second, .val (.long v42), .second, .val (.long v50), .second, .val (.long v58), .second, .val (.ref b50), .val (.ref b55), .val (.ref b61), .unset, .unset] [(.ref b61), (.ref b55), (.ref b50)])) rfl (by rw [hml]; rfl) (argsL := [(.ref b50), (.ref b55), (.ref b61)]) (rest := []) (lenOf pd_1 rfl) rfl (by show 2 * 0 + _ ≤ _; exact Nat.le_of_eq rfl) (hb hby at_99) (fun _ _ => ⟨rfl, rfl, (by decide : 3 + 0 ≤ _), (by decide : 6 + 0 ≤ _)⟩)
    dsimp only [Pt.U, Pt.locs, Pt.cells, Pt.slots] at X68 l68 y68 z68 st68 hQ68
    subst l68 y68 z68
    obtain ⟨rfl, N68q, e68⟩ := hQ68
    have N68 := Fr.app N61 N68q
    obtain ⟨r99, hr99⟩ : ∃ z_q : Int32, z_q = (own_fits2 v19 v42 v26 v50 v34 v58) := ⟨_, rfl⟩
    obtain ⟨_, _, ⟨T69, L69, k69, n69⟩, -, X69, ⟨Lc69, hQ69, l69, y69, z69⟩, st69⟩ := Jvm.LawKit.callS X68 hx (y := (⟨"com/example/evenkeel/evenkeel/cli/AuditFitsPinLaw", "fitsOne", "(JJJ)Z"⟩ : MethodName)) hown (mvT hZ (hw _ (List.mem_of_getElem? (i := 10) rfl))) (mvT hZ (hw _ (List.mem_of_getElem? (i := 11) rfl))) (mvT hZ (hw _ (List.mem_of_getElem? (i := 3) rfl))) (mvT hZ (hw _ (List.mem_of_getElem? (i := 12) rfl))) (by decide) (backOf (W := 0) (rm3 l Z a0 hw [] v19 v26 v34 T61.heap n0 Z66 ) hZ (hw _ (List.mem_of_getElem? (i := 12) rfl)) (hw _ (List.mem_of_getElem? (i := 3) rfl)) (by decide) (by decide)) (g := (mkF m 116 #[.val (.long d0), .second, .val (.long o0), .second, .val (.long u0), .second, .val (.long d1), .second, .val (.long o1), .second, .val (.long u1), .second, .val (.int (2 : Int32)), .val (.long v19), .second, .val (.long v26), .second, .val (.long v34), .second, .val (.long v42), .second, .val (.long v50), .second, .val (.long v58), .second, .val (.ref b50), .val (.ref b55), .val (.ref b61), .val (.int r99), .unset] [(.long v34), (.long v26), (.long v19)])) rfl (by rw [hml]; rfl) (argsL := [(.long v19), (.long v26), (.long v34)]) (rest := []) (lenOf pd_2 rfl) rfl (by show 2 * 0 + _ ≤ _; exact Nat.le_of_eq rfl) (hb hby at_116) (fun _ _ => ⟨rfl, e68, (by decide : 3 + 0 ≤ _), (by decide : 6 + 0 ≤ _)⟩)
    dsimp only [Pt.U, Pt.locs, Pt.cells, Pt.slots] at X69 l69 y69 z69 st69 hQ69
    subst l69 y69 z69
    obtain ⟨rfl, N69q, e69⟩ := hQ69
    have N69 := Fr.app N68 N69q
    obtain ⟨r116, hr116⟩ : ∃ z_q : Int32, z_q = (own_one v19 v26 v34) := ⟨_, rfl⟩
    have pre70 : ∀ tq, Steps p.tables e below (T69.setTop (mkF m 119 #[.val (.long d0), .second, .val (.long o0), .second, .val (.long u0), .second, .val (.long d1), .second, .val (.long o1), .second, .val (.long u1), .second, .val (.int (2 : Int32)), .val (.long v19), .second, .val (.long v26), .second, .val (.long v34), .second, .val (.long v42), .second, .val (.long v50), .second, .val (.long v58), .second, .val (.ref b50), .val (.ref b55), .val (.ref b61), .val (.int r99), .unset] [(.int r116)])) tq → Steps p.tables e below (s₁.setTop (entryFrame m #[(.long d0), (.long o0), (.long u0), (.long d1), (.long o1), (.long u1)] maxLocals)) tq := by
      intro tq kt
      refine pre1 _ ?_
      show Steps p.tables e below (s₁.setTop (mkF m 14 #[.val (.long d0), .second, .val (.long o0), .second, .val (.long u0), .second, .val (.long d1), .second, .val (.long o1), .second, .val (.long u1), .second, .val (.int (2 : Int32)), .unset, .unset, .unset, .unset, .unset, .unset, .unset, .unset, .unset, .unset, .unset, .unset, .unset, .unset, .unset, .unset, .unset] [])) _
      refine XS.lloadN X0.here hx rfl (hb hby at_14) rfl ?_
      show Steps p.tables e below (s₁.setTop (mkF m 15 #[.val (.long d0), .second, .val (.long o0), .second, .val (.long u0), .second, .val (.long d1), .second, .val (.long o1), .second, .val (.long u1), .second, .val (.int (2 : Int32)), .unset, .unset, .unset, .unset, .unset, .unset, .unset, .unset, .unset, .unset, .unset, .unset, .unset, .unset, .unset, .unset, .unset] [(.long d0)])) _
      refine X0.ldc2Long hx hown (mvT hZ (hw _ (List.mem_of_getElem? (i := 0) rfl))) (g := (mkF m 15 #[.val (.long d0), .second, .val (.long o0), .second, .val (.long u0), .second, .val (.long d1), .second, .val (.long o1), .second, .val (.long u1), .second, .val (.int (2 : Int32)), .unset, .unset, .unset, .unset, .unset, .unset, .unset, .unset, .unset, .unset, .unset, .unset, .unset, .unset, .unset, .unset, .unset] [(.long d0)])) rfl (hb hby at_15) _ ?_
      show Steps p.tables e below (s₁.setTop (mkF m 18 #[.val (.long d0), .second, .val (.long o0), .second, .val (.long u0), .second, .val (.long d1), .second, .val (.long o1), .second, .val (.long u1), .second, .val (.int (2 : Int32)), .unset, .unset, .unset, .unset, .unset, .unset, .unset, .unset, .unset, .unset, .unset, .unset, .unset, .unset, .unset, .unset, .unset] [(.long (9223372036854775807 : Int64)), (.long d0)])) _
      refine XS.land X0.here hx rfl (hb hby at_18) rfl ?_
      show Steps p.tables e below (s₁.setTop (mkF m 19 #[.val (.long d0), .second, .val (.long o0), .second, .val (.long u0), .second, .val (.long d1), .second, .val (.long o1), .second, .val (.long u1), .second, .val (.int (2 : Int32)), .unset, .unset, .unset, .unset, .unset, .unset, .unset, .unset, .unset, .unset, .unset, .unset, .unset, .unset, .unset, .unset, .unset] [(.long (d0 &&& (9223372036854775807 : Int64)))])) _
      refine XS.lstore X0.here hx rfl (hb hby at_19) rfl (l' := #[.val (.long d0), .second, .val (.long o0), .second, .val (.long u0), .second, .val (.long d1), .second, .val (.long o1), .second, .val (.long u1), .second, .val (.int (2 : Int32)), .val (.long v19), .second, .unset, .unset, .unset, .unset, .unset, .unset, .unset, .unset, .unset, .unset, .unset, .unset, .unset, .unset, .unset]) (by rw [hv19]; rfl) ?_
      show Steps p.tables e below (s₁.setTop (mkF m 21 #[.val (.long d0), .second, .val (.long o0), .second, .val (.long u0), .second, .val (.long d1), .second, .val (.long o1), .second, .val (.long u1), .second, .val (.int (2 : Int32)), .val (.long v19), .second, .unset, .unset, .unset, .unset, .unset, .unset, .unset, .unset, .unset, .unset, .unset, .unset, .unset, .unset, .unset] [])) _
      refine XS.lloadN X0.here hx rfl (hb hby at_21) rfl ?_
      show Steps p.tables e below (s₁.setTop (mkF m 22 #[.val (.long d0), .second, .val (.long o0), .second, .val (.long u0), .second, .val (.long d1), .second, .val (.long o1), .second, .val (.long u1), .second, .val (.int (2 : Int32)), .val (.long v19), .second, .unset, .unset, .unset, .unset, .unset, .unset, .unset, .unset, .unset, .unset, .unset, .unset, .unset, .unset, .unset] [(.long o0)])) _
      refine X0.ldc2Long hx hown (mvT hZ (hw _ (List.mem_of_getElem? (i := 0) rfl))) (g := (mkF m 22 #[.val (.long d0), .second, .val (.long o0), .second, .val (.long u0), .second, .val (.long d1), .second, .val (.long o1), .second, .val (.long u1), .second, .val (.int (2 : Int32)), .val (.long v19), .second, .unset, .unset, .unset, .unset, .unset, .unset, .unset, .unset, .unset, .unset, .unset, .unset, .unset, .unset, .unset] [(.long o0)])) rfl (hb hby at_22) _ ?_
      show Steps p.tables e below (s₁.setTop (mkF m 25 #[.val (.long d0), .second, .val (.long o0), .second, .val (.long u0), .second, .val (.long d1), .second, .val (.long o1), .second, .val (.long u1), .second, .val (.int (2 : Int32)), .val (.long v19), .second, .unset, .unset, .unset, .unset, .unset, .unset, .unset, .unset, .unset, .unset, .unset, .unset, .unset, .unset, .unset] [(.long (9223372036854775807 : Int64)), (.long o0)])) _
      refine XS.land X0.here hx rfl (hb hby at_25) rfl ?_
      show Steps p.tables e below (s₁.setTop (mkF m 26 #[.val (.long d0), .second, .val (.long o0), .second, .val (.long u0), .second, .val (.long d1), .second, .val (.long o1), .second, .val (.long u1), .second, .val (.int (2 : Int32)), .val (.long v19), .second, .unset, .unset, .unset, .unset, .unset, .unset, .unset, .unset, .unset, .unset, .unset, .unset, .unset, .unset, .unset] [(.long (o0 &&& (9223372036854775807 : Int64)))])) _
      refine XS.lstore X0.here hx rfl (hb hby at_26) rfl (l' := #[.val (.long d0), .second, .val (.long o0), .second, .val (.long u0), .second, .val (.long d1), .second, .val (.long o1), .second, .val (.long u1), .second, .val (.int (2 : Int32)), .val (.long v19), .second, .val (.long v26), .second, .unset, .unset, .unset, .unset, .unset, .unset, .unset, .unset, .unset, .unset, .unset, .unset, .unset]) (by rw [hv26]; rfl) ?_
      show Steps p.tables e below (s₁.setTop (mkF m 28 #[.val (.long d0), .second, .val (.long o0), .second, .val (.long u0), .second, .val (.long d1), .second, .val (.long o1), .second, .val (.long u1), .second, .val (.int (2 : Int32)), .val (.long v19), .second, .val (.long v26), .second, .unset, .unset, .unset, .unset, .unset, .unset, .unset, .unset, .unset, .unset, .unset, .unset, .unset] [])) _
      refine XS.lload X0.here hx rfl (hb hby at_28) rfl ?_
      show Steps p.tables e below (s₁.setTop (mkF m 30 #[.val (.long d0), .second, .val (.long o0), .second, .val (.long u0), .second, .val (.long d1), .second, .val (.long o1), .second, .val (.long u1), .second, .val (.int (2 : Int32)), .val (.long v19), .second, .val (.long v26), .second, .unset, .unset, .unset, .unset, .unset, .unset, .unset, .unset, .unset, .unset, .unset, .unset, .unset] [(.long u0)])) _
      refine X0.ldc2Long hx hown (mvT hZ (hw _ (List.mem_of_getElem? (i := 0) rfl))) (g := (mkF m 30 #[.val (.long d0), .second, .val (.long o0), .second, .val (.long u0), .second, .val (.long d1), .second, .val (.long o1), .second, .val (.long u1), .second, .val (.int (2 : Int32)), .val (.long v19), .second, .val (.long v26), .second, .unset, .unset, .unset, .unset, .unset, .unset, .unset, .unset, .unset, .unset, .unset, .unset, .unset] [(.long u0)])) rfl (hb hby at_30) _ ?_
      show Steps p.tables e below (s₁.setTop (mkF m 33 #[.val (.long d0), .second, .val (.long o0), .second, .val (.long u0), .second, .val (.long d1), .second, .val (.long o1), .second, .val (.long u1), .second, .val (.int (2 : Int32)), .val (.long v19), .second, .val (.long v26), .second, .unset, .unset, .unset, .unset, .unset, .unset, .unset, .unset, .unset, .unset, .unset, .unset, .unset] [(.long (9223372036854775807 : Int64)), (.long u0)])) _
      refine XS.land X0.here hx rfl (hb hby at_33) rfl ?_
      show Steps p.tables e below (s₁.setTop (mkF m 34 #[.val (.long d0), .second, .val (.long o0), .second, .val (.long u0), .second, .val (.long d1), .second, .val (.long o1), .second, .val (.long u1), .second, .val (.int (2 : Int32)), .val (.long v19), .second, .val (.long v26), .second, .unset, .unset, .unset, .unset, .unset, .unset, .unset, .unset, .unset, .unset, .unset, .unset, .unset] [(.long (u0 &&& (9223372036854775807 : Int64)))])) _
      refine XS.lstore X0.here hx rfl (hb hby at_34) rfl (l' := #[.val (.long d0), .second, .val (.long o0), .second, .val (.long u0), .second, .val (.long d1), .second, .val (.long o1), .second, .val (.long u1), .second, .val (.int (2 : Int32)), .val (.long v19), .second, .val (.long v26), .second, .val (.long v34), .second, .unset, .unset, .unset, .unset, .unset, .unset, .unset, .unset, .unset, .unset, .unset]) (by rw [hv34]; rfl) ?_
      show Steps p.tables e below (s₁.setTop (mkF m 36 #[.val (.long d0), .second, .val (.long o0), .second, .val (.long u0), .second, .val (.long d1), .second, .val (.long o1), .second, .val (.long u1), .second, .val (.int (2 : Int32)), .val (.long v19), .second, .val (.long v26), .second, .val (.long v34), .second, .unset, .unset, .unset, .unset, .unset, .unset, .unset, .unset, .unset, .unset, .unset] [])) _
      refine XS.lload X0.here hx rfl (hb hby at_36) rfl ?_
      show Steps p.tables e below (s₁.setTop (mkF m 38 #[.val (.long d0), .second, .val (.long o0), .second, .val (.long u0), .second, .val (.long d1), .second, .val (.long o1), .second, .val (.long u1), .second, .val (.int (2 : Int32)), .val (.long v19), .second, .val (.long v26), .second, .val (.long v34), .second, .unset, .unset, .unset, .unset, .unset, .unset, .unset, .unset, .unset, .unset, .unset] [(.long d1)])) _
      refine X0.ldc2Long hx hown (mvT hZ (hw _ (List.mem_of_getElem? (i := 0) rfl))) (g := (mkF m 38 #[.val (.long d0), .second, .val (.long o0), .second, .val (.long u0), .second, .val (.long d1), .second, .val (.long o1), .second, .val (.long u1), .second, .val (.int (2 : Int32)), .val (.long v19), .second, .val (.long v26), .second, .val (.long v34), .second, .unset, .unset, .unset, .unset, .unset, .unset, .unset, .unset, .unset, .unset, .unset] [(.long d1)])) rfl (hb hby at_38) _ ?_
      show Steps p.tables e below (s₁.setTop (mkF m 41 #[.val (.long d0), .second, .val (.long o0), .second, .val (.long u0), .second, .val (.long d1), .second, .val (.long o1), .second, .val (.long u1), .second, .val (.int (2 : Int32)), .val (.long v19), .second, .val (.long v26), .second, .val (.long v34), .second, .unset, .unset, .unset, .unset, .unset, .unset, .unset, .unset, .unset, .unset, .unset] [(.long (9223372036854775807 : Int64)), (.long d1)])) _
      refine XS.land X0.here hx rfl (hb hby at_41) rfl ?_
      show Steps p.tables e below (s₁.setTop (mkF m 42 #[.val (.long d0), .second, .val (.long o0), .second, .val (.long u0), .second, .val (.long d1), .second, .val (.long o1), .second, .val (.long u1), .second, .val (.int (2 : Int32)), .val (.long v19), .second, .val (.long v26), .second, .val (.long v34), .second, .unset, .unset, .unset, .unset, .unset, .unset, .unset, .unset, .unset, .unset, .unset] [(.long (d1 &&& (9223372036854775807 : Int64)))])) _
      refine XS.lstore X0.here hx rfl (hb hby at_42) rfl (l' := #[.val (.long d0), .second, .val (.long o0), .second, .val (.long u0), .second, .val (.long d1), .second, .val (.long o1), .second, .val (.long u1), .second, .val (.int (2 : Int32)), .val (.long v19), .second, .val (.long v26), .second, .val (.long v34), .second, .val (.long v42), .second, .unset, .unset, .unset, .unset, .unset, .unset, .unset, .unset, .unset]) (by rw [hv42]; rfl) ?_
      show Steps p.tables e below (s₁.setTop (mkF m 44 #[.val (.long d0), .second, .val (.long o0), .second, .val (.long u0), .second, .val (.long d1), .second, .val (.long o1), .second, .val (.long u1), .second, .val (.int (2 : Int32)), .val (.long v19), .second, .val (.long v26), .second, .val (.long v34), .second, .val (.long v42), .second, .unset, .unset, .unset, .unset, .unset, .unset, .unset, .unset, .unset] [])) _
      refine XS.lload X0.here hx rfl (hb hby at_44) rfl ?_
      show Steps p.tables e below (s₁.setTop (mkF m 46 #[.val (.long d0), .second, .val (.long o0), .second, .val (.long u0), .second, .val (.long d1), .second, .val (.long o1), .second, .val (.long u1), .second, .val (.int (2 : Int32)), .val (.long v19), .second, .val (.long v26), .second, .val (.long v34), .second, .val (.long v42), .second, .unset, .unset, .unset, .unset, .unset, .unset, .unset, .unset, .unset] [(.long o1)])) _
      refine X0.ldc2Long hx hown (mvT hZ (hw _ (List.mem_of_getElem? (i := 0) rfl))) (g := (mkF m 46 #[.val (.long d0), .second, .val (.long o0), .second, .val (.long u0), .second, .val (.long d1), .second, .val (.long o1), .second, .val (.long u1), .second, .val (.int (2 : Int32)), .val (.long v19), .second, .val (.long v26), .second, .val (.long v34), .second, .val (.long v42), .second, .unset, .unset, .unset, .unset, .unset, .unset, .unset, .unset, .unset] [(.long o1)])) rfl (hb hby at_46) _ ?_
      show Steps p.tables e below (s₁.setTop (mkF m 49 #[.val (.long d0), .second, .val (.long o0), .second, .val (.long u0), .second, .val (.long d1), .second, .val (.long o1), .second, .val (.long u1), .second, .val (.int (2 : Int32)), .val (.long v19), .second, .val (.long v26), .second, .val (.long v34), .second, .val (.long v42), .second, .unset, .unset, .unset, .unset, .unset, .unset, .unset, .unset, .unset] [(.long (9223372036854775807 : Int64)), (.long o1)])) _
      refine XS.land X0.here hx rfl (hb hby at_49) rfl ?_
      show Steps p.tables e below (s₁.setTop (mkF m 50 #[.val (.long d0), .second, .val (.long o0), .second, .val (.long u0), .second, .val (.long d1), .second, .val (.long o1), .second, .val (.long u1), .second, .val (.int (2 : Int32)), .val (.long v19), .second, .val (.long v26), .second, .val (.long v34), .second, .val (.long v42), .second, .unset, .unset, .unset, .unset, .unset, .unset, .unset, .unset, .unset] [(.long (o1 &&& (9223372036854775807 : Int64)))])) _
      refine XS.lstore X0.here hx rfl (hb hby at_50) rfl (l' := #[.val (.long d0), .second, .val (.long o0), .second, .val (.long u0), .second, .val (.long d1), .second, .val (.long o1), .second, .val (.long u1), .second, .val (.int (2 : Int32)), .val (.long v19), .second, .val (.long v26), .second, .val (.long v34), .second, .val (.long v42), .second, .val (.long v50), .second, .unset, .unset, .unset, .unset, .unset, .unset, .unset]) (by rw [hv50]; rfl) ?_
      show Steps p.tables e below (s₁.setTop (mkF m 52 #[.val (.long d0), .second, .val (.long o0), .second, .val (.long u0), .second, .val (.long d1), .second, .val (.long o1), .second, .val (.long u1), .second, .val (.int (2 : Int32)), .val (.long v19), .second, .val (.long v26), .second, .val (.long v34), .second, .val (.long v42), .second, .val (.long v50), .second, .unset, .unset, .unset, .unset, .unset, .unset, .unset] [])) _
      refine XS.lload X0.here hx rfl (hb hby at_52) rfl ?_
      show Steps p.tables e below (s₁.setTop (mkF m 54 #[.val (.long d0), .second, .val (.long o0), .second, .val (.long u0), .second, .val (.long d1), .second, .val (.long o1), .second, .val (.long u1), .second, .val (.int (2 : Int32)), .val (.long v19), .second, .val (.long v26), .second, .val (.long v34), .second, .val (.long v42), .second, .val (.long v50), .second, .unset, .unset, .unset, .unset, .unset, .unset, .unset] [(.long u1)])) _
      refine X0.ldc2Long hx hown (mvT hZ (hw _ (List.mem_of_getElem? (i := 0) rfl))) (g := (mkF m 54 #[.val (.long d0), .second, .val (.long o0), .second, .val (.long u0), .second, .val (.long d1), .second, .val (.long o1), .second, .val (.long u1), .second, .val (.int (2 : Int32)), .val (.long v19), .second, .val (.long v26), .second, .val (.long v34), .second, .val (.long v42), .second, .val (.long v50), .second, .unset, .unset, .unset, .unset, .unset, .unset, .unset] [(.long u1)])) rfl (hb hby at_54) _ ?_
      show Steps p.tables e below (s₁.setTop (mkF m 57 #[.val (.long d0), .second, .val (.long o0), .second, .val (.long u0), .second, .val (.long d1), .second, .val (.long o1), .second, .val (.long u1), .second, .val (.int (2 : Int32)), .val (.long v19), .second, .val (.long v26), .second, .val (.long v34), .second, .val (.long v42), .second, .val (.long v50), .second, .unset, .unset, .unset, .unset, .unset, .unset, .unset] [(.long (9223372036854775807 : Int64)), (.long u1)])) _
      refine XS.land X0.here hx rfl (hb hby at_57) rfl ?_
      show Steps p.tables e below (s₁.setTop (mkF m 58 #[.val (.long d0), .second, .val (.long o0), .second, .val (.long u0), .second, .val (.long d1), .second, .val (.long o1), .second, .val (.long u1), .second, .val (.int (2 : Int32)), .val (.long v19), .second, .val (.long v26), .second, .val (.long v34), .second, .val (.long v42), .second, .val (.long v50), .second, .unset, .unset, .unset, .unset, .unset, .unset, .unset] [(.long (u1 &&& (9223372036854775807 : Int64)))])) _
      refine XS.lstore X0.here hx rfl (hb hby at_58) rfl (l' := #[.val (.long d0), .second, .val (.long o0), .second, .val (.long u0), .second, .val (.long d1), .second, .val (.long o1), .second, .val (.long u1), .second, .val (.int (2 : Int32)), .val (.long v19), .second, .val (.long v26), .second, .val (.long v34), .second, .val (.long v42), .second, .val (.long v50), .second, .val (.long v58), .second, .unset, .unset, .unset, .unset, .unset]) (by rw [hv58]; rfl) ?_
      show Steps p.tables e below (s₁.setTop (mkF m 60 #[.val (.long d0), .second, .val (.long o0), .second, .val (.long u0), .second, .val (.long d1), .second, .val (.long o1), .second, .val (.long u1), .second, .val (.int (2 : Int32)), .val (.long v19), .second, .val (.long v26), .second, .val (.long v34), .second, .val (.long v42), .second, .val (.long v50), .second, .val (.long v58), .second, .unset, .unset, .unset, .unset, .unset] [])) _
      refine XS.iload X0.here hx rfl (hb hby at_60) rfl ?_
      show Steps p.tables e below (s₁.setTop (mkF m 62 #[.val (.long d0), .second, .val (.long o0), .second, .val (.long u0), .second, .val (.long d1), .second, .val (.long o1), .second, .val (.long u1), .second, .val (.int (2 : Int32)), .val (.long v19), .second, .val (.long v26), .second, .val (.long v34), .second, .val (.long v42), .second, .val (.long v50), .second, .val (.long v58), .second, .unset, .unset, .unset, .unset, .unset] [(.int (2 : Int32))])) _
      refine XS.lload X0.here hx rfl (hb hby at_62) rfl ?_
      show Steps p.tables e below (s₁.setTop (mkF m 64 #[.val (.long d0), .second, .val (.long o0), .second, .val (.long u0), .second, .val (.long d1), .second, .val (.long o1), .second, .val (.long u1), .second, .val (.int (2 : Int32)), .val (.long v19), .second, .val (.long v26), .second, .val (.long v34), .second, .val (.long v42), .second, .val (.long v50), .second, .val (.long v58), .second, .unset, .unset, .unset, .unset, .unset] [(.long v19), (.int (2 : Int32))])) _
      refine XS.lload X0.here hx rfl (hb hby at_64) rfl ?_
      show Steps p.tables e below (s₁.setTop (mkF m 66 #[.val (.long d0), .second, .val (.long o0), .second, .val (.long u0), .second, .val (.long d1), .second, .val (.long o1), .second, .val (.long u1), .second, .val (.int (2 : Int32)), .val (.long v19), .second, .val (.long v26), .second, .val (.long v34), .second, .val (.long v42), .second, .val (.long v50), .second, .val (.long v58), .second, .unset, .unset, .unset, .unset, .unset] [(.long v42), (.long v19), (.int (2 : Int32))])) _
      refine st50 _ ?_
      show Steps p.tables e below (T50.setTop (mkF m 69 #[.val (.long d0), .second, .val (.long o0), .second, .val (.long u0), .second, .val (.long d1), .second, .val (.long o1), .second, .val (.long u1), .second, .val (.int (2 : Int32)), .val (.long v19), .second, .val (.long v26), .second, .val (.long v34), .second, .val (.long v42), .second, .val (.long v50), .second, .val (.long v58), .second, .unset, .unset, .unset, .unset, .unset] [(.ref b50)])) _
      refine XS.astore X50.here hx rfl (hb hby at_69) rfl rfl (l' := #[.val (.long d0), .second, .val (.long o0), .second, .val (.long u0), .second, .val (.long d1), .second, .val (.long o1), .second, .val (.long u1), .second, .val (.int (2 : Int32)), .val (.long v19), .second, .val (.long v26), .second, .val (.long v34), .second, .val (.long v42), .second, .val (.long v50), .second, .val (.long v58), .second, .val (.ref b50), .unset, .unset, .unset, .unset]) rfl ?_
      show Steps p.tables e below (T50.setTop (mkF m 71 #[.val (.long d0), .second, .val (.long o0), .second, .val (.long u0), .second, .val (.long d1), .second, .val (.long o1), .second, .val (.long u1), .second, .val (.int (2 : Int32)), .val (.long v19), .second, .val (.long v26), .second, .val (.long v34), .second, .val (.long v42), .second, .val (.long v50), .second, .val (.long v58), .second, .val (.ref b50), .unset, .unset, .unset, .unset] [])) _
      refine XS.iload X50.here hx rfl (hb hby at_71) rfl ?_
      show Steps p.tables e below (T50.setTop (mkF m 73 #[.val (.long d0), .second, .val (.long o0), .second, .val (.long u0), .second, .val (.long d1), .second, .val (.long o1), .second, .val (.long u1), .second, .val (.int (2 : Int32)), .val (.long v19), .second, .val (.long v26), .second, .val (.long v34), .second, .val (.long v42), .second, .val (.long v50), .second, .val (.long v58), .second, .val (.ref b50), .unset, .unset, .unset, .unset] [(.int (2 : Int32))])) _
      refine XS.lload X50.here hx rfl (hb hby at_73) rfl ?_
      show Steps p.tables e below (T50.setTop (mkF m 75 #[.val (.long d0), .second, .val (.long o0), .second, .val (.long u0), .second, .val (.long d1), .second, .val (.long o1), .second, .val (.long u1), .second, .val (.int (2 : Int32)), .val (.long v19), .second, .val (.long v26), .second, .val (.long v34), .second, .val (.long v42), .second, .val (.long v50), .second, .val (.long v58), .second, .val (.ref b50), .unset, .unset, .unset, .unset] [(.long v26), (.int (2 : Int32))])) _
      refine XS.lload X50.here hx rfl (hb hby at_75) rfl ?_
      show Steps p.tables e below (T50.setTop (mkF m 77 #[.val (.long d0), .second, .val (.long o0), .second, .val (.long u0), .second, .val (.long d1), .second, .val (.long o1), .second, .val (.long u1), .second, .val (.int (2 : Int32)), .val (.long v19), .second, .val (.long v26), .second, .val (.long v34), .second, .val (.long v42), .second, .val (.long v50), .second, .val (.long v58), .second, .val (.ref b50), .unset, .unset, .unset, .unset] [(.long v50), (.long v26), (.int (2 : Int32))])) _
      refine st55 _ ?_
      show Steps p.tables e below (T55.setTop (mkF m 80 #[.val (.long d0), .second, .val (.long o0), .second, .val (.long u0), .second, .val (.long d1), .second, .val (.long o1), .second, .val (.long u1), .second, .val (.int (2 : Int32)), .val (.long v19), .second, .val (.long v26), .second, .val (.long v34), .second, .val (.long v42), .second, .val (.long v50), .second, .val (.long v58), .second, .val (.ref b50), .unset, .unset, .unset, .unset] [(.ref b55)])) _
      refine XS.astore X55.here hx rfl (hb hby at_80) rfl rfl (l' := #[.val (.long d0), .second, .val (.long o0), .second, .val (.long u0), .second, .val (.long d1), .second, .val (.long o1), .second, .val (.long u1), .second, .val (.int (2 : Int32)), .val (.long v19), .second, .val (.long v26), .second, .val (.long v34), .second, .val (.long v42), .second, .val (.long v50), .second, .val (.long v58), .second, .val (.ref b50), .val (.ref b55), .unset, .unset, .unset]) rfl ?_
      show Steps p.tables e below (T55.setTop (mkF m 82 #[.val (.long d0), .second, .val (.long o0), .second, .val (.long u0), .second, .val (.long d1), .second, .val (.long o1), .second, .val (.long u1), .second, .val (.int (2 : Int32)), .val (.long v19), .second, .val (.long v26), .second, .val (.long v34), .second, .val (.long v42), .second, .val (.long v50), .second, .val (.long v58), .second, .val (.ref b50), .val (.ref b55), .unset, .unset, .unset] [])) _
      refine XS.iload X55.here hx rfl (hb hby at_82) rfl ?_
      show Steps p.tables e below (T55.setTop (mkF m 84 #[.val (.long d0), .second, .val (.long o0), .second, .val (.long u0), .second, .val (.long d1), .second, .val (.long o1), .second, .val (.long u1), .second, .val (.int (2 : Int32)), .val (.long v19), .second, .val (.long v26), .second, .val (.long v34), .second, .val (.long v42), .second, .val (.long v50), .second, .val (.long v58), .second, .val (.ref b50), .val (.ref b55), .unset, .unset, .unset] [(.int (2 : Int32))])) _
      refine XS.lload X55.here hx rfl (hb hby at_84) rfl ?_
      show Steps p.tables e below (T55.setTop (mkF m 86 #[.val (.long d0), .second, .val (.long o0), .second, .val (.long u0), .second, .val (.long d1), .second, .val (.long o1), .second, .val (.long u1), .second, .val (.int (2 : Int32)), .val (.long v19), .second, .val (.long v26), .second, .val (.long v34), .second, .val (.long v42), .second, .val (.long v50), .second, .val (.long v58), .second, .val (.ref b50), .val (.ref b55), .unset, .unset, .unset] [(.long v34), (.int (2 : Int32))])) _
      refine XS.lload X55.here hx rfl (hb hby at_86) rfl ?_
      show Steps p.tables e below (T55.setTop (mkF m 88 #[.val (.long d0), .second, .val (.long o0), .second, .val (.long u0), .second, .val (.long d1), .second, .val (.long o1), .second, .val (.long u1), .second, .val (.int (2 : Int32)), .val (.long v19), .second, .val (.long v26), .second, .val (.long v34), .second, .val (.long v42), .second, .val (.long v50), .second, .val (.long v58), .second, .val (.ref b50), .val (.ref b55), .unset, .unset, .unset] [(.long v58), (.long v34), (.int (2 : Int32))])) _
      refine st61 _ ?_
      show Steps p.tables e below (T61.setTop (mkF m 91 #[.val (.long d0), .second, .val (.long o0), .second, .val (.long u0), .second, .val (.long d1), .second, .val (.long o1), .second, .val (.long u1), .second, .val (.int (2 : Int32)), .val (.long v19), .second, .val (.long v26), .second, .val (.long v34), .second, .val (.long v42), .second, .val (.long v50), .second, .val (.long v58), .second, .val (.ref b50), .val (.ref b55), .unset, .unset, .unset] [(.ref b61)])) _
      refine XS.astore X61.here hx rfl (hb hby at_91) rfl rfl (l' := #[.val (.long d0), .second, .val (.long o0), .second, .val (.long u0), .second, .val (.long d1), .second, .val (.long o1), .second, .val (.long u1), .second, .val (.int (2 : Int32)), .val (.long v19), .second, .val (.long v26), .second, .val (.long v34), .second, .val (.long v42), .second, .val (.long v50), .second, .val (.long v58), .second, .val (.ref b50), .val (.ref b55), .val (.ref b61), .unset, .unset]) rfl ?_
      show Steps p.tables e below (T61.setTop (mkF m 93 #[.val (.long d0), .second, .val (.long o0), .second, .val (.long u0), .second, .val (.long d1), .second, .val (.long o1), .second, .val (.long u1), .second, .val (.int (2 : Int32)), .val (.long v19), .second, .val (.long v26), .second, .val (.long v34), .second, .val (.long v42), .second, .val (.long v50), .second, .val (.long v58), .second, .val (.ref b50), .val (.ref b55), .val (.ref b61), .unset, .unset] [])) _
      refine XS.aload X61.here hx rfl (hb hby at_93) rfl rfl ?_
      show Steps p.tables e below (T61.setTop (mkF m 95 #[.val (.long d0), .second, .val (.long o0), .second, .val (.long u0), .second, .val (.long d1), .second, .val (.long o1), .second, .val (.long u1), .second, .val (.int (2 : Int32)), .val (.long v19), .second, .val (.long v26), .second, .val (.long v34), .second, .val (.long v42), .second, .val (.long v50), .second, .val (.long v58), .second, .val (.ref b50), .val (.ref b55), .val (.ref b61), .unset, .unset] [(.ref b50)])) _
      refine XS.aload X61.here hx rfl (hb hby at_95) rfl rfl ?_
      show Steps p.tables e below (T61.setTop (mkF m 97 #[.val (.long d0), .second, .val (.long o0), .second, .val (.long u0), .second, .val (.long d1), .second, .val (.long o1), .second, .val (.long u1), .second, .val (.int (2 : Int32)), .val (.long v19), .second, .val (.long v26), .second, .val (.long v34), .second, .val (.long v42), .second, .val (.long v50), .second, .val (.long v58), .second, .val (.ref b50), .val (.ref b55), .val (.ref b61), .unset, .unset] [(.ref b55), (.ref b50)])) _
      refine XS.aload X61.here hx rfl (hb hby at_97) rfl rfl ?_
      show Steps p.tables e below (T61.setTop (mkF m 99 #[.val (.long d0), .second, .val (.long o0), .second, .val (.long u0), .second, .val (.long d1), .second, .val (.long o1), .second, .val (.long u1), .second, .val (.int (2 : Int32)), .val (.long v19), .second, .val (.long v26), .second, .val (.long v34), .second, .val (.long v42), .second, .val (.long v50), .second, .val (.long v58), .second, .val (.ref b50), .val (.ref b55), .val (.ref b61), .unset, .unset] [(.ref b61), (.ref b55), (.ref b50)])) _
      refine st68 _ ?_
      show Steps p.tables e below (T68.setTop (mkF m 102 #[.val (.long d0), .second, .val (.long o0), .second, .val (.long u0), .second, .val (.long d1), .second, .val (.long o1), .second, .val (.long u1), .second, .val (.int (2 : Int32)), .val (.long v19), .second, .val (.long v26), .second, .val (.long v34), .second, .val (.long v42), .second, .val (.long v50), .second, .val (.long v58), .second, .val (.ref b50), .val (.ref b55), .val (.ref b61), .unset, .unset] [(.int (own_fits2 v19 v42 v26 v50 v34 v58))])) _
      rw [← hr99]
      show Steps p.tables e below (T68.setTop (mkF m 102 #[.val (.long d0), .second, .val (.long o0), .second, .val (.long u0), .second, .val (.long d1), .second, .val (.long o1), .second, .val (.long u1), .second, .val (.int (2 : Int32)), .val (.long v19), .second, .val (.long v26), .second, .val (.long v34), .second, .val (.long v42), .second, .val (.long v50), .second, .val (.long v58), .second, .val (.ref b50), .val (.ref b55), .val (.ref b61), .unset, .unset] [(.int r99)])) _
      refine XS.istore X68.here hx rfl (hb hby at_102) rfl (l' := #[.val (.long d0), .second, .val (.long o0), .second, .val (.long u0), .second, .val (.long d1), .second, .val (.long o1), .second, .val (.long u1), .second, .val (.int (2 : Int32)), .val (.long v19), .second, .val (.long v26), .second, .val (.long v34), .second, .val (.long v42), .second, .val (.long v50), .second, .val (.long v58), .second, .val (.ref b50), .val (.ref b55), .val (.ref b61), .val (.int r99), .unset]) rfl ?_
      show Steps p.tables e below (T68.setTop (mkF m 104 #[.val (.long d0), .second, .val (.long o0), .second, .val (.long u0), .second, .val (.long d1), .second, .val (.long o1), .second, .val (.long u1), .second, .val (.int (2 : Int32)), .val (.long v19), .second, .val (.long v26), .second, .val (.long v34), .second, .val (.long v42), .second, .val (.long v50), .second, .val (.long v58), .second, .val (.ref b50), .val (.ref b55), .val (.ref b61), .val (.int r99), .unset] [])) _
      refine XS.iload X68.here hx rfl (hb hby at_104) rfl ?_
      show Steps p.tables e below (T68.setTop (mkF m 106 #[.val (.long d0), .second, .val (.long o0), .second, .val (.long u0), .second, .val (.long d1), .second, .val (.long o1), .second, .val (.long u1), .second, .val (.int (2 : Int32)), .val (.long v19), .second, .val (.long v26), .second, .val (.long v34), .second, .val (.long v42), .second, .val (.long v50), .second, .val (.long v58), .second, .val (.ref b50), .val (.ref b55), .val (.ref b61), .val (.int r99), .unset] [(.int (2 : Int32))])) _
      refine XS.iconst X68.here hx rfl (hb hby at_106) ?_
      show Steps p.tables e below (T68.setTop (mkF m 107 #[.val (.long d0), .second, .val (.long o0), .second, .val (.long u0), .second, .val (.long d1), .second, .val (.long o1), .second, .val (.long u1), .second, .val (.int (2 : Int32)), .val (.long v19), .second, .val (.long v26), .second, .val (.long v34), .second, .val (.long v42), .second, .val (.long v50), .second, .val (.long v58), .second, .val (.ref b50), .val (.ref b55), .val (.ref b61), .val (.int r99), .unset] [(.int (1 : Int32)), (.int (2 : Int32))])) _
      refine XS.icmpNo X68.here hx rfl (hb hby at_107) rfl (flt (by decide)).1 ?_
      show Steps p.tables e below (T68.setTop (mkF m 110 #[.val (.long d0), .second, .val (.long o0), .second, .val (.long u0), .second, .val (.long d1), .second, .val (.long o1), .second, .val (.long u1), .second, .val (.int (2 : Int32)), .val (.long v19), .second, .val (.long v26), .second, .val (.long v34), .second, .val (.long v42), .second, .val (.long v50), .second, .val (.long v58), .second, .val (.ref b50), .val (.ref b55), .val (.ref b61), .val (.int r99), .unset] [])) _
      refine XS.lload X68.here hx rfl (hb hby at_110) rfl ?_
      show Steps p.tables e below (T68.setTop (mkF m 112 #[.val (.long d0), .second, .val (.long o0), .second, .val (.long u0), .second, .val (.long d1), .second, .val (.long o1), .second, .val (.long u1), .second, .val (.int (2 : Int32)), .val (.long v19), .second, .val (.long v26), .second, .val (.long v34), .second, .val (.long v42), .second, .val (.long v50), .second, .val (.long v58), .second, .val (.ref b50), .val (.ref b55), .val (.ref b61), .val (.int r99), .unset] [(.long v19)])) _
      refine XS.lload X68.here hx rfl (hb hby at_112) rfl ?_
      show Steps p.tables e below (T68.setTop (mkF m 114 #[.val (.long d0), .second, .val (.long o0), .second, .val (.long u0), .second, .val (.long d1), .second, .val (.long o1), .second, .val (.long u1), .second, .val (.int (2 : Int32)), .val (.long v19), .second, .val (.long v26), .second, .val (.long v34), .second, .val (.long v42), .second, .val (.long v50), .second, .val (.long v58), .second, .val (.ref b50), .val (.ref b55), .val (.ref b61), .val (.int r99), .unset] [(.long v26), (.long v19)])) _
      refine XS.lload X68.here hx rfl (hb hby at_114) rfl ?_
      show Steps p.tables e below (T68.setTop (mkF m 116 #[.val (.long d0), .second, .val (.long o0), .second, .val (.long u0), .second, .val (.long d1), .second, .val (.long o1), .second, .val (.long u1), .second, .val (.int (2 : Int32)), .val (.long v19), .second, .val (.long v26), .second, .val (.long v34), .second, .val (.long v42), .second, .val (.long v50), .second, .val (.long v58), .second, .val (.ref b50), .val (.ref b55), .val (.ref b61), .val (.int r99), .unset] [(.long v34), (.long v26), (.long v19)])) _
      refine st69 _ ?_
      show Steps p.tables e below (T69.setTop (mkF m 119 #[.val (.long d0), .second, .val (.long o0), .second, .val (.long u0), .second, .val (.long d1), .second, .val (.long o1), .second, .val (.long u1), .second, .val (.int (2 : Int32)), .val (.long v19), .second, .val (.long v26), .second, .val (.long v34), .second, .val (.long v42), .second, .val (.long v50), .second, .val (.long v58), .second, .val (.ref b50), .val (.ref b55), .val (.ref b61), .val (.int r99), .unset] [(.int (own_one v19 v26 v34))])) _
      rw [← hr116]
      show Steps p.tables e below (T69.setTop (mkF m 119 #[.val (.long d0), .second, .val (.long o0), .second, .val (.long u0), .second, .val (.long d1), .second, .val (.long o1), .second, .val (.long u1), .second, .val (.int (2 : Int32)), .val (.long v19), .second, .val (.long v26), .second, .val (.long v34), .second, .val (.long v42), .second, .val (.long v50), .second, .val (.long v58), .second, .val (.ref b50), .val (.ref b55), .val (.ref b61), .val (.int r99), .unset] [(.int r116)])) _
      exact kt
    by_cases hc119_71 : r116 = (0 : Int32)
    · skip
      obtain ⟨m159, hm159⟩ : ∃ z_q : Int32, z_q = (if r99 = (0 : Int32) then (1 : Int32) else (0 : Int32)) := ⟨_, rfl⟩
      have pre73 : ∀ tq, Steps p.tables e below (T69.setTop (mkF m 159 #[.val (.long d0), .second, .val (.long o0), .second, .val (.long u0), .second, .val (.long d1), .second, .val (.long o1), .second, .val (.long u1), .second, .val (.int (2 : Int32)), .val (.long v19), .second, .val (.long v26), .second, .val (.long v34), .second, .val (.long v42), .second, .val (.long v50), .second, .val (.long v58), .second, .val (.ref b50), .val (.ref b55), .val (.ref b61), .val (.int r99), .val (.int (0 : Int32))] [(.int m159)])) tq → Steps p.tables e below (s₁.setTop (entryFrame m #[(.long d0), (.long o0), (.long u0), (.long d1), (.long o1), (.long u1)] maxLocals)) tq := by
        intro tq kt
        refine pre70 _ ?_
        show Steps p.tables e below (T69.setTop (mkF m 119 #[.val (.long d0), .second, .val (.long o0), .second, .val (.long u0), .second, .val (.long d1), .second, .val (.long o1), .second, .val (.long u1), .second, .val (.int (2 : Int32)), .val (.long v19), .second, .val (.long v26), .second, .val (.long v34), .second, .val (.long v42), .second, .val (.long v50), .second, .val (.long v58), .second, .val (.ref b50), .val (.ref b55), .val (.ref b61), .val (.int r99), .unset] [(.int r116)])) _
        refine XS.ifYes X69.here hx rfl (pc0 := 119) (pc' := 144) rfl (hb hby at_119) rfl ((if0 _ _).trans (teq hc119_71).1) (by decide) (by decide) ?_
        show Steps p.tables e below (T69.setTop (mkF m 144 #[.val (.long d0), .second, .val (.long o0), .second, .val (.long u0), .second, .val (.long d1), .second, .val (.long o1), .second, .val (.long u1), .second, .val (.int (2 : Int32)), .val (.long v19), .second, .val (.long v26), .second, .val (.long v34), .second, .val (.long v42), .second, .val (.long v50), .second, .val (.long v58), .second, .val (.ref b50), .val (.ref b55), .val (.ref b61), .val (.int r99), .unset] [])) _
        refine XS.iconst X69.here hx rfl (hb hby at_144) ?_
        show Steps p.tables e below (T69.setTop (mkF m 145 #[.val (.long d0), .second, .val (.long o0), .second, .val (.long u0), .second, .val (.long d1), .second, .val (.long o1), .second, .val (.long u1), .second, .val (.int (2 : Int32)), .val (.long v19), .second, .val (.long v26), .second, .val (.long v34), .second, .val (.long v42), .second, .val (.long v50), .second, .val (.long v58), .second, .val (.ref b50), .val (.ref b55), .val (.ref b61), .val (.int r99), .unset] [(.int (0 : Int32))])) _
        refine XS.istore X69.here hx rfl (hb hby at_145) rfl (l' := #[.val (.long d0), .second, .val (.long o0), .second, .val (.long u0), .second, .val (.long d1), .second, .val (.long o1), .second, .val (.long u1), .second, .val (.int (2 : Int32)), .val (.long v19), .second, .val (.long v26), .second, .val (.long v34), .second, .val (.long v42), .second, .val (.long v50), .second, .val (.long v58), .second, .val (.ref b50), .val (.ref b55), .val (.ref b61), .val (.int r99), .val (.int (0 : Int32))]) rfl ?_
        show Steps p.tables e below (T69.setTop (mkF m 147 #[.val (.long d0), .second, .val (.long o0), .second, .val (.long u0), .second, .val (.long d1), .second, .val (.long o1), .second, .val (.long u1), .second, .val (.int (2 : Int32)), .val (.long v19), .second, .val (.long v26), .second, .val (.long v34), .second, .val (.long v42), .second, .val (.long v50), .second, .val (.long v58), .second, .val (.ref b50), .val (.ref b55), .val (.ref b61), .val (.int r99), .val (.int (0 : Int32))] [])) _
        refine XS.iload X69.here hx rfl (hb hby at_147) rfl ?_
        show Steps p.tables e below (T69.setTop (mkF m 149 #[.val (.long d0), .second, .val (.long o0), .second, .val (.long u0), .second, .val (.long d1), .second, .val (.long o1), .second, .val (.long u1), .second, .val (.int (2 : Int32)), .val (.long v19), .second, .val (.long v26), .second, .val (.long v34), .second, .val (.long v42), .second, .val (.long v50), .second, .val (.long v58), .second, .val (.ref b50), .val (.ref b55), .val (.ref b61), .val (.int r99), .val (.int (0 : Int32))] [(.int r99)])) _
        refine XS.iload X69.here hx rfl (hb hby at_149) rfl ?_
        by_cases d72 : r99 = (0 : Int32)
        · skip
          show Steps p.tables e below (T69.setTop (mkF m 151 #[.val (.long d0), .second, .val (.long o0), .second, .val (.long u0), .second, .val (.long d1), .second, .val (.long o1), .second, .val (.long u1), .second, .val (.int (2 : Int32)), .val (.long v19), .second, .val (.long v26), .second, .val (.long v34), .second, .val (.long v42), .second, .val (.long v50), .second, .val (.long v58), .second, .val (.ref b50), .val (.ref b55), .val (.ref b61), .val (.int r99), .val (.int (0 : Int32))] [(.int (0 : Int32)), (.int r99)])) _
          refine XS.icmpNo X69.here hx rfl (hb hby at_151) rfl (teq d72).2 ?_
          show Steps p.tables e below (T69.setTop (mkF m 154 #[.val (.long d0), .second, .val (.long o0), .second, .val (.long u0), .second, .val (.long d1), .second, .val (.long o1), .second, .val (.long u1), .second, .val (.int (2 : Int32)), .val (.long v19), .second, .val (.long v26), .second, .val (.long v34), .second, .val (.long v42), .second, .val (.long v50), .second, .val (.long v58), .second, .val (.ref b50), .val (.ref b55), .val (.ref b61), .val (.int r99), .val (.int (0 : Int32))] [])) _
          refine XS.iconst X69.here hx rfl (hb hby at_154) ?_
          show Steps p.tables e below (T69.setTop (mkF m 155 #[.val (.long d0), .second, .val (.long o0), .second, .val (.long u0), .second, .val (.long d1), .second, .val (.long o1), .second, .val (.long u1), .second, .val (.int (2 : Int32)), .val (.long v19), .second, .val (.long v26), .second, .val (.long v34), .second, .val (.long v42), .second, .val (.long v50), .second, .val (.long v58), .second, .val (.ref b50), .val (.ref b55), .val (.ref b61), .val (.int r99), .val (.int (0 : Int32))] [(.int (1 : Int32))])) _
          refine XS.goto X69.here hx rfl (pc0 := 155) (pc' := 159) rfl (hb hby at_155) (by decide) (by decide) ?_
          show Steps p.tables e below (T69.setTop (mkF m 159 #[.val (.long d0), .second, .val (.long o0), .second, .val (.long u0), .second, .val (.long d1), .second, .val (.long o1), .second, .val (.long u1), .second, .val (.int (2 : Int32)), .val (.long v19), .second, .val (.long v26), .second, .val (.long v34), .second, .val (.long v42), .second, .val (.long v50), .second, .val (.long v58), .second, .val (.ref b50), .val (.ref b55), .val (.ref b61), .val (.int r99), .val (.int (0 : Int32))] [(.int (1 : Int32))])) _
          exact castTop (by simp only [hm159, if_pos d72]) kt
        · skip
          show Steps p.tables e below (T69.setTop (mkF m 151 #[.val (.long d0), .second, .val (.long o0), .second, .val (.long u0), .second, .val (.long d1), .second, .val (.long o1), .second, .val (.long u1), .second, .val (.int (2 : Int32)), .val (.long v19), .second, .val (.long v26), .second, .val (.long v34), .second, .val (.long v42), .second, .val (.long v50), .second, .val (.long v58), .second, .val (.ref b50), .val (.ref b55), .val (.ref b61), .val (.int r99), .val (.int (0 : Int32))] [(.int (0 : Int32)), (.int r99)])) _
          refine XS.icmpYes X69.here hx rfl (pc0 := 151) (pc' := 158) rfl (hb hby at_151) rfl (feq d72).2 (by decide) (by decide) ?_
          show Steps p.tables e below (T69.setTop (mkF m 158 #[.val (.long d0), .second, .val (.long o0), .second, .val (.long u0), .second, .val (.long d1), .second, .val (.long o1), .second, .val (.long u1), .second, .val (.int (2 : Int32)), .val (.long v19), .second, .val (.long v26), .second, .val (.long v34), .second, .val (.long v42), .second, .val (.long v50), .second, .val (.long v58), .second, .val (.ref b50), .val (.ref b55), .val (.ref b61), .val (.int r99), .val (.int (0 : Int32))] [])) _
          refine XS.iconst X69.here hx rfl (hb hby at_158) ?_
          show Steps p.tables e below (T69.setTop (mkF m 159 #[.val (.long d0), .second, .val (.long o0), .second, .val (.long u0), .second, .val (.long d1), .second, .val (.long o1), .second, .val (.long u1), .second, .val (.int (2 : Int32)), .val (.long v19), .second, .val (.long v26), .second, .val (.long v34), .second, .val (.long v42), .second, .val (.long v50), .second, .val (.long v58), .second, .val (.ref b50), .val (.ref b55), .val (.ref b61), .val (.int r99), .val (.int (0 : Int32))] [(.int (0 : Int32))])) _
          exact castTop (by simp only [hm159, if_neg d72]) kt
      obtain ⟨fs, hr, hrun, hended, hW, hsame⟩ := X69.leave (v := some (Value.int (nar .boolean m159))) (fun h => by rw [Bd.returns] at h; cases h)
      have hres74 : (nar .boolean m159) = (1 : Int32) := (own_leaf_0_159_s2t d0 o0 u0 d1 o1 u1 hv12 v19 hv19 v26 hv26 v34 hv34 v42 hv42 v50 hv50 v58 hv58 r99 hr99 r116 hr116 hc119_71 m159 hm159)
      refine ⟨_, _, pre73 _ ?_, hrun, hended, _, _, rfl, ?_, ⟨_, rfl⟩, hW, hsame.mono (by decide) (by decide)⟩
      · skip
        show Steps p.tables e below (T69.setTop (mkF m 159 #[.val (.long d0), .second, .val (.long o0), .second, .val (.long u0), .second, .val (.long d1), .second, .val (.long o1), .second, .val (.long u1), .second, .val (.int (2 : Int32)), .val (.long v19), .second, .val (.long v26), .second, .val (.long v34), .second, .val (.long v42), .second, .val (.long v50), .second, .val (.long v58), .second, .val (.ref b50), .val (.ref b55), .val (.ref b61), .val (.int r99), .val (.int (0 : Int32))] [(.int m159)])) _
        exact retN X69 hx (t := .boolean) Bd.returns (by simp) (hb hby at_159) hr
      · show Q0 Z d0 o0 u0 d1 o1 u1 h0 n0 _ T69.heap _
        rw [e69]
        exact ⟨congrArg (fun z => some (Value.int z)) hres74, N69⟩
    · skip
      obtain ⟨_, _, ⟨T75, L75, k75, n75⟩, -, X75, ⟨Lc75, hQ75, l75, y75, z75⟩, st75⟩ := Jvm.LawKit.callS X69 hx (y := (⟨"com/example/evenkeel/evenkeel/cli/AuditFitsPinLaw", "fitsOne", "(JJJ)Z"⟩ : MethodName)) hown (mvT hZ (hw _ (List.mem_of_getElem? (i := 10) rfl))) (mvT hZ (hw _ (List.mem_of_getElem? (i := 11) rfl))) (mvT hZ (hw _ (List.mem_of_getElem? (i := 3) rfl))) (mvT hZ (hw _ (List.mem_of_getElem? (i := 12) rfl))) (by decide) (backOf (W := 0) (rm3 l Z a0 hw [] v42 v50 v58 T61.heap n0 Z66 ) hZ (hw _ (List.mem_of_getElem? (i := 12) rfl)) (hw _ (List.mem_of_getElem? (i := 3) rfl)) (by decide) (by decide)) (g := (mkF m 134 #[.val (.long d0), .second, .val (.long o0), .second, .val (.long u0), .second, .val (.long d1), .second, .val (.long o1), .second, .val (.long u1), .second, .val (.int (2 : Int32)), .val (.long v19), .second, .val (.long v26), .second, .val (.long v34), .second, .val (.long v42), .second, .val (.long v50), .second, .val (.long v58), .second, .val (.ref b50), .val (.ref b55), .val (.ref b61), .val (.int r99), .unset] [(.long v58), (.long v50), (.long v42)])) rfl (by rw [hml]; rfl) (argsL := [(.long v42), (.long v50), (.long v58)]) (rest := []) (lenOf pd_2 rfl) rfl (by show 2 * 0 + _ ≤ _; exact Nat.le_of_eq rfl) (hb hby at_134) (fun _ _ => ⟨rfl, e69, (by decide : 3 + 0 ≤ _), (by decide : 6 + 0 ≤ _)⟩)
      dsimp only [Pt.U, Pt.locs, Pt.cells, Pt.slots] at X75 l75 y75 z75 st75 hQ75
      subst l75 y75 z75
      obtain ⟨rfl, N75q, e75⟩ := hQ75
      have N75 := Fr.app N69 N75q
      obtain ⟨r134, hr134⟩ : ∃ z_q : Int32, z_q = (own_one v42 v50 v58) := ⟨_, rfl⟩
      obtain ⟨m145, hm145⟩ : ∃ z_q : Int32, z_q = (if r134 = (0 : Int32) then (0 : Int32) else (1 : Int32)) := ⟨_, rfl⟩
      have pre77 : ∀ tq, Steps p.tables e below (T75.setTop (mkF m 145 #[.val (.long d0), .second, .val (.long o0), .second, .val (.long u0), .second, .val (.long d1), .second, .val (.long o1), .second, .val (.long u1), .second, .val (.int (2 : Int32)), .val (.long v19), .second, .val (.long v26), .second, .val (.long v34), .second, .val (.long v42), .second, .val (.long v50), .second, .val (.long v58), .second, .val (.ref b50), .val (.ref b55), .val (.ref b61), .val (.int r99), .unset] [(.int m145)])) tq → Steps p.tables e below (s₁.setTop (entryFrame m #[(.long d0), (.long o0), (.long u0), (.long d1), (.long o1), (.long u1)] maxLocals)) tq := by
        intro tq kt
        refine pre70 _ ?_
        show Steps p.tables e below (T69.setTop (mkF m 119 #[.val (.long d0), .second, .val (.long o0), .second, .val (.long u0), .second, .val (.long d1), .second, .val (.long o1), .second, .val (.long u1), .second, .val (.int (2 : Int32)), .val (.long v19), .second, .val (.long v26), .second, .val (.long v34), .second, .val (.long v42), .second, .val (.long v50), .second, .val (.long v58), .second, .val (.ref b50), .val (.ref b55), .val (.ref b61), .val (.int r99), .unset] [(.int r116)])) _
        refine XS.ifNo X69.here hx rfl (hb hby at_119) rfl ((if0 _ _).trans (feq hc119_71).1) ?_
        show Steps p.tables e below (T69.setTop (mkF m 122 #[.val (.long d0), .second, .val (.long o0), .second, .val (.long u0), .second, .val (.long d1), .second, .val (.long o1), .second, .val (.long u1), .second, .val (.int (2 : Int32)), .val (.long v19), .second, .val (.long v26), .second, .val (.long v34), .second, .val (.long v42), .second, .val (.long v50), .second, .val (.long v58), .second, .val (.ref b50), .val (.ref b55), .val (.ref b61), .val (.int r99), .unset] [])) _
        refine XS.iload X69.here hx rfl (hb hby at_122) rfl ?_
        show Steps p.tables e below (T69.setTop (mkF m 124 #[.val (.long d0), .second, .val (.long o0), .second, .val (.long u0), .second, .val (.long d1), .second, .val (.long o1), .second, .val (.long u1), .second, .val (.int (2 : Int32)), .val (.long v19), .second, .val (.long v26), .second, .val (.long v34), .second, .val (.long v42), .second, .val (.long v50), .second, .val (.long v58), .second, .val (.ref b50), .val (.ref b55), .val (.ref b61), .val (.int r99), .unset] [(.int (2 : Int32))])) _
        refine XS.iconst X69.here hx rfl (hb hby at_124) ?_
        show Steps p.tables e below (T69.setTop (mkF m 125 #[.val (.long d0), .second, .val (.long o0), .second, .val (.long u0), .second, .val (.long d1), .second, .val (.long o1), .second, .val (.long u1), .second, .val (.int (2 : Int32)), .val (.long v19), .second, .val (.long v26), .second, .val (.long v34), .second, .val (.long v42), .second, .val (.long v50), .second, .val (.long v58), .second, .val (.ref b50), .val (.ref b55), .val (.ref b61), .val (.int r99), .unset] [(.int (2 : Int32)), (.int (2 : Int32))])) _
        refine XS.icmpNo X69.here hx rfl (hb hby at_125) rfl (flt (by decide)).1 ?_
        show Steps p.tables e below (T69.setTop (mkF m 128 #[.val (.long d0), .second, .val (.long o0), .second, .val (.long u0), .second, .val (.long d1), .second, .val (.long o1), .second, .val (.long u1), .second, .val (.int (2 : Int32)), .val (.long v19), .second, .val (.long v26), .second, .val (.long v34), .second, .val (.long v42), .second, .val (.long v50), .second, .val (.long v58), .second, .val (.ref b50), .val (.ref b55), .val (.ref b61), .val (.int r99), .unset] [])) _
        refine XS.lload X69.here hx rfl (hb hby at_128) rfl ?_
        show Steps p.tables e below (T69.setTop (mkF m 130 #[.val (.long d0), .second, .val (.long o0), .second, .val (.long u0), .second, .val (.long d1), .second, .val (.long o1), .second, .val (.long u1), .second, .val (.int (2 : Int32)), .val (.long v19), .second, .val (.long v26), .second, .val (.long v34), .second, .val (.long v42), .second, .val (.long v50), .second, .val (.long v58), .second, .val (.ref b50), .val (.ref b55), .val (.ref b61), .val (.int r99), .unset] [(.long v42)])) _
        refine XS.lload X69.here hx rfl (hb hby at_130) rfl ?_
        show Steps p.tables e below (T69.setTop (mkF m 132 #[.val (.long d0), .second, .val (.long o0), .second, .val (.long u0), .second, .val (.long d1), .second, .val (.long o1), .second, .val (.long u1), .second, .val (.int (2 : Int32)), .val (.long v19), .second, .val (.long v26), .second, .val (.long v34), .second, .val (.long v42), .second, .val (.long v50), .second, .val (.long v58), .second, .val (.ref b50), .val (.ref b55), .val (.ref b61), .val (.int r99), .unset] [(.long v50), (.long v42)])) _
        refine XS.lload X69.here hx rfl (hb hby at_132) rfl ?_
        show Steps p.tables e below (T69.setTop (mkF m 134 #[.val (.long d0), .second, .val (.long o0), .second, .val (.long u0), .second, .val (.long d1), .second, .val (.long o1), .second, .val (.long u1), .second, .val (.int (2 : Int32)), .val (.long v19), .second, .val (.long v26), .second, .val (.long v34), .second, .val (.long v42), .second, .val (.long v50), .second, .val (.long v58), .second, .val (.ref b50), .val (.ref b55), .val (.ref b61), .val (.int r99), .unset] [(.long v58), (.long v50), (.long v42)])) _
        refine st75 _ ?_
        show Steps p.tables e below (T75.setTop (mkF m 137 #[.val (.long d0), .second, .val (.long o0), .second, .val (.long u0), .second, .val (.long d1), .second, .val (.long o1), .second, .val (.long u1), .second, .val (.int (2 : Int32)), .val (.long v19), .second, .val (.long v26), .second, .val (.long v34), .second, .val (.long v42), .second, .val (.long v50), .second, .val (.long v58), .second, .val (.ref b50), .val (.ref b55), .val (.ref b61), .val (.int r99), .unset] [(.int (own_one v42 v50 v58))])) _
        rw [← hr134]
        by_cases d76 : r134 = (0 : Int32)
        · skip
          show Steps p.tables e below (T75.setTop (mkF m 137 #[.val (.long d0), .second, .val (.long o0), .second, .val (.long u0), .second, .val (.long d1), .second, .val (.long o1), .second, .val (.long u1), .second, .val (.int (2 : Int32)), .val (.long v19), .second, .val (.long v26), .second, .val (.long v34), .second, .val (.long v42), .second, .val (.long v50), .second, .val (.long v58), .second, .val (.ref b50), .val (.ref b55), .val (.ref b61), .val (.int r99), .unset] [(.int r134)])) _
          refine XS.ifYes X75.here hx rfl (pc0 := 137) (pc' := 144) rfl (hb hby at_137) rfl ((if0 _ _).trans (teq d76).1) (by decide) (by decide) ?_
          show Steps p.tables e below (T75.setTop (mkF m 144 #[.val (.long d0), .second, .val (.long o0), .second, .val (.long u0), .second, .val (.long d1), .second, .val (.long o1), .second, .val (.long u1), .second, .val (.int (2 : Int32)), .val (.long v19), .second, .val (.long v26), .second, .val (.long v34), .second, .val (.long v42), .second, .val (.long v50), .second, .val (.long v58), .second, .val (.ref b50), .val (.ref b55), .val (.ref b61), .val (.int r99), .unset] [])) _
          refine XS.iconst X75.here hx rfl (hb hby at_144) ?_
          show Steps p.tables e below (T75.setTop (mkF m 145 #[.val (.long d0), .second, .val (.long o0), .second, .val (.long u0), .second, .val (.long d1), .second, .val (.long o1), .second, .val (.long u1), .second, .val (.int (2 : Int32)), .val (.long v19), .second, .val (.long v26), .second, .val (.long v34), .second, .val (.long v42), .second, .val (.long v50), .second, .val (.long v58), .second, .val (.ref b50), .val (.ref b55), .val (.ref b61), .val (.int r99), .unset] [(.int (0 : Int32))])) _
          exact castTop (by simp only [hm145, if_pos d76]) kt
        · skip
          show Steps p.tables e below (T75.setTop (mkF m 137 #[.val (.long d0), .second, .val (.long o0), .second, .val (.long u0), .second, .val (.long d1), .second, .val (.long o1), .second, .val (.long u1), .second, .val (.int (2 : Int32)), .val (.long v19), .second, .val (.long v26), .second, .val (.long v34), .second, .val (.long v42), .second, .val (.long v50), .second, .val (.long v58), .second, .val (.ref b50), .val (.ref b55), .val (.ref b61), .val (.int r99), .unset] [(.int r134)])) _
          refine XS.ifNo X75.here hx rfl (hb hby at_137) rfl ((if0 _ _).trans (feq d76).1) ?_
          show Steps p.tables e below (T75.setTop (mkF m 140 #[.val (.long d0), .second, .val (.long o0), .second, .val (.long u0), .second, .val (.long d1), .second, .val (.long o1), .second, .val (.long u1), .second, .val (.int (2 : Int32)), .val (.long v19), .second, .val (.long v26), .second, .val (.long v34), .second, .val (.long v42), .second, .val (.long v50), .second, .val (.long v58), .second, .val (.ref b50), .val (.ref b55), .val (.ref b61), .val (.int r99), .unset] [])) _
          refine XS.iconst X75.here hx rfl (hb hby at_140) ?_
          show Steps p.tables e below (T75.setTop (mkF m 141 #[.val (.long d0), .second, .val (.long o0), .second, .val (.long u0), .second, .val (.long d1), .second, .val (.long o1), .second, .val (.long u1), .second, .val (.int (2 : Int32)), .val (.long v19), .second, .val (.long v26), .second, .val (.long v34), .second, .val (.long v42), .second, .val (.long v50), .second, .val (.long v58), .second, .val (.ref b50), .val (.ref b55), .val (.ref b61), .val (.int r99), .unset] [(.int (1 : Int32))])) _
          refine XS.goto X75.here hx rfl (pc0 := 141) (pc' := 145) rfl (hb hby at_141) (by decide) (by decide) ?_
          show Steps p.tables e below (T75.setTop (mkF m 145 #[.val (.long d0), .second, .val (.long o0), .second, .val (.long u0), .second, .val (.long d1), .second, .val (.long o1), .second, .val (.long u1), .second, .val (.int (2 : Int32)), .val (.long v19), .second, .val (.long v26), .second, .val (.long v34), .second, .val (.long v42), .second, .val (.long v50), .second, .val (.long v58), .second, .val (.ref b50), .val (.ref b55), .val (.ref b61), .val (.int r99), .unset] [(.int (1 : Int32))])) _
          exact castTop (by simp only [hm145, if_neg d76]) kt
      obtain ⟨m159, hm159⟩ : ∃ z_q : Int32, z_q = (if r99 = m145 then (1 : Int32) else (0 : Int32)) := ⟨_, rfl⟩
      have pre79 : ∀ tq, Steps p.tables e below (T75.setTop (mkF m 159 #[.val (.long d0), .second, .val (.long o0), .second, .val (.long u0), .second, .val (.long d1), .second, .val (.long o1), .second, .val (.long u1), .second, .val (.int (2 : Int32)), .val (.long v19), .second, .val (.long v26), .second, .val (.long v34), .second, .val (.long v42), .second, .val (.long v50), .second, .val (.long v58), .second, .val (.ref b50), .val (.ref b55), .val (.ref b61), .val (.int r99), .val (.int m145)] [(.int m159)])) tq → Steps p.tables e below (s₁.setTop (entryFrame m #[(.long d0), (.long o0), (.long u0), (.long d1), (.long o1), (.long u1)] maxLocals)) tq := by
        intro tq kt
        refine pre77 _ ?_
        show Steps p.tables e below (T75.setTop (mkF m 145 #[.val (.long d0), .second, .val (.long o0), .second, .val (.long u0), .second, .val (.long d1), .second, .val (.long o1), .second, .val (.long u1), .second, .val (.int (2 : Int32)), .val (.long v19), .second, .val (.long v26), .second, .val (.long v34), .second, .val (.long v42), .second, .val (.long v50), .second, .val (.long v58), .second, .val (.ref b50), .val (.ref b55), .val (.ref b61), .val (.int r99), .unset] [(.int m145)])) _
        refine XS.istore X75.here hx rfl (hb hby at_145) rfl (l' := #[.val (.long d0), .second, .val (.long o0), .second, .val (.long u0), .second, .val (.long d1), .second, .val (.long o1), .second, .val (.long u1), .second, .val (.int (2 : Int32)), .val (.long v19), .second, .val (.long v26), .second, .val (.long v34), .second, .val (.long v42), .second, .val (.long v50), .second, .val (.long v58), .second, .val (.ref b50), .val (.ref b55), .val (.ref b61), .val (.int r99), .val (.int m145)]) rfl ?_
        show Steps p.tables e below (T75.setTop (mkF m 147 #[.val (.long d0), .second, .val (.long o0), .second, .val (.long u0), .second, .val (.long d1), .second, .val (.long o1), .second, .val (.long u1), .second, .val (.int (2 : Int32)), .val (.long v19), .second, .val (.long v26), .second, .val (.long v34), .second, .val (.long v42), .second, .val (.long v50), .second, .val (.long v58), .second, .val (.ref b50), .val (.ref b55), .val (.ref b61), .val (.int r99), .val (.int m145)] [])) _
        refine XS.iload X75.here hx rfl (hb hby at_147) rfl ?_
        show Steps p.tables e below (T75.setTop (mkF m 149 #[.val (.long d0), .second, .val (.long o0), .second, .val (.long u0), .second, .val (.long d1), .second, .val (.long o1), .second, .val (.long u1), .second, .val (.int (2 : Int32)), .val (.long v19), .second, .val (.long v26), .second, .val (.long v34), .second, .val (.long v42), .second, .val (.long v50), .second, .val (.long v58), .second, .val (.ref b50), .val (.ref b55), .val (.ref b61), .val (.int r99), .val (.int m145)] [(.int r99)])) _
        refine XS.iload X75.here hx rfl (hb hby at_149) rfl ?_
        by_cases d78 : r99 = m145
        · skip
          show Steps p.tables e below (T75.setTop (mkF m 151 #[.val (.long d0), .second, .val (.long o0), .second, .val (.long u0), .second, .val (.long d1), .second, .val (.long o1), .second, .val (.long u1), .second, .val (.int (2 : Int32)), .val (.long v19), .second, .val (.long v26), .second, .val (.long v34), .second, .val (.long v42), .second, .val (.long v50), .second, .val (.long v58), .second, .val (.ref b50), .val (.ref b55), .val (.ref b61), .val (.int r99), .val (.int m145)] [(.int m145), (.int r99)])) _
          refine XS.icmpNo X75.here hx rfl (hb hby at_151) rfl (teq d78).2 ?_
          show Steps p.tables e below (T75.setTop (mkF m 154 #[.val (.long d0), .second, .val (.long o0), .second, .val (.long u0), .second, .val (.long d1), .second, .val (.long o1), .second, .val (.long u1), .second, .val (.int (2 : Int32)), .val (.long v19), .second, .val (.long v26), .second, .val (.long v34), .second, .val (.long v42), .second, .val (.long v50), .second, .val (.long v58), .second, .val (.ref b50), .val (.ref b55), .val (.ref b61), .val (.int r99), .val (.int m145)] [])) _
          refine XS.iconst X75.here hx rfl (hb hby at_154) ?_
          show Steps p.tables e below (T75.setTop (mkF m 155 #[.val (.long d0), .second, .val (.long o0), .second, .val (.long u0), .second, .val (.long d1), .second, .val (.long o1), .second, .val (.long u1), .second, .val (.int (2 : Int32)), .val (.long v19), .second, .val (.long v26), .second, .val (.long v34), .second, .val (.long v42), .second, .val (.long v50), .second, .val (.long v58), .second, .val (.ref b50), .val (.ref b55), .val (.ref b61), .val (.int r99), .val (.int m145)] [(.int (1 : Int32))])) _
          refine XS.goto X75.here hx rfl (pc0 := 155) (pc' := 159) rfl (hb hby at_155) (by decide) (by decide) ?_
          show Steps p.tables e below (T75.setTop (mkF m 159 #[.val (.long d0), .second, .val (.long o0), .second, .val (.long u0), .second, .val (.long d1), .second, .val (.long o1), .second, .val (.long u1), .second, .val (.int (2 : Int32)), .val (.long v19), .second, .val (.long v26), .second, .val (.long v34), .second, .val (.long v42), .second, .val (.long v50), .second, .val (.long v58), .second, .val (.ref b50), .val (.ref b55), .val (.ref b61), .val (.int r99), .val (.int m145)] [(.int (1 : Int32))])) _
          exact castTop (by simp only [hm159, if_pos d78]) kt
        · skip
          show Steps p.tables e below (T75.setTop (mkF m 151 #[.val (.long d0), .second, .val (.long o0), .second, .val (.long u0), .second, .val (.long d1), .second, .val (.long o1), .second, .val (.long u1), .second, .val (.int (2 : Int32)), .val (.long v19), .second, .val (.long v26), .second, .val (.long v34), .second, .val (.long v42), .second, .val (.long v50), .second, .val (.long v58), .second, .val (.ref b50), .val (.ref b55), .val (.ref b61), .val (.int r99), .val (.int m145)] [(.int m145), (.int r99)])) _
          refine XS.icmpYes X75.here hx rfl (pc0 := 151) (pc' := 158) rfl (hb hby at_151) rfl (feq d78).2 (by decide) (by decide) ?_
          show Steps p.tables e below (T75.setTop (mkF m 158 #[.val (.long d0), .second, .val (.long o0), .second, .val (.long u0), .second, .val (.long d1), .second, .val (.long o1), .second, .val (.long u1), .second, .val (.int (2 : Int32)), .val (.long v19), .second, .val (.long v26), .second, .val (.long v34), .second, .val (.long v42), .second, .val (.long v50), .second, .val (.long v58), .second, .val (.ref b50), .val (.ref b55), .val (.ref b61), .val (.int r99), .val (.int m145)] [])) _
          refine XS.iconst X75.here hx rfl (hb hby at_158) ?_
          show Steps p.tables e below (T75.setTop (mkF m 159 #[.val (.long d0), .second, .val (.long o0), .second, .val (.long u0), .second, .val (.long d1), .second, .val (.long o1), .second, .val (.long u1), .second, .val (.int (2 : Int32)), .val (.long v19), .second, .val (.long v26), .second, .val (.long v34), .second, .val (.long v42), .second, .val (.long v50), .second, .val (.long v58), .second, .val (.ref b50), .val (.ref b55), .val (.ref b61), .val (.int r99), .val (.int m145)] [(.int (0 : Int32))])) _
          exact castTop (by simp only [hm159, if_neg d78]) kt
      obtain ⟨fs, hr, hrun, hended, hW, hsame⟩ := X75.leave (v := some (Value.int (nar .boolean m159))) (fun h => by rw [Bd.returns] at h; cases h)
      have hres80 : (nar .boolean m159) = (1 : Int32) := (own_leaf_0_159_s2f d0 o0 u0 d1 o1 u1 hv12 v19 hv19 v26 hv26 v34 hv34 v42 hv42 v50 hv50 v58 hv58 r99 hr99 r116 hr116 hc119_71 r134 hr134 m145 hm145 m159 hm159)
      refine ⟨_, _, pre79 _ ?_, hrun, hended, _, _, rfl, ?_, ⟨_, rfl⟩, hW, hsame.mono (by decide) (by decide)⟩
      · skip
        show Steps p.tables e below (T75.setTop (mkF m 159 #[.val (.long d0), .second, .val (.long o0), .second, .val (.long u0), .second, .val (.long d1), .second, .val (.long o1), .second, .val (.long u1), .second, .val (.int (2 : Int32)), .val (.long v19), .second, .val (.long v26), .second, .val (.long v34), .second, .val (.long v42), .second, .val (.long v50), .second, .val (.long v58), .second, .val (.ref b50), .val (.ref b55), .val (.ref b61), .val (.int r99), .val (.int m145)] [(.int m159)])) _
        exact retN X75 hx (t := .boolean) Bd.returns (by simp) (hb hby at_159) hr
      · show Q0 Z d0 o0 u0 d1 o1 u1 h0 n0 _ T75.heap _
        rw [e75]
        exact ⟨congrArg (fun z => some (Value.int z)) hres80, N75⟩
set_option maxRecDepth 65536 in
set_option maxHeartbeats 40000000 in
theorem comes_1 {Post : Tables → Env → Array Value → State → Outcome → State → Prop} (hpost : ∀ tb e args s v u, (limb_1_1.after args s (.returned v) u = true ∧ limb_1_2.after args s (.returned v) u = true ∧ True) → FrameEnd s (.returned v) u (Jvm.fieldLocs frame_1_writes args s ++ Jvm.arrayLocs frame_1_arrays args s ++ Jvm.staticLocs frame_1_statics s) 16 128 → Post tb e args s (.returned v) u) :
    ArmFor flags0 classFile x code maxLocals ret World_1 tables_1 room_1 Calls_1 rest_1 Pre_1 Post := by
  intro l hfl _ _ p e ha hc hk s m args below hf hA hF happ hP
  obtain ⟨hcalls, hrest, hpre⟩ := hP
  obtain ⟨-, -, -, hnamed, -, -, -, hat⟩ := (Spec.applies_iff hf).mp happ
  obtain ⟨hg, hn⟩ := and_e (Cond.before_iff.mp (show (Jvm.Cond.and given_1 narrow_1).before args s = true from hpre))
  obtain ⟨gv1, gv2⟩ := and_e hg
  obtain ⟨gv3, gv4⟩ := and_e gv2
  obtain ⟨gv5, gv6⟩ := and_e gv4
  obtain ⟨gv7, gv8⟩ := and_e gv6
  obtain ⟨gv9, gv10⟩ := and_e gv8
  obtain ⟨gv11, gv12⟩ := and_e gv10
  obtain ⟨w0, w1, w2, w3, w4, w5, rfl⟩ : ∃ w0 w1 w2 w3 w4 w5 : Value, args = #[w0, w1, w2, w3, w4, w5] := by
    have hs : args.size = 6 := by simpa [Cond.value, given_1] using gv1
    obtain ⟨L⟩ := args
    match L, hs with
    | [w0, w1, w2, w3, w4, w5], _ => exact ⟨w0, w1, w2, w3, w4, w5, rfl⟩
  have hw := fun d (hd : d ∈ tables_1) => atoms_spec (ws := Jvm.Cond.code x code maxLocals ret :: tables_1) hat d (List.mem_cons_of_mem _ hd)
  obtain ⟨i0, ei0⟩ := isL_v gv3
  obtain rfl : w0 = (.long i0) := Option.some.inj ei0
  obtain ⟨i1, ei1⟩ := isL_v gv5
  obtain rfl : w1 = (.long i1) := Option.some.inj ei1
  obtain ⟨i2, ei2⟩ := isL_v gv7
  obtain rfl : w2 = (.long i2) := Option.some.inj ei2
  obtain ⟨i3, ei3⟩ := isL_v gv9
  obtain rfl : w3 = (.long i3) := Option.some.inj ei3
  obtain ⟨i4, ei4⟩ := isL_v gv11
  obtain rfl : w4 = (.long i4) := Option.some.inj ei4
  obtain ⟨i5, ei5⟩ := isL_v gv12
  obtain rfl : w5 = (.long i5) := Option.some.inj ei5
  obtain ⟨n, o, h1, h2, h3, _, L, rfl, ⟨rfl, N⟩, hq⟩ := rm0 l s _ hw tables_1 i0 i1 i2 i3 i4 i5  s.heap s.heap.size (Nat.le_refl _)  p e ha hc hk s m _ below hf ((Spec.applies_iff_loose hf).mp happ).1 ⟨rfl, State.Warmed39.refl s, rfl⟩ trivial
  refine ⟨n, _, h1, h2, h3, hpost _ _ _ _ _ _ ⟨Cond.after_iff.mpr rfl, Cond.after_iff.mpr (eq_i res_at (Term.int_eval (1)) rfl), trivial⟩ ⟨hq.1, hq.2.1, (hq.2.2.sift fun y hy => Or.inr (N y hy)).mono (by decide) (by decide)⟩⟩
theorem main_1_1 : Claimed_1_1 := comes_1 fun _ _ _ _ _ _ h hF => ⟨h.1, hF⟩
theorem main_1_2 : Claimed_1_2 := comes_1 fun _ _ _ _ _ _ h hF => ⟨h.2.1, hF⟩
end Jvm.Pilot.@@N@@
namespace Jvm.Pilot.@@N@@
open Jvm Jvm.ClassFile Sem Op Lib Jvm.Free Jvm.Stand Jvm.Pilot.@@N@@.Jvm.D
/-! MADE BY PROGRAM (witnessworld.py) out of the Statement's table words and the real class files: 11 classes; the members and pool entries that the words name. The judged class is class 1, her method 1. -/
namespace start1
open Jvm.ClassFile
def u (s : String) : CpInfo := .utf8 (stringToUtf16 s)
/-- a pool by its gaps: so many unusable entries, then the entry; so many at the end -/
def gap : Nat → List CpInfo → List CpInfo
  | 0, r => r
  | n + 1, r => .unusable :: gap n r
def poolList (es : List (Nat × CpInfo)) (last : Nat) : List CpInfo := es.foldr (fun e r => gap e.1 (e.2 :: r)) (gap last [])
def pool (es : List (Nat × CpInfo)) (last : Nat) : Array CpInfo := ⟨poolList es last⟩
def fileOf (pool : Array CpInfo) (this : Nat) (attrs : Array Attribute := #[]) (ms : Array MethodInfo := #[]) (fl : Nat := 33) (sup : Nat := 0) (ifs : Array Nat := #[]) (fds : Array FieldInfo := #[]) : ClassFile where
  minorVersion := 0
  majorVersion := 65
  constantPool := pool
  accessFlags := fl
  thisClass := this
  superClass := sup
  interfaces := ifs
  fields := fds
  methods := ms
  attributes := attrs
def plain (name : String) (sup : Option ClassId) : Class where
  name := name
  kind := .ordinary
  loader := none
  accessFlags := 33
  super := sup
  interfaces := #[]
  cf := none
  fields := #[]
  methods := #[]
  instanceTypes := #[]
  staticTypes := #[]
  resolved := #[]
  callSites := []
  init := .initialized
  statics := none
  mirror := none

def pool0 : Array CpInfo := pool [(5, u "<init>"), (0, u "()V"), (1, .class_ 10), (1, u "java/lang/Object")] 113

def k0m0 : Method := { name := "<init>", desc := "()V", sig := { parameters := [], returnType := none }, accessFlags := 1, code := none }
/-- java/lang/Object -/
def k0 : Class := { plain "java/lang/Object" none with
  accessFlags := 33
  interfaces := #[]
  cf := some (fileOf pool0 8 #[] #[{ accessFlags := 1, nameIndex := 5, descriptorIndex := 6, attributes := #[] }] 33 0 #[] #[])
  fields := #[]
  methods := #[k0m0]
  instanceTypes := #[]
  staticTypes := #[]
  resolved := Array.replicate 124 none
  statics := none }

def pool1 : Array CpInfo := pool [(2, .class_ 4), (1, u "java/lang/Object"), (0, u "<init>"), (0, u "()V"), (2, .long 9223372036854775807), (1, .methodref 12 13), (0, .class_ 14), (0, .nameAndType 15 16), (0, u "com/example/evenkeel/evenkeel/cli/AuditFitsPinLaw"), (0, u "make"), (0, u "(IJJ)[J"), (0, .methodref 18 19), (0, .class_ 20), (0, .nameAndType 21 22), (0, u "com/example/evenkeel/evenkeel/cli/Audit"), (0, u "fits"), (0, u "([J[J[J)Z"), (0, .methodref 12 24), (0, .nameAndType 25 26), (0, u "fitsOne"), (0, u "(JJJ)Z"), (2, u "law"), (0, u "(JJJJJJ)Z")] 5

def k1m0 : Method := { name := "<init>", desc := "()V", sig := { parameters := [], returnType := none }, accessFlags := 1, code := none }
def k1c1 : Code := { maxStack := 6, maxLocals := 30, code := code, exceptionTable := #[], attributes := #[] }
def k1m1 : Method := { name := "law", desc := "(JJJJJJ)Z", sig := { parameters := [.long, .long, .long, .long, .long, .long], returnType := some .boolean }, accessFlags := 9, code := some k1c1 }
def k1c2 : Code := { maxStack := 5, maxLocals := 5, code := method_3_code, exceptionTable := #[], attributes := #[] }
def k1m2 : Method := { name := "make", desc := "(IJJ)[J", sig := { parameters := [.int, .long, .long], returnType := some (.array .long) }, accessFlags := 10, code := some k1c2 }
def k1c3 : Code := { maxStack := 4, maxLocals := 8, code := method_4_code, exceptionTable := #[], attributes := #[] }
def k1m3 : Method := { name := "fitsOne", desc := "(JJJ)Z", sig := { parameters := [.long, .long, .long], returnType := some .boolean }, accessFlags := 10, code := some k1c3 }
/-- com/example/evenkeel/evenkeel/cli/AuditFitsPinLaw -/
def k1 : Class := { plain "com/example/evenkeel/evenkeel/cli/AuditFitsPinLaw" (some 0) with
  accessFlags := 49
  interfaces := #[]
  cf := some (fileOf pool1 12 #[] #[{ accessFlags := 1, nameIndex := 5, descriptorIndex := 6, attributes := #[] }, { accessFlags := 9, nameIndex := 29, descriptorIndex := 30, attributes := #[] }, { accessFlags := 10, nameIndex := 15, descriptorIndex := 16, attributes := #[] }, { accessFlags := 10, nameIndex := 25, descriptorIndex := 26, attributes := #[] }] 49 2 #[] #[])
  fields := #[]
  methods := #[k1m0, k1m1, k1m2, k1m3]
  instanceTypes := #[]
  staticTypes := #[]
  resolved := Array.replicate 36 none
  statics := none }

def pool2 : Array CpInfo := pool [(2, .class_ 4), (1, u "java/lang/Object"), (6, .class_ 13), (1, u "com/example/evenkeel/evenkeel/cli/Audit"), (0, u "positions"), (0, u "Ljava/util/Map;"), (5, u "submissions"), (0, u "Ljava/util/List;"), (5, u "waiting"), (0, u "Ljava/util/Set;"), (46, u "[[J"), (2, u "offered"), (2, u "used"), (2, u "slots"), (0, u "[J"), (2, u "policy"), (0, u "Lcom/example/evenkeel/evenkeel/Policy;"), (2, u "inUse"), (0, .class_ 95), (0, u "com/example/evenkeel/evenkeel/cli/Audit$Submitted"), (18, u "J"), (33, u "overCapacity"), (27, u "fits"), (0, u "([J[J[J)Z"), (2, u "idleAfterRound")] 63

def k2c0 : Code := { maxStack := 6, maxLocals := 4, code := prog_27_method_9_code, exceptionTable := #[], attributes := #[] }
def k2m0 : Method := { name := "fits", desc := "([J[J[J)Z", sig := { parameters := [(.array .long), (.array .long), (.array .long)], returnType := some .boolean }, accessFlags := 8, code := some k2c0 }
/-- com/example/evenkeel/evenkeel/cli/Audit -/
def k2 : Class := { plain "com/example/evenkeel/evenkeel/cli/Audit" (some 0) with
  accessFlags := 48
  interfaces := #[]
  cf := some (fileOf pool2 11 #[.nestMembers #[94]] #[{ accessFlags := 8, nameIndex := 176, descriptorIndex := 177, attributes := #[] }] 48 2 #[] #[{ accessFlags := 18, nameIndex := 14, descriptorIndex := 15, attributes := #[] }, { accessFlags := 18, nameIndex := 79, descriptorIndex := 76, attributes := #[] }, { accessFlags := 18, nameIndex := 82, descriptorIndex := 76, attributes := #[] }, { accessFlags := 18, nameIndex := 85, descriptorIndex := 86, attributes := #[] }, { accessFlags := 18, nameIndex := 89, descriptorIndex := 90, attributes := #[] }, { accessFlags := 18, nameIndex := 93, descriptorIndex := 86, attributes := #[] }, { accessFlags := 18, nameIndex := 21, descriptorIndex := 22, attributes := #[] }, { accessFlags := 18, nameIndex := 28, descriptorIndex := 29, attributes := #[] }, { accessFlags := 2, nameIndex := 148, descriptorIndex := 114, attributes := #[] }, { accessFlags := 2, nameIndex := 180, descriptorIndex := 114, attributes := #[] }])
  fields := #[{ name := "positions", type := (.object "java/util/Map"), accessFlags := 18, slot := 0, constantValue := 0 }, { name := "offered", type := (.array (.array .long)), accessFlags := 18, slot := 1, constantValue := 0 }, { name := "used", type := (.array (.array .long)), accessFlags := 18, slot := 2, constantValue := 0 }, { name := "slots", type := (.array .long), accessFlags := 18, slot := 3, constantValue := 0 }, { name := "policy", type := (.object "com/example/evenkeel/evenkeel/Policy"), accessFlags := 18, slot := 4, constantValue := 0 }, { name := "inUse", type := (.array .long), accessFlags := 18, slot := 5, constantValue := 0 }, { name := "submissions", type := (.object "java/util/List"), accessFlags := 18, slot := 6, constantValue := 0 }, { name := "waiting", type := (.object "java/util/Set"), accessFlags := 18, slot := 7, constantValue := 0 }, { name := "overCapacity", type := .long, accessFlags := 2, slot := 8, constantValue := 0 }, { name := "idleAfterRound", type := .long, accessFlags := 2, slot := 9, constantValue := 0 }]
  methods := #[k2m0]
  instanceTypes := #[(.object "java/util/Map"), (.array (.array .long)), (.array (.array .long)), (.array .long), (.object "com/example/evenkeel/evenkeel/Policy"), (.array .long), (.object "java/util/List"), (.object "java/util/Set"), .long, .long]
  staticTypes := #[]
  resolved := Array.replicate 244 none
  statics := none }

def pool3 : Array CpInfo := pool [(1, u "java/lang/Cloneable"), (0, .class_ 1), (0, u "java/lang/Object"), (0, .class_ 3)] 3

/-- java/lang/Cloneable -/
def k3 : Class := { plain "java/lang/Cloneable" (some 0) with
  accessFlags := 1537
  interfaces := #[]
  cf := some (fileOf pool3 2 #[] #[] 1537 4 #[] #[])
  fields := #[]
  methods := #[]
  instanceTypes := #[]
  staticTypes := #[]
  resolved := Array.replicate 8 none
  statics := none }

def pool4 : Array CpInfo := pool [(1, u "java/io/Serializable"), (0, .class_ 1), (0, u "java/lang/Object"), (0, .class_ 3)] 3

/-- java/io/Serializable -/
def k4 : Class := { plain "java/io/Serializable" (some 0) with
  accessFlags := 1537
  interfaces := #[]
  cf := some (fileOf pool4 2 #[] #[] 1537 4 #[] #[])
  fields := #[]
  methods := #[]
  instanceTypes := #[]
  staticTypes := #[]
  resolved := Array.replicate 8 none
  statics := none }

/-- the primitive byte -/
def k5 : Class := { plain "byte" none with kind := .primitive 'B', accessFlags := 0x411 }
/-- [B -/
def k6 : Class := { plain "[B" (some 0) with kind := .array 5 .byte, interfaces := #[3, 4], accessFlags := 1041 }

/-- the primitive int -/
def k7 : Class := { plain "int" none with kind := .primitive 'I', accessFlags := 0x411 }
/-- [I -/
def k8 : Class := { plain "[I" (some 0) with kind := .array 7 .int, interfaces := #[3, 4], accessFlags := 1041 }

/-- the primitive long -/
def k9 : Class := { plain "long" none with kind := .primitive 'J', accessFlags := 0x411 }
/-- [J -/
def k10 : Class := { plain "[J" (some 0) with kind := .array 9 .long, interfaces := #[3, 4], accessFlags := 1041 }

def heap : Heap := #[]
def classes : Array Class := #[k0, k1, k2, k3, k4, k5, k6, k7, k8, k9, k10]
def interned : List (Array UInt16 × Addr) := []
def slotsUsed : Nat := 0
def theMethod : MethodId := ⟨1, 1⟩
def args0 : Array Value := #[.long 5, .long 6, .long 7, .long 2, .long 2, .long 2]
def aboutOver (below : List Frame) : State where
  vm := { classes := classes, interned := interned.toArray }
  heap := heap
  slotsUsed := slotsUsed
  threads := #[{ frames := .invoking theMethod args0 :: below }]
def below0 : List Frame := [.native { method := ⟨0, 0⟩, args := #[] }]
def about1 : State := aboutOver below0
def p0 : Program := .bare "" "" ""
def e0 : Env := launch0.env 0 0 0
theorem w_frames : about1.frames = Frame.invoking theMethod args0 :: below0 := rfl
set_option maxRecDepth 65536 in
theorem w_args : argsFit about1.vm theMethod args0 = true := by decide +kernel
set_option maxRecDepth 65536 in
theorem w_heap : heapFits about1 = true := by decide +kernel
set_option maxRecDepth 65536 in
theorem w_runnable : about1.curStatus? = some .runnable := by decide +kernel
set_option maxRecDepth 65536 in
theorem w_alone : about1.alone = true := by decide +kernel
set_option maxRecDepth 65536 in
theorem w_named : about1.methodNamed? x = some theMethod := by decide +kernel
set_option maxRecDepth 65536 in
theorem w_hears : about1.hears theMethod below0 = true := by decide +kernel
set_option maxRecDepth 65536 in
theorem w_ripe : about1.ripe theMethod args0 below0 = true := by decide +kernel
theorem w_running : about1.status = .running := rfl
set_option maxRecDepth 65536 in
theorem w_room : about1.hasRoom e0.platform room_1 = true :=
  launch0.hasRoom_least _ room_1 (by decide +kernel) (by decide +kernel) (by decide +kernel) (by decide +kernel) (by decide +kernel) (by decide +kernel)
theorem allAtoms_all (ts : List Jvm.Cond) (a : Array Jvm.Value) (st : Jvm.State) : (allAtoms ts).before a st = ts.all (fun c => c.before a st) := by
  induction ts with
  | nil => rfl
  | cons c t ih =>
    show (Jvm.Cond.and c (allAtoms t)).before a st = _
    rw [Jvm.Cond.before_and, ih, List.all_cons]
def words1 : List Jvm.Cond := Jvm.Cond.code x code maxLocals ret :: tables_1
/-- a 'code' word, met by the world's own term for the bytes: nothing is compared byte by byte -/
theorem code_word {y : MethodName} {bytes : ByteArray} {mx : Nat} {rt : Option FieldType} {a : Array Value} {s : State} {m : MethodId} {meth : Method} {c : Code} (h1 : s.methodNamed? y = some m) (h2 : s.vm.method? m = some meth) (h3 : meth.code = some c) (h4 : c.code = bytes)
    (h5 : (c.maxLocals == mx && c.exceptionTable.isEmpty && decide (c.maxStack ≤ mostOperands) && decide (meth.sig.returnType = rt) && !meth.locks && decide (parseMethodDescriptor y.desc = some meth.sig)) = true) : (Jvm.Cond.code y bytes mx rt).before a s = true := by
  simp only [Bool.and_eq_true, beq_iff_eq, Bool.not_eq_true', decide_eq_true_eq] at h5
  obtain ⟨⟨⟨⟨⟨g1, g2⟩, g3⟩, g4⟩, g5⟩, g6⟩ := h5
  simp [Cond.before, Cond.holds, Cond.value, h1, h2, h3, h4, g1, g2, g3, g4, g5, g6]
def isCode : Jvm.Cond → Bool
  | .code _ _ _ _ => true
  | _ => false
theorem all_split {L : List Jvm.Cond} {P : Jvm.Cond → Bool} (h1 : L.all (fun c => isCode c || P c) = true) (h2 : ∀ c ∈ L.filter isCode, P c = true) : L.all P = true := by
  refine List.all_eq_true.mpr fun c hc => ?_
  have h := List.all_eq_true.mp h1 c hc
  rcases Bool.eq_false_or_eq_true (isCode c) with hi | hi
  · exact h2 c (List.mem_filter.mpr ⟨hc, hi⟩)
  · simpa [hi] using h
set_option maxRecDepth 65536 in
theorem w_c0 : (Jvm.Cond.code x code maxLocals ret).before args0 about1 = true := code_word (m := ⟨1, 1⟩) (meth := k1m1) (c := k1c1) (by decide +kernel) rfl rfl rfl (by decide +kernel)
set_option maxRecDepth 65536 in
theorem w_c1 : (Jvm.Cond.code ({ cls := "com/example/evenkeel/evenkeel/cli/AuditFitsPinLaw", name := "make", desc := "(IJJ)[J" } : Jvm.MethodName) method_3_code (5 : Nat) (Option.some (Jvm.ClassFile.FieldType.array Jvm.ClassFile.FieldType.long))).before args0 about1 = true := code_word (m := ⟨1, 2⟩) (meth := k1m2) (c := k1c2) (by decide +kernel) rfl rfl rfl (by decide +kernel)
set_option maxRecDepth 65536 in
theorem w_c2 : (Jvm.Cond.code ({ cls := "com/example/evenkeel/evenkeel/cli/Audit", name := "fits", desc := "([J[J[J)Z" } : Jvm.MethodName) prog_27_method_9_code (4 : Nat) (Option.some Jvm.ClassFile.FieldType.boolean)).before args0 about1 = true := code_word (m := ⟨2, 0⟩) (meth := k2m0) (c := k2c0) (by decide +kernel) rfl rfl rfl (by decide +kernel)
set_option maxRecDepth 65536 in
theorem w_c3 : (Jvm.Cond.code ({ cls := "com/example/evenkeel/evenkeel/cli/AuditFitsPinLaw", name := "fitsOne", desc := "(JJJ)Z" } : Jvm.MethodName) method_4_code (8 : Nat) (Option.some Jvm.ClassFile.FieldType.boolean)).before args0 about1 = true := code_word (m := ⟨1, 3⟩) (meth := k1m3) (c := k1c3) (by decide +kernel) rfl rfl rfl (by decide +kernel)
def codes1 : List Jvm.Cond := [Jvm.Cond.code x code maxLocals ret, Jvm.Cond.code ({ cls := "com/example/evenkeel/evenkeel/cli/AuditFitsPinLaw", name := "make", desc := "(IJJ)[J" } : Jvm.MethodName) method_3_code (5 : Nat) (Option.some (Jvm.ClassFile.FieldType.array Jvm.ClassFile.FieldType.long)), Jvm.Cond.code ({ cls := "com/example/evenkeel/evenkeel/cli/Audit", name := "fits", desc := "([J[J[J)Z" } : Jvm.MethodName) prog_27_method_9_code (4 : Nat) (Option.some Jvm.ClassFile.FieldType.boolean), Jvm.Cond.code ({ cls := "com/example/evenkeel/evenkeel/cli/AuditFitsPinLaw", name := "fitsOne", desc := "(JJJ)Z" } : Jvm.MethodName) method_4_code (8 : Nat) (Option.some Jvm.ClassFile.FieldType.boolean)]
set_option maxRecDepth 65536 in
theorem codes_eq : words1.filter isCode = codes1 := rfl
theorem w_codes : ∀ c ∈ words1.filter isCode, c.before args0 about1 = true := by
  rw [codes_eq]
  intro c hc
  simp only [codes1, List.mem_cons, List.not_mem_nil, or_false] at hc
  rcases hc with rfl | rfl | rfl | rfl
  · exact w_c0
  · exact w_c1
  · exact w_c2
  · exact w_c3
set_option maxRecDepth 65536 in
theorem w_t1 : words1.all (fun c => isCode c || c.before args0 about1) = true := by decide +kernel
theorem w_tables : (allAtoms (Jvm.Cond.code x code maxLocals ret :: tables_1)).before args0 about1 = true := by
  rw [allAtoms_all]
  show words1.all (fun c => c.before args0 about1) = true
  refine all_split ?_ w_codes
  rw [w_t1]
set_option maxRecDepth 65536 in
theorem w_case : (Jvm.Cond.and given_1 narrow_1).before args0 about1 = true := by decide +kernel
theorem w_applies : (headSpec (Jvm.Cond.code x code maxLocals ret :: tables_1) room_1).applies x e0.platform about1 = true :=
  (Spec.applies_iff w_frames).mpr ⟨w_running, w_runnable, w_alone, w_named, w_hears, w_ripe, w_room, w_tables⟩
theorem atStart : AtStart classFile x code maxLocals ret World_1 tables_1 room_1 Calls_1 rest_1 Pre_1 launch0 p0 e0 about1 theMethod args0 below0 :=
  ⟨lists_1, trivial, launch0.admits_env _ _ _, launch0.least_env, fairChoices_fair.cas, fairChoices_fair.clock, w_frames, w_args, w_heap, w_applies, trivial, trivial, w_case⟩
end start1
theorem witness_1 : WitnessClaimed_1 := ⟨start1.p0, start1.e0, start1.about1, start1.theMethod, start1.args0, start1.below0, start1.atStart⟩
end Jvm.Pilot.@@N@@
