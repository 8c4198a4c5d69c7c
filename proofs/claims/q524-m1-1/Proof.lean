import JvmDerived
import JvmDerived.Pilot.@@N@@Statement
import JvmDerived.Pilot.@@N@@Code
set_option linter.unusedVariables false
set_option linter.unusedSimpArgs false
namespace Jvm.RoadKit
theorem heq_of {T : State} {h : Heap} {a : Addr} {c : Cell} (e : T.heap = h) (q : h[a]? = some c) : T.heap[a]? = some c := by rw [e]; exact q
open Sem ClassFile Op Lib Jvm.Stand Jvm.Free Jvm.LawKit
section New
variable {p : Program} {l : Launch} {e : Env} {R : Room} {s : State} {m : MethodId} {args : Array Value} {below : List Frame} {meth : Method} {c : Code} {T : State} {locs : List Loc} {cells slots : Nat}
theorem retI (X : Stand p l e R s m args below meth c T locs cells slots) (hx : p.tables.exec = Jvm.exec) {pc : Nat} {Ls : Array Slot} {z : Int32} {rest : List Value} (hret : meth.sig.returnType = some .int) (hd : decode c.code pc = .ok (.ireturn, 1)) {fs : List Frame}
    (hl : ∀ (f : JFrame) (acts : List Action), f.method = m → f.locked = none → f.entered = [] → (doReturn e (T.setTop f) acts (some (.int z))).1 = T.setFrames fs) : Steps p.tables e below (T.setTop (mkF m pc Ls (.int z :: rest))) (T.setFrames fs) := by
  have hm' : T.vm.method? m = some meth := X.method'
  have hn : narrow .int (.int z) = .int z := rfl
  show Steps p.tables e below (T.setTop { method := m, pc := pc, locals := Ls, stack := _ :: rest, locked := none }) _
  jvm_step X.here [X.here.top, hx, hd, hm', hret, hn]
  first | (intro acts; rw [hl _ acts rfl rfl rfl]) | rw [hl _ _ rfl rfl rfl]
  exact Steps.refl _
end New
end Jvm.RoadKit
namespace Jvm.Pilot.@@N@@
open Jvm Jvm.ClassFile Sem Op Lib Jvm.Free Jvm.Stand Jvm.LawKit Jvm.RoadKit Bundle Jvm.Pilot.@@N@@.Jvm.D
theorem own_mask31 (a : Int32) : 0 ≤ (a &&& (2147483647 : Int32)).toInt ∧ (a &&& (2147483647 : Int32)).toInt < 2147483648 := by
  have h : (a &&& (2147483647 : Int32)).toBitVec = a.toBitVec &&& 2147483647#32 := rfl
  have e : (a &&& (2147483647 : Int32)).toInt = (a.toBitVec &&& 2147483647#32).toInt := by rw [← h]; rfl
  have hm : (a.toBitVec &&& 2147483647#32).toNat ≤ 2147483647 := by rw [BitVec.toNat_and]; exact Nat.and_le_right
  rw [e, BitVec.toInt_eq_toNat_of_lt (by omega)]
  omega
theorem own_rem (u s : Int32) (hu : 0 ≤ u.toInt) (hs : 0 < s.toInt) : 0 ≤ (u % s).toInt ∧ (u % s).toInt < s.toInt := by
  have : (u % s).toInt = u.toInt.tmod s.toInt := Int32.toInt_mod ..
  rw [this, Int.tmod_eq_emod_of_nonneg hu]
  exact ⟨Int.emod_nonneg _ (by omega), Int.emod_lt_of_pos _ hs⟩
theorem own_i32_add (x y : Int32) (h1 : -2147483648 ≤ x.toInt + y.toInt) (h2 : x.toInt + y.toInt < 2147483648) : (x + y).toInt = x.toInt + y.toInt := by
  rw [Int32.toInt_add, Int.bmod_eq_of_le (by omega) (by omega)]
theorem own_i32_sub (x y : Int32) (h1 : -2147483648 ≤ x.toInt - y.toInt) (h2 : x.toInt - y.toInt < 2147483648) : (x - y).toInt = x.toInt - y.toInt := by
  rw [Int32.toInt_sub, Int.bmod_eq_of_le (by omega) (by omega)]
theorem own_i64_add (x y : Int64) (h1 : -9223372036854775808 ≤ x.toInt + y.toInt) (h2 : x.toInt + y.toInt < 9223372036854775808) : (x + y).toInt = x.toInt + y.toInt := by
  rw [Int64.toInt_add, Int.bmod_eq_of_le (by omega) (by omega)]
theorem own_i64_sub (x y : Int64) (h1 : -9223372036854775808 ≤ x.toInt - y.toInt) (h2 : x.toInt - y.toInt < 9223372036854775808) : (x - y).toInt = x.toInt - y.toInt := by
  rw [Int64.toInt_sub, Int.bmod_eq_of_le (by omega) (by omega)]
theorem own_i64_mul (x y : Int64) (h1 : -9223372036854775808 ≤ x.toInt * y.toInt) (h2 : x.toInt * y.toInt < 9223372036854775808) : (x * y).toInt = x.toInt * y.toInt := by
  rw [Int64.toInt_mul, Int.bmod_eq_of_le (by omega) (by omega)]
theorem own_i2l (x : Int32) : x.toInt64.toInt = x.toInt := Int32.toInt_toInt64 x
theorem own_l2i (x : Int64) (h1 : -2147483648 ≤ x.toInt) (h2 : x.toInt < 2147483648) : x.toInt32.toInt = x.toInt := by
  rw [Int64.toInt_toInt32, Int.bmod_eq_of_le (by omega) (by omega)]
theorem own_rangeI (x : Int32) : -2147483648 ≤ x.toInt ∧ x.toInt < 2147483648 := by
  have h1 := Int32.le_toInt x; have h2 := Int32.toInt_lt x; omega
theorem own_rangeL (x : Int64) : -9223372036854775808 ≤ x.toInt ∧ x.toInt < 9223372036854775808 := by
  have h1 := Int64.le_toInt x; have h2 := Int64.toInt_lt x; omega
theorem own_mask63 (a : Int64) : 0 ≤ (a &&& (9223372036854775807 : Int64)).toInt ∧ (a &&& (9223372036854775807 : Int64)).toInt < 9223372036854775808 := by
  have h : (a &&& (9223372036854775807 : Int64)).toBitVec = a.toBitVec &&& 9223372036854775807#64 := rfl
  have e : (a &&& (9223372036854775807 : Int64)).toInt = (a.toBitVec &&& 9223372036854775807#64).toInt := by rw [← h]; rfl
  have hm : (a.toBitVec &&& 9223372036854775807#64).toNat ≤ 9223372036854775807 := by rw [BitVec.toNat_and]; exact Nat.and_le_right
  rw [e, BitVec.toInt_eq_toNat_of_lt (by omega)]
  omega
theorem own_remL (u s : Int64) (hu : 0 ≤ u.toInt) (hs : 0 < s.toInt) : 0 ≤ (u % s).toInt ∧ (u % s).toInt < s.toInt := by
  have : (u % s).toInt = u.toInt.tmod s.toInt := Int64.toInt_mod ..
  rw [this, Int.tmod_eq_emod_of_nonneg hu]
  exact ⟨Int.emod_nonneg _ (by omega), Int.emod_lt_of_pos _ hs⟩
def own_min (x y : Int64) : Int64 := if y < x then y else x
def own_max (x y : Int64) : Int64 := if x < y then y else x
def own_holds (lo hi z : Int64) : Int32 := if z < lo then (0 : Int32) else (if hi < z then (0 : Int32) else (1 : Int32))
theorem own_mask32 (a : Int64) : 0 ≤ (a &&& (4294967295 : Int64)).toInt ∧ (a &&& (4294967295 : Int64)).toInt < 4294967296 := by
  have h : (a &&& (4294967295 : Int64)).toBitVec = a.toBitVec &&& 4294967295#64 := rfl
  have e : (a &&& (4294967295 : Int64)).toInt = (a.toBitVec &&& 4294967295#64).toInt := by rw [← h]; rfl
  have hm : (a.toBitVec &&& 4294967295#64).toNat ≤ 4294967295 := by rw [BitVec.toNat_and]; exact Nat.and_le_right
  rw [e, BitVec.toInt_eq_toNat_of_lt (by omega)]
  omega
theorem own_mm (x y : Int64) (hx : 0 ≤ x.toInt ∧ x.toInt < 4294967296) (hy : 0 ≤ y.toInt ∧ y.toInt < 4294967296) : 0 ≤ (own_min x y).toInt ∧ (own_max x y).toInt < 4294967296 ∧ (own_min x y).toInt ≤ (own_max x y).toInt := by
  unfold own_min own_max
  by_cases h : x < y
  · rw [if_pos h]
    rw [Int64.lt_iff_toInt_lt] at h
    rw [if_neg (by rw [Int64.lt_iff_toInt_lt]; omega)]
    omega
  · rw [if_neg h]
    rw [Int64.lt_iff_toInt_lt] at h
    by_cases h2 : y < x
    · rw [if_pos h2]
      rw [Int64.lt_iff_toInt_lt] at h2
      omega
    · rw [if_neg h2]
      omega
theorem own_law (lo hi z : Int64) (h1 : 0 ≤ lo.toInt) (h2 : hi.toInt < 4294967296) (h3 : lo.toInt ≤ hi.toInt) : own_holds lo hi z = (if z - lo < (0 : Int64) then (0 : Int32) else (if hi - lo < z - lo then (0 : Int32) else (1 : Int32))) := by
  have t0 : (0 : Int64).toInt = 0 := rfl
  have rz := own_rangeL z
  have eh : (hi - lo).toInt = hi.toInt - lo.toInt := own_i64_sub _ _ (by omega) (by omega)
  unfold own_holds
  simp only [Int64.lt_iff_toInt_lt, eh, t0]
  by_cases hb : -9223372036854775808 ≤ z.toInt - lo.toInt
  · rw [own_i64_sub z lo (by omega) (by omega)]
    by_cases c1 : z.toInt < lo.toInt
    · have d1 : z.toInt - lo.toInt < 0 := by omega
      rw [if_pos c1, if_pos d1]
    · have d1 : ¬ (z.toInt - lo.toInt < 0) := by omega
      rw [if_neg c1, if_neg d1]
      by_cases c2 : hi.toInt < z.toInt
      · have d2 : hi.toInt - lo.toInt < z.toInt - lo.toInt := by omega
        rw [if_pos c2, if_pos d2]
      · have d2 : ¬ (hi.toInt - lo.toInt < z.toInt - lo.toInt) := by omega
        rw [if_neg c2, if_neg d2]
  · have e : (z - lo).toInt = z.toInt - lo.toInt + 18446744073709551616 := by
      rw [Int64.toInt_sub, Int.bmod_def]
      split <;> omega
    have c1 : z.toInt < lo.toInt := by omega
    have d1 : ¬ (z.toInt - lo.toInt + 18446744073709551616 < 0) := by omega
    have d2 : hi.toInt - lo.toInt < z.toInt - lo.toInt + 18446744073709551616 := by omega
    rw [e, if_pos c1, if_neg d1, if_pos d2]
theorem own_bounds (k1 k2 : Int64) (v5 : Int64) (hv5 : v5 = (k1 &&& (4294967295 : Int64))) (v12 : Int64) (hv12 : v12 = (k2 &&& (4294967295 : Int64))) (r18 : Int64) (hr18 : r18 = (own_min v5 v12)) (r27 : Int64) (hr27 : r27 = (own_max v5 v12)) : 0 ≤ r18.toInt ∧ r27.toInt < 4294967296 ∧ r18.toInt ≤ r27.toInt := by
  subst hv5 hv12 hr18 hr27
  exact own_mm _ _ (own_mask32 k1) (own_mask32 k2)
theorem d1_0 : decode jdk_29_method_70_code 0 = .ok (.lload_n 0, 1) := by decide +kernel
theorem d1_1 : decode jdk_29_method_70_code 1 = .ok (.lload_n 2, 1) := by decide +kernel
theorem d1_2 : decode jdk_29_method_70_code 2 = .ok (.lcmp, 1) := by decide +kernel
theorem d1_3 : decode jdk_29_method_70_code 3 = .ok (.ifCond .gt 7, 3) := by decide +kernel
theorem d1_6 : decode jdk_29_method_70_code 6 = .ok (.lload_n 0, 1) := by decide +kernel
theorem d1_7 : decode jdk_29_method_70_code 7 = .ok (.goto 4, 3) := by decide +kernel
theorem d1_10 : decode jdk_29_method_70_code 10 = .ok (.lload_n 2, 1) := by decide +kernel
theorem d1_11 : decode jdk_29_method_70_code 11 = .ok (.lreturn, 1) := by decide +kernel
theorem ef_1 (m : MethodId) (x0 : Int64) (x1 : Int64) : entryFrame m #[(.long x0), (.long x1)] 4 = mkF m 0 #[.val (.long x0), .second, .val (.long x1), .second] [] := by first | (simp [entryFrame, mkF, argsToLocals, Value.category]; done) | rfl
def Q1 (Z : State) (x1 : Int64) (x2 : Int64) (h0 : Heap) (n0 : Nat) (v : Option Value) (h : Heap) (L : List Loc) : Prop := v = some (.long (own_min x1 x2)) ∧ Fr n0 L ∧ h = h0
set_option maxRecDepth 65536 in
set_option maxHeartbeats 40000000 in
theorem rm1 (l : Launch) (Z : State) (a0 : Array Value) (hw : ∀ d ∈ tables_1, d.before a0 Z = true) (ws : List Jvm.Cond) (x1 : Int64) (x2 : Int64) (h0 : Heap) (n0 : Nat) (Z0 : n0 ≤ h0.size)  :
    MetFree l (⟨"java/lang/Math", "min", "(JJ)J"⟩ : MethodName) (head1 (Jvm.Cond.code (⟨"java/lang/Math", "min", "(JJ)J"⟩ : MethodName) jdk_29_method_70_code 4 (some .long) :: ws) ({ frames := 0, cells := 0, slots := 0, locals := 0 } : Room)) (fun a U => a = #[(.long x1), (.long x2)] ∧ Z.Warmed39 U.vm ∧ U.heap = h0) (fun _ _ _ _ _ => True) (fun _ U o U' => ∃ v L, o = .returned v ∧ Q1 Z x1 x2 h0 n0 v U'.heap L ∧ FrameEnd U o U' L ({ frames := 0, cells := 0, slots := 0, locals := 0 } : Room).cells ({ frames := 0, cells := 0, slots := 0, locals := 0 } : Room).slots) := by
  refine MetFree.of_bodySF (Jvm.Free.JP.mathPlain rfl (by decide +kernel)) hisR ?_
  intro p e s m args below meth c s₁ Bd hml0 hP hK
  obtain ⟨rfl, hZ, hh⟩ := hP
  have hx := Bd.exec
  have hby := Bd.bytes
  have hml : c.maxLocals = 4 := hml0
  have hown : s.vm.findClass "java/lang/Math" = some m.cls := findClass_of_methodNamed Bd.named
  have hnm := (name_of_methodNamed Bd.named Bd.method).1
  have X0 : Stand p l e ({ frames := 0, cells := 0, slots := 0, locals := 0 } : Room) s m #[(.long x1), (.long x2)] below meth c s₁ [] 0 0 := Stand.of_body Bd
  have e0 : s₁.heap = h0 := by rw [← hh, Bd.state]; rfl
  have N0 := Fr.nil n0
  have K0 : Keep h0 h0 [] := Keep.refl h0 _
  have pre0 : ∀ tq, Steps p.tables e below (s₁.setTop (mkF m 0 #[.val (.long x1), .second, .val (.long x2), .second] [])) tq → Steps p.tables e below (s₁.setTop (entryFrame m #[(.long x1), (.long x2)] 4)) tq := fun tq kq => castTop (ef_1 m x1 x2) kq
  obtain ⟨m11, hm11⟩ : ∃ z_q : Int64, z_q = (if x2 < x1 then x2 else x1) := ⟨_, rfl⟩
  have pre2 : ∀ tq, Steps p.tables e below (s₁.setTop (mkF m 11 #[.val (.long x1), .second, .val (.long x2), .second] [(.long m11)])) tq → Steps p.tables e below (s₁.setTop (entryFrame m #[(.long x1), (.long x2)] 4)) tq := by
    intro tq kt
    refine pre0 _ ?_
    show Steps p.tables e below (s₁.setTop (mkF m 0 #[.val (.long x1), .second, .val (.long x2), .second] [])) _
    refine XS.lloadN X0.here hx rfl (hb hby d1_0) rfl ?_
    show Steps p.tables e below (s₁.setTop (mkF m 1 #[.val (.long x1), .second, .val (.long x2), .second] [(.long x1)])) _
    refine XS.lloadN X0.here hx rfl (hb hby d1_1) rfl ?_
    show Steps p.tables e below (s₁.setTop (mkF m 2 #[.val (.long x1), .second, .val (.long x2), .second] [(.long x2), (.long x1)])) _
    refine XS.lcmp X0.here hx rfl (hb hby d1_2) rfl ?_
    by_cases d1 : x2 < x1
    · skip
      show Steps p.tables e below (s₁.setTop (mkF m 3 #[.val (.long x1), .second, .val (.long x2), .second] [(.int (lcmpW x1 x2))])) _
      refine XS.ifYes X0.here hx rfl (pc0 := 3) (pc' := 10) rfl (hb hby d1_3) rfl ((if0 _ _).trans (tlt ((lw_gt x1 x2).2 d1)).2.2.1) (by decide) (by decide) ?_
      show Steps p.tables e below (s₁.setTop (mkF m 10 #[.val (.long x1), .second, .val (.long x2), .second] [])) _
      refine XS.lloadN X0.here hx rfl (hb hby d1_10) rfl ?_
      show Steps p.tables e below (s₁.setTop (mkF m 11 #[.val (.long x1), .second, .val (.long x2), .second] [(.long x2)])) _
      exact castTop (by simp only [hm11, if_pos d1]) kt
    · skip
      show Steps p.tables e below (s₁.setTop (mkF m 3 #[.val (.long x1), .second, .val (.long x2), .second] [(.int (lcmpW x1 x2))])) _
      refine XS.ifNo X0.here hx rfl (hb hby d1_3) rfl ((if0 _ _).trans (flt (mt (lw_gt x1 x2).1 d1)).2.2.1) ?_
      show Steps p.tables e below (s₁.setTop (mkF m 6 #[.val (.long x1), .second, .val (.long x2), .second] [])) _
      refine XS.lloadN X0.here hx rfl (hb hby d1_6) rfl ?_
      show Steps p.tables e below (s₁.setTop (mkF m 7 #[.val (.long x1), .second, .val (.long x2), .second] [(.long x1)])) _
      refine XS.goto X0.here hx rfl (pc0 := 7) (pc' := 11) rfl (hb hby d1_7) (by decide) (by decide) ?_
      show Steps p.tables e below (s₁.setTop (mkF m 11 #[.val (.long x1), .second, .val (.long x2), .second] [(.long x1)])) _
      exact castTop (by simp only [hm11, if_neg d1]) kt
  obtain ⟨fs, hr, hrun, hended, hW, hsame⟩ := X0.leave (v := some (Value.long m11)) (fun h => by rw [Bd.returns] at h; cases h)
  have hres3 : m11 = (own_min x1 x2) := by subst_vars; rfl
  refine ⟨_, _, pre2 _ ?_, hrun, hended, _, _, rfl, ?_, ⟨_, rfl⟩, hW, hsame.mono (by decide) (by decide)⟩
  · skip
    show Steps p.tables e below (s₁.setTop (mkF m 11 #[.val (.long x1), .second, .val (.long x2), .second] [(.long m11)])) _
    exact retOut X0 hx Bd.returns rfl (Or.inr (Or.inl ⟨rfl, rfl, _, rfl⟩)) (hb hby d1_11) hr
  · show Q1 Z x1 x2 h0 n0 _ s₁.heap _
    rw [e0]
    exact ⟨congrArg (fun z => some (Value.long z)) hres3, N0, rfl⟩
theorem d2_0 : decode jdk_29_method_66_code 0 = .ok (.lload_n 0, 1) := by decide +kernel
theorem d2_1 : decode jdk_29_method_66_code 1 = .ok (.lload_n 2, 1) := by decide +kernel
theorem d2_2 : decode jdk_29_method_66_code 2 = .ok (.lcmp, 1) := by decide +kernel
theorem d2_3 : decode jdk_29_method_66_code 3 = .ok (.ifCond .lt 7, 3) := by decide +kernel
theorem d2_6 : decode jdk_29_method_66_code 6 = .ok (.lload_n 0, 1) := by decide +kernel
theorem d2_7 : decode jdk_29_method_66_code 7 = .ok (.goto 4, 3) := by decide +kernel
theorem d2_10 : decode jdk_29_method_66_code 10 = .ok (.lload_n 2, 1) := by decide +kernel
theorem d2_11 : decode jdk_29_method_66_code 11 = .ok (.lreturn, 1) := by decide +kernel
theorem ef_2 (m : MethodId) (x0 : Int64) (x1 : Int64) : entryFrame m #[(.long x0), (.long x1)] 4 = mkF m 0 #[.val (.long x0), .second, .val (.long x1), .second] [] := by first | (simp [entryFrame, mkF, argsToLocals, Value.category]; done) | rfl
def Q2 (Z : State) (x1 : Int64) (x2 : Int64) (h0 : Heap) (n0 : Nat) (v : Option Value) (h : Heap) (L : List Loc) : Prop := v = some (.long (own_max x1 x2)) ∧ Fr n0 L ∧ h = h0
set_option maxRecDepth 65536 in
set_option maxHeartbeats 40000000 in
theorem rm2 (l : Launch) (Z : State) (a0 : Array Value) (hw : ∀ d ∈ tables_1, d.before a0 Z = true) (ws : List Jvm.Cond) (x1 : Int64) (x2 : Int64) (h0 : Heap) (n0 : Nat) (Z0 : n0 ≤ h0.size)  :
    MetFree l (⟨"java/lang/Math", "max", "(JJ)J"⟩ : MethodName) (head1 (Jvm.Cond.code (⟨"java/lang/Math", "max", "(JJ)J"⟩ : MethodName) jdk_29_method_66_code 4 (some .long) :: ws) ({ frames := 0, cells := 0, slots := 0, locals := 0 } : Room)) (fun a U => a = #[(.long x1), (.long x2)] ∧ Z.Warmed39 U.vm ∧ U.heap = h0) (fun _ _ _ _ _ => True) (fun _ U o U' => ∃ v L, o = .returned v ∧ Q2 Z x1 x2 h0 n0 v U'.heap L ∧ FrameEnd U o U' L ({ frames := 0, cells := 0, slots := 0, locals := 0 } : Room).cells ({ frames := 0, cells := 0, slots := 0, locals := 0 } : Room).slots) := by
  refine MetFree.of_bodySF (Jvm.Free.JP.mathPlain rfl (by decide +kernel)) hisR ?_
  intro p e s m args below meth c s₁ Bd hml0 hP hK
  obtain ⟨rfl, hZ, hh⟩ := hP
  have hx := Bd.exec
  have hby := Bd.bytes
  have hml : c.maxLocals = 4 := hml0
  have hown : s.vm.findClass "java/lang/Math" = some m.cls := findClass_of_methodNamed Bd.named
  have hnm := (name_of_methodNamed Bd.named Bd.method).1
  have X0 : Stand p l e ({ frames := 0, cells := 0, slots := 0, locals := 0 } : Room) s m #[(.long x1), (.long x2)] below meth c s₁ [] 0 0 := Stand.of_body Bd
  have e0 : s₁.heap = h0 := by rw [← hh, Bd.state]; rfl
  have N0 := Fr.nil n0
  have K0 : Keep h0 h0 [] := Keep.refl h0 _
  have pre0 : ∀ tq, Steps p.tables e below (s₁.setTop (mkF m 0 #[.val (.long x1), .second, .val (.long x2), .second] [])) tq → Steps p.tables e below (s₁.setTop (entryFrame m #[(.long x1), (.long x2)] 4)) tq := fun tq kq => castTop (ef_2 m x1 x2) kq
  obtain ⟨m11, hm11⟩ : ∃ z_q : Int64, z_q = (if x1 < x2 then x2 else x1) := ⟨_, rfl⟩
  have pre2 : ∀ tq, Steps p.tables e below (s₁.setTop (mkF m 11 #[.val (.long x1), .second, .val (.long x2), .second] [(.long m11)])) tq → Steps p.tables e below (s₁.setTop (entryFrame m #[(.long x1), (.long x2)] 4)) tq := by
    intro tq kt
    refine pre0 _ ?_
    show Steps p.tables e below (s₁.setTop (mkF m 0 #[.val (.long x1), .second, .val (.long x2), .second] [])) _
    refine XS.lloadN X0.here hx rfl (hb hby d2_0) rfl ?_
    show Steps p.tables e below (s₁.setTop (mkF m 1 #[.val (.long x1), .second, .val (.long x2), .second] [(.long x1)])) _
    refine XS.lloadN X0.here hx rfl (hb hby d2_1) rfl ?_
    show Steps p.tables e below (s₁.setTop (mkF m 2 #[.val (.long x1), .second, .val (.long x2), .second] [(.long x2), (.long x1)])) _
    refine XS.lcmp X0.here hx rfl (hb hby d2_2) rfl ?_
    by_cases d1 : x1 < x2
    · skip
      show Steps p.tables e below (s₁.setTop (mkF m 3 #[.val (.long x1), .second, .val (.long x2), .second] [(.int (lcmpW x1 x2))])) _
      refine XS.ifYes X0.here hx rfl (pc0 := 3) (pc' := 10) rfl (hb hby d2_3) rfl ((if0 _ _).trans (tlt ((lw_lt x1 x2).2 d1)).1) (by decide) (by decide) ?_
      show Steps p.tables e below (s₁.setTop (mkF m 10 #[.val (.long x1), .second, .val (.long x2), .second] [])) _
      refine XS.lloadN X0.here hx rfl (hb hby d2_10) rfl ?_
      show Steps p.tables e below (s₁.setTop (mkF m 11 #[.val (.long x1), .second, .val (.long x2), .second] [(.long x2)])) _
      exact castTop (by simp only [hm11, if_pos d1]) kt
    · skip
      show Steps p.tables e below (s₁.setTop (mkF m 3 #[.val (.long x1), .second, .val (.long x2), .second] [(.int (lcmpW x1 x2))])) _
      refine XS.ifNo X0.here hx rfl (hb hby d2_3) rfl ((if0 _ _).trans (flt (mt (lw_lt x1 x2).1 d1)).1) ?_
      show Steps p.tables e below (s₁.setTop (mkF m 6 #[.val (.long x1), .second, .val (.long x2), .second] [])) _
      refine XS.lloadN X0.here hx rfl (hb hby d2_6) rfl ?_
      show Steps p.tables e below (s₁.setTop (mkF m 7 #[.val (.long x1), .second, .val (.long x2), .second] [(.long x1)])) _
      refine XS.goto X0.here hx rfl (pc0 := 7) (pc' := 11) rfl (hb hby d2_7) (by decide) (by decide) ?_
      show Steps p.tables e below (s₁.setTop (mkF m 11 #[.val (.long x1), .second, .val (.long x2), .second] [(.long x1)])) _
      exact castTop (by simp only [hm11, if_neg d1]) kt
  obtain ⟨fs, hr, hrun, hended, hW, hsame⟩ := X0.leave (v := some (Value.long m11)) (fun h => by rw [Bd.returns] at h; cases h)
  have hres3 : m11 = (own_max x1 x2) := by subst_vars; rfl
  refine ⟨_, _, pre2 _ ?_, hrun, hended, _, _, rfl, ?_, ⟨_, rfl⟩, hW, hsame.mono (by decide) (by decide)⟩
  · skip
    show Steps p.tables e below (s₁.setTop (mkF m 11 #[.val (.long x1), .second, .val (.long x2), .second] [(.long m11)])) _
    exact retOut X0 hx Bd.returns rfl (Or.inr (Or.inl ⟨rfl, rfl, _, rfl⟩)) (hb hby d2_11) hr
  · show Q2 Z x1 x2 h0 n0 _ s₁.heap _
    rw [e0]
    exact ⟨congrArg (fun z => some (Value.long z)) hres3, N0, rfl⟩
theorem d4_0 : decode jdk_30_method_1_code 0 = .ok (.aload_n 0, 1) := by decide +kernel
theorem d4_1 : decode jdk_30_method_1_code 1 = .ok (.invokespecial 1, 3) := by decide +kernel
theorem d4_4 : decode jdk_30_method_1_code 4 = .ok (.return_, 1) := by decide +kernel
theorem pn_4 : plainName "java/lang/Record" = true := by first | (simp [plainName, overriddenIn]; done) | decide +kernel
theorem ef_4 (m : MethodId) (x0 : Addr) : entryFrame m #[(.ref x0)] 1 = mkF m 0 #[.val (.ref x0)] [] := by first | (simp [entryFrame, mkF, argsToLocals, Value.category]; done) | rfl
def Q4 (Z : State) (ob : Addr) (h0 : Heap) (n0 : Nat) (v : Option Value) (h : Heap) (L : List Loc) : Prop := v = none ∧ Fr n0 L ∧ h = h0
set_option maxRecDepth 65536 in
set_option maxHeartbeats 40000000 in
theorem rm4 (l : Launch) (Z : State) (a0 : Array Value) (hw : ∀ d ∈ tables_1, d.before a0 Z = true) (ws : List Jvm.Cond) (ob : Addr) (h0 : Heap) (n0 : Nat) (Z0 : n0 ≤ h0.size)  :
    MetFree l (⟨"java/lang/Record", "<init>", "()V"⟩ : MethodName) (head1 (Jvm.Cond.code (⟨"java/lang/Record", "<init>", "()V"⟩ : MethodName) jdk_30_method_1_code 1 none :: ws) ({ frames := 1, cells := 0, slots := 0, locals := 12 } : Room)) (fun a U => a = #[(.ref ob)] ∧ Z.Warmed39 U.vm ∧ U.heap = h0) (fun _ _ _ _ _ => True) (fun _ U o U' => ∃ v L, o = .returned v ∧ Q4 Z ob h0 n0 v U'.heap L ∧ FrameEnd U o U' L ({ frames := 1, cells := 0, slots := 0, locals := 12 } : Room).cells ({ frames := 1, cells := 0, slots := 0, locals := 12 } : Room).slots) := by
  refine MetFree.of_bodySF (plainFor_of_name pn_4) hisR ?_
  intro p e s m args below meth c s₁ Bd hml0 hP hK
  obtain ⟨rfl, hZ, hh⟩ := hP
  have hx := Bd.exec
  have hby := Bd.bytes
  have hml : c.maxLocals = 1 := hml0
  have hown : s.vm.findClass "java/lang/Record" = some m.cls := findClass_of_methodNamed Bd.named
  have hnm := (name_of_methodNamed Bd.named Bd.method).1
  have X0 : Stand p l e ({ frames := 1, cells := 0, slots := 0, locals := 12 } : Room) s m #[(.ref ob)] below meth c s₁ [] 0 0 := Stand.of_body Bd
  have e0 : s₁.heap = h0 := by rw [← hh, Bd.state]; rfl
  have N0 := Fr.nil n0
  have K0 : Keep h0 h0 [] := Keep.refl h0 _
  have pre0 : ∀ tq, Steps p.tables e below (s₁.setTop (mkF m 0 #[.val (.ref ob)] [])) tq → Steps p.tables e below (s₁.setTop (entryFrame m #[(.ref ob)] 1)) tq := fun tq kq => castTop (ef_4 m ob) kq
  obtain ⟨T1, X1, e1, st1⟩ := initO X0 hx hZ hown (hw _ (List.mem_of_getElem? (i := 19) rfl)) (hw _ (List.mem_of_getElem? (i := 20) rfl)) (hw _ (List.mem_of_getElem? (i := 21) rfl)) e0 (g := (mkF m 1 #[.val (.ref ob)] [(.ref ob)])) rfl (by rw [hml]; rfl) rfl (hb hby d4_1) (by decide) (W := 0) (by show 2 * 0 + _ ≤ _; exact Nat.le_of_eq rfl) (by decide)
  obtain ⟨fs, hr, hrun, hended, hW, hsame⟩ := X1.leave (v := none) (fun _ => rfl)
  refine ⟨_, _, pre0 _ ?_, hrun, hended, _, _, rfl, ?_, ⟨_, rfl⟩, hW, hsame.mono (by decide) (by decide)⟩
  · skip
    show Steps p.tables e below (s₁.setTop (mkF m 0 #[.val (.ref ob)] [])) _
    refine XS.aloadN X0.here hx rfl (hb hby d4_0) rfl rfl ?_
    show Steps p.tables e below (s₁.setTop (mkF m 1 #[.val (.ref ob)] [(.ref ob)])) _
    refine st1 _ ?_
    show Steps p.tables e below (T1.setTop (mkF m 4 #[.val (.ref ob)] [])) _
    exact X1.returnOut hx Bd.returns (hb hby d4_4) hr
  · show Q4 Z ob h0 n0 _ T1.heap _
    rw [e1]
    exact ⟨rfl, N0, rfl⟩
theorem d3_0 : decode prog_3_method_1_code 0 = .ok (.aload_n 0, 1) := by decide +kernel
theorem d3_1 : decode prog_3_method_1_code 1 = .ok (.invokespecial 3, 3) := by decide +kernel
theorem d3_4 : decode prog_3_method_1_code 4 = .ok (.lload_n 1, 1) := by decide +kernel
theorem d3_5 : decode prog_3_method_1_code 5 = .ok (.lconst 0, 1) := by decide +kernel
theorem d3_6 : decode prog_3_method_1_code 6 = .ok (.lcmp, 1) := by decide +kernel
theorem d3_7 : decode prog_3_method_1_code 7 = .ok (.ifCond .lt 17, 3) := by decide +kernel
theorem d3_10 : decode prog_3_method_1_code 10 = .ok (.lload_n 3, 1) := by decide +kernel
theorem d3_11 : decode prog_3_method_1_code 11 = .ok (.ldc2_w 11, 3) := by decide +kernel
theorem d3_14 : decode prog_3_method_1_code 14 = .ok (.lcmp, 1) := by decide +kernel
theorem d3_15 : decode prog_3_method_1_code 15 = .ok (.ifCond .ge 9, 3) := by decide +kernel
theorem d3_18 : decode prog_3_method_1_code 18 = .ok (.lload_n 3, 1) := by decide +kernel
theorem d3_19 : decode prog_3_method_1_code 19 = .ok (.lload_n 1, 1) := by decide +kernel
theorem d3_20 : decode prog_3_method_1_code 20 = .ok (.lcmp, 1) := by decide +kernel
theorem d3_21 : decode prog_3_method_1_code 21 = .ok (.ifCond .ge 18, 3) := by decide +kernel
theorem d3_39 : decode prog_3_method_1_code 39 = .ok (.aload_n 0, 1) := by decide +kernel
theorem d3_40 : decode prog_3_method_1_code 40 = .ok (.lload_n 1, 1) := by decide +kernel
theorem d3_41 : decode prog_3_method_1_code 41 = .ok (.putfield 22, 3) := by decide +kernel
theorem d3_44 : decode prog_3_method_1_code 44 = .ok (.aload_n 0, 1) := by decide +kernel
theorem d3_45 : decode prog_3_method_1_code 45 = .ok (.lload_n 3, 1) := by decide +kernel
theorem d3_46 : decode prog_3_method_1_code 46 = .ok (.putfield 26, 3) := by decide +kernel
theorem d3_49 : decode prog_3_method_1_code 49 = .ok (.return_, 1) := by decide +kernel
theorem pn_3 : plainName "com/example/shardwright/shardwright/coordination/HashRange" = true := by first | (simp [plainName, overriddenIn]; done) | decide +kernel
theorem pd_0 : parseMethodDescriptor "()V" = some ⟨[], none⟩ := by decide +kernel
theorem ef_3 (m : MethodId) (x0 : Addr) (x1 : Int64) (x2 : Int64) : entryFrame m #[(.ref x0), (.long x1), (.long x2)] 5 = mkF m 0 #[.val (.ref x0), .val (.long x1), .second, .val (.long x2), .second] [] := by first | (simp [entryFrame, mkF, argsToLocals, Value.category]; done) | rfl
def Q3 (Z : State) (ob : Addr) (lo : Int64) (hi : Int64) (h0 : Heap) (n0 : Nat) (v : Option Value) (h : Heap) (L : List Loc) : Prop := v = none ∧ Fr n0 L ∧ Keep h0 h [ob] ∧ Exa Z h ob "com/example/shardwright/shardwright/coordination/HashRange" ∧ Fld Z h ob "com/example/shardwright/shardwright/coordination/HashRange" "low" "J" (.long lo) ∧ Fld Z h ob "com/example/shardwright/shardwright/coordination/HashRange" "high" "J" (.long hi)
set_option maxRecDepth 65536 in
set_option maxHeartbeats 40000000 in
theorem rm3 (l : Launch) (Z : State) (a0 : Array Value) (hw : ∀ d ∈ tables_1, d.before a0 Z = true) (ws : List Jvm.Cond) (ob : Addr) (lo : Int64) (hi : Int64) (h0 : Heap) (n0 : Nat) (Z0 : n0 ≤ h0.size) (I0 : Fld Z h0 ob "com/example/shardwright/shardwright/coordination/HashRange" "low" "J" (.long (0 : Int64))) (I1 : Fld Z h0 ob "com/example/shardwright/shardwright/coordination/HashRange" "high" "J" (.long (0 : Int64))) (I2 : Exa Z h0 ob "com/example/shardwright/shardwright/coordination/HashRange") (g_ob : n0 ≤ ob) (h1 : ¬ (lo < (0 : Int64))) (h2 : hi < (4294967296 : Int64)) (h3 : ¬ (hi < lo)) :
    MetFree l (⟨"com/example/shardwright/shardwright/coordination/HashRange", "<init>", "(JJ)V"⟩ : MethodName) (head1 (Jvm.Cond.code (⟨"com/example/shardwright/shardwright/coordination/HashRange", "<init>", "(JJ)V"⟩ : MethodName) prog_3_method_1_code 5 none :: ws) ({ frames := 2, cells := 0, slots := 0, locals := 24 } : Room)) (fun a U => a = #[(.ref ob), (.long lo), (.long hi)] ∧ Z.Warmed39 U.vm ∧ U.heap = h0) (fun _ _ _ _ _ => True) (fun _ U o U' => ∃ v L, o = .returned v ∧ Q3 Z ob lo hi h0 n0 v U'.heap L ∧ FrameEnd U o U' L ({ frames := 2, cells := 0, slots := 0, locals := 24 } : Room).cells ({ frames := 2, cells := 0, slots := 0, locals := 24 } : Room).slots) := by
  refine MetFree.of_bodySF (plainFor_of_name pn_3) hisR ?_
  intro p e s m args below meth c s₁ Bd hml0 hP hK
  obtain ⟨rfl, hZ, hh⟩ := hP
  have hx := Bd.exec
  have hby := Bd.bytes
  have hml : c.maxLocals = 5 := hml0
  have hown : s.vm.findClass "com/example/shardwright/shardwright/coordination/HashRange" = some m.cls := findClass_of_methodNamed Bd.named
  have hnm := (name_of_methodNamed Bd.named Bd.method).1
  have X0 : Stand p l e ({ frames := 2, cells := 0, slots := 0, locals := 24 } : Room) s m #[(.ref ob), (.long lo), (.long hi)] below meth c s₁ [] 0 0 := Stand.of_body Bd
  have e0 : s₁.heap = h0 := by rw [← hh, Bd.state]; rfl
  have N0 := Fr.nil n0
  have K0 : Keep h0 h0 [ob] := Keep.refl h0 _
  have pre0 : ∀ tq, Steps p.tables e below (s₁.setTop (mkF m 0 #[.val (.ref ob), .val (.long lo), .second, .val (.long hi), .second] [])) tq → Steps p.tables e below (s₁.setTop (entryFrame m #[(.ref ob), (.long lo), (.long hi)] 5)) tq := fun tq kq => castTop (ef_3 m ob lo hi) kq
  obtain ⟨_, _, ⟨T1, L1, k1, n1⟩, -, X1, ⟨Lc1, hQ1, l1, y1, z1⟩, st1⟩ := X0.specialBack hx (y := (⟨"java/lang/Record", "<init>", "()V"⟩ : MethodName)) rfl hown (mvT hZ (hw _ (List.mem_of_getElem? (i := 14) rfl))) (mvT hZ (hw _ (List.mem_of_getElem? (i := 15) rfl))) (mvT hZ (hw _ (List.mem_of_getElem? (i := 18) rfl))) (by decide) (backOf (W := 0) (rm4 l Z a0 hw [] ob h0 n0 Z0 ) hZ (hw _ (List.mem_of_getElem? (i := 18) rfl)) (hw _ (List.mem_of_getElem? (i := 17) rfl)) (by decide) (by decide)) (g := (mkF m 1 #[.val (.ref ob), .val (.long lo), .second, .val (.long hi), .second] [(.ref ob)])) rfl (by rw [hml]; rfl) (Steps.refl _) (a := ob) (argsL := []) (rest := []) (lenOf pd_0 rfl) rfl (by show 2 * 0 + _ ≤ _; exact Nat.le_of_eq rfl) (hb hby d3_1) (fun _ _ => ⟨rfl, e0, (by decide : 0 + 0 ≤ _), (by decide : 0 + 0 ≤ _)⟩)
  dsimp only [Pt.U, Pt.locs, Pt.cells, Pt.slots] at X1 l1 y1 z1 st1 hQ1
  subst l1 y1 z1
  obtain ⟨rfl, N1q, e1⟩ := hQ1
  have N1 := Fr.app N0 N1q
  obtain ⟨T2, hX2, X2, e2, W2, st2⟩ := putF X1 hx hZ hown (host := "") (Or.inl (hw _ (List.mem_of_getElem? (i := 23) rfl))) Via.refl e1 I0 I2 (Or.inr ⟨(hw _ (List.mem_of_getElem? (i := 24) rfl)), rfl, hnm⟩) (hw _ (List.mem_of_getElem? (i := 9) rfl)) (ty := .long) (by decide) rfl rfl (g := (mkF m 41 #[.val (.ref ob), .val (.long lo), .second, .val (.long hi), .second] [(.long lo), (.ref ob)])) rfl rfl (hb hby d3_41)
  have N2 := Fr.snoc X2 N1 g_ob
  have F3 : Fld Z hX2 ob "com/example/shardwright/shardwright/coordination/HashRange" "low" "J" (.long lo) := I0.same W2
  have F4 : Fld Z hX2 ob "com/example/shardwright/shardwright/coordination/HashRange" "high" "J" (.long (0 : Int64)) := I1.other W2 (Or.inr (slot_ne (Or.inr (hw _ (List.mem_of_getElem? (i := 26) rfl))) (Or.inr (hw _ (List.mem_of_getElem? (i := 24) rfl))) (by decide) (t := .long) (t' := .long) (by decide) (by decide)))
  have F5 : Exa Z hX2 ob "com/example/shardwright/shardwright/coordination/HashRange" := I2.wr W2
  have Z6 : n0 ≤ hX2.size := Nat.le_trans Z0 (Keep.of_wr W2).1
  have K7 : Keep h0 hX2 [ob] := K0.wr W2 (Or.inl (List.mem_of_getElem? (i := 0) rfl))
  obtain ⟨T8, hX8, X8, e8, W8, st8⟩ := putF X2 hx hZ hown (host := "") (Or.inl (hw _ (List.mem_of_getElem? (i := 25) rfl))) Via.refl e2 F4 F5 (Or.inr ⟨(hw _ (List.mem_of_getElem? (i := 26) rfl)), rfl, hnm⟩) (hw _ (List.mem_of_getElem? (i := 9) rfl)) (ty := .long) (by decide) rfl rfl (g := (mkF m 46 #[.val (.ref ob), .val (.long lo), .second, .val (.long hi), .second] [(.long hi), (.ref ob)])) rfl rfl (hb hby d3_46)
  have N8 := Fr.snoc X8 N2 g_ob
  have F9 : Fld Z hX8 ob "com/example/shardwright/shardwright/coordination/HashRange" "high" "J" (.long hi) := F4.same W8
  have F10 : Exa Z hX8 ob "com/example/shardwright/shardwright/coordination/HashRange" := F5.wr W8
  have F11 : Fld Z hX8 ob "com/example/shardwright/shardwright/coordination/HashRange" "low" "J" (.long lo) := F3.other W8 (Or.inr (slot_ne (Or.inr (hw _ (List.mem_of_getElem? (i := 24) rfl))) (Or.inr (hw _ (List.mem_of_getElem? (i := 26) rfl))) (by decide) (t := .long) (t' := .long) (by decide) (by decide)))
  have Z12 : n0 ≤ hX8.size := Nat.le_trans Z6 (Keep.of_wr W8).1
  have K13 : Keep h0 hX8 [ob] := K7.wr W8 (Or.inl (List.mem_of_getElem? (i := 0) rfl))
  obtain ⟨fs, hr, hrun, hended, hW, hsame⟩ := X8.leave (v := none) (fun _ => rfl)
  refine ⟨_, _, pre0 _ ?_, hrun, hended, _, _, rfl, ?_, ⟨_, rfl⟩, hW, hsame.mono (by decide) (by decide)⟩
  · skip
    show Steps p.tables e below (s₁.setTop (mkF m 0 #[.val (.ref ob), .val (.long lo), .second, .val (.long hi), .second] [])) _
    refine XS.aloadN X0.here hx rfl (hb hby d3_0) rfl rfl ?_
    show Steps p.tables e below (s₁.setTop (mkF m 1 #[.val (.ref ob), .val (.long lo), .second, .val (.long hi), .second] [(.ref ob)])) _
    refine st1.trans ?_
    show Steps p.tables e below (T1.setTop (mkF m 4 #[.val (.ref ob), .val (.long lo), .second, .val (.long hi), .second] [])) _
    refine XS.lloadN X1.here hx rfl (hb hby d3_4) rfl ?_
    show Steps p.tables e below (T1.setTop (mkF m 5 #[.val (.ref ob), .val (.long lo), .second, .val (.long hi), .second] [(.long lo)])) _
    refine XS.lconst X1.here hx rfl (hb hby d3_5) ?_
    show Steps p.tables e below (T1.setTop (mkF m 6 #[.val (.ref ob), .val (.long lo), .second, .val (.long hi), .second] [(.long (0 : Int64)), (.long lo)])) _
    refine XS.lcmp X1.here hx rfl (hb hby d3_6) rfl ?_
    show Steps p.tables e below (T1.setTop (mkF m 7 #[.val (.ref ob), .val (.long lo), .second, .val (.long hi), .second] [(.int (lcmpW lo (0 : Int64)))])) _
    refine XS.ifNo X1.here hx rfl (hb hby d3_7) rfl ((if0 _ _).trans (flt (mt (lw_lt lo (0 : Int64)).1 h1)).1) ?_
    show Steps p.tables e below (T1.setTop (mkF m 10 #[.val (.ref ob), .val (.long lo), .second, .val (.long hi), .second] [])) _
    refine XS.lloadN X1.here hx rfl (hb hby d3_10) rfl ?_
    show Steps p.tables e below (T1.setTop (mkF m 11 #[.val (.ref ob), .val (.long lo), .second, .val (.long hi), .second] [(.long hi)])) _
    refine X1.ldc2Long hx hown (mvT hZ (hw _ (List.mem_of_getElem? (i := 22) rfl))) (g := (mkF m 11 #[.val (.ref ob), .val (.long lo), .second, .val (.long hi), .second] [(.long hi)])) rfl (hb hby d3_11) _ ?_
    show Steps p.tables e below (T1.setTop (mkF m 14 #[.val (.ref ob), .val (.long lo), .second, .val (.long hi), .second] [(.long (4294967296 : Int64)), (.long hi)])) _
    refine XS.lcmp X1.here hx rfl (hb hby d3_14) rfl ?_
    show Steps p.tables e below (T1.setTop (mkF m 15 #[.val (.ref ob), .val (.long lo), .second, .val (.long hi), .second] [(.int (lcmpW hi (4294967296 : Int64)))])) _
    refine XS.ifNo X1.here hx rfl (hb hby d3_15) rfl ((if0 _ _).trans (tlt ((lw_lt hi (4294967296 : Int64)).2 h2)).2.1) ?_
    show Steps p.tables e below (T1.setTop (mkF m 18 #[.val (.ref ob), .val (.long lo), .second, .val (.long hi), .second] [])) _
    refine XS.lloadN X1.here hx rfl (hb hby d3_18) rfl ?_
    show Steps p.tables e below (T1.setTop (mkF m 19 #[.val (.ref ob), .val (.long lo), .second, .val (.long hi), .second] [(.long hi)])) _
    refine XS.lloadN X1.here hx rfl (hb hby d3_19) rfl ?_
    show Steps p.tables e below (T1.setTop (mkF m 20 #[.val (.ref ob), .val (.long lo), .second, .val (.long hi), .second] [(.long lo), (.long hi)])) _
    refine XS.lcmp X1.here hx rfl (hb hby d3_20) rfl ?_
    show Steps p.tables e below (T1.setTop (mkF m 21 #[.val (.ref ob), .val (.long lo), .second, .val (.long hi), .second] [(.int (lcmpW hi lo))])) _
    refine XS.ifYes X1.here hx rfl (pc0 := 21) (pc' := 39) rfl (hb hby d3_21) rfl ((if0 _ _).trans (flt (mt (lw_lt hi lo).1 h3)).2.1) (by decide) (by decide) ?_
    show Steps p.tables e below (T1.setTop (mkF m 39 #[.val (.ref ob), .val (.long lo), .second, .val (.long hi), .second] [])) _
    refine XS.aloadN X1.here hx rfl (hb hby d3_39) rfl rfl ?_
    show Steps p.tables e below (T1.setTop (mkF m 40 #[.val (.ref ob), .val (.long lo), .second, .val (.long hi), .second] [(.ref ob)])) _
    refine XS.lloadN X1.here hx rfl (hb hby d3_40) rfl ?_
    show Steps p.tables e below (T1.setTop (mkF m 41 #[.val (.ref ob), .val (.long lo), .second, .val (.long hi), .second] [(.long lo), (.ref ob)])) _
    refine st2 _ ?_
    show Steps p.tables e below (T2.setTop (mkF m 44 #[.val (.ref ob), .val (.long lo), .second, .val (.long hi), .second] [])) _
    refine XS.aloadN X2.here hx rfl (hb hby d3_44) rfl rfl ?_
    show Steps p.tables e below (T2.setTop (mkF m 45 #[.val (.ref ob), .val (.long lo), .second, .val (.long hi), .second] [(.ref ob)])) _
    refine XS.lloadN X2.here hx rfl (hb hby d3_45) rfl ?_
    show Steps p.tables e below (T2.setTop (mkF m 46 #[.val (.ref ob), .val (.long lo), .second, .val (.long hi), .second] [(.long hi), (.ref ob)])) _
    refine st8 _ ?_
    show Steps p.tables e below (T8.setTop (mkF m 49 #[.val (.ref ob), .val (.long lo), .second, .val (.long hi), .second] [])) _
    exact X8.returnOut hx Bd.returns (hb hby d3_49) hr
  · show Q3 Z ob lo hi h0 n0 _ T8.heap _
    rw [e8]
    exact ⟨rfl, N8, K13, F10, F11, F9⟩
theorem d6_0 : decode prog_3_method_5_code 0 = .ok (.aload_n 0, 1) := by decide +kernel
theorem d6_1 : decode prog_3_method_5_code 1 = .ok (.getfield 22, 3) := by decide +kernel
theorem d6_4 : decode prog_3_method_5_code 4 = .ok (.lload_n 1, 1) := by decide +kernel
theorem d6_5 : decode prog_3_method_5_code 5 = .ok (.lcmp, 1) := by decide +kernel
theorem d6_6 : decode prog_3_method_5_code 6 = .ok (.ifCond .gt 16, 3) := by decide +kernel
theorem d6_9 : decode prog_3_method_5_code 9 = .ok (.lload_n 1, 1) := by decide +kernel
theorem d6_10 : decode prog_3_method_5_code 10 = .ok (.aload_n 0, 1) := by decide +kernel
theorem d6_11 : decode prog_3_method_5_code 11 = .ok (.getfield 26, 3) := by decide +kernel
theorem d6_14 : decode prog_3_method_5_code 14 = .ok (.lcmp, 1) := by decide +kernel
theorem d6_15 : decode prog_3_method_5_code 15 = .ok (.ifCond .gt 7, 3) := by decide +kernel
theorem d6_18 : decode prog_3_method_5_code 18 = .ok (.iconst 1, 1) := by decide +kernel
theorem d6_19 : decode prog_3_method_5_code 19 = .ok (.goto 4, 3) := by decide +kernel
theorem d6_22 : decode prog_3_method_5_code 22 = .ok (.iconst 0, 1) := by decide +kernel
theorem d6_23 : decode prog_3_method_5_code 23 = .ok (.ireturn, 1) := by decide +kernel
theorem pn_6 : plainName "com/example/shardwright/shardwright/coordination/HashRange" = true := by first | (simp [plainName, overriddenIn]; done) | decide +kernel
theorem ef_6 (m : MethodId) (x0 : Addr) (x1 : Int64) : entryFrame m #[(.ref x0), (.long x1)] 3 = mkF m 0 #[.val (.ref x0), .val (.long x1), .second] [] := by first | (simp [entryFrame, mkF, argsToLocals, Value.category]; done) | rfl
theorem own_leaf_6_23_t (z : Int64) (w1 : Int64) (w2 : Int64) (hc6_3 : z < w1) : (0 : Int32) = (own_holds w1 w2 z) := by unfold own_holds; rw [if_pos hc6_3]
theorem own_leaf_6_23_f (z : Int64) (w1 : Int64) (w2 : Int64) (hc6_3 : ¬ (z < w1)) (m23 : Int32) (hm23 : m23 = (if w2 < z then (0 : Int32) else (1 : Int32))) : (nar .boolean m23) = (own_holds w1 w2 z) := by rw [hm23]; unfold own_holds; rw [if_neg hc6_3]; split <;> rfl
def Q6 (Z : State) (ob : Addr) (z : Int64) (w1 : Int64) (w2 : Int64) (h0 : Heap) (n0 : Nat) (v : Option Value) (h : Heap) (L : List Loc) : Prop := v = some (.int (own_holds w1 w2 z)) ∧ Fr n0 L ∧ h = h0
set_option maxRecDepth 65536 in
set_option maxHeartbeats 40000000 in
theorem rm6 (l : Launch) (Z : State) (a0 : Array Value) (hw : ∀ d ∈ tables_1, d.before a0 Z = true) (ws : List Jvm.Cond) (ob : Addr) (z : Int64) (w1 : Int64) (w2 : Int64) (h0 : Heap) (n0 : Nat) (Z0 : n0 ≤ h0.size) (I0 : Fld Z h0 ob "com/example/shardwright/shardwright/coordination/HashRange" "low" "J" (.long w1)) (I1 : Fld Z h0 ob "com/example/shardwright/shardwright/coordination/HashRange" "high" "J" (.long w2)) :
    MetFree l (⟨"com/example/shardwright/shardwright/coordination/HashRange", "holds", "(J)Z"⟩ : MethodName) (head1 (Jvm.Cond.code (⟨"com/example/shardwright/shardwright/coordination/HashRange", "holds", "(J)Z"⟩ : MethodName) prog_3_method_5_code 3 (some .boolean) :: ws) ({ frames := 0, cells := 0, slots := 0, locals := 0 } : Room)) (fun a U => a = #[(.ref ob), (.long z)] ∧ Z.Warmed39 U.vm ∧ U.heap = h0) (fun _ _ _ _ _ => True) (fun _ U o U' => ∃ v L, o = .returned v ∧ Q6 Z ob z w1 w2 h0 n0 v U'.heap L ∧ FrameEnd U o U' L ({ frames := 0, cells := 0, slots := 0, locals := 0 } : Room).cells ({ frames := 0, cells := 0, slots := 0, locals := 0 } : Room).slots) := by
  refine MetFree.of_bodySF (plainFor_of_name pn_6) hisR ?_
  intro p e s m args below meth c s₁ Bd hml0 hP hK
  obtain ⟨rfl, hZ, hh⟩ := hP
  have hx := Bd.exec
  have hby := Bd.bytes
  have hml : c.maxLocals = 3 := hml0
  have hown : s.vm.findClass "com/example/shardwright/shardwright/coordination/HashRange" = some m.cls := findClass_of_methodNamed Bd.named
  have hnm := (name_of_methodNamed Bd.named Bd.method).1
  have X0 : Stand p l e ({ frames := 0, cells := 0, slots := 0, locals := 0 } : Room) s m #[(.ref ob), (.long z)] below meth c s₁ [] 0 0 := Stand.of_body Bd
  have e0 : s₁.heap = h0 := by rw [← hh, Bd.state]; rfl
  have N0 := Fr.nil n0
  have K0 : Keep h0 h0 [] := Keep.refl h0 _
  have pre0 : ∀ tq, Steps p.tables e below (s₁.setTop (mkF m 0 #[.val (.ref ob), .val (.long z), .second] [])) tq → Steps p.tables e below (s₁.setTop (entryFrame m #[(.ref ob), (.long z)] 3)) tq := fun tq kq => castTop (ef_6 m ob z) kq
  obtain ⟨T1, X1, e1, st1⟩ := getF X0 hx hZ hown (host := "") (Or.inl (hw _ (List.mem_of_getElem? (i := 23) rfl))) Via.refl e0 I0 (g := (mkF m 1 #[.val (.ref ob), .val (.long z), .second] [(.ref ob)])) rfl rfl (hb hby d6_1)
  have pre2 : ∀ tq, Steps p.tables e below (T1.setTop (mkF m 6 #[.val (.ref ob), .val (.long z), .second] [(.int (lcmpW w1 z))])) tq → Steps p.tables e below (s₁.setTop (entryFrame m #[(.ref ob), (.long z)] 3)) tq := by
    intro tq kt
    refine pre0 _ ?_
    show Steps p.tables e below (s₁.setTop (mkF m 0 #[.val (.ref ob), .val (.long z), .second] [])) _
    refine XS.aloadN X0.here hx rfl (hb hby d6_0) rfl rfl ?_
    show Steps p.tables e below (s₁.setTop (mkF m 1 #[.val (.ref ob), .val (.long z), .second] [(.ref ob)])) _
    refine st1 _ ?_
    show Steps p.tables e below (T1.setTop (mkF m 4 #[.val (.ref ob), .val (.long z), .second] [(.long w1)])) _
    refine XS.lloadN X1.here hx rfl (hb hby d6_4) rfl ?_
    show Steps p.tables e below (T1.setTop (mkF m 5 #[.val (.ref ob), .val (.long z), .second] [(.long z), (.long w1)])) _
    refine XS.lcmp X1.here hx rfl (hb hby d6_5) rfl ?_
    show Steps p.tables e below (T1.setTop (mkF m 6 #[.val (.ref ob), .val (.long z), .second] [(.int (lcmpW w1 z))])) _
    exact kt
  by_cases hc6_3 : z < w1
  · skip
    obtain ⟨fs, hr, hrun, hended, hW, hsame⟩ := X1.leave (v := some (Value.int (0 : Int32))) (fun h => by rw [Bd.returns] at h; cases h)
    have hres4 : (0 : Int32) = (own_holds w1 w2 z) := (own_leaf_6_23_t z w1 w2 hc6_3)
    refine ⟨_, _, pre2 _ ?_, hrun, hended, _, _, rfl, ?_, ⟨_, rfl⟩, hW, hsame.mono (by decide) (by decide)⟩
    · skip
      show Steps p.tables e below (T1.setTop (mkF m 6 #[.val (.ref ob), .val (.long z), .second] [(.int (lcmpW w1 z))])) _
      refine XS.ifYes X1.here hx rfl (pc0 := 6) (pc' := 22) rfl (hb hby d6_6) rfl ((if0 _ _).trans (tlt ((lw_gt w1 z).2 hc6_3)).2.2.1) (by decide) (by decide) ?_
      show Steps p.tables e below (T1.setTop (mkF m 22 #[.val (.ref ob), .val (.long z), .second] [])) _
      refine XS.iconst X1.here hx rfl (hb hby d6_22) ?_
      show Steps p.tables e below (T1.setTop (mkF m 23 #[.val (.ref ob), .val (.long z), .second] [(.int (0 : Int32))])) _
      exact retN X1 hx (t := .boolean) Bd.returns (by simp) (hb hby d6_23) hr
    · show Q6 Z ob z w1 w2 h0 n0 _ T1.heap _
      rw [e1]
      exact ⟨congrArg (fun z => some (Value.int z)) hres4, N0, rfl⟩
  · skip
    obtain ⟨T5, X5, e5, st5⟩ := getF X1 hx hZ hown (host := "") (Or.inl (hw _ (List.mem_of_getElem? (i := 25) rfl))) Via.refl e1 I1 (g := (mkF m 11 #[.val (.ref ob), .val (.long z), .second] [(.ref ob), (.long z)])) rfl rfl (hb hby d6_11)
    obtain ⟨m23, hm23⟩ : ∃ z_q : Int32, z_q = (if w2 < z then (0 : Int32) else (1 : Int32)) := ⟨_, rfl⟩
    have pre7 : ∀ tq, Steps p.tables e below (T5.setTop (mkF m 23 #[.val (.ref ob), .val (.long z), .second] [(.int m23)])) tq → Steps p.tables e below (s₁.setTop (entryFrame m #[(.ref ob), (.long z)] 3)) tq := by
      intro tq kt
      refine pre2 _ ?_
      show Steps p.tables e below (T1.setTop (mkF m 6 #[.val (.ref ob), .val (.long z), .second] [(.int (lcmpW w1 z))])) _
      refine XS.ifNo X1.here hx rfl (hb hby d6_6) rfl ((if0 _ _).trans (flt (mt (lw_gt w1 z).1 hc6_3)).2.2.1) ?_
      show Steps p.tables e below (T1.setTop (mkF m 9 #[.val (.ref ob), .val (.long z), .second] [])) _
      refine XS.lloadN X1.here hx rfl (hb hby d6_9) rfl ?_
      show Steps p.tables e below (T1.setTop (mkF m 10 #[.val (.ref ob), .val (.long z), .second] [(.long z)])) _
      refine XS.aloadN X1.here hx rfl (hb hby d6_10) rfl rfl ?_
      show Steps p.tables e below (T1.setTop (mkF m 11 #[.val (.ref ob), .val (.long z), .second] [(.ref ob), (.long z)])) _
      refine st5 _ ?_
      show Steps p.tables e below (T5.setTop (mkF m 14 #[.val (.ref ob), .val (.long z), .second] [(.long w2), (.long z)])) _
      refine XS.lcmp X5.here hx rfl (hb hby d6_14) rfl ?_
      by_cases d6 : w2 < z
      · skip
        show Steps p.tables e below (T5.setTop (mkF m 15 #[.val (.ref ob), .val (.long z), .second] [(.int (lcmpW z w2))])) _
        refine XS.ifYes X5.here hx rfl (pc0 := 15) (pc' := 22) rfl (hb hby d6_15) rfl ((if0 _ _).trans (tlt ((lw_gt z w2).2 d6)).2.2.1) (by decide) (by decide) ?_
        show Steps p.tables e below (T5.setTop (mkF m 22 #[.val (.ref ob), .val (.long z), .second] [])) _
        refine XS.iconst X5.here hx rfl (hb hby d6_22) ?_
        show Steps p.tables e below (T5.setTop (mkF m 23 #[.val (.ref ob), .val (.long z), .second] [(.int (0 : Int32))])) _
        exact castTop (by simp only [hm23, if_pos d6]) kt
      · skip
        show Steps p.tables e below (T5.setTop (mkF m 15 #[.val (.ref ob), .val (.long z), .second] [(.int (lcmpW z w2))])) _
        refine XS.ifNo X5.here hx rfl (hb hby d6_15) rfl ((if0 _ _).trans (flt (mt (lw_gt z w2).1 d6)).2.2.1) ?_
        show Steps p.tables e below (T5.setTop (mkF m 18 #[.val (.ref ob), .val (.long z), .second] [])) _
        refine XS.iconst X5.here hx rfl (hb hby d6_18) ?_
        show Steps p.tables e below (T5.setTop (mkF m 19 #[.val (.ref ob), .val (.long z), .second] [(.int (1 : Int32))])) _
        refine XS.goto X5.here hx rfl (pc0 := 19) (pc' := 23) rfl (hb hby d6_19) (by decide) (by decide) ?_
        show Steps p.tables e below (T5.setTop (mkF m 23 #[.val (.ref ob), .val (.long z), .second] [(.int (1 : Int32))])) _
        exact castTop (by simp only [hm23, if_neg d6]) kt
    obtain ⟨fs, hr, hrun, hended, hW, hsame⟩ := X5.leave (v := some (Value.int (nar .boolean m23))) (fun h => by rw [Bd.returns] at h; cases h)
    have hres8 : (nar .boolean m23) = (own_holds w1 w2 z) := (own_leaf_6_23_f z w1 w2 hc6_3 m23 hm23)
    refine ⟨_, _, pre7 _ ?_, hrun, hended, _, _, rfl, ?_, ⟨_, rfl⟩, hW, hsame.mono (by decide) (by decide)⟩
    · skip
      show Steps p.tables e below (T5.setTop (mkF m 23 #[.val (.ref ob), .val (.long z), .second] [(.int m23)])) _
      exact retN X5 hx (t := .boolean) Bd.returns (by simp) (hb hby d6_23) hr
    · show Q6 Z ob z w1 w2 h0 n0 _ T5.heap _
      rw [e5]
      exact ⟨congrArg (fun z => some (Value.int z)) hres8, N0, rfl⟩
theorem pn_0 : plainName "com/example/shardwright/shardwright/coordination/HashRangeHoldsPinLaw" = true := by first | (simp [plainName, overriddenIn]; done) | decide +kernel
theorem pd_1 : parseMethodDescriptor "(JJ)J" = some ⟨[.long, .long], some .long⟩ := by decide +kernel
theorem pd_2 : parseMethodDescriptor "(JJ)V" = some ⟨[.long, .long], none⟩ := by decide +kernel
theorem pd_3 : parseMethodDescriptor "(J)Z" = some ⟨[.long], some .boolean⟩ := by decide +kernel
theorem ef_0 (m : MethodId) (x0 : Int64) (x1 : Int64) (x2 : Int64) (x3 : Int32) : entryFrame m #[(.long x0), (.long x1), (.long x2), (.int x3)] maxLocals = mkF m 0 #[.val (.long x0), .second, .val (.long x1), .second, .val (.long x2), .second, .val (.int x3), .unset, .unset, .unset, .unset, .unset, .unset, .unset, .unset, .unset, .unset, .unset, .unset, .unset, .unset, .unset] [] := by first | (simp [entryFrame, mkF, argsToLocals, Value.category, maxLocals]; done) | rfl
theorem own_pre_0_40_h1 (k1 : Int64) (k2 : Int64) (k3 : Int64) (k4 : Int32) (v5 : Int64) (hv5 : v5 = (k1 &&& (4294967295 : Int64))) (v12 : Int64) (hv12 : v12 = (k2 &&& (4294967295 : Int64))) (r18 : Int64) (hr18 : r18 = (own_min v5 v12)) (r27 : Int64) (hr27 : r27 = (own_max v5 v12)) : ¬ (r18 < (0 : Int64)) := by
  obtain ⟨b1, b2, b3⟩ := own_bounds k1 k2 v5 hv5 v12 hv12 r18 hr18 r27 hr27
  rw [Int64.lt_iff_toInt_lt]
  have t0 : (0 : Int64).toInt = 0 := rfl
  omega
theorem own_pre_0_40_h2 (k1 : Int64) (k2 : Int64) (k3 : Int64) (k4 : Int32) (v5 : Int64) (hv5 : v5 = (k1 &&& (4294967295 : Int64))) (v12 : Int64) (hv12 : v12 = (k2 &&& (4294967295 : Int64))) (r18 : Int64) (hr18 : r18 = (own_min v5 v12)) (r27 : Int64) (hr27 : r27 = (own_max v5 v12)) (hp8_h1 : ¬ (r18 < (0 : Int64))) : r27 < (4294967296 : Int64) := by
  obtain ⟨b1, b2, b3⟩ := own_bounds k1 k2 v5 hv5 v12 hv12 r18 hr18 r27 hr27
  rw [Int64.lt_iff_toInt_lt]
  have t0 : (4294967296 : Int64).toInt = 4294967296 := rfl
  omega
theorem own_pre_0_40_h3 (k1 : Int64) (k2 : Int64) (k3 : Int64) (k4 : Int32) (v5 : Int64) (hv5 : v5 = (k1 &&& (4294967295 : Int64))) (v12 : Int64) (hv12 : v12 = (k2 &&& (4294967295 : Int64))) (r18 : Int64) (hr18 : r18 = (own_min v5 v12)) (r27 : Int64) (hr27 : r27 = (own_max v5 v12)) (hp8_h1 : ¬ (r18 < (0 : Int64))) (hp8_h2 : r27 < (4294967296 : Int64)) : ¬ (r27 < r18) := by
  obtain ⟨b1, b2, b3⟩ := own_bounds k1 k2 v5 hv5 v12 hv12 r18 hr18 r27 hr27
  rw [Int64.lt_iff_toInt_lt]
  omega
theorem own_leaf_0_166 (k1 : Int64) (k2 : Int64) (k3 : Int64) (k4 : Int32) (v5 : Int64) (hv5 : v5 = (k1 &&& (4294967295 : Int64))) (v12 : Int64) (hv12 : v12 = (k2 &&& (4294967295 : Int64))) (r18 : Int64) (hr18 : r18 = (own_min v5 v12)) (r27 : Int64) (hr27 : r27 = (own_max v5 v12)) (hp8_h1 : ¬ (r18 < (0 : Int64))) (hp8_h2 : r27 < (4294967296 : Int64)) (hp8_h3 : ¬ (r27 < r18)) (v49 : Int32) (hv49 : v49 = (k4 &&& (3 : Int32))) (m117_l17 : Int64) (hm117_l17 : m117_l17 = (if v49 = (0 : Int32) then k3 else (if v49 = (1 : Int32) then (r18 + ((k3 &&& (3 : Int64)) - (1 : Int64))) else (if v49 = (2 : Int32) then (r27 + ((k3 &&& (3 : Int64)) - (2 : Int64))) else (k3 &&& (4294967295 : Int64)))))) (v122 : Int64) (hv122 : v122 = (m117_l17 - r18)) (m147 : Int32) (hm147 : m147 = (if v122 < (0 : Int64) then (0 : Int32) else (if (r27 - r18) < v122 then (0 : Int32) else (1 : Int32)))) (r153 : Int32) (hr153 : r153 = (own_holds r18 r27 m117_l17)) (m166 : Int32) (hm166 : m166 = (if r153 = m147 then (1 : Int32) else (0 : Int32))) : (nar .boolean m166) = (1 : Int32) := by
  obtain ⟨b1, b2, b3⟩ := own_bounds k1 k2 v5 hv5 v12 hv12 r18 hr18 r27 hr27
  rw [hm166, hr153, own_law _ _ _ b1 b2 b3, ← hv122, ← hm147, if_pos rfl]; rfl
def Q0 (Z : State) (k1 : Int64) (k2 : Int64) (k3 : Int64) (k4 : Int32) (h0 : Heap) (n0 : Nat) (v : Option Value) (h : Heap) (L : List Loc) : Prop := v = some (.int (1 : Int32)) ∧ Fr n0 L
set_option maxRecDepth 65536 in
set_option maxHeartbeats 40000000 in
theorem rm0 (l : Launch) (Z : State) (a0 : Array Value) (hw : ∀ d ∈ tables_1, d.before a0 Z = true) (ws : List Jvm.Cond) (k1 : Int64) (k2 : Int64) (k3 : Int64) (k4 : Int32) (h0 : Heap) (n0 : Nat) (Z0 : n0 ≤ h0.size)  :
    MetFree l x (head1 (Jvm.Cond.code x code maxLocals ret :: ws) room_1) (fun a U => a = #[(.long k1), (.long k2), (.long k3), (.int k4)] ∧ Z.Warmed39 U.vm ∧ U.heap = h0) (fun _ _ _ _ _ => True) (fun _ U o U' => ∃ v L, o = .returned v ∧ Q0 Z k1 k2 k3 k4 h0 n0 v U'.heap L ∧ FrameEnd U o U' L room_1.cells room_1.slots) := by
  refine MetFree.of_bodySF (plainFor_of_name pn_0) hisR ?_
  intro p e s m args below meth c s₁ Bd hml0 hP hK
  obtain ⟨rfl, hZ, hh⟩ := hP
  have hx := Bd.exec
  have hby := Bd.bytes
  have hml : c.maxLocals = 22 := hml0
  have hown : s.vm.findClass "com/example/shardwright/shardwright/coordination/HashRangeHoldsPinLaw" = some m.cls := findClass_of_methodNamed Bd.named
  have hnm := (name_of_methodNamed Bd.named Bd.method).1
  have X0 : Stand p l e room_1 s m #[(.long k1), (.long k2), (.long k3), (.int k4)] below meth c s₁ [] 0 0 := Stand.of_body Bd
  have e0 : s₁.heap = h0 := by rw [← hh, Bd.state]; rfl
  have N0 := Fr.nil n0
  have K0 : Keep h0 h0 [] := Keep.refl h0 _
  have pre0 : ∀ tq, Steps p.tables e below (s₁.setTop (mkF m 0 #[.val (.long k1), .second, .val (.long k2), .second, .val (.long k3), .second, .val (.int k4), .unset, .unset, .unset, .unset, .unset, .unset, .unset, .unset, .unset, .unset, .unset, .unset, .unset, .unset, .unset] [])) tq → Steps p.tables e below (s₁.setTop (entryFrame m #[(.long k1), (.long k2), (.long k3), (.int k4)] maxLocals)) tq := fun tq kq => castTop (ef_0 m k1 k2 k3 k4) kq
  obtain ⟨v5, hv5⟩ : ∃ z_q : Int64, z_q = (k1 &&& (4294967295 : Int64)) := ⟨_, rfl⟩
  obtain ⟨v12, hv12⟩ : ∃ z_q : Int64, z_q = (k2 &&& (4294967295 : Int64)) := ⟨_, rfl⟩
  obtain ⟨_, _, ⟨T1, L1, k1, n1⟩, -, X1, ⟨Lc1, hQ1, l1, y1, z1⟩, st1⟩ := Jvm.LawKit.callS X0 hx (y := (⟨"java/lang/Math", "min", "(JJ)J"⟩ : MethodName)) hown (mvT hZ (hw _ (List.mem_of_getElem? (i := 1) rfl))) (mvT hZ (hw _ (List.mem_of_getElem? (i := 2) rfl))) (mvT hZ (hw _ (List.mem_of_getElem? (i := 3) rfl))) (mvT hZ (hw _ (List.mem_of_getElem? (i := 4) rfl))) (by decide) (backOf (W := 0) (rm1 l Z a0 hw [] v5 v12 h0 n0 Z0 ) hZ (hw _ (List.mem_of_getElem? (i := 4) rfl)) (hw _ (List.mem_of_getElem? (i := 3) rfl)) (by decide) (by decide)) (g := (mkF m 18 #[.val (.long k1), .second, .val (.long k2), .second, .val (.long k3), .second, .val (.int k4), .val (.long v5), .second, .val (.long v12), .second, .unset, .unset, .unset, .unset, .unset, .unset, .unset, .unset, .unset, .unset, .unset] [(.long v12), (.long v5)])) rfl (by rw [hml]; rfl) (argsL := [(.long v5), (.long v12)]) (rest := []) (lenOf pd_1 rfl) rfl (by show 2 * 0 + _ ≤ _; exact Nat.le_of_eq rfl) (hb hby at_18) (fun _ _ => ⟨rfl, e0, (by decide : 0 + 0 ≤ _), (by decide : 0 + 0 ≤ _)⟩)
  dsimp only [Pt.U, Pt.locs, Pt.cells, Pt.slots] at X1 l1 y1 z1 st1 hQ1
  subst l1 y1 z1
  obtain ⟨rfl, N1q, e1⟩ := hQ1
  have N1 := Fr.app N0 N1q
  obtain ⟨r18, hr18⟩ : ∃ z_q : Int64, z_q = (own_min v5 v12) := ⟨_, rfl⟩
  obtain ⟨_, _, ⟨T2, L2, k2, n2⟩, -, X2, ⟨Lc2, hQ2, l2, y2, z2⟩, st2⟩ := Jvm.LawKit.callS X1 hx (y := (⟨"java/lang/Math", "max", "(JJ)J"⟩ : MethodName)) hown (mvT hZ (hw _ (List.mem_of_getElem? (i := 5) rfl))) (mvT hZ (hw _ (List.mem_of_getElem? (i := 6) rfl))) (mvT hZ (hw _ (List.mem_of_getElem? (i := 3) rfl))) (mvT hZ (hw _ (List.mem_of_getElem? (i := 7) rfl))) (by decide) (backOf (W := 0) (rm2 l Z a0 hw [] v5 v12 h0 n0 Z0 ) hZ (hw _ (List.mem_of_getElem? (i := 7) rfl)) (hw _ (List.mem_of_getElem? (i := 3) rfl)) (by decide) (by decide)) (g := (mkF m 27 #[.val (.long k1), .second, .val (.long k2), .second, .val (.long k3), .second, .val (.int k4), .val (.long v5), .second, .val (.long v12), .second, .val (.long r18), .second, .unset, .unset, .unset, .unset, .unset, .unset, .unset, .unset, .unset] [(.long v12), (.long v5)])) rfl (by rw [hml]; rfl) (argsL := [(.long v5), (.long v12)]) (rest := []) (lenOf pd_1 rfl) rfl (by show 2 * 0 + _ ≤ _; exact Nat.le_of_eq rfl) (hb hby at_27) (fun _ _ => ⟨rfl, e1, (by decide : 0 + 0 ≤ _), (by decide : 0 + 0 ≤ _)⟩)
  dsimp only [Pt.U, Pt.locs, Pt.cells, Pt.slots] at X2 l2 y2 z2 st2 hQ2
  subst l2 y2 z2
  obtain ⟨rfl, N2q, e2⟩ := hQ2
  have N2 := Fr.app N1 N2q
  obtain ⟨r27, hr27⟩ : ∃ z_q : Int64, z_q = (own_max v5 v12) := ⟨_, rfl⟩
  obtain ⟨T3, hX3, X3, e3, E3, A3, D3, -, st3⟩ := newO X2 hx hZ hown (hw _ (List.mem_of_getElem? (i := 8) rfl)) (hw _ (List.mem_of_getElem? (i := 9) rfl)) (hw _ (List.mem_of_getElem? (i := 10) rfl)) e2 (g := (mkF m 32 #[.val (.long k1), .second, .val (.long k2), .second, .val (.long k3), .second, .val (.int k4), .val (.long v5), .second, .val (.long v12), .second, .val (.long r18), .second, .val (.long r27), .second, .unset, .unset, .unset, .unset, .unset, .unset, .unset] [])) rfl (hb hby at_32) (by decide) (by decide)
  obtain ⟨b3, g3⟩ : ∃ z_q, z_q = h0.size := ⟨_, rfl⟩
  rw [← g3] at A3 D3 st3
  have g_b3 : n0 ≤ b3 := Nat.le_trans Z0 (Nat.le_of_eq g3.symm)
  have sz_b3 : h0.size ≤ b3 := Nat.le_trans K0.1 (Nat.le_of_eq g3.symm)
  have Z4 : n0 ≤ hX3.size := Nat.le_trans Z0 E3.1
  have K5 : Keep h0 hX3 [] := K0.ext E3
  have F6 : Fld Z hX3 b3 "com/example/shardwright/shardwright/coordination/HashRange" "low" "J" (.long (0 : Int64)) := D3 (Or.inr (hw _ (List.mem_of_getElem? (i := 24) rfl))) (ty := .long) (by decide)
  have F7 : Fld Z hX3 b3 "com/example/shardwright/shardwright/coordination/HashRange" "high" "J" (.long (0 : Int64)) := D3 (Or.inr (hw _ (List.mem_of_getElem? (i := 26) rfl))) (ty := .long) (by decide)
  have hp8_h1 : ¬ (r18 < (0 : Int64)) := (own_pre_0_40_h1 k1 k2 k3 k4 v5 hv5 v12 hv12 r18 hr18 r27 hr27)
  have hp8_h2 : r27 < (4294967296 : Int64) := (own_pre_0_40_h2 k1 k2 k3 k4 v5 hv5 v12 hv12 r18 hr18 r27 hr27 hp8_h1)
  have hp8_h3 : ¬ (r27 < r18) := (own_pre_0_40_h3 k1 k2 k3 k4 v5 hv5 v12 hv12 r18 hr18 r27 hr27 hp8_h1 hp8_h2)
  obtain ⟨_, _, ⟨T8, L8, k8, n8⟩, -, X8, ⟨Lc8, hQ8, l8, y8, z8⟩, st8⟩ := X3.specialBack hx (y := (⟨"com/example/shardwright/shardwright/coordination/HashRange", "<init>", "(JJ)V"⟩ : MethodName)) rfl hown (mvT hZ (hw _ (List.mem_of_getElem? (i := 11) rfl))) (mvT hZ (hw _ (List.mem_of_getElem? (i := 12) rfl))) (mvT hZ (hw _ (List.mem_of_getElem? (i := 13) rfl))) (by decide) (backOf (W := 1) (rm3 l Z a0 hw [] b3 r18 r27 hX3 n0 Z4 F6 F7 A3 g_b3 hp8_h1 hp8_h2 hp8_h3) hZ (hw _ (List.mem_of_getElem? (i := 13) rfl)) (hw _ (List.mem_of_getElem? (i := 10) rfl)) (by decide) (by decide)) (g := (mkF m 40 #[.val (.long k1), .second, .val (.long k2), .second, .val (.long k3), .second, .val (.int k4), .val (.long v5), .second, .val (.long v12), .second, .val (.long r18), .second, .val (.long r27), .second, .unset, .unset, .unset, .unset, .unset, .unset, .unset] [(.long r27), (.long r18), (.ref b3), (.ref b3)])) rfl (by rw [hml]; rfl) (Steps.refl _) (a := b3) (argsL := [(.long r18), (.long r27)]) (rest := [(.ref b3)]) (lenOf pd_2 rfl) rfl (by show 2 * 0 + _ ≤ _; exact Nat.le_of_eq rfl) (hb hby at_40) (fun _ _ => ⟨rfl, e3, (by decide : 1 + 0 ≤ _), (by decide : 2 + 0 ≤ _)⟩)
  dsimp only [Pt.U, Pt.locs, Pt.cells, Pt.slots] at X8 l8 y8 z8 st8 hQ8
  subst l8 y8 z8
  obtain ⟨rfl, N8q, K8q, F9, F10, F11⟩ := hQ8
  have N8 := Fr.app N2 N8q
  have F12 : Exa Z T8.heap b3 "com/example/shardwright/shardwright/coordination/HashRange" := A3.keep K8q
  have Z13 : n0 ≤ T8.heap.size := Nat.le_trans Z4 K8q.1
  have K14 : Keep h0 T8.heap [] := K5.trans K8q (allS (Or.inr sz_b3) all0)
  obtain ⟨v49, hv49⟩ : ∃ z_q : Int32, z_q = (k4 &&& (3 : Int32)) := ⟨_, rfl⟩
  obtain ⟨m117_l17, hm117_l17⟩ : ∃ z_q : Int64, z_q = (if v49 = (0 : Int32) then k3 else (if v49 = (1 : Int32) then (r18 + ((k3 &&& (3 : Int64)) - (1 : Int64))) else (if v49 = (2 : Int32) then (r27 + ((k3 &&& (3 : Int64)) - (2 : Int64))) else (k3 &&& (4294967295 : Int64))))) := ⟨_, rfl⟩
  have pre18 : ∀ tq, Steps p.tables e below (T8.setTop (mkF m 117 #[.val (.long k1), .second, .val (.long k2), .second, .val (.long k3), .second, .val (.int k4), .val (.long v5), .second, .val (.long v12), .second, .val (.long r18), .second, .val (.long r27), .second, .val (.ref b3), .val (.int v49), .val (.long m117_l17), .second, .unset, .unset, .unset] [])) tq → Steps p.tables e below (s₁.setTop (entryFrame m #[(.long k1), (.long k2), (.long k3), (.int k4)] maxLocals)) tq := by
    intro tq kt
    refine pre0 _ ?_
    show Steps p.tables e below (s₁.setTop (mkF m 0 #[.val (.long k1), .second, .val (.long k2), .second, .val (.long k3), .second, .val (.int k4), .unset, .unset, .unset, .unset, .unset, .unset, .unset, .unset, .unset, .unset, .unset, .unset, .unset, .unset, .unset] [])) _
    refine XS.lloadN X0.here hx rfl (hb hby at_0) rfl ?_
    show Steps p.tables e below (s₁.setTop (mkF m 1 #[.val (.long k1), .second, .val (.long k2), .second, .val (.long k3), .second, .val (.int k4), .unset, .unset, .unset, .unset, .unset, .unset, .unset, .unset, .unset, .unset, .unset, .unset, .unset, .unset, .unset] [(.long k1)])) _
    refine X0.ldc2Long hx hown (mvT hZ (hw _ (List.mem_of_getElem? (i := 0) rfl))) (g := (mkF m 1 #[.val (.long k1), .second, .val (.long k2), .second, .val (.long k3), .second, .val (.int k4), .unset, .unset, .unset, .unset, .unset, .unset, .unset, .unset, .unset, .unset, .unset, .unset, .unset, .unset, .unset] [(.long k1)])) rfl (hb hby at_1) _ ?_
    show Steps p.tables e below (s₁.setTop (mkF m 4 #[.val (.long k1), .second, .val (.long k2), .second, .val (.long k3), .second, .val (.int k4), .unset, .unset, .unset, .unset, .unset, .unset, .unset, .unset, .unset, .unset, .unset, .unset, .unset, .unset, .unset] [(.long (4294967295 : Int64)), (.long k1)])) _
    refine XS.land X0.here hx rfl (hb hby at_4) rfl ?_
    show Steps p.tables e below (s₁.setTop (mkF m 5 #[.val (.long k1), .second, .val (.long k2), .second, .val (.long k3), .second, .val (.int k4), .unset, .unset, .unset, .unset, .unset, .unset, .unset, .unset, .unset, .unset, .unset, .unset, .unset, .unset, .unset] [(.long (k1 &&& (4294967295 : Int64)))])) _
    refine XS.lstore X0.here hx rfl (hb hby at_5) rfl (l' := #[.val (.long k1), .second, .val (.long k2), .second, .val (.long k3), .second, .val (.int k4), .val (.long v5), .second, .unset, .unset, .unset, .unset, .unset, .unset, .unset, .unset, .unset, .unset, .unset, .unset, .unset]) (by rw [hv5]; rfl) ?_
    show Steps p.tables e below (s₁.setTop (mkF m 7 #[.val (.long k1), .second, .val (.long k2), .second, .val (.long k3), .second, .val (.int k4), .val (.long v5), .second, .unset, .unset, .unset, .unset, .unset, .unset, .unset, .unset, .unset, .unset, .unset, .unset, .unset] [])) _
    refine XS.lloadN X0.here hx rfl (hb hby at_7) rfl ?_
    show Steps p.tables e below (s₁.setTop (mkF m 8 #[.val (.long k1), .second, .val (.long k2), .second, .val (.long k3), .second, .val (.int k4), .val (.long v5), .second, .unset, .unset, .unset, .unset, .unset, .unset, .unset, .unset, .unset, .unset, .unset, .unset, .unset] [(.long k2)])) _
    refine X0.ldc2Long hx hown (mvT hZ (hw _ (List.mem_of_getElem? (i := 0) rfl))) (g := (mkF m 8 #[.val (.long k1), .second, .val (.long k2), .second, .val (.long k3), .second, .val (.int k4), .val (.long v5), .second, .unset, .unset, .unset, .unset, .unset, .unset, .unset, .unset, .unset, .unset, .unset, .unset, .unset] [(.long k2)])) rfl (hb hby at_8) _ ?_
    show Steps p.tables e below (s₁.setTop (mkF m 11 #[.val (.long k1), .second, .val (.long k2), .second, .val (.long k3), .second, .val (.int k4), .val (.long v5), .second, .unset, .unset, .unset, .unset, .unset, .unset, .unset, .unset, .unset, .unset, .unset, .unset, .unset] [(.long (4294967295 : Int64)), (.long k2)])) _
    refine XS.land X0.here hx rfl (hb hby at_11) rfl ?_
    show Steps p.tables e below (s₁.setTop (mkF m 12 #[.val (.long k1), .second, .val (.long k2), .second, .val (.long k3), .second, .val (.int k4), .val (.long v5), .second, .unset, .unset, .unset, .unset, .unset, .unset, .unset, .unset, .unset, .unset, .unset, .unset, .unset] [(.long (k2 &&& (4294967295 : Int64)))])) _
    refine XS.lstore X0.here hx rfl (hb hby at_12) rfl (l' := #[.val (.long k1), .second, .val (.long k2), .second, .val (.long k3), .second, .val (.int k4), .val (.long v5), .second, .val (.long v12), .second, .unset, .unset, .unset, .unset, .unset, .unset, .unset, .unset, .unset, .unset, .unset]) (by rw [hv12]; rfl) ?_
    show Steps p.tables e below (s₁.setTop (mkF m 14 #[.val (.long k1), .second, .val (.long k2), .second, .val (.long k3), .second, .val (.int k4), .val (.long v5), .second, .val (.long v12), .second, .unset, .unset, .unset, .unset, .unset, .unset, .unset, .unset, .unset, .unset, .unset] [])) _
    refine XS.lload X0.here hx rfl (hb hby at_14) rfl ?_
    show Steps p.tables e below (s₁.setTop (mkF m 16 #[.val (.long k1), .second, .val (.long k2), .second, .val (.long k3), .second, .val (.int k4), .val (.long v5), .second, .val (.long v12), .second, .unset, .unset, .unset, .unset, .unset, .unset, .unset, .unset, .unset, .unset, .unset] [(.long v5)])) _
    refine XS.lload X0.here hx rfl (hb hby at_16) rfl ?_
    show Steps p.tables e below (s₁.setTop (mkF m 18 #[.val (.long k1), .second, .val (.long k2), .second, .val (.long k3), .second, .val (.int k4), .val (.long v5), .second, .val (.long v12), .second, .unset, .unset, .unset, .unset, .unset, .unset, .unset, .unset, .unset, .unset, .unset] [(.long v12), (.long v5)])) _
    refine st1 _ ?_
    show Steps p.tables e below (T1.setTop (mkF m 21 #[.val (.long k1), .second, .val (.long k2), .second, .val (.long k3), .second, .val (.int k4), .val (.long v5), .second, .val (.long v12), .second, .unset, .unset, .unset, .unset, .unset, .unset, .unset, .unset, .unset, .unset, .unset] [(.long (own_min v5 v12))])) _
    rw [← hr18]
    show Steps p.tables e below (T1.setTop (mkF m 21 #[.val (.long k1), .second, .val (.long k2), .second, .val (.long k3), .second, .val (.int k4), .val (.long v5), .second, .val (.long v12), .second, .unset, .unset, .unset, .unset, .unset, .unset, .unset, .unset, .unset, .unset, .unset] [(.long r18)])) _
    refine XS.lstore X1.here hx rfl (hb hby at_21) rfl (l' := #[.val (.long k1), .second, .val (.long k2), .second, .val (.long k3), .second, .val (.int k4), .val (.long v5), .second, .val (.long v12), .second, .val (.long r18), .second, .unset, .unset, .unset, .unset, .unset, .unset, .unset, .unset, .unset]) rfl ?_
    show Steps p.tables e below (T1.setTop (mkF m 23 #[.val (.long k1), .second, .val (.long k2), .second, .val (.long k3), .second, .val (.int k4), .val (.long v5), .second, .val (.long v12), .second, .val (.long r18), .second, .unset, .unset, .unset, .unset, .unset, .unset, .unset, .unset, .unset] [])) _
    refine XS.lload X1.here hx rfl (hb hby at_23) rfl ?_
    show Steps p.tables e below (T1.setTop (mkF m 25 #[.val (.long k1), .second, .val (.long k2), .second, .val (.long k3), .second, .val (.int k4), .val (.long v5), .second, .val (.long v12), .second, .val (.long r18), .second, .unset, .unset, .unset, .unset, .unset, .unset, .unset, .unset, .unset] [(.long v5)])) _
    refine XS.lload X1.here hx rfl (hb hby at_25) rfl ?_
    show Steps p.tables e below (T1.setTop (mkF m 27 #[.val (.long k1), .second, .val (.long k2), .second, .val (.long k3), .second, .val (.int k4), .val (.long v5), .second, .val (.long v12), .second, .val (.long r18), .second, .unset, .unset, .unset, .unset, .unset, .unset, .unset, .unset, .unset] [(.long v12), (.long v5)])) _
    refine st2 _ ?_
    show Steps p.tables e below (T2.setTop (mkF m 30 #[.val (.long k1), .second, .val (.long k2), .second, .val (.long k3), .second, .val (.int k4), .val (.long v5), .second, .val (.long v12), .second, .val (.long r18), .second, .unset, .unset, .unset, .unset, .unset, .unset, .unset, .unset, .unset] [(.long (own_max v5 v12))])) _
    rw [← hr27]
    show Steps p.tables e below (T2.setTop (mkF m 30 #[.val (.long k1), .second, .val (.long k2), .second, .val (.long k3), .second, .val (.int k4), .val (.long v5), .second, .val (.long v12), .second, .val (.long r18), .second, .unset, .unset, .unset, .unset, .unset, .unset, .unset, .unset, .unset] [(.long r27)])) _
    refine XS.lstore X2.here hx rfl (hb hby at_30) rfl (l' := #[.val (.long k1), .second, .val (.long k2), .second, .val (.long k3), .second, .val (.int k4), .val (.long v5), .second, .val (.long v12), .second, .val (.long r18), .second, .val (.long r27), .second, .unset, .unset, .unset, .unset, .unset, .unset, .unset]) rfl ?_
    show Steps p.tables e below (T2.setTop (mkF m 32 #[.val (.long k1), .second, .val (.long k2), .second, .val (.long k3), .second, .val (.int k4), .val (.long v5), .second, .val (.long v12), .second, .val (.long r18), .second, .val (.long r27), .second, .unset, .unset, .unset, .unset, .unset, .unset, .unset] [])) _
    refine st3 _ ?_
    show Steps p.tables e below (T3.setTop (mkF m 35 #[.val (.long k1), .second, .val (.long k2), .second, .val (.long k3), .second, .val (.int k4), .val (.long v5), .second, .val (.long v12), .second, .val (.long r18), .second, .val (.long r27), .second, .unset, .unset, .unset, .unset, .unset, .unset, .unset] [(.ref b3)])) _
    refine XS.dup X3.here hx rfl (hb hby at_35) rfl rfl ?_
    show Steps p.tables e below (T3.setTop (mkF m 36 #[.val (.long k1), .second, .val (.long k2), .second, .val (.long k3), .second, .val (.int k4), .val (.long v5), .second, .val (.long v12), .second, .val (.long r18), .second, .val (.long r27), .second, .unset, .unset, .unset, .unset, .unset, .unset, .unset] [(.ref b3), (.ref b3)])) _
    refine XS.lload X3.here hx rfl (hb hby at_36) rfl ?_
    show Steps p.tables e below (T3.setTop (mkF m 38 #[.val (.long k1), .second, .val (.long k2), .second, .val (.long k3), .second, .val (.int k4), .val (.long v5), .second, .val (.long v12), .second, .val (.long r18), .second, .val (.long r27), .second, .unset, .unset, .unset, .unset, .unset, .unset, .unset] [(.long r18), (.ref b3), (.ref b3)])) _
    refine XS.lload X3.here hx rfl (hb hby at_38) rfl ?_
    show Steps p.tables e below (T3.setTop (mkF m 40 #[.val (.long k1), .second, .val (.long k2), .second, .val (.long k3), .second, .val (.int k4), .val (.long v5), .second, .val (.long v12), .second, .val (.long r18), .second, .val (.long r27), .second, .unset, .unset, .unset, .unset, .unset, .unset, .unset] [(.long r27), (.long r18), (.ref b3), (.ref b3)])) _
    refine st8.trans ?_
    show Steps p.tables e below (T8.setTop (mkF m 43 #[.val (.long k1), .second, .val (.long k2), .second, .val (.long k3), .second, .val (.int k4), .val (.long v5), .second, .val (.long v12), .second, .val (.long r18), .second, .val (.long r27), .second, .unset, .unset, .unset, .unset, .unset, .unset, .unset] [(.ref b3)])) _
    refine XS.astore X8.here hx rfl (hb hby at_43) rfl rfl (l' := #[.val (.long k1), .second, .val (.long k2), .second, .val (.long k3), .second, .val (.int k4), .val (.long v5), .second, .val (.long v12), .second, .val (.long r18), .second, .val (.long r27), .second, .val (.ref b3), .unset, .unset, .unset, .unset, .unset, .unset]) rfl ?_
    show Steps p.tables e below (T8.setTop (mkF m 45 #[.val (.long k1), .second, .val (.long k2), .second, .val (.long k3), .second, .val (.int k4), .val (.long v5), .second, .val (.long v12), .second, .val (.long r18), .second, .val (.long r27), .second, .val (.ref b3), .unset, .unset, .unset, .unset, .unset, .unset] [])) _
    refine XS.iload X8.here hx rfl (hb hby at_45) rfl ?_
    show Steps p.tables e below (T8.setTop (mkF m 47 #[.val (.long k1), .second, .val (.long k2), .second, .val (.long k3), .second, .val (.int k4), .val (.long v5), .second, .val (.long v12), .second, .val (.long r18), .second, .val (.long r27), .second, .val (.ref b3), .unset, .unset, .unset, .unset, .unset, .unset] [(.int k4)])) _
    refine XS.iconst X8.here hx rfl (hb hby at_47) ?_
    show Steps p.tables e below (T8.setTop (mkF m 48 #[.val (.long k1), .second, .val (.long k2), .second, .val (.long k3), .second, .val (.int k4), .val (.long v5), .second, .val (.long v12), .second, .val (.long r18), .second, .val (.long r27), .second, .val (.ref b3), .unset, .unset, .unset, .unset, .unset, .unset] [(.int (3 : Int32)), (.int k4)])) _
    refine XS.iand X8.here hx rfl (hb hby at_48) rfl ?_
    show Steps p.tables e below (T8.setTop (mkF m 49 #[.val (.long k1), .second, .val (.long k2), .second, .val (.long k3), .second, .val (.int k4), .val (.long v5), .second, .val (.long v12), .second, .val (.long r18), .second, .val (.long r27), .second, .val (.ref b3), .unset, .unset, .unset, .unset, .unset, .unset] [(.int (k4 &&& (3 : Int32)))])) _
    refine XS.istore X8.here hx rfl (hb hby at_49) rfl (l' := #[.val (.long k1), .second, .val (.long k2), .second, .val (.long k3), .second, .val (.int k4), .val (.long v5), .second, .val (.long v12), .second, .val (.long r18), .second, .val (.long r27), .second, .val (.ref b3), .val (.int v49), .unset, .unset, .unset, .unset, .unset]) (by rw [hv49]; rfl) ?_
    show Steps p.tables e below (T8.setTop (mkF m 51 #[.val (.long k1), .second, .val (.long k2), .second, .val (.long k3), .second, .val (.int k4), .val (.long v5), .second, .val (.long v12), .second, .val (.long r18), .second, .val (.long r27), .second, .val (.ref b3), .val (.int v49), .unset, .unset, .unset, .unset, .unset] [])) _
    refine XS.iload X8.here hx rfl (hb hby at_51) rfl ?_
    by_cases d15 : v49 = (0 : Int32)
    · skip
      show Steps p.tables e below (T8.setTop (mkF m 53 #[.val (.long k1), .second, .val (.long k2), .second, .val (.long k3), .second, .val (.int k4), .val (.long v5), .second, .val (.long v12), .second, .val (.long r18), .second, .val (.long r27), .second, .val (.ref b3), .val (.int v49), .unset, .unset, .unset, .unset, .unset] [(.int v49)])) _
      refine XS.ifNo X8.here hx rfl (hb hby at_53) rfl ((if0 _ _).trans (teq d15).2) ?_
      show Steps p.tables e below (T8.setTop (mkF m 56 #[.val (.long k1), .second, .val (.long k2), .second, .val (.long k3), .second, .val (.int k4), .val (.long v5), .second, .val (.long v12), .second, .val (.long r18), .second, .val (.long r27), .second, .val (.ref b3), .val (.int v49), .unset, .unset, .unset, .unset, .unset] [])) _
      refine XS.lload X8.here hx rfl (hb hby at_56) rfl ?_
      show Steps p.tables e below (T8.setTop (mkF m 58 #[.val (.long k1), .second, .val (.long k2), .second, .val (.long k3), .second, .val (.int k4), .val (.long v5), .second, .val (.long v12), .second, .val (.long r18), .second, .val (.long r27), .second, .val (.ref b3), .val (.int v49), .unset, .unset, .unset, .unset, .unset] [(.long k3)])) _
      refine XS.lstore X8.here hx rfl (hb hby at_58) rfl (l' := #[.val (.long k1), .second, .val (.long k2), .second, .val (.long k3), .second, .val (.int k4), .val (.long v5), .second, .val (.long v12), .second, .val (.long r18), .second, .val (.long r27), .second, .val (.ref b3), .val (.int v49), .val (.long k3), .second, .unset, .unset, .unset]) rfl ?_
      show Steps p.tables e below (T8.setTop (mkF m 60 #[.val (.long k1), .second, .val (.long k2), .second, .val (.long k3), .second, .val (.int k4), .val (.long v5), .second, .val (.long v12), .second, .val (.long r18), .second, .val (.long r27), .second, .val (.ref b3), .val (.int v49), .val (.long k3), .second, .unset, .unset, .unset] [])) _
      refine XS.goto X8.here hx rfl (pc0 := 60) (pc' := 117) rfl (hb hby at_60) (by decide) (by decide) ?_
      show Steps p.tables e below (T8.setTop (mkF m 117 #[.val (.long k1), .second, .val (.long k2), .second, .val (.long k3), .second, .val (.int k4), .val (.long v5), .second, .val (.long v12), .second, .val (.long r18), .second, .val (.long r27), .second, .val (.ref b3), .val (.int v49), .val (.long k3), .second, .unset, .unset, .unset] [])) _
      exact castTop (by simp only [hm117_l17, if_pos d15]) kt
    · skip
      show Steps p.tables e below (T8.setTop (mkF m 53 #[.val (.long k1), .second, .val (.long k2), .second, .val (.long k3), .second, .val (.int k4), .val (.long v5), .second, .val (.long v12), .second, .val (.long r18), .second, .val (.long r27), .second, .val (.ref b3), .val (.int v49), .unset, .unset, .unset, .unset, .unset] [(.int v49)])) _
      refine XS.ifYes X8.here hx rfl (pc0 := 53) (pc' := 63) rfl (hb hby at_53) rfl ((if0 _ _).trans (feq d15).2) (by decide) (by decide) ?_
      show Steps p.tables e below (T8.setTop (mkF m 63 #[.val (.long k1), .second, .val (.long k2), .second, .val (.long k3), .second, .val (.int k4), .val (.long v5), .second, .val (.long v12), .second, .val (.long r18), .second, .val (.long r27), .second, .val (.ref b3), .val (.int v49), .unset, .unset, .unset, .unset, .unset] [])) _
      refine XS.iload X8.here hx rfl (hb hby at_63) rfl ?_
      show Steps p.tables e below (T8.setTop (mkF m 65 #[.val (.long k1), .second, .val (.long k2), .second, .val (.long k3), .second, .val (.int k4), .val (.long v5), .second, .val (.long v12), .second, .val (.long r18), .second, .val (.long r27), .second, .val (.ref b3), .val (.int v49), .unset, .unset, .unset, .unset, .unset] [(.int v49)])) _
      refine XS.iconst X8.here hx rfl (hb hby at_65) ?_
      by_cases d16 : v49 = (1 : Int32)
      · skip
        show Steps p.tables e below (T8.setTop (mkF m 66 #[.val (.long k1), .second, .val (.long k2), .second, .val (.long k3), .second, .val (.int k4), .val (.long v5), .second, .val (.long v12), .second, .val (.long r18), .second, .val (.long r27), .second, .val (.ref b3), .val (.int v49), .unset, .unset, .unset, .unset, .unset] [(.int (1 : Int32)), (.int v49)])) _
        refine XS.icmpNo X8.here hx rfl (hb hby at_66) rfl (teq d16).2 ?_
        show Steps p.tables e below (T8.setTop (mkF m 69 #[.val (.long k1), .second, .val (.long k2), .second, .val (.long k3), .second, .val (.int k4), .val (.long v5), .second, .val (.long v12), .second, .val (.long r18), .second, .val (.long r27), .second, .val (.ref b3), .val (.int v49), .unset, .unset, .unset, .unset, .unset] [])) _
        refine XS.lload X8.here hx rfl (hb hby at_69) rfl ?_
        show Steps p.tables e below (T8.setTop (mkF m 71 #[.val (.long k1), .second, .val (.long k2), .second, .val (.long k3), .second, .val (.int k4), .val (.long v5), .second, .val (.long v12), .second, .val (.long r18), .second, .val (.long r27), .second, .val (.ref b3), .val (.int v49), .unset, .unset, .unset, .unset, .unset] [(.long r18)])) _
        refine XS.lload X8.here hx rfl (hb hby at_71) rfl ?_
        show Steps p.tables e below (T8.setTop (mkF m 73 #[.val (.long k1), .second, .val (.long k2), .second, .val (.long k3), .second, .val (.int k4), .val (.long v5), .second, .val (.long v12), .second, .val (.long r18), .second, .val (.long r27), .second, .val (.ref b3), .val (.int v49), .unset, .unset, .unset, .unset, .unset] [(.long k3), (.long r18)])) _
        refine X8.ldc2Long hx hown (mvT hZ (hw _ (List.mem_of_getElem? (i := 27) rfl))) (g := (mkF m 73 #[.val (.long k1), .second, .val (.long k2), .second, .val (.long k3), .second, .val (.int k4), .val (.long v5), .second, .val (.long v12), .second, .val (.long r18), .second, .val (.long r27), .second, .val (.ref b3), .val (.int v49), .unset, .unset, .unset, .unset, .unset] [(.long k3), (.long r18)])) rfl (hb hby at_73) _ ?_
        show Steps p.tables e below (T8.setTop (mkF m 76 #[.val (.long k1), .second, .val (.long k2), .second, .val (.long k3), .second, .val (.int k4), .val (.long v5), .second, .val (.long v12), .second, .val (.long r18), .second, .val (.long r27), .second, .val (.ref b3), .val (.int v49), .unset, .unset, .unset, .unset, .unset] [(.long (3 : Int64)), (.long k3), (.long r18)])) _
        refine XS.land X8.here hx rfl (hb hby at_76) rfl ?_
        show Steps p.tables e below (T8.setTop (mkF m 77 #[.val (.long k1), .second, .val (.long k2), .second, .val (.long k3), .second, .val (.int k4), .val (.long v5), .second, .val (.long v12), .second, .val (.long r18), .second, .val (.long r27), .second, .val (.ref b3), .val (.int v49), .unset, .unset, .unset, .unset, .unset] [(.long (k3 &&& (3 : Int64))), (.long r18)])) _
        refine XS.lconst X8.here hx rfl (hb hby at_77) ?_
        show Steps p.tables e below (T8.setTop (mkF m 78 #[.val (.long k1), .second, .val (.long k2), .second, .val (.long k3), .second, .val (.int k4), .val (.long v5), .second, .val (.long v12), .second, .val (.long r18), .second, .val (.long r27), .second, .val (.ref b3), .val (.int v49), .unset, .unset, .unset, .unset, .unset] [(.long (1 : Int64)), (.long (k3 &&& (3 : Int64))), (.long r18)])) _
        refine XS.lsub X8.here hx rfl (hb hby at_78) rfl ?_
        show Steps p.tables e below (T8.setTop (mkF m 79 #[.val (.long k1), .second, .val (.long k2), .second, .val (.long k3), .second, .val (.int k4), .val (.long v5), .second, .val (.long v12), .second, .val (.long r18), .second, .val (.long r27), .second, .val (.ref b3), .val (.int v49), .unset, .unset, .unset, .unset, .unset] [(.long ((k3 &&& (3 : Int64)) - (1 : Int64))), (.long r18)])) _
        refine XS.ladd X8.here hx rfl (hb hby at_79) rfl ?_
        show Steps p.tables e below (T8.setTop (mkF m 80 #[.val (.long k1), .second, .val (.long k2), .second, .val (.long k3), .second, .val (.int k4), .val (.long v5), .second, .val (.long v12), .second, .val (.long r18), .second, .val (.long r27), .second, .val (.ref b3), .val (.int v49), .unset, .unset, .unset, .unset, .unset] [(.long (r18 + ((k3 &&& (3 : Int64)) - (1 : Int64))))])) _
        refine XS.lstore X8.here hx rfl (hb hby at_80) rfl (l' := #[.val (.long k1), .second, .val (.long k2), .second, .val (.long k3), .second, .val (.int k4), .val (.long v5), .second, .val (.long v12), .second, .val (.long r18), .second, .val (.long r27), .second, .val (.ref b3), .val (.int v49), .val (.long (r18 + ((k3 &&& (3 : Int64)) - (1 : Int64)))), .second, .unset, .unset, .unset]) rfl ?_
        show Steps p.tables e below (T8.setTop (mkF m 82 #[.val (.long k1), .second, .val (.long k2), .second, .val (.long k3), .second, .val (.int k4), .val (.long v5), .second, .val (.long v12), .second, .val (.long r18), .second, .val (.long r27), .second, .val (.ref b3), .val (.int v49), .val (.long (r18 + ((k3 &&& (3 : Int64)) - (1 : Int64)))), .second, .unset, .unset, .unset] [])) _
        refine XS.goto X8.here hx rfl (pc0 := 82) (pc' := 117) rfl (hb hby at_82) (by decide) (by decide) ?_
        show Steps p.tables e below (T8.setTop (mkF m 117 #[.val (.long k1), .second, .val (.long k2), .second, .val (.long k3), .second, .val (.int k4), .val (.long v5), .second, .val (.long v12), .second, .val (.long r18), .second, .val (.long r27), .second, .val (.ref b3), .val (.int v49), .val (.long (r18 + ((k3 &&& (3 : Int64)) - (1 : Int64)))), .second, .unset, .unset, .unset] [])) _
        exact castTop (by simp only [hm117_l17, if_neg d15, if_pos d16]) kt
      · skip
        show Steps p.tables e below (T8.setTop (mkF m 66 #[.val (.long k1), .second, .val (.long k2), .second, .val (.long k3), .second, .val (.int k4), .val (.long v5), .second, .val (.long v12), .second, .val (.long r18), .second, .val (.long r27), .second, .val (.ref b3), .val (.int v49), .unset, .unset, .unset, .unset, .unset] [(.int (1 : Int32)), (.int v49)])) _
        refine XS.icmpYes X8.here hx rfl (pc0 := 66) (pc' := 85) rfl (hb hby at_66) rfl (feq d16).2 (by decide) (by decide) ?_
        show Steps p.tables e below (T8.setTop (mkF m 85 #[.val (.long k1), .second, .val (.long k2), .second, .val (.long k3), .second, .val (.int k4), .val (.long v5), .second, .val (.long v12), .second, .val (.long r18), .second, .val (.long r27), .second, .val (.ref b3), .val (.int v49), .unset, .unset, .unset, .unset, .unset] [])) _
        refine XS.iload X8.here hx rfl (hb hby at_85) rfl ?_
        show Steps p.tables e below (T8.setTop (mkF m 87 #[.val (.long k1), .second, .val (.long k2), .second, .val (.long k3), .second, .val (.int k4), .val (.long v5), .second, .val (.long v12), .second, .val (.long r18), .second, .val (.long r27), .second, .val (.ref b3), .val (.int v49), .unset, .unset, .unset, .unset, .unset] [(.int v49)])) _
        refine XS.iconst X8.here hx rfl (hb hby at_87) ?_
        by_cases d17 : v49 = (2 : Int32)
        · skip
          show Steps p.tables e below (T8.setTop (mkF m 88 #[.val (.long k1), .second, .val (.long k2), .second, .val (.long k3), .second, .val (.int k4), .val (.long v5), .second, .val (.long v12), .second, .val (.long r18), .second, .val (.long r27), .second, .val (.ref b3), .val (.int v49), .unset, .unset, .unset, .unset, .unset] [(.int (2 : Int32)), (.int v49)])) _
          refine XS.icmpNo X8.here hx rfl (hb hby at_88) rfl (teq d17).2 ?_
          show Steps p.tables e below (T8.setTop (mkF m 91 #[.val (.long k1), .second, .val (.long k2), .second, .val (.long k3), .second, .val (.int k4), .val (.long v5), .second, .val (.long v12), .second, .val (.long r18), .second, .val (.long r27), .second, .val (.ref b3), .val (.int v49), .unset, .unset, .unset, .unset, .unset] [])) _
          refine XS.lload X8.here hx rfl (hb hby at_91) rfl ?_
          show Steps p.tables e below (T8.setTop (mkF m 93 #[.val (.long k1), .second, .val (.long k2), .second, .val (.long k3), .second, .val (.int k4), .val (.long v5), .second, .val (.long v12), .second, .val (.long r18), .second, .val (.long r27), .second, .val (.ref b3), .val (.int v49), .unset, .unset, .unset, .unset, .unset] [(.long r27)])) _
          refine XS.lload X8.here hx rfl (hb hby at_93) rfl ?_
          show Steps p.tables e below (T8.setTop (mkF m 95 #[.val (.long k1), .second, .val (.long k2), .second, .val (.long k3), .second, .val (.int k4), .val (.long v5), .second, .val (.long v12), .second, .val (.long r18), .second, .val (.long r27), .second, .val (.ref b3), .val (.int v49), .unset, .unset, .unset, .unset, .unset] [(.long k3), (.long r27)])) _
          refine X8.ldc2Long hx hown (mvT hZ (hw _ (List.mem_of_getElem? (i := 27) rfl))) (g := (mkF m 95 #[.val (.long k1), .second, .val (.long k2), .second, .val (.long k3), .second, .val (.int k4), .val (.long v5), .second, .val (.long v12), .second, .val (.long r18), .second, .val (.long r27), .second, .val (.ref b3), .val (.int v49), .unset, .unset, .unset, .unset, .unset] [(.long k3), (.long r27)])) rfl (hb hby at_95) _ ?_
          show Steps p.tables e below (T8.setTop (mkF m 98 #[.val (.long k1), .second, .val (.long k2), .second, .val (.long k3), .second, .val (.int k4), .val (.long v5), .second, .val (.long v12), .second, .val (.long r18), .second, .val (.long r27), .second, .val (.ref b3), .val (.int v49), .unset, .unset, .unset, .unset, .unset] [(.long (3 : Int64)), (.long k3), (.long r27)])) _
          refine XS.land X8.here hx rfl (hb hby at_98) rfl ?_
          show Steps p.tables e below (T8.setTop (mkF m 99 #[.val (.long k1), .second, .val (.long k2), .second, .val (.long k3), .second, .val (.int k4), .val (.long v5), .second, .val (.long v12), .second, .val (.long r18), .second, .val (.long r27), .second, .val (.ref b3), .val (.int v49), .unset, .unset, .unset, .unset, .unset] [(.long (k3 &&& (3 : Int64))), (.long r27)])) _
          refine X8.ldc2Long hx hown (mvT hZ (hw _ (List.mem_of_getElem? (i := 28) rfl))) (g := (mkF m 99 #[.val (.long k1), .second, .val (.long k2), .second, .val (.long k3), .second, .val (.int k4), .val (.long v5), .second, .val (.long v12), .second, .val (.long r18), .second, .val (.long r27), .second, .val (.ref b3), .val (.int v49), .unset, .unset, .unset, .unset, .unset] [(.long (k3 &&& (3 : Int64))), (.long r27)])) rfl (hb hby at_99) _ ?_
          show Steps p.tables e below (T8.setTop (mkF m 102 #[.val (.long k1), .second, .val (.long k2), .second, .val (.long k3), .second, .val (.int k4), .val (.long v5), .second, .val (.long v12), .second, .val (.long r18), .second, .val (.long r27), .second, .val (.ref b3), .val (.int v49), .unset, .unset, .unset, .unset, .unset] [(.long (2 : Int64)), (.long (k3 &&& (3 : Int64))), (.long r27)])) _
          refine XS.lsub X8.here hx rfl (hb hby at_102) rfl ?_
          show Steps p.tables e below (T8.setTop (mkF m 103 #[.val (.long k1), .second, .val (.long k2), .second, .val (.long k3), .second, .val (.int k4), .val (.long v5), .second, .val (.long v12), .second, .val (.long r18), .second, .val (.long r27), .second, .val (.ref b3), .val (.int v49), .unset, .unset, .unset, .unset, .unset] [(.long ((k3 &&& (3 : Int64)) - (2 : Int64))), (.long r27)])) _
          refine XS.ladd X8.here hx rfl (hb hby at_103) rfl ?_
          show Steps p.tables e below (T8.setTop (mkF m 104 #[.val (.long k1), .second, .val (.long k2), .second, .val (.long k3), .second, .val (.int k4), .val (.long v5), .second, .val (.long v12), .second, .val (.long r18), .second, .val (.long r27), .second, .val (.ref b3), .val (.int v49), .unset, .unset, .unset, .unset, .unset] [(.long (r27 + ((k3 &&& (3 : Int64)) - (2 : Int64))))])) _
          refine XS.lstore X8.here hx rfl (hb hby at_104) rfl (l' := #[.val (.long k1), .second, .val (.long k2), .second, .val (.long k3), .second, .val (.int k4), .val (.long v5), .second, .val (.long v12), .second, .val (.long r18), .second, .val (.long r27), .second, .val (.ref b3), .val (.int v49), .val (.long (r27 + ((k3 &&& (3 : Int64)) - (2 : Int64)))), .second, .unset, .unset, .unset]) rfl ?_
          show Steps p.tables e below (T8.setTop (mkF m 106 #[.val (.long k1), .second, .val (.long k2), .second, .val (.long k3), .second, .val (.int k4), .val (.long v5), .second, .val (.long v12), .second, .val (.long r18), .second, .val (.long r27), .second, .val (.ref b3), .val (.int v49), .val (.long (r27 + ((k3 &&& (3 : Int64)) - (2 : Int64)))), .second, .unset, .unset, .unset] [])) _
          refine XS.goto X8.here hx rfl (pc0 := 106) (pc' := 117) rfl (hb hby at_106) (by decide) (by decide) ?_
          show Steps p.tables e below (T8.setTop (mkF m 117 #[.val (.long k1), .second, .val (.long k2), .second, .val (.long k3), .second, .val (.int k4), .val (.long v5), .second, .val (.long v12), .second, .val (.long r18), .second, .val (.long r27), .second, .val (.ref b3), .val (.int v49), .val (.long (r27 + ((k3 &&& (3 : Int64)) - (2 : Int64)))), .second, .unset, .unset, .unset] [])) _
          exact castTop (by simp only [hm117_l17, if_neg d15, if_neg d16, if_pos d17]) kt
        · skip
          show Steps p.tables e below (T8.setTop (mkF m 88 #[.val (.long k1), .second, .val (.long k2), .second, .val (.long k3), .second, .val (.int k4), .val (.long v5), .second, .val (.long v12), .second, .val (.long r18), .second, .val (.long r27), .second, .val (.ref b3), .val (.int v49), .unset, .unset, .unset, .unset, .unset] [(.int (2 : Int32)), (.int v49)])) _
          refine XS.icmpYes X8.here hx rfl (pc0 := 88) (pc' := 109) rfl (hb hby at_88) rfl (feq d17).2 (by decide) (by decide) ?_
          show Steps p.tables e below (T8.setTop (mkF m 109 #[.val (.long k1), .second, .val (.long k2), .second, .val (.long k3), .second, .val (.int k4), .val (.long v5), .second, .val (.long v12), .second, .val (.long r18), .second, .val (.long r27), .second, .val (.ref b3), .val (.int v49), .unset, .unset, .unset, .unset, .unset] [])) _
          refine XS.lload X8.here hx rfl (hb hby at_109) rfl ?_
          show Steps p.tables e below (T8.setTop (mkF m 111 #[.val (.long k1), .second, .val (.long k2), .second, .val (.long k3), .second, .val (.int k4), .val (.long v5), .second, .val (.long v12), .second, .val (.long r18), .second, .val (.long r27), .second, .val (.ref b3), .val (.int v49), .unset, .unset, .unset, .unset, .unset] [(.long k3)])) _
          refine X8.ldc2Long hx hown (mvT hZ (hw _ (List.mem_of_getElem? (i := 0) rfl))) (g := (mkF m 111 #[.val (.long k1), .second, .val (.long k2), .second, .val (.long k3), .second, .val (.int k4), .val (.long v5), .second, .val (.long v12), .second, .val (.long r18), .second, .val (.long r27), .second, .val (.ref b3), .val (.int v49), .unset, .unset, .unset, .unset, .unset] [(.long k3)])) rfl (hb hby at_111) _ ?_
          show Steps p.tables e below (T8.setTop (mkF m 114 #[.val (.long k1), .second, .val (.long k2), .second, .val (.long k3), .second, .val (.int k4), .val (.long v5), .second, .val (.long v12), .second, .val (.long r18), .second, .val (.long r27), .second, .val (.ref b3), .val (.int v49), .unset, .unset, .unset, .unset, .unset] [(.long (4294967295 : Int64)), (.long k3)])) _
          refine XS.land X8.here hx rfl (hb hby at_114) rfl ?_
          show Steps p.tables e below (T8.setTop (mkF m 115 #[.val (.long k1), .second, .val (.long k2), .second, .val (.long k3), .second, .val (.int k4), .val (.long v5), .second, .val (.long v12), .second, .val (.long r18), .second, .val (.long r27), .second, .val (.ref b3), .val (.int v49), .unset, .unset, .unset, .unset, .unset] [(.long (k3 &&& (4294967295 : Int64)))])) _
          refine XS.lstore X8.here hx rfl (hb hby at_115) rfl (l' := #[.val (.long k1), .second, .val (.long k2), .second, .val (.long k3), .second, .val (.int k4), .val (.long v5), .second, .val (.long v12), .second, .val (.long r18), .second, .val (.long r27), .second, .val (.ref b3), .val (.int v49), .val (.long (k3 &&& (4294967295 : Int64))), .second, .unset, .unset, .unset]) rfl ?_
          show Steps p.tables e below (T8.setTop (mkF m 117 #[.val (.long k1), .second, .val (.long k2), .second, .val (.long k3), .second, .val (.int k4), .val (.long v5), .second, .val (.long v12), .second, .val (.long r18), .second, .val (.long r27), .second, .val (.ref b3), .val (.int v49), .val (.long (k3 &&& (4294967295 : Int64))), .second, .unset, .unset, .unset] [])) _
          exact castTop (by simp only [hm117_l17, if_neg d15, if_neg d16, if_neg d17]) kt
  obtain ⟨v122, hv122⟩ : ∃ z_q : Int64, z_q = (m117_l17 - r18) := ⟨_, rfl⟩
  obtain ⟨m147, hm147⟩ : ∃ z_q : Int32, z_q = (if v122 < (0 : Int64) then (0 : Int32) else (if (r27 - r18) < v122 then (0 : Int32) else (1 : Int32))) := ⟨_, rfl⟩
  have pre21 : ∀ tq, Steps p.tables e below (T8.setTop (mkF m 147 #[.val (.long k1), .second, .val (.long k2), .second, .val (.long k3), .second, .val (.int k4), .val (.long v5), .second, .val (.long v12), .second, .val (.long r18), .second, .val (.long r27), .second, .val (.ref b3), .val (.int v49), .val (.long m117_l17), .second, .val (.long v122), .second, .unset] [(.int m147)])) tq → Steps p.tables e below (s₁.setTop (entryFrame m #[(.long k1), (.long k2), (.long k3), (.int k4)] maxLocals)) tq := by
    intro tq kt
    refine pre18 _ ?_
    show Steps p.tables e below (T8.setTop (mkF m 117 #[.val (.long k1), .second, .val (.long k2), .second, .val (.long k3), .second, .val (.int k4), .val (.long v5), .second, .val (.long v12), .second, .val (.long r18), .second, .val (.long r27), .second, .val (.ref b3), .val (.int v49), .val (.long m117_l17), .second, .unset, .unset, .unset] [])) _
    refine XS.lload X8.here hx rfl (hb hby at_117) rfl ?_
    show Steps p.tables e below (T8.setTop (mkF m 119 #[.val (.long k1), .second, .val (.long k2), .second, .val (.long k3), .second, .val (.int k4), .val (.long v5), .second, .val (.long v12), .second, .val (.long r18), .second, .val (.long r27), .second, .val (.ref b3), .val (.int v49), .val (.long m117_l17), .second, .unset, .unset, .unset] [(.long m117_l17)])) _
    refine XS.lload X8.here hx rfl (hb hby at_119) rfl ?_
    show Steps p.tables e below (T8.setTop (mkF m 121 #[.val (.long k1), .second, .val (.long k2), .second, .val (.long k3), .second, .val (.int k4), .val (.long v5), .second, .val (.long v12), .second, .val (.long r18), .second, .val (.long r27), .second, .val (.ref b3), .val (.int v49), .val (.long m117_l17), .second, .unset, .unset, .unset] [(.long r18), (.long m117_l17)])) _
    refine XS.lsub X8.here hx rfl (hb hby at_121) rfl ?_
    show Steps p.tables e below (T8.setTop (mkF m 122 #[.val (.long k1), .second, .val (.long k2), .second, .val (.long k3), .second, .val (.int k4), .val (.long v5), .second, .val (.long v12), .second, .val (.long r18), .second, .val (.long r27), .second, .val (.ref b3), .val (.int v49), .val (.long m117_l17), .second, .unset, .unset, .unset] [(.long (m117_l17 - r18))])) _
    refine XS.lstore X8.here hx rfl (hb hby at_122) rfl (l' := #[.val (.long k1), .second, .val (.long k2), .second, .val (.long k3), .second, .val (.int k4), .val (.long v5), .second, .val (.long v12), .second, .val (.long r18), .second, .val (.long r27), .second, .val (.ref b3), .val (.int v49), .val (.long m117_l17), .second, .val (.long v122), .second, .unset]) (by rw [hv122]; rfl) ?_
    show Steps p.tables e below (T8.setTop (mkF m 124 #[.val (.long k1), .second, .val (.long k2), .second, .val (.long k3), .second, .val (.int k4), .val (.long v5), .second, .val (.long v12), .second, .val (.long r18), .second, .val (.long r27), .second, .val (.ref b3), .val (.int v49), .val (.long m117_l17), .second, .val (.long v122), .second, .unset] [])) _
    refine XS.lload X8.here hx rfl (hb hby at_124) rfl ?_
    show Steps p.tables e below (T8.setTop (mkF m 126 #[.val (.long k1), .second, .val (.long k2), .second, .val (.long k3), .second, .val (.int k4), .val (.long v5), .second, .val (.long v12), .second, .val (.long r18), .second, .val (.long r27), .second, .val (.ref b3), .val (.int v49), .val (.long m117_l17), .second, .val (.long v122), .second, .unset] [(.long v122)])) _
    refine XS.lconst X8.here hx rfl (hb hby at_126) ?_
    show Steps p.tables e below (T8.setTop (mkF m 127 #[.val (.long k1), .second, .val (.long k2), .second, .val (.long k3), .second, .val (.int k4), .val (.long v5), .second, .val (.long v12), .second, .val (.long r18), .second, .val (.long r27), .second, .val (.ref b3), .val (.int v49), .val (.long m117_l17), .second, .val (.long v122), .second, .unset] [(.long (0 : Int64)), (.long v122)])) _
    refine XS.lcmp X8.here hx rfl (hb hby at_127) rfl ?_
    by_cases d19 : v122 < (0 : Int64)
    · skip
      show Steps p.tables e below (T8.setTop (mkF m 128 #[.val (.long k1), .second, .val (.long k2), .second, .val (.long k3), .second, .val (.int k4), .val (.long v5), .second, .val (.long v12), .second, .val (.long r18), .second, .val (.long r27), .second, .val (.ref b3), .val (.int v49), .val (.long m117_l17), .second, .val (.long v122), .second, .unset] [(.int (lcmpW v122 (0 : Int64)))])) _
      refine XS.ifYes X8.here hx rfl (pc0 := 128) (pc' := 146) rfl (hb hby at_128) rfl ((if0 _ _).trans (tlt ((lw_lt v122 (0 : Int64)).2 d19)).1) (by decide) (by decide) ?_
      show Steps p.tables e below (T8.setTop (mkF m 146 #[.val (.long k1), .second, .val (.long k2), .second, .val (.long k3), .second, .val (.int k4), .val (.long v5), .second, .val (.long v12), .second, .val (.long r18), .second, .val (.long r27), .second, .val (.ref b3), .val (.int v49), .val (.long m117_l17), .second, .val (.long v122), .second, .unset] [])) _
      refine XS.iconst X8.here hx rfl (hb hby at_146) ?_
      show Steps p.tables e below (T8.setTop (mkF m 147 #[.val (.long k1), .second, .val (.long k2), .second, .val (.long k3), .second, .val (.int k4), .val (.long v5), .second, .val (.long v12), .second, .val (.long r18), .second, .val (.long r27), .second, .val (.ref b3), .val (.int v49), .val (.long m117_l17), .second, .val (.long v122), .second, .unset] [(.int (0 : Int32))])) _
      exact castTop (by simp only [hm147, if_pos d19]) kt
    · skip
      show Steps p.tables e below (T8.setTop (mkF m 128 #[.val (.long k1), .second, .val (.long k2), .second, .val (.long k3), .second, .val (.int k4), .val (.long v5), .second, .val (.long v12), .second, .val (.long r18), .second, .val (.long r27), .second, .val (.ref b3), .val (.int v49), .val (.long m117_l17), .second, .val (.long v122), .second, .unset] [(.int (lcmpW v122 (0 : Int64)))])) _
      refine XS.ifNo X8.here hx rfl (hb hby at_128) rfl ((if0 _ _).trans (flt (mt (lw_lt v122 (0 : Int64)).1 d19)).1) ?_
      show Steps p.tables e below (T8.setTop (mkF m 131 #[.val (.long k1), .second, .val (.long k2), .second, .val (.long k3), .second, .val (.int k4), .val (.long v5), .second, .val (.long v12), .second, .val (.long r18), .second, .val (.long r27), .second, .val (.ref b3), .val (.int v49), .val (.long m117_l17), .second, .val (.long v122), .second, .unset] [])) _
      refine XS.lload X8.here hx rfl (hb hby at_131) rfl ?_
      show Steps p.tables e below (T8.setTop (mkF m 133 #[.val (.long k1), .second, .val (.long k2), .second, .val (.long k3), .second, .val (.int k4), .val (.long v5), .second, .val (.long v12), .second, .val (.long r18), .second, .val (.long r27), .second, .val (.ref b3), .val (.int v49), .val (.long m117_l17), .second, .val (.long v122), .second, .unset] [(.long v122)])) _
      refine XS.lload X8.here hx rfl (hb hby at_133) rfl ?_
      show Steps p.tables e below (T8.setTop (mkF m 135 #[.val (.long k1), .second, .val (.long k2), .second, .val (.long k3), .second, .val (.int k4), .val (.long v5), .second, .val (.long v12), .second, .val (.long r18), .second, .val (.long r27), .second, .val (.ref b3), .val (.int v49), .val (.long m117_l17), .second, .val (.long v122), .second, .unset] [(.long r27), (.long v122)])) _
      refine XS.lload X8.here hx rfl (hb hby at_135) rfl ?_
      show Steps p.tables e below (T8.setTop (mkF m 137 #[.val (.long k1), .second, .val (.long k2), .second, .val (.long k3), .second, .val (.int k4), .val (.long v5), .second, .val (.long v12), .second, .val (.long r18), .second, .val (.long r27), .second, .val (.ref b3), .val (.int v49), .val (.long m117_l17), .second, .val (.long v122), .second, .unset] [(.long r18), (.long r27), (.long v122)])) _
      refine XS.lsub X8.here hx rfl (hb hby at_137) rfl ?_
      show Steps p.tables e below (T8.setTop (mkF m 138 #[.val (.long k1), .second, .val (.long k2), .second, .val (.long k3), .second, .val (.int k4), .val (.long v5), .second, .val (.long v12), .second, .val (.long r18), .second, .val (.long r27), .second, .val (.ref b3), .val (.int v49), .val (.long m117_l17), .second, .val (.long v122), .second, .unset] [(.long (r27 - r18)), (.long v122)])) _
      refine XS.lcmp X8.here hx rfl (hb hby at_138) rfl ?_
      by_cases d20 : (r27 - r18) < v122
      · skip
        show Steps p.tables e below (T8.setTop (mkF m 139 #[.val (.long k1), .second, .val (.long k2), .second, .val (.long k3), .second, .val (.int k4), .val (.long v5), .second, .val (.long v12), .second, .val (.long r18), .second, .val (.long r27), .second, .val (.ref b3), .val (.int v49), .val (.long m117_l17), .second, .val (.long v122), .second, .unset] [(.int (lcmpW v122 (r27 - r18)))])) _
        refine XS.ifYes X8.here hx rfl (pc0 := 139) (pc' := 146) rfl (hb hby at_139) rfl ((if0 _ _).trans (tlt ((lw_gt v122 (r27 - r18)).2 d20)).2.2.1) (by decide) (by decide) ?_
        show Steps p.tables e below (T8.setTop (mkF m 146 #[.val (.long k1), .second, .val (.long k2), .second, .val (.long k3), .second, .val (.int k4), .val (.long v5), .second, .val (.long v12), .second, .val (.long r18), .second, .val (.long r27), .second, .val (.ref b3), .val (.int v49), .val (.long m117_l17), .second, .val (.long v122), .second, .unset] [])) _
        refine XS.iconst X8.here hx rfl (hb hby at_146) ?_
        show Steps p.tables e below (T8.setTop (mkF m 147 #[.val (.long k1), .second, .val (.long k2), .second, .val (.long k3), .second, .val (.int k4), .val (.long v5), .second, .val (.long v12), .second, .val (.long r18), .second, .val (.long r27), .second, .val (.ref b3), .val (.int v49), .val (.long m117_l17), .second, .val (.long v122), .second, .unset] [(.int (0 : Int32))])) _
        exact castTop (by simp only [hm147, if_neg d19, if_pos d20]) kt
      · skip
        show Steps p.tables e below (T8.setTop (mkF m 139 #[.val (.long k1), .second, .val (.long k2), .second, .val (.long k3), .second, .val (.int k4), .val (.long v5), .second, .val (.long v12), .second, .val (.long r18), .second, .val (.long r27), .second, .val (.ref b3), .val (.int v49), .val (.long m117_l17), .second, .val (.long v122), .second, .unset] [(.int (lcmpW v122 (r27 - r18)))])) _
        refine XS.ifNo X8.here hx rfl (hb hby at_139) rfl ((if0 _ _).trans (flt (mt (lw_gt v122 (r27 - r18)).1 d20)).2.2.1) ?_
        show Steps p.tables e below (T8.setTop (mkF m 142 #[.val (.long k1), .second, .val (.long k2), .second, .val (.long k3), .second, .val (.int k4), .val (.long v5), .second, .val (.long v12), .second, .val (.long r18), .second, .val (.long r27), .second, .val (.ref b3), .val (.int v49), .val (.long m117_l17), .second, .val (.long v122), .second, .unset] [])) _
        refine XS.iconst X8.here hx rfl (hb hby at_142) ?_
        show Steps p.tables e below (T8.setTop (mkF m 143 #[.val (.long k1), .second, .val (.long k2), .second, .val (.long k3), .second, .val (.int k4), .val (.long v5), .second, .val (.long v12), .second, .val (.long r18), .second, .val (.long r27), .second, .val (.ref b3), .val (.int v49), .val (.long m117_l17), .second, .val (.long v122), .second, .unset] [(.int (1 : Int32))])) _
        refine XS.goto X8.here hx rfl (pc0 := 143) (pc' := 147) rfl (hb hby at_143) (by decide) (by decide) ?_
        show Steps p.tables e below (T8.setTop (mkF m 147 #[.val (.long k1), .second, .val (.long k2), .second, .val (.long k3), .second, .val (.int k4), .val (.long v5), .second, .val (.long v12), .second, .val (.long r18), .second, .val (.long r27), .second, .val (.ref b3), .val (.int v49), .val (.long m117_l17), .second, .val (.long v122), .second, .unset] [(.int (1 : Int32))])) _
        exact castTop (by simp only [hm147, if_neg d19, if_neg d20]) kt
  obtain ⟨cq22, kq22, q22a, q22b, q22c⟩ := isOf hZ rfl F9
  obtain ⟨_, _, ⟨T22, L22, k22, n22⟩, -, X22, ⟨Lc22, hQ22, l22, y22, z22⟩, st22⟩ := X8.virtualBack hx (y := (⟨"com/example/shardwright/shardwright/coordination/HashRange", "holds", "(J)Z"⟩ : MethodName)) (z := (⟨"com/example/shardwright/shardwright/coordination/HashRange", "holds", "(J)Z"⟩ : MethodName)) hown (mvT hZ (hw _ (List.mem_of_getElem? (i := 29) rfl))) (mvT hZ (hw _ (List.mem_of_getElem? (i := 30) rfl))) (notFace_of_selects (args := #[]) (mvT hZ (hw _ (List.mem_of_getElem? (i := 32) rfl)))) (mvT hZ (hw _ (List.mem_of_getElem? (i := 32) rfl))) (mvT hZ (hw _ (List.mem_of_getElem? (i := 31) rfl))) (by decide) (backOf (W := 0) (rm6 l Z a0 hw [] b3 m117_l17 r18 r27 T8.heap n0 Z13 F10 F11) hZ (hw _ (List.mem_of_getElem? (i := 33) rfl)) (hw _ (List.mem_of_getElem? (i := 10) rfl)) (by decide) (by decide)) q22a q22c (g := (mkF m 153 #[.val (.long k1), .second, .val (.long k2), .second, .val (.long k3), .second, .val (.int k4), .val (.long v5), .second, .val (.long v12), .second, .val (.long r18), .second, .val (.long r27), .second, .val (.ref b3), .val (.int v49), .val (.long m117_l17), .second, .val (.long v122), .second, .val (.int m147)] [(.long m117_l17), (.ref b3)])) rfl (by rw [hml]; rfl) (Steps.refl _) (argsL := [(.long m117_l17)]) (rest := []) (lenOf pd_3 rfl) rfl (by show 2 * 0 + _ ≤ _; exact Nat.le_of_eq rfl) (hb hby at_153) (fun _ _ => ⟨rfl, rfl, (by decide : 1 + 0 ≤ _), (by decide : 2 + 0 ≤ _)⟩)
  dsimp only [Pt.U, Pt.locs, Pt.cells, Pt.slots] at X22 l22 y22 z22 st22 hQ22
  subst l22 y22 z22
  obtain ⟨rfl, N22q, e22⟩ := hQ22
  have N22 := Fr.app N8 N22q
  obtain ⟨r153, hr153⟩ : ∃ z_q : Int32, z_q = (own_holds r18 r27 m117_l17) := ⟨_, rfl⟩
  obtain ⟨m166, hm166⟩ : ∃ z_q : Int32, z_q = (if r153 = m147 then (1 : Int32) else (0 : Int32)) := ⟨_, rfl⟩
  have pre24 : ∀ tq, Steps p.tables e below (T22.setTop (mkF m 166 #[.val (.long k1), .second, .val (.long k2), .second, .val (.long k3), .second, .val (.int k4), .val (.long v5), .second, .val (.long v12), .second, .val (.long r18), .second, .val (.long r27), .second, .val (.ref b3), .val (.int v49), .val (.long m117_l17), .second, .val (.long v122), .second, .val (.int m147)] [(.int m166)])) tq → Steps p.tables e below (s₁.setTop (entryFrame m #[(.long k1), (.long k2), (.long k3), (.int k4)] maxLocals)) tq := by
    intro tq kt
    refine pre21 _ ?_
    show Steps p.tables e below (T8.setTop (mkF m 147 #[.val (.long k1), .second, .val (.long k2), .second, .val (.long k3), .second, .val (.int k4), .val (.long v5), .second, .val (.long v12), .second, .val (.long r18), .second, .val (.long r27), .second, .val (.ref b3), .val (.int v49), .val (.long m117_l17), .second, .val (.long v122), .second, .unset] [(.int m147)])) _
    refine XS.istore X8.here hx rfl (hb hby at_147) rfl (l' := #[.val (.long k1), .second, .val (.long k2), .second, .val (.long k3), .second, .val (.int k4), .val (.long v5), .second, .val (.long v12), .second, .val (.long r18), .second, .val (.long r27), .second, .val (.ref b3), .val (.int v49), .val (.long m117_l17), .second, .val (.long v122), .second, .val (.int m147)]) rfl ?_
    show Steps p.tables e below (T8.setTop (mkF m 149 #[.val (.long k1), .second, .val (.long k2), .second, .val (.long k3), .second, .val (.int k4), .val (.long v5), .second, .val (.long v12), .second, .val (.long r18), .second, .val (.long r27), .second, .val (.ref b3), .val (.int v49), .val (.long m117_l17), .second, .val (.long v122), .second, .val (.int m147)] [])) _
    refine XS.aload X8.here hx rfl (hb hby at_149) rfl rfl ?_
    show Steps p.tables e below (T8.setTop (mkF m 151 #[.val (.long k1), .second, .val (.long k2), .second, .val (.long k3), .second, .val (.int k4), .val (.long v5), .second, .val (.long v12), .second, .val (.long r18), .second, .val (.long r27), .second, .val (.ref b3), .val (.int v49), .val (.long m117_l17), .second, .val (.long v122), .second, .val (.int m147)] [(.ref b3)])) _
    refine XS.lload X8.here hx rfl (hb hby at_151) rfl ?_
    show Steps p.tables e below (T8.setTop (mkF m 153 #[.val (.long k1), .second, .val (.long k2), .second, .val (.long k3), .second, .val (.int k4), .val (.long v5), .second, .val (.long v12), .second, .val (.long r18), .second, .val (.long r27), .second, .val (.ref b3), .val (.int v49), .val (.long m117_l17), .second, .val (.long v122), .second, .val (.int m147)] [(.long m117_l17), (.ref b3)])) _
    refine st22.trans ?_
    show Steps p.tables e below (T22.setTop (mkF m 156 #[.val (.long k1), .second, .val (.long k2), .second, .val (.long k3), .second, .val (.int k4), .val (.long v5), .second, .val (.long v12), .second, .val (.long r18), .second, .val (.long r27), .second, .val (.ref b3), .val (.int v49), .val (.long m117_l17), .second, .val (.long v122), .second, .val (.int m147)] [(.int (own_holds r18 r27 m117_l17))])) _
    rw [← hr153]
    show Steps p.tables e below (T22.setTop (mkF m 156 #[.val (.long k1), .second, .val (.long k2), .second, .val (.long k3), .second, .val (.int k4), .val (.long v5), .second, .val (.long v12), .second, .val (.long r18), .second, .val (.long r27), .second, .val (.ref b3), .val (.int v49), .val (.long m117_l17), .second, .val (.long v122), .second, .val (.int m147)] [(.int r153)])) _
    refine XS.iload X22.here hx rfl (hb hby at_156) rfl ?_
    by_cases d23 : r153 = m147
    · skip
      show Steps p.tables e below (T22.setTop (mkF m 158 #[.val (.long k1), .second, .val (.long k2), .second, .val (.long k3), .second, .val (.int k4), .val (.long v5), .second, .val (.long v12), .second, .val (.long r18), .second, .val (.long r27), .second, .val (.ref b3), .val (.int v49), .val (.long m117_l17), .second, .val (.long v122), .second, .val (.int m147)] [(.int m147), (.int r153)])) _
      refine XS.icmpNo X22.here hx rfl (hb hby at_158) rfl (teq d23).2 ?_
      show Steps p.tables e below (T22.setTop (mkF m 161 #[.val (.long k1), .second, .val (.long k2), .second, .val (.long k3), .second, .val (.int k4), .val (.long v5), .second, .val (.long v12), .second, .val (.long r18), .second, .val (.long r27), .second, .val (.ref b3), .val (.int v49), .val (.long m117_l17), .second, .val (.long v122), .second, .val (.int m147)] [])) _
      refine XS.iconst X22.here hx rfl (hb hby at_161) ?_
      show Steps p.tables e below (T22.setTop (mkF m 162 #[.val (.long k1), .second, .val (.long k2), .second, .val (.long k3), .second, .val (.int k4), .val (.long v5), .second, .val (.long v12), .second, .val (.long r18), .second, .val (.long r27), .second, .val (.ref b3), .val (.int v49), .val (.long m117_l17), .second, .val (.long v122), .second, .val (.int m147)] [(.int (1 : Int32))])) _
      refine XS.goto X22.here hx rfl (pc0 := 162) (pc' := 166) rfl (hb hby at_162) (by decide) (by decide) ?_
      show Steps p.tables e below (T22.setTop (mkF m 166 #[.val (.long k1), .second, .val (.long k2), .second, .val (.long k3), .second, .val (.int k4), .val (.long v5), .second, .val (.long v12), .second, .val (.long r18), .second, .val (.long r27), .second, .val (.ref b3), .val (.int v49), .val (.long m117_l17), .second, .val (.long v122), .second, .val (.int m147)] [(.int (1 : Int32))])) _
      exact castTop (by simp only [hm166, if_pos d23]) kt
    · skip
      show Steps p.tables e below (T22.setTop (mkF m 158 #[.val (.long k1), .second, .val (.long k2), .second, .val (.long k3), .second, .val (.int k4), .val (.long v5), .second, .val (.long v12), .second, .val (.long r18), .second, .val (.long r27), .second, .val (.ref b3), .val (.int v49), .val (.long m117_l17), .second, .val (.long v122), .second, .val (.int m147)] [(.int m147), (.int r153)])) _
      refine XS.icmpYes X22.here hx rfl (pc0 := 158) (pc' := 165) rfl (hb hby at_158) rfl (feq d23).2 (by decide) (by decide) ?_
      show Steps p.tables e below (T22.setTop (mkF m 165 #[.val (.long k1), .second, .val (.long k2), .second, .val (.long k3), .second, .val (.int k4), .val (.long v5), .second, .val (.long v12), .second, .val (.long r18), .second, .val (.long r27), .second, .val (.ref b3), .val (.int v49), .val (.long m117_l17), .second, .val (.long v122), .second, .val (.int m147)] [])) _
      refine XS.iconst X22.here hx rfl (hb hby at_165) ?_
      show Steps p.tables e below (T22.setTop (mkF m 166 #[.val (.long k1), .second, .val (.long k2), .second, .val (.long k3), .second, .val (.int k4), .val (.long v5), .second, .val (.long v12), .second, .val (.long r18), .second, .val (.long r27), .second, .val (.ref b3), .val (.int v49), .val (.long m117_l17), .second, .val (.long v122), .second, .val (.int m147)] [(.int (0 : Int32))])) _
      exact castTop (by simp only [hm166, if_neg d23]) kt
  obtain ⟨fs, hr, hrun, hended, hW, hsame⟩ := X22.leave (v := some (Value.int (nar .boolean m166))) (fun h => by rw [Bd.returns] at h; cases h)
  have hres25 : (nar .boolean m166) = (1 : Int32) := (own_leaf_0_166 k1 k2 k3 k4 v5 hv5 v12 hv12 r18 hr18 r27 hr27 hp8_h1 hp8_h2 hp8_h3 v49 hv49 m117_l17 hm117_l17 v122 hv122 m147 hm147 r153 hr153 m166 hm166)
  refine ⟨_, _, pre24 _ ?_, hrun, hended, _, _, rfl, ?_, ⟨_, rfl⟩, hW, hsame.mono (by decide) (by decide)⟩
  · skip
    show Steps p.tables e below (T22.setTop (mkF m 166 #[.val (.long k1), .second, .val (.long k2), .second, .val (.long k3), .second, .val (.int k4), .val (.long v5), .second, .val (.long v12), .second, .val (.long r18), .second, .val (.long r27), .second, .val (.ref b3), .val (.int v49), .val (.long m117_l17), .second, .val (.long v122), .second, .val (.int m147)] [(.int m166)])) _
    exact retN X22 hx (t := .boolean) Bd.returns (by simp) (hb hby at_166) hr
  · show Q0 Z k1 k2 k3 k4 h0 n0 _ T22.heap _
    rw [e22]
    exact ⟨congrArg (fun z => some (Value.int z)) hres25, N22⟩
set_option maxRecDepth 65536 in
set_option maxHeartbeats 40000000 in
theorem comes_1 {Post : Tables → Env → Array Value → State → Outcome → State → Prop} (hpost : ∀ tb e args s v u, (limb_1_1.after args s (.returned v) u = true ∧ limb_1_2.after args s (.returned v) u = true ∧ True) → FrameEnd s (.returned v) u (Jvm.fieldLocs frame_1_writes args s ++ Jvm.arrayLocs frame_1_arrays args s ++ Jvm.staticLocs frame_1_statics s) 16 128 → Post tb e args s (.returned v) u) :
    ArmFor flags0 classFile x code maxLocals ret World_1 tables_1 room_1 Calls_1 rest_1 Pre_1 Post := by
  intro l hfl _ _ p e ha hc hk s m args below hf hA hF happ hP
  obtain ⟨hcalls, hrest, hpre⟩ := hP
  obtain ⟨-, -, -, hnamed, -, -, -, hat⟩ := (Spec.applies_iff hf).mp happ
  obtain ⟨hg, hn⟩ := and_e (Cond.before_iff.mp (show (Jvm.Cond.and given_1 narrow_1).before args s = true from hpre))
  obtain ⟨gv1, gv2⟩ := and_e hg
  obtain ⟨gv3, gv4⟩ := and_e gv2
  obtain ⟨gv5, gv6⟩ := and_e gv4
  obtain ⟨gv7, gv8⟩ := and_e gv6
  obtain ⟨w0, w1, w2, w3, rfl⟩ : ∃ w0 w1 w2 w3 : Value, args = #[w0, w1, w2, w3] := by
    have hs : args.size = 4 := by simpa [Cond.value, given_1] using gv1
    obtain ⟨L⟩ := args
    match L, hs with
    | [w0, w1, w2, w3], _ => exact ⟨w0, w1, w2, w3, rfl⟩
  have hw := fun d (hd : d ∈ tables_1) => atoms_spec (ws := Jvm.Cond.code x code maxLocals ret :: tables_1) hat d (List.mem_cons_of_mem _ hd)
  obtain ⟨i0, ei0⟩ := isL_v gv3
  obtain rfl : w0 = (.long i0) := Option.some.inj ei0
  obtain ⟨i1, ei1⟩ := isL_v gv5
  obtain rfl : w1 = (.long i1) := Option.some.inj ei1
  obtain ⟨i2, ei2⟩ := isL_v gv7
  obtain rfl : w2 = (.long i2) := Option.some.inj ei2
  obtain ⟨i3, ei3⟩ := is_v gv8
  obtain rfl : w3 = (.int i3) := Option.some.inj ei3
  obtain ⟨n, o, h1, h2, h3, _, L, rfl, ⟨rfl, N⟩, hq⟩ := rm0 l s _ hw tables_1 i0 i1 i2 i3  s.heap s.heap.size (Nat.le_refl _)  p e ha hc hk s m _ below hf ((Spec.applies_iff_loose hf).mp happ).1 ⟨rfl, State.Warmed39.refl s, rfl⟩ trivial
  refine ⟨n, _, h1, h2, h3, hpost _ _ _ _ _ _ ⟨Cond.after_iff.mpr rfl, Cond.after_iff.mpr (eq_i res_at (Term.int_eval (1)) rfl), trivial⟩ ⟨hq.1, hq.2.1, (hq.2.2.sift fun y hy => Or.inr (N y hy)).mono (by decide) (by decide)⟩⟩
theorem main_1_1 : Claimed_1_1 := comes_1 fun _ _ _ _ _ _ h hF => ⟨h.1, hF⟩
theorem main_1_2 : Claimed_1_2 := comes_1 fun _ _ _ _ _ _ h hF => ⟨h.2.1, hF⟩
end Jvm.Pilot.@@N@@
namespace Jvm.Pilot.@@N@@
open Jvm Jvm.ClassFile Sem Op Lib Jvm.Free Jvm.Stand Jvm.Pilot.@@N@@.Jvm.D
/-! MADE BY PROGRAM (witnessworld.py) out of the Statement's table words and the real class files: 11 classes; the members and pool entries that the words name. The judged class is class 1, her method 1. -/
namespace start1
open Jvm.ClassFile
def u (s : String) : CpInfo := .utf8 (stringToUtf16 s)
/-- a pool by its gaps: so many unusable entries, then the entry; so many at the end -/
def gap : Nat → List CpInfo → List CpInfo
  | 0, r => r
  | n + 1, r => .unusable :: gap n r
def poolList (es : List (Nat × CpInfo)) (last : Nat) : List CpInfo := es.foldr (fun e r => gap e.1 (e.2 :: r)) (gap last [])
def pool (es : List (Nat × CpInfo)) (last : Nat) : Array CpInfo := ⟨poolList es last⟩
def fileOf (pool : Array CpInfo) (this : Nat) (attrs : Array Attribute := #[]) (ms : Array MethodInfo := #[]) (fl : Nat := 33) (sup : Nat := 0) (ifs : Array Nat := #[]) (fds : Array FieldInfo := #[]) : ClassFile where
  minorVersion := 0
  majorVersion := 65
  constantPool := pool
  accessFlags := fl
  thisClass := this
  superClass := sup
  interfaces := ifs
  fields := fds
  methods := ms
  attributes := attrs
def plain (name : String) (sup : Option ClassId) : Class where
  name := name
  kind := .ordinary
  loader := none
  accessFlags := 33
  super := sup
  interfaces := #[]
  cf := none
  fields := #[]
  methods := #[]
  instanceTypes := #[]
  staticTypes := #[]
  resolved := #[]
  callSites := []
  init := .initialized
  statics := none
  mirror := none

def pool0 : Array CpInfo := pool [(5, u "<init>"), (0, u "()V"), (1, .class_ 10), (1, u "java/lang/Object")] 113

def k0c0 : Code := { maxStack := 0, maxLocals := 1, code := object_method_1_code, exceptionTable := #[], attributes := #[] }
def k0m0 : Method := { name := "<init>", desc := "()V", sig := { parameters := [], returnType := none }, accessFlags := 1, code := some k0c0 }
/-- java/lang/Object -/
def k0 : Class := { plain "java/lang/Object" none with
  accessFlags := 33
  interfaces := #[]
  cf := some (fileOf pool0 8 #[] #[{ accessFlags := 1, nameIndex := 5, descriptorIndex := 6, attributes := #[] }] 33 0 #[] #[])
  fields := #[]
  methods := #[k0m0]
  instanceTypes := #[]
  staticTypes := #[]
  resolved := Array.replicate 124 none
  statics := none }

def pool1 : Array CpInfo := pool [(2, .class_ 4), (1, u "java/lang/Object"), (0, u "<init>"), (0, u "()V"), (0, .long 4294967295), (1, .methodref 10 11), (0, .class_ 12), (0, .nameAndType 13 14), (0, u "java/lang/Math"), (0, u "min"), (0, u "(JJ)J"), (0, .methodref 10 16), (0, .nameAndType 17 14), (0, u "max"), (0, .class_ 19), (0, u "com/example/shardwright/shardwright/coordination/HashRange"), (0, .methodref 18 21), (0, .nameAndType 5 22), (0, u "(JJ)V"), (0, .long 3), (1, .long 2), (1, .methodref 18 28), (0, .nameAndType 29 30), (0, u "holds"), (0, u "(J)Z"), (0, .class_ 32), (0, u "com/example/shardwright/shardwright/coordination/HashRangeHoldsPinLaw"), (2, u "law"), (0, u "(JJJI)Z")] 3

def k1m0 : Method := { name := "<init>", desc := "()V", sig := { parameters := [], returnType := none }, accessFlags := 1, code := none }
def k1c1 : Code := { maxStack := 6, maxLocals := 22, code := code, exceptionTable := #[], attributes := #[] }
def k1m1 : Method := { name := "law", desc := "(JJJI)Z", sig := { parameters := [.long, .long, .long, .int], returnType := some .boolean }, accessFlags := 9, code := some k1c1 }
/-- com/example/shardwright/shardwright/coordination/HashRangeHoldsPinLaw -/
def k1 : Class := { plain "com/example/shardwright/shardwright/coordination/HashRangeHoldsPinLaw" (some 0) with
  accessFlags := 49
  interfaces := #[]
  cf := some (fileOf pool1 31 #[] #[{ accessFlags := 1, nameIndex := 5, descriptorIndex := 6, attributes := #[] }, { accessFlags := 9, nameIndex := 35, descriptorIndex := 36, attributes := #[] }] 49 2 #[] #[])
  fields := #[]
  methods := #[k1m0, k1m1]
  instanceTypes := #[]
  staticTypes := #[]
  resolved := Array.replicate 40 none
  statics := none }

def pool2 : Array CpInfo := pool [(1, .class_ 2), (0, u "java/lang/Math"), (1, .class_ 6), (1, u "java/lang/Object"), (0, u "<init>"), (0, u "()V"), (89, .class_ 100), (1, u "java/lang/Math$RandomNumberGeneratorHolder"), (20, u "(JJ)J"), (50, u "negativeZeroFloatBits"), (0, u "J"), (2, u "negativeZeroDoubleBits"), (21, u "max"), (2, u "min"), (43, u "$assertionsDisabled"), (0, u "Z"), (91, u "twoToTheDoubleScaleDown"), (0, u "D"), (4, u "twoToTheDoubleScaleUp"), (9, u "E"), (3, u "PI"), (2, u "TAU"), (2, u "DEGREES_TO_RADIANS"), (0, u "RADIANS_TO_DEGREES")] 94

def k2m0 : Method := { name := "<init>", desc := "()V", sig := { parameters := [], returnType := none }, accessFlags := 2, code := none }
def k2c1 : Code := { maxStack := 4, maxLocals := 4, code := jdk_29_method_66_code, exceptionTable := #[], attributes := #[] }
def k2m1 : Method := { name := "max", desc := "(JJ)J", sig := { parameters := [.long, .long], returnType := some .long }, accessFlags := 9, code := some k2c1 }
def k2c2 : Code := { maxStack := 4, maxLocals := 4, code := jdk_29_method_70_code, exceptionTable := #[], attributes := #[] }
def k2m2 : Method := { name := "min", desc := "(JJ)J", sig := { parameters := [.long, .long], returnType := some .long }, accessFlags := 9, code := some k2c2 }
/-- java/lang/Math -/
def k2 : Class := { plain "java/lang/Math" (some 0) with
  accessFlags := 49
  interfaces := #[]
  cf := some (fileOf pool2 1 #[.nestMembers #[98]] #[{ accessFlags := 2, nameIndex := 7, descriptorIndex := 8, attributes := #[] }, { accessFlags := 9, nameIndex := 198, descriptorIndex := 121, attributes := #[] }, { accessFlags := 9, nameIndex := 201, descriptorIndex := 121, attributes := #[] }] 49 4 #[] #[{ accessFlags := 25, nameIndex := 354, descriptorIndex := 339, attributes := #[] }, { accessFlags := 25, nameIndex := 358, descriptorIndex := 339, attributes := #[] }, { accessFlags := 25, nameIndex := 361, descriptorIndex := 339, attributes := #[] }, { accessFlags := 26, nameIndex := 364, descriptorIndex := 339, attributes := #[] }, { accessFlags := 26, nameIndex := 365, descriptorIndex := 339, attributes := #[] }, { accessFlags := 26, nameIndex := 172, descriptorIndex := 173, attributes := #[] }, { accessFlags := 26, nameIndex := 176, descriptorIndex := 173, attributes := #[] }, { accessFlags := 8, nameIndex := 344, descriptorIndex := 339, attributes := #[] }, { accessFlags := 8, nameIndex := 338, descriptorIndex := 339, attributes := #[] }, { accessFlags := 4120, nameIndex := 245, descriptorIndex := 246, attributes := #[] }])
  fields := #[{ name := "E", type := .double, accessFlags := 25, slot := 0, constantValue := 0 }, { name := "PI", type := .double, accessFlags := 25, slot := 1, constantValue := 0 }, { name := "TAU", type := .double, accessFlags := 25, slot := 2, constantValue := 0 }, { name := "DEGREES_TO_RADIANS", type := .double, accessFlags := 26, slot := 3, constantValue := 0 }, { name := "RADIANS_TO_DEGREES", type := .double, accessFlags := 26, slot := 4, constantValue := 0 }, { name := "negativeZeroFloatBits", type := .long, accessFlags := 26, slot := 5, constantValue := 0 }, { name := "negativeZeroDoubleBits", type := .long, accessFlags := 26, slot := 6, constantValue := 0 }, { name := "twoToTheDoubleScaleUp", type := .double, accessFlags := 8, slot := 7, constantValue := 0 }, { name := "twoToTheDoubleScaleDown", type := .double, accessFlags := 8, slot := 8, constantValue := 0 }, { name := "$assertionsDisabled", type := .boolean, accessFlags := 4120, slot := 9, constantValue := 0 }]
  methods := #[k2m0, k2m1, k2m2]
  instanceTypes := #[]
  staticTypes := #[.double, .double, .double, .double, .double, .long, .long, .double, .double, .boolean]
  resolved := Array.replicate 460 none
  statics := none }

def pool3 : Array CpInfo := pool [(1, .methodref 2 3), (0, .class_ 4), (0, .nameAndType 5 6), (0, u "java/lang/Object"), (0, u "<init>"), (0, u "()V"), (0, .class_ 8), (0, u "java/lang/Record")] 13

def k3c0 : Code := { maxStack := 1, maxLocals := 1, code := jdk_30_method_1_code, exceptionTable := #[], attributes := #[] }
def k3m0 : Method := { name := "<init>", desc := "()V", sig := { parameters := [], returnType := none }, accessFlags := 4, code := some k3c0 }
/-- java/lang/Record -/
def k3 : Class := { plain "java/lang/Record" (some 0) with
  accessFlags := 1057
  interfaces := #[]
  cf := some (fileOf pool3 7 #[] #[{ accessFlags := 4, nameIndex := 5, descriptorIndex := 6, attributes := #[] }] 1057 2 #[] #[])
  fields := #[]
  methods := #[k3m0]
  instanceTypes := #[]
  staticTypes := #[]
  resolved := Array.replicate 22 none
  statics := none }

def pool4 : Array CpInfo := pool [(3, .methodref 4 5), (0, .class_ 6), (0, .nameAndType 7 8), (0, u "java/lang/Record"), (0, u "<init>"), (0, u "()V"), (0, .class_ 10), (0, u "com/example/shardwright/shardwright/coordination/HashRange"), (0, .long 4294967296), (10, .fieldref 9 23), (0, .nameAndType 24 25), (0, u "low"), (0, u "J"), (0, .fieldref 9 27), (0, .nameAndType 28 25), (0, u "high"), (5, u "(JJ)V"), (2, u "TEXT"), (0, u "Ljava/util/regex/Pattern;"), (65, u "HASHES"), (13, u "holds"), (0, u "(J)Z")] 41

def k4c0 : Code := { maxStack := 6, maxLocals := 5, code := prog_3_method_1_code, exceptionTable := #[], attributes := #[] }
def k4m0 : Method := { name := "<init>", desc := "(JJ)V", sig := { parameters := [.long, .long], returnType := none }, accessFlags := 1, code := some k4c0 }
def k4c1 : Code := { maxStack := 4, maxLocals := 3, code := prog_3_method_5_code, exceptionTable := #[], attributes := #[] }
def k4m1 : Method := { name := "holds", desc := "(J)Z", sig := { parameters := [.long], returnType := some .boolean }, accessFlags := 1, code := some k4c1 }
/-- com/example/shardwright/shardwright/coordination/HashRange -/
def k4 : Class := { plain "com/example/shardwright/shardwright/coordination/HashRange" (some 3) with
  accessFlags := 49
  interfaces := #[]
  cf := some (fileOf pool4 9 #[] #[{ accessFlags := 1, nameIndex := 7, descriptorIndex := 34, attributes := #[] }, { accessFlags := 1, nameIndex := 118, descriptorIndex := 119, attributes := #[] }] 49 4 #[] #[{ accessFlags := 18, nameIndex := 24, descriptorIndex := 25, attributes := #[] }, { accessFlags := 18, nameIndex := 28, descriptorIndex := 25, attributes := #[] }, { accessFlags := 26, nameIndex := 104, descriptorIndex := 25, attributes := #[] }, { accessFlags := 26, nameIndex := 37, descriptorIndex := 38, attributes := #[] }])
  fields := #[{ name := "low", type := .long, accessFlags := 18, slot := 0, constantValue := 0 }, { name := "high", type := .long, accessFlags := 18, slot := 1, constantValue := 0 }, { name := "HASHES", type := .long, accessFlags := 26, slot := 0, constantValue := 0 }, { name := "TEXT", type := (.object "java/util/regex/Pattern"), accessFlags := 26, slot := 1, constantValue := 0 }]
  methods := #[k4m0, k4m1]
  instanceTypes := #[.long, .long]
  staticTypes := #[.long, (.object "java/util/regex/Pattern")]
  resolved := Array.replicate 161 none
  statics := none }

def pool5 : Array CpInfo := pool [(1, u "java/lang/Cloneable"), (0, .class_ 1), (0, u "java/lang/Object"), (0, .class_ 3)] 3

/-- java/lang/Cloneable -/
def k5 : Class := { plain "java/lang/Cloneable" (some 0) with
  accessFlags := 1537
  interfaces := #[]
  cf := some (fileOf pool5 2 #[] #[] 1537 4 #[] #[])
  fields := #[]
  methods := #[]
  instanceTypes := #[]
  staticTypes := #[]
  resolved := Array.replicate 8 none
  statics := none }

def pool6 : Array CpInfo := pool [(1, u "java/io/Serializable"), (0, .class_ 1), (0, u "java/lang/Object"), (0, .class_ 3)] 3

/-- java/io/Serializable -/
def k6 : Class := { plain "java/io/Serializable" (some 0) with
  accessFlags := 1537
  interfaces := #[]
  cf := some (fileOf pool6 2 #[] #[] 1537 4 #[] #[])
  fields := #[]
  methods := #[]
  instanceTypes := #[]
  staticTypes := #[]
  resolved := Array.replicate 8 none
  statics := none }

/-- the primitive byte -/
def k7 : Class := { plain "byte" none with kind := .primitive 'B', accessFlags := 0x411 }
/-- [B -/
def k8 : Class := { plain "[B" (some 0) with kind := .array 7 .byte, interfaces := #[5, 6], accessFlags := 1041 }

/-- the primitive int -/
def k9 : Class := { plain "int" none with kind := .primitive 'I', accessFlags := 0x411 }
/-- [I -/
def k10 : Class := { plain "[I" (some 0) with kind := .array 9 .int, interfaces := #[5, 6], accessFlags := 1041 }

def heap : Heap := #[]
def classes : Array Class := #[k0, k1, k2, k3, k4, k5, k6, k7, k8, k9, k10]
def interned : List (Array UInt16 × Addr) := []
def slotsUsed : Nat := 0
def theMethod : MethodId := ⟨1, 1⟩
def args0 : Array Value := #[.long 5, .long 6, .long 7, .int 2]
def aboutOver (below : List Frame) : State where
  vm := { classes := classes, interned := interned.toArray }
  heap := heap
  slotsUsed := slotsUsed
  threads := #[{ frames := .invoking theMethod args0 :: below }]
def below0 : List Frame := [.native { method := ⟨0, 0⟩, args := #[] }]
def about1 : State := aboutOver below0
def p0 : Program := .bare "" "" ""
def e0 : Env := launch0.env 0 0 0
theorem w_frames : about1.frames = Frame.invoking theMethod args0 :: below0 := rfl
set_option maxRecDepth 65536 in
theorem w_args : argsFit about1.vm theMethod args0 = true := by decide +kernel
set_option maxRecDepth 65536 in
theorem w_heap : heapFits about1 = true := by decide +kernel
set_option maxRecDepth 65536 in
theorem w_runnable : about1.curStatus? = some .runnable := by decide +kernel
set_option maxRecDepth 65536 in
theorem w_alone : about1.alone = true := by decide +kernel
set_option maxRecDepth 65536 in
theorem w_named : about1.methodNamed? x = some theMethod := by decide +kernel
set_option maxRecDepth 65536 in
theorem w_hears : about1.hears theMethod below0 = true := by decide +kernel
set_option maxRecDepth 65536 in
theorem w_ripe : about1.ripe theMethod args0 below0 = true := by decide +kernel
theorem w_running : about1.status = .running := rfl
set_option maxRecDepth 65536 in
theorem w_room : about1.hasRoom e0.platform room_1 = true :=
  launch0.hasRoom_least _ room_1 (by decide +kernel) (by decide +kernel) (by decide +kernel) (by decide +kernel) (by decide +kernel) (by decide +kernel)
theorem allAtoms_all (ts : List Jvm.Cond) (a : Array Jvm.Value) (st : Jvm.State) : (allAtoms ts).before a st = ts.all (fun c => c.before a st) := by
  induction ts with
  | nil => rfl
  | cons c t ih =>
    show (Jvm.Cond.and c (allAtoms t)).before a st = _
    rw [Jvm.Cond.before_and, ih, List.all_cons]
def words1 : List Jvm.Cond := Jvm.Cond.code x code maxLocals ret :: tables_1
/-- a 'code' word, met by the world's own term for the bytes: nothing is compared byte by byte -/
theorem code_word {y : MethodName} {bytes : ByteArray} {mx : Nat} {rt : Option FieldType} {a : Array Value} {s : State} {m : MethodId} {meth : Method} {c : Code} (h1 : s.methodNamed? y = some m) (h2 : s.vm.method? m = some meth) (h3 : meth.code = some c) (h4 : c.code = bytes)
    (h5 : (c.maxLocals == mx && c.exceptionTable.isEmpty && decide (c.maxStack ≤ mostOperands) && decide (meth.sig.returnType = rt) && !meth.locks && decide (parseMethodDescriptor y.desc = some meth.sig)) = true) : (Jvm.Cond.code y bytes mx rt).before a s = true := by
  simp only [Bool.and_eq_true, beq_iff_eq, Bool.not_eq_true', decide_eq_true_eq] at h5
  obtain ⟨⟨⟨⟨⟨g1, g2⟩, g3⟩, g4⟩, g5⟩, g6⟩ := h5
  simp [Cond.before, Cond.holds, Cond.value, h1, h2, h3, h4, g1, g2, g3, g4, g5, g6]
def isCode : Jvm.Cond → Bool
  | .code _ _ _ _ => true
  | _ => false
theorem all_split {L : List Jvm.Cond} {P : Jvm.Cond → Bool} (h1 : L.all (fun c => isCode c || P c) = true) (h2 : ∀ c ∈ L.filter isCode, P c = true) : L.all P = true := by
  refine List.all_eq_true.mpr fun c hc => ?_
  have h := List.all_eq_true.mp h1 c hc
  rcases Bool.eq_false_or_eq_true (isCode c) with hi | hi
  · exact h2 c (List.mem_filter.mpr ⟨hc, hi⟩)
  · simpa [hi] using h
set_option maxRecDepth 65536 in
theorem w_c0 : (Jvm.Cond.code x code maxLocals ret).before args0 about1 = true := code_word (m := ⟨1, 1⟩) (meth := k1m1) (c := k1c1) (by decide +kernel) rfl rfl rfl (by decide +kernel)
set_option maxRecDepth 65536 in
theorem w_c1 : (Jvm.Cond.code ({ cls := "java/lang/Math", name := "min", desc := "(JJ)J" } : Jvm.MethodName) jdk_29_method_70_code (4 : Nat) (Option.some Jvm.ClassFile.FieldType.long)).before args0 about1 = true := code_word (m := ⟨2, 2⟩) (meth := k2m2) (c := k2c2) (by decide +kernel) rfl rfl rfl (by decide +kernel)
set_option maxRecDepth 65536 in
theorem w_c2 : (Jvm.Cond.code ({ cls := "java/lang/Math", name := "max", desc := "(JJ)J" } : Jvm.MethodName) jdk_29_method_66_code (4 : Nat) (Option.some Jvm.ClassFile.FieldType.long)).before args0 about1 = true := code_word (m := ⟨2, 1⟩) (meth := k2m1) (c := k2c1) (by decide +kernel) rfl rfl rfl (by decide +kernel)
set_option maxRecDepth 65536 in
theorem w_c3 : (Jvm.Cond.code ({ cls := "com/example/shardwright/shardwright/coordination/HashRange", name := "<init>", desc := "(JJ)V" } : Jvm.MethodName) prog_3_method_1_code (5 : Nat) (Option.none : Option Jvm.ClassFile.FieldType)).before args0 about1 = true := code_word (m := ⟨4, 0⟩) (meth := k4m0) (c := k4c0) (by decide +kernel) rfl rfl rfl (by decide +kernel)
set_option maxRecDepth 65536 in
theorem w_c4 : (Jvm.Cond.code ({ cls := "java/lang/Record", name := "<init>", desc := "()V" } : Jvm.MethodName) jdk_30_method_1_code (1 : Nat) (Option.none : Option Jvm.ClassFile.FieldType)).before args0 about1 = true := code_word (m := ⟨3, 0⟩) (meth := k3m0) (c := k3c0) (by decide +kernel) rfl rfl rfl (by decide +kernel)
set_option maxRecDepth 65536 in
theorem w_c5 : (Jvm.Cond.code ({ cls := "java/lang/Object", name := "<init>", desc := "()V" } : Jvm.MethodName) object_method_1_code (1 : Nat) (Option.none : Option Jvm.ClassFile.FieldType)).before args0 about1 = true := code_word (m := ⟨0, 0⟩) (meth := k0m0) (c := k0c0) (by decide +kernel) rfl rfl rfl (by decide +kernel)
set_option maxRecDepth 65536 in
theorem w_c6 : (Jvm.Cond.code ({ cls := "com/example/shardwright/shardwright/coordination/HashRange", name := "holds", desc := "(J)Z" } : Jvm.MethodName) prog_3_method_5_code (3 : Nat) (Option.some Jvm.ClassFile.FieldType.boolean)).before args0 about1 = true := code_word (m := ⟨4, 1⟩) (meth := k4m1) (c := k4c1) (by decide +kernel) rfl rfl rfl (by decide +kernel)
def codes1 : List Jvm.Cond := [Jvm.Cond.code x code maxLocals ret, Jvm.Cond.code ({ cls := "java/lang/Math", name := "min", desc := "(JJ)J" } : Jvm.MethodName) jdk_29_method_70_code (4 : Nat) (Option.some Jvm.ClassFile.FieldType.long), Jvm.Cond.code ({ cls := "java/lang/Math", name := "max", desc := "(JJ)J" } : Jvm.MethodName) jdk_29_method_66_code (4 : Nat) (Option.some Jvm.ClassFile.FieldType.long), Jvm.Cond.code ({ cls := "com/example/shardwright/shardwright/coordination/HashRange", name := "<init>", desc := "(JJ)V" } : Jvm.MethodName) prog_3_method_1_code (5 : Nat) (Option.none : Option Jvm.ClassFile.FieldType), Jvm.Cond.code ({ cls := "java/lang/Record", name := "<init>", desc := "()V" } : Jvm.MethodName) jdk_30_method_1_code (1 : Nat) (Option.none : Option Jvm.ClassFile.FieldType), Jvm.Cond.code ({ cls := "java/lang/Object", name := "<init>", desc := "()V" } : Jvm.MethodName) object_method_1_code (1 : Nat) (Option.none : Option Jvm.ClassFile.FieldType), Jvm.Cond.code ({ cls := "com/example/shardwright/shardwright/coordination/HashRange", name := "holds", desc := "(J)Z" } : Jvm.MethodName) prog_3_method_5_code (3 : Nat) (Option.some Jvm.ClassFile.FieldType.boolean)]
set_option maxRecDepth 65536 in
theorem codes_eq : words1.filter isCode = codes1 := rfl
theorem w_codes : ∀ c ∈ words1.filter isCode, c.before args0 about1 = true := by
  rw [codes_eq]
  intro c hc
  simp only [codes1, List.mem_cons, List.not_mem_nil, or_false] at hc
  rcases hc with rfl | rfl | rfl | rfl | rfl | rfl | rfl
  · exact w_c0
  · exact w_c1
  · exact w_c2
  · exact w_c3
  · exact w_c4
  · exact w_c5
  · exact w_c6
set_option maxRecDepth 65536 in
theorem w_t1 : (words1.take 24).all (fun c => isCode c || c.before args0 about1) = true := by decide +kernel
set_option maxRecDepth 65536 in
theorem w_t2 : (words1.drop 24).all (fun c => isCode c || c.before args0 about1) = true := by decide +kernel
theorem w_tables : (allAtoms (Jvm.Cond.code x code maxLocals ret :: tables_1)).before args0 about1 = true := by
  rw [allAtoms_all]
  show words1.all (fun c => c.before args0 about1) = true
  refine all_split ?_ w_codes
  rw [← List.take_append_drop 24 words1, List.all_append, w_t1, w_t2]
  rfl
set_option maxRecDepth 65536 in
theorem w_case : (Jvm.Cond.and given_1 narrow_1).before args0 about1 = true := by decide +kernel
theorem w_applies : (headSpec (Jvm.Cond.code x code maxLocals ret :: tables_1) room_1).applies x e0.platform about1 = true :=
  (Spec.applies_iff w_frames).mpr ⟨w_running, w_runnable, w_alone, w_named, w_hears, w_ripe, w_room, w_tables⟩
theorem atStart : AtStart classFile x code maxLocals ret World_1 tables_1 room_1 Calls_1 rest_1 Pre_1 launch0 p0 e0 about1 theMethod args0 below0 :=
  ⟨lists_1, trivial, launch0.admits_env _ _ _, launch0.least_env, fairChoices_fair.cas, fairChoices_fair.clock, w_frames, w_args, w_heap, w_applies, trivial, trivial, w_case⟩
end start1
theorem witness_1 : WitnessClaimed_1 := ⟨start1.p0, start1.e0, start1.about1, start1.theMethod, start1.args0, start1.below0, start1.atStart⟩
end Jvm.Pilot.@@N@@
