import JvmDerived
import JvmDerived.Pilot.@@N@@Statement
import JvmDerived.Pilot.@@N@@Code
set_option linter.unusedVariables false
set_option linter.unusedSimpArgs false
namespace Jvm.RoadKit
theorem heq_of {T : State} {h : Heap} {a : Addr} {c : Cell} (e : T.heap = h) (q : h[a]? = some c) : T.heap[a]? = some c := by rw [e]; exact q
open Sem ClassFile Op Lib Jvm.Stand Jvm.Free Jvm.LawKit
section New
variable {p : Program} {l : Launch} {e : Env} {R : Room} {s : State} {m : MethodId} {args : Array Value} {below : List Frame} {meth : Method} {c : Code} {T : State} {locs : List Loc} {cells slots : Nat}
theorem retI (X : Stand p l e R s m args below meth c T locs cells slots) (hx : p.tables.exec = Jvm.exec) {pc : Nat} {Ls : Array Slot} {z : Int32} {rest : List Value} (hret : meth.sig.returnType = some .int) (hd : decode c.code pc = .ok (.ireturn, 1)) {fs : List Frame}
    (hl : ∀ (f : JFrame) (acts : List Action), f.method = m → f.locked = none → f.entered = [] → (doReturn e (T.setTop f) acts (some (.int z))).1 = T.setFrames fs) : Steps p.tables e below (T.setTop (mkF m pc Ls (.int z :: rest))) (T.setFrames fs) := by
  have hm' : T.vm.method? m = some meth := X.method'
  have hn : narrow .int (.int z) = .int z := rfl
  show Steps p.tables e below (T.setTop { method := m, pc := pc, locals := Ls, stack := _ :: rest, locked := none }) _
  jvm_step X.here [X.here.top, hx, hd, hm', hret, hn]
  first | (intro acts; rw [hl _ acts rfl rfl rfl]) | rw [hl _ _ rfl rfl rfl]
  exact Steps.refl _
end New
end Jvm.RoadKit
namespace Jvm.Pilot.@@N@@
open Jvm Jvm.ClassFile Sem Op Lib Jvm.Free Jvm.Stand Jvm.LawKit Jvm.RoadKit Bundle Jvm.Pilot.@@N@@.Jvm.D
theorem own_mask31 (a : Int32) : 0 ≤ (a &&& (2147483647 : Int32)).toInt ∧ (a &&& (2147483647 : Int32)).toInt < 2147483648 := by
  have h : (a &&& (2147483647 : Int32)).toBitVec = a.toBitVec &&& 2147483647#32 := rfl
  have e : (a &&& (2147483647 : Int32)).toInt = (a.toBitVec &&& 2147483647#32).toInt := by rw [← h]; rfl
  have hm : (a.toBitVec &&& 2147483647#32).toNat ≤ 2147483647 := by rw [BitVec.toNat_and]; exact Nat.and_le_right
  rw [e, BitVec.toInt_eq_toNat_of_lt (by omega)]
  omega
theorem own_rem (u s : Int32) (hu : 0 ≤ u.toInt) (hs : 0 < s.toInt) : 0 ≤ (u % s).toInt ∧ (u % s).toInt < s.toInt := by
  have : (u % s).toInt = u.toInt.tmod s.toInt := Int32.toInt_mod ..
  rw [this, Int.tmod_eq_emod_of_nonneg hu]
  exact ⟨Int.emod_nonneg _ (by omega), Int.emod_lt_of_pos _ hs⟩
theorem own_i32_add (x y : Int32) (h1 : -2147483648 ≤ x.toInt + y.toInt) (h2 : x.toInt + y.toInt < 2147483648) : (x + y).toInt = x.toInt + y.toInt := by
  rw [Int32.toInt_add, Int.bmod_eq_of_le (by omega) (by omega)]
theorem own_i32_sub (x y : Int32) (h1 : -2147483648 ≤ x.toInt - y.toInt) (h2 : x.toInt - y.toInt < 2147483648) : (x - y).toInt = x.toInt - y.toInt := by
  rw [Int32.toInt_sub, Int.bmod_eq_of_le (by omega) (by omega)]
theorem own_i64_add (x y : Int64) (h1 : -9223372036854775808 ≤ x.toInt + y.toInt) (h2 : x.toInt + y.toInt < 9223372036854775808) : (x + y).toInt = x.toInt + y.toInt := by
  rw [Int64.toInt_add, Int.bmod_eq_of_le (by omega) (by omega)]
theorem own_i64_sub (x y : Int64) (h1 : -9223372036854775808 ≤ x.toInt - y.toInt) (h2 : x.toInt - y.toInt < 9223372036854775808) : (x - y).toInt = x.toInt - y.toInt := by
  rw [Int64.toInt_sub, Int.bmod_eq_of_le (by omega) (by omega)]
theorem own_i64_mul (x y : Int64) (h1 : -9223372036854775808 ≤ x.toInt * y.toInt) (h2 : x.toInt * y.toInt < 9223372036854775808) : (x * y).toInt = x.toInt * y.toInt := by
  rw [Int64.toInt_mul, Int.bmod_eq_of_le (by omega) (by omega)]
theorem own_i2l (x : Int32) : x.toInt64.toInt = x.toInt := Int32.toInt_toInt64 x
theorem own_l2i (x : Int64) (h1 : -2147483648 ≤ x.toInt) (h2 : x.toInt < 2147483648) : x.toInt32.toInt = x.toInt := by
  rw [Int64.toInt_toInt32, Int.bmod_eq_of_le (by omega) (by omega)]
theorem own_rangeI (x : Int32) : -2147483648 ≤ x.toInt ∧ x.toInt < 2147483648 := by
  have h1 := Int32.le_toInt x; have h2 := Int32.toInt_lt x; omega
theorem own_rangeL (x : Int64) : -9223372036854775808 ≤ x.toInt ∧ x.toInt < 9223372036854775808 := by
  have h1 := Int64.le_toInt x; have h2 := Int64.toInt_lt x; omega
theorem own_mask63 (a : Int64) : 0 ≤ (a &&& (9223372036854775807 : Int64)).toInt ∧ (a &&& (9223372036854775807 : Int64)).toInt < 9223372036854775808 := by
  have h : (a &&& (9223372036854775807 : Int64)).toBitVec = a.toBitVec &&& 9223372036854775807#64 := rfl
  have e : (a &&& (9223372036854775807 : Int64)).toInt = (a.toBitVec &&& 9223372036854775807#64).toInt := by rw [← h]; rfl
  have hm : (a.toBitVec &&& 9223372036854775807#64).toNat ≤ 9223372036854775807 := by rw [BitVec.toNat_and]; exact Nat.and_le_right
  rw [e, BitVec.toInt_eq_toNat_of_lt (by omega)]
  omega
theorem own_remL (u s : Int64) (hu : 0 ≤ u.toInt) (hs : 0 < s.toInt) : 0 ≤ (u % s).toInt ∧ (u % s).toInt < s.toInt := by
  have : (u % s).toInt = u.toInt.tmod s.toInt := Int64.toInt_mod ..
  rw [this, Int.tmod_eq_emod_of_nonneg hu]
  exact ⟨Int.emod_nonneg _ (by omega), Int.emod_lt_of_pos _ hs⟩
def own_cmp (x y : Int64) : Int32 := if x < y then (-1 : Int32) else (if x = y then (0 : Int32) else (1 : Int32))
def own_cmp2 (a b c d : Int64) : Int32 := if own_cmp a c = (0 : Int32) then own_cmp b d else own_cmp a c
theorem own_later (a b c : Int64) (h1 : ¬ c < a) (h2 : ¬ b = (9223372036854775807 : Int64)) : own_cmp2 a b c (b + (1 : Int64)) < (0 : Int32) := by
  have t : (1 : Int64).toInt = 1 := rfl
  have r := own_rangeL b
  have hb : b.toInt ≠ 9223372036854775807 := fun q => h2 (Int64.toInt_inj.1 q)
  have e : (b + (1 : Int64)).toInt = b.toInt + 1 := by rw [own_i64_add _ _ (by omega) (by omega), t]
  have hlt : b < b + (1 : Int64) := by rw [Int64.lt_iff_toInt_lt, e]; omega
  unfold own_cmp2 own_cmp
  by_cases ha : a < c
  · rw [if_pos ha, if_neg (by decide)]; decide
  · have hac : a = c := by
      rw [Int64.lt_iff_toInt_lt] at h1 ha
      exact Int64.toInt_inj.1 (by omega)
    rw [if_neg ha, if_pos hac, if_pos rfl, if_pos hlt]; decide
theorem d2_0 : decode jdk_30_method_1_code 0 = .ok (.aload_n 0, 1) := by decide +kernel
theorem d2_1 : decode jdk_30_method_1_code 1 = .ok (.invokespecial 1, 3) := by decide +kernel
theorem d2_4 : decode jdk_30_method_1_code 4 = .ok (.return_, 1) := by decide +kernel
theorem pn_2 : plainName "java/lang/Record" = true := by first | (simp [plainName, overriddenIn]; done) | decide +kernel
theorem ef_2 (m : MethodId) (x0 : Addr) : entryFrame m #[(.ref x0)] 1 = mkF m 0 #[.val (.ref x0)] [] := by first | (simp [entryFrame, mkF, argsToLocals, Value.category]; done) | rfl
def Q2 (Z : State) (ob : Addr) (h0 : Heap) (n0 : Nat) (v : Option Value) (h : Heap) (L : List Loc) : Prop := v = none ∧ Fr n0 L ∧ h = h0
set_option maxRecDepth 65536 in
set_option maxHeartbeats 40000000 in
theorem rm2 (l : Launch) (Z : State) (a0 : Array Value) (hw : ∀ d ∈ tables_1, d.before a0 Z = true) (ws : List Jvm.Cond) (ob : Addr) (h0 : Heap) (n0 : Nat) (Z0 : n0 ≤ h0.size)  :
    MetFree l (⟨"java/lang/Record", "<init>", "()V"⟩ : MethodName) (head1 (Jvm.Cond.code (⟨"java/lang/Record", "<init>", "()V"⟩ : MethodName) jdk_30_method_1_code 1 none :: ws) ({ frames := 1, cells := 0, slots := 0, locals := 12 } : Room)) (fun a U => a = #[(.ref ob)] ∧ Z.Warmed39 U.vm ∧ U.heap = h0) (fun _ _ _ _ _ => True) (fun _ U o U' => ∃ v L, o = .returned v ∧ Q2 Z ob h0 n0 v U'.heap L ∧ FrameEnd U o U' L ({ frames := 1, cells := 0, slots := 0, locals := 12 } : Room).cells ({ frames := 1, cells := 0, slots := 0, locals := 12 } : Room).slots) := by
  refine MetFree.of_bodySF (plainFor_of_name pn_2) hisR ?_
  intro p e s m args below meth c s₁ Bd hml0 hP hK
  obtain ⟨rfl, hZ, hh⟩ := hP
  have hx := Bd.exec
  have hby := Bd.bytes
  have hml : c.maxLocals = 1 := hml0
  have hown : s.vm.findClass "java/lang/Record" = some m.cls := findClass_of_methodNamed Bd.named
  have hnm := (name_of_methodNamed Bd.named Bd.method).1
  have X0 : Stand p l e ({ frames := 1, cells := 0, slots := 0, locals := 12 } : Room) s m #[(.ref ob)] below meth c s₁ [] 0 0 := Stand.of_body Bd
  have e0 : s₁.heap = h0 := by rw [← hh, Bd.state]; rfl
  have N0 := Fr.nil n0
  have K0 : Keep h0 h0 [] := Keep.refl h0 _
  have pre0 : ∀ tq, Steps p.tables e below (s₁.setTop (mkF m 0 #[.val (.ref ob)] [])) tq → Steps p.tables e below (s₁.setTop (entryFrame m #[(.ref ob)] 1)) tq := fun tq kq => castTop (ef_2 m ob) kq
  obtain ⟨T1, X1, e1, st1⟩ := initO X0 hx hZ hown (hw _ (List.mem_of_getElem? (i := 11) rfl)) (hw _ (List.mem_of_getElem? (i := 12) rfl)) (hw _ (List.mem_of_getElem? (i := 13) rfl)) e0 (g := (mkF m 1 #[.val (.ref ob)] [(.ref ob)])) rfl (by rw [hml]; rfl) rfl (hb hby d2_1) (by decide) (W := 0) (by show 2 * 0 + _ ≤ _; exact Nat.le_of_eq rfl) (by decide)
  obtain ⟨fs, hr, hrun, hended, hW, hsame⟩ := X1.leave (v := none) (fun _ => rfl)
  refine ⟨_, _, pre0 _ ?_, hrun, hended, _, _, rfl, ?_, ⟨_, rfl⟩, hW, hsame.mono (by decide) (by decide)⟩
  · skip
    show Steps p.tables e below (s₁.setTop (mkF m 0 #[.val (.ref ob)] [])) _
    refine XS.aloadN X0.here hx rfl (hb hby d2_0) rfl rfl ?_
    show Steps p.tables e below (s₁.setTop (mkF m 1 #[.val (.ref ob)] [(.ref ob)])) _
    refine st1 _ ?_
    show Steps p.tables e below (T1.setTop (mkF m 4 #[.val (.ref ob)] [])) _
    exact X1.returnOut hx Bd.returns (hb hby d2_4) hr
  · show Q2 Z ob h0 n0 _ T1.heap _
    rw [e1]
    exact ⟨rfl, N0, rfl⟩
theorem d1_0 : decode prog_14_method_1_code 0 = .ok (.aload_n 0, 1) := by decide +kernel
theorem d1_1 : decode prog_14_method_1_code 1 = .ok (.invokespecial 1, 3) := by decide +kernel
theorem d1_4 : decode prog_14_method_1_code 4 = .ok (.aload_n 0, 1) := by decide +kernel
theorem d1_5 : decode prog_14_method_1_code 5 = .ok (.lload_n 1, 1) := by decide +kernel
theorem d1_6 : decode prog_14_method_1_code 6 = .ok (.putfield 7, 3) := by decide +kernel
theorem d1_9 : decode prog_14_method_1_code 9 = .ok (.aload_n 0, 1) := by decide +kernel
theorem d1_10 : decode prog_14_method_1_code 10 = .ok (.lload_n 3, 1) := by decide +kernel
theorem d1_11 : decode prog_14_method_1_code 11 = .ok (.putfield 13, 3) := by decide +kernel
theorem d1_14 : decode prog_14_method_1_code 14 = .ok (.return_, 1) := by decide +kernel
theorem pn_1 : plainName "com/example/shardwright/shardwright/index/Version" = true := by first | (simp [plainName, overriddenIn]; done) | decide +kernel
theorem pd_0 : parseMethodDescriptor "()V" = some ⟨[], none⟩ := by decide +kernel
theorem ef_1 (m : MethodId) (x0 : Addr) (x1 : Int64) (x2 : Int64) : entryFrame m #[(.ref x0), (.long x1), (.long x2)] 5 = mkF m 0 #[.val (.ref x0), .val (.long x1), .second, .val (.long x2), .second] [] := by first | (simp [entryFrame, mkF, argsToLocals, Value.category]; done) | rfl
def Q1 (Z : State) (ob : Addr) (ta : Int64) (ua : Int64) (h0 : Heap) (n0 : Nat) (v : Option Value) (h : Heap) (L : List Loc) : Prop := v = none ∧ Fr n0 L ∧ Keep h0 h [ob] ∧ Exa Z h ob "com/example/shardwright/shardwright/index/Version" ∧ Fld Z h ob "com/example/shardwright/shardwright/index/Version" "term" "J" (.long ta) ∧ Fld Z h ob "com/example/shardwright/shardwright/index/Version" "sequence" "J" (.long ua)
set_option maxRecDepth 65536 in
set_option maxHeartbeats 40000000 in
theorem rm1 (l : Launch) (Z : State) (a0 : Array Value) (hw : ∀ d ∈ tables_1, d.before a0 Z = true) (ws : List Jvm.Cond) (ob : Addr) (ta : Int64) (ua : Int64) (h0 : Heap) (n0 : Nat) (Z0 : n0 ≤ h0.size) (I0 : Fld Z h0 ob "com/example/shardwright/shardwright/index/Version" "term" "J" (.long (0 : Int64))) (I1 : Fld Z h0 ob "com/example/shardwright/shardwright/index/Version" "sequence" "J" (.long (0 : Int64))) (I2 : Exa Z h0 ob "com/example/shardwright/shardwright/index/Version") (g_ob : n0 ≤ ob) :
    MetFree l (⟨"com/example/shardwright/shardwright/index/Version", "<init>", "(JJ)V"⟩ : MethodName) (head1 (Jvm.Cond.code (⟨"com/example/shardwright/shardwright/index/Version", "<init>", "(JJ)V"⟩ : MethodName) prog_14_method_1_code 5 none :: ws) ({ frames := 2, cells := 0, slots := 0, locals := 24 } : Room)) (fun a U => a = #[(.ref ob), (.long ta), (.long ua)] ∧ Z.Warmed39 U.vm ∧ U.heap = h0) (fun _ _ _ _ _ => True) (fun _ U o U' => ∃ v L, o = .returned v ∧ Q1 Z ob ta ua h0 n0 v U'.heap L ∧ FrameEnd U o U' L ({ frames := 2, cells := 0, slots := 0, locals := 24 } : Room).cells ({ frames := 2, cells := 0, slots := 0, locals := 24 } : Room).slots) := by
  refine MetFree.of_bodySF (plainFor_of_name pn_1) hisR ?_
  intro p e s m args below meth c s₁ Bd hml0 hP hK
  obtain ⟨rfl, hZ, hh⟩ := hP
  have hx := Bd.exec
  have hby := Bd.bytes
  have hml : c.maxLocals = 5 := hml0
  have hown : s.vm.findClass "com/example/shardwright/shardwright/index/Version" = some m.cls := findClass_of_methodNamed Bd.named
  have hnm := (name_of_methodNamed Bd.named Bd.method).1
  have X0 : Stand p l e ({ frames := 2, cells := 0, slots := 0, locals := 24 } : Room) s m #[(.ref ob), (.long ta), (.long ua)] below meth c s₁ [] 0 0 := Stand.of_body Bd
  have e0 : s₁.heap = h0 := by rw [← hh, Bd.state]; rfl
  have N0 := Fr.nil n0
  have K0 : Keep h0 h0 [ob] := Keep.refl h0 _
  have pre0 : ∀ tq, Steps p.tables e below (s₁.setTop (mkF m 0 #[.val (.ref ob), .val (.long ta), .second, .val (.long ua), .second] [])) tq → Steps p.tables e below (s₁.setTop (entryFrame m #[(.ref ob), (.long ta), (.long ua)] 5)) tq := fun tq kq => castTop (ef_1 m ob ta ua) kq
  obtain ⟨_, _, ⟨T1, L1, k1, n1⟩, -, X1, ⟨Lc1, hQ1, l1, y1, z1⟩, st1⟩ := X0.specialBack hx (y := (⟨"java/lang/Record", "<init>", "()V"⟩ : MethodName)) rfl hown (mvT hZ (hw _ (List.mem_of_getElem? (i := 6) rfl))) (mvT hZ (hw _ (List.mem_of_getElem? (i := 7) rfl))) (mvT hZ (hw _ (List.mem_of_getElem? (i := 10) rfl))) (by decide) (backOf (W := 0) (rm2 l Z a0 hw [] ob h0 n0 Z0 ) hZ (hw _ (List.mem_of_getElem? (i := 10) rfl)) (hw _ (List.mem_of_getElem? (i := 9) rfl)) (by decide) (by decide)) (g := (mkF m 1 #[.val (.ref ob), .val (.long ta), .second, .val (.long ua), .second] [(.ref ob)])) rfl (by rw [hml]; rfl) (Steps.refl _) (a := ob) (argsL := []) (rest := []) (lenOf pd_0 rfl) rfl (by show 2 * 0 + _ ≤ _; exact Nat.le_of_eq rfl) (hb hby d1_1) (fun _ _ => ⟨rfl, e0, (by decide : 0 + 0 ≤ _), (by decide : 0 + 0 ≤ _)⟩)
  dsimp only [Pt.U, Pt.locs, Pt.cells, Pt.slots] at X1 l1 y1 z1 st1 hQ1
  subst l1 y1 z1
  obtain ⟨rfl, N1q, e1⟩ := hQ1
  have N1 := Fr.app N0 N1q
  obtain ⟨T2, hX2, X2, e2, W2, st2⟩ := putF X1 hx hZ hown (host := "") (Or.inl (hw _ (List.mem_of_getElem? (i := 14) rfl))) Via.refl e1 I0 I2 (Or.inr ⟨(hw _ (List.mem_of_getElem? (i := 15) rfl)), rfl, hnm⟩) (hw _ (List.mem_of_getElem? (i := 1) rfl)) (ty := .long) (by decide) rfl rfl (g := (mkF m 6 #[.val (.ref ob), .val (.long ta), .second, .val (.long ua), .second] [(.long ta), (.ref ob)])) rfl rfl (hb hby d1_6)
  have N2 := Fr.snoc X2 N1 g_ob
  have F3 : Fld Z hX2 ob "com/example/shardwright/shardwright/index/Version" "term" "J" (.long ta) := I0.same W2
  have F4 : Fld Z hX2 ob "com/example/shardwright/shardwright/index/Version" "sequence" "J" (.long (0 : Int64)) := I1.other W2 (Or.inr (slot_ne (Or.inr (hw _ (List.mem_of_getElem? (i := 17) rfl))) (Or.inr (hw _ (List.mem_of_getElem? (i := 15) rfl))) (by decide) (t := .long) (t' := .long) (by decide) (by decide)))
  have F5 : Exa Z hX2 ob "com/example/shardwright/shardwright/index/Version" := I2.wr W2
  have Z6 : n0 ≤ hX2.size := Nat.le_trans Z0 (Keep.of_wr W2).1
  have K7 : Keep h0 hX2 [ob] := K0.wr W2 (Or.inl (List.mem_of_getElem? (i := 0) rfl))
  obtain ⟨T8, hX8, X8, e8, W8, st8⟩ := putF X2 hx hZ hown (host := "") (Or.inl (hw _ (List.mem_of_getElem? (i := 16) rfl))) Via.refl e2 F4 F5 (Or.inr ⟨(hw _ (List.mem_of_getElem? (i := 17) rfl)), rfl, hnm⟩) (hw _ (List.mem_of_getElem? (i := 1) rfl)) (ty := .long) (by decide) rfl rfl (g := (mkF m 11 #[.val (.ref ob), .val (.long ta), .second, .val (.long ua), .second] [(.long ua), (.ref ob)])) rfl rfl (hb hby d1_11)
  have N8 := Fr.snoc X8 N2 g_ob
  have F9 : Fld Z hX8 ob "com/example/shardwright/shardwright/index/Version" "sequence" "J" (.long ua) := F4.same W8
  have F10 : Exa Z hX8 ob "com/example/shardwright/shardwright/index/Version" := F5.wr W8
  have F11 : Fld Z hX8 ob "com/example/shardwright/shardwright/index/Version" "term" "J" (.long ta) := F3.other W8 (Or.inr (slot_ne (Or.inr (hw _ (List.mem_of_getElem? (i := 15) rfl))) (Or.inr (hw _ (List.mem_of_getElem? (i := 17) rfl))) (by decide) (t := .long) (t' := .long) (by decide) (by decide)))
  have Z12 : n0 ≤ hX8.size := Nat.le_trans Z6 (Keep.of_wr W8).1
  have K13 : Keep h0 hX8 [ob] := K7.wr W8 (Or.inl (List.mem_of_getElem? (i := 0) rfl))
  obtain ⟨fs, hr, hrun, hended, hW, hsame⟩ := X8.leave (v := none) (fun _ => rfl)
  refine ⟨_, _, pre0 _ ?_, hrun, hended, _, _, rfl, ?_, ⟨_, rfl⟩, hW, hsame.mono (by decide) (by decide)⟩
  · skip
    show Steps p.tables e below (s₁.setTop (mkF m 0 #[.val (.ref ob), .val (.long ta), .second, .val (.long ua), .second] [])) _
    refine XS.aloadN X0.here hx rfl (hb hby d1_0) rfl rfl ?_
    show Steps p.tables e below (s₁.setTop (mkF m 1 #[.val (.ref ob), .val (.long ta), .second, .val (.long ua), .second] [(.ref ob)])) _
    refine st1.trans ?_
    show Steps p.tables e below (T1.setTop (mkF m 4 #[.val (.ref ob), .val (.long ta), .second, .val (.long ua), .second] [])) _
    refine XS.aloadN X1.here hx rfl (hb hby d1_4) rfl rfl ?_
    show Steps p.tables e below (T1.setTop (mkF m 5 #[.val (.ref ob), .val (.long ta), .second, .val (.long ua), .second] [(.ref ob)])) _
    refine XS.lloadN X1.here hx rfl (hb hby d1_5) rfl ?_
    show Steps p.tables e below (T1.setTop (mkF m 6 #[.val (.ref ob), .val (.long ta), .second, .val (.long ua), .second] [(.long ta), (.ref ob)])) _
    refine st2 _ ?_
    show Steps p.tables e below (T2.setTop (mkF m 9 #[.val (.ref ob), .val (.long ta), .second, .val (.long ua), .second] [])) _
    refine XS.aloadN X2.here hx rfl (hb hby d1_9) rfl rfl ?_
    show Steps p.tables e below (T2.setTop (mkF m 10 #[.val (.ref ob), .val (.long ta), .second, .val (.long ua), .second] [(.ref ob)])) _
    refine XS.lloadN X2.here hx rfl (hb hby d1_10) rfl ?_
    show Steps p.tables e below (T2.setTop (mkF m 11 #[.val (.ref ob), .val (.long ta), .second, .val (.long ua), .second] [(.long ua), (.ref ob)])) _
    refine st8 _ ?_
    show Steps p.tables e below (T8.setTop (mkF m 14 #[.val (.ref ob), .val (.long ta), .second, .val (.long ua), .second] [])) _
    exact X8.returnOut hx Bd.returns (hb hby d1_14) hr
  · show Q1 Z ob ta ua h0 n0 _ T8.heap _
    rw [e8]
    exact ⟨rfl, N8, K13, F10, F11, F9⟩
theorem d4_0 : decode prog_14_method_2_code 0 = .ok (.new 8, 3) := by decide +kernel
theorem d4_3 : decode prog_14_method_2_code 3 = .ok (.dup, 1) := by decide +kernel
theorem d4_4 : decode prog_14_method_2_code 4 = .ok (.lload_n 1, 1) := by decide +kernel
theorem d4_5 : decode prog_14_method_2_code 5 = .ok (.aload_n 0, 1) := by decide +kernel
theorem d4_6 : decode prog_14_method_2_code 6 = .ok (.getfield 13, 3) := by decide +kernel
theorem d4_9 : decode prog_14_method_2_code 9 = .ok (.lconst 1, 1) := by decide +kernel
theorem d4_10 : decode prog_14_method_2_code 10 = .ok (.ladd, 1) := by decide +kernel
theorem d4_11 : decode prog_14_method_2_code 11 = .ok (.invokespecial 16, 3) := by decide +kernel
theorem d4_14 : decode prog_14_method_2_code 14 = .ok (.areturn, 1) := by decide +kernel
theorem pn_4 : plainName "com/example/shardwright/shardwright/index/Version" = true := by first | (simp [plainName, overriddenIn]; done) | decide +kernel
theorem pd_1 : parseMethodDescriptor "(JJ)V" = some ⟨[.long, .long], none⟩ := by decide +kernel
theorem ef_4 (m : MethodId) (x0 : Addr) (x1 : Int64) : entryFrame m #[(.ref x0), (.long x1)] 3 = mkF m 0 #[.val (.ref x0), .val (.long x1), .second] [] := by first | (simp [entryFrame, mkF, argsToLocals, Value.category]; done) | rfl
def Q4 (Z : State) (ob : Addr) (ta : Int64) (w2 : Int64) (h0 : Heap) (n0 : Nat) (v : Option Value) (h : Heap) (L : List Loc) : Prop := ∃ RES : Addr, v = some (.ref RES) ∧ Fr n0 L ∧ Keep h0 h [] ∧ n0 ≤ RES ∧ h0.size ≤ RES ∧ Exa Z h RES "com/example/shardwright/shardwright/index/Version" ∧ Fld Z h RES "com/example/shardwright/shardwright/index/Version" "term" "J" (.long ta) ∧ Fld Z h RES "com/example/shardwright/shardwright/index/Version" "sequence" "J" (.long (w2 + (1 : Int64)))
set_option maxRecDepth 65536 in
set_option maxHeartbeats 40000000 in
theorem rm4 (l : Launch) (Z : State) (a0 : Array Value) (hw : ∀ d ∈ tables_1, d.before a0 Z = true) (ws : List Jvm.Cond) (ob : Addr) (ta : Int64) (w2 : Int64) (h0 : Heap) (n0 : Nat) (Z0 : n0 ≤ h0.size) (I0 : Fld Z h0 ob "com/example/shardwright/shardwright/index/Version" "sequence" "J" (.long w2)) :
    MetFree l (⟨"com/example/shardwright/shardwright/index/Version", "next", "(J)Lcom/example/shardwright/shardwright/index/Version;"⟩ : MethodName) (head1 (Jvm.Cond.code (⟨"com/example/shardwright/shardwright/index/Version", "next", "(J)Lcom/example/shardwright/shardwright/index/Version;"⟩ : MethodName) prog_14_method_2_code 3 (some (.object "com/example/shardwright/shardwright/index/Version")) :: ws) ({ frames := 3, cells := 1, slots := 2, locals := 41 } : Room)) (fun a U => a = #[(.ref ob), (.long ta)] ∧ Z.Warmed39 U.vm ∧ U.heap = h0) (fun _ _ _ _ _ => True) (fun _ U o U' => ∃ v L, o = .returned v ∧ Q4 Z ob ta w2 h0 n0 v U'.heap L ∧ FrameEnd U o U' L ({ frames := 3, cells := 1, slots := 2, locals := 41 } : Room).cells ({ frames := 3, cells := 1, slots := 2, locals := 41 } : Room).slots) := by
  refine MetFree.of_bodySF (plainFor_of_name pn_4) hisR ?_
  intro p e s m args below meth c s₁ Bd hml0 hP hK
  obtain ⟨rfl, hZ, hh⟩ := hP
  have hx := Bd.exec
  have hby := Bd.bytes
  have hml : c.maxLocals = 3 := hml0
  have hown : s.vm.findClass "com/example/shardwright/shardwright/index/Version" = some m.cls := findClass_of_methodNamed Bd.named
  have hnm := (name_of_methodNamed Bd.named Bd.method).1
  have X0 : Stand p l e ({ frames := 3, cells := 1, slots := 2, locals := 41 } : Room) s m #[(.ref ob), (.long ta)] below meth c s₁ [] 0 0 := Stand.of_body Bd
  have e0 : s₁.heap = h0 := by rw [← hh, Bd.state]; rfl
  have N0 := Fr.nil n0
  have K0 : Keep h0 h0 [] := Keep.refl h0 _
  have pre0 : ∀ tq, Steps p.tables e below (s₁.setTop (mkF m 0 #[.val (.ref ob), .val (.long ta), .second] [])) tq → Steps p.tables e below (s₁.setTop (entryFrame m #[(.ref ob), (.long ta)] 3)) tq := fun tq kq => castTop (ef_4 m ob ta) kq
  obtain ⟨T1, hX1, X1, e1, E1, A1, D1, -, st1⟩ := newO X0 hx hZ hown (hw _ (List.mem_of_getElem? (i := 23) rfl)) (hw _ (List.mem_of_getElem? (i := 1) rfl)) (hw _ (List.mem_of_getElem? (i := 2) rfl)) e0 (g := (mkF m 0 #[.val (.ref ob), .val (.long ta), .second] [])) rfl (hb hby d4_0) (by decide) (by decide)
  obtain ⟨b1, g1⟩ : ∃ z_q, z_q = h0.size := ⟨_, rfl⟩
  rw [← g1] at A1 D1 st1
  have g_b1 : n0 ≤ b1 := Nat.le_trans Z0 (Nat.le_of_eq g1.symm)
  have sz_b1 : h0.size ≤ b1 := Nat.le_trans K0.1 (Nat.le_of_eq g1.symm)
  have ne_ob_b1 : ob ≠ b1 := Nat.ne_of_lt (Nat.lt_of_lt_of_le I0.lt (Nat.le_of_eq g1.symm))
  have F2 : Fld Z hX1 ob "com/example/shardwright/shardwright/index/Version" "sequence" "J" (.long w2) := I0.ext E1
  have Z3 : n0 ≤ hX1.size := Nat.le_trans Z0 E1.1
  have K4 : Keep h0 hX1 [] := K0.ext E1
  have F5 : Fld Z hX1 b1 "com/example/shardwright/shardwright/index/Version" "term" "J" (.long (0 : Int64)) := D1 (Or.inr (hw _ (List.mem_of_getElem? (i := 15) rfl))) (ty := .long) (by decide)
  have F6 : Fld Z hX1 b1 "com/example/shardwright/shardwright/index/Version" "sequence" "J" (.long (0 : Int64)) := D1 (Or.inr (hw _ (List.mem_of_getElem? (i := 17) rfl))) (ty := .long) (by decide)
  obtain ⟨T7, X7, e7, st7⟩ := getF X1 hx hZ hown (host := "") (Or.inl (hw _ (List.mem_of_getElem? (i := 16) rfl))) Via.refl e1 F2 (g := (mkF m 6 #[.val (.ref ob), .val (.long ta), .second] [(.ref ob), (.long ta), (.ref b1), (.ref b1)])) rfl rfl (hb hby d4_6)
  obtain ⟨_, _, ⟨T8, L8, k8, n8⟩, -, X8, ⟨Lc8, hQ8, l8, y8, z8⟩, st8⟩ := X7.specialBack hx (y := (⟨"com/example/shardwright/shardwright/index/Version", "<init>", "(JJ)V"⟩ : MethodName)) rfl hown (mvT hZ (hw _ (List.mem_of_getElem? (i := 24) rfl))) (mvT hZ (hw _ (List.mem_of_getElem? (i := 4) rfl))) (mvT hZ (hw _ (List.mem_of_getElem? (i := 5) rfl))) (by decide) (backOf (W := 1) (rm1 l Z a0 hw [] b1 ta (w2 + (1 : Int64)) hX1 n0 Z3 F5 F6 A1 g_b1) hZ (hw _ (List.mem_of_getElem? (i := 5) rfl)) (hw _ (List.mem_of_getElem? (i := 2) rfl)) (by decide) (by decide)) (g := (mkF m 11 #[.val (.ref ob), .val (.long ta), .second] [(.long (w2 + (1 : Int64))), (.long ta), (.ref b1), (.ref b1)])) rfl (by rw [hml]; rfl) (Steps.refl _) (a := b1) (argsL := [(.long ta), (.long (w2 + (1 : Int64)))]) (rest := [(.ref b1)]) (lenOf pd_1 rfl) rfl (by show 2 * 0 + _ ≤ _; exact Nat.le_of_eq rfl) (hb hby d4_11) (fun _ _ => ⟨rfl, e7, (by decide : 1 + 0 ≤ _), (by decide : 2 + 0 ≤ _)⟩)
  dsimp only [Pt.U, Pt.locs, Pt.cells, Pt.slots] at X8 l8 y8 z8 st8 hQ8
  subst l8 y8 z8
  obtain ⟨rfl, N8q, K8q, F9, F10, F11⟩ := hQ8
  have N8 := Fr.app N0 N8q
  have F12 : Fld Z T8.heap ob "com/example/shardwright/shardwright/index/Version" "sequence" "J" (.long w2) := F2.keep K8q (ninS ne_ob_b1 nin0)
  have F13 : Exa Z T8.heap b1 "com/example/shardwright/shardwright/index/Version" := A1.keep K8q
  have Z14 : n0 ≤ T8.heap.size := Nat.le_trans Z3 K8q.1
  have K15 : Keep h0 T8.heap [] := K4.trans K8q (allS (Or.inr sz_b1) all0)
  obtain ⟨fs, hr, hrun, hended, hW, hsame⟩ := X8.leave (v := some (Value.ref b1)) (fun h => by rw [Bd.returns] at h; cases h)
  refine ⟨_, _, pre0 _ ?_, hrun, hended, _, _, rfl, ?_, ⟨_, rfl⟩, hW, hsame.mono (by decide) (by decide)⟩
  · skip
    show Steps p.tables e below (s₁.setTop (mkF m 0 #[.val (.ref ob), .val (.long ta), .second] [])) _
    refine st1 _ ?_
    show Steps p.tables e below (T1.setTop (mkF m 3 #[.val (.ref ob), .val (.long ta), .second] [(.ref b1)])) _
    refine XS.dup X1.here hx rfl (hb hby d4_3) rfl rfl ?_
    show Steps p.tables e below (T1.setTop (mkF m 4 #[.val (.ref ob), .val (.long ta), .second] [(.ref b1), (.ref b1)])) _
    refine XS.lloadN X1.here hx rfl (hb hby d4_4) rfl ?_
    show Steps p.tables e below (T1.setTop (mkF m 5 #[.val (.ref ob), .val (.long ta), .second] [(.long ta), (.ref b1), (.ref b1)])) _
    refine XS.aloadN X1.here hx rfl (hb hby d4_5) rfl rfl ?_
    show Steps p.tables e below (T1.setTop (mkF m 6 #[.val (.ref ob), .val (.long ta), .second] [(.ref ob), (.long ta), (.ref b1), (.ref b1)])) _
    refine st7 _ ?_
    show Steps p.tables e below (T7.setTop (mkF m 9 #[.val (.ref ob), .val (.long ta), .second] [(.long w2), (.long ta), (.ref b1), (.ref b1)])) _
    refine XS.lconst X7.here hx rfl (hb hby d4_9) ?_
    show Steps p.tables e below (T7.setTop (mkF m 10 #[.val (.ref ob), .val (.long ta), .second] [(.long (1 : Int64)), (.long w2), (.long ta), (.ref b1), (.ref b1)])) _
    refine XS.ladd X7.here hx rfl (hb hby d4_10) rfl ?_
    show Steps p.tables e below (T7.setTop (mkF m 11 #[.val (.ref ob), .val (.long ta), .second] [(.long (w2 + (1 : Int64))), (.long ta), (.ref b1), (.ref b1)])) _
    refine st8.trans ?_
    show Steps p.tables e below (T8.setTop (mkF m 14 #[.val (.ref ob), .val (.long ta), .second] [(.ref b1)])) _
    exact retOut X8 hx Bd.returns rfl (Or.inr (Or.inr (Or.inr (Or.inr ⟨rfl, rfl, rfl⟩)))) (hb hby d4_14) hr
  · show Q4 Z ob ta w2 h0 n0 _ T8.heap _
    exact ⟨b1, rfl, N8, K15, g_b1, sz_b1, F9, F10, F11⟩
theorem d5_0 : decode prog_14_method_7_code 0 = .ok (.aload_n 0, 1) := by decide +kernel
theorem d5_1 : decode prog_14_method_7_code 1 = .ok (.getfield 7, 3) := by decide +kernel
theorem d5_4 : decode prog_14_method_7_code 4 = .ok (.lreturn, 1) := by decide +kernel
theorem pn_5 : plainName "com/example/shardwright/shardwright/index/Version" = true := by first | (simp [plainName, overriddenIn]; done) | decide +kernel
theorem ef_5 (m : MethodId) (x0 : Addr) : entryFrame m #[(.ref x0)] 1 = mkF m 0 #[.val (.ref x0)] [] := by first | (simp [entryFrame, mkF, argsToLocals, Value.category]; done) | rfl
def Q5 (Z : State) (ob : Addr) (w1 : Int64) (h0 : Heap) (n0 : Nat) (v : Option Value) (h : Heap) (L : List Loc) : Prop := v = some (.long w1) ∧ Fr n0 L ∧ h = h0
set_option maxRecDepth 65536 in
set_option maxHeartbeats 40000000 in
theorem rm5 (l : Launch) (Z : State) (a0 : Array Value) (hw : ∀ d ∈ tables_1, d.before a0 Z = true) (ws : List Jvm.Cond) (ob : Addr) (w1 : Int64) (h0 : Heap) (n0 : Nat) (Z0 : n0 ≤ h0.size) (I0 : Fld Z h0 ob "com/example/shardwright/shardwright/index/Version" "term" "J" (.long w1)) :
    MetFree l (⟨"com/example/shardwright/shardwright/index/Version", "term", "()J"⟩ : MethodName) (head1 (Jvm.Cond.code (⟨"com/example/shardwright/shardwright/index/Version", "term", "()J"⟩ : MethodName) prog_14_method_7_code 1 (some .long) :: ws) ({ frames := 0, cells := 0, slots := 0, locals := 0 } : Room)) (fun a U => a = #[(.ref ob)] ∧ Z.Warmed39 U.vm ∧ U.heap = h0) (fun _ _ _ _ _ => True) (fun _ U o U' => ∃ v L, o = .returned v ∧ Q5 Z ob w1 h0 n0 v U'.heap L ∧ FrameEnd U o U' L ({ frames := 0, cells := 0, slots := 0, locals := 0 } : Room).cells ({ frames := 0, cells := 0, slots := 0, locals := 0 } : Room).slots) := by
  refine MetFree.of_bodySF (plainFor_of_name pn_5) hisR ?_
  intro p e s m args below meth c s₁ Bd hml0 hP hK
  obtain ⟨rfl, hZ, hh⟩ := hP
  have hx := Bd.exec
  have hby := Bd.bytes
  have hml : c.maxLocals = 1 := hml0
  have hown : s.vm.findClass "com/example/shardwright/shardwright/index/Version" = some m.cls := findClass_of_methodNamed Bd.named
  have hnm := (name_of_methodNamed Bd.named Bd.method).1
  have X0 : Stand p l e ({ frames := 0, cells := 0, slots := 0, locals := 0 } : Room) s m #[(.ref ob)] below meth c s₁ [] 0 0 := Stand.of_body Bd
  have e0 : s₁.heap = h0 := by rw [← hh, Bd.state]; rfl
  have N0 := Fr.nil n0
  have K0 : Keep h0 h0 [] := Keep.refl h0 _
  have pre0 : ∀ tq, Steps p.tables e below (s₁.setTop (mkF m 0 #[.val (.ref ob)] [])) tq → Steps p.tables e below (s₁.setTop (entryFrame m #[(.ref ob)] 1)) tq := fun tq kq => castTop (ef_5 m ob) kq
  obtain ⟨T1, X1, e1, st1⟩ := getF X0 hx hZ hown (host := "") (Or.inl (hw _ (List.mem_of_getElem? (i := 14) rfl))) Via.refl e0 I0 (g := (mkF m 1 #[.val (.ref ob)] [(.ref ob)])) rfl rfl (hb hby d5_1)
  obtain ⟨fs, hr, hrun, hended, hW, hsame⟩ := X1.leave (v := some (Value.long w1)) (fun h => by rw [Bd.returns] at h; cases h)
  refine ⟨_, _, pre0 _ ?_, hrun, hended, _, _, rfl, ?_, ⟨_, rfl⟩, hW, hsame.mono (by decide) (by decide)⟩
  · skip
    show Steps p.tables e below (s₁.setTop (mkF m 0 #[.val (.ref ob)] [])) _
    refine XS.aloadN X0.here hx rfl (hb hby d5_0) rfl rfl ?_
    show Steps p.tables e below (s₁.setTop (mkF m 1 #[.val (.ref ob)] [(.ref ob)])) _
    refine st1 _ ?_
    show Steps p.tables e below (T1.setTop (mkF m 4 #[.val (.ref ob)] [(.long w1)])) _
    exact retOut X1 hx Bd.returns rfl (Or.inr (Or.inl ⟨rfl, rfl, _, rfl⟩)) (hb hby d5_4) hr
  · show Q5 Z ob w1 h0 n0 _ T1.heap _
    rw [e1]
    exact ⟨rfl, N0, rfl⟩
theorem d6_0 : decode prog_14_method_8_code 0 = .ok (.aload_n 0, 1) := by decide +kernel
theorem d6_1 : decode prog_14_method_8_code 1 = .ok (.getfield 13, 3) := by decide +kernel
theorem d6_4 : decode prog_14_method_8_code 4 = .ok (.lreturn, 1) := by decide +kernel
theorem pn_6 : plainName "com/example/shardwright/shardwright/index/Version" = true := by first | (simp [plainName, overriddenIn]; done) | decide +kernel
theorem ef_6 (m : MethodId) (x0 : Addr) : entryFrame m #[(.ref x0)] 1 = mkF m 0 #[.val (.ref x0)] [] := by first | (simp [entryFrame, mkF, argsToLocals, Value.category]; done) | rfl
def Q6 (Z : State) (ob : Addr) (w1 : Int64) (h0 : Heap) (n0 : Nat) (v : Option Value) (h : Heap) (L : List Loc) : Prop := v = some (.long w1) ∧ Fr n0 L ∧ h = h0
set_option maxRecDepth 65536 in
set_option maxHeartbeats 40000000 in
theorem rm6 (l : Launch) (Z : State) (a0 : Array Value) (hw : ∀ d ∈ tables_1, d.before a0 Z = true) (ws : List Jvm.Cond) (ob : Addr) (w1 : Int64) (h0 : Heap) (n0 : Nat) (Z0 : n0 ≤ h0.size) (I0 : Fld Z h0 ob "com/example/shardwright/shardwright/index/Version" "sequence" "J" (.long w1)) :
    MetFree l (⟨"com/example/shardwright/shardwright/index/Version", "sequence", "()J"⟩ : MethodName) (head1 (Jvm.Cond.code (⟨"com/example/shardwright/shardwright/index/Version", "sequence", "()J"⟩ : MethodName) prog_14_method_8_code 1 (some .long) :: ws) ({ frames := 0, cells := 0, slots := 0, locals := 0 } : Room)) (fun a U => a = #[(.ref ob)] ∧ Z.Warmed39 U.vm ∧ U.heap = h0) (fun _ _ _ _ _ => True) (fun _ U o U' => ∃ v L, o = .returned v ∧ Q6 Z ob w1 h0 n0 v U'.heap L ∧ FrameEnd U o U' L ({ frames := 0, cells := 0, slots := 0, locals := 0 } : Room).cells ({ frames := 0, cells := 0, slots := 0, locals := 0 } : Room).slots) := by
  refine MetFree.of_bodySF (plainFor_of_name pn_6) hisR ?_
  intro p e s m args below meth c s₁ Bd hml0 hP hK
  obtain ⟨rfl, hZ, hh⟩ := hP
  have hx := Bd.exec
  have hby := Bd.bytes
  have hml : c.maxLocals = 1 := hml0
  have hown : s.vm.findClass "com/example/shardwright/shardwright/index/Version" = some m.cls := findClass_of_methodNamed Bd.named
  have hnm := (name_of_methodNamed Bd.named Bd.method).1
  have X0 : Stand p l e ({ frames := 0, cells := 0, slots := 0, locals := 0 } : Room) s m #[(.ref ob)] below meth c s₁ [] 0 0 := Stand.of_body Bd
  have e0 : s₁.heap = h0 := by rw [← hh, Bd.state]; rfl
  have N0 := Fr.nil n0
  have K0 : Keep h0 h0 [] := Keep.refl h0 _
  have pre0 : ∀ tq, Steps p.tables e below (s₁.setTop (mkF m 0 #[.val (.ref ob)] [])) tq → Steps p.tables e below (s₁.setTop (entryFrame m #[(.ref ob)] 1)) tq := fun tq kq => castTop (ef_6 m ob) kq
  obtain ⟨T1, X1, e1, st1⟩ := getF X0 hx hZ hown (host := "") (Or.inl (hw _ (List.mem_of_getElem? (i := 16) rfl))) Via.refl e0 I0 (g := (mkF m 1 #[.val (.ref ob)] [(.ref ob)])) rfl rfl (hb hby d6_1)
  obtain ⟨fs, hr, hrun, hended, hW, hsame⟩ := X1.leave (v := some (Value.long w1)) (fun h => by rw [Bd.returns] at h; cases h)
  refine ⟨_, _, pre0 _ ?_, hrun, hended, _, _, rfl, ?_, ⟨_, rfl⟩, hW, hsame.mono (by decide) (by decide)⟩
  · skip
    show Steps p.tables e below (s₁.setTop (mkF m 0 #[.val (.ref ob)] [])) _
    refine XS.aloadN X0.here hx rfl (hb hby d6_0) rfl rfl ?_
    show Steps p.tables e below (s₁.setTop (mkF m 1 #[.val (.ref ob)] [(.ref ob)])) _
    refine st1 _ ?_
    show Steps p.tables e below (T1.setTop (mkF m 4 #[.val (.ref ob)] [(.long w1)])) _
    exact retOut X1 hx Bd.returns rfl (Or.inr (Or.inl ⟨rfl, rfl, _, rfl⟩)) (hb hby d6_4) hr
  · show Q6 Z ob w1 h0 n0 _ T1.heap _
    rw [e1]
    exact ⟨rfl, N0, rfl⟩
theorem d8_0 : decode jdk_35_method_42_code 0 = .ok (.lload_n 0, 1) := by decide +kernel
theorem d8_1 : decode jdk_35_method_42_code 1 = .ok (.lload_n 2, 1) := by decide +kernel
theorem d8_2 : decode jdk_35_method_42_code 2 = .ok (.lcmp, 1) := by decide +kernel
theorem d8_3 : decode jdk_35_method_42_code 3 = .ok (.ifCond .ge 7, 3) := by decide +kernel
theorem d8_6 : decode jdk_35_method_42_code 6 = .ok (.iconst (-1), 1) := by decide +kernel
theorem d8_7 : decode jdk_35_method_42_code 7 = .ok (.goto 14, 3) := by decide +kernel
theorem d8_10 : decode jdk_35_method_42_code 10 = .ok (.lload_n 0, 1) := by decide +kernel
theorem d8_11 : decode jdk_35_method_42_code 11 = .ok (.lload_n 2, 1) := by decide +kernel
theorem d8_12 : decode jdk_35_method_42_code 12 = .ok (.lcmp, 1) := by decide +kernel
theorem d8_13 : decode jdk_35_method_42_code 13 = .ok (.ifCond .ne 7, 3) := by decide +kernel
theorem d8_16 : decode jdk_35_method_42_code 16 = .ok (.iconst 0, 1) := by decide +kernel
theorem d8_17 : decode jdk_35_method_42_code 17 = .ok (.goto 4, 3) := by decide +kernel
theorem d8_20 : decode jdk_35_method_42_code 20 = .ok (.iconst 1, 1) := by decide +kernel
theorem d8_21 : decode jdk_35_method_42_code 21 = .ok (.ireturn, 1) := by decide +kernel
theorem pn_8 : plainName "java/lang/Long" = true := by first | (simp [plainName, overriddenIn]; done) | decide +kernel
theorem ef_8 (m : MethodId) (x0 : Int64) (x1 : Int64) : entryFrame m #[(.long x0), (.long x1)] 4 = mkF m 0 #[.val (.long x0), .second, .val (.long x1), .second] [] := by first | (simp [entryFrame, mkF, argsToLocals, Value.category]; done) | rfl
def Q8 (Z : State) (x1 : Int64) (x2 : Int64) (h0 : Heap) (n0 : Nat) (v : Option Value) (h : Heap) (L : List Loc) : Prop := v = some (.int (own_cmp x1 x2)) ∧ Fr n0 L ∧ h = h0
set_option maxRecDepth 65536 in
set_option maxHeartbeats 40000000 in
theorem rm8 (l : Launch) (Z : State) (a0 : Array Value) (hw : ∀ d ∈ tables_1, d.before a0 Z = true) (ws : List Jvm.Cond) (x1 : Int64) (x2 : Int64) (h0 : Heap) (n0 : Nat) (Z0 : n0 ≤ h0.size)  :
    MetFree l (⟨"java/lang/Long", "compare", "(JJ)I"⟩ : MethodName) (head1 (Jvm.Cond.code (⟨"java/lang/Long", "compare", "(JJ)I"⟩ : MethodName) jdk_35_method_42_code 4 (some .int) :: ws) ({ frames := 0, cells := 0, slots := 0, locals := 0 } : Room)) (fun a U => a = #[(.long x1), (.long x2)] ∧ Z.Warmed39 U.vm ∧ U.heap = h0) (fun _ _ _ _ _ => True) (fun _ U o U' => ∃ v L, o = .returned v ∧ Q8 Z x1 x2 h0 n0 v U'.heap L ∧ FrameEnd U o U' L ({ frames := 0, cells := 0, slots := 0, locals := 0 } : Room).cells ({ frames := 0, cells := 0, slots := 0, locals := 0 } : Room).slots) := by
  refine MetFree.of_bodySF (plainFor_of_name pn_8) hisR ?_
  intro p e s m args below meth c s₁ Bd hml0 hP hK
  obtain ⟨rfl, hZ, hh⟩ := hP
  have hx := Bd.exec
  have hby := Bd.bytes
  have hml : c.maxLocals = 4 := hml0
  have hown : s.vm.findClass "java/lang/Long" = some m.cls := findClass_of_methodNamed Bd.named
  have hnm := (name_of_methodNamed Bd.named Bd.method).1
  have X0 : Stand p l e ({ frames := 0, cells := 0, slots := 0, locals := 0 } : Room) s m #[(.long x1), (.long x2)] below meth c s₁ [] 0 0 := Stand.of_body Bd
  have e0 : s₁.heap = h0 := by rw [← hh, Bd.state]; rfl
  have N0 := Fr.nil n0
  have K0 : Keep h0 h0 [] := Keep.refl h0 _
  have pre0 : ∀ tq, Steps p.tables e below (s₁.setTop (mkF m 0 #[.val (.long x1), .second, .val (.long x2), .second] [])) tq → Steps p.tables e below (s₁.setTop (entryFrame m #[(.long x1), (.long x2)] 4)) tq := fun tq kq => castTop (ef_8 m x1 x2) kq
  obtain ⟨m21, hm21⟩ : ∃ z_q : Int32, z_q = (if x1 < x2 then (-1 : Int32) else (if x1 = x2 then (0 : Int32) else (1 : Int32))) := ⟨_, rfl⟩
  have pre3 : ∀ tq, Steps p.tables e below (s₁.setTop (mkF m 21 #[.val (.long x1), .second, .val (.long x2), .second] [(.int m21)])) tq → Steps p.tables e below (s₁.setTop (entryFrame m #[(.long x1), (.long x2)] 4)) tq := by
    intro tq kt
    refine pre0 _ ?_
    show Steps p.tables e below (s₁.setTop (mkF m 0 #[.val (.long x1), .second, .val (.long x2), .second] [])) _
    refine XS.lloadN X0.here hx rfl (hb hby d8_0) rfl ?_
    show Steps p.tables e below (s₁.setTop (mkF m 1 #[.val (.long x1), .second, .val (.long x2), .second] [(.long x1)])) _
    refine XS.lloadN X0.here hx rfl (hb hby d8_1) rfl ?_
    show Steps p.tables e below (s₁.setTop (mkF m 2 #[.val (.long x1), .second, .val (.long x2), .second] [(.long x2), (.long x1)])) _
    refine XS.lcmp X0.here hx rfl (hb hby d8_2) rfl ?_
    by_cases d1 : x1 < x2
    · skip
      show Steps p.tables e below (s₁.setTop (mkF m 3 #[.val (.long x1), .second, .val (.long x2), .second] [(.int (lcmpW x1 x2))])) _
      refine XS.ifNo X0.here hx rfl (hb hby d8_3) rfl ((if0 _ _).trans (tlt ((lw_lt x1 x2).2 d1)).2.1) ?_
      show Steps p.tables e below (s₁.setTop (mkF m 6 #[.val (.long x1), .second, .val (.long x2), .second] [])) _
      refine XS.iconst X0.here hx rfl (hb hby d8_6) ?_
      show Steps p.tables e below (s₁.setTop (mkF m 7 #[.val (.long x1), .second, .val (.long x2), .second] [(.int (-1 : Int32))])) _
      refine XS.goto X0.here hx rfl (pc0 := 7) (pc' := 21) rfl (hb hby d8_7) (by decide) (by decide) ?_
      show Steps p.tables e below (s₁.setTop (mkF m 21 #[.val (.long x1), .second, .val (.long x2), .second] [(.int (-1 : Int32))])) _
      exact castTop (by simp only [hm21, if_pos d1]) kt
    · skip
      show Steps p.tables e below (s₁.setTop (mkF m 3 #[.val (.long x1), .second, .val (.long x2), .second] [(.int (lcmpW x1 x2))])) _
      refine XS.ifYes X0.here hx rfl (pc0 := 3) (pc' := 10) rfl (hb hby d8_3) rfl ((if0 _ _).trans (flt (mt (lw_lt x1 x2).1 d1)).2.1) (by decide) (by decide) ?_
      show Steps p.tables e below (s₁.setTop (mkF m 10 #[.val (.long x1), .second, .val (.long x2), .second] [])) _
      refine XS.lloadN X0.here hx rfl (hb hby d8_10) rfl ?_
      show Steps p.tables e below (s₁.setTop (mkF m 11 #[.val (.long x1), .second, .val (.long x2), .second] [(.long x1)])) _
      refine XS.lloadN X0.here hx rfl (hb hby d8_11) rfl ?_
      show Steps p.tables e below (s₁.setTop (mkF m 12 #[.val (.long x1), .second, .val (.long x2), .second] [(.long x2), (.long x1)])) _
      refine XS.lcmp X0.here hx rfl (hb hby d8_12) rfl ?_
      by_cases d2 : x1 = x2
      · skip
        show Steps p.tables e below (s₁.setTop (mkF m 13 #[.val (.long x1), .second, .val (.long x2), .second] [(.int (lcmpW x1 x2))])) _
        refine XS.ifNo X0.here hx rfl (hb hby d8_13) rfl ((if0 _ _).trans (teq ((lw_eq x1 x2).2 d2)).2) ?_
        show Steps p.tables e below (s₁.setTop (mkF m 16 #[.val (.long x1), .second, .val (.long x2), .second] [])) _
        refine XS.iconst X0.here hx rfl (hb hby d8_16) ?_
        show Steps p.tables e below (s₁.setTop (mkF m 17 #[.val (.long x1), .second, .val (.long x2), .second] [(.int (0 : Int32))])) _
        refine XS.goto X0.here hx rfl (pc0 := 17) (pc' := 21) rfl (hb hby d8_17) (by decide) (by decide) ?_
        show Steps p.tables e below (s₁.setTop (mkF m 21 #[.val (.long x1), .second, .val (.long x2), .second] [(.int (0 : Int32))])) _
        exact castTop (by simp only [hm21, if_neg d1, if_pos d2]) kt
      · skip
        show Steps p.tables e below (s₁.setTop (mkF m 13 #[.val (.long x1), .second, .val (.long x2), .second] [(.int (lcmpW x1 x2))])) _
        refine XS.ifYes X0.here hx rfl (pc0 := 13) (pc' := 20) rfl (hb hby d8_13) rfl ((if0 _ _).trans (feq (mt (lw_eq x1 x2).1 d2)).2) (by decide) (by decide) ?_
        show Steps p.tables e below (s₁.setTop (mkF m 20 #[.val (.long x1), .second, .val (.long x2), .second] [])) _
        refine XS.iconst X0.here hx rfl (hb hby d8_20) ?_
        show Steps p.tables e below (s₁.setTop (mkF m 21 #[.val (.long x1), .second, .val (.long x2), .second] [(.int (1 : Int32))])) _
        exact castTop (by simp only [hm21, if_neg d1, if_neg d2]) kt
  obtain ⟨fs, hr, hrun, hended, hW, hsame⟩ := X0.leave (v := some (Value.int m21)) (fun h => by rw [Bd.returns] at h; cases h)
  have hres4 : m21 = (own_cmp x1 x2) := by subst_vars; rfl
  refine ⟨_, _, pre3 _ ?_, hrun, hended, _, _, rfl, ?_, ⟨_, rfl⟩, hW, hsame.mono (by decide) (by decide)⟩
  · skip
    show Steps p.tables e below (s₁.setTop (mkF m 21 #[.val (.long x1), .second, .val (.long x2), .second] [(.int m21)])) _
    exact retI X0 hx Bd.returns (hb hby d8_21) hr
  · show Q8 Z x1 x2 h0 n0 _ s₁.heap _
    rw [e0]
    exact ⟨congrArg (fun z => some (Value.int z)) hres4, N0, rfl⟩
theorem d7_0 : decode prog_14_method_3_code 0 = .ok (.aload_n 0, 1) := by decide +kernel
theorem d7_1 : decode prog_14_method_3_code 1 = .ok (.getfield 7, 3) := by decide +kernel
theorem d7_4 : decode prog_14_method_3_code 4 = .ok (.aload_n 1, 1) := by decide +kernel
theorem d7_5 : decode prog_14_method_3_code 5 = .ok (.getfield 7, 3) := by decide +kernel
theorem d7_8 : decode prog_14_method_3_code 8 = .ok (.invokestatic 19, 3) := by decide +kernel
theorem d7_11 : decode prog_14_method_3_code 11 = .ok (.istore_n 2, 1) := by decide +kernel
theorem d7_12 : decode prog_14_method_3_code 12 = .ok (.iload_n 2, 1) := by decide +kernel
theorem d7_13 : decode prog_14_method_3_code 13 = .ok (.ifCond .eq 7, 3) := by decide +kernel
theorem d7_16 : decode prog_14_method_3_code 16 = .ok (.iload_n 2, 1) := by decide +kernel
theorem d7_17 : decode prog_14_method_3_code 17 = .ok (.goto 14, 3) := by decide +kernel
theorem d7_20 : decode prog_14_method_3_code 20 = .ok (.aload_n 0, 1) := by decide +kernel
theorem d7_21 : decode prog_14_method_3_code 21 = .ok (.getfield 13, 3) := by decide +kernel
theorem d7_24 : decode prog_14_method_3_code 24 = .ok (.aload_n 1, 1) := by decide +kernel
theorem d7_25 : decode prog_14_method_3_code 25 = .ok (.getfield 13, 3) := by decide +kernel
theorem d7_28 : decode prog_14_method_3_code 28 = .ok (.invokestatic 19, 3) := by decide +kernel
theorem d7_31 : decode prog_14_method_3_code 31 = .ok (.ireturn, 1) := by decide +kernel
theorem pn_7 : plainName "com/example/shardwright/shardwright/index/Version" = true := by first | (simp [plainName, overriddenIn]; done) | decide +kernel
theorem pd_2 : parseMethodDescriptor "(JJ)I" = some ⟨[.long, .long], some .int⟩ := by decide +kernel
theorem ef_7 (m : MethodId) (x0 : Addr) (x1 : Addr) : entryFrame m #[(.ref x0), (.ref x1)] 3 = mkF m 0 #[.val (.ref x0), .val (.ref x1), .unset] [] := by first | (simp [entryFrame, mkF, argsToLocals, Value.category]; done) | rfl
theorem own_leaf_7_31_t (w1 : Int64) (w2 : Int64) (w3 : Int64) (w4 : Int64) (r8 : Int32) (hr8 : r8 = (own_cmp w1 w3)) (hc13_5 : r8 = (0 : Int32)) (r28 : Int32) (hr28 : r28 = (own_cmp w2 w4)) : r28 = (own_cmp2 w1 w2 w3 w4) := by simp_all [own_cmp2]
theorem own_leaf_7_31_f (w1 : Int64) (w2 : Int64) (w3 : Int64) (w4 : Int64) (r8 : Int32) (hr8 : r8 = (own_cmp w1 w3)) (hc13_5 : ¬ (r8 = (0 : Int32))) : r8 = (own_cmp2 w1 w2 w3 w4) := by simp_all [own_cmp2]
def Q7 (Z : State) (ob : Addr) (o2 : Addr) (w1 : Int64) (w2 : Int64) (w3 : Int64) (w4 : Int64) (h0 : Heap) (n0 : Nat) (v : Option Value) (h : Heap) (L : List Loc) : Prop := v = some (.int (own_cmp2 w1 w2 w3 w4)) ∧ Fr n0 L ∧ h = h0
set_option maxRecDepth 65536 in
set_option maxHeartbeats 40000000 in
theorem rm7 (l : Launch) (Z : State) (a0 : Array Value) (hw : ∀ d ∈ tables_1, d.before a0 Z = true) (ws : List Jvm.Cond) (ob : Addr) (o2 : Addr) (w1 : Int64) (w2 : Int64) (w3 : Int64) (w4 : Int64) (h0 : Heap) (n0 : Nat) (Z0 : n0 ≤ h0.size) (I0 : Fld Z h0 ob "com/example/shardwright/shardwright/index/Version" "term" "J" (.long w1)) (I1 : Fld Z h0 ob "com/example/shardwright/shardwright/index/Version" "sequence" "J" (.long w2)) (I2 : Fld Z h0 o2 "com/example/shardwright/shardwright/index/Version" "term" "J" (.long w3)) (I3 : Fld Z h0 o2 "com/example/shardwright/shardwright/index/Version" "sequence" "J" (.long w4)) :
    MetFree l (⟨"com/example/shardwright/shardwright/index/Version", "compareTo", "(Lcom/example/shardwright/shardwright/index/Version;)I"⟩ : MethodName) (head1 (Jvm.Cond.code (⟨"com/example/shardwright/shardwright/index/Version", "compareTo", "(Lcom/example/shardwright/shardwright/index/Version;)I"⟩ : MethodName) prog_14_method_3_code 3 (some .int) :: ws) ({ frames := 1, cells := 0, slots := 0, locals := 15 } : Room)) (fun a U => a = #[(.ref ob), (.ref o2)] ∧ Z.Warmed39 U.vm ∧ U.heap = h0) (fun _ _ _ _ _ => True) (fun _ U o U' => ∃ v L, o = .returned v ∧ Q7 Z ob o2 w1 w2 w3 w4 h0 n0 v U'.heap L ∧ FrameEnd U o U' L ({ frames := 1, cells := 0, slots := 0, locals := 15 } : Room).cells ({ frames := 1, cells := 0, slots := 0, locals := 15 } : Room).slots) := by
  refine MetFree.of_bodySF (plainFor_of_name pn_7) hisR ?_
  intro p e s m args below meth c s₁ Bd hml0 hP hK
  obtain ⟨rfl, hZ, hh⟩ := hP
  have hx := Bd.exec
  have hby := Bd.bytes
  have hml : c.maxLocals = 3 := hml0
  have hown : s.vm.findClass "com/example/shardwright/shardwright/index/Version" = some m.cls := findClass_of_methodNamed Bd.named
  have hnm := (name_of_methodNamed Bd.named Bd.method).1
  have X0 : Stand p l e ({ frames := 1, cells := 0, slots := 0, locals := 15 } : Room) s m #[(.ref ob), (.ref o2)] below meth c s₁ [] 0 0 := Stand.of_body Bd
  have e0 : s₁.heap = h0 := by rw [← hh, Bd.state]; rfl
  have N0 := Fr.nil n0
  have K0 : Keep h0 h0 [] := Keep.refl h0 _
  have pre0 : ∀ tq, Steps p.tables e below (s₁.setTop (mkF m 0 #[.val (.ref ob), .val (.ref o2), .unset] [])) tq → Steps p.tables e below (s₁.setTop (entryFrame m #[(.ref ob), (.ref o2)] 3)) tq := fun tq kq => castTop (ef_7 m ob o2) kq
  obtain ⟨T1, X1, e1, st1⟩ := getF X0 hx hZ hown (host := "") (Or.inl (hw _ (List.mem_of_getElem? (i := 14) rfl))) Via.refl e0 I0 (g := (mkF m 1 #[.val (.ref ob), .val (.ref o2), .unset] [(.ref ob)])) rfl rfl (hb hby d7_1)
  obtain ⟨T2, X2, e2, st2⟩ := getF X1 hx hZ hown (host := "") (Or.inl (hw _ (List.mem_of_getElem? (i := 14) rfl))) Via.refl e1 I2 (g := (mkF m 5 #[.val (.ref ob), .val (.ref o2), .unset] [(.ref o2), (.long w1)])) rfl rfl (hb hby d7_5)
  obtain ⟨_, _, ⟨T3, L3, k3, n3⟩, -, X3, ⟨Lc3, hQ3, l3, y3, z3⟩, st3⟩ := Jvm.LawKit.callS X2 hx (y := (⟨"java/lang/Long", "compare", "(JJ)I"⟩ : MethodName)) hown (mvT hZ (hw _ (List.mem_of_getElem? (i := 41) rfl))) (mvT hZ (hw _ (List.mem_of_getElem? (i := 42) rfl))) (mvT hZ (hw _ (List.mem_of_getElem? (i := 43) rfl))) (mvT hZ (hw _ (List.mem_of_getElem? (i := 44) rfl))) (by decide) (backOf (W := 0) (rm8 l Z a0 hw [] w1 w3 h0 n0 Z0 ) hZ (hw _ (List.mem_of_getElem? (i := 44) rfl)) (hw _ (List.mem_of_getElem? (i := 43) rfl)) (by decide) (by decide)) (g := (mkF m 8 #[.val (.ref ob), .val (.ref o2), .unset] [(.long w3), (.long w1)])) rfl (by rw [hml]; rfl) (argsL := [(.long w1), (.long w3)]) (rest := []) (lenOf pd_2 rfl) rfl (by show 2 * 0 + _ ≤ _; exact Nat.le_of_eq rfl) (hb hby d7_8) (fun _ _ => ⟨rfl, e2, (by decide : 0 + 0 ≤ _), (by decide : 0 + 0 ≤ _)⟩)
  dsimp only [Pt.U, Pt.locs, Pt.cells, Pt.slots] at X3 l3 y3 z3 st3 hQ3
  subst l3 y3 z3
  obtain ⟨rfl, N3q, e3⟩ := hQ3
  have N3 := Fr.app N0 N3q
  obtain ⟨r8, hr8⟩ : ∃ z_q : Int32, z_q = (own_cmp w1 w3) := ⟨_, rfl⟩
  have pre4 : ∀ tq, Steps p.tables e below (T3.setTop (mkF m 13 #[.val (.ref ob), .val (.ref o2), .val (.int r8)] [(.int r8)])) tq → Steps p.tables e below (s₁.setTop (entryFrame m #[(.ref ob), (.ref o2)] 3)) tq := by
    intro tq kt
    refine pre0 _ ?_
    show Steps p.tables e below (s₁.setTop (mkF m 0 #[.val (.ref ob), .val (.ref o2), .unset] [])) _
    refine XS.aloadN X0.here hx rfl (hb hby d7_0) rfl rfl ?_
    show Steps p.tables e below (s₁.setTop (mkF m 1 #[.val (.ref ob), .val (.ref o2), .unset] [(.ref ob)])) _
    refine st1 _ ?_
    show Steps p.tables e below (T1.setTop (mkF m 4 #[.val (.ref ob), .val (.ref o2), .unset] [(.long w1)])) _
    refine XS.aloadN X1.here hx rfl (hb hby d7_4) rfl rfl ?_
    show Steps p.tables e below (T1.setTop (mkF m 5 #[.val (.ref ob), .val (.ref o2), .unset] [(.ref o2), (.long w1)])) _
    refine st2 _ ?_
    show Steps p.tables e below (T2.setTop (mkF m 8 #[.val (.ref ob), .val (.ref o2), .unset] [(.long w3), (.long w1)])) _
    refine st3 _ ?_
    show Steps p.tables e below (T3.setTop (mkF m 11 #[.val (.ref ob), .val (.ref o2), .unset] [(.int (own_cmp w1 w3))])) _
    rw [← hr8]
    show Steps p.tables e below (T3.setTop (mkF m 11 #[.val (.ref ob), .val (.ref o2), .unset] [(.int r8)])) _
    refine XS.istoreN X3.here hx rfl (hb hby d7_11) rfl (l' := #[.val (.ref ob), .val (.ref o2), .val (.int r8)]) rfl ?_
    show Steps p.tables e below (T3.setTop (mkF m 12 #[.val (.ref ob), .val (.ref o2), .val (.int r8)] [])) _
    refine XS.iloadN X3.here hx rfl (hb hby d7_12) rfl ?_
    show Steps p.tables e below (T3.setTop (mkF m 13 #[.val (.ref ob), .val (.ref o2), .val (.int r8)] [(.int r8)])) _
    exact kt
  by_cases hc13_5 : r8 = (0 : Int32)
  · skip
    obtain ⟨T6, X6, e6, st6⟩ := getF X3 hx hZ hown (host := "") (Or.inl (hw _ (List.mem_of_getElem? (i := 16) rfl))) Via.refl e3 I1 (g := (mkF m 21 #[.val (.ref ob), .val (.ref o2), .val (.int r8)] [(.ref ob)])) rfl rfl (hb hby d7_21)
    obtain ⟨T7, X7, e7, st7⟩ := getF X6 hx hZ hown (host := "") (Or.inl (hw _ (List.mem_of_getElem? (i := 16) rfl))) Via.refl e6 I3 (g := (mkF m 25 #[.val (.ref ob), .val (.ref o2), .val (.int r8)] [(.ref o2), (.long w2)])) rfl rfl (hb hby d7_25)
    obtain ⟨_, _, ⟨T8, L8, k8, n8⟩, -, X8, ⟨Lc8, hQ8, l8, y8, z8⟩, st8⟩ := Jvm.LawKit.callS X7 hx (y := (⟨"java/lang/Long", "compare", "(JJ)I"⟩ : MethodName)) hown (mvT hZ (hw _ (List.mem_of_getElem? (i := 41) rfl))) (mvT hZ (hw _ (List.mem_of_getElem? (i := 42) rfl))) (mvT hZ (hw _ (List.mem_of_getElem? (i := 43) rfl))) (mvT hZ (hw _ (List.mem_of_getElem? (i := 44) rfl))) (by decide) (backOf (W := 0) (rm8 l Z a0 hw [] w2 w4 h0 n0 Z0 ) hZ (hw _ (List.mem_of_getElem? (i := 44) rfl)) (hw _ (List.mem_of_getElem? (i := 43) rfl)) (by decide) (by decide)) (g := (mkF m 28 #[.val (.ref ob), .val (.ref o2), .val (.int r8)] [(.long w4), (.long w2)])) rfl (by rw [hml]; rfl) (argsL := [(.long w2), (.long w4)]) (rest := []) (lenOf pd_2 rfl) rfl (by show 2 * 0 + _ ≤ _; exact Nat.le_of_eq rfl) (hb hby d7_28) (fun _ _ => ⟨rfl, e7, (by decide : 0 + 0 ≤ _), (by decide : 0 + 0 ≤ _)⟩)
    dsimp only [Pt.U, Pt.locs, Pt.cells, Pt.slots] at X8 l8 y8 z8 st8 hQ8
    subst l8 y8 z8
    obtain ⟨rfl, N8q, e8⟩ := hQ8
    have N8 := Fr.app N3 N8q
    obtain ⟨r28, hr28⟩ : ∃ z_q : Int32, z_q = (own_cmp w2 w4) := ⟨_, rfl⟩
    obtain ⟨fs, hr, hrun, hended, hW, hsame⟩ := X8.leave (v := some (Value.int r28)) (fun h => by rw [Bd.returns] at h; cases h)
    have hres9 : r28 = (own_cmp2 w1 w2 w3 w4) := (own_leaf_7_31_t w1 w2 w3 w4 r8 hr8 hc13_5 r28 hr28)
    refine ⟨_, _, pre4 _ ?_, hrun, hended, _, _, rfl, ?_, ⟨_, rfl⟩, hW, hsame.mono (by decide) (by decide)⟩
    · skip
      show Steps p.tables e below (T3.setTop (mkF m 13 #[.val (.ref ob), .val (.ref o2), .val (.int r8)] [(.int r8)])) _
      refine XS.ifYes X3.here hx rfl (pc0 := 13) (pc' := 20) rfl (hb hby d7_13) rfl ((if0 _ _).trans (teq hc13_5).1) (by decide) (by decide) ?_
      show Steps p.tables e below (T3.setTop (mkF m 20 #[.val (.ref ob), .val (.ref o2), .val (.int r8)] [])) _
      refine XS.aloadN X3.here hx rfl (hb hby d7_20) rfl rfl ?_
      show Steps p.tables e below (T3.setTop (mkF m 21 #[.val (.ref ob), .val (.ref o2), .val (.int r8)] [(.ref ob)])) _
      refine st6 _ ?_
      show Steps p.tables e below (T6.setTop (mkF m 24 #[.val (.ref ob), .val (.ref o2), .val (.int r8)] [(.long w2)])) _
      refine XS.aloadN X6.here hx rfl (hb hby d7_24) rfl rfl ?_
      show Steps p.tables e below (T6.setTop (mkF m 25 #[.val (.ref ob), .val (.ref o2), .val (.int r8)] [(.ref o2), (.long w2)])) _
      refine st7 _ ?_
      show Steps p.tables e below (T7.setTop (mkF m 28 #[.val (.ref ob), .val (.ref o2), .val (.int r8)] [(.long w4), (.long w2)])) _
      refine st8 _ ?_
      show Steps p.tables e below (T8.setTop (mkF m 31 #[.val (.ref ob), .val (.ref o2), .val (.int r8)] [(.int (own_cmp w2 w4))])) _
      rw [← hr28]
      show Steps p.tables e below (T8.setTop (mkF m 31 #[.val (.ref ob), .val (.ref o2), .val (.int r8)] [(.int r28)])) _
      exact retI X8 hx Bd.returns (hb hby d7_31) hr
    · show Q7 Z ob o2 w1 w2 w3 w4 h0 n0 _ T8.heap _
      rw [e8]
      exact ⟨congrArg (fun z => some (Value.int z)) hres9, N8, rfl⟩
  · skip
    obtain ⟨fs, hr, hrun, hended, hW, hsame⟩ := X3.leave (v := some (Value.int r8)) (fun h => by rw [Bd.returns] at h; cases h)
    have hres10 : r8 = (own_cmp2 w1 w2 w3 w4) := (own_leaf_7_31_f w1 w2 w3 w4 r8 hr8 hc13_5)
    refine ⟨_, _, pre4 _ ?_, hrun, hended, _, _, rfl, ?_, ⟨_, rfl⟩, hW, hsame.mono (by decide) (by decide)⟩
    · skip
      show Steps p.tables e below (T3.setTop (mkF m 13 #[.val (.ref ob), .val (.ref o2), .val (.int r8)] [(.int r8)])) _
      refine XS.ifNo X3.here hx rfl (hb hby d7_13) rfl ((if0 _ _).trans (feq hc13_5).1) ?_
      show Steps p.tables e below (T3.setTop (mkF m 16 #[.val (.ref ob), .val (.ref o2), .val (.int r8)] [])) _
      refine XS.iloadN X3.here hx rfl (hb hby d7_16) rfl ?_
      show Steps p.tables e below (T3.setTop (mkF m 17 #[.val (.ref ob), .val (.ref o2), .val (.int r8)] [(.int r8)])) _
      refine XS.goto X3.here hx rfl (pc0 := 17) (pc' := 31) rfl (hb hby d7_17) (by decide) (by decide) ?_
      show Steps p.tables e below (T3.setTop (mkF m 31 #[.val (.ref ob), .val (.ref o2), .val (.int r8)] [(.int r8)])) _
      exact retI X3 hx Bd.returns (hb hby d7_31) hr
    · show Q7 Z ob o2 w1 w2 w3 w4 h0 n0 _ T3.heap _
      rw [e3]
      exact ⟨congrArg (fun z => some (Value.int z)) hres10, N3, rfl⟩
theorem pn_0 : plainName "com/example/shardwright/shardwright/index/VersionNextPinLaw" = true := by first | (simp [plainName, overriddenIn]; done) | decide +kernel
theorem pd_3 : parseMethodDescriptor "(J)Lcom/example/shardwright/shardwright/index/Version;" = some ⟨[.long], some (.object "com/example/shardwright/shardwright/index/Version")⟩ := by decide +kernel
theorem pd_4 : parseMethodDescriptor "()J" = some ⟨[], some .long⟩ := by decide +kernel
theorem pd_5 : parseMethodDescriptor "(Lcom/example/shardwright/shardwright/index/Version;)I" = some ⟨[(.object "com/example/shardwright/shardwright/index/Version")], some .int⟩ := by decide +kernel
theorem ef_0 (m : MethodId) (x0 : Int64) (x1 : Int64) (x2 : Int64) : entryFrame m #[(.long x0), (.long x1), (.long x2)] maxLocals = mkF m 0 #[.val (.long x0), .second, .val (.long x1), .second, .val (.long x2), .second, .unset, .unset, .unset, .unset, .unset] [] := by first | (simp [entryFrame, mkF, argsToLocals, Value.category, maxLocals]; done) | rfl
theorem own_leaf_0_139_t (ta : Int64) (ua : Int64) (ka : Int64) (r40 : Int64) (hr40 : r40 = (ua + (1 : Int64))) (m55 : Int32) (hm55 : m55 = (if r40 = (ua + (1 : Int64)) then (1 : Int32) else (0 : Int32))) (hc91_29 : ka < ta) (m139 : Int32) (hm139 : m139 = (if m55 = (0 : Int32) then (0 : Int32) else (1 : Int32))) : (nar .boolean m139) = (1 : Int32) := by
  rw [hm139, hm55, if_pos hr40]; rfl
theorem own_leaf_0_139_ft (ta : Int64) (ua : Int64) (ka : Int64) (r40 : Int64) (hr40 : r40 = (ua + (1 : Int64))) (m55 : Int32) (hm55 : m55 = (if r40 = (ua + (1 : Int64)) then (1 : Int32) else (0 : Int32))) (hc91_29 : ¬ (ka < ta)) (hc99_34 : ua = (9223372036854775807 : Int64)) (m139 : Int32) (hm139 : m139 = (if m55 = (0 : Int32) then (0 : Int32) else (1 : Int32))) : (nar .boolean m139) = (1 : Int32) := by
  rw [hm139, hm55, if_pos hr40]; rfl
theorem own_leaf_0_139_ff (ta : Int64) (ua : Int64) (ka : Int64) (r40 : Int64) (hr40 : r40 = (ua + (1 : Int64))) (m55 : Int32) (hm55 : m55 = (if r40 = (ua + (1 : Int64)) then (1 : Int32) else (0 : Int32))) (hc91_29 : ¬ (ka < ta)) (hc99_34 : ¬ (ua = (9223372036854775807 : Int64))) (r106 : Int32) (hr106 : r106 = (own_cmp2 ta ua ka (ua + (1 : Int64)))) (m117 : Int32) (hm117 : m117 = (if r106 < (0 : Int32) then (1 : Int32) else (0 : Int32))) (m139 : Int32) (hm139 : m139 = (if m55 = (0 : Int32) then (0 : Int32) else (if m117 = (0 : Int32) then (0 : Int32) else (1 : Int32)))) : (nar .boolean m139) = (1 : Int32) := by
  have hl : r106 < (0 : Int32) := by rw [hr106]; exact own_later _ _ _ hc91_29 hc99_34
  rw [hm139, hm117, if_pos hl, hm55, if_pos hr40]; rfl
def Q0 (Z : State) (ta : Int64) (ua : Int64) (ka : Int64) (h0 : Heap) (n0 : Nat) (v : Option Value) (h : Heap) (L : List Loc) : Prop := v = some (.int (1 : Int32)) ∧ Fr n0 L
set_option maxRecDepth 65536 in
set_option maxHeartbeats 40000000 in
theorem rm0 (l : Launch) (Z : State) (a0 : Array Value) (hw : ∀ d ∈ tables_1, d.before a0 Z = true) (ws : List Jvm.Cond) (ta : Int64) (ua : Int64) (ka : Int64) (h0 : Heap) (n0 : Nat) (Z0 : n0 ≤ h0.size)  :
    MetFree l x (head1 (Jvm.Cond.code x code maxLocals ret :: ws) room_1) (fun a U => a = #[(.long ta), (.long ua), (.long ka)] ∧ Z.Warmed39 U.vm ∧ U.heap = h0) (fun _ _ _ _ _ => True) (fun _ U o U' => ∃ v L, o = .returned v ∧ Q0 Z ta ua ka h0 n0 v U'.heap L ∧ FrameEnd U o U' L room_1.cells room_1.slots) := by
  refine MetFree.of_bodySF (plainFor_of_name pn_0) hisR ?_
  intro p e s m args below meth c s₁ Bd hml0 hP hK
  obtain ⟨rfl, hZ, hh⟩ := hP
  have hx := Bd.exec
  have hby := Bd.bytes
  have hml : c.maxLocals = 11 := hml0
  have hown : s.vm.findClass "com/example/shardwright/shardwright/index/VersionNextPinLaw" = some m.cls := findClass_of_methodNamed Bd.named
  have hnm := (name_of_methodNamed Bd.named Bd.method).1
  have X0 : Stand p l e room_1 s m #[(.long ta), (.long ua), (.long ka)] below meth c s₁ [] 0 0 := Stand.of_body Bd
  have e0 : s₁.heap = h0 := by rw [← hh, Bd.state]; rfl
  have N0 := Fr.nil n0
  have K0 : Keep h0 h0 [] := Keep.refl h0 _
  have pre0 : ∀ tq, Steps p.tables e below (s₁.setTop (mkF m 0 #[.val (.long ta), .second, .val (.long ua), .second, .val (.long ka), .second, .unset, .unset, .unset, .unset, .unset] [])) tq → Steps p.tables e below (s₁.setTop (entryFrame m #[(.long ta), (.long ua), (.long ka)] maxLocals)) tq := fun tq kq => castTop (ef_0 m ta ua ka) kq
  obtain ⟨T1, hX1, X1, e1, E1, A1, D1, -, st1⟩ := newO X0 hx hZ hown (hw _ (List.mem_of_getElem? (i := 0) rfl)) (hw _ (List.mem_of_getElem? (i := 1) rfl)) (hw _ (List.mem_of_getElem? (i := 2) rfl)) e0 (g := (mkF m 0 #[.val (.long ta), .second, .val (.long ua), .second, .val (.long ka), .second, .unset, .unset, .unset, .unset, .unset] [])) rfl (hb hby at_0) (by decide) (by decide)
  obtain ⟨b1, g1⟩ : ∃ z_q, z_q = h0.size := ⟨_, rfl⟩
  rw [← g1] at A1 D1 st1
  have g_b1 : n0 ≤ b1 := Nat.le_trans Z0 (Nat.le_of_eq g1.symm)
  have sz_b1 : h0.size ≤ b1 := Nat.le_trans K0.1 (Nat.le_of_eq g1.symm)
  have Z2 : n0 ≤ hX1.size := Nat.le_trans Z0 E1.1
  have K3 : Keep h0 hX1 [] := K0.ext E1
  have F4 : Fld Z hX1 b1 "com/example/shardwright/shardwright/index/Version" "term" "J" (.long (0 : Int64)) := D1 (Or.inr (hw _ (List.mem_of_getElem? (i := 15) rfl))) (ty := .long) (by decide)
  have F5 : Fld Z hX1 b1 "com/example/shardwright/shardwright/index/Version" "sequence" "J" (.long (0 : Int64)) := D1 (Or.inr (hw _ (List.mem_of_getElem? (i := 17) rfl))) (ty := .long) (by decide)
  obtain ⟨_, _, ⟨T6, L6, k6, n6⟩, -, X6, ⟨Lc6, hQ6, l6, y6, z6⟩, st6⟩ := X1.specialBack hx (y := (⟨"com/example/shardwright/shardwright/index/Version", "<init>", "(JJ)V"⟩ : MethodName)) rfl hown (mvT hZ (hw _ (List.mem_of_getElem? (i := 3) rfl))) (mvT hZ (hw _ (List.mem_of_getElem? (i := 4) rfl))) (mvT hZ (hw _ (List.mem_of_getElem? (i := 5) rfl))) (by decide) (backOf (W := 1) (rm1 l Z a0 hw [] b1 ta ua hX1 n0 Z2 F4 F5 A1 g_b1) hZ (hw _ (List.mem_of_getElem? (i := 5) rfl)) (hw _ (List.mem_of_getElem? (i := 2) rfl)) (by decide) (by decide)) (g := (mkF m 6 #[.val (.long ta), .second, .val (.long ua), .second, .val (.long ka), .second, .unset, .unset, .unset, .unset, .unset] [(.long ua), (.long ta), (.ref b1), (.ref b1)])) rfl (by rw [hml]; rfl) (Steps.refl _) (a := b1) (argsL := [(.long ta), (.long ua)]) (rest := [(.ref b1)]) (lenOf pd_1 rfl) rfl (by show 2 * 0 + _ ≤ _; exact Nat.le_of_eq rfl) (hb hby at_6) (fun _ _ => ⟨rfl, e1, (by decide : 1 + 0 ≤ _), (by decide : 2 + 0 ≤ _)⟩)
  dsimp only [Pt.U, Pt.locs, Pt.cells, Pt.slots] at X6 l6 y6 z6 st6 hQ6
  subst l6 y6 z6
  obtain ⟨rfl, N6q, K6q, F7, F8, F9⟩ := hQ6
  have N6 := Fr.app N0 N6q
  have F10 : Exa Z T6.heap b1 "com/example/shardwright/shardwright/index/Version" := A1.keep K6q
  have Z11 : n0 ≤ T6.heap.size := Nat.le_trans Z2 K6q.1
  have K12 : Keep h0 T6.heap [] := K3.trans K6q (allS (Or.inr sz_b1) all0)
  obtain ⟨cq13, kq13, q13a, q13b, q13c⟩ := isOf hZ rfl F7
  obtain ⟨_, _, ⟨T13, L13, k13, n13⟩, -, X13, ⟨Lc13, hQ13, l13, y13, z13⟩, st13⟩ := X6.virtualBack hx (y := (⟨"com/example/shardwright/shardwright/index/Version", "next", "(J)Lcom/example/shardwright/shardwright/index/Version;"⟩ : MethodName)) (z := (⟨"com/example/shardwright/shardwright/index/Version", "next", "(J)Lcom/example/shardwright/shardwright/index/Version;"⟩ : MethodName)) hown (mvT hZ (hw _ (List.mem_of_getElem? (i := 18) rfl))) (mvT hZ (hw _ (List.mem_of_getElem? (i := 19) rfl))) (notFace_of_selects (args := #[]) (mvT hZ (hw _ (List.mem_of_getElem? (i := 21) rfl)))) (mvT hZ (hw _ (List.mem_of_getElem? (i := 21) rfl))) (mvT hZ (hw _ (List.mem_of_getElem? (i := 20) rfl))) (by decide) (backOf (W := 0) (rm4 l Z a0 hw [] b1 ka ua T6.heap n0 Z11 F9) hZ (hw _ (List.mem_of_getElem? (i := 22) rfl)) (hw _ (List.mem_of_getElem? (i := 2) rfl)) (by decide) (by decide)) q13a q13c (g := (mkF m 15 #[.val (.long ta), .second, .val (.long ua), .second, .val (.long ka), .second, .val (.ref b1), .unset, .unset, .unset, .unset] [(.long ka), (.ref b1)])) rfl (by rw [hml]; rfl) (Steps.refl _) (argsL := [(.long ka)]) (rest := []) (lenOf pd_3 rfl) rfl (by show 2 * 0 + _ ≤ _; exact Nat.le_of_eq rfl) (hb hby at_15) (fun _ _ => ⟨rfl, rfl, (by decide : 1 + 1 ≤ _), (by decide : 2 + 2 ≤ _)⟩)
  dsimp only [Pt.U, Pt.locs, Pt.cells, Pt.slots] at X13 l13 y13 z13 st13 hQ13
  subst l13 y13 z13
  obtain ⟨b13, rfl, N13q, K13q, g_b13, szq_b13, F14, F15, F16⟩ := hQ13
  have N13 := Fr.app N6 N13q
  have ne_b1_b13 : b1 ≠ b13 := Nat.ne_of_lt (Nat.lt_of_lt_of_le F7.lt szq_b13)
  have sz_b13 : h0.size ≤ b13 := Nat.le_trans K12.1 szq_b13
  have F17 : Exa Z T13.heap b1 "com/example/shardwright/shardwright/index/Version" := F7.keep K13q
  have F18 : Fld Z T13.heap b1 "com/example/shardwright/shardwright/index/Version" "term" "J" (.long ta) := F8.keep K13q nin0
  have F19 : Fld Z T13.heap b1 "com/example/shardwright/shardwright/index/Version" "sequence" "J" (.long ua) := F9.keep K13q nin0
  have Z20 : n0 ≤ T13.heap.size := Nat.le_trans Z11 K13q.1
  have K21 : Keep h0 T13.heap [] := K12.trans K13q all0
  obtain ⟨cq22, kq22, q22a, q22b, q22c⟩ := isOf hZ rfl F14
  obtain ⟨_, _, ⟨T22, L22, k22, n22⟩, -, X22, ⟨Lc22, hQ22, l22, y22, z22⟩, st22⟩ := X13.virtualBack hx (y := (⟨"com/example/shardwright/shardwright/index/Version", "term", "()J"⟩ : MethodName)) (z := (⟨"com/example/shardwright/shardwright/index/Version", "term", "()J"⟩ : MethodName)) hown (mvT hZ (hw _ (List.mem_of_getElem? (i := 25) rfl))) (mvT hZ (hw _ (List.mem_of_getElem? (i := 26) rfl))) (notFace_of_selects (args := #[]) (mvT hZ (hw _ (List.mem_of_getElem? (i := 28) rfl)))) (mvT hZ (hw _ (List.mem_of_getElem? (i := 28) rfl))) (mvT hZ (hw _ (List.mem_of_getElem? (i := 27) rfl))) (by decide) (backOf (W := 0) (rm5 l Z a0 hw [] b13 ka T13.heap n0 Z20 F15) hZ (hw _ (List.mem_of_getElem? (i := 29) rfl)) (hw _ (List.mem_of_getElem? (i := 2) rfl)) (by decide) (by decide)) q22a q22c (g := (mkF m 29 #[.val (.long ta), .second, .val (.long ua), .second, .val (.long ka), .second, .val (.ref b1), .val (.ref b13), .unset, .unset, .unset] [(.ref b13)])) rfl (by rw [hml]; rfl) (Steps.refl _) (argsL := []) (rest := []) (lenOf pd_4 rfl) rfl (by show 2 * 0 + _ ≤ _; exact Nat.le_of_eq rfl) (hb hby at_29) (fun _ _ => ⟨rfl, rfl, (by decide : 2 + 0 ≤ _), (by decide : 4 + 0 ≤ _)⟩)
  dsimp only [Pt.U, Pt.locs, Pt.cells, Pt.slots] at X22 l22 y22 z22 st22 hQ22
  subst l22 y22 z22
  obtain ⟨rfl, N22q, e22⟩ := hQ22
  have N22 := Fr.app N13 N22q
  obtain ⟨cq23, kq23, q23a, q23b, q23c⟩ := isOf hZ e22 F14
  obtain ⟨_, _, ⟨T23, L23, k23, n23⟩, -, X23, ⟨Lc23, hQ23, l23, y23, z23⟩, st23⟩ := X22.virtualBack hx (y := (⟨"com/example/shardwright/shardwright/index/Version", "sequence", "()J"⟩ : MethodName)) (z := (⟨"com/example/shardwright/shardwright/index/Version", "sequence", "()J"⟩ : MethodName)) hown (mvT hZ (hw _ (List.mem_of_getElem? (i := 30) rfl))) (mvT hZ (hw _ (List.mem_of_getElem? (i := 31) rfl))) (notFace_of_selects (args := #[]) (mvT hZ (hw _ (List.mem_of_getElem? (i := 33) rfl)))) (mvT hZ (hw _ (List.mem_of_getElem? (i := 33) rfl))) (mvT hZ (hw _ (List.mem_of_getElem? (i := 32) rfl))) (by decide) (backOf (W := 0) (rm6 l Z a0 hw [] b13 (ua + (1 : Int64)) T13.heap n0 Z20 F16) hZ (hw _ (List.mem_of_getElem? (i := 34) rfl)) (hw _ (List.mem_of_getElem? (i := 2) rfl)) (by decide) (by decide)) q23a q23c (g := (mkF m 40 #[.val (.long ta), .second, .val (.long ua), .second, .val (.long ka), .second, .val (.ref b1), .val (.ref b13), .unset, .unset, .unset] [(.ref b13)])) rfl (by rw [hml]; rfl) (Steps.refl _) (argsL := []) (rest := []) (lenOf pd_4 rfl) rfl (by show 2 * 0 + _ ≤ _; exact Nat.le_of_eq rfl) (hb hby at_40) (fun _ _ => ⟨rfl, e22, (by decide : 2 + 0 ≤ _), (by decide : 4 + 0 ≤ _)⟩)
  dsimp only [Pt.U, Pt.locs, Pt.cells, Pt.slots] at X23 l23 y23 z23 st23 hQ23
  subst l23 y23 z23
  obtain ⟨rfl, N23q, e23⟩ := hQ23
  have N23 := Fr.app N22 N23q
  obtain ⟨r40, hr40⟩ : ∃ z_q : Int64, z_q = (ua + (1 : Int64)) := ⟨_, rfl⟩
  obtain ⟨m55, hm55⟩ : ∃ z_q : Int32, z_q = (if r40 = (ua + (1 : Int64)) then (1 : Int32) else (0 : Int32)) := ⟨_, rfl⟩
  have pre25 : ∀ tq, Steps p.tables e below (T23.setTop (mkF m 55 #[.val (.long ta), .second, .val (.long ua), .second, .val (.long ka), .second, .val (.ref b1), .val (.ref b13), .unset, .unset, .unset] [(.int m55)])) tq → Steps p.tables e below (s₁.setTop (entryFrame m #[(.long ta), (.long ua), (.long ka)] maxLocals)) tq := by
    intro tq kt
    refine pre0 _ ?_
    show Steps p.tables e below (s₁.setTop (mkF m 0 #[.val (.long ta), .second, .val (.long ua), .second, .val (.long ka), .second, .unset, .unset, .unset, .unset, .unset] [])) _
    refine st1 _ ?_
    show Steps p.tables e below (T1.setTop (mkF m 3 #[.val (.long ta), .second, .val (.long ua), .second, .val (.long ka), .second, .unset, .unset, .unset, .unset, .unset] [(.ref b1)])) _
    refine XS.dup X1.here hx rfl (hb hby at_3) rfl rfl ?_
    show Steps p.tables e below (T1.setTop (mkF m 4 #[.val (.long ta), .second, .val (.long ua), .second, .val (.long ka), .second, .unset, .unset, .unset, .unset, .unset] [(.ref b1), (.ref b1)])) _
    refine XS.lloadN X1.here hx rfl (hb hby at_4) rfl ?_
    show Steps p.tables e below (T1.setTop (mkF m 5 #[.val (.long ta), .second, .val (.long ua), .second, .val (.long ka), .second, .unset, .unset, .unset, .unset, .unset] [(.long ta), (.ref b1), (.ref b1)])) _
    refine XS.lloadN X1.here hx rfl (hb hby at_5) rfl ?_
    show Steps p.tables e below (T1.setTop (mkF m 6 #[.val (.long ta), .second, .val (.long ua), .second, .val (.long ka), .second, .unset, .unset, .unset, .unset, .unset] [(.long ua), (.long ta), (.ref b1), (.ref b1)])) _
    refine st6.trans ?_
    show Steps p.tables e below (T6.setTop (mkF m 9 #[.val (.long ta), .second, .val (.long ua), .second, .val (.long ka), .second, .unset, .unset, .unset, .unset, .unset] [(.ref b1)])) _
    refine XS.astore X6.here hx rfl (hb hby at_9) rfl rfl (l' := #[.val (.long ta), .second, .val (.long ua), .second, .val (.long ka), .second, .val (.ref b1), .unset, .unset, .unset, .unset]) rfl ?_
    show Steps p.tables e below (T6.setTop (mkF m 11 #[.val (.long ta), .second, .val (.long ua), .second, .val (.long ka), .second, .val (.ref b1), .unset, .unset, .unset, .unset] [])) _
    refine XS.aload X6.here hx rfl (hb hby at_11) rfl rfl ?_
    show Steps p.tables e below (T6.setTop (mkF m 13 #[.val (.long ta), .second, .val (.long ua), .second, .val (.long ka), .second, .val (.ref b1), .unset, .unset, .unset, .unset] [(.ref b1)])) _
    refine XS.lload X6.here hx rfl (hb hby at_13) rfl ?_
    show Steps p.tables e below (T6.setTop (mkF m 15 #[.val (.long ta), .second, .val (.long ua), .second, .val (.long ka), .second, .val (.ref b1), .unset, .unset, .unset, .unset] [(.long ka), (.ref b1)])) _
    refine st13.trans ?_
    show Steps p.tables e below (T13.setTop (mkF m 18 #[.val (.long ta), .second, .val (.long ua), .second, .val (.long ka), .second, .val (.ref b1), .unset, .unset, .unset, .unset] [(.ref b13)])) _
    refine XS.astore X13.here hx rfl (hb hby at_18) rfl rfl (l' := #[.val (.long ta), .second, .val (.long ua), .second, .val (.long ka), .second, .val (.ref b1), .val (.ref b13), .unset, .unset, .unset]) rfl ?_
    show Steps p.tables e below (T13.setTop (mkF m 20 #[.val (.long ta), .second, .val (.long ua), .second, .val (.long ka), .second, .val (.ref b1), .val (.ref b13), .unset, .unset, .unset] [])) _
    refine XS.aload X13.here hx rfl (hb hby at_20) rfl rfl ?_
    show Steps p.tables e below (T13.setTop (mkF m 22 #[.val (.long ta), .second, .val (.long ua), .second, .val (.long ka), .second, .val (.ref b1), .val (.ref b13), .unset, .unset, .unset] [(.ref b13)])) _
    refine XS.ifnonnullYes X13.here hx rfl (pc0 := 22) (pc' := 27) rfl (hb hby at_22) rfl (by decide) (by decide) ?_
    show Steps p.tables e below (T13.setTop (mkF m 27 #[.val (.long ta), .second, .val (.long ua), .second, .val (.long ka), .second, .val (.ref b1), .val (.ref b13), .unset, .unset, .unset] [])) _
    refine XS.aload X13.here hx rfl (hb hby at_27) rfl rfl ?_
    show Steps p.tables e below (T13.setTop (mkF m 29 #[.val (.long ta), .second, .val (.long ua), .second, .val (.long ka), .second, .val (.ref b1), .val (.ref b13), .unset, .unset, .unset] [(.ref b13)])) _
    refine st22.trans ?_
    show Steps p.tables e below (T22.setTop (mkF m 32 #[.val (.long ta), .second, .val (.long ua), .second, .val (.long ka), .second, .val (.ref b1), .val (.ref b13), .unset, .unset, .unset] [(.long ka)])) _
    refine XS.lload X22.here hx rfl (hb hby at_32) rfl ?_
    show Steps p.tables e below (T22.setTop (mkF m 34 #[.val (.long ta), .second, .val (.long ua), .second, .val (.long ka), .second, .val (.ref b1), .val (.ref b13), .unset, .unset, .unset] [(.long ka), (.long ka)])) _
    refine XS.lcmp X22.here hx rfl (hb hby at_34) rfl ?_
    show Steps p.tables e below (T22.setTop (mkF m 35 #[.val (.long ta), .second, .val (.long ua), .second, .val (.long ka), .second, .val (.ref b1), .val (.ref b13), .unset, .unset, .unset] [(.int (lcmpW ka ka))])) _
    refine XS.ifNo X22.here hx rfl (hb hby at_35) rfl ((if0 _ _).trans (teq ((lw_eq ka ka).2 rfl)).2) ?_
    show Steps p.tables e below (T22.setTop (mkF m 38 #[.val (.long ta), .second, .val (.long ua), .second, .val (.long ka), .second, .val (.ref b1), .val (.ref b13), .unset, .unset, .unset] [])) _
    refine XS.aload X22.here hx rfl (hb hby at_38) rfl rfl ?_
    show Steps p.tables e below (T22.setTop (mkF m 40 #[.val (.long ta), .second, .val (.long ua), .second, .val (.long ka), .second, .val (.ref b1), .val (.ref b13), .unset, .unset, .unset] [(.ref b13)])) _
    refine st23.trans ?_
    show Steps p.tables e below (T23.setTop (mkF m 43 #[.val (.long ta), .second, .val (.long ua), .second, .val (.long ka), .second, .val (.ref b1), .val (.ref b13), .unset, .unset, .unset] [(.long (ua + (1 : Int64)))])) _
    rw [← hr40]
    show Steps p.tables e below (T23.setTop (mkF m 43 #[.val (.long ta), .second, .val (.long ua), .second, .val (.long ka), .second, .val (.ref b1), .val (.ref b13), .unset, .unset, .unset] [(.long r40)])) _
    refine XS.lloadN X23.here hx rfl (hb hby at_43) rfl ?_
    show Steps p.tables e below (T23.setTop (mkF m 44 #[.val (.long ta), .second, .val (.long ua), .second, .val (.long ka), .second, .val (.ref b1), .val (.ref b13), .unset, .unset, .unset] [(.long ua), (.long r40)])) _
    refine XS.lconst X23.here hx rfl (hb hby at_44) ?_
    show Steps p.tables e below (T23.setTop (mkF m 45 #[.val (.long ta), .second, .val (.long ua), .second, .val (.long ka), .second, .val (.ref b1), .val (.ref b13), .unset, .unset, .unset] [(.long (1 : Int64)), (.long ua), (.long r40)])) _
    refine XS.ladd X23.here hx rfl (hb hby at_45) rfl ?_
    show Steps p.tables e below (T23.setTop (mkF m 46 #[.val (.long ta), .second, .val (.long ua), .second, .val (.long ka), .second, .val (.ref b1), .val (.ref b13), .unset, .unset, .unset] [(.long (ua + (1 : Int64))), (.long r40)])) _
    refine XS.lcmp X23.here hx rfl (hb hby at_46) rfl ?_
    by_cases d24 : r40 = (ua + (1 : Int64))
    · skip
      show Steps p.tables e below (T23.setTop (mkF m 47 #[.val (.long ta), .second, .val (.long ua), .second, .val (.long ka), .second, .val (.ref b1), .val (.ref b13), .unset, .unset, .unset] [(.int (lcmpW r40 (ua + (1 : Int64))))])) _
      refine XS.ifNo X23.here hx rfl (hb hby at_47) rfl ((if0 _ _).trans (teq ((lw_eq r40 (ua + (1 : Int64))).2 d24)).2) ?_
      show Steps p.tables e below (T23.setTop (mkF m 50 #[.val (.long ta), .second, .val (.long ua), .second, .val (.long ka), .second, .val (.ref b1), .val (.ref b13), .unset, .unset, .unset] [])) _
      refine XS.iconst X23.here hx rfl (hb hby at_50) ?_
      show Steps p.tables e below (T23.setTop (mkF m 51 #[.val (.long ta), .second, .val (.long ua), .second, .val (.long ka), .second, .val (.ref b1), .val (.ref b13), .unset, .unset, .unset] [(.int (1 : Int32))])) _
      refine XS.goto X23.here hx rfl (pc0 := 51) (pc' := 55) rfl (hb hby at_51) (by decide) (by decide) ?_
      show Steps p.tables e below (T23.setTop (mkF m 55 #[.val (.long ta), .second, .val (.long ua), .second, .val (.long ka), .second, .val (.ref b1), .val (.ref b13), .unset, .unset, .unset] [(.int (1 : Int32))])) _
      exact castTop (by simp only [hm55, if_pos d24]) kt
    · skip
      show Steps p.tables e below (T23.setTop (mkF m 47 #[.val (.long ta), .second, .val (.long ua), .second, .val (.long ka), .second, .val (.ref b1), .val (.ref b13), .unset, .unset, .unset] [(.int (lcmpW r40 (ua + (1 : Int64))))])) _
      refine XS.ifYes X23.here hx rfl (pc0 := 47) (pc' := 54) rfl (hb hby at_47) rfl ((if0 _ _).trans (feq (mt (lw_eq r40 (ua + (1 : Int64))).1 d24)).2) (by decide) (by decide) ?_
      show Steps p.tables e below (T23.setTop (mkF m 54 #[.val (.long ta), .second, .val (.long ua), .second, .val (.long ka), .second, .val (.ref b1), .val (.ref b13), .unset, .unset, .unset] [])) _
      refine XS.iconst X23.here hx rfl (hb hby at_54) ?_
      show Steps p.tables e below (T23.setTop (mkF m 55 #[.val (.long ta), .second, .val (.long ua), .second, .val (.long ka), .second, .val (.ref b1), .val (.ref b13), .unset, .unset, .unset] [(.int (0 : Int32))])) _
      exact castTop (by simp only [hm55, if_neg d24]) kt
  obtain ⟨cq26, kq26, q26a, q26b, q26c⟩ := isOf hZ e23 F17
  obtain ⟨_, _, ⟨T26, L26, k26, n26⟩, -, X26, ⟨Lc26, hQ26, l26, y26, z26⟩, st26⟩ := X23.virtualBack hx (y := (⟨"com/example/shardwright/shardwright/index/Version", "term", "()J"⟩ : MethodName)) (z := (⟨"com/example/shardwright/shardwright/index/Version", "term", "()J"⟩ : MethodName)) hown (mvT hZ (hw _ (List.mem_of_getElem? (i := 25) rfl))) (mvT hZ (hw _ (List.mem_of_getElem? (i := 26) rfl))) (notFace_of_selects (args := #[]) (mvT hZ (hw _ (List.mem_of_getElem? (i := 28) rfl)))) (mvT hZ (hw _ (List.mem_of_getElem? (i := 28) rfl))) (mvT hZ (hw _ (List.mem_of_getElem? (i := 27) rfl))) (by decide) (backOf (W := 0) (rm5 l Z a0 hw [] b1 ta T13.heap n0 Z20 F18) hZ (hw _ (List.mem_of_getElem? (i := 29) rfl)) (hw _ (List.mem_of_getElem? (i := 2) rfl)) (by decide) (by decide)) q26a q26c (g := (mkF m 59 #[.val (.long ta), .second, .val (.long ua), .second, .val (.long ka), .second, .val (.ref b1), .val (.ref b13), .val (.int m55), .unset, .unset] [(.ref b1)])) rfl (by rw [hml]; rfl) (Steps.refl _) (argsL := []) (rest := []) (lenOf pd_4 rfl) rfl (by show 2 * 0 + _ ≤ _; exact Nat.le_of_eq rfl) (hb hby at_59) (fun _ _ => ⟨rfl, e23, (by decide : 2 + 0 ≤ _), (by decide : 4 + 0 ≤ _)⟩)
  dsimp only [Pt.U, Pt.locs, Pt.cells, Pt.slots] at X26 l26 y26 z26 st26 hQ26
  subst l26 y26 z26
  obtain ⟨rfl, N26q, e26⟩ := hQ26
  have N26 := Fr.app N23 N26q
  obtain ⟨cq27, kq27, q27a, q27b, q27c⟩ := isOf hZ e26 F17
  obtain ⟨_, _, ⟨T27, L27, k27, n27⟩, -, X27, ⟨Lc27, hQ27, l27, y27, z27⟩, st27⟩ := X26.virtualBack hx (y := (⟨"com/example/shardwright/shardwright/index/Version", "sequence", "()J"⟩ : MethodName)) (z := (⟨"com/example/shardwright/shardwright/index/Version", "sequence", "()J"⟩ : MethodName)) hown (mvT hZ (hw _ (List.mem_of_getElem? (i := 30) rfl))) (mvT hZ (hw _ (List.mem_of_getElem? (i := 31) rfl))) (notFace_of_selects (args := #[]) (mvT hZ (hw _ (List.mem_of_getElem? (i := 33) rfl)))) (mvT hZ (hw _ (List.mem_of_getElem? (i := 33) rfl))) (mvT hZ (hw _ (List.mem_of_getElem? (i := 32) rfl))) (by decide) (backOf (W := 0) (rm6 l Z a0 hw [] b1 ua T13.heap n0 Z20 F19) hZ (hw _ (List.mem_of_getElem? (i := 34) rfl)) (hw _ (List.mem_of_getElem? (i := 2) rfl)) (by decide) (by decide)) q27a q27c (g := (mkF m 69 #[.val (.long ta), .second, .val (.long ua), .second, .val (.long ka), .second, .val (.ref b1), .val (.ref b13), .val (.int m55), .unset, .unset] [(.ref b1)])) rfl (by rw [hml]; rfl) (Steps.refl _) (argsL := []) (rest := []) (lenOf pd_4 rfl) rfl (by show 2 * 0 + _ ≤ _; exact Nat.le_of_eq rfl) (hb hby at_69) (fun _ _ => ⟨rfl, e26, (by decide : 2 + 0 ≤ _), (by decide : 4 + 0 ≤ _)⟩)
  dsimp only [Pt.U, Pt.locs, Pt.cells, Pt.slots] at X27 l27 y27 z27 st27 hQ27
  subst l27 y27 z27
  obtain ⟨rfl, N27q, e27⟩ := hQ27
  have N27 := Fr.app N26 N27q
  have pre28 : ∀ tq, Steps p.tables e below (T27.setTop (mkF m 91 #[.val (.long ta), .second, .val (.long ua), .second, .val (.long ka), .second, .val (.ref b1), .val (.ref b13), .val (.int m55), .val (.int (1 : Int32)), .val (.int (1 : Int32))] [(.int (lcmpW ka ta))])) tq → Steps p.tables e below (s₁.setTop (entryFrame m #[(.long ta), (.long ua), (.long ka)] maxLocals)) tq := by
    intro tq kt
    refine pre25 _ ?_
    show Steps p.tables e below (T23.setTop (mkF m 55 #[.val (.long ta), .second, .val (.long ua), .second, .val (.long ka), .second, .val (.ref b1), .val (.ref b13), .unset, .unset, .unset] [(.int m55)])) _
    refine XS.istore X23.here hx rfl (hb hby at_55) rfl (l' := #[.val (.long ta), .second, .val (.long ua), .second, .val (.long ka), .second, .val (.ref b1), .val (.ref b13), .val (.int m55), .unset, .unset]) rfl ?_
    show Steps p.tables e below (T23.setTop (mkF m 57 #[.val (.long ta), .second, .val (.long ua), .second, .val (.long ka), .second, .val (.ref b1), .val (.ref b13), .val (.int m55), .unset, .unset] [])) _
    refine XS.aload X23.here hx rfl (hb hby at_57) rfl rfl ?_
    show Steps p.tables e below (T23.setTop (mkF m 59 #[.val (.long ta), .second, .val (.long ua), .second, .val (.long ka), .second, .val (.ref b1), .val (.ref b13), .val (.int m55), .unset, .unset] [(.ref b1)])) _
    refine st26.trans ?_
    show Steps p.tables e below (T26.setTop (mkF m 62 #[.val (.long ta), .second, .val (.long ua), .second, .val (.long ka), .second, .val (.ref b1), .val (.ref b13), .val (.int m55), .unset, .unset] [(.long ta)])) _
    refine XS.lloadN X26.here hx rfl (hb hby at_62) rfl ?_
    show Steps p.tables e below (T26.setTop (mkF m 63 #[.val (.long ta), .second, .val (.long ua), .second, .val (.long ka), .second, .val (.ref b1), .val (.ref b13), .val (.int m55), .unset, .unset] [(.long ta), (.long ta)])) _
    refine XS.lcmp X26.here hx rfl (hb hby at_63) rfl ?_
    show Steps p.tables e below (T26.setTop (mkF m 64 #[.val (.long ta), .second, .val (.long ua), .second, .val (.long ka), .second, .val (.ref b1), .val (.ref b13), .val (.int m55), .unset, .unset] [(.int (lcmpW ta ta))])) _
    refine XS.ifNo X26.here hx rfl (hb hby at_64) rfl ((if0 _ _).trans (teq ((lw_eq ta ta).2 rfl)).2) ?_
    show Steps p.tables e below (T26.setTop (mkF m 67 #[.val (.long ta), .second, .val (.long ua), .second, .val (.long ka), .second, .val (.ref b1), .val (.ref b13), .val (.int m55), .unset, .unset] [])) _
    refine XS.aload X26.here hx rfl (hb hby at_67) rfl rfl ?_
    show Steps p.tables e below (T26.setTop (mkF m 69 #[.val (.long ta), .second, .val (.long ua), .second, .val (.long ka), .second, .val (.ref b1), .val (.ref b13), .val (.int m55), .unset, .unset] [(.ref b1)])) _
    refine st27.trans ?_
    show Steps p.tables e below (T27.setTop (mkF m 72 #[.val (.long ta), .second, .val (.long ua), .second, .val (.long ka), .second, .val (.ref b1), .val (.ref b13), .val (.int m55), .unset, .unset] [(.long ua)])) _
    refine XS.lloadN X27.here hx rfl (hb hby at_72) rfl ?_
    show Steps p.tables e below (T27.setTop (mkF m 73 #[.val (.long ta), .second, .val (.long ua), .second, .val (.long ka), .second, .val (.ref b1), .val (.ref b13), .val (.int m55), .unset, .unset] [(.long ua), (.long ua)])) _
    refine XS.lcmp X27.here hx rfl (hb hby at_73) rfl ?_
    show Steps p.tables e below (T27.setTop (mkF m 74 #[.val (.long ta), .second, .val (.long ua), .second, .val (.long ka), .second, .val (.ref b1), .val (.ref b13), .val (.int m55), .unset, .unset] [(.int (lcmpW ua ua))])) _
    refine XS.ifNo X27.here hx rfl (hb hby at_74) rfl ((if0 _ _).trans (teq ((lw_eq ua ua).2 rfl)).2) ?_
    show Steps p.tables e below (T27.setTop (mkF m 77 #[.val (.long ta), .second, .val (.long ua), .second, .val (.long ka), .second, .val (.ref b1), .val (.ref b13), .val (.int m55), .unset, .unset] [])) _
    refine XS.iconst X27.here hx rfl (hb hby at_77) ?_
    show Steps p.tables e below (T27.setTop (mkF m 78 #[.val (.long ta), .second, .val (.long ua), .second, .val (.long ka), .second, .val (.ref b1), .val (.ref b13), .val (.int m55), .unset, .unset] [(.int (1 : Int32))])) _
    refine XS.goto X27.here hx rfl (pc0 := 78) (pc' := 82) rfl (hb hby at_78) (by decide) (by decide) ?_
    show Steps p.tables e below (T27.setTop (mkF m 82 #[.val (.long ta), .second, .val (.long ua), .second, .val (.long ka), .second, .val (.ref b1), .val (.ref b13), .val (.int m55), .unset, .unset] [(.int (1 : Int32))])) _
    refine XS.istore X27.here hx rfl (hb hby at_82) rfl (l' := #[.val (.long ta), .second, .val (.long ua), .second, .val (.long ka), .second, .val (.ref b1), .val (.ref b13), .val (.int m55), .val (.int (1 : Int32)), .unset]) rfl ?_
    show Steps p.tables e below (T27.setTop (mkF m 84 #[.val (.long ta), .second, .val (.long ua), .second, .val (.long ka), .second, .val (.ref b1), .val (.ref b13), .val (.int m55), .val (.int (1 : Int32)), .unset] [])) _
    refine XS.iconst X27.here hx rfl (hb hby at_84) ?_
    show Steps p.tables e below (T27.setTop (mkF m 85 #[.val (.long ta), .second, .val (.long ua), .second, .val (.long ka), .second, .val (.ref b1), .val (.ref b13), .val (.int m55), .val (.int (1 : Int32)), .unset] [(.int (1 : Int32))])) _
    refine XS.istore X27.here hx rfl (hb hby at_85) rfl (l' := #[.val (.long ta), .second, .val (.long ua), .second, .val (.long ka), .second, .val (.ref b1), .val (.ref b13), .val (.int m55), .val (.int (1 : Int32)), .val (.int (1 : Int32))]) rfl ?_
    show Steps p.tables e below (T27.setTop (mkF m 87 #[.val (.long ta), .second, .val (.long ua), .second, .val (.long ka), .second, .val (.ref b1), .val (.ref b13), .val (.int m55), .val (.int (1 : Int32)), .val (.int (1 : Int32))] [])) _
    refine XS.lload X27.here hx rfl (hb hby at_87) rfl ?_
    show Steps p.tables e below (T27.setTop (mkF m 89 #[.val (.long ta), .second, .val (.long ua), .second, .val (.long ka), .second, .val (.ref b1), .val (.ref b13), .val (.int m55), .val (.int (1 : Int32)), .val (.int (1 : Int32))] [(.long ka)])) _
    refine XS.lloadN X27.here hx rfl (hb hby at_89) rfl ?_
    show Steps p.tables e below (T27.setTop (mkF m 90 #[.val (.long ta), .second, .val (.long ua), .second, .val (.long ka), .second, .val (.ref b1), .val (.ref b13), .val (.int m55), .val (.int (1 : Int32)), .val (.int (1 : Int32))] [(.long ta), (.long ka)])) _
    refine XS.lcmp X27.here hx rfl (hb hby at_90) rfl ?_
    show Steps p.tables e below (T27.setTop (mkF m 91 #[.val (.long ta), .second, .val (.long ua), .second, .val (.long ka), .second, .val (.ref b1), .val (.ref b13), .val (.int m55), .val (.int (1 : Int32)), .val (.int (1 : Int32))] [(.int (lcmpW ka ta))])) _
    exact kt
  by_cases hc91_29 : ka < ta
  · skip
    obtain ⟨m139, hm139⟩ : ∃ z_q : Int32, z_q = (if m55 = (0 : Int32) then (0 : Int32) else (1 : Int32)) := ⟨_, rfl⟩
    have pre31 : ∀ tq, Steps p.tables e below (T27.setTop (mkF m 139 #[.val (.long ta), .second, .val (.long ua), .second, .val (.long ka), .second, .val (.ref b1), .val (.ref b13), .val (.int m55), .val (.int (1 : Int32)), .val (.int (1 : Int32))] [(.int m139)])) tq → Steps p.tables e below (s₁.setTop (entryFrame m #[(.long ta), (.long ua), (.long ka)] maxLocals)) tq := by
      intro tq kt
      refine pre28 _ ?_
      show Steps p.tables e below (T27.setTop (mkF m 91 #[.val (.long ta), .second, .val (.long ua), .second, .val (.long ka), .second, .val (.ref b1), .val (.ref b13), .val (.int m55), .val (.int (1 : Int32)), .val (.int (1 : Int32))] [(.int (lcmpW ka ta))])) _
      refine XS.ifYes X27.here hx rfl (pc0 := 91) (pc' := 119) rfl (hb hby at_91) rfl ((if0 _ _).trans (tlt ((lw_lt ka ta).2 hc91_29)).1) (by decide) (by decide) ?_
      show Steps p.tables e below (T27.setTop (mkF m 119 #[.val (.long ta), .second, .val (.long ua), .second, .val (.long ka), .second, .val (.ref b1), .val (.ref b13), .val (.int m55), .val (.int (1 : Int32)), .val (.int (1 : Int32))] [])) _
      refine XS.iload X27.here hx rfl (hb hby at_119) rfl ?_
      by_cases d30 : m55 = (0 : Int32)
      · skip
        show Steps p.tables e below (T27.setTop (mkF m 121 #[.val (.long ta), .second, .val (.long ua), .second, .val (.long ka), .second, .val (.ref b1), .val (.ref b13), .val (.int m55), .val (.int (1 : Int32)), .val (.int (1 : Int32))] [(.int m55)])) _
        refine XS.ifYes X27.here hx rfl (pc0 := 121) (pc' := 138) rfl (hb hby at_121) rfl ((if0 _ _).trans (teq d30).1) (by decide) (by decide) ?_
        show Steps p.tables e below (T27.setTop (mkF m 138 #[.val (.long ta), .second, .val (.long ua), .second, .val (.long ka), .second, .val (.ref b1), .val (.ref b13), .val (.int m55), .val (.int (1 : Int32)), .val (.int (1 : Int32))] [])) _
        refine XS.iconst X27.here hx rfl (hb hby at_138) ?_
        show Steps p.tables e below (T27.setTop (mkF m 139 #[.val (.long ta), .second, .val (.long ua), .second, .val (.long ka), .second, .val (.ref b1), .val (.ref b13), .val (.int m55), .val (.int (1 : Int32)), .val (.int (1 : Int32))] [(.int (0 : Int32))])) _
        exact castTop (by simp only [hm139, if_pos d30]) kt
      · skip
        show Steps p.tables e below (T27.setTop (mkF m 121 #[.val (.long ta), .second, .val (.long ua), .second, .val (.long ka), .second, .val (.ref b1), .val (.ref b13), .val (.int m55), .val (.int (1 : Int32)), .val (.int (1 : Int32))] [(.int m55)])) _
        refine XS.ifNo X27.here hx rfl (hb hby at_121) rfl ((if0 _ _).trans (feq d30).1) ?_
        show Steps p.tables e below (T27.setTop (mkF m 124 #[.val (.long ta), .second, .val (.long ua), .second, .val (.long ka), .second, .val (.ref b1), .val (.ref b13), .val (.int m55), .val (.int (1 : Int32)), .val (.int (1 : Int32))] [])) _
        refine XS.iload X27.here hx rfl (hb hby at_124) rfl ?_
        show Steps p.tables e below (T27.setTop (mkF m 126 #[.val (.long ta), .second, .val (.long ua), .second, .val (.long ka), .second, .val (.ref b1), .val (.ref b13), .val (.int m55), .val (.int (1 : Int32)), .val (.int (1 : Int32))] [(.int (1 : Int32))])) _
        refine XS.ifNo X27.here hx rfl (hb hby at_126) rfl ((if0 _ _).trans (feq (by decide)).1) ?_
        show Steps p.tables e below (T27.setTop (mkF m 129 #[.val (.long ta), .second, .val (.long ua), .second, .val (.long ka), .second, .val (.ref b1), .val (.ref b13), .val (.int m55), .val (.int (1 : Int32)), .val (.int (1 : Int32))] [])) _
        refine XS.iload X27.here hx rfl (hb hby at_129) rfl ?_
        show Steps p.tables e below (T27.setTop (mkF m 131 #[.val (.long ta), .second, .val (.long ua), .second, .val (.long ka), .second, .val (.ref b1), .val (.ref b13), .val (.int m55), .val (.int (1 : Int32)), .val (.int (1 : Int32))] [(.int (1 : Int32))])) _
        refine XS.ifNo X27.here hx rfl (hb hby at_131) rfl ((if0 _ _).trans (feq (by decide)).1) ?_
        show Steps p.tables e below (T27.setTop (mkF m 134 #[.val (.long ta), .second, .val (.long ua), .second, .val (.long ka), .second, .val (.ref b1), .val (.ref b13), .val (.int m55), .val (.int (1 : Int32)), .val (.int (1 : Int32))] [])) _
        refine XS.iconst X27.here hx rfl (hb hby at_134) ?_
        show Steps p.tables e below (T27.setTop (mkF m 135 #[.val (.long ta), .second, .val (.long ua), .second, .val (.long ka), .second, .val (.ref b1), .val (.ref b13), .val (.int m55), .val (.int (1 : Int32)), .val (.int (1 : Int32))] [(.int (1 : Int32))])) _
        refine XS.goto X27.here hx rfl (pc0 := 135) (pc' := 139) rfl (hb hby at_135) (by decide) (by decide) ?_
        show Steps p.tables e below (T27.setTop (mkF m 139 #[.val (.long ta), .second, .val (.long ua), .second, .val (.long ka), .second, .val (.ref b1), .val (.ref b13), .val (.int m55), .val (.int (1 : Int32)), .val (.int (1 : Int32))] [(.int (1 : Int32))])) _
        exact castTop (by simp only [hm139, if_neg d30]) kt
    obtain ⟨fs, hr, hrun, hended, hW, hsame⟩ := X27.leave (v := some (Value.int (nar .boolean m139))) (fun h => by rw [Bd.returns] at h; cases h)
    have hres32 : (nar .boolean m139) = (1 : Int32) := (own_leaf_0_139_t ta ua ka r40 hr40 m55 hm55 hc91_29 m139 hm139)
    refine ⟨_, _, pre31 _ ?_, hrun, hended, _, _, rfl, ?_, ⟨_, rfl⟩, hW, hsame.mono (by decide) (by decide)⟩
    · skip
      show Steps p.tables e below (T27.setTop (mkF m 139 #[.val (.long ta), .second, .val (.long ua), .second, .val (.long ka), .second, .val (.ref b1), .val (.ref b13), .val (.int m55), .val (.int (1 : Int32)), .val (.int (1 : Int32))] [(.int m139)])) _
      exact retN X27 hx (t := .boolean) Bd.returns (by simp) (hb hby at_139) hr
    · show Q0 Z ta ua ka h0 n0 _ T27.heap _
      rw [e27]
      exact ⟨congrArg (fun z => some (Value.int z)) hres32, N27⟩
  · skip
    have pre33 : ∀ tq, Steps p.tables e below (T27.setTop (mkF m 99 #[.val (.long ta), .second, .val (.long ua), .second, .val (.long ka), .second, .val (.ref b1), .val (.ref b13), .val (.int m55), .val (.int (1 : Int32)), .val (.int (1 : Int32))] [(.int (lcmpW ua (9223372036854775807 : Int64)))])) tq → Steps p.tables e below (s₁.setTop (entryFrame m #[(.long ta), (.long ua), (.long ka)] maxLocals)) tq := by
      intro tq kt
      refine pre28 _ ?_
      show Steps p.tables e below (T27.setTop (mkF m 91 #[.val (.long ta), .second, .val (.long ua), .second, .val (.long ka), .second, .val (.ref b1), .val (.ref b13), .val (.int m55), .val (.int (1 : Int32)), .val (.int (1 : Int32))] [(.int (lcmpW ka ta))])) _
      refine XS.ifNo X27.here hx rfl (hb hby at_91) rfl ((if0 _ _).trans (flt (mt (lw_lt ka ta).1 hc91_29)).1) ?_
      show Steps p.tables e below (T27.setTop (mkF m 94 #[.val (.long ta), .second, .val (.long ua), .second, .val (.long ka), .second, .val (.ref b1), .val (.ref b13), .val (.int m55), .val (.int (1 : Int32)), .val (.int (1 : Int32))] [])) _
      refine XS.lloadN X27.here hx rfl (hb hby at_94) rfl ?_
      show Steps p.tables e below (T27.setTop (mkF m 95 #[.val (.long ta), .second, .val (.long ua), .second, .val (.long ka), .second, .val (.ref b1), .val (.ref b13), .val (.int m55), .val (.int (1 : Int32)), .val (.int (1 : Int32))] [(.long ua)])) _
      refine X27.ldc2Long hx hown (mvT hZ (hw _ (List.mem_of_getElem? (i := 35) rfl))) (g := (mkF m 95 #[.val (.long ta), .second, .val (.long ua), .second, .val (.long ka), .second, .val (.ref b1), .val (.ref b13), .val (.int m55), .val (.int (1 : Int32)), .val (.int (1 : Int32))] [(.long ua)])) rfl (hb hby at_95) _ ?_
      show Steps p.tables e below (T27.setTop (mkF m 98 #[.val (.long ta), .second, .val (.long ua), .second, .val (.long ka), .second, .val (.ref b1), .val (.ref b13), .val (.int m55), .val (.int (1 : Int32)), .val (.int (1 : Int32))] [(.long (9223372036854775807 : Int64)), (.long ua)])) _
      refine XS.lcmp X27.here hx rfl (hb hby at_98) rfl ?_
      show Steps p.tables e below (T27.setTop (mkF m 99 #[.val (.long ta), .second, .val (.long ua), .second, .val (.long ka), .second, .val (.ref b1), .val (.ref b13), .val (.int m55), .val (.int (1 : Int32)), .val (.int (1 : Int32))] [(.int (lcmpW ua (9223372036854775807 : Int64)))])) _
      exact kt
    by_cases hc99_34 : ua = (9223372036854775807 : Int64)
    · skip
      obtain ⟨m139, hm139⟩ : ∃ z_q : Int32, z_q = (if m55 = (0 : Int32) then (0 : Int32) else (1 : Int32)) := ⟨_, rfl⟩
      have pre36 : ∀ tq, Steps p.tables e below (T27.setTop (mkF m 139 #[.val (.long ta), .second, .val (.long ua), .second, .val (.long ka), .second, .val (.ref b1), .val (.ref b13), .val (.int m55), .val (.int (1 : Int32)), .val (.int (1 : Int32))] [(.int m139)])) tq → Steps p.tables e below (s₁.setTop (entryFrame m #[(.long ta), (.long ua), (.long ka)] maxLocals)) tq := by
        intro tq kt
        refine pre33 _ ?_
        show Steps p.tables e below (T27.setTop (mkF m 99 #[.val (.long ta), .second, .val (.long ua), .second, .val (.long ka), .second, .val (.ref b1), .val (.ref b13), .val (.int m55), .val (.int (1 : Int32)), .val (.int (1 : Int32))] [(.int (lcmpW ua (9223372036854775807 : Int64)))])) _
        refine XS.ifYes X27.here hx rfl (pc0 := 99) (pc' := 119) rfl (hb hby at_99) rfl ((if0 _ _).trans (teq ((lw_eq ua (9223372036854775807 : Int64)).2 hc99_34)).1) (by decide) (by decide) ?_
        show Steps p.tables e below (T27.setTop (mkF m 119 #[.val (.long ta), .second, .val (.long ua), .second, .val (.long ka), .second, .val (.ref b1), .val (.ref b13), .val (.int m55), .val (.int (1 : Int32)), .val (.int (1 : Int32))] [])) _
        refine XS.iload X27.here hx rfl (hb hby at_119) rfl ?_
        by_cases d35 : m55 = (0 : Int32)
        · skip
          show Steps p.tables e below (T27.setTop (mkF m 121 #[.val (.long ta), .second, .val (.long ua), .second, .val (.long ka), .second, .val (.ref b1), .val (.ref b13), .val (.int m55), .val (.int (1 : Int32)), .val (.int (1 : Int32))] [(.int m55)])) _
          refine XS.ifYes X27.here hx rfl (pc0 := 121) (pc' := 138) rfl (hb hby at_121) rfl ((if0 _ _).trans (teq d35).1) (by decide) (by decide) ?_
          show Steps p.tables e below (T27.setTop (mkF m 138 #[.val (.long ta), .second, .val (.long ua), .second, .val (.long ka), .second, .val (.ref b1), .val (.ref b13), .val (.int m55), .val (.int (1 : Int32)), .val (.int (1 : Int32))] [])) _
          refine XS.iconst X27.here hx rfl (hb hby at_138) ?_
          show Steps p.tables e below (T27.setTop (mkF m 139 #[.val (.long ta), .second, .val (.long ua), .second, .val (.long ka), .second, .val (.ref b1), .val (.ref b13), .val (.int m55), .val (.int (1 : Int32)), .val (.int (1 : Int32))] [(.int (0 : Int32))])) _
          exact castTop (by simp only [hm139, if_pos d35]) kt
        · skip
          show Steps p.tables e below (T27.setTop (mkF m 121 #[.val (.long ta), .second, .val (.long ua), .second, .val (.long ka), .second, .val (.ref b1), .val (.ref b13), .val (.int m55), .val (.int (1 : Int32)), .val (.int (1 : Int32))] [(.int m55)])) _
          refine XS.ifNo X27.here hx rfl (hb hby at_121) rfl ((if0 _ _).trans (feq d35).1) ?_
          show Steps p.tables e below (T27.setTop (mkF m 124 #[.val (.long ta), .second, .val (.long ua), .second, .val (.long ka), .second, .val (.ref b1), .val (.ref b13), .val (.int m55), .val (.int (1 : Int32)), .val (.int (1 : Int32))] [])) _
          refine XS.iload X27.here hx rfl (hb hby at_124) rfl ?_
          show Steps p.tables e below (T27.setTop (mkF m 126 #[.val (.long ta), .second, .val (.long ua), .second, .val (.long ka), .second, .val (.ref b1), .val (.ref b13), .val (.int m55), .val (.int (1 : Int32)), .val (.int (1 : Int32))] [(.int (1 : Int32))])) _
          refine XS.ifNo X27.here hx rfl (hb hby at_126) rfl ((if0 _ _).trans (feq (by decide)).1) ?_
          show Steps p.tables e below (T27.setTop (mkF m 129 #[.val (.long ta), .second, .val (.long ua), .second, .val (.long ka), .second, .val (.ref b1), .val (.ref b13), .val (.int m55), .val (.int (1 : Int32)), .val (.int (1 : Int32))] [])) _
          refine XS.iload X27.here hx rfl (hb hby at_129) rfl ?_
          show Steps p.tables e below (T27.setTop (mkF m 131 #[.val (.long ta), .second, .val (.long ua), .second, .val (.long ka), .second, .val (.ref b1), .val (.ref b13), .val (.int m55), .val (.int (1 : Int32)), .val (.int (1 : Int32))] [(.int (1 : Int32))])) _
          refine XS.ifNo X27.here hx rfl (hb hby at_131) rfl ((if0 _ _).trans (feq (by decide)).1) ?_
          show Steps p.tables e below (T27.setTop (mkF m 134 #[.val (.long ta), .second, .val (.long ua), .second, .val (.long ka), .second, .val (.ref b1), .val (.ref b13), .val (.int m55), .val (.int (1 : Int32)), .val (.int (1 : Int32))] [])) _
          refine XS.iconst X27.here hx rfl (hb hby at_134) ?_
          show Steps p.tables e below (T27.setTop (mkF m 135 #[.val (.long ta), .second, .val (.long ua), .second, .val (.long ka), .second, .val (.ref b1), .val (.ref b13), .val (.int m55), .val (.int (1 : Int32)), .val (.int (1 : Int32))] [(.int (1 : Int32))])) _
          refine XS.goto X27.here hx rfl (pc0 := 135) (pc' := 139) rfl (hb hby at_135) (by decide) (by decide) ?_
          show Steps p.tables e below (T27.setTop (mkF m 139 #[.val (.long ta), .second, .val (.long ua), .second, .val (.long ka), .second, .val (.ref b1), .val (.ref b13), .val (.int m55), .val (.int (1 : Int32)), .val (.int (1 : Int32))] [(.int (1 : Int32))])) _
          exact castTop (by simp only [hm139, if_neg d35]) kt
      obtain ⟨fs, hr, hrun, hended, hW, hsame⟩ := X27.leave (v := some (Value.int (nar .boolean m139))) (fun h => by rw [Bd.returns] at h; cases h)
      have hres37 : (nar .boolean m139) = (1 : Int32) := (own_leaf_0_139_ft ta ua ka r40 hr40 m55 hm55 hc91_29 hc99_34 m139 hm139)
      refine ⟨_, _, pre36 _ ?_, hrun, hended, _, _, rfl, ?_, ⟨_, rfl⟩, hW, hsame.mono (by decide) (by decide)⟩
      · skip
        show Steps p.tables e below (T27.setTop (mkF m 139 #[.val (.long ta), .second, .val (.long ua), .second, .val (.long ka), .second, .val (.ref b1), .val (.ref b13), .val (.int m55), .val (.int (1 : Int32)), .val (.int (1 : Int32))] [(.int m139)])) _
        exact retN X27 hx (t := .boolean) Bd.returns (by simp) (hb hby at_139) hr
      · show Q0 Z ta ua ka h0 n0 _ T27.heap _
        rw [e27]
        exact ⟨congrArg (fun z => some (Value.int z)) hres37, N27⟩
    · skip
      obtain ⟨cq38, kq38, q38a, q38b, q38c⟩ := isOf hZ e27 F17
      obtain ⟨_, _, ⟨T38, L38, k38, n38⟩, -, X38, ⟨Lc38, hQ38, l38, y38, z38⟩, st38⟩ := X27.virtualBack hx (y := (⟨"com/example/shardwright/shardwright/index/Version", "compareTo", "(Lcom/example/shardwright/shardwright/index/Version;)I"⟩ : MethodName)) (z := (⟨"com/example/shardwright/shardwright/index/Version", "compareTo", "(Lcom/example/shardwright/shardwright/index/Version;)I"⟩ : MethodName)) hown (mvT hZ (hw _ (List.mem_of_getElem? (i := 36) rfl))) (mvT hZ (hw _ (List.mem_of_getElem? (i := 37) rfl))) (notFace_of_selects (args := #[]) (mvT hZ (hw _ (List.mem_of_getElem? (i := 39) rfl)))) (mvT hZ (hw _ (List.mem_of_getElem? (i := 39) rfl))) (mvT hZ (hw _ (List.mem_of_getElem? (i := 38) rfl))) (by decide) (backOf (W := 0) (rm7 l Z a0 hw [] b1 b13 ta ua ka (ua + (1 : Int64)) T13.heap n0 Z20 F18 F19 F15 F16) hZ (hw _ (List.mem_of_getElem? (i := 40) rfl)) (hw _ (List.mem_of_getElem? (i := 2) rfl)) (by decide) (by decide)) q38a q38c (g := (mkF m 106 #[.val (.long ta), .second, .val (.long ua), .second, .val (.long ka), .second, .val (.ref b1), .val (.ref b13), .val (.int m55), .val (.int (1 : Int32)), .val (.int (1 : Int32))] [(.ref b13), (.ref b1)])) rfl (by rw [hml]; rfl) (Steps.refl _) (argsL := [(.ref b13)]) (rest := []) (lenOf pd_5 rfl) rfl (by show 2 * 0 + _ ≤ _; exact Nat.le_of_eq rfl) (hb hby at_106) (fun _ _ => ⟨rfl, e27, (by decide : 2 + 0 ≤ _), (by decide : 4 + 0 ≤ _)⟩)
      dsimp only [Pt.U, Pt.locs, Pt.cells, Pt.slots] at X38 l38 y38 z38 st38 hQ38
      subst l38 y38 z38
      obtain ⟨rfl, N38q, e38⟩ := hQ38
      have N38 := Fr.app N27 N38q
      obtain ⟨r106, hr106⟩ : ∃ z_q : Int32, z_q = (own_cmp2 ta ua ka (ua + (1 : Int64))) := ⟨_, rfl⟩
      obtain ⟨m117, hm117⟩ : ∃ z_q : Int32, z_q = (if r106 < (0 : Int32) then (1 : Int32) else (0 : Int32)) := ⟨_, rfl⟩
      have pre40 : ∀ tq, Steps p.tables e below (T38.setTop (mkF m 117 #[.val (.long ta), .second, .val (.long ua), .second, .val (.long ka), .second, .val (.ref b1), .val (.ref b13), .val (.int m55), .val (.int (1 : Int32)), .val (.int (1 : Int32))] [(.int m117)])) tq → Steps p.tables e below (s₁.setTop (entryFrame m #[(.long ta), (.long ua), (.long ka)] maxLocals)) tq := by
        intro tq kt
        refine pre33 _ ?_
        show Steps p.tables e below (T27.setTop (mkF m 99 #[.val (.long ta), .second, .val (.long ua), .second, .val (.long ka), .second, .val (.ref b1), .val (.ref b13), .val (.int m55), .val (.int (1 : Int32)), .val (.int (1 : Int32))] [(.int (lcmpW ua (9223372036854775807 : Int64)))])) _
        refine XS.ifNo X27.here hx rfl (hb hby at_99) rfl ((if0 _ _).trans (feq (mt (lw_eq ua (9223372036854775807 : Int64)).1 hc99_34)).1) ?_
        show Steps p.tables e below (T27.setTop (mkF m 102 #[.val (.long ta), .second, .val (.long ua), .second, .val (.long ka), .second, .val (.ref b1), .val (.ref b13), .val (.int m55), .val (.int (1 : Int32)), .val (.int (1 : Int32))] [])) _
        refine XS.aload X27.here hx rfl (hb hby at_102) rfl rfl ?_
        show Steps p.tables e below (T27.setTop (mkF m 104 #[.val (.long ta), .second, .val (.long ua), .second, .val (.long ka), .second, .val (.ref b1), .val (.ref b13), .val (.int m55), .val (.int (1 : Int32)), .val (.int (1 : Int32))] [(.ref b1)])) _
        refine XS.aload X27.here hx rfl (hb hby at_104) rfl rfl ?_
        show Steps p.tables e below (T27.setTop (mkF m 106 #[.val (.long ta), .second, .val (.long ua), .second, .val (.long ka), .second, .val (.ref b1), .val (.ref b13), .val (.int m55), .val (.int (1 : Int32)), .val (.int (1 : Int32))] [(.ref b13), (.ref b1)])) _
        refine st38.trans ?_
        show Steps p.tables e below (T38.setTop (mkF m 109 #[.val (.long ta), .second, .val (.long ua), .second, .val (.long ka), .second, .val (.ref b1), .val (.ref b13), .val (.int m55), .val (.int (1 : Int32)), .val (.int (1 : Int32))] [(.int (own_cmp2 ta ua ka (ua + (1 : Int64))))])) _
        rw [← hr106]
        by_cases d39 : r106 < (0 : Int32)
        · skip
          show Steps p.tables e below (T38.setTop (mkF m 109 #[.val (.long ta), .second, .val (.long ua), .second, .val (.long ka), .second, .val (.ref b1), .val (.ref b13), .val (.int m55), .val (.int (1 : Int32)), .val (.int (1 : Int32))] [(.int r106)])) _
          refine XS.ifNo X38.here hx rfl (hb hby at_109) rfl ((if0 _ _).trans (tlt d39).2.1) ?_
          show Steps p.tables e below (T38.setTop (mkF m 112 #[.val (.long ta), .second, .val (.long ua), .second, .val (.long ka), .second, .val (.ref b1), .val (.ref b13), .val (.int m55), .val (.int (1 : Int32)), .val (.int (1 : Int32))] [])) _
          refine XS.iconst X38.here hx rfl (hb hby at_112) ?_
          show Steps p.tables e below (T38.setTop (mkF m 113 #[.val (.long ta), .second, .val (.long ua), .second, .val (.long ka), .second, .val (.ref b1), .val (.ref b13), .val (.int m55), .val (.int (1 : Int32)), .val (.int (1 : Int32))] [(.int (1 : Int32))])) _
          refine XS.goto X38.here hx rfl (pc0 := 113) (pc' := 117) rfl (hb hby at_113) (by decide) (by decide) ?_
          show Steps p.tables e below (T38.setTop (mkF m 117 #[.val (.long ta), .second, .val (.long ua), .second, .val (.long ka), .second, .val (.ref b1), .val (.ref b13), .val (.int m55), .val (.int (1 : Int32)), .val (.int (1 : Int32))] [(.int (1 : Int32))])) _
          exact castTop (by simp only [hm117, if_pos d39]) kt
        · skip
          show Steps p.tables e below (T38.setTop (mkF m 109 #[.val (.long ta), .second, .val (.long ua), .second, .val (.long ka), .second, .val (.ref b1), .val (.ref b13), .val (.int m55), .val (.int (1 : Int32)), .val (.int (1 : Int32))] [(.int r106)])) _
          refine XS.ifYes X38.here hx rfl (pc0 := 109) (pc' := 116) rfl (hb hby at_109) rfl ((if0 _ _).trans (flt d39).2.1) (by decide) (by decide) ?_
          show Steps p.tables e below (T38.setTop (mkF m 116 #[.val (.long ta), .second, .val (.long ua), .second, .val (.long ka), .second, .val (.ref b1), .val (.ref b13), .val (.int m55), .val (.int (1 : Int32)), .val (.int (1 : Int32))] [])) _
          refine XS.iconst X38.here hx rfl (hb hby at_116) ?_
          show Steps p.tables e below (T38.setTop (mkF m 117 #[.val (.long ta), .second, .val (.long ua), .second, .val (.long ka), .second, .val (.ref b1), .val (.ref b13), .val (.int m55), .val (.int (1 : Int32)), .val (.int (1 : Int32))] [(.int (0 : Int32))])) _
          exact castTop (by simp only [hm117, if_neg d39]) kt
      obtain ⟨m139, hm139⟩ : ∃ z_q : Int32, z_q = (if m55 = (0 : Int32) then (0 : Int32) else (if m117 = (0 : Int32) then (0 : Int32) else (1 : Int32))) := ⟨_, rfl⟩
      have pre43 : ∀ tq, Steps p.tables e below (T38.setTop (mkF m 139 #[.val (.long ta), .second, .val (.long ua), .second, .val (.long ka), .second, .val (.ref b1), .val (.ref b13), .val (.int m55), .val (.int (1 : Int32)), .val (.int m117)] [(.int m139)])) tq → Steps p.tables e below (s₁.setTop (entryFrame m #[(.long ta), (.long ua), (.long ka)] maxLocals)) tq := by
        intro tq kt
        refine pre40 _ ?_
        show Steps p.tables e below (T38.setTop (mkF m 117 #[.val (.long ta), .second, .val (.long ua), .second, .val (.long ka), .second, .val (.ref b1), .val (.ref b13), .val (.int m55), .val (.int (1 : Int32)), .val (.int (1 : Int32))] [(.int m117)])) _
        refine XS.istore X38.here hx rfl (hb hby at_117) rfl (l' := #[.val (.long ta), .second, .val (.long ua), .second, .val (.long ka), .second, .val (.ref b1), .val (.ref b13), .val (.int m55), .val (.int (1 : Int32)), .val (.int m117)]) rfl ?_
        show Steps p.tables e below (T38.setTop (mkF m 119 #[.val (.long ta), .second, .val (.long ua), .second, .val (.long ka), .second, .val (.ref b1), .val (.ref b13), .val (.int m55), .val (.int (1 : Int32)), .val (.int m117)] [])) _
        refine XS.iload X38.here hx rfl (hb hby at_119) rfl ?_
        by_cases d41 : m55 = (0 : Int32)
        · skip
          show Steps p.tables e below (T38.setTop (mkF m 121 #[.val (.long ta), .second, .val (.long ua), .second, .val (.long ka), .second, .val (.ref b1), .val (.ref b13), .val (.int m55), .val (.int (1 : Int32)), .val (.int m117)] [(.int m55)])) _
          refine XS.ifYes X38.here hx rfl (pc0 := 121) (pc' := 138) rfl (hb hby at_121) rfl ((if0 _ _).trans (teq d41).1) (by decide) (by decide) ?_
          show Steps p.tables e below (T38.setTop (mkF m 138 #[.val (.long ta), .second, .val (.long ua), .second, .val (.long ka), .second, .val (.ref b1), .val (.ref b13), .val (.int m55), .val (.int (1 : Int32)), .val (.int m117)] [])) _
          refine XS.iconst X38.here hx rfl (hb hby at_138) ?_
          show Steps p.tables e below (T38.setTop (mkF m 139 #[.val (.long ta), .second, .val (.long ua), .second, .val (.long ka), .second, .val (.ref b1), .val (.ref b13), .val (.int m55), .val (.int (1 : Int32)), .val (.int m117)] [(.int (0 : Int32))])) _
          exact castTop (by simp only [hm139, if_pos d41]) kt
        · skip
          show Steps p.tables e below (T38.setTop (mkF m 121 #[.val (.long ta), .second, .val (.long ua), .second, .val (.long ka), .second, .val (.ref b1), .val (.ref b13), .val (.int m55), .val (.int (1 : Int32)), .val (.int m117)] [(.int m55)])) _
          refine XS.ifNo X38.here hx rfl (hb hby at_121) rfl ((if0 _ _).trans (feq d41).1) ?_
          show Steps p.tables e below (T38.setTop (mkF m 124 #[.val (.long ta), .second, .val (.long ua), .second, .val (.long ka), .second, .val (.ref b1), .val (.ref b13), .val (.int m55), .val (.int (1 : Int32)), .val (.int m117)] [])) _
          refine XS.iload X38.here hx rfl (hb hby at_124) rfl ?_
          show Steps p.tables e below (T38.setTop (mkF m 126 #[.val (.long ta), .second, .val (.long ua), .second, .val (.long ka), .second, .val (.ref b1), .val (.ref b13), .val (.int m55), .val (.int (1 : Int32)), .val (.int m117)] [(.int (1 : Int32))])) _
          refine XS.ifNo X38.here hx rfl (hb hby at_126) rfl ((if0 _ _).trans (feq (by decide)).1) ?_
          show Steps p.tables e below (T38.setTop (mkF m 129 #[.val (.long ta), .second, .val (.long ua), .second, .val (.long ka), .second, .val (.ref b1), .val (.ref b13), .val (.int m55), .val (.int (1 : Int32)), .val (.int m117)] [])) _
          refine XS.iload X38.here hx rfl (hb hby at_129) rfl ?_
          by_cases d42 : m117 = (0 : Int32)
          · skip
            show Steps p.tables e below (T38.setTop (mkF m 131 #[.val (.long ta), .second, .val (.long ua), .second, .val (.long ka), .second, .val (.ref b1), .val (.ref b13), .val (.int m55), .val (.int (1 : Int32)), .val (.int m117)] [(.int m117)])) _
            refine XS.ifYes X38.here hx rfl (pc0 := 131) (pc' := 138) rfl (hb hby at_131) rfl ((if0 _ _).trans (teq d42).1) (by decide) (by decide) ?_
            show Steps p.tables e below (T38.setTop (mkF m 138 #[.val (.long ta), .second, .val (.long ua), .second, .val (.long ka), .second, .val (.ref b1), .val (.ref b13), .val (.int m55), .val (.int (1 : Int32)), .val (.int m117)] [])) _
            refine XS.iconst X38.here hx rfl (hb hby at_138) ?_
            show Steps p.tables e below (T38.setTop (mkF m 139 #[.val (.long ta), .second, .val (.long ua), .second, .val (.long ka), .second, .val (.ref b1), .val (.ref b13), .val (.int m55), .val (.int (1 : Int32)), .val (.int m117)] [(.int (0 : Int32))])) _
            exact castTop (by simp only [hm139, if_neg d41, if_pos d42]) kt
          · skip
            show Steps p.tables e below (T38.setTop (mkF m 131 #[.val (.long ta), .second, .val (.long ua), .second, .val (.long ka), .second, .val (.ref b1), .val (.ref b13), .val (.int m55), .val (.int (1 : Int32)), .val (.int m117)] [(.int m117)])) _
            refine XS.ifNo X38.here hx rfl (hb hby at_131) rfl ((if0 _ _).trans (feq d42).1) ?_
            show Steps p.tables e below (T38.setTop (mkF m 134 #[.val (.long ta), .second, .val (.long ua), .second, .val (.long ka), .second, .val (.ref b1), .val (.ref b13), .val (.int m55), .val (.int (1 : Int32)), .val (.int m117)] [])) _
            refine XS.iconst X38.here hx rfl (hb hby at_134) ?_
            show Steps p.tables e below (T38.setTop (mkF m 135 #[.val (.long ta), .second, .val (.long ua), .second, .val (.long ka), .second, .val (.ref b1), .val (.ref b13), .val (.int m55), .val (.int (1 : Int32)), .val (.int m117)] [(.int (1 : Int32))])) _
            refine XS.goto X38.here hx rfl (pc0 := 135) (pc' := 139) rfl (hb hby at_135) (by decide) (by decide) ?_
            show Steps p.tables e below (T38.setTop (mkF m 139 #[.val (.long ta), .second, .val (.long ua), .second, .val (.long ka), .second, .val (.ref b1), .val (.ref b13), .val (.int m55), .val (.int (1 : Int32)), .val (.int m117)] [(.int (1 : Int32))])) _
            exact castTop (by simp only [hm139, if_neg d41, if_neg d42]) kt
      obtain ⟨fs, hr, hrun, hended, hW, hsame⟩ := X38.leave (v := some (Value.int (nar .boolean m139))) (fun h => by rw [Bd.returns] at h; cases h)
      have hres44 : (nar .boolean m139) = (1 : Int32) := (own_leaf_0_139_ff ta ua ka r40 hr40 m55 hm55 hc91_29 hc99_34 r106 hr106 m117 hm117 m139 hm139)
      refine ⟨_, _, pre43 _ ?_, hrun, hended, _, _, rfl, ?_, ⟨_, rfl⟩, hW, hsame.mono (by decide) (by decide)⟩
      · skip
        show Steps p.tables e below (T38.setTop (mkF m 139 #[.val (.long ta), .second, .val (.long ua), .second, .val (.long ka), .second, .val (.ref b1), .val (.ref b13), .val (.int m55), .val (.int (1 : Int32)), .val (.int m117)] [(.int m139)])) _
        exact retN X38 hx (t := .boolean) Bd.returns (by simp) (hb hby at_139) hr
      · show Q0 Z ta ua ka h0 n0 _ T38.heap _
        rw [e38]
        exact ⟨congrArg (fun z => some (Value.int z)) hres44, N38⟩
set_option maxRecDepth 65536 in
set_option maxHeartbeats 40000000 in
theorem comes_1 {Post : Tables → Env → Array Value → State → Outcome → State → Prop} (hpost : ∀ tb e args s v u, (limb_1_1.after args s (.returned v) u = true ∧ limb_1_2.after args s (.returned v) u = true ∧ True) → FrameEnd s (.returned v) u (Jvm.fieldLocs frame_1_writes args s ++ Jvm.arrayLocs frame_1_arrays args s ++ Jvm.staticLocs frame_1_statics s) 16 128 → Post tb e args s (.returned v) u) :
    ArmFor flags0 classFile x code maxLocals ret World_1 tables_1 room_1 Calls_1 rest_1 Pre_1 Post := by
  intro l hfl _ _ p e ha hc hk s m args below hf hA hF happ hP
  obtain ⟨hcalls, hrest, hpre⟩ := hP
  obtain ⟨-, -, -, hnamed, -, -, -, hat⟩ := (Spec.applies_iff hf).mp happ
  obtain ⟨hg, hn⟩ := and_e (Cond.before_iff.mp (show (Jvm.Cond.and given_1 narrow_1).before args s = true from hpre))
  obtain ⟨gv1, gv2⟩ := and_e hg
  obtain ⟨gv3, gv4⟩ := and_e gv2
  obtain ⟨gv5, gv6⟩ := and_e gv4
  obtain ⟨w0, w1, w2, rfl⟩ : ∃ w0 w1 w2 : Value, args = #[w0, w1, w2] := by
    have hs : args.size = 3 := by simpa [Cond.value, given_1] using gv1
    obtain ⟨L⟩ := args
    match L, hs with
    | [w0, w1, w2], _ => exact ⟨w0, w1, w2, rfl⟩
  have hw := fun d (hd : d ∈ tables_1) => atoms_spec (ws := Jvm.Cond.code x code maxLocals ret :: tables_1) hat d (List.mem_cons_of_mem _ hd)
  obtain ⟨i0, ei0⟩ := isL_v gv3
  obtain rfl : w0 = (.long i0) := Option.some.inj ei0
  obtain ⟨i1, ei1⟩ := isL_v gv5
  obtain rfl : w1 = (.long i1) := Option.some.inj ei1
  obtain ⟨i2, ei2⟩ := isL_v gv6
  obtain rfl : w2 = (.long i2) := Option.some.inj ei2
  obtain ⟨n, o, h1, h2, h3, _, L, rfl, ⟨rfl, N⟩, hq⟩ := rm0 l s _ hw tables_1 i0 i1 i2  s.heap s.heap.size (Nat.le_refl _)  p e ha hc hk s m _ below hf ((Spec.applies_iff_loose hf).mp happ).1 ⟨rfl, State.Warmed39.refl s, rfl⟩ trivial
  refine ⟨n, _, h1, h2, h3, hpost _ _ _ _ _ _ ⟨Cond.after_iff.mpr rfl, Cond.after_iff.mpr (eq_i res_at (Term.int_eval (1)) rfl), trivial⟩ ⟨hq.1, hq.2.1, (hq.2.2.sift fun y hy => Or.inr (N y hy)).mono (by decide) (by decide)⟩⟩
theorem main_1_1 : Claimed_1_1 := comes_1 fun _ _ _ _ _ _ h hF => ⟨h.1, hF⟩
theorem main_1_2 : Claimed_1_2 := comes_1 fun _ _ _ _ _ _ h hF => ⟨h.2.1, hF⟩
end Jvm.Pilot.@@N@@
namespace Jvm.Pilot.@@N@@
open Jvm Jvm.ClassFile Sem Op Lib Jvm.Free Jvm.Stand Jvm.Pilot.@@N@@.Jvm.D
/-! MADE BY PROGRAM (witnessworld.py) out of the Statement's table words and the real class files: 15 classes; the members and pool entries that the words name. The judged class is class 1, her method 1. -/
namespace start1
open Jvm.ClassFile
def u (s : String) : CpInfo := .utf8 (stringToUtf16 s)
/-- a pool by its gaps: so many unusable entries, then the entry; so many at the end -/
def gap : Nat → List CpInfo → List CpInfo
  | 0, r => r
  | n + 1, r => .unusable :: gap n r
def poolList (es : List (Nat × CpInfo)) (last : Nat) : List CpInfo := es.foldr (fun e r => gap e.1 (e.2 :: r)) (gap last [])
def pool (es : List (Nat × CpInfo)) (last : Nat) : Array CpInfo := ⟨poolList es last⟩
def fileOf (pool : Array CpInfo) (this : Nat) (attrs : Array Attribute := #[]) (ms : Array MethodInfo := #[]) (fl : Nat := 33) (sup : Nat := 0) (ifs : Array Nat := #[]) (fds : Array FieldInfo := #[]) : ClassFile where
  minorVersion := 0
  majorVersion := 65
  constantPool := pool
  accessFlags := fl
  thisClass := this
  superClass := sup
  interfaces := ifs
  fields := fds
  methods := ms
  attributes := attrs
def plain (name : String) (sup : Option ClassId) : Class where
  name := name
  kind := .ordinary
  loader := none
  accessFlags := 33
  super := sup
  interfaces := #[]
  cf := none
  fields := #[]
  methods := #[]
  instanceTypes := #[]
  staticTypes := #[]
  resolved := #[]
  callSites := []
  init := .initialized
  statics := none
  mirror := none

def pool0 : Array CpInfo := pool [(5, u "<init>"), (0, u "()V"), (1, .class_ 10), (1, u "java/lang/Object")] 113

def k0c0 : Code := { maxStack := 0, maxLocals := 1, code := object_method_1_code, exceptionTable := #[], attributes := #[] }
def k0m0 : Method := { name := "<init>", desc := "()V", sig := { parameters := [], returnType := none }, accessFlags := 1, code := some k0c0 }
/-- java/lang/Object -/
def k0 : Class := { plain "java/lang/Object" none with
  accessFlags := 33
  interfaces := #[]
  cf := some (fileOf pool0 8 #[] #[{ accessFlags := 1, nameIndex := 5, descriptorIndex := 6, attributes := #[] }] 33 0 #[] #[])
  fields := #[]
  methods := #[k0m0]
  instanceTypes := #[]
  staticTypes := #[]
  resolved := Array.replicate 124 none
  statics := none }

def pool1 : Array CpInfo := pool [(2, .class_ 4), (1, u "java/lang/Object"), (0, u "<init>"), (0, u "()V"), (0, .class_ 8), (0, u "com/example/shardwright/shardwright/index/Version"), (0, .methodref 7 10), (0, .nameAndType 5 11), (0, u "(JJ)V"), (0, .methodref 7 13), (0, .nameAndType 14 15), (0, u "next"), (0, u "(J)Lcom/example/shardwright/shardwright/index/Version;"), (0, .methodref 7 17), (0, .nameAndType 18 19), (0, u "term"), (0, u "()J"), (0, .methodref 7 21), (0, .nameAndType 22 19), (0, u "sequence"), (2, .long 9223372036854775807), (1, .methodref 7 28), (0, .nameAndType 29 30), (0, u "compareTo"), (0, u "(Lcom/example/shardwright/shardwright/index/Version;)I"), (0, .class_ 32), (0, u "com/example/shardwright/shardwright/index/VersionNextPinLaw"), (2, u "law"), (0, u "(JJJ)Z")] 3

def k1m0 : Method := { name := "<init>", desc := "()V", sig := { parameters := [], returnType := none }, accessFlags := 1, code := none }
def k1c1 : Code := { maxStack := 6, maxLocals := 11, code := code, exceptionTable := #[], attributes := #[] }
def k1m1 : Method := { name := "law", desc := "(JJJ)Z", sig := { parameters := [.long, .long, .long], returnType := some .boolean }, accessFlags := 9, code := some k1c1 }
/-- com/example/shardwright/shardwright/index/VersionNextPinLaw -/
def k1 : Class := { plain "com/example/shardwright/shardwright/index/VersionNextPinLaw" (some 0) with
  accessFlags := 49
  interfaces := #[]
  cf := some (fileOf pool1 31 #[] #[{ accessFlags := 1, nameIndex := 5, descriptorIndex := 6, attributes := #[] }, { accessFlags := 9, nameIndex := 35, descriptorIndex := 36, attributes := #[] }] 49 2 #[] #[])
  fields := #[]
  methods := #[k1m0, k1m1]
  instanceTypes := #[]
  staticTypes := #[]
  resolved := Array.replicate 40 none
  statics := none }

def pool2 : Array CpInfo := pool [(1, .methodref 2 3), (0, .class_ 4), (0, .nameAndType 5 6), (0, u "java/lang/Object"), (0, u "<init>"), (0, u "()V"), (0, .class_ 8), (0, u "java/lang/Record")] 13

def k2c0 : Code := { maxStack := 1, maxLocals := 1, code := jdk_30_method_1_code, exceptionTable := #[], attributes := #[] }
def k2m0 : Method := { name := "<init>", desc := "()V", sig := { parameters := [], returnType := none }, accessFlags := 4, code := some k2c0 }
/-- java/lang/Record -/
def k2 : Class := { plain "java/lang/Record" (some 0) with
  accessFlags := 1057
  interfaces := #[]
  cf := some (fileOf pool2 7 #[] #[{ accessFlags := 4, nameIndex := 5, descriptorIndex := 6, attributes := #[] }] 1057 2 #[] #[])
  fields := #[]
  methods := #[k2m0]
  instanceTypes := #[]
  staticTypes := #[]
  resolved := Array.replicate 22 none
  statics := none }

def pool3 : Array CpInfo := pool [(1, .class_ 2), (0, u "java/lang/Comparable"), (0, .class_ 4), (0, u "java/lang/Object")] 7

/-- java/lang/Comparable -/
def k3 : Class := { plain "java/lang/Comparable" (some 0) with
  accessFlags := 1537
  interfaces := #[]
  cf := some (fileOf pool3 1 #[] #[] 1537 3 #[] #[])
  fields := #[]
  methods := #[]
  instanceTypes := #[]
  staticTypes := #[]
  resolved := Array.replicate 12 none
  statics := none }

def pool4 : Array CpInfo := pool [(1, .methodref 2 3), (0, .class_ 4), (0, .nameAndType 5 6), (0, u "java/lang/Record"), (0, u "<init>"), (0, u "()V"), (0, .fieldref 8 9), (0, .class_ 10), (0, .nameAndType 11 12), (0, u "com/example/shardwright/shardwright/index/Version"), (0, u "term"), (0, u "J"), (0, .fieldref 8 14), (0, .nameAndType 15 12), (0, u "sequence"), (0, .methodref 8 17), (0, .nameAndType 5 18), (0, u "(JJ)V"), (0, .methodref 20 21), (0, .class_ 22), (0, .nameAndType 23 24), (0, u "java/lang/Long"), (0, u "compare"), (0, u "(JJ)I"), (6, u "compareTo"), (0, u "(Lcom/example/shardwright/shardwright/index/Version;)I"), (9, u "NONE"), (0, u "Lcom/example/shardwright/shardwright/index/Version;"), (0, .class_ 45), (0, u "java/lang/Comparable"), (3, u "next"), (0, u "(J)Lcom/example/shardwright/shardwright/index/Version;"), (5, u "()J")] 33

def k4c0 : Code := { maxStack := 3, maxLocals := 5, code := prog_14_method_1_code, exceptionTable := #[], attributes := #[] }
def k4m0 : Method := { name := "<init>", desc := "(JJ)V", sig := { parameters := [.long, .long], returnType := none }, accessFlags := 1, code := some k4c0 }
def k4c1 : Code := { maxStack := 8, maxLocals := 3, code := prog_14_method_2_code, exceptionTable := #[], attributes := #[] }
def k4m1 : Method := { name := "next", desc := "(J)Lcom/example/shardwright/shardwright/index/Version;", sig := { parameters := [.long], returnType := some (.object "com/example/shardwright/shardwright/index/Version") }, accessFlags := 1, code := some k4c1 }
def k4c2 : Code := { maxStack := 4, maxLocals := 3, code := prog_14_method_3_code, exceptionTable := #[], attributes := #[] }
def k4m2 : Method := { name := "compareTo", desc := "(Lcom/example/shardwright/shardwright/index/Version;)I", sig := { parameters := [(.object "com/example/shardwright/shardwright/index/Version")], returnType := some .int }, accessFlags := 1, code := some k4c2 }
def k4c3 : Code := { maxStack := 2, maxLocals := 1, code := prog_14_method_7_code, exceptionTable := #[], attributes := #[] }
def k4m3 : Method := { name := "term", desc := "()J", sig := { parameters := [], returnType := some .long }, accessFlags := 1, code := some k4c3 }
def k4c4 : Code := { maxStack := 2, maxLocals := 1, code := prog_14_method_8_code, exceptionTable := #[], attributes := #[] }
def k4m4 : Method := { name := "sequence", desc := "()J", sig := { parameters := [], returnType := some .long }, accessFlags := 1, code := some k4c4 }
/-- com/example/shardwright/shardwright/index/Version -/
def k4 : Class := { plain "com/example/shardwright/shardwright/index/Version" (some 2) with
  accessFlags := 49
  interfaces := #[3]
  cf := some (fileOf pool4 8 #[] #[{ accessFlags := 1, nameIndex := 5, descriptorIndex := 18, attributes := #[] }, { accessFlags := 1, nameIndex := 49, descriptorIndex := 50, attributes := #[] }, { accessFlags := 1, nameIndex := 31, descriptorIndex := 32, attributes := #[] }, { accessFlags := 1, nameIndex := 11, descriptorIndex := 56, attributes := #[] }, { accessFlags := 1, nameIndex := 15, descriptorIndex := 56, attributes := #[] }] 49 2 #[44] #[{ accessFlags := 18, nameIndex := 11, descriptorIndex := 12, attributes := #[] }, { accessFlags := 18, nameIndex := 15, descriptorIndex := 12, attributes := #[] }, { accessFlags := 25, nameIndex := 42, descriptorIndex := 43, attributes := #[] }])
  fields := #[{ name := "term", type := .long, accessFlags := 18, slot := 0, constantValue := 0 }, { name := "sequence", type := .long, accessFlags := 18, slot := 1, constantValue := 0 }, { name := "NONE", type := (.object "com/example/shardwright/shardwright/index/Version"), accessFlags := 25, slot := 0, constantValue := 0 }]
  methods := #[k4m0, k4m1, k4m2, k4m3, k4m4]
  instanceTypes := #[.long, .long]
  staticTypes := #[(.object "com/example/shardwright/shardwright/index/Version")]
  resolved := Array.replicate 90 none
  statics := none }

def pool5 : Array CpInfo := pool [(1, .class_ 2), (0, u "java/io/Serializable"), (0, .class_ 4), (0, u "java/lang/Object")] 2

/-- java/io/Serializable -/
def k5 : Class := { plain "java/io/Serializable" (some 0) with
  accessFlags := 1537
  interfaces := #[]
  cf := some (fileOf pool5 1 #[] #[] 1537 3 #[] #[])
  fields := #[]
  methods := #[]
  instanceTypes := #[]
  staticTypes := #[]
  resolved := Array.replicate 7 none
  statics := none }

def pool6 : Array CpInfo := pool [(2, .class_ 4), (1, u "java/lang/Object"), (0, u "<init>"), (0, u "()V"), (1, .class_ 10), (1, u "java/lang/Number"), (2, .class_ 14), (0, u "java/io/Serializable"), (0, u "serialVersionUID"), (0, u "J")] 20

def k6m0 : Method := { name := "<init>", desc := "()V", sig := { parameters := [], returnType := none }, accessFlags := 1, code := none }
/-- java/lang/Number -/
def k6 : Class := { plain "java/lang/Number" (some 0) with
  accessFlags := 1057
  interfaces := #[5]
  cf := some (fileOf pool6 8 #[] #[{ accessFlags := 1, nameIndex := 5, descriptorIndex := 6, attributes := #[] }] 1057 2 #[13] #[{ accessFlags := 26, nameIndex := 15, descriptorIndex := 16, attributes := #[] }])
  fields := #[{ name := "serialVersionUID", type := .long, accessFlags := 26, slot := 0, constantValue := 0 }]
  methods := #[k6m0]
  instanceTypes := #[]
  staticTypes := #[.long]
  resolved := Array.replicate 37 none
  statics := none }

def pool7 : Array CpInfo := pool [(1, .class_ 2), (0, u "java/lang/constant/Constable"), (0, .class_ 4), (0, u "java/lang/Object")] 6

/-- java/lang/constant/Constable -/
def k7 : Class := { plain "java/lang/constant/Constable" (some 0) with
  accessFlags := 1537
  interfaces := #[]
  cf := some (fileOf pool7 1 #[] #[] 1537 3 #[] #[])
  fields := #[]
  methods := #[]
  instanceTypes := #[]
  staticTypes := #[]
  resolved := Array.replicate 11 none
  statics := none }

def pool8 : Array CpInfo := pool [(1, .class_ 2), (0, u "java/lang/constant/ConstantDesc"), (0, .class_ 4), (0, u "java/lang/Object")] 32

/-- java/lang/constant/ConstantDesc -/
def k8 : Class := { plain "java/lang/constant/ConstantDesc" (some 0) with
  accessFlags := 1537
  interfaces := #[]
  cf := some (fileOf pool8 1 #[] #[] 1537 3 #[] #[])
  fields := #[]
  methods := #[]
  instanceTypes := #[]
  staticTypes := #[]
  resolved := Array.replicate 37 none
  statics := none }

def pool9 : Array CpInfo := pool [(1, .class_ 2), (0, u "java/lang/Long"), (232, .class_ 237), (1, u "java/lang/Long$LongCache"), (33, .class_ 272), (0, u "java/lang/Number"), (2, u "value"), (0, u "J"), (27, u "compare"), (0, u "(JJ)I"), (55, u "TYPE"), (0, u "Ljava/lang/Class;"), (0, .class_ 364), (0, u "java/lang/Comparable"), (0, .class_ 366), (0, u "java/lang/constant/Constable"), (0, .class_ 368), (0, u "java/lang/constant/ConstantDesc"), (0, u "MIN_VALUE"), (1, u "MAX_VALUE"), (4, u "SIZE"), (0, u "I"), (1, u "BYTES"), (1, u "serialVersionUID")] 142

def k9c0 : Code := { maxStack := 4, maxLocals := 4, code := jdk_35_method_42_code, exceptionTable := #[], attributes := #[] }
def k9m0 : Method := { name := "compare", desc := "(JJ)I", sig := { parameters := [.long, .long], returnType := some .int }, accessFlags := 9, code := some k9c0 }
/-- java/lang/Long -/
def k9 : Class := { plain "java/lang/Long" (some 6) with
  accessFlags := 49
  interfaces := #[3, 7, 8]
  cf := some (fileOf pool9 1 #[.nestMembers #[235]] #[{ accessFlags := 9, nameIndex := 304, descriptorIndex := 305, attributes := #[] }] 49 271 #[363, 365, 367] #[{ accessFlags := 25, nameIndex := 369, descriptorIndex := 276, attributes := #[] }, { accessFlags := 25, nameIndex := 371, descriptorIndex := 276, attributes := #[] }, { accessFlags := 25, nameIndex := 361, descriptorIndex := 362, attributes := #[] }, { accessFlags := 18, nameIndex := 275, descriptorIndex := 276, attributes := #[] }, { accessFlags := 25, nameIndex := 376, descriptorIndex := 377, attributes := #[] }, { accessFlags := 25, nameIndex := 379, descriptorIndex := 377, attributes := #[] }, { accessFlags := 26, nameIndex := 381, descriptorIndex := 276, attributes := #[] }])
  fields := #[{ name := "MIN_VALUE", type := .long, accessFlags := 25, slot := 0, constantValue := 0 }, { name := "MAX_VALUE", type := .long, accessFlags := 25, slot := 1, constantValue := 0 }, { name := "TYPE", type := (.object "java/lang/Class"), accessFlags := 25, slot := 2, constantValue := 0 }, { name := "value", type := .long, accessFlags := 18, slot := 0, constantValue := 0 }, { name := "SIZE", type := .int, accessFlags := 25, slot := 3, constantValue := 0 }, { name := "BYTES", type := .int, accessFlags := 25, slot := 4, constantValue := 0 }, { name := "serialVersionUID", type := .long, accessFlags := 26, slot := 5, constantValue := 0 }]
  methods := #[k9m0]
  instanceTypes := #[.long]
  staticTypes := #[.long, .long, (.object "java/lang/Class"), .int, .int, .long]
  resolved := Array.replicate 524 none
  statics := none }

def pool10 : Array CpInfo := pool [(1, u "java/lang/Cloneable"), (0, .class_ 1), (0, u "java/lang/Object"), (0, .class_ 3)] 3

/-- java/lang/Cloneable -/
def k10 : Class := { plain "java/lang/Cloneable" (some 0) with
  accessFlags := 1537
  interfaces := #[]
  cf := some (fileOf pool10 2 #[] #[] 1537 4 #[] #[])
  fields := #[]
  methods := #[]
  instanceTypes := #[]
  staticTypes := #[]
  resolved := Array.replicate 8 none
  statics := none }

/-- the primitive byte -/
def k11 : Class := { plain "byte" none with kind := .primitive 'B', accessFlags := 0x411 }
/-- [B -/
def k12 : Class := { plain "[B" (some 0) with kind := .array 11 .byte, interfaces := #[10, 5], accessFlags := 1041 }

/-- the primitive int -/
def k13 : Class := { plain "int" none with kind := .primitive 'I', accessFlags := 0x411 }
/-- [I -/
def k14 : Class := { plain "[I" (some 0) with kind := .array 13 .int, interfaces := #[10, 5], accessFlags := 1041 }

def heap : Heap := #[]
def classes : Array Class := #[k0, k1, k2, k3, k4, k5, k6, k7, k8, k9, k10, k11, k12, k13, k14]
def interned : List (Array UInt16 × Addr) := []
def slotsUsed : Nat := 0
def theMethod : MethodId := ⟨1, 1⟩
def args0 : Array Value := #[.long 5, .long 6, .long 7]
def aboutOver (below : List Frame) : State where
  vm := { classes := classes, interned := interned.toArray }
  heap := heap
  slotsUsed := slotsUsed
  threads := #[{ frames := .invoking theMethod args0 :: below }]
def below0 : List Frame := [.native { method := ⟨0, 0⟩, args := #[] }]
def about1 : State := aboutOver below0
def p0 : Program := .bare "" "" ""
def e0 : Env := launch0.env 0 0 0
theorem w_frames : about1.frames = Frame.invoking theMethod args0 :: below0 := rfl
set_option maxRecDepth 65536 in
theorem w_args : argsFit about1.vm theMethod args0 = true := by decide +kernel
set_option maxRecDepth 65536 in
theorem w_heap : heapFits about1 = true := by decide +kernel
set_option maxRecDepth 65536 in
theorem w_runnable : about1.curStatus? = some .runnable := by decide +kernel
set_option maxRecDepth 65536 in
theorem w_alone : about1.alone = true := by decide +kernel
set_option maxRecDepth 65536 in
theorem w_named : about1.methodNamed? x = some theMethod := by decide +kernel
set_option maxRecDepth 65536 in
theorem w_hears : about1.hears theMethod below0 = true := by decide +kernel
set_option maxRecDepth 65536 in
theorem w_ripe : about1.ripe theMethod args0 below0 = true := by decide +kernel
theorem w_running : about1.status = .running := rfl
set_option maxRecDepth 65536 in
theorem w_room : about1.hasRoom e0.platform room_1 = true :=
  launch0.hasRoom_least _ room_1 (by decide +kernel) (by decide +kernel) (by decide +kernel) (by decide +kernel) (by decide +kernel) (by decide +kernel)
theorem allAtoms_all (ts : List Jvm.Cond) (a : Array Jvm.Value) (st : Jvm.State) : (allAtoms ts).before a st = ts.all (fun c => c.before a st) := by
  induction ts with
  | nil => rfl
  | cons c t ih =>
    show (Jvm.Cond.and c (allAtoms t)).before a st = _
    rw [Jvm.Cond.before_and, ih, List.all_cons]
def words1 : List Jvm.Cond := Jvm.Cond.code x code maxLocals ret :: tables_1
/-- a 'code' word, met by the world's own term for the bytes: nothing is compared byte by byte -/
theorem code_word {y : MethodName} {bytes : ByteArray} {mx : Nat} {rt : Option FieldType} {a : Array Value} {s : State} {m : MethodId} {meth : Method} {c : Code} (h1 : s.methodNamed? y = some m) (h2 : s.vm.method? m = some meth) (h3 : meth.code = some c) (h4 : c.code = bytes)
    (h5 : (c.maxLocals == mx && c.exceptionTable.isEmpty && decide (c.maxStack ≤ mostOperands) && decide (meth.sig.returnType = rt) && !meth.locks && decide (parseMethodDescriptor y.desc = some meth.sig)) = true) : (Jvm.Cond.code y bytes mx rt).before a s = true := by
  simp only [Bool.and_eq_true, beq_iff_eq, Bool.not_eq_true', decide_eq_true_eq] at h5
  obtain ⟨⟨⟨⟨⟨g1, g2⟩, g3⟩, g4⟩, g5⟩, g6⟩ := h5
  simp [Cond.before, Cond.holds, Cond.value, h1, h2, h3, h4, g1, g2, g3, g4, g5, g6]
def isCode : Jvm.Cond → Bool
  | .code _ _ _ _ => true
  | _ => false
theorem all_split {L : List Jvm.Cond} {P : Jvm.Cond → Bool} (h1 : L.all (fun c => isCode c || P c) = true) (h2 : ∀ c ∈ L.filter isCode, P c = true) : L.all P = true := by
  refine List.all_eq_true.mpr fun c hc => ?_
  have h := List.all_eq_true.mp h1 c hc
  rcases Bool.eq_false_or_eq_true (isCode c) with hi | hi
  · exact h2 c (List.mem_filter.mpr ⟨hc, hi⟩)
  · simpa [hi] using h
set_option maxRecDepth 65536 in
theorem w_c0 : (Jvm.Cond.code x code maxLocals ret).before args0 about1 = true := code_word (m := ⟨1, 1⟩) (meth := k1m1) (c := k1c1) (by decide +kernel) rfl rfl rfl (by decide +kernel)
set_option maxRecDepth 65536 in
theorem w_c1 : (Jvm.Cond.code ({ cls := "com/example/shardwright/shardwright/index/Version", name := "<init>", desc := "(JJ)V" } : Jvm.MethodName) prog_14_method_1_code (5 : Nat) (Option.none : Option Jvm.ClassFile.FieldType)).before args0 about1 = true := code_word (m := ⟨4, 0⟩) (meth := k4m0) (c := k4c0) (by decide +kernel) rfl rfl rfl (by decide +kernel)
set_option maxRecDepth 65536 in
theorem w_c2 : (Jvm.Cond.code ({ cls := "java/lang/Record", name := "<init>", desc := "()V" } : Jvm.MethodName) jdk_30_method_1_code (1 : Nat) (Option.none : Option Jvm.ClassFile.FieldType)).before args0 about1 = true := code_word (m := ⟨2, 0⟩) (meth := k2m0) (c := k2c0) (by decide +kernel) rfl rfl rfl (by decide +kernel)
set_option maxRecDepth 65536 in
theorem w_c3 : (Jvm.Cond.code ({ cls := "java/lang/Object", name := "<init>", desc := "()V" } : Jvm.MethodName) object_method_1_code (1 : Nat) (Option.none : Option Jvm.ClassFile.FieldType)).before args0 about1 = true := code_word (m := ⟨0, 0⟩) (meth := k0m0) (c := k0c0) (by decide +kernel) rfl rfl rfl (by decide +kernel)
set_option maxRecDepth 65536 in
theorem w_c4 : (Jvm.Cond.code ({ cls := "com/example/shardwright/shardwright/index/Version", name := "next", desc := "(J)Lcom/example/shardwright/shardwright/index/Version;" } : Jvm.MethodName) prog_14_method_2_code (3 : Nat) (Option.some (Jvm.ClassFile.FieldType.object "com/example/shardwright/shardwright/index/Version"))).before args0 about1 = true := code_word (m := ⟨4, 1⟩) (meth := k4m1) (c := k4c1) (by decide +kernel) rfl rfl rfl (by decide +kernel)
set_option maxRecDepth 65536 in
theorem w_c5 : (Jvm.Cond.code ({ cls := "com/example/shardwright/shardwright/index/Version", name := "term", desc := "()J" } : Jvm.MethodName) prog_14_method_7_code (1 : Nat) (Option.some Jvm.ClassFile.FieldType.long)).before args0 about1 = true := code_word (m := ⟨4, 3⟩) (meth := k4m3) (c := k4c3) (by decide +kernel) rfl rfl rfl (by decide +kernel)
set_option maxRecDepth 65536 in
theorem w_c6 : (Jvm.Cond.code ({ cls := "com/example/shardwright/shardwright/index/Version", name := "sequence", desc := "()J" } : Jvm.MethodName) prog_14_method_8_code (1 : Nat) (Option.some Jvm.ClassFile.FieldType.long)).before args0 about1 = true := code_word (m := ⟨4, 4⟩) (meth := k4m4) (c := k4c4) (by decide +kernel) rfl rfl rfl (by decide +kernel)
set_option maxRecDepth 65536 in
theorem w_c7 : (Jvm.Cond.code ({ cls := "com/example/shardwright/shardwright/index/Version", name := "compareTo", desc := "(Lcom/example/shardwright/shardwright/index/Version;)I" } : Jvm.MethodName) prog_14_method_3_code (3 : Nat) (Option.some Jvm.ClassFile.FieldType.int)).before args0 about1 = true := code_word (m := ⟨4, 2⟩) (meth := k4m2) (c := k4c2) (by decide +kernel) rfl rfl rfl (by decide +kernel)
set_option maxRecDepth 65536 in
theorem w_c8 : (Jvm.Cond.code ({ cls := "java/lang/Long", name := "compare", desc := "(JJ)I" } : Jvm.MethodName) jdk_35_method_42_code (4 : Nat) (Option.some Jvm.ClassFile.FieldType.int)).before args0 about1 = true := code_word (m := ⟨9, 0⟩) (meth := k9m0) (c := k9c0) (by decide +kernel) rfl rfl rfl (by decide +kernel)
def codes1 : List Jvm.Cond := [Jvm.Cond.code x code maxLocals ret, Jvm.Cond.code ({ cls := "com/example/shardwright/shardwright/index/Version", name := "<init>", desc := "(JJ)V" } : Jvm.MethodName) prog_14_method_1_code (5 : Nat) (Option.none : Option Jvm.ClassFile.FieldType), Jvm.Cond.code ({ cls := "java/lang/Record", name := "<init>", desc := "()V" } : Jvm.MethodName) jdk_30_method_1_code (1 : Nat) (Option.none : Option Jvm.ClassFile.FieldType), Jvm.Cond.code ({ cls := "java/lang/Object", name := "<init>", desc := "()V" } : Jvm.MethodName) object_method_1_code (1 : Nat) (Option.none : Option Jvm.ClassFile.FieldType), Jvm.Cond.code ({ cls := "com/example/shardwright/shardwright/index/Version", name := "next", desc := "(J)Lcom/example/shardwright/shardwright/index/Version;" } : Jvm.MethodName) prog_14_method_2_code (3 : Nat) (Option.some (Jvm.ClassFile.FieldType.object "com/example/shardwright/shardwright/index/Version")), Jvm.Cond.code ({ cls := "com/example/shardwright/shardwright/index/Version", name := "term", desc := "()J" } : Jvm.MethodName) prog_14_method_7_code (1 : Nat) (Option.some Jvm.ClassFile.FieldType.long), Jvm.Cond.code ({ cls := "com/example/shardwright/shardwright/index/Version", name := "sequence", desc := "()J" } : Jvm.MethodName) prog_14_method_8_code (1 : Nat) (Option.some Jvm.ClassFile.FieldType.long), Jvm.Cond.code ({ cls := "com/example/shardwright/shardwright/index/Version", name := "compareTo", desc := "(Lcom/example/shardwright/shardwright/index/Version;)I" } : Jvm.MethodName) prog_14_method_3_code (3 : Nat) (Option.some Jvm.ClassFile.FieldType.int), Jvm.Cond.code ({ cls := "java/lang/Long", name := "compare", desc := "(JJ)I" } : Jvm.MethodName) jdk_35_method_42_code (4 : Nat) (Option.some Jvm.ClassFile.FieldType.int)]
set_option maxRecDepth 65536 in
theorem codes_eq : words1.filter isCode = codes1 := rfl
theorem w_codes : ∀ c ∈ words1.filter isCode, c.before args0 about1 = true := by
  rw [codes_eq]
  intro c hc
  simp only [codes1, List.mem_cons, List.not_mem_nil, or_false] at hc
  rcases hc with rfl | rfl | rfl | rfl | rfl | rfl | rfl | rfl | rfl
  · exact w_c0
  · exact w_c1
  · exact w_c2
  · exact w_c3
  · exact w_c4
  · exact w_c5
  · exact w_c6
  · exact w_c7
  · exact w_c8
set_option maxRecDepth 65536 in
theorem w_t1 : (words1.take 24).all (fun c => isCode c || c.before args0 about1) = true := by decide +kernel
set_option maxRecDepth 65536 in
theorem w_t2 : (words1.drop 24).all (fun c => isCode c || c.before args0 about1) = true := by decide +kernel
theorem w_tables : (allAtoms (Jvm.Cond.code x code maxLocals ret :: tables_1)).before args0 about1 = true := by
  rw [allAtoms_all]
  show words1.all (fun c => c.before args0 about1) = true
  refine all_split ?_ w_codes
  rw [← List.take_append_drop 24 words1, List.all_append, w_t1, w_t2]
  rfl
set_option maxRecDepth 65536 in
theorem w_case : (Jvm.Cond.and given_1 narrow_1).before args0 about1 = true := by decide +kernel
theorem w_applies : (headSpec (Jvm.Cond.code x code maxLocals ret :: tables_1) room_1).applies x e0.platform about1 = true :=
  (Spec.applies_iff w_frames).mpr ⟨w_running, w_runnable, w_alone, w_named, w_hears, w_ripe, w_room, w_tables⟩
theorem atStart : AtStart classFile x code maxLocals ret World_1 tables_1 room_1 Calls_1 rest_1 Pre_1 launch0 p0 e0 about1 theMethod args0 below0 :=
  ⟨lists_1, trivial, launch0.admits_env _ _ _, launch0.least_env, fairChoices_fair.cas, fairChoices_fair.clock, w_frames, w_args, w_heap, w_applies, trivial, trivial, w_case⟩
end start1
theorem witness_1 : WitnessClaimed_1 := ⟨start1.p0, start1.e0, start1.about1, start1.theMethod, start1.args0, start1.below0, start1.atStart⟩
end Jvm.Pilot.@@N@@
