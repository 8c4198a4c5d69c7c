import JvmDerived
import JvmDerived.Pilot.@@N@@Statement
import JvmDerived.Pilot.@@N@@Code
set_option linter.unusedVariables false
set_option linter.unusedSimpArgs false
namespace Jvm.RoadKit
theorem heq_of {T : State} {h : Heap} {a : Addr} {c : Cell} (e : T.heap = h) (q : h[a]? = some c) : T.heap[a]? = some c := by rw [e]; exact q
open Sem ClassFile Op Lib Jvm.Stand Jvm.Free Jvm.LawKit
section New
variable {p : Program} {l : Launch} {e : Env} {R : Room} {s : State} {m : MethodId} {args : Array Value} {below : List Frame} {meth : Method} {c : Code} {T : State} {locs : List Loc} {cells slots : Nat}
theorem retI (X : Stand p l e R s m args below meth c T locs cells slots) (hx : p.tables.exec = Jvm.exec) {pc : Nat} {Ls : Array Slot} {z : Int32} {rest : List Value} (hret : meth.sig.returnType = some .int) (hd : decode c.code pc = .ok (.ireturn, 1)) {fs : List Frame}
    (hl : ∀ (f : JFrame) (acts : List Action), f.method = m → f.locked = none → f.entered = [] → (doReturn e (T.setTop f) acts (some (.int z))).1 = T.setFrames fs) : Steps p.tables e below (T.setTop (mkF m pc Ls (.int z :: rest))) (T.setFrames fs) := by
  have hm' : T.vm.method? m = some meth := X.method'
  have hn : narrow .int (.int z) = .int z := rfl
  show Steps p.tables e below (T.setTop { method := m, pc := pc, locals := Ls, stack := _ :: rest, locked := none }) _
  jvm_step X.here [X.here.top, hx, hd, hm', hret, hn]
  first | (intro acts; rw [hl _ acts rfl rfl rfl]) | rw [hl _ _ rfl rfl rfl]
  exact Steps.refl _
end New
end Jvm.RoadKit
namespace Jvm.Pilot.@@N@@
open Jvm Jvm.ClassFile Sem Op Lib Jvm.Free Jvm.Stand Jvm.LawKit Jvm.RoadKit Bundle Jvm.Pilot.@@N@@.Jvm.D
def own_us (x : Int64) (k : Int32) : Int64 := (x.toUInt64 >>> (k &&& 0x3f).toInt64.toUInt64).toInt64
def own_mix (z : Int64) : Int64 :=
  let a := (z ^^^ own_us z 30) * (-4658895280553007687)
  let b := (a ^^^ own_us a 27) * (-7723592293110705685)
  b ^^^ own_us b 31
def own_inv (c : Int64) : Int64 :=
  let x := c * (2 - c * c)
  let x := x * (2 - c * x)
  let x := x * (2 - c * x)
  let x := x * (2 - c * x)
  x * (2 - c * x)
def own_unmix (y : Int64) : Int64 :=
  let z := (y ^^^ own_us y 31) ^^^ own_us y 62
  let z := z * own_inv (-7723592293110705685)
  let z := (z ^^^ own_us z 27) ^^^ own_us z 54
  let z := z * own_inv (-4658895280553007687)
  (z ^^^ own_us z 30) ^^^ own_us z 60
theorem own_bv_xs (y : BitVec 64) (k : Nat) (hk : 64 ≤ k + k + k) : ((y ^^^ (y >>> k)) ^^^ ((y ^^^ (y >>> k)) >>> k)) ^^^ ((y ^^^ (y >>> k)) >>> (k + k)) = y := by
  apply BitVec.eq_of_getLsbD_eq
  intro i hi
  simp only [BitVec.getLsbD_xor, BitVec.getLsbD_ushiftRight]
  have e : k + (k + i) = k + k + i := by omega
  have : y.getLsbD (k + (k + k + i)) = false := BitVec.getLsbD_of_ge _ _ (by omega)
  rw [this, e]
  cases y.getLsbD i <;> cases y.getLsbD (k + i) <;> cases y.getLsbD (k + k + i) <;> rfl
theorem own_bv_xs' (y : BitVec 64) (k : Nat) (hk : 64 ≤ k + k + k) : ((y ^^^ (y >>> k)) ^^^ (y >>> (k + k))) ^^^ (((y ^^^ (y >>> k)) ^^^ (y >>> (k + k))) >>> k) = y := by
  apply BitVec.eq_of_getLsbD_eq
  intro i hi
  simp only [BitVec.getLsbD_xor, BitVec.getLsbD_ushiftRight]
  have e : k + (k + i) = k + k + i := by omega
  have : y.getLsbD (k + k + (k + i)) = false := BitVec.getLsbD_of_ge _ _ (by omega)
  rw [this, e]
  cases y.getLsbD i <;> cases y.getLsbD (k + i) <;> cases y.getLsbD (k + k + i) <;> rfl
theorem own_us_bv (x : Int64) (k : Int32) (n : Nat) (h : ((k &&& 0x3f).toInt64.toUInt64.toBitVec % 64#64).toNat = n) : (own_us x k).toBitVec = x.toBitVec >>> n := by
  subst h; rfl
theorem own_xs (y : Int64) (k k2 : Int32) (n : Nat) (h : ((k &&& 0x3f).toInt64.toUInt64.toBitVec % 64#64).toNat = n) (h2 : ((k2 &&& 0x3f).toInt64.toUInt64.toBitVec % 64#64).toNat = n + n) (hn : 64 ≤ n + n + n) :
    ((y ^^^ own_us y k) ^^^ own_us (y ^^^ own_us y k) k) ^^^ own_us (y ^^^ own_us y k) k2 = y := by
  apply Int64.toBitVec_inj.1
  simp only [Int64.toBitVec_xor, own_us_bv _ _ _ h, own_us_bv _ _ _ h2]
  exact own_bv_xs _ _ hn
theorem own_xs' (y : Int64) (k k2 : Int32) (n : Nat) (h : ((k &&& 0x3f).toInt64.toUInt64.toBitVec % 64#64).toNat = n) (h2 : ((k2 &&& 0x3f).toInt64.toUInt64.toBitVec % 64#64).toNat = n + n) (hn : 64 ≤ n + n + n) :
    ((y ^^^ own_us y k) ^^^ own_us y k2) ^^^ own_us ((y ^^^ own_us y k) ^^^ own_us y k2) k = y := by
  apply Int64.toBitVec_inj.1
  simp only [Int64.toBitVec_xor, own_us_bv _ _ _ h, own_us_bv _ _ _ h2]
  exact own_bv_xs' _ _ hn
theorem own_inv1 : (-7723592293110705685 : Int64) * own_inv (-7723592293110705685) = 1 := by decide +kernel
theorem own_inv2 : (-4658895280553007687 : Int64) * own_inv (-4658895280553007687) = 1 := by decide +kernel
theorem own_inv1' : own_inv (-7723592293110705685) * (-7723592293110705685 : Int64) = 1 := by decide +kernel
theorem own_inv2' : own_inv (-4658895280553007687) * (-4658895280553007687 : Int64) = 1 := by decide +kernel
theorem own_unmix_mix (z : Int64) : own_unmix (own_mix z) = z := by
  unfold own_unmix own_mix
  dsimp only
  rw [own_xs _ 31 62 31 (by decide) (by decide) (by decide), Int64.mul_assoc, own_inv1, Int64.mul_one, own_xs _ 27 54 27 (by decide) (by decide) (by decide), Int64.mul_assoc, own_inv2, Int64.mul_one, own_xs _ 30 60 30 (by decide) (by decide) (by decide)]
theorem own_mix_unmix (z : Int64) : own_mix (own_unmix z) = z := by
  unfold own_unmix own_mix
  dsimp only
  rw [own_xs' _ 30 60 30 (by decide) (by decide) (by decide), Int64.mul_assoc, own_inv2', Int64.mul_one, own_xs' _ 27 54 27 (by decide) (by decide) (by decide), Int64.mul_assoc, own_inv1', Int64.mul_one, own_xs' _ 31 62 31 (by decide) (by decide) (by decide)]
theorem own_two (s : Int64) : (s + (-7046029254386353131 : Int64)) + (-7046029254386353131 : Int64) = s + (4354685564936845354 : Int64) := by
  rw [Int64.add_assoc]; rfl
theorem d1_0 : decode prog_42_method_1_code 0 = .ok (.aload_n 0, 1) := by decide +kernel
theorem d1_1 : decode prog_42_method_1_code 1 = .ok (.invokespecial 3, 3) := by decide +kernel
theorem d1_4 : decode prog_42_method_1_code 4 = .ok (.aload_n 0, 1) := by decide +kernel
theorem d1_5 : decode prog_42_method_1_code 5 = .ok (.lload_n 1, 1) := by decide +kernel
theorem d1_6 : decode prog_42_method_1_code 6 = .ok (.putfield 9, 3) := by decide +kernel
theorem d1_9 : decode prog_42_method_1_code 9 = .ok (.return_, 1) := by decide +kernel
theorem pn_1 : plainName "com/example/wary_rank/waryrank/SplitMix64" = true := by first | (simp [plainName, overriddenIn]; done) | decide +kernel
theorem ef_1 (m : MethodId) (x0 : Addr) (x1 : Int64) : entryFrame m #[(.ref x0), (.long x1)] 3 = mkF m 0 #[.val (.ref x0), .val (.long x1), .second] [] := by first | (simp [entryFrame, mkF, argsToLocals, Value.category]; done) | rfl
def Q1 (Z : State) (ob : Addr) (z : Int64) (h0 : Heap) (n0 : Nat) (v : Option Value) (h : Heap) (L : List Loc) : Prop := v = none ∧ Fr n0 L ∧ Keep h0 h [ob] ∧ Exa Z h ob "com/example/wary_rank/waryrank/SplitMix64" ∧ Fld Z h ob "com/example/wary_rank/waryrank/SplitMix64" "state" "J" (.long z)
set_option maxRecDepth 65536 in
set_option maxHeartbeats 40000000 in
theorem rm1 (l : Launch) (Z : State) (a0 : Array Value) (hw : ∀ d ∈ tables_1, d.before a0 Z = true) (ws : List Jvm.Cond) (ob : Addr) (z : Int64) (h0 : Heap) (n0 : Nat) (Z0 : n0 ≤ h0.size) (I0 : Fld Z h0 ob "com/example/wary_rank/waryrank/SplitMix64" "state" "J" (.long (0 : Int64))) (I1 : Exa Z h0 ob "com/example/wary_rank/waryrank/SplitMix64") (g_ob : n0 ≤ ob) :
    MetFree l (⟨"com/example/wary_rank/waryrank/SplitMix64", "<init>", "(J)V"⟩ : MethodName) (head1 (Jvm.Cond.code (⟨"com/example/wary_rank/waryrank/SplitMix64", "<init>", "(J)V"⟩ : MethodName) prog_42_method_1_code 3 none :: ws) ({ frames := 1, cells := 0, slots := 0, locals := 12 } : Room)) (fun a U => a = #[(.ref ob), (.long z)] ∧ Z.Warmed39 U.vm ∧ U.heap = h0) (fun _ _ _ _ _ => True) (fun _ U o U' => ∃ v L, o = .returned v ∧ Q1 Z ob z h0 n0 v U'.heap L ∧ FrameEnd U o U' L ({ frames := 1, cells := 0, slots := 0, locals := 12 } : Room).cells ({ frames := 1, cells := 0, slots := 0, locals := 12 } : Room).slots) := by
  refine MetFree.of_bodySF (plainFor_of_name pn_1) hisR ?_
  intro p e s m args below meth c s₁ Bd hml0 hP hK
  obtain ⟨rfl, hZ, hh⟩ := hP
  have hx := Bd.exec
  have hby := Bd.bytes
  have hml : c.maxLocals = 3 := hml0
  have hown : s.vm.findClass "com/example/wary_rank/waryrank/SplitMix64" = some m.cls := findClass_of_methodNamed Bd.named
  have hnm := (name_of_methodNamed Bd.named Bd.method).1
  have X0 : Stand p l e ({ frames := 1, cells := 0, slots := 0, locals := 12 } : Room) s m #[(.ref ob), (.long z)] below meth c s₁ [] 0 0 := Stand.of_body Bd
  have e0 : s₁.heap = h0 := by rw [← hh, Bd.state]; rfl
  have N0 := Fr.nil n0
  have K0 : Keep h0 h0 [ob] := Keep.refl h0 _
  have pre0 : ∀ tq, Steps p.tables e below (s₁.setTop (mkF m 0 #[.val (.ref ob), .val (.long z), .second] [])) tq → Steps p.tables e below (s₁.setTop (entryFrame m #[(.ref ob), (.long z)] 3)) tq := fun tq kq => castTop (ef_1 m ob z) kq
  obtain ⟨T1, X1, e1, st1⟩ := initO X0 hx hZ hown (hw _ (List.mem_of_getElem? (i := 6) rfl)) (hw _ (List.mem_of_getElem? (i := 7) rfl)) (hw _ (List.mem_of_getElem? (i := 8) rfl)) e0 (g := (mkF m 1 #[.val (.ref ob), .val (.long z), .second] [(.ref ob)])) rfl (by rw [hml]; rfl) rfl (hb hby d1_1) (by decide) (W := 0) (by show 2 * 0 + _ ≤ _; exact Nat.le_of_eq rfl) (by decide)
  obtain ⟨T2, hX2, X2, e2, W2, st2⟩ := putF X1 hx hZ hown (host := "") (Or.inl (hw _ (List.mem_of_getElem? (i := 9) rfl))) Via.refl e1 I0 I1 (Or.inl (hw _ (List.mem_of_getElem? (i := 10) rfl))) (hw _ (List.mem_of_getElem? (i := 1) rfl)) (ty := .long) (by decide) rfl rfl (g := (mkF m 6 #[.val (.ref ob), .val (.long z), .second] [(.long z), (.ref ob)])) rfl rfl (hb hby d1_6)
  have N2 := Fr.snoc X2 N0 g_ob
  have F3 : Fld Z hX2 ob "com/example/wary_rank/waryrank/SplitMix64" "state" "J" (.long z) := I0.same W2
  have F4 : Exa Z hX2 ob "com/example/wary_rank/waryrank/SplitMix64" := I1.wr W2
  have Z5 : n0 ≤ hX2.size := Nat.le_trans Z0 (Keep.of_wr W2).1
  have K6 : Keep h0 hX2 [ob] := K0.wr W2 (Or.inl (List.mem_of_getElem? (i := 0) rfl))
  obtain ⟨fs, hr, hrun, hended, hW, hsame⟩ := X2.leave (v := none) (fun _ => rfl)
  refine ⟨_, _, pre0 _ ?_, hrun, hended, _, _, rfl, ?_, ⟨_, rfl⟩, hW, hsame.mono (by decide) (by decide)⟩
  · skip
    show Steps p.tables e below (s₁.setTop (mkF m 0 #[.val (.ref ob), .val (.long z), .second] [])) _
    refine XS.aloadN X0.here hx rfl (hb hby d1_0) rfl rfl ?_
    show Steps p.tables e below (s₁.setTop (mkF m 1 #[.val (.ref ob), .val (.long z), .second] [(.ref ob)])) _
    refine st1 _ ?_
    show Steps p.tables e below (T1.setTop (mkF m 4 #[.val (.ref ob), .val (.long z), .second] [])) _
    refine XS.aloadN X1.here hx rfl (hb hby d1_4) rfl rfl ?_
    show Steps p.tables e below (T1.setTop (mkF m 5 #[.val (.ref ob), .val (.long z), .second] [(.ref ob)])) _
    refine XS.lloadN X1.here hx rfl (hb hby d1_5) rfl ?_
    show Steps p.tables e below (T1.setTop (mkF m 6 #[.val (.ref ob), .val (.long z), .second] [(.long z), (.ref ob)])) _
    refine st2 _ ?_
    show Steps p.tables e below (T2.setTop (mkF m 9 #[.val (.ref ob), .val (.long z), .second] [])) _
    exact X2.returnOut hx Bd.returns (hb hby d1_9) hr
  · show Q1 Z ob z h0 n0 _ T2.heap _
    rw [e2]
    exact ⟨rfl, N2, K6, F4, F3⟩
theorem d3_0 : decode prog_42_method_2_code 0 = .ok (.aload_n 0, 1) := by decide +kernel
theorem d3_1 : decode prog_42_method_2_code 1 = .ok (.dup, 1) := by decide +kernel
theorem d3_2 : decode prog_42_method_2_code 2 = .ok (.getfield 9, 3) := by decide +kernel
theorem d3_5 : decode prog_42_method_2_code 5 = .ok (.ldc2_w 15, 3) := by decide +kernel
theorem d3_8 : decode prog_42_method_2_code 8 = .ok (.ladd, 1) := by decide +kernel
theorem d3_9 : decode prog_42_method_2_code 9 = .ok (.putfield 9, 3) := by decide +kernel
theorem d3_12 : decode prog_42_method_2_code 12 = .ok (.aload_n 0, 1) := by decide +kernel
theorem d3_13 : decode prog_42_method_2_code 13 = .ok (.getfield 9, 3) := by decide +kernel
theorem d3_16 : decode prog_42_method_2_code 16 = .ok (.aload_n 0, 1) := by decide +kernel
theorem d3_17 : decode prog_42_method_2_code 17 = .ok (.getfield 9, 3) := by decide +kernel
theorem d3_20 : decode prog_42_method_2_code 20 = .ok (.bipush 30, 2) := by decide +kernel
theorem d3_22 : decode prog_42_method_2_code 22 = .ok (.lushr, 1) := by decide +kernel
theorem d3_23 : decode prog_42_method_2_code 23 = .ok (.lxor, 1) := by decide +kernel
theorem d3_24 : decode prog_42_method_2_code 24 = .ok (.ldc2_w 17, 3) := by decide +kernel
theorem d3_27 : decode prog_42_method_2_code 27 = .ok (.lmul, 1) := by decide +kernel
theorem d3_28 : decode prog_42_method_2_code 28 = .ok (.lstore_n 1, 1) := by decide +kernel
theorem d3_29 : decode prog_42_method_2_code 29 = .ok (.lload_n 1, 1) := by decide +kernel
theorem d3_30 : decode prog_42_method_2_code 30 = .ok (.lload_n 1, 1) := by decide +kernel
theorem d3_31 : decode prog_42_method_2_code 31 = .ok (.bipush 27, 2) := by decide +kernel
theorem d3_33 : decode prog_42_method_2_code 33 = .ok (.lushr, 1) := by decide +kernel
theorem d3_34 : decode prog_42_method_2_code 34 = .ok (.lxor, 1) := by decide +kernel
theorem d3_35 : decode prog_42_method_2_code 35 = .ok (.ldc2_w 19, 3) := by decide +kernel
theorem d3_38 : decode prog_42_method_2_code 38 = .ok (.lmul, 1) := by decide +kernel
theorem d3_39 : decode prog_42_method_2_code 39 = .ok (.lstore_n 1, 1) := by decide +kernel
theorem d3_40 : decode prog_42_method_2_code 40 = .ok (.lload_n 1, 1) := by decide +kernel
theorem d3_41 : decode prog_42_method_2_code 41 = .ok (.lload_n 1, 1) := by decide +kernel
theorem d3_42 : decode prog_42_method_2_code 42 = .ok (.bipush 31, 2) := by decide +kernel
theorem d3_44 : decode prog_42_method_2_code 44 = .ok (.lushr, 1) := by decide +kernel
theorem d3_45 : decode prog_42_method_2_code 45 = .ok (.lxor, 1) := by decide +kernel
theorem d3_46 : decode prog_42_method_2_code 46 = .ok (.lreturn, 1) := by decide +kernel
theorem pn_3 : plainName "com/example/wary_rank/waryrank/SplitMix64" = true := by first | (simp [plainName, overriddenIn]; done) | decide +kernel
theorem ef_3 (m : MethodId) (x0 : Addr) : entryFrame m #[(.ref x0)] 3 = mkF m 0 #[.val (.ref x0), .unset, .unset] [] := by first | (simp [entryFrame, mkF, argsToLocals, Value.category]; done) | rfl
def Q3 (Z : State) (ob : Addr) (w : Int64) (h0 : Heap) (n0 : Nat) (v : Option Value) (h : Heap) (L : List Loc) : Prop := v = some (.long (own_mix (w + (-7046029254386353131 : Int64)))) ∧ Fr n0 L ∧ Keep h0 h [ob] ∧ Exa Z h ob "com/example/wary_rank/waryrank/SplitMix64" ∧ Fld Z h ob "com/example/wary_rank/waryrank/SplitMix64" "state" "J" (.long (w + (-7046029254386353131 : Int64)))
set_option maxRecDepth 65536 in
set_option maxHeartbeats 40000000 in
theorem rm3 (l : Launch) (Z : State) (a0 : Array Value) (hw : ∀ d ∈ tables_1, d.before a0 Z = true) (ws : List Jvm.Cond) (ob : Addr) (w : Int64) (h0 : Heap) (n0 : Nat) (Z0 : n0 ≤ h0.size) (I0 : Fld Z h0 ob "com/example/wary_rank/waryrank/SplitMix64" "state" "J" (.long w)) (I1 : Exa Z h0 ob "com/example/wary_rank/waryrank/SplitMix64") (g_ob : n0 ≤ ob) :
    MetFree l (⟨"com/example/wary_rank/waryrank/SplitMix64", "nextLong", "()J"⟩ : MethodName) (head1 (Jvm.Cond.code (⟨"com/example/wary_rank/waryrank/SplitMix64", "nextLong", "()J"⟩ : MethodName) prog_42_method_2_code 3 (some .long) :: ws) ({ frames := 0, cells := 0, slots := 0, locals := 0 } : Room)) (fun a U => a = #[(.ref ob)] ∧ Z.Warmed39 U.vm ∧ U.heap = h0) (fun _ _ _ _ _ => True) (fun _ U o U' => ∃ v L, o = .returned v ∧ Q3 Z ob w h0 n0 v U'.heap L ∧ FrameEnd U o U' L ({ frames := 0, cells := 0, slots := 0, locals := 0 } : Room).cells ({ frames := 0, cells := 0, slots := 0, locals := 0 } : Room).slots) := by
  refine MetFree.of_bodySF (plainFor_of_name pn_3) hisR ?_
  intro p e s m args below meth c s₁ Bd hml0 hP hK
  obtain ⟨rfl, hZ, hh⟩ := hP
  have hx := Bd.exec
  have hby := Bd.bytes
  have hml : c.maxLocals = 3 := hml0
  have hown : s.vm.findClass "com/example/wary_rank/waryrank/SplitMix64" = some m.cls := findClass_of_methodNamed Bd.named
  have hnm := (name_of_methodNamed Bd.named Bd.method).1
  have X0 : Stand p l e ({ frames := 0, cells := 0, slots := 0, locals := 0 } : Room) s m #[(.ref ob)] below meth c s₁ [] 0 0 := Stand.of_body Bd
  have e0 : s₁.heap = h0 := by rw [← hh, Bd.state]; rfl
  have N0 := Fr.nil n0
  have K0 : Keep h0 h0 [ob] := Keep.refl h0 _
  have pre0 : ∀ tq, Steps p.tables e below (s₁.setTop (mkF m 0 #[.val (.ref ob), .unset, .unset] [])) tq → Steps p.tables e below (s₁.setTop (entryFrame m #[(.ref ob)] 3)) tq := fun tq kq => castTop (ef_3 m ob) kq
  obtain ⟨T1, X1, e1, st1⟩ := getF X0 hx hZ hown (host := "") (Or.inl (hw _ (List.mem_of_getElem? (i := 9) rfl))) Via.refl e0 I0 (g := (mkF m 2 #[.val (.ref ob), .unset, .unset] [(.ref ob), (.ref ob)])) rfl rfl (hb hby d3_2)
  obtain ⟨T2, hX2, X2, e2, W2, st2⟩ := putF X1 hx hZ hown (host := "") (Or.inl (hw _ (List.mem_of_getElem? (i := 9) rfl))) Via.refl e1 I0 I1 (Or.inl (hw _ (List.mem_of_getElem? (i := 10) rfl))) (hw _ (List.mem_of_getElem? (i := 1) rfl)) (ty := .long) (by decide) rfl rfl (g := (mkF m 9 #[.val (.ref ob), .unset, .unset] [(.long (w + (-7046029254386353131 : Int64))), (.ref ob)])) rfl rfl (hb hby d3_9)
  have N2 := Fr.snoc X2 N0 g_ob
  have F3 : Fld Z hX2 ob "com/example/wary_rank/waryrank/SplitMix64" "state" "J" (.long (w + (-7046029254386353131 : Int64))) := I0.same W2
  have F4 : Exa Z hX2 ob "com/example/wary_rank/waryrank/SplitMix64" := I1.wr W2
  have Z5 : n0 ≤ hX2.size := Nat.le_trans Z0 (Keep.of_wr W2).1
  have K6 : Keep h0 hX2 [ob] := K0.wr W2 (Or.inl (List.mem_of_getElem? (i := 0) rfl))
  obtain ⟨T7, X7, e7, st7⟩ := getF X2 hx hZ hown (host := "") (Or.inl (hw _ (List.mem_of_getElem? (i := 9) rfl))) Via.refl e2 F3 (g := (mkF m 13 #[.val (.ref ob), .unset, .unset] [(.ref ob)])) rfl rfl (hb hby d3_13)
  obtain ⟨T8, X8, e8, st8⟩ := getF X7 hx hZ hown (host := "") (Or.inl (hw _ (List.mem_of_getElem? (i := 9) rfl))) Via.refl e7 F3 (g := (mkF m 17 #[.val (.ref ob), .unset, .unset] [(.ref ob), (.long (w + (-7046029254386353131 : Int64)))])) rfl rfl (hb hby d3_17)
  obtain ⟨v28, hv28⟩ : ∃ z_q : Int64, z_q = (((w + (-7046029254386353131 : Int64)) ^^^ (((w + (-7046029254386353131 : Int64)).toUInt64 >>> ((30 : Int32) &&& 0x3f).toInt64.toUInt64).toInt64)) * (-4658895280553007687 : Int64)) := ⟨_, rfl⟩
  obtain ⟨v39, hv39⟩ : ∃ z_q : Int64, z_q = ((v28 ^^^ ((v28.toUInt64 >>> ((27 : Int32) &&& 0x3f).toInt64.toUInt64).toInt64)) * (-7723592293110705685 : Int64)) := ⟨_, rfl⟩
  obtain ⟨fs, hr, hrun, hended, hW, hsame⟩ := X8.leave (v := some (Value.long (v39 ^^^ ((v39.toUInt64 >>> ((31 : Int32) &&& 0x3f).toInt64.toUInt64).toInt64)))) (fun h => by rw [Bd.returns] at h; cases h)
  have hres9 : (v39 ^^^ ((v39.toUInt64 >>> ((31 : Int32) &&& 0x3f).toInt64.toUInt64).toInt64)) = (own_mix (w + (-7046029254386353131 : Int64))) := by subst_vars; rfl
  refine ⟨_, _, pre0 _ ?_, hrun, hended, _, _, rfl, ?_, ⟨_, rfl⟩, hW, hsame.mono (by decide) (by decide)⟩
  · skip
    show Steps p.tables e below (s₁.setTop (mkF m 0 #[.val (.ref ob), .unset, .unset] [])) _
    refine XS.aloadN X0.here hx rfl (hb hby d3_0) rfl rfl ?_
    show Steps p.tables e below (s₁.setTop (mkF m 1 #[.val (.ref ob), .unset, .unset] [(.ref ob)])) _
    refine XS.dup X0.here hx rfl (hb hby d3_1) rfl rfl ?_
    show Steps p.tables e below (s₁.setTop (mkF m 2 #[.val (.ref ob), .unset, .unset] [(.ref ob), (.ref ob)])) _
    refine st1 _ ?_
    show Steps p.tables e below (T1.setTop (mkF m 5 #[.val (.ref ob), .unset, .unset] [(.long w), (.ref ob)])) _
    refine X1.ldc2Long hx hown (mvT hZ (hw _ (List.mem_of_getElem? (i := 16) rfl))) (g := (mkF m 5 #[.val (.ref ob), .unset, .unset] [(.long w), (.ref ob)])) rfl (hb hby d3_5) _ ?_
    show Steps p.tables e below (T1.setTop (mkF m 8 #[.val (.ref ob), .unset, .unset] [(.long (-7046029254386353131 : Int64)), (.long w), (.ref ob)])) _
    refine XS.ladd X1.here hx rfl (hb hby d3_8) rfl ?_
    show Steps p.tables e below (T1.setTop (mkF m 9 #[.val (.ref ob), .unset, .unset] [(.long (w + (-7046029254386353131 : Int64))), (.ref ob)])) _
    refine st2 _ ?_
    show Steps p.tables e below (T2.setTop (mkF m 12 #[.val (.ref ob), .unset, .unset] [])) _
    refine XS.aloadN X2.here hx rfl (hb hby d3_12) rfl rfl ?_
    show Steps p.tables e below (T2.setTop (mkF m 13 #[.val (.ref ob), .unset, .unset] [(.ref ob)])) _
    refine st7 _ ?_
    show Steps p.tables e below (T7.setTop (mkF m 16 #[.val (.ref ob), .unset, .unset] [(.long (w + (-7046029254386353131 : Int64)))])) _
    refine XS.aloadN X7.here hx rfl (hb hby d3_16) rfl rfl ?_
    show Steps p.tables e below (T7.setTop (mkF m 17 #[.val (.ref ob), .unset, .unset] [(.ref ob), (.long (w + (-7046029254386353131 : Int64)))])) _
    refine st8 _ ?_
    show Steps p.tables e below (T8.setTop (mkF m 20 #[.val (.ref ob), .unset, .unset] [(.long (w + (-7046029254386353131 : Int64))), (.long (w + (-7046029254386353131 : Int64)))])) _
    refine XS.bipush X8.here hx rfl (hb hby d3_20) ?_
    show Steps p.tables e below (T8.setTop (mkF m 22 #[.val (.ref ob), .unset, .unset] [(.int (30 : Int32)), (.long (w + (-7046029254386353131 : Int64))), (.long (w + (-7046029254386353131 : Int64)))])) _
    refine XS.lushr X8.here hx rfl (hb hby d3_22) rfl ?_
    show Steps p.tables e below (T8.setTop (mkF m 23 #[.val (.ref ob), .unset, .unset] [(.long (((w + (-7046029254386353131 : Int64)).toUInt64 >>> ((30 : Int32) &&& 0x3f).toInt64.toUInt64).toInt64)), (.long (w + (-7046029254386353131 : Int64)))])) _
    refine XS.lxor X8.here hx rfl (hb hby d3_23) rfl ?_
    show Steps p.tables e below (T8.setTop (mkF m 24 #[.val (.ref ob), .unset, .unset] [(.long ((w + (-7046029254386353131 : Int64)) ^^^ (((w + (-7046029254386353131 : Int64)).toUInt64 >>> ((30 : Int32) &&& 0x3f).toInt64.toUInt64).toInt64)))])) _
    refine X8.ldc2Long hx hown (mvT hZ (hw _ (List.mem_of_getElem? (i := 17) rfl))) (g := (mkF m 24 #[.val (.ref ob), .unset, .unset] [(.long ((w + (-7046029254386353131 : Int64)) ^^^ (((w + (-7046029254386353131 : Int64)).toUInt64 >>> ((30 : Int32) &&& 0x3f).toInt64.toUInt64).toInt64)))])) rfl (hb hby d3_24) _ ?_
    show Steps p.tables e below (T8.setTop (mkF m 27 #[.val (.ref ob), .unset, .unset] [(.long (-4658895280553007687 : Int64)), (.long ((w + (-7046029254386353131 : Int64)) ^^^ (((w + (-7046029254386353131 : Int64)).toUInt64 >>> ((30 : Int32) &&& 0x3f).toInt64.toUInt64).toInt64)))])) _
    refine XS.lmul X8.here hx rfl (hb hby d3_27) rfl ?_
    show Steps p.tables e below (T8.setTop (mkF m 28 #[.val (.ref ob), .unset, .unset] [(.long (((w + (-7046029254386353131 : Int64)) ^^^ (((w + (-7046029254386353131 : Int64)).toUInt64 >>> ((30 : Int32) &&& 0x3f).toInt64.toUInt64).toInt64)) * (-4658895280553007687 : Int64)))])) _
    refine XS.lstoreN X8.here hx rfl (hb hby d3_28) rfl (l' := #[.val (.ref ob), .val (.long v28), .second]) (by rw [hv28]; rfl) ?_
    show Steps p.tables e below (T8.setTop (mkF m 29 #[.val (.ref ob), .val (.long v28), .second] [])) _
    refine XS.lloadN X8.here hx rfl (hb hby d3_29) rfl ?_
    show Steps p.tables e below (T8.setTop (mkF m 30 #[.val (.ref ob), .val (.long v28), .second] [(.long v28)])) _
    refine XS.lloadN X8.here hx rfl (hb hby d3_30) rfl ?_
    show Steps p.tables e below (T8.setTop (mkF m 31 #[.val (.ref ob), .val (.long v28), .second] [(.long v28), (.long v28)])) _
    refine XS.bipush X8.here hx rfl (hb hby d3_31) ?_
    show Steps p.tables e below (T8.setTop (mkF m 33 #[.val (.ref ob), .val (.long v28), .second] [(.int (27 : Int32)), (.long v28), (.long v28)])) _
    refine XS.lushr X8.here hx rfl (hb hby d3_33) rfl ?_
    show Steps p.tables e below (T8.setTop (mkF m 34 #[.val (.ref ob), .val (.long v28), .second] [(.long ((v28.toUInt64 >>> ((27 : Int32) &&& 0x3f).toInt64.toUInt64).toInt64)), (.long v28)])) _
    refine XS.lxor X8.here hx rfl (hb hby d3_34) rfl ?_
    show Steps p.tables e below (T8.setTop (mkF m 35 #[.val (.ref ob), .val (.long v28), .second] [(.long (v28 ^^^ ((v28.toUInt64 >>> ((27 : Int32) &&& 0x3f).toInt64.toUInt64).toInt64)))])) _
    refine X8.ldc2Long hx hown (mvT hZ (hw _ (List.mem_of_getElem? (i := 18) rfl))) (g := (mkF m 35 #[.val (.ref ob), .val (.long v28), .second] [(.long (v28 ^^^ ((v28.toUInt64 >>> ((27 : Int32) &&& 0x3f).toInt64.toUInt64).toInt64)))])) rfl (hb hby d3_35) _ ?_
    show Steps p.tables e below (T8.setTop (mkF m 38 #[.val (.ref ob), .val (.long v28), .second] [(.long (-7723592293110705685 : Int64)), (.long (v28 ^^^ ((v28.toUInt64 >>> ((27 : Int32) &&& 0x3f).toInt64.toUInt64).toInt64)))])) _
    refine XS.lmul X8.here hx rfl (hb hby d3_38) rfl ?_
    show Steps p.tables e below (T8.setTop (mkF m 39 #[.val (.ref ob), .val (.long v28), .second] [(.long ((v28 ^^^ ((v28.toUInt64 >>> ((27 : Int32) &&& 0x3f).toInt64.toUInt64).toInt64)) * (-7723592293110705685 : Int64)))])) _
    refine XS.lstoreN X8.here hx rfl (hb hby d3_39) rfl (l' := #[.val (.ref ob), .val (.long v39), .second]) (by rw [hv39]; rfl) ?_
    show Steps p.tables e below (T8.setTop (mkF m 40 #[.val (.ref ob), .val (.long v39), .second] [])) _
    refine XS.lloadN X8.here hx rfl (hb hby d3_40) rfl ?_
    show Steps p.tables e below (T8.setTop (mkF m 41 #[.val (.ref ob), .val (.long v39), .second] [(.long v39)])) _
    refine XS.lloadN X8.here hx rfl (hb hby d3_41) rfl ?_
    show Steps p.tables e below (T8.setTop (mkF m 42 #[.val (.ref ob), .val (.long v39), .second] [(.long v39), (.long v39)])) _
    refine XS.bipush X8.here hx rfl (hb hby d3_42) ?_
    show Steps p.tables e below (T8.setTop (mkF m 44 #[.val (.ref ob), .val (.long v39), .second] [(.int (31 : Int32)), (.long v39), (.long v39)])) _
    refine XS.lushr X8.here hx rfl (hb hby d3_44) rfl ?_
    show Steps p.tables e below (T8.setTop (mkF m 45 #[.val (.ref ob), .val (.long v39), .second] [(.long ((v39.toUInt64 >>> ((31 : Int32) &&& 0x3f).toInt64.toUInt64).toInt64)), (.long v39)])) _
    refine XS.lxor X8.here hx rfl (hb hby d3_45) rfl ?_
    show Steps p.tables e below (T8.setTop (mkF m 46 #[.val (.ref ob), .val (.long v39), .second] [(.long (v39 ^^^ ((v39.toUInt64 >>> ((31 : Int32) &&& 0x3f).toInt64.toUInt64).toInt64)))])) _
    exact retOut X8 hx Bd.returns rfl (Or.inr (Or.inl ⟨rfl, rfl, _, rfl⟩)) (hb hby d3_46) hr
  · show Q3 Z ob w h0 n0 _ T8.heap _
    rw [e8]
    exact ⟨congrArg (fun z => some (Value.long z)) hres9, N2, K6, F4, F3⟩
theorem d5_0 : decode method_2_code 0 = .ok (.lload_n 0, 1) := by decide +kernel
theorem d5_1 : decode method_2_code 1 = .ok (.lstore_n 2, 1) := by decide +kernel
theorem d5_2 : decode method_2_code 2 = .ok (.lload_n 2, 1) := by decide +kernel
theorem d5_3 : decode method_2_code 3 = .ok (.ldc2_w 7, 3) := by decide +kernel
theorem d5_6 : decode method_2_code 6 = .ok (.lload_n 0, 1) := by decide +kernel
theorem d5_7 : decode method_2_code 7 = .ok (.lload_n 2, 1) := by decide +kernel
theorem d5_8 : decode method_2_code 8 = .ok (.lmul, 1) := by decide +kernel
theorem d5_9 : decode method_2_code 9 = .ok (.lsub, 1) := by decide +kernel
theorem d5_10 : decode method_2_code 10 = .ok (.lmul, 1) := by decide +kernel
theorem d5_11 : decode method_2_code 11 = .ok (.lstore_n 2, 1) := by decide +kernel
theorem d5_12 : decode method_2_code 12 = .ok (.lload_n 2, 1) := by decide +kernel
theorem d5_13 : decode method_2_code 13 = .ok (.ldc2_w 7, 3) := by decide +kernel
theorem d5_16 : decode method_2_code 16 = .ok (.lload_n 0, 1) := by decide +kernel
theorem d5_17 : decode method_2_code 17 = .ok (.lload_n 2, 1) := by decide +kernel
theorem d5_18 : decode method_2_code 18 = .ok (.lmul, 1) := by decide +kernel
theorem d5_19 : decode method_2_code 19 = .ok (.lsub, 1) := by decide +kernel
theorem d5_20 : decode method_2_code 20 = .ok (.lmul, 1) := by decide +kernel
theorem d5_21 : decode method_2_code 21 = .ok (.lstore_n 2, 1) := by decide +kernel
theorem d5_22 : decode method_2_code 22 = .ok (.lload_n 2, 1) := by decide +kernel
theorem d5_23 : decode method_2_code 23 = .ok (.ldc2_w 7, 3) := by decide +kernel
theorem d5_26 : decode method_2_code 26 = .ok (.lload_n 0, 1) := by decide +kernel
theorem d5_27 : decode method_2_code 27 = .ok (.lload_n 2, 1) := by decide +kernel
theorem d5_28 : decode method_2_code 28 = .ok (.lmul, 1) := by decide +kernel
theorem d5_29 : decode method_2_code 29 = .ok (.lsub, 1) := by decide +kernel
theorem d5_30 : decode method_2_code 30 = .ok (.lmul, 1) := by decide +kernel
theorem d5_31 : decode method_2_code 31 = .ok (.lstore_n 2, 1) := by decide +kernel
theorem d5_32 : decode method_2_code 32 = .ok (.lload_n 2, 1) := by decide +kernel
theorem d5_33 : decode method_2_code 33 = .ok (.ldc2_w 7, 3) := by decide +kernel
theorem d5_36 : decode method_2_code 36 = .ok (.lload_n 0, 1) := by decide +kernel
theorem d5_37 : decode method_2_code 37 = .ok (.lload_n 2, 1) := by decide +kernel
theorem d5_38 : decode method_2_code 38 = .ok (.lmul, 1) := by decide +kernel
theorem d5_39 : decode method_2_code 39 = .ok (.lsub, 1) := by decide +kernel
theorem d5_40 : decode method_2_code 40 = .ok (.lmul, 1) := by decide +kernel
theorem d5_41 : decode method_2_code 41 = .ok (.lstore_n 2, 1) := by decide +kernel
theorem d5_42 : decode method_2_code 42 = .ok (.lload_n 2, 1) := by decide +kernel
theorem d5_43 : decode method_2_code 43 = .ok (.ldc2_w 7, 3) := by decide +kernel
theorem d5_46 : decode method_2_code 46 = .ok (.lload_n 0, 1) := by decide +kernel
theorem d5_47 : decode method_2_code 47 = .ok (.lload_n 2, 1) := by decide +kernel
theorem d5_48 : decode method_2_code 48 = .ok (.lmul, 1) := by decide +kernel
theorem d5_49 : decode method_2_code 49 = .ok (.lsub, 1) := by decide +kernel
theorem d5_50 : decode method_2_code 50 = .ok (.lmul, 1) := by decide +kernel
theorem d5_51 : decode method_2_code 51 = .ok (.lstore_n 2, 1) := by decide +kernel
theorem d5_52 : decode method_2_code 52 = .ok (.lload_n 2, 1) := by decide +kernel
theorem d5_53 : decode method_2_code 53 = .ok (.lreturn, 1) := by decide +kernel
theorem pn_5 : plainName "com/example/wary_rank/waryrank/SplitMix64NextLongPinLaw" = true := by first | (simp [plainName, overriddenIn]; done) | decide +kernel
theorem ef_5 (m : MethodId) (x0 : Int64) : entryFrame m #[(.long x0)] 4 = mkF m 0 #[.val (.long x0), .second, .unset, .unset] [] := by first | (simp [entryFrame, mkF, argsToLocals, Value.category]; done) | rfl
def Q5 (Z : State) (z : Int64) (h0 : Heap) (n0 : Nat) (v : Option Value) (h : Heap) (L : List Loc) : Prop := v = some (.long (own_inv z)) ∧ Fr n0 L ∧ h = h0
set_option maxRecDepth 65536 in
set_option maxHeartbeats 40000000 in
theorem rm5 (l : Launch) (Z : State) (a0 : Array Value) (hw : ∀ d ∈ tables_1, d.before a0 Z = true) (ws : List Jvm.Cond) (z : Int64) (h0 : Heap) (n0 : Nat) (Z0 : n0 ≤ h0.size)  :
    MetFree l (⟨"com/example/wary_rank/waryrank/SplitMix64NextLongPinLaw", "inverse", "(J)J"⟩ : MethodName) (head1 (Jvm.Cond.code (⟨"com/example/wary_rank/waryrank/SplitMix64NextLongPinLaw", "inverse", "(J)J"⟩ : MethodName) method_2_code 4 (some .long) :: ws) ({ frames := 0, cells := 0, slots := 0, locals := 0 } : Room)) (fun a U => a = #[(.long z)] ∧ Z.Warmed39 U.vm ∧ U.heap = h0) (fun _ _ _ _ _ => True) (fun _ U o U' => ∃ v L, o = .returned v ∧ Q5 Z z h0 n0 v U'.heap L ∧ FrameEnd U o U' L ({ frames := 0, cells := 0, slots := 0, locals := 0 } : Room).cells ({ frames := 0, cells := 0, slots := 0, locals := 0 } : Room).slots) := by
  refine MetFree.of_bodySF (plainFor_of_name pn_5) hisR ?_
  intro p e s m args below meth c s₁ Bd hml0 hP hK
  obtain ⟨rfl, hZ, hh⟩ := hP
  have hx := Bd.exec
  have hby := Bd.bytes
  have hml : c.maxLocals = 4 := hml0
  have hown : s.vm.findClass "com/example/wary_rank/waryrank/SplitMix64NextLongPinLaw" = some m.cls := findClass_of_methodNamed Bd.named
  have hnm := (name_of_methodNamed Bd.named Bd.method).1
  have X0 : Stand p l e ({ frames := 0, cells := 0, slots := 0, locals := 0 } : Room) s m #[(.long z)] below meth c s₁ [] 0 0 := Stand.of_body Bd
  have e0 : s₁.heap = h0 := by rw [← hh, Bd.state]; rfl
  have N0 := Fr.nil n0
  have K0 : Keep h0 h0 [] := Keep.refl h0 _
  have pre0 : ∀ tq, Steps p.tables e below (s₁.setTop (mkF m 0 #[.val (.long z), .second, .unset, .unset] [])) tq → Steps p.tables e below (s₁.setTop (entryFrame m #[(.long z)] 4)) tq := fun tq kq => castTop (ef_5 m z) kq
  obtain ⟨v11, hv11⟩ : ∃ z_q : Int64, z_q = (z * ((2 : Int64) - (z * z))) := ⟨_, rfl⟩
  obtain ⟨v21, hv21⟩ : ∃ z_q : Int64, z_q = (v11 * ((2 : Int64) - (z * v11))) := ⟨_, rfl⟩
  obtain ⟨v31, hv31⟩ : ∃ z_q : Int64, z_q = (v21 * ((2 : Int64) - (z * v21))) := ⟨_, rfl⟩
  obtain ⟨v41, hv41⟩ : ∃ z_q : Int64, z_q = (v31 * ((2 : Int64) - (z * v31))) := ⟨_, rfl⟩
  obtain ⟨v51, hv51⟩ : ∃ z_q : Int64, z_q = (v41 * ((2 : Int64) - (z * v41))) := ⟨_, rfl⟩
  obtain ⟨fs, hr, hrun, hended, hW, hsame⟩ := X0.leave (v := some (Value.long v51)) (fun h => by rw [Bd.returns] at h; cases h)
  have hres1 : v51 = (own_inv z) := by subst_vars; rfl
  refine ⟨_, _, pre0 _ ?_, hrun, hended, _, _, rfl, ?_, ⟨_, rfl⟩, hW, hsame.mono (by decide) (by decide)⟩
  · skip
    show Steps p.tables e below (s₁.setTop (mkF m 0 #[.val (.long z), .second, .unset, .unset] [])) _
    refine XS.lloadN X0.here hx rfl (hb hby d5_0) rfl ?_
    show Steps p.tables e below (s₁.setTop (mkF m 1 #[.val (.long z), .second, .unset, .unset] [(.long z)])) _
    refine XS.lstoreN X0.here hx rfl (hb hby d5_1) rfl (l' := #[.val (.long z), .second, .val (.long z), .second]) rfl ?_
    show Steps p.tables e below (s₁.setTop (mkF m 2 #[.val (.long z), .second, .val (.long z), .second] [])) _
    refine XS.lloadN X0.here hx rfl (hb hby d5_2) rfl ?_
    show Steps p.tables e below (s₁.setTop (mkF m 3 #[.val (.long z), .second, .val (.long z), .second] [(.long z)])) _
    refine X0.ldc2Long hx hown (mvT hZ (hw _ (List.mem_of_getElem? (i := 27) rfl))) (g := (mkF m 3 #[.val (.long z), .second, .val (.long z), .second] [(.long z)])) rfl (hb hby d5_3) _ ?_
    show Steps p.tables e below (s₁.setTop (mkF m 6 #[.val (.long z), .second, .val (.long z), .second] [(.long (2 : Int64)), (.long z)])) _
    refine XS.lloadN X0.here hx rfl (hb hby d5_6) rfl ?_
    show Steps p.tables e below (s₁.setTop (mkF m 7 #[.val (.long z), .second, .val (.long z), .second] [(.long z), (.long (2 : Int64)), (.long z)])) _
    refine XS.lloadN X0.here hx rfl (hb hby d5_7) rfl ?_
    show Steps p.tables e below (s₁.setTop (mkF m 8 #[.val (.long z), .second, .val (.long z), .second] [(.long z), (.long z), (.long (2 : Int64)), (.long z)])) _
    refine XS.lmul X0.here hx rfl (hb hby d5_8) rfl ?_
    show Steps p.tables e below (s₁.setTop (mkF m 9 #[.val (.long z), .second, .val (.long z), .second] [(.long (z * z)), (.long (2 : Int64)), (.long z)])) _
    refine XS.lsub X0.here hx rfl (hb hby d5_9) rfl ?_
    show Steps p.tables e below (s₁.setTop (mkF m 10 #[.val (.long z), .second, .val (.long z), .second] [(.long ((2 : Int64) - (z * z))), (.long z)])) _
    refine XS.lmul X0.here hx rfl (hb hby d5_10) rfl ?_
    show Steps p.tables e below (s₁.setTop (mkF m 11 #[.val (.long z), .second, .val (.long z), .second] [(.long (z * ((2 : Int64) - (z * z))))])) _
    refine XS.lstoreN X0.here hx rfl (hb hby d5_11) rfl (l' := #[.val (.long z), .second, .val (.long v11), .second]) (by rw [hv11]; rfl) ?_
    show Steps p.tables e below (s₁.setTop (mkF m 12 #[.val (.long z), .second, .val (.long v11), .second] [])) _
    refine XS.lloadN X0.here hx rfl (hb hby d5_12) rfl ?_
    show Steps p.tables e below (s₁.setTop (mkF m 13 #[.val (.long z), .second, .val (.long v11), .second] [(.long v11)])) _
    refine X0.ldc2Long hx hown (mvT hZ (hw _ (List.mem_of_getElem? (i := 27) rfl))) (g := (mkF m 13 #[.val (.long z), .second, .val (.long v11), .second] [(.long v11)])) rfl (hb hby d5_13) _ ?_
    show Steps p.tables e below (s₁.setTop (mkF m 16 #[.val (.long z), .second, .val (.long v11), .second] [(.long (2 : Int64)), (.long v11)])) _
    refine XS.lloadN X0.here hx rfl (hb hby d5_16) rfl ?_
    show Steps p.tables e below (s₁.setTop (mkF m 17 #[.val (.long z), .second, .val (.long v11), .second] [(.long z), (.long (2 : Int64)), (.long v11)])) _
    refine XS.lloadN X0.here hx rfl (hb hby d5_17) rfl ?_
    show Steps p.tables e below (s₁.setTop (mkF m 18 #[.val (.long z), .second, .val (.long v11), .second] [(.long v11), (.long z), (.long (2 : Int64)), (.long v11)])) _
    refine XS.lmul X0.here hx rfl (hb hby d5_18) rfl ?_
    show Steps p.tables e below (s₁.setTop (mkF m 19 #[.val (.long z), .second, .val (.long v11), .second] [(.long (z * v11)), (.long (2 : Int64)), (.long v11)])) _
    refine XS.lsub X0.here hx rfl (hb hby d5_19) rfl ?_
    show Steps p.tables e below (s₁.setTop (mkF m 20 #[.val (.long z), .second, .val (.long v11), .second] [(.long ((2 : Int64) - (z * v11))), (.long v11)])) _
    refine XS.lmul X0.here hx rfl (hb hby d5_20) rfl ?_
    show Steps p.tables e below (s₁.setTop (mkF m 21 #[.val (.long z), .second, .val (.long v11), .second] [(.long (v11 * ((2 : Int64) - (z * v11))))])) _
    refine XS.lstoreN X0.here hx rfl (hb hby d5_21) rfl (l' := #[.val (.long z), .second, .val (.long v21), .second]) (by rw [hv21]; rfl) ?_
    show Steps p.tables e below (s₁.setTop (mkF m 22 #[.val (.long z), .second, .val (.long v21), .second] [])) _
    refine XS.lloadN X0.here hx rfl (hb hby d5_22) rfl ?_
    show Steps p.tables e below (s₁.setTop (mkF m 23 #[.val (.long z), .second, .val (.long v21), .second] [(.long v21)])) _
    refine X0.ldc2Long hx hown (mvT hZ (hw _ (List.mem_of_getElem? (i := 27) rfl))) (g := (mkF m 23 #[.val (.long z), .second, .val (.long v21), .second] [(.long v21)])) rfl (hb hby d5_23) _ ?_
    show Steps p.tables e below (s₁.setTop (mkF m 26 #[.val (.long z), .second, .val (.long v21), .second] [(.long (2 : Int64)), (.long v21)])) _
    refine XS.lloadN X0.here hx rfl (hb hby d5_26) rfl ?_
    show Steps p.tables e below (s₁.setTop (mkF m 27 #[.val (.long z), .second, .val (.long v21), .second] [(.long z), (.long (2 : Int64)), (.long v21)])) _
    refine XS.lloadN X0.here hx rfl (hb hby d5_27) rfl ?_
    show Steps p.tables e below (s₁.setTop (mkF m 28 #[.val (.long z), .second, .val (.long v21), .second] [(.long v21), (.long z), (.long (2 : Int64)), (.long v21)])) _
    refine XS.lmul X0.here hx rfl (hb hby d5_28) rfl ?_
    show Steps p.tables e below (s₁.setTop (mkF m 29 #[.val (.long z), .second, .val (.long v21), .second] [(.long (z * v21)), (.long (2 : Int64)), (.long v21)])) _
    refine XS.lsub X0.here hx rfl (hb hby d5_29) rfl ?_
    show Steps p.tables e below (s₁.setTop (mkF m 30 #[.val (.long z), .second, .val (.long v21), .second] [(.long ((2 : Int64) - (z * v21))), (.long v21)])) _
    refine XS.lmul X0.here hx rfl (hb hby d5_30) rfl ?_
    show Steps p.tables e below (s₁.setTop (mkF m 31 #[.val (.long z), .second, .val (.long v21), .second] [(.long (v21 * ((2 : Int64) - (z * v21))))])) _
    refine XS.lstoreN X0.here hx rfl (hb hby d5_31) rfl (l' := #[.val (.long z), .second, .val (.long v31), .second]) (by rw [hv31]; rfl) ?_
    show Steps p.tables e below (s₁.setTop (mkF m 32 #[.val (.long z), .second, .val (.long v31), .second] [])) _
    refine XS.lloadN X0.here hx rfl (hb hby d5_32) rfl ?_
    show Steps p.tables e below (s₁.setTop (mkF m 33 #[.val (.long z), .second, .val (.long v31), .second] [(.long v31)])) _
    refine X0.ldc2Long hx hown (mvT hZ (hw _ (List.mem_of_getElem? (i := 27) rfl))) (g := (mkF m 33 #[.val (.long z), .second, .val (.long v31), .second] [(.long v31)])) rfl (hb hby d5_33) _ ?_
    show Steps p.tables e below (s₁.setTop (mkF m 36 #[.val (.long z), .second, .val (.long v31), .second] [(.long (2 : Int64)), (.long v31)])) _
    refine XS.lloadN X0.here hx rfl (hb hby d5_36) rfl ?_
    show Steps p.tables e below (s₁.setTop (mkF m 37 #[.val (.long z), .second, .val (.long v31), .second] [(.long z), (.long (2 : Int64)), (.long v31)])) _
    refine XS.lloadN X0.here hx rfl (hb hby d5_37) rfl ?_
    show Steps p.tables e below (s₁.setTop (mkF m 38 #[.val (.long z), .second, .val (.long v31), .second] [(.long v31), (.long z), (.long (2 : Int64)), (.long v31)])) _
    refine XS.lmul X0.here hx rfl (hb hby d5_38) rfl ?_
    show Steps p.tables e below (s₁.setTop (mkF m 39 #[.val (.long z), .second, .val (.long v31), .second] [(.long (z * v31)), (.long (2 : Int64)), (.long v31)])) _
    refine XS.lsub X0.here hx rfl (hb hby d5_39) rfl ?_
    show Steps p.tables e below (s₁.setTop (mkF m 40 #[.val (.long z), .second, .val (.long v31), .second] [(.long ((2 : Int64) - (z * v31))), (.long v31)])) _
    refine XS.lmul X0.here hx rfl (hb hby d5_40) rfl ?_
    show Steps p.tables e below (s₁.setTop (mkF m 41 #[.val (.long z), .second, .val (.long v31), .second] [(.long (v31 * ((2 : Int64) - (z * v31))))])) _
    refine XS.lstoreN X0.here hx rfl (hb hby d5_41) rfl (l' := #[.val (.long z), .second, .val (.long v41), .second]) (by rw [hv41]; rfl) ?_
    show Steps p.tables e below (s₁.setTop (mkF m 42 #[.val (.long z), .second, .val (.long v41), .second] [])) _
    refine XS.lloadN X0.here hx rfl (hb hby d5_42) rfl ?_
    show Steps p.tables e below (s₁.setTop (mkF m 43 #[.val (.long z), .second, .val (.long v41), .second] [(.long v41)])) _
    refine X0.ldc2Long hx hown (mvT hZ (hw _ (List.mem_of_getElem? (i := 27) rfl))) (g := (mkF m 43 #[.val (.long z), .second, .val (.long v41), .second] [(.long v41)])) rfl (hb hby d5_43) _ ?_
    show Steps p.tables e below (s₁.setTop (mkF m 46 #[.val (.long z), .second, .val (.long v41), .second] [(.long (2 : Int64)), (.long v41)])) _
    refine XS.lloadN X0.here hx rfl (hb hby d5_46) rfl ?_
    show Steps p.tables e below (s₁.setTop (mkF m 47 #[.val (.long z), .second, .val (.long v41), .second] [(.long z), (.long (2 : Int64)), (.long v41)])) _
    refine XS.lloadN X0.here hx rfl (hb hby d5_47) rfl ?_
    show Steps p.tables e below (s₁.setTop (mkF m 48 #[.val (.long z), .second, .val (.long v41), .second] [(.long v41), (.long z), (.long (2 : Int64)), (.long v41)])) _
    refine XS.lmul X0.here hx rfl (hb hby d5_48) rfl ?_
    show Steps p.tables e below (s₁.setTop (mkF m 49 #[.val (.long z), .second, .val (.long v41), .second] [(.long (z * v41)), (.long (2 : Int64)), (.long v41)])) _
    refine XS.lsub X0.here hx rfl (hb hby d5_49) rfl ?_
    show Steps p.tables e below (s₁.setTop (mkF m 50 #[.val (.long z), .second, .val (.long v41), .second] [(.long ((2 : Int64) - (z * v41))), (.long v41)])) _
    refine XS.lmul X0.here hx rfl (hb hby d5_50) rfl ?_
    show Steps p.tables e below (s₁.setTop (mkF m 51 #[.val (.long z), .second, .val (.long v41), .second] [(.long (v41 * ((2 : Int64) - (z * v41))))])) _
    refine XS.lstoreN X0.here hx rfl (hb hby d5_51) rfl (l' := #[.val (.long z), .second, .val (.long v51), .second]) (by rw [hv51]; rfl) ?_
    show Steps p.tables e below (s₁.setTop (mkF m 52 #[.val (.long z), .second, .val (.long v51), .second] [])) _
    refine XS.lloadN X0.here hx rfl (hb hby d5_52) rfl ?_
    show Steps p.tables e below (s₁.setTop (mkF m 53 #[.val (.long z), .second, .val (.long v51), .second] [(.long v51)])) _
    exact retOut X0 hx Bd.returns rfl (Or.inr (Or.inl ⟨rfl, rfl, _, rfl⟩)) (hb hby d5_53) hr
  · show Q5 Z z h0 n0 _ s₁.heap _
    rw [e0]
    exact ⟨congrArg (fun z => some (Value.long z)) hres1, N0, rfl⟩
theorem d4_0 : decode method_3_code 0 = .ok (.lload_n 0, 1) := by decide +kernel
theorem d4_1 : decode method_3_code 1 = .ok (.lload_n 0, 1) := by decide +kernel
theorem d4_2 : decode method_3_code 2 = .ok (.bipush 31, 2) := by decide +kernel
theorem d4_4 : decode method_3_code 4 = .ok (.lushr, 1) := by decide +kernel
theorem d4_5 : decode method_3_code 5 = .ok (.lxor, 1) := by decide +kernel
theorem d4_6 : decode method_3_code 6 = .ok (.lload_n 0, 1) := by decide +kernel
theorem d4_7 : decode method_3_code 7 = .ok (.bipush 62, 2) := by decide +kernel
theorem d4_9 : decode method_3_code 9 = .ok (.lushr, 1) := by decide +kernel
theorem d4_10 : decode method_3_code 10 = .ok (.lxor, 1) := by decide +kernel
theorem d4_11 : decode method_3_code 11 = .ok (.lstore_n 2, 1) := by decide +kernel
theorem d4_12 : decode method_3_code 12 = .ok (.lload_n 2, 1) := by decide +kernel
theorem d4_13 : decode method_3_code 13 = .ok (.ldc2_w 11, 3) := by decide +kernel
theorem d4_16 : decode method_3_code 16 = .ok (.invokestatic 13, 3) := by decide +kernel
theorem d4_19 : decode method_3_code 19 = .ok (.lmul, 1) := by decide +kernel
theorem d4_20 : decode method_3_code 20 = .ok (.lstore_n 2, 1) := by decide +kernel
theorem d4_21 : decode method_3_code 21 = .ok (.lload_n 2, 1) := by decide +kernel
theorem d4_22 : decode method_3_code 22 = .ok (.lload_n 2, 1) := by decide +kernel
theorem d4_23 : decode method_3_code 23 = .ok (.bipush 27, 2) := by decide +kernel
theorem d4_25 : decode method_3_code 25 = .ok (.lushr, 1) := by decide +kernel
theorem d4_26 : decode method_3_code 26 = .ok (.lxor, 1) := by decide +kernel
theorem d4_27 : decode method_3_code 27 = .ok (.lload_n 2, 1) := by decide +kernel
theorem d4_28 : decode method_3_code 28 = .ok (.bipush 54, 2) := by decide +kernel
theorem d4_30 : decode method_3_code 30 = .ok (.lushr, 1) := by decide +kernel
theorem d4_31 : decode method_3_code 31 = .ok (.lxor, 1) := by decide +kernel
theorem d4_32 : decode method_3_code 32 = .ok (.lstore_n 2, 1) := by decide +kernel
theorem d4_33 : decode method_3_code 33 = .ok (.lload_n 2, 1) := by decide +kernel
theorem d4_34 : decode method_3_code 34 = .ok (.ldc2_w 17, 3) := by decide +kernel
theorem d4_37 : decode method_3_code 37 = .ok (.invokestatic 13, 3) := by decide +kernel
theorem d4_40 : decode method_3_code 40 = .ok (.lmul, 1) := by decide +kernel
theorem d4_41 : decode method_3_code 41 = .ok (.lstore_n 2, 1) := by decide +kernel
theorem d4_42 : decode method_3_code 42 = .ok (.lload_n 2, 1) := by decide +kernel
theorem d4_43 : decode method_3_code 43 = .ok (.lload_n 2, 1) := by decide +kernel
theorem d4_44 : decode method_3_code 44 = .ok (.bipush 30, 2) := by decide +kernel
theorem d4_46 : decode method_3_code 46 = .ok (.lushr, 1) := by decide +kernel
theorem d4_47 : decode method_3_code 47 = .ok (.lxor, 1) := by decide +kernel
theorem d4_48 : decode method_3_code 48 = .ok (.lload_n 2, 1) := by decide +kernel
theorem d4_49 : decode method_3_code 49 = .ok (.bipush 60, 2) := by decide +kernel
theorem d4_51 : decode method_3_code 51 = .ok (.lushr, 1) := by decide +kernel
theorem d4_52 : decode method_3_code 52 = .ok (.lxor, 1) := by decide +kernel
theorem d4_53 : decode method_3_code 53 = .ok (.lstore_n 2, 1) := by decide +kernel
theorem d4_54 : decode method_3_code 54 = .ok (.lload_n 2, 1) := by decide +kernel
theorem d4_55 : decode method_3_code 55 = .ok (.lreturn, 1) := by decide +kernel
theorem pn_4 : plainName "com/example/wary_rank/waryrank/SplitMix64NextLongPinLaw" = true := by first | (simp [plainName, overriddenIn]; done) | decide +kernel
theorem pd_0 : parseMethodDescriptor "(J)J" = some ⟨[.long], some .long⟩ := by decide +kernel
theorem ef_4 (m : MethodId) (x0 : Int64) : entryFrame m #[(.long x0)] 4 = mkF m 0 #[.val (.long x0), .second, .unset, .unset] [] := by first | (simp [entryFrame, mkF, argsToLocals, Value.category]; done) | rfl
def Q4 (Z : State) (z : Int64) (h0 : Heap) (n0 : Nat) (v : Option Value) (h : Heap) (L : List Loc) : Prop := v = some (.long (own_unmix z)) ∧ Fr n0 L ∧ h = h0
set_option maxRecDepth 65536 in
set_option maxHeartbeats 40000000 in
theorem rm4 (l : Launch) (Z : State) (a0 : Array Value) (hw : ∀ d ∈ tables_1, d.before a0 Z = true) (ws : List Jvm.Cond) (z : Int64) (h0 : Heap) (n0 : Nat) (Z0 : n0 ≤ h0.size)  :
    MetFree l (⟨"com/example/wary_rank/waryrank/SplitMix64NextLongPinLaw", "unmix", "(J)J"⟩ : MethodName) (head1 (Jvm.Cond.code (⟨"com/example/wary_rank/waryrank/SplitMix64NextLongPinLaw", "unmix", "(J)J"⟩ : MethodName) method_3_code 4 (some .long) :: ws) ({ frames := 1, cells := 0, slots := 0, locals := 17 } : Room)) (fun a U => a = #[(.long z)] ∧ Z.Warmed39 U.vm ∧ U.heap = h0) (fun _ _ _ _ _ => True) (fun _ U o U' => ∃ v L, o = .returned v ∧ Q4 Z z h0 n0 v U'.heap L ∧ FrameEnd U o U' L ({ frames := 1, cells := 0, slots := 0, locals := 17 } : Room).cells ({ frames := 1, cells := 0, slots := 0, locals := 17 } : Room).slots) := by
  refine MetFree.of_bodySF (plainFor_of_name pn_4) hisR ?_
  intro p e s m args below meth c s₁ Bd hml0 hP hK
  obtain ⟨rfl, hZ, hh⟩ := hP
  have hx := Bd.exec
  have hby := Bd.bytes
  have hml : c.maxLocals = 4 := hml0
  have hown : s.vm.findClass "com/example/wary_rank/waryrank/SplitMix64NextLongPinLaw" = some m.cls := findClass_of_methodNamed Bd.named
  have hnm := (name_of_methodNamed Bd.named Bd.method).1
  have X0 : Stand p l e ({ frames := 1, cells := 0, slots := 0, locals := 17 } : Room) s m #[(.long z)] below meth c s₁ [] 0 0 := Stand.of_body Bd
  have e0 : s₁.heap = h0 := by rw [← hh, Bd.state]; rfl
  have N0 := Fr.nil n0
  have K0 : Keep h0 h0 [] := Keep.refl h0 _
  have pre0 : ∀ tq, Steps p.tables e below (s₁.setTop (mkF m 0 #[.val (.long z), .second, .unset, .unset] [])) tq → Steps p.tables e below (s₁.setTop (entryFrame m #[(.long z)] 4)) tq := fun tq kq => castTop (ef_4 m z) kq
  obtain ⟨v11, hv11⟩ : ∃ z_q : Int64, z_q = ((z ^^^ ((z.toUInt64 >>> ((31 : Int32) &&& 0x3f).toInt64.toUInt64).toInt64)) ^^^ ((z.toUInt64 >>> ((62 : Int32) &&& 0x3f).toInt64.toUInt64).toInt64)) := ⟨_, rfl⟩
  obtain ⟨_, _, ⟨T1, L1, k1, n1⟩, -, X1, ⟨Lc1, hQ1, l1, y1, z1⟩, st1⟩ := Jvm.LawKit.callS X0 hx (y := (⟨"com/example/wary_rank/waryrank/SplitMix64NextLongPinLaw", "inverse", "(J)J"⟩ : MethodName)) hown (mvT hZ (hw _ (List.mem_of_getElem? (i := 24) rfl))) (mvT hZ (hw _ (List.mem_of_getElem? (i := 25) rfl))) (mvT hZ (hw _ (List.mem_of_getElem? (i := 21) rfl))) (mvT hZ (hw _ (List.mem_of_getElem? (i := 26) rfl))) (by decide) (backOf (W := 2) (rm5 l Z a0 hw [] (-7723592293110705685 : Int64) h0 n0 Z0 ) hZ (hw _ (List.mem_of_getElem? (i := 26) rfl)) (hw _ (List.mem_of_getElem? (i := 21) rfl)) (by decide) (by decide)) (g := (mkF m 16 #[.val (.long z), .second, .val (.long v11), .second] [(.long (-7723592293110705685 : Int64)), (.long v11)])) rfl (by rw [hml]; rfl) (argsL := [(.long (-7723592293110705685 : Int64))]) (rest := [(.long v11)]) (lenOf pd_0 rfl) rfl (by show 2 * 0 + _ ≤ _; exact Nat.le_of_eq rfl) (hb hby d4_16) (fun _ _ => ⟨rfl, e0, (by decide : 0 + 0 ≤ _), (by decide : 0 + 0 ≤ _)⟩)
  dsimp only [Pt.U, Pt.locs, Pt.cells, Pt.slots] at X1 l1 y1 z1 st1 hQ1
  subst l1 y1 z1
  obtain ⟨rfl, N1q, e1⟩ := hQ1
  have N1 := Fr.app N0 N1q
  obtain ⟨r16, hr16⟩ : ∃ z_q : Int64, z_q = (own_inv (-7723592293110705685 : Int64)) := ⟨_, rfl⟩
  obtain ⟨v20, hv20⟩ : ∃ z_q : Int64, z_q = (v11 * r16) := ⟨_, rfl⟩
  obtain ⟨v32, hv32⟩ : ∃ z_q : Int64, z_q = ((v20 ^^^ ((v20.toUInt64 >>> ((27 : Int32) &&& 0x3f).toInt64.toUInt64).toInt64)) ^^^ ((v20.toUInt64 >>> ((54 : Int32) &&& 0x3f).toInt64.toUInt64).toInt64)) := ⟨_, rfl⟩
  obtain ⟨_, _, ⟨T2, L2, k2, n2⟩, -, X2, ⟨Lc2, hQ2, l2, y2, z2⟩, st2⟩ := Jvm.LawKit.callS X1 hx (y := (⟨"com/example/wary_rank/waryrank/SplitMix64NextLongPinLaw", "inverse", "(J)J"⟩ : MethodName)) hown (mvT hZ (hw _ (List.mem_of_getElem? (i := 24) rfl))) (mvT hZ (hw _ (List.mem_of_getElem? (i := 25) rfl))) (mvT hZ (hw _ (List.mem_of_getElem? (i := 21) rfl))) (mvT hZ (hw _ (List.mem_of_getElem? (i := 26) rfl))) (by decide) (backOf (W := 2) (rm5 l Z a0 hw [] (-4658895280553007687 : Int64) h0 n0 Z0 ) hZ (hw _ (List.mem_of_getElem? (i := 26) rfl)) (hw _ (List.mem_of_getElem? (i := 21) rfl)) (by decide) (by decide)) (g := (mkF m 37 #[.val (.long z), .second, .val (.long v32), .second] [(.long (-4658895280553007687 : Int64)), (.long v32)])) rfl (by rw [hml]; rfl) (argsL := [(.long (-4658895280553007687 : Int64))]) (rest := [(.long v32)]) (lenOf pd_0 rfl) rfl (by show 2 * 0 + _ ≤ _; exact Nat.le_of_eq rfl) (hb hby d4_37) (fun _ _ => ⟨rfl, e1, (by decide : 0 + 0 ≤ _), (by decide : 0 + 0 ≤ _)⟩)
  dsimp only [Pt.U, Pt.locs, Pt.cells, Pt.slots] at X2 l2 y2 z2 st2 hQ2
  subst l2 y2 z2
  obtain ⟨rfl, N2q, e2⟩ := hQ2
  have N2 := Fr.app N1 N2q
  obtain ⟨r37, hr37⟩ : ∃ z_q : Int64, z_q = (own_inv (-4658895280553007687 : Int64)) := ⟨_, rfl⟩
  obtain ⟨v41, hv41⟩ : ∃ z_q : Int64, z_q = (v32 * r37) := ⟨_, rfl⟩
  obtain ⟨v53, hv53⟩ : ∃ z_q : Int64, z_q = ((v41 ^^^ ((v41.toUInt64 >>> ((30 : Int32) &&& 0x3f).toInt64.toUInt64).toInt64)) ^^^ ((v41.toUInt64 >>> ((60 : Int32) &&& 0x3f).toInt64.toUInt64).toInt64)) := ⟨_, rfl⟩
  obtain ⟨fs, hr, hrun, hended, hW, hsame⟩ := X2.leave (v := some (Value.long v53)) (fun h => by rw [Bd.returns] at h; cases h)
  have hres3 : v53 = (own_unmix z) := by subst_vars; rfl
  refine ⟨_, _, pre0 _ ?_, hrun, hended, _, _, rfl, ?_, ⟨_, rfl⟩, hW, hsame.mono (by decide) (by decide)⟩
  · skip
    show Steps p.tables e below (s₁.setTop (mkF m 0 #[.val (.long z), .second, .unset, .unset] [])) _
    refine XS.lloadN X0.here hx rfl (hb hby d4_0) rfl ?_
    show Steps p.tables e below (s₁.setTop (mkF m 1 #[.val (.long z), .second, .unset, .unset] [(.long z)])) _
    refine XS.lloadN X0.here hx rfl (hb hby d4_1) rfl ?_
    show Steps p.tables e below (s₁.setTop (mkF m 2 #[.val (.long z), .second, .unset, .unset] [(.long z), (.long z)])) _
    refine XS.bipush X0.here hx rfl (hb hby d4_2) ?_
    show Steps p.tables e below (s₁.setTop (mkF m 4 #[.val (.long z), .second, .unset, .unset] [(.int (31 : Int32)), (.long z), (.long z)])) _
    refine XS.lushr X0.here hx rfl (hb hby d4_4) rfl ?_
    show Steps p.tables e below (s₁.setTop (mkF m 5 #[.val (.long z), .second, .unset, .unset] [(.long ((z.toUInt64 >>> ((31 : Int32) &&& 0x3f).toInt64.toUInt64).toInt64)), (.long z)])) _
    refine XS.lxor X0.here hx rfl (hb hby d4_5) rfl ?_
    show Steps p.tables e below (s₁.setTop (mkF m 6 #[.val (.long z), .second, .unset, .unset] [(.long (z ^^^ ((z.toUInt64 >>> ((31 : Int32) &&& 0x3f).toInt64.toUInt64).toInt64)))])) _
    refine XS.lloadN X0.here hx rfl (hb hby d4_6) rfl ?_
    show Steps p.tables e below (s₁.setTop (mkF m 7 #[.val (.long z), .second, .unset, .unset] [(.long z), (.long (z ^^^ ((z.toUInt64 >>> ((31 : Int32) &&& 0x3f).toInt64.toUInt64).toInt64)))])) _
    refine XS.bipush X0.here hx rfl (hb hby d4_7) ?_
    show Steps p.tables e below (s₁.setTop (mkF m 9 #[.val (.long z), .second, .unset, .unset] [(.int (62 : Int32)), (.long z), (.long (z ^^^ ((z.toUInt64 >>> ((31 : Int32) &&& 0x3f).toInt64.toUInt64).toInt64)))])) _
    refine XS.lushr X0.here hx rfl (hb hby d4_9) rfl ?_
    show Steps p.tables e below (s₁.setTop (mkF m 10 #[.val (.long z), .second, .unset, .unset] [(.long ((z.toUInt64 >>> ((62 : Int32) &&& 0x3f).toInt64.toUInt64).toInt64)), (.long (z ^^^ ((z.toUInt64 >>> ((31 : Int32) &&& 0x3f).toInt64.toUInt64).toInt64)))])) _
    refine XS.lxor X0.here hx rfl (hb hby d4_10) rfl ?_
    show Steps p.tables e below (s₁.setTop (mkF m 11 #[.val (.long z), .second, .unset, .unset] [(.long ((z ^^^ ((z.toUInt64 >>> ((31 : Int32) &&& 0x3f).toInt64.toUInt64).toInt64)) ^^^ ((z.toUInt64 >>> ((62 : Int32) &&& 0x3f).toInt64.toUInt64).toInt64)))])) _
    refine XS.lstoreN X0.here hx rfl (hb hby d4_11) rfl (l' := #[.val (.long z), .second, .val (.long v11), .second]) (by rw [hv11]; rfl) ?_
    show Steps p.tables e below (s₁.setTop (mkF m 12 #[.val (.long z), .second, .val (.long v11), .second] [])) _
    refine XS.lloadN X0.here hx rfl (hb hby d4_12) rfl ?_
    show Steps p.tables e below (s₁.setTop (mkF m 13 #[.val (.long z), .second, .val (.long v11), .second] [(.long v11)])) _
    refine X0.ldc2Long hx hown (mvT hZ (hw _ (List.mem_of_getElem? (i := 23) rfl))) (g := (mkF m 13 #[.val (.long z), .second, .val (.long v11), .second] [(.long v11)])) rfl (hb hby d4_13) _ ?_
    show Steps p.tables e below (s₁.setTop (mkF m 16 #[.val (.long z), .second, .val (.long v11), .second] [(.long (-7723592293110705685 : Int64)), (.long v11)])) _
    refine st1 _ ?_
    show Steps p.tables e below (T1.setTop (mkF m 19 #[.val (.long z), .second, .val (.long v11), .second] [(.long (own_inv (-7723592293110705685 : Int64))), (.long v11)])) _
    rw [← hr16]
    show Steps p.tables e below (T1.setTop (mkF m 19 #[.val (.long z), .second, .val (.long v11), .second] [(.long r16), (.long v11)])) _
    refine XS.lmul X1.here hx rfl (hb hby d4_19) rfl ?_
    show Steps p.tables e below (T1.setTop (mkF m 20 #[.val (.long z), .second, .val (.long v11), .second] [(.long (v11 * r16))])) _
    refine XS.lstoreN X1.here hx rfl (hb hby d4_20) rfl (l' := #[.val (.long z), .second, .val (.long v20), .second]) (by rw [hv20]; rfl) ?_
    show Steps p.tables e below (T1.setTop (mkF m 21 #[.val (.long z), .second, .val (.long v20), .second] [])) _
    refine XS.lloadN X1.here hx rfl (hb hby d4_21) rfl ?_
    show Steps p.tables e below (T1.setTop (mkF m 22 #[.val (.long z), .second, .val (.long v20), .second] [(.long v20)])) _
    refine XS.lloadN X1.here hx rfl (hb hby d4_22) rfl ?_
    show Steps p.tables e below (T1.setTop (mkF m 23 #[.val (.long z), .second, .val (.long v20), .second] [(.long v20), (.long v20)])) _
    refine XS.bipush X1.here hx rfl (hb hby d4_23) ?_
    show Steps p.tables e below (T1.setTop (mkF m 25 #[.val (.long z), .second, .val (.long v20), .second] [(.int (27 : Int32)), (.long v20), (.long v20)])) _
    refine XS.lushr X1.here hx rfl (hb hby d4_25) rfl ?_
    show Steps p.tables e below (T1.setTop (mkF m 26 #[.val (.long z), .second, .val (.long v20), .second] [(.long ((v20.toUInt64 >>> ((27 : Int32) &&& 0x3f).toInt64.toUInt64).toInt64)), (.long v20)])) _
    refine XS.lxor X1.here hx rfl (hb hby d4_26) rfl ?_
    show Steps p.tables e below (T1.setTop (mkF m 27 #[.val (.long z), .second, .val (.long v20), .second] [(.long (v20 ^^^ ((v20.toUInt64 >>> ((27 : Int32) &&& 0x3f).toInt64.toUInt64).toInt64)))])) _
    refine XS.lloadN X1.here hx rfl (hb hby d4_27) rfl ?_
    show Steps p.tables e below (T1.setTop (mkF m 28 #[.val (.long z), .second, .val (.long v20), .second] [(.long v20), (.long (v20 ^^^ ((v20.toUInt64 >>> ((27 : Int32) &&& 0x3f).toInt64.toUInt64).toInt64)))])) _
    refine XS.bipush X1.here hx rfl (hb hby d4_28) ?_
    show Steps p.tables e below (T1.setTop (mkF m 30 #[.val (.long z), .second, .val (.long v20), .second] [(.int (54 : Int32)), (.long v20), (.long (v20 ^^^ ((v20.toUInt64 >>> ((27 : Int32) &&& 0x3f).toInt64.toUInt64).toInt64)))])) _
    refine XS.lushr X1.here hx rfl (hb hby d4_30) rfl ?_
    show Steps p.tables e below (T1.setTop (mkF m 31 #[.val (.long z), .second, .val (.long v20), .second] [(.long ((v20.toUInt64 >>> ((54 : Int32) &&& 0x3f).toInt64.toUInt64).toInt64)), (.long (v20 ^^^ ((v20.toUInt64 >>> ((27 : Int32) &&& 0x3f).toInt64.toUInt64).toInt64)))])) _
    refine XS.lxor X1.here hx rfl (hb hby d4_31) rfl ?_
    show Steps p.tables e below (T1.setTop (mkF m 32 #[.val (.long z), .second, .val (.long v20), .second] [(.long ((v20 ^^^ ((v20.toUInt64 >>> ((27 : Int32) &&& 0x3f).toInt64.toUInt64).toInt64)) ^^^ ((v20.toUInt64 >>> ((54 : Int32) &&& 0x3f).toInt64.toUInt64).toInt64)))])) _
    refine XS.lstoreN X1.here hx rfl (hb hby d4_32) rfl (l' := #[.val (.long z), .second, .val (.long v32), .second]) (by rw [hv32]; rfl) ?_
    show Steps p.tables e below (T1.setTop (mkF m 33 #[.val (.long z), .second, .val (.long v32), .second] [])) _
    refine XS.lloadN X1.here hx rfl (hb hby d4_33) rfl ?_
    show Steps p.tables e below (T1.setTop (mkF m 34 #[.val (.long z), .second, .val (.long v32), .second] [(.long v32)])) _
    refine X1.ldc2Long hx hown (mvT hZ (hw _ (List.mem_of_getElem? (i := 28) rfl))) (g := (mkF m 34 #[.val (.long z), .second, .val (.long v32), .second] [(.long v32)])) rfl (hb hby d4_34) _ ?_
    show Steps p.tables e below (T1.setTop (mkF m 37 #[.val (.long z), .second, .val (.long v32), .second] [(.long (-4658895280553007687 : Int64)), (.long v32)])) _
    refine st2 _ ?_
    show Steps p.tables e below (T2.setTop (mkF m 40 #[.val (.long z), .second, .val (.long v32), .second] [(.long (own_inv (-4658895280553007687 : Int64))), (.long v32)])) _
    rw [← hr37]
    show Steps p.tables e below (T2.setTop (mkF m 40 #[.val (.long z), .second, .val (.long v32), .second] [(.long r37), (.long v32)])) _
    refine XS.lmul X2.here hx rfl (hb hby d4_40) rfl ?_
    show Steps p.tables e below (T2.setTop (mkF m 41 #[.val (.long z), .second, .val (.long v32), .second] [(.long (v32 * r37))])) _
    refine XS.lstoreN X2.here hx rfl (hb hby d4_41) rfl (l' := #[.val (.long z), .second, .val (.long v41), .second]) (by rw [hv41]; rfl) ?_
    show Steps p.tables e below (T2.setTop (mkF m 42 #[.val (.long z), .second, .val (.long v41), .second] [])) _
    refine XS.lloadN X2.here hx rfl (hb hby d4_42) rfl ?_
    show Steps p.tables e below (T2.setTop (mkF m 43 #[.val (.long z), .second, .val (.long v41), .second] [(.long v41)])) _
    refine XS.lloadN X2.here hx rfl (hb hby d4_43) rfl ?_
    show Steps p.tables e below (T2.setTop (mkF m 44 #[.val (.long z), .second, .val (.long v41), .second] [(.long v41), (.long v41)])) _
    refine XS.bipush X2.here hx rfl (hb hby d4_44) ?_
    show Steps p.tables e below (T2.setTop (mkF m 46 #[.val (.long z), .second, .val (.long v41), .second] [(.int (30 : Int32)), (.long v41), (.long v41)])) _
    refine XS.lushr X2.here hx rfl (hb hby d4_46) rfl ?_
    show Steps p.tables e below (T2.setTop (mkF m 47 #[.val (.long z), .second, .val (.long v41), .second] [(.long ((v41.toUInt64 >>> ((30 : Int32) &&& 0x3f).toInt64.toUInt64).toInt64)), (.long v41)])) _
    refine XS.lxor X2.here hx rfl (hb hby d4_47) rfl ?_
    show Steps p.tables e below (T2.setTop (mkF m 48 #[.val (.long z), .second, .val (.long v41), .second] [(.long (v41 ^^^ ((v41.toUInt64 >>> ((30 : Int32) &&& 0x3f).toInt64.toUInt64).toInt64)))])) _
    refine XS.lloadN X2.here hx rfl (hb hby d4_48) rfl ?_
    show Steps p.tables e below (T2.setTop (mkF m 49 #[.val (.long z), .second, .val (.long v41), .second] [(.long v41), (.long (v41 ^^^ ((v41.toUInt64 >>> ((30 : Int32) &&& 0x3f).toInt64.toUInt64).toInt64)))])) _
    refine XS.bipush X2.here hx rfl (hb hby d4_49) ?_
    show Steps p.tables e below (T2.setTop (mkF m 51 #[.val (.long z), .second, .val (.long v41), .second] [(.int (60 : Int32)), (.long v41), (.long (v41 ^^^ ((v41.toUInt64 >>> ((30 : Int32) &&& 0x3f).toInt64.toUInt64).toInt64)))])) _
    refine XS.lushr X2.here hx rfl (hb hby d4_51) rfl ?_
    show Steps p.tables e below (T2.setTop (mkF m 52 #[.val (.long z), .second, .val (.long v41), .second] [(.long ((v41.toUInt64 >>> ((60 : Int32) &&& 0x3f).toInt64.toUInt64).toInt64)), (.long (v41 ^^^ ((v41.toUInt64 >>> ((30 : Int32) &&& 0x3f).toInt64.toUInt64).toInt64)))])) _
    refine XS.lxor X2.here hx rfl (hb hby d4_52) rfl ?_
    show Steps p.tables e below (T2.setTop (mkF m 53 #[.val (.long z), .second, .val (.long v41), .second] [(.long ((v41 ^^^ ((v41.toUInt64 >>> ((30 : Int32) &&& 0x3f).toInt64.toUInt64).toInt64)) ^^^ ((v41.toUInt64 >>> ((60 : Int32) &&& 0x3f).toInt64.toUInt64).toInt64)))])) _
    refine XS.lstoreN X2.here hx rfl (hb hby d4_53) rfl (l' := #[.val (.long z), .second, .val (.long v53), .second]) (by rw [hv53]; rfl) ?_
    show Steps p.tables e below (T2.setTop (mkF m 54 #[.val (.long z), .second, .val (.long v53), .second] [])) _
    refine XS.lloadN X2.here hx rfl (hb hby d4_54) rfl ?_
    show Steps p.tables e below (T2.setTop (mkF m 55 #[.val (.long z), .second, .val (.long v53), .second] [(.long v53)])) _
    exact retOut X2 hx Bd.returns rfl (Or.inr (Or.inl ⟨rfl, rfl, _, rfl⟩)) (hb hby d4_55) hr
  · show Q4 Z z h0 n0 _ T2.heap _
    rw [e2]
    exact ⟨congrArg (fun z => some (Value.long z)) hres3, N2, rfl⟩
theorem pn_0 : plainName "com/example/wary_rank/waryrank/SplitMix64NextLongPinLaw" = true := by first | (simp [plainName, overriddenIn]; done) | decide +kernel
theorem pd_1 : parseMethodDescriptor "(J)V" = some ⟨[.long], none⟩ := by decide +kernel
theorem pd_2 : parseMethodDescriptor "()J" = some ⟨[], some .long⟩ := by decide +kernel
theorem ef_0 (m : MethodId) (x0 : Int64) : entryFrame m #[(.long x0)] maxLocals = mkF m 0 #[.val (.long x0), .second, .unset, .unset, .unset, .unset, .unset] [] := by first | (simp [entryFrame, mkF, argsToLocals, Value.category, maxLocals]; done) | rfl
theorem own_leaf_0_52_f (z : Int64) (r10 : Int64) (hr10 : r10 = (own_mix (z + (-7046029254386353131 : Int64)))) (r15 : Int64) (hr15 : r15 = (own_mix ((z + (-7046029254386353131 : Int64)) + (-7046029254386353131 : Int64)))) (r21 : Int64) (hr21 : r21 = (own_unmix r10)) (hc30_25 : r21 = (z + (-7046029254386353131 : Int64))) (r35 : Int64) (hr35 : r35 = (own_unmix r15)) (m52 : Int32) (hm52 : m52 = (if r35 = (z + (4354685564936845354 : Int64)) then (1 : Int32) else (0 : Int32))) : (nar .boolean m52) = (1 : Int32) := by subst_vars; simp_all [own_unmix_mix, own_two, nar]
theorem own_leaf_0_52_t (z : Int64) (r10 : Int64) (hr10 : r10 = (own_mix (z + (-7046029254386353131 : Int64)))) (r15 : Int64) (hr15 : r15 = (own_mix ((z + (-7046029254386353131 : Int64)) + (-7046029254386353131 : Int64)))) (r21 : Int64) (hr21 : r21 = (own_unmix r10)) (hc30_25 : ¬ (r21 = (z + (-7046029254386353131 : Int64)))) : (0 : Int32) = (1 : Int32) := by subst_vars; simp_all [own_unmix_mix, own_two, nar]
def Q0 (Z : State) (z : Int64) (h0 : Heap) (n0 : Nat) (v : Option Value) (h : Heap) (L : List Loc) : Prop := v = some (.int (1 : Int32)) ∧ Fr n0 L
set_option maxRecDepth 65536 in
set_option maxHeartbeats 40000000 in
theorem rm0 (l : Launch) (Z : State) (a0 : Array Value) (hw : ∀ d ∈ tables_1, d.before a0 Z = true) (ws : List Jvm.Cond) (z : Int64) (h0 : Heap) (n0 : Nat) (Z0 : n0 ≤ h0.size)  :
    MetFree l x (head1 (Jvm.Cond.code x code maxLocals ret :: ws) room_1) (fun a U => a = #[(.long z)] ∧ Z.Warmed39 U.vm ∧ U.heap = h0) (fun _ _ _ _ _ => True) (fun _ U o U' => ∃ v L, o = .returned v ∧ Q0 Z z h0 n0 v U'.heap L ∧ FrameEnd U o U' L room_1.cells room_1.slots) := by
  refine MetFree.of_bodySF (plainFor_of_name pn_0) hisR ?_
  intro p e s m args below meth c s₁ Bd hml0 hP hK
  obtain ⟨rfl, hZ, hh⟩ := hP
  have hx := Bd.exec
  have hby := Bd.bytes
  have hml : c.maxLocals = 7 := hml0
  have hown : s.vm.findClass "com/example/wary_rank/waryrank/SplitMix64NextLongPinLaw" = some m.cls := findClass_of_methodNamed Bd.named
  have hnm := (name_of_methodNamed Bd.named Bd.method).1
  have X0 : Stand p l e room_1 s m #[(.long z)] below meth c s₁ [] 0 0 := Stand.of_body Bd
  have e0 : s₁.heap = h0 := by rw [← hh, Bd.state]; rfl
  have N0 := Fr.nil n0
  have K0 : Keep h0 h0 [] := Keep.refl h0 _
  have pre0 : ∀ tq, Steps p.tables e below (s₁.setTop (mkF m 0 #[.val (.long z), .second, .unset, .unset, .unset, .unset, .unset] [])) tq → Steps p.tables e below (s₁.setTop (entryFrame m #[(.long z)] maxLocals)) tq := fun tq kq => castTop (ef_0 m z) kq
  obtain ⟨T1, hX1, X1, e1, E1, A1, D1, -, st1⟩ := newO X0 hx hZ hown (hw _ (List.mem_of_getElem? (i := 0) rfl)) (hw _ (List.mem_of_getElem? (i := 1) rfl)) (hw _ (List.mem_of_getElem? (i := 2) rfl)) e0 (g := (mkF m 0 #[.val (.long z), .second, .unset, .unset, .unset, .unset, .unset] [])) rfl (hb hby at_0) (by decide) (by decide)
  obtain ⟨b1, g1⟩ : ∃ z_q, z_q = h0.size := ⟨_, rfl⟩
  rw [← g1] at A1 D1 st1
  have g_b1 : n0 ≤ b1 := Nat.le_trans Z0 (Nat.le_of_eq g1.symm)
  have sz_b1 : h0.size ≤ b1 := Nat.le_trans K0.1 (Nat.le_of_eq g1.symm)
  have Z2 : n0 ≤ hX1.size := Nat.le_trans Z0 E1.1
  have K3 : Keep h0 hX1 [] := K0.ext E1
  have F4 : Fld Z hX1 b1 "com/example/wary_rank/waryrank/SplitMix64" "state" "J" (.long (0 : Int64)) := D1 (Or.inl (hw _ (List.mem_of_getElem? (i := 10) rfl))) (ty := .long) (by decide)
  obtain ⟨_, _, ⟨T5, L5, k5, n5⟩, -, X5, ⟨Lc5, hQ5, l5, y5, z5⟩, st5⟩ := X1.specialBack hx (y := (⟨"com/example/wary_rank/waryrank/SplitMix64", "<init>", "(J)V"⟩ : MethodName)) rfl hown (mvT hZ (hw _ (List.mem_of_getElem? (i := 3) rfl))) (mvT hZ (hw _ (List.mem_of_getElem? (i := 4) rfl))) (mvT hZ (hw _ (List.mem_of_getElem? (i := 5) rfl))) (by decide) (backOf (W := 1) (rm1 l Z a0 hw [] b1 z hX1 n0 Z2 F4 A1 g_b1) hZ (hw _ (List.mem_of_getElem? (i := 5) rfl)) (hw _ (List.mem_of_getElem? (i := 2) rfl)) (by decide) (by decide)) (g := (mkF m 5 #[.val (.long z), .second, .unset, .unset, .unset, .unset, .unset] [(.long z), (.ref b1), (.ref b1)])) rfl (by rw [hml]; rfl) (Steps.refl _) (a := b1) (argsL := [(.long z)]) (rest := [(.ref b1)]) (lenOf pd_1 rfl) rfl (by show 2 * 0 + _ ≤ _; exact Nat.le_of_eq rfl) (hb hby at_5) (fun _ _ => ⟨rfl, e1, (by decide : 1 + 0 ≤ _), (by decide : 1 + 0 ≤ _)⟩)
  dsimp only [Pt.U, Pt.locs, Pt.cells, Pt.slots] at X5 l5 y5 z5 st5 hQ5
  subst l5 y5 z5
  obtain ⟨rfl, N5q, K5q, F6, F7⟩ := hQ5
  have N5 := Fr.app N0 N5q
  have F8 : Exa Z T5.heap b1 "com/example/wary_rank/waryrank/SplitMix64" := A1.keep K5q
  have Z9 : n0 ≤ T5.heap.size := Nat.le_trans Z2 K5q.1
  have K10 : Keep h0 T5.heap [] := K3.trans K5q (allS (Or.inr sz_b1) all0)
  obtain ⟨cq11, kq11, q11a, q11b, q11c⟩ := isOf hZ rfl F6
  obtain ⟨_, _, ⟨T11, L11, k11, n11⟩, -, X11, ⟨Lc11, hQ11, l11, y11, z11⟩, st11⟩ := X5.virtualBack hx (y := (⟨"com/example/wary_rank/waryrank/SplitMix64", "nextLong", "()J"⟩ : MethodName)) (z := (⟨"com/example/wary_rank/waryrank/SplitMix64", "nextLong", "()J"⟩ : MethodName)) hown (mvT hZ (hw _ (List.mem_of_getElem? (i := 11) rfl))) (mvT hZ (hw _ (List.mem_of_getElem? (i := 12) rfl))) (notFace_of_selects (args := #[]) (mvT hZ (hw _ (List.mem_of_getElem? (i := 14) rfl)))) (mvT hZ (hw _ (List.mem_of_getElem? (i := 14) rfl))) (mvT hZ (hw _ (List.mem_of_getElem? (i := 13) rfl))) (by decide) (backOf (W := 0) (rm3 l Z a0 hw [] b1 z T5.heap n0 Z9 F7 F6 g_b1) hZ (hw _ (List.mem_of_getElem? (i := 15) rfl)) (hw _ (List.mem_of_getElem? (i := 2) rfl)) (by decide) (by decide)) q11a q11c (g := (mkF m 10 #[.val (.long z), .second, .val (.ref b1), .unset, .unset, .unset, .unset] [(.ref b1)])) rfl (by rw [hml]; rfl) (Steps.refl _) (argsL := []) (rest := []) (lenOf pd_2 rfl) rfl (by show 2 * 0 + _ ≤ _; exact Nat.le_of_eq rfl) (hb hby at_10) (fun _ _ => ⟨rfl, rfl, (by decide : 1 + 0 ≤ _), (by decide : 1 + 0 ≤ _)⟩)
  dsimp only [Pt.U, Pt.locs, Pt.cells, Pt.slots] at X11 l11 y11 z11 st11 hQ11
  subst l11 y11 z11
  obtain ⟨rfl, N11q, K11q, F12, F13⟩ := hQ11
  have N11 := Fr.app N5 N11q
  have F14 : Exa Z T11.heap b1 "com/example/wary_rank/waryrank/SplitMix64" := F6.keep K11q
  have Z15 : n0 ≤ T11.heap.size := Nat.le_trans Z9 K11q.1
  have K16 : Keep h0 T11.heap [] := K10.trans K11q (allS (Or.inr sz_b1) all0)
  obtain ⟨r10, hr10⟩ : ∃ z_q : Int64, z_q = (own_mix (z + (-7046029254386353131 : Int64))) := ⟨_, rfl⟩
  obtain ⟨cq17, kq17, q17a, q17b, q17c⟩ := isOf hZ rfl F12
  obtain ⟨_, _, ⟨T17, L17, k17, n17⟩, -, X17, ⟨Lc17, hQ17, l17, y17, z17⟩, st17⟩ := X11.virtualBack hx (y := (⟨"com/example/wary_rank/waryrank/SplitMix64", "nextLong", "()J"⟩ : MethodName)) (z := (⟨"com/example/wary_rank/waryrank/SplitMix64", "nextLong", "()J"⟩ : MethodName)) hown (mvT hZ (hw _ (List.mem_of_getElem? (i := 11) rfl))) (mvT hZ (hw _ (List.mem_of_getElem? (i := 12) rfl))) (notFace_of_selects (args := #[]) (mvT hZ (hw _ (List.mem_of_getElem? (i := 14) rfl)))) (mvT hZ (hw _ (List.mem_of_getElem? (i := 14) rfl))) (mvT hZ (hw _ (List.mem_of_getElem? (i := 13) rfl))) (by decide) (backOf (W := 0) (rm3 l Z a0 hw [] b1 (z + (-7046029254386353131 : Int64)) T11.heap n0 Z15 F13 F12 g_b1) hZ (hw _ (List.mem_of_getElem? (i := 15) rfl)) (hw _ (List.mem_of_getElem? (i := 2) rfl)) (by decide) (by decide)) q17a q17c (g := (mkF m 15 #[.val (.long z), .second, .val (.ref b1), .val (.long r10), .second, .unset, .unset] [(.ref b1)])) rfl (by rw [hml]; rfl) (Steps.refl _) (argsL := []) (rest := []) (lenOf pd_2 rfl) rfl (by show 2 * 0 + _ ≤ _; exact Nat.le_of_eq rfl) (hb hby at_15) (fun _ _ => ⟨rfl, rfl, (by decide : 1 + 0 ≤ _), (by decide : 1 + 0 ≤ _)⟩)
  dsimp only [Pt.U, Pt.locs, Pt.cells, Pt.slots] at X17 l17 y17 z17 st17 hQ17
  subst l17 y17 z17
  obtain ⟨rfl, N17q, K17q, F18, F19⟩ := hQ17
  have N17 := Fr.app N11 N17q
  have F20 : Exa Z T17.heap b1 "com/example/wary_rank/waryrank/SplitMix64" := F12.keep K17q
  have Z21 : n0 ≤ T17.heap.size := Nat.le_trans Z15 K17q.1
  have K22 : Keep h0 T17.heap [] := K16.trans K17q (allS (Or.inr sz_b1) all0)
  obtain ⟨r15, hr15⟩ : ∃ z_q : Int64, z_q = (own_mix ((z + (-7046029254386353131 : Int64)) + (-7046029254386353131 : Int64))) := ⟨_, rfl⟩
  obtain ⟨_, _, ⟨T23, L23, k23, n23⟩, -, X23, ⟨Lc23, hQ23, l23, y23, z23⟩, st23⟩ := Jvm.LawKit.callS X17 hx (y := (⟨"com/example/wary_rank/waryrank/SplitMix64NextLongPinLaw", "unmix", "(J)J"⟩ : MethodName)) hown (mvT hZ (hw _ (List.mem_of_getElem? (i := 19) rfl))) (mvT hZ (hw _ (List.mem_of_getElem? (i := 20) rfl))) (mvT hZ (hw _ (List.mem_of_getElem? (i := 21) rfl))) (mvT hZ (hw _ (List.mem_of_getElem? (i := 22) rfl))) (by decide) (backOf (W := 0) (rm4 l Z a0 hw [] r10 T17.heap n0 Z21 ) hZ (hw _ (List.mem_of_getElem? (i := 22) rfl)) (hw _ (List.mem_of_getElem? (i := 21) rfl)) (by decide) (by decide)) (g := (mkF m 21 #[.val (.long z), .second, .val (.ref b1), .val (.long r10), .second, .val (.long r15), .second] [(.long r10)])) rfl (by rw [hml]; rfl) (argsL := [(.long r10)]) (rest := []) (lenOf pd_0 rfl) rfl (by show 2 * 0 + _ ≤ _; exact Nat.le_of_eq rfl) (hb hby at_21) (fun _ _ => ⟨rfl, rfl, (by decide : 1 + 0 ≤ _), (by decide : 1 + 0 ≤ _)⟩)
  dsimp only [Pt.U, Pt.locs, Pt.cells, Pt.slots] at X23 l23 y23 z23 st23 hQ23
  subst l23 y23 z23
  obtain ⟨rfl, N23q, e23⟩ := hQ23
  have N23 := Fr.app N17 N23q
  obtain ⟨r21, hr21⟩ : ∃ z_q : Int64, z_q = (own_unmix r10) := ⟨_, rfl⟩
  have pre24 : ∀ tq, Steps p.tables e below (T23.setTop (mkF m 30 #[.val (.long z), .second, .val (.ref b1), .val (.long r10), .second, .val (.long r15), .second] [(.int (lcmpW r21 (z + (-7046029254386353131 : Int64))))])) tq → Steps p.tables e below (s₁.setTop (entryFrame m #[(.long z)] maxLocals)) tq := by
    intro tq kt
    refine pre0 _ ?_
    show Steps p.tables e below (s₁.setTop (mkF m 0 #[.val (.long z), .second, .unset, .unset, .unset, .unset, .unset] [])) _
    refine st1 _ ?_
    show Steps p.tables e below (T1.setTop (mkF m 3 #[.val (.long z), .second, .unset, .unset, .unset, .unset, .unset] [(.ref b1)])) _
    refine XS.dup X1.here hx rfl (hb hby at_3) rfl rfl ?_
    show Steps p.tables e below (T1.setTop (mkF m 4 #[.val (.long z), .second, .unset, .unset, .unset, .unset, .unset] [(.ref b1), (.ref b1)])) _
    refine XS.lloadN X1.here hx rfl (hb hby at_4) rfl ?_
    show Steps p.tables e below (T1.setTop (mkF m 5 #[.val (.long z), .second, .unset, .unset, .unset, .unset, .unset] [(.long z), (.ref b1), (.ref b1)])) _
    refine st5.trans ?_
    show Steps p.tables e below (T5.setTop (mkF m 8 #[.val (.long z), .second, .unset, .unset, .unset, .unset, .unset] [(.ref b1)])) _
    refine XS.astoreN X5.here hx rfl (hb hby at_8) rfl rfl (l' := #[.val (.long z), .second, .val (.ref b1), .unset, .unset, .unset, .unset]) rfl ?_
    show Steps p.tables e below (T5.setTop (mkF m 9 #[.val (.long z), .second, .val (.ref b1), .unset, .unset, .unset, .unset] [])) _
    refine XS.aloadN X5.here hx rfl (hb hby at_9) rfl rfl ?_
    show Steps p.tables e below (T5.setTop (mkF m 10 #[.val (.long z), .second, .val (.ref b1), .unset, .unset, .unset, .unset] [(.ref b1)])) _
    refine st11.trans ?_
    show Steps p.tables e below (T11.setTop (mkF m 13 #[.val (.long z), .second, .val (.ref b1), .unset, .unset, .unset, .unset] [(.long (own_mix (z + (-7046029254386353131 : Int64))))])) _
    rw [← hr10]
    show Steps p.tables e below (T11.setTop (mkF m 13 #[.val (.long z), .second, .val (.ref b1), .unset, .unset, .unset, .unset] [(.long r10)])) _
    refine XS.lstoreN X11.here hx rfl (hb hby at_13) rfl (l' := #[.val (.long z), .second, .val (.ref b1), .val (.long r10), .second, .unset, .unset]) rfl ?_
    show Steps p.tables e below (T11.setTop (mkF m 14 #[.val (.long z), .second, .val (.ref b1), .val (.long r10), .second, .unset, .unset] [])) _
    refine XS.aloadN X11.here hx rfl (hb hby at_14) rfl rfl ?_
    show Steps p.tables e below (T11.setTop (mkF m 15 #[.val (.long z), .second, .val (.ref b1), .val (.long r10), .second, .unset, .unset] [(.ref b1)])) _
    refine st17.trans ?_
    show Steps p.tables e below (T17.setTop (mkF m 18 #[.val (.long z), .second, .val (.ref b1), .val (.long r10), .second, .unset, .unset] [(.long (own_mix ((z + (-7046029254386353131 : Int64)) + (-7046029254386353131 : Int64))))])) _
    rw [← hr15]
    show Steps p.tables e below (T17.setTop (mkF m 18 #[.val (.long z), .second, .val (.ref b1), .val (.long r10), .second, .unset, .unset] [(.long r15)])) _
    refine XS.lstore X17.here hx rfl (hb hby at_18) rfl (l' := #[.val (.long z), .second, .val (.ref b1), .val (.long r10), .second, .val (.long r15), .second]) rfl ?_
    show Steps p.tables e below (T17.setTop (mkF m 20 #[.val (.long z), .second, .val (.ref b1), .val (.long r10), .second, .val (.long r15), .second] [])) _
    refine XS.lloadN X17.here hx rfl (hb hby at_20) rfl ?_
    show Steps p.tables e below (T17.setTop (mkF m 21 #[.val (.long z), .second, .val (.ref b1), .val (.long r10), .second, .val (.long r15), .second] [(.long r10)])) _
    refine st23 _ ?_
    show Steps p.tables e below (T23.setTop (mkF m 24 #[.val (.long z), .second, .val (.ref b1), .val (.long r10), .second, .val (.long r15), .second] [(.long (own_unmix r10))])) _
    rw [← hr21]
    show Steps p.tables e below (T23.setTop (mkF m 24 #[.val (.long z), .second, .val (.ref b1), .val (.long r10), .second, .val (.long r15), .second] [(.long r21)])) _
    refine XS.lloadN X23.here hx rfl (hb hby at_24) rfl ?_
    show Steps p.tables e below (T23.setTop (mkF m 25 #[.val (.long z), .second, .val (.ref b1), .val (.long r10), .second, .val (.long r15), .second] [(.long z), (.long r21)])) _
    refine X23.ldc2Long hx hown (mvT hZ (hw _ (List.mem_of_getElem? (i := 29) rfl))) (g := (mkF m 25 #[.val (.long z), .second, .val (.ref b1), .val (.long r10), .second, .val (.long r15), .second] [(.long z), (.long r21)])) rfl (hb hby at_25) _ ?_
    show Steps p.tables e below (T23.setTop (mkF m 28 #[.val (.long z), .second, .val (.ref b1), .val (.long r10), .second, .val (.long r15), .second] [(.long (-7046029254386353131 : Int64)), (.long z), (.long r21)])) _
    refine XS.ladd X23.here hx rfl (hb hby at_28) rfl ?_
    show Steps p.tables e below (T23.setTop (mkF m 29 #[.val (.long z), .second, .val (.ref b1), .val (.long r10), .second, .val (.long r15), .second] [(.long (z + (-7046029254386353131 : Int64))), (.long r21)])) _
    refine XS.lcmp X23.here hx rfl (hb hby at_29) rfl ?_
    show Steps p.tables e below (T23.setTop (mkF m 30 #[.val (.long z), .second, .val (.ref b1), .val (.long r10), .second, .val (.long r15), .second] [(.int (lcmpW r21 (z + (-7046029254386353131 : Int64))))])) _
    exact kt
  by_cases hc30_25 : r21 = (z + (-7046029254386353131 : Int64))
  · skip
    obtain ⟨_, _, ⟨T26, L26, k26, n26⟩, -, X26, ⟨Lc26, hQ26, l26, y26, z26⟩, st26⟩ := Jvm.LawKit.callS X23 hx (y := (⟨"com/example/wary_rank/waryrank/SplitMix64NextLongPinLaw", "unmix", "(J)J"⟩ : MethodName)) hown (mvT hZ (hw _ (List.mem_of_getElem? (i := 19) rfl))) (mvT hZ (hw _ (List.mem_of_getElem? (i := 20) rfl))) (mvT hZ (hw _ (List.mem_of_getElem? (i := 21) rfl))) (mvT hZ (hw _ (List.mem_of_getElem? (i := 22) rfl))) (by decide) (backOf (W := 0) (rm4 l Z a0 hw [] r15 T17.heap n0 Z21 ) hZ (hw _ (List.mem_of_getElem? (i := 22) rfl)) (hw _ (List.mem_of_getElem? (i := 21) rfl)) (by decide) (by decide)) (g := (mkF m 35 #[.val (.long z), .second, .val (.ref b1), .val (.long r10), .second, .val (.long r15), .second] [(.long r15)])) rfl (by rw [hml]; rfl) (argsL := [(.long r15)]) (rest := []) (lenOf pd_0 rfl) rfl (by show 2 * 0 + _ ≤ _; exact Nat.le_of_eq rfl) (hb hby at_35) (fun _ _ => ⟨rfl, e23, (by decide : 1 + 0 ≤ _), (by decide : 1 + 0 ≤ _)⟩)
    dsimp only [Pt.U, Pt.locs, Pt.cells, Pt.slots] at X26 l26 y26 z26 st26 hQ26
    subst l26 y26 z26
    obtain ⟨rfl, N26q, e26⟩ := hQ26
    have N26 := Fr.app N23 N26q
    obtain ⟨r35, hr35⟩ : ∃ z_q : Int64, z_q = (own_unmix r15) := ⟨_, rfl⟩
    obtain ⟨m52, hm52⟩ : ∃ z_q : Int32, z_q = (if r35 = (z + (4354685564936845354 : Int64)) then (1 : Int32) else (0 : Int32)) := ⟨_, rfl⟩
    have pre28 : ∀ tq, Steps p.tables e below (T26.setTop (mkF m 52 #[.val (.long z), .second, .val (.ref b1), .val (.long r10), .second, .val (.long r15), .second] [(.int m52)])) tq → Steps p.tables e below (s₁.setTop (entryFrame m #[(.long z)] maxLocals)) tq := by
      intro tq kt
      refine pre24 _ ?_
      show Steps p.tables e below (T23.setTop (mkF m 30 #[.val (.long z), .second, .val (.ref b1), .val (.long r10), .second, .val (.long r15), .second] [(.int (lcmpW r21 (z + (-7046029254386353131 : Int64))))])) _
      refine XS.ifNo X23.here hx rfl (hb hby at_30) rfl ((if0 _ _).trans (teq ((lw_eq r21 (z + (-7046029254386353131 : Int64))).2 hc30_25)).2) ?_
      show Steps p.tables e below (T23.setTop (mkF m 33 #[.val (.long z), .second, .val (.ref b1), .val (.long r10), .second, .val (.long r15), .second] [])) _
      refine XS.lload X23.here hx rfl (hb hby at_33) rfl ?_
      show Steps p.tables e below (T23.setTop (mkF m 35 #[.val (.long z), .second, .val (.ref b1), .val (.long r10), .second, .val (.long r15), .second] [(.long r15)])) _
      refine st26 _ ?_
      show Steps p.tables e below (T26.setTop (mkF m 38 #[.val (.long z), .second, .val (.ref b1), .val (.long r10), .second, .val (.long r15), .second] [(.long (own_unmix r15))])) _
      rw [← hr35]
      show Steps p.tables e below (T26.setTop (mkF m 38 #[.val (.long z), .second, .val (.ref b1), .val (.long r10), .second, .val (.long r15), .second] [(.long r35)])) _
      refine XS.lloadN X26.here hx rfl (hb hby at_38) rfl ?_
      show Steps p.tables e below (T26.setTop (mkF m 39 #[.val (.long z), .second, .val (.ref b1), .val (.long r10), .second, .val (.long r15), .second] [(.long z), (.long r35)])) _
      refine X26.ldc2Long hx hown (mvT hZ (hw _ (List.mem_of_getElem? (i := 30) rfl))) (g := (mkF m 39 #[.val (.long z), .second, .val (.ref b1), .val (.long r10), .second, .val (.long r15), .second] [(.long z), (.long r35)])) rfl (hb hby at_39) _ ?_
      show Steps p.tables e below (T26.setTop (mkF m 42 #[.val (.long z), .second, .val (.ref b1), .val (.long r10), .second, .val (.long r15), .second] [(.long (4354685564936845354 : Int64)), (.long z), (.long r35)])) _
      refine XS.ladd X26.here hx rfl (hb hby at_42) rfl ?_
      show Steps p.tables e below (T26.setTop (mkF m 43 #[.val (.long z), .second, .val (.ref b1), .val (.long r10), .second, .val (.long r15), .second] [(.long (z + (4354685564936845354 : Int64))), (.long r35)])) _
      refine XS.lcmp X26.here hx rfl (hb hby at_43) rfl ?_
      by_cases d27 : r35 = (z + (4354685564936845354 : Int64))
      · skip
        show Steps p.tables e below (T26.setTop (mkF m 44 #[.val (.long z), .second, .val (.ref b1), .val (.long r10), .second, .val (.long r15), .second] [(.int (lcmpW r35 (z + (4354685564936845354 : Int64))))])) _
        refine XS.ifNo X26.here hx rfl (hb hby at_44) rfl ((if0 _ _).trans (teq ((lw_eq r35 (z + (4354685564936845354 : Int64))).2 d27)).2) ?_
        show Steps p.tables e below (T26.setTop (mkF m 47 #[.val (.long z), .second, .val (.ref b1), .val (.long r10), .second, .val (.long r15), .second] [])) _
        refine XS.iconst X26.here hx rfl (hb hby at_47) ?_
        show Steps p.tables e below (T26.setTop (mkF m 48 #[.val (.long z), .second, .val (.ref b1), .val (.long r10), .second, .val (.long r15), .second] [(.int (1 : Int32))])) _
        refine XS.goto X26.here hx rfl (pc0 := 48) (pc' := 52) rfl (hb hby at_48) (by decide) (by decide) ?_
        show Steps p.tables e below (T26.setTop (mkF m 52 #[.val (.long z), .second, .val (.ref b1), .val (.long r10), .second, .val (.long r15), .second] [(.int (1 : Int32))])) _
        exact castTop (by simp only [hm52, if_pos d27]) kt
      · skip
        show Steps p.tables e below (T26.setTop (mkF m 44 #[.val (.long z), .second, .val (.ref b1), .val (.long r10), .second, .val (.long r15), .second] [(.int (lcmpW r35 (z + (4354685564936845354 : Int64))))])) _
        refine XS.ifYes X26.here hx rfl (pc0 := 44) (pc' := 51) rfl (hb hby at_44) rfl ((if0 _ _).trans (feq (mt (lw_eq r35 (z + (4354685564936845354 : Int64))).1 d27)).2) (by decide) (by decide) ?_
        show Steps p.tables e below (T26.setTop (mkF m 51 #[.val (.long z), .second, .val (.ref b1), .val (.long r10), .second, .val (.long r15), .second] [])) _
        refine XS.iconst X26.here hx rfl (hb hby at_51) ?_
        show Steps p.tables e below (T26.setTop (mkF m 52 #[.val (.long z), .second, .val (.ref b1), .val (.long r10), .second, .val (.long r15), .second] [(.int (0 : Int32))])) _
        exact castTop (by simp only [hm52, if_neg d27]) kt
    obtain ⟨fs, hr, hrun, hended, hW, hsame⟩ := X26.leave (v := some (Value.int (nar .boolean m52))) (fun h => by rw [Bd.returns] at h; cases h)
    have hres29 : (nar .boolean m52) = (1 : Int32) := (own_leaf_0_52_f z r10 hr10 r15 hr15 r21 hr21 hc30_25 r35 hr35 m52 hm52)
    refine ⟨_, _, pre28 _ ?_, hrun, hended, _, _, rfl, ?_, ⟨_, rfl⟩, hW, hsame.mono (by decide) (by decide)⟩
    · skip
      show Steps p.tables e below (T26.setTop (mkF m 52 #[.val (.long z), .second, .val (.ref b1), .val (.long r10), .second, .val (.long r15), .second] [(.int m52)])) _
      exact retN X26 hx (t := .boolean) Bd.returns (by simp) (hb hby at_52) hr
    · show Q0 Z z h0 n0 _ T26.heap _
      rw [e26]
      exact ⟨congrArg (fun z => some (Value.int z)) hres29, N26⟩
  · skip
    obtain ⟨fs, hr, hrun, hended, hW, hsame⟩ := X23.leave (v := some (Value.int (0 : Int32))) (fun h => by rw [Bd.returns] at h; cases h)
    have hres30 : (0 : Int32) = (1 : Int32) := (own_leaf_0_52_t z r10 hr10 r15 hr15 r21 hr21 hc30_25)
    refine ⟨_, _, pre24 _ ?_, hrun, hended, _, _, rfl, ?_, ⟨_, rfl⟩, hW, hsame.mono (by decide) (by decide)⟩
    · skip
      show Steps p.tables e below (T23.setTop (mkF m 30 #[.val (.long z), .second, .val (.ref b1), .val (.long r10), .second, .val (.long r15), .second] [(.int (lcmpW r21 (z + (-7046029254386353131 : Int64))))])) _
      refine XS.ifYes X23.here hx rfl (pc0 := 30) (pc' := 51) rfl (hb hby at_30) rfl ((if0 _ _).trans (feq (mt (lw_eq r21 (z + (-7046029254386353131 : Int64))).1 hc30_25)).2) (by decide) (by decide) ?_
      show Steps p.tables e below (T23.setTop (mkF m 51 #[.val (.long z), .second, .val (.ref b1), .val (.long r10), .second, .val (.long r15), .second] [])) _
      refine XS.iconst X23.here hx rfl (hb hby at_51) ?_
      show Steps p.tables e below (T23.setTop (mkF m 52 #[.val (.long z), .second, .val (.ref b1), .val (.long r10), .second, .val (.long r15), .second] [(.int (0 : Int32))])) _
      exact retN X23 hx (t := .boolean) Bd.returns (by simp) (hb hby at_52) hr
    · show Q0 Z z h0 n0 _ T23.heap _
      rw [e23]
      exact ⟨congrArg (fun z => some (Value.int z)) hres30, N23⟩
set_option maxRecDepth 65536 in
set_option maxHeartbeats 40000000 in
theorem comes_1 {Post : Tables → Env → Array Value → State → Outcome → State → Prop} (hpost : ∀ tb e args s v u, (limb_1_1.after args s (.returned v) u = true ∧ limb_1_2.after args s (.returned v) u = true ∧ True) → FrameEnd s (.returned v) u (Jvm.fieldLocs frame_1_writes args s ++ Jvm.arrayLocs frame_1_arrays args s ++ Jvm.staticLocs frame_1_statics s) 16 128 → Post tb e args s (.returned v) u) :
    ArmFor flags0 classFile x code maxLocals ret World_1 tables_1 room_1 Calls_1 rest_1 Pre_1 Post := by
  intro l hfl _ _ p e ha hc hk s m args below hf hA hF happ hP
  obtain ⟨hcalls, hrest, hpre⟩ := hP
  obtain ⟨-, -, -, hnamed, -, -, -, hat⟩ := (Spec.applies_iff hf).mp happ
  obtain ⟨hg, hn⟩ := and_e (Cond.before_iff.mp (show (Jvm.Cond.and given_1 narrow_1).before args s = true from hpre))
  obtain ⟨gv1, gv2⟩ := and_e hg
  obtain ⟨w0, rfl⟩ : ∃ w0 : Value, args = #[w0] := by
    have hs : args.size = 1 := by simpa [Cond.value, given_1] using gv1
    obtain ⟨L⟩ := args
    match L, hs with
    | [w0], _ => exact ⟨w0, rfl⟩
  have hw := fun d (hd : d ∈ tables_1) => atoms_spec (ws := Jvm.Cond.code x code maxLocals ret :: tables_1) hat d (List.mem_cons_of_mem _ hd)
  obtain ⟨i0, ei0⟩ := isL_v gv2
  obtain rfl : w0 = (.long i0) := Option.some.inj ei0
  obtain ⟨n, o, h1, h2, h3, _, L, rfl, ⟨rfl, N⟩, hq⟩ := rm0 l s _ hw tables_1 i0  s.heap s.heap.size (Nat.le_refl _)  p e ha hc hk s m _ below hf ((Spec.applies_iff_loose hf).mp happ).1 ⟨rfl, State.Warmed39.refl s, rfl⟩ trivial
  refine ⟨n, _, h1, h2, h3, hpost _ _ _ _ _ _ ⟨Cond.after_iff.mpr rfl, Cond.after_iff.mpr (eq_i res_at (Term.int_eval (1)) rfl), trivial⟩ ⟨hq.1, hq.2.1, (hq.2.2.sift fun y hy => Or.inr (N y hy)).mono (by decide) (by decide)⟩⟩
theorem main_1_1 : Claimed_1_1 := comes_1 fun _ _ _ _ _ _ h hF => ⟨h.1, hF⟩
theorem main_1_2 : Claimed_1_2 := comes_1 fun _ _ _ _ _ _ h hF => ⟨h.2.1, hF⟩
end Jvm.Pilot.@@N@@
namespace Jvm.Pilot.@@N@@
open Jvm Jvm.ClassFile Sem Op Lib Jvm.Free Jvm.Stand Jvm.Pilot.@@N@@.Jvm.D
/-! MADE BY PROGRAM (witnessworld.py) out of the Statement's table words and the real class files: 9 classes; the members and pool entries that the words name. The judged class is class 1, her method 3. -/
namespace start1
open Jvm.ClassFile
def u (s : String) : CpInfo := .utf8 (stringToUtf16 s)
/-- a pool by its gaps: so many unusable entries, then the entry; so many at the end -/
def gap : Nat → List CpInfo → List CpInfo
  | 0, r => r
  | n + 1, r => .unusable :: gap n r
def poolList (es : List (Nat × CpInfo)) (last : Nat) : List CpInfo := es.foldr (fun e r => gap e.1 (e.2 :: r)) (gap last [])
def pool (es : List (Nat × CpInfo)) (last : Nat) : Array CpInfo := ⟨poolList es last⟩
def fileOf (pool : Array CpInfo) (this : Nat) (attrs : Array Attribute := #[]) (ms : Array MethodInfo := #[]) (fl : Nat := 33) (sup : Nat := 0) (ifs : Array Nat := #[]) (fds : Array FieldInfo := #[]) : ClassFile where
  minorVersion := 0
  majorVersion := 65
  constantPool := pool
  accessFlags := fl
  thisClass := this
  superClass := sup
  interfaces := ifs
  fields := fds
  methods := ms
  attributes := attrs
def plain (name : String) (sup : Option ClassId) : Class where
  name := name
  kind := .ordinary
  loader := none
  accessFlags := 33
  super := sup
  interfaces := #[]
  cf := none
  fields := #[]
  methods := #[]
  instanceTypes := #[]
  staticTypes := #[]
  resolved := #[]
  callSites := []
  init := .initialized
  statics := none
  mirror := none

def pool0 : Array CpInfo := pool [(5, u "<init>"), (0, u "()V"), (1, .class_ 10), (1, u "java/lang/Object")] 113

def k0c0 : Code := { maxStack := 0, maxLocals := 1, code := object_method_1_code, exceptionTable := #[], attributes := #[] }
def k0m0 : Method := { name := "<init>", desc := "()V", sig := { parameters := [], returnType := none }, accessFlags := 1, code := some k0c0 }
/-- java/lang/Object -/
def k0 : Class := { plain "java/lang/Object" none with
  accessFlags := 33
  interfaces := #[]
  cf := some (fileOf pool0 8 #[] #[{ accessFlags := 1, nameIndex := 5, descriptorIndex := 6, attributes := #[] }] 33 0 #[] #[])
  fields := #[]
  methods := #[k0m0]
  instanceTypes := #[]
  staticTypes := #[]
  resolved := Array.replicate 124 none
  statics := none }

def pool1 : Array CpInfo := pool [(2, .class_ 4), (1, u "java/lang/Object"), (0, u "<init>"), (0, u "()V"), (0, .long 2), (1, .class_ 10), (0, u "com/example/wary_rank/waryrank/SplitMix64NextLongPinLaw"), (0, .long 10723151780598845931), (1, .methodref 9 14), (0, .nameAndType 15 16), (0, u "inverse"), (0, u "(J)J"), (0, .long 13787848793156543929), (1, .class_ 20), (0, u "com/example/wary_rank/waryrank/SplitMix64"), (0, .methodref 19 22), (0, .nameAndType 5 23), (0, u "(J)V"), (0, .methodref 19 25), (0, .nameAndType 26 27), (0, u "nextLong"), (0, u "()J"), (0, .methodref 9 29), (0, .nameAndType 30 16), (0, u "unmix"), (0, .long 11400714819323198485), (1, .long 4354685564936845354), (1, u "GAMMA"), (0, u "J"), (1, u "MIX_1"), (0, u "MIX_2"), (2, u "law"), (0, u "(J)Z")] 3

def k1m0 : Method := { name := "<init>", desc := "()V", sig := { parameters := [], returnType := none }, accessFlags := 1, code := none }
def k1c1 : Code := { maxStack := 8, maxLocals := 4, code := method_2_code, exceptionTable := #[], attributes := #[] }
def k1m1 : Method := { name := "inverse", desc := "(J)J", sig := { parameters := [.long], returnType := some .long }, accessFlags := 10, code := some k1c1 }
def k1c2 : Code := { maxStack := 5, maxLocals := 4, code := method_3_code, exceptionTable := #[], attributes := #[] }
def k1m2 : Method := { name := "unmix", desc := "(J)J", sig := { parameters := [.long], returnType := some .long }, accessFlags := 10, code := some k1c2 }
def k1c3 : Code := { maxStack := 6, maxLocals := 7, code := code, exceptionTable := #[], attributes := #[] }
def k1m3 : Method := { name := "law", desc := "(J)Z", sig := { parameters := [.long], returnType := some .boolean }, accessFlags := 9, code := some k1c3 }
/-- com/example/wary_rank/waryrank/SplitMix64NextLongPinLaw -/
def k1 : Class := { plain "com/example/wary_rank/waryrank/SplitMix64NextLongPinLaw" (some 0) with
  accessFlags := 49
  interfaces := #[]
  cf := some (fileOf pool1 9 #[] #[{ accessFlags := 1, nameIndex := 5, descriptorIndex := 6, attributes := #[] }, { accessFlags := 10, nameIndex := 15, descriptorIndex := 16, attributes := #[] }, { accessFlags := 10, nameIndex := 30, descriptorIndex := 16, attributes := #[] }, { accessFlags := 9, nameIndex := 42, descriptorIndex := 43, attributes := #[] }] 49 2 #[] #[{ accessFlags := 26, nameIndex := 35, descriptorIndex := 36, attributes := #[] }, { accessFlags := 26, nameIndex := 38, descriptorIndex := 36, attributes := #[] }, { accessFlags := 26, nameIndex := 39, descriptorIndex := 36, attributes := #[] }])
  fields := #[{ name := "GAMMA", type := .long, accessFlags := 26, slot := 0, constantValue := 0 }, { name := "MIX_1", type := .long, accessFlags := 26, slot := 1, constantValue := 0 }, { name := "MIX_2", type := .long, accessFlags := 26, slot := 2, constantValue := 0 }]
  methods := #[k1m0, k1m1, k1m2, k1m3]
  instanceTypes := #[]
  staticTypes := #[.long, .long, .long]
  resolved := Array.replicate 47 none
  statics := none }

def pool2 : Array CpInfo := pool [(3, .methodref 4 5), (0, .class_ 6), (0, .nameAndType 7 8), (0, u "java/lang/Object"), (0, u "<init>"), (0, u "()V"), (0, .fieldref 10 11), (0, .class_ 12), (0, .nameAndType 13 14), (0, u "com/example/wary_rank/waryrank/SplitMix64"), (0, u "state"), (0, u "J"), (0, .long 11400714819323198485), (1, .long 13787848793156543929), (1, .long 10723151780598845931), (3, u "nextLong"), (0, u "()J"), (8, u "GAMMA"), (1, u "MIX_1"), (0, u "MIX_2"), (0, u "LOW_WORD"), (0, u "FRACTION_SHIFT"), (0, u "I"), (1, u "FRACTION_UNIT"), (0, u "D"), (0, u "(J)V")] 9

def k2c0 : Code := { maxStack := 3, maxLocals := 3, code := prog_42_method_1_code, exceptionTable := #[], attributes := #[] }
def k2m0 : Method := { name := "<init>", desc := "(J)V", sig := { parameters := [.long], returnType := none }, accessFlags := 0, code := some k2c0 }
def k2c1 : Code := { maxStack := 5, maxLocals := 3, code := prog_42_method_2_code, exceptionTable := #[], attributes := #[] }
def k2m1 : Method := { name := "nextLong", desc := "()J", sig := { parameters := [], returnType := some .long }, accessFlags := 0, code := some k2c1 }
/-- com/example/wary_rank/waryrank/SplitMix64 -/
def k2 : Class := { plain "com/example/wary_rank/waryrank/SplitMix64" (some 0) with
  accessFlags := 32
  interfaces := #[]
  cf := some (fileOf pool2 10 #[] #[{ accessFlags := 0, nameIndex := 7, descriptorIndex := 43, attributes := #[] }, { accessFlags := 0, nameIndex := 23, descriptorIndex := 24, attributes := #[] }] 32 4 #[] #[{ accessFlags := 26, nameIndex := 33, descriptorIndex := 14, attributes := #[] }, { accessFlags := 26, nameIndex := 35, descriptorIndex := 14, attributes := #[] }, { accessFlags := 26, nameIndex := 36, descriptorIndex := 14, attributes := #[] }, { accessFlags := 26, nameIndex := 37, descriptorIndex := 14, attributes := #[] }, { accessFlags := 26, nameIndex := 38, descriptorIndex := 39, attributes := #[] }, { accessFlags := 26, nameIndex := 41, descriptorIndex := 42, attributes := #[] }, { accessFlags := 2, nameIndex := 13, descriptorIndex := 14, attributes := #[] }])
  fields := #[{ name := "GAMMA", type := .long, accessFlags := 26, slot := 0, constantValue := 0 }, { name := "MIX_1", type := .long, accessFlags := 26, slot := 1, constantValue := 0 }, { name := "MIX_2", type := .long, accessFlags := 26, slot := 2, constantValue := 0 }, { name := "LOW_WORD", type := .long, accessFlags := 26, slot := 3, constantValue := 0 }, { name := "FRACTION_SHIFT", type := .int, accessFlags := 26, slot := 4, constantValue := 0 }, { name := "FRACTION_UNIT", type := .double, accessFlags := 26, slot := 5, constantValue := 0 }, { name := "state", type := .long, accessFlags := 2, slot := 0, constantValue := 0 }]
  methods := #[k2m0, k2m1]
  instanceTypes := #[.long]
  staticTypes := #[.long, .long, .long, .long, .int, .double]
  resolved := Array.replicate 53 none
  statics := none }

def pool3 : Array CpInfo := pool [(1, u "java/lang/Cloneable"), (0, .class_ 1), (0, u "java/lang/Object"), (0, .class_ 3)] 3

/-- java/lang/Cloneable -/
def k3 : Class := { plain "java/lang/Cloneable" (some 0) with
  accessFlags := 1537
  interfaces := #[]
  cf := some (fileOf pool3 2 #[] #[] 1537 4 #[] #[])
  fields := #[]
  methods := #[]
  instanceTypes := #[]
  staticTypes := #[]
  resolved := Array.replicate 8 none
  statics := none }

def pool4 : Array CpInfo := pool [(1, u "java/io/Serializable"), (0, .class_ 1), (0, u "java/lang/Object"), (0, .class_ 3)] 3

/-- java/io/Serializable -/
def k4 : Class := { plain "java/io/Serializable" (some 0) with
  accessFlags := 1537
  interfaces := #[]
  cf := some (fileOf pool4 2 #[] #[] 1537 4 #[] #[])
  fields := #[]
  methods := #[]
  instanceTypes := #[]
  staticTypes := #[]
  resolved := Array.replicate 8 none
  statics := none }

/-- the primitive byte -/
def k5 : Class := { plain "byte" none with kind := .primitive 'B', accessFlags := 0x411 }
/-- [B -/
def k6 : Class := { plain "[B" (some 0) with kind := .array 5 .byte, interfaces := #[3, 4], accessFlags := 1041 }

/-- the primitive int -/
def k7 : Class := { plain "int" none with kind := .primitive 'I', accessFlags := 0x411 }
/-- [I -/
def k8 : Class := { plain "[I" (some 0) with kind := .array 7 .int, interfaces := #[3, 4], accessFlags := 1041 }

def heap : Heap := #[]
def classes : Array Class := #[k0, k1, k2, k3, k4, k5, k6, k7, k8]
def interned : List (Array UInt16 × Addr) := []
def slotsUsed : Nat := 0
def theMethod : MethodId := ⟨1, 3⟩
def args0 : Array Value := #[.long 5]
def aboutOver (below : List Frame) : State where
  vm := { classes := classes, interned := interned.toArray }
  heap := heap
  slotsUsed := slotsUsed
  threads := #[{ frames := .invoking theMethod args0 :: below }]
def below0 : List Frame := [.native { method := ⟨0, 0⟩, args := #[] }]
def about1 : State := aboutOver below0
def p0 : Program := .bare "" "" ""
def e0 : Env := launch0.env 0 0 0
theorem w_frames : about1.frames = Frame.invoking theMethod args0 :: below0 := rfl
set_option maxRecDepth 65536 in
theorem w_args : argsFit about1.vm theMethod args0 = true := by decide +kernel
set_option maxRecDepth 65536 in
theorem w_heap : heapFits about1 = true := by decide +kernel
set_option maxRecDepth 65536 in
theorem w_runnable : about1.curStatus? = some .runnable := by decide +kernel
set_option maxRecDepth 65536 in
theorem w_alone : about1.alone = true := by decide +kernel
set_option maxRecDepth 65536 in
theorem w_named : about1.methodNamed? x = some theMethod := by decide +kernel
set_option maxRecDepth 65536 in
theorem w_hears : about1.hears theMethod below0 = true := by decide +kernel
set_option maxRecDepth 65536 in
theorem w_ripe : about1.ripe theMethod args0 below0 = true := by decide +kernel
theorem w_running : about1.status = .running := rfl
set_option maxRecDepth 65536 in
theorem w_room : about1.hasRoom e0.platform room_1 = true :=
  launch0.hasRoom_least _ room_1 (by decide +kernel) (by decide +kernel) (by decide +kernel) (by decide +kernel) (by decide +kernel) (by decide +kernel)
theorem allAtoms_all (ts : List Jvm.Cond) (a : Array Jvm.Value) (st : Jvm.State) : (allAtoms ts).before a st = ts.all (fun c => c.before a st) := by
  induction ts with
  | nil => rfl
  | cons c t ih =>
    show (Jvm.Cond.and c (allAtoms t)).before a st = _
    rw [Jvm.Cond.before_and, ih, List.all_cons]
def words1 : List Jvm.Cond := Jvm.Cond.code x code maxLocals ret :: tables_1
/-- a 'code' word, met by the world's own term for the bytes: nothing is compared byte by byte -/
theorem code_word {y : MethodName} {bytes : ByteArray} {mx : Nat} {rt : Option FieldType} {a : Array Value} {s : State} {m : MethodId} {meth : Method} {c : Code} (h1 : s.methodNamed? y = some m) (h2 : s.vm.method? m = some meth) (h3 : meth.code = some c) (h4 : c.code = bytes)
    (h5 : (c.maxLocals == mx && c.exceptionTable.isEmpty && decide (c.maxStack ≤ mostOperands) && decide (meth.sig.returnType = rt) && !meth.locks && decide (parseMethodDescriptor y.desc = some meth.sig)) = true) : (Jvm.Cond.code y bytes mx rt).before a s = true := by
  simp only [Bool.and_eq_true, beq_iff_eq, Bool.not_eq_true', decide_eq_true_eq] at h5
  obtain ⟨⟨⟨⟨⟨g1, g2⟩, g3⟩, g4⟩, g5⟩, g6⟩ := h5
  simp [Cond.before, Cond.holds, Cond.value, h1, h2, h3, h4, g1, g2, g3, g4, g5, g6]
def isCode : Jvm.Cond → Bool
  | .code _ _ _ _ => true
  | _ => false
theorem all_split {L : List Jvm.Cond} {P : Jvm.Cond → Bool} (h1 : L.all (fun c => isCode c || P c) = true) (h2 : ∀ c ∈ L.filter isCode, P c = true) : L.all P = true := by
  refine List.all_eq_true.mpr fun c hc => ?_
  have h := List.all_eq_true.mp h1 c hc
  rcases Bool.eq_false_or_eq_true (isCode c) with hi | hi
  · exact h2 c (List.mem_filter.mpr ⟨hc, hi⟩)
  · simpa [hi] using h
set_option maxRecDepth 65536 in
theorem w_c0 : (Jvm.Cond.code x code maxLocals ret).before args0 about1 = true := code_word (m := ⟨1, 3⟩) (meth := k1m3) (c := k1c3) (by decide +kernel) rfl rfl rfl (by decide +kernel)
set_option maxRecDepth 65536 in
theorem w_c1 : (Jvm.Cond.code ({ cls := "com/example/wary_rank/waryrank/SplitMix64", name := "<init>", desc := "(J)V" } : Jvm.MethodName) prog_42_method_1_code (3 : Nat) (Option.none : Option Jvm.ClassFile.FieldType)).before args0 about1 = true := code_word (m := ⟨2, 0⟩) (meth := k2m0) (c := k2c0) (by decide +kernel) rfl rfl rfl (by decide +kernel)
set_option maxRecDepth 65536 in
theorem w_c2 : (Jvm.Cond.code ({ cls := "java/lang/Object", name := "<init>", desc := "()V" } : Jvm.MethodName) object_method_1_code (1 : Nat) (Option.none : Option Jvm.ClassFile.FieldType)).before args0 about1 = true := code_word (m := ⟨0, 0⟩) (meth := k0m0) (c := k0c0) (by decide +kernel) rfl rfl rfl (by decide +kernel)
set_option maxRecDepth 65536 in
theorem w_c3 : (Jvm.Cond.code ({ cls := "com/example/wary_rank/waryrank/SplitMix64", name := "nextLong", desc := "()J" } : Jvm.MethodName) prog_42_method_2_code (3 : Nat) (Option.some Jvm.ClassFile.FieldType.long)).before args0 about1 = true := code_word (m := ⟨2, 1⟩) (meth := k2m1) (c := k2c1) (by decide +kernel) rfl rfl rfl (by decide +kernel)
set_option maxRecDepth 65536 in
theorem w_c4 : (Jvm.Cond.code ({ cls := "com/example/wary_rank/waryrank/SplitMix64NextLongPinLaw", name := "unmix", desc := "(J)J" } : Jvm.MethodName) method_3_code (4 : Nat) (Option.some Jvm.ClassFile.FieldType.long)).before args0 about1 = true := code_word (m := ⟨1, 2⟩) (meth := k1m2) (c := k1c2) (by decide +kernel) rfl rfl rfl (by decide +kernel)
set_option maxRecDepth 65536 in
theorem w_c5 : (Jvm.Cond.code ({ cls := "com/example/wary_rank/waryrank/SplitMix64NextLongPinLaw", name := "inverse", desc := "(J)J" } : Jvm.MethodName) method_2_code (4 : Nat) (Option.some Jvm.ClassFile.FieldType.long)).before args0 about1 = true := code_word (m := ⟨1, 1⟩) (meth := k1m1) (c := k1c1) (by decide +kernel) rfl rfl rfl (by decide +kernel)
def codes1 : List Jvm.Cond := [Jvm.Cond.code x code maxLocals ret, Jvm.Cond.code ({ cls := "com/example/wary_rank/waryrank/SplitMix64", name := "<init>", desc := "(J)V" } : Jvm.MethodName) prog_42_method_1_code (3 : Nat) (Option.none : Option Jvm.ClassFile.FieldType), Jvm.Cond.code ({ cls := "java/lang/Object", name := "<init>", desc := "()V" } : Jvm.MethodName) object_method_1_code (1 : Nat) (Option.none : Option Jvm.ClassFile.FieldType), Jvm.Cond.code ({ cls := "com/example/wary_rank/waryrank/SplitMix64", name := "nextLong", desc := "()J" } : Jvm.MethodName) prog_42_method_2_code (3 : Nat) (Option.some Jvm.ClassFile.FieldType.long), Jvm.Cond.code ({ cls := "com/example/wary_rank/waryrank/SplitMix64NextLongPinLaw", name := "unmix", desc := "(J)J" } : Jvm.MethodName) method_3_code (4 : Nat) (Option.some Jvm.ClassFile.FieldType.long), Jvm.Cond.code ({ cls := "com/example/wary_rank/waryrank/SplitMix64NextLongPinLaw", name := "inverse", desc := "(J)J" } : Jvm.MethodName) method_2_code (4 : Nat) (Option.some Jvm.ClassFile.FieldType.long)]
set_option maxRecDepth 65536 in
theorem codes_eq : words1.filter isCode = codes1 := rfl
theorem w_codes : ∀ c ∈ words1.filter isCode, c.before args0 about1 = true := by
  rw [codes_eq]
  intro c hc
  simp only [codes1, List.mem_cons, List.not_mem_nil, or_false] at hc
  rcases hc with rfl | rfl | rfl | rfl | rfl | rfl
  · exact w_c0
  · exact w_c1
  · exact w_c2
  · exact w_c3
  · exact w_c4
  · exact w_c5
set_option maxRecDepth 65536 in
theorem w_t1 : (words1.take 24).all (fun c => isCode c || c.before args0 about1) = true := by decide +kernel
set_option maxRecDepth 65536 in
theorem w_t2 : (words1.drop 24).all (fun c => isCode c || c.before args0 about1) = true := by decide +kernel
theorem w_tables : (allAtoms (Jvm.Cond.code x code maxLocals ret :: tables_1)).before args0 about1 = true := by
  rw [allAtoms_all]
  show words1.all (fun c => c.before args0 about1) = true
  refine all_split ?_ w_codes
  rw [← List.take_append_drop 24 words1, List.all_append, w_t1, w_t2]
  rfl
set_option maxRecDepth 65536 in
theorem w_case : (Jvm.Cond.and given_1 narrow_1).before args0 about1 = true := by decide +kernel
theorem w_applies : (headSpec (Jvm.Cond.code x code maxLocals ret :: tables_1) room_1).applies x e0.platform about1 = true :=
  (Spec.applies_iff w_frames).mpr ⟨w_running, w_runnable, w_alone, w_named, w_hears, w_ripe, w_room, w_tables⟩
theorem atStart : AtStart classFile x code maxLocals ret World_1 tables_1 room_1 Calls_1 rest_1 Pre_1 launch0 p0 e0 about1 theMethod args0 below0 :=
  ⟨lists_1, trivial, launch0.admits_env _ _ _, launch0.least_env, fairChoices_fair.cas, fairChoices_fair.clock, w_frames, w_args, w_heap, w_applies, trivial, trivial, w_case⟩
end start1
theorem witness_1 : WitnessClaimed_1 := ⟨start1.p0, start1.e0, start1.about1, start1.theMethod, start1.args0, start1.below0, start1.atStart⟩
end Jvm.Pilot.@@N@@
