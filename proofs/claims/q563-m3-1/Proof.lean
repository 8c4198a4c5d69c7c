import JvmDerived
import JvmDerived.Pilot.@@N@@Statement
import JvmDerived.Pilot.@@N@@Code
set_option linter.unusedVariables false
set_option linter.unusedSimpArgs false
namespace Jvm.RoadKit
theorem sta_keep {Z : State} {h h' : Heap} {C n d : String} {w : Value} (F : Sta Z h C n d w) (K : Keep h h' []) : Sta Z h' C n d w := by
  obtain ⟨cf, i, k, f, st, cell, h1, h2, h3, h4, h5, r⟩ := F
  exact ⟨cf, i, k, f, st, cell, h1, h2, h3, h4, K.2.1 _ _ h5 nin0, r⟩
def FrameWide (s : State) (o : Outcome) (t : State) (L : List Loc) (k n : Nat) : Prop := (∃ v, o = .returned v) ∧ s.Warmed39 t.vm ∧ s.Booked t.vm t.heap.size ∧ s.sameButNew ({ t with vm := s.vm } : State) L k n
theorem heq_of {T : State} {h : Heap} {a : Addr} {c : Cell} (e : T.heap = h) (q : h[a]? = some c) : T.heap[a]? = some c := by rw [e]; exact q
open Sem ClassFile Op Lib Jvm.Stand Jvm.Free Jvm.LawKit
section New
variable {p : Program} {l : Launch} {e : Env} {R : Room} {s : State} {m : MethodId} {args : Array Value} {below : List Frame} {meth : Method} {c : Code} {T : State} {locs : List Loc} {cells slots : Nat}
theorem retI (X : Stand p l e R s m args below meth c T locs cells slots) (hx : p.tables.exec = Jvm.exec) {pc : Nat} {Ls : Array Slot} {z : Int32} {rest : List Value} (hret : meth.sig.returnType = some .int) (hd : decode c.code pc = .ok (.ireturn, 1)) {fs : List Frame}
    (hl : ∀ (f : JFrame) (acts : List Action), f.method = m → f.locked = none → f.entered = [] → (doReturn e (T.setTop f) acts (some (.int z))).1 = T.setFrames fs) : Steps p.tables e below (T.setTop (mkF m pc Ls (.int z :: rest))) (T.setFrames fs) := by
  have hm' : T.vm.method? m = some meth := X.method'
  have hn : narrow .int (.int z) = .int z := rfl
  show Steps p.tables e below (T.setTop { method := m, pc := pc, locals := Ls, stack := _ :: rest, locked := none }) _
  jvm_step X.here [X.here.top, hx, hd, hm', hret, hn]
  first | (intro acts; rw [hl _ acts rfl rfl rfl]) | rw [hl _ _ rfl rfl rfl]
  exact Steps.refl _
end New
end Jvm.RoadKit
namespace Jvm.Pilot.@@N@@
open Jvm Jvm.ClassFile Sem Op Lib Jvm.Free Jvm.Stand Jvm.LawKit Jvm.RoadKit Bundle Jvm.Pilot.@@N@@.Jvm.D
theorem own_mask31 (a : Int32) : 0 ≤ (a &&& (2147483647 : Int32)).toInt ∧ (a &&& (2147483647 : Int32)).toInt < 2147483648 := by
  have h : (a &&& (2147483647 : Int32)).toBitVec = a.toBitVec &&& 2147483647#32 := rfl
  have e : (a &&& (2147483647 : Int32)).toInt = (a.toBitVec &&& 2147483647#32).toInt := by rw [← h]; rfl
  have hm : (a.toBitVec &&& 2147483647#32).toNat ≤ 2147483647 := by rw [BitVec.toNat_and]; exact Nat.and_le_right
  rw [e, BitVec.toInt_eq_toNat_of_lt (by omega)]
  omega
theorem own_rem (u s : Int32) (hu : 0 ≤ u.toInt) (hs : 0 < s.toInt) : 0 ≤ (u % s).toInt ∧ (u % s).toInt < s.toInt := by
  have : (u % s).toInt = u.toInt.tmod s.toInt := Int32.toInt_mod ..
  rw [this, Int.tmod_eq_emod_of_nonneg hu]
  exact ⟨Int.emod_nonneg _ (by omega), Int.emod_lt_of_pos _ hs⟩
theorem own_i32_add (x y : Int32) (h1 : -2147483648 ≤ x.toInt + y.toInt) (h2 : x.toInt + y.toInt < 2147483648) : (x + y).toInt = x.toInt + y.toInt := by
  rw [Int32.toInt_add, Int.bmod_eq_of_le (by omega) (by omega)]
theorem own_i32_sub (x y : Int32) (h1 : -2147483648 ≤ x.toInt - y.toInt) (h2 : x.toInt - y.toInt < 2147483648) : (x - y).toInt = x.toInt - y.toInt := by
  rw [Int32.toInt_sub, Int.bmod_eq_of_le (by omega) (by omega)]
theorem own_i64_add (x y : Int64) (h1 : -9223372036854775808 ≤ x.toInt + y.toInt) (h2 : x.toInt + y.toInt < 9223372036854775808) : (x + y).toInt = x.toInt + y.toInt := by
  rw [Int64.toInt_add, Int.bmod_eq_of_le (by omega) (by omega)]
theorem own_i64_sub (x y : Int64) (h1 : -9223372036854775808 ≤ x.toInt - y.toInt) (h2 : x.toInt - y.toInt < 9223372036854775808) : (x - y).toInt = x.toInt - y.toInt := by
  rw [Int64.toInt_sub, Int.bmod_eq_of_le (by omega) (by omega)]
theorem own_i64_mul (x y : Int64) (h1 : -9223372036854775808 ≤ x.toInt * y.toInt) (h2 : x.toInt * y.toInt < 9223372036854775808) : (x * y).toInt = x.toInt * y.toInt := by
  rw [Int64.toInt_mul, Int.bmod_eq_of_le (by omega) (by omega)]
theorem own_i2l (x : Int32) : x.toInt64.toInt = x.toInt := Int32.toInt_toInt64 x
theorem own_l2i (x : Int64) (h1 : -2147483648 ≤ x.toInt) (h2 : x.toInt < 2147483648) : x.toInt32.toInt = x.toInt := by
  rw [Int64.toInt_toInt32, Int.bmod_eq_of_le (by omega) (by omega)]
theorem own_rangeI (x : Int32) : -2147483648 ≤ x.toInt ∧ x.toInt < 2147483648 := by
  have h1 := Int32.le_toInt x; have h2 := Int32.toInt_lt x; omega
theorem own_rangeL (x : Int64) : -9223372036854775808 ≤ x.toInt ∧ x.toInt < 9223372036854775808 := by
  have h1 := Int64.le_toInt x; have h2 := Int64.toInt_lt x; omega
theorem own_mask63 (a : Int64) : 0 ≤ (a &&& (9223372036854775807 : Int64)).toInt ∧ (a &&& (9223372036854775807 : Int64)).toInt < 9223372036854775808 := by
  have h : (a &&& (9223372036854775807 : Int64)).toBitVec = a.toBitVec &&& 9223372036854775807#64 := rfl
  have e : (a &&& (9223372036854775807 : Int64)).toInt = (a.toBitVec &&& 9223372036854775807#64).toInt := by rw [← h]; rfl
  have hm : (a.toBitVec &&& 9223372036854775807#64).toNat ≤ 9223372036854775807 := by rw [BitVec.toNat_and]; exact Nat.and_le_right
  rw [e, BitVec.toInt_eq_toNat_of_lt (by omega)]
  omega
theorem own_remL (u s : Int64) (hu : 0 ≤ u.toInt) (hs : 0 < s.toInt) : 0 ≤ (u % s).toInt ∧ (u % s).toInt < s.toInt := by
  have : (u % s).toInt = u.toInt.tmod s.toInt := Int64.toInt_mod ..
  rw [this, Int.tmod_eq_emod_of_nonneg hu]
  exact ⟨Int.emod_nonneg _ (by omega), Int.emod_lt_of_pos _ hs⟩
theorem own_byte2 (x : Int32) : x.toInt8.toInt32.toInt8.toInt32 = x.toInt8.toInt32 := by
  have : x.toInt8.toInt32.toInt8 = x.toInt8 := Int8.toInt8_toInt32 _
  rw [this]
theorem own_xor (A D : Int8) : (A.toInt32 ^^^ D.toInt32).toInt8.toInt32 = A.toInt32 ↔ D.toInt32 = (0 : Int32) := by
  rw [← Int8.toInt32_xor, Int8.toInt8_toInt32]
  constructor
  · intro h
    have h2 := congrArg Int32.toInt8 h
    rw [Int8.toInt8_toInt32, Int8.toInt8_toInt32] at h2
    have h3 := congrArg (fun z => A ^^^ z) h2
    simp only [← Int8.xor_assoc, Int8.xor_self, Int8.zero_xor] at h3
    rw [h3]; rfl
  · intro h
    have h2 := congrArg Int32.toInt8 h
    rw [Int8.toInt8_toInt32] at h2
    have h3 : (0 : Int32).toInt8 = 0 := rfl
    rw [h2, h3, Int8.xor_zero]
theorem own_x (w d : Int32) (hd : d.toInt8.toInt32 = d) : ((nar .byte (((nar .byte (w.toInt8.toInt32)) ^^^ d).toInt8.toInt32)) = (nar .byte (w.toInt8.toInt32))) = (d = (0 : Int32)) := by
  show ((((w.toInt8.toInt32).toInt8.toInt32) ^^^ d).toInt8.toInt32.toInt8.toInt32 = (w.toInt8.toInt32).toInt8.toInt32) = _
  rw [own_byte2, own_byte2]
  apply propext
  have h := own_xor w.toInt8 d.toInt8
  rw [hd] at h
  exact h
theorem own_rem_cases (u d : Int32) (D : Nat) (hd : d.toInt = D) (hD : 0 < D) : ∃ n : Nat, n < D ∧ ((u &&& (2147483647 : Int32)) % d).toInt = n := by
  have h := own_rem (u &&& (2147483647 : Int32)) d (own_mask31 u).1 (by omega)
  exact ⟨((u &&& (2147483647 : Int32)) % d).toInt.toNat, by omega, by omega⟩
theorem own_in0 (x : Int32) (N : Nat) (h0 : 0 ≤ x.toInt) (h1 : x.toInt < N) (hN : N = 8) : ¬ x < 0 ∧ x < (8 : Int32) := by
  have t0 : (0 : Int32).toInt = 0 := rfl
  have t8 : (8 : Int32).toInt = 8 := rfl
  rw [Int32.lt_iff_toInt_lt, Int32.lt_iff_toInt_lt]
  omega
theorem own_in (x c : Int32) (i : Int) (hc : c.toInt = i) (hi : 0 ≤ i) (h0 : 0 ≤ x.toInt) (h1 : x.toInt + i < 8) : ¬ (x + c) < 0 ∧ (x + c) < (8 : Int32) :=
  own_in0 _ 8 (by rw [own_i32_add _ _ (by omega) (by omega)]; omega) (by rw [own_i32_add _ _ (by omega) (by omega)]; omega) rfl
theorem own_off (x a b : Int32) (h : ¬ a = b) : ¬ (x + a = x + b) := fun q => h ((Int32.add_right_inj x).1 q)
theorem own_off0 (x b : Int32) (h : ¬ (0 : Int32) = b) : ¬ (x = x + b) := fun q => h ((Int32.add_right_inj x).1 (by rw [Int32.add_zero]; exact q))
theorem own_off0' (x b : Int32) (h : ¬ b = (0 : Int32)) : ¬ (x + b = x) := fun q => h ((Int32.add_right_inj x).1 (by rw [Int32.add_zero]; exact q))
theorem own_lit (x c : Int32) (n : Int) (h : x.toInt = n) (hc : c.toInt = n) : x = c := Int32.toInt_inj.1 (h.trans hc.symm)
theorem d1_0 : decode method_3_code 0 = .ok (.iload_n 0, 1) := by decide +kernel
theorem d1_1 : decode method_3_code 1 = .ok (.iload_n 2, 1) := by decide +kernel
theorem d1_2 : decode method_3_code 2 = .ok (.ishr, 1) := by decide +kernel
theorem d1_3 : decode method_3_code 3 = .ok (.iconst 1, 1) := by decide +kernel
theorem d1_4 : decode method_3_code 4 = .ok (.iand, 1) := by decide +kernel
theorem d1_5 : decode method_3_code 5 = .ok (.ifCond .eq 13, 3) := by decide +kernel
theorem d1_8 : decode method_3_code 8 = .ok (.iload_n 1, 1) := by decide +kernel
theorem d1_9 : decode method_3_code 9 = .ok (.bipush 8, 2) := by decide +kernel
theorem d1_11 : decode method_3_code 11 = .ok (.iload_n 2, 1) := by decide +kernel
theorem d1_12 : decode method_3_code 12 = .ok (.imul, 1) := by decide +kernel
theorem d1_13 : decode method_3_code 13 = .ok (.ishr, 1) := by decide +kernel
theorem d1_14 : decode method_3_code 14 = .ok (.i2b, 1) := by decide +kernel
theorem d1_15 : decode method_3_code 15 = .ok (.goto 4, 3) := by decide +kernel
theorem d1_18 : decode method_3_code 18 = .ok (.iconst 0, 1) := by decide +kernel
theorem d1_19 : decode method_3_code 19 = .ok (.ireturn, 1) := by decide +kernel
theorem pn_1 : plainName "com/example/marcotte/marcotte/NameWrittenAtPinLaw" = true := by first | (simp [plainName, overriddenIn]; done) | decide +kernel
theorem ef_1 (m : MethodId) (x0 : Int32) (x1 : Int32) (x2 : Int32) : entryFrame m #[(.int x0), (.int x1), (.int x2)] 3 = mkF m 0 #[.val (.int x0), .val (.int x1), .val (.int x2)] [] := by first | (simp [entryFrame, mkF, argsToLocals, Value.category]; done) | rfl
def own_f1 (fl : Int32) (df : Int32) (ix : Int32) : Int32 := (nar .byte (if ((fl >>> (ix &&& 31)) &&& (1 : Int32)) = (0 : Int32) then (0 : Int32) else ((df >>> (((8 : Int32) * ix) &&& 31)).toInt8.toInt32)))
def Q1 (Z : State) (fl : Int32) (df : Int32) (ix : Int32) (h0 : Heap) (n0 : Nat) (v : Option Value) (h : Heap) (L : List Loc) : Prop := v = some (.int (own_f1 fl df ix)) ∧ Fr n0 L ∧ h = h0
set_option maxRecDepth 65536 in
set_option maxHeartbeats 40000000 in
theorem rm1 (l : Launch) (Z : State) (a0 : Array Value) (hw : ∀ d ∈ tables_1, d.before a0 Z = true) (ws : List Jvm.Cond) (fl : Int32) (df : Int32) (ix : Int32) (h0 : Heap) (n0 : Nat) (Z0 : n0 ≤ h0.size)  :
    MetFree l (⟨"com/example/marcotte/marcotte/NameWrittenAtPinLaw", "delta", "(III)B"⟩ : MethodName) (head1 (Jvm.Cond.code (⟨"com/example/marcotte/marcotte/NameWrittenAtPinLaw", "delta", "(III)B"⟩ : MethodName) method_3_code 3 (some .byte) :: ws) ({ frames := 0, cells := 0, slots := 0, locals := 0 } : Room)) (fun a U => a = #[(.int fl), (.int df), (.int ix)] ∧ Z.Warmed39 U.vm ∧ U.heap = h0) (fun _ _ _ _ _ => True) (fun _ U o U' => ∃ v L, o = .returned v ∧ Q1 Z fl df ix h0 n0 v U'.heap L ∧ FrameEnd U o U' L ({ frames := 0, cells := 0, slots := 0, locals := 0 } : Room).cells ({ frames := 0, cells := 0, slots := 0, locals := 0 } : Room).slots) := by
  refine MetFree.of_bodySF (plainFor_of_name pn_1) hisR ?_
  intro p e s m args below meth c s₁ Bd hml0 hP hK
  obtain ⟨rfl, hZ, hh⟩ := hP
  have hx := Bd.exec
  have hby := Bd.bytes
  have hml : c.maxLocals = 3 := hml0
  have hown : s.vm.findClass "com/example/marcotte/marcotte/NameWrittenAtPinLaw" = some m.cls := findClass_of_methodNamed Bd.named
  have hnm := (name_of_methodNamed Bd.named Bd.method).1
  have X0 : Stand p l e ({ frames := 0, cells := 0, slots := 0, locals := 0 } : Room) s m #[(.int fl), (.int df), (.int ix)] below meth c s₁ [] 0 0 := Stand.of_body Bd
  have e0 : s₁.heap = h0 := by rw [← hh, Bd.state]; rfl
  have N0 := Fr.nil n0
  have K0 : Keep h0 h0 [] := Keep.refl h0 _
  have pre0 : ∀ tq, Steps p.tables e below (s₁.setTop (mkF m 0 #[.val (.int fl), .val (.int df), .val (.int ix)] [])) tq → Steps p.tables e below (s₁.setTop (entryFrame m #[(.int fl), (.int df), (.int ix)] 3)) tq := fun tq kq => castTop (ef_1 m fl df ix) kq
  obtain ⟨m19, hm19⟩ : ∃ z_q : Int32, z_q = (if ((fl >>> (ix &&& 31)) &&& (1 : Int32)) = (0 : Int32) then (0 : Int32) else ((df >>> (((8 : Int32) * ix) &&& 31)).toInt8.toInt32)) := ⟨_, rfl⟩
  have pre2 : ∀ tq, Steps p.tables e below (s₁.setTop (mkF m 19 #[.val (.int fl), .val (.int df), .val (.int ix)] [(.int m19)])) tq → Steps p.tables e below (s₁.setTop (entryFrame m #[(.int fl), (.int df), (.int ix)] 3)) tq := by
    intro tq kt
    refine pre0 _ ?_
    show Steps p.tables e below (s₁.setTop (mkF m 0 #[.val (.int fl), .val (.int df), .val (.int ix)] [])) _
    refine XS.iloadN X0.here hx rfl (hb hby d1_0) rfl ?_
    show Steps p.tables e below (s₁.setTop (mkF m 1 #[.val (.int fl), .val (.int df), .val (.int ix)] [(.int fl)])) _
    refine XS.iloadN X0.here hx rfl (hb hby d1_1) rfl ?_
    show Steps p.tables e below (s₁.setTop (mkF m 2 #[.val (.int fl), .val (.int df), .val (.int ix)] [(.int ix), (.int fl)])) _
    refine XS.ishr X0.here hx rfl (hb hby d1_2) rfl ?_
    show Steps p.tables e below (s₁.setTop (mkF m 3 #[.val (.int fl), .val (.int df), .val (.int ix)] [(.int (fl >>> (ix &&& 31)))])) _
    refine XS.iconst X0.here hx rfl (hb hby d1_3) ?_
    show Steps p.tables e below (s₁.setTop (mkF m 4 #[.val (.int fl), .val (.int df), .val (.int ix)] [(.int (1 : Int32)), (.int (fl >>> (ix &&& 31)))])) _
    refine XS.iand X0.here hx rfl (hb hby d1_4) rfl ?_
    by_cases d1 : ((fl >>> (ix &&& 31)) &&& (1 : Int32)) = (0 : Int32)
    · skip
      show Steps p.tables e below (s₁.setTop (mkF m 5 #[.val (.int fl), .val (.int df), .val (.int ix)] [(.int ((fl >>> (ix &&& 31)) &&& (1 : Int32)))])) _
      refine XS.ifYes X0.here hx rfl (pc0 := 5) (pc' := 18) rfl (hb hby d1_5) rfl ((if0 _ _).trans (teq d1).1) (by decide) (by decide) ?_
      show Steps p.tables e below (s₁.setTop (mkF m 18 #[.val (.int fl), .val (.int df), .val (.int ix)] [])) _
      refine XS.iconst X0.here hx rfl (hb hby d1_18) ?_
      show Steps p.tables e below (s₁.setTop (mkF m 19 #[.val (.int fl), .val (.int df), .val (.int ix)] [(.int (0 : Int32))])) _
      exact castTop (by simp only [hm19, if_pos d1]) kt
    · skip
      show Steps p.tables e below (s₁.setTop (mkF m 5 #[.val (.int fl), .val (.int df), .val (.int ix)] [(.int ((fl >>> (ix &&& 31)) &&& (1 : Int32)))])) _
      refine XS.ifNo X0.here hx rfl (hb hby d1_5) rfl ((if0 _ _).trans (feq d1).1) ?_
      show Steps p.tables e below (s₁.setTop (mkF m 8 #[.val (.int fl), .val (.int df), .val (.int ix)] [])) _
      refine XS.iloadN X0.here hx rfl (hb hby d1_8) rfl ?_
      show Steps p.tables e below (s₁.setTop (mkF m 9 #[.val (.int fl), .val (.int df), .val (.int ix)] [(.int df)])) _
      refine XS.bipush X0.here hx rfl (hb hby d1_9) ?_
      show Steps p.tables e below (s₁.setTop (mkF m 11 #[.val (.int fl), .val (.int df), .val (.int ix)] [(.int (8 : Int32)), (.int df)])) _
      refine XS.iloadN X0.here hx rfl (hb hby d1_11) rfl ?_
      show Steps p.tables e below (s₁.setTop (mkF m 12 #[.val (.int fl), .val (.int df), .val (.int ix)] [(.int ix), (.int (8 : Int32)), (.int df)])) _
      refine XS.imul X0.here hx rfl (hb hby d1_12) rfl ?_
      show Steps p.tables e below (s₁.setTop (mkF m 13 #[.val (.int fl), .val (.int df), .val (.int ix)] [(.int ((8 : Int32) * ix)), (.int df)])) _
      refine XS.ishr X0.here hx rfl (hb hby d1_13) rfl ?_
      show Steps p.tables e below (s₁.setTop (mkF m 14 #[.val (.int fl), .val (.int df), .val (.int ix)] [(.int (df >>> (((8 : Int32) * ix) &&& 31)))])) _
      refine XS.i2b X0.here hx rfl (hb hby d1_14) rfl ?_
      show Steps p.tables e below (s₁.setTop (mkF m 15 #[.val (.int fl), .val (.int df), .val (.int ix)] [(.int ((df >>> (((8 : Int32) * ix) &&& 31)).toInt8.toInt32))])) _
      refine XS.goto X0.here hx rfl (pc0 := 15) (pc' := 19) rfl (hb hby d1_15) (by decide) (by decide) ?_
      show Steps p.tables e below (s₁.setTop (mkF m 19 #[.val (.int fl), .val (.int df), .val (.int ix)] [(.int ((df >>> (((8 : Int32) * ix) &&& 31)).toInt8.toInt32))])) _
      exact castTop (by simp only [hm19, if_neg d1]) kt
  obtain ⟨fs, hr, hrun, hended, hW, hsame⟩ := X0.leave (v := some (Value.int (nar .byte m19))) (fun h => by rw [Bd.returns] at h; cases h)
  have hres3 : (nar .byte m19) = (own_f1 fl df ix) := by subst_vars; rfl
  refine ⟨_, _, pre2 _ ?_, hrun, hended, _, _, rfl, ?_, ⟨_, rfl⟩, hW, hsame.mono (by decide) (by decide)⟩
  · skip
    show Steps p.tables e below (s₁.setTop (mkF m 19 #[.val (.int fl), .val (.int df), .val (.int ix)] [(.int m19)])) _
    exact retN X0 hx (t := .byte) Bd.returns (by simp) (hb hby d1_19) hr
  · show Q1 Z fl df ix h0 n0 _ s₁.heap _
    rw [e0]
    exact ⟨congrArg (fun z => some (Value.int z)) hres3, N0, rfl⟩
theorem d3_0 : decode jdk_30_method_1_code 0 = .ok (.aload_n 0, 1) := by decide +kernel
theorem d3_1 : decode jdk_30_method_1_code 1 = .ok (.invokespecial 1, 3) := by decide +kernel
theorem d3_4 : decode jdk_30_method_1_code 4 = .ok (.return_, 1) := by decide +kernel
theorem pn_3 : plainName "java/lang/Record" = true := by first | (simp [plainName, overriddenIn]; done) | decide +kernel
theorem ef_3 (m : MethodId) (x0 : Addr) : entryFrame m #[(.ref x0)] 1 = mkF m 0 #[.val (.ref x0)] [] := by first | (simp [entryFrame, mkF, argsToLocals, Value.category]; done) | rfl
def Q3 (Z : State) (ob : Addr) (h0 : Heap) (n0 : Nat) (v : Option Value) (h : Heap) (L : List Loc) : Prop := v = none ∧ Fr n0 L ∧ h = h0
set_option maxRecDepth 65536 in
set_option maxHeartbeats 40000000 in
theorem rm3 (l : Launch) (Z : State) (a0 : Array Value) (hw : ∀ d ∈ tables_1, d.before a0 Z = true) (ws : List Jvm.Cond) (ob : Addr) (h0 : Heap) (n0 : Nat) (Z0 : n0 ≤ h0.size)  :
    MetFree l (⟨"java/lang/Record", "<init>", "()V"⟩ : MethodName) (head1 (Jvm.Cond.code (⟨"java/lang/Record", "<init>", "()V"⟩ : MethodName) jdk_30_method_1_code 1 none :: ws) ({ frames := 1, cells := 0, slots := 0, locals := 12 } : Room)) (fun a U => a = #[(.ref ob)] ∧ Z.Warmed39 U.vm ∧ U.heap = h0) (fun _ _ _ _ _ => True) (fun _ U o U' => ∃ v L, o = .returned v ∧ Q3 Z ob h0 n0 v U'.heap L ∧ FrameEnd U o U' L ({ frames := 1, cells := 0, slots := 0, locals := 12 } : Room).cells ({ frames := 1, cells := 0, slots := 0, locals := 12 } : Room).slots) := by
  refine MetFree.of_bodySF (plainFor_of_name pn_3) hisR ?_
  intro p e s m args below meth c s₁ Bd hml0 hP hK
  obtain ⟨rfl, hZ, hh⟩ := hP
  have hx := Bd.exec
  have hby := Bd.bytes
  have hml : c.maxLocals = 1 := hml0
  have hown : s.vm.findClass "java/lang/Record" = some m.cls := findClass_of_methodNamed Bd.named
  have hnm := (name_of_methodNamed Bd.named Bd.method).1
  have X0 : Stand p l e ({ frames := 1, cells := 0, slots := 0, locals := 12 } : Room) s m #[(.ref ob)] below meth c s₁ [] 0 0 := Stand.of_body Bd
  have e0 : s₁.heap = h0 := by rw [← hh, Bd.state]; rfl
  have N0 := Fr.nil n0
  have K0 : Keep h0 h0 [] := Keep.refl h0 _
  have pre0 : ∀ tq, Steps p.tables e below (s₁.setTop (mkF m 0 #[.val (.ref ob)] [])) tq → Steps p.tables e below (s₁.setTop (entryFrame m #[(.ref ob)] 1)) tq := fun tq kq => castTop (ef_3 m ob) kq
  obtain ⟨T1, X1, e1, st1⟩ := initO X0 hx hZ hown (hw _ (List.mem_of_getElem? (i := 24) rfl)) (hw _ (List.mem_of_getElem? (i := 25) rfl)) (hw _ (List.mem_of_getElem? (i := 26) rfl)) e0 (g := (mkF m 1 #[.val (.ref ob)] [(.ref ob)])) rfl (by rw [hml]; rfl) rfl (hb hby d3_1) (by decide) (W := 0) (by show 2 * 0 + _ ≤ _; exact Nat.le_of_eq rfl) (by decide)
  obtain ⟨fs, hr, hrun, hended, hW, hsame⟩ := X1.leave (v := none) (fun _ => rfl)
  refine ⟨_, _, pre0 _ ?_, hrun, hended, _, _, rfl, ?_, ⟨_, rfl⟩, hW, hsame.mono (by decide) (by decide)⟩
  · skip
    show Steps p.tables e below (s₁.setTop (mkF m 0 #[.val (.ref ob)] [])) _
    refine XS.aloadN X0.here hx rfl (hb hby d3_0) rfl rfl ?_
    show Steps p.tables e below (s₁.setTop (mkF m 1 #[.val (.ref ob)] [(.ref ob)])) _
    refine st1 _ ?_
    show Steps p.tables e below (T1.setTop (mkF m 4 #[.val (.ref ob)] [])) _
    exact X1.returnOut hx Bd.returns (hb hby d3_4) hr
  · show Q3 Z ob h0 n0 _ T1.heap _
    rw [e1]
    exact ⟨rfl, N0, rfl⟩
theorem d2_0 : decode prog_52_method_1_code 0 = .ok (.aload_n 0, 1) := by decide +kernel
theorem d2_1 : decode prog_52_method_1_code 1 = .ok (.invokespecial 1, 3) := by decide +kernel
theorem d2_4 : decode prog_52_method_1_code 4 = .ok (.aload_n 0, 1) := by decide +kernel
theorem d2_5 : decode prog_52_method_1_code 5 = .ok (.aload_n 1, 1) := by decide +kernel
theorem d2_6 : decode prog_52_method_1_code 6 = .ok (.putfield 7, 3) := by decide +kernel
theorem d2_9 : decode prog_52_method_1_code 9 = .ok (.aload_n 0, 1) := by decide +kernel
theorem d2_10 : decode prog_52_method_1_code 10 = .ok (.aload_n 2, 1) := by decide +kernel
theorem d2_11 : decode prog_52_method_1_code 11 = .ok (.putfield 13, 3) := by decide +kernel
theorem d2_14 : decode prog_52_method_1_code 14 = .ok (.aload_n 0, 1) := by decide +kernel
theorem d2_15 : decode prog_52_method_1_code 15 = .ok (.aload_n 3, 1) := by decide +kernel
theorem d2_16 : decode prog_52_method_1_code 16 = .ok (.putfield 16, 3) := by decide +kernel
theorem d2_19 : decode prog_52_method_1_code 19 = .ok (.aload_n 0, 1) := by decide +kernel
theorem d2_20 : decode prog_52_method_1_code 20 = .ok (.aload 4, 2) := by decide +kernel
theorem d2_22 : decode prog_52_method_1_code 22 = .ok (.putfield 19, 3) := by decide +kernel
theorem d2_25 : decode prog_52_method_1_code 25 = .ok (.aload_n 0, 1) := by decide +kernel
theorem d2_26 : decode prog_52_method_1_code 26 = .ok (.iload 5, 2) := by decide +kernel
theorem d2_28 : decode prog_52_method_1_code 28 = .ok (.putfield 23, 3) := by decide +kernel
theorem d2_31 : decode prog_52_method_1_code 31 = .ok (.aload_n 0, 1) := by decide +kernel
theorem d2_32 : decode prog_52_method_1_code 32 = .ok (.iload 6, 2) := by decide +kernel
theorem d2_34 : decode prog_52_method_1_code 34 = .ok (.putfield 27, 3) := by decide +kernel
theorem d2_37 : decode prog_52_method_1_code 37 = .ok (.return_, 1) := by decide +kernel
theorem pn_2 : plainName "com/example/marcotte/marcotte/XmlNames$Name" = true := by first | (simp [plainName, overriddenIn]; done) | decide +kernel
theorem pd_0 : parseMethodDescriptor "()V" = some ⟨[], none⟩ := by decide +kernel
theorem ef_2 (m : MethodId) (x0 : Addr) (x1 : Addr) (x3 : Addr) (x4 : Addr) (x5 : Int32) (x6 : Int32) : entryFrame m #[(.ref x0), (.ref x1), .null, (.ref x3), (.ref x4), (.int x5), (.int x6)] 7 = mkF m 0 #[.val (.ref x0), .val (.ref x1), .val .null, .val (.ref x3), .val (.ref x4), .val (.int x5), .val (.int x6)] [] := by first | (simp [entryFrame, mkF, argsToLocals, Value.category]; done) | rfl
def Q2 (Z : State) (ob : Addr) (r1 : Addr) (r2 : Addr) (nr : Addr) (hs : Int32) (dn : Int32) (h0 : Heap) (n0 : Nat) (v : Option Value) (h : Heap) (L : List Loc) : Prop := v = none ∧ Fr n0 L ∧ Keep h0 h [ob] ∧ Exa Z h ob "com/example/marcotte/marcotte/XmlNames$Name" ∧ Fld Z h ob "com/example/marcotte/marcotte/XmlNames$Name" "bytes" "[B" (.ref nr)
set_option maxRecDepth 65536 in
set_option maxHeartbeats 40000000 in
theorem rm2 (l : Launch) (Z : State) (a0 : Array Value) (hw : ∀ d ∈ tables_1, d.before a0 Z = true) (ws : List Jvm.Cond) (ob : Addr) (r1 : Addr) (r2 : Addr) (nr : Addr) (hs : Int32) (dn : Int32) (h0 : Heap) (n0 : Nat) (Z0 : n0 ≤ h0.size) (I0 : Fld Z h0 ob "com/example/marcotte/marcotte/XmlNames$Name" "qualified" "Ljava/lang/String;" .null) (I1 : Fld Z h0 ob "com/example/marcotte/marcotte/XmlNames$Name" "prefix" "Ljava/lang/String;" .null) (I2 : Fld Z h0 ob "com/example/marcotte/marcotte/XmlNames$Name" "local" "Ljava/lang/String;" .null) (I3 : Fld Z h0 ob "com/example/marcotte/marcotte/XmlNames$Name" "bytes" "[B" .null) (I4 : Fld Z h0 ob "com/example/marcotte/marcotte/XmlNames$Name" "hash" "I" (.int (0 : Int32))) (I5 : Fld Z h0 ob "com/example/marcotte/marcotte/XmlNames$Name" "declaresNamespace" "Z" (.int (0 : Int32))) (I6 : Exa Z h0 ob "com/example/marcotte/marcotte/XmlNames$Name") (g_ob : n0 ≤ ob) :
    MetFree l (⟨"com/example/marcotte/marcotte/XmlNames$Name", "<init>", "(Ljava/lang/String;Ljava/lang/String;Ljava/lang/String;[BIZ)V"⟩ : MethodName) (head1 (Jvm.Cond.code (⟨"com/example/marcotte/marcotte/XmlNames$Name", "<init>", "(Ljava/lang/String;Ljava/lang/String;Ljava/lang/String;[BIZ)V"⟩ : MethodName) prog_52_method_1_code 7 none :: ws) ({ frames := 2, cells := 0, slots := 0, locals := 24 } : Room)) (fun a U => a = #[(.ref ob), (.ref r1), .null, (.ref r2), (.ref nr), (.int hs), (.int dn)] ∧ Z.Warmed39 U.vm ∧ U.heap = h0) (fun _ _ _ _ _ => True) (fun _ U o U' => ∃ v L, o = .returned v ∧ Q2 Z ob r1 r2 nr hs dn h0 n0 v U'.heap L ∧ FrameEnd U o U' L ({ frames := 2, cells := 0, slots := 0, locals := 24 } : Room).cells ({ frames := 2, cells := 0, slots := 0, locals := 24 } : Room).slots) := by
  refine MetFree.of_bodySF (plainFor_of_name pn_2) hisR ?_
  intro p e s m args below meth c s₁ Bd hml0 hP hK
  obtain ⟨rfl, hZ, hh⟩ := hP
  have hx := Bd.exec
  have hby := Bd.bytes
  have hml : c.maxLocals = 7 := hml0
  have hown : s.vm.findClass "com/example/marcotte/marcotte/XmlNames$Name" = some m.cls := findClass_of_methodNamed Bd.named
  have hnm := (name_of_methodNamed Bd.named Bd.method).1
  have X0 : Stand p l e ({ frames := 2, cells := 0, slots := 0, locals := 24 } : Room) s m #[(.ref ob), (.ref r1), .null, (.ref r2), (.ref nr), (.int hs), (.int dn)] below meth c s₁ [] 0 0 := Stand.of_body Bd
  have e0 : s₁.heap = h0 := by rw [← hh, Bd.state]; rfl
  have N0 := Fr.nil n0
  have K0 : Keep h0 h0 [ob] := Keep.refl h0 _
  have pre0 : ∀ tq, Steps p.tables e below (s₁.setTop (mkF m 0 #[.val (.ref ob), .val (.ref r1), .val .null, .val (.ref r2), .val (.ref nr), .val (.int hs), .val (.int dn)] [])) tq → Steps p.tables e below (s₁.setTop (entryFrame m #[(.ref ob), (.ref r1), .null, (.ref r2), (.ref nr), (.int hs), (.int dn)] 7)) tq := fun tq kq => castTop (ef_2 m ob r1 r2 nr hs dn) kq
  obtain ⟨_, _, ⟨T1, L1, k1, n1⟩, -, X1, ⟨Lc1, hQ1, l1, y1, z1⟩, st1⟩ := X0.specialBack hx (y := (⟨"java/lang/Record", "<init>", "()V"⟩ : MethodName)) rfl hown (mvT hZ (hw _ (List.mem_of_getElem? (i := 19) rfl))) (mvT hZ (hw _ (List.mem_of_getElem? (i := 20) rfl))) (mvT hZ (hw _ (List.mem_of_getElem? (i := 23) rfl))) (by decide) (backOf (W := 0) (rm3 l Z a0 hw [] ob h0 n0 Z0 ) hZ (hw _ (List.mem_of_getElem? (i := 23) rfl)) (hw _ (List.mem_of_getElem? (i := 22) rfl)) (by decide) (by decide)) (g := (mkF m 1 #[.val (.ref ob), .val (.ref r1), .val .null, .val (.ref r2), .val (.ref nr), .val (.int hs), .val (.int dn)] [(.ref ob)])) rfl (by rw [hml]; rfl) (Steps.refl _) (a := ob) (argsL := []) (rest := []) (lenOf pd_0 rfl) rfl (by show 2 * 0 + _ ≤ _; exact Nat.le_of_eq rfl) (hb hby d2_1) (fun _ _ => ⟨rfl, e0, (by decide : 0 + 0 ≤ _), (by decide : 0 + 0 ≤ _)⟩)
  dsimp only [Pt.U, Pt.locs, Pt.cells, Pt.slots] at X1 l1 y1 z1 st1 hQ1
  subst l1 y1 z1
  obtain ⟨rfl, N1q, e1⟩ := hQ1
  have N1 := Fr.app N0 N1q
  obtain ⟨T2, hX2, X2, e2, W2, st2⟩ := putF X1 hx hZ hown (host := "") (Or.inl (hw _ (List.mem_of_getElem? (i := 27) rfl))) Via.refl e1 I0 I6 (Or.inr ⟨(hw _ (List.mem_of_getElem? (i := 28) rfl)), rfl, hnm⟩) (hw _ (List.mem_of_getElem? (i := 7) rfl)) (ty := (.object "java/lang/String")) (by decide) rfl rfl (g := (mkF m 6 #[.val (.ref ob), .val (.ref r1), .val .null, .val (.ref r2), .val (.ref nr), .val (.int hs), .val (.int dn)] [(.ref r1), (.ref ob)])) rfl rfl (hb hby d2_6)
  have N2 := Fr.snoc X2 N1 g_ob
  have F3 : Fld Z hX2 ob "com/example/marcotte/marcotte/XmlNames$Name" "qualified" "Ljava/lang/String;" (.ref r1) := I0.same W2
  have F4 : Fld Z hX2 ob "com/example/marcotte/marcotte/XmlNames$Name" "prefix" "Ljava/lang/String;" .null := I1.other W2 (Or.inr (slot_ne (Or.inr (hw _ (List.mem_of_getElem? (i := 30) rfl))) (Or.inr (hw _ (List.mem_of_getElem? (i := 28) rfl))) (by decide) (t := (.object "java/lang/String")) (t' := (.object "java/lang/String")) (by decide) (by decide)))
  have F5 : Fld Z hX2 ob "com/example/marcotte/marcotte/XmlNames$Name" "local" "Ljava/lang/String;" .null := I2.other W2 (Or.inr (slot_ne (Or.inr (hw _ (List.mem_of_getElem? (i := 32) rfl))) (Or.inr (hw _ (List.mem_of_getElem? (i := 28) rfl))) (by decide) (t := (.object "java/lang/String")) (t' := (.object "java/lang/String")) (by decide) (by decide)))
  have F6 : Fld Z hX2 ob "com/example/marcotte/marcotte/XmlNames$Name" "bytes" "[B" .null := I3.other W2 (Or.inr (slot_ne (Or.inr (hw _ (List.mem_of_getElem? (i := 34) rfl))) (Or.inr (hw _ (List.mem_of_getElem? (i := 28) rfl))) (by decide) (t := (.array .byte)) (t' := (.object "java/lang/String")) (by decide) (by decide)))
  have F7 : Fld Z hX2 ob "com/example/marcotte/marcotte/XmlNames$Name" "hash" "I" (.int (0 : Int32)) := I4.other W2 (Or.inr (slot_ne (Or.inr (hw _ (List.mem_of_getElem? (i := 36) rfl))) (Or.inr (hw _ (List.mem_of_getElem? (i := 28) rfl))) (by decide) (t := .int) (t' := (.object "java/lang/String")) (by decide) (by decide)))
  have F8 : Fld Z hX2 ob "com/example/marcotte/marcotte/XmlNames$Name" "declaresNamespace" "Z" (.int (0 : Int32)) := I5.other W2 (Or.inr (slot_ne (Or.inr (hw _ (List.mem_of_getElem? (i := 38) rfl))) (Or.inr (hw _ (List.mem_of_getElem? (i := 28) rfl))) (by decide) (t := .boolean) (t' := (.object "java/lang/String")) (by decide) (by decide)))
  have F9 : Exa Z hX2 ob "com/example/marcotte/marcotte/XmlNames$Name" := I6.wr W2
  have Z10 : n0 ≤ hX2.size := Nat.le_trans Z0 (Keep.of_wr W2).1
  have K11 : Keep h0 hX2 [ob] := K0.wr W2 (Or.inl (List.mem_of_getElem? (i := 0) rfl))
  obtain ⟨T12, hX12, X12, e12, W12, st12⟩ := putF X2 hx hZ hown (host := "") (Or.inl (hw _ (List.mem_of_getElem? (i := 29) rfl))) Via.refl e2 F4 F9 (Or.inr ⟨(hw _ (List.mem_of_getElem? (i := 30) rfl)), rfl, hnm⟩) (hw _ (List.mem_of_getElem? (i := 7) rfl)) (ty := (.object "java/lang/String")) (by decide) rfl rfl (g := (mkF m 11 #[.val (.ref ob), .val (.ref r1), .val .null, .val (.ref r2), .val (.ref nr), .val (.int hs), .val (.int dn)] [.null, (.ref ob)])) rfl rfl (hb hby d2_11)
  have N12 := Fr.snoc X12 N2 g_ob
  have F13 : Fld Z hX12 ob "com/example/marcotte/marcotte/XmlNames$Name" "prefix" "Ljava/lang/String;" .null := F4.same W12
  have F14 : Fld Z hX12 ob "com/example/marcotte/marcotte/XmlNames$Name" "local" "Ljava/lang/String;" .null := F5.other W12 (Or.inr (slot_ne (Or.inr (hw _ (List.mem_of_getElem? (i := 32) rfl))) (Or.inr (hw _ (List.mem_of_getElem? (i := 30) rfl))) (by decide) (t := (.object "java/lang/String")) (t' := (.object "java/lang/String")) (by decide) (by decide)))
  have F15 : Fld Z hX12 ob "com/example/marcotte/marcotte/XmlNames$Name" "bytes" "[B" .null := F6.other W12 (Or.inr (slot_ne (Or.inr (hw _ (List.mem_of_getElem? (i := 34) rfl))) (Or.inr (hw _ (List.mem_of_getElem? (i := 30) rfl))) (by decide) (t := (.array .byte)) (t' := (.object "java/lang/String")) (by decide) (by decide)))
  have F16 : Fld Z hX12 ob "com/example/marcotte/marcotte/XmlNames$Name" "hash" "I" (.int (0 : Int32)) := F7.other W12 (Or.inr (slot_ne (Or.inr (hw _ (List.mem_of_getElem? (i := 36) rfl))) (Or.inr (hw _ (List.mem_of_getElem? (i := 30) rfl))) (by decide) (t := .int) (t' := (.object "java/lang/String")) (by decide) (by decide)))
  have F17 : Fld Z hX12 ob "com/example/marcotte/marcotte/XmlNames$Name" "declaresNamespace" "Z" (.int (0 : Int32)) := F8.other W12 (Or.inr (slot_ne (Or.inr (hw _ (List.mem_of_getElem? (i := 38) rfl))) (Or.inr (hw _ (List.mem_of_getElem? (i := 30) rfl))) (by decide) (t := .boolean) (t' := (.object "java/lang/String")) (by decide) (by decide)))
  have F18 : Exa Z hX12 ob "com/example/marcotte/marcotte/XmlNames$Name" := F9.wr W12
  have F19 : Fld Z hX12 ob "com/example/marcotte/marcotte/XmlNames$Name" "qualified" "Ljava/lang/String;" (.ref r1) := F3.other W12 (Or.inr (slot_ne (Or.inr (hw _ (List.mem_of_getElem? (i := 28) rfl))) (Or.inr (hw _ (List.mem_of_getElem? (i := 30) rfl))) (by decide) (t := (.object "java/lang/String")) (t' := (.object "java/lang/String")) (by decide) (by decide)))
  have Z20 : n0 ≤ hX12.size := Nat.le_trans Z10 (Keep.of_wr W12).1
  have K21 : Keep h0 hX12 [ob] := K11.wr W12 (Or.inl (List.mem_of_getElem? (i := 0) rfl))
  obtain ⟨T22, hX22, X22, e22, W22, st22⟩ := putF X12 hx hZ hown (host := "") (Or.inl (hw _ (List.mem_of_getElem? (i := 31) rfl))) Via.refl e12 F14 F18 (Or.inr ⟨(hw _ (List.mem_of_getElem? (i := 32) rfl)), rfl, hnm⟩) (hw _ (List.mem_of_getElem? (i := 7) rfl)) (ty := (.object "java/lang/String")) (by decide) rfl rfl (g := (mkF m 16 #[.val (.ref ob), .val (.ref r1), .val .null, .val (.ref r2), .val (.ref nr), .val (.int hs), .val (.int dn)] [(.ref r2), (.ref ob)])) rfl rfl (hb hby d2_16)
  have N22 := Fr.snoc X22 N12 g_ob
  have F23 : Fld Z hX22 ob "com/example/marcotte/marcotte/XmlNames$Name" "local" "Ljava/lang/String;" (.ref r2) := F14.same W22
  have F24 : Fld Z hX22 ob "com/example/marcotte/marcotte/XmlNames$Name" "bytes" "[B" .null := F15.other W22 (Or.inr (slot_ne (Or.inr (hw _ (List.mem_of_getElem? (i := 34) rfl))) (Or.inr (hw _ (List.mem_of_getElem? (i := 32) rfl))) (by decide) (t := (.array .byte)) (t' := (.object "java/lang/String")) (by decide) (by decide)))
  have F25 : Fld Z hX22 ob "com/example/marcotte/marcotte/XmlNames$Name" "hash" "I" (.int (0 : Int32)) := F16.other W22 (Or.inr (slot_ne (Or.inr (hw _ (List.mem_of_getElem? (i := 36) rfl))) (Or.inr (hw _ (List.mem_of_getElem? (i := 32) rfl))) (by decide) (t := .int) (t' := (.object "java/lang/String")) (by decide) (by decide)))
  have F26 : Fld Z hX22 ob "com/example/marcotte/marcotte/XmlNames$Name" "declaresNamespace" "Z" (.int (0 : Int32)) := F17.other W22 (Or.inr (slot_ne (Or.inr (hw _ (List.mem_of_getElem? (i := 38) rfl))) (Or.inr (hw _ (List.mem_of_getElem? (i := 32) rfl))) (by decide) (t := .boolean) (t' := (.object "java/lang/String")) (by decide) (by decide)))
  have F27 : Exa Z hX22 ob "com/example/marcotte/marcotte/XmlNames$Name" := F18.wr W22
  have F28 : Fld Z hX22 ob "com/example/marcotte/marcotte/XmlNames$Name" "qualified" "Ljava/lang/String;" (.ref r1) := F19.other W22 (Or.inr (slot_ne (Or.inr (hw _ (List.mem_of_getElem? (i := 28) rfl))) (Or.inr (hw _ (List.mem_of_getElem? (i := 32) rfl))) (by decide) (t := (.object "java/lang/String")) (t' := (.object "java/lang/String")) (by decide) (by decide)))
  have F29 : Fld Z hX22 ob "com/example/marcotte/marcotte/XmlNames$Name" "prefix" "Ljava/lang/String;" .null := F13.other W22 (Or.inr (slot_ne (Or.inr (hw _ (List.mem_of_getElem? (i := 30) rfl))) (Or.inr (hw _ (List.mem_of_getElem? (i := 32) rfl))) (by decide) (t := (.object "java/lang/String")) (t' := (.object "java/lang/String")) (by decide) (by decide)))
  have Z30 : n0 ≤ hX22.size := Nat.le_trans Z20 (Keep.of_wr W22).1
  have K31 : Keep h0 hX22 [ob] := K21.wr W22 (Or.inl (List.mem_of_getElem? (i := 0) rfl))
  obtain ⟨T32, hX32, X32, e32, W32, st32⟩ := putF X22 hx hZ hown (host := "") (Or.inl (hw _ (List.mem_of_getElem? (i := 33) rfl))) Via.refl e22 F24 F27 (Or.inr ⟨(hw _ (List.mem_of_getElem? (i := 34) rfl)), rfl, hnm⟩) (hw _ (List.mem_of_getElem? (i := 7) rfl)) (ty := (.array .byte)) (by decide) rfl rfl (g := (mkF m 22 #[.val (.ref ob), .val (.ref r1), .val .null, .val (.ref r2), .val (.ref nr), .val (.int hs), .val (.int dn)] [(.ref nr), (.ref ob)])) rfl rfl (hb hby d2_22)
  have N32 := Fr.snoc X32 N22 g_ob
  have F33 : Fld Z hX32 ob "com/example/marcotte/marcotte/XmlNames$Name" "bytes" "[B" (.ref nr) := F24.same W32
  have F34 : Fld Z hX32 ob "com/example/marcotte/marcotte/XmlNames$Name" "hash" "I" (.int (0 : Int32)) := F25.other W32 (Or.inr (slot_ne (Or.inr (hw _ (List.mem_of_getElem? (i := 36) rfl))) (Or.inr (hw _ (List.mem_of_getElem? (i := 34) rfl))) (by decide) (t := .int) (t' := (.array .byte)) (by decide) (by decide)))
  have F35 : Fld Z hX32 ob "com/example/marcotte/marcotte/XmlNames$Name" "declaresNamespace" "Z" (.int (0 : Int32)) := F26.other W32 (Or.inr (slot_ne (Or.inr (hw _ (List.mem_of_getElem? (i := 38) rfl))) (Or.inr (hw _ (List.mem_of_getElem? (i := 34) rfl))) (by decide) (t := .boolean) (t' := (.array .byte)) (by decide) (by decide)))
  have F36 : Exa Z hX32 ob "com/example/marcotte/marcotte/XmlNames$Name" := F27.wr W32
  have F37 : Fld Z hX32 ob "com/example/marcotte/marcotte/XmlNames$Name" "qualified" "Ljava/lang/String;" (.ref r1) := F28.other W32 (Or.inr (slot_ne (Or.inr (hw _ (List.mem_of_getElem? (i := 28) rfl))) (Or.inr (hw _ (List.mem_of_getElem? (i := 34) rfl))) (by decide) (t := (.object "java/lang/String")) (t' := (.array .byte)) (by decide) (by decide)))
  have F38 : Fld Z hX32 ob "com/example/marcotte/marcotte/XmlNames$Name" "prefix" "Ljava/lang/String;" .null := F29.other W32 (Or.inr (slot_ne (Or.inr (hw _ (List.mem_of_getElem? (i := 30) rfl))) (Or.inr (hw _ (List.mem_of_getElem? (i := 34) rfl))) (by decide) (t := (.object "java/lang/String")) (t' := (.array .byte)) (by decide) (by decide)))
  have F39 : Fld Z hX32 ob "com/example/marcotte/marcotte/XmlNames$Name" "local" "Ljava/lang/String;" (.ref r2) := F23.other W32 (Or.inr (slot_ne (Or.inr (hw _ (List.mem_of_getElem? (i := 32) rfl))) (Or.inr (hw _ (List.mem_of_getElem? (i := 34) rfl))) (by decide) (t := (.object "java/lang/String")) (t' := (.array .byte)) (by decide) (by decide)))
  have Z40 : n0 ≤ hX32.size := Nat.le_trans Z30 (Keep.of_wr W32).1
  have K41 : Keep h0 hX32 [ob] := K31.wr W32 (Or.inl (List.mem_of_getElem? (i := 0) rfl))
  obtain ⟨T42, hX42, X42, e42, W42, st42⟩ := putF X32 hx hZ hown (host := "") (Or.inl (hw _ (List.mem_of_getElem? (i := 35) rfl))) Via.refl e32 F34 F36 (Or.inr ⟨(hw _ (List.mem_of_getElem? (i := 36) rfl)), rfl, hnm⟩) (hw _ (List.mem_of_getElem? (i := 7) rfl)) (ty := .int) (by decide) rfl rfl (g := (mkF m 28 #[.val (.ref ob), .val (.ref r1), .val .null, .val (.ref r2), .val (.ref nr), .val (.int hs), .val (.int dn)] [(.int hs), (.ref ob)])) rfl rfl (hb hby d2_28)
  have N42 := Fr.snoc X42 N32 g_ob
  have F43 : Fld Z hX42 ob "com/example/marcotte/marcotte/XmlNames$Name" "hash" "I" (.int hs) := F34.same W42
  have F44 : Fld Z hX42 ob "com/example/marcotte/marcotte/XmlNames$Name" "declaresNamespace" "Z" (.int (0 : Int32)) := F35.other W42 (Or.inr (slot_ne (Or.inr (hw _ (List.mem_of_getElem? (i := 38) rfl))) (Or.inr (hw _ (List.mem_of_getElem? (i := 36) rfl))) (by decide) (t := .boolean) (t' := .int) (by decide) (by decide)))
  have F45 : Exa Z hX42 ob "com/example/marcotte/marcotte/XmlNames$Name" := F36.wr W42
  have F46 : Fld Z hX42 ob "com/example/marcotte/marcotte/XmlNames$Name" "qualified" "Ljava/lang/String;" (.ref r1) := F37.other W42 (Or.inr (slot_ne (Or.inr (hw _ (List.mem_of_getElem? (i := 28) rfl))) (Or.inr (hw _ (List.mem_of_getElem? (i := 36) rfl))) (by decide) (t := (.object "java/lang/String")) (t' := .int) (by decide) (by decide)))
  have F47 : Fld Z hX42 ob "com/example/marcotte/marcotte/XmlNames$Name" "prefix" "Ljava/lang/String;" .null := F38.other W42 (Or.inr (slot_ne (Or.inr (hw _ (List.mem_of_getElem? (i := 30) rfl))) (Or.inr (hw _ (List.mem_of_getElem? (i := 36) rfl))) (by decide) (t := (.object "java/lang/String")) (t' := .int) (by decide) (by decide)))
  have F48 : Fld Z hX42 ob "com/example/marcotte/marcotte/XmlNames$Name" "local" "Ljava/lang/String;" (.ref r2) := F39.other W42 (Or.inr (slot_ne (Or.inr (hw _ (List.mem_of_getElem? (i := 32) rfl))) (Or.inr (hw _ (List.mem_of_getElem? (i := 36) rfl))) (by decide) (t := (.object "java/lang/String")) (t' := .int) (by decide) (by decide)))
  have F49 : Fld Z hX42 ob "com/example/marcotte/marcotte/XmlNames$Name" "bytes" "[B" (.ref nr) := F33.other W42 (Or.inr (slot_ne (Or.inr (hw _ (List.mem_of_getElem? (i := 34) rfl))) (Or.inr (hw _ (List.mem_of_getElem? (i := 36) rfl))) (by decide) (t := (.array .byte)) (t' := .int) (by decide) (by decide)))
  have Z50 : n0 ≤ hX42.size := Nat.le_trans Z40 (Keep.of_wr W42).1
  have K51 : Keep h0 hX42 [ob] := K41.wr W42 (Or.inl (List.mem_of_getElem? (i := 0) rfl))
  obtain ⟨T52, hX52, X52, e52, W52, st52⟩ := putFN X42 hx hZ hown (hw _ (List.mem_of_getElem? (i := 37) rfl)) Via.refl e42 F44 F45 (Or.inr ⟨(hw _ (List.mem_of_getElem? (i := 38) rfl)), rfl, hnm⟩) (hw _ (List.mem_of_getElem? (i := 7) rfl)) (ty := .boolean) (v' := (.int (nar .boolean dn))) (by decide) rfl (fits_nar_bool _) (g := (mkF m 34 #[.val (.ref ob), .val (.ref r1), .val .null, .val (.ref r2), .val (.ref nr), .val (.int hs), .val (.int dn)] [(.int dn), (.ref ob)])) rfl rfl (hb hby d2_34)
  have N52 := Fr.snoc X52 N42 g_ob
  have F53 : Fld Z hX52 ob "com/example/marcotte/marcotte/XmlNames$Name" "declaresNamespace" "Z" (.int (nar .boolean dn)) := F44.same W52
  have F54 : Exa Z hX52 ob "com/example/marcotte/marcotte/XmlNames$Name" := F45.wr W52
  have F55 : Fld Z hX52 ob "com/example/marcotte/marcotte/XmlNames$Name" "qualified" "Ljava/lang/String;" (.ref r1) := F46.other W52 (Or.inr (slot_ne (Or.inr (hw _ (List.mem_of_getElem? (i := 28) rfl))) (Or.inr (hw _ (List.mem_of_getElem? (i := 38) rfl))) (by decide) (t := (.object "java/lang/String")) (t' := .boolean) (by decide) (by decide)))
  have F56 : Fld Z hX52 ob "com/example/marcotte/marcotte/XmlNames$Name" "prefix" "Ljava/lang/String;" .null := F47.other W52 (Or.inr (slot_ne (Or.inr (hw _ (List.mem_of_getElem? (i := 30) rfl))) (Or.inr (hw _ (List.mem_of_getElem? (i := 38) rfl))) (by decide) (t := (.object "java/lang/String")) (t' := .boolean) (by decide) (by decide)))
  have F57 : Fld Z hX52 ob "com/example/marcotte/marcotte/XmlNames$Name" "local" "Ljava/lang/String;" (.ref r2) := F48.other W52 (Or.inr (slot_ne (Or.inr (hw _ (List.mem_of_getElem? (i := 32) rfl))) (Or.inr (hw _ (List.mem_of_getElem? (i := 38) rfl))) (by decide) (t := (.object "java/lang/String")) (t' := .boolean) (by decide) (by decide)))
  have F58 : Fld Z hX52 ob "com/example/marcotte/marcotte/XmlNames$Name" "bytes" "[B" (.ref nr) := F49.other W52 (Or.inr (slot_ne (Or.inr (hw _ (List.mem_of_getElem? (i := 34) rfl))) (Or.inr (hw _ (List.mem_of_getElem? (i := 38) rfl))) (by decide) (t := (.array .byte)) (t' := .boolean) (by decide) (by decide)))
  have F59 : Fld Z hX52 ob "com/example/marcotte/marcotte/XmlNames$Name" "hash" "I" (.int hs) := F43.other W52 (Or.inr (slot_ne (Or.inr (hw _ (List.mem_of_getElem? (i := 36) rfl))) (Or.inr (hw _ (List.mem_of_getElem? (i := 38) rfl))) (by decide) (t := .int) (t' := .boolean) (by decide) (by decide)))
  have Z60 : n0 ≤ hX52.size := Nat.le_trans Z50 (Keep.of_wr W52).1
  have K61 : Keep h0 hX52 [ob] := K51.wr W52 (Or.inl (List.mem_of_getElem? (i := 0) rfl))
  obtain ⟨fs, hr, hrun, hended, hW, hsame⟩ := X52.leave (v := none) (fun _ => rfl)
  refine ⟨_, _, pre0 _ ?_, hrun, hended, _, _, rfl, ?_, ⟨_, rfl⟩, hW, hsame.mono (by decide) (by decide)⟩
  · skip
    show Steps p.tables e below (s₁.setTop (mkF m 0 #[.val (.ref ob), .val (.ref r1), .val .null, .val (.ref r2), .val (.ref nr), .val (.int hs), .val (.int dn)] [])) _
    refine XS.aloadN X0.here hx rfl (hb hby d2_0) rfl rfl ?_
    show Steps p.tables e below (s₁.setTop (mkF m 1 #[.val (.ref ob), .val (.ref r1), .val .null, .val (.ref r2), .val (.ref nr), .val (.int hs), .val (.int dn)] [(.ref ob)])) _
    refine st1.trans ?_
    show Steps p.tables e below (T1.setTop (mkF m 4 #[.val (.ref ob), .val (.ref r1), .val .null, .val (.ref r2), .val (.ref nr), .val (.int hs), .val (.int dn)] [])) _
    refine XS.aloadN X1.here hx rfl (hb hby d2_4) rfl rfl ?_
    show Steps p.tables e below (T1.setTop (mkF m 5 #[.val (.ref ob), .val (.ref r1), .val .null, .val (.ref r2), .val (.ref nr), .val (.int hs), .val (.int dn)] [(.ref ob)])) _
    refine XS.aloadN X1.here hx rfl (hb hby d2_5) rfl rfl ?_
    show Steps p.tables e below (T1.setTop (mkF m 6 #[.val (.ref ob), .val (.ref r1), .val .null, .val (.ref r2), .val (.ref nr), .val (.int hs), .val (.int dn)] [(.ref r1), (.ref ob)])) _
    refine st2 _ ?_
    show Steps p.tables e below (T2.setTop (mkF m 9 #[.val (.ref ob), .val (.ref r1), .val .null, .val (.ref r2), .val (.ref nr), .val (.int hs), .val (.int dn)] [])) _
    refine XS.aloadN X2.here hx rfl (hb hby d2_9) rfl rfl ?_
    show Steps p.tables e below (T2.setTop (mkF m 10 #[.val (.ref ob), .val (.ref r1), .val .null, .val (.ref r2), .val (.ref nr), .val (.int hs), .val (.int dn)] [(.ref ob)])) _
    refine XS.aloadN X2.here hx rfl (hb hby d2_10) rfl rfl ?_
    show Steps p.tables e below (T2.setTop (mkF m 11 #[.val (.ref ob), .val (.ref r1), .val .null, .val (.ref r2), .val (.ref nr), .val (.int hs), .val (.int dn)] [.null, (.ref ob)])) _
    refine st12 _ ?_
    show Steps p.tables e below (T12.setTop (mkF m 14 #[.val (.ref ob), .val (.ref r1), .val .null, .val (.ref r2), .val (.ref nr), .val (.int hs), .val (.int dn)] [])) _
    refine XS.aloadN X12.here hx rfl (hb hby d2_14) rfl rfl ?_
    show Steps p.tables e below (T12.setTop (mkF m 15 #[.val (.ref ob), .val (.ref r1), .val .null, .val (.ref r2), .val (.ref nr), .val (.int hs), .val (.int dn)] [(.ref ob)])) _
    refine XS.aloadN X12.here hx rfl (hb hby d2_15) rfl rfl ?_
    show Steps p.tables e below (T12.setTop (mkF m 16 #[.val (.ref ob), .val (.ref r1), .val .null, .val (.ref r2), .val (.ref nr), .val (.int hs), .val (.int dn)] [(.ref r2), (.ref ob)])) _
    refine st22 _ ?_
    show Steps p.tables e below (T22.setTop (mkF m 19 #[.val (.ref ob), .val (.ref r1), .val .null, .val (.ref r2), .val (.ref nr), .val (.int hs), .val (.int dn)] [])) _
    refine XS.aloadN X22.here hx rfl (hb hby d2_19) rfl rfl ?_
    show Steps p.tables e below (T22.setTop (mkF m 20 #[.val (.ref ob), .val (.ref r1), .val .null, .val (.ref r2), .val (.ref nr), .val (.int hs), .val (.int dn)] [(.ref ob)])) _
    refine XS.aload X22.here hx rfl (hb hby d2_20) rfl rfl ?_
    show Steps p.tables e below (T22.setTop (mkF m 22 #[.val (.ref ob), .val (.ref r1), .val .null, .val (.ref r2), .val (.ref nr), .val (.int hs), .val (.int dn)] [(.ref nr), (.ref ob)])) _
    refine st32 _ ?_
    show Steps p.tables e below (T32.setTop (mkF m 25 #[.val (.ref ob), .val (.ref r1), .val .null, .val (.ref r2), .val (.ref nr), .val (.int hs), .val (.int dn)] [])) _
    refine XS.aloadN X32.here hx rfl (hb hby d2_25) rfl rfl ?_
    show Steps p.tables e below (T32.setTop (mkF m 26 #[.val (.ref ob), .val (.ref r1), .val .null, .val (.ref r2), .val (.ref nr), .val (.int hs), .val (.int dn)] [(.ref ob)])) _
    refine XS.iload X32.here hx rfl (hb hby d2_26) rfl ?_
    show Steps p.tables e below (T32.setTop (mkF m 28 #[.val (.ref ob), .val (.ref r1), .val .null, .val (.ref r2), .val (.ref nr), .val (.int hs), .val (.int dn)] [(.int hs), (.ref ob)])) _
    refine st42 _ ?_
    show Steps p.tables e below (T42.setTop (mkF m 31 #[.val (.ref ob), .val (.ref r1), .val .null, .val (.ref r2), .val (.ref nr), .val (.int hs), .val (.int dn)] [])) _
    refine XS.aloadN X42.here hx rfl (hb hby d2_31) rfl rfl ?_
    show Steps p.tables e below (T42.setTop (mkF m 32 #[.val (.ref ob), .val (.ref r1), .val .null, .val (.ref r2), .val (.ref nr), .val (.int hs), .val (.int dn)] [(.ref ob)])) _
    refine XS.iload X42.here hx rfl (hb hby d2_32) rfl ?_
    show Steps p.tables e below (T42.setTop (mkF m 34 #[.val (.ref ob), .val (.ref r1), .val .null, .val (.ref r2), .val (.ref nr), .val (.int hs), .val (.int dn)] [(.int dn), (.ref ob)])) _
    refine st52 _ ?_
    show Steps p.tables e below (T52.setTop (mkF m 37 #[.val (.ref ob), .val (.ref r1), .val .null, .val (.ref r2), .val (.ref nr), .val (.int hs), .val (.int dn)] [])) _
    exact X52.returnOut hx Bd.returns (hb hby d2_37) hr
  · show Q2 Z ob r1 r2 nr hs dn h0 n0 _ T52.heap _
    rw [e52]
    exact ⟨rfl, N52, K61, F54, F58⟩
theorem d5_0 : decode prog_52_method_2_code 0 = .ok (.iconst 0, 1) := by decide +kernel
theorem d5_1 : decode prog_52_method_2_code 1 = .ok (.istore_n 3, 1) := by decide +kernel
theorem d5_2 : decode prog_52_method_2_code 2 = .ok (.iload_n 3, 1) := by decide +kernel
theorem d5_3 : decode prog_52_method_2_code 3 = .ok (.aload_n 0, 1) := by decide +kernel
theorem d5_4 : decode prog_52_method_2_code 4 = .ok (.getfield 19, 3) := by decide +kernel
theorem d5_7 : decode prog_52_method_2_code 7 = .ok (.arraylength, 1) := by decide +kernel
theorem d5_8 : decode prog_52_method_2_code 8 = .ok (.if_icmp .ge 25, 3) := by decide +kernel
theorem d5_33 : decode prog_52_method_2_code 33 = .ok (.iconst 1, 1) := by decide +kernel
theorem d5_34 : decode prog_52_method_2_code 34 = .ok (.ireturn, 1) := by decide +kernel
theorem pn_5 : plainName "com/example/marcotte/marcotte/XmlNames$Name" = true := by first | (simp [plainName, overriddenIn]; done) | decide +kernel
theorem ef_5 (m : MethodId) (x0 : Addr) (x1 : Addr) (x2 : Int32) : entryFrame m #[(.ref x0), (.ref x1), (.int x2)] 4 = mkF m 0 #[.val (.ref x0), .val (.ref x1), .val (.int x2), .unset] [] := by first | (simp [entryFrame, mkF, argsToLocals, Value.category]; done) | rfl
def Q5 (Z : State) (ob : Addr) (br : Addr) (at_ : Int32) (nr : Addr) (ka : ClassId) (kb : ClassId) (y0 : Int32) (y1 : Int32) (y2 : Int32) (y3 : Int32) (y4 : Int32) (y5 : Int32) (y6 : Int32) (y7 : Int32) (h0 : Heap) (n0 : Nat) (v : Option Value) (h : Heap) (L : List Loc) : Prop := v = some (.int (1 : Int32)) ∧ Fr n0 L ∧ h = h0
set_option maxRecDepth 65536 in
set_option maxHeartbeats 40000000 in
theorem rm5 (l : Launch) (Z : State) (a0 : Array Value) (hw : ∀ d ∈ tables_1, d.before a0 Z = true) (ws : List Jvm.Cond) (ob : Addr) (br : Addr) (at_ : Int32) (nr : Addr) (ka : ClassId) (kb : ClassId) (y0 : Int32) (y1 : Int32) (y2 : Int32) (y3 : Int32) (y4 : Int32) (y5 : Int32) (y6 : Int32) (y7 : Int32) (h0 : Heap) (n0 : Nat) (Z0 : n0 ≤ h0.size) (I0 : Fld Z h0 ob "com/example/marcotte/marcotte/XmlNames$Name" "bytes" "[B" (.ref nr)) (I1 : Arv Z h0 nr ka .byte (0 : Int32) [] (.int (0 : Int32))) (I2 : Arv Z h0 br kb .byte (8 : Int32) [(.int y0), (.int y1), (.int y2), (.int y3), (.int y4), (.int y5), (.int y6), (.int y7)] (.int (0 : Int32))) (hat0 : 0 ≤ at_.toInt) (hat1 : at_.toInt + 0 ≤ 8) :
    MetFree l (⟨"com/example/marcotte/marcotte/XmlNames$Name", "writtenAt", "([BI)Z"⟩ : MethodName) (head1 (Jvm.Cond.code (⟨"com/example/marcotte/marcotte/XmlNames$Name", "writtenAt", "([BI)Z"⟩ : MethodName) prog_52_method_2_code 4 (some .boolean) :: ws) ({ frames := 0, cells := 0, slots := 0, locals := 0 } : Room)) (fun a U => a = #[(.ref ob), (.ref br), (.int at_)] ∧ Z.Warmed39 U.vm ∧ U.heap = h0) (fun _ _ _ _ _ => True) (fun _ U o U' => ∃ v L, o = .returned v ∧ Q5 Z ob br at_ nr ka kb y0 y1 y2 y3 y4 y5 y6 y7 h0 n0 v U'.heap L ∧ FrameEnd U o U' L ({ frames := 0, cells := 0, slots := 0, locals := 0 } : Room).cells ({ frames := 0, cells := 0, slots := 0, locals := 0 } : Room).slots) := by
  refine MetFree.of_bodySF (plainFor_of_name pn_5) hisR ?_
  intro p e s m args below meth c s₁ Bd hml0 hP hK
  obtain ⟨rfl, hZ, hh⟩ := hP
  have hx := Bd.exec
  have hby := Bd.bytes
  have hml : c.maxLocals = 4 := hml0
  have hown : s.vm.findClass "com/example/marcotte/marcotte/XmlNames$Name" = some m.cls := findClass_of_methodNamed Bd.named
  have hnm := (name_of_methodNamed Bd.named Bd.method).1
  have X0 : Stand p l e ({ frames := 0, cells := 0, slots := 0, locals := 0 } : Room) s m #[(.ref ob), (.ref br), (.int at_)] below meth c s₁ [] 0 0 := Stand.of_body Bd
  have e0 : s₁.heap = h0 := by rw [← hh, Bd.state]; rfl
  have N0 := Fr.nil n0
  have K0 : Keep h0 h0 [] := Keep.refl h0 _
  have pre0 : ∀ tq, Steps p.tables e below (s₁.setTop (mkF m 0 #[.val (.ref ob), .val (.ref br), .val (.int at_), .unset] [])) tq → Steps p.tables e below (s₁.setTop (entryFrame m #[(.ref ob), (.ref br), (.int at_)] 4)) tq := fun tq kq => castTop (ef_5 m ob br at_) kq
  obtain ⟨T1, X1, e1, st1⟩ := getF X0 hx hZ hown (host := "") (Or.inl (hw _ (List.mem_of_getElem? (i := 33) rfl))) Via.refl e0 I0 (g := (mkF m 4 #[.val (.ref ob), .val (.ref br), .val (.int at_), .val (.int (0 : Int32))] [(.ref ob), (.int (0 : Int32))])) rfl rfl (hb hby d5_4)
  obtain ⟨cl2, Ar2, q2, S2, M2, H2, G2⟩ := id I1
  obtain ⟨fs, hr, hrun, hended, hW, hsame⟩ := X1.leave (v := some (Value.int (1 : Int32))) (fun h => by rw [Bd.returns] at h; cases h)
  refine ⟨_, _, pre0 _ ?_, hrun, hended, _, _, rfl, ?_, ⟨_, rfl⟩, hW, hsame.mono (by decide) (by decide)⟩
  · skip
    show Steps p.tables e below (s₁.setTop (mkF m 0 #[.val (.ref ob), .val (.ref br), .val (.int at_), .unset] [])) _
    refine XS.iconst X0.here hx rfl (hb hby d5_0) ?_
    show Steps p.tables e below (s₁.setTop (mkF m 1 #[.val (.ref ob), .val (.ref br), .val (.int at_), .unset] [(.int (0 : Int32))])) _
    refine XS.istoreN X0.here hx rfl (hb hby d5_1) rfl (l' := #[.val (.ref ob), .val (.ref br), .val (.int at_), .val (.int (0 : Int32))]) rfl ?_
    show Steps p.tables e below (s₁.setTop (mkF m 2 #[.val (.ref ob), .val (.ref br), .val (.int at_), .val (.int (0 : Int32))] [])) _
    refine XS.iloadN X0.here hx rfl (hb hby d5_2) rfl ?_
    show Steps p.tables e below (s₁.setTop (mkF m 3 #[.val (.ref ob), .val (.ref br), .val (.int at_), .val (.int (0 : Int32))] [(.int (0 : Int32))])) _
    refine XS.aloadN X0.here hx rfl (hb hby d5_3) rfl rfl ?_
    show Steps p.tables e below (s₁.setTop (mkF m 4 #[.val (.ref ob), .val (.ref br), .val (.int at_), .val (.int (0 : Int32))] [(.ref ob), (.int (0 : Int32))])) _
    refine st1 _ ?_
    show Steps p.tables e below (T1.setTop (mkF m 7 #[.val (.ref ob), .val (.ref br), .val (.int at_), .val (.int (0 : Int32))] [(.ref nr), (.int (0 : Int32))])) _
    refine X1.arraylength hx (heq_of e1 Ar2.1) (State.isArrayOf_alike hZ.alike Ar2.2.1) (g := (mkF m 7 #[.val (.ref ob), .val (.ref br), .val (.int at_), .val (.int (0 : Int32))] [(.ref nr), (.int (0 : Int32))])) rfl rfl (hb hby d5_7) _ ?_
    rw [len_of S2 M2]
    show Steps p.tables e below (T1.setTop (mkF m 8 #[.val (.ref ob), .val (.ref br), .val (.int at_), .val (.int (0 : Int32))] [(.int (0 : Int32)), (.int (0 : Int32))])) _
    refine XS.icmpYes X1.here hx rfl (pc0 := 8) (pc' := 33) rfl (hb hby d5_8) rfl (flt (by decide)).2.1 (by decide) (by decide) ?_
    show Steps p.tables e below (T1.setTop (mkF m 33 #[.val (.ref ob), .val (.ref br), .val (.int at_), .val (.int (0 : Int32))] [])) _
    refine XS.iconst X1.here hx rfl (hb hby d5_33) ?_
    show Steps p.tables e below (T1.setTop (mkF m 34 #[.val (.ref ob), .val (.ref br), .val (.int at_), .val (.int (0 : Int32))] [(.int (1 : Int32))])) _
    exact retN X1 hx (t := .boolean) Bd.returns (by simp) (hb hby d5_34) hr
  · show Q5 Z ob br at_ nr ka kb y0 y1 y2 y3 y4 y5 y6 y7 h0 n0 _ T1.heap _
    rw [e1]
    exact ⟨rfl, N0, rfl⟩
theorem d5_11 : decode prog_52_method_2_code 11 = .ok (.aload_n 1, 1) := by decide +kernel
theorem d5_12 : decode prog_52_method_2_code 12 = .ok (.iload_n 2, 1) := by decide +kernel
theorem d5_13 : decode prog_52_method_2_code 13 = .ok (.iload_n 3, 1) := by decide +kernel
theorem d5_14 : decode prog_52_method_2_code 14 = .ok (.iadd, 1) := by decide +kernel
theorem d5_15 : decode prog_52_method_2_code 15 = .ok (.baload, 1) := by decide +kernel
theorem d5_16 : decode prog_52_method_2_code 16 = .ok (.aload_n 0, 1) := by decide +kernel
theorem d5_17 : decode prog_52_method_2_code 17 = .ok (.getfield 19, 3) := by decide +kernel
theorem d5_20 : decode prog_52_method_2_code 20 = .ok (.iload_n 3, 1) := by decide +kernel
theorem d5_21 : decode prog_52_method_2_code 21 = .ok (.baload, 1) := by decide +kernel
theorem d5_22 : decode prog_52_method_2_code 22 = .ok (.if_icmp .eq 5, 3) := by decide +kernel
theorem d5_25 : decode prog_52_method_2_code 25 = .ok (.iconst 0, 1) := by decide +kernel
theorem d5_26 : decode prog_52_method_2_code 26 = .ok (.ireturn, 1) := by decide +kernel
theorem d5_27 : decode prog_52_method_2_code 27 = .ok (.iinc 3 1, 3) := by decide +kernel
theorem d5_30 : decode prog_52_method_2_code 30 = .ok (.goto (-28), 3) := by decide +kernel
theorem ef_5_1 (m : MethodId) (x0 : Addr) (x1 : Addr) (x2 : Int32) : entryFrame m #[(.ref x0), (.ref x1), (.int x2)] 4 = mkF m 0 #[.val (.ref x0), .val (.ref x1), .val (.int x2), .unset] [] := by first | (simp [entryFrame, mkF, argsToLocals, Value.category]; done) | rfl
theorem own_inb_5_1_15 (at_ : Int32) (w0 : Int32) (u0 : Int32) (hat0 : 0 ≤ at_.toInt) (hat1 : at_.toInt + 1 ≤ 8) : ¬ (at_ + (0 : Int32)) < 0 ∧ (at_ + (0 : Int32)) < (8 : Int32) := own_in at_ _ 0 rfl (by decide) (by omega) (by omega)
theorem own_hit_5_1_15_0 (at_ : Int32) (w0 : Int32) (u0 : Int32) (hat0 : 0 ≤ at_.toInt) (hat1 : at_.toInt + 1 ≤ 8) : (at_ + (0 : Int32)) = at_ := Int32.add_zero _
def Q5_1 (Z : State) (ob : Addr) (br : Addr) (at_ : Int32) (nr : Addr) (ka : ClassId) (kb : ClassId) (vl : List Value) (w0 : Int32) (u0 : Int32) (h0 : Heap) (n0 : Nat) (v : Option Value) (h : Heap) (L : List Loc) : Prop := v = some (.int (if u0 = w0 then (1 : Int32) else (0 : Int32))) ∧ Fr n0 L ∧ h = h0
set_option maxRecDepth 65536 in
set_option maxHeartbeats 40000000 in
theorem rm5_1 (l : Launch) (Z : State) (a0 : Array Value) (hw : ∀ d ∈ tables_1, d.before a0 Z = true) (ws : List Jvm.Cond) (ob : Addr) (br : Addr) (at_ : Int32) (nr : Addr) (ka : ClassId) (kb : ClassId) (vl : List Value) (w0 : Int32) (u0 : Int32) (h0 : Heap) (n0 : Nat) (Z0 : n0 ≤ h0.size) (I0 : Fld Z h0 ob "com/example/marcotte/marcotte/XmlNames$Name" "bytes" "[B" (.ref nr)) (I1 : Arv Z h0 nr ka .byte (1 : Int32) [(.int w0)] (.int (0 : Int32))) (I2 : Arh Z h0 br kb .byte (8 : Int32) [(at_, (.int u0))] vl (.int (0 : Int32))) (hat0 : 0 ≤ at_.toInt) (hat1 : at_.toInt + 1 ≤ 8) :
    MetFree l (⟨"com/example/marcotte/marcotte/XmlNames$Name", "writtenAt", "([BI)Z"⟩ : MethodName) (head1 (Jvm.Cond.code (⟨"com/example/marcotte/marcotte/XmlNames$Name", "writtenAt", "([BI)Z"⟩ : MethodName) prog_52_method_2_code 4 (some .boolean) :: ws) ({ frames := 0, cells := 0, slots := 0, locals := 0 } : Room)) (fun a U => a = #[(.ref ob), (.ref br), (.int at_)] ∧ Z.Warmed39 U.vm ∧ U.heap = h0) (fun _ _ _ _ _ => True) (fun _ U o U' => ∃ v L, o = .returned v ∧ Q5_1 Z ob br at_ nr ka kb vl w0 u0 h0 n0 v U'.heap L ∧ FrameEnd U o U' L ({ frames := 0, cells := 0, slots := 0, locals := 0 } : Room).cells ({ frames := 0, cells := 0, slots := 0, locals := 0 } : Room).slots) := by
  refine MetFree.of_bodySF (plainFor_of_name pn_5) hisR ?_
  intro p e s m args below meth c s₁ Bd hml0 hP hK
  obtain ⟨rfl, hZ, hh⟩ := hP
  have hx := Bd.exec
  have hby := Bd.bytes
  have hml : c.maxLocals = 4 := hml0
  have hown : s.vm.findClass "com/example/marcotte/marcotte/XmlNames$Name" = some m.cls := findClass_of_methodNamed Bd.named
  have hnm := (name_of_methodNamed Bd.named Bd.method).1
  have X0 : Stand p l e ({ frames := 0, cells := 0, slots := 0, locals := 0 } : Room) s m #[(.ref ob), (.ref br), (.int at_)] below meth c s₁ [] 0 0 := Stand.of_body Bd
  have e0 : s₁.heap = h0 := by rw [← hh, Bd.state]; rfl
  have N0 := Fr.nil n0
  have K0 : Keep h0 h0 [] := Keep.refl h0 _
  have pre0 : ∀ tq, Steps p.tables e below (s₁.setTop (mkF m 0 #[.val (.ref ob), .val (.ref br), .val (.int at_), .unset] [])) tq → Steps p.tables e below (s₁.setTop (entryFrame m #[(.ref ob), (.ref br), (.int at_)] 4)) tq := fun tq kq => castTop (ef_5_1 m ob br at_) kq
  obtain ⟨T1, X1, e1, st1⟩ := getF X0 hx hZ hown (host := "") (Or.inl (hw _ (List.mem_of_getElem? (i := 33) rfl))) Via.refl e0 I0 (g := (mkF m 4 #[.val (.ref ob), .val (.ref br), .val (.int at_), .val (.int (0 : Int32))] [(.ref ob), (.int (0 : Int32))])) rfl rfl (hb hby d5_4)
  obtain ⟨cl2, Ar2, q2, S2, M2, H2, G2⟩ := id I1
  obtain ⟨cl3, Ar3, q3, S3, M3, H3, G3⟩ := id I2
  have hin3 : ¬ ((at_ + (0 : Int32)) < 0 ∨ cl3.slots.size ≤ ((at_ + (0 : Int32))).toNatClampNeg) := inb_of S3 (own_inb_5_1_15 at_ w0 u0 hat0 hat1)
  have hh4 : (at_ + (0 : Int32)) = at_ := (own_hit_5_1_15_0 at_ w0 u0 hat0 hat1)
  have hat3 : cl3.slots[((at_ + (0 : Int32))).toNatClampNeg]? = some (.int u0) := atH H3 hin3 (getH_hit (fun y => hin3 (Or.inl y)) hh4)
  obtain ⟨T5, X5, e5, st5⟩ := getF X1 hx hZ hown (host := "") (Or.inl (hw _ (List.mem_of_getElem? (i := 33) rfl))) Via.refl e1 I0 (g := (mkF m 17 #[.val (.ref ob), .val (.ref br), .val (.int at_), .val (.int (0 : Int32))] [(.ref ob), (.int u0)])) rfl rfl (hb hby d5_17)
  obtain ⟨cl6, Ar6, q6, S6, M6, H6, G6⟩ := id I1
  have hin6 : ¬ ((0 : Int32) < 0 ∨ cl6.slots.size ≤ ((0 : Int32)).toNatClampNeg) := inb_of S6 ⟨by decide, by decide⟩
  have hat6 : cl6.slots[((0 : Int32)).toNatClampNeg]? = some (.int w0) := Has.at H6 hin6 rfl
  have pre7 : ∀ tq, Steps p.tables e below (T5.setTop (mkF m 22 #[.val (.ref ob), .val (.ref br), .val (.int at_), .val (.int (0 : Int32))] [(.int w0), (.int u0)])) tq → Steps p.tables e below (s₁.setTop (entryFrame m #[(.ref ob), (.ref br), (.int at_)] 4)) tq := by
    intro tq kt
    refine pre0 _ ?_
    show Steps p.tables e below (s₁.setTop (mkF m 0 #[.val (.ref ob), .val (.ref br), .val (.int at_), .unset] [])) _
    refine XS.iconst X0.here hx rfl (hb hby d5_0) ?_
    show Steps p.tables e below (s₁.setTop (mkF m 1 #[.val (.ref ob), .val (.ref br), .val (.int at_), .unset] [(.int (0 : Int32))])) _
    refine XS.istoreN X0.here hx rfl (hb hby d5_1) rfl (l' := #[.val (.ref ob), .val (.ref br), .val (.int at_), .val (.int (0 : Int32))]) rfl ?_
    show Steps p.tables e below (s₁.setTop (mkF m 2 #[.val (.ref ob), .val (.ref br), .val (.int at_), .val (.int (0 : Int32))] [])) _
    refine XS.iloadN X0.here hx rfl (hb hby d5_2) rfl ?_
    show Steps p.tables e below (s₁.setTop (mkF m 3 #[.val (.ref ob), .val (.ref br), .val (.int at_), .val (.int (0 : Int32))] [(.int (0 : Int32))])) _
    refine XS.aloadN X0.here hx rfl (hb hby d5_3) rfl rfl ?_
    show Steps p.tables e below (s₁.setTop (mkF m 4 #[.val (.ref ob), .val (.ref br), .val (.int at_), .val (.int (0 : Int32))] [(.ref ob), (.int (0 : Int32))])) _
    refine st1 _ ?_
    show Steps p.tables e below (T1.setTop (mkF m 7 #[.val (.ref ob), .val (.ref br), .val (.int at_), .val (.int (0 : Int32))] [(.ref nr), (.int (0 : Int32))])) _
    refine X1.arraylength hx (heq_of e1 Ar2.1) (State.isArrayOf_alike hZ.alike Ar2.2.1) (g := (mkF m 7 #[.val (.ref ob), .val (.ref br), .val (.int at_), .val (.int (0 : Int32))] [(.ref nr), (.int (0 : Int32))])) rfl rfl (hb hby d5_7) _ ?_
    rw [len_of S2 M2]
    show Steps p.tables e below (T1.setTop (mkF m 8 #[.val (.ref ob), .val (.ref br), .val (.int at_), .val (.int (0 : Int32))] [(.int (1 : Int32)), (.int (0 : Int32))])) _
    refine XS.icmpNo X1.here hx rfl (hb hby d5_8) rfl (tlt (by decide)).2.1 ?_
    show Steps p.tables e below (T1.setTop (mkF m 11 #[.val (.ref ob), .val (.ref br), .val (.int at_), .val (.int (0 : Int32))] [])) _
    refine XS.aloadN X1.here hx rfl (hb hby d5_11) rfl rfl ?_
    show Steps p.tables e below (T1.setTop (mkF m 12 #[.val (.ref ob), .val (.ref br), .val (.int at_), .val (.int (0 : Int32))] [(.ref br)])) _
    refine XS.iloadN X1.here hx rfl (hb hby d5_12) rfl ?_
    show Steps p.tables e below (T1.setTop (mkF m 13 #[.val (.ref ob), .val (.ref br), .val (.int at_), .val (.int (0 : Int32))] [(.int at_), (.ref br)])) _
    refine XS.iloadN X1.here hx rfl (hb hby d5_13) rfl ?_
    show Steps p.tables e below (T1.setTop (mkF m 14 #[.val (.ref ob), .val (.ref br), .val (.int at_), .val (.int (0 : Int32))] [(.int (0 : Int32)), (.int at_), (.ref br)])) _
    refine XS.iadd X1.here hx rfl (hb hby d5_14) rfl ?_
    show Steps p.tables e below (T1.setTop (mkF m 15 #[.val (.ref ob), .val (.ref br), .val (.int at_), .val (.int (0 : Int32))] [(.int (at_ + (0 : Int32))), (.ref br)])) _
    refine X1.baloadBytes hx (j := (at_ + (0 : Int32))) (v := (.int u0)) (heq_of e1 Ar3.1) (State.isArrayOf_alike hZ.alike Ar3.2.1) Ar3.2.2 hin3 hat3 (g := (mkF m 15 #[.val (.ref ob), .val (.ref br), .val (.int at_), .val (.int (0 : Int32))] [(.int (at_ + (0 : Int32))), (.ref br)])) rfl rfl (hb hby d5_15) _ ?_
    show Steps p.tables e below (T1.setTop (mkF m 16 #[.val (.ref ob), .val (.ref br), .val (.int at_), .val (.int (0 : Int32))] [(.int u0)])) _
    refine XS.aloadN X1.here hx rfl (hb hby d5_16) rfl rfl ?_
    show Steps p.tables e below (T1.setTop (mkF m 17 #[.val (.ref ob), .val (.ref br), .val (.int at_), .val (.int (0 : Int32))] [(.ref ob), (.int u0)])) _
    refine st5 _ ?_
    show Steps p.tables e below (T5.setTop (mkF m 20 #[.val (.ref ob), .val (.ref br), .val (.int at_), .val (.int (0 : Int32))] [(.ref nr), (.int u0)])) _
    refine XS.iloadN X5.here hx rfl (hb hby d5_20) rfl ?_
    show Steps p.tables e below (T5.setTop (mkF m 21 #[.val (.ref ob), .val (.ref br), .val (.int at_), .val (.int (0 : Int32))] [(.int (0 : Int32)), (.ref nr), (.int u0)])) _
    refine X5.baloadBytes hx (j := (0 : Int32)) (v := (.int w0)) (heq_of e5 Ar6.1) (State.isArrayOf_alike hZ.alike Ar6.2.1) Ar6.2.2 hin6 hat6 (g := (mkF m 21 #[.val (.ref ob), .val (.ref br), .val (.int at_), .val (.int (0 : Int32))] [(.int (0 : Int32)), (.ref nr), (.int u0)])) rfl rfl (hb hby d5_21) _ ?_
    show Steps p.tables e below (T5.setTop (mkF m 22 #[.val (.ref ob), .val (.ref br), .val (.int at_), .val (.int (0 : Int32))] [(.int w0), (.int u0)])) _
    exact kt
  by_cases hc22_8 : u0 = w0
  · skip
    obtain ⟨T9, X9, e9, st9⟩ := getF X5 hx hZ hown (host := "") (Or.inl (hw _ (List.mem_of_getElem? (i := 33) rfl))) Via.refl e5 I0 (g := (mkF m 4 #[.val (.ref ob), .val (.ref br), .val (.int at_), .val (.int (1 : Int32))] [(.ref ob), (.int (1 : Int32))])) rfl rfl (hb hby d5_4)
    obtain ⟨cl10, Ar10, q10, S10, M10, H10, G10⟩ := id I1
    obtain ⟨fs, hr, hrun, hended, hW, hsame⟩ := X9.leave (v := some (Value.int (1 : Int32))) (fun h => by rw [Bd.returns] at h; cases h)
    have hres11 : (1 : Int32) = (if u0 = w0 then (1 : Int32) else (0 : Int32)) := by simp only [if_pos hc22_8]
    refine ⟨_, _, pre7 _ ?_, hrun, hended, _, _, rfl, ?_, ⟨_, rfl⟩, hW, hsame.mono (by decide) (by decide)⟩
    · skip
      show Steps p.tables e below (T5.setTop (mkF m 22 #[.val (.ref ob), .val (.ref br), .val (.int at_), .val (.int (0 : Int32))] [(.int w0), (.int u0)])) _
      refine XS.icmpYes X5.here hx rfl (pc0 := 22) (pc' := 27) rfl (hb hby d5_22) rfl (teq hc22_8).1 (by decide) (by decide) ?_
      show Steps p.tables e below (T5.setTop (mkF m 27 #[.val (.ref ob), .val (.ref br), .val (.int at_), .val (.int (0 : Int32))] [])) _
      refine XS.iinc X5.here hx rfl (hb hby d5_27) rfl (l' := #[.val (.ref ob), .val (.ref br), .val (.int at_), .val (.int (1 : Int32))]) rfl ?_
      show Steps p.tables e below (T5.setTop (mkF m 30 #[.val (.ref ob), .val (.ref br), .val (.int at_), .val (.int (1 : Int32))] [])) _
      refine XS.goto X5.here hx rfl (pc0 := 30) (pc' := 2) rfl (hb hby d5_30) (by decide) (by decide) ?_
      show Steps p.tables e below (T5.setTop (mkF m 2 #[.val (.ref ob), .val (.ref br), .val (.int at_), .val (.int (1 : Int32))] [])) _
      refine XS.iloadN X5.here hx rfl (hb hby d5_2) rfl ?_
      show Steps p.tables e below (T5.setTop (mkF m 3 #[.val (.ref ob), .val (.ref br), .val (.int at_), .val (.int (1 : Int32))] [(.int (1 : Int32))])) _
      refine XS.aloadN X5.here hx rfl (hb hby d5_3) rfl rfl ?_
      show Steps p.tables e below (T5.setTop (mkF m 4 #[.val (.ref ob), .val (.ref br), .val (.int at_), .val (.int (1 : Int32))] [(.ref ob), (.int (1 : Int32))])) _
      refine st9 _ ?_
      show Steps p.tables e below (T9.setTop (mkF m 7 #[.val (.ref ob), .val (.ref br), .val (.int at_), .val (.int (1 : Int32))] [(.ref nr), (.int (1 : Int32))])) _
      refine X9.arraylength hx (heq_of e9 Ar10.1) (State.isArrayOf_alike hZ.alike Ar10.2.1) (g := (mkF m 7 #[.val (.ref ob), .val (.ref br), .val (.int at_), .val (.int (1 : Int32))] [(.ref nr), (.int (1 : Int32))])) rfl rfl (hb hby d5_7) _ ?_
      rw [len_of S10 M10]
      show Steps p.tables e below (T9.setTop (mkF m 8 #[.val (.ref ob), .val (.ref br), .val (.int at_), .val (.int (1 : Int32))] [(.int (1 : Int32)), (.int (1 : Int32))])) _
      refine XS.icmpYes X9.here hx rfl (pc0 := 8) (pc' := 33) rfl (hb hby d5_8) rfl (flt (by decide)).2.1 (by decide) (by decide) ?_
      show Steps p.tables e below (T9.setTop (mkF m 33 #[.val (.ref ob), .val (.ref br), .val (.int at_), .val (.int (1 : Int32))] [])) _
      refine XS.iconst X9.here hx rfl (hb hby d5_33) ?_
      show Steps p.tables e below (T9.setTop (mkF m 34 #[.val (.ref ob), .val (.ref br), .val (.int at_), .val (.int (1 : Int32))] [(.int (1 : Int32))])) _
      exact retN X9 hx (t := .boolean) Bd.returns (by simp) (hb hby d5_34) hr
    · show Q5_1 Z ob br at_ nr ka kb vl w0 u0 h0 n0 _ T9.heap _
      rw [e9]
      exact ⟨congrArg (fun z => some (Value.int z)) hres11, N0, rfl⟩
  · skip
    obtain ⟨fs, hr, hrun, hended, hW, hsame⟩ := X5.leave (v := some (Value.int (0 : Int32))) (fun h => by rw [Bd.returns] at h; cases h)
    have hres12 : (0 : Int32) = (if u0 = w0 then (1 : Int32) else (0 : Int32)) := by simp only [if_neg hc22_8]
    refine ⟨_, _, pre7 _ ?_, hrun, hended, _, _, rfl, ?_, ⟨_, rfl⟩, hW, hsame.mono (by decide) (by decide)⟩
    · skip
      show Steps p.tables e below (T5.setTop (mkF m 22 #[.val (.ref ob), .val (.ref br), .val (.int at_), .val (.int (0 : Int32))] [(.int w0), (.int u0)])) _
      refine XS.icmpNo X5.here hx rfl (hb hby d5_22) rfl (feq hc22_8).1 ?_
      show Steps p.tables e below (T5.setTop (mkF m 25 #[.val (.ref ob), .val (.ref br), .val (.int at_), .val (.int (0 : Int32))] [])) _
      refine XS.iconst X5.here hx rfl (hb hby d5_25) ?_
      show Steps p.tables e below (T5.setTop (mkF m 26 #[.val (.ref ob), .val (.ref br), .val (.int at_), .val (.int (0 : Int32))] [(.int (0 : Int32))])) _
      exact retN X5 hx (t := .boolean) Bd.returns (by simp) (hb hby d5_26) hr
    · show Q5_1 Z ob br at_ nr ka kb vl w0 u0 h0 n0 _ T5.heap _
      rw [e5]
      exact ⟨congrArg (fun z => some (Value.int z)) hres12, N0, rfl⟩
theorem ef_5_2 (m : MethodId) (x0 : Addr) (x1 : Addr) (x2 : Int32) : entryFrame m #[(.ref x0), (.ref x1), (.int x2)] 4 = mkF m 0 #[.val (.ref x0), .val (.ref x1), .val (.int x2), .unset] [] := by first | (simp [entryFrame, mkF, argsToLocals, Value.category]; done) | rfl
theorem own_inb_5_2_15 (at_ : Int32) (w0 : Int32) (w1 : Int32) (u0 : Int32) (u1 : Int32) (hat0 : 0 ≤ at_.toInt) (hat1 : at_.toInt + 2 ≤ 8) : ¬ (at_ + (0 : Int32)) < 0 ∧ (at_ + (0 : Int32)) < (8 : Int32) := own_in at_ _ 0 rfl (by decide) (by omega) (by omega)
theorem own_miss_5_2_15_0 (at_ : Int32) (w0 : Int32) (w1 : Int32) (u0 : Int32) (u1 : Int32) (hat0 : 0 ≤ at_.toInt) (hat1 : at_.toInt + 2 ≤ 8) : ¬ ((at_ + (0 : Int32)) = (at_ + (1 : Int32))) := own_off at_ (0 : Int32) (1 : Int32) (by decide)
theorem own_hit_5_2_15_1 (at_ : Int32) (w0 : Int32) (w1 : Int32) (u0 : Int32) (u1 : Int32) (hat0 : 0 ≤ at_.toInt) (hat1 : at_.toInt + 2 ≤ 8) : (at_ + (0 : Int32)) = at_ := Int32.add_zero _
theorem own_inb_5_2_15_t (at_ : Int32) (w0 : Int32) (w1 : Int32) (u0 : Int32) (u1 : Int32) (hat0 : 0 ≤ at_.toInt) (hat1 : at_.toInt + 2 ≤ 8) (hc22_9 : u0 = w0) : ¬ (at_ + (1 : Int32)) < 0 ∧ (at_ + (1 : Int32)) < (8 : Int32) := own_in at_ _ 1 rfl (by decide) (by omega) (by omega)
theorem own_hit_5_2_15_0_t (at_ : Int32) (w0 : Int32) (w1 : Int32) (u0 : Int32) (u1 : Int32) (hat0 : 0 ≤ at_.toInt) (hat1 : at_.toInt + 2 ≤ 8) (hc22_9 : u0 = w0) : (at_ + (1 : Int32)) = (at_ + (1 : Int32)) := rfl
def Q5_2 (Z : State) (ob : Addr) (br : Addr) (at_ : Int32) (nr : Addr) (ka : ClassId) (kb : ClassId) (vl : List Value) (w0 : Int32) (w1 : Int32) (u0 : Int32) (u1 : Int32) (h0 : Heap) (n0 : Nat) (v : Option Value) (h : Heap) (L : List Loc) : Prop := v = some (.int (if u0 = w0 then (if u1 = w1 then (1 : Int32) else (0 : Int32)) else (0 : Int32))) ∧ Fr n0 L ∧ h = h0
set_option maxRecDepth 65536 in
set_option maxHeartbeats 40000000 in
theorem rm5_2 (l : Launch) (Z : State) (a0 : Array Value) (hw : ∀ d ∈ tables_1, d.before a0 Z = true) (ws : List Jvm.Cond) (ob : Addr) (br : Addr) (at_ : Int32) (nr : Addr) (ka : ClassId) (kb : ClassId) (vl : List Value) (w0 : Int32) (w1 : Int32) (u0 : Int32) (u1 : Int32) (h0 : Heap) (n0 : Nat) (Z0 : n0 ≤ h0.size) (I0 : Fld Z h0 ob "com/example/marcotte/marcotte/XmlNames$Name" "bytes" "[B" (.ref nr)) (I1 : Arv Z h0 nr ka .byte (2 : Int32) [(.int w0), (.int w1)] (.int (0 : Int32))) (I2 : Arh Z h0 br kb .byte (8 : Int32) [((at_ + (1 : Int32)), (.int u1)), (at_, (.int u0))] vl (.int (0 : Int32))) (hat0 : 0 ≤ at_.toInt) (hat1 : at_.toInt + 2 ≤ 8) :
    MetFree l (⟨"com/example/marcotte/marcotte/XmlNames$Name", "writtenAt", "([BI)Z"⟩ : MethodName) (head1 (Jvm.Cond.code (⟨"com/example/marcotte/marcotte/XmlNames$Name", "writtenAt", "([BI)Z"⟩ : MethodName) prog_52_method_2_code 4 (some .boolean) :: ws) ({ frames := 0, cells := 0, slots := 0, locals := 0 } : Room)) (fun a U => a = #[(.ref ob), (.ref br), (.int at_)] ∧ Z.Warmed39 U.vm ∧ U.heap = h0) (fun _ _ _ _ _ => True) (fun _ U o U' => ∃ v L, o = .returned v ∧ Q5_2 Z ob br at_ nr ka kb vl w0 w1 u0 u1 h0 n0 v U'.heap L ∧ FrameEnd U o U' L ({ frames := 0, cells := 0, slots := 0, locals := 0 } : Room).cells ({ frames := 0, cells := 0, slots := 0, locals := 0 } : Room).slots) := by
  refine MetFree.of_bodySF (plainFor_of_name pn_5) hisR ?_
  intro p e s m args below meth c s₁ Bd hml0 hP hK
  obtain ⟨rfl, hZ, hh⟩ := hP
  have hx := Bd.exec
  have hby := Bd.bytes
  have hml : c.maxLocals = 4 := hml0
  have hown : s.vm.findClass "com/example/marcotte/marcotte/XmlNames$Name" = some m.cls := findClass_of_methodNamed Bd.named
  have hnm := (name_of_methodNamed Bd.named Bd.method).1
  have X0 : Stand p l e ({ frames := 0, cells := 0, slots := 0, locals := 0 } : Room) s m #[(.ref ob), (.ref br), (.int at_)] below meth c s₁ [] 0 0 := Stand.of_body Bd
  have e0 : s₁.heap = h0 := by rw [← hh, Bd.state]; rfl
  have N0 := Fr.nil n0
  have K0 : Keep h0 h0 [] := Keep.refl h0 _
  have pre0 : ∀ tq, Steps p.tables e below (s₁.setTop (mkF m 0 #[.val (.ref ob), .val (.ref br), .val (.int at_), .unset] [])) tq → Steps p.tables e below (s₁.setTop (entryFrame m #[(.ref ob), (.ref br), (.int at_)] 4)) tq := fun tq kq => castTop (ef_5_2 m ob br at_) kq
  obtain ⟨T1, X1, e1, st1⟩ := getF X0 hx hZ hown (host := "") (Or.inl (hw _ (List.mem_of_getElem? (i := 33) rfl))) Via.refl e0 I0 (g := (mkF m 4 #[.val (.ref ob), .val (.ref br), .val (.int at_), .val (.int (0 : Int32))] [(.ref ob), (.int (0 : Int32))])) rfl rfl (hb hby d5_4)
  obtain ⟨cl2, Ar2, q2, S2, M2, H2, G2⟩ := id I1
  obtain ⟨cl3, Ar3, q3, S3, M3, H3, G3⟩ := id I2
  have hin3 : ¬ ((at_ + (0 : Int32)) < 0 ∨ cl3.slots.size ≤ ((at_ + (0 : Int32))).toNatClampNeg) := inb_of S3 (own_inb_5_2_15 at_ w0 w1 u0 u1 hat0 hat1)
  have hh4 : ¬ ((at_ + (0 : Int32)) = (at_ + (1 : Int32))) := (own_miss_5_2_15_0 at_ w0 w1 u0 u1 hat0 hat1)
  have hh5 : (at_ + (0 : Int32)) = at_ := (own_hit_5_2_15_1 at_ w0 w1 u0 u1 hat0 hat1)
  have hat3 : cl3.slots[((at_ + (0 : Int32))).toNatClampNeg]? = some (.int u0) := atH H3 hin3 (getH_miss (fun y => hin3 (Or.inl y)) hh4 (getH_hit (fun y => hin3 (Or.inl y)) hh5))
  obtain ⟨T6, X6, e6, st6⟩ := getF X1 hx hZ hown (host := "") (Or.inl (hw _ (List.mem_of_getElem? (i := 33) rfl))) Via.refl e1 I0 (g := (mkF m 17 #[.val (.ref ob), .val (.ref br), .val (.int at_), .val (.int (0 : Int32))] [(.ref ob), (.int u0)])) rfl rfl (hb hby d5_17)
  obtain ⟨cl7, Ar7, q7, S7, M7, H7, G7⟩ := id I1
  have hin7 : ¬ ((0 : Int32) < 0 ∨ cl7.slots.size ≤ ((0 : Int32)).toNatClampNeg) := inb_of S7 ⟨by decide, by decide⟩
  have hat7 : cl7.slots[((0 : Int32)).toNatClampNeg]? = some (.int w0) := Has.at H7 hin7 rfl
  have pre8 : ∀ tq, Steps p.tables e below (T6.setTop (mkF m 22 #[.val (.ref ob), .val (.ref br), .val (.int at_), .val (.int (0 : Int32))] [(.int w0), (.int u0)])) tq → Steps p.tables e below (s₁.setTop (entryFrame m #[(.ref ob), (.ref br), (.int at_)] 4)) tq := by
    intro tq kt
    refine pre0 _ ?_
    show Steps p.tables e below (s₁.setTop (mkF m 0 #[.val (.ref ob), .val (.ref br), .val (.int at_), .unset] [])) _
    refine XS.iconst X0.here hx rfl (hb hby d5_0) ?_
    show Steps p.tables e below (s₁.setTop (mkF m 1 #[.val (.ref ob), .val (.ref br), .val (.int at_), .unset] [(.int (0 : Int32))])) _
    refine XS.istoreN X0.here hx rfl (hb hby d5_1) rfl (l' := #[.val (.ref ob), .val (.ref br), .val (.int at_), .val (.int (0 : Int32))]) rfl ?_
    show Steps p.tables e below (s₁.setTop (mkF m 2 #[.val (.ref ob), .val (.ref br), .val (.int at_), .val (.int (0 : Int32))] [])) _
    refine XS.iloadN X0.here hx rfl (hb hby d5_2) rfl ?_
    show Steps p.tables e below (s₁.setTop (mkF m 3 #[.val (.ref ob), .val (.ref br), .val (.int at_), .val (.int (0 : Int32))] [(.int (0 : Int32))])) _
    refine XS.aloadN X0.here hx rfl (hb hby d5_3) rfl rfl ?_
    show Steps p.tables e below (s₁.setTop (mkF m 4 #[.val (.ref ob), .val (.ref br), .val (.int at_), .val (.int (0 : Int32))] [(.ref ob), (.int (0 : Int32))])) _
    refine st1 _ ?_
    show Steps p.tables e below (T1.setTop (mkF m 7 #[.val (.ref ob), .val (.ref br), .val (.int at_), .val (.int (0 : Int32))] [(.ref nr), (.int (0 : Int32))])) _
    refine X1.arraylength hx (heq_of e1 Ar2.1) (State.isArrayOf_alike hZ.alike Ar2.2.1) (g := (mkF m 7 #[.val (.ref ob), .val (.ref br), .val (.int at_), .val (.int (0 : Int32))] [(.ref nr), (.int (0 : Int32))])) rfl rfl (hb hby d5_7) _ ?_
    rw [len_of S2 M2]
    show Steps p.tables e below (T1.setTop (mkF m 8 #[.val (.ref ob), .val (.ref br), .val (.int at_), .val (.int (0 : Int32))] [(.int (2 : Int32)), (.int (0 : Int32))])) _
    refine XS.icmpNo X1.here hx rfl (hb hby d5_8) rfl (tlt (by decide)).2.1 ?_
    show Steps p.tables e below (T1.setTop (mkF m 11 #[.val (.ref ob), .val (.ref br), .val (.int at_), .val (.int (0 : Int32))] [])) _
    refine XS.aloadN X1.here hx rfl (hb hby d5_11) rfl rfl ?_
    show Steps p.tables e below (T1.setTop (mkF m 12 #[.val (.ref ob), .val (.ref br), .val (.int at_), .val (.int (0 : Int32))] [(.ref br)])) _
    refine XS.iloadN X1.here hx rfl (hb hby d5_12) rfl ?_
    show Steps p.tables e below (T1.setTop (mkF m 13 #[.val (.ref ob), .val (.ref br), .val (.int at_), .val (.int (0 : Int32))] [(.int at_), (.ref br)])) _
    refine XS.iloadN X1.here hx rfl (hb hby d5_13) rfl ?_
    show Steps p.tables e below (T1.setTop (mkF m 14 #[.val (.ref ob), .val (.ref br), .val (.int at_), .val (.int (0 : Int32))] [(.int (0 : Int32)), (.int at_), (.ref br)])) _
    refine XS.iadd X1.here hx rfl (hb hby d5_14) rfl ?_
    show Steps p.tables e below (T1.setTop (mkF m 15 #[.val (.ref ob), .val (.ref br), .val (.int at_), .val (.int (0 : Int32))] [(.int (at_ + (0 : Int32))), (.ref br)])) _
    refine X1.baloadBytes hx (j := (at_ + (0 : Int32))) (v := (.int u0)) (heq_of e1 Ar3.1) (State.isArrayOf_alike hZ.alike Ar3.2.1) Ar3.2.2 hin3 hat3 (g := (mkF m 15 #[.val (.ref ob), .val (.ref br), .val (.int at_), .val (.int (0 : Int32))] [(.int (at_ + (0 : Int32))), (.ref br)])) rfl rfl (hb hby d5_15) _ ?_
    show Steps p.tables e below (T1.setTop (mkF m 16 #[.val (.ref ob), .val (.ref br), .val (.int at_), .val (.int (0 : Int32))] [(.int u0)])) _
    refine XS.aloadN X1.here hx rfl (hb hby d5_16) rfl rfl ?_
    show Steps p.tables e below (T1.setTop (mkF m 17 #[.val (.ref ob), .val (.ref br), .val (.int at_), .val (.int (0 : Int32))] [(.ref ob), (.int u0)])) _
    refine st6 _ ?_
    show Steps p.tables e below (T6.setTop (mkF m 20 #[.val (.ref ob), .val (.ref br), .val (.int at_), .val (.int (0 : Int32))] [(.ref nr), (.int u0)])) _
    refine XS.iloadN X6.here hx rfl (hb hby d5_20) rfl ?_
    show Steps p.tables e below (T6.setTop (mkF m 21 #[.val (.ref ob), .val (.ref br), .val (.int at_), .val (.int (0 : Int32))] [(.int (0 : Int32)), (.ref nr), (.int u0)])) _
    refine X6.baloadBytes hx (j := (0 : Int32)) (v := (.int w0)) (heq_of e6 Ar7.1) (State.isArrayOf_alike hZ.alike Ar7.2.1) Ar7.2.2 hin7 hat7 (g := (mkF m 21 #[.val (.ref ob), .val (.ref br), .val (.int at_), .val (.int (0 : Int32))] [(.int (0 : Int32)), (.ref nr), (.int u0)])) rfl rfl (hb hby d5_21) _ ?_
    show Steps p.tables e below (T6.setTop (mkF m 22 #[.val (.ref ob), .val (.ref br), .val (.int at_), .val (.int (0 : Int32))] [(.int w0), (.int u0)])) _
    exact kt
  by_cases hc22_9 : u0 = w0
  · skip
    obtain ⟨T10, X10, e10, st10⟩ := getF X6 hx hZ hown (host := "") (Or.inl (hw _ (List.mem_of_getElem? (i := 33) rfl))) Via.refl e6 I0 (g := (mkF m 4 #[.val (.ref ob), .val (.ref br), .val (.int at_), .val (.int (1 : Int32))] [(.ref ob), (.int (1 : Int32))])) rfl rfl (hb hby d5_4)
    obtain ⟨cl11, Ar11, q11, S11, M11, H11, G11⟩ := id I1
    obtain ⟨cl12, Ar12, q12, S12, M12, H12, G12⟩ := id I2
    have hin12 : ¬ ((at_ + (1 : Int32)) < 0 ∨ cl12.slots.size ≤ ((at_ + (1 : Int32))).toNatClampNeg) := inb_of S12 (own_inb_5_2_15_t at_ w0 w1 u0 u1 hat0 hat1 hc22_9)
    have hh13 : (at_ + (1 : Int32)) = (at_ + (1 : Int32)) := (own_hit_5_2_15_0_t at_ w0 w1 u0 u1 hat0 hat1 hc22_9)
    have hat12 : cl12.slots[((at_ + (1 : Int32))).toNatClampNeg]? = some (.int u1) := atH H12 hin12 (getH_hit (fun y => hin12 (Or.inl y)) hh13)
    obtain ⟨T14, X14, e14, st14⟩ := getF X10 hx hZ hown (host := "") (Or.inl (hw _ (List.mem_of_getElem? (i := 33) rfl))) Via.refl e10 I0 (g := (mkF m 17 #[.val (.ref ob), .val (.ref br), .val (.int at_), .val (.int (1 : Int32))] [(.ref ob), (.int u1)])) rfl rfl (hb hby d5_17)
    obtain ⟨cl15, Ar15, q15, S15, M15, H15, G15⟩ := id I1
    have hin15 : ¬ ((1 : Int32) < 0 ∨ cl15.slots.size ≤ ((1 : Int32)).toNatClampNeg) := inb_of S15 ⟨by decide, by decide⟩
    have hat15 : cl15.slots[((1 : Int32)).toNatClampNeg]? = some (.int w1) := Has.at H15 hin15 rfl
    have pre16 : ∀ tq, Steps p.tables e below (T14.setTop (mkF m 22 #[.val (.ref ob), .val (.ref br), .val (.int at_), .val (.int (1 : Int32))] [(.int w1), (.int u1)])) tq → Steps p.tables e below (s₁.setTop (entryFrame m #[(.ref ob), (.ref br), (.int at_)] 4)) tq := by
      intro tq kt
      refine pre8 _ ?_
      show Steps p.tables e below (T6.setTop (mkF m 22 #[.val (.ref ob), .val (.ref br), .val (.int at_), .val (.int (0 : Int32))] [(.int w0), (.int u0)])) _
      refine XS.icmpYes X6.here hx rfl (pc0 := 22) (pc' := 27) rfl (hb hby d5_22) rfl (teq hc22_9).1 (by decide) (by decide) ?_
      show Steps p.tables e below (T6.setTop (mkF m 27 #[.val (.ref ob), .val (.ref br), .val (.int at_), .val (.int (0 : Int32))] [])) _
      refine XS.iinc X6.here hx rfl (hb hby d5_27) rfl (l' := #[.val (.ref ob), .val (.ref br), .val (.int at_), .val (.int (1 : Int32))]) rfl ?_
      show Steps p.tables e below (T6.setTop (mkF m 30 #[.val (.ref ob), .val (.ref br), .val (.int at_), .val (.int (1 : Int32))] [])) _
      refine XS.goto X6.here hx rfl (pc0 := 30) (pc' := 2) rfl (hb hby d5_30) (by decide) (by decide) ?_
      show Steps p.tables e below (T6.setTop (mkF m 2 #[.val (.ref ob), .val (.ref br), .val (.int at_), .val (.int (1 : Int32))] [])) _
      refine XS.iloadN X6.here hx rfl (hb hby d5_2) rfl ?_
      show Steps p.tables e below (T6.setTop (mkF m 3 #[.val (.ref ob), .val (.ref br), .val (.int at_), .val (.int (1 : Int32))] [(.int (1 : Int32))])) _
      refine XS.aloadN X6.here hx rfl (hb hby d5_3) rfl rfl ?_
      show Steps p.tables e below (T6.setTop (mkF m 4 #[.val (.ref ob), .val (.ref br), .val (.int at_), .val (.int (1 : Int32))] [(.ref ob), (.int (1 : Int32))])) _
      refine st10 _ ?_
      show Steps p.tables e below (T10.setTop (mkF m 7 #[.val (.ref ob), .val (.ref br), .val (.int at_), .val (.int (1 : Int32))] [(.ref nr), (.int (1 : Int32))])) _
      refine X10.arraylength hx (heq_of e10 Ar11.1) (State.isArrayOf_alike hZ.alike Ar11.2.1) (g := (mkF m 7 #[.val (.ref ob), .val (.ref br), .val (.int at_), .val (.int (1 : Int32))] [(.ref nr), (.int (1 : Int32))])) rfl rfl (hb hby d5_7) _ ?_
      rw [len_of S11 M11]
      show Steps p.tables e below (T10.setTop (mkF m 8 #[.val (.ref ob), .val (.ref br), .val (.int at_), .val (.int (1 : Int32))] [(.int (2 : Int32)), (.int (1 : Int32))])) _
      refine XS.icmpNo X10.here hx rfl (hb hby d5_8) rfl (tlt (by decide)).2.1 ?_
      show Steps p.tables e below (T10.setTop (mkF m 11 #[.val (.ref ob), .val (.ref br), .val (.int at_), .val (.int (1 : Int32))] [])) _
      refine XS.aloadN X10.here hx rfl (hb hby d5_11) rfl rfl ?_
      show Steps p.tables e below (T10.setTop (mkF m 12 #[.val (.ref ob), .val (.ref br), .val (.int at_), .val (.int (1 : Int32))] [(.ref br)])) _
      refine XS.iloadN X10.here hx rfl (hb hby d5_12) rfl ?_
      show Steps p.tables e below (T10.setTop (mkF m 13 #[.val (.ref ob), .val (.ref br), .val (.int at_), .val (.int (1 : Int32))] [(.int at_), (.ref br)])) _
      refine XS.iloadN X10.here hx rfl (hb hby d5_13) rfl ?_
      show Steps p.tables e below (T10.setTop (mkF m 14 #[.val (.ref ob), .val (.ref br), .val (.int at_), .val (.int (1 : Int32))] [(.int (1 : Int32)), (.int at_), (.ref br)])) _
      refine XS.iadd X10.here hx rfl (hb hby d5_14) rfl ?_
      show Steps p.tables e below (T10.setTop (mkF m 15 #[.val (.ref ob), .val (.ref br), .val (.int at_), .val (.int (1 : Int32))] [(.int (at_ + (1 : Int32))), (.ref br)])) _
      refine X10.baloadBytes hx (j := (at_ + (1 : Int32))) (v := (.int u1)) (heq_of e10 Ar12.1) (State.isArrayOf_alike hZ.alike Ar12.2.1) Ar12.2.2 hin12 hat12 (g := (mkF m 15 #[.val (.ref ob), .val (.ref br), .val (.int at_), .val (.int (1 : Int32))] [(.int (at_ + (1 : Int32))), (.ref br)])) rfl rfl (hb hby d5_15) _ ?_
      show Steps p.tables e below (T10.setTop (mkF m 16 #[.val (.ref ob), .val (.ref br), .val (.int at_), .val (.int (1 : Int32))] [(.int u1)])) _
      refine XS.aloadN X10.here hx rfl (hb hby d5_16) rfl rfl ?_
      show Steps p.tables e below (T10.setTop (mkF m 17 #[.val (.ref ob), .val (.ref br), .val (.int at_), .val (.int (1 : Int32))] [(.ref ob), (.int u1)])) _
      refine st14 _ ?_
      show Steps p.tables e below (T14.setTop (mkF m 20 #[.val (.ref ob), .val (.ref br), .val (.int at_), .val (.int (1 : Int32))] [(.ref nr), (.int u1)])) _
      refine XS.iloadN X14.here hx rfl (hb hby d5_20) rfl ?_
      show Steps p.tables e below (T14.setTop (mkF m 21 #[.val (.ref ob), .val (.ref br), .val (.int at_), .val (.int (1 : Int32))] [(.int (1 : Int32)), (.ref nr), (.int u1)])) _
      refine X14.baloadBytes hx (j := (1 : Int32)) (v := (.int w1)) (heq_of e14 Ar15.1) (State.isArrayOf_alike hZ.alike Ar15.2.1) Ar15.2.2 hin15 hat15 (g := (mkF m 21 #[.val (.ref ob), .val (.ref br), .val (.int at_), .val (.int (1 : Int32))] [(.int (1 : Int32)), (.ref nr), (.int u1)])) rfl rfl (hb hby d5_21) _ ?_
      show Steps p.tables e below (T14.setTop (mkF m 22 #[.val (.ref ob), .val (.ref br), .val (.int at_), .val (.int (1 : Int32))] [(.int w1), (.int u1)])) _
      exact kt
    by_cases hc22_17 : u1 = w1
    · skip
      obtain ⟨T18, X18, e18, st18⟩ := getF X14 hx hZ hown (host := "") (Or.inl (hw _ (List.mem_of_getElem? (i := 33) rfl))) Via.refl e14 I0 (g := (mkF m 4 #[.val (.ref ob), .val (.ref br), .val (.int at_), .val (.int (2 : Int32))] [(.ref ob), (.int (2 : Int32))])) rfl rfl (hb hby d5_4)
      obtain ⟨cl19, Ar19, q19, S19, M19, H19, G19⟩ := id I1
      obtain ⟨fs, hr, hrun, hended, hW, hsame⟩ := X18.leave (v := some (Value.int (1 : Int32))) (fun h => by rw [Bd.returns] at h; cases h)
      have hres20 : (1 : Int32) = (if u0 = w0 then (if u1 = w1 then (1 : Int32) else (0 : Int32)) else (0 : Int32)) := by simp only [if_pos hc22_9, if_pos hc22_17]
      refine ⟨_, _, pre16 _ ?_, hrun, hended, _, _, rfl, ?_, ⟨_, rfl⟩, hW, hsame.mono (by decide) (by decide)⟩
      · skip
        show Steps p.tables e below (T14.setTop (mkF m 22 #[.val (.ref ob), .val (.ref br), .val (.int at_), .val (.int (1 : Int32))] [(.int w1), (.int u1)])) _
        refine XS.icmpYes X14.here hx rfl (pc0 := 22) (pc' := 27) rfl (hb hby d5_22) rfl (teq hc22_17).1 (by decide) (by decide) ?_
        show Steps p.tables e below (T14.setTop (mkF m 27 #[.val (.ref ob), .val (.ref br), .val (.int at_), .val (.int (1 : Int32))] [])) _
        refine XS.iinc X14.here hx rfl (hb hby d5_27) rfl (l' := #[.val (.ref ob), .val (.ref br), .val (.int at_), .val (.int (2 : Int32))]) rfl ?_
        show Steps p.tables e below (T14.setTop (mkF m 30 #[.val (.ref ob), .val (.ref br), .val (.int at_), .val (.int (2 : Int32))] [])) _
        refine XS.goto X14.here hx rfl (pc0 := 30) (pc' := 2) rfl (hb hby d5_30) (by decide) (by decide) ?_
        show Steps p.tables e below (T14.setTop (mkF m 2 #[.val (.ref ob), .val (.ref br), .val (.int at_), .val (.int (2 : Int32))] [])) _
        refine XS.iloadN X14.here hx rfl (hb hby d5_2) rfl ?_
        show Steps p.tables e below (T14.setTop (mkF m 3 #[.val (.ref ob), .val (.ref br), .val (.int at_), .val (.int (2 : Int32))] [(.int (2 : Int32))])) _
        refine XS.aloadN X14.here hx rfl (hb hby d5_3) rfl rfl ?_
        show Steps p.tables e below (T14.setTop (mkF m 4 #[.val (.ref ob), .val (.ref br), .val (.int at_), .val (.int (2 : Int32))] [(.ref ob), (.int (2 : Int32))])) _
        refine st18 _ ?_
        show Steps p.tables e below (T18.setTop (mkF m 7 #[.val (.ref ob), .val (.ref br), .val (.int at_), .val (.int (2 : Int32))] [(.ref nr), (.int (2 : Int32))])) _
        refine X18.arraylength hx (heq_of e18 Ar19.1) (State.isArrayOf_alike hZ.alike Ar19.2.1) (g := (mkF m 7 #[.val (.ref ob), .val (.ref br), .val (.int at_), .val (.int (2 : Int32))] [(.ref nr), (.int (2 : Int32))])) rfl rfl (hb hby d5_7) _ ?_
        rw [len_of S19 M19]
        show Steps p.tables e below (T18.setTop (mkF m 8 #[.val (.ref ob), .val (.ref br), .val (.int at_), .val (.int (2 : Int32))] [(.int (2 : Int32)), (.int (2 : Int32))])) _
        refine XS.icmpYes X18.here hx rfl (pc0 := 8) (pc' := 33) rfl (hb hby d5_8) rfl (flt (by decide)).2.1 (by decide) (by decide) ?_
        show Steps p.tables e below (T18.setTop (mkF m 33 #[.val (.ref ob), .val (.ref br), .val (.int at_), .val (.int (2 : Int32))] [])) _
        refine XS.iconst X18.here hx rfl (hb hby d5_33) ?_
        show Steps p.tables e below (T18.setTop (mkF m 34 #[.val (.ref ob), .val (.ref br), .val (.int at_), .val (.int (2 : Int32))] [(.int (1 : Int32))])) _
        exact retN X18 hx (t := .boolean) Bd.returns (by simp) (hb hby d5_34) hr
      · show Q5_2 Z ob br at_ nr ka kb vl w0 w1 u0 u1 h0 n0 _ T18.heap _
        rw [e18]
        exact ⟨congrArg (fun z => some (Value.int z)) hres20, N0, rfl⟩
    · skip
      obtain ⟨fs, hr, hrun, hended, hW, hsame⟩ := X14.leave (v := some (Value.int (0 : Int32))) (fun h => by rw [Bd.returns] at h; cases h)
      have hres21 : (0 : Int32) = (if u0 = w0 then (if u1 = w1 then (1 : Int32) else (0 : Int32)) else (0 : Int32)) := by simp only [if_pos hc22_9, if_neg hc22_17]
      refine ⟨_, _, pre16 _ ?_, hrun, hended, _, _, rfl, ?_, ⟨_, rfl⟩, hW, hsame.mono (by decide) (by decide)⟩
      · skip
        show Steps p.tables e below (T14.setTop (mkF m 22 #[.val (.ref ob), .val (.ref br), .val (.int at_), .val (.int (1 : Int32))] [(.int w1), (.int u1)])) _
        refine XS.icmpNo X14.here hx rfl (hb hby d5_22) rfl (feq hc22_17).1 ?_
        show Steps p.tables e below (T14.setTop (mkF m 25 #[.val (.ref ob), .val (.ref br), .val (.int at_), .val (.int (1 : Int32))] [])) _
        refine XS.iconst X14.here hx rfl (hb hby d5_25) ?_
        show Steps p.tables e below (T14.setTop (mkF m 26 #[.val (.ref ob), .val (.ref br), .val (.int at_), .val (.int (1 : Int32))] [(.int (0 : Int32))])) _
        exact retN X14 hx (t := .boolean) Bd.returns (by simp) (hb hby d5_26) hr
      · show Q5_2 Z ob br at_ nr ka kb vl w0 w1 u0 u1 h0 n0 _ T14.heap _
        rw [e14]
        exact ⟨congrArg (fun z => some (Value.int z)) hres21, N0, rfl⟩
  · skip
    obtain ⟨fs, hr, hrun, hended, hW, hsame⟩ := X6.leave (v := some (Value.int (0 : Int32))) (fun h => by rw [Bd.returns] at h; cases h)
    have hres22 : (0 : Int32) = (if u0 = w0 then (if u1 = w1 then (1 : Int32) else (0 : Int32)) else (0 : Int32)) := by simp only [if_neg hc22_9]
    refine ⟨_, _, pre8 _ ?_, hrun, hended, _, _, rfl, ?_, ⟨_, rfl⟩, hW, hsame.mono (by decide) (by decide)⟩
    · skip
      show Steps p.tables e below (T6.setTop (mkF m 22 #[.val (.ref ob), .val (.ref br), .val (.int at_), .val (.int (0 : Int32))] [(.int w0), (.int u0)])) _
      refine XS.icmpNo X6.here hx rfl (hb hby d5_22) rfl (feq hc22_9).1 ?_
      show Steps p.tables e below (T6.setTop (mkF m 25 #[.val (.ref ob), .val (.ref br), .val (.int at_), .val (.int (0 : Int32))] [])) _
      refine XS.iconst X6.here hx rfl (hb hby d5_25) ?_
      show Steps p.tables e below (T6.setTop (mkF m 26 #[.val (.ref ob), .val (.ref br), .val (.int at_), .val (.int (0 : Int32))] [(.int (0 : Int32))])) _
      exact retN X6 hx (t := .boolean) Bd.returns (by simp) (hb hby d5_26) hr
    · show Q5_2 Z ob br at_ nr ka kb vl w0 w1 u0 u1 h0 n0 _ T6.heap _
      rw [e6]
      exact ⟨congrArg (fun z => some (Value.int z)) hres22, N0, rfl⟩
theorem ef_5_3 (m : MethodId) (x0 : Addr) (x1 : Addr) (x2 : Int32) : entryFrame m #[(.ref x0), (.ref x1), (.int x2)] 4 = mkF m 0 #[.val (.ref x0), .val (.ref x1), .val (.int x2), .unset] [] := by first | (simp [entryFrame, mkF, argsToLocals, Value.category]; done) | rfl
theorem own_inb_5_3_15 (at_ : Int32) (w0 : Int32) (w1 : Int32) (w2 : Int32) (u0 : Int32) (u1 : Int32) (u2 : Int32) (hat0 : 0 ≤ at_.toInt) (hat1 : at_.toInt + 3 ≤ 8) : ¬ (at_ + (0 : Int32)) < 0 ∧ (at_ + (0 : Int32)) < (8 : Int32) := own_in at_ _ 0 rfl (by decide) (by omega) (by omega)
theorem own_miss_5_3_15_0 (at_ : Int32) (w0 : Int32) (w1 : Int32) (w2 : Int32) (u0 : Int32) (u1 : Int32) (u2 : Int32) (hat0 : 0 ≤ at_.toInt) (hat1 : at_.toInt + 3 ≤ 8) : ¬ ((at_ + (0 : Int32)) = (at_ + (2 : Int32))) := own_off at_ (0 : Int32) (2 : Int32) (by decide)
theorem own_miss_5_3_15_1 (at_ : Int32) (w0 : Int32) (w1 : Int32) (w2 : Int32) (u0 : Int32) (u1 : Int32) (u2 : Int32) (hat0 : 0 ≤ at_.toInt) (hat1 : at_.toInt + 3 ≤ 8) : ¬ ((at_ + (0 : Int32)) = (at_ + (1 : Int32))) := own_off at_ (0 : Int32) (1 : Int32) (by decide)
theorem own_hit_5_3_15_2 (at_ : Int32) (w0 : Int32) (w1 : Int32) (w2 : Int32) (u0 : Int32) (u1 : Int32) (u2 : Int32) (hat0 : 0 ≤ at_.toInt) (hat1 : at_.toInt + 3 ≤ 8) : (at_ + (0 : Int32)) = at_ := Int32.add_zero _
theorem own_inb_5_3_15_t (at_ : Int32) (w0 : Int32) (w1 : Int32) (w2 : Int32) (u0 : Int32) (u1 : Int32) (u2 : Int32) (hat0 : 0 ≤ at_.toInt) (hat1 : at_.toInt + 3 ≤ 8) (hc22_10 : u0 = w0) : ¬ (at_ + (1 : Int32)) < 0 ∧ (at_ + (1 : Int32)) < (8 : Int32) := own_in at_ _ 1 rfl (by decide) (by omega) (by omega)
theorem own_miss_5_3_15_0_t (at_ : Int32) (w0 : Int32) (w1 : Int32) (w2 : Int32) (u0 : Int32) (u1 : Int32) (u2 : Int32) (hat0 : 0 ≤ at_.toInt) (hat1 : at_.toInt + 3 ≤ 8) (hc22_10 : u0 = w0) : ¬ ((at_ + (1 : Int32)) = (at_ + (2 : Int32))) := own_off at_ (1 : Int32) (2 : Int32) (by decide)
theorem own_hit_5_3_15_1_t (at_ : Int32) (w0 : Int32) (w1 : Int32) (w2 : Int32) (u0 : Int32) (u1 : Int32) (u2 : Int32) (hat0 : 0 ≤ at_.toInt) (hat1 : at_.toInt + 3 ≤ 8) (hc22_10 : u0 = w0) : (at_ + (1 : Int32)) = (at_ + (1 : Int32)) := rfl
theorem own_inb_5_3_15_tt (at_ : Int32) (w0 : Int32) (w1 : Int32) (w2 : Int32) (u0 : Int32) (u1 : Int32) (u2 : Int32) (hat0 : 0 ≤ at_.toInt) (hat1 : at_.toInt + 3 ≤ 8) (hc22_10 : u0 = w0) (hc22_19 : u1 = w1) : ¬ (at_ + (2 : Int32)) < 0 ∧ (at_ + (2 : Int32)) < (8 : Int32) := own_in at_ _ 2 rfl (by decide) (by omega) (by omega)
theorem own_hit_5_3_15_0_tt (at_ : Int32) (w0 : Int32) (w1 : Int32) (w2 : Int32) (u0 : Int32) (u1 : Int32) (u2 : Int32) (hat0 : 0 ≤ at_.toInt) (hat1 : at_.toInt + 3 ≤ 8) (hc22_10 : u0 = w0) (hc22_19 : u1 = w1) : (at_ + (2 : Int32)) = (at_ + (2 : Int32)) := rfl
def Q5_3 (Z : State) (ob : Addr) (br : Addr) (at_ : Int32) (nr : Addr) (ka : ClassId) (kb : ClassId) (vl : List Value) (w0 : Int32) (w1 : Int32) (w2 : Int32) (u0 : Int32) (u1 : Int32) (u2 : Int32) (h0 : Heap) (n0 : Nat) (v : Option Value) (h : Heap) (L : List Loc) : Prop := v = some (.int (if u0 = w0 then (if u1 = w1 then (if u2 = w2 then (1 : Int32) else (0 : Int32)) else (0 : Int32)) else (0 : Int32))) ∧ Fr n0 L ∧ h = h0
set_option maxRecDepth 65536 in
set_option maxHeartbeats 40000000 in
theorem rm5_3 (l : Launch) (Z : State) (a0 : Array Value) (hw : ∀ d ∈ tables_1, d.before a0 Z = true) (ws : List Jvm.Cond) (ob : Addr) (br : Addr) (at_ : Int32) (nr : Addr) (ka : ClassId) (kb : ClassId) (vl : List Value) (w0 : Int32) (w1 : Int32) (w2 : Int32) (u0 : Int32) (u1 : Int32) (u2 : Int32) (h0 : Heap) (n0 : Nat) (Z0 : n0 ≤ h0.size) (I0 : Fld Z h0 ob "com/example/marcotte/marcotte/XmlNames$Name" "bytes" "[B" (.ref nr)) (I1 : Arv Z h0 nr ka .byte (3 : Int32) [(.int w0), (.int w1), (.int w2)] (.int (0 : Int32))) (I2 : Arh Z h0 br kb .byte (8 : Int32) [((at_ + (2 : Int32)), (.int u2)), ((at_ + (1 : Int32)), (.int u1)), (at_, (.int u0))] vl (.int (0 : Int32))) (hat0 : 0 ≤ at_.toInt) (hat1 : at_.toInt + 3 ≤ 8) :
    MetFree l (⟨"com/example/marcotte/marcotte/XmlNames$Name", "writtenAt", "([BI)Z"⟩ : MethodName) (head1 (Jvm.Cond.code (⟨"com/example/marcotte/marcotte/XmlNames$Name", "writtenAt", "([BI)Z"⟩ : MethodName) prog_52_method_2_code 4 (some .boolean) :: ws) ({ frames := 0, cells := 0, slots := 0, locals := 0 } : Room)) (fun a U => a = #[(.ref ob), (.ref br), (.int at_)] ∧ Z.Warmed39 U.vm ∧ U.heap = h0) (fun _ _ _ _ _ => True) (fun _ U o U' => ∃ v L, o = .returned v ∧ Q5_3 Z ob br at_ nr ka kb vl w0 w1 w2 u0 u1 u2 h0 n0 v U'.heap L ∧ FrameEnd U o U' L ({ frames := 0, cells := 0, slots := 0, locals := 0 } : Room).cells ({ frames := 0, cells := 0, slots := 0, locals := 0 } : Room).slots) := by
  refine MetFree.of_bodySF (plainFor_of_name pn_5) hisR ?_
  intro p e s m args below meth c s₁ Bd hml0 hP hK
  obtain ⟨rfl, hZ, hh⟩ := hP
  have hx := Bd.exec
  have hby := Bd.bytes
  have hml : c.maxLocals = 4 := hml0
  have hown : s.vm.findClass "com/example/marcotte/marcotte/XmlNames$Name" = some m.cls := findClass_of_methodNamed Bd.named
  have hnm := (name_of_methodNamed Bd.named Bd.method).1
  have X0 : Stand p l e ({ frames := 0, cells := 0, slots := 0, locals := 0 } : Room) s m #[(.ref ob), (.ref br), (.int at_)] below meth c s₁ [] 0 0 := Stand.of_body Bd
  have e0 : s₁.heap = h0 := by rw [← hh, Bd.state]; rfl
  have N0 := Fr.nil n0
  have K0 : Keep h0 h0 [] := Keep.refl h0 _
  have pre0 : ∀ tq, Steps p.tables e below (s₁.setTop (mkF m 0 #[.val (.ref ob), .val (.ref br), .val (.int at_), .unset] [])) tq → Steps p.tables e below (s₁.setTop (entryFrame m #[(.ref ob), (.ref br), (.int at_)] 4)) tq := fun tq kq => castTop (ef_5_3 m ob br at_) kq
  obtain ⟨T1, X1, e1, st1⟩ := getF X0 hx hZ hown (host := "") (Or.inl (hw _ (List.mem_of_getElem? (i := 33) rfl))) Via.refl e0 I0 (g := (mkF m 4 #[.val (.ref ob), .val (.ref br), .val (.int at_), .val (.int (0 : Int32))] [(.ref ob), (.int (0 : Int32))])) rfl rfl (hb hby d5_4)
  obtain ⟨cl2, Ar2, q2, S2, M2, H2, G2⟩ := id I1
  obtain ⟨cl3, Ar3, q3, S3, M3, H3, G3⟩ := id I2
  have hin3 : ¬ ((at_ + (0 : Int32)) < 0 ∨ cl3.slots.size ≤ ((at_ + (0 : Int32))).toNatClampNeg) := inb_of S3 (own_inb_5_3_15 at_ w0 w1 w2 u0 u1 u2 hat0 hat1)
  have hh4 : ¬ ((at_ + (0 : Int32)) = (at_ + (2 : Int32))) := (own_miss_5_3_15_0 at_ w0 w1 w2 u0 u1 u2 hat0 hat1)
  have hh5 : ¬ ((at_ + (0 : Int32)) = (at_ + (1 : Int32))) := (own_miss_5_3_15_1 at_ w0 w1 w2 u0 u1 u2 hat0 hat1)
  have hh6 : (at_ + (0 : Int32)) = at_ := (own_hit_5_3_15_2 at_ w0 w1 w2 u0 u1 u2 hat0 hat1)
  have hat3 : cl3.slots[((at_ + (0 : Int32))).toNatClampNeg]? = some (.int u0) := atH H3 hin3 (getH_miss (fun y => hin3 (Or.inl y)) hh4 (getH_miss (fun y => hin3 (Or.inl y)) hh5 (getH_hit (fun y => hin3 (Or.inl y)) hh6)))
  obtain ⟨T7, X7, e7, st7⟩ := getF X1 hx hZ hown (host := "") (Or.inl (hw _ (List.mem_of_getElem? (i := 33) rfl))) Via.refl e1 I0 (g := (mkF m 17 #[.val (.ref ob), .val (.ref br), .val (.int at_), .val (.int (0 : Int32))] [(.ref ob), (.int u0)])) rfl rfl (hb hby d5_17)
  obtain ⟨cl8, Ar8, q8, S8, M8, H8, G8⟩ := id I1
  have hin8 : ¬ ((0 : Int32) < 0 ∨ cl8.slots.size ≤ ((0 : Int32)).toNatClampNeg) := inb_of S8 ⟨by decide, by decide⟩
  have hat8 : cl8.slots[((0 : Int32)).toNatClampNeg]? = some (.int w0) := Has.at H8 hin8 rfl
  have pre9 : ∀ tq, Steps p.tables e below (T7.setTop (mkF m 22 #[.val (.ref ob), .val (.ref br), .val (.int at_), .val (.int (0 : Int32))] [(.int w0), (.int u0)])) tq → Steps p.tables e below (s₁.setTop (entryFrame m #[(.ref ob), (.ref br), (.int at_)] 4)) tq := by
    intro tq kt
    refine pre0 _ ?_
    show Steps p.tables e below (s₁.setTop (mkF m 0 #[.val (.ref ob), .val (.ref br), .val (.int at_), .unset] [])) _
    refine XS.iconst X0.here hx rfl (hb hby d5_0) ?_
    show Steps p.tables e below (s₁.setTop (mkF m 1 #[.val (.ref ob), .val (.ref br), .val (.int at_), .unset] [(.int (0 : Int32))])) _
    refine XS.istoreN X0.here hx rfl (hb hby d5_1) rfl (l' := #[.val (.ref ob), .val (.ref br), .val (.int at_), .val (.int (0 : Int32))]) rfl ?_
    show Steps p.tables e below (s₁.setTop (mkF m 2 #[.val (.ref ob), .val (.ref br), .val (.int at_), .val (.int (0 : Int32))] [])) _
    refine XS.iloadN X0.here hx rfl (hb hby d5_2) rfl ?_
    show Steps p.tables e below (s₁.setTop (mkF m 3 #[.val (.ref ob), .val (.ref br), .val (.int at_), .val (.int (0 : Int32))] [(.int (0 : Int32))])) _
    refine XS.aloadN X0.here hx rfl (hb hby d5_3) rfl rfl ?_
    show Steps p.tables e below (s₁.setTop (mkF m 4 #[.val (.ref ob), .val (.ref br), .val (.int at_), .val (.int (0 : Int32))] [(.ref ob), (.int (0 : Int32))])) _
    refine st1 _ ?_
    show Steps p.tables e below (T1.setTop (mkF m 7 #[.val (.ref ob), .val (.ref br), .val (.int at_), .val (.int (0 : Int32))] [(.ref nr), (.int (0 : Int32))])) _
    refine X1.arraylength hx (heq_of e1 Ar2.1) (State.isArrayOf_alike hZ.alike Ar2.2.1) (g := (mkF m 7 #[.val (.ref ob), .val (.ref br), .val (.int at_), .val (.int (0 : Int32))] [(.ref nr), (.int (0 : Int32))])) rfl rfl (hb hby d5_7) _ ?_
    rw [len_of S2 M2]
    show Steps p.tables e below (T1.setTop (mkF m 8 #[.val (.ref ob), .val (.ref br), .val (.int at_), .val (.int (0 : Int32))] [(.int (3 : Int32)), (.int (0 : Int32))])) _
    refine XS.icmpNo X1.here hx rfl (hb hby d5_8) rfl (tlt (by decide)).2.1 ?_
    show Steps p.tables e below (T1.setTop (mkF m 11 #[.val (.ref ob), .val (.ref br), .val (.int at_), .val (.int (0 : Int32))] [])) _
    refine XS.aloadN X1.here hx rfl (hb hby d5_11) rfl rfl ?_
    show Steps p.tables e below (T1.setTop (mkF m 12 #[.val (.ref ob), .val (.ref br), .val (.int at_), .val (.int (0 : Int32))] [(.ref br)])) _
    refine XS.iloadN X1.here hx rfl (hb hby d5_12) rfl ?_
    show Steps p.tables e below (T1.setTop (mkF m 13 #[.val (.ref ob), .val (.ref br), .val (.int at_), .val (.int (0 : Int32))] [(.int at_), (.ref br)])) _
    refine XS.iloadN X1.here hx rfl (hb hby d5_13) rfl ?_
    show Steps p.tables e below (T1.setTop (mkF m 14 #[.val (.ref ob), .val (.ref br), .val (.int at_), .val (.int (0 : Int32))] [(.int (0 : Int32)), (.int at_), (.ref br)])) _
    refine XS.iadd X1.here hx rfl (hb hby d5_14) rfl ?_
    show Steps p.tables e below (T1.setTop (mkF m 15 #[.val (.ref ob), .val (.ref br), .val (.int at_), .val (.int (0 : Int32))] [(.int (at_ + (0 : Int32))), (.ref br)])) _
    refine X1.baloadBytes hx (j := (at_ + (0 : Int32))) (v := (.int u0)) (heq_of e1 Ar3.1) (State.isArrayOf_alike hZ.alike Ar3.2.1) Ar3.2.2 hin3 hat3 (g := (mkF m 15 #[.val (.ref ob), .val (.ref br), .val (.int at_), .val (.int (0 : Int32))] [(.int (at_ + (0 : Int32))), (.ref br)])) rfl rfl (hb hby d5_15) _ ?_
    show Steps p.tables e below (T1.setTop (mkF m 16 #[.val (.ref ob), .val (.ref br), .val (.int at_), .val (.int (0 : Int32))] [(.int u0)])) _
    refine XS.aloadN X1.here hx rfl (hb hby d5_16) rfl rfl ?_
    show Steps p.tables e below (T1.setTop (mkF m 17 #[.val (.ref ob), .val (.ref br), .val (.int at_), .val (.int (0 : Int32))] [(.ref ob), (.int u0)])) _
    refine st7 _ ?_
    show Steps p.tables e below (T7.setTop (mkF m 20 #[.val (.ref ob), .val (.ref br), .val (.int at_), .val (.int (0 : Int32))] [(.ref nr), (.int u0)])) _
    refine XS.iloadN X7.here hx rfl (hb hby d5_20) rfl ?_
    show Steps p.tables e below (T7.setTop (mkF m 21 #[.val (.ref ob), .val (.ref br), .val (.int at_), .val (.int (0 : Int32))] [(.int (0 : Int32)), (.ref nr), (.int u0)])) _
    refine X7.baloadBytes hx (j := (0 : Int32)) (v := (.int w0)) (heq_of e7 Ar8.1) (State.isArrayOf_alike hZ.alike Ar8.2.1) Ar8.2.2 hin8 hat8 (g := (mkF m 21 #[.val (.ref ob), .val (.ref br), .val (.int at_), .val (.int (0 : Int32))] [(.int (0 : Int32)), (.ref nr), (.int u0)])) rfl rfl (hb hby d5_21) _ ?_
    show Steps p.tables e below (T7.setTop (mkF m 22 #[.val (.ref ob), .val (.ref br), .val (.int at_), .val (.int (0 : Int32))] [(.int w0), (.int u0)])) _
    exact kt
  by_cases hc22_10 : u0 = w0
  · skip
    obtain ⟨T11, X11, e11, st11⟩ := getF X7 hx hZ hown (host := "") (Or.inl (hw _ (List.mem_of_getElem? (i := 33) rfl))) Via.refl e7 I0 (g := (mkF m 4 #[.val (.ref ob), .val (.ref br), .val (.int at_), .val (.int (1 : Int32))] [(.ref ob), (.int (1 : Int32))])) rfl rfl (hb hby d5_4)
    obtain ⟨cl12, Ar12, q12, S12, M12, H12, G12⟩ := id I1
    obtain ⟨cl13, Ar13, q13, S13, M13, H13, G13⟩ := id I2
    have hin13 : ¬ ((at_ + (1 : Int32)) < 0 ∨ cl13.slots.size ≤ ((at_ + (1 : Int32))).toNatClampNeg) := inb_of S13 (own_inb_5_3_15_t at_ w0 w1 w2 u0 u1 u2 hat0 hat1 hc22_10)
    have hh14 : ¬ ((at_ + (1 : Int32)) = (at_ + (2 : Int32))) := (own_miss_5_3_15_0_t at_ w0 w1 w2 u0 u1 u2 hat0 hat1 hc22_10)
    have hh15 : (at_ + (1 : Int32)) = (at_ + (1 : Int32)) := (own_hit_5_3_15_1_t at_ w0 w1 w2 u0 u1 u2 hat0 hat1 hc22_10)
    have hat13 : cl13.slots[((at_ + (1 : Int32))).toNatClampNeg]? = some (.int u1) := atH H13 hin13 (getH_miss (fun y => hin13 (Or.inl y)) hh14 (getH_hit (fun y => hin13 (Or.inl y)) hh15))
    obtain ⟨T16, X16, e16, st16⟩ := getF X11 hx hZ hown (host := "") (Or.inl (hw _ (List.mem_of_getElem? (i := 33) rfl))) Via.refl e11 I0 (g := (mkF m 17 #[.val (.ref ob), .val (.ref br), .val (.int at_), .val (.int (1 : Int32))] [(.ref ob), (.int u1)])) rfl rfl (hb hby d5_17)
    obtain ⟨cl17, Ar17, q17, S17, M17, H17, G17⟩ := id I1
    have hin17 : ¬ ((1 : Int32) < 0 ∨ cl17.slots.size ≤ ((1 : Int32)).toNatClampNeg) := inb_of S17 ⟨by decide, by decide⟩
    have hat17 : cl17.slots[((1 : Int32)).toNatClampNeg]? = some (.int w1) := Has.at H17 hin17 rfl
    have pre18 : ∀ tq, Steps p.tables e below (T16.setTop (mkF m 22 #[.val (.ref ob), .val (.ref br), .val (.int at_), .val (.int (1 : Int32))] [(.int w1), (.int u1)])) tq → Steps p.tables e below (s₁.setTop (entryFrame m #[(.ref ob), (.ref br), (.int at_)] 4)) tq := by
      intro tq kt
      refine pre9 _ ?_
      show Steps p.tables e below (T7.setTop (mkF m 22 #[.val (.ref ob), .val (.ref br), .val (.int at_), .val (.int (0 : Int32))] [(.int w0), (.int u0)])) _
      refine XS.icmpYes X7.here hx rfl (pc0 := 22) (pc' := 27) rfl (hb hby d5_22) rfl (teq hc22_10).1 (by decide) (by decide) ?_
      show Steps p.tables e below (T7.setTop (mkF m 27 #[.val (.ref ob), .val (.ref br), .val (.int at_), .val (.int (0 : Int32))] [])) _
      refine XS.iinc X7.here hx rfl (hb hby d5_27) rfl (l' := #[.val (.ref ob), .val (.ref br), .val (.int at_), .val (.int (1 : Int32))]) rfl ?_
      show Steps p.tables e below (T7.setTop (mkF m 30 #[.val (.ref ob), .val (.ref br), .val (.int at_), .val (.int (1 : Int32))] [])) _
      refine XS.goto X7.here hx rfl (pc0 := 30) (pc' := 2) rfl (hb hby d5_30) (by decide) (by decide) ?_
      show Steps p.tables e below (T7.setTop (mkF m 2 #[.val (.ref ob), .val (.ref br), .val (.int at_), .val (.int (1 : Int32))] [])) _
      refine XS.iloadN X7.here hx rfl (hb hby d5_2) rfl ?_
      show Steps p.tables e below (T7.setTop (mkF m 3 #[.val (.ref ob), .val (.ref br), .val (.int at_), .val (.int (1 : Int32))] [(.int (1 : Int32))])) _
      refine XS.aloadN X7.here hx rfl (hb hby d5_3) rfl rfl ?_
      show Steps p.tables e below (T7.setTop (mkF m 4 #[.val (.ref ob), .val (.ref br), .val (.int at_), .val (.int (1 : Int32))] [(.ref ob), (.int (1 : Int32))])) _
      refine st11 _ ?_
      show Steps p.tables e below (T11.setTop (mkF m 7 #[.val (.ref ob), .val (.ref br), .val (.int at_), .val (.int (1 : Int32))] [(.ref nr), (.int (1 : Int32))])) _
      refine X11.arraylength hx (heq_of e11 Ar12.1) (State.isArrayOf_alike hZ.alike Ar12.2.1) (g := (mkF m 7 #[.val (.ref ob), .val (.ref br), .val (.int at_), .val (.int (1 : Int32))] [(.ref nr), (.int (1 : Int32))])) rfl rfl (hb hby d5_7) _ ?_
      rw [len_of S12 M12]
      show Steps p.tables e below (T11.setTop (mkF m 8 #[.val (.ref ob), .val (.ref br), .val (.int at_), .val (.int (1 : Int32))] [(.int (3 : Int32)), (.int (1 : Int32))])) _
      refine XS.icmpNo X11.here hx rfl (hb hby d5_8) rfl (tlt (by decide)).2.1 ?_
      show Steps p.tables e below (T11.setTop (mkF m 11 #[.val (.ref ob), .val (.ref br), .val (.int at_), .val (.int (1 : Int32))] [])) _
      refine XS.aloadN X11.here hx rfl (hb hby d5_11) rfl rfl ?_
      show Steps p.tables e below (T11.setTop (mkF m 12 #[.val (.ref ob), .val (.ref br), .val (.int at_), .val (.int (1 : Int32))] [(.ref br)])) _
      refine XS.iloadN X11.here hx rfl (hb hby d5_12) rfl ?_
      show Steps p.tables e below (T11.setTop (mkF m 13 #[.val (.ref ob), .val (.ref br), .val (.int at_), .val (.int (1 : Int32))] [(.int at_), (.ref br)])) _
      refine XS.iloadN X11.here hx rfl (hb hby d5_13) rfl ?_
      show Steps p.tables e below (T11.setTop (mkF m 14 #[.val (.ref ob), .val (.ref br), .val (.int at_), .val (.int (1 : Int32))] [(.int (1 : Int32)), (.int at_), (.ref br)])) _
      refine XS.iadd X11.here hx rfl (hb hby d5_14) rfl ?_
      show Steps p.tables e below (T11.setTop (mkF m 15 #[.val (.ref ob), .val (.ref br), .val (.int at_), .val (.int (1 : Int32))] [(.int (at_ + (1 : Int32))), (.ref br)])) _
      refine X11.baloadBytes hx (j := (at_ + (1 : Int32))) (v := (.int u1)) (heq_of e11 Ar13.1) (State.isArrayOf_alike hZ.alike Ar13.2.1) Ar13.2.2 hin13 hat13 (g := (mkF m 15 #[.val (.ref ob), .val (.ref br), .val (.int at_), .val (.int (1 : Int32))] [(.int (at_ + (1 : Int32))), (.ref br)])) rfl rfl (hb hby d5_15) _ ?_
      show Steps p.tables e below (T11.setTop (mkF m 16 #[.val (.ref ob), .val (.ref br), .val (.int at_), .val (.int (1 : Int32))] [(.int u1)])) _
      refine XS.aloadN X11.here hx rfl (hb hby d5_16) rfl rfl ?_
      show Steps p.tables e below (T11.setTop (mkF m 17 #[.val (.ref ob), .val (.ref br), .val (.int at_), .val (.int (1 : Int32))] [(.ref ob), (.int u1)])) _
      refine st16 _ ?_
      show Steps p.tables e below (T16.setTop (mkF m 20 #[.val (.ref ob), .val (.ref br), .val (.int at_), .val (.int (1 : Int32))] [(.ref nr), (.int u1)])) _
      refine XS.iloadN X16.here hx rfl (hb hby d5_20) rfl ?_
      show Steps p.tables e below (T16.setTop (mkF m 21 #[.val (.ref ob), .val (.ref br), .val (.int at_), .val (.int (1 : Int32))] [(.int (1 : Int32)), (.ref nr), (.int u1)])) _
      refine X16.baloadBytes hx (j := (1 : Int32)) (v := (.int w1)) (heq_of e16 Ar17.1) (State.isArrayOf_alike hZ.alike Ar17.2.1) Ar17.2.2 hin17 hat17 (g := (mkF m 21 #[.val (.ref ob), .val (.ref br), .val (.int at_), .val (.int (1 : Int32))] [(.int (1 : Int32)), (.ref nr), (.int u1)])) rfl rfl (hb hby d5_21) _ ?_
      show Steps p.tables e below (T16.setTop (mkF m 22 #[.val (.ref ob), .val (.ref br), .val (.int at_), .val (.int (1 : Int32))] [(.int w1), (.int u1)])) _
      exact kt
    by_cases hc22_19 : u1 = w1
    · skip
      obtain ⟨T20, X20, e20, st20⟩ := getF X16 hx hZ hown (host := "") (Or.inl (hw _ (List.mem_of_getElem? (i := 33) rfl))) Via.refl e16 I0 (g := (mkF m 4 #[.val (.ref ob), .val (.ref br), .val (.int at_), .val (.int (2 : Int32))] [(.ref ob), (.int (2 : Int32))])) rfl rfl (hb hby d5_4)
      obtain ⟨cl21, Ar21, q21, S21, M21, H21, G21⟩ := id I1
      obtain ⟨cl22, Ar22, q22, S22, M22, H22, G22⟩ := id I2
      have hin22 : ¬ ((at_ + (2 : Int32)) < 0 ∨ cl22.slots.size ≤ ((at_ + (2 : Int32))).toNatClampNeg) := inb_of S22 (own_inb_5_3_15_tt at_ w0 w1 w2 u0 u1 u2 hat0 hat1 hc22_10 hc22_19)
      have hh23 : (at_ + (2 : Int32)) = (at_ + (2 : Int32)) := (own_hit_5_3_15_0_tt at_ w0 w1 w2 u0 u1 u2 hat0 hat1 hc22_10 hc22_19)
      have hat22 : cl22.slots[((at_ + (2 : Int32))).toNatClampNeg]? = some (.int u2) := atH H22 hin22 (getH_hit (fun y => hin22 (Or.inl y)) hh23)
      obtain ⟨T24, X24, e24, st24⟩ := getF X20 hx hZ hown (host := "") (Or.inl (hw _ (List.mem_of_getElem? (i := 33) rfl))) Via.refl e20 I0 (g := (mkF m 17 #[.val (.ref ob), .val (.ref br), .val (.int at_), .val (.int (2 : Int32))] [(.ref ob), (.int u2)])) rfl rfl (hb hby d5_17)
      obtain ⟨cl25, Ar25, q25, S25, M25, H25, G25⟩ := id I1
      have hin25 : ¬ ((2 : Int32) < 0 ∨ cl25.slots.size ≤ ((2 : Int32)).toNatClampNeg) := inb_of S25 ⟨by decide, by decide⟩
      have hat25 : cl25.slots[((2 : Int32)).toNatClampNeg]? = some (.int w2) := Has.at H25 hin25 rfl
      have pre26 : ∀ tq, Steps p.tables e below (T24.setTop (mkF m 22 #[.val (.ref ob), .val (.ref br), .val (.int at_), .val (.int (2 : Int32))] [(.int w2), (.int u2)])) tq → Steps p.tables e below (s₁.setTop (entryFrame m #[(.ref ob), (.ref br), (.int at_)] 4)) tq := by
        intro tq kt
        refine pre18 _ ?_
        show Steps p.tables e below (T16.setTop (mkF m 22 #[.val (.ref ob), .val (.ref br), .val (.int at_), .val (.int (1 : Int32))] [(.int w1), (.int u1)])) _
        refine XS.icmpYes X16.here hx rfl (pc0 := 22) (pc' := 27) rfl (hb hby d5_22) rfl (teq hc22_19).1 (by decide) (by decide) ?_
        show Steps p.tables e below (T16.setTop (mkF m 27 #[.val (.ref ob), .val (.ref br), .val (.int at_), .val (.int (1 : Int32))] [])) _
        refine XS.iinc X16.here hx rfl (hb hby d5_27) rfl (l' := #[.val (.ref ob), .val (.ref br), .val (.int at_), .val (.int (2 : Int32))]) rfl ?_
        show Steps p.tables e below (T16.setTop (mkF m 30 #[.val (.ref ob), .val (.ref br), .val (.int at_), .val (.int (2 : Int32))] [])) _
        refine XS.goto X16.here hx rfl (pc0 := 30) (pc' := 2) rfl (hb hby d5_30) (by decide) (by decide) ?_
        show Steps p.tables e below (T16.setTop (mkF m 2 #[.val (.ref ob), .val (.ref br), .val (.int at_), .val (.int (2 : Int32))] [])) _
        refine XS.iloadN X16.here hx rfl (hb hby d5_2) rfl ?_
        show Steps p.tables e below (T16.setTop (mkF m 3 #[.val (.ref ob), .val (.ref br), .val (.int at_), .val (.int (2 : Int32))] [(.int (2 : Int32))])) _
        refine XS.aloadN X16.here hx rfl (hb hby d5_3) rfl rfl ?_
        show Steps p.tables e below (T16.setTop (mkF m 4 #[.val (.ref ob), .val (.ref br), .val (.int at_), .val (.int (2 : Int32))] [(.ref ob), (.int (2 : Int32))])) _
        refine st20 _ ?_
        show Steps p.tables e below (T20.setTop (mkF m 7 #[.val (.ref ob), .val (.ref br), .val (.int at_), .val (.int (2 : Int32))] [(.ref nr), (.int (2 : Int32))])) _
        refine X20.arraylength hx (heq_of e20 Ar21.1) (State.isArrayOf_alike hZ.alike Ar21.2.1) (g := (mkF m 7 #[.val (.ref ob), .val (.ref br), .val (.int at_), .val (.int (2 : Int32))] [(.ref nr), (.int (2 : Int32))])) rfl rfl (hb hby d5_7) _ ?_
        rw [len_of S21 M21]
        show Steps p.tables e below (T20.setTop (mkF m 8 #[.val (.ref ob), .val (.ref br), .val (.int at_), .val (.int (2 : Int32))] [(.int (3 : Int32)), (.int (2 : Int32))])) _
        refine XS.icmpNo X20.here hx rfl (hb hby d5_8) rfl (tlt (by decide)).2.1 ?_
        show Steps p.tables e below (T20.setTop (mkF m 11 #[.val (.ref ob), .val (.ref br), .val (.int at_), .val (.int (2 : Int32))] [])) _
        refine XS.aloadN X20.here hx rfl (hb hby d5_11) rfl rfl ?_
        show Steps p.tables e below (T20.setTop (mkF m 12 #[.val (.ref ob), .val (.ref br), .val (.int at_), .val (.int (2 : Int32))] [(.ref br)])) _
        refine XS.iloadN X20.here hx rfl (hb hby d5_12) rfl ?_
        show Steps p.tables e below (T20.setTop (mkF m 13 #[.val (.ref ob), .val (.ref br), .val (.int at_), .val (.int (2 : Int32))] [(.int at_), (.ref br)])) _
        refine XS.iloadN X20.here hx rfl (hb hby d5_13) rfl ?_
        show Steps p.tables e below (T20.setTop (mkF m 14 #[.val (.ref ob), .val (.ref br), .val (.int at_), .val (.int (2 : Int32))] [(.int (2 : Int32)), (.int at_), (.ref br)])) _
        refine XS.iadd X20.here hx rfl (hb hby d5_14) rfl ?_
        show Steps p.tables e below (T20.setTop (mkF m 15 #[.val (.ref ob), .val (.ref br), .val (.int at_), .val (.int (2 : Int32))] [(.int (at_ + (2 : Int32))), (.ref br)])) _
        refine X20.baloadBytes hx (j := (at_ + (2 : Int32))) (v := (.int u2)) (heq_of e20 Ar22.1) (State.isArrayOf_alike hZ.alike Ar22.2.1) Ar22.2.2 hin22 hat22 (g := (mkF m 15 #[.val (.ref ob), .val (.ref br), .val (.int at_), .val (.int (2 : Int32))] [(.int (at_ + (2 : Int32))), (.ref br)])) rfl rfl (hb hby d5_15) _ ?_
        show Steps p.tables e below (T20.setTop (mkF m 16 #[.val (.ref ob), .val (.ref br), .val (.int at_), .val (.int (2 : Int32))] [(.int u2)])) _
        refine XS.aloadN X20.here hx rfl (hb hby d5_16) rfl rfl ?_
        show Steps p.tables e below (T20.setTop (mkF m 17 #[.val (.ref ob), .val (.ref br), .val (.int at_), .val (.int (2 : Int32))] [(.ref ob), (.int u2)])) _
        refine st24 _ ?_
        show Steps p.tables e below (T24.setTop (mkF m 20 #[.val (.ref ob), .val (.ref br), .val (.int at_), .val (.int (2 : Int32))] [(.ref nr), (.int u2)])) _
        refine XS.iloadN X24.here hx rfl (hb hby d5_20) rfl ?_
        show Steps p.tables e below (T24.setTop (mkF m 21 #[.val (.ref ob), .val (.ref br), .val (.int at_), .val (.int (2 : Int32))] [(.int (2 : Int32)), (.ref nr), (.int u2)])) _
        refine X24.baloadBytes hx (j := (2 : Int32)) (v := (.int w2)) (heq_of e24 Ar25.1) (State.isArrayOf_alike hZ.alike Ar25.2.1) Ar25.2.2 hin25 hat25 (g := (mkF m 21 #[.val (.ref ob), .val (.ref br), .val (.int at_), .val (.int (2 : Int32))] [(.int (2 : Int32)), (.ref nr), (.int u2)])) rfl rfl (hb hby d5_21) _ ?_
        show Steps p.tables e below (T24.setTop (mkF m 22 #[.val (.ref ob), .val (.ref br), .val (.int at_), .val (.int (2 : Int32))] [(.int w2), (.int u2)])) _
        exact kt
      by_cases hc22_27 : u2 = w2
      · skip
        obtain ⟨T28, X28, e28, st28⟩ := getF X24 hx hZ hown (host := "") (Or.inl (hw _ (List.mem_of_getElem? (i := 33) rfl))) Via.refl e24 I0 (g := (mkF m 4 #[.val (.ref ob), .val (.ref br), .val (.int at_), .val (.int (3 : Int32))] [(.ref ob), (.int (3 : Int32))])) rfl rfl (hb hby d5_4)
        obtain ⟨cl29, Ar29, q29, S29, M29, H29, G29⟩ := id I1
        obtain ⟨fs, hr, hrun, hended, hW, hsame⟩ := X28.leave (v := some (Value.int (1 : Int32))) (fun h => by rw [Bd.returns] at h; cases h)
        have hres30 : (1 : Int32) = (if u0 = w0 then (if u1 = w1 then (if u2 = w2 then (1 : Int32) else (0 : Int32)) else (0 : Int32)) else (0 : Int32)) := by simp only [if_pos hc22_10, if_pos hc22_19, if_pos hc22_27]
        refine ⟨_, _, pre26 _ ?_, hrun, hended, _, _, rfl, ?_, ⟨_, rfl⟩, hW, hsame.mono (by decide) (by decide)⟩
        · skip
          show Steps p.tables e below (T24.setTop (mkF m 22 #[.val (.ref ob), .val (.ref br), .val (.int at_), .val (.int (2 : Int32))] [(.int w2), (.int u2)])) _
          refine XS.icmpYes X24.here hx rfl (pc0 := 22) (pc' := 27) rfl (hb hby d5_22) rfl (teq hc22_27).1 (by decide) (by decide) ?_
          show Steps p.tables e below (T24.setTop (mkF m 27 #[.val (.ref ob), .val (.ref br), .val (.int at_), .val (.int (2 : Int32))] [])) _
          refine XS.iinc X24.here hx rfl (hb hby d5_27) rfl (l' := #[.val (.ref ob), .val (.ref br), .val (.int at_), .val (.int (3 : Int32))]) rfl ?_
          show Steps p.tables e below (T24.setTop (mkF m 30 #[.val (.ref ob), .val (.ref br), .val (.int at_), .val (.int (3 : Int32))] [])) _
          refine XS.goto X24.here hx rfl (pc0 := 30) (pc' := 2) rfl (hb hby d5_30) (by decide) (by decide) ?_
          show Steps p.tables e below (T24.setTop (mkF m 2 #[.val (.ref ob), .val (.ref br), .val (.int at_), .val (.int (3 : Int32))] [])) _
          refine XS.iloadN X24.here hx rfl (hb hby d5_2) rfl ?_
          show Steps p.tables e below (T24.setTop (mkF m 3 #[.val (.ref ob), .val (.ref br), .val (.int at_), .val (.int (3 : Int32))] [(.int (3 : Int32))])) _
          refine XS.aloadN X24.here hx rfl (hb hby d5_3) rfl rfl ?_
          show Steps p.tables e below (T24.setTop (mkF m 4 #[.val (.ref ob), .val (.ref br), .val (.int at_), .val (.int (3 : Int32))] [(.ref ob), (.int (3 : Int32))])) _
          refine st28 _ ?_
          show Steps p.tables e below (T28.setTop (mkF m 7 #[.val (.ref ob), .val (.ref br), .val (.int at_), .val (.int (3 : Int32))] [(.ref nr), (.int (3 : Int32))])) _
          refine X28.arraylength hx (heq_of e28 Ar29.1) (State.isArrayOf_alike hZ.alike Ar29.2.1) (g := (mkF m 7 #[.val (.ref ob), .val (.ref br), .val (.int at_), .val (.int (3 : Int32))] [(.ref nr), (.int (3 : Int32))])) rfl rfl (hb hby d5_7) _ ?_
          rw [len_of S29 M29]
          show Steps p.tables e below (T28.setTop (mkF m 8 #[.val (.ref ob), .val (.ref br), .val (.int at_), .val (.int (3 : Int32))] [(.int (3 : Int32)), (.int (3 : Int32))])) _
          refine XS.icmpYes X28.here hx rfl (pc0 := 8) (pc' := 33) rfl (hb hby d5_8) rfl (flt (by decide)).2.1 (by decide) (by decide) ?_
          show Steps p.tables e below (T28.setTop (mkF m 33 #[.val (.ref ob), .val (.ref br), .val (.int at_), .val (.int (3 : Int32))] [])) _
          refine XS.iconst X28.here hx rfl (hb hby d5_33) ?_
          show Steps p.tables e below (T28.setTop (mkF m 34 #[.val (.ref ob), .val (.ref br), .val (.int at_), .val (.int (3 : Int32))] [(.int (1 : Int32))])) _
          exact retN X28 hx (t := .boolean) Bd.returns (by simp) (hb hby d5_34) hr
        · show Q5_3 Z ob br at_ nr ka kb vl w0 w1 w2 u0 u1 u2 h0 n0 _ T28.heap _
          rw [e28]
          exact ⟨congrArg (fun z => some (Value.int z)) hres30, N0, rfl⟩
      · skip
        obtain ⟨fs, hr, hrun, hended, hW, hsame⟩ := X24.leave (v := some (Value.int (0 : Int32))) (fun h => by rw [Bd.returns] at h; cases h)
        have hres31 : (0 : Int32) = (if u0 = w0 then (if u1 = w1 then (if u2 = w2 then (1 : Int32) else (0 : Int32)) else (0 : Int32)) else (0 : Int32)) := by simp only [if_pos hc22_10, if_pos hc22_19, if_neg hc22_27]
        refine ⟨_, _, pre26 _ ?_, hrun, hended, _, _, rfl, ?_, ⟨_, rfl⟩, hW, hsame.mono (by decide) (by decide)⟩
        · skip
          show Steps p.tables e below (T24.setTop (mkF m 22 #[.val (.ref ob), .val (.ref br), .val (.int at_), .val (.int (2 : Int32))] [(.int w2), (.int u2)])) _
          refine XS.icmpNo X24.here hx rfl (hb hby d5_22) rfl (feq hc22_27).1 ?_
          show Steps p.tables e below (T24.setTop (mkF m 25 #[.val (.ref ob), .val (.ref br), .val (.int at_), .val (.int (2 : Int32))] [])) _
          refine XS.iconst X24.here hx rfl (hb hby d5_25) ?_
          show Steps p.tables e below (T24.setTop (mkF m 26 #[.val (.ref ob), .val (.ref br), .val (.int at_), .val (.int (2 : Int32))] [(.int (0 : Int32))])) _
          exact retN X24 hx (t := .boolean) Bd.returns (by simp) (hb hby d5_26) hr
        · show Q5_3 Z ob br at_ nr ka kb vl w0 w1 w2 u0 u1 u2 h0 n0 _ T24.heap _
          rw [e24]
          exact ⟨congrArg (fun z => some (Value.int z)) hres31, N0, rfl⟩
    · skip
      obtain ⟨fs, hr, hrun, hended, hW, hsame⟩ := X16.leave (v := some (Value.int (0 : Int32))) (fun h => by rw [Bd.returns] at h; cases h)
      have hres32 : (0 : Int32) = (if u0 = w0 then (if u1 = w1 then (if u2 = w2 then (1 : Int32) else (0 : Int32)) else (0 : Int32)) else (0 : Int32)) := by simp only [if_pos hc22_10, if_neg hc22_19]
      refine ⟨_, _, pre18 _ ?_, hrun, hended, _, _, rfl, ?_, ⟨_, rfl⟩, hW, hsame.mono (by decide) (by decide)⟩
      · skip
        show Steps p.tables e below (T16.setTop (mkF m 22 #[.val (.ref ob), .val (.ref br), .val (.int at_), .val (.int (1 : Int32))] [(.int w1), (.int u1)])) _
        refine XS.icmpNo X16.here hx rfl (hb hby d5_22) rfl (feq hc22_19).1 ?_
        show Steps p.tables e below (T16.setTop (mkF m 25 #[.val (.ref ob), .val (.ref br), .val (.int at_), .val (.int (1 : Int32))] [])) _
        refine XS.iconst X16.here hx rfl (hb hby d5_25) ?_
        show Steps p.tables e below (T16.setTop (mkF m 26 #[.val (.ref ob), .val (.ref br), .val (.int at_), .val (.int (1 : Int32))] [(.int (0 : Int32))])) _
        exact retN X16 hx (t := .boolean) Bd.returns (by simp) (hb hby d5_26) hr
      · show Q5_3 Z ob br at_ nr ka kb vl w0 w1 w2 u0 u1 u2 h0 n0 _ T16.heap _
        rw [e16]
        exact ⟨congrArg (fun z => some (Value.int z)) hres32, N0, rfl⟩
  · skip
    obtain ⟨fs, hr, hrun, hended, hW, hsame⟩ := X7.leave (v := some (Value.int (0 : Int32))) (fun h => by rw [Bd.returns] at h; cases h)
    have hres33 : (0 : Int32) = (if u0 = w0 then (if u1 = w1 then (if u2 = w2 then (1 : Int32) else (0 : Int32)) else (0 : Int32)) else (0 : Int32)) := by simp only [if_neg hc22_10]
    refine ⟨_, _, pre9 _ ?_, hrun, hended, _, _, rfl, ?_, ⟨_, rfl⟩, hW, hsame.mono (by decide) (by decide)⟩
    · skip
      show Steps p.tables e below (T7.setTop (mkF m 22 #[.val (.ref ob), .val (.ref br), .val (.int at_), .val (.int (0 : Int32))] [(.int w0), (.int u0)])) _
      refine XS.icmpNo X7.here hx rfl (hb hby d5_22) rfl (feq hc22_10).1 ?_
      show Steps p.tables e below (T7.setTop (mkF m 25 #[.val (.ref ob), .val (.ref br), .val (.int at_), .val (.int (0 : Int32))] [])) _
      refine XS.iconst X7.here hx rfl (hb hby d5_25) ?_
      show Steps p.tables e below (T7.setTop (mkF m 26 #[.val (.ref ob), .val (.ref br), .val (.int at_), .val (.int (0 : Int32))] [(.int (0 : Int32))])) _
      exact retN X7 hx (t := .boolean) Bd.returns (by simp) (hb hby d5_26) hr
    · show Q5_3 Z ob br at_ nr ka kb vl w0 w1 w2 u0 u1 u2 h0 n0 _ T7.heap _
      rw [e7]
      exact ⟨congrArg (fun z => some (Value.int z)) hres33, N0, rfl⟩
theorem ef_5_4 (m : MethodId) (x0 : Addr) (x1 : Addr) (x2 : Int32) : entryFrame m #[(.ref x0), (.ref x1), (.int x2)] 4 = mkF m 0 #[.val (.ref x0), .val (.ref x1), .val (.int x2), .unset] [] := by first | (simp [entryFrame, mkF, argsToLocals, Value.category]; done) | rfl
theorem own_inb_5_4_15 (at_ : Int32) (w0 : Int32) (w1 : Int32) (w2 : Int32) (w3 : Int32) (u0 : Int32) (u1 : Int32) (u2 : Int32) (u3 : Int32) (hat0 : 0 ≤ at_.toInt) (hat1 : at_.toInt + 4 ≤ 8) : ¬ (at_ + (0 : Int32)) < 0 ∧ (at_ + (0 : Int32)) < (8 : Int32) := own_in at_ _ 0 rfl (by decide) (by omega) (by omega)
theorem own_miss_5_4_15_0 (at_ : Int32) (w0 : Int32) (w1 : Int32) (w2 : Int32) (w3 : Int32) (u0 : Int32) (u1 : Int32) (u2 : Int32) (u3 : Int32) (hat0 : 0 ≤ at_.toInt) (hat1 : at_.toInt + 4 ≤ 8) : ¬ ((at_ + (0 : Int32)) = (at_ + (3 : Int32))) := own_off at_ (0 : Int32) (3 : Int32) (by decide)
theorem own_miss_5_4_15_1 (at_ : Int32) (w0 : Int32) (w1 : Int32) (w2 : Int32) (w3 : Int32) (u0 : Int32) (u1 : Int32) (u2 : Int32) (u3 : Int32) (hat0 : 0 ≤ at_.toInt) (hat1 : at_.toInt + 4 ≤ 8) : ¬ ((at_ + (0 : Int32)) = (at_ + (2 : Int32))) := own_off at_ (0 : Int32) (2 : Int32) (by decide)
theorem own_miss_5_4_15_2 (at_ : Int32) (w0 : Int32) (w1 : Int32) (w2 : Int32) (w3 : Int32) (u0 : Int32) (u1 : Int32) (u2 : Int32) (u3 : Int32) (hat0 : 0 ≤ at_.toInt) (hat1 : at_.toInt + 4 ≤ 8) : ¬ ((at_ + (0 : Int32)) = (at_ + (1 : Int32))) := own_off at_ (0 : Int32) (1 : Int32) (by decide)
theorem own_hit_5_4_15_3 (at_ : Int32) (w0 : Int32) (w1 : Int32) (w2 : Int32) (w3 : Int32) (u0 : Int32) (u1 : Int32) (u2 : Int32) (u3 : Int32) (hat0 : 0 ≤ at_.toInt) (hat1 : at_.toInt + 4 ≤ 8) : (at_ + (0 : Int32)) = at_ := Int32.add_zero _
theorem own_inb_5_4_15_t (at_ : Int32) (w0 : Int32) (w1 : Int32) (w2 : Int32) (w3 : Int32) (u0 : Int32) (u1 : Int32) (u2 : Int32) (u3 : Int32) (hat0 : 0 ≤ at_.toInt) (hat1 : at_.toInt + 4 ≤ 8) (hc22_11 : u0 = w0) : ¬ (at_ + (1 : Int32)) < 0 ∧ (at_ + (1 : Int32)) < (8 : Int32) := own_in at_ _ 1 rfl (by decide) (by omega) (by omega)
theorem own_miss_5_4_15_0_t (at_ : Int32) (w0 : Int32) (w1 : Int32) (w2 : Int32) (w3 : Int32) (u0 : Int32) (u1 : Int32) (u2 : Int32) (u3 : Int32) (hat0 : 0 ≤ at_.toInt) (hat1 : at_.toInt + 4 ≤ 8) (hc22_11 : u0 = w0) : ¬ ((at_ + (1 : Int32)) = (at_ + (3 : Int32))) := own_off at_ (1 : Int32) (3 : Int32) (by decide)
theorem own_miss_5_4_15_1_t (at_ : Int32) (w0 : Int32) (w1 : Int32) (w2 : Int32) (w3 : Int32) (u0 : Int32) (u1 : Int32) (u2 : Int32) (u3 : Int32) (hat0 : 0 ≤ at_.toInt) (hat1 : at_.toInt + 4 ≤ 8) (hc22_11 : u0 = w0) : ¬ ((at_ + (1 : Int32)) = (at_ + (2 : Int32))) := own_off at_ (1 : Int32) (2 : Int32) (by decide)
theorem own_hit_5_4_15_2_t (at_ : Int32) (w0 : Int32) (w1 : Int32) (w2 : Int32) (w3 : Int32) (u0 : Int32) (u1 : Int32) (u2 : Int32) (u3 : Int32) (hat0 : 0 ≤ at_.toInt) (hat1 : at_.toInt + 4 ≤ 8) (hc22_11 : u0 = w0) : (at_ + (1 : Int32)) = (at_ + (1 : Int32)) := rfl
theorem own_inb_5_4_15_tt (at_ : Int32) (w0 : Int32) (w1 : Int32) (w2 : Int32) (w3 : Int32) (u0 : Int32) (u1 : Int32) (u2 : Int32) (u3 : Int32) (hat0 : 0 ≤ at_.toInt) (hat1 : at_.toInt + 4 ≤ 8) (hc22_11 : u0 = w0) (hc22_21 : u1 = w1) : ¬ (at_ + (2 : Int32)) < 0 ∧ (at_ + (2 : Int32)) < (8 : Int32) := own_in at_ _ 2 rfl (by decide) (by omega) (by omega)
theorem own_miss_5_4_15_0_tt (at_ : Int32) (w0 : Int32) (w1 : Int32) (w2 : Int32) (w3 : Int32) (u0 : Int32) (u1 : Int32) (u2 : Int32) (u3 : Int32) (hat0 : 0 ≤ at_.toInt) (hat1 : at_.toInt + 4 ≤ 8) (hc22_11 : u0 = w0) (hc22_21 : u1 = w1) : ¬ ((at_ + (2 : Int32)) = (at_ + (3 : Int32))) := own_off at_ (2 : Int32) (3 : Int32) (by decide)
theorem own_hit_5_4_15_1_tt (at_ : Int32) (w0 : Int32) (w1 : Int32) (w2 : Int32) (w3 : Int32) (u0 : Int32) (u1 : Int32) (u2 : Int32) (u3 : Int32) (hat0 : 0 ≤ at_.toInt) (hat1 : at_.toInt + 4 ≤ 8) (hc22_11 : u0 = w0) (hc22_21 : u1 = w1) : (at_ + (2 : Int32)) = (at_ + (2 : Int32)) := rfl
theorem own_inb_5_4_15_ttt (at_ : Int32) (w0 : Int32) (w1 : Int32) (w2 : Int32) (w3 : Int32) (u0 : Int32) (u1 : Int32) (u2 : Int32) (u3 : Int32) (hat0 : 0 ≤ at_.toInt) (hat1 : at_.toInt + 4 ≤ 8) (hc22_11 : u0 = w0) (hc22_21 : u1 = w1) (hc22_30 : u2 = w2) : ¬ (at_ + (3 : Int32)) < 0 ∧ (at_ + (3 : Int32)) < (8 : Int32) := own_in at_ _ 3 rfl (by decide) (by omega) (by omega)
theorem own_hit_5_4_15_0_ttt (at_ : Int32) (w0 : Int32) (w1 : Int32) (w2 : Int32) (w3 : Int32) (u0 : Int32) (u1 : Int32) (u2 : Int32) (u3 : Int32) (hat0 : 0 ≤ at_.toInt) (hat1 : at_.toInt + 4 ≤ 8) (hc22_11 : u0 = w0) (hc22_21 : u1 = w1) (hc22_30 : u2 = w2) : (at_ + (3 : Int32)) = (at_ + (3 : Int32)) := rfl
def Q5_4 (Z : State) (ob : Addr) (br : Addr) (at_ : Int32) (nr : Addr) (ka : ClassId) (kb : ClassId) (vl : List Value) (w0 : Int32) (w1 : Int32) (w2 : Int32) (w3 : Int32) (u0 : Int32) (u1 : Int32) (u2 : Int32) (u3 : Int32) (h0 : Heap) (n0 : Nat) (v : Option Value) (h : Heap) (L : List Loc) : Prop := v = some (.int (if u0 = w0 then (if u1 = w1 then (if u2 = w2 then (if u3 = w3 then (1 : Int32) else (0 : Int32)) else (0 : Int32)) else (0 : Int32)) else (0 : Int32))) ∧ Fr n0 L ∧ h = h0
set_option maxRecDepth 65536 in
set_option maxHeartbeats 40000000 in
theorem rm5_4 (l : Launch) (Z : State) (a0 : Array Value) (hw : ∀ d ∈ tables_1, d.before a0 Z = true) (ws : List Jvm.Cond) (ob : Addr) (br : Addr) (at_ : Int32) (nr : Addr) (ka : ClassId) (kb : ClassId) (vl : List Value) (w0 : Int32) (w1 : Int32) (w2 : Int32) (w3 : Int32) (u0 : Int32) (u1 : Int32) (u2 : Int32) (u3 : Int32) (h0 : Heap) (n0 : Nat) (Z0 : n0 ≤ h0.size) (I0 : Fld Z h0 ob "com/example/marcotte/marcotte/XmlNames$Name" "bytes" "[B" (.ref nr)) (I1 : Arv Z h0 nr ka .byte (4 : Int32) [(.int w0), (.int w1), (.int w2), (.int w3)] (.int (0 : Int32))) (I2 : Arh Z h0 br kb .byte (8 : Int32) [((at_ + (3 : Int32)), (.int u3)), ((at_ + (2 : Int32)), (.int u2)), ((at_ + (1 : Int32)), (.int u1)), (at_, (.int u0))] vl (.int (0 : Int32))) (hat0 : 0 ≤ at_.toInt) (hat1 : at_.toInt + 4 ≤ 8) :
    MetFree l (⟨"com/example/marcotte/marcotte/XmlNames$Name", "writtenAt", "([BI)Z"⟩ : MethodName) (head1 (Jvm.Cond.code (⟨"com/example/marcotte/marcotte/XmlNames$Name", "writtenAt", "([BI)Z"⟩ : MethodName) prog_52_method_2_code 4 (some .boolean) :: ws) ({ frames := 0, cells := 0, slots := 0, locals := 0 } : Room)) (fun a U => a = #[(.ref ob), (.ref br), (.int at_)] ∧ Z.Warmed39 U.vm ∧ U.heap = h0) (fun _ _ _ _ _ => True) (fun _ U o U' => ∃ v L, o = .returned v ∧ Q5_4 Z ob br at_ nr ka kb vl w0 w1 w2 w3 u0 u1 u2 u3 h0 n0 v U'.heap L ∧ FrameEnd U o U' L ({ frames := 0, cells := 0, slots := 0, locals := 0 } : Room).cells ({ frames := 0, cells := 0, slots := 0, locals := 0 } : Room).slots) := by
  refine MetFree.of_bodySF (plainFor_of_name pn_5) hisR ?_
  intro p e s m args below meth c s₁ Bd hml0 hP hK
  obtain ⟨rfl, hZ, hh⟩ := hP
  have hx := Bd.exec
  have hby := Bd.bytes
  have hml : c.maxLocals = 4 := hml0
  have hown : s.vm.findClass "com/example/marcotte/marcotte/XmlNames$Name" = some m.cls := findClass_of_methodNamed Bd.named
  have hnm := (name_of_methodNamed Bd.named Bd.method).1
  have X0 : Stand p l e ({ frames := 0, cells := 0, slots := 0, locals := 0 } : Room) s m #[(.ref ob), (.ref br), (.int at_)] below meth c s₁ [] 0 0 := Stand.of_body Bd
  have e0 : s₁.heap = h0 := by rw [← hh, Bd.state]; rfl
  have N0 := Fr.nil n0
  have K0 : Keep h0 h0 [] := Keep.refl h0 _
  have pre0 : ∀ tq, Steps p.tables e below (s₁.setTop (mkF m 0 #[.val (.ref ob), .val (.ref br), .val (.int at_), .unset] [])) tq → Steps p.tables e below (s₁.setTop (entryFrame m #[(.ref ob), (.ref br), (.int at_)] 4)) tq := fun tq kq => castTop (ef_5_4 m ob br at_) kq
  obtain ⟨T1, X1, e1, st1⟩ := getF X0 hx hZ hown (host := "") (Or.inl (hw _ (List.mem_of_getElem? (i := 33) rfl))) Via.refl e0 I0 (g := (mkF m 4 #[.val (.ref ob), .val (.ref br), .val (.int at_), .val (.int (0 : Int32))] [(.ref ob), (.int (0 : Int32))])) rfl rfl (hb hby d5_4)
  obtain ⟨cl2, Ar2, q2, S2, M2, H2, G2⟩ := id I1
  obtain ⟨cl3, Ar3, q3, S3, M3, H3, G3⟩ := id I2
  have hin3 : ¬ ((at_ + (0 : Int32)) < 0 ∨ cl3.slots.size ≤ ((at_ + (0 : Int32))).toNatClampNeg) := inb_of S3 (own_inb_5_4_15 at_ w0 w1 w2 w3 u0 u1 u2 u3 hat0 hat1)
  have hh4 : ¬ ((at_ + (0 : Int32)) = (at_ + (3 : Int32))) := (own_miss_5_4_15_0 at_ w0 w1 w2 w3 u0 u1 u2 u3 hat0 hat1)
  have hh5 : ¬ ((at_ + (0 : Int32)) = (at_ + (2 : Int32))) := (own_miss_5_4_15_1 at_ w0 w1 w2 w3 u0 u1 u2 u3 hat0 hat1)
  have hh6 : ¬ ((at_ + (0 : Int32)) = (at_ + (1 : Int32))) := (own_miss_5_4_15_2 at_ w0 w1 w2 w3 u0 u1 u2 u3 hat0 hat1)
  have hh7 : (at_ + (0 : Int32)) = at_ := (own_hit_5_4_15_3 at_ w0 w1 w2 w3 u0 u1 u2 u3 hat0 hat1)
  have hat3 : cl3.slots[((at_ + (0 : Int32))).toNatClampNeg]? = some (.int u0) := atH H3 hin3 (getH_miss (fun y => hin3 (Or.inl y)) hh4 (getH_miss (fun y => hin3 (Or.inl y)) hh5 (getH_miss (fun y => hin3 (Or.inl y)) hh6 (getH_hit (fun y => hin3 (Or.inl y)) hh7))))
  obtain ⟨T8, X8, e8, st8⟩ := getF X1 hx hZ hown (host := "") (Or.inl (hw _ (List.mem_of_getElem? (i := 33) rfl))) Via.refl e1 I0 (g := (mkF m 17 #[.val (.ref ob), .val (.ref br), .val (.int at_), .val (.int (0 : Int32))] [(.ref ob), (.int u0)])) rfl rfl (hb hby d5_17)
  obtain ⟨cl9, Ar9, q9, S9, M9, H9, G9⟩ := id I1
  have hin9 : ¬ ((0 : Int32) < 0 ∨ cl9.slots.size ≤ ((0 : Int32)).toNatClampNeg) := inb_of S9 ⟨by decide, by decide⟩
  have hat9 : cl9.slots[((0 : Int32)).toNatClampNeg]? = some (.int w0) := Has.at H9 hin9 rfl
  have pre10 : ∀ tq, Steps p.tables e below (T8.setTop (mkF m 22 #[.val (.ref ob), .val (.ref br), .val (.int at_), .val (.int (0 : Int32))] [(.int w0), (.int u0)])) tq → Steps p.tables e below (s₁.setTop (entryFrame m #[(.ref ob), (.ref br), (.int at_)] 4)) tq := by
    intro tq kt
    refine pre0 _ ?_
    show Steps p.tables e below (s₁.setTop (mkF m 0 #[.val (.ref ob), .val (.ref br), .val (.int at_), .unset] [])) _
    refine XS.iconst X0.here hx rfl (hb hby d5_0) ?_
    show Steps p.tables e below (s₁.setTop (mkF m 1 #[.val (.ref ob), .val (.ref br), .val (.int at_), .unset] [(.int (0 : Int32))])) _
    refine XS.istoreN X0.here hx rfl (hb hby d5_1) rfl (l' := #[.val (.ref ob), .val (.ref br), .val (.int at_), .val (.int (0 : Int32))]) rfl ?_
    show Steps p.tables e below (s₁.setTop (mkF m 2 #[.val (.ref ob), .val (.ref br), .val (.int at_), .val (.int (0 : Int32))] [])) _
    refine XS.iloadN X0.here hx rfl (hb hby d5_2) rfl ?_
    show Steps p.tables e below (s₁.setTop (mkF m 3 #[.val (.ref ob), .val (.ref br), .val (.int at_), .val (.int (0 : Int32))] [(.int (0 : Int32))])) _
    refine XS.aloadN X0.here hx rfl (hb hby d5_3) rfl rfl ?_
    show Steps p.tables e below (s₁.setTop (mkF m 4 #[.val (.ref ob), .val (.ref br), .val (.int at_), .val (.int (0 : Int32))] [(.ref ob), (.int (0 : Int32))])) _
    refine st1 _ ?_
    show Steps p.tables e below (T1.setTop (mkF m 7 #[.val (.ref ob), .val (.ref br), .val (.int at_), .val (.int (0 : Int32))] [(.ref nr), (.int (0 : Int32))])) _
    refine X1.arraylength hx (heq_of e1 Ar2.1) (State.isArrayOf_alike hZ.alike Ar2.2.1) (g := (mkF m 7 #[.val (.ref ob), .val (.ref br), .val (.int at_), .val (.int (0 : Int32))] [(.ref nr), (.int (0 : Int32))])) rfl rfl (hb hby d5_7) _ ?_
    rw [len_of S2 M2]
    show Steps p.tables e below (T1.setTop (mkF m 8 #[.val (.ref ob), .val (.ref br), .val (.int at_), .val (.int (0 : Int32))] [(.int (4 : Int32)), (.int (0 : Int32))])) _
    refine XS.icmpNo X1.here hx rfl (hb hby d5_8) rfl (tlt (by decide)).2.1 ?_
    show Steps p.tables e below (T1.setTop (mkF m 11 #[.val (.ref ob), .val (.ref br), .val (.int at_), .val (.int (0 : Int32))] [])) _
    refine XS.aloadN X1.here hx rfl (hb hby d5_11) rfl rfl ?_
    show Steps p.tables e below (T1.setTop (mkF m 12 #[.val (.ref ob), .val (.ref br), .val (.int at_), .val (.int (0 : Int32))] [(.ref br)])) _
    refine XS.iloadN X1.here hx rfl (hb hby d5_12) rfl ?_
    show Steps p.tables e below (T1.setTop (mkF m 13 #[.val (.ref ob), .val (.ref br), .val (.int at_), .val (.int (0 : Int32))] [(.int at_), (.ref br)])) _
    refine XS.iloadN X1.here hx rfl (hb hby d5_13) rfl ?_
    show Steps p.tables e below (T1.setTop (mkF m 14 #[.val (.ref ob), .val (.ref br), .val (.int at_), .val (.int (0 : Int32))] [(.int (0 : Int32)), (.int at_), (.ref br)])) _
    refine XS.iadd X1.here hx rfl (hb hby d5_14) rfl ?_
    show Steps p.tables e below (T1.setTop (mkF m 15 #[.val (.ref ob), .val (.ref br), .val (.int at_), .val (.int (0 : Int32))] [(.int (at_ + (0 : Int32))), (.ref br)])) _
    refine X1.baloadBytes hx (j := (at_ + (0 : Int32))) (v := (.int u0)) (heq_of e1 Ar3.1) (State.isArrayOf_alike hZ.alike Ar3.2.1) Ar3.2.2 hin3 hat3 (g := (mkF m 15 #[.val (.ref ob), .val (.ref br), .val (.int at_), .val (.int (0 : Int32))] [(.int (at_ + (0 : Int32))), (.ref br)])) rfl rfl (hb hby d5_15) _ ?_
    show Steps p.tables e below (T1.setTop (mkF m 16 #[.val (.ref ob), .val (.ref br), .val (.int at_), .val (.int (0 : Int32))] [(.int u0)])) _
    refine XS.aloadN X1.here hx rfl (hb hby d5_16) rfl rfl ?_
    show Steps p.tables e below (T1.setTop (mkF m 17 #[.val (.ref ob), .val (.ref br), .val (.int at_), .val (.int (0 : Int32))] [(.ref ob), (.int u0)])) _
    refine st8 _ ?_
    show Steps p.tables e below (T8.setTop (mkF m 20 #[.val (.ref ob), .val (.ref br), .val (.int at_), .val (.int (0 : Int32))] [(.ref nr), (.int u0)])) _
    refine XS.iloadN X8.here hx rfl (hb hby d5_20) rfl ?_
    show Steps p.tables e below (T8.setTop (mkF m 21 #[.val (.ref ob), .val (.ref br), .val (.int at_), .val (.int (0 : Int32))] [(.int (0 : Int32)), (.ref nr), (.int u0)])) _
    refine X8.baloadBytes hx (j := (0 : Int32)) (v := (.int w0)) (heq_of e8 Ar9.1) (State.isArrayOf_alike hZ.alike Ar9.2.1) Ar9.2.2 hin9 hat9 (g := (mkF m 21 #[.val (.ref ob), .val (.ref br), .val (.int at_), .val (.int (0 : Int32))] [(.int (0 : Int32)), (.ref nr), (.int u0)])) rfl rfl (hb hby d5_21) _ ?_
    show Steps p.tables e below (T8.setTop (mkF m 22 #[.val (.ref ob), .val (.ref br), .val (.int at_), .val (.int (0 : Int32))] [(.int w0), (.int u0)])) _
    exact kt
  by_cases hc22_11 : u0 = w0
  · skip
    obtain ⟨T12, X12, e12, st12⟩ := getF X8 hx hZ hown (host := "") (Or.inl (hw _ (List.mem_of_getElem? (i := 33) rfl))) Via.refl e8 I0 (g := (mkF m 4 #[.val (.ref ob), .val (.ref br), .val (.int at_), .val (.int (1 : Int32))] [(.ref ob), (.int (1 : Int32))])) rfl rfl (hb hby d5_4)
    obtain ⟨cl13, Ar13, q13, S13, M13, H13, G13⟩ := id I1
    obtain ⟨cl14, Ar14, q14, S14, M14, H14, G14⟩ := id I2
    have hin14 : ¬ ((at_ + (1 : Int32)) < 0 ∨ cl14.slots.size ≤ ((at_ + (1 : Int32))).toNatClampNeg) := inb_of S14 (own_inb_5_4_15_t at_ w0 w1 w2 w3 u0 u1 u2 u3 hat0 hat1 hc22_11)
    have hh15 : ¬ ((at_ + (1 : Int32)) = (at_ + (3 : Int32))) := (own_miss_5_4_15_0_t at_ w0 w1 w2 w3 u0 u1 u2 u3 hat0 hat1 hc22_11)
    have hh16 : ¬ ((at_ + (1 : Int32)) = (at_ + (2 : Int32))) := (own_miss_5_4_15_1_t at_ w0 w1 w2 w3 u0 u1 u2 u3 hat0 hat1 hc22_11)
    have hh17 : (at_ + (1 : Int32)) = (at_ + (1 : Int32)) := (own_hit_5_4_15_2_t at_ w0 w1 w2 w3 u0 u1 u2 u3 hat0 hat1 hc22_11)
    have hat14 : cl14.slots[((at_ + (1 : Int32))).toNatClampNeg]? = some (.int u1) := atH H14 hin14 (getH_miss (fun y => hin14 (Or.inl y)) hh15 (getH_miss (fun y => hin14 (Or.inl y)) hh16 (getH_hit (fun y => hin14 (Or.inl y)) hh17)))
    obtain ⟨T18, X18, e18, st18⟩ := getF X12 hx hZ hown (host := "") (Or.inl (hw _ (List.mem_of_getElem? (i := 33) rfl))) Via.refl e12 I0 (g := (mkF m 17 #[.val (.ref ob), .val (.ref br), .val (.int at_), .val (.int (1 : Int32))] [(.ref ob), (.int u1)])) rfl rfl (hb hby d5_17)
    obtain ⟨cl19, Ar19, q19, S19, M19, H19, G19⟩ := id I1
    have hin19 : ¬ ((1 : Int32) < 0 ∨ cl19.slots.size ≤ ((1 : Int32)).toNatClampNeg) := inb_of S19 ⟨by decide, by decide⟩
    have hat19 : cl19.slots[((1 : Int32)).toNatClampNeg]? = some (.int w1) := Has.at H19 hin19 rfl
    have pre20 : ∀ tq, Steps p.tables e below (T18.setTop (mkF m 22 #[.val (.ref ob), .val (.ref br), .val (.int at_), .val (.int (1 : Int32))] [(.int w1), (.int u1)])) tq → Steps p.tables e below (s₁.setTop (entryFrame m #[(.ref ob), (.ref br), (.int at_)] 4)) tq := by
      intro tq kt
      refine pre10 _ ?_
      show Steps p.tables e below (T8.setTop (mkF m 22 #[.val (.ref ob), .val (.ref br), .val (.int at_), .val (.int (0 : Int32))] [(.int w0), (.int u0)])) _
      refine XS.icmpYes X8.here hx rfl (pc0 := 22) (pc' := 27) rfl (hb hby d5_22) rfl (teq hc22_11).1 (by decide) (by decide) ?_
      show Steps p.tables e below (T8.setTop (mkF m 27 #[.val (.ref ob), .val (.ref br), .val (.int at_), .val (.int (0 : Int32))] [])) _
      refine XS.iinc X8.here hx rfl (hb hby d5_27) rfl (l' := #[.val (.ref ob), .val (.ref br), .val (.int at_), .val (.int (1 : Int32))]) rfl ?_
      show Steps p.tables e below (T8.setTop (mkF m 30 #[.val (.ref ob), .val (.ref br), .val (.int at_), .val (.int (1 : Int32))] [])) _
      refine XS.goto X8.here hx rfl (pc0 := 30) (pc' := 2) rfl (hb hby d5_30) (by decide) (by decide) ?_
      show Steps p.tables e below (T8.setTop (mkF m 2 #[.val (.ref ob), .val (.ref br), .val (.int at_), .val (.int (1 : Int32))] [])) _
      refine XS.iloadN X8.here hx rfl (hb hby d5_2) rfl ?_
      show Steps p.tables e below (T8.setTop (mkF m 3 #[.val (.ref ob), .val (.ref br), .val (.int at_), .val (.int (1 : Int32))] [(.int (1 : Int32))])) _
      refine XS.aloadN X8.here hx rfl (hb hby d5_3) rfl rfl ?_
      show Steps p.tables e below (T8.setTop (mkF m 4 #[.val (.ref ob), .val (.ref br), .val (.int at_), .val (.int (1 : Int32))] [(.ref ob), (.int (1 : Int32))])) _
      refine st12 _ ?_
      show Steps p.tables e below (T12.setTop (mkF m 7 #[.val (.ref ob), .val (.ref br), .val (.int at_), .val (.int (1 : Int32))] [(.ref nr), (.int (1 : Int32))])) _
      refine X12.arraylength hx (heq_of e12 Ar13.1) (State.isArrayOf_alike hZ.alike Ar13.2.1) (g := (mkF m 7 #[.val (.ref ob), .val (.ref br), .val (.int at_), .val (.int (1 : Int32))] [(.ref nr), (.int (1 : Int32))])) rfl rfl (hb hby d5_7) _ ?_
      rw [len_of S13 M13]
      show Steps p.tables e below (T12.setTop (mkF m 8 #[.val (.ref ob), .val (.ref br), .val (.int at_), .val (.int (1 : Int32))] [(.int (4 : Int32)), (.int (1 : Int32))])) _
      refine XS.icmpNo X12.here hx rfl (hb hby d5_8) rfl (tlt (by decide)).2.1 ?_
      show Steps p.tables e below (T12.setTop (mkF m 11 #[.val (.ref ob), .val (.ref br), .val (.int at_), .val (.int (1 : Int32))] [])) _
      refine XS.aloadN X12.here hx rfl (hb hby d5_11) rfl rfl ?_
      show Steps p.tables e below (T12.setTop (mkF m 12 #[.val (.ref ob), .val (.ref br), .val (.int at_), .val (.int (1 : Int32))] [(.ref br)])) _
      refine XS.iloadN X12.here hx rfl (hb hby d5_12) rfl ?_
      show Steps p.tables e below (T12.setTop (mkF m 13 #[.val (.ref ob), .val (.ref br), .val (.int at_), .val (.int (1 : Int32))] [(.int at_), (.ref br)])) _
      refine XS.iloadN X12.here hx rfl (hb hby d5_13) rfl ?_
      show Steps p.tables e below (T12.setTop (mkF m 14 #[.val (.ref ob), .val (.ref br), .val (.int at_), .val (.int (1 : Int32))] [(.int (1 : Int32)), (.int at_), (.ref br)])) _
      refine XS.iadd X12.here hx rfl (hb hby d5_14) rfl ?_
      show Steps p.tables e below (T12.setTop (mkF m 15 #[.val (.ref ob), .val (.ref br), .val (.int at_), .val (.int (1 : Int32))] [(.int (at_ + (1 : Int32))), (.ref br)])) _
      refine X12.baloadBytes hx (j := (at_ + (1 : Int32))) (v := (.int u1)) (heq_of e12 Ar14.1) (State.isArrayOf_alike hZ.alike Ar14.2.1) Ar14.2.2 hin14 hat14 (g := (mkF m 15 #[.val (.ref ob), .val (.ref br), .val (.int at_), .val (.int (1 : Int32))] [(.int (at_ + (1 : Int32))), (.ref br)])) rfl rfl (hb hby d5_15) _ ?_
      show Steps p.tables e below (T12.setTop (mkF m 16 #[.val (.ref ob), .val (.ref br), .val (.int at_), .val (.int (1 : Int32))] [(.int u1)])) _
      refine XS.aloadN X12.here hx rfl (hb hby d5_16) rfl rfl ?_
      show Steps p.tables e below (T12.setTop (mkF m 17 #[.val (.ref ob), .val (.ref br), .val (.int at_), .val (.int (1 : Int32))] [(.ref ob), (.int u1)])) _
      refine st18 _ ?_
      show Steps p.tables e below (T18.setTop (mkF m 20 #[.val (.ref ob), .val (.ref br), .val (.int at_), .val (.int (1 : Int32))] [(.ref nr), (.int u1)])) _
      refine XS.iloadN X18.here hx rfl (hb hby d5_20) rfl ?_
      show Steps p.tables e below (T18.setTop (mkF m 21 #[.val (.ref ob), .val (.ref br), .val (.int at_), .val (.int (1 : Int32))] [(.int (1 : Int32)), (.ref nr), (.int u1)])) _
      refine X18.baloadBytes hx (j := (1 : Int32)) (v := (.int w1)) (heq_of e18 Ar19.1) (State.isArrayOf_alike hZ.alike Ar19.2.1) Ar19.2.2 hin19 hat19 (g := (mkF m 21 #[.val (.ref ob), .val (.ref br), .val (.int at_), .val (.int (1 : Int32))] [(.int (1 : Int32)), (.ref nr), (.int u1)])) rfl rfl (hb hby d5_21) _ ?_
      show Steps p.tables e below (T18.setTop (mkF m 22 #[.val (.ref ob), .val (.ref br), .val (.int at_), .val (.int (1 : Int32))] [(.int w1), (.int u1)])) _
      exact kt
    by_cases hc22_21 : u1 = w1
    · skip
      obtain ⟨T22, X22, e22, st22⟩ := getF X18 hx hZ hown (host := "") (Or.inl (hw _ (List.mem_of_getElem? (i := 33) rfl))) Via.refl e18 I0 (g := (mkF m 4 #[.val (.ref ob), .val (.ref br), .val (.int at_), .val (.int (2 : Int32))] [(.ref ob), (.int (2 : Int32))])) rfl rfl (hb hby d5_4)
      obtain ⟨cl23, Ar23, q23, S23, M23, H23, G23⟩ := id I1
      obtain ⟨cl24, Ar24, q24, S24, M24, H24, G24⟩ := id I2
      have hin24 : ¬ ((at_ + (2 : Int32)) < 0 ∨ cl24.slots.size ≤ ((at_ + (2 : Int32))).toNatClampNeg) := inb_of S24 (own_inb_5_4_15_tt at_ w0 w1 w2 w3 u0 u1 u2 u3 hat0 hat1 hc22_11 hc22_21)
      have hh25 : ¬ ((at_ + (2 : Int32)) = (at_ + (3 : Int32))) := (own_miss_5_4_15_0_tt at_ w0 w1 w2 w3 u0 u1 u2 u3 hat0 hat1 hc22_11 hc22_21)
      have hh26 : (at_ + (2 : Int32)) = (at_ + (2 : Int32)) := (own_hit_5_4_15_1_tt at_ w0 w1 w2 w3 u0 u1 u2 u3 hat0 hat1 hc22_11 hc22_21)
      have hat24 : cl24.slots[((at_ + (2 : Int32))).toNatClampNeg]? = some (.int u2) := atH H24 hin24 (getH_miss (fun y => hin24 (Or.inl y)) hh25 (getH_hit (fun y => hin24 (Or.inl y)) hh26))
      obtain ⟨T27, X27, e27, st27⟩ := getF X22 hx hZ hown (host := "") (Or.inl (hw _ (List.mem_of_getElem? (i := 33) rfl))) Via.refl e22 I0 (g := (mkF m 17 #[.val (.ref ob), .val (.ref br), .val (.int at_), .val (.int (2 : Int32))] [(.ref ob), (.int u2)])) rfl rfl (hb hby d5_17)
      obtain ⟨cl28, Ar28, q28, S28, M28, H28, G28⟩ := id I1
      have hin28 : ¬ ((2 : Int32) < 0 ∨ cl28.slots.size ≤ ((2 : Int32)).toNatClampNeg) := inb_of S28 ⟨by decide, by decide⟩
      have hat28 : cl28.slots[((2 : Int32)).toNatClampNeg]? = some (.int w2) := Has.at H28 hin28 rfl
      have pre29 : ∀ tq, Steps p.tables e below (T27.setTop (mkF m 22 #[.val (.ref ob), .val (.ref br), .val (.int at_), .val (.int (2 : Int32))] [(.int w2), (.int u2)])) tq → Steps p.tables e below (s₁.setTop (entryFrame m #[(.ref ob), (.ref br), (.int at_)] 4)) tq := by
        intro tq kt
        refine pre20 _ ?_
        show Steps p.tables e below (T18.setTop (mkF m 22 #[.val (.ref ob), .val (.ref br), .val (.int at_), .val (.int (1 : Int32))] [(.int w1), (.int u1)])) _
        refine XS.icmpYes X18.here hx rfl (pc0 := 22) (pc' := 27) rfl (hb hby d5_22) rfl (teq hc22_21).1 (by decide) (by decide) ?_
        show Steps p.tables e below (T18.setTop (mkF m 27 #[.val (.ref ob), .val (.ref br), .val (.int at_), .val (.int (1 : Int32))] [])) _
        refine XS.iinc X18.here hx rfl (hb hby d5_27) rfl (l' := #[.val (.ref ob), .val (.ref br), .val (.int at_), .val (.int (2 : Int32))]) rfl ?_
        show Steps p.tables e below (T18.setTop (mkF m 30 #[.val (.ref ob), .val (.ref br), .val (.int at_), .val (.int (2 : Int32))] [])) _
        refine XS.goto X18.here hx rfl (pc0 := 30) (pc' := 2) rfl (hb hby d5_30) (by decide) (by decide) ?_
        show Steps p.tables e below (T18.setTop (mkF m 2 #[.val (.ref ob), .val (.ref br), .val (.int at_), .val (.int (2 : Int32))] [])) _
        refine XS.iloadN X18.here hx rfl (hb hby d5_2) rfl ?_
        show Steps p.tables e below (T18.setTop (mkF m 3 #[.val (.ref ob), .val (.ref br), .val (.int at_), .val (.int (2 : Int32))] [(.int (2 : Int32))])) _
        refine XS.aloadN X18.here hx rfl (hb hby d5_3) rfl rfl ?_
        show Steps p.tables e below (T18.setTop (mkF m 4 #[.val (.ref ob), .val (.ref br), .val (.int at_), .val (.int (2 : Int32))] [(.ref ob), (.int (2 : Int32))])) _
        refine st22 _ ?_
        show Steps p.tables e below (T22.setTop (mkF m 7 #[.val (.ref ob), .val (.ref br), .val (.int at_), .val (.int (2 : Int32))] [(.ref nr), (.int (2 : Int32))])) _
        refine X22.arraylength hx (heq_of e22 Ar23.1) (State.isArrayOf_alike hZ.alike Ar23.2.1) (g := (mkF m 7 #[.val (.ref ob), .val (.ref br), .val (.int at_), .val (.int (2 : Int32))] [(.ref nr), (.int (2 : Int32))])) rfl rfl (hb hby d5_7) _ ?_
        rw [len_of S23 M23]
        show Steps p.tables e below (T22.setTop (mkF m 8 #[.val (.ref ob), .val (.ref br), .val (.int at_), .val (.int (2 : Int32))] [(.int (4 : Int32)), (.int (2 : Int32))])) _
        refine XS.icmpNo X22.here hx rfl (hb hby d5_8) rfl (tlt (by decide)).2.1 ?_
        show Steps p.tables e below (T22.setTop (mkF m 11 #[.val (.ref ob), .val (.ref br), .val (.int at_), .val (.int (2 : Int32))] [])) _
        refine XS.aloadN X22.here hx rfl (hb hby d5_11) rfl rfl ?_
        show Steps p.tables e below (T22.setTop (mkF m 12 #[.val (.ref ob), .val (.ref br), .val (.int at_), .val (.int (2 : Int32))] [(.ref br)])) _
        refine XS.iloadN X22.here hx rfl (hb hby d5_12) rfl ?_
        show Steps p.tables e below (T22.setTop (mkF m 13 #[.val (.ref ob), .val (.ref br), .val (.int at_), .val (.int (2 : Int32))] [(.int at_), (.ref br)])) _
        refine XS.iloadN X22.here hx rfl (hb hby d5_13) rfl ?_
        show Steps p.tables e below (T22.setTop (mkF m 14 #[.val (.ref ob), .val (.ref br), .val (.int at_), .val (.int (2 : Int32))] [(.int (2 : Int32)), (.int at_), (.ref br)])) _
        refine XS.iadd X22.here hx rfl (hb hby d5_14) rfl ?_
        show Steps p.tables e below (T22.setTop (mkF m 15 #[.val (.ref ob), .val (.ref br), .val (.int at_), .val (.int (2 : Int32))] [(.int (at_ + (2 : Int32))), (.ref br)])) _
        refine X22.baloadBytes hx (j := (at_ + (2 : Int32))) (v := (.int u2)) (heq_of e22 Ar24.1) (State.isArrayOf_alike hZ.alike Ar24.2.1) Ar24.2.2 hin24 hat24 (g := (mkF m 15 #[.val (.ref ob), .val (.ref br), .val (.int at_), .val (.int (2 : Int32))] [(.int (at_ + (2 : Int32))), (.ref br)])) rfl rfl (hb hby d5_15) _ ?_
        show Steps p.tables e below (T22.setTop (mkF m 16 #[.val (.ref ob), .val (.ref br), .val (.int at_), .val (.int (2 : Int32))] [(.int u2)])) _
        refine XS.aloadN X22.here hx rfl (hb hby d5_16) rfl rfl ?_
        show Steps p.tables e below (T22.setTop (mkF m 17 #[.val (.ref ob), .val (.ref br), .val (.int at_), .val (.int (2 : Int32))] [(.ref ob), (.int u2)])) _
        refine st27 _ ?_
        show Steps p.tables e below (T27.setTop (mkF m 20 #[.val (.ref ob), .val (.ref br), .val (.int at_), .val (.int (2 : Int32))] [(.ref nr), (.int u2)])) _
        refine XS.iloadN X27.here hx rfl (hb hby d5_20) rfl ?_
        show Steps p.tables e below (T27.setTop (mkF m 21 #[.val (.ref ob), .val (.ref br), .val (.int at_), .val (.int (2 : Int32))] [(.int (2 : Int32)), (.ref nr), (.int u2)])) _
        refine X27.baloadBytes hx (j := (2 : Int32)) (v := (.int w2)) (heq_of e27 Ar28.1) (State.isArrayOf_alike hZ.alike Ar28.2.1) Ar28.2.2 hin28 hat28 (g := (mkF m 21 #[.val (.ref ob), .val (.ref br), .val (.int at_), .val (.int (2 : Int32))] [(.int (2 : Int32)), (.ref nr), (.int u2)])) rfl rfl (hb hby d5_21) _ ?_
        show Steps p.tables e below (T27.setTop (mkF m 22 #[.val (.ref ob), .val (.ref br), .val (.int at_), .val (.int (2 : Int32))] [(.int w2), (.int u2)])) _
        exact kt
      by_cases hc22_30 : u2 = w2
      · skip
        obtain ⟨T31, X31, e31, st31⟩ := getF X27 hx hZ hown (host := "") (Or.inl (hw _ (List.mem_of_getElem? (i := 33) rfl))) Via.refl e27 I0 (g := (mkF m 4 #[.val (.ref ob), .val (.ref br), .val (.int at_), .val (.int (3 : Int32))] [(.ref ob), (.int (3 : Int32))])) rfl rfl (hb hby d5_4)
        obtain ⟨cl32, Ar32, q32, S32, M32, H32, G32⟩ := id I1
        obtain ⟨cl33, Ar33, q33, S33, M33, H33, G33⟩ := id I2
        have hin33 : ¬ ((at_ + (3 : Int32)) < 0 ∨ cl33.slots.size ≤ ((at_ + (3 : Int32))).toNatClampNeg) := inb_of S33 (own_inb_5_4_15_ttt at_ w0 w1 w2 w3 u0 u1 u2 u3 hat0 hat1 hc22_11 hc22_21 hc22_30)
        have hh34 : (at_ + (3 : Int32)) = (at_ + (3 : Int32)) := (own_hit_5_4_15_0_ttt at_ w0 w1 w2 w3 u0 u1 u2 u3 hat0 hat1 hc22_11 hc22_21 hc22_30)
        have hat33 : cl33.slots[((at_ + (3 : Int32))).toNatClampNeg]? = some (.int u3) := atH H33 hin33 (getH_hit (fun y => hin33 (Or.inl y)) hh34)
        obtain ⟨T35, X35, e35, st35⟩ := getF X31 hx hZ hown (host := "") (Or.inl (hw _ (List.mem_of_getElem? (i := 33) rfl))) Via.refl e31 I0 (g := (mkF m 17 #[.val (.ref ob), .val (.ref br), .val (.int at_), .val (.int (3 : Int32))] [(.ref ob), (.int u3)])) rfl rfl (hb hby d5_17)
        obtain ⟨cl36, Ar36, q36, S36, M36, H36, G36⟩ := id I1
        have hin36 : ¬ ((3 : Int32) < 0 ∨ cl36.slots.size ≤ ((3 : Int32)).toNatClampNeg) := inb_of S36 ⟨by decide, by decide⟩
        have hat36 : cl36.slots[((3 : Int32)).toNatClampNeg]? = some (.int w3) := Has.at H36 hin36 rfl
        have pre37 : ∀ tq, Steps p.tables e below (T35.setTop (mkF m 22 #[.val (.ref ob), .val (.ref br), .val (.int at_), .val (.int (3 : Int32))] [(.int w3), (.int u3)])) tq → Steps p.tables e below (s₁.setTop (entryFrame m #[(.ref ob), (.ref br), (.int at_)] 4)) tq := by
          intro tq kt
          refine pre29 _ ?_
          show Steps p.tables e below (T27.setTop (mkF m 22 #[.val (.ref ob), .val (.ref br), .val (.int at_), .val (.int (2 : Int32))] [(.int w2), (.int u2)])) _
          refine XS.icmpYes X27.here hx rfl (pc0 := 22) (pc' := 27) rfl (hb hby d5_22) rfl (teq hc22_30).1 (by decide) (by decide) ?_
          show Steps p.tables e below (T27.setTop (mkF m 27 #[.val (.ref ob), .val (.ref br), .val (.int at_), .val (.int (2 : Int32))] [])) _
          refine XS.iinc X27.here hx rfl (hb hby d5_27) rfl (l' := #[.val (.ref ob), .val (.ref br), .val (.int at_), .val (.int (3 : Int32))]) rfl ?_
          show Steps p.tables e below (T27.setTop (mkF m 30 #[.val (.ref ob), .val (.ref br), .val (.int at_), .val (.int (3 : Int32))] [])) _
          refine XS.goto X27.here hx rfl (pc0 := 30) (pc' := 2) rfl (hb hby d5_30) (by decide) (by decide) ?_
          show Steps p.tables e below (T27.setTop (mkF m 2 #[.val (.ref ob), .val (.ref br), .val (.int at_), .val (.int (3 : Int32))] [])) _
          refine XS.iloadN X27.here hx rfl (hb hby d5_2) rfl ?_
          show Steps p.tables e below (T27.setTop (mkF m 3 #[.val (.ref ob), .val (.ref br), .val (.int at_), .val (.int (3 : Int32))] [(.int (3 : Int32))])) _
          refine XS.aloadN X27.here hx rfl (hb hby d5_3) rfl rfl ?_
          show Steps p.tables e below (T27.setTop (mkF m 4 #[.val (.ref ob), .val (.ref br), .val (.int at_), .val (.int (3 : Int32))] [(.ref ob), (.int (3 : Int32))])) _
          refine st31 _ ?_
          show Steps p.tables e below (T31.setTop (mkF m 7 #[.val (.ref ob), .val (.ref br), .val (.int at_), .val (.int (3 : Int32))] [(.ref nr), (.int (3 : Int32))])) _
          refine X31.arraylength hx (heq_of e31 Ar32.1) (State.isArrayOf_alike hZ.alike Ar32.2.1) (g := (mkF m 7 #[.val (.ref ob), .val (.ref br), .val (.int at_), .val (.int (3 : Int32))] [(.ref nr), (.int (3 : Int32))])) rfl rfl (hb hby d5_7) _ ?_
          rw [len_of S32 M32]
          show Steps p.tables e below (T31.setTop (mkF m 8 #[.val (.ref ob), .val (.ref br), .val (.int at_), .val (.int (3 : Int32))] [(.int (4 : Int32)), (.int (3 : Int32))])) _
          refine XS.icmpNo X31.here hx rfl (hb hby d5_8) rfl (tlt (by decide)).2.1 ?_
          show Steps p.tables e below (T31.setTop (mkF m 11 #[.val (.ref ob), .val (.ref br), .val (.int at_), .val (.int (3 : Int32))] [])) _
          refine XS.aloadN X31.here hx rfl (hb hby d5_11) rfl rfl ?_
          show Steps p.tables e below (T31.setTop (mkF m 12 #[.val (.ref ob), .val (.ref br), .val (.int at_), .val (.int (3 : Int32))] [(.ref br)])) _
          refine XS.iloadN X31.here hx rfl (hb hby d5_12) rfl ?_
          show Steps p.tables e below (T31.setTop (mkF m 13 #[.val (.ref ob), .val (.ref br), .val (.int at_), .val (.int (3 : Int32))] [(.int at_), (.ref br)])) _
          refine XS.iloadN X31.here hx rfl (hb hby d5_13) rfl ?_
          show Steps p.tables e below (T31.setTop (mkF m 14 #[.val (.ref ob), .val (.ref br), .val (.int at_), .val (.int (3 : Int32))] [(.int (3 : Int32)), (.int at_), (.ref br)])) _
          refine XS.iadd X31.here hx rfl (hb hby d5_14) rfl ?_
          show Steps p.tables e below (T31.setTop (mkF m 15 #[.val (.ref ob), .val (.ref br), .val (.int at_), .val (.int (3 : Int32))] [(.int (at_ + (3 : Int32))), (.ref br)])) _
          refine X31.baloadBytes hx (j := (at_ + (3 : Int32))) (v := (.int u3)) (heq_of e31 Ar33.1) (State.isArrayOf_alike hZ.alike Ar33.2.1) Ar33.2.2 hin33 hat33 (g := (mkF m 15 #[.val (.ref ob), .val (.ref br), .val (.int at_), .val (.int (3 : Int32))] [(.int (at_ + (3 : Int32))), (.ref br)])) rfl rfl (hb hby d5_15) _ ?_
          show Steps p.tables e below (T31.setTop (mkF m 16 #[.val (.ref ob), .val (.ref br), .val (.int at_), .val (.int (3 : Int32))] [(.int u3)])) _
          refine XS.aloadN X31.here hx rfl (hb hby d5_16) rfl rfl ?_
          show Steps p.tables e below (T31.setTop (mkF m 17 #[.val (.ref ob), .val (.ref br), .val (.int at_), .val (.int (3 : Int32))] [(.ref ob), (.int u3)])) _
          refine st35 _ ?_
          show Steps p.tables e below (T35.setTop (mkF m 20 #[.val (.ref ob), .val (.ref br), .val (.int at_), .val (.int (3 : Int32))] [(.ref nr), (.int u3)])) _
          refine XS.iloadN X35.here hx rfl (hb hby d5_20) rfl ?_
          show Steps p.tables e below (T35.setTop (mkF m 21 #[.val (.ref ob), .val (.ref br), .val (.int at_), .val (.int (3 : Int32))] [(.int (3 : Int32)), (.ref nr), (.int u3)])) _
          refine X35.baloadBytes hx (j := (3 : Int32)) (v := (.int w3)) (heq_of e35 Ar36.1) (State.isArrayOf_alike hZ.alike Ar36.2.1) Ar36.2.2 hin36 hat36 (g := (mkF m 21 #[.val (.ref ob), .val (.ref br), .val (.int at_), .val (.int (3 : Int32))] [(.int (3 : Int32)), (.ref nr), (.int u3)])) rfl rfl (hb hby d5_21) _ ?_
          show Steps p.tables e below (T35.setTop (mkF m 22 #[.val (.ref ob), .val (.ref br), .val (.int at_), .val (.int (3 : Int32))] [(.int w3), (.int u3)])) _
          exact kt
        by_cases hc22_38 : u3 = w3
        · skip
          obtain ⟨T39, X39, e39, st39⟩ := getF X35 hx hZ hown (host := "") (Or.inl (hw _ (List.mem_of_getElem? (i := 33) rfl))) Via.refl e35 I0 (g := (mkF m 4 #[.val (.ref ob), .val (.ref br), .val (.int at_), .val (.int (4 : Int32))] [(.ref ob), (.int (4 : Int32))])) rfl rfl (hb hby d5_4)
          obtain ⟨cl40, Ar40, q40, S40, M40, H40, G40⟩ := id I1
          obtain ⟨fs, hr, hrun, hended, hW, hsame⟩ := X39.leave (v := some (Value.int (1 : Int32))) (fun h => by rw [Bd.returns] at h; cases h)
          have hres41 : (1 : Int32) = (if u0 = w0 then (if u1 = w1 then (if u2 = w2 then (if u3 = w3 then (1 : Int32) else (0 : Int32)) else (0 : Int32)) else (0 : Int32)) else (0 : Int32)) := by simp only [if_pos hc22_11, if_pos hc22_21, if_pos hc22_30, if_pos hc22_38]
          refine ⟨_, _, pre37 _ ?_, hrun, hended, _, _, rfl, ?_, ⟨_, rfl⟩, hW, hsame.mono (by decide) (by decide)⟩
          · skip
            show Steps p.tables e below (T35.setTop (mkF m 22 #[.val (.ref ob), .val (.ref br), .val (.int at_), .val (.int (3 : Int32))] [(.int w3), (.int u3)])) _
            refine XS.icmpYes X35.here hx rfl (pc0 := 22) (pc' := 27) rfl (hb hby d5_22) rfl (teq hc22_38).1 (by decide) (by decide) ?_
            show Steps p.tables e below (T35.setTop (mkF m 27 #[.val (.ref ob), .val (.ref br), .val (.int at_), .val (.int (3 : Int32))] [])) _
            refine XS.iinc X35.here hx rfl (hb hby d5_27) rfl (l' := #[.val (.ref ob), .val (.ref br), .val (.int at_), .val (.int (4 : Int32))]) rfl ?_
            show Steps p.tables e below (T35.setTop (mkF m 30 #[.val (.ref ob), .val (.ref br), .val (.int at_), .val (.int (4 : Int32))] [])) _
            refine XS.goto X35.here hx rfl (pc0 := 30) (pc' := 2) rfl (hb hby d5_30) (by decide) (by decide) ?_
            show Steps p.tables e below (T35.setTop (mkF m 2 #[.val (.ref ob), .val (.ref br), .val (.int at_), .val (.int (4 : Int32))] [])) _
            refine XS.iloadN X35.here hx rfl (hb hby d5_2) rfl ?_
            show Steps p.tables e below (T35.setTop (mkF m 3 #[.val (.ref ob), .val (.ref br), .val (.int at_), .val (.int (4 : Int32))] [(.int (4 : Int32))])) _
            refine XS.aloadN X35.here hx rfl (hb hby d5_3) rfl rfl ?_
            show Steps p.tables e below (T35.setTop (mkF m 4 #[.val (.ref ob), .val (.ref br), .val (.int at_), .val (.int (4 : Int32))] [(.ref ob), (.int (4 : Int32))])) _
            refine st39 _ ?_
            show Steps p.tables e below (T39.setTop (mkF m 7 #[.val (.ref ob), .val (.ref br), .val (.int at_), .val (.int (4 : Int32))] [(.ref nr), (.int (4 : Int32))])) _
            refine X39.arraylength hx (heq_of e39 Ar40.1) (State.isArrayOf_alike hZ.alike Ar40.2.1) (g := (mkF m 7 #[.val (.ref ob), .val (.ref br), .val (.int at_), .val (.int (4 : Int32))] [(.ref nr), (.int (4 : Int32))])) rfl rfl (hb hby d5_7) _ ?_
            rw [len_of S40 M40]
            show Steps p.tables e below (T39.setTop (mkF m 8 #[.val (.ref ob), .val (.ref br), .val (.int at_), .val (.int (4 : Int32))] [(.int (4 : Int32)), (.int (4 : Int32))])) _
            refine XS.icmpYes X39.here hx rfl (pc0 := 8) (pc' := 33) rfl (hb hby d5_8) rfl (flt (by decide)).2.1 (by decide) (by decide) ?_
            show Steps p.tables e below (T39.setTop (mkF m 33 #[.val (.ref ob), .val (.ref br), .val (.int at_), .val (.int (4 : Int32))] [])) _
            refine XS.iconst X39.here hx rfl (hb hby d5_33) ?_
            show Steps p.tables e below (T39.setTop (mkF m 34 #[.val (.ref ob), .val (.ref br), .val (.int at_), .val (.int (4 : Int32))] [(.int (1 : Int32))])) _
            exact retN X39 hx (t := .boolean) Bd.returns (by simp) (hb hby d5_34) hr
          · show Q5_4 Z ob br at_ nr ka kb vl w0 w1 w2 w3 u0 u1 u2 u3 h0 n0 _ T39.heap _
            rw [e39]
            exact ⟨congrArg (fun z => some (Value.int z)) hres41, N0, rfl⟩
        · skip
          obtain ⟨fs, hr, hrun, hended, hW, hsame⟩ := X35.leave (v := some (Value.int (0 : Int32))) (fun h => by rw [Bd.returns] at h; cases h)
          have hres42 : (0 : Int32) = (if u0 = w0 then (if u1 = w1 then (if u2 = w2 then (if u3 = w3 then (1 : Int32) else (0 : Int32)) else (0 : Int32)) else (0 : Int32)) else (0 : Int32)) := by simp only [if_pos hc22_11, if_pos hc22_21, if_pos hc22_30, if_neg hc22_38]
          refine ⟨_, _, pre37 _ ?_, hrun, hended, _, _, rfl, ?_, ⟨_, rfl⟩, hW, hsame.mono (by decide) (by decide)⟩
          · skip
            show Steps p.tables e below (T35.setTop (mkF m 22 #[.val (.ref ob), .val (.ref br), .val (.int at_), .val (.int (3 : Int32))] [(.int w3), (.int u3)])) _
            refine XS.icmpNo X35.here hx rfl (hb hby d5_22) rfl (feq hc22_38).1 ?_
            show Steps p.tables e below (T35.setTop (mkF m 25 #[.val (.ref ob), .val (.ref br), .val (.int at_), .val (.int (3 : Int32))] [])) _
            refine XS.iconst X35.here hx rfl (hb hby d5_25) ?_
            show Steps p.tables e below (T35.setTop (mkF m 26 #[.val (.ref ob), .val (.ref br), .val (.int at_), .val (.int (3 : Int32))] [(.int (0 : Int32))])) _
            exact retN X35 hx (t := .boolean) Bd.returns (by simp) (hb hby d5_26) hr
          · show Q5_4 Z ob br at_ nr ka kb vl w0 w1 w2 w3 u0 u1 u2 u3 h0 n0 _ T35.heap _
            rw [e35]
            exact ⟨congrArg (fun z => some (Value.int z)) hres42, N0, rfl⟩
      · skip
        obtain ⟨fs, hr, hrun, hended, hW, hsame⟩ := X27.leave (v := some (Value.int (0 : Int32))) (fun h => by rw [Bd.returns] at h; cases h)
        have hres43 : (0 : Int32) = (if u0 = w0 then (if u1 = w1 then (if u2 = w2 then (if u3 = w3 then (1 : Int32) else (0 : Int32)) else (0 : Int32)) else (0 : Int32)) else (0 : Int32)) := by simp only [if_pos hc22_11, if_pos hc22_21, if_neg hc22_30]
        refine ⟨_, _, pre29 _ ?_, hrun, hended, _, _, rfl, ?_, ⟨_, rfl⟩, hW, hsame.mono (by decide) (by decide)⟩
        · skip
          show Steps p.tables e below (T27.setTop (mkF m 22 #[.val (.ref ob), .val (.ref br), .val (.int at_), .val (.int (2 : Int32))] [(.int w2), (.int u2)])) _
          refine XS.icmpNo X27.here hx rfl (hb hby d5_22) rfl (feq hc22_30).1 ?_
          show Steps p.tables e below (T27.setTop (mkF m 25 #[.val (.ref ob), .val (.ref br), .val (.int at_), .val (.int (2 : Int32))] [])) _
          refine XS.iconst X27.here hx rfl (hb hby d5_25) ?_
          show Steps p.tables e below (T27.setTop (mkF m 26 #[.val (.ref ob), .val (.ref br), .val (.int at_), .val (.int (2 : Int32))] [(.int (0 : Int32))])) _
          exact retN X27 hx (t := .boolean) Bd.returns (by simp) (hb hby d5_26) hr
        · show Q5_4 Z ob br at_ nr ka kb vl w0 w1 w2 w3 u0 u1 u2 u3 h0 n0 _ T27.heap _
          rw [e27]
          exact ⟨congrArg (fun z => some (Value.int z)) hres43, N0, rfl⟩
    · skip
      obtain ⟨fs, hr, hrun, hended, hW, hsame⟩ := X18.leave (v := some (Value.int (0 : Int32))) (fun h => by rw [Bd.returns] at h; cases h)
      have hres44 : (0 : Int32) = (if u0 = w0 then (if u1 = w1 then (if u2 = w2 then (if u3 = w3 then (1 : Int32) else (0 : Int32)) else (0 : Int32)) else (0 : Int32)) else (0 : Int32)) := by simp only [if_pos hc22_11, if_neg hc22_21]
      refine ⟨_, _, pre20 _ ?_, hrun, hended, _, _, rfl, ?_, ⟨_, rfl⟩, hW, hsame.mono (by decide) (by decide)⟩
      · skip
        show Steps p.tables e below (T18.setTop (mkF m 22 #[.val (.ref ob), .val (.ref br), .val (.int at_), .val (.int (1 : Int32))] [(.int w1), (.int u1)])) _
        refine XS.icmpNo X18.here hx rfl (hb hby d5_22) rfl (feq hc22_21).1 ?_
        show Steps p.tables e below (T18.setTop (mkF m 25 #[.val (.ref ob), .val (.ref br), .val (.int at_), .val (.int (1 : Int32))] [])) _
        refine XS.iconst X18.here hx rfl (hb hby d5_25) ?_
        show Steps p.tables e below (T18.setTop (mkF m 26 #[.val (.ref ob), .val (.ref br), .val (.int at_), .val (.int (1 : Int32))] [(.int (0 : Int32))])) _
        exact retN X18 hx (t := .boolean) Bd.returns (by simp) (hb hby d5_26) hr
      · show Q5_4 Z ob br at_ nr ka kb vl w0 w1 w2 w3 u0 u1 u2 u3 h0 n0 _ T18.heap _
        rw [e18]
        exact ⟨congrArg (fun z => some (Value.int z)) hres44, N0, rfl⟩
  · skip
    obtain ⟨fs, hr, hrun, hended, hW, hsame⟩ := X8.leave (v := some (Value.int (0 : Int32))) (fun h => by rw [Bd.returns] at h; cases h)
    have hres45 : (0 : Int32) = (if u0 = w0 then (if u1 = w1 then (if u2 = w2 then (if u3 = w3 then (1 : Int32) else (0 : Int32)) else (0 : Int32)) else (0 : Int32)) else (0 : Int32)) := by simp only [if_neg hc22_11]
    refine ⟨_, _, pre10 _ ?_, hrun, hended, _, _, rfl, ?_, ⟨_, rfl⟩, hW, hsame.mono (by decide) (by decide)⟩
    · skip
      show Steps p.tables e below (T8.setTop (mkF m 22 #[.val (.ref ob), .val (.ref br), .val (.int at_), .val (.int (0 : Int32))] [(.int w0), (.int u0)])) _
      refine XS.icmpNo X8.here hx rfl (hb hby d5_22) rfl (feq hc22_11).1 ?_
      show Steps p.tables e below (T8.setTop (mkF m 25 #[.val (.ref ob), .val (.ref br), .val (.int at_), .val (.int (0 : Int32))] [])) _
      refine XS.iconst X8.here hx rfl (hb hby d5_25) ?_
      show Steps p.tables e below (T8.setTop (mkF m 26 #[.val (.ref ob), .val (.ref br), .val (.int at_), .val (.int (0 : Int32))] [(.int (0 : Int32))])) _
      exact retN X8 hx (t := .boolean) Bd.returns (by simp) (hb hby d5_26) hr
    · show Q5_4 Z ob br at_ nr ka kb vl w0 w1 w2 w3 u0 u1 u2 u3 h0 n0 _ T8.heap _
      rw [e8]
      exact ⟨congrArg (fun z => some (Value.int z)) hres45, N0, rfl⟩
theorem own_db (a b c : Int32) : (own_f1 a b c).toInt8.toInt32 = own_f1 a b c := by
  unfold own_f1
  exact own_byte2 _
theorem pn_0 : plainName "com/example/marcotte/marcotte/NameWrittenAtPinLaw" = true := by first | (simp [plainName, overriddenIn]; done) | decide +kernel
theorem pd_1 : parseMethodDescriptor "(III)B" = some ⟨[.int, .int, .int], some .byte⟩ := by decide +kernel
theorem pd_2 : parseMethodDescriptor "(Ljava/lang/String;Ljava/lang/String;Ljava/lang/String;[BIZ)V" = some ⟨[(.object "java/lang/String"), (.object "java/lang/String"), (.object "java/lang/String"), (.array .byte), .int, .boolean], none⟩ := by decide +kernel
theorem pd_3 : parseMethodDescriptor "([BI)Z" = some ⟨[(.array .byte), .int], some .boolean⟩ := by decide +kernel
theorem ef_0 (m : MethodId) (x0 : Int32) (x1 : Int32) (x2 : Int32) (x3 : Int64) (x4 : Int32) (x5 : Int32) : entryFrame m #[(.int x0), (.int x1), (.int x2), (.long x3), (.int x4), (.int x5)] maxLocals = mkF m 0 #[.val (.int x0), .val (.int x1), .val (.int x2), .val (.long x3), .second, .val (.int x4), .val (.int x5), .unset, .unset, .unset, .unset, .unset, .unset, .unset, .unset, .unset, .unset, .unset] [] := by first | (simp [entryFrame, mkF, argsToLocals, Value.category, maxLocals]; done) | rfl
theorem own_split_0_8 (k1 : Int32) (k2 : Int32) (k3 : Int32) (k4 : Int64) (k5 : Int32) (k6 : Int32) (v6 : Int32) (hv6 : v6 = ((k1 &&& (2147483647 : Int32)) % (5 : Int32))) : v6 = (0 : Int32) ∨ v6 = (1 : Int32) ∨ v6 = (2 : Int32) ∨ v6 = (3 : Int32) ∨ v6 = (4 : Int32) := by
  obtain ⟨n, h1, h2⟩ := own_rem_cases k1 (5 : Int32) 5 rfl (by decide)
  rw [← hv6] at h2
  have hc : n = 0 ∨ n = 1 ∨ n = 2 ∨ n = 3 ∨ n = 4 := by omega
  rcases hc with hc | hc | hc | hc | hc
  all_goals subst hc
  · exact Or.inl (own_lit _ _ 0 h2 rfl)
  · exact Or.inr (Or.inl (own_lit _ _ 1 h2 rfl))
  · exact Or.inr (Or.inr (Or.inl (own_lit _ _ 2 h2 rfl)))
  · exact Or.inr (Or.inr (Or.inr (Or.inl (own_lit _ _ 3 h2 rfl))))
  · exact Or.inr (Or.inr (Or.inr (Or.inr ((own_lit _ _ 4 h2 rfl)))))
theorem own_pre_0_363_hat0_s0 (k1 : Int32) (k2 : Int32) (k3 : Int32) (k4 : Int64) (k5 : Int32) (k6 : Int32) (hv6 : (0 : Int32) = ((k1 &&& (2147483647 : Int32)) % (5 : Int32))) (v18 : Int32) (hv18 : v18 = ((k2 &&& (2147483647 : Int32)) % (9 : Int32))) (r172 : Int32) (hr172 : r172 = (own_f1 k6 k5 (0 : Int32))) (r182 : Int32) (hr182 : r182 = (own_f1 k6 k5 (1 : Int32))) (r192 : Int32) (hr192 : r192 = (own_f1 k6 k5 (2 : Int32))) (r202 : Int32) (hr202 : r202 = (own_f1 k6 k5 (3 : Int32))) : 0 ≤ v18.toInt := by
  obtain ⟨n, h1, h2⟩ := own_rem_cases k2 (9 : Int32) 9 rfl (by decide)
  rw [← hv18] at h2
  omega
theorem own_pre_0_363_hat1_s0 (k1 : Int32) (k2 : Int32) (k3 : Int32) (k4 : Int64) (k5 : Int32) (k6 : Int32) (hv6 : (0 : Int32) = ((k1 &&& (2147483647 : Int32)) % (5 : Int32))) (v18 : Int32) (hv18 : v18 = ((k2 &&& (2147483647 : Int32)) % (9 : Int32))) (r172 : Int32) (hr172 : r172 = (own_f1 k6 k5 (0 : Int32))) (r182 : Int32) (hr182 : r182 = (own_f1 k6 k5 (1 : Int32))) (r192 : Int32) (hr192 : r192 = (own_f1 k6 k5 (2 : Int32))) (r202 : Int32) (hr202 : r202 = (own_f1 k6 k5 (3 : Int32))) (hp115_hat0 : 0 ≤ v18.toInt) : v18.toInt + 0 ≤ 8 := by
  obtain ⟨n, h1, h2⟩ := own_rem_cases k2 (9 : Int32) 9 rfl (by decide)
  rw [← hv18] at h2
  omega
theorem own_inb_0_224_s1 (k1 : Int32) (k2 : Int32) (k3 : Int32) (k4 : Int64) (k5 : Int32) (k6 : Int32) (hv6 : (1 : Int32) = ((k1 &&& (2147483647 : Int32)) % (5 : Int32))) (v18 : Int32) (hv18 : v18 = ((k2 &&& (2147483647 : Int32)) % (8 : Int32))) (r172 : Int32) (hr172 : r172 = (own_f1 k6 k5 (0 : Int32))) (r182 : Int32) (hr182 : r182 = (own_f1 k6 k5 (1 : Int32))) (r192 : Int32) (hr192 : r192 = (own_f1 k6 k5 (2 : Int32))) (r202 : Int32) (hr202 : r202 = (own_f1 k6 k5 (3 : Int32))) : ¬ v18 < 0 ∧ v18 < (8 : Int32) := by
  obtain ⟨n, h1, h2⟩ := own_rem_cases k2 (8 : Int32) 8 rfl (by decide)
  rw [← hv18] at h2
  exact own_in0 _ 8 (by omega) (by omega) (by decide)
theorem own_pre_0_363_hat0_s1 (k1 : Int32) (k2 : Int32) (k3 : Int32) (k4 : Int64) (k5 : Int32) (k6 : Int32) (hv6 : (1 : Int32) = ((k1 &&& (2147483647 : Int32)) % (5 : Int32))) (v18 : Int32) (hv18 : v18 = ((k2 &&& (2147483647 : Int32)) % (8 : Int32))) (r172 : Int32) (hr172 : r172 = (own_f1 k6 k5 (0 : Int32))) (r182 : Int32) (hr182 : r182 = (own_f1 k6 k5 (1 : Int32))) (r192 : Int32) (hr192 : r192 = (own_f1 k6 k5 (2 : Int32))) (r202 : Int32) (hr202 : r202 = (own_f1 k6 k5 (3 : Int32))) (m337 : Int32) (hm337 : m337 = (if r172 = (0 : Int32) then (1 : Int32) else (0 : Int32))) : 0 ≤ v18.toInt := by
  obtain ⟨n, h1, h2⟩ := own_rem_cases k2 (8 : Int32) 8 rfl (by decide)
  rw [← hv18] at h2
  omega
theorem own_pre_0_363_hat1_s1 (k1 : Int32) (k2 : Int32) (k3 : Int32) (k4 : Int64) (k5 : Int32) (k6 : Int32) (hv6 : (1 : Int32) = ((k1 &&& (2147483647 : Int32)) % (5 : Int32))) (v18 : Int32) (hv18 : v18 = ((k2 &&& (2147483647 : Int32)) % (8 : Int32))) (r172 : Int32) (hr172 : r172 = (own_f1 k6 k5 (0 : Int32))) (r182 : Int32) (hr182 : r182 = (own_f1 k6 k5 (1 : Int32))) (r192 : Int32) (hr192 : r192 = (own_f1 k6 k5 (2 : Int32))) (r202 : Int32) (hr202 : r202 = (own_f1 k6 k5 (3 : Int32))) (m337 : Int32) (hm337 : m337 = (if r172 = (0 : Int32) then (1 : Int32) else (0 : Int32))) (hp242_hat0 : 0 ≤ v18.toInt) : v18.toInt + 1 ≤ 8 := by
  obtain ⟨n, h1, h2⟩ := own_rem_cases k2 (8 : Int32) 8 rfl (by decide)
  rw [← hv18] at h2
  omega
theorem own_leaf_0_380_s1 (k1 : Int32) (k2 : Int32) (k3 : Int32) (k4 : Int64) (k5 : Int32) (k6 : Int32) (hv6 : (1 : Int32) = ((k1 &&& (2147483647 : Int32)) % (5 : Int32))) (v18 : Int32) (hv18 : v18 = ((k2 &&& (2147483647 : Int32)) % (8 : Int32))) (r172 : Int32) (hr172 : r172 = (own_f1 k6 k5 (0 : Int32))) (r182 : Int32) (hr182 : r182 = (own_f1 k6 k5 (1 : Int32))) (r192 : Int32) (hr192 : r192 = (own_f1 k6 k5 (2 : Int32))) (r202 : Int32) (hr202 : r202 = (own_f1 k6 k5 (3 : Int32))) (m337 : Int32) (hm337 : m337 = (if r172 = (0 : Int32) then (1 : Int32) else (0 : Int32))) (hp242_hat0 : 0 ≤ v18.toInt) (hp242_hat1 : v18.toInt + 1 ≤ 8) (r363 : Int32) (hr363 : r363 = (if (nar .byte (((nar .byte (k3.toInt8.toInt32)) ^^^ r172).toInt8.toInt32)) = (nar .byte (k3.toInt8.toInt32)) then (1 : Int32) else (0 : Int32))) (m380 : Int32) (hm380 : m380 = (if r363 = m337 then (1 : Int32) else (0 : Int32))) : (nar .boolean m380) = (1 : Int32) := by
  rw [hm380, hr363, hm337]
  simp only [own_x _ r172 (by rw [hr172]; exact own_db _ _ _)]
  rfl
theorem own_inb_0_224_s2 (k1 : Int32) (k2 : Int32) (k3 : Int32) (k4 : Int64) (k5 : Int32) (k6 : Int32) (hv6 : (2 : Int32) = ((k1 &&& (2147483647 : Int32)) % (5 : Int32))) (v18 : Int32) (hv18 : v18 = ((k2 &&& (2147483647 : Int32)) % (7 : Int32))) (r172 : Int32) (hr172 : r172 = (own_f1 k6 k5 (0 : Int32))) (r182 : Int32) (hr182 : r182 = (own_f1 k6 k5 (1 : Int32))) (r192 : Int32) (hr192 : r192 = (own_f1 k6 k5 (2 : Int32))) (r202 : Int32) (hr202 : r202 = (own_f1 k6 k5 (3 : Int32))) : ¬ v18 < 0 ∧ v18 < (8 : Int32) := by
  obtain ⟨n, h1, h2⟩ := own_rem_cases k2 (7 : Int32) 7 rfl (by decide)
  rw [← hv18] at h2
  exact own_in0 _ 8 (by omega) (by omega) (by decide)
theorem own_inb_0_245_s2 (k1 : Int32) (k2 : Int32) (k3 : Int32) (k4 : Int64) (k5 : Int32) (k6 : Int32) (hv6 : (2 : Int32) = ((k1 &&& (2147483647 : Int32)) % (5 : Int32))) (v18 : Int32) (hv18 : v18 = ((k2 &&& (2147483647 : Int32)) % (7 : Int32))) (r172 : Int32) (hr172 : r172 = (own_f1 k6 k5 (0 : Int32))) (r182 : Int32) (hr182 : r182 = (own_f1 k6 k5 (1 : Int32))) (r192 : Int32) (hr192 : r192 = (own_f1 k6 k5 (2 : Int32))) (r202 : Int32) (hr202 : r202 = (own_f1 k6 k5 (3 : Int32))) : ¬ (v18 + (1 : Int32)) < 0 ∧ (v18 + (1 : Int32)) < (8 : Int32) := by
  obtain ⟨n, h1, h2⟩ := own_rem_cases k2 (7 : Int32) 7 rfl (by decide)
  rw [← hv18] at h2
  exact own_in _ _ 1 rfl (by decide) (by omega) (by omega)
theorem own_pre_0_363_hat0_s2 (k1 : Int32) (k2 : Int32) (k3 : Int32) (k4 : Int64) (k5 : Int32) (k6 : Int32) (hv6 : (2 : Int32) = ((k1 &&& (2147483647 : Int32)) % (5 : Int32))) (v18 : Int32) (hv18 : v18 = ((k2 &&& (2147483647 : Int32)) % (7 : Int32))) (r172 : Int32) (hr172 : r172 = (own_f1 k6 k5 (0 : Int32))) (r182 : Int32) (hr182 : r182 = (own_f1 k6 k5 (1 : Int32))) (r192 : Int32) (hr192 : r192 = (own_f1 k6 k5 (2 : Int32))) (r202 : Int32) (hr202 : r202 = (own_f1 k6 k5 (3 : Int32))) (m337 : Int32) (hm337 : m337 = (if r172 = (0 : Int32) then (if r182 = (0 : Int32) then (1 : Int32) else (0 : Int32)) else (0 : Int32))) : 0 ≤ v18.toInt := by
  obtain ⟨n, h1, h2⟩ := own_rem_cases k2 (7 : Int32) 7 rfl (by decide)
  rw [← hv18] at h2
  omega
theorem own_pre_0_363_hat1_s2 (k1 : Int32) (k2 : Int32) (k3 : Int32) (k4 : Int64) (k5 : Int32) (k6 : Int32) (hv6 : (2 : Int32) = ((k1 &&& (2147483647 : Int32)) % (5 : Int32))) (v18 : Int32) (hv18 : v18 = ((k2 &&& (2147483647 : Int32)) % (7 : Int32))) (r172 : Int32) (hr172 : r172 = (own_f1 k6 k5 (0 : Int32))) (r182 : Int32) (hr182 : r182 = (own_f1 k6 k5 (1 : Int32))) (r192 : Int32) (hr192 : r192 = (own_f1 k6 k5 (2 : Int32))) (r202 : Int32) (hr202 : r202 = (own_f1 k6 k5 (3 : Int32))) (m337 : Int32) (hm337 : m337 = (if r172 = (0 : Int32) then (if r182 = (0 : Int32) then (1 : Int32) else (0 : Int32)) else (0 : Int32))) (hp385_hat0 : 0 ≤ v18.toInt) : v18.toInt + 2 ≤ 8 := by
  obtain ⟨n, h1, h2⟩ := own_rem_cases k2 (7 : Int32) 7 rfl (by decide)
  rw [← hv18] at h2
  omega
theorem own_leaf_0_380_s2 (k1 : Int32) (k2 : Int32) (k3 : Int32) (k4 : Int64) (k5 : Int32) (k6 : Int32) (hv6 : (2 : Int32) = ((k1 &&& (2147483647 : Int32)) % (5 : Int32))) (v18 : Int32) (hv18 : v18 = ((k2 &&& (2147483647 : Int32)) % (7 : Int32))) (r172 : Int32) (hr172 : r172 = (own_f1 k6 k5 (0 : Int32))) (r182 : Int32) (hr182 : r182 = (own_f1 k6 k5 (1 : Int32))) (r192 : Int32) (hr192 : r192 = (own_f1 k6 k5 (2 : Int32))) (r202 : Int32) (hr202 : r202 = (own_f1 k6 k5 (3 : Int32))) (m337 : Int32) (hm337 : m337 = (if r172 = (0 : Int32) then (if r182 = (0 : Int32) then (1 : Int32) else (0 : Int32)) else (0 : Int32))) (hp385_hat0 : 0 ≤ v18.toInt) (hp385_hat1 : v18.toInt + 2 ≤ 8) (r363 : Int32) (hr363 : r363 = (if (nar .byte (((nar .byte (k3.toInt8.toInt32)) ^^^ r172).toInt8.toInt32)) = (nar .byte (k3.toInt8.toInt32)) then (if (nar .byte (((nar .byte ((k3 >>> ((8 : Int32) &&& 31)).toInt8.toInt32)) ^^^ r182).toInt8.toInt32)) = (nar .byte ((k3 >>> ((8 : Int32) &&& 31)).toInt8.toInt32)) then (1 : Int32) else (0 : Int32)) else (0 : Int32))) (m380 : Int32) (hm380 : m380 = (if r363 = m337 then (1 : Int32) else (0 : Int32))) : (nar .boolean m380) = (1 : Int32) := by
  rw [hm380, hr363, hm337]
  simp only [own_x _ r172 (by rw [hr172]; exact own_db _ _ _), own_x _ r182 (by rw [hr182]; exact own_db _ _ _)]
  rfl
theorem own_inb_0_224_s3 (k1 : Int32) (k2 : Int32) (k3 : Int32) (k4 : Int64) (k5 : Int32) (k6 : Int32) (hv6 : (3 : Int32) = ((k1 &&& (2147483647 : Int32)) % (5 : Int32))) (v18 : Int32) (hv18 : v18 = ((k2 &&& (2147483647 : Int32)) % (6 : Int32))) (r172 : Int32) (hr172 : r172 = (own_f1 k6 k5 (0 : Int32))) (r182 : Int32) (hr182 : r182 = (own_f1 k6 k5 (1 : Int32))) (r192 : Int32) (hr192 : r192 = (own_f1 k6 k5 (2 : Int32))) (r202 : Int32) (hr202 : r202 = (own_f1 k6 k5 (3 : Int32))) : ¬ v18 < 0 ∧ v18 < (8 : Int32) := by
  obtain ⟨n, h1, h2⟩ := own_rem_cases k2 (6 : Int32) 6 rfl (by decide)
  rw [← hv18] at h2
  exact own_in0 _ 8 (by omega) (by omega) (by decide)
theorem own_inb_0_245_s3 (k1 : Int32) (k2 : Int32) (k3 : Int32) (k4 : Int64) (k5 : Int32) (k6 : Int32) (hv6 : (3 : Int32) = ((k1 &&& (2147483647 : Int32)) % (5 : Int32))) (v18 : Int32) (hv18 : v18 = ((k2 &&& (2147483647 : Int32)) % (6 : Int32))) (r172 : Int32) (hr172 : r172 = (own_f1 k6 k5 (0 : Int32))) (r182 : Int32) (hr182 : r182 = (own_f1 k6 k5 (1 : Int32))) (r192 : Int32) (hr192 : r192 = (own_f1 k6 k5 (2 : Int32))) (r202 : Int32) (hr202 : r202 = (own_f1 k6 k5 (3 : Int32))) : ¬ (v18 + (1 : Int32)) < 0 ∧ (v18 + (1 : Int32)) < (8 : Int32) := by
  obtain ⟨n, h1, h2⟩ := own_rem_cases k2 (6 : Int32) 6 rfl (by decide)
  rw [← hv18] at h2
  exact own_in _ _ 1 rfl (by decide) (by omega) (by omega)
theorem own_inb_0_266_s3 (k1 : Int32) (k2 : Int32) (k3 : Int32) (k4 : Int64) (k5 : Int32) (k6 : Int32) (hv6 : (3 : Int32) = ((k1 &&& (2147483647 : Int32)) % (5 : Int32))) (v18 : Int32) (hv18 : v18 = ((k2 &&& (2147483647 : Int32)) % (6 : Int32))) (r172 : Int32) (hr172 : r172 = (own_f1 k6 k5 (0 : Int32))) (r182 : Int32) (hr182 : r182 = (own_f1 k6 k5 (1 : Int32))) (r192 : Int32) (hr192 : r192 = (own_f1 k6 k5 (2 : Int32))) (r202 : Int32) (hr202 : r202 = (own_f1 k6 k5 (3 : Int32))) : ¬ (v18 + (2 : Int32)) < 0 ∧ (v18 + (2 : Int32)) < (8 : Int32) := by
  obtain ⟨n, h1, h2⟩ := own_rem_cases k2 (6 : Int32) 6 rfl (by decide)
  rw [← hv18] at h2
  exact own_in _ _ 2 rfl (by decide) (by omega) (by omega)
theorem own_pre_0_363_hat0_s3 (k1 : Int32) (k2 : Int32) (k3 : Int32) (k4 : Int64) (k5 : Int32) (k6 : Int32) (hv6 : (3 : Int32) = ((k1 &&& (2147483647 : Int32)) % (5 : Int32))) (v18 : Int32) (hv18 : v18 = ((k2 &&& (2147483647 : Int32)) % (6 : Int32))) (r172 : Int32) (hr172 : r172 = (own_f1 k6 k5 (0 : Int32))) (r182 : Int32) (hr182 : r182 = (own_f1 k6 k5 (1 : Int32))) (r192 : Int32) (hr192 : r192 = (own_f1 k6 k5 (2 : Int32))) (r202 : Int32) (hr202 : r202 = (own_f1 k6 k5 (3 : Int32))) (m337 : Int32) (hm337 : m337 = (if r172 = (0 : Int32) then (if r182 = (0 : Int32) then (if r192 = (0 : Int32) then (1 : Int32) else (0 : Int32)) else (0 : Int32)) else (0 : Int32))) : 0 ≤ v18.toInt := by
  obtain ⟨n, h1, h2⟩ := own_rem_cases k2 (6 : Int32) 6 rfl (by decide)
  rw [← hv18] at h2
  omega
theorem own_pre_0_363_hat1_s3 (k1 : Int32) (k2 : Int32) (k3 : Int32) (k4 : Int64) (k5 : Int32) (k6 : Int32) (hv6 : (3 : Int32) = ((k1 &&& (2147483647 : Int32)) % (5 : Int32))) (v18 : Int32) (hv18 : v18 = ((k2 &&& (2147483647 : Int32)) % (6 : Int32))) (r172 : Int32) (hr172 : r172 = (own_f1 k6 k5 (0 : Int32))) (r182 : Int32) (hr182 : r182 = (own_f1 k6 k5 (1 : Int32))) (r192 : Int32) (hr192 : r192 = (own_f1 k6 k5 (2 : Int32))) (r202 : Int32) (hr202 : r202 = (own_f1 k6 k5 (3 : Int32))) (m337 : Int32) (hm337 : m337 = (if r172 = (0 : Int32) then (if r182 = (0 : Int32) then (if r192 = (0 : Int32) then (1 : Int32) else (0 : Int32)) else (0 : Int32)) else (0 : Int32))) (hp541_hat0 : 0 ≤ v18.toInt) : v18.toInt + 3 ≤ 8 := by
  obtain ⟨n, h1, h2⟩ := own_rem_cases k2 (6 : Int32) 6 rfl (by decide)
  rw [← hv18] at h2
  omega
theorem own_leaf_0_380_s3 (k1 : Int32) (k2 : Int32) (k3 : Int32) (k4 : Int64) (k5 : Int32) (k6 : Int32) (hv6 : (3 : Int32) = ((k1 &&& (2147483647 : Int32)) % (5 : Int32))) (v18 : Int32) (hv18 : v18 = ((k2 &&& (2147483647 : Int32)) % (6 : Int32))) (r172 : Int32) (hr172 : r172 = (own_f1 k6 k5 (0 : Int32))) (r182 : Int32) (hr182 : r182 = (own_f1 k6 k5 (1 : Int32))) (r192 : Int32) (hr192 : r192 = (own_f1 k6 k5 (2 : Int32))) (r202 : Int32) (hr202 : r202 = (own_f1 k6 k5 (3 : Int32))) (m337 : Int32) (hm337 : m337 = (if r172 = (0 : Int32) then (if r182 = (0 : Int32) then (if r192 = (0 : Int32) then (1 : Int32) else (0 : Int32)) else (0 : Int32)) else (0 : Int32))) (hp541_hat0 : 0 ≤ v18.toInt) (hp541_hat1 : v18.toInt + 3 ≤ 8) (r363 : Int32) (hr363 : r363 = (if (nar .byte (((nar .byte (k3.toInt8.toInt32)) ^^^ r172).toInt8.toInt32)) = (nar .byte (k3.toInt8.toInt32)) then (if (nar .byte (((nar .byte ((k3 >>> ((8 : Int32) &&& 31)).toInt8.toInt32)) ^^^ r182).toInt8.toInt32)) = (nar .byte ((k3 >>> ((8 : Int32) &&& 31)).toInt8.toInt32)) then (if (nar .byte (((nar .byte ((k3 >>> ((16 : Int32) &&& 31)).toInt8.toInt32)) ^^^ r192).toInt8.toInt32)) = (nar .byte ((k3 >>> ((16 : Int32) &&& 31)).toInt8.toInt32)) then (1 : Int32) else (0 : Int32)) else (0 : Int32)) else (0 : Int32))) (m380 : Int32) (hm380 : m380 = (if r363 = m337 then (1 : Int32) else (0 : Int32))) : (nar .boolean m380) = (1 : Int32) := by
  rw [hm380, hr363, hm337]
  simp only [own_x _ r172 (by rw [hr172]; exact own_db _ _ _), own_x _ r182 (by rw [hr182]; exact own_db _ _ _), own_x _ r192 (by rw [hr192]; exact own_db _ _ _)]
  rfl
theorem own_inb_0_224_s4 (k1 : Int32) (k2 : Int32) (k3 : Int32) (k4 : Int64) (k5 : Int32) (k6 : Int32) (hv6 : (4 : Int32) = ((k1 &&& (2147483647 : Int32)) % (5 : Int32))) (v18 : Int32) (hv18 : v18 = ((k2 &&& (2147483647 : Int32)) % (5 : Int32))) (r172 : Int32) (hr172 : r172 = (own_f1 k6 k5 (0 : Int32))) (r182 : Int32) (hr182 : r182 = (own_f1 k6 k5 (1 : Int32))) (r192 : Int32) (hr192 : r192 = (own_f1 k6 k5 (2 : Int32))) (r202 : Int32) (hr202 : r202 = (own_f1 k6 k5 (3 : Int32))) : ¬ v18 < 0 ∧ v18 < (8 : Int32) := by
  obtain ⟨n, h1, h2⟩ := own_rem_cases k2 (5 : Int32) 5 rfl (by decide)
  rw [← hv18] at h2
  exact own_in0 _ 8 (by omega) (by omega) (by decide)
theorem own_inb_0_245_s4 (k1 : Int32) (k2 : Int32) (k3 : Int32) (k4 : Int64) (k5 : Int32) (k6 : Int32) (hv6 : (4 : Int32) = ((k1 &&& (2147483647 : Int32)) % (5 : Int32))) (v18 : Int32) (hv18 : v18 = ((k2 &&& (2147483647 : Int32)) % (5 : Int32))) (r172 : Int32) (hr172 : r172 = (own_f1 k6 k5 (0 : Int32))) (r182 : Int32) (hr182 : r182 = (own_f1 k6 k5 (1 : Int32))) (r192 : Int32) (hr192 : r192 = (own_f1 k6 k5 (2 : Int32))) (r202 : Int32) (hr202 : r202 = (own_f1 k6 k5 (3 : Int32))) : ¬ (v18 + (1 : Int32)) < 0 ∧ (v18 + (1 : Int32)) < (8 : Int32) := by
  obtain ⟨n, h1, h2⟩ := own_rem_cases k2 (5 : Int32) 5 rfl (by decide)
  rw [← hv18] at h2
  exact own_in _ _ 1 rfl (by decide) (by omega) (by omega)
theorem own_inb_0_266_s4 (k1 : Int32) (k2 : Int32) (k3 : Int32) (k4 : Int64) (k5 : Int32) (k6 : Int32) (hv6 : (4 : Int32) = ((k1 &&& (2147483647 : Int32)) % (5 : Int32))) (v18 : Int32) (hv18 : v18 = ((k2 &&& (2147483647 : Int32)) % (5 : Int32))) (r172 : Int32) (hr172 : r172 = (own_f1 k6 k5 (0 : Int32))) (r182 : Int32) (hr182 : r182 = (own_f1 k6 k5 (1 : Int32))) (r192 : Int32) (hr192 : r192 = (own_f1 k6 k5 (2 : Int32))) (r202 : Int32) (hr202 : r202 = (own_f1 k6 k5 (3 : Int32))) : ¬ (v18 + (2 : Int32)) < 0 ∧ (v18 + (2 : Int32)) < (8 : Int32) := by
  obtain ⟨n, h1, h2⟩ := own_rem_cases k2 (5 : Int32) 5 rfl (by decide)
  rw [← hv18] at h2
  exact own_in _ _ 2 rfl (by decide) (by omega) (by omega)
theorem own_inb_0_287_s4 (k1 : Int32) (k2 : Int32) (k3 : Int32) (k4 : Int64) (k5 : Int32) (k6 : Int32) (hv6 : (4 : Int32) = ((k1 &&& (2147483647 : Int32)) % (5 : Int32))) (v18 : Int32) (hv18 : v18 = ((k2 &&& (2147483647 : Int32)) % (5 : Int32))) (r172 : Int32) (hr172 : r172 = (own_f1 k6 k5 (0 : Int32))) (r182 : Int32) (hr182 : r182 = (own_f1 k6 k5 (1 : Int32))) (r192 : Int32) (hr192 : r192 = (own_f1 k6 k5 (2 : Int32))) (r202 : Int32) (hr202 : r202 = (own_f1 k6 k5 (3 : Int32))) : ¬ (v18 + (3 : Int32)) < 0 ∧ (v18 + (3 : Int32)) < (8 : Int32) := by
  obtain ⟨n, h1, h2⟩ := own_rem_cases k2 (5 : Int32) 5 rfl (by decide)
  rw [← hv18] at h2
  exact own_in _ _ 3 rfl (by decide) (by omega) (by omega)
theorem own_pre_0_363_hat0_s4 (k1 : Int32) (k2 : Int32) (k3 : Int32) (k4 : Int64) (k5 : Int32) (k6 : Int32) (hv6 : (4 : Int32) = ((k1 &&& (2147483647 : Int32)) % (5 : Int32))) (v18 : Int32) (hv18 : v18 = ((k2 &&& (2147483647 : Int32)) % (5 : Int32))) (r172 : Int32) (hr172 : r172 = (own_f1 k6 k5 (0 : Int32))) (r182 : Int32) (hr182 : r182 = (own_f1 k6 k5 (1 : Int32))) (r192 : Int32) (hr192 : r192 = (own_f1 k6 k5 (2 : Int32))) (r202 : Int32) (hr202 : r202 = (own_f1 k6 k5 (3 : Int32))) (m337 : Int32) (hm337 : m337 = (if r172 = (0 : Int32) then (if r182 = (0 : Int32) then (if r192 = (0 : Int32) then (if r202 = (0 : Int32) then (1 : Int32) else (0 : Int32)) else (0 : Int32)) else (0 : Int32)) else (0 : Int32))) : 0 ≤ v18.toInt := by
  obtain ⟨n, h1, h2⟩ := own_rem_cases k2 (5 : Int32) 5 rfl (by decide)
  rw [← hv18] at h2
  omega
theorem own_pre_0_363_hat1_s4 (k1 : Int32) (k2 : Int32) (k3 : Int32) (k4 : Int64) (k5 : Int32) (k6 : Int32) (hv6 : (4 : Int32) = ((k1 &&& (2147483647 : Int32)) % (5 : Int32))) (v18 : Int32) (hv18 : v18 = ((k2 &&& (2147483647 : Int32)) % (5 : Int32))) (r172 : Int32) (hr172 : r172 = (own_f1 k6 k5 (0 : Int32))) (r182 : Int32) (hr182 : r182 = (own_f1 k6 k5 (1 : Int32))) (r192 : Int32) (hr192 : r192 = (own_f1 k6 k5 (2 : Int32))) (r202 : Int32) (hr202 : r202 = (own_f1 k6 k5 (3 : Int32))) (m337 : Int32) (hm337 : m337 = (if r172 = (0 : Int32) then (if r182 = (0 : Int32) then (if r192 = (0 : Int32) then (if r202 = (0 : Int32) then (1 : Int32) else (0 : Int32)) else (0 : Int32)) else (0 : Int32)) else (0 : Int32))) (hp710_hat0 : 0 ≤ v18.toInt) : v18.toInt + 4 ≤ 8 := by
  obtain ⟨n, h1, h2⟩ := own_rem_cases k2 (5 : Int32) 5 rfl (by decide)
  rw [← hv18] at h2
  omega
theorem own_leaf_0_380_s4 (k1 : Int32) (k2 : Int32) (k3 : Int32) (k4 : Int64) (k5 : Int32) (k6 : Int32) (hv6 : (4 : Int32) = ((k1 &&& (2147483647 : Int32)) % (5 : Int32))) (v18 : Int32) (hv18 : v18 = ((k2 &&& (2147483647 : Int32)) % (5 : Int32))) (r172 : Int32) (hr172 : r172 = (own_f1 k6 k5 (0 : Int32))) (r182 : Int32) (hr182 : r182 = (own_f1 k6 k5 (1 : Int32))) (r192 : Int32) (hr192 : r192 = (own_f1 k6 k5 (2 : Int32))) (r202 : Int32) (hr202 : r202 = (own_f1 k6 k5 (3 : Int32))) (m337 : Int32) (hm337 : m337 = (if r172 = (0 : Int32) then (if r182 = (0 : Int32) then (if r192 = (0 : Int32) then (if r202 = (0 : Int32) then (1 : Int32) else (0 : Int32)) else (0 : Int32)) else (0 : Int32)) else (0 : Int32))) (hp710_hat0 : 0 ≤ v18.toInt) (hp710_hat1 : v18.toInt + 4 ≤ 8) (r363 : Int32) (hr363 : r363 = (if (nar .byte (((nar .byte (k3.toInt8.toInt32)) ^^^ r172).toInt8.toInt32)) = (nar .byte (k3.toInt8.toInt32)) then (if (nar .byte (((nar .byte ((k3 >>> ((8 : Int32) &&& 31)).toInt8.toInt32)) ^^^ r182).toInt8.toInt32)) = (nar .byte ((k3 >>> ((8 : Int32) &&& 31)).toInt8.toInt32)) then (if (nar .byte (((nar .byte ((k3 >>> ((16 : Int32) &&& 31)).toInt8.toInt32)) ^^^ r192).toInt8.toInt32)) = (nar .byte ((k3 >>> ((16 : Int32) &&& 31)).toInt8.toInt32)) then (if (nar .byte (((nar .byte ((k3 >>> ((24 : Int32) &&& 31)).toInt8.toInt32)) ^^^ r202).toInt8.toInt32)) = (nar .byte ((k3 >>> ((24 : Int32) &&& 31)).toInt8.toInt32)) then (1 : Int32) else (0 : Int32)) else (0 : Int32)) else (0 : Int32)) else (0 : Int32))) (m380 : Int32) (hm380 : m380 = (if r363 = m337 then (1 : Int32) else (0 : Int32))) : (nar .boolean m380) = (1 : Int32) := by
  rw [hm380, hr363, hm337]
  simp only [own_x _ r172 (by rw [hr172]; exact own_db _ _ _), own_x _ r182 (by rw [hr182]; exact own_db _ _ _), own_x _ r192 (by rw [hr192]; exact own_db _ _ _), own_x _ r202 (by rw [hr202]; exact own_db _ _ _)]
  rfl
def Q0 (Z : State) (k1 : Int32) (k2 : Int32) (k3 : Int32) (k4 : Int64) (k5 : Int32) (k6 : Int32) (h0 : Heap) (n0 : Nat) (v : Option Value) (h : Heap) (L : List Loc) : Prop := v = some (.int (1 : Int32)) ∧ Fr n0 L
set_option maxRecDepth 65536 in
set_option maxHeartbeats 40000000 in
theorem rm0 (l : Launch) (Z : State) (a0 : Array Value) (hw : ∀ d ∈ tables_1, d.before a0 Z = true) (ws : List Jvm.Cond) (k1 : Int32) (k2 : Int32) (k3 : Int32) (k4 : Int64) (k5 : Int32) (k6 : Int32) (h0 : Heap) (n0 : Nat) (Z0 : n0 ≤ h0.size)  :
    MetFree l x (head1 (Jvm.Cond.code x code maxLocals ret :: ws) room_1) (fun a U => a = #[(.int k1), (.int k2), (.int k3), (.long k4), (.int k5), (.int k6)] ∧ Z.Warmed39 U.vm ∧ U.heap = h0) (fun _ _ _ _ _ => True) (fun _ U o U' => ∃ v L, o = .returned v ∧ Q0 Z k1 k2 k3 k4 k5 k6 h0 n0 v U'.heap L ∧ FrameWide U o U' L room_1.cells room_1.slots) := by
  refine MetFree.of_bodySF (plainFor_of_name pn_0) hisR ?_
  intro p e s m args below meth c s₁ Bd hml0 hP hK
  obtain ⟨rfl, hZ, hh⟩ := hP
  have hx := Bd.exec
  have hby := Bd.bytes
  have hml : c.maxLocals = 18 := hml0
  have hown : s.vm.findClass "com/example/marcotte/marcotte/NameWrittenAtPinLaw" = some m.cls := findClass_of_methodNamed Bd.named
  have hnm := (name_of_methodNamed Bd.named Bd.method).1
  have X0 : Stand p l e room_1 s m #[(.int k1), (.int k2), (.int k3), (.long k4), (.int k5), (.int k6)] below meth c s₁ [] 0 0 := Stand.of_body Bd
  have e0 : s₁.heap = h0 := by rw [← hh, Bd.state]; rfl
  have N0 := Fr.nil n0
  have K0 : Keep h0 h0 [] := Keep.refl h0 _
  have hS : s.Since s.vm 0 := (State.WarmedH.refl s).since 0
  have wS : ∀ d ∈ Bundle.stringAtoms, d.before a0 Z = true := by
    intro d hd
    simp only [Bundle.stringAtoms, List.mem_cons, List.not_mem_nil, or_false] at hd
    rcases hd with rfl | rfl | rfl | rfl | rfl | rfl | rfl
    · exact (hw _ (List.mem_of_getElem? (i := 10) rfl))
    · exact (hw _ (List.mem_of_getElem? (i := 11) rfl))
    · exact (hw _ (List.mem_of_getElem? (i := 1) rfl))
    · exact (hw _ (List.mem_of_getElem? (i := 12) rfl))
    · exact (hw _ (List.mem_of_getElem? (i := 13) rfl))
    · exact (hw _ (List.mem_of_getElem? (i := 14) rfl))
    · exact (hw _ (List.mem_of_getElem? (i := 15) rfl))
  have pre0 : ∀ tq, Steps p.tables e below (s₁.setTop (mkF m 0 #[.val (.int k1), .val (.int k2), .val (.int k3), .val (.long k4), .second, .val (.int k5), .val (.int k6), .unset, .unset, .unset, .unset, .unset, .unset, .unset, .unset, .unset, .unset, .unset] [])) tq → Steps p.tables e below (s₁.setTop (entryFrame m #[(.int k1), (.int k2), (.int k3), (.long k4), (.int k5), (.int k6)] maxLocals)) tq := fun tq kq => castTop (ef_0 m k1 k2 k3 k4 k5 k6) kq
  obtain ⟨v6, hv6⟩ : ∃ z_q : Int32, z_q = ((k1 &&& (2147483647 : Int32)) % (5 : Int32)) := ⟨_, rfl⟩
  have pre1 : ∀ tq, Steps p.tables e below (s₁.setTop (mkF m 8 #[.val (.int k1), .val (.int k2), .val (.int k3), .val (.long k4), .second, .val (.int k5), .val (.int k6), .val (.int v6), .unset, .unset, .unset, .unset, .unset, .unset, .unset, .unset, .unset, .unset] [])) tq → Steps p.tables e below (s₁.setTop (entryFrame m #[(.int k1), (.int k2), (.int k3), (.long k4), (.int k5), (.int k6)] maxLocals)) tq := by
    intro tq kt
    refine pre0 _ ?_
    show Steps p.tables e below (s₁.setTop (mkF m 0 #[.val (.int k1), .val (.int k2), .val (.int k3), .val (.long k4), .second, .val (.int k5), .val (.int k6), .unset, .unset, .unset, .unset, .unset, .unset, .unset, .unset, .unset, .unset, .unset] [])) _
    refine XS.iloadN X0.here hx rfl (hb hby at_0) rfl ?_
    show Steps p.tables e below (s₁.setTop (mkF m 1 #[.val (.int k1), .val (.int k2), .val (.int k3), .val (.long k4), .second, .val (.int k5), .val (.int k6), .unset, .unset, .unset, .unset, .unset, .unset, .unset, .unset, .unset, .unset, .unset] [(.int k1)])) _
    refine X0.ldcInt hx hown (mvT hZ (hw _ (List.mem_of_getElem? (i := 0) rfl))) (g := (mkF m 1 #[.val (.int k1), .val (.int k2), .val (.int k3), .val (.long k4), .second, .val (.int k5), .val (.int k6), .unset, .unset, .unset, .unset, .unset, .unset, .unset, .unset, .unset, .unset, .unset] [(.int k1)])) rfl (hb hby at_1) _ ?_
    show Steps p.tables e below (s₁.setTop (mkF m 3 #[.val (.int k1), .val (.int k2), .val (.int k3), .val (.long k4), .second, .val (.int k5), .val (.int k6), .unset, .unset, .unset, .unset, .unset, .unset, .unset, .unset, .unset, .unset, .unset] [(.int (2147483647 : Int32)), (.int k1)])) _
    refine XS.iand X0.here hx rfl (hb hby at_3) rfl ?_
    show Steps p.tables e below (s₁.setTop (mkF m 4 #[.val (.int k1), .val (.int k2), .val (.int k3), .val (.long k4), .second, .val (.int k5), .val (.int k6), .unset, .unset, .unset, .unset, .unset, .unset, .unset, .unset, .unset, .unset, .unset] [(.int (k1 &&& (2147483647 : Int32)))])) _
    refine XS.iconst X0.here hx rfl (hb hby at_4) ?_
    show Steps p.tables e below (s₁.setTop (mkF m 5 #[.val (.int k1), .val (.int k2), .val (.int k3), .val (.long k4), .second, .val (.int k5), .val (.int k6), .unset, .unset, .unset, .unset, .unset, .unset, .unset, .unset, .unset, .unset, .unset] [(.int (5 : Int32)), (.int (k1 &&& (2147483647 : Int32)))])) _
    refine iremM X0 hx rfl (hb hby at_5) rfl (by decide : ¬ ((5 : Int32) = (0 : Int32))) ?_
    show Steps p.tables e below (s₁.setTop (mkF m 6 #[.val (.int k1), .val (.int k2), .val (.int k3), .val (.long k4), .second, .val (.int k5), .val (.int k6), .unset, .unset, .unset, .unset, .unset, .unset, .unset, .unset, .unset, .unset, .unset] [(.int ((k1 &&& (2147483647 : Int32)) % (5 : Int32)))])) _
    refine XS.istore X0.here hx rfl (hb hby at_6) rfl (l' := #[.val (.int k1), .val (.int k2), .val (.int k3), .val (.long k4), .second, .val (.int k5), .val (.int k6), .val (.int v6), .unset, .unset, .unset, .unset, .unset, .unset, .unset, .unset, .unset, .unset]) (by rw [hv6]; rfl) ?_
    show Steps p.tables e below (s₁.setTop (mkF m 8 #[.val (.int k1), .val (.int k2), .val (.int k3), .val (.long k4), .second, .val (.int k5), .val (.int k6), .val (.int v6), .unset, .unset, .unset, .unset, .unset, .unset, .unset, .unset, .unset, .unset] [])) _
    exact kt
  rcases (own_split_0_8 k1 k2 k3 k4 k5 k6 v6 hv6) with hs2 | hs2 | hs2 | hs2 | hs2
  · subst hs2
    obtain ⟨v18, hv18⟩ : ∃ z_q : Int32, z_q = ((k2 &&& (2147483647 : Int32)) % (9 : Int32)) := ⟨_, rfl⟩
    obtain ⟨T3, hX3, kx3, X3, e3, E3, A3, st3⟩ := newP X0 hx hZ (hw _ (List.mem_of_getElem? (i := 1) rfl)) e0 (g := (mkF m 22 #[.val (.int k1), .val (.int k2), .val (.int k3), .val (.long k4), .second, .val (.int k5), .val (.int k6), .val (.int (0 : Int32)), .val (.int v18), .unset, .unset, .unset, .unset, .unset, .unset, .unset, .unset, .unset] [(.int (0 : Int32))])) rfl (hb hby at_22) rfl (by decide) (cap := 0) (by decide) (by decide) (by decide) (by decide)
    obtain ⟨b3, g3⟩ : ∃ z_q, z_q = h0.size := ⟨_, rfl⟩
    rw [← g3] at A3 st3
    have g_b3 : n0 ≤ b3 := Nat.le_trans Z0 (Nat.le_of_eq g3.symm)
    have sz_b3 : h0.size ≤ b3 := Nat.le_trans K0.1 (Nat.le_of_eq g3.symm)
    have Z4 : n0 ≤ hX3.size := Nat.le_trans Z0 E3.1
    have hk5 := Nat.le_trans (Nat.zero_le _) (show _ ≤ hX3.size from E3.1)
    have K6 : Keep h0 hX3 [] := K0.ext E3
    have F7 : Arv Z hX3 b3 kx3 .byte (0 : Int32) [] (.int (0 : Int32)) := Arv.new A3 (by decide)
    obtain ⟨T8, hX8, kx8, X8, e8, E8, A8, st8⟩ := newP X3 hx hZ (hw _ (List.mem_of_getElem? (i := 1) rfl)) e3 (g := (mkF m 84 #[.val (.int k1), .val (.int k2), .val (.int k3), .val (.long k4), .second, .val (.int k5), .val (.int k6), .val (.int (0 : Int32)), .val (.int v18), .val (.ref b3), .unset, .unset, .unset, .unset, .unset, .unset, .unset, .unset] [(.int (8 : Int32))])) rfl (hb hby at_84) rfl (by decide) (cap := 8) (by decide) (by decide) (by decide) (by decide)
    obtain ⟨b8, g8⟩ : ∃ z_q, z_q = hX3.size := ⟨_, rfl⟩
    rw [← g8] at A8 st8
    have g_b8 : n0 ≤ b8 := Nat.le_trans Z4 (Nat.le_of_eq g8.symm)
    have sz_b8 : h0.size ≤ b8 := Nat.le_trans K6.1 (Nat.le_of_eq g8.symm)
    have ne_b3_b8 : b3 ≠ b8 := Nat.ne_of_lt (Nat.lt_of_lt_of_le F7.lt (Nat.le_of_eq g8.symm))
    have F9 : Arv Z hX8 b3 kx3 .byte (0 : Int32) [] (.int (0 : Int32)) := F7.ext E8
    have Z10 : n0 ≤ hX8.size := Nat.le_trans Z4 E8.1
    have hk11 := Nat.le_trans hk5 (show _ ≤ hX8.size from E8.1)
    have K12 : Keep h0 hX8 [] := K6.ext E8
    have F13 : Arv Z hX8 b8 kx8 .byte (8 : Int32) [(.int (0 : Int32)), (.int (0 : Int32)), (.int (0 : Int32)), (.int (0 : Int32)), (.int (0 : Int32)), (.int (0 : Int32)), (.int (0 : Int32)), (.int (0 : Int32))] (.int (0 : Int32)) := (Arv.new A8 (by decide)).pad (pad_rep [] (.int (0 : Int32)) 8)
    obtain ⟨cl14, Ar14, q14, S14, M14, H14, G14⟩ := id F13
    have hin14 : ¬ ((0 : Int32) < 0 ∨ cl14.slots.size ≤ ((0 : Int32)).toNatClampNeg) := inb_of S14 ⟨by decide, by decide⟩
    obtain ⟨T14, hX14, X14, e14, W14, st14⟩ := stB X8 hx hZ e8 Ar14 (j := (0 : Int32)) hin14 (g := (mkF m 94 #[.val (.int k1), .val (.int k2), .val (.int k3), .val (.long k4), .second, .val (.int k5), .val (.int k6), .val (.int (0 : Int32)), .val (.int v18), .val (.ref b3), .val (.ref b8), .unset, .unset, .unset, .unset, .unset, .unset, .unset] [(.int ((k4.toInt32).toInt8.toInt32)), (.int (0 : Int32)), (.ref b8)])) rfl rfl (hb hby at_94)
    have F15 : Arv Z hX14 b8 kx8 .byte (8 : Int32) [(.int (nar .byte ((k4.toInt32).toInt8.toInt32))), (.int (0 : Int32)), (.int (0 : Int32)), (.int (0 : Int32)), (.int (0 : Int32)), (.int (0 : Int32)), (.int (0 : Int32)), (.int (0 : Int32))] (.int (0 : Int32)) := Arv.set Ar14 q14 S14 M14 H14 G14 (fits_nar_byte _) W14 0 rfl (Nat.le_of_ble_eq_true rfl)
    have N14 := Fr.snoc X14 N0 g_b8
    have F16 : Arv Z hX14 b3 kx3 .byte (0 : Int32) [] (.int (0 : Int32)) := F9.other W14 ne_b3_b8
    have Z17 : n0 ≤ hX14.size := Nat.le_trans Z10 (Keep.of_wr W14).1
    have hk18 := Nat.le_trans hk11 (show _ ≤ hX14.size from (Keep.of_wr W14).1)
    have K19 : Keep h0 hX14 [] := K12.wr W14 (Or.inr sz_b8)
    obtain ⟨cl20, Ar20, q20, S20, M20, H20, G20⟩ := id F15
    have hin20 : ¬ ((1 : Int32) < 0 ∨ cl20.slots.size ≤ ((1 : Int32)).toNatClampNeg) := inb_of S20 ⟨by decide, by decide⟩
    obtain ⟨T20, hX20, X20, e20, W20, st20⟩ := stB X14 hx hZ e14 Ar20 (j := (1 : Int32)) hin20 (g := (mkF m 104 #[.val (.int k1), .val (.int k2), .val (.int k3), .val (.long k4), .second, .val (.int k5), .val (.int k6), .val (.int (0 : Int32)), .val (.int v18), .val (.ref b3), .val (.ref b8), .unset, .unset, .unset, .unset, .unset, .unset, .unset] [(.int (((k4 >>> ((8 : Int32) &&& 0x3f).toInt64).toInt32).toInt8.toInt32)), (.int (1 : Int32)), (.ref b8)])) rfl rfl (hb hby at_104)
    have F21 : Arv Z hX20 b8 kx8 .byte (8 : Int32) [(.int (nar .byte ((k4.toInt32).toInt8.toInt32))), (.int (nar .byte (((k4 >>> ((8 : Int32) &&& 0x3f).toInt64).toInt32).toInt8.toInt32))), (.int (0 : Int32)), (.int (0 : Int32)), (.int (0 : Int32)), (.int (0 : Int32)), (.int (0 : Int32)), (.int (0 : Int32))] (.int (0 : Int32)) := Arv.set Ar20 q20 S20 M20 H20 G20 (fits_nar_byte _) W20 1 rfl (Nat.le_of_ble_eq_true rfl)
    have N20 := Fr.snoc X20 N14 g_b8
    have F22 : Arv Z hX20 b3 kx3 .byte (0 : Int32) [] (.int (0 : Int32)) := F16.other W20 ne_b3_b8
    have Z23 : n0 ≤ hX20.size := Nat.le_trans Z17 (Keep.of_wr W20).1
    have hk24 := Nat.le_trans hk18 (show _ ≤ hX20.size from (Keep.of_wr W20).1)
    have K25 : Keep h0 hX20 [] := K19.wr W20 (Or.inr sz_b8)
    obtain ⟨cl26, Ar26, q26, S26, M26, H26, G26⟩ := id F21
    have hin26 : ¬ ((2 : Int32) < 0 ∨ cl26.slots.size ≤ ((2 : Int32)).toNatClampNeg) := inb_of S26 ⟨by decide, by decide⟩
    obtain ⟨T26, hX26, X26, e26, W26, st26⟩ := stB X20 hx hZ e20 Ar26 (j := (2 : Int32)) hin26 (g := (mkF m 114 #[.val (.int k1), .val (.int k2), .val (.int k3), .val (.long k4), .second, .val (.int k5), .val (.int k6), .val (.int (0 : Int32)), .val (.int v18), .val (.ref b3), .val (.ref b8), .unset, .unset, .unset, .unset, .unset, .unset, .unset] [(.int (((k4 >>> ((16 : Int32) &&& 0x3f).toInt64).toInt32).toInt8.toInt32)), (.int (2 : Int32)), (.ref b8)])) rfl rfl (hb hby at_114)
    have F27 : Arv Z hX26 b8 kx8 .byte (8 : Int32) [(.int (nar .byte ((k4.toInt32).toInt8.toInt32))), (.int (nar .byte (((k4 >>> ((8 : Int32) &&& 0x3f).toInt64).toInt32).toInt8.toInt32))), (.int (nar .byte (((k4 >>> ((16 : Int32) &&& 0x3f).toInt64).toInt32).toInt8.toInt32))), (.int (0 : Int32)), (.int (0 : Int32)), (.int (0 : Int32)), (.int (0 : Int32)), (.int (0 : Int32))] (.int (0 : Int32)) := Arv.set Ar26 q26 S26 M26 H26 G26 (fits_nar_byte _) W26 2 rfl (Nat.le_of_ble_eq_true rfl)
    have N26 := Fr.snoc X26 N20 g_b8
    have F28 : Arv Z hX26 b3 kx3 .byte (0 : Int32) [] (.int (0 : Int32)) := F22.other W26 ne_b3_b8
    have Z29 : n0 ≤ hX26.size := Nat.le_trans Z23 (Keep.of_wr W26).1
    have hk30 := Nat.le_trans hk24 (show _ ≤ hX26.size from (Keep.of_wr W26).1)
    have K31 : Keep h0 hX26 [] := K25.wr W26 (Or.inr sz_b8)
    obtain ⟨cl32, Ar32, q32, S32, M32, H32, G32⟩ := id F27
    have hin32 : ¬ ((3 : Int32) < 0 ∨ cl32.slots.size ≤ ((3 : Int32)).toNatClampNeg) := inb_of S32 ⟨by decide, by decide⟩
    obtain ⟨T32, hX32, X32, e32, W32, st32⟩ := stB X26 hx hZ e26 Ar32 (j := (3 : Int32)) hin32 (g := (mkF m 124 #[.val (.int k1), .val (.int k2), .val (.int k3), .val (.long k4), .second, .val (.int k5), .val (.int k6), .val (.int (0 : Int32)), .val (.int v18), .val (.ref b3), .val (.ref b8), .unset, .unset, .unset, .unset, .unset, .unset, .unset] [(.int (((k4 >>> ((24 : Int32) &&& 0x3f).toInt64).toInt32).toInt8.toInt32)), (.int (3 : Int32)), (.ref b8)])) rfl rfl (hb hby at_124)
    have F33 : Arv Z hX32 b8 kx8 .byte (8 : Int32) [(.int (nar .byte ((k4.toInt32).toInt8.toInt32))), (.int (nar .byte (((k4 >>> ((8 : Int32) &&& 0x3f).toInt64).toInt32).toInt8.toInt32))), (.int (nar .byte (((k4 >>> ((16 : Int32) &&& 0x3f).toInt64).toInt32).toInt8.toInt32))), (.int (nar .byte (((k4 >>> ((24 : Int32) &&& 0x3f).toInt64).toInt32).toInt8.toInt32))), (.int (0 : Int32)), (.int (0 : Int32)), (.int (0 : Int32)), (.int (0 : Int32))] (.int (0 : Int32)) := Arv.set Ar32 q32 S32 M32 H32 G32 (fits_nar_byte _) W32 3 rfl (Nat.le_of_ble_eq_true rfl)
    have N32 := Fr.snoc X32 N26 g_b8
    have F34 : Arv Z hX32 b3 kx3 .byte (0 : Int32) [] (.int (0 : Int32)) := F28.other W32 ne_b3_b8
    have Z35 : n0 ≤ hX32.size := Nat.le_trans Z29 (Keep.of_wr W32).1
    have hk36 := Nat.le_trans hk30 (show _ ≤ hX32.size from (Keep.of_wr W32).1)
    have K37 : Keep h0 hX32 [] := K31.wr W32 (Or.inr sz_b8)
    obtain ⟨cl38, Ar38, q38, S38, M38, H38, G38⟩ := id F33
    have hin38 : ¬ ((4 : Int32) < 0 ∨ cl38.slots.size ≤ ((4 : Int32)).toNatClampNeg) := inb_of S38 ⟨by decide, by decide⟩
    obtain ⟨T38, hX38, X38, e38, W38, st38⟩ := stB X32 hx hZ e32 Ar38 (j := (4 : Int32)) hin38 (g := (mkF m 134 #[.val (.int k1), .val (.int k2), .val (.int k3), .val (.long k4), .second, .val (.int k5), .val (.int k6), .val (.int (0 : Int32)), .val (.int v18), .val (.ref b3), .val (.ref b8), .unset, .unset, .unset, .unset, .unset, .unset, .unset] [(.int (((k4 >>> ((32 : Int32) &&& 0x3f).toInt64).toInt32).toInt8.toInt32)), (.int (4 : Int32)), (.ref b8)])) rfl rfl (hb hby at_134)
    have F39 : Arv Z hX38 b8 kx8 .byte (8 : Int32) [(.int (nar .byte ((k4.toInt32).toInt8.toInt32))), (.int (nar .byte (((k4 >>> ((8 : Int32) &&& 0x3f).toInt64).toInt32).toInt8.toInt32))), (.int (nar .byte (((k4 >>> ((16 : Int32) &&& 0x3f).toInt64).toInt32).toInt8.toInt32))), (.int (nar .byte (((k4 >>> ((24 : Int32) &&& 0x3f).toInt64).toInt32).toInt8.toInt32))), (.int (nar .byte (((k4 >>> ((32 : Int32) &&& 0x3f).toInt64).toInt32).toInt8.toInt32))), (.int (0 : Int32)), (.int (0 : Int32)), (.int (0 : Int32))] (.int (0 : Int32)) := Arv.set Ar38 q38 S38 M38 H38 G38 (fits_nar_byte _) W38 4 rfl (Nat.le_of_ble_eq_true rfl)
    have N38 := Fr.snoc X38 N32 g_b8
    have F40 : Arv Z hX38 b3 kx3 .byte (0 : Int32) [] (.int (0 : Int32)) := F34.other W38 ne_b3_b8
    have Z41 : n0 ≤ hX38.size := Nat.le_trans Z35 (Keep.of_wr W38).1
    have hk42 := Nat.le_trans hk36 (show _ ≤ hX38.size from (Keep.of_wr W38).1)
    have K43 : Keep h0 hX38 [] := K37.wr W38 (Or.inr sz_b8)
    obtain ⟨cl44, Ar44, q44, S44, M44, H44, G44⟩ := id F39
    have hin44 : ¬ ((5 : Int32) < 0 ∨ cl44.slots.size ≤ ((5 : Int32)).toNatClampNeg) := inb_of S44 ⟨by decide, by decide⟩
    obtain ⟨T44, hX44, X44, e44, W44, st44⟩ := stB X38 hx hZ e38 Ar44 (j := (5 : Int32)) hin44 (g := (mkF m 144 #[.val (.int k1), .val (.int k2), .val (.int k3), .val (.long k4), .second, .val (.int k5), .val (.int k6), .val (.int (0 : Int32)), .val (.int v18), .val (.ref b3), .val (.ref b8), .unset, .unset, .unset, .unset, .unset, .unset, .unset] [(.int (((k4 >>> ((40 : Int32) &&& 0x3f).toInt64).toInt32).toInt8.toInt32)), (.int (5 : Int32)), (.ref b8)])) rfl rfl (hb hby at_144)
    have F45 : Arv Z hX44 b8 kx8 .byte (8 : Int32) [(.int (nar .byte ((k4.toInt32).toInt8.toInt32))), (.int (nar .byte (((k4 >>> ((8 : Int32) &&& 0x3f).toInt64).toInt32).toInt8.toInt32))), (.int (nar .byte (((k4 >>> ((16 : Int32) &&& 0x3f).toInt64).toInt32).toInt8.toInt32))), (.int (nar .byte (((k4 >>> ((24 : Int32) &&& 0x3f).toInt64).toInt32).toInt8.toInt32))), (.int (nar .byte (((k4 >>> ((32 : Int32) &&& 0x3f).toInt64).toInt32).toInt8.toInt32))), (.int (nar .byte (((k4 >>> ((40 : Int32) &&& 0x3f).toInt64).toInt32).toInt8.toInt32))), (.int (0 : Int32)), (.int (0 : Int32))] (.int (0 : Int32)) := Arv.set Ar44 q44 S44 M44 H44 G44 (fits_nar_byte _) W44 5 rfl (Nat.le_of_ble_eq_true rfl)
    have N44 := Fr.snoc X44 N38 g_b8
    have F46 : Arv Z hX44 b3 kx3 .byte (0 : Int32) [] (.int (0 : Int32)) := F40.other W44 ne_b3_b8
    have Z47 : n0 ≤ hX44.size := Nat.le_trans Z41 (Keep.of_wr W44).1
    have hk48 := Nat.le_trans hk42 (show _ ≤ hX44.size from (Keep.of_wr W44).1)
    have K49 : Keep h0 hX44 [] := K43.wr W44 (Or.inr sz_b8)
    obtain ⟨cl50, Ar50, q50, S50, M50, H50, G50⟩ := id F45
    have hin50 : ¬ ((6 : Int32) < 0 ∨ cl50.slots.size ≤ ((6 : Int32)).toNatClampNeg) := inb_of S50 ⟨by decide, by decide⟩
    obtain ⟨T50, hX50, X50, e50, W50, st50⟩ := stB X44 hx hZ e44 Ar50 (j := (6 : Int32)) hin50 (g := (mkF m 155 #[.val (.int k1), .val (.int k2), .val (.int k3), .val (.long k4), .second, .val (.int k5), .val (.int k6), .val (.int (0 : Int32)), .val (.int v18), .val (.ref b3), .val (.ref b8), .unset, .unset, .unset, .unset, .unset, .unset, .unset] [(.int (((k4 >>> ((48 : Int32) &&& 0x3f).toInt64).toInt32).toInt8.toInt32)), (.int (6 : Int32)), (.ref b8)])) rfl rfl (hb hby at_155)
    have F51 : Arv Z hX50 b8 kx8 .byte (8 : Int32) [(.int (nar .byte ((k4.toInt32).toInt8.toInt32))), (.int (nar .byte (((k4 >>> ((8 : Int32) &&& 0x3f).toInt64).toInt32).toInt8.toInt32))), (.int (nar .byte (((k4 >>> ((16 : Int32) &&& 0x3f).toInt64).toInt32).toInt8.toInt32))), (.int (nar .byte (((k4 >>> ((24 : Int32) &&& 0x3f).toInt64).toInt32).toInt8.toInt32))), (.int (nar .byte (((k4 >>> ((32 : Int32) &&& 0x3f).toInt64).toInt32).toInt8.toInt32))), (.int (nar .byte (((k4 >>> ((40 : Int32) &&& 0x3f).toInt64).toInt32).toInt8.toInt32))), (.int (nar .byte (((k4 >>> ((48 : Int32) &&& 0x3f).toInt64).toInt32).toInt8.toInt32))), (.int (0 : Int32))] (.int (0 : Int32)) := Arv.set Ar50 q50 S50 M50 H50 G50 (fits_nar_byte _) W50 6 rfl (Nat.le_of_ble_eq_true rfl)
    have N50 := Fr.snoc X50 N44 g_b8
    have F52 : Arv Z hX50 b3 kx3 .byte (0 : Int32) [] (.int (0 : Int32)) := F46.other W50 ne_b3_b8
    have Z53 : n0 ≤ hX50.size := Nat.le_trans Z47 (Keep.of_wr W50).1
    have hk54 := Nat.le_trans hk48 (show _ ≤ hX50.size from (Keep.of_wr W50).1)
    have K55 : Keep h0 hX50 [] := K49.wr W50 (Or.inr sz_b8)
    obtain ⟨cl56, Ar56, q56, S56, M56, H56, G56⟩ := id F51
    have hin56 : ¬ ((7 : Int32) < 0 ∨ cl56.slots.size ≤ ((7 : Int32)).toNatClampNeg) := inb_of S56 ⟨by decide, by decide⟩
    obtain ⟨T56, hX56, X56, e56, W56, st56⟩ := stB X50 hx hZ e50 Ar56 (j := (7 : Int32)) hin56 (g := (mkF m 166 #[.val (.int k1), .val (.int k2), .val (.int k3), .val (.long k4), .second, .val (.int k5), .val (.int k6), .val (.int (0 : Int32)), .val (.int v18), .val (.ref b3), .val (.ref b8), .unset, .unset, .unset, .unset, .unset, .unset, .unset] [(.int (((k4 >>> ((56 : Int32) &&& 0x3f).toInt64).toInt32).toInt8.toInt32)), (.int (7 : Int32)), (.ref b8)])) rfl rfl (hb hby at_166)
    have F57 : Arv Z hX56 b8 kx8 .byte (8 : Int32) [(.int (nar .byte ((k4.toInt32).toInt8.toInt32))), (.int (nar .byte (((k4 >>> ((8 : Int32) &&& 0x3f).toInt64).toInt32).toInt8.toInt32))), (.int (nar .byte (((k4 >>> ((16 : Int32) &&& 0x3f).toInt64).toInt32).toInt8.toInt32))), (.int (nar .byte (((k4 >>> ((24 : Int32) &&& 0x3f).toInt64).toInt32).toInt8.toInt32))), (.int (nar .byte (((k4 >>> ((32 : Int32) &&& 0x3f).toInt64).toInt32).toInt8.toInt32))), (.int (nar .byte (((k4 >>> ((40 : Int32) &&& 0x3f).toInt64).toInt32).toInt8.toInt32))), (.int (nar .byte (((k4 >>> ((48 : Int32) &&& 0x3f).toInt64).toInt32).toInt8.toInt32))), (.int (nar .byte (((k4 >>> ((56 : Int32) &&& 0x3f).toInt64).toInt32).toInt8.toInt32)))] (.int (0 : Int32)) := Arv.set Ar56 q56 S56 M56 H56 G56 (fits_nar_byte _) W56 7 rfl (Nat.le_of_ble_eq_true rfl)
    have N56 := Fr.snoc X56 N50 g_b8
    have F58 : Arv Z hX56 b3 kx3 .byte (0 : Int32) [] (.int (0 : Int32)) := F52.other W56 ne_b3_b8
    have Z59 : n0 ≤ hX56.size := Nat.le_trans Z53 (Keep.of_wr W56).1
    have hk60 := Nat.le_trans hk54 (show _ ≤ hX56.size from (Keep.of_wr W56).1)
    have K61 : Keep h0 hX56 [] := K55.wr W56 (Or.inr sz_b8)
    obtain ⟨_, _, ⟨T62, L62, k62, n62⟩, -, X62, ⟨Lc62, hQ62, l62, y62, z62⟩, st62⟩ := Jvm.LawKit.callS X56 hx (y := (⟨"com/example/marcotte/marcotte/NameWrittenAtPinLaw", "delta", "(III)B"⟩ : MethodName)) hown (mvT hZ (hw _ (List.mem_of_getElem? (i := 2) rfl))) (mvT hZ (hw _ (List.mem_of_getElem? (i := 3) rfl))) (mvT hZ (hw _ (List.mem_of_getElem? (i := 4) rfl))) (mvT hZ (hw _ (List.mem_of_getElem? (i := 5) rfl))) (by decide) (backOf (W := 0) (rm1 l Z a0 hw [] k6 k5 (0 : Int32) hX56 n0 Z59 ) hZ (hw _ (List.mem_of_getElem? (i := 5) rfl)) (hw _ (List.mem_of_getElem? (i := 4) rfl)) (by decide) (by decide)) (g := (mkF m 172 #[.val (.int k1), .val (.int k2), .val (.int k3), .val (.long k4), .second, .val (.int k5), .val (.int k6), .val (.int (0 : Int32)), .val (.int v18), .val (.ref b3), .val (.ref b8), .unset, .unset, .unset, .unset, .unset, .unset, .unset] [(.int (0 : Int32)), (.int k5), (.int k6)])) rfl (by rw [hml]; rfl) (argsL := [(.int k6), (.int k5), (.int (0 : Int32))]) (rest := []) (lenOf pd_1 rfl) rfl (by show 2 * 0 + _ ≤ _; exact Nat.le_of_eq rfl) (hb hby at_172) (fun _ _ => ⟨rfl, e56, (by decide : 2 + 0 ≤ _), (by decide : 8 + 0 ≤ _)⟩)
    dsimp only [Pt.U, Pt.locs, Pt.cells, Pt.slots] at X62 l62 y62 z62 st62 hQ62
    subst l62 y62 z62
    obtain ⟨rfl, N62q, e62⟩ := hQ62
    have N62 := Fr.app N56 N62q
    obtain ⟨r172, hr172⟩ : ∃ z_q : Int32, z_q = (own_f1 k6 k5 (0 : Int32)) := ⟨_, rfl⟩
    obtain ⟨_, _, ⟨T63, L63, k63, n63⟩, -, X63, ⟨Lc63, hQ63, l63, y63, z63⟩, st63⟩ := Jvm.LawKit.callS X62 hx (y := (⟨"com/example/marcotte/marcotte/NameWrittenAtPinLaw", "delta", "(III)B"⟩ : MethodName)) hown (mvT hZ (hw _ (List.mem_of_getElem? (i := 2) rfl))) (mvT hZ (hw _ (List.mem_of_getElem? (i := 3) rfl))) (mvT hZ (hw _ (List.mem_of_getElem? (i := 4) rfl))) (mvT hZ (hw _ (List.mem_of_getElem? (i := 5) rfl))) (by decide) (backOf (W := 0) (rm1 l Z a0 hw [] k6 k5 (1 : Int32) hX56 n0 Z59 ) hZ (hw _ (List.mem_of_getElem? (i := 5) rfl)) (hw _ (List.mem_of_getElem? (i := 4) rfl)) (by decide) (by decide)) (g := (mkF m 182 #[.val (.int k1), .val (.int k2), .val (.int k3), .val (.long k4), .second, .val (.int k5), .val (.int k6), .val (.int (0 : Int32)), .val (.int v18), .val (.ref b3), .val (.ref b8), .val (.int r172), .unset, .unset, .unset, .unset, .unset, .unset] [(.int (1 : Int32)), (.int k5), (.int k6)])) rfl (by rw [hml]; rfl) (argsL := [(.int k6), (.int k5), (.int (1 : Int32))]) (rest := []) (lenOf pd_1 rfl) rfl (by show 2 * 0 + _ ≤ _; exact Nat.le_of_eq rfl) (hb hby at_182) (fun _ _ => ⟨rfl, e62, (by decide : 2 + 0 ≤ _), (by decide : 8 + 0 ≤ _)⟩)
    dsimp only [Pt.U, Pt.locs, Pt.cells, Pt.slots] at X63 l63 y63 z63 st63 hQ63
    subst l63 y63 z63
    obtain ⟨rfl, N63q, e63⟩ := hQ63
    have N63 := Fr.app N62 N63q
    obtain ⟨r182, hr182⟩ : ∃ z_q : Int32, z_q = (own_f1 k6 k5 (1 : Int32)) := ⟨_, rfl⟩
    obtain ⟨_, _, ⟨T64, L64, k64, n64⟩, -, X64, ⟨Lc64, hQ64, l64, y64, z64⟩, st64⟩ := Jvm.LawKit.callS X63 hx (y := (⟨"com/example/marcotte/marcotte/NameWrittenAtPinLaw", "delta", "(III)B"⟩ : MethodName)) hown (mvT hZ (hw _ (List.mem_of_getElem? (i := 2) rfl))) (mvT hZ (hw _ (List.mem_of_getElem? (i := 3) rfl))) (mvT hZ (hw _ (List.mem_of_getElem? (i := 4) rfl))) (mvT hZ (hw _ (List.mem_of_getElem? (i := 5) rfl))) (by decide) (backOf (W := 0) (rm1 l Z a0 hw [] k6 k5 (2 : Int32) hX56 n0 Z59 ) hZ (hw _ (List.mem_of_getElem? (i := 5) rfl)) (hw _ (List.mem_of_getElem? (i := 4) rfl)) (by decide) (by decide)) (g := (mkF m 192 #[.val (.int k1), .val (.int k2), .val (.int k3), .val (.long k4), .second, .val (.int k5), .val (.int k6), .val (.int (0 : Int32)), .val (.int v18), .val (.ref b3), .val (.ref b8), .val (.int r172), .val (.int r182), .unset, .unset, .unset, .unset, .unset] [(.int (2 : Int32)), (.int k5), (.int k6)])) rfl (by rw [hml]; rfl) (argsL := [(.int k6), (.int k5), (.int (2 : Int32))]) (rest := []) (lenOf pd_1 rfl) rfl (by show 2 * 0 + _ ≤ _; exact Nat.le_of_eq rfl) (hb hby at_192) (fun _ _ => ⟨rfl, e63, (by decide : 2 + 0 ≤ _), (by decide : 8 + 0 ≤ _)⟩)
    dsimp only [Pt.U, Pt.locs, Pt.cells, Pt.slots] at X64 l64 y64 z64 st64 hQ64
    subst l64 y64 z64
    obtain ⟨rfl, N64q, e64⟩ := hQ64
    have N64 := Fr.app N63 N64q
    obtain ⟨r192, hr192⟩ : ∃ z_q : Int32, z_q = (own_f1 k6 k5 (2 : Int32)) := ⟨_, rfl⟩
    obtain ⟨_, _, ⟨T65, L65, k65, n65⟩, -, X65, ⟨Lc65, hQ65, l65, y65, z65⟩, st65⟩ := Jvm.LawKit.callS X64 hx (y := (⟨"com/example/marcotte/marcotte/NameWrittenAtPinLaw", "delta", "(III)B"⟩ : MethodName)) hown (mvT hZ (hw _ (List.mem_of_getElem? (i := 2) rfl))) (mvT hZ (hw _ (List.mem_of_getElem? (i := 3) rfl))) (mvT hZ (hw _ (List.mem_of_getElem? (i := 4) rfl))) (mvT hZ (hw _ (List.mem_of_getElem? (i := 5) rfl))) (by decide) (backOf (W := 0) (rm1 l Z a0 hw [] k6 k5 (3 : Int32) hX56 n0 Z59 ) hZ (hw _ (List.mem_of_getElem? (i := 5) rfl)) (hw _ (List.mem_of_getElem? (i := 4) rfl)) (by decide) (by decide)) (g := (mkF m 202 #[.val (.int k1), .val (.int k2), .val (.int k3), .val (.long k4), .second, .val (.int k5), .val (.int k6), .val (.int (0 : Int32)), .val (.int v18), .val (.ref b3), .val (.ref b8), .val (.int r172), .val (.int r182), .val (.int r192), .unset, .unset, .unset, .unset] [(.int (3 : Int32)), (.int k5), (.int k6)])) rfl (by rw [hml]; rfl) (argsL := [(.int k6), (.int k5), (.int (3 : Int32))]) (rest := []) (lenOf pd_1 rfl) rfl (by show 2 * 0 + _ ≤ _; exact Nat.le_of_eq rfl) (hb hby at_202) (fun _ _ => ⟨rfl, e64, (by decide : 2 + 0 ≤ _), (by decide : 8 + 0 ≤ _)⟩)
    dsimp only [Pt.U, Pt.locs, Pt.cells, Pt.slots] at X65 l65 y65 z65 st65 hQ65
    subst l65 y65 z65
    obtain ⟨rfl, N65q, e65⟩ := hQ65
    have N65 := Fr.app N64 N65q
    obtain ⟨r202, hr202⟩ : ∃ z_q : Int32, z_q = (own_f1 k6 k5 (3 : Int32)) := ⟨_, rfl⟩
    obtain ⟨T66, hX66, X66, e66, E66, A66, D66, -, st66⟩ := newO X65 hx hZ hown (hw _ (List.mem_of_getElem? (i := 6) rfl)) (hw _ (List.mem_of_getElem? (i := 7) rfl)) (hw _ (List.mem_of_getElem? (i := 8) rfl)) e65 (g := (mkF m 339 #[.val (.int k1), .val (.int k2), .val (.int k3), .val (.long k4), .second, .val (.int k5), .val (.int k6), .val (.int (0 : Int32)), .val (.int v18), .val (.ref b3), .val (.ref b8), .val (.int r172), .val (.int r182), .val (.int r192), .val (.int r202), .val (.int (1 : Int32)), .unset, .unset] [])) rfl (hb hby at_339) (by decide) (by decide)
    obtain ⟨b66, g66⟩ : ∃ z_q, z_q = hX56.size := ⟨_, rfl⟩
    rw [← g66] at A66 D66 st66
    have g_b66 : n0 ≤ b66 := Nat.le_trans Z59 (Nat.le_of_eq g66.symm)
    have sz_b66 : h0.size ≤ b66 := Nat.le_trans K61.1 (Nat.le_of_eq g66.symm)
    have ne_b3_b66 : b3 ≠ b66 := Nat.ne_of_lt (Nat.lt_of_lt_of_le F58.lt (Nat.le_of_eq g66.symm))
    have ne_b8_b66 : b8 ≠ b66 := Nat.ne_of_lt (Nat.lt_of_lt_of_le F57.lt (Nat.le_of_eq g66.symm))
    have F67 : Arv Z hX66 b3 kx3 .byte (0 : Int32) [] (.int (0 : Int32)) := F58.ext E66
    have F68 : Arv Z hX66 b8 kx8 .byte (8 : Int32) [(.int (nar .byte ((k4.toInt32).toInt8.toInt32))), (.int (nar .byte (((k4 >>> ((8 : Int32) &&& 0x3f).toInt64).toInt32).toInt8.toInt32))), (.int (nar .byte (((k4 >>> ((16 : Int32) &&& 0x3f).toInt64).toInt32).toInt8.toInt32))), (.int (nar .byte (((k4 >>> ((24 : Int32) &&& 0x3f).toInt64).toInt32).toInt8.toInt32))), (.int (nar .byte (((k4 >>> ((32 : Int32) &&& 0x3f).toInt64).toInt32).toInt8.toInt32))), (.int (nar .byte (((k4 >>> ((40 : Int32) &&& 0x3f).toInt64).toInt32).toInt8.toInt32))), (.int (nar .byte (((k4 >>> ((48 : Int32) &&& 0x3f).toInt64).toInt32).toInt8.toInt32))), (.int (nar .byte (((k4 >>> ((56 : Int32) &&& 0x3f).toInt64).toInt32).toInt8.toInt32)))] (.int (0 : Int32)) := F57.ext E66
    have Z69 : n0 ≤ hX66.size := Nat.le_trans Z59 E66.1
    have hk70 := Nat.le_trans hk60 (show _ ≤ hX66.size from E66.1)
    have K71 : Keep h0 hX66 [] := K61.ext E66
    have F72 : Fld Z hX66 b66 "com/example/marcotte/marcotte/XmlNames$Name" "qualified" "Ljava/lang/String;" .null := D66 (Or.inr (hw _ (List.mem_of_getElem? (i := 28) rfl))) (ty := (.object "java/lang/String")) (by decide)
    have F73 : Fld Z hX66 b66 "com/example/marcotte/marcotte/XmlNames$Name" "prefix" "Ljava/lang/String;" .null := D66 (Or.inr (hw _ (List.mem_of_getElem? (i := 30) rfl))) (ty := (.object "java/lang/String")) (by decide)
    have F74 : Fld Z hX66 b66 "com/example/marcotte/marcotte/XmlNames$Name" "local" "Ljava/lang/String;" .null := D66 (Or.inr (hw _ (List.mem_of_getElem? (i := 32) rfl))) (ty := (.object "java/lang/String")) (by decide)
    have F75 : Fld Z hX66 b66 "com/example/marcotte/marcotte/XmlNames$Name" "bytes" "[B" .null := D66 (Or.inr (hw _ (List.mem_of_getElem? (i := 34) rfl))) (ty := (.array .byte)) (by decide)
    have F76 : Fld Z hX66 b66 "com/example/marcotte/marcotte/XmlNames$Name" "hash" "I" (.int (0 : Int32)) := D66 (Or.inr (hw _ (List.mem_of_getElem? (i := 36) rfl))) (ty := .int) (by decide)
    have F77 : Fld Z hX66 b66 "com/example/marcotte/marcotte/XmlNames$Name" "declaresNamespace" "Z" (.int (0 : Int32)) := D66 (Or.inr (hw _ (List.mem_of_getElem? (i := 38) rfl))) (ty := .boolean) (by decide)
    have pre78 : ∀ tq, Steps p.tables e below (T66.setTop (mkF m 343 #[.val (.int k1), .val (.int k2), .val (.int k3), .val (.long k4), .second, .val (.int k5), .val (.int k6), .val (.int (0 : Int32)), .val (.int v18), .val (.ref b3), .val (.ref b8), .val (.int r172), .val (.int r182), .val (.int r192), .val (.int r202), .val (.int (1 : Int32)), .unset, .unset] [(.ref b66), (.ref b66)])) tq → Steps p.tables e below (s₁.setTop (entryFrame m #[(.int k1), (.int k2), (.int k3), (.long k4), (.int k5), (.int k6)] maxLocals)) tq := by
      intro tq kt
      refine pre1 _ ?_
      show Steps p.tables e below (s₁.setTop (mkF m 8 #[.val (.int k1), .val (.int k2), .val (.int k3), .val (.long k4), .second, .val (.int k5), .val (.int k6), .val (.int (0 : Int32)), .unset, .unset, .unset, .unset, .unset, .unset, .unset, .unset, .unset, .unset] [])) _
      refine XS.iloadN X0.here hx rfl (hb hby at_8) rfl ?_
      show Steps p.tables e below (s₁.setTop (mkF m 9 #[.val (.int k1), .val (.int k2), .val (.int k3), .val (.long k4), .second, .val (.int k5), .val (.int k6), .val (.int (0 : Int32)), .unset, .unset, .unset, .unset, .unset, .unset, .unset, .unset, .unset, .unset] [(.int k2)])) _
      refine X0.ldcInt hx hown (mvT hZ (hw _ (List.mem_of_getElem? (i := 0) rfl))) (g := (mkF m 9 #[.val (.int k1), .val (.int k2), .val (.int k3), .val (.long k4), .second, .val (.int k5), .val (.int k6), .val (.int (0 : Int32)), .unset, .unset, .unset, .unset, .unset, .unset, .unset, .unset, .unset, .unset] [(.int k2)])) rfl (hb hby at_9) _ ?_
      show Steps p.tables e below (s₁.setTop (mkF m 11 #[.val (.int k1), .val (.int k2), .val (.int k3), .val (.long k4), .second, .val (.int k5), .val (.int k6), .val (.int (0 : Int32)), .unset, .unset, .unset, .unset, .unset, .unset, .unset, .unset, .unset, .unset] [(.int (2147483647 : Int32)), (.int k2)])) _
      refine XS.iand X0.here hx rfl (hb hby at_11) rfl ?_
      show Steps p.tables e below (s₁.setTop (mkF m 12 #[.val (.int k1), .val (.int k2), .val (.int k3), .val (.long k4), .second, .val (.int k5), .val (.int k6), .val (.int (0 : Int32)), .unset, .unset, .unset, .unset, .unset, .unset, .unset, .unset, .unset, .unset] [(.int (k2 &&& (2147483647 : Int32)))])) _
      refine XS.bipush X0.here hx rfl (hb hby at_12) ?_
      show Steps p.tables e below (s₁.setTop (mkF m 14 #[.val (.int k1), .val (.int k2), .val (.int k3), .val (.long k4), .second, .val (.int k5), .val (.int k6), .val (.int (0 : Int32)), .unset, .unset, .unset, .unset, .unset, .unset, .unset, .unset, .unset, .unset] [(.int (9 : Int32)), (.int (k2 &&& (2147483647 : Int32)))])) _
      refine XS.iload X0.here hx rfl (hb hby at_14) rfl ?_
      show Steps p.tables e below (s₁.setTop (mkF m 16 #[.val (.int k1), .val (.int k2), .val (.int k3), .val (.long k4), .second, .val (.int k5), .val (.int k6), .val (.int (0 : Int32)), .unset, .unset, .unset, .unset, .unset, .unset, .unset, .unset, .unset, .unset] [(.int (0 : Int32)), (.int (9 : Int32)), (.int (k2 &&& (2147483647 : Int32)))])) _
      refine XS.isub X0.here hx rfl (hb hby at_16) rfl ?_
      show Steps p.tables e below (s₁.setTop (mkF m 17 #[.val (.int k1), .val (.int k2), .val (.int k3), .val (.long k4), .second, .val (.int k5), .val (.int k6), .val (.int (0 : Int32)), .unset, .unset, .unset, .unset, .unset, .unset, .unset, .unset, .unset, .unset] [(.int (9 : Int32)), (.int (k2 &&& (2147483647 : Int32)))])) _
      refine iremM X0 hx rfl (hb hby at_17) rfl (by decide : ¬ ((9 : Int32) = (0 : Int32))) ?_
      show Steps p.tables e below (s₁.setTop (mkF m 18 #[.val (.int k1), .val (.int k2), .val (.int k3), .val (.long k4), .second, .val (.int k5), .val (.int k6), .val (.int (0 : Int32)), .unset, .unset, .unset, .unset, .unset, .unset, .unset, .unset, .unset, .unset] [(.int ((k2 &&& (2147483647 : Int32)) % (9 : Int32)))])) _
      refine XS.istore X0.here hx rfl (hb hby at_18) rfl (l' := #[.val (.int k1), .val (.int k2), .val (.int k3), .val (.long k4), .second, .val (.int k5), .val (.int k6), .val (.int (0 : Int32)), .val (.int v18), .unset, .unset, .unset, .unset, .unset, .unset, .unset, .unset, .unset]) (by rw [hv18]; rfl) ?_
      show Steps p.tables e below (s₁.setTop (mkF m 20 #[.val (.int k1), .val (.int k2), .val (.int k3), .val (.long k4), .second, .val (.int k5), .val (.int k6), .val (.int (0 : Int32)), .val (.int v18), .unset, .unset, .unset, .unset, .unset, .unset, .unset, .unset, .unset] [])) _
      refine XS.iload X0.here hx rfl (hb hby at_20) rfl ?_
      show Steps p.tables e below (s₁.setTop (mkF m 22 #[.val (.int k1), .val (.int k2), .val (.int k3), .val (.long k4), .second, .val (.int k5), .val (.int k6), .val (.int (0 : Int32)), .val (.int v18), .unset, .unset, .unset, .unset, .unset, .unset, .unset, .unset, .unset] [(.int (0 : Int32))])) _
      refine st3 _ ?_
      show Steps p.tables e below (T3.setTop (mkF m 24 #[.val (.int k1), .val (.int k2), .val (.int k3), .val (.long k4), .second, .val (.int k5), .val (.int k6), .val (.int (0 : Int32)), .val (.int v18), .unset, .unset, .unset, .unset, .unset, .unset, .unset, .unset, .unset] [(.ref b3)])) _
      refine XS.astore X3.here hx rfl (hb hby at_24) rfl rfl (l' := #[.val (.int k1), .val (.int k2), .val (.int k3), .val (.long k4), .second, .val (.int k5), .val (.int k6), .val (.int (0 : Int32)), .val (.int v18), .val (.ref b3), .unset, .unset, .unset, .unset, .unset, .unset, .unset, .unset]) rfl ?_
      show Steps p.tables e below (T3.setTop (mkF m 26 #[.val (.int k1), .val (.int k2), .val (.int k3), .val (.long k4), .second, .val (.int k5), .val (.int k6), .val (.int (0 : Int32)), .val (.int v18), .val (.ref b3), .unset, .unset, .unset, .unset, .unset, .unset, .unset, .unset] [])) _
      refine XS.iload X3.here hx rfl (hb hby at_26) rfl ?_
      show Steps p.tables e below (T3.setTop (mkF m 28 #[.val (.int k1), .val (.int k2), .val (.int k3), .val (.long k4), .second, .val (.int k5), .val (.int k6), .val (.int (0 : Int32)), .val (.int v18), .val (.ref b3), .unset, .unset, .unset, .unset, .unset, .unset, .unset, .unset] [(.int (0 : Int32))])) _
      refine XS.ifYes X3.here hx rfl (pc0 := 28) (pc' := 37) rfl (hb hby at_28) rfl ((if0 _ _).trans (flt (by decide)).2.2.2) (by decide) (by decide) ?_
      show Steps p.tables e below (T3.setTop (mkF m 37 #[.val (.int k1), .val (.int k2), .val (.int k3), .val (.long k4), .second, .val (.int k5), .val (.int k6), .val (.int (0 : Int32)), .val (.int v18), .val (.ref b3), .unset, .unset, .unset, .unset, .unset, .unset, .unset, .unset] [])) _
      refine XS.iload X3.here hx rfl (hb hby at_37) rfl ?_
      show Steps p.tables e below (T3.setTop (mkF m 39 #[.val (.int k1), .val (.int k2), .val (.int k3), .val (.long k4), .second, .val (.int k5), .val (.int k6), .val (.int (0 : Int32)), .val (.int v18), .val (.ref b3), .unset, .unset, .unset, .unset, .unset, .unset, .unset, .unset] [(.int (0 : Int32))])) _
      refine XS.iconst X3.here hx rfl (hb hby at_39) ?_
      show Steps p.tables e below (T3.setTop (mkF m 40 #[.val (.int k1), .val (.int k2), .val (.int k3), .val (.long k4), .second, .val (.int k5), .val (.int k6), .val (.int (0 : Int32)), .val (.int v18), .val (.ref b3), .unset, .unset, .unset, .unset, .unset, .unset, .unset, .unset] [(.int (1 : Int32)), (.int (0 : Int32))])) _
      refine XS.icmpYes X3.here hx rfl (pc0 := 40) (pc' := 52) rfl (hb hby at_40) rfl (flt (by decide)).2.2.2 (by decide) (by decide) ?_
      show Steps p.tables e below (T3.setTop (mkF m 52 #[.val (.int k1), .val (.int k2), .val (.int k3), .val (.long k4), .second, .val (.int k5), .val (.int k6), .val (.int (0 : Int32)), .val (.int v18), .val (.ref b3), .unset, .unset, .unset, .unset, .unset, .unset, .unset, .unset] [])) _
      refine XS.iload X3.here hx rfl (hb hby at_52) rfl ?_
      show Steps p.tables e below (T3.setTop (mkF m 54 #[.val (.int k1), .val (.int k2), .val (.int k3), .val (.long k4), .second, .val (.int k5), .val (.int k6), .val (.int (0 : Int32)), .val (.int v18), .val (.ref b3), .unset, .unset, .unset, .unset, .unset, .unset, .unset, .unset] [(.int (0 : Int32))])) _
      refine XS.iconst X3.here hx rfl (hb hby at_54) ?_
      show Steps p.tables e below (T3.setTop (mkF m 55 #[.val (.int k1), .val (.int k2), .val (.int k3), .val (.long k4), .second, .val (.int k5), .val (.int k6), .val (.int (0 : Int32)), .val (.int v18), .val (.ref b3), .unset, .unset, .unset, .unset, .unset, .unset, .unset, .unset] [(.int (2 : Int32)), (.int (0 : Int32))])) _
      refine XS.icmpYes X3.here hx rfl (pc0 := 55) (pc' := 67) rfl (hb hby at_55) rfl (flt (by decide)).2.2.2 (by decide) (by decide) ?_
      show Steps p.tables e below (T3.setTop (mkF m 67 #[.val (.int k1), .val (.int k2), .val (.int k3), .val (.long k4), .second, .val (.int k5), .val (.int k6), .val (.int (0 : Int32)), .val (.int v18), .val (.ref b3), .unset, .unset, .unset, .unset, .unset, .unset, .unset, .unset] [])) _
      refine XS.iload X3.here hx rfl (hb hby at_67) rfl ?_
      show Steps p.tables e below (T3.setTop (mkF m 69 #[.val (.int k1), .val (.int k2), .val (.int k3), .val (.long k4), .second, .val (.int k5), .val (.int k6), .val (.int (0 : Int32)), .val (.int v18), .val (.ref b3), .unset, .unset, .unset, .unset, .unset, .unset, .unset, .unset] [(.int (0 : Int32))])) _
      refine XS.iconst X3.here hx rfl (hb hby at_69) ?_
      show Steps p.tables e below (T3.setTop (mkF m 70 #[.val (.int k1), .val (.int k2), .val (.int k3), .val (.long k4), .second, .val (.int k5), .val (.int k6), .val (.int (0 : Int32)), .val (.int v18), .val (.ref b3), .unset, .unset, .unset, .unset, .unset, .unset, .unset, .unset] [(.int (3 : Int32)), (.int (0 : Int32))])) _
      refine XS.icmpYes X3.here hx rfl (pc0 := 70) (pc' := 82) rfl (hb hby at_70) rfl (flt (by decide)).2.2.2 (by decide) (by decide) ?_
      show Steps p.tables e below (T3.setTop (mkF m 82 #[.val (.int k1), .val (.int k2), .val (.int k3), .val (.long k4), .second, .val (.int k5), .val (.int k6), .val (.int (0 : Int32)), .val (.int v18), .val (.ref b3), .unset, .unset, .unset, .unset, .unset, .unset, .unset, .unset] [])) _
      refine XS.bipush X3.here hx rfl (hb hby at_82) ?_
      show Steps p.tables e below (T3.setTop (mkF m 84 #[.val (.int k1), .val (.int k2), .val (.int k3), .val (.long k4), .second, .val (.int k5), .val (.int k6), .val (.int (0 : Int32)), .val (.int v18), .val (.ref b3), .unset, .unset, .unset, .unset, .unset, .unset, .unset, .unset] [(.int (8 : Int32))])) _
      refine st8 _ ?_
      show Steps p.tables e below (T8.setTop (mkF m 86 #[.val (.int k1), .val (.int k2), .val (.int k3), .val (.long k4), .second, .val (.int k5), .val (.int k6), .val (.int (0 : Int32)), .val (.int v18), .val (.ref b3), .unset, .unset, .unset, .unset, .unset, .unset, .unset, .unset] [(.ref b8)])) _
      refine XS.astore X8.here hx rfl (hb hby at_86) rfl rfl (l' := #[.val (.int k1), .val (.int k2), .val (.int k3), .val (.long k4), .second, .val (.int k5), .val (.int k6), .val (.int (0 : Int32)), .val (.int v18), .val (.ref b3), .val (.ref b8), .unset, .unset, .unset, .unset, .unset, .unset, .unset]) rfl ?_
      show Steps p.tables e below (T8.setTop (mkF m 88 #[.val (.int k1), .val (.int k2), .val (.int k3), .val (.long k4), .second, .val (.int k5), .val (.int k6), .val (.int (0 : Int32)), .val (.int v18), .val (.ref b3), .val (.ref b8), .unset, .unset, .unset, .unset, .unset, .unset, .unset] [])) _
      refine XS.aload X8.here hx rfl (hb hby at_88) rfl rfl ?_
      show Steps p.tables e below (T8.setTop (mkF m 90 #[.val (.int k1), .val (.int k2), .val (.int k3), .val (.long k4), .second, .val (.int k5), .val (.int k6), .val (.int (0 : Int32)), .val (.int v18), .val (.ref b3), .val (.ref b8), .unset, .unset, .unset, .unset, .unset, .unset, .unset] [(.ref b8)])) _
      refine XS.iconst X8.here hx rfl (hb hby at_90) ?_
      show Steps p.tables e below (T8.setTop (mkF m 91 #[.val (.int k1), .val (.int k2), .val (.int k3), .val (.long k4), .second, .val (.int k5), .val (.int k6), .val (.int (0 : Int32)), .val (.int v18), .val (.ref b3), .val (.ref b8), .unset, .unset, .unset, .unset, .unset, .unset, .unset] [(.int (0 : Int32)), (.ref b8)])) _
      refine XS.lloadN X8.here hx rfl (hb hby at_91) rfl ?_
      show Steps p.tables e below (T8.setTop (mkF m 92 #[.val (.int k1), .val (.int k2), .val (.int k3), .val (.long k4), .second, .val (.int k5), .val (.int k6), .val (.int (0 : Int32)), .val (.int v18), .val (.ref b3), .val (.ref b8), .unset, .unset, .unset, .unset, .unset, .unset, .unset] [(.long k4), (.int (0 : Int32)), (.ref b8)])) _
      refine XS.l2i X8.here hx rfl (hb hby at_92) rfl ?_
      show Steps p.tables e below (T8.setTop (mkF m 93 #[.val (.int k1), .val (.int k2), .val (.int k3), .val (.long k4), .second, .val (.int k5), .val (.int k6), .val (.int (0 : Int32)), .val (.int v18), .val (.ref b3), .val (.ref b8), .unset, .unset, .unset, .unset, .unset, .unset, .unset] [(.int (k4.toInt32)), (.int (0 : Int32)), (.ref b8)])) _
      refine XS.i2b X8.here hx rfl (hb hby at_93) rfl ?_
      show Steps p.tables e below (T8.setTop (mkF m 94 #[.val (.int k1), .val (.int k2), .val (.int k3), .val (.long k4), .second, .val (.int k5), .val (.int k6), .val (.int (0 : Int32)), .val (.int v18), .val (.ref b3), .val (.ref b8), .unset, .unset, .unset, .unset, .unset, .unset, .unset] [(.int ((k4.toInt32).toInt8.toInt32)), (.int (0 : Int32)), (.ref b8)])) _
      refine st14 _ ?_
      show Steps p.tables e below (T14.setTop (mkF m 95 #[.val (.int k1), .val (.int k2), .val (.int k3), .val (.long k4), .second, .val (.int k5), .val (.int k6), .val (.int (0 : Int32)), .val (.int v18), .val (.ref b3), .val (.ref b8), .unset, .unset, .unset, .unset, .unset, .unset, .unset] [])) _
      refine XS.aload X14.here hx rfl (hb hby at_95) rfl rfl ?_
      show Steps p.tables e below (T14.setTop (mkF m 97 #[.val (.int k1), .val (.int k2), .val (.int k3), .val (.long k4), .second, .val (.int k5), .val (.int k6), .val (.int (0 : Int32)), .val (.int v18), .val (.ref b3), .val (.ref b8), .unset, .unset, .unset, .unset, .unset, .unset, .unset] [(.ref b8)])) _
      refine XS.iconst X14.here hx rfl (hb hby at_97) ?_
      show Steps p.tables e below (T14.setTop (mkF m 98 #[.val (.int k1), .val (.int k2), .val (.int k3), .val (.long k4), .second, .val (.int k5), .val (.int k6), .val (.int (0 : Int32)), .val (.int v18), .val (.ref b3), .val (.ref b8), .unset, .unset, .unset, .unset, .unset, .unset, .unset] [(.int (1 : Int32)), (.ref b8)])) _
      refine XS.lloadN X14.here hx rfl (hb hby at_98) rfl ?_
      show Steps p.tables e below (T14.setTop (mkF m 99 #[.val (.int k1), .val (.int k2), .val (.int k3), .val (.long k4), .second, .val (.int k5), .val (.int k6), .val (.int (0 : Int32)), .val (.int v18), .val (.ref b3), .val (.ref b8), .unset, .unset, .unset, .unset, .unset, .unset, .unset] [(.long k4), (.int (1 : Int32)), (.ref b8)])) _
      refine XS.bipush X14.here hx rfl (hb hby at_99) ?_
      show Steps p.tables e below (T14.setTop (mkF m 101 #[.val (.int k1), .val (.int k2), .val (.int k3), .val (.long k4), .second, .val (.int k5), .val (.int k6), .val (.int (0 : Int32)), .val (.int v18), .val (.ref b3), .val (.ref b8), .unset, .unset, .unset, .unset, .unset, .unset, .unset] [(.int (8 : Int32)), (.long k4), (.int (1 : Int32)), (.ref b8)])) _
      refine XS.lshr X14.here hx rfl (hb hby at_101) rfl ?_
      show Steps p.tables e below (T14.setTop (mkF m 102 #[.val (.int k1), .val (.int k2), .val (.int k3), .val (.long k4), .second, .val (.int k5), .val (.int k6), .val (.int (0 : Int32)), .val (.int v18), .val (.ref b3), .val (.ref b8), .unset, .unset, .unset, .unset, .unset, .unset, .unset] [(.long (k4 >>> ((8 : Int32) &&& 0x3f).toInt64)), (.int (1 : Int32)), (.ref b8)])) _
      refine XS.l2i X14.here hx rfl (hb hby at_102) rfl ?_
      show Steps p.tables e below (T14.setTop (mkF m 103 #[.val (.int k1), .val (.int k2), .val (.int k3), .val (.long k4), .second, .val (.int k5), .val (.int k6), .val (.int (0 : Int32)), .val (.int v18), .val (.ref b3), .val (.ref b8), .unset, .unset, .unset, .unset, .unset, .unset, .unset] [(.int ((k4 >>> ((8 : Int32) &&& 0x3f).toInt64).toInt32)), (.int (1 : Int32)), (.ref b8)])) _
      refine XS.i2b X14.here hx rfl (hb hby at_103) rfl ?_
      show Steps p.tables e below (T14.setTop (mkF m 104 #[.val (.int k1), .val (.int k2), .val (.int k3), .val (.long k4), .second, .val (.int k5), .val (.int k6), .val (.int (0 : Int32)), .val (.int v18), .val (.ref b3), .val (.ref b8), .unset, .unset, .unset, .unset, .unset, .unset, .unset] [(.int (((k4 >>> ((8 : Int32) &&& 0x3f).toInt64).toInt32).toInt8.toInt32)), (.int (1 : Int32)), (.ref b8)])) _
      refine st20 _ ?_
      show Steps p.tables e below (T20.setTop (mkF m 105 #[.val (.int k1), .val (.int k2), .val (.int k3), .val (.long k4), .second, .val (.int k5), .val (.int k6), .val (.int (0 : Int32)), .val (.int v18), .val (.ref b3), .val (.ref b8), .unset, .unset, .unset, .unset, .unset, .unset, .unset] [])) _
      refine XS.aload X20.here hx rfl (hb hby at_105) rfl rfl ?_
      show Steps p.tables e below (T20.setTop (mkF m 107 #[.val (.int k1), .val (.int k2), .val (.int k3), .val (.long k4), .second, .val (.int k5), .val (.int k6), .val (.int (0 : Int32)), .val (.int v18), .val (.ref b3), .val (.ref b8), .unset, .unset, .unset, .unset, .unset, .unset, .unset] [(.ref b8)])) _
      refine XS.iconst X20.here hx rfl (hb hby at_107) ?_
      show Steps p.tables e below (T20.setTop (mkF m 108 #[.val (.int k1), .val (.int k2), .val (.int k3), .val (.long k4), .second, .val (.int k5), .val (.int k6), .val (.int (0 : Int32)), .val (.int v18), .val (.ref b3), .val (.ref b8), .unset, .unset, .unset, .unset, .unset, .unset, .unset] [(.int (2 : Int32)), (.ref b8)])) _
      refine XS.lloadN X20.here hx rfl (hb hby at_108) rfl ?_
      show Steps p.tables e below (T20.setTop (mkF m 109 #[.val (.int k1), .val (.int k2), .val (.int k3), .val (.long k4), .second, .val (.int k5), .val (.int k6), .val (.int (0 : Int32)), .val (.int v18), .val (.ref b3), .val (.ref b8), .unset, .unset, .unset, .unset, .unset, .unset, .unset] [(.long k4), (.int (2 : Int32)), (.ref b8)])) _
      refine XS.bipush X20.here hx rfl (hb hby at_109) ?_
      show Steps p.tables e below (T20.setTop (mkF m 111 #[.val (.int k1), .val (.int k2), .val (.int k3), .val (.long k4), .second, .val (.int k5), .val (.int k6), .val (.int (0 : Int32)), .val (.int v18), .val (.ref b3), .val (.ref b8), .unset, .unset, .unset, .unset, .unset, .unset, .unset] [(.int (16 : Int32)), (.long k4), (.int (2 : Int32)), (.ref b8)])) _
      refine XS.lshr X20.here hx rfl (hb hby at_111) rfl ?_
      show Steps p.tables e below (T20.setTop (mkF m 112 #[.val (.int k1), .val (.int k2), .val (.int k3), .val (.long k4), .second, .val (.int k5), .val (.int k6), .val (.int (0 : Int32)), .val (.int v18), .val (.ref b3), .val (.ref b8), .unset, .unset, .unset, .unset, .unset, .unset, .unset] [(.long (k4 >>> ((16 : Int32) &&& 0x3f).toInt64)), (.int (2 : Int32)), (.ref b8)])) _
      refine XS.l2i X20.here hx rfl (hb hby at_112) rfl ?_
      show Steps p.tables e below (T20.setTop (mkF m 113 #[.val (.int k1), .val (.int k2), .val (.int k3), .val (.long k4), .second, .val (.int k5), .val (.int k6), .val (.int (0 : Int32)), .val (.int v18), .val (.ref b3), .val (.ref b8), .unset, .unset, .unset, .unset, .unset, .unset, .unset] [(.int ((k4 >>> ((16 : Int32) &&& 0x3f).toInt64).toInt32)), (.int (2 : Int32)), (.ref b8)])) _
      refine XS.i2b X20.here hx rfl (hb hby at_113) rfl ?_
      show Steps p.tables e below (T20.setTop (mkF m 114 #[.val (.int k1), .val (.int k2), .val (.int k3), .val (.long k4), .second, .val (.int k5), .val (.int k6), .val (.int (0 : Int32)), .val (.int v18), .val (.ref b3), .val (.ref b8), .unset, .unset, .unset, .unset, .unset, .unset, .unset] [(.int (((k4 >>> ((16 : Int32) &&& 0x3f).toInt64).toInt32).toInt8.toInt32)), (.int (2 : Int32)), (.ref b8)])) _
      refine st26 _ ?_
      show Steps p.tables e below (T26.setTop (mkF m 115 #[.val (.int k1), .val (.int k2), .val (.int k3), .val (.long k4), .second, .val (.int k5), .val (.int k6), .val (.int (0 : Int32)), .val (.int v18), .val (.ref b3), .val (.ref b8), .unset, .unset, .unset, .unset, .unset, .unset, .unset] [])) _
      refine XS.aload X26.here hx rfl (hb hby at_115) rfl rfl ?_
      show Steps p.tables e below (T26.setTop (mkF m 117 #[.val (.int k1), .val (.int k2), .val (.int k3), .val (.long k4), .second, .val (.int k5), .val (.int k6), .val (.int (0 : Int32)), .val (.int v18), .val (.ref b3), .val (.ref b8), .unset, .unset, .unset, .unset, .unset, .unset, .unset] [(.ref b8)])) _
      refine XS.iconst X26.here hx rfl (hb hby at_117) ?_
      show Steps p.tables e below (T26.setTop (mkF m 118 #[.val (.int k1), .val (.int k2), .val (.int k3), .val (.long k4), .second, .val (.int k5), .val (.int k6), .val (.int (0 : Int32)), .val (.int v18), .val (.ref b3), .val (.ref b8), .unset, .unset, .unset, .unset, .unset, .unset, .unset] [(.int (3 : Int32)), (.ref b8)])) _
      refine XS.lloadN X26.here hx rfl (hb hby at_118) rfl ?_
      show Steps p.tables e below (T26.setTop (mkF m 119 #[.val (.int k1), .val (.int k2), .val (.int k3), .val (.long k4), .second, .val (.int k5), .val (.int k6), .val (.int (0 : Int32)), .val (.int v18), .val (.ref b3), .val (.ref b8), .unset, .unset, .unset, .unset, .unset, .unset, .unset] [(.long k4), (.int (3 : Int32)), (.ref b8)])) _
      refine XS.bipush X26.here hx rfl (hb hby at_119) ?_
      show Steps p.tables e below (T26.setTop (mkF m 121 #[.val (.int k1), .val (.int k2), .val (.int k3), .val (.long k4), .second, .val (.int k5), .val (.int k6), .val (.int (0 : Int32)), .val (.int v18), .val (.ref b3), .val (.ref b8), .unset, .unset, .unset, .unset, .unset, .unset, .unset] [(.int (24 : Int32)), (.long k4), (.int (3 : Int32)), (.ref b8)])) _
      refine XS.lshr X26.here hx rfl (hb hby at_121) rfl ?_
      show Steps p.tables e below (T26.setTop (mkF m 122 #[.val (.int k1), .val (.int k2), .val (.int k3), .val (.long k4), .second, .val (.int k5), .val (.int k6), .val (.int (0 : Int32)), .val (.int v18), .val (.ref b3), .val (.ref b8), .unset, .unset, .unset, .unset, .unset, .unset, .unset] [(.long (k4 >>> ((24 : Int32) &&& 0x3f).toInt64)), (.int (3 : Int32)), (.ref b8)])) _
      refine XS.l2i X26.here hx rfl (hb hby at_122) rfl ?_
      show Steps p.tables e below (T26.setTop (mkF m 123 #[.val (.int k1), .val (.int k2), .val (.int k3), .val (.long k4), .second, .val (.int k5), .val (.int k6), .val (.int (0 : Int32)), .val (.int v18), .val (.ref b3), .val (.ref b8), .unset, .unset, .unset, .unset, .unset, .unset, .unset] [(.int ((k4 >>> ((24 : Int32) &&& 0x3f).toInt64).toInt32)), (.int (3 : Int32)), (.ref b8)])) _
      refine XS.i2b X26.here hx rfl (hb hby at_123) rfl ?_
      show Steps p.tables e below (T26.setTop (mkF m 124 #[.val (.int k1), .val (.int k2), .val (.int k3), .val (.long k4), .second, .val (.int k5), .val (.int k6), .val (.int (0 : Int32)), .val (.int v18), .val (.ref b3), .val (.ref b8), .unset, .unset, .unset, .unset, .unset, .unset, .unset] [(.int (((k4 >>> ((24 : Int32) &&& 0x3f).toInt64).toInt32).toInt8.toInt32)), (.int (3 : Int32)), (.ref b8)])) _
      refine st32 _ ?_
      show Steps p.tables e below (T32.setTop (mkF m 125 #[.val (.int k1), .val (.int k2), .val (.int k3), .val (.long k4), .second, .val (.int k5), .val (.int k6), .val (.int (0 : Int32)), .val (.int v18), .val (.ref b3), .val (.ref b8), .unset, .unset, .unset, .unset, .unset, .unset, .unset] [])) _
      refine XS.aload X32.here hx rfl (hb hby at_125) rfl rfl ?_
      show Steps p.tables e below (T32.setTop (mkF m 127 #[.val (.int k1), .val (.int k2), .val (.int k3), .val (.long k4), .second, .val (.int k5), .val (.int k6), .val (.int (0 : Int32)), .val (.int v18), .val (.ref b3), .val (.ref b8), .unset, .unset, .unset, .unset, .unset, .unset, .unset] [(.ref b8)])) _
      refine XS.iconst X32.here hx rfl (hb hby at_127) ?_
      show Steps p.tables e below (T32.setTop (mkF m 128 #[.val (.int k1), .val (.int k2), .val (.int k3), .val (.long k4), .second, .val (.int k5), .val (.int k6), .val (.int (0 : Int32)), .val (.int v18), .val (.ref b3), .val (.ref b8), .unset, .unset, .unset, .unset, .unset, .unset, .unset] [(.int (4 : Int32)), (.ref b8)])) _
      refine XS.lloadN X32.here hx rfl (hb hby at_128) rfl ?_
      show Steps p.tables e below (T32.setTop (mkF m 129 #[.val (.int k1), .val (.int k2), .val (.int k3), .val (.long k4), .second, .val (.int k5), .val (.int k6), .val (.int (0 : Int32)), .val (.int v18), .val (.ref b3), .val (.ref b8), .unset, .unset, .unset, .unset, .unset, .unset, .unset] [(.long k4), (.int (4 : Int32)), (.ref b8)])) _
      refine XS.bipush X32.here hx rfl (hb hby at_129) ?_
      show Steps p.tables e below (T32.setTop (mkF m 131 #[.val (.int k1), .val (.int k2), .val (.int k3), .val (.long k4), .second, .val (.int k5), .val (.int k6), .val (.int (0 : Int32)), .val (.int v18), .val (.ref b3), .val (.ref b8), .unset, .unset, .unset, .unset, .unset, .unset, .unset] [(.int (32 : Int32)), (.long k4), (.int (4 : Int32)), (.ref b8)])) _
      refine XS.lshr X32.here hx rfl (hb hby at_131) rfl ?_
      show Steps p.tables e below (T32.setTop (mkF m 132 #[.val (.int k1), .val (.int k2), .val (.int k3), .val (.long k4), .second, .val (.int k5), .val (.int k6), .val (.int (0 : Int32)), .val (.int v18), .val (.ref b3), .val (.ref b8), .unset, .unset, .unset, .unset, .unset, .unset, .unset] [(.long (k4 >>> ((32 : Int32) &&& 0x3f).toInt64)), (.int (4 : Int32)), (.ref b8)])) _
      refine XS.l2i X32.here hx rfl (hb hby at_132) rfl ?_
      show Steps p.tables e below (T32.setTop (mkF m 133 #[.val (.int k1), .val (.int k2), .val (.int k3), .val (.long k4), .second, .val (.int k5), .val (.int k6), .val (.int (0 : Int32)), .val (.int v18), .val (.ref b3), .val (.ref b8), .unset, .unset, .unset, .unset, .unset, .unset, .unset] [(.int ((k4 >>> ((32 : Int32) &&& 0x3f).toInt64).toInt32)), (.int (4 : Int32)), (.ref b8)])) _
      refine XS.i2b X32.here hx rfl (hb hby at_133) rfl ?_
      show Steps p.tables e below (T32.setTop (mkF m 134 #[.val (.int k1), .val (.int k2), .val (.int k3), .val (.long k4), .second, .val (.int k5), .val (.int k6), .val (.int (0 : Int32)), .val (.int v18), .val (.ref b3), .val (.ref b8), .unset, .unset, .unset, .unset, .unset, .unset, .unset] [(.int (((k4 >>> ((32 : Int32) &&& 0x3f).toInt64).toInt32).toInt8.toInt32)), (.int (4 : Int32)), (.ref b8)])) _
      refine st38 _ ?_
      show Steps p.tables e below (T38.setTop (mkF m 135 #[.val (.int k1), .val (.int k2), .val (.int k3), .val (.long k4), .second, .val (.int k5), .val (.int k6), .val (.int (0 : Int32)), .val (.int v18), .val (.ref b3), .val (.ref b8), .unset, .unset, .unset, .unset, .unset, .unset, .unset] [])) _
      refine XS.aload X38.here hx rfl (hb hby at_135) rfl rfl ?_
      show Steps p.tables e below (T38.setTop (mkF m 137 #[.val (.int k1), .val (.int k2), .val (.int k3), .val (.long k4), .second, .val (.int k5), .val (.int k6), .val (.int (0 : Int32)), .val (.int v18), .val (.ref b3), .val (.ref b8), .unset, .unset, .unset, .unset, .unset, .unset, .unset] [(.ref b8)])) _
      refine XS.iconst X38.here hx rfl (hb hby at_137) ?_
      show Steps p.tables e below (T38.setTop (mkF m 138 #[.val (.int k1), .val (.int k2), .val (.int k3), .val (.long k4), .second, .val (.int k5), .val (.int k6), .val (.int (0 : Int32)), .val (.int v18), .val (.ref b3), .val (.ref b8), .unset, .unset, .unset, .unset, .unset, .unset, .unset] [(.int (5 : Int32)), (.ref b8)])) _
      refine XS.lloadN X38.here hx rfl (hb hby at_138) rfl ?_
      show Steps p.tables e below (T38.setTop (mkF m 139 #[.val (.int k1), .val (.int k2), .val (.int k3), .val (.long k4), .second, .val (.int k5), .val (.int k6), .val (.int (0 : Int32)), .val (.int v18), .val (.ref b3), .val (.ref b8), .unset, .unset, .unset, .unset, .unset, .unset, .unset] [(.long k4), (.int (5 : Int32)), (.ref b8)])) _
      refine XS.bipush X38.here hx rfl (hb hby at_139) ?_
      show Steps p.tables e below (T38.setTop (mkF m 141 #[.val (.int k1), .val (.int k2), .val (.int k3), .val (.long k4), .second, .val (.int k5), .val (.int k6), .val (.int (0 : Int32)), .val (.int v18), .val (.ref b3), .val (.ref b8), .unset, .unset, .unset, .unset, .unset, .unset, .unset] [(.int (40 : Int32)), (.long k4), (.int (5 : Int32)), (.ref b8)])) _
      refine XS.lshr X38.here hx rfl (hb hby at_141) rfl ?_
      show Steps p.tables e below (T38.setTop (mkF m 142 #[.val (.int k1), .val (.int k2), .val (.int k3), .val (.long k4), .second, .val (.int k5), .val (.int k6), .val (.int (0 : Int32)), .val (.int v18), .val (.ref b3), .val (.ref b8), .unset, .unset, .unset, .unset, .unset, .unset, .unset] [(.long (k4 >>> ((40 : Int32) &&& 0x3f).toInt64)), (.int (5 : Int32)), (.ref b8)])) _
      refine XS.l2i X38.here hx rfl (hb hby at_142) rfl ?_
      show Steps p.tables e below (T38.setTop (mkF m 143 #[.val (.int k1), .val (.int k2), .val (.int k3), .val (.long k4), .second, .val (.int k5), .val (.int k6), .val (.int (0 : Int32)), .val (.int v18), .val (.ref b3), .val (.ref b8), .unset, .unset, .unset, .unset, .unset, .unset, .unset] [(.int ((k4 >>> ((40 : Int32) &&& 0x3f).toInt64).toInt32)), (.int (5 : Int32)), (.ref b8)])) _
      refine XS.i2b X38.here hx rfl (hb hby at_143) rfl ?_
      show Steps p.tables e below (T38.setTop (mkF m 144 #[.val (.int k1), .val (.int k2), .val (.int k3), .val (.long k4), .second, .val (.int k5), .val (.int k6), .val (.int (0 : Int32)), .val (.int v18), .val (.ref b3), .val (.ref b8), .unset, .unset, .unset, .unset, .unset, .unset, .unset] [(.int (((k4 >>> ((40 : Int32) &&& 0x3f).toInt64).toInt32).toInt8.toInt32)), (.int (5 : Int32)), (.ref b8)])) _
      refine st44 _ ?_
      show Steps p.tables e below (T44.setTop (mkF m 145 #[.val (.int k1), .val (.int k2), .val (.int k3), .val (.long k4), .second, .val (.int k5), .val (.int k6), .val (.int (0 : Int32)), .val (.int v18), .val (.ref b3), .val (.ref b8), .unset, .unset, .unset, .unset, .unset, .unset, .unset] [])) _
      refine XS.aload X44.here hx rfl (hb hby at_145) rfl rfl ?_
      show Steps p.tables e below (T44.setTop (mkF m 147 #[.val (.int k1), .val (.int k2), .val (.int k3), .val (.long k4), .second, .val (.int k5), .val (.int k6), .val (.int (0 : Int32)), .val (.int v18), .val (.ref b3), .val (.ref b8), .unset, .unset, .unset, .unset, .unset, .unset, .unset] [(.ref b8)])) _
      refine XS.bipush X44.here hx rfl (hb hby at_147) ?_
      show Steps p.tables e below (T44.setTop (mkF m 149 #[.val (.int k1), .val (.int k2), .val (.int k3), .val (.long k4), .second, .val (.int k5), .val (.int k6), .val (.int (0 : Int32)), .val (.int v18), .val (.ref b3), .val (.ref b8), .unset, .unset, .unset, .unset, .unset, .unset, .unset] [(.int (6 : Int32)), (.ref b8)])) _
      refine XS.lloadN X44.here hx rfl (hb hby at_149) rfl ?_
      show Steps p.tables e below (T44.setTop (mkF m 150 #[.val (.int k1), .val (.int k2), .val (.int k3), .val (.long k4), .second, .val (.int k5), .val (.int k6), .val (.int (0 : Int32)), .val (.int v18), .val (.ref b3), .val (.ref b8), .unset, .unset, .unset, .unset, .unset, .unset, .unset] [(.long k4), (.int (6 : Int32)), (.ref b8)])) _
      refine XS.bipush X44.here hx rfl (hb hby at_150) ?_
      show Steps p.tables e below (T44.setTop (mkF m 152 #[.val (.int k1), .val (.int k2), .val (.int k3), .val (.long k4), .second, .val (.int k5), .val (.int k6), .val (.int (0 : Int32)), .val (.int v18), .val (.ref b3), .val (.ref b8), .unset, .unset, .unset, .unset, .unset, .unset, .unset] [(.int (48 : Int32)), (.long k4), (.int (6 : Int32)), (.ref b8)])) _
      refine XS.lshr X44.here hx rfl (hb hby at_152) rfl ?_
      show Steps p.tables e below (T44.setTop (mkF m 153 #[.val (.int k1), .val (.int k2), .val (.int k3), .val (.long k4), .second, .val (.int k5), .val (.int k6), .val (.int (0 : Int32)), .val (.int v18), .val (.ref b3), .val (.ref b8), .unset, .unset, .unset, .unset, .unset, .unset, .unset] [(.long (k4 >>> ((48 : Int32) &&& 0x3f).toInt64)), (.int (6 : Int32)), (.ref b8)])) _
      refine XS.l2i X44.here hx rfl (hb hby at_153) rfl ?_
      show Steps p.tables e below (T44.setTop (mkF m 154 #[.val (.int k1), .val (.int k2), .val (.int k3), .val (.long k4), .second, .val (.int k5), .val (.int k6), .val (.int (0 : Int32)), .val (.int v18), .val (.ref b3), .val (.ref b8), .unset, .unset, .unset, .unset, .unset, .unset, .unset] [(.int ((k4 >>> ((48 : Int32) &&& 0x3f).toInt64).toInt32)), (.int (6 : Int32)), (.ref b8)])) _
      refine XS.i2b X44.here hx rfl (hb hby at_154) rfl ?_
      show Steps p.tables e below (T44.setTop (mkF m 155 #[.val (.int k1), .val (.int k2), .val (.int k3), .val (.long k4), .second, .val (.int k5), .val (.int k6), .val (.int (0 : Int32)), .val (.int v18), .val (.ref b3), .val (.ref b8), .unset, .unset, .unset, .unset, .unset, .unset, .unset] [(.int (((k4 >>> ((48 : Int32) &&& 0x3f).toInt64).toInt32).toInt8.toInt32)), (.int (6 : Int32)), (.ref b8)])) _
      refine st50 _ ?_
      show Steps p.tables e below (T50.setTop (mkF m 156 #[.val (.int k1), .val (.int k2), .val (.int k3), .val (.long k4), .second, .val (.int k5), .val (.int k6), .val (.int (0 : Int32)), .val (.int v18), .val (.ref b3), .val (.ref b8), .unset, .unset, .unset, .unset, .unset, .unset, .unset] [])) _
      refine XS.aload X50.here hx rfl (hb hby at_156) rfl rfl ?_
      show Steps p.tables e below (T50.setTop (mkF m 158 #[.val (.int k1), .val (.int k2), .val (.int k3), .val (.long k4), .second, .val (.int k5), .val (.int k6), .val (.int (0 : Int32)), .val (.int v18), .val (.ref b3), .val (.ref b8), .unset, .unset, .unset, .unset, .unset, .unset, .unset] [(.ref b8)])) _
      refine XS.bipush X50.here hx rfl (hb hby at_158) ?_
      show Steps p.tables e below (T50.setTop (mkF m 160 #[.val (.int k1), .val (.int k2), .val (.int k3), .val (.long k4), .second, .val (.int k5), .val (.int k6), .val (.int (0 : Int32)), .val (.int v18), .val (.ref b3), .val (.ref b8), .unset, .unset, .unset, .unset, .unset, .unset, .unset] [(.int (7 : Int32)), (.ref b8)])) _
      refine XS.lloadN X50.here hx rfl (hb hby at_160) rfl ?_
      show Steps p.tables e below (T50.setTop (mkF m 161 #[.val (.int k1), .val (.int k2), .val (.int k3), .val (.long k4), .second, .val (.int k5), .val (.int k6), .val (.int (0 : Int32)), .val (.int v18), .val (.ref b3), .val (.ref b8), .unset, .unset, .unset, .unset, .unset, .unset, .unset] [(.long k4), (.int (7 : Int32)), (.ref b8)])) _
      refine XS.bipush X50.here hx rfl (hb hby at_161) ?_
      show Steps p.tables e below (T50.setTop (mkF m 163 #[.val (.int k1), .val (.int k2), .val (.int k3), .val (.long k4), .second, .val (.int k5), .val (.int k6), .val (.int (0 : Int32)), .val (.int v18), .val (.ref b3), .val (.ref b8), .unset, .unset, .unset, .unset, .unset, .unset, .unset] [(.int (56 : Int32)), (.long k4), (.int (7 : Int32)), (.ref b8)])) _
      refine XS.lshr X50.here hx rfl (hb hby at_163) rfl ?_
      show Steps p.tables e below (T50.setTop (mkF m 164 #[.val (.int k1), .val (.int k2), .val (.int k3), .val (.long k4), .second, .val (.int k5), .val (.int k6), .val (.int (0 : Int32)), .val (.int v18), .val (.ref b3), .val (.ref b8), .unset, .unset, .unset, .unset, .unset, .unset, .unset] [(.long (k4 >>> ((56 : Int32) &&& 0x3f).toInt64)), (.int (7 : Int32)), (.ref b8)])) _
      refine XS.l2i X50.here hx rfl (hb hby at_164) rfl ?_
      show Steps p.tables e below (T50.setTop (mkF m 165 #[.val (.int k1), .val (.int k2), .val (.int k3), .val (.long k4), .second, .val (.int k5), .val (.int k6), .val (.int (0 : Int32)), .val (.int v18), .val (.ref b3), .val (.ref b8), .unset, .unset, .unset, .unset, .unset, .unset, .unset] [(.int ((k4 >>> ((56 : Int32) &&& 0x3f).toInt64).toInt32)), (.int (7 : Int32)), (.ref b8)])) _
      refine XS.i2b X50.here hx rfl (hb hby at_165) rfl ?_
      show Steps p.tables e below (T50.setTop (mkF m 166 #[.val (.int k1), .val (.int k2), .val (.int k3), .val (.long k4), .second, .val (.int k5), .val (.int k6), .val (.int (0 : Int32)), .val (.int v18), .val (.ref b3), .val (.ref b8), .unset, .unset, .unset, .unset, .unset, .unset, .unset] [(.int (((k4 >>> ((56 : Int32) &&& 0x3f).toInt64).toInt32).toInt8.toInt32)), (.int (7 : Int32)), (.ref b8)])) _
      refine st56 _ ?_
      show Steps p.tables e below (T56.setTop (mkF m 167 #[.val (.int k1), .val (.int k2), .val (.int k3), .val (.long k4), .second, .val (.int k5), .val (.int k6), .val (.int (0 : Int32)), .val (.int v18), .val (.ref b3), .val (.ref b8), .unset, .unset, .unset, .unset, .unset, .unset, .unset] [])) _
      refine XS.iload X56.here hx rfl (hb hby at_167) rfl ?_
      show Steps p.tables e below (T56.setTop (mkF m 169 #[.val (.int k1), .val (.int k2), .val (.int k3), .val (.long k4), .second, .val (.int k5), .val (.int k6), .val (.int (0 : Int32)), .val (.int v18), .val (.ref b3), .val (.ref b8), .unset, .unset, .unset, .unset, .unset, .unset, .unset] [(.int k6)])) _
      refine XS.iload X56.here hx rfl (hb hby at_169) rfl ?_
      show Steps p.tables e below (T56.setTop (mkF m 171 #[.val (.int k1), .val (.int k2), .val (.int k3), .val (.long k4), .second, .val (.int k5), .val (.int k6), .val (.int (0 : Int32)), .val (.int v18), .val (.ref b3), .val (.ref b8), .unset, .unset, .unset, .unset, .unset, .unset, .unset] [(.int k5), (.int k6)])) _
      refine XS.iconst X56.here hx rfl (hb hby at_171) ?_
      show Steps p.tables e below (T56.setTop (mkF m 172 #[.val (.int k1), .val (.int k2), .val (.int k3), .val (.long k4), .second, .val (.int k5), .val (.int k6), .val (.int (0 : Int32)), .val (.int v18), .val (.ref b3), .val (.ref b8), .unset, .unset, .unset, .unset, .unset, .unset, .unset] [(.int (0 : Int32)), (.int k5), (.int k6)])) _
      refine st62 _ ?_
      show Steps p.tables e below (T62.setTop (mkF m 175 #[.val (.int k1), .val (.int k2), .val (.int k3), .val (.long k4), .second, .val (.int k5), .val (.int k6), .val (.int (0 : Int32)), .val (.int v18), .val (.ref b3), .val (.ref b8), .unset, .unset, .unset, .unset, .unset, .unset, .unset] [(.int (own_f1 k6 k5 (0 : Int32)))])) _
      rw [← hr172]
      show Steps p.tables e below (T62.setTop (mkF m 175 #[.val (.int k1), .val (.int k2), .val (.int k3), .val (.long k4), .second, .val (.int k5), .val (.int k6), .val (.int (0 : Int32)), .val (.int v18), .val (.ref b3), .val (.ref b8), .unset, .unset, .unset, .unset, .unset, .unset, .unset] [(.int r172)])) _
      refine XS.istore X62.here hx rfl (hb hby at_175) rfl (l' := #[.val (.int k1), .val (.int k2), .val (.int k3), .val (.long k4), .second, .val (.int k5), .val (.int k6), .val (.int (0 : Int32)), .val (.int v18), .val (.ref b3), .val (.ref b8), .val (.int r172), .unset, .unset, .unset, .unset, .unset, .unset]) rfl ?_
      show Steps p.tables e below (T62.setTop (mkF m 177 #[.val (.int k1), .val (.int k2), .val (.int k3), .val (.long k4), .second, .val (.int k5), .val (.int k6), .val (.int (0 : Int32)), .val (.int v18), .val (.ref b3), .val (.ref b8), .val (.int r172), .unset, .unset, .unset, .unset, .unset, .unset] [])) _
      refine XS.iload X62.here hx rfl (hb hby at_177) rfl ?_
      show Steps p.tables e below (T62.setTop (mkF m 179 #[.val (.int k1), .val (.int k2), .val (.int k3), .val (.long k4), .second, .val (.int k5), .val (.int k6), .val (.int (0 : Int32)), .val (.int v18), .val (.ref b3), .val (.ref b8), .val (.int r172), .unset, .unset, .unset, .unset, .unset, .unset] [(.int k6)])) _
      refine XS.iload X62.here hx rfl (hb hby at_179) rfl ?_
      show Steps p.tables e below (T62.setTop (mkF m 181 #[.val (.int k1), .val (.int k2), .val (.int k3), .val (.long k4), .second, .val (.int k5), .val (.int k6), .val (.int (0 : Int32)), .val (.int v18), .val (.ref b3), .val (.ref b8), .val (.int r172), .unset, .unset, .unset, .unset, .unset, .unset] [(.int k5), (.int k6)])) _
      refine XS.iconst X62.here hx rfl (hb hby at_181) ?_
      show Steps p.tables e below (T62.setTop (mkF m 182 #[.val (.int k1), .val (.int k2), .val (.int k3), .val (.long k4), .second, .val (.int k5), .val (.int k6), .val (.int (0 : Int32)), .val (.int v18), .val (.ref b3), .val (.ref b8), .val (.int r172), .unset, .unset, .unset, .unset, .unset, .unset] [(.int (1 : Int32)), (.int k5), (.int k6)])) _
      refine st63 _ ?_
      show Steps p.tables e below (T63.setTop (mkF m 185 #[.val (.int k1), .val (.int k2), .val (.int k3), .val (.long k4), .second, .val (.int k5), .val (.int k6), .val (.int (0 : Int32)), .val (.int v18), .val (.ref b3), .val (.ref b8), .val (.int r172), .unset, .unset, .unset, .unset, .unset, .unset] [(.int (own_f1 k6 k5 (1 : Int32)))])) _
      rw [← hr182]
      show Steps p.tables e below (T63.setTop (mkF m 185 #[.val (.int k1), .val (.int k2), .val (.int k3), .val (.long k4), .second, .val (.int k5), .val (.int k6), .val (.int (0 : Int32)), .val (.int v18), .val (.ref b3), .val (.ref b8), .val (.int r172), .unset, .unset, .unset, .unset, .unset, .unset] [(.int r182)])) _
      refine XS.istore X63.here hx rfl (hb hby at_185) rfl (l' := #[.val (.int k1), .val (.int k2), .val (.int k3), .val (.long k4), .second, .val (.int k5), .val (.int k6), .val (.int (0 : Int32)), .val (.int v18), .val (.ref b3), .val (.ref b8), .val (.int r172), .val (.int r182), .unset, .unset, .unset, .unset, .unset]) rfl ?_
      show Steps p.tables e below (T63.setTop (mkF m 187 #[.val (.int k1), .val (.int k2), .val (.int k3), .val (.long k4), .second, .val (.int k5), .val (.int k6), .val (.int (0 : Int32)), .val (.int v18), .val (.ref b3), .val (.ref b8), .val (.int r172), .val (.int r182), .unset, .unset, .unset, .unset, .unset] [])) _
      refine XS.iload X63.here hx rfl (hb hby at_187) rfl ?_
      show Steps p.tables e below (T63.setTop (mkF m 189 #[.val (.int k1), .val (.int k2), .val (.int k3), .val (.long k4), .second, .val (.int k5), .val (.int k6), .val (.int (0 : Int32)), .val (.int v18), .val (.ref b3), .val (.ref b8), .val (.int r172), .val (.int r182), .unset, .unset, .unset, .unset, .unset] [(.int k6)])) _
      refine XS.iload X63.here hx rfl (hb hby at_189) rfl ?_
      show Steps p.tables e below (T63.setTop (mkF m 191 #[.val (.int k1), .val (.int k2), .val (.int k3), .val (.long k4), .second, .val (.int k5), .val (.int k6), .val (.int (0 : Int32)), .val (.int v18), .val (.ref b3), .val (.ref b8), .val (.int r172), .val (.int r182), .unset, .unset, .unset, .unset, .unset] [(.int k5), (.int k6)])) _
      refine XS.iconst X63.here hx rfl (hb hby at_191) ?_
      show Steps p.tables e below (T63.setTop (mkF m 192 #[.val (.int k1), .val (.int k2), .val (.int k3), .val (.long k4), .second, .val (.int k5), .val (.int k6), .val (.int (0 : Int32)), .val (.int v18), .val (.ref b3), .val (.ref b8), .val (.int r172), .val (.int r182), .unset, .unset, .unset, .unset, .unset] [(.int (2 : Int32)), (.int k5), (.int k6)])) _
      refine st64 _ ?_
      show Steps p.tables e below (T64.setTop (mkF m 195 #[.val (.int k1), .val (.int k2), .val (.int k3), .val (.long k4), .second, .val (.int k5), .val (.int k6), .val (.int (0 : Int32)), .val (.int v18), .val (.ref b3), .val (.ref b8), .val (.int r172), .val (.int r182), .unset, .unset, .unset, .unset, .unset] [(.int (own_f1 k6 k5 (2 : Int32)))])) _
      rw [← hr192]
      show Steps p.tables e below (T64.setTop (mkF m 195 #[.val (.int k1), .val (.int k2), .val (.int k3), .val (.long k4), .second, .val (.int k5), .val (.int k6), .val (.int (0 : Int32)), .val (.int v18), .val (.ref b3), .val (.ref b8), .val (.int r172), .val (.int r182), .unset, .unset, .unset, .unset, .unset] [(.int r192)])) _
      refine XS.istore X64.here hx rfl (hb hby at_195) rfl (l' := #[.val (.int k1), .val (.int k2), .val (.int k3), .val (.long k4), .second, .val (.int k5), .val (.int k6), .val (.int (0 : Int32)), .val (.int v18), .val (.ref b3), .val (.ref b8), .val (.int r172), .val (.int r182), .val (.int r192), .unset, .unset, .unset, .unset]) rfl ?_
      show Steps p.tables e below (T64.setTop (mkF m 197 #[.val (.int k1), .val (.int k2), .val (.int k3), .val (.long k4), .second, .val (.int k5), .val (.int k6), .val (.int (0 : Int32)), .val (.int v18), .val (.ref b3), .val (.ref b8), .val (.int r172), .val (.int r182), .val (.int r192), .unset, .unset, .unset, .unset] [])) _
      refine XS.iload X64.here hx rfl (hb hby at_197) rfl ?_
      show Steps p.tables e below (T64.setTop (mkF m 199 #[.val (.int k1), .val (.int k2), .val (.int k3), .val (.long k4), .second, .val (.int k5), .val (.int k6), .val (.int (0 : Int32)), .val (.int v18), .val (.ref b3), .val (.ref b8), .val (.int r172), .val (.int r182), .val (.int r192), .unset, .unset, .unset, .unset] [(.int k6)])) _
      refine XS.iload X64.here hx rfl (hb hby at_199) rfl ?_
      show Steps p.tables e below (T64.setTop (mkF m 201 #[.val (.int k1), .val (.int k2), .val (.int k3), .val (.long k4), .second, .val (.int k5), .val (.int k6), .val (.int (0 : Int32)), .val (.int v18), .val (.ref b3), .val (.ref b8), .val (.int r172), .val (.int r182), .val (.int r192), .unset, .unset, .unset, .unset] [(.int k5), (.int k6)])) _
      refine XS.iconst X64.here hx rfl (hb hby at_201) ?_
      show Steps p.tables e below (T64.setTop (mkF m 202 #[.val (.int k1), .val (.int k2), .val (.int k3), .val (.long k4), .second, .val (.int k5), .val (.int k6), .val (.int (0 : Int32)), .val (.int v18), .val (.ref b3), .val (.ref b8), .val (.int r172), .val (.int r182), .val (.int r192), .unset, .unset, .unset, .unset] [(.int (3 : Int32)), (.int k5), (.int k6)])) _
      refine st65 _ ?_
      show Steps p.tables e below (T65.setTop (mkF m 205 #[.val (.int k1), .val (.int k2), .val (.int k3), .val (.long k4), .second, .val (.int k5), .val (.int k6), .val (.int (0 : Int32)), .val (.int v18), .val (.ref b3), .val (.ref b8), .val (.int r172), .val (.int r182), .val (.int r192), .unset, .unset, .unset, .unset] [(.int (own_f1 k6 k5 (3 : Int32)))])) _
      rw [← hr202]
      show Steps p.tables e below (T65.setTop (mkF m 205 #[.val (.int k1), .val (.int k2), .val (.int k3), .val (.long k4), .second, .val (.int k5), .val (.int k6), .val (.int (0 : Int32)), .val (.int v18), .val (.ref b3), .val (.ref b8), .val (.int r172), .val (.int r182), .val (.int r192), .unset, .unset, .unset, .unset] [(.int r202)])) _
      refine XS.istore X65.here hx rfl (hb hby at_205) rfl (l' := #[.val (.int k1), .val (.int k2), .val (.int k3), .val (.long k4), .second, .val (.int k5), .val (.int k6), .val (.int (0 : Int32)), .val (.int v18), .val (.ref b3), .val (.ref b8), .val (.int r172), .val (.int r182), .val (.int r192), .val (.int r202), .unset, .unset, .unset]) rfl ?_
      show Steps p.tables e below (T65.setTop (mkF m 207 #[.val (.int k1), .val (.int k2), .val (.int k3), .val (.long k4), .second, .val (.int k5), .val (.int k6), .val (.int (0 : Int32)), .val (.int v18), .val (.ref b3), .val (.ref b8), .val (.int r172), .val (.int r182), .val (.int r192), .val (.int r202), .unset, .unset, .unset] [])) _
      refine XS.iload X65.here hx rfl (hb hby at_207) rfl ?_
      show Steps p.tables e below (T65.setTop (mkF m 209 #[.val (.int k1), .val (.int k2), .val (.int k3), .val (.long k4), .second, .val (.int k5), .val (.int k6), .val (.int (0 : Int32)), .val (.int v18), .val (.ref b3), .val (.ref b8), .val (.int r172), .val (.int r182), .val (.int r192), .val (.int r202), .unset, .unset, .unset] [(.int (0 : Int32))])) _
      refine XS.ifYes X65.here hx rfl (pc0 := 209) (pc' := 225) rfl (hb hby at_209) rfl ((if0 _ _).trans (flt (by decide)).2.2.2) (by decide) (by decide) ?_
      show Steps p.tables e below (T65.setTop (mkF m 225 #[.val (.int k1), .val (.int k2), .val (.int k3), .val (.long k4), .second, .val (.int k5), .val (.int k6), .val (.int (0 : Int32)), .val (.int v18), .val (.ref b3), .val (.ref b8), .val (.int r172), .val (.int r182), .val (.int r192), .val (.int r202), .unset, .unset, .unset] [])) _
      refine XS.iload X65.here hx rfl (hb hby at_225) rfl ?_
      show Steps p.tables e below (T65.setTop (mkF m 227 #[.val (.int k1), .val (.int k2), .val (.int k3), .val (.long k4), .second, .val (.int k5), .val (.int k6), .val (.int (0 : Int32)), .val (.int v18), .val (.ref b3), .val (.ref b8), .val (.int r172), .val (.int r182), .val (.int r192), .val (.int r202), .unset, .unset, .unset] [(.int (0 : Int32))])) _
      refine XS.iconst X65.here hx rfl (hb hby at_227) ?_
      show Steps p.tables e below (T65.setTop (mkF m 228 #[.val (.int k1), .val (.int k2), .val (.int k3), .val (.long k4), .second, .val (.int k5), .val (.int k6), .val (.int (0 : Int32)), .val (.int v18), .val (.ref b3), .val (.ref b8), .val (.int r172), .val (.int r182), .val (.int r192), .val (.int r202), .unset, .unset, .unset] [(.int (1 : Int32)), (.int (0 : Int32))])) _
      refine XS.icmpYes X65.here hx rfl (pc0 := 228) (pc' := 246) rfl (hb hby at_228) rfl (flt (by decide)).2.2.2 (by decide) (by decide) ?_
      show Steps p.tables e below (T65.setTop (mkF m 246 #[.val (.int k1), .val (.int k2), .val (.int k3), .val (.long k4), .second, .val (.int k5), .val (.int k6), .val (.int (0 : Int32)), .val (.int v18), .val (.ref b3), .val (.ref b8), .val (.int r172), .val (.int r182), .val (.int r192), .val (.int r202), .unset, .unset, .unset] [])) _
      refine XS.iload X65.here hx rfl (hb hby at_246) rfl ?_
      show Steps p.tables e below (T65.setTop (mkF m 248 #[.val (.int k1), .val (.int k2), .val (.int k3), .val (.long k4), .second, .val (.int k5), .val (.int k6), .val (.int (0 : Int32)), .val (.int v18), .val (.ref b3), .val (.ref b8), .val (.int r172), .val (.int r182), .val (.int r192), .val (.int r202), .unset, .unset, .unset] [(.int (0 : Int32))])) _
      refine XS.iconst X65.here hx rfl (hb hby at_248) ?_
      show Steps p.tables e below (T65.setTop (mkF m 249 #[.val (.int k1), .val (.int k2), .val (.int k3), .val (.long k4), .second, .val (.int k5), .val (.int k6), .val (.int (0 : Int32)), .val (.int v18), .val (.ref b3), .val (.ref b8), .val (.int r172), .val (.int r182), .val (.int r192), .val (.int r202), .unset, .unset, .unset] [(.int (2 : Int32)), (.int (0 : Int32))])) _
      refine XS.icmpYes X65.here hx rfl (pc0 := 249) (pc' := 267) rfl (hb hby at_249) rfl (flt (by decide)).2.2.2 (by decide) (by decide) ?_
      show Steps p.tables e below (T65.setTop (mkF m 267 #[.val (.int k1), .val (.int k2), .val (.int k3), .val (.long k4), .second, .val (.int k5), .val (.int k6), .val (.int (0 : Int32)), .val (.int v18), .val (.ref b3), .val (.ref b8), .val (.int r172), .val (.int r182), .val (.int r192), .val (.int r202), .unset, .unset, .unset] [])) _
      refine XS.iload X65.here hx rfl (hb hby at_267) rfl ?_
      show Steps p.tables e below (T65.setTop (mkF m 269 #[.val (.int k1), .val (.int k2), .val (.int k3), .val (.long k4), .second, .val (.int k5), .val (.int k6), .val (.int (0 : Int32)), .val (.int v18), .val (.ref b3), .val (.ref b8), .val (.int r172), .val (.int r182), .val (.int r192), .val (.int r202), .unset, .unset, .unset] [(.int (0 : Int32))])) _
      refine XS.iconst X65.here hx rfl (hb hby at_269) ?_
      show Steps p.tables e below (T65.setTop (mkF m 270 #[.val (.int k1), .val (.int k2), .val (.int k3), .val (.long k4), .second, .val (.int k5), .val (.int k6), .val (.int (0 : Int32)), .val (.int v18), .val (.ref b3), .val (.ref b8), .val (.int r172), .val (.int r182), .val (.int r192), .val (.int r202), .unset, .unset, .unset] [(.int (3 : Int32)), (.int (0 : Int32))])) _
      refine XS.icmpYes X65.here hx rfl (pc0 := 270) (pc' := 288) rfl (hb hby at_270) rfl (flt (by decide)).2.2.2 (by decide) (by decide) ?_
      show Steps p.tables e below (T65.setTop (mkF m 288 #[.val (.int k1), .val (.int k2), .val (.int k3), .val (.long k4), .second, .val (.int k5), .val (.int k6), .val (.int (0 : Int32)), .val (.int v18), .val (.ref b3), .val (.ref b8), .val (.int r172), .val (.int r182), .val (.int r192), .val (.int r202), .unset, .unset, .unset] [])) _
      refine XS.iload X65.here hx rfl (hb hby at_288) rfl ?_
      show Steps p.tables e below (T65.setTop (mkF m 290 #[.val (.int k1), .val (.int k2), .val (.int k3), .val (.long k4), .second, .val (.int k5), .val (.int k6), .val (.int (0 : Int32)), .val (.int v18), .val (.ref b3), .val (.ref b8), .val (.int r172), .val (.int r182), .val (.int r192), .val (.int r202), .unset, .unset, .unset] [(.int (0 : Int32))])) _
      refine XS.iconst X65.here hx rfl (hb hby at_290) ?_
      show Steps p.tables e below (T65.setTop (mkF m 291 #[.val (.int k1), .val (.int k2), .val (.int k3), .val (.long k4), .second, .val (.int k5), .val (.int k6), .val (.int (0 : Int32)), .val (.int v18), .val (.ref b3), .val (.ref b8), .val (.int r172), .val (.int r182), .val (.int r192), .val (.int r202), .unset, .unset, .unset] [(.int (1 : Int32)), (.int (0 : Int32))])) _
      refine XS.icmpYes X65.here hx rfl (pc0 := 291) (pc' := 299) rfl (hb hby at_291) rfl (tlt (by decide)).1 (by decide) (by decide) ?_
      show Steps p.tables e below (T65.setTop (mkF m 299 #[.val (.int k1), .val (.int k2), .val (.int k3), .val (.long k4), .second, .val (.int k5), .val (.int k6), .val (.int (0 : Int32)), .val (.int v18), .val (.ref b3), .val (.ref b8), .val (.int r172), .val (.int r182), .val (.int r192), .val (.int r202), .unset, .unset, .unset] [])) _
      refine XS.iload X65.here hx rfl (hb hby at_299) rfl ?_
      show Steps p.tables e below (T65.setTop (mkF m 301 #[.val (.int k1), .val (.int k2), .val (.int k3), .val (.long k4), .second, .val (.int k5), .val (.int k6), .val (.int (0 : Int32)), .val (.int v18), .val (.ref b3), .val (.ref b8), .val (.int r172), .val (.int r182), .val (.int r192), .val (.int r202), .unset, .unset, .unset] [(.int (0 : Int32))])) _
      refine XS.iconst X65.here hx rfl (hb hby at_301) ?_
      show Steps p.tables e below (T65.setTop (mkF m 302 #[.val (.int k1), .val (.int k2), .val (.int k3), .val (.long k4), .second, .val (.int k5), .val (.int k6), .val (.int (0 : Int32)), .val (.int v18), .val (.ref b3), .val (.ref b8), .val (.int r172), .val (.int r182), .val (.int r192), .val (.int r202), .unset, .unset, .unset] [(.int (2 : Int32)), (.int (0 : Int32))])) _
      refine XS.icmpYes X65.here hx rfl (pc0 := 302) (pc' := 310) rfl (hb hby at_302) rfl (tlt (by decide)).1 (by decide) (by decide) ?_
      show Steps p.tables e below (T65.setTop (mkF m 310 #[.val (.int k1), .val (.int k2), .val (.int k3), .val (.long k4), .second, .val (.int k5), .val (.int k6), .val (.int (0 : Int32)), .val (.int v18), .val (.ref b3), .val (.ref b8), .val (.int r172), .val (.int r182), .val (.int r192), .val (.int r202), .unset, .unset, .unset] [])) _
      refine XS.iload X65.here hx rfl (hb hby at_310) rfl ?_
      show Steps p.tables e below (T65.setTop (mkF m 312 #[.val (.int k1), .val (.int k2), .val (.int k3), .val (.long k4), .second, .val (.int k5), .val (.int k6), .val (.int (0 : Int32)), .val (.int v18), .val (.ref b3), .val (.ref b8), .val (.int r172), .val (.int r182), .val (.int r192), .val (.int r202), .unset, .unset, .unset] [(.int (0 : Int32))])) _
      refine XS.iconst X65.here hx rfl (hb hby at_312) ?_
      show Steps p.tables e below (T65.setTop (mkF m 313 #[.val (.int k1), .val (.int k2), .val (.int k3), .val (.long k4), .second, .val (.int k5), .val (.int k6), .val (.int (0 : Int32)), .val (.int v18), .val (.ref b3), .val (.ref b8), .val (.int r172), .val (.int r182), .val (.int r192), .val (.int r202), .unset, .unset, .unset] [(.int (3 : Int32)), (.int (0 : Int32))])) _
      refine XS.icmpYes X65.here hx rfl (pc0 := 313) (pc' := 321) rfl (hb hby at_313) rfl (tlt (by decide)).1 (by decide) (by decide) ?_
      show Steps p.tables e below (T65.setTop (mkF m 321 #[.val (.int k1), .val (.int k2), .val (.int k3), .val (.long k4), .second, .val (.int k5), .val (.int k6), .val (.int (0 : Int32)), .val (.int v18), .val (.ref b3), .val (.ref b8), .val (.int r172), .val (.int r182), .val (.int r192), .val (.int r202), .unset, .unset, .unset] [])) _
      refine XS.iload X65.here hx rfl (hb hby at_321) rfl ?_
      show Steps p.tables e below (T65.setTop (mkF m 323 #[.val (.int k1), .val (.int k2), .val (.int k3), .val (.long k4), .second, .val (.int k5), .val (.int k6), .val (.int (0 : Int32)), .val (.int v18), .val (.ref b3), .val (.ref b8), .val (.int r172), .val (.int r182), .val (.int r192), .val (.int r202), .unset, .unset, .unset] [(.int (0 : Int32))])) _
      refine XS.iconst X65.here hx rfl (hb hby at_323) ?_
      show Steps p.tables e below (T65.setTop (mkF m 324 #[.val (.int k1), .val (.int k2), .val (.int k3), .val (.long k4), .second, .val (.int k5), .val (.int k6), .val (.int (0 : Int32)), .val (.int v18), .val (.ref b3), .val (.ref b8), .val (.int r172), .val (.int r182), .val (.int r192), .val (.int r202), .unset, .unset, .unset] [(.int (4 : Int32)), (.int (0 : Int32))])) _
      refine XS.icmpYes X65.here hx rfl (pc0 := 324) (pc' := 332) rfl (hb hby at_324) rfl (tlt (by decide)).1 (by decide) (by decide) ?_
      show Steps p.tables e below (T65.setTop (mkF m 332 #[.val (.int k1), .val (.int k2), .val (.int k3), .val (.long k4), .second, .val (.int k5), .val (.int k6), .val (.int (0 : Int32)), .val (.int v18), .val (.ref b3), .val (.ref b8), .val (.int r172), .val (.int r182), .val (.int r192), .val (.int r202), .unset, .unset, .unset] [])) _
      refine XS.iconst X65.here hx rfl (hb hby at_332) ?_
      show Steps p.tables e below (T65.setTop (mkF m 333 #[.val (.int k1), .val (.int k2), .val (.int k3), .val (.long k4), .second, .val (.int k5), .val (.int k6), .val (.int (0 : Int32)), .val (.int v18), .val (.ref b3), .val (.ref b8), .val (.int r172), .val (.int r182), .val (.int r192), .val (.int r202), .unset, .unset, .unset] [(.int (1 : Int32))])) _
      refine XS.goto X65.here hx rfl (pc0 := 333) (pc' := 337) rfl (hb hby at_333) (by decide) (by decide) ?_
      show Steps p.tables e below (T65.setTop (mkF m 337 #[.val (.int k1), .val (.int k2), .val (.int k3), .val (.long k4), .second, .val (.int k5), .val (.int k6), .val (.int (0 : Int32)), .val (.int v18), .val (.ref b3), .val (.ref b8), .val (.int r172), .val (.int r182), .val (.int r192), .val (.int r202), .unset, .unset, .unset] [(.int (1 : Int32))])) _
      refine XS.istore X65.here hx rfl (hb hby at_337) rfl (l' := #[.val (.int k1), .val (.int k2), .val (.int k3), .val (.long k4), .second, .val (.int k5), .val (.int k6), .val (.int (0 : Int32)), .val (.int v18), .val (.ref b3), .val (.ref b8), .val (.int r172), .val (.int r182), .val (.int r192), .val (.int r202), .val (.int (1 : Int32)), .unset, .unset]) rfl ?_
      show Steps p.tables e below (T65.setTop (mkF m 339 #[.val (.int k1), .val (.int k2), .val (.int k3), .val (.long k4), .second, .val (.int k5), .val (.int k6), .val (.int (0 : Int32)), .val (.int v18), .val (.ref b3), .val (.ref b8), .val (.int r172), .val (.int r182), .val (.int r192), .val (.int r202), .val (.int (1 : Int32)), .unset, .unset] [])) _
      refine st66 _ ?_
      show Steps p.tables e below (T66.setTop (mkF m 342 #[.val (.int k1), .val (.int k2), .val (.int k3), .val (.long k4), .second, .val (.int k5), .val (.int k6), .val (.int (0 : Int32)), .val (.int v18), .val (.ref b3), .val (.ref b8), .val (.int r172), .val (.int r182), .val (.int r192), .val (.int r202), .val (.int (1 : Int32)), .unset, .unset] [(.ref b66)])) _
      refine XS.dup X66.here hx rfl (hb hby at_342) rfl rfl ?_
      show Steps p.tables e below (T66.setTop (mkF m 343 #[.val (.int k1), .val (.int k2), .val (.int k3), .val (.long k4), .second, .val (.int k5), .val (.int k6), .val (.int (0 : Int32)), .val (.int v18), .val (.ref b3), .val (.ref b8), .val (.int r172), .val (.int r182), .val (.int r192), .val (.int r202), .val (.int (1 : Int32)), .unset, .unset] [(.ref b66), (.ref b66)])) _
      exact kt
    obtain ⟨b79, T79, hX79, ks79, X79, e79, E79, hS, hk79, hZ, hown, st79⟩ := ldcS X66 hx hZ hown (hw _ (List.mem_of_getElem? (i := 9) rfl)) wS e66 hS hk70 (g := (mkF m 343 #[.val (.int k1), .val (.int k2), .val (.int k3), .val (.long k4), .second, .val (.int k5), .val (.int k6), .val (.int (0 : Int32)), .val (.int v18), .val (.ref b3), .val (.ref b8), .val (.int r172), .val (.int r182), .val (.int r192), .val (.int r202), .val (.int (1 : Int32)), .unset, .unset] [(.ref b66), (.ref b66)])) rfl (hb hby at_343) (n := 4) (by decide) (by decide) (by decide) (by decide)
    have F80 : Arv Z hX79 b3 kx3 .byte (0 : Int32) [] (.int (0 : Int32)) := F67.ext E79
    have F81 : Arv Z hX79 b8 kx8 .byte (8 : Int32) [(.int (nar .byte ((k4.toInt32).toInt8.toInt32))), (.int (nar .byte (((k4 >>> ((8 : Int32) &&& 0x3f).toInt64).toInt32).toInt8.toInt32))), (.int (nar .byte (((k4 >>> ((16 : Int32) &&& 0x3f).toInt64).toInt32).toInt8.toInt32))), (.int (nar .byte (((k4 >>> ((24 : Int32) &&& 0x3f).toInt64).toInt32).toInt8.toInt32))), (.int (nar .byte (((k4 >>> ((32 : Int32) &&& 0x3f).toInt64).toInt32).toInt8.toInt32))), (.int (nar .byte (((k4 >>> ((40 : Int32) &&& 0x3f).toInt64).toInt32).toInt8.toInt32))), (.int (nar .byte (((k4 >>> ((48 : Int32) &&& 0x3f).toInt64).toInt32).toInt8.toInt32))), (.int (nar .byte (((k4 >>> ((56 : Int32) &&& 0x3f).toInt64).toInt32).toInt8.toInt32)))] (.int (0 : Int32)) := F68.ext E79
    have F82 : Exa Z hX79 b66 "com/example/marcotte/marcotte/XmlNames$Name" := A66.ext E79
    have F83 : Fld Z hX79 b66 "com/example/marcotte/marcotte/XmlNames$Name" "qualified" "Ljava/lang/String;" .null := F72.ext E79
    have F84 : Fld Z hX79 b66 "com/example/marcotte/marcotte/XmlNames$Name" "prefix" "Ljava/lang/String;" .null := F73.ext E79
    have F85 : Fld Z hX79 b66 "com/example/marcotte/marcotte/XmlNames$Name" "local" "Ljava/lang/String;" .null := F74.ext E79
    have F86 : Fld Z hX79 b66 "com/example/marcotte/marcotte/XmlNames$Name" "bytes" "[B" .null := F75.ext E79
    have F87 : Fld Z hX79 b66 "com/example/marcotte/marcotte/XmlNames$Name" "hash" "I" (.int (0 : Int32)) := F76.ext E79
    have F88 : Fld Z hX79 b66 "com/example/marcotte/marcotte/XmlNames$Name" "declaresNamespace" "Z" (.int (0 : Int32)) := F77.ext E79
    have Z89 : n0 ≤ hX79.size := Nat.le_trans Z69 E79.1
    have hk90 := Nat.le_trans hk70 (show _ ≤ hX79.size from E79.1)
    have K91 : Keep h0 hX79 [] := K71.ext E79
    have pre92 : ∀ tq, Steps p.tables e below (T79.setTop (mkF m 346 #[.val (.int k1), .val (.int k2), .val (.int k3), .val (.long k4), .second, .val (.int k5), .val (.int k6), .val (.int (0 : Int32)), .val (.int v18), .val (.ref b3), .val (.ref b8), .val (.int r172), .val (.int r182), .val (.int r192), .val (.int r202), .val (.int (1 : Int32)), .unset, .unset] [.null, (.ref b79), (.ref b66), (.ref b66)])) tq → Steps p.tables e below (s₁.setTop (entryFrame m #[(.int k1), (.int k2), (.int k3), (.long k4), (.int k5), (.int k6)] maxLocals)) tq := by
      intro tq kt
      refine pre78 _ ?_
      show Steps p.tables e below (T66.setTop (mkF m 343 #[.val (.int k1), .val (.int k2), .val (.int k3), .val (.long k4), .second, .val (.int k5), .val (.int k6), .val (.int (0 : Int32)), .val (.int v18), .val (.ref b3), .val (.ref b8), .val (.int r172), .val (.int r182), .val (.int r192), .val (.int r202), .val (.int (1 : Int32)), .unset, .unset] [(.ref b66), (.ref b66)])) _
      refine st79 _ ?_
      show Steps p.tables e below (T79.setTop (mkF m 345 #[.val (.int k1), .val (.int k2), .val (.int k3), .val (.long k4), .second, .val (.int k5), .val (.int k6), .val (.int (0 : Int32)), .val (.int v18), .val (.ref b3), .val (.ref b8), .val (.int r172), .val (.int r182), .val (.int r192), .val (.int r202), .val (.int (1 : Int32)), .unset, .unset] [(.ref b79), (.ref b66), (.ref b66)])) _
      refine XS.aconstNull X79.here hx rfl (hb hby at_345) ?_
      show Steps p.tables e below (T79.setTop (mkF m 346 #[.val (.int k1), .val (.int k2), .val (.int k3), .val (.long k4), .second, .val (.int k5), .val (.int k6), .val (.int (0 : Int32)), .val (.int v18), .val (.ref b3), .val (.ref b8), .val (.int r172), .val (.int r182), .val (.int r192), .val (.int r202), .val (.int (1 : Int32)), .unset, .unset] [.null, (.ref b79), (.ref b66), (.ref b66)])) _
      exact kt
    obtain ⟨b93, T93, hX93, ks93, X93, e93, E93, hS, hk93, hZ, hown, st93⟩ := ldcS X79 hx hZ hown (hw _ (List.mem_of_getElem? (i := 9) rfl)) wS e79 hS hk79 (g := (mkF m 346 #[.val (.int k1), .val (.int k2), .val (.int k3), .val (.long k4), .second, .val (.int k5), .val (.int k6), .val (.int (0 : Int32)), .val (.int v18), .val (.ref b3), .val (.ref b8), .val (.int r172), .val (.int r182), .val (.int r192), .val (.int r202), .val (.int (1 : Int32)), .unset, .unset] [.null, (.ref b79), (.ref b66), (.ref b66)])) rfl (hb hby at_346) (n := 4) (by decide) (by decide) (by decide) (by decide)
    have F94 : Arv Z hX93 b3 kx3 .byte (0 : Int32) [] (.int (0 : Int32)) := F80.ext E93
    have F95 : Arv Z hX93 b8 kx8 .byte (8 : Int32) [(.int (nar .byte ((k4.toInt32).toInt8.toInt32))), (.int (nar .byte (((k4 >>> ((8 : Int32) &&& 0x3f).toInt64).toInt32).toInt8.toInt32))), (.int (nar .byte (((k4 >>> ((16 : Int32) &&& 0x3f).toInt64).toInt32).toInt8.toInt32))), (.int (nar .byte (((k4 >>> ((24 : Int32) &&& 0x3f).toInt64).toInt32).toInt8.toInt32))), (.int (nar .byte (((k4 >>> ((32 : Int32) &&& 0x3f).toInt64).toInt32).toInt8.toInt32))), (.int (nar .byte (((k4 >>> ((40 : Int32) &&& 0x3f).toInt64).toInt32).toInt8.toInt32))), (.int (nar .byte (((k4 >>> ((48 : Int32) &&& 0x3f).toInt64).toInt32).toInt8.toInt32))), (.int (nar .byte (((k4 >>> ((56 : Int32) &&& 0x3f).toInt64).toInt32).toInt8.toInt32)))] (.int (0 : Int32)) := F81.ext E93
    have F96 : Exa Z hX93 b66 "com/example/marcotte/marcotte/XmlNames$Name" := F82.ext E93
    have F97 : Fld Z hX93 b66 "com/example/marcotte/marcotte/XmlNames$Name" "qualified" "Ljava/lang/String;" .null := F83.ext E93
    have F98 : Fld Z hX93 b66 "com/example/marcotte/marcotte/XmlNames$Name" "prefix" "Ljava/lang/String;" .null := F84.ext E93
    have F99 : Fld Z hX93 b66 "com/example/marcotte/marcotte/XmlNames$Name" "local" "Ljava/lang/String;" .null := F85.ext E93
    have F100 : Fld Z hX93 b66 "com/example/marcotte/marcotte/XmlNames$Name" "bytes" "[B" .null := F86.ext E93
    have F101 : Fld Z hX93 b66 "com/example/marcotte/marcotte/XmlNames$Name" "hash" "I" (.int (0 : Int32)) := F87.ext E93
    have F102 : Fld Z hX93 b66 "com/example/marcotte/marcotte/XmlNames$Name" "declaresNamespace" "Z" (.int (0 : Int32)) := F88.ext E93
    have Z103 : n0 ≤ hX93.size := Nat.le_trans Z89 E93.1
    have hk104 := Nat.le_trans hk79 (show _ ≤ hX93.size from E93.1)
    have K105 : Keep h0 hX93 [] := K91.ext E93
    obtain ⟨_, _, ⟨T106, L106, k106, n106⟩, -, X106, ⟨Lc106, hQ106, l106, y106, z106⟩, st106⟩ := X93.specialBack hx (y := (⟨"com/example/marcotte/marcotte/XmlNames$Name", "<init>", "(Ljava/lang/String;Ljava/lang/String;Ljava/lang/String;[BIZ)V"⟩ : MethodName)) rfl hown (mvT hZ (hw _ (List.mem_of_getElem? (i := 16) rfl))) (mvT hZ (hw _ (List.mem_of_getElem? (i := 17) rfl))) (mvT hZ (hw _ (List.mem_of_getElem? (i := 18) rfl))) (by decide) (backOf (W := 1) (rm2 l Z a0 hw [] b66 b79 b93 b3 (0 : Int32) (0 : Int32) hX93 n0 Z103 F97 F98 F99 F100 F101 F102 F96 g_b66) hZ (hw _ (List.mem_of_getElem? (i := 18) rfl)) (hw _ (List.mem_of_getElem? (i := 8) rfl)) (by decide) (by decide)) (g := (mkF m 352 #[.val (.int k1), .val (.int k2), .val (.int k3), .val (.long k4), .second, .val (.int k5), .val (.int k6), .val (.int (0 : Int32)), .val (.int v18), .val (.ref b3), .val (.ref b8), .val (.int r172), .val (.int r182), .val (.int r192), .val (.int r202), .val (.int (1 : Int32)), .unset, .unset] [(.int (0 : Int32)), (.int (0 : Int32)), (.ref b3), (.ref b93), .null, (.ref b79), (.ref b66), (.ref b66)])) rfl (by rw [hml]; rfl) (Steps.refl _) (a := b66) (argsL := [(.ref b79), .null, (.ref b93), (.ref b3), (.int (0 : Int32)), (.int (0 : Int32))]) (rest := [(.ref b66)]) (lenOf pd_2 rfl) rfl (by show 2 * 0 + _ ≤ _; exact Nat.le_of_eq rfl) (hb hby at_352) (fun _ _ => ⟨rfl, e93, (by decide : 7 + 0 ≤ _), (by decide : 30 + 0 ≤ _)⟩)
    dsimp only [Pt.U, Pt.locs, Pt.cells, Pt.slots] at X106 l106 y106 z106 st106 hQ106
    subst l106 y106 z106
    obtain ⟨rfl, N106q, K106q, F107, F108⟩ := hQ106
    have N106 := Fr.app N65 N106q
    have F109 : Arv Z T106.heap b3 kx3 .byte (0 : Int32) [] (.int (0 : Int32)) := F94.keep K106q (ninS ne_b3_b66 nin0)
    have F110 : Arv Z T106.heap b8 kx8 .byte (8 : Int32) [(.int (nar .byte ((k4.toInt32).toInt8.toInt32))), (.int (nar .byte (((k4 >>> ((8 : Int32) &&& 0x3f).toInt64).toInt32).toInt8.toInt32))), (.int (nar .byte (((k4 >>> ((16 : Int32) &&& 0x3f).toInt64).toInt32).toInt8.toInt32))), (.int (nar .byte (((k4 >>> ((24 : Int32) &&& 0x3f).toInt64).toInt32).toInt8.toInt32))), (.int (nar .byte (((k4 >>> ((32 : Int32) &&& 0x3f).toInt64).toInt32).toInt8.toInt32))), (.int (nar .byte (((k4 >>> ((40 : Int32) &&& 0x3f).toInt64).toInt32).toInt8.toInt32))), (.int (nar .byte (((k4 >>> ((48 : Int32) &&& 0x3f).toInt64).toInt32).toInt8.toInt32))), (.int (nar .byte (((k4 >>> ((56 : Int32) &&& 0x3f).toInt64).toInt32).toInt8.toInt32)))] (.int (0 : Int32)) := F95.keep K106q (ninS ne_b8_b66 nin0)
    have F111 : Exa Z T106.heap b66 "com/example/marcotte/marcotte/XmlNames$Name" := F96.keep K106q
    have Z112 : n0 ≤ T106.heap.size := Nat.le_trans Z103 K106q.1
    have hk113 := Nat.le_trans hk93 (show _ ≤ T106.heap.size from K106q.1)
    have K114 : Keep h0 T106.heap [] := K105.trans K106q (allS (Or.inr sz_b66) all0)
    have hp115_hat0 : 0 ≤ v18.toInt := (own_pre_0_363_hat0_s0 k1 k2 k3 k4 k5 k6 hv6 v18 hv18 r172 hr172 r182 hr182 r192 hr192 r202 hr202)
    have hp115_hat1 : v18.toInt + 0 ≤ 8 := (own_pre_0_363_hat1_s0 k1 k2 k3 k4 k5 k6 hv6 v18 hv18 r172 hr172 r182 hr182 r192 hr192 r202 hr202 hp115_hat0)
    obtain ⟨cq115, kq115, q115a, q115b, q115c⟩ := isOf hZ rfl F107
    obtain ⟨_, _, ⟨T115, L115, k115, n115⟩, -, X115, ⟨Lc115, hQ115, l115, y115, z115⟩, st115⟩ := X106.virtualBack hx (y := (⟨"com/example/marcotte/marcotte/XmlNames$Name", "writtenAt", "([BI)Z"⟩ : MethodName)) (z := (⟨"com/example/marcotte/marcotte/XmlNames$Name", "writtenAt", "([BI)Z"⟩ : MethodName)) hown (mvT hZ (hw _ (List.mem_of_getElem? (i := 39) rfl))) (mvT hZ (hw _ (List.mem_of_getElem? (i := 40) rfl))) (notFace_of_selects (args := #[]) (mvT hZ (hw _ (List.mem_of_getElem? (i := 42) rfl)))) (mvT hZ (hw _ (List.mem_of_getElem? (i := 42) rfl))) (mvT hZ (hw _ (List.mem_of_getElem? (i := 41) rfl))) (by decide) (backOf (W := 0) (rm5 l Z a0 hw [] b66 b8 v18 b3 kx3 kx8 (nar .byte ((k4.toInt32).toInt8.toInt32)) (nar .byte (((k4 >>> ((8 : Int32) &&& 0x3f).toInt64).toInt32).toInt8.toInt32)) (nar .byte (((k4 >>> ((16 : Int32) &&& 0x3f).toInt64).toInt32).toInt8.toInt32)) (nar .byte (((k4 >>> ((24 : Int32) &&& 0x3f).toInt64).toInt32).toInt8.toInt32)) (nar .byte (((k4 >>> ((32 : Int32) &&& 0x3f).toInt64).toInt32).toInt8.toInt32)) (nar .byte (((k4 >>> ((40 : Int32) &&& 0x3f).toInt64).toInt32).toInt8.toInt32)) (nar .byte (((k4 >>> ((48 : Int32) &&& 0x3f).toInt64).toInt32).toInt8.toInt32)) (nar .byte (((k4 >>> ((56 : Int32) &&& 0x3f).toInt64).toInt32).toInt8.toInt32)) T106.heap n0 Z112 F108 F109 F110 hp115_hat0 hp115_hat1) hZ (hw _ (List.mem_of_getElem? (i := 43) rfl)) (hw _ (List.mem_of_getElem? (i := 8) rfl)) (by decide) (by decide)) q115a q115c (g := (mkF m 363 #[.val (.int k1), .val (.int k2), .val (.int k3), .val (.long k4), .second, .val (.int k5), .val (.int k6), .val (.int (0 : Int32)), .val (.int v18), .val (.ref b3), .val (.ref b8), .val (.int r172), .val (.int r182), .val (.int r192), .val (.int r202), .val (.int (1 : Int32)), .val (.ref b66), .unset] [(.int v18), (.ref b8), (.ref b66)])) rfl (by rw [hml]; rfl) (Steps.refl _) (argsL := [(.ref b8), (.int v18)]) (rest := []) (lenOf pd_3 rfl) rfl (by show 2 * 0 + _ ≤ _; exact Nat.le_of_eq rfl) (hb hby at_363) (fun _ _ => ⟨rfl, rfl, (by decide : 7 + 0 ≤ _), (by decide : 30 + 0 ≤ _)⟩)
    dsimp only [Pt.U, Pt.locs, Pt.cells, Pt.slots] at X115 l115 y115 z115 st115 hQ115
    subst l115 y115 z115
    obtain ⟨rfl, N115q, e115⟩ := hQ115
    have N115 := Fr.app N106 N115q
    obtain ⟨fs, hr, hrun, hended, hW, hsame⟩ := X115.leave (v := some (Value.int (1 : Int32))) (fun h => by rw [Bd.returns] at h; cases h)
    have hE := hS.ended hW (show _ ≤ T115.heap.size from e115.symm ▸ hk113) hsame
    refine ⟨_, _, pre92 _ ?_, hrun, hended, _, _, rfl, ?_, ⟨_, rfl⟩, hE.1, hE.2.1, hE.2.2.mono (by decide) (by decide)⟩
    · skip
      show Steps p.tables e below (T79.setTop (mkF m 346 #[.val (.int k1), .val (.int k2), .val (.int k3), .val (.long k4), .second, .val (.int k5), .val (.int k6), .val (.int (0 : Int32)), .val (.int v18), .val (.ref b3), .val (.ref b8), .val (.int r172), .val (.int r182), .val (.int r192), .val (.int r202), .val (.int (1 : Int32)), .unset, .unset] [.null, (.ref b79), (.ref b66), (.ref b66)])) _
      refine st93 _ ?_
      show Steps p.tables e below (T93.setTop (mkF m 348 #[.val (.int k1), .val (.int k2), .val (.int k3), .val (.long k4), .second, .val (.int k5), .val (.int k6), .val (.int (0 : Int32)), .val (.int v18), .val (.ref b3), .val (.ref b8), .val (.int r172), .val (.int r182), .val (.int r192), .val (.int r202), .val (.int (1 : Int32)), .unset, .unset] [(.ref b93), .null, (.ref b79), (.ref b66), (.ref b66)])) _
      refine XS.aload X93.here hx rfl (hb hby at_348) rfl rfl ?_
      show Steps p.tables e below (T93.setTop (mkF m 350 #[.val (.int k1), .val (.int k2), .val (.int k3), .val (.long k4), .second, .val (.int k5), .val (.int k6), .val (.int (0 : Int32)), .val (.int v18), .val (.ref b3), .val (.ref b8), .val (.int r172), .val (.int r182), .val (.int r192), .val (.int r202), .val (.int (1 : Int32)), .unset, .unset] [(.ref b3), (.ref b93), .null, (.ref b79), (.ref b66), (.ref b66)])) _
      refine XS.iconst X93.here hx rfl (hb hby at_350) ?_
      show Steps p.tables e below (T93.setTop (mkF m 351 #[.val (.int k1), .val (.int k2), .val (.int k3), .val (.long k4), .second, .val (.int k5), .val (.int k6), .val (.int (0 : Int32)), .val (.int v18), .val (.ref b3), .val (.ref b8), .val (.int r172), .val (.int r182), .val (.int r192), .val (.int r202), .val (.int (1 : Int32)), .unset, .unset] [(.int (0 : Int32)), (.ref b3), (.ref b93), .null, (.ref b79), (.ref b66), (.ref b66)])) _
      refine XS.iconst X93.here hx rfl (hb hby at_351) ?_
      show Steps p.tables e below (T93.setTop (mkF m 352 #[.val (.int k1), .val (.int k2), .val (.int k3), .val (.long k4), .second, .val (.int k5), .val (.int k6), .val (.int (0 : Int32)), .val (.int v18), .val (.ref b3), .val (.ref b8), .val (.int r172), .val (.int r182), .val (.int r192), .val (.int r202), .val (.int (1 : Int32)), .unset, .unset] [(.int (0 : Int32)), (.int (0 : Int32)), (.ref b3), (.ref b93), .null, (.ref b79), (.ref b66), (.ref b66)])) _
      refine st106.trans ?_
      show Steps p.tables e below (T106.setTop (mkF m 355 #[.val (.int k1), .val (.int k2), .val (.int k3), .val (.long k4), .second, .val (.int k5), .val (.int k6), .val (.int (0 : Int32)), .val (.int v18), .val (.ref b3), .val (.ref b8), .val (.int r172), .val (.int r182), .val (.int r192), .val (.int r202), .val (.int (1 : Int32)), .unset, .unset] [(.ref b66)])) _
      refine XS.astore X106.here hx rfl (hb hby at_355) rfl rfl (l' := #[.val (.int k1), .val (.int k2), .val (.int k3), .val (.long k4), .second, .val (.int k5), .val (.int k6), .val (.int (0 : Int32)), .val (.int v18), .val (.ref b3), .val (.ref b8), .val (.int r172), .val (.int r182), .val (.int r192), .val (.int r202), .val (.int (1 : Int32)), .val (.ref b66), .unset]) rfl ?_
      show Steps p.tables e below (T106.setTop (mkF m 357 #[.val (.int k1), .val (.int k2), .val (.int k3), .val (.long k4), .second, .val (.int k5), .val (.int k6), .val (.int (0 : Int32)), .val (.int v18), .val (.ref b3), .val (.ref b8), .val (.int r172), .val (.int r182), .val (.int r192), .val (.int r202), .val (.int (1 : Int32)), .val (.ref b66), .unset] [])) _
      refine XS.aload X106.here hx rfl (hb hby at_357) rfl rfl ?_
      show Steps p.tables e below (T106.setTop (mkF m 359 #[.val (.int k1), .val (.int k2), .val (.int k3), .val (.long k4), .second, .val (.int k5), .val (.int k6), .val (.int (0 : Int32)), .val (.int v18), .val (.ref b3), .val (.ref b8), .val (.int r172), .val (.int r182), .val (.int r192), .val (.int r202), .val (.int (1 : Int32)), .val (.ref b66), .unset] [(.ref b66)])) _
      refine XS.aload X106.here hx rfl (hb hby at_359) rfl rfl ?_
      show Steps p.tables e below (T106.setTop (mkF m 361 #[.val (.int k1), .val (.int k2), .val (.int k3), .val (.long k4), .second, .val (.int k5), .val (.int k6), .val (.int (0 : Int32)), .val (.int v18), .val (.ref b3), .val (.ref b8), .val (.int r172), .val (.int r182), .val (.int r192), .val (.int r202), .val (.int (1 : Int32)), .val (.ref b66), .unset] [(.ref b8), (.ref b66)])) _
      refine XS.iload X106.here hx rfl (hb hby at_361) rfl ?_
      show Steps p.tables e below (T106.setTop (mkF m 363 #[.val (.int k1), .val (.int k2), .val (.int k3), .val (.long k4), .second, .val (.int k5), .val (.int k6), .val (.int (0 : Int32)), .val (.int v18), .val (.ref b3), .val (.ref b8), .val (.int r172), .val (.int r182), .val (.int r192), .val (.int r202), .val (.int (1 : Int32)), .val (.ref b66), .unset] [(.int v18), (.ref b8), (.ref b66)])) _
      refine st115.trans ?_
      show Steps p.tables e below (T115.setTop (mkF m 366 #[.val (.int k1), .val (.int k2), .val (.int k3), .val (.long k4), .second, .val (.int k5), .val (.int k6), .val (.int (0 : Int32)), .val (.int v18), .val (.ref b3), .val (.ref b8), .val (.int r172), .val (.int r182), .val (.int r192), .val (.int r202), .val (.int (1 : Int32)), .val (.ref b66), .unset] [(.int (1 : Int32))])) _
      refine XS.istore X115.here hx rfl (hb hby at_366) rfl (l' := #[.val (.int k1), .val (.int k2), .val (.int k3), .val (.long k4), .second, .val (.int k5), .val (.int k6), .val (.int (0 : Int32)), .val (.int v18), .val (.ref b3), .val (.ref b8), .val (.int r172), .val (.int r182), .val (.int r192), .val (.int r202), .val (.int (1 : Int32)), .val (.ref b66), .val (.int (1 : Int32))]) rfl ?_
      show Steps p.tables e below (T115.setTop (mkF m 368 #[.val (.int k1), .val (.int k2), .val (.int k3), .val (.long k4), .second, .val (.int k5), .val (.int k6), .val (.int (0 : Int32)), .val (.int v18), .val (.ref b3), .val (.ref b8), .val (.int r172), .val (.int r182), .val (.int r192), .val (.int r202), .val (.int (1 : Int32)), .val (.ref b66), .val (.int (1 : Int32))] [])) _
      refine XS.iload X115.here hx rfl (hb hby at_368) rfl ?_
      show Steps p.tables e below (T115.setTop (mkF m 370 #[.val (.int k1), .val (.int k2), .val (.int k3), .val (.long k4), .second, .val (.int k5), .val (.int k6), .val (.int (0 : Int32)), .val (.int v18), .val (.ref b3), .val (.ref b8), .val (.int r172), .val (.int r182), .val (.int r192), .val (.int r202), .val (.int (1 : Int32)), .val (.ref b66), .val (.int (1 : Int32))] [(.int (1 : Int32))])) _
      refine XS.iload X115.here hx rfl (hb hby at_370) rfl ?_
      show Steps p.tables e below (T115.setTop (mkF m 372 #[.val (.int k1), .val (.int k2), .val (.int k3), .val (.long k4), .second, .val (.int k5), .val (.int k6), .val (.int (0 : Int32)), .val (.int v18), .val (.ref b3), .val (.ref b8), .val (.int r172), .val (.int r182), .val (.int r192), .val (.int r202), .val (.int (1 : Int32)), .val (.ref b66), .val (.int (1 : Int32))] [(.int (1 : Int32)), (.int (1 : Int32))])) _
      refine XS.icmpNo X115.here hx rfl (hb hby at_372) rfl (teq rfl).2 ?_
      show Steps p.tables e below (T115.setTop (mkF m 375 #[.val (.int k1), .val (.int k2), .val (.int k3), .val (.long k4), .second, .val (.int k5), .val (.int k6), .val (.int (0 : Int32)), .val (.int v18), .val (.ref b3), .val (.ref b8), .val (.int r172), .val (.int r182), .val (.int r192), .val (.int r202), .val (.int (1 : Int32)), .val (.ref b66), .val (.int (1 : Int32))] [])) _
      refine XS.iconst X115.here hx rfl (hb hby at_375) ?_
      show Steps p.tables e below (T115.setTop (mkF m 376 #[.val (.int k1), .val (.int k2), .val (.int k3), .val (.long k4), .second, .val (.int k5), .val (.int k6), .val (.int (0 : Int32)), .val (.int v18), .val (.ref b3), .val (.ref b8), .val (.int r172), .val (.int r182), .val (.int r192), .val (.int r202), .val (.int (1 : Int32)), .val (.ref b66), .val (.int (1 : Int32))] [(.int (1 : Int32))])) _
      refine XS.goto X115.here hx rfl (pc0 := 376) (pc' := 380) rfl (hb hby at_376) (by decide) (by decide) ?_
      show Steps p.tables e below (T115.setTop (mkF m 380 #[.val (.int k1), .val (.int k2), .val (.int k3), .val (.long k4), .second, .val (.int k5), .val (.int k6), .val (.int (0 : Int32)), .val (.int v18), .val (.ref b3), .val (.ref b8), .val (.int r172), .val (.int r182), .val (.int r192), .val (.int r202), .val (.int (1 : Int32)), .val (.ref b66), .val (.int (1 : Int32))] [(.int (1 : Int32))])) _
      exact retN X115 hx (t := .boolean) Bd.returns (by simp) (hb hby at_380) hr
    · show Q0 Z k1 k2 k3 k4 k5 k6 h0 n0 _ T115.heap _
      rw [e115]
      exact ⟨rfl, N115⟩
  · subst hs2
    obtain ⟨v18, hv18⟩ : ∃ z_q : Int32, z_q = ((k2 &&& (2147483647 : Int32)) % (8 : Int32)) := ⟨_, rfl⟩
    obtain ⟨T116, hX116, kx116, X116, e116, E116, A116, st116⟩ := newP X0 hx hZ (hw _ (List.mem_of_getElem? (i := 1) rfl)) e0 (g := (mkF m 22 #[.val (.int k1), .val (.int k2), .val (.int k3), .val (.long k4), .second, .val (.int k5), .val (.int k6), .val (.int (1 : Int32)), .val (.int v18), .unset, .unset, .unset, .unset, .unset, .unset, .unset, .unset, .unset] [(.int (1 : Int32))])) rfl (hb hby at_22) rfl (by decide) (cap := 1) (by decide) (by decide) (by decide) (by decide)
    obtain ⟨b116, g116⟩ : ∃ z_q, z_q = h0.size := ⟨_, rfl⟩
    rw [← g116] at A116 st116
    have g_b116 : n0 ≤ b116 := Nat.le_trans Z0 (Nat.le_of_eq g116.symm)
    have sz_b116 : h0.size ≤ b116 := Nat.le_trans K0.1 (Nat.le_of_eq g116.symm)
    have Z117 : n0 ≤ hX116.size := Nat.le_trans Z0 E116.1
    have hk118 := Nat.le_trans (Nat.zero_le _) (show _ ≤ hX116.size from E116.1)
    have K119 : Keep h0 hX116 [] := K0.ext E116
    have F120 : Arv Z hX116 b116 kx116 .byte (1 : Int32) [(.int (0 : Int32))] (.int (0 : Int32)) := (Arv.new A116 (by decide)).pad (pad_rep [] (.int (0 : Int32)) 1)
    obtain ⟨cl121, Ar121, q121, S121, M121, H121, G121⟩ := id F120
    have hin121 : ¬ ((0 : Int32) < 0 ∨ cl121.slots.size ≤ ((0 : Int32)).toNatClampNeg) := inb_of S121 ⟨by decide, by decide⟩
    obtain ⟨T121, hX121, X121, e121, W121, st121⟩ := stB X116 hx hZ e116 Ar121 (j := (0 : Int32)) hin121 (g := (mkF m 36 #[.val (.int k1), .val (.int k2), .val (.int k3), .val (.long k4), .second, .val (.int k5), .val (.int k6), .val (.int (1 : Int32)), .val (.int v18), .val (.ref b116), .unset, .unset, .unset, .unset, .unset, .unset, .unset, .unset] [(.int (k3.toInt8.toInt32)), (.int (0 : Int32)), (.ref b116)])) rfl rfl (hb hby at_36)
    have F122 : Arv Z hX121 b116 kx116 .byte (1 : Int32) [(.int (nar .byte (k3.toInt8.toInt32)))] (.int (0 : Int32)) := Arv.set Ar121 q121 S121 M121 H121 G121 (fits_nar_byte _) W121 0 rfl (Nat.le_of_ble_eq_true rfl)
    have N121 := Fr.snoc X121 N0 g_b116
    have Z123 : n0 ≤ hX121.size := Nat.le_trans Z117 (Keep.of_wr W121).1
    have hk124 := Nat.le_trans hk118 (show _ ≤ hX121.size from (Keep.of_wr W121).1)
    have K125 : Keep h0 hX121 [] := K119.wr W121 (Or.inr sz_b116)
    obtain ⟨T126, hX126, kx126, X126, e126, E126, A126, st126⟩ := newP X121 hx hZ (hw _ (List.mem_of_getElem? (i := 1) rfl)) e121 (g := (mkF m 84 #[.val (.int k1), .val (.int k2), .val (.int k3), .val (.long k4), .second, .val (.int k5), .val (.int k6), .val (.int (1 : Int32)), .val (.int v18), .val (.ref b116), .unset, .unset, .unset, .unset, .unset, .unset, .unset, .unset] [(.int (8 : Int32))])) rfl (hb hby at_84) rfl (by decide) (cap := 8) (by decide) (by decide) (by decide) (by decide)
    obtain ⟨b126, g126⟩ : ∃ z_q, z_q = hX121.size := ⟨_, rfl⟩
    rw [← g126] at A126 st126
    have g_b126 : n0 ≤ b126 := Nat.le_trans Z123 (Nat.le_of_eq g126.symm)
    have sz_b126 : h0.size ≤ b126 := Nat.le_trans K125.1 (Nat.le_of_eq g126.symm)
    have ne_b116_b126 : b116 ≠ b126 := Nat.ne_of_lt (Nat.lt_of_lt_of_le F122.lt (Nat.le_of_eq g126.symm))
    have F127 : Arv Z hX126 b116 kx116 .byte (1 : Int32) [(.int (nar .byte (k3.toInt8.toInt32)))] (.int (0 : Int32)) := F122.ext E126
    have Z128 : n0 ≤ hX126.size := Nat.le_trans Z123 E126.1
    have hk129 := Nat.le_trans hk124 (show _ ≤ hX126.size from E126.1)
    have K130 : Keep h0 hX126 [] := K125.ext E126
    have F131 : Arv Z hX126 b126 kx126 .byte (8 : Int32) [(.int (0 : Int32)), (.int (0 : Int32)), (.int (0 : Int32)), (.int (0 : Int32)), (.int (0 : Int32)), (.int (0 : Int32)), (.int (0 : Int32)), (.int (0 : Int32))] (.int (0 : Int32)) := (Arv.new A126 (by decide)).pad (pad_rep [] (.int (0 : Int32)) 8)
    obtain ⟨cl132, Ar132, q132, S132, M132, H132, G132⟩ := id F131
    have hin132 : ¬ ((0 : Int32) < 0 ∨ cl132.slots.size ≤ ((0 : Int32)).toNatClampNeg) := inb_of S132 ⟨by decide, by decide⟩
    obtain ⟨T132, hX132, X132, e132, W132, st132⟩ := stB X126 hx hZ e126 Ar132 (j := (0 : Int32)) hin132 (g := (mkF m 94 #[.val (.int k1), .val (.int k2), .val (.int k3), .val (.long k4), .second, .val (.int k5), .val (.int k6), .val (.int (1 : Int32)), .val (.int v18), .val (.ref b116), .val (.ref b126), .unset, .unset, .unset, .unset, .unset, .unset, .unset] [(.int ((k4.toInt32).toInt8.toInt32)), (.int (0 : Int32)), (.ref b126)])) rfl rfl (hb hby at_94)
    have F133 : Arv Z hX132 b126 kx126 .byte (8 : Int32) [(.int (nar .byte ((k4.toInt32).toInt8.toInt32))), (.int (0 : Int32)), (.int (0 : Int32)), (.int (0 : Int32)), (.int (0 : Int32)), (.int (0 : Int32)), (.int (0 : Int32)), (.int (0 : Int32))] (.int (0 : Int32)) := Arv.set Ar132 q132 S132 M132 H132 G132 (fits_nar_byte _) W132 0 rfl (Nat.le_of_ble_eq_true rfl)
    have N132 := Fr.snoc X132 N121 g_b126
    have F134 : Arv Z hX132 b116 kx116 .byte (1 : Int32) [(.int (nar .byte (k3.toInt8.toInt32)))] (.int (0 : Int32)) := F127.other W132 ne_b116_b126
    have Z135 : n0 ≤ hX132.size := Nat.le_trans Z128 (Keep.of_wr W132).1
    have hk136 := Nat.le_trans hk129 (show _ ≤ hX132.size from (Keep.of_wr W132).1)
    have K137 : Keep h0 hX132 [] := K130.wr W132 (Or.inr sz_b126)
    obtain ⟨cl138, Ar138, q138, S138, M138, H138, G138⟩ := id F133
    have hin138 : ¬ ((1 : Int32) < 0 ∨ cl138.slots.size ≤ ((1 : Int32)).toNatClampNeg) := inb_of S138 ⟨by decide, by decide⟩
    obtain ⟨T138, hX138, X138, e138, W138, st138⟩ := stB X132 hx hZ e132 Ar138 (j := (1 : Int32)) hin138 (g := (mkF m 104 #[.val (.int k1), .val (.int k2), .val (.int k3), .val (.long k4), .second, .val (.int k5), .val (.int k6), .val (.int (1 : Int32)), .val (.int v18), .val (.ref b116), .val (.ref b126), .unset, .unset, .unset, .unset, .unset, .unset, .unset] [(.int (((k4 >>> ((8 : Int32) &&& 0x3f).toInt64).toInt32).toInt8.toInt32)), (.int (1 : Int32)), (.ref b126)])) rfl rfl (hb hby at_104)
    have F139 : Arv Z hX138 b126 kx126 .byte (8 : Int32) [(.int (nar .byte ((k4.toInt32).toInt8.toInt32))), (.int (nar .byte (((k4 >>> ((8 : Int32) &&& 0x3f).toInt64).toInt32).toInt8.toInt32))), (.int (0 : Int32)), (.int (0 : Int32)), (.int (0 : Int32)), (.int (0 : Int32)), (.int (0 : Int32)), (.int (0 : Int32))] (.int (0 : Int32)) := Arv.set Ar138 q138 S138 M138 H138 G138 (fits_nar_byte _) W138 1 rfl (Nat.le_of_ble_eq_true rfl)
    have N138 := Fr.snoc X138 N132 g_b126
    have F140 : Arv Z hX138 b116 kx116 .byte (1 : Int32) [(.int (nar .byte (k3.toInt8.toInt32)))] (.int (0 : Int32)) := F134.other W138 ne_b116_b126
    have Z141 : n0 ≤ hX138.size := Nat.le_trans Z135 (Keep.of_wr W138).1
    have hk142 := Nat.le_trans hk136 (show _ ≤ hX138.size from (Keep.of_wr W138).1)
    have K143 : Keep h0 hX138 [] := K137.wr W138 (Or.inr sz_b126)
    obtain ⟨cl144, Ar144, q144, S144, M144, H144, G144⟩ := id F139
    have hin144 : ¬ ((2 : Int32) < 0 ∨ cl144.slots.size ≤ ((2 : Int32)).toNatClampNeg) := inb_of S144 ⟨by decide, by decide⟩
    obtain ⟨T144, hX144, X144, e144, W144, st144⟩ := stB X138 hx hZ e138 Ar144 (j := (2 : Int32)) hin144 (g := (mkF m 114 #[.val (.int k1), .val (.int k2), .val (.int k3), .val (.long k4), .second, .val (.int k5), .val (.int k6), .val (.int (1 : Int32)), .val (.int v18), .val (.ref b116), .val (.ref b126), .unset, .unset, .unset, .unset, .unset, .unset, .unset] [(.int (((k4 >>> ((16 : Int32) &&& 0x3f).toInt64).toInt32).toInt8.toInt32)), (.int (2 : Int32)), (.ref b126)])) rfl rfl (hb hby at_114)
    have F145 : Arv Z hX144 b126 kx126 .byte (8 : Int32) [(.int (nar .byte ((k4.toInt32).toInt8.toInt32))), (.int (nar .byte (((k4 >>> ((8 : Int32) &&& 0x3f).toInt64).toInt32).toInt8.toInt32))), (.int (nar .byte (((k4 >>> ((16 : Int32) &&& 0x3f).toInt64).toInt32).toInt8.toInt32))), (.int (0 : Int32)), (.int (0 : Int32)), (.int (0 : Int32)), (.int (0 : Int32)), (.int (0 : Int32))] (.int (0 : Int32)) := Arv.set Ar144 q144 S144 M144 H144 G144 (fits_nar_byte _) W144 2 rfl (Nat.le_of_ble_eq_true rfl)
    have N144 := Fr.snoc X144 N138 g_b126
    have F146 : Arv Z hX144 b116 kx116 .byte (1 : Int32) [(.int (nar .byte (k3.toInt8.toInt32)))] (.int (0 : Int32)) := F140.other W144 ne_b116_b126
    have Z147 : n0 ≤ hX144.size := Nat.le_trans Z141 (Keep.of_wr W144).1
    have hk148 := Nat.le_trans hk142 (show _ ≤ hX144.size from (Keep.of_wr W144).1)
    have K149 : Keep h0 hX144 [] := K143.wr W144 (Or.inr sz_b126)
    obtain ⟨cl150, Ar150, q150, S150, M150, H150, G150⟩ := id F145
    have hin150 : ¬ ((3 : Int32) < 0 ∨ cl150.slots.size ≤ ((3 : Int32)).toNatClampNeg) := inb_of S150 ⟨by decide, by decide⟩
    obtain ⟨T150, hX150, X150, e150, W150, st150⟩ := stB X144 hx hZ e144 Ar150 (j := (3 : Int32)) hin150 (g := (mkF m 124 #[.val (.int k1), .val (.int k2), .val (.int k3), .val (.long k4), .second, .val (.int k5), .val (.int k6), .val (.int (1 : Int32)), .val (.int v18), .val (.ref b116), .val (.ref b126), .unset, .unset, .unset, .unset, .unset, .unset, .unset] [(.int (((k4 >>> ((24 : Int32) &&& 0x3f).toInt64).toInt32).toInt8.toInt32)), (.int (3 : Int32)), (.ref b126)])) rfl rfl (hb hby at_124)
    have F151 : Arv Z hX150 b126 kx126 .byte (8 : Int32) [(.int (nar .byte ((k4.toInt32).toInt8.toInt32))), (.int (nar .byte (((k4 >>> ((8 : Int32) &&& 0x3f).toInt64).toInt32).toInt8.toInt32))), (.int (nar .byte (((k4 >>> ((16 : Int32) &&& 0x3f).toInt64).toInt32).toInt8.toInt32))), (.int (nar .byte (((k4 >>> ((24 : Int32) &&& 0x3f).toInt64).toInt32).toInt8.toInt32))), (.int (0 : Int32)), (.int (0 : Int32)), (.int (0 : Int32)), (.int (0 : Int32))] (.int (0 : Int32)) := Arv.set Ar150 q150 S150 M150 H150 G150 (fits_nar_byte _) W150 3 rfl (Nat.le_of_ble_eq_true rfl)
    have N150 := Fr.snoc X150 N144 g_b126
    have F152 : Arv Z hX150 b116 kx116 .byte (1 : Int32) [(.int (nar .byte (k3.toInt8.toInt32)))] (.int (0 : Int32)) := F146.other W150 ne_b116_b126
    have Z153 : n0 ≤ hX150.size := Nat.le_trans Z147 (Keep.of_wr W150).1
    have hk154 := Nat.le_trans hk148 (show _ ≤ hX150.size from (Keep.of_wr W150).1)
    have K155 : Keep h0 hX150 [] := K149.wr W150 (Or.inr sz_b126)
    obtain ⟨cl156, Ar156, q156, S156, M156, H156, G156⟩ := id F151
    have hin156 : ¬ ((4 : Int32) < 0 ∨ cl156.slots.size ≤ ((4 : Int32)).toNatClampNeg) := inb_of S156 ⟨by decide, by decide⟩
    obtain ⟨T156, hX156, X156, e156, W156, st156⟩ := stB X150 hx hZ e150 Ar156 (j := (4 : Int32)) hin156 (g := (mkF m 134 #[.val (.int k1), .val (.int k2), .val (.int k3), .val (.long k4), .second, .val (.int k5), .val (.int k6), .val (.int (1 : Int32)), .val (.int v18), .val (.ref b116), .val (.ref b126), .unset, .unset, .unset, .unset, .unset, .unset, .unset] [(.int (((k4 >>> ((32 : Int32) &&& 0x3f).toInt64).toInt32).toInt8.toInt32)), (.int (4 : Int32)), (.ref b126)])) rfl rfl (hb hby at_134)
    have F157 : Arv Z hX156 b126 kx126 .byte (8 : Int32) [(.int (nar .byte ((k4.toInt32).toInt8.toInt32))), (.int (nar .byte (((k4 >>> ((8 : Int32) &&& 0x3f).toInt64).toInt32).toInt8.toInt32))), (.int (nar .byte (((k4 >>> ((16 : Int32) &&& 0x3f).toInt64).toInt32).toInt8.toInt32))), (.int (nar .byte (((k4 >>> ((24 : Int32) &&& 0x3f).toInt64).toInt32).toInt8.toInt32))), (.int (nar .byte (((k4 >>> ((32 : Int32) &&& 0x3f).toInt64).toInt32).toInt8.toInt32))), (.int (0 : Int32)), (.int (0 : Int32)), (.int (0 : Int32))] (.int (0 : Int32)) := Arv.set Ar156 q156 S156 M156 H156 G156 (fits_nar_byte _) W156 4 rfl (Nat.le_of_ble_eq_true rfl)
    have N156 := Fr.snoc X156 N150 g_b126
    have F158 : Arv Z hX156 b116 kx116 .byte (1 : Int32) [(.int (nar .byte (k3.toInt8.toInt32)))] (.int (0 : Int32)) := F152.other W156 ne_b116_b126
    have Z159 : n0 ≤ hX156.size := Nat.le_trans Z153 (Keep.of_wr W156).1
    have hk160 := Nat.le_trans hk154 (show _ ≤ hX156.size from (Keep.of_wr W156).1)
    have K161 : Keep h0 hX156 [] := K155.wr W156 (Or.inr sz_b126)
    obtain ⟨cl162, Ar162, q162, S162, M162, H162, G162⟩ := id F157
    have hin162 : ¬ ((5 : Int32) < 0 ∨ cl162.slots.size ≤ ((5 : Int32)).toNatClampNeg) := inb_of S162 ⟨by decide, by decide⟩
    obtain ⟨T162, hX162, X162, e162, W162, st162⟩ := stB X156 hx hZ e156 Ar162 (j := (5 : Int32)) hin162 (g := (mkF m 144 #[.val (.int k1), .val (.int k2), .val (.int k3), .val (.long k4), .second, .val (.int k5), .val (.int k6), .val (.int (1 : Int32)), .val (.int v18), .val (.ref b116), .val (.ref b126), .unset, .unset, .unset, .unset, .unset, .unset, .unset] [(.int (((k4 >>> ((40 : Int32) &&& 0x3f).toInt64).toInt32).toInt8.toInt32)), (.int (5 : Int32)), (.ref b126)])) rfl rfl (hb hby at_144)
    have F163 : Arv Z hX162 b126 kx126 .byte (8 : Int32) [(.int (nar .byte ((k4.toInt32).toInt8.toInt32))), (.int (nar .byte (((k4 >>> ((8 : Int32) &&& 0x3f).toInt64).toInt32).toInt8.toInt32))), (.int (nar .byte (((k4 >>> ((16 : Int32) &&& 0x3f).toInt64).toInt32).toInt8.toInt32))), (.int (nar .byte (((k4 >>> ((24 : Int32) &&& 0x3f).toInt64).toInt32).toInt8.toInt32))), (.int (nar .byte (((k4 >>> ((32 : Int32) &&& 0x3f).toInt64).toInt32).toInt8.toInt32))), (.int (nar .byte (((k4 >>> ((40 : Int32) &&& 0x3f).toInt64).toInt32).toInt8.toInt32))), (.int (0 : Int32)), (.int (0 : Int32))] (.int (0 : Int32)) := Arv.set Ar162 q162 S162 M162 H162 G162 (fits_nar_byte _) W162 5 rfl (Nat.le_of_ble_eq_true rfl)
    have N162 := Fr.snoc X162 N156 g_b126
    have F164 : Arv Z hX162 b116 kx116 .byte (1 : Int32) [(.int (nar .byte (k3.toInt8.toInt32)))] (.int (0 : Int32)) := F158.other W162 ne_b116_b126
    have Z165 : n0 ≤ hX162.size := Nat.le_trans Z159 (Keep.of_wr W162).1
    have hk166 := Nat.le_trans hk160 (show _ ≤ hX162.size from (Keep.of_wr W162).1)
    have K167 : Keep h0 hX162 [] := K161.wr W162 (Or.inr sz_b126)
    obtain ⟨cl168, Ar168, q168, S168, M168, H168, G168⟩ := id F163
    have hin168 : ¬ ((6 : Int32) < 0 ∨ cl168.slots.size ≤ ((6 : Int32)).toNatClampNeg) := inb_of S168 ⟨by decide, by decide⟩
    obtain ⟨T168, hX168, X168, e168, W168, st168⟩ := stB X162 hx hZ e162 Ar168 (j := (6 : Int32)) hin168 (g := (mkF m 155 #[.val (.int k1), .val (.int k2), .val (.int k3), .val (.long k4), .second, .val (.int k5), .val (.int k6), .val (.int (1 : Int32)), .val (.int v18), .val (.ref b116), .val (.ref b126), .unset, .unset, .unset, .unset, .unset, .unset, .unset] [(.int (((k4 >>> ((48 : Int32) &&& 0x3f).toInt64).toInt32).toInt8.toInt32)), (.int (6 : Int32)), (.ref b126)])) rfl rfl (hb hby at_155)
    have F169 : Arv Z hX168 b126 kx126 .byte (8 : Int32) [(.int (nar .byte ((k4.toInt32).toInt8.toInt32))), (.int (nar .byte (((k4 >>> ((8 : Int32) &&& 0x3f).toInt64).toInt32).toInt8.toInt32))), (.int (nar .byte (((k4 >>> ((16 : Int32) &&& 0x3f).toInt64).toInt32).toInt8.toInt32))), (.int (nar .byte (((k4 >>> ((24 : Int32) &&& 0x3f).toInt64).toInt32).toInt8.toInt32))), (.int (nar .byte (((k4 >>> ((32 : Int32) &&& 0x3f).toInt64).toInt32).toInt8.toInt32))), (.int (nar .byte (((k4 >>> ((40 : Int32) &&& 0x3f).toInt64).toInt32).toInt8.toInt32))), (.int (nar .byte (((k4 >>> ((48 : Int32) &&& 0x3f).toInt64).toInt32).toInt8.toInt32))), (.int (0 : Int32))] (.int (0 : Int32)) := Arv.set Ar168 q168 S168 M168 H168 G168 (fits_nar_byte _) W168 6 rfl (Nat.le_of_ble_eq_true rfl)
    have N168 := Fr.snoc X168 N162 g_b126
    have F170 : Arv Z hX168 b116 kx116 .byte (1 : Int32) [(.int (nar .byte (k3.toInt8.toInt32)))] (.int (0 : Int32)) := F164.other W168 ne_b116_b126
    have Z171 : n0 ≤ hX168.size := Nat.le_trans Z165 (Keep.of_wr W168).1
    have hk172 := Nat.le_trans hk166 (show _ ≤ hX168.size from (Keep.of_wr W168).1)
    have K173 : Keep h0 hX168 [] := K167.wr W168 (Or.inr sz_b126)
    obtain ⟨cl174, Ar174, q174, S174, M174, H174, G174⟩ := id F169
    have hin174 : ¬ ((7 : Int32) < 0 ∨ cl174.slots.size ≤ ((7 : Int32)).toNatClampNeg) := inb_of S174 ⟨by decide, by decide⟩
    obtain ⟨T174, hX174, X174, e174, W174, st174⟩ := stB X168 hx hZ e168 Ar174 (j := (7 : Int32)) hin174 (g := (mkF m 166 #[.val (.int k1), .val (.int k2), .val (.int k3), .val (.long k4), .second, .val (.int k5), .val (.int k6), .val (.int (1 : Int32)), .val (.int v18), .val (.ref b116), .val (.ref b126), .unset, .unset, .unset, .unset, .unset, .unset, .unset] [(.int (((k4 >>> ((56 : Int32) &&& 0x3f).toInt64).toInt32).toInt8.toInt32)), (.int (7 : Int32)), (.ref b126)])) rfl rfl (hb hby at_166)
    have F175 : Arv Z hX174 b126 kx126 .byte (8 : Int32) [(.int (nar .byte ((k4.toInt32).toInt8.toInt32))), (.int (nar .byte (((k4 >>> ((8 : Int32) &&& 0x3f).toInt64).toInt32).toInt8.toInt32))), (.int (nar .byte (((k4 >>> ((16 : Int32) &&& 0x3f).toInt64).toInt32).toInt8.toInt32))), (.int (nar .byte (((k4 >>> ((24 : Int32) &&& 0x3f).toInt64).toInt32).toInt8.toInt32))), (.int (nar .byte (((k4 >>> ((32 : Int32) &&& 0x3f).toInt64).toInt32).toInt8.toInt32))), (.int (nar .byte (((k4 >>> ((40 : Int32) &&& 0x3f).toInt64).toInt32).toInt8.toInt32))), (.int (nar .byte (((k4 >>> ((48 : Int32) &&& 0x3f).toInt64).toInt32).toInt8.toInt32))), (.int (nar .byte (((k4 >>> ((56 : Int32) &&& 0x3f).toInt64).toInt32).toInt8.toInt32)))] (.int (0 : Int32)) := Arv.set Ar174 q174 S174 M174 H174 G174 (fits_nar_byte _) W174 7 rfl (Nat.le_of_ble_eq_true rfl)
    have N174 := Fr.snoc X174 N168 g_b126
    have F176 : Arv Z hX174 b116 kx116 .byte (1 : Int32) [(.int (nar .byte (k3.toInt8.toInt32)))] (.int (0 : Int32)) := F170.other W174 ne_b116_b126
    have Z177 : n0 ≤ hX174.size := Nat.le_trans Z171 (Keep.of_wr W174).1
    have hk178 := Nat.le_trans hk172 (show _ ≤ hX174.size from (Keep.of_wr W174).1)
    have K179 : Keep h0 hX174 [] := K173.wr W174 (Or.inr sz_b126)
    obtain ⟨_, _, ⟨T180, L180, k180, n180⟩, -, X180, ⟨Lc180, hQ180, l180, y180, z180⟩, st180⟩ := Jvm.LawKit.callS X174 hx (y := (⟨"com/example/marcotte/marcotte/NameWrittenAtPinLaw", "delta", "(III)B"⟩ : MethodName)) hown (mvT hZ (hw _ (List.mem_of_getElem? (i := 2) rfl))) (mvT hZ (hw _ (List.mem_of_getElem? (i := 3) rfl))) (mvT hZ (hw _ (List.mem_of_getElem? (i := 4) rfl))) (mvT hZ (hw _ (List.mem_of_getElem? (i := 5) rfl))) (by decide) (backOf (W := 0) (rm1 l Z a0 hw [] k6 k5 (0 : Int32) hX174 n0 Z177 ) hZ (hw _ (List.mem_of_getElem? (i := 5) rfl)) (hw _ (List.mem_of_getElem? (i := 4) rfl)) (by decide) (by decide)) (g := (mkF m 172 #[.val (.int k1), .val (.int k2), .val (.int k3), .val (.long k4), .second, .val (.int k5), .val (.int k6), .val (.int (1 : Int32)), .val (.int v18), .val (.ref b116), .val (.ref b126), .unset, .unset, .unset, .unset, .unset, .unset, .unset] [(.int (0 : Int32)), (.int k5), (.int k6)])) rfl (by rw [hml]; rfl) (argsL := [(.int k6), (.int k5), (.int (0 : Int32))]) (rest := []) (lenOf pd_1 rfl) rfl (by show 2 * 0 + _ ≤ _; exact Nat.le_of_eq rfl) (hb hby at_172) (fun _ _ => ⟨rfl, e174, (by decide : 2 + 0 ≤ _), (by decide : 9 + 0 ≤ _)⟩)
    dsimp only [Pt.U, Pt.locs, Pt.cells, Pt.slots] at X180 l180 y180 z180 st180 hQ180
    subst l180 y180 z180
    obtain ⟨rfl, N180q, e180⟩ := hQ180
    have N180 := Fr.app N174 N180q
    obtain ⟨r172, hr172⟩ : ∃ z_q : Int32, z_q = (own_f1 k6 k5 (0 : Int32)) := ⟨_, rfl⟩
    obtain ⟨_, _, ⟨T181, L181, k181, n181⟩, -, X181, ⟨Lc181, hQ181, l181, y181, z181⟩, st181⟩ := Jvm.LawKit.callS X180 hx (y := (⟨"com/example/marcotte/marcotte/NameWrittenAtPinLaw", "delta", "(III)B"⟩ : MethodName)) hown (mvT hZ (hw _ (List.mem_of_getElem? (i := 2) rfl))) (mvT hZ (hw _ (List.mem_of_getElem? (i := 3) rfl))) (mvT hZ (hw _ (List.mem_of_getElem? (i := 4) rfl))) (mvT hZ (hw _ (List.mem_of_getElem? (i := 5) rfl))) (by decide) (backOf (W := 0) (rm1 l Z a0 hw [] k6 k5 (1 : Int32) hX174 n0 Z177 ) hZ (hw _ (List.mem_of_getElem? (i := 5) rfl)) (hw _ (List.mem_of_getElem? (i := 4) rfl)) (by decide) (by decide)) (g := (mkF m 182 #[.val (.int k1), .val (.int k2), .val (.int k3), .val (.long k4), .second, .val (.int k5), .val (.int k6), .val (.int (1 : Int32)), .val (.int v18), .val (.ref b116), .val (.ref b126), .val (.int r172), .unset, .unset, .unset, .unset, .unset, .unset] [(.int (1 : Int32)), (.int k5), (.int k6)])) rfl (by rw [hml]; rfl) (argsL := [(.int k6), (.int k5), (.int (1 : Int32))]) (rest := []) (lenOf pd_1 rfl) rfl (by show 2 * 0 + _ ≤ _; exact Nat.le_of_eq rfl) (hb hby at_182) (fun _ _ => ⟨rfl, e180, (by decide : 2 + 0 ≤ _), (by decide : 9 + 0 ≤ _)⟩)
    dsimp only [Pt.U, Pt.locs, Pt.cells, Pt.slots] at X181 l181 y181 z181 st181 hQ181
    subst l181 y181 z181
    obtain ⟨rfl, N181q, e181⟩ := hQ181
    have N181 := Fr.app N180 N181q
    obtain ⟨r182, hr182⟩ : ∃ z_q : Int32, z_q = (own_f1 k6 k5 (1 : Int32)) := ⟨_, rfl⟩
    obtain ⟨_, _, ⟨T182, L182, k182, n182⟩, -, X182, ⟨Lc182, hQ182, l182, y182, z182⟩, st182⟩ := Jvm.LawKit.callS X181 hx (y := (⟨"com/example/marcotte/marcotte/NameWrittenAtPinLaw", "delta", "(III)B"⟩ : MethodName)) hown (mvT hZ (hw _ (List.mem_of_getElem? (i := 2) rfl))) (mvT hZ (hw _ (List.mem_of_getElem? (i := 3) rfl))) (mvT hZ (hw _ (List.mem_of_getElem? (i := 4) rfl))) (mvT hZ (hw _ (List.mem_of_getElem? (i := 5) rfl))) (by decide) (backOf (W := 0) (rm1 l Z a0 hw [] k6 k5 (2 : Int32) hX174 n0 Z177 ) hZ (hw _ (List.mem_of_getElem? (i := 5) rfl)) (hw _ (List.mem_of_getElem? (i := 4) rfl)) (by decide) (by decide)) (g := (mkF m 192 #[.val (.int k1), .val (.int k2), .val (.int k3), .val (.long k4), .second, .val (.int k5), .val (.int k6), .val (.int (1 : Int32)), .val (.int v18), .val (.ref b116), .val (.ref b126), .val (.int r172), .val (.int r182), .unset, .unset, .unset, .unset, .unset] [(.int (2 : Int32)), (.int k5), (.int k6)])) rfl (by rw [hml]; rfl) (argsL := [(.int k6), (.int k5), (.int (2 : Int32))]) (rest := []) (lenOf pd_1 rfl) rfl (by show 2 * 0 + _ ≤ _; exact Nat.le_of_eq rfl) (hb hby at_192) (fun _ _ => ⟨rfl, e181, (by decide : 2 + 0 ≤ _), (by decide : 9 + 0 ≤ _)⟩)
    dsimp only [Pt.U, Pt.locs, Pt.cells, Pt.slots] at X182 l182 y182 z182 st182 hQ182
    subst l182 y182 z182
    obtain ⟨rfl, N182q, e182⟩ := hQ182
    have N182 := Fr.app N181 N182q
    obtain ⟨r192, hr192⟩ : ∃ z_q : Int32, z_q = (own_f1 k6 k5 (2 : Int32)) := ⟨_, rfl⟩
    obtain ⟨_, _, ⟨T183, L183, k183, n183⟩, -, X183, ⟨Lc183, hQ183, l183, y183, z183⟩, st183⟩ := Jvm.LawKit.callS X182 hx (y := (⟨"com/example/marcotte/marcotte/NameWrittenAtPinLaw", "delta", "(III)B"⟩ : MethodName)) hown (mvT hZ (hw _ (List.mem_of_getElem? (i := 2) rfl))) (mvT hZ (hw _ (List.mem_of_getElem? (i := 3) rfl))) (mvT hZ (hw _ (List.mem_of_getElem? (i := 4) rfl))) (mvT hZ (hw _ (List.mem_of_getElem? (i := 5) rfl))) (by decide) (backOf (W := 0) (rm1 l Z a0 hw [] k6 k5 (3 : Int32) hX174 n0 Z177 ) hZ (hw _ (List.mem_of_getElem? (i := 5) rfl)) (hw _ (List.mem_of_getElem? (i := 4) rfl)) (by decide) (by decide)) (g := (mkF m 202 #[.val (.int k1), .val (.int k2), .val (.int k3), .val (.long k4), .second, .val (.int k5), .val (.int k6), .val (.int (1 : Int32)), .val (.int v18), .val (.ref b116), .val (.ref b126), .val (.int r172), .val (.int r182), .val (.int r192), .unset, .unset, .unset, .unset] [(.int (3 : Int32)), (.int k5), (.int k6)])) rfl (by rw [hml]; rfl) (argsL := [(.int k6), (.int k5), (.int (3 : Int32))]) (rest := []) (lenOf pd_1 rfl) rfl (by show 2 * 0 + _ ≤ _; exact Nat.le_of_eq rfl) (hb hby at_202) (fun _ _ => ⟨rfl, e182, (by decide : 2 + 0 ≤ _), (by decide : 9 + 0 ≤ _)⟩)
    dsimp only [Pt.U, Pt.locs, Pt.cells, Pt.slots] at X183 l183 y183 z183 st183 hQ183
    subst l183 y183 z183
    obtain ⟨rfl, N183q, e183⟩ := hQ183
    have N183 := Fr.app N182 N183q
    obtain ⟨r202, hr202⟩ : ∃ z_q : Int32, z_q = (own_f1 k6 k5 (3 : Int32)) := ⟨_, rfl⟩
    obtain ⟨cl184, Ar184, q184, S184, M184, H184, G184⟩ := id F176
    have hin184 : ¬ ((0 : Int32) < 0 ∨ cl184.slots.size ≤ ((0 : Int32)).toNatClampNeg) := inb_of S184 ⟨by decide, by decide⟩
    have hat184 : cl184.slots[((0 : Int32)).toNatClampNeg]? = some (.int (nar .byte (k3.toInt8.toInt32))) := Has.at H184 hin184 rfl
    obtain ⟨cl185, Ar185, q185, S185, M185, H185, G185⟩ := id F175.arh
    have hin185 : ¬ (v18 < 0 ∨ cl185.slots.size ≤ (v18).toNatClampNeg) := inb_of S185 (own_inb_0_224_s1 k1 k2 k3 k4 k5 k6 hv6 v18 hv18 r172 hr172 r182 hr182 r192 hr192 r202 hr202)
    obtain ⟨T185, hX185, X185, e185, W185, st185⟩ := stB X183 hx hZ e183 Ar185 (j := v18) hin185 (g := (mkF m 224 #[.val (.int k1), .val (.int k2), .val (.int k3), .val (.long k4), .second, .val (.int k5), .val (.int k6), .val (.int (1 : Int32)), .val (.int v18), .val (.ref b116), .val (.ref b126), .val (.int r172), .val (.int r182), .val (.int r192), .val (.int r202), .unset, .unset, .unset] [(.int (((nar .byte (k3.toInt8.toInt32)) ^^^ r172).toInt8.toInt32)), (.int v18), (.ref b126)])) rfl rfl (hb hby at_224)
    have F186 : Arh Z hX185 b126 kx126 .byte (8 : Int32) [(v18, (.int (nar .byte (((nar .byte (k3.toInt8.toInt32)) ^^^ r172).toInt8.toInt32))))] [(.int (nar .byte ((k4.toInt32).toInt8.toInt32))), (.int (nar .byte (((k4 >>> ((8 : Int32) &&& 0x3f).toInt64).toInt32).toInt8.toInt32))), (.int (nar .byte (((k4 >>> ((16 : Int32) &&& 0x3f).toInt64).toInt32).toInt8.toInt32))), (.int (nar .byte (((k4 >>> ((24 : Int32) &&& 0x3f).toInt64).toInt32).toInt8.toInt32))), (.int (nar .byte (((k4 >>> ((32 : Int32) &&& 0x3f).toInt64).toInt32).toInt8.toInt32))), (.int (nar .byte (((k4 >>> ((40 : Int32) &&& 0x3f).toInt64).toInt32).toInt8.toInt32))), (.int (nar .byte (((k4 >>> ((48 : Int32) &&& 0x3f).toInt64).toInt32).toInt8.toInt32))), (.int (nar .byte (((k4 >>> ((56 : Int32) &&& 0x3f).toInt64).toInt32).toInt8.toInt32)))] (.int (0 : Int32)) := Arh.push Ar185 q185 S185 M185 H185 G185 (fits_nar_byte _) W185 hin185
    have N185 := Fr.snoc X185 N183 g_b126
    have F187 : Arv Z hX185 b116 kx116 .byte (1 : Int32) [(.int (nar .byte (k3.toInt8.toInt32)))] (.int (0 : Int32)) := F176.other W185 ne_b116_b126
    have Z188 : n0 ≤ hX185.size := Nat.le_trans Z177 (Keep.of_wr W185).1
    have hk189 := Nat.le_trans hk178 (show _ ≤ hX185.size from (Keep.of_wr W185).1)
    have K190 : Keep h0 hX185 [] := K179.wr W185 (Or.inr sz_b126)
    obtain ⟨m337, hm337⟩ : ∃ z_q : Int32, z_q = (if r172 = (0 : Int32) then (1 : Int32) else (0 : Int32)) := ⟨_, rfl⟩
    have pre192 : ∀ tq, Steps p.tables e below (T185.setTop (mkF m 337 #[.val (.int k1), .val (.int k2), .val (.int k3), .val (.long k4), .second, .val (.int k5), .val (.int k6), .val (.int (1 : Int32)), .val (.int v18), .val (.ref b116), .val (.ref b126), .val (.int r172), .val (.int r182), .val (.int r192), .val (.int r202), .unset, .unset, .unset] [(.int m337)])) tq → Steps p.tables e below (s₁.setTop (entryFrame m #[(.int k1), (.int k2), (.int k3), (.long k4), (.int k5), (.int k6)] maxLocals)) tq := by
      intro tq kt
      refine pre1 _ ?_
      show Steps p.tables e below (s₁.setTop (mkF m 8 #[.val (.int k1), .val (.int k2), .val (.int k3), .val (.long k4), .second, .val (.int k5), .val (.int k6), .val (.int (1 : Int32)), .unset, .unset, .unset, .unset, .unset, .unset, .unset, .unset, .unset, .unset] [])) _
      refine XS.iloadN X0.here hx rfl (hb hby at_8) rfl ?_
      show Steps p.tables e below (s₁.setTop (mkF m 9 #[.val (.int k1), .val (.int k2), .val (.int k3), .val (.long k4), .second, .val (.int k5), .val (.int k6), .val (.int (1 : Int32)), .unset, .unset, .unset, .unset, .unset, .unset, .unset, .unset, .unset, .unset] [(.int k2)])) _
      refine X0.ldcInt hx hown (mvT hZ (hw _ (List.mem_of_getElem? (i := 0) rfl))) (g := (mkF m 9 #[.val (.int k1), .val (.int k2), .val (.int k3), .val (.long k4), .second, .val (.int k5), .val (.int k6), .val (.int (1 : Int32)), .unset, .unset, .unset, .unset, .unset, .unset, .unset, .unset, .unset, .unset] [(.int k2)])) rfl (hb hby at_9) _ ?_
      show Steps p.tables e below (s₁.setTop (mkF m 11 #[.val (.int k1), .val (.int k2), .val (.int k3), .val (.long k4), .second, .val (.int k5), .val (.int k6), .val (.int (1 : Int32)), .unset, .unset, .unset, .unset, .unset, .unset, .unset, .unset, .unset, .unset] [(.int (2147483647 : Int32)), (.int k2)])) _
      refine XS.iand X0.here hx rfl (hb hby at_11) rfl ?_
      show Steps p.tables e below (s₁.setTop (mkF m 12 #[.val (.int k1), .val (.int k2), .val (.int k3), .val (.long k4), .second, .val (.int k5), .val (.int k6), .val (.int (1 : Int32)), .unset, .unset, .unset, .unset, .unset, .unset, .unset, .unset, .unset, .unset] [(.int (k2 &&& (2147483647 : Int32)))])) _
      refine XS.bipush X0.here hx rfl (hb hby at_12) ?_
      show Steps p.tables e below (s₁.setTop (mkF m 14 #[.val (.int k1), .val (.int k2), .val (.int k3), .val (.long k4), .second, .val (.int k5), .val (.int k6), .val (.int (1 : Int32)), .unset, .unset, .unset, .unset, .unset, .unset, .unset, .unset, .unset, .unset] [(.int (9 : Int32)), (.int (k2 &&& (2147483647 : Int32)))])) _
      refine XS.iload X0.here hx rfl (hb hby at_14) rfl ?_
      show Steps p.tables e below (s₁.setTop (mkF m 16 #[.val (.int k1), .val (.int k2), .val (.int k3), .val (.long k4), .second, .val (.int k5), .val (.int k6), .val (.int (1 : Int32)), .unset, .unset, .unset, .unset, .unset, .unset, .unset, .unset, .unset, .unset] [(.int (1 : Int32)), (.int (9 : Int32)), (.int (k2 &&& (2147483647 : Int32)))])) _
      refine XS.isub X0.here hx rfl (hb hby at_16) rfl ?_
      show Steps p.tables e below (s₁.setTop (mkF m 17 #[.val (.int k1), .val (.int k2), .val (.int k3), .val (.long k4), .second, .val (.int k5), .val (.int k6), .val (.int (1 : Int32)), .unset, .unset, .unset, .unset, .unset, .unset, .unset, .unset, .unset, .unset] [(.int (8 : Int32)), (.int (k2 &&& (2147483647 : Int32)))])) _
      refine iremM X0 hx rfl (hb hby at_17) rfl (by decide : ¬ ((8 : Int32) = (0 : Int32))) ?_
      show Steps p.tables e below (s₁.setTop (mkF m 18 #[.val (.int k1), .val (.int k2), .val (.int k3), .val (.long k4), .second, .val (.int k5), .val (.int k6), .val (.int (1 : Int32)), .unset, .unset, .unset, .unset, .unset, .unset, .unset, .unset, .unset, .unset] [(.int ((k2 &&& (2147483647 : Int32)) % (8 : Int32)))])) _
      refine XS.istore X0.here hx rfl (hb hby at_18) rfl (l' := #[.val (.int k1), .val (.int k2), .val (.int k3), .val (.long k4), .second, .val (.int k5), .val (.int k6), .val (.int (1 : Int32)), .val (.int v18), .unset, .unset, .unset, .unset, .unset, .unset, .unset, .unset, .unset]) (by rw [hv18]; rfl) ?_
      show Steps p.tables e below (s₁.setTop (mkF m 20 #[.val (.int k1), .val (.int k2), .val (.int k3), .val (.long k4), .second, .val (.int k5), .val (.int k6), .val (.int (1 : Int32)), .val (.int v18), .unset, .unset, .unset, .unset, .unset, .unset, .unset, .unset, .unset] [])) _
      refine XS.iload X0.here hx rfl (hb hby at_20) rfl ?_
      show Steps p.tables e below (s₁.setTop (mkF m 22 #[.val (.int k1), .val (.int k2), .val (.int k3), .val (.long k4), .second, .val (.int k5), .val (.int k6), .val (.int (1 : Int32)), .val (.int v18), .unset, .unset, .unset, .unset, .unset, .unset, .unset, .unset, .unset] [(.int (1 : Int32))])) _
      refine st116 _ ?_
      show Steps p.tables e below (T116.setTop (mkF m 24 #[.val (.int k1), .val (.int k2), .val (.int k3), .val (.long k4), .second, .val (.int k5), .val (.int k6), .val (.int (1 : Int32)), .val (.int v18), .unset, .unset, .unset, .unset, .unset, .unset, .unset, .unset, .unset] [(.ref b116)])) _
      refine XS.astore X116.here hx rfl (hb hby at_24) rfl rfl (l' := #[.val (.int k1), .val (.int k2), .val (.int k3), .val (.long k4), .second, .val (.int k5), .val (.int k6), .val (.int (1 : Int32)), .val (.int v18), .val (.ref b116), .unset, .unset, .unset, .unset, .unset, .unset, .unset, .unset]) rfl ?_
      show Steps p.tables e below (T116.setTop (mkF m 26 #[.val (.int k1), .val (.int k2), .val (.int k3), .val (.long k4), .second, .val (.int k5), .val (.int k6), .val (.int (1 : Int32)), .val (.int v18), .val (.ref b116), .unset, .unset, .unset, .unset, .unset, .unset, .unset, .unset] [])) _
      refine XS.iload X116.here hx rfl (hb hby at_26) rfl ?_
      show Steps p.tables e below (T116.setTop (mkF m 28 #[.val (.int k1), .val (.int k2), .val (.int k3), .val (.long k4), .second, .val (.int k5), .val (.int k6), .val (.int (1 : Int32)), .val (.int v18), .val (.ref b116), .unset, .unset, .unset, .unset, .unset, .unset, .unset, .unset] [(.int (1 : Int32))])) _
      refine XS.ifNo X116.here hx rfl (hb hby at_28) rfl ((if0 _ _).trans (tlt (by decide)).2.2.2) ?_
      show Steps p.tables e below (T116.setTop (mkF m 31 #[.val (.int k1), .val (.int k2), .val (.int k3), .val (.long k4), .second, .val (.int k5), .val (.int k6), .val (.int (1 : Int32)), .val (.int v18), .val (.ref b116), .unset, .unset, .unset, .unset, .unset, .unset, .unset, .unset] [])) _
      refine XS.aload X116.here hx rfl (hb hby at_31) rfl rfl ?_
      show Steps p.tables e below (T116.setTop (mkF m 33 #[.val (.int k1), .val (.int k2), .val (.int k3), .val (.long k4), .second, .val (.int k5), .val (.int k6), .val (.int (1 : Int32)), .val (.int v18), .val (.ref b116), .unset, .unset, .unset, .unset, .unset, .unset, .unset, .unset] [(.ref b116)])) _
      refine XS.iconst X116.here hx rfl (hb hby at_33) ?_
      show Steps p.tables e below (T116.setTop (mkF m 34 #[.val (.int k1), .val (.int k2), .val (.int k3), .val (.long k4), .second, .val (.int k5), .val (.int k6), .val (.int (1 : Int32)), .val (.int v18), .val (.ref b116), .unset, .unset, .unset, .unset, .unset, .unset, .unset, .unset] [(.int (0 : Int32)), (.ref b116)])) _
      refine XS.iloadN X116.here hx rfl (hb hby at_34) rfl ?_
      show Steps p.tables e below (T116.setTop (mkF m 35 #[.val (.int k1), .val (.int k2), .val (.int k3), .val (.long k4), .second, .val (.int k5), .val (.int k6), .val (.int (1 : Int32)), .val (.int v18), .val (.ref b116), .unset, .unset, .unset, .unset, .unset, .unset, .unset, .unset] [(.int k3), (.int (0 : Int32)), (.ref b116)])) _
      refine XS.i2b X116.here hx rfl (hb hby at_35) rfl ?_
      show Steps p.tables e below (T116.setTop (mkF m 36 #[.val (.int k1), .val (.int k2), .val (.int k3), .val (.long k4), .second, .val (.int k5), .val (.int k6), .val (.int (1 : Int32)), .val (.int v18), .val (.ref b116), .unset, .unset, .unset, .unset, .unset, .unset, .unset, .unset] [(.int (k3.toInt8.toInt32)), (.int (0 : Int32)), (.ref b116)])) _
      refine st121 _ ?_
      show Steps p.tables e below (T121.setTop (mkF m 37 #[.val (.int k1), .val (.int k2), .val (.int k3), .val (.long k4), .second, .val (.int k5), .val (.int k6), .val (.int (1 : Int32)), .val (.int v18), .val (.ref b116), .unset, .unset, .unset, .unset, .unset, .unset, .unset, .unset] [])) _
      refine XS.iload X121.here hx rfl (hb hby at_37) rfl ?_
      show Steps p.tables e below (T121.setTop (mkF m 39 #[.val (.int k1), .val (.int k2), .val (.int k3), .val (.long k4), .second, .val (.int k5), .val (.int k6), .val (.int (1 : Int32)), .val (.int v18), .val (.ref b116), .unset, .unset, .unset, .unset, .unset, .unset, .unset, .unset] [(.int (1 : Int32))])) _
      refine XS.iconst X121.here hx rfl (hb hby at_39) ?_
      show Steps p.tables e below (T121.setTop (mkF m 40 #[.val (.int k1), .val (.int k2), .val (.int k3), .val (.long k4), .second, .val (.int k5), .val (.int k6), .val (.int (1 : Int32)), .val (.int v18), .val (.ref b116), .unset, .unset, .unset, .unset, .unset, .unset, .unset, .unset] [(.int (1 : Int32)), (.int (1 : Int32))])) _
      refine XS.icmpYes X121.here hx rfl (pc0 := 40) (pc' := 52) rfl (hb hby at_40) rfl (flt (by decide)).2.2.2 (by decide) (by decide) ?_
      show Steps p.tables e below (T121.setTop (mkF m 52 #[.val (.int k1), .val (.int k2), .val (.int k3), .val (.long k4), .second, .val (.int k5), .val (.int k6), .val (.int (1 : Int32)), .val (.int v18), .val (.ref b116), .unset, .unset, .unset, .unset, .unset, .unset, .unset, .unset] [])) _
      refine XS.iload X121.here hx rfl (hb hby at_52) rfl ?_
      show Steps p.tables e below (T121.setTop (mkF m 54 #[.val (.int k1), .val (.int k2), .val (.int k3), .val (.long k4), .second, .val (.int k5), .val (.int k6), .val (.int (1 : Int32)), .val (.int v18), .val (.ref b116), .unset, .unset, .unset, .unset, .unset, .unset, .unset, .unset] [(.int (1 : Int32))])) _
      refine XS.iconst X121.here hx rfl (hb hby at_54) ?_
      show Steps p.tables e below (T121.setTop (mkF m 55 #[.val (.int k1), .val (.int k2), .val (.int k3), .val (.long k4), .second, .val (.int k5), .val (.int k6), .val (.int (1 : Int32)), .val (.int v18), .val (.ref b116), .unset, .unset, .unset, .unset, .unset, .unset, .unset, .unset] [(.int (2 : Int32)), (.int (1 : Int32))])) _
      refine XS.icmpYes X121.here hx rfl (pc0 := 55) (pc' := 67) rfl (hb hby at_55) rfl (flt (by decide)).2.2.2 (by decide) (by decide) ?_
      show Steps p.tables e below (T121.setTop (mkF m 67 #[.val (.int k1), .val (.int k2), .val (.int k3), .val (.long k4), .second, .val (.int k5), .val (.int k6), .val (.int (1 : Int32)), .val (.int v18), .val (.ref b116), .unset, .unset, .unset, .unset, .unset, .unset, .unset, .unset] [])) _
      refine XS.iload X121.here hx rfl (hb hby at_67) rfl ?_
      show Steps p.tables e below (T121.setTop (mkF m 69 #[.val (.int k1), .val (.int k2), .val (.int k3), .val (.long k4), .second, .val (.int k5), .val (.int k6), .val (.int (1 : Int32)), .val (.int v18), .val (.ref b116), .unset, .unset, .unset, .unset, .unset, .unset, .unset, .unset] [(.int (1 : Int32))])) _
      refine XS.iconst X121.here hx rfl (hb hby at_69) ?_
      show Steps p.tables e below (T121.setTop (mkF m 70 #[.val (.int k1), .val (.int k2), .val (.int k3), .val (.long k4), .second, .val (.int k5), .val (.int k6), .val (.int (1 : Int32)), .val (.int v18), .val (.ref b116), .unset, .unset, .unset, .unset, .unset, .unset, .unset, .unset] [(.int (3 : Int32)), (.int (1 : Int32))])) _
      refine XS.icmpYes X121.here hx rfl (pc0 := 70) (pc' := 82) rfl (hb hby at_70) rfl (flt (by decide)).2.2.2 (by decide) (by decide) ?_
      show Steps p.tables e below (T121.setTop (mkF m 82 #[.val (.int k1), .val (.int k2), .val (.int k3), .val (.long k4), .second, .val (.int k5), .val (.int k6), .val (.int (1 : Int32)), .val (.int v18), .val (.ref b116), .unset, .unset, .unset, .unset, .unset, .unset, .unset, .unset] [])) _
      refine XS.bipush X121.here hx rfl (hb hby at_82) ?_
      show Steps p.tables e below (T121.setTop (mkF m 84 #[.val (.int k1), .val (.int k2), .val (.int k3), .val (.long k4), .second, .val (.int k5), .val (.int k6), .val (.int (1 : Int32)), .val (.int v18), .val (.ref b116), .unset, .unset, .unset, .unset, .unset, .unset, .unset, .unset] [(.int (8 : Int32))])) _
      refine st126 _ ?_
      show Steps p.tables e below (T126.setTop (mkF m 86 #[.val (.int k1), .val (.int k2), .val (.int k3), .val (.long k4), .second, .val (.int k5), .val (.int k6), .val (.int (1 : Int32)), .val (.int v18), .val (.ref b116), .unset, .unset, .unset, .unset, .unset, .unset, .unset, .unset] [(.ref b126)])) _
      refine XS.astore X126.here hx rfl (hb hby at_86) rfl rfl (l' := #[.val (.int k1), .val (.int k2), .val (.int k3), .val (.long k4), .second, .val (.int k5), .val (.int k6), .val (.int (1 : Int32)), .val (.int v18), .val (.ref b116), .val (.ref b126), .unset, .unset, .unset, .unset, .unset, .unset, .unset]) rfl ?_
      show Steps p.tables e below (T126.setTop (mkF m 88 #[.val (.int k1), .val (.int k2), .val (.int k3), .val (.long k4), .second, .val (.int k5), .val (.int k6), .val (.int (1 : Int32)), .val (.int v18), .val (.ref b116), .val (.ref b126), .unset, .unset, .unset, .unset, .unset, .unset, .unset] [])) _
      refine XS.aload X126.here hx rfl (hb hby at_88) rfl rfl ?_
      show Steps p.tables e below (T126.setTop (mkF m 90 #[.val (.int k1), .val (.int k2), .val (.int k3), .val (.long k4), .second, .val (.int k5), .val (.int k6), .val (.int (1 : Int32)), .val (.int v18), .val (.ref b116), .val (.ref b126), .unset, .unset, .unset, .unset, .unset, .unset, .unset] [(.ref b126)])) _
      refine XS.iconst X126.here hx rfl (hb hby at_90) ?_
      show Steps p.tables e below (T126.setTop (mkF m 91 #[.val (.int k1), .val (.int k2), .val (.int k3), .val (.long k4), .second, .val (.int k5), .val (.int k6), .val (.int (1 : Int32)), .val (.int v18), .val (.ref b116), .val (.ref b126), .unset, .unset, .unset, .unset, .unset, .unset, .unset] [(.int (0 : Int32)), (.ref b126)])) _
      refine XS.lloadN X126.here hx rfl (hb hby at_91) rfl ?_
      show Steps p.tables e below (T126.setTop (mkF m 92 #[.val (.int k1), .val (.int k2), .val (.int k3), .val (.long k4), .second, .val (.int k5), .val (.int k6), .val (.int (1 : Int32)), .val (.int v18), .val (.ref b116), .val (.ref b126), .unset, .unset, .unset, .unset, .unset, .unset, .unset] [(.long k4), (.int (0 : Int32)), (.ref b126)])) _
      refine XS.l2i X126.here hx rfl (hb hby at_92) rfl ?_
      show Steps p.tables e below (T126.setTop (mkF m 93 #[.val (.int k1), .val (.int k2), .val (.int k3), .val (.long k4), .second, .val (.int k5), .val (.int k6), .val (.int (1 : Int32)), .val (.int v18), .val (.ref b116), .val (.ref b126), .unset, .unset, .unset, .unset, .unset, .unset, .unset] [(.int (k4.toInt32)), (.int (0 : Int32)), (.ref b126)])) _
      refine XS.i2b X126.here hx rfl (hb hby at_93) rfl ?_
      show Steps p.tables e below (T126.setTop (mkF m 94 #[.val (.int k1), .val (.int k2), .val (.int k3), .val (.long k4), .second, .val (.int k5), .val (.int k6), .val (.int (1 : Int32)), .val (.int v18), .val (.ref b116), .val (.ref b126), .unset, .unset, .unset, .unset, .unset, .unset, .unset] [(.int ((k4.toInt32).toInt8.toInt32)), (.int (0 : Int32)), (.ref b126)])) _
      refine st132 _ ?_
      show Steps p.tables e below (T132.setTop (mkF m 95 #[.val (.int k1), .val (.int k2), .val (.int k3), .val (.long k4), .second, .val (.int k5), .val (.int k6), .val (.int (1 : Int32)), .val (.int v18), .val (.ref b116), .val (.ref b126), .unset, .unset, .unset, .unset, .unset, .unset, .unset] [])) _
      refine XS.aload X132.here hx rfl (hb hby at_95) rfl rfl ?_
      show Steps p.tables e below (T132.setTop (mkF m 97 #[.val (.int k1), .val (.int k2), .val (.int k3), .val (.long k4), .second, .val (.int k5), .val (.int k6), .val (.int (1 : Int32)), .val (.int v18), .val (.ref b116), .val (.ref b126), .unset, .unset, .unset, .unset, .unset, .unset, .unset] [(.ref b126)])) _
      refine XS.iconst X132.here hx rfl (hb hby at_97) ?_
      show Steps p.tables e below (T132.setTop (mkF m 98 #[.val (.int k1), .val (.int k2), .val (.int k3), .val (.long k4), .second, .val (.int k5), .val (.int k6), .val (.int (1 : Int32)), .val (.int v18), .val (.ref b116), .val (.ref b126), .unset, .unset, .unset, .unset, .unset, .unset, .unset] [(.int (1 : Int32)), (.ref b126)])) _
      refine XS.lloadN X132.here hx rfl (hb hby at_98) rfl ?_
      show Steps p.tables e below (T132.setTop (mkF m 99 #[.val (.int k1), .val (.int k2), .val (.int k3), .val (.long k4), .second, .val (.int k5), .val (.int k6), .val (.int (1 : Int32)), .val (.int v18), .val (.ref b116), .val (.ref b126), .unset, .unset, .unset, .unset, .unset, .unset, .unset] [(.long k4), (.int (1 : Int32)), (.ref b126)])) _
      refine XS.bipush X132.here hx rfl (hb hby at_99) ?_
      show Steps p.tables e below (T132.setTop (mkF m 101 #[.val (.int k1), .val (.int k2), .val (.int k3), .val (.long k4), .second, .val (.int k5), .val (.int k6), .val (.int (1 : Int32)), .val (.int v18), .val (.ref b116), .val (.ref b126), .unset, .unset, .unset, .unset, .unset, .unset, .unset] [(.int (8 : Int32)), (.long k4), (.int (1 : Int32)), (.ref b126)])) _
      refine XS.lshr X132.here hx rfl (hb hby at_101) rfl ?_
      show Steps p.tables e below (T132.setTop (mkF m 102 #[.val (.int k1), .val (.int k2), .val (.int k3), .val (.long k4), .second, .val (.int k5), .val (.int k6), .val (.int (1 : Int32)), .val (.int v18), .val (.ref b116), .val (.ref b126), .unset, .unset, .unset, .unset, .unset, .unset, .unset] [(.long (k4 >>> ((8 : Int32) &&& 0x3f).toInt64)), (.int (1 : Int32)), (.ref b126)])) _
      refine XS.l2i X132.here hx rfl (hb hby at_102) rfl ?_
      show Steps p.tables e below (T132.setTop (mkF m 103 #[.val (.int k1), .val (.int k2), .val (.int k3), .val (.long k4), .second, .val (.int k5), .val (.int k6), .val (.int (1 : Int32)), .val (.int v18), .val (.ref b116), .val (.ref b126), .unset, .unset, .unset, .unset, .unset, .unset, .unset] [(.int ((k4 >>> ((8 : Int32) &&& 0x3f).toInt64).toInt32)), (.int (1 : Int32)), (.ref b126)])) _
      refine XS.i2b X132.here hx rfl (hb hby at_103) rfl ?_
      show Steps p.tables e below (T132.setTop (mkF m 104 #[.val (.int k1), .val (.int k2), .val (.int k3), .val (.long k4), .second, .val (.int k5), .val (.int k6), .val (.int (1 : Int32)), .val (.int v18), .val (.ref b116), .val (.ref b126), .unset, .unset, .unset, .unset, .unset, .unset, .unset] [(.int (((k4 >>> ((8 : Int32) &&& 0x3f).toInt64).toInt32).toInt8.toInt32)), (.int (1 : Int32)), (.ref b126)])) _
      refine st138 _ ?_
      show Steps p.tables e below (T138.setTop (mkF m 105 #[.val (.int k1), .val (.int k2), .val (.int k3), .val (.long k4), .second, .val (.int k5), .val (.int k6), .val (.int (1 : Int32)), .val (.int v18), .val (.ref b116), .val (.ref b126), .unset, .unset, .unset, .unset, .unset, .unset, .unset] [])) _
      refine XS.aload X138.here hx rfl (hb hby at_105) rfl rfl ?_
      show Steps p.tables e below (T138.setTop (mkF m 107 #[.val (.int k1), .val (.int k2), .val (.int k3), .val (.long k4), .second, .val (.int k5), .val (.int k6), .val (.int (1 : Int32)), .val (.int v18), .val (.ref b116), .val (.ref b126), .unset, .unset, .unset, .unset, .unset, .unset, .unset] [(.ref b126)])) _
      refine XS.iconst X138.here hx rfl (hb hby at_107) ?_
      show Steps p.tables e below (T138.setTop (mkF m 108 #[.val (.int k1), .val (.int k2), .val (.int k3), .val (.long k4), .second, .val (.int k5), .val (.int k6), .val (.int (1 : Int32)), .val (.int v18), .val (.ref b116), .val (.ref b126), .unset, .unset, .unset, .unset, .unset, .unset, .unset] [(.int (2 : Int32)), (.ref b126)])) _
      refine XS.lloadN X138.here hx rfl (hb hby at_108) rfl ?_
      show Steps p.tables e below (T138.setTop (mkF m 109 #[.val (.int k1), .val (.int k2), .val (.int k3), .val (.long k4), .second, .val (.int k5), .val (.int k6), .val (.int (1 : Int32)), .val (.int v18), .val (.ref b116), .val (.ref b126), .unset, .unset, .unset, .unset, .unset, .unset, .unset] [(.long k4), (.int (2 : Int32)), (.ref b126)])) _
      refine XS.bipush X138.here hx rfl (hb hby at_109) ?_
      show Steps p.tables e below (T138.setTop (mkF m 111 #[.val (.int k1), .val (.int k2), .val (.int k3), .val (.long k4), .second, .val (.int k5), .val (.int k6), .val (.int (1 : Int32)), .val (.int v18), .val (.ref b116), .val (.ref b126), .unset, .unset, .unset, .unset, .unset, .unset, .unset] [(.int (16 : Int32)), (.long k4), (.int (2 : Int32)), (.ref b126)])) _
      refine XS.lshr X138.here hx rfl (hb hby at_111) rfl ?_
      show Steps p.tables e below (T138.setTop (mkF m 112 #[.val (.int k1), .val (.int k2), .val (.int k3), .val (.long k4), .second, .val (.int k5), .val (.int k6), .val (.int (1 : Int32)), .val (.int v18), .val (.ref b116), .val (.ref b126), .unset, .unset, .unset, .unset, .unset, .unset, .unset] [(.long (k4 >>> ((16 : Int32) &&& 0x3f).toInt64)), (.int (2 : Int32)), (.ref b126)])) _
      refine XS.l2i X138.here hx rfl (hb hby at_112) rfl ?_
      show Steps p.tables e below (T138.setTop (mkF m 113 #[.val (.int k1), .val (.int k2), .val (.int k3), .val (.long k4), .second, .val (.int k5), .val (.int k6), .val (.int (1 : Int32)), .val (.int v18), .val (.ref b116), .val (.ref b126), .unset, .unset, .unset, .unset, .unset, .unset, .unset] [(.int ((k4 >>> ((16 : Int32) &&& 0x3f).toInt64).toInt32)), (.int (2 : Int32)), (.ref b126)])) _
      refine XS.i2b X138.here hx rfl (hb hby at_113) rfl ?_
      show Steps p.tables e below (T138.setTop (mkF m 114 #[.val (.int k1), .val (.int k2), .val (.int k3), .val (.long k4), .second, .val (.int k5), .val (.int k6), .val (.int (1 : Int32)), .val (.int v18), .val (.ref b116), .val (.ref b126), .unset, .unset, .unset, .unset, .unset, .unset, .unset] [(.int (((k4 >>> ((16 : Int32) &&& 0x3f).toInt64).toInt32).toInt8.toInt32)), (.int (2 : Int32)), (.ref b126)])) _
      refine st144 _ ?_
      show Steps p.tables e below (T144.setTop (mkF m 115 #[.val (.int k1), .val (.int k2), .val (.int k3), .val (.long k4), .second, .val (.int k5), .val (.int k6), .val (.int (1 : Int32)), .val (.int v18), .val (.ref b116), .val (.ref b126), .unset, .unset, .unset, .unset, .unset, .unset, .unset] [])) _
      refine XS.aload X144.here hx rfl (hb hby at_115) rfl rfl ?_
      show Steps p.tables e below (T144.setTop (mkF m 117 #[.val (.int k1), .val (.int k2), .val (.int k3), .val (.long k4), .second, .val (.int k5), .val (.int k6), .val (.int (1 : Int32)), .val (.int v18), .val (.ref b116), .val (.ref b126), .unset, .unset, .unset, .unset, .unset, .unset, .unset] [(.ref b126)])) _
      refine XS.iconst X144.here hx rfl (hb hby at_117) ?_
      show Steps p.tables e below (T144.setTop (mkF m 118 #[.val (.int k1), .val (.int k2), .val (.int k3), .val (.long k4), .second, .val (.int k5), .val (.int k6), .val (.int (1 : Int32)), .val (.int v18), .val (.ref b116), .val (.ref b126), .unset, .unset, .unset, .unset, .unset, .unset, .unset] [(.int (3 : Int32)), (.ref b126)])) _
      refine XS.lloadN X144.here hx rfl (hb hby at_118) rfl ?_
      show Steps p.tables e below (T144.setTop (mkF m 119 #[.val (.int k1), .val (.int k2), .val (.int k3), .val (.long k4), .second, .val (.int k5), .val (.int k6), .val (.int (1 : Int32)), .val (.int v18), .val (.ref b116), .val (.ref b126), .unset, .unset, .unset, .unset, .unset, .unset, .unset] [(.long k4), (.int (3 : Int32)), (.ref b126)])) _
      refine XS.bipush X144.here hx rfl (hb hby at_119) ?_
      show Steps p.tables e below (T144.setTop (mkF m 121 #[.val (.int k1), .val (.int k2), .val (.int k3), .val (.long k4), .second, .val (.int k5), .val (.int k6), .val (.int (1 : Int32)), .val (.int v18), .val (.ref b116), .val (.ref b126), .unset, .unset, .unset, .unset, .unset, .unset, .unset] [(.int (24 : Int32)), (.long k4), (.int (3 : Int32)), (.ref b126)])) _
      refine XS.lshr X144.here hx rfl (hb hby at_121) rfl ?_
      show Steps p.tables e below (T144.setTop (mkF m 122 #[.val (.int k1), .val (.int k2), .val (.int k3), .val (.long k4), .second, .val (.int k5), .val (.int k6), .val (.int (1 : Int32)), .val (.int v18), .val (.ref b116), .val (.ref b126), .unset, .unset, .unset, .unset, .unset, .unset, .unset] [(.long (k4 >>> ((24 : Int32) &&& 0x3f).toInt64)), (.int (3 : Int32)), (.ref b126)])) _
      refine XS.l2i X144.here hx rfl (hb hby at_122) rfl ?_
      show Steps p.tables e below (T144.setTop (mkF m 123 #[.val (.int k1), .val (.int k2), .val (.int k3), .val (.long k4), .second, .val (.int k5), .val (.int k6), .val (.int (1 : Int32)), .val (.int v18), .val (.ref b116), .val (.ref b126), .unset, .unset, .unset, .unset, .unset, .unset, .unset] [(.int ((k4 >>> ((24 : Int32) &&& 0x3f).toInt64).toInt32)), (.int (3 : Int32)), (.ref b126)])) _
      refine XS.i2b X144.here hx rfl (hb hby at_123) rfl ?_
      show Steps p.tables e below (T144.setTop (mkF m 124 #[.val (.int k1), .val (.int k2), .val (.int k3), .val (.long k4), .second, .val (.int k5), .val (.int k6), .val (.int (1 : Int32)), .val (.int v18), .val (.ref b116), .val (.ref b126), .unset, .unset, .unset, .unset, .unset, .unset, .unset] [(.int (((k4 >>> ((24 : Int32) &&& 0x3f).toInt64).toInt32).toInt8.toInt32)), (.int (3 : Int32)), (.ref b126)])) _
      refine st150 _ ?_
      show Steps p.tables e below (T150.setTop (mkF m 125 #[.val (.int k1), .val (.int k2), .val (.int k3), .val (.long k4), .second, .val (.int k5), .val (.int k6), .val (.int (1 : Int32)), .val (.int v18), .val (.ref b116), .val (.ref b126), .unset, .unset, .unset, .unset, .unset, .unset, .unset] [])) _
      refine XS.aload X150.here hx rfl (hb hby at_125) rfl rfl ?_
      show Steps p.tables e below (T150.setTop (mkF m 127 #[.val (.int k1), .val (.int k2), .val (.int k3), .val (.long k4), .second, .val (.int k5), .val (.int k6), .val (.int (1 : Int32)), .val (.int v18), .val (.ref b116), .val (.ref b126), .unset, .unset, .unset, .unset, .unset, .unset, .unset] [(.ref b126)])) _
      refine XS.iconst X150.here hx rfl (hb hby at_127) ?_
      show Steps p.tables e below (T150.setTop (mkF m 128 #[.val (.int k1), .val (.int k2), .val (.int k3), .val (.long k4), .second, .val (.int k5), .val (.int k6), .val (.int (1 : Int32)), .val (.int v18), .val (.ref b116), .val (.ref b126), .unset, .unset, .unset, .unset, .unset, .unset, .unset] [(.int (4 : Int32)), (.ref b126)])) _
      refine XS.lloadN X150.here hx rfl (hb hby at_128) rfl ?_
      show Steps p.tables e below (T150.setTop (mkF m 129 #[.val (.int k1), .val (.int k2), .val (.int k3), .val (.long k4), .second, .val (.int k5), .val (.int k6), .val (.int (1 : Int32)), .val (.int v18), .val (.ref b116), .val (.ref b126), .unset, .unset, .unset, .unset, .unset, .unset, .unset] [(.long k4), (.int (4 : Int32)), (.ref b126)])) _
      refine XS.bipush X150.here hx rfl (hb hby at_129) ?_
      show Steps p.tables e below (T150.setTop (mkF m 131 #[.val (.int k1), .val (.int k2), .val (.int k3), .val (.long k4), .second, .val (.int k5), .val (.int k6), .val (.int (1 : Int32)), .val (.int v18), .val (.ref b116), .val (.ref b126), .unset, .unset, .unset, .unset, .unset, .unset, .unset] [(.int (32 : Int32)), (.long k4), (.int (4 : Int32)), (.ref b126)])) _
      refine XS.lshr X150.here hx rfl (hb hby at_131) rfl ?_
      show Steps p.tables e below (T150.setTop (mkF m 132 #[.val (.int k1), .val (.int k2), .val (.int k3), .val (.long k4), .second, .val (.int k5), .val (.int k6), .val (.int (1 : Int32)), .val (.int v18), .val (.ref b116), .val (.ref b126), .unset, .unset, .unset, .unset, .unset, .unset, .unset] [(.long (k4 >>> ((32 : Int32) &&& 0x3f).toInt64)), (.int (4 : Int32)), (.ref b126)])) _
      refine XS.l2i X150.here hx rfl (hb hby at_132) rfl ?_
      show Steps p.tables e below (T150.setTop (mkF m 133 #[.val (.int k1), .val (.int k2), .val (.int k3), .val (.long k4), .second, .val (.int k5), .val (.int k6), .val (.int (1 : Int32)), .val (.int v18), .val (.ref b116), .val (.ref b126), .unset, .unset, .unset, .unset, .unset, .unset, .unset] [(.int ((k4 >>> ((32 : Int32) &&& 0x3f).toInt64).toInt32)), (.int (4 : Int32)), (.ref b126)])) _
      refine XS.i2b X150.here hx rfl (hb hby at_133) rfl ?_
      show Steps p.tables e below (T150.setTop (mkF m 134 #[.val (.int k1), .val (.int k2), .val (.int k3), .val (.long k4), .second, .val (.int k5), .val (.int k6), .val (.int (1 : Int32)), .val (.int v18), .val (.ref b116), .val (.ref b126), .unset, .unset, .unset, .unset, .unset, .unset, .unset] [(.int (((k4 >>> ((32 : Int32) &&& 0x3f).toInt64).toInt32).toInt8.toInt32)), (.int (4 : Int32)), (.ref b126)])) _
      refine st156 _ ?_
      show Steps p.tables e below (T156.setTop (mkF m 135 #[.val (.int k1), .val (.int k2), .val (.int k3), .val (.long k4), .second, .val (.int k5), .val (.int k6), .val (.int (1 : Int32)), .val (.int v18), .val (.ref b116), .val (.ref b126), .unset, .unset, .unset, .unset, .unset, .unset, .unset] [])) _
      refine XS.aload X156.here hx rfl (hb hby at_135) rfl rfl ?_
      show Steps p.tables e below (T156.setTop (mkF m 137 #[.val (.int k1), .val (.int k2), .val (.int k3), .val (.long k4), .second, .val (.int k5), .val (.int k6), .val (.int (1 : Int32)), .val (.int v18), .val (.ref b116), .val (.ref b126), .unset, .unset, .unset, .unset, .unset, .unset, .unset] [(.ref b126)])) _
      refine XS.iconst X156.here hx rfl (hb hby at_137) ?_
      show Steps p.tables e below (T156.setTop (mkF m 138 #[.val (.int k1), .val (.int k2), .val (.int k3), .val (.long k4), .second, .val (.int k5), .val (.int k6), .val (.int (1 : Int32)), .val (.int v18), .val (.ref b116), .val (.ref b126), .unset, .unset, .unset, .unset, .unset, .unset, .unset] [(.int (5 : Int32)), (.ref b126)])) _
      refine XS.lloadN X156.here hx rfl (hb hby at_138) rfl ?_
      show Steps p.tables e below (T156.setTop (mkF m 139 #[.val (.int k1), .val (.int k2), .val (.int k3), .val (.long k4), .second, .val (.int k5), .val (.int k6), .val (.int (1 : Int32)), .val (.int v18), .val (.ref b116), .val (.ref b126), .unset, .unset, .unset, .unset, .unset, .unset, .unset] [(.long k4), (.int (5 : Int32)), (.ref b126)])) _
      refine XS.bipush X156.here hx rfl (hb hby at_139) ?_
      show Steps p.tables e below (T156.setTop (mkF m 141 #[.val (.int k1), .val (.int k2), .val (.int k3), .val (.long k4), .second, .val (.int k5), .val (.int k6), .val (.int (1 : Int32)), .val (.int v18), .val (.ref b116), .val (.ref b126), .unset, .unset, .unset, .unset, .unset, .unset, .unset] [(.int (40 : Int32)), (.long k4), (.int (5 : Int32)), (.ref b126)])) _
      refine XS.lshr X156.here hx rfl (hb hby at_141) rfl ?_
      show Steps p.tables e below (T156.setTop (mkF m 142 #[.val (.int k1), .val (.int k2), .val (.int k3), .val (.long k4), .second, .val (.int k5), .val (.int k6), .val (.int (1 : Int32)), .val (.int v18), .val (.ref b116), .val (.ref b126), .unset, .unset, .unset, .unset, .unset, .unset, .unset] [(.long (k4 >>> ((40 : Int32) &&& 0x3f).toInt64)), (.int (5 : Int32)), (.ref b126)])) _
      refine XS.l2i X156.here hx rfl (hb hby at_142) rfl ?_
      show Steps p.tables e below (T156.setTop (mkF m 143 #[.val (.int k1), .val (.int k2), .val (.int k3), .val (.long k4), .second, .val (.int k5), .val (.int k6), .val (.int (1 : Int32)), .val (.int v18), .val (.ref b116), .val (.ref b126), .unset, .unset, .unset, .unset, .unset, .unset, .unset] [(.int ((k4 >>> ((40 : Int32) &&& 0x3f).toInt64).toInt32)), (.int (5 : Int32)), (.ref b126)])) _
      refine XS.i2b X156.here hx rfl (hb hby at_143) rfl ?_
      show Steps p.tables e below (T156.setTop (mkF m 144 #[.val (.int k1), .val (.int k2), .val (.int k3), .val (.long k4), .second, .val (.int k5), .val (.int k6), .val (.int (1 : Int32)), .val (.int v18), .val (.ref b116), .val (.ref b126), .unset, .unset, .unset, .unset, .unset, .unset, .unset] [(.int (((k4 >>> ((40 : Int32) &&& 0x3f).toInt64).toInt32).toInt8.toInt32)), (.int (5 : Int32)), (.ref b126)])) _
      refine st162 _ ?_
      show Steps p.tables e below (T162.setTop (mkF m 145 #[.val (.int k1), .val (.int k2), .val (.int k3), .val (.long k4), .second, .val (.int k5), .val (.int k6), .val (.int (1 : Int32)), .val (.int v18), .val (.ref b116), .val (.ref b126), .unset, .unset, .unset, .unset, .unset, .unset, .unset] [])) _
      refine XS.aload X162.here hx rfl (hb hby at_145) rfl rfl ?_
      show Steps p.tables e below (T162.setTop (mkF m 147 #[.val (.int k1), .val (.int k2), .val (.int k3), .val (.long k4), .second, .val (.int k5), .val (.int k6), .val (.int (1 : Int32)), .val (.int v18), .val (.ref b116), .val (.ref b126), .unset, .unset, .unset, .unset, .unset, .unset, .unset] [(.ref b126)])) _
      refine XS.bipush X162.here hx rfl (hb hby at_147) ?_
      show Steps p.tables e below (T162.setTop (mkF m 149 #[.val (.int k1), .val (.int k2), .val (.int k3), .val (.long k4), .second, .val (.int k5), .val (.int k6), .val (.int (1 : Int32)), .val (.int v18), .val (.ref b116), .val (.ref b126), .unset, .unset, .unset, .unset, .unset, .unset, .unset] [(.int (6 : Int32)), (.ref b126)])) _
      refine XS.lloadN X162.here hx rfl (hb hby at_149) rfl ?_
      show Steps p.tables e below (T162.setTop (mkF m 150 #[.val (.int k1), .val (.int k2), .val (.int k3), .val (.long k4), .second, .val (.int k5), .val (.int k6), .val (.int (1 : Int32)), .val (.int v18), .val (.ref b116), .val (.ref b126), .unset, .unset, .unset, .unset, .unset, .unset, .unset] [(.long k4), (.int (6 : Int32)), (.ref b126)])) _
      refine XS.bipush X162.here hx rfl (hb hby at_150) ?_
      show Steps p.tables e below (T162.setTop (mkF m 152 #[.val (.int k1), .val (.int k2), .val (.int k3), .val (.long k4), .second, .val (.int k5), .val (.int k6), .val (.int (1 : Int32)), .val (.int v18), .val (.ref b116), .val (.ref b126), .unset, .unset, .unset, .unset, .unset, .unset, .unset] [(.int (48 : Int32)), (.long k4), (.int (6 : Int32)), (.ref b126)])) _
      refine XS.lshr X162.here hx rfl (hb hby at_152) rfl ?_
      show Steps p.tables e below (T162.setTop (mkF m 153 #[.val (.int k1), .val (.int k2), .val (.int k3), .val (.long k4), .second, .val (.int k5), .val (.int k6), .val (.int (1 : Int32)), .val (.int v18), .val (.ref b116), .val (.ref b126), .unset, .unset, .unset, .unset, .unset, .unset, .unset] [(.long (k4 >>> ((48 : Int32) &&& 0x3f).toInt64)), (.int (6 : Int32)), (.ref b126)])) _
      refine XS.l2i X162.here hx rfl (hb hby at_153) rfl ?_
      show Steps p.tables e below (T162.setTop (mkF m 154 #[.val (.int k1), .val (.int k2), .val (.int k3), .val (.long k4), .second, .val (.int k5), .val (.int k6), .val (.int (1 : Int32)), .val (.int v18), .val (.ref b116), .val (.ref b126), .unset, .unset, .unset, .unset, .unset, .unset, .unset] [(.int ((k4 >>> ((48 : Int32) &&& 0x3f).toInt64).toInt32)), (.int (6 : Int32)), (.ref b126)])) _
      refine XS.i2b X162.here hx rfl (hb hby at_154) rfl ?_
      show Steps p.tables e below (T162.setTop (mkF m 155 #[.val (.int k1), .val (.int k2), .val (.int k3), .val (.long k4), .second, .val (.int k5), .val (.int k6), .val (.int (1 : Int32)), .val (.int v18), .val (.ref b116), .val (.ref b126), .unset, .unset, .unset, .unset, .unset, .unset, .unset] [(.int (((k4 >>> ((48 : Int32) &&& 0x3f).toInt64).toInt32).toInt8.toInt32)), (.int (6 : Int32)), (.ref b126)])) _
      refine st168 _ ?_
      show Steps p.tables e below (T168.setTop (mkF m 156 #[.val (.int k1), .val (.int k2), .val (.int k3), .val (.long k4), .second, .val (.int k5), .val (.int k6), .val (.int (1 : Int32)), .val (.int v18), .val (.ref b116), .val (.ref b126), .unset, .unset, .unset, .unset, .unset, .unset, .unset] [])) _
      refine XS.aload X168.here hx rfl (hb hby at_156) rfl rfl ?_
      show Steps p.tables e below (T168.setTop (mkF m 158 #[.val (.int k1), .val (.int k2), .val (.int k3), .val (.long k4), .second, .val (.int k5), .val (.int k6), .val (.int (1 : Int32)), .val (.int v18), .val (.ref b116), .val (.ref b126), .unset, .unset, .unset, .unset, .unset, .unset, .unset] [(.ref b126)])) _
      refine XS.bipush X168.here hx rfl (hb hby at_158) ?_
      show Steps p.tables e below (T168.setTop (mkF m 160 #[.val (.int k1), .val (.int k2), .val (.int k3), .val (.long k4), .second, .val (.int k5), .val (.int k6), .val (.int (1 : Int32)), .val (.int v18), .val (.ref b116), .val (.ref b126), .unset, .unset, .unset, .unset, .unset, .unset, .unset] [(.int (7 : Int32)), (.ref b126)])) _
      refine XS.lloadN X168.here hx rfl (hb hby at_160) rfl ?_
      show Steps p.tables e below (T168.setTop (mkF m 161 #[.val (.int k1), .val (.int k2), .val (.int k3), .val (.long k4), .second, .val (.int k5), .val (.int k6), .val (.int (1 : Int32)), .val (.int v18), .val (.ref b116), .val (.ref b126), .unset, .unset, .unset, .unset, .unset, .unset, .unset] [(.long k4), (.int (7 : Int32)), (.ref b126)])) _
      refine XS.bipush X168.here hx rfl (hb hby at_161) ?_
      show Steps p.tables e below (T168.setTop (mkF m 163 #[.val (.int k1), .val (.int k2), .val (.int k3), .val (.long k4), .second, .val (.int k5), .val (.int k6), .val (.int (1 : Int32)), .val (.int v18), .val (.ref b116), .val (.ref b126), .unset, .unset, .unset, .unset, .unset, .unset, .unset] [(.int (56 : Int32)), (.long k4), (.int (7 : Int32)), (.ref b126)])) _
      refine XS.lshr X168.here hx rfl (hb hby at_163) rfl ?_
      show Steps p.tables e below (T168.setTop (mkF m 164 #[.val (.int k1), .val (.int k2), .val (.int k3), .val (.long k4), .second, .val (.int k5), .val (.int k6), .val (.int (1 : Int32)), .val (.int v18), .val (.ref b116), .val (.ref b126), .unset, .unset, .unset, .unset, .unset, .unset, .unset] [(.long (k4 >>> ((56 : Int32) &&& 0x3f).toInt64)), (.int (7 : Int32)), (.ref b126)])) _
      refine XS.l2i X168.here hx rfl (hb hby at_164) rfl ?_
      show Steps p.tables e below (T168.setTop (mkF m 165 #[.val (.int k1), .val (.int k2), .val (.int k3), .val (.long k4), .second, .val (.int k5), .val (.int k6), .val (.int (1 : Int32)), .val (.int v18), .val (.ref b116), .val (.ref b126), .unset, .unset, .unset, .unset, .unset, .unset, .unset] [(.int ((k4 >>> ((56 : Int32) &&& 0x3f).toInt64).toInt32)), (.int (7 : Int32)), (.ref b126)])) _
      refine XS.i2b X168.here hx rfl (hb hby at_165) rfl ?_
      show Steps p.tables e below (T168.setTop (mkF m 166 #[.val (.int k1), .val (.int k2), .val (.int k3), .val (.long k4), .second, .val (.int k5), .val (.int k6), .val (.int (1 : Int32)), .val (.int v18), .val (.ref b116), .val (.ref b126), .unset, .unset, .unset, .unset, .unset, .unset, .unset] [(.int (((k4 >>> ((56 : Int32) &&& 0x3f).toInt64).toInt32).toInt8.toInt32)), (.int (7 : Int32)), (.ref b126)])) _
      refine st174 _ ?_
      show Steps p.tables e below (T174.setTop (mkF m 167 #[.val (.int k1), .val (.int k2), .val (.int k3), .val (.long k4), .second, .val (.int k5), .val (.int k6), .val (.int (1 : Int32)), .val (.int v18), .val (.ref b116), .val (.ref b126), .unset, .unset, .unset, .unset, .unset, .unset, .unset] [])) _
      refine XS.iload X174.here hx rfl (hb hby at_167) rfl ?_
      show Steps p.tables e below (T174.setTop (mkF m 169 #[.val (.int k1), .val (.int k2), .val (.int k3), .val (.long k4), .second, .val (.int k5), .val (.int k6), .val (.int (1 : Int32)), .val (.int v18), .val (.ref b116), .val (.ref b126), .unset, .unset, .unset, .unset, .unset, .unset, .unset] [(.int k6)])) _
      refine XS.iload X174.here hx rfl (hb hby at_169) rfl ?_
      show Steps p.tables e below (T174.setTop (mkF m 171 #[.val (.int k1), .val (.int k2), .val (.int k3), .val (.long k4), .second, .val (.int k5), .val (.int k6), .val (.int (1 : Int32)), .val (.int v18), .val (.ref b116), .val (.ref b126), .unset, .unset, .unset, .unset, .unset, .unset, .unset] [(.int k5), (.int k6)])) _
      refine XS.iconst X174.here hx rfl (hb hby at_171) ?_
      show Steps p.tables e below (T174.setTop (mkF m 172 #[.val (.int k1), .val (.int k2), .val (.int k3), .val (.long k4), .second, .val (.int k5), .val (.int k6), .val (.int (1 : Int32)), .val (.int v18), .val (.ref b116), .val (.ref b126), .unset, .unset, .unset, .unset, .unset, .unset, .unset] [(.int (0 : Int32)), (.int k5), (.int k6)])) _
      refine st180 _ ?_
      show Steps p.tables e below (T180.setTop (mkF m 175 #[.val (.int k1), .val (.int k2), .val (.int k3), .val (.long k4), .second, .val (.int k5), .val (.int k6), .val (.int (1 : Int32)), .val (.int v18), .val (.ref b116), .val (.ref b126), .unset, .unset, .unset, .unset, .unset, .unset, .unset] [(.int (own_f1 k6 k5 (0 : Int32)))])) _
      rw [← hr172]
      show Steps p.tables e below (T180.setTop (mkF m 175 #[.val (.int k1), .val (.int k2), .val (.int k3), .val (.long k4), .second, .val (.int k5), .val (.int k6), .val (.int (1 : Int32)), .val (.int v18), .val (.ref b116), .val (.ref b126), .unset, .unset, .unset, .unset, .unset, .unset, .unset] [(.int r172)])) _
      refine XS.istore X180.here hx rfl (hb hby at_175) rfl (l' := #[.val (.int k1), .val (.int k2), .val (.int k3), .val (.long k4), .second, .val (.int k5), .val (.int k6), .val (.int (1 : Int32)), .val (.int v18), .val (.ref b116), .val (.ref b126), .val (.int r172), .unset, .unset, .unset, .unset, .unset, .unset]) rfl ?_
      show Steps p.tables e below (T180.setTop (mkF m 177 #[.val (.int k1), .val (.int k2), .val (.int k3), .val (.long k4), .second, .val (.int k5), .val (.int k6), .val (.int (1 : Int32)), .val (.int v18), .val (.ref b116), .val (.ref b126), .val (.int r172), .unset, .unset, .unset, .unset, .unset, .unset] [])) _
      refine XS.iload X180.here hx rfl (hb hby at_177) rfl ?_
      show Steps p.tables e below (T180.setTop (mkF m 179 #[.val (.int k1), .val (.int k2), .val (.int k3), .val (.long k4), .second, .val (.int k5), .val (.int k6), .val (.int (1 : Int32)), .val (.int v18), .val (.ref b116), .val (.ref b126), .val (.int r172), .unset, .unset, .unset, .unset, .unset, .unset] [(.int k6)])) _
      refine XS.iload X180.here hx rfl (hb hby at_179) rfl ?_
      show Steps p.tables e below (T180.setTop (mkF m 181 #[.val (.int k1), .val (.int k2), .val (.int k3), .val (.long k4), .second, .val (.int k5), .val (.int k6), .val (.int (1 : Int32)), .val (.int v18), .val (.ref b116), .val (.ref b126), .val (.int r172), .unset, .unset, .unset, .unset, .unset, .unset] [(.int k5), (.int k6)])) _
      refine XS.iconst X180.here hx rfl (hb hby at_181) ?_
      show Steps p.tables e below (T180.setTop (mkF m 182 #[.val (.int k1), .val (.int k2), .val (.int k3), .val (.long k4), .second, .val (.int k5), .val (.int k6), .val (.int (1 : Int32)), .val (.int v18), .val (.ref b116), .val (.ref b126), .val (.int r172), .unset, .unset, .unset, .unset, .unset, .unset] [(.int (1 : Int32)), (.int k5), (.int k6)])) _
      refine st181 _ ?_
      show Steps p.tables e below (T181.setTop (mkF m 185 #[.val (.int k1), .val (.int k2), .val (.int k3), .val (.long k4), .second, .val (.int k5), .val (.int k6), .val (.int (1 : Int32)), .val (.int v18), .val (.ref b116), .val (.ref b126), .val (.int r172), .unset, .unset, .unset, .unset, .unset, .unset] [(.int (own_f1 k6 k5 (1 : Int32)))])) _
      rw [← hr182]
      show Steps p.tables e below (T181.setTop (mkF m 185 #[.val (.int k1), .val (.int k2), .val (.int k3), .val (.long k4), .second, .val (.int k5), .val (.int k6), .val (.int (1 : Int32)), .val (.int v18), .val (.ref b116), .val (.ref b126), .val (.int r172), .unset, .unset, .unset, .unset, .unset, .unset] [(.int r182)])) _
      refine XS.istore X181.here hx rfl (hb hby at_185) rfl (l' := #[.val (.int k1), .val (.int k2), .val (.int k3), .val (.long k4), .second, .val (.int k5), .val (.int k6), .val (.int (1 : Int32)), .val (.int v18), .val (.ref b116), .val (.ref b126), .val (.int r172), .val (.int r182), .unset, .unset, .unset, .unset, .unset]) rfl ?_
      show Steps p.tables e below (T181.setTop (mkF m 187 #[.val (.int k1), .val (.int k2), .val (.int k3), .val (.long k4), .second, .val (.int k5), .val (.int k6), .val (.int (1 : Int32)), .val (.int v18), .val (.ref b116), .val (.ref b126), .val (.int r172), .val (.int r182), .unset, .unset, .unset, .unset, .unset] [])) _
      refine XS.iload X181.here hx rfl (hb hby at_187) rfl ?_
      show Steps p.tables e below (T181.setTop (mkF m 189 #[.val (.int k1), .val (.int k2), .val (.int k3), .val (.long k4), .second, .val (.int k5), .val (.int k6), .val (.int (1 : Int32)), .val (.int v18), .val (.ref b116), .val (.ref b126), .val (.int r172), .val (.int r182), .unset, .unset, .unset, .unset, .unset] [(.int k6)])) _
      refine XS.iload X181.here hx rfl (hb hby at_189) rfl ?_
      show Steps p.tables e below (T181.setTop (mkF m 191 #[.val (.int k1), .val (.int k2), .val (.int k3), .val (.long k4), .second, .val (.int k5), .val (.int k6), .val (.int (1 : Int32)), .val (.int v18), .val (.ref b116), .val (.ref b126), .val (.int r172), .val (.int r182), .unset, .unset, .unset, .unset, .unset] [(.int k5), (.int k6)])) _
      refine XS.iconst X181.here hx rfl (hb hby at_191) ?_
      show Steps p.tables e below (T181.setTop (mkF m 192 #[.val (.int k1), .val (.int k2), .val (.int k3), .val (.long k4), .second, .val (.int k5), .val (.int k6), .val (.int (1 : Int32)), .val (.int v18), .val (.ref b116), .val (.ref b126), .val (.int r172), .val (.int r182), .unset, .unset, .unset, .unset, .unset] [(.int (2 : Int32)), (.int k5), (.int k6)])) _
      refine st182 _ ?_
      show Steps p.tables e below (T182.setTop (mkF m 195 #[.val (.int k1), .val (.int k2), .val (.int k3), .val (.long k4), .second, .val (.int k5), .val (.int k6), .val (.int (1 : Int32)), .val (.int v18), .val (.ref b116), .val (.ref b126), .val (.int r172), .val (.int r182), .unset, .unset, .unset, .unset, .unset] [(.int (own_f1 k6 k5 (2 : Int32)))])) _
      rw [← hr192]
      show Steps p.tables e below (T182.setTop (mkF m 195 #[.val (.int k1), .val (.int k2), .val (.int k3), .val (.long k4), .second, .val (.int k5), .val (.int k6), .val (.int (1 : Int32)), .val (.int v18), .val (.ref b116), .val (.ref b126), .val (.int r172), .val (.int r182), .unset, .unset, .unset, .unset, .unset] [(.int r192)])) _
      refine XS.istore X182.here hx rfl (hb hby at_195) rfl (l' := #[.val (.int k1), .val (.int k2), .val (.int k3), .val (.long k4), .second, .val (.int k5), .val (.int k6), .val (.int (1 : Int32)), .val (.int v18), .val (.ref b116), .val (.ref b126), .val (.int r172), .val (.int r182), .val (.int r192), .unset, .unset, .unset, .unset]) rfl ?_
      show Steps p.tables e below (T182.setTop (mkF m 197 #[.val (.int k1), .val (.int k2), .val (.int k3), .val (.long k4), .second, .val (.int k5), .val (.int k6), .val (.int (1 : Int32)), .val (.int v18), .val (.ref b116), .val (.ref b126), .val (.int r172), .val (.int r182), .val (.int r192), .unset, .unset, .unset, .unset] [])) _
      refine XS.iload X182.here hx rfl (hb hby at_197) rfl ?_
      show Steps p.tables e below (T182.setTop (mkF m 199 #[.val (.int k1), .val (.int k2), .val (.int k3), .val (.long k4), .second, .val (.int k5), .val (.int k6), .val (.int (1 : Int32)), .val (.int v18), .val (.ref b116), .val (.ref b126), .val (.int r172), .val (.int r182), .val (.int r192), .unset, .unset, .unset, .unset] [(.int k6)])) _
      refine XS.iload X182.here hx rfl (hb hby at_199) rfl ?_
      show Steps p.tables e below (T182.setTop (mkF m 201 #[.val (.int k1), .val (.int k2), .val (.int k3), .val (.long k4), .second, .val (.int k5), .val (.int k6), .val (.int (1 : Int32)), .val (.int v18), .val (.ref b116), .val (.ref b126), .val (.int r172), .val (.int r182), .val (.int r192), .unset, .unset, .unset, .unset] [(.int k5), (.int k6)])) _
      refine XS.iconst X182.here hx rfl (hb hby at_201) ?_
      show Steps p.tables e below (T182.setTop (mkF m 202 #[.val (.int k1), .val (.int k2), .val (.int k3), .val (.long k4), .second, .val (.int k5), .val (.int k6), .val (.int (1 : Int32)), .val (.int v18), .val (.ref b116), .val (.ref b126), .val (.int r172), .val (.int r182), .val (.int r192), .unset, .unset, .unset, .unset] [(.int (3 : Int32)), (.int k5), (.int k6)])) _
      refine st183 _ ?_
      show Steps p.tables e below (T183.setTop (mkF m 205 #[.val (.int k1), .val (.int k2), .val (.int k3), .val (.long k4), .second, .val (.int k5), .val (.int k6), .val (.int (1 : Int32)), .val (.int v18), .val (.ref b116), .val (.ref b126), .val (.int r172), .val (.int r182), .val (.int r192), .unset, .unset, .unset, .unset] [(.int (own_f1 k6 k5 (3 : Int32)))])) _
      rw [← hr202]
      show Steps p.tables e below (T183.setTop (mkF m 205 #[.val (.int k1), .val (.int k2), .val (.int k3), .val (.long k4), .second, .val (.int k5), .val (.int k6), .val (.int (1 : Int32)), .val (.int v18), .val (.ref b116), .val (.ref b126), .val (.int r172), .val (.int r182), .val (.int r192), .unset, .unset, .unset, .unset] [(.int r202)])) _
      refine XS.istore X183.here hx rfl (hb hby at_205) rfl (l' := #[.val (.int k1), .val (.int k2), .val (.int k3), .val (.long k4), .second, .val (.int k5), .val (.int k6), .val (.int (1 : Int32)), .val (.int v18), .val (.ref b116), .val (.ref b126), .val (.int r172), .val (.int r182), .val (.int r192), .val (.int r202), .unset, .unset, .unset]) rfl ?_
      show Steps p.tables e below (T183.setTop (mkF m 207 #[.val (.int k1), .val (.int k2), .val (.int k3), .val (.long k4), .second, .val (.int k5), .val (.int k6), .val (.int (1 : Int32)), .val (.int v18), .val (.ref b116), .val (.ref b126), .val (.int r172), .val (.int r182), .val (.int r192), .val (.int r202), .unset, .unset, .unset] [])) _
      refine XS.iload X183.here hx rfl (hb hby at_207) rfl ?_
      show Steps p.tables e below (T183.setTop (mkF m 209 #[.val (.int k1), .val (.int k2), .val (.int k3), .val (.long k4), .second, .val (.int k5), .val (.int k6), .val (.int (1 : Int32)), .val (.int v18), .val (.ref b116), .val (.ref b126), .val (.int r172), .val (.int r182), .val (.int r192), .val (.int r202), .unset, .unset, .unset] [(.int (1 : Int32))])) _
      refine XS.ifNo X183.here hx rfl (hb hby at_209) rfl ((if0 _ _).trans (tlt (by decide)).2.2.2) ?_
      show Steps p.tables e below (T183.setTop (mkF m 212 #[.val (.int k1), .val (.int k2), .val (.int k3), .val (.long k4), .second, .val (.int k5), .val (.int k6), .val (.int (1 : Int32)), .val (.int v18), .val (.ref b116), .val (.ref b126), .val (.int r172), .val (.int r182), .val (.int r192), .val (.int r202), .unset, .unset, .unset] [])) _
      refine XS.aload X183.here hx rfl (hb hby at_212) rfl rfl ?_
      show Steps p.tables e below (T183.setTop (mkF m 214 #[.val (.int k1), .val (.int k2), .val (.int k3), .val (.long k4), .second, .val (.int k5), .val (.int k6), .val (.int (1 : Int32)), .val (.int v18), .val (.ref b116), .val (.ref b126), .val (.int r172), .val (.int r182), .val (.int r192), .val (.int r202), .unset, .unset, .unset] [(.ref b126)])) _
      refine XS.iload X183.here hx rfl (hb hby at_214) rfl ?_
      show Steps p.tables e below (T183.setTop (mkF m 216 #[.val (.int k1), .val (.int k2), .val (.int k3), .val (.long k4), .second, .val (.int k5), .val (.int k6), .val (.int (1 : Int32)), .val (.int v18), .val (.ref b116), .val (.ref b126), .val (.int r172), .val (.int r182), .val (.int r192), .val (.int r202), .unset, .unset, .unset] [(.int v18), (.ref b126)])) _
      refine XS.aload X183.here hx rfl (hb hby at_216) rfl rfl ?_
      show Steps p.tables e below (T183.setTop (mkF m 218 #[.val (.int k1), .val (.int k2), .val (.int k3), .val (.long k4), .second, .val (.int k5), .val (.int k6), .val (.int (1 : Int32)), .val (.int v18), .val (.ref b116), .val (.ref b126), .val (.int r172), .val (.int r182), .val (.int r192), .val (.int r202), .unset, .unset, .unset] [(.ref b116), (.int v18), (.ref b126)])) _
      refine XS.iconst X183.here hx rfl (hb hby at_218) ?_
      show Steps p.tables e below (T183.setTop (mkF m 219 #[.val (.int k1), .val (.int k2), .val (.int k3), .val (.long k4), .second, .val (.int k5), .val (.int k6), .val (.int (1 : Int32)), .val (.int v18), .val (.ref b116), .val (.ref b126), .val (.int r172), .val (.int r182), .val (.int r192), .val (.int r202), .unset, .unset, .unset] [(.int (0 : Int32)), (.ref b116), (.int v18), (.ref b126)])) _
      refine X183.baloadBytes hx (j := (0 : Int32)) (v := (.int (nar .byte (k3.toInt8.toInt32)))) (heq_of e183 Ar184.1) (State.isArrayOf_alike hZ.alike Ar184.2.1) Ar184.2.2 hin184 hat184 (g := (mkF m 219 #[.val (.int k1), .val (.int k2), .val (.int k3), .val (.long k4), .second, .val (.int k5), .val (.int k6), .val (.int (1 : Int32)), .val (.int v18), .val (.ref b116), .val (.ref b126), .val (.int r172), .val (.int r182), .val (.int r192), .val (.int r202), .unset, .unset, .unset] [(.int (0 : Int32)), (.ref b116), (.int v18), (.ref b126)])) rfl rfl (hb hby at_219) _ ?_
      show Steps p.tables e below (T183.setTop (mkF m 220 #[.val (.int k1), .val (.int k2), .val (.int k3), .val (.long k4), .second, .val (.int k5), .val (.int k6), .val (.int (1 : Int32)), .val (.int v18), .val (.ref b116), .val (.ref b126), .val (.int r172), .val (.int r182), .val (.int r192), .val (.int r202), .unset, .unset, .unset] [(.int (nar .byte (k3.toInt8.toInt32))), (.int v18), (.ref b126)])) _
      refine XS.iload X183.here hx rfl (hb hby at_220) rfl ?_
      show Steps p.tables e below (T183.setTop (mkF m 222 #[.val (.int k1), .val (.int k2), .val (.int k3), .val (.long k4), .second, .val (.int k5), .val (.int k6), .val (.int (1 : Int32)), .val (.int v18), .val (.ref b116), .val (.ref b126), .val (.int r172), .val (.int r182), .val (.int r192), .val (.int r202), .unset, .unset, .unset] [(.int r172), (.int (nar .byte (k3.toInt8.toInt32))), (.int v18), (.ref b126)])) _
      refine XS.ixor X183.here hx rfl (hb hby at_222) rfl ?_
      show Steps p.tables e below (T183.setTop (mkF m 223 #[.val (.int k1), .val (.int k2), .val (.int k3), .val (.long k4), .second, .val (.int k5), .val (.int k6), .val (.int (1 : Int32)), .val (.int v18), .val (.ref b116), .val (.ref b126), .val (.int r172), .val (.int r182), .val (.int r192), .val (.int r202), .unset, .unset, .unset] [(.int ((nar .byte (k3.toInt8.toInt32)) ^^^ r172)), (.int v18), (.ref b126)])) _
      refine XS.i2b X183.here hx rfl (hb hby at_223) rfl ?_
      show Steps p.tables e below (T183.setTop (mkF m 224 #[.val (.int k1), .val (.int k2), .val (.int k3), .val (.long k4), .second, .val (.int k5), .val (.int k6), .val (.int (1 : Int32)), .val (.int v18), .val (.ref b116), .val (.ref b126), .val (.int r172), .val (.int r182), .val (.int r192), .val (.int r202), .unset, .unset, .unset] [(.int (((nar .byte (k3.toInt8.toInt32)) ^^^ r172).toInt8.toInt32)), (.int v18), (.ref b126)])) _
      refine st185 _ ?_
      show Steps p.tables e below (T185.setTop (mkF m 225 #[.val (.int k1), .val (.int k2), .val (.int k3), .val (.long k4), .second, .val (.int k5), .val (.int k6), .val (.int (1 : Int32)), .val (.int v18), .val (.ref b116), .val (.ref b126), .val (.int r172), .val (.int r182), .val (.int r192), .val (.int r202), .unset, .unset, .unset] [])) _
      refine XS.iload X185.here hx rfl (hb hby at_225) rfl ?_
      show Steps p.tables e below (T185.setTop (mkF m 227 #[.val (.int k1), .val (.int k2), .val (.int k3), .val (.long k4), .second, .val (.int k5), .val (.int k6), .val (.int (1 : Int32)), .val (.int v18), .val (.ref b116), .val (.ref b126), .val (.int r172), .val (.int r182), .val (.int r192), .val (.int r202), .unset, .unset, .unset] [(.int (1 : Int32))])) _
      refine XS.iconst X185.here hx rfl (hb hby at_227) ?_
      show Steps p.tables e below (T185.setTop (mkF m 228 #[.val (.int k1), .val (.int k2), .val (.int k3), .val (.long k4), .second, .val (.int k5), .val (.int k6), .val (.int (1 : Int32)), .val (.int v18), .val (.ref b116), .val (.ref b126), .val (.int r172), .val (.int r182), .val (.int r192), .val (.int r202), .unset, .unset, .unset] [(.int (1 : Int32)), (.int (1 : Int32))])) _
      refine XS.icmpYes X185.here hx rfl (pc0 := 228) (pc' := 246) rfl (hb hby at_228) rfl (flt (by decide)).2.2.2 (by decide) (by decide) ?_
      show Steps p.tables e below (T185.setTop (mkF m 246 #[.val (.int k1), .val (.int k2), .val (.int k3), .val (.long k4), .second, .val (.int k5), .val (.int k6), .val (.int (1 : Int32)), .val (.int v18), .val (.ref b116), .val (.ref b126), .val (.int r172), .val (.int r182), .val (.int r192), .val (.int r202), .unset, .unset, .unset] [])) _
      refine XS.iload X185.here hx rfl (hb hby at_246) rfl ?_
      show Steps p.tables e below (T185.setTop (mkF m 248 #[.val (.int k1), .val (.int k2), .val (.int k3), .val (.long k4), .second, .val (.int k5), .val (.int k6), .val (.int (1 : Int32)), .val (.int v18), .val (.ref b116), .val (.ref b126), .val (.int r172), .val (.int r182), .val (.int r192), .val (.int r202), .unset, .unset, .unset] [(.int (1 : Int32))])) _
      refine XS.iconst X185.here hx rfl (hb hby at_248) ?_
      show Steps p.tables e below (T185.setTop (mkF m 249 #[.val (.int k1), .val (.int k2), .val (.int k3), .val (.long k4), .second, .val (.int k5), .val (.int k6), .val (.int (1 : Int32)), .val (.int v18), .val (.ref b116), .val (.ref b126), .val (.int r172), .val (.int r182), .val (.int r192), .val (.int r202), .unset, .unset, .unset] [(.int (2 : Int32)), (.int (1 : Int32))])) _
      refine XS.icmpYes X185.here hx rfl (pc0 := 249) (pc' := 267) rfl (hb hby at_249) rfl (flt (by decide)).2.2.2 (by decide) (by decide) ?_
      show Steps p.tables e below (T185.setTop (mkF m 267 #[.val (.int k1), .val (.int k2), .val (.int k3), .val (.long k4), .second, .val (.int k5), .val (.int k6), .val (.int (1 : Int32)), .val (.int v18), .val (.ref b116), .val (.ref b126), .val (.int r172), .val (.int r182), .val (.int r192), .val (.int r202), .unset, .unset, .unset] [])) _
      refine XS.iload X185.here hx rfl (hb hby at_267) rfl ?_
      show Steps p.tables e below (T185.setTop (mkF m 269 #[.val (.int k1), .val (.int k2), .val (.int k3), .val (.long k4), .second, .val (.int k5), .val (.int k6), .val (.int (1 : Int32)), .val (.int v18), .val (.ref b116), .val (.ref b126), .val (.int r172), .val (.int r182), .val (.int r192), .val (.int r202), .unset, .unset, .unset] [(.int (1 : Int32))])) _
      refine XS.iconst X185.here hx rfl (hb hby at_269) ?_
      show Steps p.tables e below (T185.setTop (mkF m 270 #[.val (.int k1), .val (.int k2), .val (.int k3), .val (.long k4), .second, .val (.int k5), .val (.int k6), .val (.int (1 : Int32)), .val (.int v18), .val (.ref b116), .val (.ref b126), .val (.int r172), .val (.int r182), .val (.int r192), .val (.int r202), .unset, .unset, .unset] [(.int (3 : Int32)), (.int (1 : Int32))])) _
      refine XS.icmpYes X185.here hx rfl (pc0 := 270) (pc' := 288) rfl (hb hby at_270) rfl (flt (by decide)).2.2.2 (by decide) (by decide) ?_
      show Steps p.tables e below (T185.setTop (mkF m 288 #[.val (.int k1), .val (.int k2), .val (.int k3), .val (.long k4), .second, .val (.int k5), .val (.int k6), .val (.int (1 : Int32)), .val (.int v18), .val (.ref b116), .val (.ref b126), .val (.int r172), .val (.int r182), .val (.int r192), .val (.int r202), .unset, .unset, .unset] [])) _
      refine XS.iload X185.here hx rfl (hb hby at_288) rfl ?_
      show Steps p.tables e below (T185.setTop (mkF m 290 #[.val (.int k1), .val (.int k2), .val (.int k3), .val (.long k4), .second, .val (.int k5), .val (.int k6), .val (.int (1 : Int32)), .val (.int v18), .val (.ref b116), .val (.ref b126), .val (.int r172), .val (.int r182), .val (.int r192), .val (.int r202), .unset, .unset, .unset] [(.int (1 : Int32))])) _
      refine XS.iconst X185.here hx rfl (hb hby at_290) ?_
      show Steps p.tables e below (T185.setTop (mkF m 291 #[.val (.int k1), .val (.int k2), .val (.int k3), .val (.long k4), .second, .val (.int k5), .val (.int k6), .val (.int (1 : Int32)), .val (.int v18), .val (.ref b116), .val (.ref b126), .val (.int r172), .val (.int r182), .val (.int r192), .val (.int r202), .unset, .unset, .unset] [(.int (1 : Int32)), (.int (1 : Int32))])) _
      refine XS.icmpNo X185.here hx rfl (hb hby at_291) rfl (flt (by decide)).1 ?_
      show Steps p.tables e below (T185.setTop (mkF m 294 #[.val (.int k1), .val (.int k2), .val (.int k3), .val (.long k4), .second, .val (.int k5), .val (.int k6), .val (.int (1 : Int32)), .val (.int v18), .val (.ref b116), .val (.ref b126), .val (.int r172), .val (.int r182), .val (.int r192), .val (.int r202), .unset, .unset, .unset] [])) _
      refine XS.iload X185.here hx rfl (hb hby at_294) rfl ?_
      by_cases d191 : r172 = (0 : Int32)
      · skip
        show Steps p.tables e below (T185.setTop (mkF m 296 #[.val (.int k1), .val (.int k2), .val (.int k3), .val (.long k4), .second, .val (.int k5), .val (.int k6), .val (.int (1 : Int32)), .val (.int v18), .val (.ref b116), .val (.ref b126), .val (.int r172), .val (.int r182), .val (.int r192), .val (.int r202), .unset, .unset, .unset] [(.int r172)])) _
        refine XS.ifNo X185.here hx rfl (hb hby at_296) rfl ((if0 _ _).trans (teq d191).2) ?_
        show Steps p.tables e below (T185.setTop (mkF m 299 #[.val (.int k1), .val (.int k2), .val (.int k3), .val (.long k4), .second, .val (.int k5), .val (.int k6), .val (.int (1 : Int32)), .val (.int v18), .val (.ref b116), .val (.ref b126), .val (.int r172), .val (.int r182), .val (.int r192), .val (.int r202), .unset, .unset, .unset] [])) _
        refine XS.iload X185.here hx rfl (hb hby at_299) rfl ?_
        show Steps p.tables e below (T185.setTop (mkF m 301 #[.val (.int k1), .val (.int k2), .val (.int k3), .val (.long k4), .second, .val (.int k5), .val (.int k6), .val (.int (1 : Int32)), .val (.int v18), .val (.ref b116), .val (.ref b126), .val (.int r172), .val (.int r182), .val (.int r192), .val (.int r202), .unset, .unset, .unset] [(.int (1 : Int32))])) _
        refine XS.iconst X185.here hx rfl (hb hby at_301) ?_
        show Steps p.tables e below (T185.setTop (mkF m 302 #[.val (.int k1), .val (.int k2), .val (.int k3), .val (.long k4), .second, .val (.int k5), .val (.int k6), .val (.int (1 : Int32)), .val (.int v18), .val (.ref b116), .val (.ref b126), .val (.int r172), .val (.int r182), .val (.int r192), .val (.int r202), .unset, .unset, .unset] [(.int (2 : Int32)), (.int (1 : Int32))])) _
        refine XS.icmpYes X185.here hx rfl (pc0 := 302) (pc' := 310) rfl (hb hby at_302) rfl (tlt (by decide)).1 (by decide) (by decide) ?_
        show Steps p.tables e below (T185.setTop (mkF m 310 #[.val (.int k1), .val (.int k2), .val (.int k3), .val (.long k4), .second, .val (.int k5), .val (.int k6), .val (.int (1 : Int32)), .val (.int v18), .val (.ref b116), .val (.ref b126), .val (.int r172), .val (.int r182), .val (.int r192), .val (.int r202), .unset, .unset, .unset] [])) _
        refine XS.iload X185.here hx rfl (hb hby at_310) rfl ?_
        show Steps p.tables e below (T185.setTop (mkF m 312 #[.val (.int k1), .val (.int k2), .val (.int k3), .val (.long k4), .second, .val (.int k5), .val (.int k6), .val (.int (1 : Int32)), .val (.int v18), .val (.ref b116), .val (.ref b126), .val (.int r172), .val (.int r182), .val (.int r192), .val (.int r202), .unset, .unset, .unset] [(.int (1 : Int32))])) _
        refine XS.iconst X185.here hx rfl (hb hby at_312) ?_
        show Steps p.tables e below (T185.setTop (mkF m 313 #[.val (.int k1), .val (.int k2), .val (.int k3), .val (.long k4), .second, .val (.int k5), .val (.int k6), .val (.int (1 : Int32)), .val (.int v18), .val (.ref b116), .val (.ref b126), .val (.int r172), .val (.int r182), .val (.int r192), .val (.int r202), .unset, .unset, .unset] [(.int (3 : Int32)), (.int (1 : Int32))])) _
        refine XS.icmpYes X185.here hx rfl (pc0 := 313) (pc' := 321) rfl (hb hby at_313) rfl (tlt (by decide)).1 (by decide) (by decide) ?_
        show Steps p.tables e below (T185.setTop (mkF m 321 #[.val (.int k1), .val (.int k2), .val (.int k3), .val (.long k4), .second, .val (.int k5), .val (.int k6), .val (.int (1 : Int32)), .val (.int v18), .val (.ref b116), .val (.ref b126), .val (.int r172), .val (.int r182), .val (.int r192), .val (.int r202), .unset, .unset, .unset] [])) _
        refine XS.iload X185.here hx rfl (hb hby at_321) rfl ?_
        show Steps p.tables e below (T185.setTop (mkF m 323 #[.val (.int k1), .val (.int k2), .val (.int k3), .val (.long k4), .second, .val (.int k5), .val (.int k6), .val (.int (1 : Int32)), .val (.int v18), .val (.ref b116), .val (.ref b126), .val (.int r172), .val (.int r182), .val (.int r192), .val (.int r202), .unset, .unset, .unset] [(.int (1 : Int32))])) _
        refine XS.iconst X185.here hx rfl (hb hby at_323) ?_
        show Steps p.tables e below (T185.setTop (mkF m 324 #[.val (.int k1), .val (.int k2), .val (.int k3), .val (.long k4), .second, .val (.int k5), .val (.int k6), .val (.int (1 : Int32)), .val (.int v18), .val (.ref b116), .val (.ref b126), .val (.int r172), .val (.int r182), .val (.int r192), .val (.int r202), .unset, .unset, .unset] [(.int (4 : Int32)), (.int (1 : Int32))])) _
        refine XS.icmpYes X185.here hx rfl (pc0 := 324) (pc' := 332) rfl (hb hby at_324) rfl (tlt (by decide)).1 (by decide) (by decide) ?_
        show Steps p.tables e below (T185.setTop (mkF m 332 #[.val (.int k1), .val (.int k2), .val (.int k3), .val (.long k4), .second, .val (.int k5), .val (.int k6), .val (.int (1 : Int32)), .val (.int v18), .val (.ref b116), .val (.ref b126), .val (.int r172), .val (.int r182), .val (.int r192), .val (.int r202), .unset, .unset, .unset] [])) _
        refine XS.iconst X185.here hx rfl (hb hby at_332) ?_
        show Steps p.tables e below (T185.setTop (mkF m 333 #[.val (.int k1), .val (.int k2), .val (.int k3), .val (.long k4), .second, .val (.int k5), .val (.int k6), .val (.int (1 : Int32)), .val (.int v18), .val (.ref b116), .val (.ref b126), .val (.int r172), .val (.int r182), .val (.int r192), .val (.int r202), .unset, .unset, .unset] [(.int (1 : Int32))])) _
        refine XS.goto X185.here hx rfl (pc0 := 333) (pc' := 337) rfl (hb hby at_333) (by decide) (by decide) ?_
        show Steps p.tables e below (T185.setTop (mkF m 337 #[.val (.int k1), .val (.int k2), .val (.int k3), .val (.long k4), .second, .val (.int k5), .val (.int k6), .val (.int (1 : Int32)), .val (.int v18), .val (.ref b116), .val (.ref b126), .val (.int r172), .val (.int r182), .val (.int r192), .val (.int r202), .unset, .unset, .unset] [(.int (1 : Int32))])) _
        exact castTop (by simp only [hm337, if_pos d191]) kt
      · skip
        show Steps p.tables e below (T185.setTop (mkF m 296 #[.val (.int k1), .val (.int k2), .val (.int k3), .val (.long k4), .second, .val (.int k5), .val (.int k6), .val (.int (1 : Int32)), .val (.int v18), .val (.ref b116), .val (.ref b126), .val (.int r172), .val (.int r182), .val (.int r192), .val (.int r202), .unset, .unset, .unset] [(.int r172)])) _
        refine XS.ifYes X185.here hx rfl (pc0 := 296) (pc' := 336) rfl (hb hby at_296) rfl ((if0 _ _).trans (feq d191).2) (by decide) (by decide) ?_
        show Steps p.tables e below (T185.setTop (mkF m 336 #[.val (.int k1), .val (.int k2), .val (.int k3), .val (.long k4), .second, .val (.int k5), .val (.int k6), .val (.int (1 : Int32)), .val (.int v18), .val (.ref b116), .val (.ref b126), .val (.int r172), .val (.int r182), .val (.int r192), .val (.int r202), .unset, .unset, .unset] [])) _
        refine XS.iconst X185.here hx rfl (hb hby at_336) ?_
        show Steps p.tables e below (T185.setTop (mkF m 337 #[.val (.int k1), .val (.int k2), .val (.int k3), .val (.long k4), .second, .val (.int k5), .val (.int k6), .val (.int (1 : Int32)), .val (.int v18), .val (.ref b116), .val (.ref b126), .val (.int r172), .val (.int r182), .val (.int r192), .val (.int r202), .unset, .unset, .unset] [(.int (0 : Int32))])) _
        exact castTop (by simp only [hm337, if_neg d191]) kt
    obtain ⟨T193, hX193, X193, e193, E193, A193, D193, -, st193⟩ := newO X185 hx hZ hown (hw _ (List.mem_of_getElem? (i := 6) rfl)) (hw _ (List.mem_of_getElem? (i := 7) rfl)) (hw _ (List.mem_of_getElem? (i := 8) rfl)) e185 (g := (mkF m 339 #[.val (.int k1), .val (.int k2), .val (.int k3), .val (.long k4), .second, .val (.int k5), .val (.int k6), .val (.int (1 : Int32)), .val (.int v18), .val (.ref b116), .val (.ref b126), .val (.int r172), .val (.int r182), .val (.int r192), .val (.int r202), .val (.int m337), .unset, .unset] [])) rfl (hb hby at_339) (by decide) (by decide)
    obtain ⟨b193, g193⟩ : ∃ z_q, z_q = hX185.size := ⟨_, rfl⟩
    rw [← g193] at A193 D193 st193
    have g_b193 : n0 ≤ b193 := Nat.le_trans Z188 (Nat.le_of_eq g193.symm)
    have sz_b193 : h0.size ≤ b193 := Nat.le_trans K190.1 (Nat.le_of_eq g193.symm)
    have ne_b116_b193 : b116 ≠ b193 := Nat.ne_of_lt (Nat.lt_of_lt_of_le F187.lt (Nat.le_of_eq g193.symm))
    have ne_b126_b193 : b126 ≠ b193 := Nat.ne_of_lt (Nat.lt_of_lt_of_le F186.lt (Nat.le_of_eq g193.symm))
    have F194 : Arv Z hX193 b116 kx116 .byte (1 : Int32) [(.int (nar .byte (k3.toInt8.toInt32)))] (.int (0 : Int32)) := F187.ext E193
    have F195 : Arh Z hX193 b126 kx126 .byte (8 : Int32) [(v18, (.int (nar .byte (((nar .byte (k3.toInt8.toInt32)) ^^^ r172).toInt8.toInt32))))] [(.int (nar .byte ((k4.toInt32).toInt8.toInt32))), (.int (nar .byte (((k4 >>> ((8 : Int32) &&& 0x3f).toInt64).toInt32).toInt8.toInt32))), (.int (nar .byte (((k4 >>> ((16 : Int32) &&& 0x3f).toInt64).toInt32).toInt8.toInt32))), (.int (nar .byte (((k4 >>> ((24 : Int32) &&& 0x3f).toInt64).toInt32).toInt8.toInt32))), (.int (nar .byte (((k4 >>> ((32 : Int32) &&& 0x3f).toInt64).toInt32).toInt8.toInt32))), (.int (nar .byte (((k4 >>> ((40 : Int32) &&& 0x3f).toInt64).toInt32).toInt8.toInt32))), (.int (nar .byte (((k4 >>> ((48 : Int32) &&& 0x3f).toInt64).toInt32).toInt8.toInt32))), (.int (nar .byte (((k4 >>> ((56 : Int32) &&& 0x3f).toInt64).toInt32).toInt8.toInt32)))] (.int (0 : Int32)) := F186.ext E193
    have Z196 : n0 ≤ hX193.size := Nat.le_trans Z188 E193.1
    have hk197 := Nat.le_trans hk189 (show _ ≤ hX193.size from E193.1)
    have K198 : Keep h0 hX193 [] := K190.ext E193
    have F199 : Fld Z hX193 b193 "com/example/marcotte/marcotte/XmlNames$Name" "qualified" "Ljava/lang/String;" .null := D193 (Or.inr (hw _ (List.mem_of_getElem? (i := 28) rfl))) (ty := (.object "java/lang/String")) (by decide)
    have F200 : Fld Z hX193 b193 "com/example/marcotte/marcotte/XmlNames$Name" "prefix" "Ljava/lang/String;" .null := D193 (Or.inr (hw _ (List.mem_of_getElem? (i := 30) rfl))) (ty := (.object "java/lang/String")) (by decide)
    have F201 : Fld Z hX193 b193 "com/example/marcotte/marcotte/XmlNames$Name" "local" "Ljava/lang/String;" .null := D193 (Or.inr (hw _ (List.mem_of_getElem? (i := 32) rfl))) (ty := (.object "java/lang/String")) (by decide)
    have F202 : Fld Z hX193 b193 "com/example/marcotte/marcotte/XmlNames$Name" "bytes" "[B" .null := D193 (Or.inr (hw _ (List.mem_of_getElem? (i := 34) rfl))) (ty := (.array .byte)) (by decide)
    have F203 : Fld Z hX193 b193 "com/example/marcotte/marcotte/XmlNames$Name" "hash" "I" (.int (0 : Int32)) := D193 (Or.inr (hw _ (List.mem_of_getElem? (i := 36) rfl))) (ty := .int) (by decide)
    have F204 : Fld Z hX193 b193 "com/example/marcotte/marcotte/XmlNames$Name" "declaresNamespace" "Z" (.int (0 : Int32)) := D193 (Or.inr (hw _ (List.mem_of_getElem? (i := 38) rfl))) (ty := .boolean) (by decide)
    have pre205 : ∀ tq, Steps p.tables e below (T193.setTop (mkF m 343 #[.val (.int k1), .val (.int k2), .val (.int k3), .val (.long k4), .second, .val (.int k5), .val (.int k6), .val (.int (1 : Int32)), .val (.int v18), .val (.ref b116), .val (.ref b126), .val (.int r172), .val (.int r182), .val (.int r192), .val (.int r202), .val (.int m337), .unset, .unset] [(.ref b193), (.ref b193)])) tq → Steps p.tables e below (s₁.setTop (entryFrame m #[(.int k1), (.int k2), (.int k3), (.long k4), (.int k5), (.int k6)] maxLocals)) tq := by
      intro tq kt
      refine pre192 _ ?_
      show Steps p.tables e below (T185.setTop (mkF m 337 #[.val (.int k1), .val (.int k2), .val (.int k3), .val (.long k4), .second, .val (.int k5), .val (.int k6), .val (.int (1 : Int32)), .val (.int v18), .val (.ref b116), .val (.ref b126), .val (.int r172), .val (.int r182), .val (.int r192), .val (.int r202), .unset, .unset, .unset] [(.int m337)])) _
      refine XS.istore X185.here hx rfl (hb hby at_337) rfl (l' := #[.val (.int k1), .val (.int k2), .val (.int k3), .val (.long k4), .second, .val (.int k5), .val (.int k6), .val (.int (1 : Int32)), .val (.int v18), .val (.ref b116), .val (.ref b126), .val (.int r172), .val (.int r182), .val (.int r192), .val (.int r202), .val (.int m337), .unset, .unset]) rfl ?_
      show Steps p.tables e below (T185.setTop (mkF m 339 #[.val (.int k1), .val (.int k2), .val (.int k3), .val (.long k4), .second, .val (.int k5), .val (.int k6), .val (.int (1 : Int32)), .val (.int v18), .val (.ref b116), .val (.ref b126), .val (.int r172), .val (.int r182), .val (.int r192), .val (.int r202), .val (.int m337), .unset, .unset] [])) _
      refine st193 _ ?_
      show Steps p.tables e below (T193.setTop (mkF m 342 #[.val (.int k1), .val (.int k2), .val (.int k3), .val (.long k4), .second, .val (.int k5), .val (.int k6), .val (.int (1 : Int32)), .val (.int v18), .val (.ref b116), .val (.ref b126), .val (.int r172), .val (.int r182), .val (.int r192), .val (.int r202), .val (.int m337), .unset, .unset] [(.ref b193)])) _
      refine XS.dup X193.here hx rfl (hb hby at_342) rfl rfl ?_
      show Steps p.tables e below (T193.setTop (mkF m 343 #[.val (.int k1), .val (.int k2), .val (.int k3), .val (.long k4), .second, .val (.int k5), .val (.int k6), .val (.int (1 : Int32)), .val (.int v18), .val (.ref b116), .val (.ref b126), .val (.int r172), .val (.int r182), .val (.int r192), .val (.int r202), .val (.int m337), .unset, .unset] [(.ref b193), (.ref b193)])) _
      exact kt
    obtain ⟨b206, T206, hX206, ks206, X206, e206, E206, hS, hk206, hZ, hown, st206⟩ := ldcS X193 hx hZ hown (hw _ (List.mem_of_getElem? (i := 9) rfl)) wS e193 hS hk197 (g := (mkF m 343 #[.val (.int k1), .val (.int k2), .val (.int k3), .val (.long k4), .second, .val (.int k5), .val (.int k6), .val (.int (1 : Int32)), .val (.int v18), .val (.ref b116), .val (.ref b126), .val (.int r172), .val (.int r182), .val (.int r192), .val (.int r202), .val (.int m337), .unset, .unset] [(.ref b193), (.ref b193)])) rfl (hb hby at_343) (n := 4) (by decide) (by decide) (by decide) (by decide)
    have F207 : Arv Z hX206 b116 kx116 .byte (1 : Int32) [(.int (nar .byte (k3.toInt8.toInt32)))] (.int (0 : Int32)) := F194.ext E206
    have F208 : Arh Z hX206 b126 kx126 .byte (8 : Int32) [(v18, (.int (nar .byte (((nar .byte (k3.toInt8.toInt32)) ^^^ r172).toInt8.toInt32))))] [(.int (nar .byte ((k4.toInt32).toInt8.toInt32))), (.int (nar .byte (((k4 >>> ((8 : Int32) &&& 0x3f).toInt64).toInt32).toInt8.toInt32))), (.int (nar .byte (((k4 >>> ((16 : Int32) &&& 0x3f).toInt64).toInt32).toInt8.toInt32))), (.int (nar .byte (((k4 >>> ((24 : Int32) &&& 0x3f).toInt64).toInt32).toInt8.toInt32))), (.int (nar .byte (((k4 >>> ((32 : Int32) &&& 0x3f).toInt64).toInt32).toInt8.toInt32))), (.int (nar .byte (((k4 >>> ((40 : Int32) &&& 0x3f).toInt64).toInt32).toInt8.toInt32))), (.int (nar .byte (((k4 >>> ((48 : Int32) &&& 0x3f).toInt64).toInt32).toInt8.toInt32))), (.int (nar .byte (((k4 >>> ((56 : Int32) &&& 0x3f).toInt64).toInt32).toInt8.toInt32)))] (.int (0 : Int32)) := F195.ext E206
    have F209 : Exa Z hX206 b193 "com/example/marcotte/marcotte/XmlNames$Name" := A193.ext E206
    have F210 : Fld Z hX206 b193 "com/example/marcotte/marcotte/XmlNames$Name" "qualified" "Ljava/lang/String;" .null := F199.ext E206
    have F211 : Fld Z hX206 b193 "com/example/marcotte/marcotte/XmlNames$Name" "prefix" "Ljava/lang/String;" .null := F200.ext E206
    have F212 : Fld Z hX206 b193 "com/example/marcotte/marcotte/XmlNames$Name" "local" "Ljava/lang/String;" .null := F201.ext E206
    have F213 : Fld Z hX206 b193 "com/example/marcotte/marcotte/XmlNames$Name" "bytes" "[B" .null := F202.ext E206
    have F214 : Fld Z hX206 b193 "com/example/marcotte/marcotte/XmlNames$Name" "hash" "I" (.int (0 : Int32)) := F203.ext E206
    have F215 : Fld Z hX206 b193 "com/example/marcotte/marcotte/XmlNames$Name" "declaresNamespace" "Z" (.int (0 : Int32)) := F204.ext E206
    have Z216 : n0 ≤ hX206.size := Nat.le_trans Z196 E206.1
    have hk217 := Nat.le_trans hk197 (show _ ≤ hX206.size from E206.1)
    have K218 : Keep h0 hX206 [] := K198.ext E206
    have pre219 : ∀ tq, Steps p.tables e below (T206.setTop (mkF m 346 #[.val (.int k1), .val (.int k2), .val (.int k3), .val (.long k4), .second, .val (.int k5), .val (.int k6), .val (.int (1 : Int32)), .val (.int v18), .val (.ref b116), .val (.ref b126), .val (.int r172), .val (.int r182), .val (.int r192), .val (.int r202), .val (.int m337), .unset, .unset] [.null, (.ref b206), (.ref b193), (.ref b193)])) tq → Steps p.tables e below (s₁.setTop (entryFrame m #[(.int k1), (.int k2), (.int k3), (.long k4), (.int k5), (.int k6)] maxLocals)) tq := by
      intro tq kt
      refine pre205 _ ?_
      show Steps p.tables e below (T193.setTop (mkF m 343 #[.val (.int k1), .val (.int k2), .val (.int k3), .val (.long k4), .second, .val (.int k5), .val (.int k6), .val (.int (1 : Int32)), .val (.int v18), .val (.ref b116), .val (.ref b126), .val (.int r172), .val (.int r182), .val (.int r192), .val (.int r202), .val (.int m337), .unset, .unset] [(.ref b193), (.ref b193)])) _
      refine st206 _ ?_
      show Steps p.tables e below (T206.setTop (mkF m 345 #[.val (.int k1), .val (.int k2), .val (.int k3), .val (.long k4), .second, .val (.int k5), .val (.int k6), .val (.int (1 : Int32)), .val (.int v18), .val (.ref b116), .val (.ref b126), .val (.int r172), .val (.int r182), .val (.int r192), .val (.int r202), .val (.int m337), .unset, .unset] [(.ref b206), (.ref b193), (.ref b193)])) _
      refine XS.aconstNull X206.here hx rfl (hb hby at_345) ?_
      show Steps p.tables e below (T206.setTop (mkF m 346 #[.val (.int k1), .val (.int k2), .val (.int k3), .val (.long k4), .second, .val (.int k5), .val (.int k6), .val (.int (1 : Int32)), .val (.int v18), .val (.ref b116), .val (.ref b126), .val (.int r172), .val (.int r182), .val (.int r192), .val (.int r202), .val (.int m337), .unset, .unset] [.null, (.ref b206), (.ref b193), (.ref b193)])) _
      exact kt
    obtain ⟨b220, T220, hX220, ks220, X220, e220, E220, hS, hk220, hZ, hown, st220⟩ := ldcS X206 hx hZ hown (hw _ (List.mem_of_getElem? (i := 9) rfl)) wS e206 hS hk206 (g := (mkF m 346 #[.val (.int k1), .val (.int k2), .val (.int k3), .val (.long k4), .second, .val (.int k5), .val (.int k6), .val (.int (1 : Int32)), .val (.int v18), .val (.ref b116), .val (.ref b126), .val (.int r172), .val (.int r182), .val (.int r192), .val (.int r202), .val (.int m337), .unset, .unset] [.null, (.ref b206), (.ref b193), (.ref b193)])) rfl (hb hby at_346) (n := 4) (by decide) (by decide) (by decide) (by decide)
    have F221 : Arv Z hX220 b116 kx116 .byte (1 : Int32) [(.int (nar .byte (k3.toInt8.toInt32)))] (.int (0 : Int32)) := F207.ext E220
    have F222 : Arh Z hX220 b126 kx126 .byte (8 : Int32) [(v18, (.int (nar .byte (((nar .byte (k3.toInt8.toInt32)) ^^^ r172).toInt8.toInt32))))] [(.int (nar .byte ((k4.toInt32).toInt8.toInt32))), (.int (nar .byte (((k4 >>> ((8 : Int32) &&& 0x3f).toInt64).toInt32).toInt8.toInt32))), (.int (nar .byte (((k4 >>> ((16 : Int32) &&& 0x3f).toInt64).toInt32).toInt8.toInt32))), (.int (nar .byte (((k4 >>> ((24 : Int32) &&& 0x3f).toInt64).toInt32).toInt8.toInt32))), (.int (nar .byte (((k4 >>> ((32 : Int32) &&& 0x3f).toInt64).toInt32).toInt8.toInt32))), (.int (nar .byte (((k4 >>> ((40 : Int32) &&& 0x3f).toInt64).toInt32).toInt8.toInt32))), (.int (nar .byte (((k4 >>> ((48 : Int32) &&& 0x3f).toInt64).toInt32).toInt8.toInt32))), (.int (nar .byte (((k4 >>> ((56 : Int32) &&& 0x3f).toInt64).toInt32).toInt8.toInt32)))] (.int (0 : Int32)) := F208.ext E220
    have F223 : Exa Z hX220 b193 "com/example/marcotte/marcotte/XmlNames$Name" := F209.ext E220
    have F224 : Fld Z hX220 b193 "com/example/marcotte/marcotte/XmlNames$Name" "qualified" "Ljava/lang/String;" .null := F210.ext E220
    have F225 : Fld Z hX220 b193 "com/example/marcotte/marcotte/XmlNames$Name" "prefix" "Ljava/lang/String;" .null := F211.ext E220
    have F226 : Fld Z hX220 b193 "com/example/marcotte/marcotte/XmlNames$Name" "local" "Ljava/lang/String;" .null := F212.ext E220
    have F227 : Fld Z hX220 b193 "com/example/marcotte/marcotte/XmlNames$Name" "bytes" "[B" .null := F213.ext E220
    have F228 : Fld Z hX220 b193 "com/example/marcotte/marcotte/XmlNames$Name" "hash" "I" (.int (0 : Int32)) := F214.ext E220
    have F229 : Fld Z hX220 b193 "com/example/marcotte/marcotte/XmlNames$Name" "declaresNamespace" "Z" (.int (0 : Int32)) := F215.ext E220
    have Z230 : n0 ≤ hX220.size := Nat.le_trans Z216 E220.1
    have hk231 := Nat.le_trans hk206 (show _ ≤ hX220.size from E220.1)
    have K232 : Keep h0 hX220 [] := K218.ext E220
    obtain ⟨_, _, ⟨T233, L233, k233, n233⟩, -, X233, ⟨Lc233, hQ233, l233, y233, z233⟩, st233⟩ := X220.specialBack hx (y := (⟨"com/example/marcotte/marcotte/XmlNames$Name", "<init>", "(Ljava/lang/String;Ljava/lang/String;Ljava/lang/String;[BIZ)V"⟩ : MethodName)) rfl hown (mvT hZ (hw _ (List.mem_of_getElem? (i := 16) rfl))) (mvT hZ (hw _ (List.mem_of_getElem? (i := 17) rfl))) (mvT hZ (hw _ (List.mem_of_getElem? (i := 18) rfl))) (by decide) (backOf (W := 1) (rm2 l Z a0 hw [] b193 b206 b220 b116 (0 : Int32) (0 : Int32) hX220 n0 Z230 F224 F225 F226 F227 F228 F229 F223 g_b193) hZ (hw _ (List.mem_of_getElem? (i := 18) rfl)) (hw _ (List.mem_of_getElem? (i := 8) rfl)) (by decide) (by decide)) (g := (mkF m 352 #[.val (.int k1), .val (.int k2), .val (.int k3), .val (.long k4), .second, .val (.int k5), .val (.int k6), .val (.int (1 : Int32)), .val (.int v18), .val (.ref b116), .val (.ref b126), .val (.int r172), .val (.int r182), .val (.int r192), .val (.int r202), .val (.int m337), .unset, .unset] [(.int (0 : Int32)), (.int (0 : Int32)), (.ref b116), (.ref b220), .null, (.ref b206), (.ref b193), (.ref b193)])) rfl (by rw [hml]; rfl) (Steps.refl _) (a := b193) (argsL := [(.ref b206), .null, (.ref b220), (.ref b116), (.int (0 : Int32)), (.int (0 : Int32))]) (rest := [(.ref b193)]) (lenOf pd_2 rfl) rfl (by show 2 * 0 + _ ≤ _; exact Nat.le_of_eq rfl) (hb hby at_352) (fun _ _ => ⟨rfl, e220, (by decide : 7 + 0 ≤ _), (by decide : 31 + 0 ≤ _)⟩)
    dsimp only [Pt.U, Pt.locs, Pt.cells, Pt.slots] at X233 l233 y233 z233 st233 hQ233
    subst l233 y233 z233
    obtain ⟨rfl, N233q, K233q, F234, F235⟩ := hQ233
    have N233 := Fr.app N185 N233q
    have F236 : Arv Z T233.heap b116 kx116 .byte (1 : Int32) [(.int (nar .byte (k3.toInt8.toInt32)))] (.int (0 : Int32)) := F221.keep K233q (ninS ne_b116_b193 nin0)
    have F237 : Arh Z T233.heap b126 kx126 .byte (8 : Int32) [(v18, (.int (nar .byte (((nar .byte (k3.toInt8.toInt32)) ^^^ r172).toInt8.toInt32))))] [(.int (nar .byte ((k4.toInt32).toInt8.toInt32))), (.int (nar .byte (((k4 >>> ((8 : Int32) &&& 0x3f).toInt64).toInt32).toInt8.toInt32))), (.int (nar .byte (((k4 >>> ((16 : Int32) &&& 0x3f).toInt64).toInt32).toInt8.toInt32))), (.int (nar .byte (((k4 >>> ((24 : Int32) &&& 0x3f).toInt64).toInt32).toInt8.toInt32))), (.int (nar .byte (((k4 >>> ((32 : Int32) &&& 0x3f).toInt64).toInt32).toInt8.toInt32))), (.int (nar .byte (((k4 >>> ((40 : Int32) &&& 0x3f).toInt64).toInt32).toInt8.toInt32))), (.int (nar .byte (((k4 >>> ((48 : Int32) &&& 0x3f).toInt64).toInt32).toInt8.toInt32))), (.int (nar .byte (((k4 >>> ((56 : Int32) &&& 0x3f).toInt64).toInt32).toInt8.toInt32)))] (.int (0 : Int32)) := F222.keep K233q (ninS ne_b126_b193 nin0)
    have F238 : Exa Z T233.heap b193 "com/example/marcotte/marcotte/XmlNames$Name" := F223.keep K233q
    have Z239 : n0 ≤ T233.heap.size := Nat.le_trans Z230 K233q.1
    have hk240 := Nat.le_trans hk220 (show _ ≤ T233.heap.size from K233q.1)
    have K241 : Keep h0 T233.heap [] := K232.trans K233q (allS (Or.inr sz_b193) all0)
    have hp242_hat0 : 0 ≤ v18.toInt := (own_pre_0_363_hat0_s1 k1 k2 k3 k4 k5 k6 hv6 v18 hv18 r172 hr172 r182 hr182 r192 hr192 r202 hr202 m337 hm337)
    have hp242_hat1 : v18.toInt + 1 ≤ 8 := (own_pre_0_363_hat1_s1 k1 k2 k3 k4 k5 k6 hv6 v18 hv18 r172 hr172 r182 hr182 r192 hr192 r202 hr202 m337 hm337 hp242_hat0)
    obtain ⟨cq242, kq242, q242a, q242b, q242c⟩ := isOf hZ rfl F234
    obtain ⟨_, _, ⟨T242, L242, k242, n242⟩, -, X242, ⟨Lc242, hQ242, l242, y242, z242⟩, st242⟩ := X233.virtualBack hx (y := (⟨"com/example/marcotte/marcotte/XmlNames$Name", "writtenAt", "([BI)Z"⟩ : MethodName)) (z := (⟨"com/example/marcotte/marcotte/XmlNames$Name", "writtenAt", "([BI)Z"⟩ : MethodName)) hown (mvT hZ (hw _ (List.mem_of_getElem? (i := 39) rfl))) (mvT hZ (hw _ (List.mem_of_getElem? (i := 40) rfl))) (notFace_of_selects (args := #[]) (mvT hZ (hw _ (List.mem_of_getElem? (i := 42) rfl)))) (mvT hZ (hw _ (List.mem_of_getElem? (i := 42) rfl))) (mvT hZ (hw _ (List.mem_of_getElem? (i := 41) rfl))) (by decide) (backOf (W := 0) (rm5_1 l Z a0 hw [] b193 b126 v18 b116 kx116 kx126 ([(.int (nar .byte ((k4.toInt32).toInt8.toInt32))), (.int (nar .byte (((k4 >>> ((8 : Int32) &&& 0x3f).toInt64).toInt32).toInt8.toInt32))), (.int (nar .byte (((k4 >>> ((16 : Int32) &&& 0x3f).toInt64).toInt32).toInt8.toInt32))), (.int (nar .byte (((k4 >>> ((24 : Int32) &&& 0x3f).toInt64).toInt32).toInt8.toInt32))), (.int (nar .byte (((k4 >>> ((32 : Int32) &&& 0x3f).toInt64).toInt32).toInt8.toInt32))), (.int (nar .byte (((k4 >>> ((40 : Int32) &&& 0x3f).toInt64).toInt32).toInt8.toInt32))), (.int (nar .byte (((k4 >>> ((48 : Int32) &&& 0x3f).toInt64).toInt32).toInt8.toInt32))), (.int (nar .byte (((k4 >>> ((56 : Int32) &&& 0x3f).toInt64).toInt32).toInt8.toInt32)))] : List Value) (nar .byte (k3.toInt8.toInt32)) (nar .byte (((nar .byte (k3.toInt8.toInt32)) ^^^ r172).toInt8.toInt32)) T233.heap n0 Z239 F235 F236 F237 hp242_hat0 hp242_hat1) hZ (hw _ (List.mem_of_getElem? (i := 43) rfl)) (hw _ (List.mem_of_getElem? (i := 8) rfl)) (by decide) (by decide)) q242a q242c (g := (mkF m 363 #[.val (.int k1), .val (.int k2), .val (.int k3), .val (.long k4), .second, .val (.int k5), .val (.int k6), .val (.int (1 : Int32)), .val (.int v18), .val (.ref b116), .val (.ref b126), .val (.int r172), .val (.int r182), .val (.int r192), .val (.int r202), .val (.int m337), .val (.ref b193), .unset] [(.int v18), (.ref b126), (.ref b193)])) rfl (by rw [hml]; rfl) (Steps.refl _) (argsL := [(.ref b126), (.int v18)]) (rest := []) (lenOf pd_3 rfl) rfl (by show 2 * 0 + _ ≤ _; exact Nat.le_of_eq rfl) (hb hby at_363) (fun _ _ => ⟨rfl, rfl, (by decide : 7 + 0 ≤ _), (by decide : 31 + 0 ≤ _)⟩)
    dsimp only [Pt.U, Pt.locs, Pt.cells, Pt.slots] at X242 l242 y242 z242 st242 hQ242
    subst l242 y242 z242
    obtain ⟨rfl, N242q, e242⟩ := hQ242
    have N242 := Fr.app N233 N242q
    obtain ⟨r363, hr363⟩ : ∃ z_q : Int32, z_q = (if (nar .byte (((nar .byte (k3.toInt8.toInt32)) ^^^ r172).toInt8.toInt32)) = (nar .byte (k3.toInt8.toInt32)) then (1 : Int32) else (0 : Int32)) := ⟨_, rfl⟩
    obtain ⟨m380, hm380⟩ : ∃ z_q : Int32, z_q = (if r363 = m337 then (1 : Int32) else (0 : Int32)) := ⟨_, rfl⟩
    have pre244 : ∀ tq, Steps p.tables e below (T242.setTop (mkF m 380 #[.val (.int k1), .val (.int k2), .val (.int k3), .val (.long k4), .second, .val (.int k5), .val (.int k6), .val (.int (1 : Int32)), .val (.int v18), .val (.ref b116), .val (.ref b126), .val (.int r172), .val (.int r182), .val (.int r192), .val (.int r202), .val (.int m337), .val (.ref b193), .val (.int r363)] [(.int m380)])) tq → Steps p.tables e below (s₁.setTop (entryFrame m #[(.int k1), (.int k2), (.int k3), (.long k4), (.int k5), (.int k6)] maxLocals)) tq := by
      intro tq kt
      refine pre219 _ ?_
      show Steps p.tables e below (T206.setTop (mkF m 346 #[.val (.int k1), .val (.int k2), .val (.int k3), .val (.long k4), .second, .val (.int k5), .val (.int k6), .val (.int (1 : Int32)), .val (.int v18), .val (.ref b116), .val (.ref b126), .val (.int r172), .val (.int r182), .val (.int r192), .val (.int r202), .val (.int m337), .unset, .unset] [.null, (.ref b206), (.ref b193), (.ref b193)])) _
      refine st220 _ ?_
      show Steps p.tables e below (T220.setTop (mkF m 348 #[.val (.int k1), .val (.int k2), .val (.int k3), .val (.long k4), .second, .val (.int k5), .val (.int k6), .val (.int (1 : Int32)), .val (.int v18), .val (.ref b116), .val (.ref b126), .val (.int r172), .val (.int r182), .val (.int r192), .val (.int r202), .val (.int m337), .unset, .unset] [(.ref b220), .null, (.ref b206), (.ref b193), (.ref b193)])) _
      refine XS.aload X220.here hx rfl (hb hby at_348) rfl rfl ?_
      show Steps p.tables e below (T220.setTop (mkF m 350 #[.val (.int k1), .val (.int k2), .val (.int k3), .val (.long k4), .second, .val (.int k5), .val (.int k6), .val (.int (1 : Int32)), .val (.int v18), .val (.ref b116), .val (.ref b126), .val (.int r172), .val (.int r182), .val (.int r192), .val (.int r202), .val (.int m337), .unset, .unset] [(.ref b116), (.ref b220), .null, (.ref b206), (.ref b193), (.ref b193)])) _
      refine XS.iconst X220.here hx rfl (hb hby at_350) ?_
      show Steps p.tables e below (T220.setTop (mkF m 351 #[.val (.int k1), .val (.int k2), .val (.int k3), .val (.long k4), .second, .val (.int k5), .val (.int k6), .val (.int (1 : Int32)), .val (.int v18), .val (.ref b116), .val (.ref b126), .val (.int r172), .val (.int r182), .val (.int r192), .val (.int r202), .val (.int m337), .unset, .unset] [(.int (0 : Int32)), (.ref b116), (.ref b220), .null, (.ref b206), (.ref b193), (.ref b193)])) _
      refine XS.iconst X220.here hx rfl (hb hby at_351) ?_
      show Steps p.tables e below (T220.setTop (mkF m 352 #[.val (.int k1), .val (.int k2), .val (.int k3), .val (.long k4), .second, .val (.int k5), .val (.int k6), .val (.int (1 : Int32)), .val (.int v18), .val (.ref b116), .val (.ref b126), .val (.int r172), .val (.int r182), .val (.int r192), .val (.int r202), .val (.int m337), .unset, .unset] [(.int (0 : Int32)), (.int (0 : Int32)), (.ref b116), (.ref b220), .null, (.ref b206), (.ref b193), (.ref b193)])) _
      refine st233.trans ?_
      show Steps p.tables e below (T233.setTop (mkF m 355 #[.val (.int k1), .val (.int k2), .val (.int k3), .val (.long k4), .second, .val (.int k5), .val (.int k6), .val (.int (1 : Int32)), .val (.int v18), .val (.ref b116), .val (.ref b126), .val (.int r172), .val (.int r182), .val (.int r192), .val (.int r202), .val (.int m337), .unset, .unset] [(.ref b193)])) _
      refine XS.astore X233.here hx rfl (hb hby at_355) rfl rfl (l' := #[.val (.int k1), .val (.int k2), .val (.int k3), .val (.long k4), .second, .val (.int k5), .val (.int k6), .val (.int (1 : Int32)), .val (.int v18), .val (.ref b116), .val (.ref b126), .val (.int r172), .val (.int r182), .val (.int r192), .val (.int r202), .val (.int m337), .val (.ref b193), .unset]) rfl ?_
      show Steps p.tables e below (T233.setTop (mkF m 357 #[.val (.int k1), .val (.int k2), .val (.int k3), .val (.long k4), .second, .val (.int k5), .val (.int k6), .val (.int (1 : Int32)), .val (.int v18), .val (.ref b116), .val (.ref b126), .val (.int r172), .val (.int r182), .val (.int r192), .val (.int r202), .val (.int m337), .val (.ref b193), .unset] [])) _
      refine XS.aload X233.here hx rfl (hb hby at_357) rfl rfl ?_
      show Steps p.tables e below (T233.setTop (mkF m 359 #[.val (.int k1), .val (.int k2), .val (.int k3), .val (.long k4), .second, .val (.int k5), .val (.int k6), .val (.int (1 : Int32)), .val (.int v18), .val (.ref b116), .val (.ref b126), .val (.int r172), .val (.int r182), .val (.int r192), .val (.int r202), .val (.int m337), .val (.ref b193), .unset] [(.ref b193)])) _
      refine XS.aload X233.here hx rfl (hb hby at_359) rfl rfl ?_
      show Steps p.tables e below (T233.setTop (mkF m 361 #[.val (.int k1), .val (.int k2), .val (.int k3), .val (.long k4), .second, .val (.int k5), .val (.int k6), .val (.int (1 : Int32)), .val (.int v18), .val (.ref b116), .val (.ref b126), .val (.int r172), .val (.int r182), .val (.int r192), .val (.int r202), .val (.int m337), .val (.ref b193), .unset] [(.ref b126), (.ref b193)])) _
      refine XS.iload X233.here hx rfl (hb hby at_361) rfl ?_
      show Steps p.tables e below (T233.setTop (mkF m 363 #[.val (.int k1), .val (.int k2), .val (.int k3), .val (.long k4), .second, .val (.int k5), .val (.int k6), .val (.int (1 : Int32)), .val (.int v18), .val (.ref b116), .val (.ref b126), .val (.int r172), .val (.int r182), .val (.int r192), .val (.int r202), .val (.int m337), .val (.ref b193), .unset] [(.int v18), (.ref b126), (.ref b193)])) _
      refine st242.trans ?_
      show Steps p.tables e below (T242.setTop (mkF m 366 #[.val (.int k1), .val (.int k2), .val (.int k3), .val (.long k4), .second, .val (.int k5), .val (.int k6), .val (.int (1 : Int32)), .val (.int v18), .val (.ref b116), .val (.ref b126), .val (.int r172), .val (.int r182), .val (.int r192), .val (.int r202), .val (.int m337), .val (.ref b193), .unset] [(.int (if (nar .byte (((nar .byte (k3.toInt8.toInt32)) ^^^ r172).toInt8.toInt32)) = (nar .byte (k3.toInt8.toInt32)) then (1 : Int32) else (0 : Int32)))])) _
      rw [← hr363]
      show Steps p.tables e below (T242.setTop (mkF m 366 #[.val (.int k1), .val (.int k2), .val (.int k3), .val (.long k4), .second, .val (.int k5), .val (.int k6), .val (.int (1 : Int32)), .val (.int v18), .val (.ref b116), .val (.ref b126), .val (.int r172), .val (.int r182), .val (.int r192), .val (.int r202), .val (.int m337), .val (.ref b193), .unset] [(.int r363)])) _
      refine XS.istore X242.here hx rfl (hb hby at_366) rfl (l' := #[.val (.int k1), .val (.int k2), .val (.int k3), .val (.long k4), .second, .val (.int k5), .val (.int k6), .val (.int (1 : Int32)), .val (.int v18), .val (.ref b116), .val (.ref b126), .val (.int r172), .val (.int r182), .val (.int r192), .val (.int r202), .val (.int m337), .val (.ref b193), .val (.int r363)]) rfl ?_
      show Steps p.tables e below (T242.setTop (mkF m 368 #[.val (.int k1), .val (.int k2), .val (.int k3), .val (.long k4), .second, .val (.int k5), .val (.int k6), .val (.int (1 : Int32)), .val (.int v18), .val (.ref b116), .val (.ref b126), .val (.int r172), .val (.int r182), .val (.int r192), .val (.int r202), .val (.int m337), .val (.ref b193), .val (.int r363)] [])) _
      refine XS.iload X242.here hx rfl (hb hby at_368) rfl ?_
      show Steps p.tables e below (T242.setTop (mkF m 370 #[.val (.int k1), .val (.int k2), .val (.int k3), .val (.long k4), .second, .val (.int k5), .val (.int k6), .val (.int (1 : Int32)), .val (.int v18), .val (.ref b116), .val (.ref b126), .val (.int r172), .val (.int r182), .val (.int r192), .val (.int r202), .val (.int m337), .val (.ref b193), .val (.int r363)] [(.int r363)])) _
      refine XS.iload X242.here hx rfl (hb hby at_370) rfl ?_
      by_cases d243 : r363 = m337
      · skip
        show Steps p.tables e below (T242.setTop (mkF m 372 #[.val (.int k1), .val (.int k2), .val (.int k3), .val (.long k4), .second, .val (.int k5), .val (.int k6), .val (.int (1 : Int32)), .val (.int v18), .val (.ref b116), .val (.ref b126), .val (.int r172), .val (.int r182), .val (.int r192), .val (.int r202), .val (.int m337), .val (.ref b193), .val (.int r363)] [(.int m337), (.int r363)])) _
        refine XS.icmpNo X242.here hx rfl (hb hby at_372) rfl (teq d243).2 ?_
        show Steps p.tables e below (T242.setTop (mkF m 375 #[.val (.int k1), .val (.int k2), .val (.int k3), .val (.long k4), .second, .val (.int k5), .val (.int k6), .val (.int (1 : Int32)), .val (.int v18), .val (.ref b116), .val (.ref b126), .val (.int r172), .val (.int r182), .val (.int r192), .val (.int r202), .val (.int m337), .val (.ref b193), .val (.int r363)] [])) _
        refine XS.iconst X242.here hx rfl (hb hby at_375) ?_
        show Steps p.tables e below (T242.setTop (mkF m 376 #[.val (.int k1), .val (.int k2), .val (.int k3), .val (.long k4), .second, .val (.int k5), .val (.int k6), .val (.int (1 : Int32)), .val (.int v18), .val (.ref b116), .val (.ref b126), .val (.int r172), .val (.int r182), .val (.int r192), .val (.int r202), .val (.int m337), .val (.ref b193), .val (.int r363)] [(.int (1 : Int32))])) _
        refine XS.goto X242.here hx rfl (pc0 := 376) (pc' := 380) rfl (hb hby at_376) (by decide) (by decide) ?_
        show Steps p.tables e below (T242.setTop (mkF m 380 #[.val (.int k1), .val (.int k2), .val (.int k3), .val (.long k4), .second, .val (.int k5), .val (.int k6), .val (.int (1 : Int32)), .val (.int v18), .val (.ref b116), .val (.ref b126), .val (.int r172), .val (.int r182), .val (.int r192), .val (.int r202), .val (.int m337), .val (.ref b193), .val (.int r363)] [(.int (1 : Int32))])) _
        exact castTop (by simp only [hm380, if_pos d243]) kt
      · skip
        show Steps p.tables e below (T242.setTop (mkF m 372 #[.val (.int k1), .val (.int k2), .val (.int k3), .val (.long k4), .second, .val (.int k5), .val (.int k6), .val (.int (1 : Int32)), .val (.int v18), .val (.ref b116), .val (.ref b126), .val (.int r172), .val (.int r182), .val (.int r192), .val (.int r202), .val (.int m337), .val (.ref b193), .val (.int r363)] [(.int m337), (.int r363)])) _
        refine XS.icmpYes X242.here hx rfl (pc0 := 372) (pc' := 379) rfl (hb hby at_372) rfl (feq d243).2 (by decide) (by decide) ?_
        show Steps p.tables e below (T242.setTop (mkF m 379 #[.val (.int k1), .val (.int k2), .val (.int k3), .val (.long k4), .second, .val (.int k5), .val (.int k6), .val (.int (1 : Int32)), .val (.int v18), .val (.ref b116), .val (.ref b126), .val (.int r172), .val (.int r182), .val (.int r192), .val (.int r202), .val (.int m337), .val (.ref b193), .val (.int r363)] [])) _
        refine XS.iconst X242.here hx rfl (hb hby at_379) ?_
        show Steps p.tables e below (T242.setTop (mkF m 380 #[.val (.int k1), .val (.int k2), .val (.int k3), .val (.long k4), .second, .val (.int k5), .val (.int k6), .val (.int (1 : Int32)), .val (.int v18), .val (.ref b116), .val (.ref b126), .val (.int r172), .val (.int r182), .val (.int r192), .val (.int r202), .val (.int m337), .val (.ref b193), .val (.int r363)] [(.int (0 : Int32))])) _
        exact castTop (by simp only [hm380, if_neg d243]) kt
    obtain ⟨fs, hr, hrun, hended, hW, hsame⟩ := X242.leave (v := some (Value.int (nar .boolean m380))) (fun h => by rw [Bd.returns] at h; cases h)
    have hres245 : (nar .boolean m380) = (1 : Int32) := (own_leaf_0_380_s1 k1 k2 k3 k4 k5 k6 hv6 v18 hv18 r172 hr172 r182 hr182 r192 hr192 r202 hr202 m337 hm337 hp242_hat0 hp242_hat1 r363 hr363 m380 hm380)
    have hE := hS.ended hW (show _ ≤ T242.heap.size from e242.symm ▸ hk240) hsame
    refine ⟨_, _, pre244 _ ?_, hrun, hended, _, _, rfl, ?_, ⟨_, rfl⟩, hE.1, hE.2.1, hE.2.2.mono (by decide) (by decide)⟩
    · skip
      show Steps p.tables e below (T242.setTop (mkF m 380 #[.val (.int k1), .val (.int k2), .val (.int k3), .val (.long k4), .second, .val (.int k5), .val (.int k6), .val (.int (1 : Int32)), .val (.int v18), .val (.ref b116), .val (.ref b126), .val (.int r172), .val (.int r182), .val (.int r192), .val (.int r202), .val (.int m337), .val (.ref b193), .val (.int r363)] [(.int m380)])) _
      exact retN X242 hx (t := .boolean) Bd.returns (by simp) (hb hby at_380) hr
    · show Q0 Z k1 k2 k3 k4 k5 k6 h0 n0 _ T242.heap _
      rw [e242]
      exact ⟨congrArg (fun z => some (Value.int z)) hres245, N242⟩
  · subst hs2
    obtain ⟨v18, hv18⟩ : ∃ z_q : Int32, z_q = ((k2 &&& (2147483647 : Int32)) % (7 : Int32)) := ⟨_, rfl⟩
    obtain ⟨T246, hX246, kx246, X246, e246, E246, A246, st246⟩ := newP X0 hx hZ (hw _ (List.mem_of_getElem? (i := 1) rfl)) e0 (g := (mkF m 22 #[.val (.int k1), .val (.int k2), .val (.int k3), .val (.long k4), .second, .val (.int k5), .val (.int k6), .val (.int (2 : Int32)), .val (.int v18), .unset, .unset, .unset, .unset, .unset, .unset, .unset, .unset, .unset] [(.int (2 : Int32))])) rfl (hb hby at_22) rfl (by decide) (cap := 2) (by decide) (by decide) (by decide) (by decide)
    obtain ⟨b246, g246⟩ : ∃ z_q, z_q = h0.size := ⟨_, rfl⟩
    rw [← g246] at A246 st246
    have g_b246 : n0 ≤ b246 := Nat.le_trans Z0 (Nat.le_of_eq g246.symm)
    have sz_b246 : h0.size ≤ b246 := Nat.le_trans K0.1 (Nat.le_of_eq g246.symm)
    have Z247 : n0 ≤ hX246.size := Nat.le_trans Z0 E246.1
    have hk248 := Nat.le_trans (Nat.zero_le _) (show _ ≤ hX246.size from E246.1)
    have K249 : Keep h0 hX246 [] := K0.ext E246
    have F250 : Arv Z hX246 b246 kx246 .byte (2 : Int32) [(.int (0 : Int32)), (.int (0 : Int32))] (.int (0 : Int32)) := (Arv.new A246 (by decide)).pad (pad_rep [] (.int (0 : Int32)) 2)
    obtain ⟨cl251, Ar251, q251, S251, M251, H251, G251⟩ := id F250
    have hin251 : ¬ ((0 : Int32) < 0 ∨ cl251.slots.size ≤ ((0 : Int32)).toNatClampNeg) := inb_of S251 ⟨by decide, by decide⟩
    obtain ⟨T251, hX251, X251, e251, W251, st251⟩ := stB X246 hx hZ e246 Ar251 (j := (0 : Int32)) hin251 (g := (mkF m 36 #[.val (.int k1), .val (.int k2), .val (.int k3), .val (.long k4), .second, .val (.int k5), .val (.int k6), .val (.int (2 : Int32)), .val (.int v18), .val (.ref b246), .unset, .unset, .unset, .unset, .unset, .unset, .unset, .unset] [(.int (k3.toInt8.toInt32)), (.int (0 : Int32)), (.ref b246)])) rfl rfl (hb hby at_36)
    have F252 : Arv Z hX251 b246 kx246 .byte (2 : Int32) [(.int (nar .byte (k3.toInt8.toInt32))), (.int (0 : Int32))] (.int (0 : Int32)) := Arv.set Ar251 q251 S251 M251 H251 G251 (fits_nar_byte _) W251 0 rfl (Nat.le_of_ble_eq_true rfl)
    have N251 := Fr.snoc X251 N0 g_b246
    have Z253 : n0 ≤ hX251.size := Nat.le_trans Z247 (Keep.of_wr W251).1
    have hk254 := Nat.le_trans hk248 (show _ ≤ hX251.size from (Keep.of_wr W251).1)
    have K255 : Keep h0 hX251 [] := K249.wr W251 (Or.inr sz_b246)
    obtain ⟨cl256, Ar256, q256, S256, M256, H256, G256⟩ := id F252
    have hin256 : ¬ ((1 : Int32) < 0 ∨ cl256.slots.size ≤ ((1 : Int32)).toNatClampNeg) := inb_of S256 ⟨by decide, by decide⟩
    obtain ⟨T256, hX256, X256, e256, W256, st256⟩ := stB X251 hx hZ e251 Ar256 (j := (1 : Int32)) hin256 (g := (mkF m 51 #[.val (.int k1), .val (.int k2), .val (.int k3), .val (.long k4), .second, .val (.int k5), .val (.int k6), .val (.int (2 : Int32)), .val (.int v18), .val (.ref b246), .unset, .unset, .unset, .unset, .unset, .unset, .unset, .unset] [(.int ((k3 >>> ((8 : Int32) &&& 31)).toInt8.toInt32)), (.int (1 : Int32)), (.ref b246)])) rfl rfl (hb hby at_51)
    have F257 : Arv Z hX256 b246 kx246 .byte (2 : Int32) [(.int (nar .byte (k3.toInt8.toInt32))), (.int (nar .byte ((k3 >>> ((8 : Int32) &&& 31)).toInt8.toInt32)))] (.int (0 : Int32)) := Arv.set Ar256 q256 S256 M256 H256 G256 (fits_nar_byte _) W256 1 rfl (Nat.le_of_ble_eq_true rfl)
    have N256 := Fr.snoc X256 N251 g_b246
    have Z258 : n0 ≤ hX256.size := Nat.le_trans Z253 (Keep.of_wr W256).1
    have hk259 := Nat.le_trans hk254 (show _ ≤ hX256.size from (Keep.of_wr W256).1)
    have K260 : Keep h0 hX256 [] := K255.wr W256 (Or.inr sz_b246)
    obtain ⟨T261, hX261, kx261, X261, e261, E261, A261, st261⟩ := newP X256 hx hZ (hw _ (List.mem_of_getElem? (i := 1) rfl)) e256 (g := (mkF m 84 #[.val (.int k1), .val (.int k2), .val (.int k3), .val (.long k4), .second, .val (.int k5), .val (.int k6), .val (.int (2 : Int32)), .val (.int v18), .val (.ref b246), .unset, .unset, .unset, .unset, .unset, .unset, .unset, .unset] [(.int (8 : Int32))])) rfl (hb hby at_84) rfl (by decide) (cap := 8) (by decide) (by decide) (by decide) (by decide)
    obtain ⟨b261, g261⟩ : ∃ z_q, z_q = hX256.size := ⟨_, rfl⟩
    rw [← g261] at A261 st261
    have g_b261 : n0 ≤ b261 := Nat.le_trans Z258 (Nat.le_of_eq g261.symm)
    have sz_b261 : h0.size ≤ b261 := Nat.le_trans K260.1 (Nat.le_of_eq g261.symm)
    have ne_b246_b261 : b246 ≠ b261 := Nat.ne_of_lt (Nat.lt_of_lt_of_le F257.lt (Nat.le_of_eq g261.symm))
    have F262 : Arv Z hX261 b246 kx246 .byte (2 : Int32) [(.int (nar .byte (k3.toInt8.toInt32))), (.int (nar .byte ((k3 >>> ((8 : Int32) &&& 31)).toInt8.toInt32)))] (.int (0 : Int32)) := F257.ext E261
    have Z263 : n0 ≤ hX261.size := Nat.le_trans Z258 E261.1
    have hk264 := Nat.le_trans hk259 (show _ ≤ hX261.size from E261.1)
    have K265 : Keep h0 hX261 [] := K260.ext E261
    have F266 : Arv Z hX261 b261 kx261 .byte (8 : Int32) [(.int (0 : Int32)), (.int (0 : Int32)), (.int (0 : Int32)), (.int (0 : Int32)), (.int (0 : Int32)), (.int (0 : Int32)), (.int (0 : Int32)), (.int (0 : Int32))] (.int (0 : Int32)) := (Arv.new A261 (by decide)).pad (pad_rep [] (.int (0 : Int32)) 8)
    obtain ⟨cl267, Ar267, q267, S267, M267, H267, G267⟩ := id F266
    have hin267 : ¬ ((0 : Int32) < 0 ∨ cl267.slots.size ≤ ((0 : Int32)).toNatClampNeg) := inb_of S267 ⟨by decide, by decide⟩
    obtain ⟨T267, hX267, X267, e267, W267, st267⟩ := stB X261 hx hZ e261 Ar267 (j := (0 : Int32)) hin267 (g := (mkF m 94 #[.val (.int k1), .val (.int k2), .val (.int k3), .val (.long k4), .second, .val (.int k5), .val (.int k6), .val (.int (2 : Int32)), .val (.int v18), .val (.ref b246), .val (.ref b261), .unset, .unset, .unset, .unset, .unset, .unset, .unset] [(.int ((k4.toInt32).toInt8.toInt32)), (.int (0 : Int32)), (.ref b261)])) rfl rfl (hb hby at_94)
    have F268 : Arv Z hX267 b261 kx261 .byte (8 : Int32) [(.int (nar .byte ((k4.toInt32).toInt8.toInt32))), (.int (0 : Int32)), (.int (0 : Int32)), (.int (0 : Int32)), (.int (0 : Int32)), (.int (0 : Int32)), (.int (0 : Int32)), (.int (0 : Int32))] (.int (0 : Int32)) := Arv.set Ar267 q267 S267 M267 H267 G267 (fits_nar_byte _) W267 0 rfl (Nat.le_of_ble_eq_true rfl)
    have N267 := Fr.snoc X267 N256 g_b261
    have F269 : Arv Z hX267 b246 kx246 .byte (2 : Int32) [(.int (nar .byte (k3.toInt8.toInt32))), (.int (nar .byte ((k3 >>> ((8 : Int32) &&& 31)).toInt8.toInt32)))] (.int (0 : Int32)) := F262.other W267 ne_b246_b261
    have Z270 : n0 ≤ hX267.size := Nat.le_trans Z263 (Keep.of_wr W267).1
    have hk271 := Nat.le_trans hk264 (show _ ≤ hX267.size from (Keep.of_wr W267).1)
    have K272 : Keep h0 hX267 [] := K265.wr W267 (Or.inr sz_b261)
    obtain ⟨cl273, Ar273, q273, S273, M273, H273, G273⟩ := id F268
    have hin273 : ¬ ((1 : Int32) < 0 ∨ cl273.slots.size ≤ ((1 : Int32)).toNatClampNeg) := inb_of S273 ⟨by decide, by decide⟩
    obtain ⟨T273, hX273, X273, e273, W273, st273⟩ := stB X267 hx hZ e267 Ar273 (j := (1 : Int32)) hin273 (g := (mkF m 104 #[.val (.int k1), .val (.int k2), .val (.int k3), .val (.long k4), .second, .val (.int k5), .val (.int k6), .val (.int (2 : Int32)), .val (.int v18), .val (.ref b246), .val (.ref b261), .unset, .unset, .unset, .unset, .unset, .unset, .unset] [(.int (((k4 >>> ((8 : Int32) &&& 0x3f).toInt64).toInt32).toInt8.toInt32)), (.int (1 : Int32)), (.ref b261)])) rfl rfl (hb hby at_104)
    have F274 : Arv Z hX273 b261 kx261 .byte (8 : Int32) [(.int (nar .byte ((k4.toInt32).toInt8.toInt32))), (.int (nar .byte (((k4 >>> ((8 : Int32) &&& 0x3f).toInt64).toInt32).toInt8.toInt32))), (.int (0 : Int32)), (.int (0 : Int32)), (.int (0 : Int32)), (.int (0 : Int32)), (.int (0 : Int32)), (.int (0 : Int32))] (.int (0 : Int32)) := Arv.set Ar273 q273 S273 M273 H273 G273 (fits_nar_byte _) W273 1 rfl (Nat.le_of_ble_eq_true rfl)
    have N273 := Fr.snoc X273 N267 g_b261
    have F275 : Arv Z hX273 b246 kx246 .byte (2 : Int32) [(.int (nar .byte (k3.toInt8.toInt32))), (.int (nar .byte ((k3 >>> ((8 : Int32) &&& 31)).toInt8.toInt32)))] (.int (0 : Int32)) := F269.other W273 ne_b246_b261
    have Z276 : n0 ≤ hX273.size := Nat.le_trans Z270 (Keep.of_wr W273).1
    have hk277 := Nat.le_trans hk271 (show _ ≤ hX273.size from (Keep.of_wr W273).1)
    have K278 : Keep h0 hX273 [] := K272.wr W273 (Or.inr sz_b261)
    obtain ⟨cl279, Ar279, q279, S279, M279, H279, G279⟩ := id F274
    have hin279 : ¬ ((2 : Int32) < 0 ∨ cl279.slots.size ≤ ((2 : Int32)).toNatClampNeg) := inb_of S279 ⟨by decide, by decide⟩
    obtain ⟨T279, hX279, X279, e279, W279, st279⟩ := stB X273 hx hZ e273 Ar279 (j := (2 : Int32)) hin279 (g := (mkF m 114 #[.val (.int k1), .val (.int k2), .val (.int k3), .val (.long k4), .second, .val (.int k5), .val (.int k6), .val (.int (2 : Int32)), .val (.int v18), .val (.ref b246), .val (.ref b261), .unset, .unset, .unset, .unset, .unset, .unset, .unset] [(.int (((k4 >>> ((16 : Int32) &&& 0x3f).toInt64).toInt32).toInt8.toInt32)), (.int (2 : Int32)), (.ref b261)])) rfl rfl (hb hby at_114)
    have F280 : Arv Z hX279 b261 kx261 .byte (8 : Int32) [(.int (nar .byte ((k4.toInt32).toInt8.toInt32))), (.int (nar .byte (((k4 >>> ((8 : Int32) &&& 0x3f).toInt64).toInt32).toInt8.toInt32))), (.int (nar .byte (((k4 >>> ((16 : Int32) &&& 0x3f).toInt64).toInt32).toInt8.toInt32))), (.int (0 : Int32)), (.int (0 : Int32)), (.int (0 : Int32)), (.int (0 : Int32)), (.int (0 : Int32))] (.int (0 : Int32)) := Arv.set Ar279 q279 S279 M279 H279 G279 (fits_nar_byte _) W279 2 rfl (Nat.le_of_ble_eq_true rfl)
    have N279 := Fr.snoc X279 N273 g_b261
    have F281 : Arv Z hX279 b246 kx246 .byte (2 : Int32) [(.int (nar .byte (k3.toInt8.toInt32))), (.int (nar .byte ((k3 >>> ((8 : Int32) &&& 31)).toInt8.toInt32)))] (.int (0 : Int32)) := F275.other W279 ne_b246_b261
    have Z282 : n0 ≤ hX279.size := Nat.le_trans Z276 (Keep.of_wr W279).1
    have hk283 := Nat.le_trans hk277 (show _ ≤ hX279.size from (Keep.of_wr W279).1)
    have K284 : Keep h0 hX279 [] := K278.wr W279 (Or.inr sz_b261)
    obtain ⟨cl285, Ar285, q285, S285, M285, H285, G285⟩ := id F280
    have hin285 : ¬ ((3 : Int32) < 0 ∨ cl285.slots.size ≤ ((3 : Int32)).toNatClampNeg) := inb_of S285 ⟨by decide, by decide⟩
    obtain ⟨T285, hX285, X285, e285, W285, st285⟩ := stB X279 hx hZ e279 Ar285 (j := (3 : Int32)) hin285 (g := (mkF m 124 #[.val (.int k1), .val (.int k2), .val (.int k3), .val (.long k4), .second, .val (.int k5), .val (.int k6), .val (.int (2 : Int32)), .val (.int v18), .val (.ref b246), .val (.ref b261), .unset, .unset, .unset, .unset, .unset, .unset, .unset] [(.int (((k4 >>> ((24 : Int32) &&& 0x3f).toInt64).toInt32).toInt8.toInt32)), (.int (3 : Int32)), (.ref b261)])) rfl rfl (hb hby at_124)
    have F286 : Arv Z hX285 b261 kx261 .byte (8 : Int32) [(.int (nar .byte ((k4.toInt32).toInt8.toInt32))), (.int (nar .byte (((k4 >>> ((8 : Int32) &&& 0x3f).toInt64).toInt32).toInt8.toInt32))), (.int (nar .byte (((k4 >>> ((16 : Int32) &&& 0x3f).toInt64).toInt32).toInt8.toInt32))), (.int (nar .byte (((k4 >>> ((24 : Int32) &&& 0x3f).toInt64).toInt32).toInt8.toInt32))), (.int (0 : Int32)), (.int (0 : Int32)), (.int (0 : Int32)), (.int (0 : Int32))] (.int (0 : Int32)) := Arv.set Ar285 q285 S285 M285 H285 G285 (fits_nar_byte _) W285 3 rfl (Nat.le_of_ble_eq_true rfl)
    have N285 := Fr.snoc X285 N279 g_b261
    have F287 : Arv Z hX285 b246 kx246 .byte (2 : Int32) [(.int (nar .byte (k3.toInt8.toInt32))), (.int (nar .byte ((k3 >>> ((8 : Int32) &&& 31)).toInt8.toInt32)))] (.int (0 : Int32)) := F281.other W285 ne_b246_b261
    have Z288 : n0 ≤ hX285.size := Nat.le_trans Z282 (Keep.of_wr W285).1
    have hk289 := Nat.le_trans hk283 (show _ ≤ hX285.size from (Keep.of_wr W285).1)
    have K290 : Keep h0 hX285 [] := K284.wr W285 (Or.inr sz_b261)
    obtain ⟨cl291, Ar291, q291, S291, M291, H291, G291⟩ := id F286
    have hin291 : ¬ ((4 : Int32) < 0 ∨ cl291.slots.size ≤ ((4 : Int32)).toNatClampNeg) := inb_of S291 ⟨by decide, by decide⟩
    obtain ⟨T291, hX291, X291, e291, W291, st291⟩ := stB X285 hx hZ e285 Ar291 (j := (4 : Int32)) hin291 (g := (mkF m 134 #[.val (.int k1), .val (.int k2), .val (.int k3), .val (.long k4), .second, .val (.int k5), .val (.int k6), .val (.int (2 : Int32)), .val (.int v18), .val (.ref b246), .val (.ref b261), .unset, .unset, .unset, .unset, .unset, .unset, .unset] [(.int (((k4 >>> ((32 : Int32) &&& 0x3f).toInt64).toInt32).toInt8.toInt32)), (.int (4 : Int32)), (.ref b261)])) rfl rfl (hb hby at_134)
    have F292 : Arv Z hX291 b261 kx261 .byte (8 : Int32) [(.int (nar .byte ((k4.toInt32).toInt8.toInt32))), (.int (nar .byte (((k4 >>> ((8 : Int32) &&& 0x3f).toInt64).toInt32).toInt8.toInt32))), (.int (nar .byte (((k4 >>> ((16 : Int32) &&& 0x3f).toInt64).toInt32).toInt8.toInt32))), (.int (nar .byte (((k4 >>> ((24 : Int32) &&& 0x3f).toInt64).toInt32).toInt8.toInt32))), (.int (nar .byte (((k4 >>> ((32 : Int32) &&& 0x3f).toInt64).toInt32).toInt8.toInt32))), (.int (0 : Int32)), (.int (0 : Int32)), (.int (0 : Int32))] (.int (0 : Int32)) := Arv.set Ar291 q291 S291 M291 H291 G291 (fits_nar_byte _) W291 4 rfl (Nat.le_of_ble_eq_true rfl)
    have N291 := Fr.snoc X291 N285 g_b261
    have F293 : Arv Z hX291 b246 kx246 .byte (2 : Int32) [(.int (nar .byte (k3.toInt8.toInt32))), (.int (nar .byte ((k3 >>> ((8 : Int32) &&& 31)).toInt8.toInt32)))] (.int (0 : Int32)) := F287.other W291 ne_b246_b261
    have Z294 : n0 ≤ hX291.size := Nat.le_trans Z288 (Keep.of_wr W291).1
    have hk295 := Nat.le_trans hk289 (show _ ≤ hX291.size from (Keep.of_wr W291).1)
    have K296 : Keep h0 hX291 [] := K290.wr W291 (Or.inr sz_b261)
    obtain ⟨cl297, Ar297, q297, S297, M297, H297, G297⟩ := id F292
    have hin297 : ¬ ((5 : Int32) < 0 ∨ cl297.slots.size ≤ ((5 : Int32)).toNatClampNeg) := inb_of S297 ⟨by decide, by decide⟩
    obtain ⟨T297, hX297, X297, e297, W297, st297⟩ := stB X291 hx hZ e291 Ar297 (j := (5 : Int32)) hin297 (g := (mkF m 144 #[.val (.int k1), .val (.int k2), .val (.int k3), .val (.long k4), .second, .val (.int k5), .val (.int k6), .val (.int (2 : Int32)), .val (.int v18), .val (.ref b246), .val (.ref b261), .unset, .unset, .unset, .unset, .unset, .unset, .unset] [(.int (((k4 >>> ((40 : Int32) &&& 0x3f).toInt64).toInt32).toInt8.toInt32)), (.int (5 : Int32)), (.ref b261)])) rfl rfl (hb hby at_144)
    have F298 : Arv Z hX297 b261 kx261 .byte (8 : Int32) [(.int (nar .byte ((k4.toInt32).toInt8.toInt32))), (.int (nar .byte (((k4 >>> ((8 : Int32) &&& 0x3f).toInt64).toInt32).toInt8.toInt32))), (.int (nar .byte (((k4 >>> ((16 : Int32) &&& 0x3f).toInt64).toInt32).toInt8.toInt32))), (.int (nar .byte (((k4 >>> ((24 : Int32) &&& 0x3f).toInt64).toInt32).toInt8.toInt32))), (.int (nar .byte (((k4 >>> ((32 : Int32) &&& 0x3f).toInt64).toInt32).toInt8.toInt32))), (.int (nar .byte (((k4 >>> ((40 : Int32) &&& 0x3f).toInt64).toInt32).toInt8.toInt32))), (.int (0 : Int32)), (.int (0 : Int32))] (.int (0 : Int32)) := Arv.set Ar297 q297 S297 M297 H297 G297 (fits_nar_byte _) W297 5 rfl (Nat.le_of_ble_eq_true rfl)
    have N297 := Fr.snoc X297 N291 g_b261
    have F299 : Arv Z hX297 b246 kx246 .byte (2 : Int32) [(.int (nar .byte (k3.toInt8.toInt32))), (.int (nar .byte ((k3 >>> ((8 : Int32) &&& 31)).toInt8.toInt32)))] (.int (0 : Int32)) := F293.other W297 ne_b246_b261
    have Z300 : n0 ≤ hX297.size := Nat.le_trans Z294 (Keep.of_wr W297).1
    have hk301 := Nat.le_trans hk295 (show _ ≤ hX297.size from (Keep.of_wr W297).1)
    have K302 : Keep h0 hX297 [] := K296.wr W297 (Or.inr sz_b261)
    obtain ⟨cl303, Ar303, q303, S303, M303, H303, G303⟩ := id F298
    have hin303 : ¬ ((6 : Int32) < 0 ∨ cl303.slots.size ≤ ((6 : Int32)).toNatClampNeg) := inb_of S303 ⟨by decide, by decide⟩
    obtain ⟨T303, hX303, X303, e303, W303, st303⟩ := stB X297 hx hZ e297 Ar303 (j := (6 : Int32)) hin303 (g := (mkF m 155 #[.val (.int k1), .val (.int k2), .val (.int k3), .val (.long k4), .second, .val (.int k5), .val (.int k6), .val (.int (2 : Int32)), .val (.int v18), .val (.ref b246), .val (.ref b261), .unset, .unset, .unset, .unset, .unset, .unset, .unset] [(.int (((k4 >>> ((48 : Int32) &&& 0x3f).toInt64).toInt32).toInt8.toInt32)), (.int (6 : Int32)), (.ref b261)])) rfl rfl (hb hby at_155)
    have F304 : Arv Z hX303 b261 kx261 .byte (8 : Int32) [(.int (nar .byte ((k4.toInt32).toInt8.toInt32))), (.int (nar .byte (((k4 >>> ((8 : Int32) &&& 0x3f).toInt64).toInt32).toInt8.toInt32))), (.int (nar .byte (((k4 >>> ((16 : Int32) &&& 0x3f).toInt64).toInt32).toInt8.toInt32))), (.int (nar .byte (((k4 >>> ((24 : Int32) &&& 0x3f).toInt64).toInt32).toInt8.toInt32))), (.int (nar .byte (((k4 >>> ((32 : Int32) &&& 0x3f).toInt64).toInt32).toInt8.toInt32))), (.int (nar .byte (((k4 >>> ((40 : Int32) &&& 0x3f).toInt64).toInt32).toInt8.toInt32))), (.int (nar .byte (((k4 >>> ((48 : Int32) &&& 0x3f).toInt64).toInt32).toInt8.toInt32))), (.int (0 : Int32))] (.int (0 : Int32)) := Arv.set Ar303 q303 S303 M303 H303 G303 (fits_nar_byte _) W303 6 rfl (Nat.le_of_ble_eq_true rfl)
    have N303 := Fr.snoc X303 N297 g_b261
    have F305 : Arv Z hX303 b246 kx246 .byte (2 : Int32) [(.int (nar .byte (k3.toInt8.toInt32))), (.int (nar .byte ((k3 >>> ((8 : Int32) &&& 31)).toInt8.toInt32)))] (.int (0 : Int32)) := F299.other W303 ne_b246_b261
    have Z306 : n0 ≤ hX303.size := Nat.le_trans Z300 (Keep.of_wr W303).1
    have hk307 := Nat.le_trans hk301 (show _ ≤ hX303.size from (Keep.of_wr W303).1)
    have K308 : Keep h0 hX303 [] := K302.wr W303 (Or.inr sz_b261)
    obtain ⟨cl309, Ar309, q309, S309, M309, H309, G309⟩ := id F304
    have hin309 : ¬ ((7 : Int32) < 0 ∨ cl309.slots.size ≤ ((7 : Int32)).toNatClampNeg) := inb_of S309 ⟨by decide, by decide⟩
    obtain ⟨T309, hX309, X309, e309, W309, st309⟩ := stB X303 hx hZ e303 Ar309 (j := (7 : Int32)) hin309 (g := (mkF m 166 #[.val (.int k1), .val (.int k2), .val (.int k3), .val (.long k4), .second, .val (.int k5), .val (.int k6), .val (.int (2 : Int32)), .val (.int v18), .val (.ref b246), .val (.ref b261), .unset, .unset, .unset, .unset, .unset, .unset, .unset] [(.int (((k4 >>> ((56 : Int32) &&& 0x3f).toInt64).toInt32).toInt8.toInt32)), (.int (7 : Int32)), (.ref b261)])) rfl rfl (hb hby at_166)
    have F310 : Arv Z hX309 b261 kx261 .byte (8 : Int32) [(.int (nar .byte ((k4.toInt32).toInt8.toInt32))), (.int (nar .byte (((k4 >>> ((8 : Int32) &&& 0x3f).toInt64).toInt32).toInt8.toInt32))), (.int (nar .byte (((k4 >>> ((16 : Int32) &&& 0x3f).toInt64).toInt32).toInt8.toInt32))), (.int (nar .byte (((k4 >>> ((24 : Int32) &&& 0x3f).toInt64).toInt32).toInt8.toInt32))), (.int (nar .byte (((k4 >>> ((32 : Int32) &&& 0x3f).toInt64).toInt32).toInt8.toInt32))), (.int (nar .byte (((k4 >>> ((40 : Int32) &&& 0x3f).toInt64).toInt32).toInt8.toInt32))), (.int (nar .byte (((k4 >>> ((48 : Int32) &&& 0x3f).toInt64).toInt32).toInt8.toInt32))), (.int (nar .byte (((k4 >>> ((56 : Int32) &&& 0x3f).toInt64).toInt32).toInt8.toInt32)))] (.int (0 : Int32)) := Arv.set Ar309 q309 S309 M309 H309 G309 (fits_nar_byte _) W309 7 rfl (Nat.le_of_ble_eq_true rfl)
    have N309 := Fr.snoc X309 N303 g_b261
    have F311 : Arv Z hX309 b246 kx246 .byte (2 : Int32) [(.int (nar .byte (k3.toInt8.toInt32))), (.int (nar .byte ((k3 >>> ((8 : Int32) &&& 31)).toInt8.toInt32)))] (.int (0 : Int32)) := F305.other W309 ne_b246_b261
    have Z312 : n0 ≤ hX309.size := Nat.le_trans Z306 (Keep.of_wr W309).1
    have hk313 := Nat.le_trans hk307 (show _ ≤ hX309.size from (Keep.of_wr W309).1)
    have K314 : Keep h0 hX309 [] := K308.wr W309 (Or.inr sz_b261)
    obtain ⟨_, _, ⟨T315, L315, k315, n315⟩, -, X315, ⟨Lc315, hQ315, l315, y315, z315⟩, st315⟩ := Jvm.LawKit.callS X309 hx (y := (⟨"com/example/marcotte/marcotte/NameWrittenAtPinLaw", "delta", "(III)B"⟩ : MethodName)) hown (mvT hZ (hw _ (List.mem_of_getElem? (i := 2) rfl))) (mvT hZ (hw _ (List.mem_of_getElem? (i := 3) rfl))) (mvT hZ (hw _ (List.mem_of_getElem? (i := 4) rfl))) (mvT hZ (hw _ (List.mem_of_getElem? (i := 5) rfl))) (by decide) (backOf (W := 0) (rm1 l Z a0 hw [] k6 k5 (0 : Int32) hX309 n0 Z312 ) hZ (hw _ (List.mem_of_getElem? (i := 5) rfl)) (hw _ (List.mem_of_getElem? (i := 4) rfl)) (by decide) (by decide)) (g := (mkF m 172 #[.val (.int k1), .val (.int k2), .val (.int k3), .val (.long k4), .second, .val (.int k5), .val (.int k6), .val (.int (2 : Int32)), .val (.int v18), .val (.ref b246), .val (.ref b261), .unset, .unset, .unset, .unset, .unset, .unset, .unset] [(.int (0 : Int32)), (.int k5), (.int k6)])) rfl (by rw [hml]; rfl) (argsL := [(.int k6), (.int k5), (.int (0 : Int32))]) (rest := []) (lenOf pd_1 rfl) rfl (by show 2 * 0 + _ ≤ _; exact Nat.le_of_eq rfl) (hb hby at_172) (fun _ _ => ⟨rfl, e309, (by decide : 2 + 0 ≤ _), (by decide : 10 + 0 ≤ _)⟩)
    dsimp only [Pt.U, Pt.locs, Pt.cells, Pt.slots] at X315 l315 y315 z315 st315 hQ315
    subst l315 y315 z315
    obtain ⟨rfl, N315q, e315⟩ := hQ315
    have N315 := Fr.app N309 N315q
    obtain ⟨r172, hr172⟩ : ∃ z_q : Int32, z_q = (own_f1 k6 k5 (0 : Int32)) := ⟨_, rfl⟩
    obtain ⟨_, _, ⟨T316, L316, k316, n316⟩, -, X316, ⟨Lc316, hQ316, l316, y316, z316⟩, st316⟩ := Jvm.LawKit.callS X315 hx (y := (⟨"com/example/marcotte/marcotte/NameWrittenAtPinLaw", "delta", "(III)B"⟩ : MethodName)) hown (mvT hZ (hw _ (List.mem_of_getElem? (i := 2) rfl))) (mvT hZ (hw _ (List.mem_of_getElem? (i := 3) rfl))) (mvT hZ (hw _ (List.mem_of_getElem? (i := 4) rfl))) (mvT hZ (hw _ (List.mem_of_getElem? (i := 5) rfl))) (by decide) (backOf (W := 0) (rm1 l Z a0 hw [] k6 k5 (1 : Int32) hX309 n0 Z312 ) hZ (hw _ (List.mem_of_getElem? (i := 5) rfl)) (hw _ (List.mem_of_getElem? (i := 4) rfl)) (by decide) (by decide)) (g := (mkF m 182 #[.val (.int k1), .val (.int k2), .val (.int k3), .val (.long k4), .second, .val (.int k5), .val (.int k6), .val (.int (2 : Int32)), .val (.int v18), .val (.ref b246), .val (.ref b261), .val (.int r172), .unset, .unset, .unset, .unset, .unset, .unset] [(.int (1 : Int32)), (.int k5), (.int k6)])) rfl (by rw [hml]; rfl) (argsL := [(.int k6), (.int k5), (.int (1 : Int32))]) (rest := []) (lenOf pd_1 rfl) rfl (by show 2 * 0 + _ ≤ _; exact Nat.le_of_eq rfl) (hb hby at_182) (fun _ _ => ⟨rfl, e315, (by decide : 2 + 0 ≤ _), (by decide : 10 + 0 ≤ _)⟩)
    dsimp only [Pt.U, Pt.locs, Pt.cells, Pt.slots] at X316 l316 y316 z316 st316 hQ316
    subst l316 y316 z316
    obtain ⟨rfl, N316q, e316⟩ := hQ316
    have N316 := Fr.app N315 N316q
    obtain ⟨r182, hr182⟩ : ∃ z_q : Int32, z_q = (own_f1 k6 k5 (1 : Int32)) := ⟨_, rfl⟩
    obtain ⟨_, _, ⟨T317, L317, k317, n317⟩, -, X317, ⟨Lc317, hQ317, l317, y317, z317⟩, st317⟩ := Jvm.LawKit.callS X316 hx (y := (⟨"com/example/marcotte/marcotte/NameWrittenAtPinLaw", "delta", "(III)B"⟩ : MethodName)) hown (mvT hZ (hw _ (List.mem_of_getElem? (i := 2) rfl))) (mvT hZ (hw _ (List.mem_of_getElem? (i := 3) rfl))) (mvT hZ (hw _ (List.mem_of_getElem? (i := 4) rfl))) (mvT hZ (hw _ (List.mem_of_getElem? (i := 5) rfl))) (by decide) (backOf (W := 0) (rm1 l Z a0 hw [] k6 k5 (2 : Int32) hX309 n0 Z312 ) hZ (hw _ (List.mem_of_getElem? (i := 5) rfl)) (hw _ (List.mem_of_getElem? (i := 4) rfl)) (by decide) (by decide)) (g := (mkF m 192 #[.val (.int k1), .val (.int k2), .val (.int k3), .val (.long k4), .second, .val (.int k5), .val (.int k6), .val (.int (2 : Int32)), .val (.int v18), .val (.ref b246), .val (.ref b261), .val (.int r172), .val (.int r182), .unset, .unset, .unset, .unset, .unset] [(.int (2 : Int32)), (.int k5), (.int k6)])) rfl (by rw [hml]; rfl) (argsL := [(.int k6), (.int k5), (.int (2 : Int32))]) (rest := []) (lenOf pd_1 rfl) rfl (by show 2 * 0 + _ ≤ _; exact Nat.le_of_eq rfl) (hb hby at_192) (fun _ _ => ⟨rfl, e316, (by decide : 2 + 0 ≤ _), (by decide : 10 + 0 ≤ _)⟩)
    dsimp only [Pt.U, Pt.locs, Pt.cells, Pt.slots] at X317 l317 y317 z317 st317 hQ317
    subst l317 y317 z317
    obtain ⟨rfl, N317q, e317⟩ := hQ317
    have N317 := Fr.app N316 N317q
    obtain ⟨r192, hr192⟩ : ∃ z_q : Int32, z_q = (own_f1 k6 k5 (2 : Int32)) := ⟨_, rfl⟩
    obtain ⟨_, _, ⟨T318, L318, k318, n318⟩, -, X318, ⟨Lc318, hQ318, l318, y318, z318⟩, st318⟩ := Jvm.LawKit.callS X317 hx (y := (⟨"com/example/marcotte/marcotte/NameWrittenAtPinLaw", "delta", "(III)B"⟩ : MethodName)) hown (mvT hZ (hw _ (List.mem_of_getElem? (i := 2) rfl))) (mvT hZ (hw _ (List.mem_of_getElem? (i := 3) rfl))) (mvT hZ (hw _ (List.mem_of_getElem? (i := 4) rfl))) (mvT hZ (hw _ (List.mem_of_getElem? (i := 5) rfl))) (by decide) (backOf (W := 0) (rm1 l Z a0 hw [] k6 k5 (3 : Int32) hX309 n0 Z312 ) hZ (hw _ (List.mem_of_getElem? (i := 5) rfl)) (hw _ (List.mem_of_getElem? (i := 4) rfl)) (by decide) (by decide)) (g := (mkF m 202 #[.val (.int k1), .val (.int k2), .val (.int k3), .val (.long k4), .second, .val (.int k5), .val (.int k6), .val (.int (2 : Int32)), .val (.int v18), .val (.ref b246), .val (.ref b261), .val (.int r172), .val (.int r182), .val (.int r192), .unset, .unset, .unset, .unset] [(.int (3 : Int32)), (.int k5), (.int k6)])) rfl (by rw [hml]; rfl) (argsL := [(.int k6), (.int k5), (.int (3 : Int32))]) (rest := []) (lenOf pd_1 rfl) rfl (by show 2 * 0 + _ ≤ _; exact Nat.le_of_eq rfl) (hb hby at_202) (fun _ _ => ⟨rfl, e317, (by decide : 2 + 0 ≤ _), (by decide : 10 + 0 ≤ _)⟩)
    dsimp only [Pt.U, Pt.locs, Pt.cells, Pt.slots] at X318 l318 y318 z318 st318 hQ318
    subst l318 y318 z318
    obtain ⟨rfl, N318q, e318⟩ := hQ318
    have N318 := Fr.app N317 N318q
    obtain ⟨r202, hr202⟩ : ∃ z_q : Int32, z_q = (own_f1 k6 k5 (3 : Int32)) := ⟨_, rfl⟩
    obtain ⟨cl319, Ar319, q319, S319, M319, H319, G319⟩ := id F311
    have hin319 : ¬ ((0 : Int32) < 0 ∨ cl319.slots.size ≤ ((0 : Int32)).toNatClampNeg) := inb_of S319 ⟨by decide, by decide⟩
    have hat319 : cl319.slots[((0 : Int32)).toNatClampNeg]? = some (.int (nar .byte (k3.toInt8.toInt32))) := Has.at H319 hin319 rfl
    obtain ⟨cl320, Ar320, q320, S320, M320, H320, G320⟩ := id F310.arh
    have hin320 : ¬ (v18 < 0 ∨ cl320.slots.size ≤ (v18).toNatClampNeg) := inb_of S320 (own_inb_0_224_s2 k1 k2 k3 k4 k5 k6 hv6 v18 hv18 r172 hr172 r182 hr182 r192 hr192 r202 hr202)
    obtain ⟨T320, hX320, X320, e320, W320, st320⟩ := stB X318 hx hZ e318 Ar320 (j := v18) hin320 (g := (mkF m 224 #[.val (.int k1), .val (.int k2), .val (.int k3), .val (.long k4), .second, .val (.int k5), .val (.int k6), .val (.int (2 : Int32)), .val (.int v18), .val (.ref b246), .val (.ref b261), .val (.int r172), .val (.int r182), .val (.int r192), .val (.int r202), .unset, .unset, .unset] [(.int (((nar .byte (k3.toInt8.toInt32)) ^^^ r172).toInt8.toInt32)), (.int v18), (.ref b261)])) rfl rfl (hb hby at_224)
    have F321 : Arh Z hX320 b261 kx261 .byte (8 : Int32) [(v18, (.int (nar .byte (((nar .byte (k3.toInt8.toInt32)) ^^^ r172).toInt8.toInt32))))] [(.int (nar .byte ((k4.toInt32).toInt8.toInt32))), (.int (nar .byte (((k4 >>> ((8 : Int32) &&& 0x3f).toInt64).toInt32).toInt8.toInt32))), (.int (nar .byte (((k4 >>> ((16 : Int32) &&& 0x3f).toInt64).toInt32).toInt8.toInt32))), (.int (nar .byte (((k4 >>> ((24 : Int32) &&& 0x3f).toInt64).toInt32).toInt8.toInt32))), (.int (nar .byte (((k4 >>> ((32 : Int32) &&& 0x3f).toInt64).toInt32).toInt8.toInt32))), (.int (nar .byte (((k4 >>> ((40 : Int32) &&& 0x3f).toInt64).toInt32).toInt8.toInt32))), (.int (nar .byte (((k4 >>> ((48 : Int32) &&& 0x3f).toInt64).toInt32).toInt8.toInt32))), (.int (nar .byte (((k4 >>> ((56 : Int32) &&& 0x3f).toInt64).toInt32).toInt8.toInt32)))] (.int (0 : Int32)) := Arh.push Ar320 q320 S320 M320 H320 G320 (fits_nar_byte _) W320 hin320
    have N320 := Fr.snoc X320 N318 g_b261
    have F322 : Arv Z hX320 b246 kx246 .byte (2 : Int32) [(.int (nar .byte (k3.toInt8.toInt32))), (.int (nar .byte ((k3 >>> ((8 : Int32) &&& 31)).toInt8.toInt32)))] (.int (0 : Int32)) := F311.other W320 ne_b246_b261
    have Z323 : n0 ≤ hX320.size := Nat.le_trans Z312 (Keep.of_wr W320).1
    have hk324 := Nat.le_trans hk313 (show _ ≤ hX320.size from (Keep.of_wr W320).1)
    have K325 : Keep h0 hX320 [] := K314.wr W320 (Or.inr sz_b261)
    obtain ⟨cl326, Ar326, q326, S326, M326, H326, G326⟩ := id F322
    have hin326 : ¬ ((1 : Int32) < 0 ∨ cl326.slots.size ≤ ((1 : Int32)).toNatClampNeg) := inb_of S326 ⟨by decide, by decide⟩
    have hat326 : cl326.slots[((1 : Int32)).toNatClampNeg]? = some (.int (nar .byte ((k3 >>> ((8 : Int32) &&& 31)).toInt8.toInt32))) := Has.at H326 hin326 rfl
    obtain ⟨cl327, Ar327, q327, S327, M327, H327, G327⟩ := id F321
    have hin327 : ¬ ((v18 + (1 : Int32)) < 0 ∨ cl327.slots.size ≤ ((v18 + (1 : Int32))).toNatClampNeg) := inb_of S327 (own_inb_0_245_s2 k1 k2 k3 k4 k5 k6 hv6 v18 hv18 r172 hr172 r182 hr182 r192 hr192 r202 hr202)
    obtain ⟨T327, hX327, X327, e327, W327, st327⟩ := stB X320 hx hZ e320 Ar327 (j := (v18 + (1 : Int32))) hin327 (g := (mkF m 245 #[.val (.int k1), .val (.int k2), .val (.int k3), .val (.long k4), .second, .val (.int k5), .val (.int k6), .val (.int (2 : Int32)), .val (.int v18), .val (.ref b246), .val (.ref b261), .val (.int r172), .val (.int r182), .val (.int r192), .val (.int r202), .unset, .unset, .unset] [(.int (((nar .byte ((k3 >>> ((8 : Int32) &&& 31)).toInt8.toInt32)) ^^^ r182).toInt8.toInt32)), (.int (v18 + (1 : Int32))), (.ref b261)])) rfl rfl (hb hby at_245)
    have F328 : Arh Z hX327 b261 kx261 .byte (8 : Int32) [((v18 + (1 : Int32)), (.int (nar .byte (((nar .byte ((k3 >>> ((8 : Int32) &&& 31)).toInt8.toInt32)) ^^^ r182).toInt8.toInt32)))), (v18, (.int (nar .byte (((nar .byte (k3.toInt8.toInt32)) ^^^ r172).toInt8.toInt32))))] [(.int (nar .byte ((k4.toInt32).toInt8.toInt32))), (.int (nar .byte (((k4 >>> ((8 : Int32) &&& 0x3f).toInt64).toInt32).toInt8.toInt32))), (.int (nar .byte (((k4 >>> ((16 : Int32) &&& 0x3f).toInt64).toInt32).toInt8.toInt32))), (.int (nar .byte (((k4 >>> ((24 : Int32) &&& 0x3f).toInt64).toInt32).toInt8.toInt32))), (.int (nar .byte (((k4 >>> ((32 : Int32) &&& 0x3f).toInt64).toInt32).toInt8.toInt32))), (.int (nar .byte (((k4 >>> ((40 : Int32) &&& 0x3f).toInt64).toInt32).toInt8.toInt32))), (.int (nar .byte (((k4 >>> ((48 : Int32) &&& 0x3f).toInt64).toInt32).toInt8.toInt32))), (.int (nar .byte (((k4 >>> ((56 : Int32) &&& 0x3f).toInt64).toInt32).toInt8.toInt32)))] (.int (0 : Int32)) := Arh.push Ar327 q327 S327 M327 H327 G327 (fits_nar_byte _) W327 hin327
    have N327 := Fr.snoc X327 N320 g_b261
    have F329 : Arv Z hX327 b246 kx246 .byte (2 : Int32) [(.int (nar .byte (k3.toInt8.toInt32))), (.int (nar .byte ((k3 >>> ((8 : Int32) &&& 31)).toInt8.toInt32)))] (.int (0 : Int32)) := F322.other W327 ne_b246_b261
    have Z330 : n0 ≤ hX327.size := Nat.le_trans Z323 (Keep.of_wr W327).1
    have hk331 := Nat.le_trans hk324 (show _ ≤ hX327.size from (Keep.of_wr W327).1)
    have K332 : Keep h0 hX327 [] := K325.wr W327 (Or.inr sz_b261)
    obtain ⟨m337, hm337⟩ : ∃ z_q : Int32, z_q = (if r172 = (0 : Int32) then (if r182 = (0 : Int32) then (1 : Int32) else (0 : Int32)) else (0 : Int32)) := ⟨_, rfl⟩
    have pre335 : ∀ tq, Steps p.tables e below (T327.setTop (mkF m 337 #[.val (.int k1), .val (.int k2), .val (.int k3), .val (.long k4), .second, .val (.int k5), .val (.int k6), .val (.int (2 : Int32)), .val (.int v18), .val (.ref b246), .val (.ref b261), .val (.int r172), .val (.int r182), .val (.int r192), .val (.int r202), .unset, .unset, .unset] [(.int m337)])) tq → Steps p.tables e below (s₁.setTop (entryFrame m #[(.int k1), (.int k2), (.int k3), (.long k4), (.int k5), (.int k6)] maxLocals)) tq := by
      intro tq kt
      refine pre1 _ ?_
      show Steps p.tables e below (s₁.setTop (mkF m 8 #[.val (.int k1), .val (.int k2), .val (.int k3), .val (.long k4), .second, .val (.int k5), .val (.int k6), .val (.int (2 : Int32)), .unset, .unset, .unset, .unset, .unset, .unset, .unset, .unset, .unset, .unset] [])) _
      refine XS.iloadN X0.here hx rfl (hb hby at_8) rfl ?_
      show Steps p.tables e below (s₁.setTop (mkF m 9 #[.val (.int k1), .val (.int k2), .val (.int k3), .val (.long k4), .second, .val (.int k5), .val (.int k6), .val (.int (2 : Int32)), .unset, .unset, .unset, .unset, .unset, .unset, .unset, .unset, .unset, .unset] [(.int k2)])) _
      refine X0.ldcInt hx hown (mvT hZ (hw _ (List.mem_of_getElem? (i := 0) rfl))) (g := (mkF m 9 #[.val (.int k1), .val (.int k2), .val (.int k3), .val (.long k4), .second, .val (.int k5), .val (.int k6), .val (.int (2 : Int32)), .unset, .unset, .unset, .unset, .unset, .unset, .unset, .unset, .unset, .unset] [(.int k2)])) rfl (hb hby at_9) _ ?_
      show Steps p.tables e below (s₁.setTop (mkF m 11 #[.val (.int k1), .val (.int k2), .val (.int k3), .val (.long k4), .second, .val (.int k5), .val (.int k6), .val (.int (2 : Int32)), .unset, .unset, .unset, .unset, .unset, .unset, .unset, .unset, .unset, .unset] [(.int (2147483647 : Int32)), (.int k2)])) _
      refine XS.iand X0.here hx rfl (hb hby at_11) rfl ?_
      show Steps p.tables e below (s₁.setTop (mkF m 12 #[.val (.int k1), .val (.int k2), .val (.int k3), .val (.long k4), .second, .val (.int k5), .val (.int k6), .val (.int (2 : Int32)), .unset, .unset, .unset, .unset, .unset, .unset, .unset, .unset, .unset, .unset] [(.int (k2 &&& (2147483647 : Int32)))])) _
      refine XS.bipush X0.here hx rfl (hb hby at_12) ?_
      show Steps p.tables e below (s₁.setTop (mkF m 14 #[.val (.int k1), .val (.int k2), .val (.int k3), .val (.long k4), .second, .val (.int k5), .val (.int k6), .val (.int (2 : Int32)), .unset, .unset, .unset, .unset, .unset, .unset, .unset, .unset, .unset, .unset] [(.int (9 : Int32)), (.int (k2 &&& (2147483647 : Int32)))])) _
      refine XS.iload X0.here hx rfl (hb hby at_14) rfl ?_
      show Steps p.tables e below (s₁.setTop (mkF m 16 #[.val (.int k1), .val (.int k2), .val (.int k3), .val (.long k4), .second, .val (.int k5), .val (.int k6), .val (.int (2 : Int32)), .unset, .unset, .unset, .unset, .unset, .unset, .unset, .unset, .unset, .unset] [(.int (2 : Int32)), (.int (9 : Int32)), (.int (k2 &&& (2147483647 : Int32)))])) _
      refine XS.isub X0.here hx rfl (hb hby at_16) rfl ?_
      show Steps p.tables e below (s₁.setTop (mkF m 17 #[.val (.int k1), .val (.int k2), .val (.int k3), .val (.long k4), .second, .val (.int k5), .val (.int k6), .val (.int (2 : Int32)), .unset, .unset, .unset, .unset, .unset, .unset, .unset, .unset, .unset, .unset] [(.int (7 : Int32)), (.int (k2 &&& (2147483647 : Int32)))])) _
      refine iremM X0 hx rfl (hb hby at_17) rfl (by decide : ¬ ((7 : Int32) = (0 : Int32))) ?_
      show Steps p.tables e below (s₁.setTop (mkF m 18 #[.val (.int k1), .val (.int k2), .val (.int k3), .val (.long k4), .second, .val (.int k5), .val (.int k6), .val (.int (2 : Int32)), .unset, .unset, .unset, .unset, .unset, .unset, .unset, .unset, .unset, .unset] [(.int ((k2 &&& (2147483647 : Int32)) % (7 : Int32)))])) _
      refine XS.istore X0.here hx rfl (hb hby at_18) rfl (l' := #[.val (.int k1), .val (.int k2), .val (.int k3), .val (.long k4), .second, .val (.int k5), .val (.int k6), .val (.int (2 : Int32)), .val (.int v18), .unset, .unset, .unset, .unset, .unset, .unset, .unset, .unset, .unset]) (by rw [hv18]; rfl) ?_
      show Steps p.tables e below (s₁.setTop (mkF m 20 #[.val (.int k1), .val (.int k2), .val (.int k3), .val (.long k4), .second, .val (.int k5), .val (.int k6), .val (.int (2 : Int32)), .val (.int v18), .unset, .unset, .unset, .unset, .unset, .unset, .unset, .unset, .unset] [])) _
      refine XS.iload X0.here hx rfl (hb hby at_20) rfl ?_
      show Steps p.tables e below (s₁.setTop (mkF m 22 #[.val (.int k1), .val (.int k2), .val (.int k3), .val (.long k4), .second, .val (.int k5), .val (.int k6), .val (.int (2 : Int32)), .val (.int v18), .unset, .unset, .unset, .unset, .unset, .unset, .unset, .unset, .unset] [(.int (2 : Int32))])) _
      refine st246 _ ?_
      show Steps p.tables e below (T246.setTop (mkF m 24 #[.val (.int k1), .val (.int k2), .val (.int k3), .val (.long k4), .second, .val (.int k5), .val (.int k6), .val (.int (2 : Int32)), .val (.int v18), .unset, .unset, .unset, .unset, .unset, .unset, .unset, .unset, .unset] [(.ref b246)])) _
      refine XS.astore X246.here hx rfl (hb hby at_24) rfl rfl (l' := #[.val (.int k1), .val (.int k2), .val (.int k3), .val (.long k4), .second, .val (.int k5), .val (.int k6), .val (.int (2 : Int32)), .val (.int v18), .val (.ref b246), .unset, .unset, .unset, .unset, .unset, .unset, .unset, .unset]) rfl ?_
      show Steps p.tables e below (T246.setTop (mkF m 26 #[.val (.int k1), .val (.int k2), .val (.int k3), .val (.long k4), .second, .val (.int k5), .val (.int k6), .val (.int (2 : Int32)), .val (.int v18), .val (.ref b246), .unset, .unset, .unset, .unset, .unset, .unset, .unset, .unset] [])) _
      refine XS.iload X246.here hx rfl (hb hby at_26) rfl ?_
      show Steps p.tables e below (T246.setTop (mkF m 28 #[.val (.int k1), .val (.int k2), .val (.int k3), .val (.long k4), .second, .val (.int k5), .val (.int k6), .val (.int (2 : Int32)), .val (.int v18), .val (.ref b246), .unset, .unset, .unset, .unset, .unset, .unset, .unset, .unset] [(.int (2 : Int32))])) _
      refine XS.ifNo X246.here hx rfl (hb hby at_28) rfl ((if0 _ _).trans (tlt (by decide)).2.2.2) ?_
      show Steps p.tables e below (T246.setTop (mkF m 31 #[.val (.int k1), .val (.int k2), .val (.int k3), .val (.long k4), .second, .val (.int k5), .val (.int k6), .val (.int (2 : Int32)), .val (.int v18), .val (.ref b246), .unset, .unset, .unset, .unset, .unset, .unset, .unset, .unset] [])) _
      refine XS.aload X246.here hx rfl (hb hby at_31) rfl rfl ?_
      show Steps p.tables e below (T246.setTop (mkF m 33 #[.val (.int k1), .val (.int k2), .val (.int k3), .val (.long k4), .second, .val (.int k5), .val (.int k6), .val (.int (2 : Int32)), .val (.int v18), .val (.ref b246), .unset, .unset, .unset, .unset, .unset, .unset, .unset, .unset] [(.ref b246)])) _
      refine XS.iconst X246.here hx rfl (hb hby at_33) ?_
      show Steps p.tables e below (T246.setTop (mkF m 34 #[.val (.int k1), .val (.int k2), .val (.int k3), .val (.long k4), .second, .val (.int k5), .val (.int k6), .val (.int (2 : Int32)), .val (.int v18), .val (.ref b246), .unset, .unset, .unset, .unset, .unset, .unset, .unset, .unset] [(.int (0 : Int32)), (.ref b246)])) _
      refine XS.iloadN X246.here hx rfl (hb hby at_34) rfl ?_
      show Steps p.tables e below (T246.setTop (mkF m 35 #[.val (.int k1), .val (.int k2), .val (.int k3), .val (.long k4), .second, .val (.int k5), .val (.int k6), .val (.int (2 : Int32)), .val (.int v18), .val (.ref b246), .unset, .unset, .unset, .unset, .unset, .unset, .unset, .unset] [(.int k3), (.int (0 : Int32)), (.ref b246)])) _
      refine XS.i2b X246.here hx rfl (hb hby at_35) rfl ?_
      show Steps p.tables e below (T246.setTop (mkF m 36 #[.val (.int k1), .val (.int k2), .val (.int k3), .val (.long k4), .second, .val (.int k5), .val (.int k6), .val (.int (2 : Int32)), .val (.int v18), .val (.ref b246), .unset, .unset, .unset, .unset, .unset, .unset, .unset, .unset] [(.int (k3.toInt8.toInt32)), (.int (0 : Int32)), (.ref b246)])) _
      refine st251 _ ?_
      show Steps p.tables e below (T251.setTop (mkF m 37 #[.val (.int k1), .val (.int k2), .val (.int k3), .val (.long k4), .second, .val (.int k5), .val (.int k6), .val (.int (2 : Int32)), .val (.int v18), .val (.ref b246), .unset, .unset, .unset, .unset, .unset, .unset, .unset, .unset] [])) _
      refine XS.iload X251.here hx rfl (hb hby at_37) rfl ?_
      show Steps p.tables e below (T251.setTop (mkF m 39 #[.val (.int k1), .val (.int k2), .val (.int k3), .val (.long k4), .second, .val (.int k5), .val (.int k6), .val (.int (2 : Int32)), .val (.int v18), .val (.ref b246), .unset, .unset, .unset, .unset, .unset, .unset, .unset, .unset] [(.int (2 : Int32))])) _
      refine XS.iconst X251.here hx rfl (hb hby at_39) ?_
      show Steps p.tables e below (T251.setTop (mkF m 40 #[.val (.int k1), .val (.int k2), .val (.int k3), .val (.long k4), .second, .val (.int k5), .val (.int k6), .val (.int (2 : Int32)), .val (.int v18), .val (.ref b246), .unset, .unset, .unset, .unset, .unset, .unset, .unset, .unset] [(.int (1 : Int32)), (.int (2 : Int32))])) _
      refine XS.icmpNo X251.here hx rfl (hb hby at_40) rfl (tlt (by decide)).2.2.2 ?_
      show Steps p.tables e below (T251.setTop (mkF m 43 #[.val (.int k1), .val (.int k2), .val (.int k3), .val (.long k4), .second, .val (.int k5), .val (.int k6), .val (.int (2 : Int32)), .val (.int v18), .val (.ref b246), .unset, .unset, .unset, .unset, .unset, .unset, .unset, .unset] [])) _
      refine XS.aload X251.here hx rfl (hb hby at_43) rfl rfl ?_
      show Steps p.tables e below (T251.setTop (mkF m 45 #[.val (.int k1), .val (.int k2), .val (.int k3), .val (.long k4), .second, .val (.int k5), .val (.int k6), .val (.int (2 : Int32)), .val (.int v18), .val (.ref b246), .unset, .unset, .unset, .unset, .unset, .unset, .unset, .unset] [(.ref b246)])) _
      refine XS.iconst X251.here hx rfl (hb hby at_45) ?_
      show Steps p.tables e below (T251.setTop (mkF m 46 #[.val (.int k1), .val (.int k2), .val (.int k3), .val (.long k4), .second, .val (.int k5), .val (.int k6), .val (.int (2 : Int32)), .val (.int v18), .val (.ref b246), .unset, .unset, .unset, .unset, .unset, .unset, .unset, .unset] [(.int (1 : Int32)), (.ref b246)])) _
      refine XS.iloadN X251.here hx rfl (hb hby at_46) rfl ?_
      show Steps p.tables e below (T251.setTop (mkF m 47 #[.val (.int k1), .val (.int k2), .val (.int k3), .val (.long k4), .second, .val (.int k5), .val (.int k6), .val (.int (2 : Int32)), .val (.int v18), .val (.ref b246), .unset, .unset, .unset, .unset, .unset, .unset, .unset, .unset] [(.int k3), (.int (1 : Int32)), (.ref b246)])) _
      refine XS.bipush X251.here hx rfl (hb hby at_47) ?_
      show Steps p.tables e below (T251.setTop (mkF m 49 #[.val (.int k1), .val (.int k2), .val (.int k3), .val (.long k4), .second, .val (.int k5), .val (.int k6), .val (.int (2 : Int32)), .val (.int v18), .val (.ref b246), .unset, .unset, .unset, .unset, .unset, .unset, .unset, .unset] [(.int (8 : Int32)), (.int k3), (.int (1 : Int32)), (.ref b246)])) _
      refine XS.ishr X251.here hx rfl (hb hby at_49) rfl ?_
      show Steps p.tables e below (T251.setTop (mkF m 50 #[.val (.int k1), .val (.int k2), .val (.int k3), .val (.long k4), .second, .val (.int k5), .val (.int k6), .val (.int (2 : Int32)), .val (.int v18), .val (.ref b246), .unset, .unset, .unset, .unset, .unset, .unset, .unset, .unset] [(.int (k3 >>> ((8 : Int32) &&& 31))), (.int (1 : Int32)), (.ref b246)])) _
      refine XS.i2b X251.here hx rfl (hb hby at_50) rfl ?_
      show Steps p.tables e below (T251.setTop (mkF m 51 #[.val (.int k1), .val (.int k2), .val (.int k3), .val (.long k4), .second, .val (.int k5), .val (.int k6), .val (.int (2 : Int32)), .val (.int v18), .val (.ref b246), .unset, .unset, .unset, .unset, .unset, .unset, .unset, .unset] [(.int ((k3 >>> ((8 : Int32) &&& 31)).toInt8.toInt32)), (.int (1 : Int32)), (.ref b246)])) _
      refine st256 _ ?_
      show Steps p.tables e below (T256.setTop (mkF m 52 #[.val (.int k1), .val (.int k2), .val (.int k3), .val (.long k4), .second, .val (.int k5), .val (.int k6), .val (.int (2 : Int32)), .val (.int v18), .val (.ref b246), .unset, .unset, .unset, .unset, .unset, .unset, .unset, .unset] [])) _
      refine XS.iload X256.here hx rfl (hb hby at_52) rfl ?_
      show Steps p.tables e below (T256.setTop (mkF m 54 #[.val (.int k1), .val (.int k2), .val (.int k3), .val (.long k4), .second, .val (.int k5), .val (.int k6), .val (.int (2 : Int32)), .val (.int v18), .val (.ref b246), .unset, .unset, .unset, .unset, .unset, .unset, .unset, .unset] [(.int (2 : Int32))])) _
      refine XS.iconst X256.here hx rfl (hb hby at_54) ?_
      show Steps p.tables e below (T256.setTop (mkF m 55 #[.val (.int k1), .val (.int k2), .val (.int k3), .val (.long k4), .second, .val (.int k5), .val (.int k6), .val (.int (2 : Int32)), .val (.int v18), .val (.ref b246), .unset, .unset, .unset, .unset, .unset, .unset, .unset, .unset] [(.int (2 : Int32)), (.int (2 : Int32))])) _
      refine XS.icmpYes X256.here hx rfl (pc0 := 55) (pc' := 67) rfl (hb hby at_55) rfl (flt (by decide)).2.2.2 (by decide) (by decide) ?_
      show Steps p.tables e below (T256.setTop (mkF m 67 #[.val (.int k1), .val (.int k2), .val (.int k3), .val (.long k4), .second, .val (.int k5), .val (.int k6), .val (.int (2 : Int32)), .val (.int v18), .val (.ref b246), .unset, .unset, .unset, .unset, .unset, .unset, .unset, .unset] [])) _
      refine XS.iload X256.here hx rfl (hb hby at_67) rfl ?_
      show Steps p.tables e below (T256.setTop (mkF m 69 #[.val (.int k1), .val (.int k2), .val (.int k3), .val (.long k4), .second, .val (.int k5), .val (.int k6), .val (.int (2 : Int32)), .val (.int v18), .val (.ref b246), .unset, .unset, .unset, .unset, .unset, .unset, .unset, .unset] [(.int (2 : Int32))])) _
      refine XS.iconst X256.here hx rfl (hb hby at_69) ?_
      show Steps p.tables e below (T256.setTop (mkF m 70 #[.val (.int k1), .val (.int k2), .val (.int k3), .val (.long k4), .second, .val (.int k5), .val (.int k6), .val (.int (2 : Int32)), .val (.int v18), .val (.ref b246), .unset, .unset, .unset, .unset, .unset, .unset, .unset, .unset] [(.int (3 : Int32)), (.int (2 : Int32))])) _
      refine XS.icmpYes X256.here hx rfl (pc0 := 70) (pc' := 82) rfl (hb hby at_70) rfl (flt (by decide)).2.2.2 (by decide) (by decide) ?_
      show Steps p.tables e below (T256.setTop (mkF m 82 #[.val (.int k1), .val (.int k2), .val (.int k3), .val (.long k4), .second, .val (.int k5), .val (.int k6), .val (.int (2 : Int32)), .val (.int v18), .val (.ref b246), .unset, .unset, .unset, .unset, .unset, .unset, .unset, .unset] [])) _
      refine XS.bipush X256.here hx rfl (hb hby at_82) ?_
      show Steps p.tables e below (T256.setTop (mkF m 84 #[.val (.int k1), .val (.int k2), .val (.int k3), .val (.long k4), .second, .val (.int k5), .val (.int k6), .val (.int (2 : Int32)), .val (.int v18), .val (.ref b246), .unset, .unset, .unset, .unset, .unset, .unset, .unset, .unset] [(.int (8 : Int32))])) _
      refine st261 _ ?_
      show Steps p.tables e below (T261.setTop (mkF m 86 #[.val (.int k1), .val (.int k2), .val (.int k3), .val (.long k4), .second, .val (.int k5), .val (.int k6), .val (.int (2 : Int32)), .val (.int v18), .val (.ref b246), .unset, .unset, .unset, .unset, .unset, .unset, .unset, .unset] [(.ref b261)])) _
      refine XS.astore X261.here hx rfl (hb hby at_86) rfl rfl (l' := #[.val (.int k1), .val (.int k2), .val (.int k3), .val (.long k4), .second, .val (.int k5), .val (.int k6), .val (.int (2 : Int32)), .val (.int v18), .val (.ref b246), .val (.ref b261), .unset, .unset, .unset, .unset, .unset, .unset, .unset]) rfl ?_
      show Steps p.tables e below (T261.setTop (mkF m 88 #[.val (.int k1), .val (.int k2), .val (.int k3), .val (.long k4), .second, .val (.int k5), .val (.int k6), .val (.int (2 : Int32)), .val (.int v18), .val (.ref b246), .val (.ref b261), .unset, .unset, .unset, .unset, .unset, .unset, .unset] [])) _
      refine XS.aload X261.here hx rfl (hb hby at_88) rfl rfl ?_
      show Steps p.tables e below (T261.setTop (mkF m 90 #[.val (.int k1), .val (.int k2), .val (.int k3), .val (.long k4), .second, .val (.int k5), .val (.int k6), .val (.int (2 : Int32)), .val (.int v18), .val (.ref b246), .val (.ref b261), .unset, .unset, .unset, .unset, .unset, .unset, .unset] [(.ref b261)])) _
      refine XS.iconst X261.here hx rfl (hb hby at_90) ?_
      show Steps p.tables e below (T261.setTop (mkF m 91 #[.val (.int k1), .val (.int k2), .val (.int k3), .val (.long k4), .second, .val (.int k5), .val (.int k6), .val (.int (2 : Int32)), .val (.int v18), .val (.ref b246), .val (.ref b261), .unset, .unset, .unset, .unset, .unset, .unset, .unset] [(.int (0 : Int32)), (.ref b261)])) _
      refine XS.lloadN X261.here hx rfl (hb hby at_91) rfl ?_
      show Steps p.tables e below (T261.setTop (mkF m 92 #[.val (.int k1), .val (.int k2), .val (.int k3), .val (.long k4), .second, .val (.int k5), .val (.int k6), .val (.int (2 : Int32)), .val (.int v18), .val (.ref b246), .val (.ref b261), .unset, .unset, .unset, .unset, .unset, .unset, .unset] [(.long k4), (.int (0 : Int32)), (.ref b261)])) _
      refine XS.l2i X261.here hx rfl (hb hby at_92) rfl ?_
      show Steps p.tables e below (T261.setTop (mkF m 93 #[.val (.int k1), .val (.int k2), .val (.int k3), .val (.long k4), .second, .val (.int k5), .val (.int k6), .val (.int (2 : Int32)), .val (.int v18), .val (.ref b246), .val (.ref b261), .unset, .unset, .unset, .unset, .unset, .unset, .unset] [(.int (k4.toInt32)), (.int (0 : Int32)), (.ref b261)])) _
      refine XS.i2b X261.here hx rfl (hb hby at_93) rfl ?_
      show Steps p.tables e below (T261.setTop (mkF m 94 #[.val (.int k1), .val (.int k2), .val (.int k3), .val (.long k4), .second, .val (.int k5), .val (.int k6), .val (.int (2 : Int32)), .val (.int v18), .val (.ref b246), .val (.ref b261), .unset, .unset, .unset, .unset, .unset, .unset, .unset] [(.int ((k4.toInt32).toInt8.toInt32)), (.int (0 : Int32)), (.ref b261)])) _
      refine st267 _ ?_
      show Steps p.tables e below (T267.setTop (mkF m 95 #[.val (.int k1), .val (.int k2), .val (.int k3), .val (.long k4), .second, .val (.int k5), .val (.int k6), .val (.int (2 : Int32)), .val (.int v18), .val (.ref b246), .val (.ref b261), .unset, .unset, .unset, .unset, .unset, .unset, .unset] [])) _
      refine XS.aload X267.here hx rfl (hb hby at_95) rfl rfl ?_
      show Steps p.tables e below (T267.setTop (mkF m 97 #[.val (.int k1), .val (.int k2), .val (.int k3), .val (.long k4), .second, .val (.int k5), .val (.int k6), .val (.int (2 : Int32)), .val (.int v18), .val (.ref b246), .val (.ref b261), .unset, .unset, .unset, .unset, .unset, .unset, .unset] [(.ref b261)])) _
      refine XS.iconst X267.here hx rfl (hb hby at_97) ?_
      show Steps p.tables e below (T267.setTop (mkF m 98 #[.val (.int k1), .val (.int k2), .val (.int k3), .val (.long k4), .second, .val (.int k5), .val (.int k6), .val (.int (2 : Int32)), .val (.int v18), .val (.ref b246), .val (.ref b261), .unset, .unset, .unset, .unset, .unset, .unset, .unset] [(.int (1 : Int32)), (.ref b261)])) _
      refine XS.lloadN X267.here hx rfl (hb hby at_98) rfl ?_
      show Steps p.tables e below (T267.setTop (mkF m 99 #[.val (.int k1), .val (.int k2), .val (.int k3), .val (.long k4), .second, .val (.int k5), .val (.int k6), .val (.int (2 : Int32)), .val (.int v18), .val (.ref b246), .val (.ref b261), .unset, .unset, .unset, .unset, .unset, .unset, .unset] [(.long k4), (.int (1 : Int32)), (.ref b261)])) _
      refine XS.bipush X267.here hx rfl (hb hby at_99) ?_
      show Steps p.tables e below (T267.setTop (mkF m 101 #[.val (.int k1), .val (.int k2), .val (.int k3), .val (.long k4), .second, .val (.int k5), .val (.int k6), .val (.int (2 : Int32)), .val (.int v18), .val (.ref b246), .val (.ref b261), .unset, .unset, .unset, .unset, .unset, .unset, .unset] [(.int (8 : Int32)), (.long k4), (.int (1 : Int32)), (.ref b261)])) _
      refine XS.lshr X267.here hx rfl (hb hby at_101) rfl ?_
      show Steps p.tables e below (T267.setTop (mkF m 102 #[.val (.int k1), .val (.int k2), .val (.int k3), .val (.long k4), .second, .val (.int k5), .val (.int k6), .val (.int (2 : Int32)), .val (.int v18), .val (.ref b246), .val (.ref b261), .unset, .unset, .unset, .unset, .unset, .unset, .unset] [(.long (k4 >>> ((8 : Int32) &&& 0x3f).toInt64)), (.int (1 : Int32)), (.ref b261)])) _
      refine XS.l2i X267.here hx rfl (hb hby at_102) rfl ?_
      show Steps p.tables e below (T267.setTop (mkF m 103 #[.val (.int k1), .val (.int k2), .val (.int k3), .val (.long k4), .second, .val (.int k5), .val (.int k6), .val (.int (2 : Int32)), .val (.int v18), .val (.ref b246), .val (.ref b261), .unset, .unset, .unset, .unset, .unset, .unset, .unset] [(.int ((k4 >>> ((8 : Int32) &&& 0x3f).toInt64).toInt32)), (.int (1 : Int32)), (.ref b261)])) _
      refine XS.i2b X267.here hx rfl (hb hby at_103) rfl ?_
      show Steps p.tables e below (T267.setTop (mkF m 104 #[.val (.int k1), .val (.int k2), .val (.int k3), .val (.long k4), .second, .val (.int k5), .val (.int k6), .val (.int (2 : Int32)), .val (.int v18), .val (.ref b246), .val (.ref b261), .unset, .unset, .unset, .unset, .unset, .unset, .unset] [(.int (((k4 >>> ((8 : Int32) &&& 0x3f).toInt64).toInt32).toInt8.toInt32)), (.int (1 : Int32)), (.ref b261)])) _
      refine st273 _ ?_
      show Steps p.tables e below (T273.setTop (mkF m 105 #[.val (.int k1), .val (.int k2), .val (.int k3), .val (.long k4), .second, .val (.int k5), .val (.int k6), .val (.int (2 : Int32)), .val (.int v18), .val (.ref b246), .val (.ref b261), .unset, .unset, .unset, .unset, .unset, .unset, .unset] [])) _
      refine XS.aload X273.here hx rfl (hb hby at_105) rfl rfl ?_
      show Steps p.tables e below (T273.setTop (mkF m 107 #[.val (.int k1), .val (.int k2), .val (.int k3), .val (.long k4), .second, .val (.int k5), .val (.int k6), .val (.int (2 : Int32)), .val (.int v18), .val (.ref b246), .val (.ref b261), .unset, .unset, .unset, .unset, .unset, .unset, .unset] [(.ref b261)])) _
      refine XS.iconst X273.here hx rfl (hb hby at_107) ?_
      show Steps p.tables e below (T273.setTop (mkF m 108 #[.val (.int k1), .val (.int k2), .val (.int k3), .val (.long k4), .second, .val (.int k5), .val (.int k6), .val (.int (2 : Int32)), .val (.int v18), .val (.ref b246), .val (.ref b261), .unset, .unset, .unset, .unset, .unset, .unset, .unset] [(.int (2 : Int32)), (.ref b261)])) _
      refine XS.lloadN X273.here hx rfl (hb hby at_108) rfl ?_
      show Steps p.tables e below (T273.setTop (mkF m 109 #[.val (.int k1), .val (.int k2), .val (.int k3), .val (.long k4), .second, .val (.int k5), .val (.int k6), .val (.int (2 : Int32)), .val (.int v18), .val (.ref b246), .val (.ref b261), .unset, .unset, .unset, .unset, .unset, .unset, .unset] [(.long k4), (.int (2 : Int32)), (.ref b261)])) _
      refine XS.bipush X273.here hx rfl (hb hby at_109) ?_
      show Steps p.tables e below (T273.setTop (mkF m 111 #[.val (.int k1), .val (.int k2), .val (.int k3), .val (.long k4), .second, .val (.int k5), .val (.int k6), .val (.int (2 : Int32)), .val (.int v18), .val (.ref b246), .val (.ref b261), .unset, .unset, .unset, .unset, .unset, .unset, .unset] [(.int (16 : Int32)), (.long k4), (.int (2 : Int32)), (.ref b261)])) _
      refine XS.lshr X273.here hx rfl (hb hby at_111) rfl ?_
      show Steps p.tables e below (T273.setTop (mkF m 112 #[.val (.int k1), .val (.int k2), .val (.int k3), .val (.long k4), .second, .val (.int k5), .val (.int k6), .val (.int (2 : Int32)), .val (.int v18), .val (.ref b246), .val (.ref b261), .unset, .unset, .unset, .unset, .unset, .unset, .unset] [(.long (k4 >>> ((16 : Int32) &&& 0x3f).toInt64)), (.int (2 : Int32)), (.ref b261)])) _
      refine XS.l2i X273.here hx rfl (hb hby at_112) rfl ?_
      show Steps p.tables e below (T273.setTop (mkF m 113 #[.val (.int k1), .val (.int k2), .val (.int k3), .val (.long k4), .second, .val (.int k5), .val (.int k6), .val (.int (2 : Int32)), .val (.int v18), .val (.ref b246), .val (.ref b261), .unset, .unset, .unset, .unset, .unset, .unset, .unset] [(.int ((k4 >>> ((16 : Int32) &&& 0x3f).toInt64).toInt32)), (.int (2 : Int32)), (.ref b261)])) _
      refine XS.i2b X273.here hx rfl (hb hby at_113) rfl ?_
      show Steps p.tables e below (T273.setTop (mkF m 114 #[.val (.int k1), .val (.int k2), .val (.int k3), .val (.long k4), .second, .val (.int k5), .val (.int k6), .val (.int (2 : Int32)), .val (.int v18), .val (.ref b246), .val (.ref b261), .unset, .unset, .unset, .unset, .unset, .unset, .unset] [(.int (((k4 >>> ((16 : Int32) &&& 0x3f).toInt64).toInt32).toInt8.toInt32)), (.int (2 : Int32)), (.ref b261)])) _
      refine st279 _ ?_
      show Steps p.tables e below (T279.setTop (mkF m 115 #[.val (.int k1), .val (.int k2), .val (.int k3), .val (.long k4), .second, .val (.int k5), .val (.int k6), .val (.int (2 : Int32)), .val (.int v18), .val (.ref b246), .val (.ref b261), .unset, .unset, .unset, .unset, .unset, .unset, .unset] [])) _
      refine XS.aload X279.here hx rfl (hb hby at_115) rfl rfl ?_
      show Steps p.tables e below (T279.setTop (mkF m 117 #[.val (.int k1), .val (.int k2), .val (.int k3), .val (.long k4), .second, .val (.int k5), .val (.int k6), .val (.int (2 : Int32)), .val (.int v18), .val (.ref b246), .val (.ref b261), .unset, .unset, .unset, .unset, .unset, .unset, .unset] [(.ref b261)])) _
      refine XS.iconst X279.here hx rfl (hb hby at_117) ?_
      show Steps p.tables e below (T279.setTop (mkF m 118 #[.val (.int k1), .val (.int k2), .val (.int k3), .val (.long k4), .second, .val (.int k5), .val (.int k6), .val (.int (2 : Int32)), .val (.int v18), .val (.ref b246), .val (.ref b261), .unset, .unset, .unset, .unset, .unset, .unset, .unset] [(.int (3 : Int32)), (.ref b261)])) _
      refine XS.lloadN X279.here hx rfl (hb hby at_118) rfl ?_
      show Steps p.tables e below (T279.setTop (mkF m 119 #[.val (.int k1), .val (.int k2), .val (.int k3), .val (.long k4), .second, .val (.int k5), .val (.int k6), .val (.int (2 : Int32)), .val (.int v18), .val (.ref b246), .val (.ref b261), .unset, .unset, .unset, .unset, .unset, .unset, .unset] [(.long k4), (.int (3 : Int32)), (.ref b261)])) _
      refine XS.bipush X279.here hx rfl (hb hby at_119) ?_
      show Steps p.tables e below (T279.setTop (mkF m 121 #[.val (.int k1), .val (.int k2), .val (.int k3), .val (.long k4), .second, .val (.int k5), .val (.int k6), .val (.int (2 : Int32)), .val (.int v18), .val (.ref b246), .val (.ref b261), .unset, .unset, .unset, .unset, .unset, .unset, .unset] [(.int (24 : Int32)), (.long k4), (.int (3 : Int32)), (.ref b261)])) _
      refine XS.lshr X279.here hx rfl (hb hby at_121) rfl ?_
      show Steps p.tables e below (T279.setTop (mkF m 122 #[.val (.int k1), .val (.int k2), .val (.int k3), .val (.long k4), .second, .val (.int k5), .val (.int k6), .val (.int (2 : Int32)), .val (.int v18), .val (.ref b246), .val (.ref b261), .unset, .unset, .unset, .unset, .unset, .unset, .unset] [(.long (k4 >>> ((24 : Int32) &&& 0x3f).toInt64)), (.int (3 : Int32)), (.ref b261)])) _
      refine XS.l2i X279.here hx rfl (hb hby at_122) rfl ?_
      show Steps p.tables e below (T279.setTop (mkF m 123 #[.val (.int k1), .val (.int k2), .val (.int k3), .val (.long k4), .second, .val (.int k5), .val (.int k6), .val (.int (2 : Int32)), .val (.int v18), .val (.ref b246), .val (.ref b261), .unset, .unset, .unset, .unset, .unset, .unset, .unset] [(.int ((k4 >>> ((24 : Int32) &&& 0x3f).toInt64).toInt32)), (.int (3 : Int32)), (.ref b261)])) _
      refine XS.i2b X279.here hx rfl (hb hby at_123) rfl ?_
      show Steps p.tables e below (T279.setTop (mkF m 124 #[.val (.int k1), .val (.int k2), .val (.int k3), .val (.long k4), .second, .val (.int k5), .val (.int k6), .val (.int (2 : Int32)), .val (.int v18), .val (.ref b246), .val (.ref b261), .unset, .unset, .unset, .unset, .unset, .unset, .unset] [(.int (((k4 >>> ((24 : Int32) &&& 0x3f).toInt64).toInt32).toInt8.toInt32)), (.int (3 : Int32)), (.ref b261)])) _
      refine st285 _ ?_
      show Steps p.tables e below (T285.setTop (mkF m 125 #[.val (.int k1), .val (.int k2), .val (.int k3), .val (.long k4), .second, .val (.int k5), .val (.int k6), .val (.int (2 : Int32)), .val (.int v18), .val (.ref b246), .val (.ref b261), .unset, .unset, .unset, .unset, .unset, .unset, .unset] [])) _
      refine XS.aload X285.here hx rfl (hb hby at_125) rfl rfl ?_
      show Steps p.tables e below (T285.setTop (mkF m 127 #[.val (.int k1), .val (.int k2), .val (.int k3), .val (.long k4), .second, .val (.int k5), .val (.int k6), .val (.int (2 : Int32)), .val (.int v18), .val (.ref b246), .val (.ref b261), .unset, .unset, .unset, .unset, .unset, .unset, .unset] [(.ref b261)])) _
      refine XS.iconst X285.here hx rfl (hb hby at_127) ?_
      show Steps p.tables e below (T285.setTop (mkF m 128 #[.val (.int k1), .val (.int k2), .val (.int k3), .val (.long k4), .second, .val (.int k5), .val (.int k6), .val (.int (2 : Int32)), .val (.int v18), .val (.ref b246), .val (.ref b261), .unset, .unset, .unset, .unset, .unset, .unset, .unset] [(.int (4 : Int32)), (.ref b261)])) _
      refine XS.lloadN X285.here hx rfl (hb hby at_128) rfl ?_
      show Steps p.tables e below (T285.setTop (mkF m 129 #[.val (.int k1), .val (.int k2), .val (.int k3), .val (.long k4), .second, .val (.int k5), .val (.int k6), .val (.int (2 : Int32)), .val (.int v18), .val (.ref b246), .val (.ref b261), .unset, .unset, .unset, .unset, .unset, .unset, .unset] [(.long k4), (.int (4 : Int32)), (.ref b261)])) _
      refine XS.bipush X285.here hx rfl (hb hby at_129) ?_
      show Steps p.tables e below (T285.setTop (mkF m 131 #[.val (.int k1), .val (.int k2), .val (.int k3), .val (.long k4), .second, .val (.int k5), .val (.int k6), .val (.int (2 : Int32)), .val (.int v18), .val (.ref b246), .val (.ref b261), .unset, .unset, .unset, .unset, .unset, .unset, .unset] [(.int (32 : Int32)), (.long k4), (.int (4 : Int32)), (.ref b261)])) _
      refine XS.lshr X285.here hx rfl (hb hby at_131) rfl ?_
      show Steps p.tables e below (T285.setTop (mkF m 132 #[.val (.int k1), .val (.int k2), .val (.int k3), .val (.long k4), .second, .val (.int k5), .val (.int k6), .val (.int (2 : Int32)), .val (.int v18), .val (.ref b246), .val (.ref b261), .unset, .unset, .unset, .unset, .unset, .unset, .unset] [(.long (k4 >>> ((32 : Int32) &&& 0x3f).toInt64)), (.int (4 : Int32)), (.ref b261)])) _
      refine XS.l2i X285.here hx rfl (hb hby at_132) rfl ?_
      show Steps p.tables e below (T285.setTop (mkF m 133 #[.val (.int k1), .val (.int k2), .val (.int k3), .val (.long k4), .second, .val (.int k5), .val (.int k6), .val (.int (2 : Int32)), .val (.int v18), .val (.ref b246), .val (.ref b261), .unset, .unset, .unset, .unset, .unset, .unset, .unset] [(.int ((k4 >>> ((32 : Int32) &&& 0x3f).toInt64).toInt32)), (.int (4 : Int32)), (.ref b261)])) _
      refine XS.i2b X285.here hx rfl (hb hby at_133) rfl ?_
      show Steps p.tables e below (T285.setTop (mkF m 134 #[.val (.int k1), .val (.int k2), .val (.int k3), .val (.long k4), .second, .val (.int k5), .val (.int k6), .val (.int (2 : Int32)), .val (.int v18), .val (.ref b246), .val (.ref b261), .unset, .unset, .unset, .unset, .unset, .unset, .unset] [(.int (((k4 >>> ((32 : Int32) &&& 0x3f).toInt64).toInt32).toInt8.toInt32)), (.int (4 : Int32)), (.ref b261)])) _
      refine st291 _ ?_
      show Steps p.tables e below (T291.setTop (mkF m 135 #[.val (.int k1), .val (.int k2), .val (.int k3), .val (.long k4), .second, .val (.int k5), .val (.int k6), .val (.int (2 : Int32)), .val (.int v18), .val (.ref b246), .val (.ref b261), .unset, .unset, .unset, .unset, .unset, .unset, .unset] [])) _
      refine XS.aload X291.here hx rfl (hb hby at_135) rfl rfl ?_
      show Steps p.tables e below (T291.setTop (mkF m 137 #[.val (.int k1), .val (.int k2), .val (.int k3), .val (.long k4), .second, .val (.int k5), .val (.int k6), .val (.int (2 : Int32)), .val (.int v18), .val (.ref b246), .val (.ref b261), .unset, .unset, .unset, .unset, .unset, .unset, .unset] [(.ref b261)])) _
      refine XS.iconst X291.here hx rfl (hb hby at_137) ?_
      show Steps p.tables e below (T291.setTop (mkF m 138 #[.val (.int k1), .val (.int k2), .val (.int k3), .val (.long k4), .second, .val (.int k5), .val (.int k6), .val (.int (2 : Int32)), .val (.int v18), .val (.ref b246), .val (.ref b261), .unset, .unset, .unset, .unset, .unset, .unset, .unset] [(.int (5 : Int32)), (.ref b261)])) _
      refine XS.lloadN X291.here hx rfl (hb hby at_138) rfl ?_
      show Steps p.tables e below (T291.setTop (mkF m 139 #[.val (.int k1), .val (.int k2), .val (.int k3), .val (.long k4), .second, .val (.int k5), .val (.int k6), .val (.int (2 : Int32)), .val (.int v18), .val (.ref b246), .val (.ref b261), .unset, .unset, .unset, .unset, .unset, .unset, .unset] [(.long k4), (.int (5 : Int32)), (.ref b261)])) _
      refine XS.bipush X291.here hx rfl (hb hby at_139) ?_
      show Steps p.tables e below (T291.setTop (mkF m 141 #[.val (.int k1), .val (.int k2), .val (.int k3), .val (.long k4), .second, .val (.int k5), .val (.int k6), .val (.int (2 : Int32)), .val (.int v18), .val (.ref b246), .val (.ref b261), .unset, .unset, .unset, .unset, .unset, .unset, .unset] [(.int (40 : Int32)), (.long k4), (.int (5 : Int32)), (.ref b261)])) _
      refine XS.lshr X291.here hx rfl (hb hby at_141) rfl ?_
      show Steps p.tables e below (T291.setTop (mkF m 142 #[.val (.int k1), .val (.int k2), .val (.int k3), .val (.long k4), .second, .val (.int k5), .val (.int k6), .val (.int (2 : Int32)), .val (.int v18), .val (.ref b246), .val (.ref b261), .unset, .unset, .unset, .unset, .unset, .unset, .unset] [(.long (k4 >>> ((40 : Int32) &&& 0x3f).toInt64)), (.int (5 : Int32)), (.ref b261)])) _
      refine XS.l2i X291.here hx rfl (hb hby at_142) rfl ?_
      show Steps p.tables e below (T291.setTop (mkF m 143 #[.val (.int k1), .val (.int k2), .val (.int k3), .val (.long k4), .second, .val (.int k5), .val (.int k6), .val (.int (2 : Int32)), .val (.int v18), .val (.ref b246), .val (.ref b261), .unset, .unset, .unset, .unset, .unset, .unset, .unset] [(.int ((k4 >>> ((40 : Int32) &&& 0x3f).toInt64).toInt32)), (.int (5 : Int32)), (.ref b261)])) _
      refine XS.i2b X291.here hx rfl (hb hby at_143) rfl ?_
      show Steps p.tables e below (T291.setTop (mkF m 144 #[.val (.int k1), .val (.int k2), .val (.int k3), .val (.long k4), .second, .val (.int k5), .val (.int k6), .val (.int (2 : Int32)), .val (.int v18), .val (.ref b246), .val (.ref b261), .unset, .unset, .unset, .unset, .unset, .unset, .unset] [(.int (((k4 >>> ((40 : Int32) &&& 0x3f).toInt64).toInt32).toInt8.toInt32)), (.int (5 : Int32)), (.ref b261)])) _
      refine st297 _ ?_
      show Steps p.tables e below (T297.setTop (mkF m 145 #[.val (.int k1), .val (.int k2), .val (.int k3), .val (.long k4), .second, .val (.int k5), .val (.int k6), .val (.int (2 : Int32)), .val (.int v18), .val (.ref b246), .val (.ref b261), .unset, .unset, .unset, .unset, .unset, .unset, .unset] [])) _
      refine XS.aload X297.here hx rfl (hb hby at_145) rfl rfl ?_
      show Steps p.tables e below (T297.setTop (mkF m 147 #[.val (.int k1), .val (.int k2), .val (.int k3), .val (.long k4), .second, .val (.int k5), .val (.int k6), .val (.int (2 : Int32)), .val (.int v18), .val (.ref b246), .val (.ref b261), .unset, .unset, .unset, .unset, .unset, .unset, .unset] [(.ref b261)])) _
      refine XS.bipush X297.here hx rfl (hb hby at_147) ?_
      show Steps p.tables e below (T297.setTop (mkF m 149 #[.val (.int k1), .val (.int k2), .val (.int k3), .val (.long k4), .second, .val (.int k5), .val (.int k6), .val (.int (2 : Int32)), .val (.int v18), .val (.ref b246), .val (.ref b261), .unset, .unset, .unset, .unset, .unset, .unset, .unset] [(.int (6 : Int32)), (.ref b261)])) _
      refine XS.lloadN X297.here hx rfl (hb hby at_149) rfl ?_
      show Steps p.tables e below (T297.setTop (mkF m 150 #[.val (.int k1), .val (.int k2), .val (.int k3), .val (.long k4), .second, .val (.int k5), .val (.int k6), .val (.int (2 : Int32)), .val (.int v18), .val (.ref b246), .val (.ref b261), .unset, .unset, .unset, .unset, .unset, .unset, .unset] [(.long k4), (.int (6 : Int32)), (.ref b261)])) _
      refine XS.bipush X297.here hx rfl (hb hby at_150) ?_
      show Steps p.tables e below (T297.setTop (mkF m 152 #[.val (.int k1), .val (.int k2), .val (.int k3), .val (.long k4), .second, .val (.int k5), .val (.int k6), .val (.int (2 : Int32)), .val (.int v18), .val (.ref b246), .val (.ref b261), .unset, .unset, .unset, .unset, .unset, .unset, .unset] [(.int (48 : Int32)), (.long k4), (.int (6 : Int32)), (.ref b261)])) _
      refine XS.lshr X297.here hx rfl (hb hby at_152) rfl ?_
      show Steps p.tables e below (T297.setTop (mkF m 153 #[.val (.int k1), .val (.int k2), .val (.int k3), .val (.long k4), .second, .val (.int k5), .val (.int k6), .val (.int (2 : Int32)), .val (.int v18), .val (.ref b246), .val (.ref b261), .unset, .unset, .unset, .unset, .unset, .unset, .unset] [(.long (k4 >>> ((48 : Int32) &&& 0x3f).toInt64)), (.int (6 : Int32)), (.ref b261)])) _
      refine XS.l2i X297.here hx rfl (hb hby at_153) rfl ?_
      show Steps p.tables e below (T297.setTop (mkF m 154 #[.val (.int k1), .val (.int k2), .val (.int k3), .val (.long k4), .second, .val (.int k5), .val (.int k6), .val (.int (2 : Int32)), .val (.int v18), .val (.ref b246), .val (.ref b261), .unset, .unset, .unset, .unset, .unset, .unset, .unset] [(.int ((k4 >>> ((48 : Int32) &&& 0x3f).toInt64).toInt32)), (.int (6 : Int32)), (.ref b261)])) _
      refine XS.i2b X297.here hx rfl (hb hby at_154) rfl ?_
      show Steps p.tables e below (T297.setTop (mkF m 155 #[.val (.int k1), .val (.int k2), .val (.int k3), .val (.long k4), .second, .val (.int k5), .val (.int k6), .val (.int (2 : Int32)), .val (.int v18), .val (.ref b246), .val (.ref b261), .unset, .unset, .unset, .unset, .unset, .unset, .unset] [(.int (((k4 >>> ((48 : Int32) &&& 0x3f).toInt64).toInt32).toInt8.toInt32)), (.int (6 : Int32)), (.ref b261)])) _
      refine st303 _ ?_
      show Steps p.tables e below (T303.setTop (mkF m 156 #[.val (.int k1), .val (.int k2), .val (.int k3), .val (.long k4), .second, .val (.int k5), .val (.int k6), .val (.int (2 : Int32)), .val (.int v18), .val (.ref b246), .val (.ref b261), .unset, .unset, .unset, .unset, .unset, .unset, .unset] [])) _
      refine XS.aload X303.here hx rfl (hb hby at_156) rfl rfl ?_
      show Steps p.tables e below (T303.setTop (mkF m 158 #[.val (.int k1), .val (.int k2), .val (.int k3), .val (.long k4), .second, .val (.int k5), .val (.int k6), .val (.int (2 : Int32)), .val (.int v18), .val (.ref b246), .val (.ref b261), .unset, .unset, .unset, .unset, .unset, .unset, .unset] [(.ref b261)])) _
      refine XS.bipush X303.here hx rfl (hb hby at_158) ?_
      show Steps p.tables e below (T303.setTop (mkF m 160 #[.val (.int k1), .val (.int k2), .val (.int k3), .val (.long k4), .second, .val (.int k5), .val (.int k6), .val (.int (2 : Int32)), .val (.int v18), .val (.ref b246), .val (.ref b261), .unset, .unset, .unset, .unset, .unset, .unset, .unset] [(.int (7 : Int32)), (.ref b261)])) _
      refine XS.lloadN X303.here hx rfl (hb hby at_160) rfl ?_
      show Steps p.tables e below (T303.setTop (mkF m 161 #[.val (.int k1), .val (.int k2), .val (.int k3), .val (.long k4), .second, .val (.int k5), .val (.int k6), .val (.int (2 : Int32)), .val (.int v18), .val (.ref b246), .val (.ref b261), .unset, .unset, .unset, .unset, .unset, .unset, .unset] [(.long k4), (.int (7 : Int32)), (.ref b261)])) _
      refine XS.bipush X303.here hx rfl (hb hby at_161) ?_
      show Steps p.tables e below (T303.setTop (mkF m 163 #[.val (.int k1), .val (.int k2), .val (.int k3), .val (.long k4), .second, .val (.int k5), .val (.int k6), .val (.int (2 : Int32)), .val (.int v18), .val (.ref b246), .val (.ref b261), .unset, .unset, .unset, .unset, .unset, .unset, .unset] [(.int (56 : Int32)), (.long k4), (.int (7 : Int32)), (.ref b261)])) _
      refine XS.lshr X303.here hx rfl (hb hby at_163) rfl ?_
      show Steps p.tables e below (T303.setTop (mkF m 164 #[.val (.int k1), .val (.int k2), .val (.int k3), .val (.long k4), .second, .val (.int k5), .val (.int k6), .val (.int (2 : Int32)), .val (.int v18), .val (.ref b246), .val (.ref b261), .unset, .unset, .unset, .unset, .unset, .unset, .unset] [(.long (k4 >>> ((56 : Int32) &&& 0x3f).toInt64)), (.int (7 : Int32)), (.ref b261)])) _
      refine XS.l2i X303.here hx rfl (hb hby at_164) rfl ?_
      show Steps p.tables e below (T303.setTop (mkF m 165 #[.val (.int k1), .val (.int k2), .val (.int k3), .val (.long k4), .second, .val (.int k5), .val (.int k6), .val (.int (2 : Int32)), .val (.int v18), .val (.ref b246), .val (.ref b261), .unset, .unset, .unset, .unset, .unset, .unset, .unset] [(.int ((k4 >>> ((56 : Int32) &&& 0x3f).toInt64).toInt32)), (.int (7 : Int32)), (.ref b261)])) _
      refine XS.i2b X303.here hx rfl (hb hby at_165) rfl ?_
      show Steps p.tables e below (T303.setTop (mkF m 166 #[.val (.int k1), .val (.int k2), .val (.int k3), .val (.long k4), .second, .val (.int k5), .val (.int k6), .val (.int (2 : Int32)), .val (.int v18), .val (.ref b246), .val (.ref b261), .unset, .unset, .unset, .unset, .unset, .unset, .unset] [(.int (((k4 >>> ((56 : Int32) &&& 0x3f).toInt64).toInt32).toInt8.toInt32)), (.int (7 : Int32)), (.ref b261)])) _
      refine st309 _ ?_
      show Steps p.tables e below (T309.setTop (mkF m 167 #[.val (.int k1), .val (.int k2), .val (.int k3), .val (.long k4), .second, .val (.int k5), .val (.int k6), .val (.int (2 : Int32)), .val (.int v18), .val (.ref b246), .val (.ref b261), .unset, .unset, .unset, .unset, .unset, .unset, .unset] [])) _
      refine XS.iload X309.here hx rfl (hb hby at_167) rfl ?_
      show Steps p.tables e below (T309.setTop (mkF m 169 #[.val (.int k1), .val (.int k2), .val (.int k3), .val (.long k4), .second, .val (.int k5), .val (.int k6), .val (.int (2 : Int32)), .val (.int v18), .val (.ref b246), .val (.ref b261), .unset, .unset, .unset, .unset, .unset, .unset, .unset] [(.int k6)])) _
      refine XS.iload X309.here hx rfl (hb hby at_169) rfl ?_
      show Steps p.tables e below (T309.setTop (mkF m 171 #[.val (.int k1), .val (.int k2), .val (.int k3), .val (.long k4), .second, .val (.int k5), .val (.int k6), .val (.int (2 : Int32)), .val (.int v18), .val (.ref b246), .val (.ref b261), .unset, .unset, .unset, .unset, .unset, .unset, .unset] [(.int k5), (.int k6)])) _
      refine XS.iconst X309.here hx rfl (hb hby at_171) ?_
      show Steps p.tables e below (T309.setTop (mkF m 172 #[.val (.int k1), .val (.int k2), .val (.int k3), .val (.long k4), .second, .val (.int k5), .val (.int k6), .val (.int (2 : Int32)), .val (.int v18), .val (.ref b246), .val (.ref b261), .unset, .unset, .unset, .unset, .unset, .unset, .unset] [(.int (0 : Int32)), (.int k5), (.int k6)])) _
      refine st315 _ ?_
      show Steps p.tables e below (T315.setTop (mkF m 175 #[.val (.int k1), .val (.int k2), .val (.int k3), .val (.long k4), .second, .val (.int k5), .val (.int k6), .val (.int (2 : Int32)), .val (.int v18), .val (.ref b246), .val (.ref b261), .unset, .unset, .unset, .unset, .unset, .unset, .unset] [(.int (own_f1 k6 k5 (0 : Int32)))])) _
      rw [← hr172]
      show Steps p.tables e below (T315.setTop (mkF m 175 #[.val (.int k1), .val (.int k2), .val (.int k3), .val (.long k4), .second, .val (.int k5), .val (.int k6), .val (.int (2 : Int32)), .val (.int v18), .val (.ref b246), .val (.ref b261), .unset, .unset, .unset, .unset, .unset, .unset, .unset] [(.int r172)])) _
      refine XS.istore X315.here hx rfl (hb hby at_175) rfl (l' := #[.val (.int k1), .val (.int k2), .val (.int k3), .val (.long k4), .second, .val (.int k5), .val (.int k6), .val (.int (2 : Int32)), .val (.int v18), .val (.ref b246), .val (.ref b261), .val (.int r172), .unset, .unset, .unset, .unset, .unset, .unset]) rfl ?_
      show Steps p.tables e below (T315.setTop (mkF m 177 #[.val (.int k1), .val (.int k2), .val (.int k3), .val (.long k4), .second, .val (.int k5), .val (.int k6), .val (.int (2 : Int32)), .val (.int v18), .val (.ref b246), .val (.ref b261), .val (.int r172), .unset, .unset, .unset, .unset, .unset, .unset] [])) _
      refine XS.iload X315.here hx rfl (hb hby at_177) rfl ?_
      show Steps p.tables e below (T315.setTop (mkF m 179 #[.val (.int k1), .val (.int k2), .val (.int k3), .val (.long k4), .second, .val (.int k5), .val (.int k6), .val (.int (2 : Int32)), .val (.int v18), .val (.ref b246), .val (.ref b261), .val (.int r172), .unset, .unset, .unset, .unset, .unset, .unset] [(.int k6)])) _
      refine XS.iload X315.here hx rfl (hb hby at_179) rfl ?_
      show Steps p.tables e below (T315.setTop (mkF m 181 #[.val (.int k1), .val (.int k2), .val (.int k3), .val (.long k4), .second, .val (.int k5), .val (.int k6), .val (.int (2 : Int32)), .val (.int v18), .val (.ref b246), .val (.ref b261), .val (.int r172), .unset, .unset, .unset, .unset, .unset, .unset] [(.int k5), (.int k6)])) _
      refine XS.iconst X315.here hx rfl (hb hby at_181) ?_
      show Steps p.tables e below (T315.setTop (mkF m 182 #[.val (.int k1), .val (.int k2), .val (.int k3), .val (.long k4), .second, .val (.int k5), .val (.int k6), .val (.int (2 : Int32)), .val (.int v18), .val (.ref b246), .val (.ref b261), .val (.int r172), .unset, .unset, .unset, .unset, .unset, .unset] [(.int (1 : Int32)), (.int k5), (.int k6)])) _
      refine st316 _ ?_
      show Steps p.tables e below (T316.setTop (mkF m 185 #[.val (.int k1), .val (.int k2), .val (.int k3), .val (.long k4), .second, .val (.int k5), .val (.int k6), .val (.int (2 : Int32)), .val (.int v18), .val (.ref b246), .val (.ref b261), .val (.int r172), .unset, .unset, .unset, .unset, .unset, .unset] [(.int (own_f1 k6 k5 (1 : Int32)))])) _
      rw [← hr182]
      show Steps p.tables e below (T316.setTop (mkF m 185 #[.val (.int k1), .val (.int k2), .val (.int k3), .val (.long k4), .second, .val (.int k5), .val (.int k6), .val (.int (2 : Int32)), .val (.int v18), .val (.ref b246), .val (.ref b261), .val (.int r172), .unset, .unset, .unset, .unset, .unset, .unset] [(.int r182)])) _
      refine XS.istore X316.here hx rfl (hb hby at_185) rfl (l' := #[.val (.int k1), .val (.int k2), .val (.int k3), .val (.long k4), .second, .val (.int k5), .val (.int k6), .val (.int (2 : Int32)), .val (.int v18), .val (.ref b246), .val (.ref b261), .val (.int r172), .val (.int r182), .unset, .unset, .unset, .unset, .unset]) rfl ?_
      show Steps p.tables e below (T316.setTop (mkF m 187 #[.val (.int k1), .val (.int k2), .val (.int k3), .val (.long k4), .second, .val (.int k5), .val (.int k6), .val (.int (2 : Int32)), .val (.int v18), .val (.ref b246), .val (.ref b261), .val (.int r172), .val (.int r182), .unset, .unset, .unset, .unset, .unset] [])) _
      refine XS.iload X316.here hx rfl (hb hby at_187) rfl ?_
      show Steps p.tables e below (T316.setTop (mkF m 189 #[.val (.int k1), .val (.int k2), .val (.int k3), .val (.long k4), .second, .val (.int k5), .val (.int k6), .val (.int (2 : Int32)), .val (.int v18), .val (.ref b246), .val (.ref b261), .val (.int r172), .val (.int r182), .unset, .unset, .unset, .unset, .unset] [(.int k6)])) _
      refine XS.iload X316.here hx rfl (hb hby at_189) rfl ?_
      show Steps p.tables e below (T316.setTop (mkF m 191 #[.val (.int k1), .val (.int k2), .val (.int k3), .val (.long k4), .second, .val (.int k5), .val (.int k6), .val (.int (2 : Int32)), .val (.int v18), .val (.ref b246), .val (.ref b261), .val (.int r172), .val (.int r182), .unset, .unset, .unset, .unset, .unset] [(.int k5), (.int k6)])) _
      refine XS.iconst X316.here hx rfl (hb hby at_191) ?_
      show Steps p.tables e below (T316.setTop (mkF m 192 #[.val (.int k1), .val (.int k2), .val (.int k3), .val (.long k4), .second, .val (.int k5), .val (.int k6), .val (.int (2 : Int32)), .val (.int v18), .val (.ref b246), .val (.ref b261), .val (.int r172), .val (.int r182), .unset, .unset, .unset, .unset, .unset] [(.int (2 : Int32)), (.int k5), (.int k6)])) _
      refine st317 _ ?_
      show Steps p.tables e below (T317.setTop (mkF m 195 #[.val (.int k1), .val (.int k2), .val (.int k3), .val (.long k4), .second, .val (.int k5), .val (.int k6), .val (.int (2 : Int32)), .val (.int v18), .val (.ref b246), .val (.ref b261), .val (.int r172), .val (.int r182), .unset, .unset, .unset, .unset, .unset] [(.int (own_f1 k6 k5 (2 : Int32)))])) _
      rw [← hr192]
      show Steps p.tables e below (T317.setTop (mkF m 195 #[.val (.int k1), .val (.int k2), .val (.int k3), .val (.long k4), .second, .val (.int k5), .val (.int k6), .val (.int (2 : Int32)), .val (.int v18), .val (.ref b246), .val (.ref b261), .val (.int r172), .val (.int r182), .unset, .unset, .unset, .unset, .unset] [(.int r192)])) _
      refine XS.istore X317.here hx rfl (hb hby at_195) rfl (l' := #[.val (.int k1), .val (.int k2), .val (.int k3), .val (.long k4), .second, .val (.int k5), .val (.int k6), .val (.int (2 : Int32)), .val (.int v18), .val (.ref b246), .val (.ref b261), .val (.int r172), .val (.int r182), .val (.int r192), .unset, .unset, .unset, .unset]) rfl ?_
      show Steps p.tables e below (T317.setTop (mkF m 197 #[.val (.int k1), .val (.int k2), .val (.int k3), .val (.long k4), .second, .val (.int k5), .val (.int k6), .val (.int (2 : Int32)), .val (.int v18), .val (.ref b246), .val (.ref b261), .val (.int r172), .val (.int r182), .val (.int r192), .unset, .unset, .unset, .unset] [])) _
      refine XS.iload X317.here hx rfl (hb hby at_197) rfl ?_
      show Steps p.tables e below (T317.setTop (mkF m 199 #[.val (.int k1), .val (.int k2), .val (.int k3), .val (.long k4), .second, .val (.int k5), .val (.int k6), .val (.int (2 : Int32)), .val (.int v18), .val (.ref b246), .val (.ref b261), .val (.int r172), .val (.int r182), .val (.int r192), .unset, .unset, .unset, .unset] [(.int k6)])) _
      refine XS.iload X317.here hx rfl (hb hby at_199) rfl ?_
      show Steps p.tables e below (T317.setTop (mkF m 201 #[.val (.int k1), .val (.int k2), .val (.int k3), .val (.long k4), .second, .val (.int k5), .val (.int k6), .val (.int (2 : Int32)), .val (.int v18), .val (.ref b246), .val (.ref b261), .val (.int r172), .val (.int r182), .val (.int r192), .unset, .unset, .unset, .unset] [(.int k5), (.int k6)])) _
      refine XS.iconst X317.here hx rfl (hb hby at_201) ?_
      show Steps p.tables e below (T317.setTop (mkF m 202 #[.val (.int k1), .val (.int k2), .val (.int k3), .val (.long k4), .second, .val (.int k5), .val (.int k6), .val (.int (2 : Int32)), .val (.int v18), .val (.ref b246), .val (.ref b261), .val (.int r172), .val (.int r182), .val (.int r192), .unset, .unset, .unset, .unset] [(.int (3 : Int32)), (.int k5), (.int k6)])) _
      refine st318 _ ?_
      show Steps p.tables e below (T318.setTop (mkF m 205 #[.val (.int k1), .val (.int k2), .val (.int k3), .val (.long k4), .second, .val (.int k5), .val (.int k6), .val (.int (2 : Int32)), .val (.int v18), .val (.ref b246), .val (.ref b261), .val (.int r172), .val (.int r182), .val (.int r192), .unset, .unset, .unset, .unset] [(.int (own_f1 k6 k5 (3 : Int32)))])) _
      rw [← hr202]
      show Steps p.tables e below (T318.setTop (mkF m 205 #[.val (.int k1), .val (.int k2), .val (.int k3), .val (.long k4), .second, .val (.int k5), .val (.int k6), .val (.int (2 : Int32)), .val (.int v18), .val (.ref b246), .val (.ref b261), .val (.int r172), .val (.int r182), .val (.int r192), .unset, .unset, .unset, .unset] [(.int r202)])) _
      refine XS.istore X318.here hx rfl (hb hby at_205) rfl (l' := #[.val (.int k1), .val (.int k2), .val (.int k3), .val (.long k4), .second, .val (.int k5), .val (.int k6), .val (.int (2 : Int32)), .val (.int v18), .val (.ref b246), .val (.ref b261), .val (.int r172), .val (.int r182), .val (.int r192), .val (.int r202), .unset, .unset, .unset]) rfl ?_
      show Steps p.tables e below (T318.setTop (mkF m 207 #[.val (.int k1), .val (.int k2), .val (.int k3), .val (.long k4), .second, .val (.int k5), .val (.int k6), .val (.int (2 : Int32)), .val (.int v18), .val (.ref b246), .val (.ref b261), .val (.int r172), .val (.int r182), .val (.int r192), .val (.int r202), .unset, .unset, .unset] [])) _
      refine XS.iload X318.here hx rfl (hb hby at_207) rfl ?_
      show Steps p.tables e below (T318.setTop (mkF m 209 #[.val (.int k1), .val (.int k2), .val (.int k3), .val (.long k4), .second, .val (.int k5), .val (.int k6), .val (.int (2 : Int32)), .val (.int v18), .val (.ref b246), .val (.ref b261), .val (.int r172), .val (.int r182), .val (.int r192), .val (.int r202), .unset, .unset, .unset] [(.int (2 : Int32))])) _
      refine XS.ifNo X318.here hx rfl (hb hby at_209) rfl ((if0 _ _).trans (tlt (by decide)).2.2.2) ?_
      show Steps p.tables e below (T318.setTop (mkF m 212 #[.val (.int k1), .val (.int k2), .val (.int k3), .val (.long k4), .second, .val (.int k5), .val (.int k6), .val (.int (2 : Int32)), .val (.int v18), .val (.ref b246), .val (.ref b261), .val (.int r172), .val (.int r182), .val (.int r192), .val (.int r202), .unset, .unset, .unset] [])) _
      refine XS.aload X318.here hx rfl (hb hby at_212) rfl rfl ?_
      show Steps p.tables e below (T318.setTop (mkF m 214 #[.val (.int k1), .val (.int k2), .val (.int k3), .val (.long k4), .second, .val (.int k5), .val (.int k6), .val (.int (2 : Int32)), .val (.int v18), .val (.ref b246), .val (.ref b261), .val (.int r172), .val (.int r182), .val (.int r192), .val (.int r202), .unset, .unset, .unset] [(.ref b261)])) _
      refine XS.iload X318.here hx rfl (hb hby at_214) rfl ?_
      show Steps p.tables e below (T318.setTop (mkF m 216 #[.val (.int k1), .val (.int k2), .val (.int k3), .val (.long k4), .second, .val (.int k5), .val (.int k6), .val (.int (2 : Int32)), .val (.int v18), .val (.ref b246), .val (.ref b261), .val (.int r172), .val (.int r182), .val (.int r192), .val (.int r202), .unset, .unset, .unset] [(.int v18), (.ref b261)])) _
      refine XS.aload X318.here hx rfl (hb hby at_216) rfl rfl ?_
      show Steps p.tables e below (T318.setTop (mkF m 218 #[.val (.int k1), .val (.int k2), .val (.int k3), .val (.long k4), .second, .val (.int k5), .val (.int k6), .val (.int (2 : Int32)), .val (.int v18), .val (.ref b246), .val (.ref b261), .val (.int r172), .val (.int r182), .val (.int r192), .val (.int r202), .unset, .unset, .unset] [(.ref b246), (.int v18), (.ref b261)])) _
      refine XS.iconst X318.here hx rfl (hb hby at_218) ?_
      show Steps p.tables e below (T318.setTop (mkF m 219 #[.val (.int k1), .val (.int k2), .val (.int k3), .val (.long k4), .second, .val (.int k5), .val (.int k6), .val (.int (2 : Int32)), .val (.int v18), .val (.ref b246), .val (.ref b261), .val (.int r172), .val (.int r182), .val (.int r192), .val (.int r202), .unset, .unset, .unset] [(.int (0 : Int32)), (.ref b246), (.int v18), (.ref b261)])) _
      refine X318.baloadBytes hx (j := (0 : Int32)) (v := (.int (nar .byte (k3.toInt8.toInt32)))) (heq_of e318 Ar319.1) (State.isArrayOf_alike hZ.alike Ar319.2.1) Ar319.2.2 hin319 hat319 (g := (mkF m 219 #[.val (.int k1), .val (.int k2), .val (.int k3), .val (.long k4), .second, .val (.int k5), .val (.int k6), .val (.int (2 : Int32)), .val (.int v18), .val (.ref b246), .val (.ref b261), .val (.int r172), .val (.int r182), .val (.int r192), .val (.int r202), .unset, .unset, .unset] [(.int (0 : Int32)), (.ref b246), (.int v18), (.ref b261)])) rfl rfl (hb hby at_219) _ ?_
      show Steps p.tables e below (T318.setTop (mkF m 220 #[.val (.int k1), .val (.int k2), .val (.int k3), .val (.long k4), .second, .val (.int k5), .val (.int k6), .val (.int (2 : Int32)), .val (.int v18), .val (.ref b246), .val (.ref b261), .val (.int r172), .val (.int r182), .val (.int r192), .val (.int r202), .unset, .unset, .unset] [(.int (nar .byte (k3.toInt8.toInt32))), (.int v18), (.ref b261)])) _
      refine XS.iload X318.here hx rfl (hb hby at_220) rfl ?_
      show Steps p.tables e below (T318.setTop (mkF m 222 #[.val (.int k1), .val (.int k2), .val (.int k3), .val (.long k4), .second, .val (.int k5), .val (.int k6), .val (.int (2 : Int32)), .val (.int v18), .val (.ref b246), .val (.ref b261), .val (.int r172), .val (.int r182), .val (.int r192), .val (.int r202), .unset, .unset, .unset] [(.int r172), (.int (nar .byte (k3.toInt8.toInt32))), (.int v18), (.ref b261)])) _
      refine XS.ixor X318.here hx rfl (hb hby at_222) rfl ?_
      show Steps p.tables e below (T318.setTop (mkF m 223 #[.val (.int k1), .val (.int k2), .val (.int k3), .val (.long k4), .second, .val (.int k5), .val (.int k6), .val (.int (2 : Int32)), .val (.int v18), .val (.ref b246), .val (.ref b261), .val (.int r172), .val (.int r182), .val (.int r192), .val (.int r202), .unset, .unset, .unset] [(.int ((nar .byte (k3.toInt8.toInt32)) ^^^ r172)), (.int v18), (.ref b261)])) _
      refine XS.i2b X318.here hx rfl (hb hby at_223) rfl ?_
      show Steps p.tables e below (T318.setTop (mkF m 224 #[.val (.int k1), .val (.int k2), .val (.int k3), .val (.long k4), .second, .val (.int k5), .val (.int k6), .val (.int (2 : Int32)), .val (.int v18), .val (.ref b246), .val (.ref b261), .val (.int r172), .val (.int r182), .val (.int r192), .val (.int r202), .unset, .unset, .unset] [(.int (((nar .byte (k3.toInt8.toInt32)) ^^^ r172).toInt8.toInt32)), (.int v18), (.ref b261)])) _
      refine st320 _ ?_
      show Steps p.tables e below (T320.setTop (mkF m 225 #[.val (.int k1), .val (.int k2), .val (.int k3), .val (.long k4), .second, .val (.int k5), .val (.int k6), .val (.int (2 : Int32)), .val (.int v18), .val (.ref b246), .val (.ref b261), .val (.int r172), .val (.int r182), .val (.int r192), .val (.int r202), .unset, .unset, .unset] [])) _
      refine XS.iload X320.here hx rfl (hb hby at_225) rfl ?_
      show Steps p.tables e below (T320.setTop (mkF m 227 #[.val (.int k1), .val (.int k2), .val (.int k3), .val (.long k4), .second, .val (.int k5), .val (.int k6), .val (.int (2 : Int32)), .val (.int v18), .val (.ref b246), .val (.ref b261), .val (.int r172), .val (.int r182), .val (.int r192), .val (.int r202), .unset, .unset, .unset] [(.int (2 : Int32))])) _
      refine XS.iconst X320.here hx rfl (hb hby at_227) ?_
      show Steps p.tables e below (T320.setTop (mkF m 228 #[.val (.int k1), .val (.int k2), .val (.int k3), .val (.long k4), .second, .val (.int k5), .val (.int k6), .val (.int (2 : Int32)), .val (.int v18), .val (.ref b246), .val (.ref b261), .val (.int r172), .val (.int r182), .val (.int r192), .val (.int r202), .unset, .unset, .unset] [(.int (1 : Int32)), (.int (2 : Int32))])) _
      refine XS.icmpNo X320.here hx rfl (hb hby at_228) rfl (tlt (by decide)).2.2.2 ?_
      show Steps p.tables e below (T320.setTop (mkF m 231 #[.val (.int k1), .val (.int k2), .val (.int k3), .val (.long k4), .second, .val (.int k5), .val (.int k6), .val (.int (2 : Int32)), .val (.int v18), .val (.ref b246), .val (.ref b261), .val (.int r172), .val (.int r182), .val (.int r192), .val (.int r202), .unset, .unset, .unset] [])) _
      refine XS.aload X320.here hx rfl (hb hby at_231) rfl rfl ?_
      show Steps p.tables e below (T320.setTop (mkF m 233 #[.val (.int k1), .val (.int k2), .val (.int k3), .val (.long k4), .second, .val (.int k5), .val (.int k6), .val (.int (2 : Int32)), .val (.int v18), .val (.ref b246), .val (.ref b261), .val (.int r172), .val (.int r182), .val (.int r192), .val (.int r202), .unset, .unset, .unset] [(.ref b261)])) _
      refine XS.iload X320.here hx rfl (hb hby at_233) rfl ?_
      show Steps p.tables e below (T320.setTop (mkF m 235 #[.val (.int k1), .val (.int k2), .val (.int k3), .val (.long k4), .second, .val (.int k5), .val (.int k6), .val (.int (2 : Int32)), .val (.int v18), .val (.ref b246), .val (.ref b261), .val (.int r172), .val (.int r182), .val (.int r192), .val (.int r202), .unset, .unset, .unset] [(.int v18), (.ref b261)])) _
      refine XS.iconst X320.here hx rfl (hb hby at_235) ?_
      show Steps p.tables e below (T320.setTop (mkF m 236 #[.val (.int k1), .val (.int k2), .val (.int k3), .val (.long k4), .second, .val (.int k5), .val (.int k6), .val (.int (2 : Int32)), .val (.int v18), .val (.ref b246), .val (.ref b261), .val (.int r172), .val (.int r182), .val (.int r192), .val (.int r202), .unset, .unset, .unset] [(.int (1 : Int32)), (.int v18), (.ref b261)])) _
      refine XS.iadd X320.here hx rfl (hb hby at_236) rfl ?_
      show Steps p.tables e below (T320.setTop (mkF m 237 #[.val (.int k1), .val (.int k2), .val (.int k3), .val (.long k4), .second, .val (.int k5), .val (.int k6), .val (.int (2 : Int32)), .val (.int v18), .val (.ref b246), .val (.ref b261), .val (.int r172), .val (.int r182), .val (.int r192), .val (.int r202), .unset, .unset, .unset] [(.int (v18 + (1 : Int32))), (.ref b261)])) _
      refine XS.aload X320.here hx rfl (hb hby at_237) rfl rfl ?_
      show Steps p.tables e below (T320.setTop (mkF m 239 #[.val (.int k1), .val (.int k2), .val (.int k3), .val (.long k4), .second, .val (.int k5), .val (.int k6), .val (.int (2 : Int32)), .val (.int v18), .val (.ref b246), .val (.ref b261), .val (.int r172), .val (.int r182), .val (.int r192), .val (.int r202), .unset, .unset, .unset] [(.ref b246), (.int (v18 + (1 : Int32))), (.ref b261)])) _
      refine XS.iconst X320.here hx rfl (hb hby at_239) ?_
      show Steps p.tables e below (T320.setTop (mkF m 240 #[.val (.int k1), .val (.int k2), .val (.int k3), .val (.long k4), .second, .val (.int k5), .val (.int k6), .val (.int (2 : Int32)), .val (.int v18), .val (.ref b246), .val (.ref b261), .val (.int r172), .val (.int r182), .val (.int r192), .val (.int r202), .unset, .unset, .unset] [(.int (1 : Int32)), (.ref b246), (.int (v18 + (1 : Int32))), (.ref b261)])) _
      refine X320.baloadBytes hx (j := (1 : Int32)) (v := (.int (nar .byte ((k3 >>> ((8 : Int32) &&& 31)).toInt8.toInt32)))) (heq_of e320 Ar326.1) (State.isArrayOf_alike hZ.alike Ar326.2.1) Ar326.2.2 hin326 hat326 (g := (mkF m 240 #[.val (.int k1), .val (.int k2), .val (.int k3), .val (.long k4), .second, .val (.int k5), .val (.int k6), .val (.int (2 : Int32)), .val (.int v18), .val (.ref b246), .val (.ref b261), .val (.int r172), .val (.int r182), .val (.int r192), .val (.int r202), .unset, .unset, .unset] [(.int (1 : Int32)), (.ref b246), (.int (v18 + (1 : Int32))), (.ref b261)])) rfl rfl (hb hby at_240) _ ?_
      show Steps p.tables e below (T320.setTop (mkF m 241 #[.val (.int k1), .val (.int k2), .val (.int k3), .val (.long k4), .second, .val (.int k5), .val (.int k6), .val (.int (2 : Int32)), .val (.int v18), .val (.ref b246), .val (.ref b261), .val (.int r172), .val (.int r182), .val (.int r192), .val (.int r202), .unset, .unset, .unset] [(.int (nar .byte ((k3 >>> ((8 : Int32) &&& 31)).toInt8.toInt32))), (.int (v18 + (1 : Int32))), (.ref b261)])) _
      refine XS.iload X320.here hx rfl (hb hby at_241) rfl ?_
      show Steps p.tables e below (T320.setTop (mkF m 243 #[.val (.int k1), .val (.int k2), .val (.int k3), .val (.long k4), .second, .val (.int k5), .val (.int k6), .val (.int (2 : Int32)), .val (.int v18), .val (.ref b246), .val (.ref b261), .val (.int r172), .val (.int r182), .val (.int r192), .val (.int r202), .unset, .unset, .unset] [(.int r182), (.int (nar .byte ((k3 >>> ((8 : Int32) &&& 31)).toInt8.toInt32))), (.int (v18 + (1 : Int32))), (.ref b261)])) _
      refine XS.ixor X320.here hx rfl (hb hby at_243) rfl ?_
      show Steps p.tables e below (T320.setTop (mkF m 244 #[.val (.int k1), .val (.int k2), .val (.int k3), .val (.long k4), .second, .val (.int k5), .val (.int k6), .val (.int (2 : Int32)), .val (.int v18), .val (.ref b246), .val (.ref b261), .val (.int r172), .val (.int r182), .val (.int r192), .val (.int r202), .unset, .unset, .unset] [(.int ((nar .byte ((k3 >>> ((8 : Int32) &&& 31)).toInt8.toInt32)) ^^^ r182)), (.int (v18 + (1 : Int32))), (.ref b261)])) _
      refine XS.i2b X320.here hx rfl (hb hby at_244) rfl ?_
      show Steps p.tables e below (T320.setTop (mkF m 245 #[.val (.int k1), .val (.int k2), .val (.int k3), .val (.long k4), .second, .val (.int k5), .val (.int k6), .val (.int (2 : Int32)), .val (.int v18), .val (.ref b246), .val (.ref b261), .val (.int r172), .val (.int r182), .val (.int r192), .val (.int r202), .unset, .unset, .unset] [(.int (((nar .byte ((k3 >>> ((8 : Int32) &&& 31)).toInt8.toInt32)) ^^^ r182).toInt8.toInt32)), (.int (v18 + (1 : Int32))), (.ref b261)])) _
      refine st327 _ ?_
      show Steps p.tables e below (T327.setTop (mkF m 246 #[.val (.int k1), .val (.int k2), .val (.int k3), .val (.long k4), .second, .val (.int k5), .val (.int k6), .val (.int (2 : Int32)), .val (.int v18), .val (.ref b246), .val (.ref b261), .val (.int r172), .val (.int r182), .val (.int r192), .val (.int r202), .unset, .unset, .unset] [])) _
      refine XS.iload X327.here hx rfl (hb hby at_246) rfl ?_
      show Steps p.tables e below (T327.setTop (mkF m 248 #[.val (.int k1), .val (.int k2), .val (.int k3), .val (.long k4), .second, .val (.int k5), .val (.int k6), .val (.int (2 : Int32)), .val (.int v18), .val (.ref b246), .val (.ref b261), .val (.int r172), .val (.int r182), .val (.int r192), .val (.int r202), .unset, .unset, .unset] [(.int (2 : Int32))])) _
      refine XS.iconst X327.here hx rfl (hb hby at_248) ?_
      show Steps p.tables e below (T327.setTop (mkF m 249 #[.val (.int k1), .val (.int k2), .val (.int k3), .val (.long k4), .second, .val (.int k5), .val (.int k6), .val (.int (2 : Int32)), .val (.int v18), .val (.ref b246), .val (.ref b261), .val (.int r172), .val (.int r182), .val (.int r192), .val (.int r202), .unset, .unset, .unset] [(.int (2 : Int32)), (.int (2 : Int32))])) _
      refine XS.icmpYes X327.here hx rfl (pc0 := 249) (pc' := 267) rfl (hb hby at_249) rfl (flt (by decide)).2.2.2 (by decide) (by decide) ?_
      show Steps p.tables e below (T327.setTop (mkF m 267 #[.val (.int k1), .val (.int k2), .val (.int k3), .val (.long k4), .second, .val (.int k5), .val (.int k6), .val (.int (2 : Int32)), .val (.int v18), .val (.ref b246), .val (.ref b261), .val (.int r172), .val (.int r182), .val (.int r192), .val (.int r202), .unset, .unset, .unset] [])) _
      refine XS.iload X327.here hx rfl (hb hby at_267) rfl ?_
      show Steps p.tables e below (T327.setTop (mkF m 269 #[.val (.int k1), .val (.int k2), .val (.int k3), .val (.long k4), .second, .val (.int k5), .val (.int k6), .val (.int (2 : Int32)), .val (.int v18), .val (.ref b246), .val (.ref b261), .val (.int r172), .val (.int r182), .val (.int r192), .val (.int r202), .unset, .unset, .unset] [(.int (2 : Int32))])) _
      refine XS.iconst X327.here hx rfl (hb hby at_269) ?_
      show Steps p.tables e below (T327.setTop (mkF m 270 #[.val (.int k1), .val (.int k2), .val (.int k3), .val (.long k4), .second, .val (.int k5), .val (.int k6), .val (.int (2 : Int32)), .val (.int v18), .val (.ref b246), .val (.ref b261), .val (.int r172), .val (.int r182), .val (.int r192), .val (.int r202), .unset, .unset, .unset] [(.int (3 : Int32)), (.int (2 : Int32))])) _
      refine XS.icmpYes X327.here hx rfl (pc0 := 270) (pc' := 288) rfl (hb hby at_270) rfl (flt (by decide)).2.2.2 (by decide) (by decide) ?_
      show Steps p.tables e below (T327.setTop (mkF m 288 #[.val (.int k1), .val (.int k2), .val (.int k3), .val (.long k4), .second, .val (.int k5), .val (.int k6), .val (.int (2 : Int32)), .val (.int v18), .val (.ref b246), .val (.ref b261), .val (.int r172), .val (.int r182), .val (.int r192), .val (.int r202), .unset, .unset, .unset] [])) _
      refine XS.iload X327.here hx rfl (hb hby at_288) rfl ?_
      show Steps p.tables e below (T327.setTop (mkF m 290 #[.val (.int k1), .val (.int k2), .val (.int k3), .val (.long k4), .second, .val (.int k5), .val (.int k6), .val (.int (2 : Int32)), .val (.int v18), .val (.ref b246), .val (.ref b261), .val (.int r172), .val (.int r182), .val (.int r192), .val (.int r202), .unset, .unset, .unset] [(.int (2 : Int32))])) _
      refine XS.iconst X327.here hx rfl (hb hby at_290) ?_
      show Steps p.tables e below (T327.setTop (mkF m 291 #[.val (.int k1), .val (.int k2), .val (.int k3), .val (.long k4), .second, .val (.int k5), .val (.int k6), .val (.int (2 : Int32)), .val (.int v18), .val (.ref b246), .val (.ref b261), .val (.int r172), .val (.int r182), .val (.int r192), .val (.int r202), .unset, .unset, .unset] [(.int (1 : Int32)), (.int (2 : Int32))])) _
      refine XS.icmpNo X327.here hx rfl (hb hby at_291) rfl (flt (by decide)).1 ?_
      show Steps p.tables e below (T327.setTop (mkF m 294 #[.val (.int k1), .val (.int k2), .val (.int k3), .val (.long k4), .second, .val (.int k5), .val (.int k6), .val (.int (2 : Int32)), .val (.int v18), .val (.ref b246), .val (.ref b261), .val (.int r172), .val (.int r182), .val (.int r192), .val (.int r202), .unset, .unset, .unset] [])) _
      refine XS.iload X327.here hx rfl (hb hby at_294) rfl ?_
      by_cases d333 : r172 = (0 : Int32)
      · skip
        show Steps p.tables e below (T327.setTop (mkF m 296 #[.val (.int k1), .val (.int k2), .val (.int k3), .val (.long k4), .second, .val (.int k5), .val (.int k6), .val (.int (2 : Int32)), .val (.int v18), .val (.ref b246), .val (.ref b261), .val (.int r172), .val (.int r182), .val (.int r192), .val (.int r202), .unset, .unset, .unset] [(.int r172)])) _
        refine XS.ifNo X327.here hx rfl (hb hby at_296) rfl ((if0 _ _).trans (teq d333).2) ?_
        show Steps p.tables e below (T327.setTop (mkF m 299 #[.val (.int k1), .val (.int k2), .val (.int k3), .val (.long k4), .second, .val (.int k5), .val (.int k6), .val (.int (2 : Int32)), .val (.int v18), .val (.ref b246), .val (.ref b261), .val (.int r172), .val (.int r182), .val (.int r192), .val (.int r202), .unset, .unset, .unset] [])) _
        refine XS.iload X327.here hx rfl (hb hby at_299) rfl ?_
        show Steps p.tables e below (T327.setTop (mkF m 301 #[.val (.int k1), .val (.int k2), .val (.int k3), .val (.long k4), .second, .val (.int k5), .val (.int k6), .val (.int (2 : Int32)), .val (.int v18), .val (.ref b246), .val (.ref b261), .val (.int r172), .val (.int r182), .val (.int r192), .val (.int r202), .unset, .unset, .unset] [(.int (2 : Int32))])) _
        refine XS.iconst X327.here hx rfl (hb hby at_301) ?_
        show Steps p.tables e below (T327.setTop (mkF m 302 #[.val (.int k1), .val (.int k2), .val (.int k3), .val (.long k4), .second, .val (.int k5), .val (.int k6), .val (.int (2 : Int32)), .val (.int v18), .val (.ref b246), .val (.ref b261), .val (.int r172), .val (.int r182), .val (.int r192), .val (.int r202), .unset, .unset, .unset] [(.int (2 : Int32)), (.int (2 : Int32))])) _
        refine XS.icmpNo X327.here hx rfl (hb hby at_302) rfl (flt (by decide)).1 ?_
        show Steps p.tables e below (T327.setTop (mkF m 305 #[.val (.int k1), .val (.int k2), .val (.int k3), .val (.long k4), .second, .val (.int k5), .val (.int k6), .val (.int (2 : Int32)), .val (.int v18), .val (.ref b246), .val (.ref b261), .val (.int r172), .val (.int r182), .val (.int r192), .val (.int r202), .unset, .unset, .unset] [])) _
        refine XS.iload X327.here hx rfl (hb hby at_305) rfl ?_
        by_cases d334 : r182 = (0 : Int32)
        · skip
          show Steps p.tables e below (T327.setTop (mkF m 307 #[.val (.int k1), .val (.int k2), .val (.int k3), .val (.long k4), .second, .val (.int k5), .val (.int k6), .val (.int (2 : Int32)), .val (.int v18), .val (.ref b246), .val (.ref b261), .val (.int r172), .val (.int r182), .val (.int r192), .val (.int r202), .unset, .unset, .unset] [(.int r182)])) _
          refine XS.ifNo X327.here hx rfl (hb hby at_307) rfl ((if0 _ _).trans (teq d334).2) ?_
          show Steps p.tables e below (T327.setTop (mkF m 310 #[.val (.int k1), .val (.int k2), .val (.int k3), .val (.long k4), .second, .val (.int k5), .val (.int k6), .val (.int (2 : Int32)), .val (.int v18), .val (.ref b246), .val (.ref b261), .val (.int r172), .val (.int r182), .val (.int r192), .val (.int r202), .unset, .unset, .unset] [])) _
          refine XS.iload X327.here hx rfl (hb hby at_310) rfl ?_
          show Steps p.tables e below (T327.setTop (mkF m 312 #[.val (.int k1), .val (.int k2), .val (.int k3), .val (.long k4), .second, .val (.int k5), .val (.int k6), .val (.int (2 : Int32)), .val (.int v18), .val (.ref b246), .val (.ref b261), .val (.int r172), .val (.int r182), .val (.int r192), .val (.int r202), .unset, .unset, .unset] [(.int (2 : Int32))])) _
          refine XS.iconst X327.here hx rfl (hb hby at_312) ?_
          show Steps p.tables e below (T327.setTop (mkF m 313 #[.val (.int k1), .val (.int k2), .val (.int k3), .val (.long k4), .second, .val (.int k5), .val (.int k6), .val (.int (2 : Int32)), .val (.int v18), .val (.ref b246), .val (.ref b261), .val (.int r172), .val (.int r182), .val (.int r192), .val (.int r202), .unset, .unset, .unset] [(.int (3 : Int32)), (.int (2 : Int32))])) _
          refine XS.icmpYes X327.here hx rfl (pc0 := 313) (pc' := 321) rfl (hb hby at_313) rfl (tlt (by decide)).1 (by decide) (by decide) ?_
          show Steps p.tables e below (T327.setTop (mkF m 321 #[.val (.int k1), .val (.int k2), .val (.int k3), .val (.long k4), .second, .val (.int k5), .val (.int k6), .val (.int (2 : Int32)), .val (.int v18), .val (.ref b246), .val (.ref b261), .val (.int r172), .val (.int r182), .val (.int r192), .val (.int r202), .unset, .unset, .unset] [])) _
          refine XS.iload X327.here hx rfl (hb hby at_321) rfl ?_
          show Steps p.tables e below (T327.setTop (mkF m 323 #[.val (.int k1), .val (.int k2), .val (.int k3), .val (.long k4), .second, .val (.int k5), .val (.int k6), .val (.int (2 : Int32)), .val (.int v18), .val (.ref b246), .val (.ref b261), .val (.int r172), .val (.int r182), .val (.int r192), .val (.int r202), .unset, .unset, .unset] [(.int (2 : Int32))])) _
          refine XS.iconst X327.here hx rfl (hb hby at_323) ?_
          show Steps p.tables e below (T327.setTop (mkF m 324 #[.val (.int k1), .val (.int k2), .val (.int k3), .val (.long k4), .second, .val (.int k5), .val (.int k6), .val (.int (2 : Int32)), .val (.int v18), .val (.ref b246), .val (.ref b261), .val (.int r172), .val (.int r182), .val (.int r192), .val (.int r202), .unset, .unset, .unset] [(.int (4 : Int32)), (.int (2 : Int32))])) _
          refine XS.icmpYes X327.here hx rfl (pc0 := 324) (pc' := 332) rfl (hb hby at_324) rfl (tlt (by decide)).1 (by decide) (by decide) ?_
          show Steps p.tables e below (T327.setTop (mkF m 332 #[.val (.int k1), .val (.int k2), .val (.int k3), .val (.long k4), .second, .val (.int k5), .val (.int k6), .val (.int (2 : Int32)), .val (.int v18), .val (.ref b246), .val (.ref b261), .val (.int r172), .val (.int r182), .val (.int r192), .val (.int r202), .unset, .unset, .unset] [])) _
          refine XS.iconst X327.here hx rfl (hb hby at_332) ?_
          show Steps p.tables e below (T327.setTop (mkF m 333 #[.val (.int k1), .val (.int k2), .val (.int k3), .val (.long k4), .second, .val (.int k5), .val (.int k6), .val (.int (2 : Int32)), .val (.int v18), .val (.ref b246), .val (.ref b261), .val (.int r172), .val (.int r182), .val (.int r192), .val (.int r202), .unset, .unset, .unset] [(.int (1 : Int32))])) _
          refine XS.goto X327.here hx rfl (pc0 := 333) (pc' := 337) rfl (hb hby at_333) (by decide) (by decide) ?_
          show Steps p.tables e below (T327.setTop (mkF m 337 #[.val (.int k1), .val (.int k2), .val (.int k3), .val (.long k4), .second, .val (.int k5), .val (.int k6), .val (.int (2 : Int32)), .val (.int v18), .val (.ref b246), .val (.ref b261), .val (.int r172), .val (.int r182), .val (.int r192), .val (.int r202), .unset, .unset, .unset] [(.int (1 : Int32))])) _
          exact castTop (by simp only [hm337, if_pos d333, if_pos d334]) kt
        · skip
          show Steps p.tables e below (T327.setTop (mkF m 307 #[.val (.int k1), .val (.int k2), .val (.int k3), .val (.long k4), .second, .val (.int k5), .val (.int k6), .val (.int (2 : Int32)), .val (.int v18), .val (.ref b246), .val (.ref b261), .val (.int r172), .val (.int r182), .val (.int r192), .val (.int r202), .unset, .unset, .unset] [(.int r182)])) _
          refine XS.ifYes X327.here hx rfl (pc0 := 307) (pc' := 336) rfl (hb hby at_307) rfl ((if0 _ _).trans (feq d334).2) (by decide) (by decide) ?_
          show Steps p.tables e below (T327.setTop (mkF m 336 #[.val (.int k1), .val (.int k2), .val (.int k3), .val (.long k4), .second, .val (.int k5), .val (.int k6), .val (.int (2 : Int32)), .val (.int v18), .val (.ref b246), .val (.ref b261), .val (.int r172), .val (.int r182), .val (.int r192), .val (.int r202), .unset, .unset, .unset] [])) _
          refine XS.iconst X327.here hx rfl (hb hby at_336) ?_
          show Steps p.tables e below (T327.setTop (mkF m 337 #[.val (.int k1), .val (.int k2), .val (.int k3), .val (.long k4), .second, .val (.int k5), .val (.int k6), .val (.int (2 : Int32)), .val (.int v18), .val (.ref b246), .val (.ref b261), .val (.int r172), .val (.int r182), .val (.int r192), .val (.int r202), .unset, .unset, .unset] [(.int (0 : Int32))])) _
          exact castTop (by simp only [hm337, if_pos d333, if_neg d334]) kt
      · skip
        show Steps p.tables e below (T327.setTop (mkF m 296 #[.val (.int k1), .val (.int k2), .val (.int k3), .val (.long k4), .second, .val (.int k5), .val (.int k6), .val (.int (2 : Int32)), .val (.int v18), .val (.ref b246), .val (.ref b261), .val (.int r172), .val (.int r182), .val (.int r192), .val (.int r202), .unset, .unset, .unset] [(.int r172)])) _
        refine XS.ifYes X327.here hx rfl (pc0 := 296) (pc' := 336) rfl (hb hby at_296) rfl ((if0 _ _).trans (feq d333).2) (by decide) (by decide) ?_
        show Steps p.tables e below (T327.setTop (mkF m 336 #[.val (.int k1), .val (.int k2), .val (.int k3), .val (.long k4), .second, .val (.int k5), .val (.int k6), .val (.int (2 : Int32)), .val (.int v18), .val (.ref b246), .val (.ref b261), .val (.int r172), .val (.int r182), .val (.int r192), .val (.int r202), .unset, .unset, .unset] [])) _
        refine XS.iconst X327.here hx rfl (hb hby at_336) ?_
        show Steps p.tables e below (T327.setTop (mkF m 337 #[.val (.int k1), .val (.int k2), .val (.int k3), .val (.long k4), .second, .val (.int k5), .val (.int k6), .val (.int (2 : Int32)), .val (.int v18), .val (.ref b246), .val (.ref b261), .val (.int r172), .val (.int r182), .val (.int r192), .val (.int r202), .unset, .unset, .unset] [(.int (0 : Int32))])) _
        exact castTop (by simp only [hm337, if_neg d333]) kt
    obtain ⟨T336, hX336, X336, e336, E336, A336, D336, -, st336⟩ := newO X327 hx hZ hown (hw _ (List.mem_of_getElem? (i := 6) rfl)) (hw _ (List.mem_of_getElem? (i := 7) rfl)) (hw _ (List.mem_of_getElem? (i := 8) rfl)) e327 (g := (mkF m 339 #[.val (.int k1), .val (.int k2), .val (.int k3), .val (.long k4), .second, .val (.int k5), .val (.int k6), .val (.int (2 : Int32)), .val (.int v18), .val (.ref b246), .val (.ref b261), .val (.int r172), .val (.int r182), .val (.int r192), .val (.int r202), .val (.int m337), .unset, .unset] [])) rfl (hb hby at_339) (by decide) (by decide)
    obtain ⟨b336, g336⟩ : ∃ z_q, z_q = hX327.size := ⟨_, rfl⟩
    rw [← g336] at A336 D336 st336
    have g_b336 : n0 ≤ b336 := Nat.le_trans Z330 (Nat.le_of_eq g336.symm)
    have sz_b336 : h0.size ≤ b336 := Nat.le_trans K332.1 (Nat.le_of_eq g336.symm)
    have ne_b246_b336 : b246 ≠ b336 := Nat.ne_of_lt (Nat.lt_of_lt_of_le F329.lt (Nat.le_of_eq g336.symm))
    have ne_b261_b336 : b261 ≠ b336 := Nat.ne_of_lt (Nat.lt_of_lt_of_le F328.lt (Nat.le_of_eq g336.symm))
    have F337 : Arv Z hX336 b246 kx246 .byte (2 : Int32) [(.int (nar .byte (k3.toInt8.toInt32))), (.int (nar .byte ((k3 >>> ((8 : Int32) &&& 31)).toInt8.toInt32)))] (.int (0 : Int32)) := F329.ext E336
    have F338 : Arh Z hX336 b261 kx261 .byte (8 : Int32) [((v18 + (1 : Int32)), (.int (nar .byte (((nar .byte ((k3 >>> ((8 : Int32) &&& 31)).toInt8.toInt32)) ^^^ r182).toInt8.toInt32)))), (v18, (.int (nar .byte (((nar .byte (k3.toInt8.toInt32)) ^^^ r172).toInt8.toInt32))))] [(.int (nar .byte ((k4.toInt32).toInt8.toInt32))), (.int (nar .byte (((k4 >>> ((8 : Int32) &&& 0x3f).toInt64).toInt32).toInt8.toInt32))), (.int (nar .byte (((k4 >>> ((16 : Int32) &&& 0x3f).toInt64).toInt32).toInt8.toInt32))), (.int (nar .byte (((k4 >>> ((24 : Int32) &&& 0x3f).toInt64).toInt32).toInt8.toInt32))), (.int (nar .byte (((k4 >>> ((32 : Int32) &&& 0x3f).toInt64).toInt32).toInt8.toInt32))), (.int (nar .byte (((k4 >>> ((40 : Int32) &&& 0x3f).toInt64).toInt32).toInt8.toInt32))), (.int (nar .byte (((k4 >>> ((48 : Int32) &&& 0x3f).toInt64).toInt32).toInt8.toInt32))), (.int (nar .byte (((k4 >>> ((56 : Int32) &&& 0x3f).toInt64).toInt32).toInt8.toInt32)))] (.int (0 : Int32)) := F328.ext E336
    have Z339 : n0 ≤ hX336.size := Nat.le_trans Z330 E336.1
    have hk340 := Nat.le_trans hk331 (show _ ≤ hX336.size from E336.1)
    have K341 : Keep h0 hX336 [] := K332.ext E336
    have F342 : Fld Z hX336 b336 "com/example/marcotte/marcotte/XmlNames$Name" "qualified" "Ljava/lang/String;" .null := D336 (Or.inr (hw _ (List.mem_of_getElem? (i := 28) rfl))) (ty := (.object "java/lang/String")) (by decide)
    have F343 : Fld Z hX336 b336 "com/example/marcotte/marcotte/XmlNames$Name" "prefix" "Ljava/lang/String;" .null := D336 (Or.inr (hw _ (List.mem_of_getElem? (i := 30) rfl))) (ty := (.object "java/lang/String")) (by decide)
    have F344 : Fld Z hX336 b336 "com/example/marcotte/marcotte/XmlNames$Name" "local" "Ljava/lang/String;" .null := D336 (Or.inr (hw _ (List.mem_of_getElem? (i := 32) rfl))) (ty := (.object "java/lang/String")) (by decide)
    have F345 : Fld Z hX336 b336 "com/example/marcotte/marcotte/XmlNames$Name" "bytes" "[B" .null := D336 (Or.inr (hw _ (List.mem_of_getElem? (i := 34) rfl))) (ty := (.array .byte)) (by decide)
    have F346 : Fld Z hX336 b336 "com/example/marcotte/marcotte/XmlNames$Name" "hash" "I" (.int (0 : Int32)) := D336 (Or.inr (hw _ (List.mem_of_getElem? (i := 36) rfl))) (ty := .int) (by decide)
    have F347 : Fld Z hX336 b336 "com/example/marcotte/marcotte/XmlNames$Name" "declaresNamespace" "Z" (.int (0 : Int32)) := D336 (Or.inr (hw _ (List.mem_of_getElem? (i := 38) rfl))) (ty := .boolean) (by decide)
    have pre348 : ∀ tq, Steps p.tables e below (T336.setTop (mkF m 343 #[.val (.int k1), .val (.int k2), .val (.int k3), .val (.long k4), .second, .val (.int k5), .val (.int k6), .val (.int (2 : Int32)), .val (.int v18), .val (.ref b246), .val (.ref b261), .val (.int r172), .val (.int r182), .val (.int r192), .val (.int r202), .val (.int m337), .unset, .unset] [(.ref b336), (.ref b336)])) tq → Steps p.tables e below (s₁.setTop (entryFrame m #[(.int k1), (.int k2), (.int k3), (.long k4), (.int k5), (.int k6)] maxLocals)) tq := by
      intro tq kt
      refine pre335 _ ?_
      show Steps p.tables e below (T327.setTop (mkF m 337 #[.val (.int k1), .val (.int k2), .val (.int k3), .val (.long k4), .second, .val (.int k5), .val (.int k6), .val (.int (2 : Int32)), .val (.int v18), .val (.ref b246), .val (.ref b261), .val (.int r172), .val (.int r182), .val (.int r192), .val (.int r202), .unset, .unset, .unset] [(.int m337)])) _
      refine XS.istore X327.here hx rfl (hb hby at_337) rfl (l' := #[.val (.int k1), .val (.int k2), .val (.int k3), .val (.long k4), .second, .val (.int k5), .val (.int k6), .val (.int (2 : Int32)), .val (.int v18), .val (.ref b246), .val (.ref b261), .val (.int r172), .val (.int r182), .val (.int r192), .val (.int r202), .val (.int m337), .unset, .unset]) rfl ?_
      show Steps p.tables e below (T327.setTop (mkF m 339 #[.val (.int k1), .val (.int k2), .val (.int k3), .val (.long k4), .second, .val (.int k5), .val (.int k6), .val (.int (2 : Int32)), .val (.int v18), .val (.ref b246), .val (.ref b261), .val (.int r172), .val (.int r182), .val (.int r192), .val (.int r202), .val (.int m337), .unset, .unset] [])) _
      refine st336 _ ?_
      show Steps p.tables e below (T336.setTop (mkF m 342 #[.val (.int k1), .val (.int k2), .val (.int k3), .val (.long k4), .second, .val (.int k5), .val (.int k6), .val (.int (2 : Int32)), .val (.int v18), .val (.ref b246), .val (.ref b261), .val (.int r172), .val (.int r182), .val (.int r192), .val (.int r202), .val (.int m337), .unset, .unset] [(.ref b336)])) _
      refine XS.dup X336.here hx rfl (hb hby at_342) rfl rfl ?_
      show Steps p.tables e below (T336.setTop (mkF m 343 #[.val (.int k1), .val (.int k2), .val (.int k3), .val (.long k4), .second, .val (.int k5), .val (.int k6), .val (.int (2 : Int32)), .val (.int v18), .val (.ref b246), .val (.ref b261), .val (.int r172), .val (.int r182), .val (.int r192), .val (.int r202), .val (.int m337), .unset, .unset] [(.ref b336), (.ref b336)])) _
      exact kt
    obtain ⟨b349, T349, hX349, ks349, X349, e349, E349, hS, hk349, hZ, hown, st349⟩ := ldcS X336 hx hZ hown (hw _ (List.mem_of_getElem? (i := 9) rfl)) wS e336 hS hk340 (g := (mkF m 343 #[.val (.int k1), .val (.int k2), .val (.int k3), .val (.long k4), .second, .val (.int k5), .val (.int k6), .val (.int (2 : Int32)), .val (.int v18), .val (.ref b246), .val (.ref b261), .val (.int r172), .val (.int r182), .val (.int r192), .val (.int r202), .val (.int m337), .unset, .unset] [(.ref b336), (.ref b336)])) rfl (hb hby at_343) (n := 4) (by decide) (by decide) (by decide) (by decide)
    have F350 : Arv Z hX349 b246 kx246 .byte (2 : Int32) [(.int (nar .byte (k3.toInt8.toInt32))), (.int (nar .byte ((k3 >>> ((8 : Int32) &&& 31)).toInt8.toInt32)))] (.int (0 : Int32)) := F337.ext E349
    have F351 : Arh Z hX349 b261 kx261 .byte (8 : Int32) [((v18 + (1 : Int32)), (.int (nar .byte (((nar .byte ((k3 >>> ((8 : Int32) &&& 31)).toInt8.toInt32)) ^^^ r182).toInt8.toInt32)))), (v18, (.int (nar .byte (((nar .byte (k3.toInt8.toInt32)) ^^^ r172).toInt8.toInt32))))] [(.int (nar .byte ((k4.toInt32).toInt8.toInt32))), (.int (nar .byte (((k4 >>> ((8 : Int32) &&& 0x3f).toInt64).toInt32).toInt8.toInt32))), (.int (nar .byte (((k4 >>> ((16 : Int32) &&& 0x3f).toInt64).toInt32).toInt8.toInt32))), (.int (nar .byte (((k4 >>> ((24 : Int32) &&& 0x3f).toInt64).toInt32).toInt8.toInt32))), (.int (nar .byte (((k4 >>> ((32 : Int32) &&& 0x3f).toInt64).toInt32).toInt8.toInt32))), (.int (nar .byte (((k4 >>> ((40 : Int32) &&& 0x3f).toInt64).toInt32).toInt8.toInt32))), (.int (nar .byte (((k4 >>> ((48 : Int32) &&& 0x3f).toInt64).toInt32).toInt8.toInt32))), (.int (nar .byte (((k4 >>> ((56 : Int32) &&& 0x3f).toInt64).toInt32).toInt8.toInt32)))] (.int (0 : Int32)) := F338.ext E349
    have F352 : Exa Z hX349 b336 "com/example/marcotte/marcotte/XmlNames$Name" := A336.ext E349
    have F353 : Fld Z hX349 b336 "com/example/marcotte/marcotte/XmlNames$Name" "qualified" "Ljava/lang/String;" .null := F342.ext E349
    have F354 : Fld Z hX349 b336 "com/example/marcotte/marcotte/XmlNames$Name" "prefix" "Ljava/lang/String;" .null := F343.ext E349
    have F355 : Fld Z hX349 b336 "com/example/marcotte/marcotte/XmlNames$Name" "local" "Ljava/lang/String;" .null := F344.ext E349
    have F356 : Fld Z hX349 b336 "com/example/marcotte/marcotte/XmlNames$Name" "bytes" "[B" .null := F345.ext E349
    have F357 : Fld Z hX349 b336 "com/example/marcotte/marcotte/XmlNames$Name" "hash" "I" (.int (0 : Int32)) := F346.ext E349
    have F358 : Fld Z hX349 b336 "com/example/marcotte/marcotte/XmlNames$Name" "declaresNamespace" "Z" (.int (0 : Int32)) := F347.ext E349
    have Z359 : n0 ≤ hX349.size := Nat.le_trans Z339 E349.1
    have hk360 := Nat.le_trans hk340 (show _ ≤ hX349.size from E349.1)
    have K361 : Keep h0 hX349 [] := K341.ext E349
    have pre362 : ∀ tq, Steps p.tables e below (T349.setTop (mkF m 346 #[.val (.int k1), .val (.int k2), .val (.int k3), .val (.long k4), .second, .val (.int k5), .val (.int k6), .val (.int (2 : Int32)), .val (.int v18), .val (.ref b246), .val (.ref b261), .val (.int r172), .val (.int r182), .val (.int r192), .val (.int r202), .val (.int m337), .unset, .unset] [.null, (.ref b349), (.ref b336), (.ref b336)])) tq → Steps p.tables e below (s₁.setTop (entryFrame m #[(.int k1), (.int k2), (.int k3), (.long k4), (.int k5), (.int k6)] maxLocals)) tq := by
      intro tq kt
      refine pre348 _ ?_
      show Steps p.tables e below (T336.setTop (mkF m 343 #[.val (.int k1), .val (.int k2), .val (.int k3), .val (.long k4), .second, .val (.int k5), .val (.int k6), .val (.int (2 : Int32)), .val (.int v18), .val (.ref b246), .val (.ref b261), .val (.int r172), .val (.int r182), .val (.int r192), .val (.int r202), .val (.int m337), .unset, .unset] [(.ref b336), (.ref b336)])) _
      refine st349 _ ?_
      show Steps p.tables e below (T349.setTop (mkF m 345 #[.val (.int k1), .val (.int k2), .val (.int k3), .val (.long k4), .second, .val (.int k5), .val (.int k6), .val (.int (2 : Int32)), .val (.int v18), .val (.ref b246), .val (.ref b261), .val (.int r172), .val (.int r182), .val (.int r192), .val (.int r202), .val (.int m337), .unset, .unset] [(.ref b349), (.ref b336), (.ref b336)])) _
      refine XS.aconstNull X349.here hx rfl (hb hby at_345) ?_
      show Steps p.tables e below (T349.setTop (mkF m 346 #[.val (.int k1), .val (.int k2), .val (.int k3), .val (.long k4), .second, .val (.int k5), .val (.int k6), .val (.int (2 : Int32)), .val (.int v18), .val (.ref b246), .val (.ref b261), .val (.int r172), .val (.int r182), .val (.int r192), .val (.int r202), .val (.int m337), .unset, .unset] [.null, (.ref b349), (.ref b336), (.ref b336)])) _
      exact kt
    obtain ⟨b363, T363, hX363, ks363, X363, e363, E363, hS, hk363, hZ, hown, st363⟩ := ldcS X349 hx hZ hown (hw _ (List.mem_of_getElem? (i := 9) rfl)) wS e349 hS hk349 (g := (mkF m 346 #[.val (.int k1), .val (.int k2), .val (.int k3), .val (.long k4), .second, .val (.int k5), .val (.int k6), .val (.int (2 : Int32)), .val (.int v18), .val (.ref b246), .val (.ref b261), .val (.int r172), .val (.int r182), .val (.int r192), .val (.int r202), .val (.int m337), .unset, .unset] [.null, (.ref b349), (.ref b336), (.ref b336)])) rfl (hb hby at_346) (n := 4) (by decide) (by decide) (by decide) (by decide)
    have F364 : Arv Z hX363 b246 kx246 .byte (2 : Int32) [(.int (nar .byte (k3.toInt8.toInt32))), (.int (nar .byte ((k3 >>> ((8 : Int32) &&& 31)).toInt8.toInt32)))] (.int (0 : Int32)) := F350.ext E363
    have F365 : Arh Z hX363 b261 kx261 .byte (8 : Int32) [((v18 + (1 : Int32)), (.int (nar .byte (((nar .byte ((k3 >>> ((8 : Int32) &&& 31)).toInt8.toInt32)) ^^^ r182).toInt8.toInt32)))), (v18, (.int (nar .byte (((nar .byte (k3.toInt8.toInt32)) ^^^ r172).toInt8.toInt32))))] [(.int (nar .byte ((k4.toInt32).toInt8.toInt32))), (.int (nar .byte (((k4 >>> ((8 : Int32) &&& 0x3f).toInt64).toInt32).toInt8.toInt32))), (.int (nar .byte (((k4 >>> ((16 : Int32) &&& 0x3f).toInt64).toInt32).toInt8.toInt32))), (.int (nar .byte (((k4 >>> ((24 : Int32) &&& 0x3f).toInt64).toInt32).toInt8.toInt32))), (.int (nar .byte (((k4 >>> ((32 : Int32) &&& 0x3f).toInt64).toInt32).toInt8.toInt32))), (.int (nar .byte (((k4 >>> ((40 : Int32) &&& 0x3f).toInt64).toInt32).toInt8.toInt32))), (.int (nar .byte (((k4 >>> ((48 : Int32) &&& 0x3f).toInt64).toInt32).toInt8.toInt32))), (.int (nar .byte (((k4 >>> ((56 : Int32) &&& 0x3f).toInt64).toInt32).toInt8.toInt32)))] (.int (0 : Int32)) := F351.ext E363
    have F366 : Exa Z hX363 b336 "com/example/marcotte/marcotte/XmlNames$Name" := F352.ext E363
    have F367 : Fld Z hX363 b336 "com/example/marcotte/marcotte/XmlNames$Name" "qualified" "Ljava/lang/String;" .null := F353.ext E363
    have F368 : Fld Z hX363 b336 "com/example/marcotte/marcotte/XmlNames$Name" "prefix" "Ljava/lang/String;" .null := F354.ext E363
    have F369 : Fld Z hX363 b336 "com/example/marcotte/marcotte/XmlNames$Name" "local" "Ljava/lang/String;" .null := F355.ext E363
    have F370 : Fld Z hX363 b336 "com/example/marcotte/marcotte/XmlNames$Name" "bytes" "[B" .null := F356.ext E363
    have F371 : Fld Z hX363 b336 "com/example/marcotte/marcotte/XmlNames$Name" "hash" "I" (.int (0 : Int32)) := F357.ext E363
    have F372 : Fld Z hX363 b336 "com/example/marcotte/marcotte/XmlNames$Name" "declaresNamespace" "Z" (.int (0 : Int32)) := F358.ext E363
    have Z373 : n0 ≤ hX363.size := Nat.le_trans Z359 E363.1
    have hk374 := Nat.le_trans hk349 (show _ ≤ hX363.size from E363.1)
    have K375 : Keep h0 hX363 [] := K361.ext E363
    obtain ⟨_, _, ⟨T376, L376, k376, n376⟩, -, X376, ⟨Lc376, hQ376, l376, y376, z376⟩, st376⟩ := X363.specialBack hx (y := (⟨"com/example/marcotte/marcotte/XmlNames$Name", "<init>", "(Ljava/lang/String;Ljava/lang/String;Ljava/lang/String;[BIZ)V"⟩ : MethodName)) rfl hown (mvT hZ (hw _ (List.mem_of_getElem? (i := 16) rfl))) (mvT hZ (hw _ (List.mem_of_getElem? (i := 17) rfl))) (mvT hZ (hw _ (List.mem_of_getElem? (i := 18) rfl))) (by decide) (backOf (W := 1) (rm2 l Z a0 hw [] b336 b349 b363 b246 (0 : Int32) (0 : Int32) hX363 n0 Z373 F367 F368 F369 F370 F371 F372 F366 g_b336) hZ (hw _ (List.mem_of_getElem? (i := 18) rfl)) (hw _ (List.mem_of_getElem? (i := 8) rfl)) (by decide) (by decide)) (g := (mkF m 352 #[.val (.int k1), .val (.int k2), .val (.int k3), .val (.long k4), .second, .val (.int k5), .val (.int k6), .val (.int (2 : Int32)), .val (.int v18), .val (.ref b246), .val (.ref b261), .val (.int r172), .val (.int r182), .val (.int r192), .val (.int r202), .val (.int m337), .unset, .unset] [(.int (0 : Int32)), (.int (0 : Int32)), (.ref b246), (.ref b363), .null, (.ref b349), (.ref b336), (.ref b336)])) rfl (by rw [hml]; rfl) (Steps.refl _) (a := b336) (argsL := [(.ref b349), .null, (.ref b363), (.ref b246), (.int (0 : Int32)), (.int (0 : Int32))]) (rest := [(.ref b336)]) (lenOf pd_2 rfl) rfl (by show 2 * 0 + _ ≤ _; exact Nat.le_of_eq rfl) (hb hby at_352) (fun _ _ => ⟨rfl, e363, (by decide : 7 + 0 ≤ _), (by decide : 32 + 0 ≤ _)⟩)
    dsimp only [Pt.U, Pt.locs, Pt.cells, Pt.slots] at X376 l376 y376 z376 st376 hQ376
    subst l376 y376 z376
    obtain ⟨rfl, N376q, K376q, F377, F378⟩ := hQ376
    have N376 := Fr.app N327 N376q
    have F379 : Arv Z T376.heap b246 kx246 .byte (2 : Int32) [(.int (nar .byte (k3.toInt8.toInt32))), (.int (nar .byte ((k3 >>> ((8 : Int32) &&& 31)).toInt8.toInt32)))] (.int (0 : Int32)) := F364.keep K376q (ninS ne_b246_b336 nin0)
    have F380 : Arh Z T376.heap b261 kx261 .byte (8 : Int32) [((v18 + (1 : Int32)), (.int (nar .byte (((nar .byte ((k3 >>> ((8 : Int32) &&& 31)).toInt8.toInt32)) ^^^ r182).toInt8.toInt32)))), (v18, (.int (nar .byte (((nar .byte (k3.toInt8.toInt32)) ^^^ r172).toInt8.toInt32))))] [(.int (nar .byte ((k4.toInt32).toInt8.toInt32))), (.int (nar .byte (((k4 >>> ((8 : Int32) &&& 0x3f).toInt64).toInt32).toInt8.toInt32))), (.int (nar .byte (((k4 >>> ((16 : Int32) &&& 0x3f).toInt64).toInt32).toInt8.toInt32))), (.int (nar .byte (((k4 >>> ((24 : Int32) &&& 0x3f).toInt64).toInt32).toInt8.toInt32))), (.int (nar .byte (((k4 >>> ((32 : Int32) &&& 0x3f).toInt64).toInt32).toInt8.toInt32))), (.int (nar .byte (((k4 >>> ((40 : Int32) &&& 0x3f).toInt64).toInt32).toInt8.toInt32))), (.int (nar .byte (((k4 >>> ((48 : Int32) &&& 0x3f).toInt64).toInt32).toInt8.toInt32))), (.int (nar .byte (((k4 >>> ((56 : Int32) &&& 0x3f).toInt64).toInt32).toInt8.toInt32)))] (.int (0 : Int32)) := F365.keep K376q (ninS ne_b261_b336 nin0)
    have F381 : Exa Z T376.heap b336 "com/example/marcotte/marcotte/XmlNames$Name" := F366.keep K376q
    have Z382 : n0 ≤ T376.heap.size := Nat.le_trans Z373 K376q.1
    have hk383 := Nat.le_trans hk363 (show _ ≤ T376.heap.size from K376q.1)
    have K384 : Keep h0 T376.heap [] := K375.trans K376q (allS (Or.inr sz_b336) all0)
    have hp385_hat0 : 0 ≤ v18.toInt := (own_pre_0_363_hat0_s2 k1 k2 k3 k4 k5 k6 hv6 v18 hv18 r172 hr172 r182 hr182 r192 hr192 r202 hr202 m337 hm337)
    have hp385_hat1 : v18.toInt + 2 ≤ 8 := (own_pre_0_363_hat1_s2 k1 k2 k3 k4 k5 k6 hv6 v18 hv18 r172 hr172 r182 hr182 r192 hr192 r202 hr202 m337 hm337 hp385_hat0)
    obtain ⟨cq385, kq385, q385a, q385b, q385c⟩ := isOf hZ rfl F377
    obtain ⟨_, _, ⟨T385, L385, k385, n385⟩, -, X385, ⟨Lc385, hQ385, l385, y385, z385⟩, st385⟩ := X376.virtualBack hx (y := (⟨"com/example/marcotte/marcotte/XmlNames$Name", "writtenAt", "([BI)Z"⟩ : MethodName)) (z := (⟨"com/example/marcotte/marcotte/XmlNames$Name", "writtenAt", "([BI)Z"⟩ : MethodName)) hown (mvT hZ (hw _ (List.mem_of_getElem? (i := 39) rfl))) (mvT hZ (hw _ (List.mem_of_getElem? (i := 40) rfl))) (notFace_of_selects (args := #[]) (mvT hZ (hw _ (List.mem_of_getElem? (i := 42) rfl)))) (mvT hZ (hw _ (List.mem_of_getElem? (i := 42) rfl))) (mvT hZ (hw _ (List.mem_of_getElem? (i := 41) rfl))) (by decide) (backOf (W := 0) (rm5_2 l Z a0 hw [] b336 b261 v18 b246 kx246 kx261 ([(.int (nar .byte ((k4.toInt32).toInt8.toInt32))), (.int (nar .byte (((k4 >>> ((8 : Int32) &&& 0x3f).toInt64).toInt32).toInt8.toInt32))), (.int (nar .byte (((k4 >>> ((16 : Int32) &&& 0x3f).toInt64).toInt32).toInt8.toInt32))), (.int (nar .byte (((k4 >>> ((24 : Int32) &&& 0x3f).toInt64).toInt32).toInt8.toInt32))), (.int (nar .byte (((k4 >>> ((32 : Int32) &&& 0x3f).toInt64).toInt32).toInt8.toInt32))), (.int (nar .byte (((k4 >>> ((40 : Int32) &&& 0x3f).toInt64).toInt32).toInt8.toInt32))), (.int (nar .byte (((k4 >>> ((48 : Int32) &&& 0x3f).toInt64).toInt32).toInt8.toInt32))), (.int (nar .byte (((k4 >>> ((56 : Int32) &&& 0x3f).toInt64).toInt32).toInt8.toInt32)))] : List Value) (nar .byte (k3.toInt8.toInt32)) (nar .byte ((k3 >>> ((8 : Int32) &&& 31)).toInt8.toInt32)) (nar .byte (((nar .byte (k3.toInt8.toInt32)) ^^^ r172).toInt8.toInt32)) (nar .byte (((nar .byte ((k3 >>> ((8 : Int32) &&& 31)).toInt8.toInt32)) ^^^ r182).toInt8.toInt32)) T376.heap n0 Z382 F378 F379 F380 hp385_hat0 hp385_hat1) hZ (hw _ (List.mem_of_getElem? (i := 43) rfl)) (hw _ (List.mem_of_getElem? (i := 8) rfl)) (by decide) (by decide)) q385a q385c (g := (mkF m 363 #[.val (.int k1), .val (.int k2), .val (.int k3), .val (.long k4), .second, .val (.int k5), .val (.int k6), .val (.int (2 : Int32)), .val (.int v18), .val (.ref b246), .val (.ref b261), .val (.int r172), .val (.int r182), .val (.int r192), .val (.int r202), .val (.int m337), .val (.ref b336), .unset] [(.int v18), (.ref b261), (.ref b336)])) rfl (by rw [hml]; rfl) (Steps.refl _) (argsL := [(.ref b261), (.int v18)]) (rest := []) (lenOf pd_3 rfl) rfl (by show 2 * 0 + _ ≤ _; exact Nat.le_of_eq rfl) (hb hby at_363) (fun _ _ => ⟨rfl, rfl, (by decide : 7 + 0 ≤ _), (by decide : 32 + 0 ≤ _)⟩)
    dsimp only [Pt.U, Pt.locs, Pt.cells, Pt.slots] at X385 l385 y385 z385 st385 hQ385
    subst l385 y385 z385
    obtain ⟨rfl, N385q, e385⟩ := hQ385
    have N385 := Fr.app N376 N385q
    obtain ⟨r363, hr363⟩ : ∃ z_q : Int32, z_q = (if (nar .byte (((nar .byte (k3.toInt8.toInt32)) ^^^ r172).toInt8.toInt32)) = (nar .byte (k3.toInt8.toInt32)) then (if (nar .byte (((nar .byte ((k3 >>> ((8 : Int32) &&& 31)).toInt8.toInt32)) ^^^ r182).toInt8.toInt32)) = (nar .byte ((k3 >>> ((8 : Int32) &&& 31)).toInt8.toInt32)) then (1 : Int32) else (0 : Int32)) else (0 : Int32)) := ⟨_, rfl⟩
    obtain ⟨m380, hm380⟩ : ∃ z_q : Int32, z_q = (if r363 = m337 then (1 : Int32) else (0 : Int32)) := ⟨_, rfl⟩
    have pre387 : ∀ tq, Steps p.tables e below (T385.setTop (mkF m 380 #[.val (.int k1), .val (.int k2), .val (.int k3), .val (.long k4), .second, .val (.int k5), .val (.int k6), .val (.int (2 : Int32)), .val (.int v18), .val (.ref b246), .val (.ref b261), .val (.int r172), .val (.int r182), .val (.int r192), .val (.int r202), .val (.int m337), .val (.ref b336), .val (.int r363)] [(.int m380)])) tq → Steps p.tables e below (s₁.setTop (entryFrame m #[(.int k1), (.int k2), (.int k3), (.long k4), (.int k5), (.int k6)] maxLocals)) tq := by
      intro tq kt
      refine pre362 _ ?_
      show Steps p.tables e below (T349.setTop (mkF m 346 #[.val (.int k1), .val (.int k2), .val (.int k3), .val (.long k4), .second, .val (.int k5), .val (.int k6), .val (.int (2 : Int32)), .val (.int v18), .val (.ref b246), .val (.ref b261), .val (.int r172), .val (.int r182), .val (.int r192), .val (.int r202), .val (.int m337), .unset, .unset] [.null, (.ref b349), (.ref b336), (.ref b336)])) _
      refine st363 _ ?_
      show Steps p.tables e below (T363.setTop (mkF m 348 #[.val (.int k1), .val (.int k2), .val (.int k3), .val (.long k4), .second, .val (.int k5), .val (.int k6), .val (.int (2 : Int32)), .val (.int v18), .val (.ref b246), .val (.ref b261), .val (.int r172), .val (.int r182), .val (.int r192), .val (.int r202), .val (.int m337), .unset, .unset] [(.ref b363), .null, (.ref b349), (.ref b336), (.ref b336)])) _
      refine XS.aload X363.here hx rfl (hb hby at_348) rfl rfl ?_
      show Steps p.tables e below (T363.setTop (mkF m 350 #[.val (.int k1), .val (.int k2), .val (.int k3), .val (.long k4), .second, .val (.int k5), .val (.int k6), .val (.int (2 : Int32)), .val (.int v18), .val (.ref b246), .val (.ref b261), .val (.int r172), .val (.int r182), .val (.int r192), .val (.int r202), .val (.int m337), .unset, .unset] [(.ref b246), (.ref b363), .null, (.ref b349), (.ref b336), (.ref b336)])) _
      refine XS.iconst X363.here hx rfl (hb hby at_350) ?_
      show Steps p.tables e below (T363.setTop (mkF m 351 #[.val (.int k1), .val (.int k2), .val (.int k3), .val (.long k4), .second, .val (.int k5), .val (.int k6), .val (.int (2 : Int32)), .val (.int v18), .val (.ref b246), .val (.ref b261), .val (.int r172), .val (.int r182), .val (.int r192), .val (.int r202), .val (.int m337), .unset, .unset] [(.int (0 : Int32)), (.ref b246), (.ref b363), .null, (.ref b349), (.ref b336), (.ref b336)])) _
      refine XS.iconst X363.here hx rfl (hb hby at_351) ?_
      show Steps p.tables e below (T363.setTop (mkF m 352 #[.val (.int k1), .val (.int k2), .val (.int k3), .val (.long k4), .second, .val (.int k5), .val (.int k6), .val (.int (2 : Int32)), .val (.int v18), .val (.ref b246), .val (.ref b261), .val (.int r172), .val (.int r182), .val (.int r192), .val (.int r202), .val (.int m337), .unset, .unset] [(.int (0 : Int32)), (.int (0 : Int32)), (.ref b246), (.ref b363), .null, (.ref b349), (.ref b336), (.ref b336)])) _
      refine st376.trans ?_
      show Steps p.tables e below (T376.setTop (mkF m 355 #[.val (.int k1), .val (.int k2), .val (.int k3), .val (.long k4), .second, .val (.int k5), .val (.int k6), .val (.int (2 : Int32)), .val (.int v18), .val (.ref b246), .val (.ref b261), .val (.int r172), .val (.int r182), .val (.int r192), .val (.int r202), .val (.int m337), .unset, .unset] [(.ref b336)])) _
      refine XS.astore X376.here hx rfl (hb hby at_355) rfl rfl (l' := #[.val (.int k1), .val (.int k2), .val (.int k3), .val (.long k4), .second, .val (.int k5), .val (.int k6), .val (.int (2 : Int32)), .val (.int v18), .val (.ref b246), .val (.ref b261), .val (.int r172), .val (.int r182), .val (.int r192), .val (.int r202), .val (.int m337), .val (.ref b336), .unset]) rfl ?_
      show Steps p.tables e below (T376.setTop (mkF m 357 #[.val (.int k1), .val (.int k2), .val (.int k3), .val (.long k4), .second, .val (.int k5), .val (.int k6), .val (.int (2 : Int32)), .val (.int v18), .val (.ref b246), .val (.ref b261), .val (.int r172), .val (.int r182), .val (.int r192), .val (.int r202), .val (.int m337), .val (.ref b336), .unset] [])) _
      refine XS.aload X376.here hx rfl (hb hby at_357) rfl rfl ?_
      show Steps p.tables e below (T376.setTop (mkF m 359 #[.val (.int k1), .val (.int k2), .val (.int k3), .val (.long k4), .second, .val (.int k5), .val (.int k6), .val (.int (2 : Int32)), .val (.int v18), .val (.ref b246), .val (.ref b261), .val (.int r172), .val (.int r182), .val (.int r192), .val (.int r202), .val (.int m337), .val (.ref b336), .unset] [(.ref b336)])) _
      refine XS.aload X376.here hx rfl (hb hby at_359) rfl rfl ?_
      show Steps p.tables e below (T376.setTop (mkF m 361 #[.val (.int k1), .val (.int k2), .val (.int k3), .val (.long k4), .second, .val (.int k5), .val (.int k6), .val (.int (2 : Int32)), .val (.int v18), .val (.ref b246), .val (.ref b261), .val (.int r172), .val (.int r182), .val (.int r192), .val (.int r202), .val (.int m337), .val (.ref b336), .unset] [(.ref b261), (.ref b336)])) _
      refine XS.iload X376.here hx rfl (hb hby at_361) rfl ?_
      show Steps p.tables e below (T376.setTop (mkF m 363 #[.val (.int k1), .val (.int k2), .val (.int k3), .val (.long k4), .second, .val (.int k5), .val (.int k6), .val (.int (2 : Int32)), .val (.int v18), .val (.ref b246), .val (.ref b261), .val (.int r172), .val (.int r182), .val (.int r192), .val (.int r202), .val (.int m337), .val (.ref b336), .unset] [(.int v18), (.ref b261), (.ref b336)])) _
      refine st385.trans ?_
      show Steps p.tables e below (T385.setTop (mkF m 366 #[.val (.int k1), .val (.int k2), .val (.int k3), .val (.long k4), .second, .val (.int k5), .val (.int k6), .val (.int (2 : Int32)), .val (.int v18), .val (.ref b246), .val (.ref b261), .val (.int r172), .val (.int r182), .val (.int r192), .val (.int r202), .val (.int m337), .val (.ref b336), .unset] [(.int (if (nar .byte (((nar .byte (k3.toInt8.toInt32)) ^^^ r172).toInt8.toInt32)) = (nar .byte (k3.toInt8.toInt32)) then (if (nar .byte (((nar .byte ((k3 >>> ((8 : Int32) &&& 31)).toInt8.toInt32)) ^^^ r182).toInt8.toInt32)) = (nar .byte ((k3 >>> ((8 : Int32) &&& 31)).toInt8.toInt32)) then (1 : Int32) else (0 : Int32)) else (0 : Int32)))])) _
      rw [← hr363]
      show Steps p.tables e below (T385.setTop (mkF m 366 #[.val (.int k1), .val (.int k2), .val (.int k3), .val (.long k4), .second, .val (.int k5), .val (.int k6), .val (.int (2 : Int32)), .val (.int v18), .val (.ref b246), .val (.ref b261), .val (.int r172), .val (.int r182), .val (.int r192), .val (.int r202), .val (.int m337), .val (.ref b336), .unset] [(.int r363)])) _
      refine XS.istore X385.here hx rfl (hb hby at_366) rfl (l' := #[.val (.int k1), .val (.int k2), .val (.int k3), .val (.long k4), .second, .val (.int k5), .val (.int k6), .val (.int (2 : Int32)), .val (.int v18), .val (.ref b246), .val (.ref b261), .val (.int r172), .val (.int r182), .val (.int r192), .val (.int r202), .val (.int m337), .val (.ref b336), .val (.int r363)]) rfl ?_
      show Steps p.tables e below (T385.setTop (mkF m 368 #[.val (.int k1), .val (.int k2), .val (.int k3), .val (.long k4), .second, .val (.int k5), .val (.int k6), .val (.int (2 : Int32)), .val (.int v18), .val (.ref b246), .val (.ref b261), .val (.int r172), .val (.int r182), .val (.int r192), .val (.int r202), .val (.int m337), .val (.ref b336), .val (.int r363)] [])) _
      refine XS.iload X385.here hx rfl (hb hby at_368) rfl ?_
      show Steps p.tables e below (T385.setTop (mkF m 370 #[.val (.int k1), .val (.int k2), .val (.int k3), .val (.long k4), .second, .val (.int k5), .val (.int k6), .val (.int (2 : Int32)), .val (.int v18), .val (.ref b246), .val (.ref b261), .val (.int r172), .val (.int r182), .val (.int r192), .val (.int r202), .val (.int m337), .val (.ref b336), .val (.int r363)] [(.int r363)])) _
      refine XS.iload X385.here hx rfl (hb hby at_370) rfl ?_
      by_cases d386 : r363 = m337
      · skip
        show Steps p.tables e below (T385.setTop (mkF m 372 #[.val (.int k1), .val (.int k2), .val (.int k3), .val (.long k4), .second, .val (.int k5), .val (.int k6), .val (.int (2 : Int32)), .val (.int v18), .val (.ref b246), .val (.ref b261), .val (.int r172), .val (.int r182), .val (.int r192), .val (.int r202), .val (.int m337), .val (.ref b336), .val (.int r363)] [(.int m337), (.int r363)])) _
        refine XS.icmpNo X385.here hx rfl (hb hby at_372) rfl (teq d386).2 ?_
        show Steps p.tables e below (T385.setTop (mkF m 375 #[.val (.int k1), .val (.int k2), .val (.int k3), .val (.long k4), .second, .val (.int k5), .val (.int k6), .val (.int (2 : Int32)), .val (.int v18), .val (.ref b246), .val (.ref b261), .val (.int r172), .val (.int r182), .val (.int r192), .val (.int r202), .val (.int m337), .val (.ref b336), .val (.int r363)] [])) _
        refine XS.iconst X385.here hx rfl (hb hby at_375) ?_
        show Steps p.tables e below (T385.setTop (mkF m 376 #[.val (.int k1), .val (.int k2), .val (.int k3), .val (.long k4), .second, .val (.int k5), .val (.int k6), .val (.int (2 : Int32)), .val (.int v18), .val (.ref b246), .val (.ref b261), .val (.int r172), .val (.int r182), .val (.int r192), .val (.int r202), .val (.int m337), .val (.ref b336), .val (.int r363)] [(.int (1 : Int32))])) _
        refine XS.goto X385.here hx rfl (pc0 := 376) (pc' := 380) rfl (hb hby at_376) (by decide) (by decide) ?_
        show Steps p.tables e below (T385.setTop (mkF m 380 #[.val (.int k1), .val (.int k2), .val (.int k3), .val (.long k4), .second, .val (.int k5), .val (.int k6), .val (.int (2 : Int32)), .val (.int v18), .val (.ref b246), .val (.ref b261), .val (.int r172), .val (.int r182), .val (.int r192), .val (.int r202), .val (.int m337), .val (.ref b336), .val (.int r363)] [(.int (1 : Int32))])) _
        exact castTop (by simp only [hm380, if_pos d386]) kt
      · skip
        show Steps p.tables e below (T385.setTop (mkF m 372 #[.val (.int k1), .val (.int k2), .val (.int k3), .val (.long k4), .second, .val (.int k5), .val (.int k6), .val (.int (2 : Int32)), .val (.int v18), .val (.ref b246), .val (.ref b261), .val (.int r172), .val (.int r182), .val (.int r192), .val (.int r202), .val (.int m337), .val (.ref b336), .val (.int r363)] [(.int m337), (.int r363)])) _
        refine XS.icmpYes X385.here hx rfl (pc0 := 372) (pc' := 379) rfl (hb hby at_372) rfl (feq d386).2 (by decide) (by decide) ?_
        show Steps p.tables e below (T385.setTop (mkF m 379 #[.val (.int k1), .val (.int k2), .val (.int k3), .val (.long k4), .second, .val (.int k5), .val (.int k6), .val (.int (2 : Int32)), .val (.int v18), .val (.ref b246), .val (.ref b261), .val (.int r172), .val (.int r182), .val (.int r192), .val (.int r202), .val (.int m337), .val (.ref b336), .val (.int r363)] [])) _
        refine XS.iconst X385.here hx rfl (hb hby at_379) ?_
        show Steps p.tables e below (T385.setTop (mkF m 380 #[.val (.int k1), .val (.int k2), .val (.int k3), .val (.long k4), .second, .val (.int k5), .val (.int k6), .val (.int (2 : Int32)), .val (.int v18), .val (.ref b246), .val (.ref b261), .val (.int r172), .val (.int r182), .val (.int r192), .val (.int r202), .val (.int m337), .val (.ref b336), .val (.int r363)] [(.int (0 : Int32))])) _
        exact castTop (by simp only [hm380, if_neg d386]) kt
    obtain ⟨fs, hr, hrun, hended, hW, hsame⟩ := X385.leave (v := some (Value.int (nar .boolean m380))) (fun h => by rw [Bd.returns] at h; cases h)
    have hres388 : (nar .boolean m380) = (1 : Int32) := (own_leaf_0_380_s2 k1 k2 k3 k4 k5 k6 hv6 v18 hv18 r172 hr172 r182 hr182 r192 hr192 r202 hr202 m337 hm337 hp385_hat0 hp385_hat1 r363 hr363 m380 hm380)
    have hE := hS.ended hW (show _ ≤ T385.heap.size from e385.symm ▸ hk383) hsame
    refine ⟨_, _, pre387 _ ?_, hrun, hended, _, _, rfl, ?_, ⟨_, rfl⟩, hE.1, hE.2.1, hE.2.2.mono (by decide) (by decide)⟩
    · skip
      show Steps p.tables e below (T385.setTop (mkF m 380 #[.val (.int k1), .val (.int k2), .val (.int k3), .val (.long k4), .second, .val (.int k5), .val (.int k6), .val (.int (2 : Int32)), .val (.int v18), .val (.ref b246), .val (.ref b261), .val (.int r172), .val (.int r182), .val (.int r192), .val (.int r202), .val (.int m337), .val (.ref b336), .val (.int r363)] [(.int m380)])) _
      exact retN X385 hx (t := .boolean) Bd.returns (by simp) (hb hby at_380) hr
    · show Q0 Z k1 k2 k3 k4 k5 k6 h0 n0 _ T385.heap _
      rw [e385]
      exact ⟨congrArg (fun z => some (Value.int z)) hres388, N385⟩
  · subst hs2
    obtain ⟨v18, hv18⟩ : ∃ z_q : Int32, z_q = ((k2 &&& (2147483647 : Int32)) % (6 : Int32)) := ⟨_, rfl⟩
    obtain ⟨T389, hX389, kx389, X389, e389, E389, A389, st389⟩ := newP X0 hx hZ (hw _ (List.mem_of_getElem? (i := 1) rfl)) e0 (g := (mkF m 22 #[.val (.int k1), .val (.int k2), .val (.int k3), .val (.long k4), .second, .val (.int k5), .val (.int k6), .val (.int (3 : Int32)), .val (.int v18), .unset, .unset, .unset, .unset, .unset, .unset, .unset, .unset, .unset] [(.int (3 : Int32))])) rfl (hb hby at_22) rfl (by decide) (cap := 3) (by decide) (by decide) (by decide) (by decide)
    obtain ⟨b389, g389⟩ : ∃ z_q, z_q = h0.size := ⟨_, rfl⟩
    rw [← g389] at A389 st389
    have g_b389 : n0 ≤ b389 := Nat.le_trans Z0 (Nat.le_of_eq g389.symm)
    have sz_b389 : h0.size ≤ b389 := Nat.le_trans K0.1 (Nat.le_of_eq g389.symm)
    have Z390 : n0 ≤ hX389.size := Nat.le_trans Z0 E389.1
    have hk391 := Nat.le_trans (Nat.zero_le _) (show _ ≤ hX389.size from E389.1)
    have K392 : Keep h0 hX389 [] := K0.ext E389
    have F393 : Arv Z hX389 b389 kx389 .byte (3 : Int32) [(.int (0 : Int32)), (.int (0 : Int32)), (.int (0 : Int32))] (.int (0 : Int32)) := (Arv.new A389 (by decide)).pad (pad_rep [] (.int (0 : Int32)) 3)
    obtain ⟨cl394, Ar394, q394, S394, M394, H394, G394⟩ := id F393
    have hin394 : ¬ ((0 : Int32) < 0 ∨ cl394.slots.size ≤ ((0 : Int32)).toNatClampNeg) := inb_of S394 ⟨by decide, by decide⟩
    obtain ⟨T394, hX394, X394, e394, W394, st394⟩ := stB X389 hx hZ e389 Ar394 (j := (0 : Int32)) hin394 (g := (mkF m 36 #[.val (.int k1), .val (.int k2), .val (.int k3), .val (.long k4), .second, .val (.int k5), .val (.int k6), .val (.int (3 : Int32)), .val (.int v18), .val (.ref b389), .unset, .unset, .unset, .unset, .unset, .unset, .unset, .unset] [(.int (k3.toInt8.toInt32)), (.int (0 : Int32)), (.ref b389)])) rfl rfl (hb hby at_36)
    have F395 : Arv Z hX394 b389 kx389 .byte (3 : Int32) [(.int (nar .byte (k3.toInt8.toInt32))), (.int (0 : Int32)), (.int (0 : Int32))] (.int (0 : Int32)) := Arv.set Ar394 q394 S394 M394 H394 G394 (fits_nar_byte _) W394 0 rfl (Nat.le_of_ble_eq_true rfl)
    have N394 := Fr.snoc X394 N0 g_b389
    have Z396 : n0 ≤ hX394.size := Nat.le_trans Z390 (Keep.of_wr W394).1
    have hk397 := Nat.le_trans hk391 (show _ ≤ hX394.size from (Keep.of_wr W394).1)
    have K398 : Keep h0 hX394 [] := K392.wr W394 (Or.inr sz_b389)
    obtain ⟨cl399, Ar399, q399, S399, M399, H399, G399⟩ := id F395
    have hin399 : ¬ ((1 : Int32) < 0 ∨ cl399.slots.size ≤ ((1 : Int32)).toNatClampNeg) := inb_of S399 ⟨by decide, by decide⟩
    obtain ⟨T399, hX399, X399, e399, W399, st399⟩ := stB X394 hx hZ e394 Ar399 (j := (1 : Int32)) hin399 (g := (mkF m 51 #[.val (.int k1), .val (.int k2), .val (.int k3), .val (.long k4), .second, .val (.int k5), .val (.int k6), .val (.int (3 : Int32)), .val (.int v18), .val (.ref b389), .unset, .unset, .unset, .unset, .unset, .unset, .unset, .unset] [(.int ((k3 >>> ((8 : Int32) &&& 31)).toInt8.toInt32)), (.int (1 : Int32)), (.ref b389)])) rfl rfl (hb hby at_51)
    have F400 : Arv Z hX399 b389 kx389 .byte (3 : Int32) [(.int (nar .byte (k3.toInt8.toInt32))), (.int (nar .byte ((k3 >>> ((8 : Int32) &&& 31)).toInt8.toInt32))), (.int (0 : Int32))] (.int (0 : Int32)) := Arv.set Ar399 q399 S399 M399 H399 G399 (fits_nar_byte _) W399 1 rfl (Nat.le_of_ble_eq_true rfl)
    have N399 := Fr.snoc X399 N394 g_b389
    have Z401 : n0 ≤ hX399.size := Nat.le_trans Z396 (Keep.of_wr W399).1
    have hk402 := Nat.le_trans hk397 (show _ ≤ hX399.size from (Keep.of_wr W399).1)
    have K403 : Keep h0 hX399 [] := K398.wr W399 (Or.inr sz_b389)
    obtain ⟨cl404, Ar404, q404, S404, M404, H404, G404⟩ := id F400
    have hin404 : ¬ ((2 : Int32) < 0 ∨ cl404.slots.size ≤ ((2 : Int32)).toNatClampNeg) := inb_of S404 ⟨by decide, by decide⟩
    obtain ⟨T404, hX404, X404, e404, W404, st404⟩ := stB X399 hx hZ e399 Ar404 (j := (2 : Int32)) hin404 (g := (mkF m 66 #[.val (.int k1), .val (.int k2), .val (.int k3), .val (.long k4), .second, .val (.int k5), .val (.int k6), .val (.int (3 : Int32)), .val (.int v18), .val (.ref b389), .unset, .unset, .unset, .unset, .unset, .unset, .unset, .unset] [(.int ((k3 >>> ((16 : Int32) &&& 31)).toInt8.toInt32)), (.int (2 : Int32)), (.ref b389)])) rfl rfl (hb hby at_66)
    have F405 : Arv Z hX404 b389 kx389 .byte (3 : Int32) [(.int (nar .byte (k3.toInt8.toInt32))), (.int (nar .byte ((k3 >>> ((8 : Int32) &&& 31)).toInt8.toInt32))), (.int (nar .byte ((k3 >>> ((16 : Int32) &&& 31)).toInt8.toInt32)))] (.int (0 : Int32)) := Arv.set Ar404 q404 S404 M404 H404 G404 (fits_nar_byte _) W404 2 rfl (Nat.le_of_ble_eq_true rfl)
    have N404 := Fr.snoc X404 N399 g_b389
    have Z406 : n0 ≤ hX404.size := Nat.le_trans Z401 (Keep.of_wr W404).1
    have hk407 := Nat.le_trans hk402 (show _ ≤ hX404.size from (Keep.of_wr W404).1)
    have K408 : Keep h0 hX404 [] := K403.wr W404 (Or.inr sz_b389)
    obtain ⟨T409, hX409, kx409, X409, e409, E409, A409, st409⟩ := newP X404 hx hZ (hw _ (List.mem_of_getElem? (i := 1) rfl)) e404 (g := (mkF m 84 #[.val (.int k1), .val (.int k2), .val (.int k3), .val (.long k4), .second, .val (.int k5), .val (.int k6), .val (.int (3 : Int32)), .val (.int v18), .val (.ref b389), .unset, .unset, .unset, .unset, .unset, .unset, .unset, .unset] [(.int (8 : Int32))])) rfl (hb hby at_84) rfl (by decide) (cap := 8) (by decide) (by decide) (by decide) (by decide)
    obtain ⟨b409, g409⟩ : ∃ z_q, z_q = hX404.size := ⟨_, rfl⟩
    rw [← g409] at A409 st409
    have g_b409 : n0 ≤ b409 := Nat.le_trans Z406 (Nat.le_of_eq g409.symm)
    have sz_b409 : h0.size ≤ b409 := Nat.le_trans K408.1 (Nat.le_of_eq g409.symm)
    have ne_b389_b409 : b389 ≠ b409 := Nat.ne_of_lt (Nat.lt_of_lt_of_le F405.lt (Nat.le_of_eq g409.symm))
    have F410 : Arv Z hX409 b389 kx389 .byte (3 : Int32) [(.int (nar .byte (k3.toInt8.toInt32))), (.int (nar .byte ((k3 >>> ((8 : Int32) &&& 31)).toInt8.toInt32))), (.int (nar .byte ((k3 >>> ((16 : Int32) &&& 31)).toInt8.toInt32)))] (.int (0 : Int32)) := F405.ext E409
    have Z411 : n0 ≤ hX409.size := Nat.le_trans Z406 E409.1
    have hk412 := Nat.le_trans hk407 (show _ ≤ hX409.size from E409.1)
    have K413 : Keep h0 hX409 [] := K408.ext E409
    have F414 : Arv Z hX409 b409 kx409 .byte (8 : Int32) [(.int (0 : Int32)), (.int (0 : Int32)), (.int (0 : Int32)), (.int (0 : Int32)), (.int (0 : Int32)), (.int (0 : Int32)), (.int (0 : Int32)), (.int (0 : Int32))] (.int (0 : Int32)) := (Arv.new A409 (by decide)).pad (pad_rep [] (.int (0 : Int32)) 8)
    obtain ⟨cl415, Ar415, q415, S415, M415, H415, G415⟩ := id F414
    have hin415 : ¬ ((0 : Int32) < 0 ∨ cl415.slots.size ≤ ((0 : Int32)).toNatClampNeg) := inb_of S415 ⟨by decide, by decide⟩
    obtain ⟨T415, hX415, X415, e415, W415, st415⟩ := stB X409 hx hZ e409 Ar415 (j := (0 : Int32)) hin415 (g := (mkF m 94 #[.val (.int k1), .val (.int k2), .val (.int k3), .val (.long k4), .second, .val (.int k5), .val (.int k6), .val (.int (3 : Int32)), .val (.int v18), .val (.ref b389), .val (.ref b409), .unset, .unset, .unset, .unset, .unset, .unset, .unset] [(.int ((k4.toInt32).toInt8.toInt32)), (.int (0 : Int32)), (.ref b409)])) rfl rfl (hb hby at_94)
    have F416 : Arv Z hX415 b409 kx409 .byte (8 : Int32) [(.int (nar .byte ((k4.toInt32).toInt8.toInt32))), (.int (0 : Int32)), (.int (0 : Int32)), (.int (0 : Int32)), (.int (0 : Int32)), (.int (0 : Int32)), (.int (0 : Int32)), (.int (0 : Int32))] (.int (0 : Int32)) := Arv.set Ar415 q415 S415 M415 H415 G415 (fits_nar_byte _) W415 0 rfl (Nat.le_of_ble_eq_true rfl)
    have N415 := Fr.snoc X415 N404 g_b409
    have F417 : Arv Z hX415 b389 kx389 .byte (3 : Int32) [(.int (nar .byte (k3.toInt8.toInt32))), (.int (nar .byte ((k3 >>> ((8 : Int32) &&& 31)).toInt8.toInt32))), (.int (nar .byte ((k3 >>> ((16 : Int32) &&& 31)).toInt8.toInt32)))] (.int (0 : Int32)) := F410.other W415 ne_b389_b409
    have Z418 : n0 ≤ hX415.size := Nat.le_trans Z411 (Keep.of_wr W415).1
    have hk419 := Nat.le_trans hk412 (show _ ≤ hX415.size from (Keep.of_wr W415).1)
    have K420 : Keep h0 hX415 [] := K413.wr W415 (Or.inr sz_b409)
    obtain ⟨cl421, Ar421, q421, S421, M421, H421, G421⟩ := id F416
    have hin421 : ¬ ((1 : Int32) < 0 ∨ cl421.slots.size ≤ ((1 : Int32)).toNatClampNeg) := inb_of S421 ⟨by decide, by decide⟩
    obtain ⟨T421, hX421, X421, e421, W421, st421⟩ := stB X415 hx hZ e415 Ar421 (j := (1 : Int32)) hin421 (g := (mkF m 104 #[.val (.int k1), .val (.int k2), .val (.int k3), .val (.long k4), .second, .val (.int k5), .val (.int k6), .val (.int (3 : Int32)), .val (.int v18), .val (.ref b389), .val (.ref b409), .unset, .unset, .unset, .unset, .unset, .unset, .unset] [(.int (((k4 >>> ((8 : Int32) &&& 0x3f).toInt64).toInt32).toInt8.toInt32)), (.int (1 : Int32)), (.ref b409)])) rfl rfl (hb hby at_104)
    have F422 : Arv Z hX421 b409 kx409 .byte (8 : Int32) [(.int (nar .byte ((k4.toInt32).toInt8.toInt32))), (.int (nar .byte (((k4 >>> ((8 : Int32) &&& 0x3f).toInt64).toInt32).toInt8.toInt32))), (.int (0 : Int32)), (.int (0 : Int32)), (.int (0 : Int32)), (.int (0 : Int32)), (.int (0 : Int32)), (.int (0 : Int32))] (.int (0 : Int32)) := Arv.set Ar421 q421 S421 M421 H421 G421 (fits_nar_byte _) W421 1 rfl (Nat.le_of_ble_eq_true rfl)
    have N421 := Fr.snoc X421 N415 g_b409
    have F423 : Arv Z hX421 b389 kx389 .byte (3 : Int32) [(.int (nar .byte (k3.toInt8.toInt32))), (.int (nar .byte ((k3 >>> ((8 : Int32) &&& 31)).toInt8.toInt32))), (.int (nar .byte ((k3 >>> ((16 : Int32) &&& 31)).toInt8.toInt32)))] (.int (0 : Int32)) := F417.other W421 ne_b389_b409
    have Z424 : n0 ≤ hX421.size := Nat.le_trans Z418 (Keep.of_wr W421).1
    have hk425 := Nat.le_trans hk419 (show _ ≤ hX421.size from (Keep.of_wr W421).1)
    have K426 : Keep h0 hX421 [] := K420.wr W421 (Or.inr sz_b409)
    obtain ⟨cl427, Ar427, q427, S427, M427, H427, G427⟩ := id F422
    have hin427 : ¬ ((2 : Int32) < 0 ∨ cl427.slots.size ≤ ((2 : Int32)).toNatClampNeg) := inb_of S427 ⟨by decide, by decide⟩
    obtain ⟨T427, hX427, X427, e427, W427, st427⟩ := stB X421 hx hZ e421 Ar427 (j := (2 : Int32)) hin427 (g := (mkF m 114 #[.val (.int k1), .val (.int k2), .val (.int k3), .val (.long k4), .second, .val (.int k5), .val (.int k6), .val (.int (3 : Int32)), .val (.int v18), .val (.ref b389), .val (.ref b409), .unset, .unset, .unset, .unset, .unset, .unset, .unset] [(.int (((k4 >>> ((16 : Int32) &&& 0x3f).toInt64).toInt32).toInt8.toInt32)), (.int (2 : Int32)), (.ref b409)])) rfl rfl (hb hby at_114)
    have F428 : Arv Z hX427 b409 kx409 .byte (8 : Int32) [(.int (nar .byte ((k4.toInt32).toInt8.toInt32))), (.int (nar .byte (((k4 >>> ((8 : Int32) &&& 0x3f).toInt64).toInt32).toInt8.toInt32))), (.int (nar .byte (((k4 >>> ((16 : Int32) &&& 0x3f).toInt64).toInt32).toInt8.toInt32))), (.int (0 : Int32)), (.int (0 : Int32)), (.int (0 : Int32)), (.int (0 : Int32)), (.int (0 : Int32))] (.int (0 : Int32)) := Arv.set Ar427 q427 S427 M427 H427 G427 (fits_nar_byte _) W427 2 rfl (Nat.le_of_ble_eq_true rfl)
    have N427 := Fr.snoc X427 N421 g_b409
    have F429 : Arv Z hX427 b389 kx389 .byte (3 : Int32) [(.int (nar .byte (k3.toInt8.toInt32))), (.int (nar .byte ((k3 >>> ((8 : Int32) &&& 31)).toInt8.toInt32))), (.int (nar .byte ((k3 >>> ((16 : Int32) &&& 31)).toInt8.toInt32)))] (.int (0 : Int32)) := F423.other W427 ne_b389_b409
    have Z430 : n0 ≤ hX427.size := Nat.le_trans Z424 (Keep.of_wr W427).1
    have hk431 := Nat.le_trans hk425 (show _ ≤ hX427.size from (Keep.of_wr W427).1)
    have K432 : Keep h0 hX427 [] := K426.wr W427 (Or.inr sz_b409)
    obtain ⟨cl433, Ar433, q433, S433, M433, H433, G433⟩ := id F428
    have hin433 : ¬ ((3 : Int32) < 0 ∨ cl433.slots.size ≤ ((3 : Int32)).toNatClampNeg) := inb_of S433 ⟨by decide, by decide⟩
    obtain ⟨T433, hX433, X433, e433, W433, st433⟩ := stB X427 hx hZ e427 Ar433 (j := (3 : Int32)) hin433 (g := (mkF m 124 #[.val (.int k1), .val (.int k2), .val (.int k3), .val (.long k4), .second, .val (.int k5), .val (.int k6), .val (.int (3 : Int32)), .val (.int v18), .val (.ref b389), .val (.ref b409), .unset, .unset, .unset, .unset, .unset, .unset, .unset] [(.int (((k4 >>> ((24 : Int32) &&& 0x3f).toInt64).toInt32).toInt8.toInt32)), (.int (3 : Int32)), (.ref b409)])) rfl rfl (hb hby at_124)
    have F434 : Arv Z hX433 b409 kx409 .byte (8 : Int32) [(.int (nar .byte ((k4.toInt32).toInt8.toInt32))), (.int (nar .byte (((k4 >>> ((8 : Int32) &&& 0x3f).toInt64).toInt32).toInt8.toInt32))), (.int (nar .byte (((k4 >>> ((16 : Int32) &&& 0x3f).toInt64).toInt32).toInt8.toInt32))), (.int (nar .byte (((k4 >>> ((24 : Int32) &&& 0x3f).toInt64).toInt32).toInt8.toInt32))), (.int (0 : Int32)), (.int (0 : Int32)), (.int (0 : Int32)), (.int (0 : Int32))] (.int (0 : Int32)) := Arv.set Ar433 q433 S433 M433 H433 G433 (fits_nar_byte _) W433 3 rfl (Nat.le_of_ble_eq_true rfl)
    have N433 := Fr.snoc X433 N427 g_b409
    have F435 : Arv Z hX433 b389 kx389 .byte (3 : Int32) [(.int (nar .byte (k3.toInt8.toInt32))), (.int (nar .byte ((k3 >>> ((8 : Int32) &&& 31)).toInt8.toInt32))), (.int (nar .byte ((k3 >>> ((16 : Int32) &&& 31)).toInt8.toInt32)))] (.int (0 : Int32)) := F429.other W433 ne_b389_b409
    have Z436 : n0 ≤ hX433.size := Nat.le_trans Z430 (Keep.of_wr W433).1
    have hk437 := Nat.le_trans hk431 (show _ ≤ hX433.size from (Keep.of_wr W433).1)
    have K438 : Keep h0 hX433 [] := K432.wr W433 (Or.inr sz_b409)
    obtain ⟨cl439, Ar439, q439, S439, M439, H439, G439⟩ := id F434
    have hin439 : ¬ ((4 : Int32) < 0 ∨ cl439.slots.size ≤ ((4 : Int32)).toNatClampNeg) := inb_of S439 ⟨by decide, by decide⟩
    obtain ⟨T439, hX439, X439, e439, W439, st439⟩ := stB X433 hx hZ e433 Ar439 (j := (4 : Int32)) hin439 (g := (mkF m 134 #[.val (.int k1), .val (.int k2), .val (.int k3), .val (.long k4), .second, .val (.int k5), .val (.int k6), .val (.int (3 : Int32)), .val (.int v18), .val (.ref b389), .val (.ref b409), .unset, .unset, .unset, .unset, .unset, .unset, .unset] [(.int (((k4 >>> ((32 : Int32) &&& 0x3f).toInt64).toInt32).toInt8.toInt32)), (.int (4 : Int32)), (.ref b409)])) rfl rfl (hb hby at_134)
    have F440 : Arv Z hX439 b409 kx409 .byte (8 : Int32) [(.int (nar .byte ((k4.toInt32).toInt8.toInt32))), (.int (nar .byte (((k4 >>> ((8 : Int32) &&& 0x3f).toInt64).toInt32).toInt8.toInt32))), (.int (nar .byte (((k4 >>> ((16 : Int32) &&& 0x3f).toInt64).toInt32).toInt8.toInt32))), (.int (nar .byte (((k4 >>> ((24 : Int32) &&& 0x3f).toInt64).toInt32).toInt8.toInt32))), (.int (nar .byte (((k4 >>> ((32 : Int32) &&& 0x3f).toInt64).toInt32).toInt8.toInt32))), (.int (0 : Int32)), (.int (0 : Int32)), (.int (0 : Int32))] (.int (0 : Int32)) := Arv.set Ar439 q439 S439 M439 H439 G439 (fits_nar_byte _) W439 4 rfl (Nat.le_of_ble_eq_true rfl)
    have N439 := Fr.snoc X439 N433 g_b409
    have F441 : Arv Z hX439 b389 kx389 .byte (3 : Int32) [(.int (nar .byte (k3.toInt8.toInt32))), (.int (nar .byte ((k3 >>> ((8 : Int32) &&& 31)).toInt8.toInt32))), (.int (nar .byte ((k3 >>> ((16 : Int32) &&& 31)).toInt8.toInt32)))] (.int (0 : Int32)) := F435.other W439 ne_b389_b409
    have Z442 : n0 ≤ hX439.size := Nat.le_trans Z436 (Keep.of_wr W439).1
    have hk443 := Nat.le_trans hk437 (show _ ≤ hX439.size from (Keep.of_wr W439).1)
    have K444 : Keep h0 hX439 [] := K438.wr W439 (Or.inr sz_b409)
    obtain ⟨cl445, Ar445, q445, S445, M445, H445, G445⟩ := id F440
    have hin445 : ¬ ((5 : Int32) < 0 ∨ cl445.slots.size ≤ ((5 : Int32)).toNatClampNeg) := inb_of S445 ⟨by decide, by decide⟩
    obtain ⟨T445, hX445, X445, e445, W445, st445⟩ := stB X439 hx hZ e439 Ar445 (j := (5 : Int32)) hin445 (g := (mkF m 144 #[.val (.int k1), .val (.int k2), .val (.int k3), .val (.long k4), .second, .val (.int k5), .val (.int k6), .val (.int (3 : Int32)), .val (.int v18), .val (.ref b389), .val (.ref b409), .unset, .unset, .unset, .unset, .unset, .unset, .unset] [(.int (((k4 >>> ((40 : Int32) &&& 0x3f).toInt64).toInt32).toInt8.toInt32)), (.int (5 : Int32)), (.ref b409)])) rfl rfl (hb hby at_144)
    have F446 : Arv Z hX445 b409 kx409 .byte (8 : Int32) [(.int (nar .byte ((k4.toInt32).toInt8.toInt32))), (.int (nar .byte (((k4 >>> ((8 : Int32) &&& 0x3f).toInt64).toInt32).toInt8.toInt32))), (.int (nar .byte (((k4 >>> ((16 : Int32) &&& 0x3f).toInt64).toInt32).toInt8.toInt32))), (.int (nar .byte (((k4 >>> ((24 : Int32) &&& 0x3f).toInt64).toInt32).toInt8.toInt32))), (.int (nar .byte (((k4 >>> ((32 : Int32) &&& 0x3f).toInt64).toInt32).toInt8.toInt32))), (.int (nar .byte (((k4 >>> ((40 : Int32) &&& 0x3f).toInt64).toInt32).toInt8.toInt32))), (.int (0 : Int32)), (.int (0 : Int32))] (.int (0 : Int32)) := Arv.set Ar445 q445 S445 M445 H445 G445 (fits_nar_byte _) W445 5 rfl (Nat.le_of_ble_eq_true rfl)
    have N445 := Fr.snoc X445 N439 g_b409
    have F447 : Arv Z hX445 b389 kx389 .byte (3 : Int32) [(.int (nar .byte (k3.toInt8.toInt32))), (.int (nar .byte ((k3 >>> ((8 : Int32) &&& 31)).toInt8.toInt32))), (.int (nar .byte ((k3 >>> ((16 : Int32) &&& 31)).toInt8.toInt32)))] (.int (0 : Int32)) := F441.other W445 ne_b389_b409
    have Z448 : n0 ≤ hX445.size := Nat.le_trans Z442 (Keep.of_wr W445).1
    have hk449 := Nat.le_trans hk443 (show _ ≤ hX445.size from (Keep.of_wr W445).1)
    have K450 : Keep h0 hX445 [] := K444.wr W445 (Or.inr sz_b409)
    obtain ⟨cl451, Ar451, q451, S451, M451, H451, G451⟩ := id F446
    have hin451 : ¬ ((6 : Int32) < 0 ∨ cl451.slots.size ≤ ((6 : Int32)).toNatClampNeg) := inb_of S451 ⟨by decide, by decide⟩
    obtain ⟨T451, hX451, X451, e451, W451, st451⟩ := stB X445 hx hZ e445 Ar451 (j := (6 : Int32)) hin451 (g := (mkF m 155 #[.val (.int k1), .val (.int k2), .val (.int k3), .val (.long k4), .second, .val (.int k5), .val (.int k6), .val (.int (3 : Int32)), .val (.int v18), .val (.ref b389), .val (.ref b409), .unset, .unset, .unset, .unset, .unset, .unset, .unset] [(.int (((k4 >>> ((48 : Int32) &&& 0x3f).toInt64).toInt32).toInt8.toInt32)), (.int (6 : Int32)), (.ref b409)])) rfl rfl (hb hby at_155)
    have F452 : Arv Z hX451 b409 kx409 .byte (8 : Int32) [(.int (nar .byte ((k4.toInt32).toInt8.toInt32))), (.int (nar .byte (((k4 >>> ((8 : Int32) &&& 0x3f).toInt64).toInt32).toInt8.toInt32))), (.int (nar .byte (((k4 >>> ((16 : Int32) &&& 0x3f).toInt64).toInt32).toInt8.toInt32))), (.int (nar .byte (((k4 >>> ((24 : Int32) &&& 0x3f).toInt64).toInt32).toInt8.toInt32))), (.int (nar .byte (((k4 >>> ((32 : Int32) &&& 0x3f).toInt64).toInt32).toInt8.toInt32))), (.int (nar .byte (((k4 >>> ((40 : Int32) &&& 0x3f).toInt64).toInt32).toInt8.toInt32))), (.int (nar .byte (((k4 >>> ((48 : Int32) &&& 0x3f).toInt64).toInt32).toInt8.toInt32))), (.int (0 : Int32))] (.int (0 : Int32)) := Arv.set Ar451 q451 S451 M451 H451 G451 (fits_nar_byte _) W451 6 rfl (Nat.le_of_ble_eq_true rfl)
    have N451 := Fr.snoc X451 N445 g_b409
    have F453 : Arv Z hX451 b389 kx389 .byte (3 : Int32) [(.int (nar .byte (k3.toInt8.toInt32))), (.int (nar .byte ((k3 >>> ((8 : Int32) &&& 31)).toInt8.toInt32))), (.int (nar .byte ((k3 >>> ((16 : Int32) &&& 31)).toInt8.toInt32)))] (.int (0 : Int32)) := F447.other W451 ne_b389_b409
    have Z454 : n0 ≤ hX451.size := Nat.le_trans Z448 (Keep.of_wr W451).1
    have hk455 := Nat.le_trans hk449 (show _ ≤ hX451.size from (Keep.of_wr W451).1)
    have K456 : Keep h0 hX451 [] := K450.wr W451 (Or.inr sz_b409)
    obtain ⟨cl457, Ar457, q457, S457, M457, H457, G457⟩ := id F452
    have hin457 : ¬ ((7 : Int32) < 0 ∨ cl457.slots.size ≤ ((7 : Int32)).toNatClampNeg) := inb_of S457 ⟨by decide, by decide⟩
    obtain ⟨T457, hX457, X457, e457, W457, st457⟩ := stB X451 hx hZ e451 Ar457 (j := (7 : Int32)) hin457 (g := (mkF m 166 #[.val (.int k1), .val (.int k2), .val (.int k3), .val (.long k4), .second, .val (.int k5), .val (.int k6), .val (.int (3 : Int32)), .val (.int v18), .val (.ref b389), .val (.ref b409), .unset, .unset, .unset, .unset, .unset, .unset, .unset] [(.int (((k4 >>> ((56 : Int32) &&& 0x3f).toInt64).toInt32).toInt8.toInt32)), (.int (7 : Int32)), (.ref b409)])) rfl rfl (hb hby at_166)
    have F458 : Arv Z hX457 b409 kx409 .byte (8 : Int32) [(.int (nar .byte ((k4.toInt32).toInt8.toInt32))), (.int (nar .byte (((k4 >>> ((8 : Int32) &&& 0x3f).toInt64).toInt32).toInt8.toInt32))), (.int (nar .byte (((k4 >>> ((16 : Int32) &&& 0x3f).toInt64).toInt32).toInt8.toInt32))), (.int (nar .byte (((k4 >>> ((24 : Int32) &&& 0x3f).toInt64).toInt32).toInt8.toInt32))), (.int (nar .byte (((k4 >>> ((32 : Int32) &&& 0x3f).toInt64).toInt32).toInt8.toInt32))), (.int (nar .byte (((k4 >>> ((40 : Int32) &&& 0x3f).toInt64).toInt32).toInt8.toInt32))), (.int (nar .byte (((k4 >>> ((48 : Int32) &&& 0x3f).toInt64).toInt32).toInt8.toInt32))), (.int (nar .byte (((k4 >>> ((56 : Int32) &&& 0x3f).toInt64).toInt32).toInt8.toInt32)))] (.int (0 : Int32)) := Arv.set Ar457 q457 S457 M457 H457 G457 (fits_nar_byte _) W457 7 rfl (Nat.le_of_ble_eq_true rfl)
    have N457 := Fr.snoc X457 N451 g_b409
    have F459 : Arv Z hX457 b389 kx389 .byte (3 : Int32) [(.int (nar .byte (k3.toInt8.toInt32))), (.int (nar .byte ((k3 >>> ((8 : Int32) &&& 31)).toInt8.toInt32))), (.int (nar .byte ((k3 >>> ((16 : Int32) &&& 31)).toInt8.toInt32)))] (.int (0 : Int32)) := F453.other W457 ne_b389_b409
    have Z460 : n0 ≤ hX457.size := Nat.le_trans Z454 (Keep.of_wr W457).1
    have hk461 := Nat.le_trans hk455 (show _ ≤ hX457.size from (Keep.of_wr W457).1)
    have K462 : Keep h0 hX457 [] := K456.wr W457 (Or.inr sz_b409)
    obtain ⟨_, _, ⟨T463, L463, k463, n463⟩, -, X463, ⟨Lc463, hQ463, l463, y463, z463⟩, st463⟩ := Jvm.LawKit.callS X457 hx (y := (⟨"com/example/marcotte/marcotte/NameWrittenAtPinLaw", "delta", "(III)B"⟩ : MethodName)) hown (mvT hZ (hw _ (List.mem_of_getElem? (i := 2) rfl))) (mvT hZ (hw _ (List.mem_of_getElem? (i := 3) rfl))) (mvT hZ (hw _ (List.mem_of_getElem? (i := 4) rfl))) (mvT hZ (hw _ (List.mem_of_getElem? (i := 5) rfl))) (by decide) (backOf (W := 0) (rm1 l Z a0 hw [] k6 k5 (0 : Int32) hX457 n0 Z460 ) hZ (hw _ (List.mem_of_getElem? (i := 5) rfl)) (hw _ (List.mem_of_getElem? (i := 4) rfl)) (by decide) (by decide)) (g := (mkF m 172 #[.val (.int k1), .val (.int k2), .val (.int k3), .val (.long k4), .second, .val (.int k5), .val (.int k6), .val (.int (3 : Int32)), .val (.int v18), .val (.ref b389), .val (.ref b409), .unset, .unset, .unset, .unset, .unset, .unset, .unset] [(.int (0 : Int32)), (.int k5), (.int k6)])) rfl (by rw [hml]; rfl) (argsL := [(.int k6), (.int k5), (.int (0 : Int32))]) (rest := []) (lenOf pd_1 rfl) rfl (by show 2 * 0 + _ ≤ _; exact Nat.le_of_eq rfl) (hb hby at_172) (fun _ _ => ⟨rfl, e457, (by decide : 2 + 0 ≤ _), (by decide : 11 + 0 ≤ _)⟩)
    dsimp only [Pt.U, Pt.locs, Pt.cells, Pt.slots] at X463 l463 y463 z463 st463 hQ463
    subst l463 y463 z463
    obtain ⟨rfl, N463q, e463⟩ := hQ463
    have N463 := Fr.app N457 N463q
    obtain ⟨r172, hr172⟩ : ∃ z_q : Int32, z_q = (own_f1 k6 k5 (0 : Int32)) := ⟨_, rfl⟩
    obtain ⟨_, _, ⟨T464, L464, k464, n464⟩, -, X464, ⟨Lc464, hQ464, l464, y464, z464⟩, st464⟩ := Jvm.LawKit.callS X463 hx (y := (⟨"com/example/marcotte/marcotte/NameWrittenAtPinLaw", "delta", "(III)B"⟩ : MethodName)) hown (mvT hZ (hw _ (List.mem_of_getElem? (i := 2) rfl))) (mvT hZ (hw _ (List.mem_of_getElem? (i := 3) rfl))) (mvT hZ (hw _ (List.mem_of_getElem? (i := 4) rfl))) (mvT hZ (hw _ (List.mem_of_getElem? (i := 5) rfl))) (by decide) (backOf (W := 0) (rm1 l Z a0 hw [] k6 k5 (1 : Int32) hX457 n0 Z460 ) hZ (hw _ (List.mem_of_getElem? (i := 5) rfl)) (hw _ (List.mem_of_getElem? (i := 4) rfl)) (by decide) (by decide)) (g := (mkF m 182 #[.val (.int k1), .val (.int k2), .val (.int k3), .val (.long k4), .second, .val (.int k5), .val (.int k6), .val (.int (3 : Int32)), .val (.int v18), .val (.ref b389), .val (.ref b409), .val (.int r172), .unset, .unset, .unset, .unset, .unset, .unset] [(.int (1 : Int32)), (.int k5), (.int k6)])) rfl (by rw [hml]; rfl) (argsL := [(.int k6), (.int k5), (.int (1 : Int32))]) (rest := []) (lenOf pd_1 rfl) rfl (by show 2 * 0 + _ ≤ _; exact Nat.le_of_eq rfl) (hb hby at_182) (fun _ _ => ⟨rfl, e463, (by decide : 2 + 0 ≤ _), (by decide : 11 + 0 ≤ _)⟩)
    dsimp only [Pt.U, Pt.locs, Pt.cells, Pt.slots] at X464 l464 y464 z464 st464 hQ464
    subst l464 y464 z464
    obtain ⟨rfl, N464q, e464⟩ := hQ464
    have N464 := Fr.app N463 N464q
    obtain ⟨r182, hr182⟩ : ∃ z_q : Int32, z_q = (own_f1 k6 k5 (1 : Int32)) := ⟨_, rfl⟩
    obtain ⟨_, _, ⟨T465, L465, k465, n465⟩, -, X465, ⟨Lc465, hQ465, l465, y465, z465⟩, st465⟩ := Jvm.LawKit.callS X464 hx (y := (⟨"com/example/marcotte/marcotte/NameWrittenAtPinLaw", "delta", "(III)B"⟩ : MethodName)) hown (mvT hZ (hw _ (List.mem_of_getElem? (i := 2) rfl))) (mvT hZ (hw _ (List.mem_of_getElem? (i := 3) rfl))) (mvT hZ (hw _ (List.mem_of_getElem? (i := 4) rfl))) (mvT hZ (hw _ (List.mem_of_getElem? (i := 5) rfl))) (by decide) (backOf (W := 0) (rm1 l Z a0 hw [] k6 k5 (2 : Int32) hX457 n0 Z460 ) hZ (hw _ (List.mem_of_getElem? (i := 5) rfl)) (hw _ (List.mem_of_getElem? (i := 4) rfl)) (by decide) (by decide)) (g := (mkF m 192 #[.val (.int k1), .val (.int k2), .val (.int k3), .val (.long k4), .second, .val (.int k5), .val (.int k6), .val (.int (3 : Int32)), .val (.int v18), .val (.ref b389), .val (.ref b409), .val (.int r172), .val (.int r182), .unset, .unset, .unset, .unset, .unset] [(.int (2 : Int32)), (.int k5), (.int k6)])) rfl (by rw [hml]; rfl) (argsL := [(.int k6), (.int k5), (.int (2 : Int32))]) (rest := []) (lenOf pd_1 rfl) rfl (by show 2 * 0 + _ ≤ _; exact Nat.le_of_eq rfl) (hb hby at_192) (fun _ _ => ⟨rfl, e464, (by decide : 2 + 0 ≤ _), (by decide : 11 + 0 ≤ _)⟩)
    dsimp only [Pt.U, Pt.locs, Pt.cells, Pt.slots] at X465 l465 y465 z465 st465 hQ465
    subst l465 y465 z465
    obtain ⟨rfl, N465q, e465⟩ := hQ465
    have N465 := Fr.app N464 N465q
    obtain ⟨r192, hr192⟩ : ∃ z_q : Int32, z_q = (own_f1 k6 k5 (2 : Int32)) := ⟨_, rfl⟩
    obtain ⟨_, _, ⟨T466, L466, k466, n466⟩, -, X466, ⟨Lc466, hQ466, l466, y466, z466⟩, st466⟩ := Jvm.LawKit.callS X465 hx (y := (⟨"com/example/marcotte/marcotte/NameWrittenAtPinLaw", "delta", "(III)B"⟩ : MethodName)) hown (mvT hZ (hw _ (List.mem_of_getElem? (i := 2) rfl))) (mvT hZ (hw _ (List.mem_of_getElem? (i := 3) rfl))) (mvT hZ (hw _ (List.mem_of_getElem? (i := 4) rfl))) (mvT hZ (hw _ (List.mem_of_getElem? (i := 5) rfl))) (by decide) (backOf (W := 0) (rm1 l Z a0 hw [] k6 k5 (3 : Int32) hX457 n0 Z460 ) hZ (hw _ (List.mem_of_getElem? (i := 5) rfl)) (hw _ (List.mem_of_getElem? (i := 4) rfl)) (by decide) (by decide)) (g := (mkF m 202 #[.val (.int k1), .val (.int k2), .val (.int k3), .val (.long k4), .second, .val (.int k5), .val (.int k6), .val (.int (3 : Int32)), .val (.int v18), .val (.ref b389), .val (.ref b409), .val (.int r172), .val (.int r182), .val (.int r192), .unset, .unset, .unset, .unset] [(.int (3 : Int32)), (.int k5), (.int k6)])) rfl (by rw [hml]; rfl) (argsL := [(.int k6), (.int k5), (.int (3 : Int32))]) (rest := []) (lenOf pd_1 rfl) rfl (by show 2 * 0 + _ ≤ _; exact Nat.le_of_eq rfl) (hb hby at_202) (fun _ _ => ⟨rfl, e465, (by decide : 2 + 0 ≤ _), (by decide : 11 + 0 ≤ _)⟩)
    dsimp only [Pt.U, Pt.locs, Pt.cells, Pt.slots] at X466 l466 y466 z466 st466 hQ466
    subst l466 y466 z466
    obtain ⟨rfl, N466q, e466⟩ := hQ466
    have N466 := Fr.app N465 N466q
    obtain ⟨r202, hr202⟩ : ∃ z_q : Int32, z_q = (own_f1 k6 k5 (3 : Int32)) := ⟨_, rfl⟩
    obtain ⟨cl467, Ar467, q467, S467, M467, H467, G467⟩ := id F459
    have hin467 : ¬ ((0 : Int32) < 0 ∨ cl467.slots.size ≤ ((0 : Int32)).toNatClampNeg) := inb_of S467 ⟨by decide, by decide⟩
    have hat467 : cl467.slots[((0 : Int32)).toNatClampNeg]? = some (.int (nar .byte (k3.toInt8.toInt32))) := Has.at H467 hin467 rfl
    obtain ⟨cl468, Ar468, q468, S468, M468, H468, G468⟩ := id F458.arh
    have hin468 : ¬ (v18 < 0 ∨ cl468.slots.size ≤ (v18).toNatClampNeg) := inb_of S468 (own_inb_0_224_s3 k1 k2 k3 k4 k5 k6 hv6 v18 hv18 r172 hr172 r182 hr182 r192 hr192 r202 hr202)
    obtain ⟨T468, hX468, X468, e468, W468, st468⟩ := stB X466 hx hZ e466 Ar468 (j := v18) hin468 (g := (mkF m 224 #[.val (.int k1), .val (.int k2), .val (.int k3), .val (.long k4), .second, .val (.int k5), .val (.int k6), .val (.int (3 : Int32)), .val (.int v18), .val (.ref b389), .val (.ref b409), .val (.int r172), .val (.int r182), .val (.int r192), .val (.int r202), .unset, .unset, .unset] [(.int (((nar .byte (k3.toInt8.toInt32)) ^^^ r172).toInt8.toInt32)), (.int v18), (.ref b409)])) rfl rfl (hb hby at_224)
    have F469 : Arh Z hX468 b409 kx409 .byte (8 : Int32) [(v18, (.int (nar .byte (((nar .byte (k3.toInt8.toInt32)) ^^^ r172).toInt8.toInt32))))] [(.int (nar .byte ((k4.toInt32).toInt8.toInt32))), (.int (nar .byte (((k4 >>> ((8 : Int32) &&& 0x3f).toInt64).toInt32).toInt8.toInt32))), (.int (nar .byte (((k4 >>> ((16 : Int32) &&& 0x3f).toInt64).toInt32).toInt8.toInt32))), (.int (nar .byte (((k4 >>> ((24 : Int32) &&& 0x3f).toInt64).toInt32).toInt8.toInt32))), (.int (nar .byte (((k4 >>> ((32 : Int32) &&& 0x3f).toInt64).toInt32).toInt8.toInt32))), (.int (nar .byte (((k4 >>> ((40 : Int32) &&& 0x3f).toInt64).toInt32).toInt8.toInt32))), (.int (nar .byte (((k4 >>> ((48 : Int32) &&& 0x3f).toInt64).toInt32).toInt8.toInt32))), (.int (nar .byte (((k4 >>> ((56 : Int32) &&& 0x3f).toInt64).toInt32).toInt8.toInt32)))] (.int (0 : Int32)) := Arh.push Ar468 q468 S468 M468 H468 G468 (fits_nar_byte _) W468 hin468
    have N468 := Fr.snoc X468 N466 g_b409
    have F470 : Arv Z hX468 b389 kx389 .byte (3 : Int32) [(.int (nar .byte (k3.toInt8.toInt32))), (.int (nar .byte ((k3 >>> ((8 : Int32) &&& 31)).toInt8.toInt32))), (.int (nar .byte ((k3 >>> ((16 : Int32) &&& 31)).toInt8.toInt32)))] (.int (0 : Int32)) := F459.other W468 ne_b389_b409
    have Z471 : n0 ≤ hX468.size := Nat.le_trans Z460 (Keep.of_wr W468).1
    have hk472 := Nat.le_trans hk461 (show _ ≤ hX468.size from (Keep.of_wr W468).1)
    have K473 : Keep h0 hX468 [] := K462.wr W468 (Or.inr sz_b409)
    obtain ⟨cl474, Ar474, q474, S474, M474, H474, G474⟩ := id F470
    have hin474 : ¬ ((1 : Int32) < 0 ∨ cl474.slots.size ≤ ((1 : Int32)).toNatClampNeg) := inb_of S474 ⟨by decide, by decide⟩
    have hat474 : cl474.slots[((1 : Int32)).toNatClampNeg]? = some (.int (nar .byte ((k3 >>> ((8 : Int32) &&& 31)).toInt8.toInt32))) := Has.at H474 hin474 rfl
    obtain ⟨cl475, Ar475, q475, S475, M475, H475, G475⟩ := id F469
    have hin475 : ¬ ((v18 + (1 : Int32)) < 0 ∨ cl475.slots.size ≤ ((v18 + (1 : Int32))).toNatClampNeg) := inb_of S475 (own_inb_0_245_s3 k1 k2 k3 k4 k5 k6 hv6 v18 hv18 r172 hr172 r182 hr182 r192 hr192 r202 hr202)
    obtain ⟨T475, hX475, X475, e475, W475, st475⟩ := stB X468 hx hZ e468 Ar475 (j := (v18 + (1 : Int32))) hin475 (g := (mkF m 245 #[.val (.int k1), .val (.int k2), .val (.int k3), .val (.long k4), .second, .val (.int k5), .val (.int k6), .val (.int (3 : Int32)), .val (.int v18), .val (.ref b389), .val (.ref b409), .val (.int r172), .val (.int r182), .val (.int r192), .val (.int r202), .unset, .unset, .unset] [(.int (((nar .byte ((k3 >>> ((8 : Int32) &&& 31)).toInt8.toInt32)) ^^^ r182).toInt8.toInt32)), (.int (v18 + (1 : Int32))), (.ref b409)])) rfl rfl (hb hby at_245)
    have F476 : Arh Z hX475 b409 kx409 .byte (8 : Int32) [((v18 + (1 : Int32)), (.int (nar .byte (((nar .byte ((k3 >>> ((8 : Int32) &&& 31)).toInt8.toInt32)) ^^^ r182).toInt8.toInt32)))), (v18, (.int (nar .byte (((nar .byte (k3.toInt8.toInt32)) ^^^ r172).toInt8.toInt32))))] [(.int (nar .byte ((k4.toInt32).toInt8.toInt32))), (.int (nar .byte (((k4 >>> ((8 : Int32) &&& 0x3f).toInt64).toInt32).toInt8.toInt32))), (.int (nar .byte (((k4 >>> ((16 : Int32) &&& 0x3f).toInt64).toInt32).toInt8.toInt32))), (.int (nar .byte (((k4 >>> ((24 : Int32) &&& 0x3f).toInt64).toInt32).toInt8.toInt32))), (.int (nar .byte (((k4 >>> ((32 : Int32) &&& 0x3f).toInt64).toInt32).toInt8.toInt32))), (.int (nar .byte (((k4 >>> ((40 : Int32) &&& 0x3f).toInt64).toInt32).toInt8.toInt32))), (.int (nar .byte (((k4 >>> ((48 : Int32) &&& 0x3f).toInt64).toInt32).toInt8.toInt32))), (.int (nar .byte (((k4 >>> ((56 : Int32) &&& 0x3f).toInt64).toInt32).toInt8.toInt32)))] (.int (0 : Int32)) := Arh.push Ar475 q475 S475 M475 H475 G475 (fits_nar_byte _) W475 hin475
    have N475 := Fr.snoc X475 N468 g_b409
    have F477 : Arv Z hX475 b389 kx389 .byte (3 : Int32) [(.int (nar .byte (k3.toInt8.toInt32))), (.int (nar .byte ((k3 >>> ((8 : Int32) &&& 31)).toInt8.toInt32))), (.int (nar .byte ((k3 >>> ((16 : Int32) &&& 31)).toInt8.toInt32)))] (.int (0 : Int32)) := F470.other W475 ne_b389_b409
    have Z478 : n0 ≤ hX475.size := Nat.le_trans Z471 (Keep.of_wr W475).1
    have hk479 := Nat.le_trans hk472 (show _ ≤ hX475.size from (Keep.of_wr W475).1)
    have K480 : Keep h0 hX475 [] := K473.wr W475 (Or.inr sz_b409)
    obtain ⟨cl481, Ar481, q481, S481, M481, H481, G481⟩ := id F477
    have hin481 : ¬ ((2 : Int32) < 0 ∨ cl481.slots.size ≤ ((2 : Int32)).toNatClampNeg) := inb_of S481 ⟨by decide, by decide⟩
    have hat481 : cl481.slots[((2 : Int32)).toNatClampNeg]? = some (.int (nar .byte ((k3 >>> ((16 : Int32) &&& 31)).toInt8.toInt32))) := Has.at H481 hin481 rfl
    obtain ⟨cl482, Ar482, q482, S482, M482, H482, G482⟩ := id F476
    have hin482 : ¬ ((v18 + (2 : Int32)) < 0 ∨ cl482.slots.size ≤ ((v18 + (2 : Int32))).toNatClampNeg) := inb_of S482 (own_inb_0_266_s3 k1 k2 k3 k4 k5 k6 hv6 v18 hv18 r172 hr172 r182 hr182 r192 hr192 r202 hr202)
    obtain ⟨T482, hX482, X482, e482, W482, st482⟩ := stB X475 hx hZ e475 Ar482 (j := (v18 + (2 : Int32))) hin482 (g := (mkF m 266 #[.val (.int k1), .val (.int k2), .val (.int k3), .val (.long k4), .second, .val (.int k5), .val (.int k6), .val (.int (3 : Int32)), .val (.int v18), .val (.ref b389), .val (.ref b409), .val (.int r172), .val (.int r182), .val (.int r192), .val (.int r202), .unset, .unset, .unset] [(.int (((nar .byte ((k3 >>> ((16 : Int32) &&& 31)).toInt8.toInt32)) ^^^ r192).toInt8.toInt32)), (.int (v18 + (2 : Int32))), (.ref b409)])) rfl rfl (hb hby at_266)
    have F483 : Arh Z hX482 b409 kx409 .byte (8 : Int32) [((v18 + (2 : Int32)), (.int (nar .byte (((nar .byte ((k3 >>> ((16 : Int32) &&& 31)).toInt8.toInt32)) ^^^ r192).toInt8.toInt32)))), ((v18 + (1 : Int32)), (.int (nar .byte (((nar .byte ((k3 >>> ((8 : Int32) &&& 31)).toInt8.toInt32)) ^^^ r182).toInt8.toInt32)))), (v18, (.int (nar .byte (((nar .byte (k3.toInt8.toInt32)) ^^^ r172).toInt8.toInt32))))] [(.int (nar .byte ((k4.toInt32).toInt8.toInt32))), (.int (nar .byte (((k4 >>> ((8 : Int32) &&& 0x3f).toInt64).toInt32).toInt8.toInt32))), (.int (nar .byte (((k4 >>> ((16 : Int32) &&& 0x3f).toInt64).toInt32).toInt8.toInt32))), (.int (nar .byte (((k4 >>> ((24 : Int32) &&& 0x3f).toInt64).toInt32).toInt8.toInt32))), (.int (nar .byte (((k4 >>> ((32 : Int32) &&& 0x3f).toInt64).toInt32).toInt8.toInt32))), (.int (nar .byte (((k4 >>> ((40 : Int32) &&& 0x3f).toInt64).toInt32).toInt8.toInt32))), (.int (nar .byte (((k4 >>> ((48 : Int32) &&& 0x3f).toInt64).toInt32).toInt8.toInt32))), (.int (nar .byte (((k4 >>> ((56 : Int32) &&& 0x3f).toInt64).toInt32).toInt8.toInt32)))] (.int (0 : Int32)) := Arh.push Ar482 q482 S482 M482 H482 G482 (fits_nar_byte _) W482 hin482
    have N482 := Fr.snoc X482 N475 g_b409
    have F484 : Arv Z hX482 b389 kx389 .byte (3 : Int32) [(.int (nar .byte (k3.toInt8.toInt32))), (.int (nar .byte ((k3 >>> ((8 : Int32) &&& 31)).toInt8.toInt32))), (.int (nar .byte ((k3 >>> ((16 : Int32) &&& 31)).toInt8.toInt32)))] (.int (0 : Int32)) := F477.other W482 ne_b389_b409
    have Z485 : n0 ≤ hX482.size := Nat.le_trans Z478 (Keep.of_wr W482).1
    have hk486 := Nat.le_trans hk479 (show _ ≤ hX482.size from (Keep.of_wr W482).1)
    have K487 : Keep h0 hX482 [] := K480.wr W482 (Or.inr sz_b409)
    obtain ⟨m337, hm337⟩ : ∃ z_q : Int32, z_q = (if r172 = (0 : Int32) then (if r182 = (0 : Int32) then (if r192 = (0 : Int32) then (1 : Int32) else (0 : Int32)) else (0 : Int32)) else (0 : Int32)) := ⟨_, rfl⟩
    have pre491 : ∀ tq, Steps p.tables e below (T482.setTop (mkF m 337 #[.val (.int k1), .val (.int k2), .val (.int k3), .val (.long k4), .second, .val (.int k5), .val (.int k6), .val (.int (3 : Int32)), .val (.int v18), .val (.ref b389), .val (.ref b409), .val (.int r172), .val (.int r182), .val (.int r192), .val (.int r202), .unset, .unset, .unset] [(.int m337)])) tq → Steps p.tables e below (s₁.setTop (entryFrame m #[(.int k1), (.int k2), (.int k3), (.long k4), (.int k5), (.int k6)] maxLocals)) tq := by
      intro tq kt
      refine pre1 _ ?_
      show Steps p.tables e below (s₁.setTop (mkF m 8 #[.val (.int k1), .val (.int k2), .val (.int k3), .val (.long k4), .second, .val (.int k5), .val (.int k6), .val (.int (3 : Int32)), .unset, .unset, .unset, .unset, .unset, .unset, .unset, .unset, .unset, .unset] [])) _
      refine XS.iloadN X0.here hx rfl (hb hby at_8) rfl ?_
      show Steps p.tables e below (s₁.setTop (mkF m 9 #[.val (.int k1), .val (.int k2), .val (.int k3), .val (.long k4), .second, .val (.int k5), .val (.int k6), .val (.int (3 : Int32)), .unset, .unset, .unset, .unset, .unset, .unset, .unset, .unset, .unset, .unset] [(.int k2)])) _
      refine X0.ldcInt hx hown (mvT hZ (hw _ (List.mem_of_getElem? (i := 0) rfl))) (g := (mkF m 9 #[.val (.int k1), .val (.int k2), .val (.int k3), .val (.long k4), .second, .val (.int k5), .val (.int k6), .val (.int (3 : Int32)), .unset, .unset, .unset, .unset, .unset, .unset, .unset, .unset, .unset, .unset] [(.int k2)])) rfl (hb hby at_9) _ ?_
      show Steps p.tables e below (s₁.setTop (mkF m 11 #[.val (.int k1), .val (.int k2), .val (.int k3), .val (.long k4), .second, .val (.int k5), .val (.int k6), .val (.int (3 : Int32)), .unset, .unset, .unset, .unset, .unset, .unset, .unset, .unset, .unset, .unset] [(.int (2147483647 : Int32)), (.int k2)])) _
      refine XS.iand X0.here hx rfl (hb hby at_11) rfl ?_
      show Steps p.tables e below (s₁.setTop (mkF m 12 #[.val (.int k1), .val (.int k2), .val (.int k3), .val (.long k4), .second, .val (.int k5), .val (.int k6), .val (.int (3 : Int32)), .unset, .unset, .unset, .unset, .unset, .unset, .unset, .unset, .unset, .unset] [(.int (k2 &&& (2147483647 : Int32)))])) _
      refine XS.bipush X0.here hx rfl (hb hby at_12) ?_
      show Steps p.tables e below (s₁.setTop (mkF m 14 #[.val (.int k1), .val (.int k2), .val (.int k3), .val (.long k4), .second, .val (.int k5), .val (.int k6), .val (.int (3 : Int32)), .unset, .unset, .unset, .unset, .unset, .unset, .unset, .unset, .unset, .unset] [(.int (9 : Int32)), (.int (k2 &&& (2147483647 : Int32)))])) _
      refine XS.iload X0.here hx rfl (hb hby at_14) rfl ?_
      show Steps p.tables e below (s₁.setTop (mkF m 16 #[.val (.int k1), .val (.int k2), .val (.int k3), .val (.long k4), .second, .val (.int k5), .val (.int k6), .val (.int (3 : Int32)), .unset, .unset, .unset, .unset, .unset, .unset, .unset, .unset, .unset, .unset] [(.int (3 : Int32)), (.int (9 : Int32)), (.int (k2 &&& (2147483647 : Int32)))])) _
      refine XS.isub X0.here hx rfl (hb hby at_16) rfl ?_
      show Steps p.tables e below (s₁.setTop (mkF m 17 #[.val (.int k1), .val (.int k2), .val (.int k3), .val (.long k4), .second, .val (.int k5), .val (.int k6), .val (.int (3 : Int32)), .unset, .unset, .unset, .unset, .unset, .unset, .unset, .unset, .unset, .unset] [(.int (6 : Int32)), (.int (k2 &&& (2147483647 : Int32)))])) _
      refine iremM X0 hx rfl (hb hby at_17) rfl (by decide : ¬ ((6 : Int32) = (0 : Int32))) ?_
      show Steps p.tables e below (s₁.setTop (mkF m 18 #[.val (.int k1), .val (.int k2), .val (.int k3), .val (.long k4), .second, .val (.int k5), .val (.int k6), .val (.int (3 : Int32)), .unset, .unset, .unset, .unset, .unset, .unset, .unset, .unset, .unset, .unset] [(.int ((k2 &&& (2147483647 : Int32)) % (6 : Int32)))])) _
      refine XS.istore X0.here hx rfl (hb hby at_18) rfl (l' := #[.val (.int k1), .val (.int k2), .val (.int k3), .val (.long k4), .second, .val (.int k5), .val (.int k6), .val (.int (3 : Int32)), .val (.int v18), .unset, .unset, .unset, .unset, .unset, .unset, .unset, .unset, .unset]) (by rw [hv18]; rfl) ?_
      show Steps p.tables e below (s₁.setTop (mkF m 20 #[.val (.int k1), .val (.int k2), .val (.int k3), .val (.long k4), .second, .val (.int k5), .val (.int k6), .val (.int (3 : Int32)), .val (.int v18), .unset, .unset, .unset, .unset, .unset, .unset, .unset, .unset, .unset] [])) _
      refine XS.iload X0.here hx rfl (hb hby at_20) rfl ?_
      show Steps p.tables e below (s₁.setTop (mkF m 22 #[.val (.int k1), .val (.int k2), .val (.int k3), .val (.long k4), .second, .val (.int k5), .val (.int k6), .val (.int (3 : Int32)), .val (.int v18), .unset, .unset, .unset, .unset, .unset, .unset, .unset, .unset, .unset] [(.int (3 : Int32))])) _
      refine st389 _ ?_
      show Steps p.tables e below (T389.setTop (mkF m 24 #[.val (.int k1), .val (.int k2), .val (.int k3), .val (.long k4), .second, .val (.int k5), .val (.int k6), .val (.int (3 : Int32)), .val (.int v18), .unset, .unset, .unset, .unset, .unset, .unset, .unset, .unset, .unset] [(.ref b389)])) _
      refine XS.astore X389.here hx rfl (hb hby at_24) rfl rfl (l' := #[.val (.int k1), .val (.int k2), .val (.int k3), .val (.long k4), .second, .val (.int k5), .val (.int k6), .val (.int (3 : Int32)), .val (.int v18), .val (.ref b389), .unset, .unset, .unset, .unset, .unset, .unset, .unset, .unset]) rfl ?_
      show Steps p.tables e below (T389.setTop (mkF m 26 #[.val (.int k1), .val (.int k2), .val (.int k3), .val (.long k4), .second, .val (.int k5), .val (.int k6), .val (.int (3 : Int32)), .val (.int v18), .val (.ref b389), .unset, .unset, .unset, .unset, .unset, .unset, .unset, .unset] [])) _
      refine XS.iload X389.here hx rfl (hb hby at_26) rfl ?_
      show Steps p.tables e below (T389.setTop (mkF m 28 #[.val (.int k1), .val (.int k2), .val (.int k3), .val (.long k4), .second, .val (.int k5), .val (.int k6), .val (.int (3 : Int32)), .val (.int v18), .val (.ref b389), .unset, .unset, .unset, .unset, .unset, .unset, .unset, .unset] [(.int (3 : Int32))])) _
      refine XS.ifNo X389.here hx rfl (hb hby at_28) rfl ((if0 _ _).trans (tlt (by decide)).2.2.2) ?_
      show Steps p.tables e below (T389.setTop (mkF m 31 #[.val (.int k1), .val (.int k2), .val (.int k3), .val (.long k4), .second, .val (.int k5), .val (.int k6), .val (.int (3 : Int32)), .val (.int v18), .val (.ref b389), .unset, .unset, .unset, .unset, .unset, .unset, .unset, .unset] [])) _
      refine XS.aload X389.here hx rfl (hb hby at_31) rfl rfl ?_
      show Steps p.tables e below (T389.setTop (mkF m 33 #[.val (.int k1), .val (.int k2), .val (.int k3), .val (.long k4), .second, .val (.int k5), .val (.int k6), .val (.int (3 : Int32)), .val (.int v18), .val (.ref b389), .unset, .unset, .unset, .unset, .unset, .unset, .unset, .unset] [(.ref b389)])) _
      refine XS.iconst X389.here hx rfl (hb hby at_33) ?_
      show Steps p.tables e below (T389.setTop (mkF m 34 #[.val (.int k1), .val (.int k2), .val (.int k3), .val (.long k4), .second, .val (.int k5), .val (.int k6), .val (.int (3 : Int32)), .val (.int v18), .val (.ref b389), .unset, .unset, .unset, .unset, .unset, .unset, .unset, .unset] [(.int (0 : Int32)), (.ref b389)])) _
      refine XS.iloadN X389.here hx rfl (hb hby at_34) rfl ?_
      show Steps p.tables e below (T389.setTop (mkF m 35 #[.val (.int k1), .val (.int k2), .val (.int k3), .val (.long k4), .second, .val (.int k5), .val (.int k6), .val (.int (3 : Int32)), .val (.int v18), .val (.ref b389), .unset, .unset, .unset, .unset, .unset, .unset, .unset, .unset] [(.int k3), (.int (0 : Int32)), (.ref b389)])) _
      refine XS.i2b X389.here hx rfl (hb hby at_35) rfl ?_
      show Steps p.tables e below (T389.setTop (mkF m 36 #[.val (.int k1), .val (.int k2), .val (.int k3), .val (.long k4), .second, .val (.int k5), .val (.int k6), .val (.int (3 : Int32)), .val (.int v18), .val (.ref b389), .unset, .unset, .unset, .unset, .unset, .unset, .unset, .unset] [(.int (k3.toInt8.toInt32)), (.int (0 : Int32)), (.ref b389)])) _
      refine st394 _ ?_
      show Steps p.tables e below (T394.setTop (mkF m 37 #[.val (.int k1), .val (.int k2), .val (.int k3), .val (.long k4), .second, .val (.int k5), .val (.int k6), .val (.int (3 : Int32)), .val (.int v18), .val (.ref b389), .unset, .unset, .unset, .unset, .unset, .unset, .unset, .unset] [])) _
      refine XS.iload X394.here hx rfl (hb hby at_37) rfl ?_
      show Steps p.tables e below (T394.setTop (mkF m 39 #[.val (.int k1), .val (.int k2), .val (.int k3), .val (.long k4), .second, .val (.int k5), .val (.int k6), .val (.int (3 : Int32)), .val (.int v18), .val (.ref b389), .unset, .unset, .unset, .unset, .unset, .unset, .unset, .unset] [(.int (3 : Int32))])) _
      refine XS.iconst X394.here hx rfl (hb hby at_39) ?_
      show Steps p.tables e below (T394.setTop (mkF m 40 #[.val (.int k1), .val (.int k2), .val (.int k3), .val (.long k4), .second, .val (.int k5), .val (.int k6), .val (.int (3 : Int32)), .val (.int v18), .val (.ref b389), .unset, .unset, .unset, .unset, .unset, .unset, .unset, .unset] [(.int (1 : Int32)), (.int (3 : Int32))])) _
      refine XS.icmpNo X394.here hx rfl (hb hby at_40) rfl (tlt (by decide)).2.2.2 ?_
      show Steps p.tables e below (T394.setTop (mkF m 43 #[.val (.int k1), .val (.int k2), .val (.int k3), .val (.long k4), .second, .val (.int k5), .val (.int k6), .val (.int (3 : Int32)), .val (.int v18), .val (.ref b389), .unset, .unset, .unset, .unset, .unset, .unset, .unset, .unset] [])) _
      refine XS.aload X394.here hx rfl (hb hby at_43) rfl rfl ?_
      show Steps p.tables e below (T394.setTop (mkF m 45 #[.val (.int k1), .val (.int k2), .val (.int k3), .val (.long k4), .second, .val (.int k5), .val (.int k6), .val (.int (3 : Int32)), .val (.int v18), .val (.ref b389), .unset, .unset, .unset, .unset, .unset, .unset, .unset, .unset] [(.ref b389)])) _
      refine XS.iconst X394.here hx rfl (hb hby at_45) ?_
      show Steps p.tables e below (T394.setTop (mkF m 46 #[.val (.int k1), .val (.int k2), .val (.int k3), .val (.long k4), .second, .val (.int k5), .val (.int k6), .val (.int (3 : Int32)), .val (.int v18), .val (.ref b389), .unset, .unset, .unset, .unset, .unset, .unset, .unset, .unset] [(.int (1 : Int32)), (.ref b389)])) _
      refine XS.iloadN X394.here hx rfl (hb hby at_46) rfl ?_
      show Steps p.tables e below (T394.setTop (mkF m 47 #[.val (.int k1), .val (.int k2), .val (.int k3), .val (.long k4), .second, .val (.int k5), .val (.int k6), .val (.int (3 : Int32)), .val (.int v18), .val (.ref b389), .unset, .unset, .unset, .unset, .unset, .unset, .unset, .unset] [(.int k3), (.int (1 : Int32)), (.ref b389)])) _
      refine XS.bipush X394.here hx rfl (hb hby at_47) ?_
      show Steps p.tables e below (T394.setTop (mkF m 49 #[.val (.int k1), .val (.int k2), .val (.int k3), .val (.long k4), .second, .val (.int k5), .val (.int k6), .val (.int (3 : Int32)), .val (.int v18), .val (.ref b389), .unset, .unset, .unset, .unset, .unset, .unset, .unset, .unset] [(.int (8 : Int32)), (.int k3), (.int (1 : Int32)), (.ref b389)])) _
      refine XS.ishr X394.here hx rfl (hb hby at_49) rfl ?_
      show Steps p.tables e below (T394.setTop (mkF m 50 #[.val (.int k1), .val (.int k2), .val (.int k3), .val (.long k4), .second, .val (.int k5), .val (.int k6), .val (.int (3 : Int32)), .val (.int v18), .val (.ref b389), .unset, .unset, .unset, .unset, .unset, .unset, .unset, .unset] [(.int (k3 >>> ((8 : Int32) &&& 31))), (.int (1 : Int32)), (.ref b389)])) _
      refine XS.i2b X394.here hx rfl (hb hby at_50) rfl ?_
      show Steps p.tables e below (T394.setTop (mkF m 51 #[.val (.int k1), .val (.int k2), .val (.int k3), .val (.long k4), .second, .val (.int k5), .val (.int k6), .val (.int (3 : Int32)), .val (.int v18), .val (.ref b389), .unset, .unset, .unset, .unset, .unset, .unset, .unset, .unset] [(.int ((k3 >>> ((8 : Int32) &&& 31)).toInt8.toInt32)), (.int (1 : Int32)), (.ref b389)])) _
      refine st399 _ ?_
      show Steps p.tables e below (T399.setTop (mkF m 52 #[.val (.int k1), .val (.int k2), .val (.int k3), .val (.long k4), .second, .val (.int k5), .val (.int k6), .val (.int (3 : Int32)), .val (.int v18), .val (.ref b389), .unset, .unset, .unset, .unset, .unset, .unset, .unset, .unset] [])) _
      refine XS.iload X399.here hx rfl (hb hby at_52) rfl ?_
      show Steps p.tables e below (T399.setTop (mkF m 54 #[.val (.int k1), .val (.int k2), .val (.int k3), .val (.long k4), .second, .val (.int k5), .val (.int k6), .val (.int (3 : Int32)), .val (.int v18), .val (.ref b389), .unset, .unset, .unset, .unset, .unset, .unset, .unset, .unset] [(.int (3 : Int32))])) _
      refine XS.iconst X399.here hx rfl (hb hby at_54) ?_
      show Steps p.tables e below (T399.setTop (mkF m 55 #[.val (.int k1), .val (.int k2), .val (.int k3), .val (.long k4), .second, .val (.int k5), .val (.int k6), .val (.int (3 : Int32)), .val (.int v18), .val (.ref b389), .unset, .unset, .unset, .unset, .unset, .unset, .unset, .unset] [(.int (2 : Int32)), (.int (3 : Int32))])) _
      refine XS.icmpNo X399.here hx rfl (hb hby at_55) rfl (tlt (by decide)).2.2.2 ?_
      show Steps p.tables e below (T399.setTop (mkF m 58 #[.val (.int k1), .val (.int k2), .val (.int k3), .val (.long k4), .second, .val (.int k5), .val (.int k6), .val (.int (3 : Int32)), .val (.int v18), .val (.ref b389), .unset, .unset, .unset, .unset, .unset, .unset, .unset, .unset] [])) _
      refine XS.aload X399.here hx rfl (hb hby at_58) rfl rfl ?_
      show Steps p.tables e below (T399.setTop (mkF m 60 #[.val (.int k1), .val (.int k2), .val (.int k3), .val (.long k4), .second, .val (.int k5), .val (.int k6), .val (.int (3 : Int32)), .val (.int v18), .val (.ref b389), .unset, .unset, .unset, .unset, .unset, .unset, .unset, .unset] [(.ref b389)])) _
      refine XS.iconst X399.here hx rfl (hb hby at_60) ?_
      show Steps p.tables e below (T399.setTop (mkF m 61 #[.val (.int k1), .val (.int k2), .val (.int k3), .val (.long k4), .second, .val (.int k5), .val (.int k6), .val (.int (3 : Int32)), .val (.int v18), .val (.ref b389), .unset, .unset, .unset, .unset, .unset, .unset, .unset, .unset] [(.int (2 : Int32)), (.ref b389)])) _
      refine XS.iloadN X399.here hx rfl (hb hby at_61) rfl ?_
      show Steps p.tables e below (T399.setTop (mkF m 62 #[.val (.int k1), .val (.int k2), .val (.int k3), .val (.long k4), .second, .val (.int k5), .val (.int k6), .val (.int (3 : Int32)), .val (.int v18), .val (.ref b389), .unset, .unset, .unset, .unset, .unset, .unset, .unset, .unset] [(.int k3), (.int (2 : Int32)), (.ref b389)])) _
      refine XS.bipush X399.here hx rfl (hb hby at_62) ?_
      show Steps p.tables e below (T399.setTop (mkF m 64 #[.val (.int k1), .val (.int k2), .val (.int k3), .val (.long k4), .second, .val (.int k5), .val (.int k6), .val (.int (3 : Int32)), .val (.int v18), .val (.ref b389), .unset, .unset, .unset, .unset, .unset, .unset, .unset, .unset] [(.int (16 : Int32)), (.int k3), (.int (2 : Int32)), (.ref b389)])) _
      refine XS.ishr X399.here hx rfl (hb hby at_64) rfl ?_
      show Steps p.tables e below (T399.setTop (mkF m 65 #[.val (.int k1), .val (.int k2), .val (.int k3), .val (.long k4), .second, .val (.int k5), .val (.int k6), .val (.int (3 : Int32)), .val (.int v18), .val (.ref b389), .unset, .unset, .unset, .unset, .unset, .unset, .unset, .unset] [(.int (k3 >>> ((16 : Int32) &&& 31))), (.int (2 : Int32)), (.ref b389)])) _
      refine XS.i2b X399.here hx rfl (hb hby at_65) rfl ?_
      show Steps p.tables e below (T399.setTop (mkF m 66 #[.val (.int k1), .val (.int k2), .val (.int k3), .val (.long k4), .second, .val (.int k5), .val (.int k6), .val (.int (3 : Int32)), .val (.int v18), .val (.ref b389), .unset, .unset, .unset, .unset, .unset, .unset, .unset, .unset] [(.int ((k3 >>> ((16 : Int32) &&& 31)).toInt8.toInt32)), (.int (2 : Int32)), (.ref b389)])) _
      refine st404 _ ?_
      show Steps p.tables e below (T404.setTop (mkF m 67 #[.val (.int k1), .val (.int k2), .val (.int k3), .val (.long k4), .second, .val (.int k5), .val (.int k6), .val (.int (3 : Int32)), .val (.int v18), .val (.ref b389), .unset, .unset, .unset, .unset, .unset, .unset, .unset, .unset] [])) _
      refine XS.iload X404.here hx rfl (hb hby at_67) rfl ?_
      show Steps p.tables e below (T404.setTop (mkF m 69 #[.val (.int k1), .val (.int k2), .val (.int k3), .val (.long k4), .second, .val (.int k5), .val (.int k6), .val (.int (3 : Int32)), .val (.int v18), .val (.ref b389), .unset, .unset, .unset, .unset, .unset, .unset, .unset, .unset] [(.int (3 : Int32))])) _
      refine XS.iconst X404.here hx rfl (hb hby at_69) ?_
      show Steps p.tables e below (T404.setTop (mkF m 70 #[.val (.int k1), .val (.int k2), .val (.int k3), .val (.long k4), .second, .val (.int k5), .val (.int k6), .val (.int (3 : Int32)), .val (.int v18), .val (.ref b389), .unset, .unset, .unset, .unset, .unset, .unset, .unset, .unset] [(.int (3 : Int32)), (.int (3 : Int32))])) _
      refine XS.icmpYes X404.here hx rfl (pc0 := 70) (pc' := 82) rfl (hb hby at_70) rfl (flt (by decide)).2.2.2 (by decide) (by decide) ?_
      show Steps p.tables e below (T404.setTop (mkF m 82 #[.val (.int k1), .val (.int k2), .val (.int k3), .val (.long k4), .second, .val (.int k5), .val (.int k6), .val (.int (3 : Int32)), .val (.int v18), .val (.ref b389), .unset, .unset, .unset, .unset, .unset, .unset, .unset, .unset] [])) _
      refine XS.bipush X404.here hx rfl (hb hby at_82) ?_
      show Steps p.tables e below (T404.setTop (mkF m 84 #[.val (.int k1), .val (.int k2), .val (.int k3), .val (.long k4), .second, .val (.int k5), .val (.int k6), .val (.int (3 : Int32)), .val (.int v18), .val (.ref b389), .unset, .unset, .unset, .unset, .unset, .unset, .unset, .unset] [(.int (8 : Int32))])) _
      refine st409 _ ?_
      show Steps p.tables e below (T409.setTop (mkF m 86 #[.val (.int k1), .val (.int k2), .val (.int k3), .val (.long k4), .second, .val (.int k5), .val (.int k6), .val (.int (3 : Int32)), .val (.int v18), .val (.ref b389), .unset, .unset, .unset, .unset, .unset, .unset, .unset, .unset] [(.ref b409)])) _
      refine XS.astore X409.here hx rfl (hb hby at_86) rfl rfl (l' := #[.val (.int k1), .val (.int k2), .val (.int k3), .val (.long k4), .second, .val (.int k5), .val (.int k6), .val (.int (3 : Int32)), .val (.int v18), .val (.ref b389), .val (.ref b409), .unset, .unset, .unset, .unset, .unset, .unset, .unset]) rfl ?_
      show Steps p.tables e below (T409.setTop (mkF m 88 #[.val (.int k1), .val (.int k2), .val (.int k3), .val (.long k4), .second, .val (.int k5), .val (.int k6), .val (.int (3 : Int32)), .val (.int v18), .val (.ref b389), .val (.ref b409), .unset, .unset, .unset, .unset, .unset, .unset, .unset] [])) _
      refine XS.aload X409.here hx rfl (hb hby at_88) rfl rfl ?_
      show Steps p.tables e below (T409.setTop (mkF m 90 #[.val (.int k1), .val (.int k2), .val (.int k3), .val (.long k4), .second, .val (.int k5), .val (.int k6), .val (.int (3 : Int32)), .val (.int v18), .val (.ref b389), .val (.ref b409), .unset, .unset, .unset, .unset, .unset, .unset, .unset] [(.ref b409)])) _
      refine XS.iconst X409.here hx rfl (hb hby at_90) ?_
      show Steps p.tables e below (T409.setTop (mkF m 91 #[.val (.int k1), .val (.int k2), .val (.int k3), .val (.long k4), .second, .val (.int k5), .val (.int k6), .val (.int (3 : Int32)), .val (.int v18), .val (.ref b389), .val (.ref b409), .unset, .unset, .unset, .unset, .unset, .unset, .unset] [(.int (0 : Int32)), (.ref b409)])) _
      refine XS.lloadN X409.here hx rfl (hb hby at_91) rfl ?_
      show Steps p.tables e below (T409.setTop (mkF m 92 #[.val (.int k1), .val (.int k2), .val (.int k3), .val (.long k4), .second, .val (.int k5), .val (.int k6), .val (.int (3 : Int32)), .val (.int v18), .val (.ref b389), .val (.ref b409), .unset, .unset, .unset, .unset, .unset, .unset, .unset] [(.long k4), (.int (0 : Int32)), (.ref b409)])) _
      refine XS.l2i X409.here hx rfl (hb hby at_92) rfl ?_
      show Steps p.tables e below (T409.setTop (mkF m 93 #[.val (.int k1), .val (.int k2), .val (.int k3), .val (.long k4), .second, .val (.int k5), .val (.int k6), .val (.int (3 : Int32)), .val (.int v18), .val (.ref b389), .val (.ref b409), .unset, .unset, .unset, .unset, .unset, .unset, .unset] [(.int (k4.toInt32)), (.int (0 : Int32)), (.ref b409)])) _
      refine XS.i2b X409.here hx rfl (hb hby at_93) rfl ?_
      show Steps p.tables e below (T409.setTop (mkF m 94 #[.val (.int k1), .val (.int k2), .val (.int k3), .val (.long k4), .second, .val (.int k5), .val (.int k6), .val (.int (3 : Int32)), .val (.int v18), .val (.ref b389), .val (.ref b409), .unset, .unset, .unset, .unset, .unset, .unset, .unset] [(.int ((k4.toInt32).toInt8.toInt32)), (.int (0 : Int32)), (.ref b409)])) _
      refine st415 _ ?_
      show Steps p.tables e below (T415.setTop (mkF m 95 #[.val (.int k1), .val (.int k2), .val (.int k3), .val (.long k4), .second, .val (.int k5), .val (.int k6), .val (.int (3 : Int32)), .val (.int v18), .val (.ref b389), .val (.ref b409), .unset, .unset, .unset, .unset, .unset, .unset, .unset] [])) _
      refine XS.aload X415.here hx rfl (hb hby at_95) rfl rfl ?_
      show Steps p.tables e below (T415.setTop (mkF m 97 #[.val (.int k1), .val (.int k2), .val (.int k3), .val (.long k4), .second, .val (.int k5), .val (.int k6), .val (.int (3 : Int32)), .val (.int v18), .val (.ref b389), .val (.ref b409), .unset, .unset, .unset, .unset, .unset, .unset, .unset] [(.ref b409)])) _
      refine XS.iconst X415.here hx rfl (hb hby at_97) ?_
      show Steps p.tables e below (T415.setTop (mkF m 98 #[.val (.int k1), .val (.int k2), .val (.int k3), .val (.long k4), .second, .val (.int k5), .val (.int k6), .val (.int (3 : Int32)), .val (.int v18), .val (.ref b389), .val (.ref b409), .unset, .unset, .unset, .unset, .unset, .unset, .unset] [(.int (1 : Int32)), (.ref b409)])) _
      refine XS.lloadN X415.here hx rfl (hb hby at_98) rfl ?_
      show Steps p.tables e below (T415.setTop (mkF m 99 #[.val (.int k1), .val (.int k2), .val (.int k3), .val (.long k4), .second, .val (.int k5), .val (.int k6), .val (.int (3 : Int32)), .val (.int v18), .val (.ref b389), .val (.ref b409), .unset, .unset, .unset, .unset, .unset, .unset, .unset] [(.long k4), (.int (1 : Int32)), (.ref b409)])) _
      refine XS.bipush X415.here hx rfl (hb hby at_99) ?_
      show Steps p.tables e below (T415.setTop (mkF m 101 #[.val (.int k1), .val (.int k2), .val (.int k3), .val (.long k4), .second, .val (.int k5), .val (.int k6), .val (.int (3 : Int32)), .val (.int v18), .val (.ref b389), .val (.ref b409), .unset, .unset, .unset, .unset, .unset, .unset, .unset] [(.int (8 : Int32)), (.long k4), (.int (1 : Int32)), (.ref b409)])) _
      refine XS.lshr X415.here hx rfl (hb hby at_101) rfl ?_
      show Steps p.tables e below (T415.setTop (mkF m 102 #[.val (.int k1), .val (.int k2), .val (.int k3), .val (.long k4), .second, .val (.int k5), .val (.int k6), .val (.int (3 : Int32)), .val (.int v18), .val (.ref b389), .val (.ref b409), .unset, .unset, .unset, .unset, .unset, .unset, .unset] [(.long (k4 >>> ((8 : Int32) &&& 0x3f).toInt64)), (.int (1 : Int32)), (.ref b409)])) _
      refine XS.l2i X415.here hx rfl (hb hby at_102) rfl ?_
      show Steps p.tables e below (T415.setTop (mkF m 103 #[.val (.int k1), .val (.int k2), .val (.int k3), .val (.long k4), .second, .val (.int k5), .val (.int k6), .val (.int (3 : Int32)), .val (.int v18), .val (.ref b389), .val (.ref b409), .unset, .unset, .unset, .unset, .unset, .unset, .unset] [(.int ((k4 >>> ((8 : Int32) &&& 0x3f).toInt64).toInt32)), (.int (1 : Int32)), (.ref b409)])) _
      refine XS.i2b X415.here hx rfl (hb hby at_103) rfl ?_
      show Steps p.tables e below (T415.setTop (mkF m 104 #[.val (.int k1), .val (.int k2), .val (.int k3), .val (.long k4), .second, .val (.int k5), .val (.int k6), .val (.int (3 : Int32)), .val (.int v18), .val (.ref b389), .val (.ref b409), .unset, .unset, .unset, .unset, .unset, .unset, .unset] [(.int (((k4 >>> ((8 : Int32) &&& 0x3f).toInt64).toInt32).toInt8.toInt32)), (.int (1 : Int32)), (.ref b409)])) _
      refine st421 _ ?_
      show Steps p.tables e below (T421.setTop (mkF m 105 #[.val (.int k1), .val (.int k2), .val (.int k3), .val (.long k4), .second, .val (.int k5), .val (.int k6), .val (.int (3 : Int32)), .val (.int v18), .val (.ref b389), .val (.ref b409), .unset, .unset, .unset, .unset, .unset, .unset, .unset] [])) _
      refine XS.aload X421.here hx rfl (hb hby at_105) rfl rfl ?_
      show Steps p.tables e below (T421.setTop (mkF m 107 #[.val (.int k1), .val (.int k2), .val (.int k3), .val (.long k4), .second, .val (.int k5), .val (.int k6), .val (.int (3 : Int32)), .val (.int v18), .val (.ref b389), .val (.ref b409), .unset, .unset, .unset, .unset, .unset, .unset, .unset] [(.ref b409)])) _
      refine XS.iconst X421.here hx rfl (hb hby at_107) ?_
      show Steps p.tables e below (T421.setTop (mkF m 108 #[.val (.int k1), .val (.int k2), .val (.int k3), .val (.long k4), .second, .val (.int k5), .val (.int k6), .val (.int (3 : Int32)), .val (.int v18), .val (.ref b389), .val (.ref b409), .unset, .unset, .unset, .unset, .unset, .unset, .unset] [(.int (2 : Int32)), (.ref b409)])) _
      refine XS.lloadN X421.here hx rfl (hb hby at_108) rfl ?_
      show Steps p.tables e below (T421.setTop (mkF m 109 #[.val (.int k1), .val (.int k2), .val (.int k3), .val (.long k4), .second, .val (.int k5), .val (.int k6), .val (.int (3 : Int32)), .val (.int v18), .val (.ref b389), .val (.ref b409), .unset, .unset, .unset, .unset, .unset, .unset, .unset] [(.long k4), (.int (2 : Int32)), (.ref b409)])) _
      refine XS.bipush X421.here hx rfl (hb hby at_109) ?_
      show Steps p.tables e below (T421.setTop (mkF m 111 #[.val (.int k1), .val (.int k2), .val (.int k3), .val (.long k4), .second, .val (.int k5), .val (.int k6), .val (.int (3 : Int32)), .val (.int v18), .val (.ref b389), .val (.ref b409), .unset, .unset, .unset, .unset, .unset, .unset, .unset] [(.int (16 : Int32)), (.long k4), (.int (2 : Int32)), (.ref b409)])) _
      refine XS.lshr X421.here hx rfl (hb hby at_111) rfl ?_
      show Steps p.tables e below (T421.setTop (mkF m 112 #[.val (.int k1), .val (.int k2), .val (.int k3), .val (.long k4), .second, .val (.int k5), .val (.int k6), .val (.int (3 : Int32)), .val (.int v18), .val (.ref b389), .val (.ref b409), .unset, .unset, .unset, .unset, .unset, .unset, .unset] [(.long (k4 >>> ((16 : Int32) &&& 0x3f).toInt64)), (.int (2 : Int32)), (.ref b409)])) _
      refine XS.l2i X421.here hx rfl (hb hby at_112) rfl ?_
      show Steps p.tables e below (T421.setTop (mkF m 113 #[.val (.int k1), .val (.int k2), .val (.int k3), .val (.long k4), .second, .val (.int k5), .val (.int k6), .val (.int (3 : Int32)), .val (.int v18), .val (.ref b389), .val (.ref b409), .unset, .unset, .unset, .unset, .unset, .unset, .unset] [(.int ((k4 >>> ((16 : Int32) &&& 0x3f).toInt64).toInt32)), (.int (2 : Int32)), (.ref b409)])) _
      refine XS.i2b X421.here hx rfl (hb hby at_113) rfl ?_
      show Steps p.tables e below (T421.setTop (mkF m 114 #[.val (.int k1), .val (.int k2), .val (.int k3), .val (.long k4), .second, .val (.int k5), .val (.int k6), .val (.int (3 : Int32)), .val (.int v18), .val (.ref b389), .val (.ref b409), .unset, .unset, .unset, .unset, .unset, .unset, .unset] [(.int (((k4 >>> ((16 : Int32) &&& 0x3f).toInt64).toInt32).toInt8.toInt32)), (.int (2 : Int32)), (.ref b409)])) _
      refine st427 _ ?_
      show Steps p.tables e below (T427.setTop (mkF m 115 #[.val (.int k1), .val (.int k2), .val (.int k3), .val (.long k4), .second, .val (.int k5), .val (.int k6), .val (.int (3 : Int32)), .val (.int v18), .val (.ref b389), .val (.ref b409), .unset, .unset, .unset, .unset, .unset, .unset, .unset] [])) _
      refine XS.aload X427.here hx rfl (hb hby at_115) rfl rfl ?_
      show Steps p.tables e below (T427.setTop (mkF m 117 #[.val (.int k1), .val (.int k2), .val (.int k3), .val (.long k4), .second, .val (.int k5), .val (.int k6), .val (.int (3 : Int32)), .val (.int v18), .val (.ref b389), .val (.ref b409), .unset, .unset, .unset, .unset, .unset, .unset, .unset] [(.ref b409)])) _
      refine XS.iconst X427.here hx rfl (hb hby at_117) ?_
      show Steps p.tables e below (T427.setTop (mkF m 118 #[.val (.int k1), .val (.int k2), .val (.int k3), .val (.long k4), .second, .val (.int k5), .val (.int k6), .val (.int (3 : Int32)), .val (.int v18), .val (.ref b389), .val (.ref b409), .unset, .unset, .unset, .unset, .unset, .unset, .unset] [(.int (3 : Int32)), (.ref b409)])) _
      refine XS.lloadN X427.here hx rfl (hb hby at_118) rfl ?_
      show Steps p.tables e below (T427.setTop (mkF m 119 #[.val (.int k1), .val (.int k2), .val (.int k3), .val (.long k4), .second, .val (.int k5), .val (.int k6), .val (.int (3 : Int32)), .val (.int v18), .val (.ref b389), .val (.ref b409), .unset, .unset, .unset, .unset, .unset, .unset, .unset] [(.long k4), (.int (3 : Int32)), (.ref b409)])) _
      refine XS.bipush X427.here hx rfl (hb hby at_119) ?_
      show Steps p.tables e below (T427.setTop (mkF m 121 #[.val (.int k1), .val (.int k2), .val (.int k3), .val (.long k4), .second, .val (.int k5), .val (.int k6), .val (.int (3 : Int32)), .val (.int v18), .val (.ref b389), .val (.ref b409), .unset, .unset, .unset, .unset, .unset, .unset, .unset] [(.int (24 : Int32)), (.long k4), (.int (3 : Int32)), (.ref b409)])) _
      refine XS.lshr X427.here hx rfl (hb hby at_121) rfl ?_
      show Steps p.tables e below (T427.setTop (mkF m 122 #[.val (.int k1), .val (.int k2), .val (.int k3), .val (.long k4), .second, .val (.int k5), .val (.int k6), .val (.int (3 : Int32)), .val (.int v18), .val (.ref b389), .val (.ref b409), .unset, .unset, .unset, .unset, .unset, .unset, .unset] [(.long (k4 >>> ((24 : Int32) &&& 0x3f).toInt64)), (.int (3 : Int32)), (.ref b409)])) _
      refine XS.l2i X427.here hx rfl (hb hby at_122) rfl ?_
      show Steps p.tables e below (T427.setTop (mkF m 123 #[.val (.int k1), .val (.int k2), .val (.int k3), .val (.long k4), .second, .val (.int k5), .val (.int k6), .val (.int (3 : Int32)), .val (.int v18), .val (.ref b389), .val (.ref b409), .unset, .unset, .unset, .unset, .unset, .unset, .unset] [(.int ((k4 >>> ((24 : Int32) &&& 0x3f).toInt64).toInt32)), (.int (3 : Int32)), (.ref b409)])) _
      refine XS.i2b X427.here hx rfl (hb hby at_123) rfl ?_
      show Steps p.tables e below (T427.setTop (mkF m 124 #[.val (.int k1), .val (.int k2), .val (.int k3), .val (.long k4), .second, .val (.int k5), .val (.int k6), .val (.int (3 : Int32)), .val (.int v18), .val (.ref b389), .val (.ref b409), .unset, .unset, .unset, .unset, .unset, .unset, .unset] [(.int (((k4 >>> ((24 : Int32) &&& 0x3f).toInt64).toInt32).toInt8.toInt32)), (.int (3 : Int32)), (.ref b409)])) _
      refine st433 _ ?_
      show Steps p.tables e below (T433.setTop (mkF m 125 #[.val (.int k1), .val (.int k2), .val (.int k3), .val (.long k4), .second, .val (.int k5), .val (.int k6), .val (.int (3 : Int32)), .val (.int v18), .val (.ref b389), .val (.ref b409), .unset, .unset, .unset, .unset, .unset, .unset, .unset] [])) _
      refine XS.aload X433.here hx rfl (hb hby at_125) rfl rfl ?_
      show Steps p.tables e below (T433.setTop (mkF m 127 #[.val (.int k1), .val (.int k2), .val (.int k3), .val (.long k4), .second, .val (.int k5), .val (.int k6), .val (.int (3 : Int32)), .val (.int v18), .val (.ref b389), .val (.ref b409), .unset, .unset, .unset, .unset, .unset, .unset, .unset] [(.ref b409)])) _
      refine XS.iconst X433.here hx rfl (hb hby at_127) ?_
      show Steps p.tables e below (T433.setTop (mkF m 128 #[.val (.int k1), .val (.int k2), .val (.int k3), .val (.long k4), .second, .val (.int k5), .val (.int k6), .val (.int (3 : Int32)), .val (.int v18), .val (.ref b389), .val (.ref b409), .unset, .unset, .unset, .unset, .unset, .unset, .unset] [(.int (4 : Int32)), (.ref b409)])) _
      refine XS.lloadN X433.here hx rfl (hb hby at_128) rfl ?_
      show Steps p.tables e below (T433.setTop (mkF m 129 #[.val (.int k1), .val (.int k2), .val (.int k3), .val (.long k4), .second, .val (.int k5), .val (.int k6), .val (.int (3 : Int32)), .val (.int v18), .val (.ref b389), .val (.ref b409), .unset, .unset, .unset, .unset, .unset, .unset, .unset] [(.long k4), (.int (4 : Int32)), (.ref b409)])) _
      refine XS.bipush X433.here hx rfl (hb hby at_129) ?_
      show Steps p.tables e below (T433.setTop (mkF m 131 #[.val (.int k1), .val (.int k2), .val (.int k3), .val (.long k4), .second, .val (.int k5), .val (.int k6), .val (.int (3 : Int32)), .val (.int v18), .val (.ref b389), .val (.ref b409), .unset, .unset, .unset, .unset, .unset, .unset, .unset] [(.int (32 : Int32)), (.long k4), (.int (4 : Int32)), (.ref b409)])) _
      refine XS.lshr X433.here hx rfl (hb hby at_131) rfl ?_
      show Steps p.tables e below (T433.setTop (mkF m 132 #[.val (.int k1), .val (.int k2), .val (.int k3), .val (.long k4), .second, .val (.int k5), .val (.int k6), .val (.int (3 : Int32)), .val (.int v18), .val (.ref b389), .val (.ref b409), .unset, .unset, .unset, .unset, .unset, .unset, .unset] [(.long (k4 >>> ((32 : Int32) &&& 0x3f).toInt64)), (.int (4 : Int32)), (.ref b409)])) _
      refine XS.l2i X433.here hx rfl (hb hby at_132) rfl ?_
      show Steps p.tables e below (T433.setTop (mkF m 133 #[.val (.int k1), .val (.int k2), .val (.int k3), .val (.long k4), .second, .val (.int k5), .val (.int k6), .val (.int (3 : Int32)), .val (.int v18), .val (.ref b389), .val (.ref b409), .unset, .unset, .unset, .unset, .unset, .unset, .unset] [(.int ((k4 >>> ((32 : Int32) &&& 0x3f).toInt64).toInt32)), (.int (4 : Int32)), (.ref b409)])) _
      refine XS.i2b X433.here hx rfl (hb hby at_133) rfl ?_
      show Steps p.tables e below (T433.setTop (mkF m 134 #[.val (.int k1), .val (.int k2), .val (.int k3), .val (.long k4), .second, .val (.int k5), .val (.int k6), .val (.int (3 : Int32)), .val (.int v18), .val (.ref b389), .val (.ref b409), .unset, .unset, .unset, .unset, .unset, .unset, .unset] [(.int (((k4 >>> ((32 : Int32) &&& 0x3f).toInt64).toInt32).toInt8.toInt32)), (.int (4 : Int32)), (.ref b409)])) _
      refine st439 _ ?_
      show Steps p.tables e below (T439.setTop (mkF m 135 #[.val (.int k1), .val (.int k2), .val (.int k3), .val (.long k4), .second, .val (.int k5), .val (.int k6), .val (.int (3 : Int32)), .val (.int v18), .val (.ref b389), .val (.ref b409), .unset, .unset, .unset, .unset, .unset, .unset, .unset] [])) _
      refine XS.aload X439.here hx rfl (hb hby at_135) rfl rfl ?_
      show Steps p.tables e below (T439.setTop (mkF m 137 #[.val (.int k1), .val (.int k2), .val (.int k3), .val (.long k4), .second, .val (.int k5), .val (.int k6), .val (.int (3 : Int32)), .val (.int v18), .val (.ref b389), .val (.ref b409), .unset, .unset, .unset, .unset, .unset, .unset, .unset] [(.ref b409)])) _
      refine XS.iconst X439.here hx rfl (hb hby at_137) ?_
      show Steps p.tables e below (T439.setTop (mkF m 138 #[.val (.int k1), .val (.int k2), .val (.int k3), .val (.long k4), .second, .val (.int k5), .val (.int k6), .val (.int (3 : Int32)), .val (.int v18), .val (.ref b389), .val (.ref b409), .unset, .unset, .unset, .unset, .unset, .unset, .unset] [(.int (5 : Int32)), (.ref b409)])) _
      refine XS.lloadN X439.here hx rfl (hb hby at_138) rfl ?_
      show Steps p.tables e below (T439.setTop (mkF m 139 #[.val (.int k1), .val (.int k2), .val (.int k3), .val (.long k4), .second, .val (.int k5), .val (.int k6), .val (.int (3 : Int32)), .val (.int v18), .val (.ref b389), .val (.ref b409), .unset, .unset, .unset, .unset, .unset, .unset, .unset] [(.long k4), (.int (5 : Int32)), (.ref b409)])) _
      refine XS.bipush X439.here hx rfl (hb hby at_139) ?_
      show Steps p.tables e below (T439.setTop (mkF m 141 #[.val (.int k1), .val (.int k2), .val (.int k3), .val (.long k4), .second, .val (.int k5), .val (.int k6), .val (.int (3 : Int32)), .val (.int v18), .val (.ref b389), .val (.ref b409), .unset, .unset, .unset, .unset, .unset, .unset, .unset] [(.int (40 : Int32)), (.long k4), (.int (5 : Int32)), (.ref b409)])) _
      refine XS.lshr X439.here hx rfl (hb hby at_141) rfl ?_
      show Steps p.tables e below (T439.setTop (mkF m 142 #[.val (.int k1), .val (.int k2), .val (.int k3), .val (.long k4), .second, .val (.int k5), .val (.int k6), .val (.int (3 : Int32)), .val (.int v18), .val (.ref b389), .val (.ref b409), .unset, .unset, .unset, .unset, .unset, .unset, .unset] [(.long (k4 >>> ((40 : Int32) &&& 0x3f).toInt64)), (.int (5 : Int32)), (.ref b409)])) _
      refine XS.l2i X439.here hx rfl (hb hby at_142) rfl ?_
      show Steps p.tables e below (T439.setTop (mkF m 143 #[.val (.int k1), .val (.int k2), .val (.int k3), .val (.long k4), .second, .val (.int k5), .val (.int k6), .val (.int (3 : Int32)), .val (.int v18), .val (.ref b389), .val (.ref b409), .unset, .unset, .unset, .unset, .unset, .unset, .unset] [(.int ((k4 >>> ((40 : Int32) &&& 0x3f).toInt64).toInt32)), (.int (5 : Int32)), (.ref b409)])) _
      refine XS.i2b X439.here hx rfl (hb hby at_143) rfl ?_
      show Steps p.tables e below (T439.setTop (mkF m 144 #[.val (.int k1), .val (.int k2), .val (.int k3), .val (.long k4), .second, .val (.int k5), .val (.int k6), .val (.int (3 : Int32)), .val (.int v18), .val (.ref b389), .val (.ref b409), .unset, .unset, .unset, .unset, .unset, .unset, .unset] [(.int (((k4 >>> ((40 : Int32) &&& 0x3f).toInt64).toInt32).toInt8.toInt32)), (.int (5 : Int32)), (.ref b409)])) _
      refine st445 _ ?_
      show Steps p.tables e below (T445.setTop (mkF m 145 #[.val (.int k1), .val (.int k2), .val (.int k3), .val (.long k4), .second, .val (.int k5), .val (.int k6), .val (.int (3 : Int32)), .val (.int v18), .val (.ref b389), .val (.ref b409), .unset, .unset, .unset, .unset, .unset, .unset, .unset] [])) _
      refine XS.aload X445.here hx rfl (hb hby at_145) rfl rfl ?_
      show Steps p.tables e below (T445.setTop (mkF m 147 #[.val (.int k1), .val (.int k2), .val (.int k3), .val (.long k4), .second, .val (.int k5), .val (.int k6), .val (.int (3 : Int32)), .val (.int v18), .val (.ref b389), .val (.ref b409), .unset, .unset, .unset, .unset, .unset, .unset, .unset] [(.ref b409)])) _
      refine XS.bipush X445.here hx rfl (hb hby at_147) ?_
      show Steps p.tables e below (T445.setTop (mkF m 149 #[.val (.int k1), .val (.int k2), .val (.int k3), .val (.long k4), .second, .val (.int k5), .val (.int k6), .val (.int (3 : Int32)), .val (.int v18), .val (.ref b389), .val (.ref b409), .unset, .unset, .unset, .unset, .unset, .unset, .unset] [(.int (6 : Int32)), (.ref b409)])) _
      refine XS.lloadN X445.here hx rfl (hb hby at_149) rfl ?_
      show Steps p.tables e below (T445.setTop (mkF m 150 #[.val (.int k1), .val (.int k2), .val (.int k3), .val (.long k4), .second, .val (.int k5), .val (.int k6), .val (.int (3 : Int32)), .val (.int v18), .val (.ref b389), .val (.ref b409), .unset, .unset, .unset, .unset, .unset, .unset, .unset] [(.long k4), (.int (6 : Int32)), (.ref b409)])) _
      refine XS.bipush X445.here hx rfl (hb hby at_150) ?_
      show Steps p.tables e below (T445.setTop (mkF m 152 #[.val (.int k1), .val (.int k2), .val (.int k3), .val (.long k4), .second, .val (.int k5), .val (.int k6), .val (.int (3 : Int32)), .val (.int v18), .val (.ref b389), .val (.ref b409), .unset, .unset, .unset, .unset, .unset, .unset, .unset] [(.int (48 : Int32)), (.long k4), (.int (6 : Int32)), (.ref b409)])) _
      refine XS.lshr X445.here hx rfl (hb hby at_152) rfl ?_
      show Steps p.tables e below (T445.setTop (mkF m 153 #[.val (.int k1), .val (.int k2), .val (.int k3), .val (.long k4), .second, .val (.int k5), .val (.int k6), .val (.int (3 : Int32)), .val (.int v18), .val (.ref b389), .val (.ref b409), .unset, .unset, .unset, .unset, .unset, .unset, .unset] [(.long (k4 >>> ((48 : Int32) &&& 0x3f).toInt64)), (.int (6 : Int32)), (.ref b409)])) _
      refine XS.l2i X445.here hx rfl (hb hby at_153) rfl ?_
      show Steps p.tables e below (T445.setTop (mkF m 154 #[.val (.int k1), .val (.int k2), .val (.int k3), .val (.long k4), .second, .val (.int k5), .val (.int k6), .val (.int (3 : Int32)), .val (.int v18), .val (.ref b389), .val (.ref b409), .unset, .unset, .unset, .unset, .unset, .unset, .unset] [(.int ((k4 >>> ((48 : Int32) &&& 0x3f).toInt64).toInt32)), (.int (6 : Int32)), (.ref b409)])) _
      refine XS.i2b X445.here hx rfl (hb hby at_154) rfl ?_
      show Steps p.tables e below (T445.setTop (mkF m 155 #[.val (.int k1), .val (.int k2), .val (.int k3), .val (.long k4), .second, .val (.int k5), .val (.int k6), .val (.int (3 : Int32)), .val (.int v18), .val (.ref b389), .val (.ref b409), .unset, .unset, .unset, .unset, .unset, .unset, .unset] [(.int (((k4 >>> ((48 : Int32) &&& 0x3f).toInt64).toInt32).toInt8.toInt32)), (.int (6 : Int32)), (.ref b409)])) _
      refine st451 _ ?_
      show Steps p.tables e below (T451.setTop (mkF m 156 #[.val (.int k1), .val (.int k2), .val (.int k3), .val (.long k4), .second, .val (.int k5), .val (.int k6), .val (.int (3 : Int32)), .val (.int v18), .val (.ref b389), .val (.ref b409), .unset, .unset, .unset, .unset, .unset, .unset, .unset] [])) _
      refine XS.aload X451.here hx rfl (hb hby at_156) rfl rfl ?_
      show Steps p.tables e below (T451.setTop (mkF m 158 #[.val (.int k1), .val (.int k2), .val (.int k3), .val (.long k4), .second, .val (.int k5), .val (.int k6), .val (.int (3 : Int32)), .val (.int v18), .val (.ref b389), .val (.ref b409), .unset, .unset, .unset, .unset, .unset, .unset, .unset] [(.ref b409)])) _
      refine XS.bipush X451.here hx rfl (hb hby at_158) ?_
      show Steps p.tables e below (T451.setTop (mkF m 160 #[.val (.int k1), .val (.int k2), .val (.int k3), .val (.long k4), .second, .val (.int k5), .val (.int k6), .val (.int (3 : Int32)), .val (.int v18), .val (.ref b389), .val (.ref b409), .unset, .unset, .unset, .unset, .unset, .unset, .unset] [(.int (7 : Int32)), (.ref b409)])) _
      refine XS.lloadN X451.here hx rfl (hb hby at_160) rfl ?_
      show Steps p.tables e below (T451.setTop (mkF m 161 #[.val (.int k1), .val (.int k2), .val (.int k3), .val (.long k4), .second, .val (.int k5), .val (.int k6), .val (.int (3 : Int32)), .val (.int v18), .val (.ref b389), .val (.ref b409), .unset, .unset, .unset, .unset, .unset, .unset, .unset] [(.long k4), (.int (7 : Int32)), (.ref b409)])) _
      refine XS.bipush X451.here hx rfl (hb hby at_161) ?_
      show Steps p.tables e below (T451.setTop (mkF m 163 #[.val (.int k1), .val (.int k2), .val (.int k3), .val (.long k4), .second, .val (.int k5), .val (.int k6), .val (.int (3 : Int32)), .val (.int v18), .val (.ref b389), .val (.ref b409), .unset, .unset, .unset, .unset, .unset, .unset, .unset] [(.int (56 : Int32)), (.long k4), (.int (7 : Int32)), (.ref b409)])) _
      refine XS.lshr X451.here hx rfl (hb hby at_163) rfl ?_
      show Steps p.tables e below (T451.setTop (mkF m 164 #[.val (.int k1), .val (.int k2), .val (.int k3), .val (.long k4), .second, .val (.int k5), .val (.int k6), .val (.int (3 : Int32)), .val (.int v18), .val (.ref b389), .val (.ref b409), .unset, .unset, .unset, .unset, .unset, .unset, .unset] [(.long (k4 >>> ((56 : Int32) &&& 0x3f).toInt64)), (.int (7 : Int32)), (.ref b409)])) _
      refine XS.l2i X451.here hx rfl (hb hby at_164) rfl ?_
      show Steps p.tables e below (T451.setTop (mkF m 165 #[.val (.int k1), .val (.int k2), .val (.int k3), .val (.long k4), .second, .val (.int k5), .val (.int k6), .val (.int (3 : Int32)), .val (.int v18), .val (.ref b389), .val (.ref b409), .unset, .unset, .unset, .unset, .unset, .unset, .unset] [(.int ((k4 >>> ((56 : Int32) &&& 0x3f).toInt64).toInt32)), (.int (7 : Int32)), (.ref b409)])) _
      refine XS.i2b X451.here hx rfl (hb hby at_165) rfl ?_
      show Steps p.tables e below (T451.setTop (mkF m 166 #[.val (.int k1), .val (.int k2), .val (.int k3), .val (.long k4), .second, .val (.int k5), .val (.int k6), .val (.int (3 : Int32)), .val (.int v18), .val (.ref b389), .val (.ref b409), .unset, .unset, .unset, .unset, .unset, .unset, .unset] [(.int (((k4 >>> ((56 : Int32) &&& 0x3f).toInt64).toInt32).toInt8.toInt32)), (.int (7 : Int32)), (.ref b409)])) _
      refine st457 _ ?_
      show Steps p.tables e below (T457.setTop (mkF m 167 #[.val (.int k1), .val (.int k2), .val (.int k3), .val (.long k4), .second, .val (.int k5), .val (.int k6), .val (.int (3 : Int32)), .val (.int v18), .val (.ref b389), .val (.ref b409), .unset, .unset, .unset, .unset, .unset, .unset, .unset] [])) _
      refine XS.iload X457.here hx rfl (hb hby at_167) rfl ?_
      show Steps p.tables e below (T457.setTop (mkF m 169 #[.val (.int k1), .val (.int k2), .val (.int k3), .val (.long k4), .second, .val (.int k5), .val (.int k6), .val (.int (3 : Int32)), .val (.int v18), .val (.ref b389), .val (.ref b409), .unset, .unset, .unset, .unset, .unset, .unset, .unset] [(.int k6)])) _
      refine XS.iload X457.here hx rfl (hb hby at_169) rfl ?_
      show Steps p.tables e below (T457.setTop (mkF m 171 #[.val (.int k1), .val (.int k2), .val (.int k3), .val (.long k4), .second, .val (.int k5), .val (.int k6), .val (.int (3 : Int32)), .val (.int v18), .val (.ref b389), .val (.ref b409), .unset, .unset, .unset, .unset, .unset, .unset, .unset] [(.int k5), (.int k6)])) _
      refine XS.iconst X457.here hx rfl (hb hby at_171) ?_
      show Steps p.tables e below (T457.setTop (mkF m 172 #[.val (.int k1), .val (.int k2), .val (.int k3), .val (.long k4), .second, .val (.int k5), .val (.int k6), .val (.int (3 : Int32)), .val (.int v18), .val (.ref b389), .val (.ref b409), .unset, .unset, .unset, .unset, .unset, .unset, .unset] [(.int (0 : Int32)), (.int k5), (.int k6)])) _
      refine st463 _ ?_
      show Steps p.tables e below (T463.setTop (mkF m 175 #[.val (.int k1), .val (.int k2), .val (.int k3), .val (.long k4), .second, .val (.int k5), .val (.int k6), .val (.int (3 : Int32)), .val (.int v18), .val (.ref b389), .val (.ref b409), .unset, .unset, .unset, .unset, .unset, .unset, .unset] [(.int (own_f1 k6 k5 (0 : Int32)))])) _
      rw [← hr172]
      show Steps p.tables e below (T463.setTop (mkF m 175 #[.val (.int k1), .val (.int k2), .val (.int k3), .val (.long k4), .second, .val (.int k5), .val (.int k6), .val (.int (3 : Int32)), .val (.int v18), .val (.ref b389), .val (.ref b409), .unset, .unset, .unset, .unset, .unset, .unset, .unset] [(.int r172)])) _
      refine XS.istore X463.here hx rfl (hb hby at_175) rfl (l' := #[.val (.int k1), .val (.int k2), .val (.int k3), .val (.long k4), .second, .val (.int k5), .val (.int k6), .val (.int (3 : Int32)), .val (.int v18), .val (.ref b389), .val (.ref b409), .val (.int r172), .unset, .unset, .unset, .unset, .unset, .unset]) rfl ?_
      show Steps p.tables e below (T463.setTop (mkF m 177 #[.val (.int k1), .val (.int k2), .val (.int k3), .val (.long k4), .second, .val (.int k5), .val (.int k6), .val (.int (3 : Int32)), .val (.int v18), .val (.ref b389), .val (.ref b409), .val (.int r172), .unset, .unset, .unset, .unset, .unset, .unset] [])) _
      refine XS.iload X463.here hx rfl (hb hby at_177) rfl ?_
      show Steps p.tables e below (T463.setTop (mkF m 179 #[.val (.int k1), .val (.int k2), .val (.int k3), .val (.long k4), .second, .val (.int k5), .val (.int k6), .val (.int (3 : Int32)), .val (.int v18), .val (.ref b389), .val (.ref b409), .val (.int r172), .unset, .unset, .unset, .unset, .unset, .unset] [(.int k6)])) _
      refine XS.iload X463.here hx rfl (hb hby at_179) rfl ?_
      show Steps p.tables e below (T463.setTop (mkF m 181 #[.val (.int k1), .val (.int k2), .val (.int k3), .val (.long k4), .second, .val (.int k5), .val (.int k6), .val (.int (3 : Int32)), .val (.int v18), .val (.ref b389), .val (.ref b409), .val (.int r172), .unset, .unset, .unset, .unset, .unset, .unset] [(.int k5), (.int k6)])) _
      refine XS.iconst X463.here hx rfl (hb hby at_181) ?_
      show Steps p.tables e below (T463.setTop (mkF m 182 #[.val (.int k1), .val (.int k2), .val (.int k3), .val (.long k4), .second, .val (.int k5), .val (.int k6), .val (.int (3 : Int32)), .val (.int v18), .val (.ref b389), .val (.ref b409), .val (.int r172), .unset, .unset, .unset, .unset, .unset, .unset] [(.int (1 : Int32)), (.int k5), (.int k6)])) _
      refine st464 _ ?_
      show Steps p.tables e below (T464.setTop (mkF m 185 #[.val (.int k1), .val (.int k2), .val (.int k3), .val (.long k4), .second, .val (.int k5), .val (.int k6), .val (.int (3 : Int32)), .val (.int v18), .val (.ref b389), .val (.ref b409), .val (.int r172), .unset, .unset, .unset, .unset, .unset, .unset] [(.int (own_f1 k6 k5 (1 : Int32)))])) _
      rw [← hr182]
      show Steps p.tables e below (T464.setTop (mkF m 185 #[.val (.int k1), .val (.int k2), .val (.int k3), .val (.long k4), .second, .val (.int k5), .val (.int k6), .val (.int (3 : Int32)), .val (.int v18), .val (.ref b389), .val (.ref b409), .val (.int r172), .unset, .unset, .unset, .unset, .unset, .unset] [(.int r182)])) _
      refine XS.istore X464.here hx rfl (hb hby at_185) rfl (l' := #[.val (.int k1), .val (.int k2), .val (.int k3), .val (.long k4), .second, .val (.int k5), .val (.int k6), .val (.int (3 : Int32)), .val (.int v18), .val (.ref b389), .val (.ref b409), .val (.int r172), .val (.int r182), .unset, .unset, .unset, .unset, .unset]) rfl ?_
      show Steps p.tables e below (T464.setTop (mkF m 187 #[.val (.int k1), .val (.int k2), .val (.int k3), .val (.long k4), .second, .val (.int k5), .val (.int k6), .val (.int (3 : Int32)), .val (.int v18), .val (.ref b389), .val (.ref b409), .val (.int r172), .val (.int r182), .unset, .unset, .unset, .unset, .unset] [])) _
      refine XS.iload X464.here hx rfl (hb hby at_187) rfl ?_
      show Steps p.tables e below (T464.setTop (mkF m 189 #[.val (.int k1), .val (.int k2), .val (.int k3), .val (.long k4), .second, .val (.int k5), .val (.int k6), .val (.int (3 : Int32)), .val (.int v18), .val (.ref b389), .val (.ref b409), .val (.int r172), .val (.int r182), .unset, .unset, .unset, .unset, .unset] [(.int k6)])) _
      refine XS.iload X464.here hx rfl (hb hby at_189) rfl ?_
      show Steps p.tables e below (T464.setTop (mkF m 191 #[.val (.int k1), .val (.int k2), .val (.int k3), .val (.long k4), .second, .val (.int k5), .val (.int k6), .val (.int (3 : Int32)), .val (.int v18), .val (.ref b389), .val (.ref b409), .val (.int r172), .val (.int r182), .unset, .unset, .unset, .unset, .unset] [(.int k5), (.int k6)])) _
      refine XS.iconst X464.here hx rfl (hb hby at_191) ?_
      show Steps p.tables e below (T464.setTop (mkF m 192 #[.val (.int k1), .val (.int k2), .val (.int k3), .val (.long k4), .second, .val (.int k5), .val (.int k6), .val (.int (3 : Int32)), .val (.int v18), .val (.ref b389), .val (.ref b409), .val (.int r172), .val (.int r182), .unset, .unset, .unset, .unset, .unset] [(.int (2 : Int32)), (.int k5), (.int k6)])) _
      refine st465 _ ?_
      show Steps p.tables e below (T465.setTop (mkF m 195 #[.val (.int k1), .val (.int k2), .val (.int k3), .val (.long k4), .second, .val (.int k5), .val (.int k6), .val (.int (3 : Int32)), .val (.int v18), .val (.ref b389), .val (.ref b409), .val (.int r172), .val (.int r182), .unset, .unset, .unset, .unset, .unset] [(.int (own_f1 k6 k5 (2 : Int32)))])) _
      rw [← hr192]
      show Steps p.tables e below (T465.setTop (mkF m 195 #[.val (.int k1), .val (.int k2), .val (.int k3), .val (.long k4), .second, .val (.int k5), .val (.int k6), .val (.int (3 : Int32)), .val (.int v18), .val (.ref b389), .val (.ref b409), .val (.int r172), .val (.int r182), .unset, .unset, .unset, .unset, .unset] [(.int r192)])) _
      refine XS.istore X465.here hx rfl (hb hby at_195) rfl (l' := #[.val (.int k1), .val (.int k2), .val (.int k3), .val (.long k4), .second, .val (.int k5), .val (.int k6), .val (.int (3 : Int32)), .val (.int v18), .val (.ref b389), .val (.ref b409), .val (.int r172), .val (.int r182), .val (.int r192), .unset, .unset, .unset, .unset]) rfl ?_
      show Steps p.tables e below (T465.setTop (mkF m 197 #[.val (.int k1), .val (.int k2), .val (.int k3), .val (.long k4), .second, .val (.int k5), .val (.int k6), .val (.int (3 : Int32)), .val (.int v18), .val (.ref b389), .val (.ref b409), .val (.int r172), .val (.int r182), .val (.int r192), .unset, .unset, .unset, .unset] [])) _
      refine XS.iload X465.here hx rfl (hb hby at_197) rfl ?_
      show Steps p.tables e below (T465.setTop (mkF m 199 #[.val (.int k1), .val (.int k2), .val (.int k3), .val (.long k4), .second, .val (.int k5), .val (.int k6), .val (.int (3 : Int32)), .val (.int v18), .val (.ref b389), .val (.ref b409), .val (.int r172), .val (.int r182), .val (.int r192), .unset, .unset, .unset, .unset] [(.int k6)])) _
      refine XS.iload X465.here hx rfl (hb hby at_199) rfl ?_
      show Steps p.tables e below (T465.setTop (mkF m 201 #[.val (.int k1), .val (.int k2), .val (.int k3), .val (.long k4), .second, .val (.int k5), .val (.int k6), .val (.int (3 : Int32)), .val (.int v18), .val (.ref b389), .val (.ref b409), .val (.int r172), .val (.int r182), .val (.int r192), .unset, .unset, .unset, .unset] [(.int k5), (.int k6)])) _
      refine XS.iconst X465.here hx rfl (hb hby at_201) ?_
      show Steps p.tables e below (T465.setTop (mkF m 202 #[.val (.int k1), .val (.int k2), .val (.int k3), .val (.long k4), .second, .val (.int k5), .val (.int k6), .val (.int (3 : Int32)), .val (.int v18), .val (.ref b389), .val (.ref b409), .val (.int r172), .val (.int r182), .val (.int r192), .unset, .unset, .unset, .unset] [(.int (3 : Int32)), (.int k5), (.int k6)])) _
      refine st466 _ ?_
      show Steps p.tables e below (T466.setTop (mkF m 205 #[.val (.int k1), .val (.int k2), .val (.int k3), .val (.long k4), .second, .val (.int k5), .val (.int k6), .val (.int (3 : Int32)), .val (.int v18), .val (.ref b389), .val (.ref b409), .val (.int r172), .val (.int r182), .val (.int r192), .unset, .unset, .unset, .unset] [(.int (own_f1 k6 k5 (3 : Int32)))])) _
      rw [← hr202]
      show Steps p.tables e below (T466.setTop (mkF m 205 #[.val (.int k1), .val (.int k2), .val (.int k3), .val (.long k4), .second, .val (.int k5), .val (.int k6), .val (.int (3 : Int32)), .val (.int v18), .val (.ref b389), .val (.ref b409), .val (.int r172), .val (.int r182), .val (.int r192), .unset, .unset, .unset, .unset] [(.int r202)])) _
      refine XS.istore X466.here hx rfl (hb hby at_205) rfl (l' := #[.val (.int k1), .val (.int k2), .val (.int k3), .val (.long k4), .second, .val (.int k5), .val (.int k6), .val (.int (3 : Int32)), .val (.int v18), .val (.ref b389), .val (.ref b409), .val (.int r172), .val (.int r182), .val (.int r192), .val (.int r202), .unset, .unset, .unset]) rfl ?_
      show Steps p.tables e below (T466.setTop (mkF m 207 #[.val (.int k1), .val (.int k2), .val (.int k3), .val (.long k4), .second, .val (.int k5), .val (.int k6), .val (.int (3 : Int32)), .val (.int v18), .val (.ref b389), .val (.ref b409), .val (.int r172), .val (.int r182), .val (.int r192), .val (.int r202), .unset, .unset, .unset] [])) _
      refine XS.iload X466.here hx rfl (hb hby at_207) rfl ?_
      show Steps p.tables e below (T466.setTop (mkF m 209 #[.val (.int k1), .val (.int k2), .val (.int k3), .val (.long k4), .second, .val (.int k5), .val (.int k6), .val (.int (3 : Int32)), .val (.int v18), .val (.ref b389), .val (.ref b409), .val (.int r172), .val (.int r182), .val (.int r192), .val (.int r202), .unset, .unset, .unset] [(.int (3 : Int32))])) _
      refine XS.ifNo X466.here hx rfl (hb hby at_209) rfl ((if0 _ _).trans (tlt (by decide)).2.2.2) ?_
      show Steps p.tables e below (T466.setTop (mkF m 212 #[.val (.int k1), .val (.int k2), .val (.int k3), .val (.long k4), .second, .val (.int k5), .val (.int k6), .val (.int (3 : Int32)), .val (.int v18), .val (.ref b389), .val (.ref b409), .val (.int r172), .val (.int r182), .val (.int r192), .val (.int r202), .unset, .unset, .unset] [])) _
      refine XS.aload X466.here hx rfl (hb hby at_212) rfl rfl ?_
      show Steps p.tables e below (T466.setTop (mkF m 214 #[.val (.int k1), .val (.int k2), .val (.int k3), .val (.long k4), .second, .val (.int k5), .val (.int k6), .val (.int (3 : Int32)), .val (.int v18), .val (.ref b389), .val (.ref b409), .val (.int r172), .val (.int r182), .val (.int r192), .val (.int r202), .unset, .unset, .unset] [(.ref b409)])) _
      refine XS.iload X466.here hx rfl (hb hby at_214) rfl ?_
      show Steps p.tables e below (T466.setTop (mkF m 216 #[.val (.int k1), .val (.int k2), .val (.int k3), .val (.long k4), .second, .val (.int k5), .val (.int k6), .val (.int (3 : Int32)), .val (.int v18), .val (.ref b389), .val (.ref b409), .val (.int r172), .val (.int r182), .val (.int r192), .val (.int r202), .unset, .unset, .unset] [(.int v18), (.ref b409)])) _
      refine XS.aload X466.here hx rfl (hb hby at_216) rfl rfl ?_
      show Steps p.tables e below (T466.setTop (mkF m 218 #[.val (.int k1), .val (.int k2), .val (.int k3), .val (.long k4), .second, .val (.int k5), .val (.int k6), .val (.int (3 : Int32)), .val (.int v18), .val (.ref b389), .val (.ref b409), .val (.int r172), .val (.int r182), .val (.int r192), .val (.int r202), .unset, .unset, .unset] [(.ref b389), (.int v18), (.ref b409)])) _
      refine XS.iconst X466.here hx rfl (hb hby at_218) ?_
      show Steps p.tables e below (T466.setTop (mkF m 219 #[.val (.int k1), .val (.int k2), .val (.int k3), .val (.long k4), .second, .val (.int k5), .val (.int k6), .val (.int (3 : Int32)), .val (.int v18), .val (.ref b389), .val (.ref b409), .val (.int r172), .val (.int r182), .val (.int r192), .val (.int r202), .unset, .unset, .unset] [(.int (0 : Int32)), (.ref b389), (.int v18), (.ref b409)])) _
      refine X466.baloadBytes hx (j := (0 : Int32)) (v := (.int (nar .byte (k3.toInt8.toInt32)))) (heq_of e466 Ar467.1) (State.isArrayOf_alike hZ.alike Ar467.2.1) Ar467.2.2 hin467 hat467 (g := (mkF m 219 #[.val (.int k1), .val (.int k2), .val (.int k3), .val (.long k4), .second, .val (.int k5), .val (.int k6), .val (.int (3 : Int32)), .val (.int v18), .val (.ref b389), .val (.ref b409), .val (.int r172), .val (.int r182), .val (.int r192), .val (.int r202), .unset, .unset, .unset] [(.int (0 : Int32)), (.ref b389), (.int v18), (.ref b409)])) rfl rfl (hb hby at_219) _ ?_
      show Steps p.tables e below (T466.setTop (mkF m 220 #[.val (.int k1), .val (.int k2), .val (.int k3), .val (.long k4), .second, .val (.int k5), .val (.int k6), .val (.int (3 : Int32)), .val (.int v18), .val (.ref b389), .val (.ref b409), .val (.int r172), .val (.int r182), .val (.int r192), .val (.int r202), .unset, .unset, .unset] [(.int (nar .byte (k3.toInt8.toInt32))), (.int v18), (.ref b409)])) _
      refine XS.iload X466.here hx rfl (hb hby at_220) rfl ?_
      show Steps p.tables e below (T466.setTop (mkF m 222 #[.val (.int k1), .val (.int k2), .val (.int k3), .val (.long k4), .second, .val (.int k5), .val (.int k6), .val (.int (3 : Int32)), .val (.int v18), .val (.ref b389), .val (.ref b409), .val (.int r172), .val (.int r182), .val (.int r192), .val (.int r202), .unset, .unset, .unset] [(.int r172), (.int (nar .byte (k3.toInt8.toInt32))), (.int v18), (.ref b409)])) _
      refine XS.ixor X466.here hx rfl (hb hby at_222) rfl ?_
      show Steps p.tables e below (T466.setTop (mkF m 223 #[.val (.int k1), .val (.int k2), .val (.int k3), .val (.long k4), .second, .val (.int k5), .val (.int k6), .val (.int (3 : Int32)), .val (.int v18), .val (.ref b389), .val (.ref b409), .val (.int r172), .val (.int r182), .val (.int r192), .val (.int r202), .unset, .unset, .unset] [(.int ((nar .byte (k3.toInt8.toInt32)) ^^^ r172)), (.int v18), (.ref b409)])) _
      refine XS.i2b X466.here hx rfl (hb hby at_223) rfl ?_
      show Steps p.tables e below (T466.setTop (mkF m 224 #[.val (.int k1), .val (.int k2), .val (.int k3), .val (.long k4), .second, .val (.int k5), .val (.int k6), .val (.int (3 : Int32)), .val (.int v18), .val (.ref b389), .val (.ref b409), .val (.int r172), .val (.int r182), .val (.int r192), .val (.int r202), .unset, .unset, .unset] [(.int (((nar .byte (k3.toInt8.toInt32)) ^^^ r172).toInt8.toInt32)), (.int v18), (.ref b409)])) _
      refine st468 _ ?_
      show Steps p.tables e below (T468.setTop (mkF m 225 #[.val (.int k1), .val (.int k2), .val (.int k3), .val (.long k4), .second, .val (.int k5), .val (.int k6), .val (.int (3 : Int32)), .val (.int v18), .val (.ref b389), .val (.ref b409), .val (.int r172), .val (.int r182), .val (.int r192), .val (.int r202), .unset, .unset, .unset] [])) _
      refine XS.iload X468.here hx rfl (hb hby at_225) rfl ?_
      show Steps p.tables e below (T468.setTop (mkF m 227 #[.val (.int k1), .val (.int k2), .val (.int k3), .val (.long k4), .second, .val (.int k5), .val (.int k6), .val (.int (3 : Int32)), .val (.int v18), .val (.ref b389), .val (.ref b409), .val (.int r172), .val (.int r182), .val (.int r192), .val (.int r202), .unset, .unset, .unset] [(.int (3 : Int32))])) _
      refine XS.iconst X468.here hx rfl (hb hby at_227) ?_
      show Steps p.tables e below (T468.setTop (mkF m 228 #[.val (.int k1), .val (.int k2), .val (.int k3), .val (.long k4), .second, .val (.int k5), .val (.int k6), .val (.int (3 : Int32)), .val (.int v18), .val (.ref b389), .val (.ref b409), .val (.int r172), .val (.int r182), .val (.int r192), .val (.int r202), .unset, .unset, .unset] [(.int (1 : Int32)), (.int (3 : Int32))])) _
      refine XS.icmpNo X468.here hx rfl (hb hby at_228) rfl (tlt (by decide)).2.2.2 ?_
      show Steps p.tables e below (T468.setTop (mkF m 231 #[.val (.int k1), .val (.int k2), .val (.int k3), .val (.long k4), .second, .val (.int k5), .val (.int k6), .val (.int (3 : Int32)), .val (.int v18), .val (.ref b389), .val (.ref b409), .val (.int r172), .val (.int r182), .val (.int r192), .val (.int r202), .unset, .unset, .unset] [])) _
      refine XS.aload X468.here hx rfl (hb hby at_231) rfl rfl ?_
      show Steps p.tables e below (T468.setTop (mkF m 233 #[.val (.int k1), .val (.int k2), .val (.int k3), .val (.long k4), .second, .val (.int k5), .val (.int k6), .val (.int (3 : Int32)), .val (.int v18), .val (.ref b389), .val (.ref b409), .val (.int r172), .val (.int r182), .val (.int r192), .val (.int r202), .unset, .unset, .unset] [(.ref b409)])) _
      refine XS.iload X468.here hx rfl (hb hby at_233) rfl ?_
      show Steps p.tables e below (T468.setTop (mkF m 235 #[.val (.int k1), .val (.int k2), .val (.int k3), .val (.long k4), .second, .val (.int k5), .val (.int k6), .val (.int (3 : Int32)), .val (.int v18), .val (.ref b389), .val (.ref b409), .val (.int r172), .val (.int r182), .val (.int r192), .val (.int r202), .unset, .unset, .unset] [(.int v18), (.ref b409)])) _
      refine XS.iconst X468.here hx rfl (hb hby at_235) ?_
      show Steps p.tables e below (T468.setTop (mkF m 236 #[.val (.int k1), .val (.int k2), .val (.int k3), .val (.long k4), .second, .val (.int k5), .val (.int k6), .val (.int (3 : Int32)), .val (.int v18), .val (.ref b389), .val (.ref b409), .val (.int r172), .val (.int r182), .val (.int r192), .val (.int r202), .unset, .unset, .unset] [(.int (1 : Int32)), (.int v18), (.ref b409)])) _
      refine XS.iadd X468.here hx rfl (hb hby at_236) rfl ?_
      show Steps p.tables e below (T468.setTop (mkF m 237 #[.val (.int k1), .val (.int k2), .val (.int k3), .val (.long k4), .second, .val (.int k5), .val (.int k6), .val (.int (3 : Int32)), .val (.int v18), .val (.ref b389), .val (.ref b409), .val (.int r172), .val (.int r182), .val (.int r192), .val (.int r202), .unset, .unset, .unset] [(.int (v18 + (1 : Int32))), (.ref b409)])) _
      refine XS.aload X468.here hx rfl (hb hby at_237) rfl rfl ?_
      show Steps p.tables e below (T468.setTop (mkF m 239 #[.val (.int k1), .val (.int k2), .val (.int k3), .val (.long k4), .second, .val (.int k5), .val (.int k6), .val (.int (3 : Int32)), .val (.int v18), .val (.ref b389), .val (.ref b409), .val (.int r172), .val (.int r182), .val (.int r192), .val (.int r202), .unset, .unset, .unset] [(.ref b389), (.int (v18 + (1 : Int32))), (.ref b409)])) _
      refine XS.iconst X468.here hx rfl (hb hby at_239) ?_
      show Steps p.tables e below (T468.setTop (mkF m 240 #[.val (.int k1), .val (.int k2), .val (.int k3), .val (.long k4), .second, .val (.int k5), .val (.int k6), .val (.int (3 : Int32)), .val (.int v18), .val (.ref b389), .val (.ref b409), .val (.int r172), .val (.int r182), .val (.int r192), .val (.int r202), .unset, .unset, .unset] [(.int (1 : Int32)), (.ref b389), (.int (v18 + (1 : Int32))), (.ref b409)])) _
      refine X468.baloadBytes hx (j := (1 : Int32)) (v := (.int (nar .byte ((k3 >>> ((8 : Int32) &&& 31)).toInt8.toInt32)))) (heq_of e468 Ar474.1) (State.isArrayOf_alike hZ.alike Ar474.2.1) Ar474.2.2 hin474 hat474 (g := (mkF m 240 #[.val (.int k1), .val (.int k2), .val (.int k3), .val (.long k4), .second, .val (.int k5), .val (.int k6), .val (.int (3 : Int32)), .val (.int v18), .val (.ref b389), .val (.ref b409), .val (.int r172), .val (.int r182), .val (.int r192), .val (.int r202), .unset, .unset, .unset] [(.int (1 : Int32)), (.ref b389), (.int (v18 + (1 : Int32))), (.ref b409)])) rfl rfl (hb hby at_240) _ ?_
      show Steps p.tables e below (T468.setTop (mkF m 241 #[.val (.int k1), .val (.int k2), .val (.int k3), .val (.long k4), .second, .val (.int k5), .val (.int k6), .val (.int (3 : Int32)), .val (.int v18), .val (.ref b389), .val (.ref b409), .val (.int r172), .val (.int r182), .val (.int r192), .val (.int r202), .unset, .unset, .unset] [(.int (nar .byte ((k3 >>> ((8 : Int32) &&& 31)).toInt8.toInt32))), (.int (v18 + (1 : Int32))), (.ref b409)])) _
      refine XS.iload X468.here hx rfl (hb hby at_241) rfl ?_
      show Steps p.tables e below (T468.setTop (mkF m 243 #[.val (.int k1), .val (.int k2), .val (.int k3), .val (.long k4), .second, .val (.int k5), .val (.int k6), .val (.int (3 : Int32)), .val (.int v18), .val (.ref b389), .val (.ref b409), .val (.int r172), .val (.int r182), .val (.int r192), .val (.int r202), .unset, .unset, .unset] [(.int r182), (.int (nar .byte ((k3 >>> ((8 : Int32) &&& 31)).toInt8.toInt32))), (.int (v18 + (1 : Int32))), (.ref b409)])) _
      refine XS.ixor X468.here hx rfl (hb hby at_243) rfl ?_
      show Steps p.tables e below (T468.setTop (mkF m 244 #[.val (.int k1), .val (.int k2), .val (.int k3), .val (.long k4), .second, .val (.int k5), .val (.int k6), .val (.int (3 : Int32)), .val (.int v18), .val (.ref b389), .val (.ref b409), .val (.int r172), .val (.int r182), .val (.int r192), .val (.int r202), .unset, .unset, .unset] [(.int ((nar .byte ((k3 >>> ((8 : Int32) &&& 31)).toInt8.toInt32)) ^^^ r182)), (.int (v18 + (1 : Int32))), (.ref b409)])) _
      refine XS.i2b X468.here hx rfl (hb hby at_244) rfl ?_
      show Steps p.tables e below (T468.setTop (mkF m 245 #[.val (.int k1), .val (.int k2), .val (.int k3), .val (.long k4), .second, .val (.int k5), .val (.int k6), .val (.int (3 : Int32)), .val (.int v18), .val (.ref b389), .val (.ref b409), .val (.int r172), .val (.int r182), .val (.int r192), .val (.int r202), .unset, .unset, .unset] [(.int (((nar .byte ((k3 >>> ((8 : Int32) &&& 31)).toInt8.toInt32)) ^^^ r182).toInt8.toInt32)), (.int (v18 + (1 : Int32))), (.ref b409)])) _
      refine st475 _ ?_
      show Steps p.tables e below (T475.setTop (mkF m 246 #[.val (.int k1), .val (.int k2), .val (.int k3), .val (.long k4), .second, .val (.int k5), .val (.int k6), .val (.int (3 : Int32)), .val (.int v18), .val (.ref b389), .val (.ref b409), .val (.int r172), .val (.int r182), .val (.int r192), .val (.int r202), .unset, .unset, .unset] [])) _
      refine XS.iload X475.here hx rfl (hb hby at_246) rfl ?_
      show Steps p.tables e below (T475.setTop (mkF m 248 #[.val (.int k1), .val (.int k2), .val (.int k3), .val (.long k4), .second, .val (.int k5), .val (.int k6), .val (.int (3 : Int32)), .val (.int v18), .val (.ref b389), .val (.ref b409), .val (.int r172), .val (.int r182), .val (.int r192), .val (.int r202), .unset, .unset, .unset] [(.int (3 : Int32))])) _
      refine XS.iconst X475.here hx rfl (hb hby at_248) ?_
      show Steps p.tables e below (T475.setTop (mkF m 249 #[.val (.int k1), .val (.int k2), .val (.int k3), .val (.long k4), .second, .val (.int k5), .val (.int k6), .val (.int (3 : Int32)), .val (.int v18), .val (.ref b389), .val (.ref b409), .val (.int r172), .val (.int r182), .val (.int r192), .val (.int r202), .unset, .unset, .unset] [(.int (2 : Int32)), (.int (3 : Int32))])) _
      refine XS.icmpNo X475.here hx rfl (hb hby at_249) rfl (tlt (by decide)).2.2.2 ?_
      show Steps p.tables e below (T475.setTop (mkF m 252 #[.val (.int k1), .val (.int k2), .val (.int k3), .val (.long k4), .second, .val (.int k5), .val (.int k6), .val (.int (3 : Int32)), .val (.int v18), .val (.ref b389), .val (.ref b409), .val (.int r172), .val (.int r182), .val (.int r192), .val (.int r202), .unset, .unset, .unset] [])) _
      refine XS.aload X475.here hx rfl (hb hby at_252) rfl rfl ?_
      show Steps p.tables e below (T475.setTop (mkF m 254 #[.val (.int k1), .val (.int k2), .val (.int k3), .val (.long k4), .second, .val (.int k5), .val (.int k6), .val (.int (3 : Int32)), .val (.int v18), .val (.ref b389), .val (.ref b409), .val (.int r172), .val (.int r182), .val (.int r192), .val (.int r202), .unset, .unset, .unset] [(.ref b409)])) _
      refine XS.iload X475.here hx rfl (hb hby at_254) rfl ?_
      show Steps p.tables e below (T475.setTop (mkF m 256 #[.val (.int k1), .val (.int k2), .val (.int k3), .val (.long k4), .second, .val (.int k5), .val (.int k6), .val (.int (3 : Int32)), .val (.int v18), .val (.ref b389), .val (.ref b409), .val (.int r172), .val (.int r182), .val (.int r192), .val (.int r202), .unset, .unset, .unset] [(.int v18), (.ref b409)])) _
      refine XS.iconst X475.here hx rfl (hb hby at_256) ?_
      show Steps p.tables e below (T475.setTop (mkF m 257 #[.val (.int k1), .val (.int k2), .val (.int k3), .val (.long k4), .second, .val (.int k5), .val (.int k6), .val (.int (3 : Int32)), .val (.int v18), .val (.ref b389), .val (.ref b409), .val (.int r172), .val (.int r182), .val (.int r192), .val (.int r202), .unset, .unset, .unset] [(.int (2 : Int32)), (.int v18), (.ref b409)])) _
      refine XS.iadd X475.here hx rfl (hb hby at_257) rfl ?_
      show Steps p.tables e below (T475.setTop (mkF m 258 #[.val (.int k1), .val (.int k2), .val (.int k3), .val (.long k4), .second, .val (.int k5), .val (.int k6), .val (.int (3 : Int32)), .val (.int v18), .val (.ref b389), .val (.ref b409), .val (.int r172), .val (.int r182), .val (.int r192), .val (.int r202), .unset, .unset, .unset] [(.int (v18 + (2 : Int32))), (.ref b409)])) _
      refine XS.aload X475.here hx rfl (hb hby at_258) rfl rfl ?_
      show Steps p.tables e below (T475.setTop (mkF m 260 #[.val (.int k1), .val (.int k2), .val (.int k3), .val (.long k4), .second, .val (.int k5), .val (.int k6), .val (.int (3 : Int32)), .val (.int v18), .val (.ref b389), .val (.ref b409), .val (.int r172), .val (.int r182), .val (.int r192), .val (.int r202), .unset, .unset, .unset] [(.ref b389), (.int (v18 + (2 : Int32))), (.ref b409)])) _
      refine XS.iconst X475.here hx rfl (hb hby at_260) ?_
      show Steps p.tables e below (T475.setTop (mkF m 261 #[.val (.int k1), .val (.int k2), .val (.int k3), .val (.long k4), .second, .val (.int k5), .val (.int k6), .val (.int (3 : Int32)), .val (.int v18), .val (.ref b389), .val (.ref b409), .val (.int r172), .val (.int r182), .val (.int r192), .val (.int r202), .unset, .unset, .unset] [(.int (2 : Int32)), (.ref b389), (.int (v18 + (2 : Int32))), (.ref b409)])) _
      refine X475.baloadBytes hx (j := (2 : Int32)) (v := (.int (nar .byte ((k3 >>> ((16 : Int32) &&& 31)).toInt8.toInt32)))) (heq_of e475 Ar481.1) (State.isArrayOf_alike hZ.alike Ar481.2.1) Ar481.2.2 hin481 hat481 (g := (mkF m 261 #[.val (.int k1), .val (.int k2), .val (.int k3), .val (.long k4), .second, .val (.int k5), .val (.int k6), .val (.int (3 : Int32)), .val (.int v18), .val (.ref b389), .val (.ref b409), .val (.int r172), .val (.int r182), .val (.int r192), .val (.int r202), .unset, .unset, .unset] [(.int (2 : Int32)), (.ref b389), (.int (v18 + (2 : Int32))), (.ref b409)])) rfl rfl (hb hby at_261) _ ?_
      show Steps p.tables e below (T475.setTop (mkF m 262 #[.val (.int k1), .val (.int k2), .val (.int k3), .val (.long k4), .second, .val (.int k5), .val (.int k6), .val (.int (3 : Int32)), .val (.int v18), .val (.ref b389), .val (.ref b409), .val (.int r172), .val (.int r182), .val (.int r192), .val (.int r202), .unset, .unset, .unset] [(.int (nar .byte ((k3 >>> ((16 : Int32) &&& 31)).toInt8.toInt32))), (.int (v18 + (2 : Int32))), (.ref b409)])) _
      refine XS.iload X475.here hx rfl (hb hby at_262) rfl ?_
      show Steps p.tables e below (T475.setTop (mkF m 264 #[.val (.int k1), .val (.int k2), .val (.int k3), .val (.long k4), .second, .val (.int k5), .val (.int k6), .val (.int (3 : Int32)), .val (.int v18), .val (.ref b389), .val (.ref b409), .val (.int r172), .val (.int r182), .val (.int r192), .val (.int r202), .unset, .unset, .unset] [(.int r192), (.int (nar .byte ((k3 >>> ((16 : Int32) &&& 31)).toInt8.toInt32))), (.int (v18 + (2 : Int32))), (.ref b409)])) _
      refine XS.ixor X475.here hx rfl (hb hby at_264) rfl ?_
      show Steps p.tables e below (T475.setTop (mkF m 265 #[.val (.int k1), .val (.int k2), .val (.int k3), .val (.long k4), .second, .val (.int k5), .val (.int k6), .val (.int (3 : Int32)), .val (.int v18), .val (.ref b389), .val (.ref b409), .val (.int r172), .val (.int r182), .val (.int r192), .val (.int r202), .unset, .unset, .unset] [(.int ((nar .byte ((k3 >>> ((16 : Int32) &&& 31)).toInt8.toInt32)) ^^^ r192)), (.int (v18 + (2 : Int32))), (.ref b409)])) _
      refine XS.i2b X475.here hx rfl (hb hby at_265) rfl ?_
      show Steps p.tables e below (T475.setTop (mkF m 266 #[.val (.int k1), .val (.int k2), .val (.int k3), .val (.long k4), .second, .val (.int k5), .val (.int k6), .val (.int (3 : Int32)), .val (.int v18), .val (.ref b389), .val (.ref b409), .val (.int r172), .val (.int r182), .val (.int r192), .val (.int r202), .unset, .unset, .unset] [(.int (((nar .byte ((k3 >>> ((16 : Int32) &&& 31)).toInt8.toInt32)) ^^^ r192).toInt8.toInt32)), (.int (v18 + (2 : Int32))), (.ref b409)])) _
      refine st482 _ ?_
      show Steps p.tables e below (T482.setTop (mkF m 267 #[.val (.int k1), .val (.int k2), .val (.int k3), .val (.long k4), .second, .val (.int k5), .val (.int k6), .val (.int (3 : Int32)), .val (.int v18), .val (.ref b389), .val (.ref b409), .val (.int r172), .val (.int r182), .val (.int r192), .val (.int r202), .unset, .unset, .unset] [])) _
      refine XS.iload X482.here hx rfl (hb hby at_267) rfl ?_
      show Steps p.tables e below (T482.setTop (mkF m 269 #[.val (.int k1), .val (.int k2), .val (.int k3), .val (.long k4), .second, .val (.int k5), .val (.int k6), .val (.int (3 : Int32)), .val (.int v18), .val (.ref b389), .val (.ref b409), .val (.int r172), .val (.int r182), .val (.int r192), .val (.int r202), .unset, .unset, .unset] [(.int (3 : Int32))])) _
      refine XS.iconst X482.here hx rfl (hb hby at_269) ?_
      show Steps p.tables e below (T482.setTop (mkF m 270 #[.val (.int k1), .val (.int k2), .val (.int k3), .val (.long k4), .second, .val (.int k5), .val (.int k6), .val (.int (3 : Int32)), .val (.int v18), .val (.ref b389), .val (.ref b409), .val (.int r172), .val (.int r182), .val (.int r192), .val (.int r202), .unset, .unset, .unset] [(.int (3 : Int32)), (.int (3 : Int32))])) _
      refine XS.icmpYes X482.here hx rfl (pc0 := 270) (pc' := 288) rfl (hb hby at_270) rfl (flt (by decide)).2.2.2 (by decide) (by decide) ?_
      show Steps p.tables e below (T482.setTop (mkF m 288 #[.val (.int k1), .val (.int k2), .val (.int k3), .val (.long k4), .second, .val (.int k5), .val (.int k6), .val (.int (3 : Int32)), .val (.int v18), .val (.ref b389), .val (.ref b409), .val (.int r172), .val (.int r182), .val (.int r192), .val (.int r202), .unset, .unset, .unset] [])) _
      refine XS.iload X482.here hx rfl (hb hby at_288) rfl ?_
      show Steps p.tables e below (T482.setTop (mkF m 290 #[.val (.int k1), .val (.int k2), .val (.int k3), .val (.long k4), .second, .val (.int k5), .val (.int k6), .val (.int (3 : Int32)), .val (.int v18), .val (.ref b389), .val (.ref b409), .val (.int r172), .val (.int r182), .val (.int r192), .val (.int r202), .unset, .unset, .unset] [(.int (3 : Int32))])) _
      refine XS.iconst X482.here hx rfl (hb hby at_290) ?_
      show Steps p.tables e below (T482.setTop (mkF m 291 #[.val (.int k1), .val (.int k2), .val (.int k3), .val (.long k4), .second, .val (.int k5), .val (.int k6), .val (.int (3 : Int32)), .val (.int v18), .val (.ref b389), .val (.ref b409), .val (.int r172), .val (.int r182), .val (.int r192), .val (.int r202), .unset, .unset, .unset] [(.int (1 : Int32)), (.int (3 : Int32))])) _
      refine XS.icmpNo X482.here hx rfl (hb hby at_291) rfl (flt (by decide)).1 ?_
      show Steps p.tables e below (T482.setTop (mkF m 294 #[.val (.int k1), .val (.int k2), .val (.int k3), .val (.long k4), .second, .val (.int k5), .val (.int k6), .val (.int (3 : Int32)), .val (.int v18), .val (.ref b389), .val (.ref b409), .val (.int r172), .val (.int r182), .val (.int r192), .val (.int r202), .unset, .unset, .unset] [])) _
      refine XS.iload X482.here hx rfl (hb hby at_294) rfl ?_
      by_cases d488 : r172 = (0 : Int32)
      · skip
        show Steps p.tables e below (T482.setTop (mkF m 296 #[.val (.int k1), .val (.int k2), .val (.int k3), .val (.long k4), .second, .val (.int k5), .val (.int k6), .val (.int (3 : Int32)), .val (.int v18), .val (.ref b389), .val (.ref b409), .val (.int r172), .val (.int r182), .val (.int r192), .val (.int r202), .unset, .unset, .unset] [(.int r172)])) _
        refine XS.ifNo X482.here hx rfl (hb hby at_296) rfl ((if0 _ _).trans (teq d488).2) ?_
        show Steps p.tables e below (T482.setTop (mkF m 299 #[.val (.int k1), .val (.int k2), .val (.int k3), .val (.long k4), .second, .val (.int k5), .val (.int k6), .val (.int (3 : Int32)), .val (.int v18), .val (.ref b389), .val (.ref b409), .val (.int r172), .val (.int r182), .val (.int r192), .val (.int r202), .unset, .unset, .unset] [])) _
        refine XS.iload X482.here hx rfl (hb hby at_299) rfl ?_
        show Steps p.tables e below (T482.setTop (mkF m 301 #[.val (.int k1), .val (.int k2), .val (.int k3), .val (.long k4), .second, .val (.int k5), .val (.int k6), .val (.int (3 : Int32)), .val (.int v18), .val (.ref b389), .val (.ref b409), .val (.int r172), .val (.int r182), .val (.int r192), .val (.int r202), .unset, .unset, .unset] [(.int (3 : Int32))])) _
        refine XS.iconst X482.here hx rfl (hb hby at_301) ?_
        show Steps p.tables e below (T482.setTop (mkF m 302 #[.val (.int k1), .val (.int k2), .val (.int k3), .val (.long k4), .second, .val (.int k5), .val (.int k6), .val (.int (3 : Int32)), .val (.int v18), .val (.ref b389), .val (.ref b409), .val (.int r172), .val (.int r182), .val (.int r192), .val (.int r202), .unset, .unset, .unset] [(.int (2 : Int32)), (.int (3 : Int32))])) _
        refine XS.icmpNo X482.here hx rfl (hb hby at_302) rfl (flt (by decide)).1 ?_
        show Steps p.tables e below (T482.setTop (mkF m 305 #[.val (.int k1), .val (.int k2), .val (.int k3), .val (.long k4), .second, .val (.int k5), .val (.int k6), .val (.int (3 : Int32)), .val (.int v18), .val (.ref b389), .val (.ref b409), .val (.int r172), .val (.int r182), .val (.int r192), .val (.int r202), .unset, .unset, .unset] [])) _
        refine XS.iload X482.here hx rfl (hb hby at_305) rfl ?_
        by_cases d489 : r182 = (0 : Int32)
        · skip
          show Steps p.tables e below (T482.setTop (mkF m 307 #[.val (.int k1), .val (.int k2), .val (.int k3), .val (.long k4), .second, .val (.int k5), .val (.int k6), .val (.int (3 : Int32)), .val (.int v18), .val (.ref b389), .val (.ref b409), .val (.int r172), .val (.int r182), .val (.int r192), .val (.int r202), .unset, .unset, .unset] [(.int r182)])) _
          refine XS.ifNo X482.here hx rfl (hb hby at_307) rfl ((if0 _ _).trans (teq d489).2) ?_
          show Steps p.tables e below (T482.setTop (mkF m 310 #[.val (.int k1), .val (.int k2), .val (.int k3), .val (.long k4), .second, .val (.int k5), .val (.int k6), .val (.int (3 : Int32)), .val (.int v18), .val (.ref b389), .val (.ref b409), .val (.int r172), .val (.int r182), .val (.int r192), .val (.int r202), .unset, .unset, .unset] [])) _
          refine XS.iload X482.here hx rfl (hb hby at_310) rfl ?_
          show Steps p.tables e below (T482.setTop (mkF m 312 #[.val (.int k1), .val (.int k2), .val (.int k3), .val (.long k4), .second, .val (.int k5), .val (.int k6), .val (.int (3 : Int32)), .val (.int v18), .val (.ref b389), .val (.ref b409), .val (.int r172), .val (.int r182), .val (.int r192), .val (.int r202), .unset, .unset, .unset] [(.int (3 : Int32))])) _
          refine XS.iconst X482.here hx rfl (hb hby at_312) ?_
          show Steps p.tables e below (T482.setTop (mkF m 313 #[.val (.int k1), .val (.int k2), .val (.int k3), .val (.long k4), .second, .val (.int k5), .val (.int k6), .val (.int (3 : Int32)), .val (.int v18), .val (.ref b389), .val (.ref b409), .val (.int r172), .val (.int r182), .val (.int r192), .val (.int r202), .unset, .unset, .unset] [(.int (3 : Int32)), (.int (3 : Int32))])) _
          refine XS.icmpNo X482.here hx rfl (hb hby at_313) rfl (flt (by decide)).1 ?_
          show Steps p.tables e below (T482.setTop (mkF m 316 #[.val (.int k1), .val (.int k2), .val (.int k3), .val (.long k4), .second, .val (.int k5), .val (.int k6), .val (.int (3 : Int32)), .val (.int v18), .val (.ref b389), .val (.ref b409), .val (.int r172), .val (.int r182), .val (.int r192), .val (.int r202), .unset, .unset, .unset] [])) _
          refine XS.iload X482.here hx rfl (hb hby at_316) rfl ?_
          by_cases d490 : r192 = (0 : Int32)
          · skip
            show Steps p.tables e below (T482.setTop (mkF m 318 #[.val (.int k1), .val (.int k2), .val (.int k3), .val (.long k4), .second, .val (.int k5), .val (.int k6), .val (.int (3 : Int32)), .val (.int v18), .val (.ref b389), .val (.ref b409), .val (.int r172), .val (.int r182), .val (.int r192), .val (.int r202), .unset, .unset, .unset] [(.int r192)])) _
            refine XS.ifNo X482.here hx rfl (hb hby at_318) rfl ((if0 _ _).trans (teq d490).2) ?_
            show Steps p.tables e below (T482.setTop (mkF m 321 #[.val (.int k1), .val (.int k2), .val (.int k3), .val (.long k4), .second, .val (.int k5), .val (.int k6), .val (.int (3 : Int32)), .val (.int v18), .val (.ref b389), .val (.ref b409), .val (.int r172), .val (.int r182), .val (.int r192), .val (.int r202), .unset, .unset, .unset] [])) _
            refine XS.iload X482.here hx rfl (hb hby at_321) rfl ?_
            show Steps p.tables e below (T482.setTop (mkF m 323 #[.val (.int k1), .val (.int k2), .val (.int k3), .val (.long k4), .second, .val (.int k5), .val (.int k6), .val (.int (3 : Int32)), .val (.int v18), .val (.ref b389), .val (.ref b409), .val (.int r172), .val (.int r182), .val (.int r192), .val (.int r202), .unset, .unset, .unset] [(.int (3 : Int32))])) _
            refine XS.iconst X482.here hx rfl (hb hby at_323) ?_
            show Steps p.tables e below (T482.setTop (mkF m 324 #[.val (.int k1), .val (.int k2), .val (.int k3), .val (.long k4), .second, .val (.int k5), .val (.int k6), .val (.int (3 : Int32)), .val (.int v18), .val (.ref b389), .val (.ref b409), .val (.int r172), .val (.int r182), .val (.int r192), .val (.int r202), .unset, .unset, .unset] [(.int (4 : Int32)), (.int (3 : Int32))])) _
            refine XS.icmpYes X482.here hx rfl (pc0 := 324) (pc' := 332) rfl (hb hby at_324) rfl (tlt (by decide)).1 (by decide) (by decide) ?_
            show Steps p.tables e below (T482.setTop (mkF m 332 #[.val (.int k1), .val (.int k2), .val (.int k3), .val (.long k4), .second, .val (.int k5), .val (.int k6), .val (.int (3 : Int32)), .val (.int v18), .val (.ref b389), .val (.ref b409), .val (.int r172), .val (.int r182), .val (.int r192), .val (.int r202), .unset, .unset, .unset] [])) _
            refine XS.iconst X482.here hx rfl (hb hby at_332) ?_
            show Steps p.tables e below (T482.setTop (mkF m 333 #[.val (.int k1), .val (.int k2), .val (.int k3), .val (.long k4), .second, .val (.int k5), .val (.int k6), .val (.int (3 : Int32)), .val (.int v18), .val (.ref b389), .val (.ref b409), .val (.int r172), .val (.int r182), .val (.int r192), .val (.int r202), .unset, .unset, .unset] [(.int (1 : Int32))])) _
            refine XS.goto X482.here hx rfl (pc0 := 333) (pc' := 337) rfl (hb hby at_333) (by decide) (by decide) ?_
            show Steps p.tables e below (T482.setTop (mkF m 337 #[.val (.int k1), .val (.int k2), .val (.int k3), .val (.long k4), .second, .val (.int k5), .val (.int k6), .val (.int (3 : Int32)), .val (.int v18), .val (.ref b389), .val (.ref b409), .val (.int r172), .val (.int r182), .val (.int r192), .val (.int r202), .unset, .unset, .unset] [(.int (1 : Int32))])) _
            exact castTop (by simp only [hm337, if_pos d488, if_pos d489, if_pos d490]) kt
          · skip
            show Steps p.tables e below (T482.setTop (mkF m 318 #[.val (.int k1), .val (.int k2), .val (.int k3), .val (.long k4), .second, .val (.int k5), .val (.int k6), .val (.int (3 : Int32)), .val (.int v18), .val (.ref b389), .val (.ref b409), .val (.int r172), .val (.int r182), .val (.int r192), .val (.int r202), .unset, .unset, .unset] [(.int r192)])) _
            refine XS.ifYes X482.here hx rfl (pc0 := 318) (pc' := 336) rfl (hb hby at_318) rfl ((if0 _ _).trans (feq d490).2) (by decide) (by decide) ?_
            show Steps p.tables e below (T482.setTop (mkF m 336 #[.val (.int k1), .val (.int k2), .val (.int k3), .val (.long k4), .second, .val (.int k5), .val (.int k6), .val (.int (3 : Int32)), .val (.int v18), .val (.ref b389), .val (.ref b409), .val (.int r172), .val (.int r182), .val (.int r192), .val (.int r202), .unset, .unset, .unset] [])) _
            refine XS.iconst X482.here hx rfl (hb hby at_336) ?_
            show Steps p.tables e below (T482.setTop (mkF m 337 #[.val (.int k1), .val (.int k2), .val (.int k3), .val (.long k4), .second, .val (.int k5), .val (.int k6), .val (.int (3 : Int32)), .val (.int v18), .val (.ref b389), .val (.ref b409), .val (.int r172), .val (.int r182), .val (.int r192), .val (.int r202), .unset, .unset, .unset] [(.int (0 : Int32))])) _
            exact castTop (by simp only [hm337, if_pos d488, if_pos d489, if_neg d490]) kt
        · skip
          show Steps p.tables e below (T482.setTop (mkF m 307 #[.val (.int k1), .val (.int k2), .val (.int k3), .val (.long k4), .second, .val (.int k5), .val (.int k6), .val (.int (3 : Int32)), .val (.int v18), .val (.ref b389), .val (.ref b409), .val (.int r172), .val (.int r182), .val (.int r192), .val (.int r202), .unset, .unset, .unset] [(.int r182)])) _
          refine XS.ifYes X482.here hx rfl (pc0 := 307) (pc' := 336) rfl (hb hby at_307) rfl ((if0 _ _).trans (feq d489).2) (by decide) (by decide) ?_
          show Steps p.tables e below (T482.setTop (mkF m 336 #[.val (.int k1), .val (.int k2), .val (.int k3), .val (.long k4), .second, .val (.int k5), .val (.int k6), .val (.int (3 : Int32)), .val (.int v18), .val (.ref b389), .val (.ref b409), .val (.int r172), .val (.int r182), .val (.int r192), .val (.int r202), .unset, .unset, .unset] [])) _
          refine XS.iconst X482.here hx rfl (hb hby at_336) ?_
          show Steps p.tables e below (T482.setTop (mkF m 337 #[.val (.int k1), .val (.int k2), .val (.int k3), .val (.long k4), .second, .val (.int k5), .val (.int k6), .val (.int (3 : Int32)), .val (.int v18), .val (.ref b389), .val (.ref b409), .val (.int r172), .val (.int r182), .val (.int r192), .val (.int r202), .unset, .unset, .unset] [(.int (0 : Int32))])) _
          exact castTop (by simp only [hm337, if_pos d488, if_neg d489]) kt
      · skip
        show Steps p.tables e below (T482.setTop (mkF m 296 #[.val (.int k1), .val (.int k2), .val (.int k3), .val (.long k4), .second, .val (.int k5), .val (.int k6), .val (.int (3 : Int32)), .val (.int v18), .val (.ref b389), .val (.ref b409), .val (.int r172), .val (.int r182), .val (.int r192), .val (.int r202), .unset, .unset, .unset] [(.int r172)])) _
        refine XS.ifYes X482.here hx rfl (pc0 := 296) (pc' := 336) rfl (hb hby at_296) rfl ((if0 _ _).trans (feq d488).2) (by decide) (by decide) ?_
        show Steps p.tables e below (T482.setTop (mkF m 336 #[.val (.int k1), .val (.int k2), .val (.int k3), .val (.long k4), .second, .val (.int k5), .val (.int k6), .val (.int (3 : Int32)), .val (.int v18), .val (.ref b389), .val (.ref b409), .val (.int r172), .val (.int r182), .val (.int r192), .val (.int r202), .unset, .unset, .unset] [])) _
        refine XS.iconst X482.here hx rfl (hb hby at_336) ?_
        show Steps p.tables e below (T482.setTop (mkF m 337 #[.val (.int k1), .val (.int k2), .val (.int k3), .val (.long k4), .second, .val (.int k5), .val (.int k6), .val (.int (3 : Int32)), .val (.int v18), .val (.ref b389), .val (.ref b409), .val (.int r172), .val (.int r182), .val (.int r192), .val (.int r202), .unset, .unset, .unset] [(.int (0 : Int32))])) _
        exact castTop (by simp only [hm337, if_neg d488]) kt
    obtain ⟨T492, hX492, X492, e492, E492, A492, D492, -, st492⟩ := newO X482 hx hZ hown (hw _ (List.mem_of_getElem? (i := 6) rfl)) (hw _ (List.mem_of_getElem? (i := 7) rfl)) (hw _ (List.mem_of_getElem? (i := 8) rfl)) e482 (g := (mkF m 339 #[.val (.int k1), .val (.int k2), .val (.int k3), .val (.long k4), .second, .val (.int k5), .val (.int k6), .val (.int (3 : Int32)), .val (.int v18), .val (.ref b389), .val (.ref b409), .val (.int r172), .val (.int r182), .val (.int r192), .val (.int r202), .val (.int m337), .unset, .unset] [])) rfl (hb hby at_339) (by decide) (by decide)
    obtain ⟨b492, g492⟩ : ∃ z_q, z_q = hX482.size := ⟨_, rfl⟩
    rw [← g492] at A492 D492 st492
    have g_b492 : n0 ≤ b492 := Nat.le_trans Z485 (Nat.le_of_eq g492.symm)
    have sz_b492 : h0.size ≤ b492 := Nat.le_trans K487.1 (Nat.le_of_eq g492.symm)
    have ne_b389_b492 : b389 ≠ b492 := Nat.ne_of_lt (Nat.lt_of_lt_of_le F484.lt (Nat.le_of_eq g492.symm))
    have ne_b409_b492 : b409 ≠ b492 := Nat.ne_of_lt (Nat.lt_of_lt_of_le F483.lt (Nat.le_of_eq g492.symm))
    have F493 : Arv Z hX492 b389 kx389 .byte (3 : Int32) [(.int (nar .byte (k3.toInt8.toInt32))), (.int (nar .byte ((k3 >>> ((8 : Int32) &&& 31)).toInt8.toInt32))), (.int (nar .byte ((k3 >>> ((16 : Int32) &&& 31)).toInt8.toInt32)))] (.int (0 : Int32)) := F484.ext E492
    have F494 : Arh Z hX492 b409 kx409 .byte (8 : Int32) [((v18 + (2 : Int32)), (.int (nar .byte (((nar .byte ((k3 >>> ((16 : Int32) &&& 31)).toInt8.toInt32)) ^^^ r192).toInt8.toInt32)))), ((v18 + (1 : Int32)), (.int (nar .byte (((nar .byte ((k3 >>> ((8 : Int32) &&& 31)).toInt8.toInt32)) ^^^ r182).toInt8.toInt32)))), (v18, (.int (nar .byte (((nar .byte (k3.toInt8.toInt32)) ^^^ r172).toInt8.toInt32))))] [(.int (nar .byte ((k4.toInt32).toInt8.toInt32))), (.int (nar .byte (((k4 >>> ((8 : Int32) &&& 0x3f).toInt64).toInt32).toInt8.toInt32))), (.int (nar .byte (((k4 >>> ((16 : Int32) &&& 0x3f).toInt64).toInt32).toInt8.toInt32))), (.int (nar .byte (((k4 >>> ((24 : Int32) &&& 0x3f).toInt64).toInt32).toInt8.toInt32))), (.int (nar .byte (((k4 >>> ((32 : Int32) &&& 0x3f).toInt64).toInt32).toInt8.toInt32))), (.int (nar .byte (((k4 >>> ((40 : Int32) &&& 0x3f).toInt64).toInt32).toInt8.toInt32))), (.int (nar .byte (((k4 >>> ((48 : Int32) &&& 0x3f).toInt64).toInt32).toInt8.toInt32))), (.int (nar .byte (((k4 >>> ((56 : Int32) &&& 0x3f).toInt64).toInt32).toInt8.toInt32)))] (.int (0 : Int32)) := F483.ext E492
    have Z495 : n0 ≤ hX492.size := Nat.le_trans Z485 E492.1
    have hk496 := Nat.le_trans hk486 (show _ ≤ hX492.size from E492.1)
    have K497 : Keep h0 hX492 [] := K487.ext E492
    have F498 : Fld Z hX492 b492 "com/example/marcotte/marcotte/XmlNames$Name" "qualified" "Ljava/lang/String;" .null := D492 (Or.inr (hw _ (List.mem_of_getElem? (i := 28) rfl))) (ty := (.object "java/lang/String")) (by decide)
    have F499 : Fld Z hX492 b492 "com/example/marcotte/marcotte/XmlNames$Name" "prefix" "Ljava/lang/String;" .null := D492 (Or.inr (hw _ (List.mem_of_getElem? (i := 30) rfl))) (ty := (.object "java/lang/String")) (by decide)
    have F500 : Fld Z hX492 b492 "com/example/marcotte/marcotte/XmlNames$Name" "local" "Ljava/lang/String;" .null := D492 (Or.inr (hw _ (List.mem_of_getElem? (i := 32) rfl))) (ty := (.object "java/lang/String")) (by decide)
    have F501 : Fld Z hX492 b492 "com/example/marcotte/marcotte/XmlNames$Name" "bytes" "[B" .null := D492 (Or.inr (hw _ (List.mem_of_getElem? (i := 34) rfl))) (ty := (.array .byte)) (by decide)
    have F502 : Fld Z hX492 b492 "com/example/marcotte/marcotte/XmlNames$Name" "hash" "I" (.int (0 : Int32)) := D492 (Or.inr (hw _ (List.mem_of_getElem? (i := 36) rfl))) (ty := .int) (by decide)
    have F503 : Fld Z hX492 b492 "com/example/marcotte/marcotte/XmlNames$Name" "declaresNamespace" "Z" (.int (0 : Int32)) := D492 (Or.inr (hw _ (List.mem_of_getElem? (i := 38) rfl))) (ty := .boolean) (by decide)
    have pre504 : ∀ tq, Steps p.tables e below (T492.setTop (mkF m 343 #[.val (.int k1), .val (.int k2), .val (.int k3), .val (.long k4), .second, .val (.int k5), .val (.int k6), .val (.int (3 : Int32)), .val (.int v18), .val (.ref b389), .val (.ref b409), .val (.int r172), .val (.int r182), .val (.int r192), .val (.int r202), .val (.int m337), .unset, .unset] [(.ref b492), (.ref b492)])) tq → Steps p.tables e below (s₁.setTop (entryFrame m #[(.int k1), (.int k2), (.int k3), (.long k4), (.int k5), (.int k6)] maxLocals)) tq := by
      intro tq kt
      refine pre491 _ ?_
      show Steps p.tables e below (T482.setTop (mkF m 337 #[.val (.int k1), .val (.int k2), .val (.int k3), .val (.long k4), .second, .val (.int k5), .val (.int k6), .val (.int (3 : Int32)), .val (.int v18), .val (.ref b389), .val (.ref b409), .val (.int r172), .val (.int r182), .val (.int r192), .val (.int r202), .unset, .unset, .unset] [(.int m337)])) _
      refine XS.istore X482.here hx rfl (hb hby at_337) rfl (l' := #[.val (.int k1), .val (.int k2), .val (.int k3), .val (.long k4), .second, .val (.int k5), .val (.int k6), .val (.int (3 : Int32)), .val (.int v18), .val (.ref b389), .val (.ref b409), .val (.int r172), .val (.int r182), .val (.int r192), .val (.int r202), .val (.int m337), .unset, .unset]) rfl ?_
      show Steps p.tables e below (T482.setTop (mkF m 339 #[.val (.int k1), .val (.int k2), .val (.int k3), .val (.long k4), .second, .val (.int k5), .val (.int k6), .val (.int (3 : Int32)), .val (.int v18), .val (.ref b389), .val (.ref b409), .val (.int r172), .val (.int r182), .val (.int r192), .val (.int r202), .val (.int m337), .unset, .unset] [])) _
      refine st492 _ ?_
      show Steps p.tables e below (T492.setTop (mkF m 342 #[.val (.int k1), .val (.int k2), .val (.int k3), .val (.long k4), .second, .val (.int k5), .val (.int k6), .val (.int (3 : Int32)), .val (.int v18), .val (.ref b389), .val (.ref b409), .val (.int r172), .val (.int r182), .val (.int r192), .val (.int r202), .val (.int m337), .unset, .unset] [(.ref b492)])) _
      refine XS.dup X492.here hx rfl (hb hby at_342) rfl rfl ?_
      show Steps p.tables e below (T492.setTop (mkF m 343 #[.val (.int k1), .val (.int k2), .val (.int k3), .val (.long k4), .second, .val (.int k5), .val (.int k6), .val (.int (3 : Int32)), .val (.int v18), .val (.ref b389), .val (.ref b409), .val (.int r172), .val (.int r182), .val (.int r192), .val (.int r202), .val (.int m337), .unset, .unset] [(.ref b492), (.ref b492)])) _
      exact kt
    obtain ⟨b505, T505, hX505, ks505, X505, e505, E505, hS, hk505, hZ, hown, st505⟩ := ldcS X492 hx hZ hown (hw _ (List.mem_of_getElem? (i := 9) rfl)) wS e492 hS hk496 (g := (mkF m 343 #[.val (.int k1), .val (.int k2), .val (.int k3), .val (.long k4), .second, .val (.int k5), .val (.int k6), .val (.int (3 : Int32)), .val (.int v18), .val (.ref b389), .val (.ref b409), .val (.int r172), .val (.int r182), .val (.int r192), .val (.int r202), .val (.int m337), .unset, .unset] [(.ref b492), (.ref b492)])) rfl (hb hby at_343) (n := 4) (by decide) (by decide) (by decide) (by decide)
    have F506 : Arv Z hX505 b389 kx389 .byte (3 : Int32) [(.int (nar .byte (k3.toInt8.toInt32))), (.int (nar .byte ((k3 >>> ((8 : Int32) &&& 31)).toInt8.toInt32))), (.int (nar .byte ((k3 >>> ((16 : Int32) &&& 31)).toInt8.toInt32)))] (.int (0 : Int32)) := F493.ext E505
    have F507 : Arh Z hX505 b409 kx409 .byte (8 : Int32) [((v18 + (2 : Int32)), (.int (nar .byte (((nar .byte ((k3 >>> ((16 : Int32) &&& 31)).toInt8.toInt32)) ^^^ r192).toInt8.toInt32)))), ((v18 + (1 : Int32)), (.int (nar .byte (((nar .byte ((k3 >>> ((8 : Int32) &&& 31)).toInt8.toInt32)) ^^^ r182).toInt8.toInt32)))), (v18, (.int (nar .byte (((nar .byte (k3.toInt8.toInt32)) ^^^ r172).toInt8.toInt32))))] [(.int (nar .byte ((k4.toInt32).toInt8.toInt32))), (.int (nar .byte (((k4 >>> ((8 : Int32) &&& 0x3f).toInt64).toInt32).toInt8.toInt32))), (.int (nar .byte (((k4 >>> ((16 : Int32) &&& 0x3f).toInt64).toInt32).toInt8.toInt32))), (.int (nar .byte (((k4 >>> ((24 : Int32) &&& 0x3f).toInt64).toInt32).toInt8.toInt32))), (.int (nar .byte (((k4 >>> ((32 : Int32) &&& 0x3f).toInt64).toInt32).toInt8.toInt32))), (.int (nar .byte (((k4 >>> ((40 : Int32) &&& 0x3f).toInt64).toInt32).toInt8.toInt32))), (.int (nar .byte (((k4 >>> ((48 : Int32) &&& 0x3f).toInt64).toInt32).toInt8.toInt32))), (.int (nar .byte (((k4 >>> ((56 : Int32) &&& 0x3f).toInt64).toInt32).toInt8.toInt32)))] (.int (0 : Int32)) := F494.ext E505
    have F508 : Exa Z hX505 b492 "com/example/marcotte/marcotte/XmlNames$Name" := A492.ext E505
    have F509 : Fld Z hX505 b492 "com/example/marcotte/marcotte/XmlNames$Name" "qualified" "Ljava/lang/String;" .null := F498.ext E505
    have F510 : Fld Z hX505 b492 "com/example/marcotte/marcotte/XmlNames$Name" "prefix" "Ljava/lang/String;" .null := F499.ext E505
    have F511 : Fld Z hX505 b492 "com/example/marcotte/marcotte/XmlNames$Name" "local" "Ljava/lang/String;" .null := F500.ext E505
    have F512 : Fld Z hX505 b492 "com/example/marcotte/marcotte/XmlNames$Name" "bytes" "[B" .null := F501.ext E505
    have F513 : Fld Z hX505 b492 "com/example/marcotte/marcotte/XmlNames$Name" "hash" "I" (.int (0 : Int32)) := F502.ext E505
    have F514 : Fld Z hX505 b492 "com/example/marcotte/marcotte/XmlNames$Name" "declaresNamespace" "Z" (.int (0 : Int32)) := F503.ext E505
    have Z515 : n0 ≤ hX505.size := Nat.le_trans Z495 E505.1
    have hk516 := Nat.le_trans hk496 (show _ ≤ hX505.size from E505.1)
    have K517 : Keep h0 hX505 [] := K497.ext E505
    have pre518 : ∀ tq, Steps p.tables e below (T505.setTop (mkF m 346 #[.val (.int k1), .val (.int k2), .val (.int k3), .val (.long k4), .second, .val (.int k5), .val (.int k6), .val (.int (3 : Int32)), .val (.int v18), .val (.ref b389), .val (.ref b409), .val (.int r172), .val (.int r182), .val (.int r192), .val (.int r202), .val (.int m337), .unset, .unset] [.null, (.ref b505), (.ref b492), (.ref b492)])) tq → Steps p.tables e below (s₁.setTop (entryFrame m #[(.int k1), (.int k2), (.int k3), (.long k4), (.int k5), (.int k6)] maxLocals)) tq := by
      intro tq kt
      refine pre504 _ ?_
      show Steps p.tables e below (T492.setTop (mkF m 343 #[.val (.int k1), .val (.int k2), .val (.int k3), .val (.long k4), .second, .val (.int k5), .val (.int k6), .val (.int (3 : Int32)), .val (.int v18), .val (.ref b389), .val (.ref b409), .val (.int r172), .val (.int r182), .val (.int r192), .val (.int r202), .val (.int m337), .unset, .unset] [(.ref b492), (.ref b492)])) _
      refine st505 _ ?_
      show Steps p.tables e below (T505.setTop (mkF m 345 #[.val (.int k1), .val (.int k2), .val (.int k3), .val (.long k4), .second, .val (.int k5), .val (.int k6), .val (.int (3 : Int32)), .val (.int v18), .val (.ref b389), .val (.ref b409), .val (.int r172), .val (.int r182), .val (.int r192), .val (.int r202), .val (.int m337), .unset, .unset] [(.ref b505), (.ref b492), (.ref b492)])) _
      refine XS.aconstNull X505.here hx rfl (hb hby at_345) ?_
      show Steps p.tables e below (T505.setTop (mkF m 346 #[.val (.int k1), .val (.int k2), .val (.int k3), .val (.long k4), .second, .val (.int k5), .val (.int k6), .val (.int (3 : Int32)), .val (.int v18), .val (.ref b389), .val (.ref b409), .val (.int r172), .val (.int r182), .val (.int r192), .val (.int r202), .val (.int m337), .unset, .unset] [.null, (.ref b505), (.ref b492), (.ref b492)])) _
      exact kt
    obtain ⟨b519, T519, hX519, ks519, X519, e519, E519, hS, hk519, hZ, hown, st519⟩ := ldcS X505 hx hZ hown (hw _ (List.mem_of_getElem? (i := 9) rfl)) wS e505 hS hk505 (g := (mkF m 346 #[.val (.int k1), .val (.int k2), .val (.int k3), .val (.long k4), .second, .val (.int k5), .val (.int k6), .val (.int (3 : Int32)), .val (.int v18), .val (.ref b389), .val (.ref b409), .val (.int r172), .val (.int r182), .val (.int r192), .val (.int r202), .val (.int m337), .unset, .unset] [.null, (.ref b505), (.ref b492), (.ref b492)])) rfl (hb hby at_346) (n := 4) (by decide) (by decide) (by decide) (by decide)
    have F520 : Arv Z hX519 b389 kx389 .byte (3 : Int32) [(.int (nar .byte (k3.toInt8.toInt32))), (.int (nar .byte ((k3 >>> ((8 : Int32) &&& 31)).toInt8.toInt32))), (.int (nar .byte ((k3 >>> ((16 : Int32) &&& 31)).toInt8.toInt32)))] (.int (0 : Int32)) := F506.ext E519
    have F521 : Arh Z hX519 b409 kx409 .byte (8 : Int32) [((v18 + (2 : Int32)), (.int (nar .byte (((nar .byte ((k3 >>> ((16 : Int32) &&& 31)).toInt8.toInt32)) ^^^ r192).toInt8.toInt32)))), ((v18 + (1 : Int32)), (.int (nar .byte (((nar .byte ((k3 >>> ((8 : Int32) &&& 31)).toInt8.toInt32)) ^^^ r182).toInt8.toInt32)))), (v18, (.int (nar .byte (((nar .byte (k3.toInt8.toInt32)) ^^^ r172).toInt8.toInt32))))] [(.int (nar .byte ((k4.toInt32).toInt8.toInt32))), (.int (nar .byte (((k4 >>> ((8 : Int32) &&& 0x3f).toInt64).toInt32).toInt8.toInt32))), (.int (nar .byte (((k4 >>> ((16 : Int32) &&& 0x3f).toInt64).toInt32).toInt8.toInt32))), (.int (nar .byte (((k4 >>> ((24 : Int32) &&& 0x3f).toInt64).toInt32).toInt8.toInt32))), (.int (nar .byte (((k4 >>> ((32 : Int32) &&& 0x3f).toInt64).toInt32).toInt8.toInt32))), (.int (nar .byte (((k4 >>> ((40 : Int32) &&& 0x3f).toInt64).toInt32).toInt8.toInt32))), (.int (nar .byte (((k4 >>> ((48 : Int32) &&& 0x3f).toInt64).toInt32).toInt8.toInt32))), (.int (nar .byte (((k4 >>> ((56 : Int32) &&& 0x3f).toInt64).toInt32).toInt8.toInt32)))] (.int (0 : Int32)) := F507.ext E519
    have F522 : Exa Z hX519 b492 "com/example/marcotte/marcotte/XmlNames$Name" := F508.ext E519
    have F523 : Fld Z hX519 b492 "com/example/marcotte/marcotte/XmlNames$Name" "qualified" "Ljava/lang/String;" .null := F509.ext E519
    have F524 : Fld Z hX519 b492 "com/example/marcotte/marcotte/XmlNames$Name" "prefix" "Ljava/lang/String;" .null := F510.ext E519
    have F525 : Fld Z hX519 b492 "com/example/marcotte/marcotte/XmlNames$Name" "local" "Ljava/lang/String;" .null := F511.ext E519
    have F526 : Fld Z hX519 b492 "com/example/marcotte/marcotte/XmlNames$Name" "bytes" "[B" .null := F512.ext E519
    have F527 : Fld Z hX519 b492 "com/example/marcotte/marcotte/XmlNames$Name" "hash" "I" (.int (0 : Int32)) := F513.ext E519
    have F528 : Fld Z hX519 b492 "com/example/marcotte/marcotte/XmlNames$Name" "declaresNamespace" "Z" (.int (0 : Int32)) := F514.ext E519
    have Z529 : n0 ≤ hX519.size := Nat.le_trans Z515 E519.1
    have hk530 := Nat.le_trans hk505 (show _ ≤ hX519.size from E519.1)
    have K531 : Keep h0 hX519 [] := K517.ext E519
    obtain ⟨_, _, ⟨T532, L532, k532, n532⟩, -, X532, ⟨Lc532, hQ532, l532, y532, z532⟩, st532⟩ := X519.specialBack hx (y := (⟨"com/example/marcotte/marcotte/XmlNames$Name", "<init>", "(Ljava/lang/String;Ljava/lang/String;Ljava/lang/String;[BIZ)V"⟩ : MethodName)) rfl hown (mvT hZ (hw _ (List.mem_of_getElem? (i := 16) rfl))) (mvT hZ (hw _ (List.mem_of_getElem? (i := 17) rfl))) (mvT hZ (hw _ (List.mem_of_getElem? (i := 18) rfl))) (by decide) (backOf (W := 1) (rm2 l Z a0 hw [] b492 b505 b519 b389 (0 : Int32) (0 : Int32) hX519 n0 Z529 F523 F524 F525 F526 F527 F528 F522 g_b492) hZ (hw _ (List.mem_of_getElem? (i := 18) rfl)) (hw _ (List.mem_of_getElem? (i := 8) rfl)) (by decide) (by decide)) (g := (mkF m 352 #[.val (.int k1), .val (.int k2), .val (.int k3), .val (.long k4), .second, .val (.int k5), .val (.int k6), .val (.int (3 : Int32)), .val (.int v18), .val (.ref b389), .val (.ref b409), .val (.int r172), .val (.int r182), .val (.int r192), .val (.int r202), .val (.int m337), .unset, .unset] [(.int (0 : Int32)), (.int (0 : Int32)), (.ref b389), (.ref b519), .null, (.ref b505), (.ref b492), (.ref b492)])) rfl (by rw [hml]; rfl) (Steps.refl _) (a := b492) (argsL := [(.ref b505), .null, (.ref b519), (.ref b389), (.int (0 : Int32)), (.int (0 : Int32))]) (rest := [(.ref b492)]) (lenOf pd_2 rfl) rfl (by show 2 * 0 + _ ≤ _; exact Nat.le_of_eq rfl) (hb hby at_352) (fun _ _ => ⟨rfl, e519, (by decide : 7 + 0 ≤ _), (by decide : 33 + 0 ≤ _)⟩)
    dsimp only [Pt.U, Pt.locs, Pt.cells, Pt.slots] at X532 l532 y532 z532 st532 hQ532
    subst l532 y532 z532
    obtain ⟨rfl, N532q, K532q, F533, F534⟩ := hQ532
    have N532 := Fr.app N482 N532q
    have F535 : Arv Z T532.heap b389 kx389 .byte (3 : Int32) [(.int (nar .byte (k3.toInt8.toInt32))), (.int (nar .byte ((k3 >>> ((8 : Int32) &&& 31)).toInt8.toInt32))), (.int (nar .byte ((k3 >>> ((16 : Int32) &&& 31)).toInt8.toInt32)))] (.int (0 : Int32)) := F520.keep K532q (ninS ne_b389_b492 nin0)
    have F536 : Arh Z T532.heap b409 kx409 .byte (8 : Int32) [((v18 + (2 : Int32)), (.int (nar .byte (((nar .byte ((k3 >>> ((16 : Int32) &&& 31)).toInt8.toInt32)) ^^^ r192).toInt8.toInt32)))), ((v18 + (1 : Int32)), (.int (nar .byte (((nar .byte ((k3 >>> ((8 : Int32) &&& 31)).toInt8.toInt32)) ^^^ r182).toInt8.toInt32)))), (v18, (.int (nar .byte (((nar .byte (k3.toInt8.toInt32)) ^^^ r172).toInt8.toInt32))))] [(.int (nar .byte ((k4.toInt32).toInt8.toInt32))), (.int (nar .byte (((k4 >>> ((8 : Int32) &&& 0x3f).toInt64).toInt32).toInt8.toInt32))), (.int (nar .byte (((k4 >>> ((16 : Int32) &&& 0x3f).toInt64).toInt32).toInt8.toInt32))), (.int (nar .byte (((k4 >>> ((24 : Int32) &&& 0x3f).toInt64).toInt32).toInt8.toInt32))), (.int (nar .byte (((k4 >>> ((32 : Int32) &&& 0x3f).toInt64).toInt32).toInt8.toInt32))), (.int (nar .byte (((k4 >>> ((40 : Int32) &&& 0x3f).toInt64).toInt32).toInt8.toInt32))), (.int (nar .byte (((k4 >>> ((48 : Int32) &&& 0x3f).toInt64).toInt32).toInt8.toInt32))), (.int (nar .byte (((k4 >>> ((56 : Int32) &&& 0x3f).toInt64).toInt32).toInt8.toInt32)))] (.int (0 : Int32)) := F521.keep K532q (ninS ne_b409_b492 nin0)
    have F537 : Exa Z T532.heap b492 "com/example/marcotte/marcotte/XmlNames$Name" := F522.keep K532q
    have Z538 : n0 ≤ T532.heap.size := Nat.le_trans Z529 K532q.1
    have hk539 := Nat.le_trans hk519 (show _ ≤ T532.heap.size from K532q.1)
    have K540 : Keep h0 T532.heap [] := K531.trans K532q (allS (Or.inr sz_b492) all0)
    have hp541_hat0 : 0 ≤ v18.toInt := (own_pre_0_363_hat0_s3 k1 k2 k3 k4 k5 k6 hv6 v18 hv18 r172 hr172 r182 hr182 r192 hr192 r202 hr202 m337 hm337)
    have hp541_hat1 : v18.toInt + 3 ≤ 8 := (own_pre_0_363_hat1_s3 k1 k2 k3 k4 k5 k6 hv6 v18 hv18 r172 hr172 r182 hr182 r192 hr192 r202 hr202 m337 hm337 hp541_hat0)
    obtain ⟨cq541, kq541, q541a, q541b, q541c⟩ := isOf hZ rfl F533
    obtain ⟨_, _, ⟨T541, L541, k541, n541⟩, -, X541, ⟨Lc541, hQ541, l541, y541, z541⟩, st541⟩ := X532.virtualBack hx (y := (⟨"com/example/marcotte/marcotte/XmlNames$Name", "writtenAt", "([BI)Z"⟩ : MethodName)) (z := (⟨"com/example/marcotte/marcotte/XmlNames$Name", "writtenAt", "([BI)Z"⟩ : MethodName)) hown (mvT hZ (hw _ (List.mem_of_getElem? (i := 39) rfl))) (mvT hZ (hw _ (List.mem_of_getElem? (i := 40) rfl))) (notFace_of_selects (args := #[]) (mvT hZ (hw _ (List.mem_of_getElem? (i := 42) rfl)))) (mvT hZ (hw _ (List.mem_of_getElem? (i := 42) rfl))) (mvT hZ (hw _ (List.mem_of_getElem? (i := 41) rfl))) (by decide) (backOf (W := 0) (rm5_3 l Z a0 hw [] b492 b409 v18 b389 kx389 kx409 ([(.int (nar .byte ((k4.toInt32).toInt8.toInt32))), (.int (nar .byte (((k4 >>> ((8 : Int32) &&& 0x3f).toInt64).toInt32).toInt8.toInt32))), (.int (nar .byte (((k4 >>> ((16 : Int32) &&& 0x3f).toInt64).toInt32).toInt8.toInt32))), (.int (nar .byte (((k4 >>> ((24 : Int32) &&& 0x3f).toInt64).toInt32).toInt8.toInt32))), (.int (nar .byte (((k4 >>> ((32 : Int32) &&& 0x3f).toInt64).toInt32).toInt8.toInt32))), (.int (nar .byte (((k4 >>> ((40 : Int32) &&& 0x3f).toInt64).toInt32).toInt8.toInt32))), (.int (nar .byte (((k4 >>> ((48 : Int32) &&& 0x3f).toInt64).toInt32).toInt8.toInt32))), (.int (nar .byte (((k4 >>> ((56 : Int32) &&& 0x3f).toInt64).toInt32).toInt8.toInt32)))] : List Value) (nar .byte (k3.toInt8.toInt32)) (nar .byte ((k3 >>> ((8 : Int32) &&& 31)).toInt8.toInt32)) (nar .byte ((k3 >>> ((16 : Int32) &&& 31)).toInt8.toInt32)) (nar .byte (((nar .byte (k3.toInt8.toInt32)) ^^^ r172).toInt8.toInt32)) (nar .byte (((nar .byte ((k3 >>> ((8 : Int32) &&& 31)).toInt8.toInt32)) ^^^ r182).toInt8.toInt32)) (nar .byte (((nar .byte ((k3 >>> ((16 : Int32) &&& 31)).toInt8.toInt32)) ^^^ r192).toInt8.toInt32)) T532.heap n0 Z538 F534 F535 F536 hp541_hat0 hp541_hat1) hZ (hw _ (List.mem_of_getElem? (i := 43) rfl)) (hw _ (List.mem_of_getElem? (i := 8) rfl)) (by decide) (by decide)) q541a q541c (g := (mkF m 363 #[.val (.int k1), .val (.int k2), .val (.int k3), .val (.long k4), .second, .val (.int k5), .val (.int k6), .val (.int (3 : Int32)), .val (.int v18), .val (.ref b389), .val (.ref b409), .val (.int r172), .val (.int r182), .val (.int r192), .val (.int r202), .val (.int m337), .val (.ref b492), .unset] [(.int v18), (.ref b409), (.ref b492)])) rfl (by rw [hml]; rfl) (Steps.refl _) (argsL := [(.ref b409), (.int v18)]) (rest := []) (lenOf pd_3 rfl) rfl (by show 2 * 0 + _ ≤ _; exact Nat.le_of_eq rfl) (hb hby at_363) (fun _ _ => ⟨rfl, rfl, (by decide : 7 + 0 ≤ _), (by decide : 33 + 0 ≤ _)⟩)
    dsimp only [Pt.U, Pt.locs, Pt.cells, Pt.slots] at X541 l541 y541 z541 st541 hQ541
    subst l541 y541 z541
    obtain ⟨rfl, N541q, e541⟩ := hQ541
    have N541 := Fr.app N532 N541q
    obtain ⟨r363, hr363⟩ : ∃ z_q : Int32, z_q = (if (nar .byte (((nar .byte (k3.toInt8.toInt32)) ^^^ r172).toInt8.toInt32)) = (nar .byte (k3.toInt8.toInt32)) then (if (nar .byte (((nar .byte ((k3 >>> ((8 : Int32) &&& 31)).toInt8.toInt32)) ^^^ r182).toInt8.toInt32)) = (nar .byte ((k3 >>> ((8 : Int32) &&& 31)).toInt8.toInt32)) then (if (nar .byte (((nar .byte ((k3 >>> ((16 : Int32) &&& 31)).toInt8.toInt32)) ^^^ r192).toInt8.toInt32)) = (nar .byte ((k3 >>> ((16 : Int32) &&& 31)).toInt8.toInt32)) then (1 : Int32) else (0 : Int32)) else (0 : Int32)) else (0 : Int32)) := ⟨_, rfl⟩
    obtain ⟨m380, hm380⟩ : ∃ z_q : Int32, z_q = (if r363 = m337 then (1 : Int32) else (0 : Int32)) := ⟨_, rfl⟩
    have pre543 : ∀ tq, Steps p.tables e below (T541.setTop (mkF m 380 #[.val (.int k1), .val (.int k2), .val (.int k3), .val (.long k4), .second, .val (.int k5), .val (.int k6), .val (.int (3 : Int32)), .val (.int v18), .val (.ref b389), .val (.ref b409), .val (.int r172), .val (.int r182), .val (.int r192), .val (.int r202), .val (.int m337), .val (.ref b492), .val (.int r363)] [(.int m380)])) tq → Steps p.tables e below (s₁.setTop (entryFrame m #[(.int k1), (.int k2), (.int k3), (.long k4), (.int k5), (.int k6)] maxLocals)) tq := by
      intro tq kt
      refine pre518 _ ?_
      show Steps p.tables e below (T505.setTop (mkF m 346 #[.val (.int k1), .val (.int k2), .val (.int k3), .val (.long k4), .second, .val (.int k5), .val (.int k6), .val (.int (3 : Int32)), .val (.int v18), .val (.ref b389), .val (.ref b409), .val (.int r172), .val (.int r182), .val (.int r192), .val (.int r202), .val (.int m337), .unset, .unset] [.null, (.ref b505), (.ref b492), (.ref b492)])) _
      refine st519 _ ?_
      show Steps p.tables e below (T519.setTop (mkF m 348 #[.val (.int k1), .val (.int k2), .val (.int k3), .val (.long k4), .second, .val (.int k5), .val (.int k6), .val (.int (3 : Int32)), .val (.int v18), .val (.ref b389), .val (.ref b409), .val (.int r172), .val (.int r182), .val (.int r192), .val (.int r202), .val (.int m337), .unset, .unset] [(.ref b519), .null, (.ref b505), (.ref b492), (.ref b492)])) _
      refine XS.aload X519.here hx rfl (hb hby at_348) rfl rfl ?_
      show Steps p.tables e below (T519.setTop (mkF m 350 #[.val (.int k1), .val (.int k2), .val (.int k3), .val (.long k4), .second, .val (.int k5), .val (.int k6), .val (.int (3 : Int32)), .val (.int v18), .val (.ref b389), .val (.ref b409), .val (.int r172), .val (.int r182), .val (.int r192), .val (.int r202), .val (.int m337), .unset, .unset] [(.ref b389), (.ref b519), .null, (.ref b505), (.ref b492), (.ref b492)])) _
      refine XS.iconst X519.here hx rfl (hb hby at_350) ?_
      show Steps p.tables e below (T519.setTop (mkF m 351 #[.val (.int k1), .val (.int k2), .val (.int k3), .val (.long k4), .second, .val (.int k5), .val (.int k6), .val (.int (3 : Int32)), .val (.int v18), .val (.ref b389), .val (.ref b409), .val (.int r172), .val (.int r182), .val (.int r192), .val (.int r202), .val (.int m337), .unset, .unset] [(.int (0 : Int32)), (.ref b389), (.ref b519), .null, (.ref b505), (.ref b492), (.ref b492)])) _
      refine XS.iconst X519.here hx rfl (hb hby at_351) ?_
      show Steps p.tables e below (T519.setTop (mkF m 352 #[.val (.int k1), .val (.int k2), .val (.int k3), .val (.long k4), .second, .val (.int k5), .val (.int k6), .val (.int (3 : Int32)), .val (.int v18), .val (.ref b389), .val (.ref b409), .val (.int r172), .val (.int r182), .val (.int r192), .val (.int r202), .val (.int m337), .unset, .unset] [(.int (0 : Int32)), (.int (0 : Int32)), (.ref b389), (.ref b519), .null, (.ref b505), (.ref b492), (.ref b492)])) _
      refine st532.trans ?_
      show Steps p.tables e below (T532.setTop (mkF m 355 #[.val (.int k1), .val (.int k2), .val (.int k3), .val (.long k4), .second, .val (.int k5), .val (.int k6), .val (.int (3 : Int32)), .val (.int v18), .val (.ref b389), .val (.ref b409), .val (.int r172), .val (.int r182), .val (.int r192), .val (.int r202), .val (.int m337), .unset, .unset] [(.ref b492)])) _
      refine XS.astore X532.here hx rfl (hb hby at_355) rfl rfl (l' := #[.val (.int k1), .val (.int k2), .val (.int k3), .val (.long k4), .second, .val (.int k5), .val (.int k6), .val (.int (3 : Int32)), .val (.int v18), .val (.ref b389), .val (.ref b409), .val (.int r172), .val (.int r182), .val (.int r192), .val (.int r202), .val (.int m337), .val (.ref b492), .unset]) rfl ?_
      show Steps p.tables e below (T532.setTop (mkF m 357 #[.val (.int k1), .val (.int k2), .val (.int k3), .val (.long k4), .second, .val (.int k5), .val (.int k6), .val (.int (3 : Int32)), .val (.int v18), .val (.ref b389), .val (.ref b409), .val (.int r172), .val (.int r182), .val (.int r192), .val (.int r202), .val (.int m337), .val (.ref b492), .unset] [])) _
      refine XS.aload X532.here hx rfl (hb hby at_357) rfl rfl ?_
      show Steps p.tables e below (T532.setTop (mkF m 359 #[.val (.int k1), .val (.int k2), .val (.int k3), .val (.long k4), .second, .val (.int k5), .val (.int k6), .val (.int (3 : Int32)), .val (.int v18), .val (.ref b389), .val (.ref b409), .val (.int r172), .val (.int r182), .val (.int r192), .val (.int r202), .val (.int m337), .val (.ref b492), .unset] [(.ref b492)])) _
      refine XS.aload X532.here hx rfl (hb hby at_359) rfl rfl ?_
      show Steps p.tables e below (T532.setTop (mkF m 361 #[.val (.int k1), .val (.int k2), .val (.int k3), .val (.long k4), .second, .val (.int k5), .val (.int k6), .val (.int (3 : Int32)), .val (.int v18), .val (.ref b389), .val (.ref b409), .val (.int r172), .val (.int r182), .val (.int r192), .val (.int r202), .val (.int m337), .val (.ref b492), .unset] [(.ref b409), (.ref b492)])) _
      refine XS.iload X532.here hx rfl (hb hby at_361) rfl ?_
      show Steps p.tables e below (T532.setTop (mkF m 363 #[.val (.int k1), .val (.int k2), .val (.int k3), .val (.long k4), .second, .val (.int k5), .val (.int k6), .val (.int (3 : Int32)), .val (.int v18), .val (.ref b389), .val (.ref b409), .val (.int r172), .val (.int r182), .val (.int r192), .val (.int r202), .val (.int m337), .val (.ref b492), .unset] [(.int v18), (.ref b409), (.ref b492)])) _
      refine st541.trans ?_
      show Steps p.tables e below (T541.setTop (mkF m 366 #[.val (.int k1), .val (.int k2), .val (.int k3), .val (.long k4), .second, .val (.int k5), .val (.int k6), .val (.int (3 : Int32)), .val (.int v18), .val (.ref b389), .val (.ref b409), .val (.int r172), .val (.int r182), .val (.int r192), .val (.int r202), .val (.int m337), .val (.ref b492), .unset] [(.int (if (nar .byte (((nar .byte (k3.toInt8.toInt32)) ^^^ r172).toInt8.toInt32)) = (nar .byte (k3.toInt8.toInt32)) then (if (nar .byte (((nar .byte ((k3 >>> ((8 : Int32) &&& 31)).toInt8.toInt32)) ^^^ r182).toInt8.toInt32)) = (nar .byte ((k3 >>> ((8 : Int32) &&& 31)).toInt8.toInt32)) then (if (nar .byte (((nar .byte ((k3 >>> ((16 : Int32) &&& 31)).toInt8.toInt32)) ^^^ r192).toInt8.toInt32)) = (nar .byte ((k3 >>> ((16 : Int32) &&& 31)).toInt8.toInt32)) then (1 : Int32) else (0 : Int32)) else (0 : Int32)) else (0 : Int32)))])) _
      rw [← hr363]
      show Steps p.tables e below (T541.setTop (mkF m 366 #[.val (.int k1), .val (.int k2), .val (.int k3), .val (.long k4), .second, .val (.int k5), .val (.int k6), .val (.int (3 : Int32)), .val (.int v18), .val (.ref b389), .val (.ref b409), .val (.int r172), .val (.int r182), .val (.int r192), .val (.int r202), .val (.int m337), .val (.ref b492), .unset] [(.int r363)])) _
      refine XS.istore X541.here hx rfl (hb hby at_366) rfl (l' := #[.val (.int k1), .val (.int k2), .val (.int k3), .val (.long k4), .second, .val (.int k5), .val (.int k6), .val (.int (3 : Int32)), .val (.int v18), .val (.ref b389), .val (.ref b409), .val (.int r172), .val (.int r182), .val (.int r192), .val (.int r202), .val (.int m337), .val (.ref b492), .val (.int r363)]) rfl ?_
      show Steps p.tables e below (T541.setTop (mkF m 368 #[.val (.int k1), .val (.int k2), .val (.int k3), .val (.long k4), .second, .val (.int k5), .val (.int k6), .val (.int (3 : Int32)), .val (.int v18), .val (.ref b389), .val (.ref b409), .val (.int r172), .val (.int r182), .val (.int r192), .val (.int r202), .val (.int m337), .val (.ref b492), .val (.int r363)] [])) _
      refine XS.iload X541.here hx rfl (hb hby at_368) rfl ?_
      show Steps p.tables e below (T541.setTop (mkF m 370 #[.val (.int k1), .val (.int k2), .val (.int k3), .val (.long k4), .second, .val (.int k5), .val (.int k6), .val (.int (3 : Int32)), .val (.int v18), .val (.ref b389), .val (.ref b409), .val (.int r172), .val (.int r182), .val (.int r192), .val (.int r202), .val (.int m337), .val (.ref b492), .val (.int r363)] [(.int r363)])) _
      refine XS.iload X541.here hx rfl (hb hby at_370) rfl ?_
      by_cases d542 : r363 = m337
      · skip
        show Steps p.tables e below (T541.setTop (mkF m 372 #[.val (.int k1), .val (.int k2), .val (.int k3), .val (.long k4), .second, .val (.int k5), .val (.int k6), .val (.int (3 : Int32)), .val (.int v18), .val (.ref b389), .val (.ref b409), .val (.int r172), .val (.int r182), .val (.int r192), .val (.int r202), .val (.int m337), .val (.ref b492), .val (.int r363)] [(.int m337), (.int r363)])) _
        refine XS.icmpNo X541.here hx rfl (hb hby at_372) rfl (teq d542).2 ?_
        show Steps p.tables e below (T541.setTop (mkF m 375 #[.val (.int k1), .val (.int k2), .val (.int k3), .val (.long k4), .second, .val (.int k5), .val (.int k6), .val (.int (3 : Int32)), .val (.int v18), .val (.ref b389), .val (.ref b409), .val (.int r172), .val (.int r182), .val (.int r192), .val (.int r202), .val (.int m337), .val (.ref b492), .val (.int r363)] [])) _
        refine XS.iconst X541.here hx rfl (hb hby at_375) ?_
        show Steps p.tables e below (T541.setTop (mkF m 376 #[.val (.int k1), .val (.int k2), .val (.int k3), .val (.long k4), .second, .val (.int k5), .val (.int k6), .val (.int (3 : Int32)), .val (.int v18), .val (.ref b389), .val (.ref b409), .val (.int r172), .val (.int r182), .val (.int r192), .val (.int r202), .val (.int m337), .val (.ref b492), .val (.int r363)] [(.int (1 : Int32))])) _
        refine XS.goto X541.here hx rfl (pc0 := 376) (pc' := 380) rfl (hb hby at_376) (by decide) (by decide) ?_
        show Steps p.tables e below (T541.setTop (mkF m 380 #[.val (.int k1), .val (.int k2), .val (.int k3), .val (.long k4), .second, .val (.int k5), .val (.int k6), .val (.int (3 : Int32)), .val (.int v18), .val (.ref b389), .val (.ref b409), .val (.int r172), .val (.int r182), .val (.int r192), .val (.int r202), .val (.int m337), .val (.ref b492), .val (.int r363)] [(.int (1 : Int32))])) _
        exact castTop (by simp only [hm380, if_pos d542]) kt
      · skip
        show Steps p.tables e below (T541.setTop (mkF m 372 #[.val (.int k1), .val (.int k2), .val (.int k3), .val (.long k4), .second, .val (.int k5), .val (.int k6), .val (.int (3 : Int32)), .val (.int v18), .val (.ref b389), .val (.ref b409), .val (.int r172), .val (.int r182), .val (.int r192), .val (.int r202), .val (.int m337), .val (.ref b492), .val (.int r363)] [(.int m337), (.int r363)])) _
        refine XS.icmpYes X541.here hx rfl (pc0 := 372) (pc' := 379) rfl (hb hby at_372) rfl (feq d542).2 (by decide) (by decide) ?_
        show Steps p.tables e below (T541.setTop (mkF m 379 #[.val (.int k1), .val (.int k2), .val (.int k3), .val (.long k4), .second, .val (.int k5), .val (.int k6), .val (.int (3 : Int32)), .val (.int v18), .val (.ref b389), .val (.ref b409), .val (.int r172), .val (.int r182), .val (.int r192), .val (.int r202), .val (.int m337), .val (.ref b492), .val (.int r363)] [])) _
        refine XS.iconst X541.here hx rfl (hb hby at_379) ?_
        show Steps p.tables e below (T541.setTop (mkF m 380 #[.val (.int k1), .val (.int k2), .val (.int k3), .val (.long k4), .second, .val (.int k5), .val (.int k6), .val (.int (3 : Int32)), .val (.int v18), .val (.ref b389), .val (.ref b409), .val (.int r172), .val (.int r182), .val (.int r192), .val (.int r202), .val (.int m337), .val (.ref b492), .val (.int r363)] [(.int (0 : Int32))])) _
        exact castTop (by simp only [hm380, if_neg d542]) kt
    obtain ⟨fs, hr, hrun, hended, hW, hsame⟩ := X541.leave (v := some (Value.int (nar .boolean m380))) (fun h => by rw [Bd.returns] at h; cases h)
    have hres544 : (nar .boolean m380) = (1 : Int32) := (own_leaf_0_380_s3 k1 k2 k3 k4 k5 k6 hv6 v18 hv18 r172 hr172 r182 hr182 r192 hr192 r202 hr202 m337 hm337 hp541_hat0 hp541_hat1 r363 hr363 m380 hm380)
    have hE := hS.ended hW (show _ ≤ T541.heap.size from e541.symm ▸ hk539) hsame
    refine ⟨_, _, pre543 _ ?_, hrun, hended, _, _, rfl, ?_, ⟨_, rfl⟩, hE.1, hE.2.1, hE.2.2.mono (by decide) (by decide)⟩
    · skip
      show Steps p.tables e below (T541.setTop (mkF m 380 #[.val (.int k1), .val (.int k2), .val (.int k3), .val (.long k4), .second, .val (.int k5), .val (.int k6), .val (.int (3 : Int32)), .val (.int v18), .val (.ref b389), .val (.ref b409), .val (.int r172), .val (.int r182), .val (.int r192), .val (.int r202), .val (.int m337), .val (.ref b492), .val (.int r363)] [(.int m380)])) _
      exact retN X541 hx (t := .boolean) Bd.returns (by simp) (hb hby at_380) hr
    · show Q0 Z k1 k2 k3 k4 k5 k6 h0 n0 _ T541.heap _
      rw [e541]
      exact ⟨congrArg (fun z => some (Value.int z)) hres544, N541⟩
  · subst hs2
    obtain ⟨v18, hv18⟩ : ∃ z_q : Int32, z_q = ((k2 &&& (2147483647 : Int32)) % (5 : Int32)) := ⟨_, rfl⟩
    obtain ⟨T545, hX545, kx545, X545, e545, E545, A545, st545⟩ := newP X0 hx hZ (hw _ (List.mem_of_getElem? (i := 1) rfl)) e0 (g := (mkF m 22 #[.val (.int k1), .val (.int k2), .val (.int k3), .val (.long k4), .second, .val (.int k5), .val (.int k6), .val (.int (4 : Int32)), .val (.int v18), .unset, .unset, .unset, .unset, .unset, .unset, .unset, .unset, .unset] [(.int (4 : Int32))])) rfl (hb hby at_22) rfl (by decide) (cap := 4) (by decide) (by decide) (by decide) (by decide)
    obtain ⟨b545, g545⟩ : ∃ z_q, z_q = h0.size := ⟨_, rfl⟩
    rw [← g545] at A545 st545
    have g_b545 : n0 ≤ b545 := Nat.le_trans Z0 (Nat.le_of_eq g545.symm)
    have sz_b545 : h0.size ≤ b545 := Nat.le_trans K0.1 (Nat.le_of_eq g545.symm)
    have Z546 : n0 ≤ hX545.size := Nat.le_trans Z0 E545.1
    have hk547 := Nat.le_trans (Nat.zero_le _) (show _ ≤ hX545.size from E545.1)
    have K548 : Keep h0 hX545 [] := K0.ext E545
    have F549 : Arv Z hX545 b545 kx545 .byte (4 : Int32) [(.int (0 : Int32)), (.int (0 : Int32)), (.int (0 : Int32)), (.int (0 : Int32))] (.int (0 : Int32)) := (Arv.new A545 (by decide)).pad (pad_rep [] (.int (0 : Int32)) 4)
    obtain ⟨cl550, Ar550, q550, S550, M550, H550, G550⟩ := id F549
    have hin550 : ¬ ((0 : Int32) < 0 ∨ cl550.slots.size ≤ ((0 : Int32)).toNatClampNeg) := inb_of S550 ⟨by decide, by decide⟩
    obtain ⟨T550, hX550, X550, e550, W550, st550⟩ := stB X545 hx hZ e545 Ar550 (j := (0 : Int32)) hin550 (g := (mkF m 36 #[.val (.int k1), .val (.int k2), .val (.int k3), .val (.long k4), .second, .val (.int k5), .val (.int k6), .val (.int (4 : Int32)), .val (.int v18), .val (.ref b545), .unset, .unset, .unset, .unset, .unset, .unset, .unset, .unset] [(.int (k3.toInt8.toInt32)), (.int (0 : Int32)), (.ref b545)])) rfl rfl (hb hby at_36)
    have F551 : Arv Z hX550 b545 kx545 .byte (4 : Int32) [(.int (nar .byte (k3.toInt8.toInt32))), (.int (0 : Int32)), (.int (0 : Int32)), (.int (0 : Int32))] (.int (0 : Int32)) := Arv.set Ar550 q550 S550 M550 H550 G550 (fits_nar_byte _) W550 0 rfl (Nat.le_of_ble_eq_true rfl)
    have N550 := Fr.snoc X550 N0 g_b545
    have Z552 : n0 ≤ hX550.size := Nat.le_trans Z546 (Keep.of_wr W550).1
    have hk553 := Nat.le_trans hk547 (show _ ≤ hX550.size from (Keep.of_wr W550).1)
    have K554 : Keep h0 hX550 [] := K548.wr W550 (Or.inr sz_b545)
    obtain ⟨cl555, Ar555, q555, S555, M555, H555, G555⟩ := id F551
    have hin555 : ¬ ((1 : Int32) < 0 ∨ cl555.slots.size ≤ ((1 : Int32)).toNatClampNeg) := inb_of S555 ⟨by decide, by decide⟩
    obtain ⟨T555, hX555, X555, e555, W555, st555⟩ := stB X550 hx hZ e550 Ar555 (j := (1 : Int32)) hin555 (g := (mkF m 51 #[.val (.int k1), .val (.int k2), .val (.int k3), .val (.long k4), .second, .val (.int k5), .val (.int k6), .val (.int (4 : Int32)), .val (.int v18), .val (.ref b545), .unset, .unset, .unset, .unset, .unset, .unset, .unset, .unset] [(.int ((k3 >>> ((8 : Int32) &&& 31)).toInt8.toInt32)), (.int (1 : Int32)), (.ref b545)])) rfl rfl (hb hby at_51)
    have F556 : Arv Z hX555 b545 kx545 .byte (4 : Int32) [(.int (nar .byte (k3.toInt8.toInt32))), (.int (nar .byte ((k3 >>> ((8 : Int32) &&& 31)).toInt8.toInt32))), (.int (0 : Int32)), (.int (0 : Int32))] (.int (0 : Int32)) := Arv.set Ar555 q555 S555 M555 H555 G555 (fits_nar_byte _) W555 1 rfl (Nat.le_of_ble_eq_true rfl)
    have N555 := Fr.snoc X555 N550 g_b545
    have Z557 : n0 ≤ hX555.size := Nat.le_trans Z552 (Keep.of_wr W555).1
    have hk558 := Nat.le_trans hk553 (show _ ≤ hX555.size from (Keep.of_wr W555).1)
    have K559 : Keep h0 hX555 [] := K554.wr W555 (Or.inr sz_b545)
    obtain ⟨cl560, Ar560, q560, S560, M560, H560, G560⟩ := id F556
    have hin560 : ¬ ((2 : Int32) < 0 ∨ cl560.slots.size ≤ ((2 : Int32)).toNatClampNeg) := inb_of S560 ⟨by decide, by decide⟩
    obtain ⟨T560, hX560, X560, e560, W560, st560⟩ := stB X555 hx hZ e555 Ar560 (j := (2 : Int32)) hin560 (g := (mkF m 66 #[.val (.int k1), .val (.int k2), .val (.int k3), .val (.long k4), .second, .val (.int k5), .val (.int k6), .val (.int (4 : Int32)), .val (.int v18), .val (.ref b545), .unset, .unset, .unset, .unset, .unset, .unset, .unset, .unset] [(.int ((k3 >>> ((16 : Int32) &&& 31)).toInt8.toInt32)), (.int (2 : Int32)), (.ref b545)])) rfl rfl (hb hby at_66)
    have F561 : Arv Z hX560 b545 kx545 .byte (4 : Int32) [(.int (nar .byte (k3.toInt8.toInt32))), (.int (nar .byte ((k3 >>> ((8 : Int32) &&& 31)).toInt8.toInt32))), (.int (nar .byte ((k3 >>> ((16 : Int32) &&& 31)).toInt8.toInt32))), (.int (0 : Int32))] (.int (0 : Int32)) := Arv.set Ar560 q560 S560 M560 H560 G560 (fits_nar_byte _) W560 2 rfl (Nat.le_of_ble_eq_true rfl)
    have N560 := Fr.snoc X560 N555 g_b545
    have Z562 : n0 ≤ hX560.size := Nat.le_trans Z557 (Keep.of_wr W560).1
    have hk563 := Nat.le_trans hk558 (show _ ≤ hX560.size from (Keep.of_wr W560).1)
    have K564 : Keep h0 hX560 [] := K559.wr W560 (Or.inr sz_b545)
    obtain ⟨cl565, Ar565, q565, S565, M565, H565, G565⟩ := id F561
    have hin565 : ¬ ((3 : Int32) < 0 ∨ cl565.slots.size ≤ ((3 : Int32)).toNatClampNeg) := inb_of S565 ⟨by decide, by decide⟩
    obtain ⟨T565, hX565, X565, e565, W565, st565⟩ := stB X560 hx hZ e560 Ar565 (j := (3 : Int32)) hin565 (g := (mkF m 81 #[.val (.int k1), .val (.int k2), .val (.int k3), .val (.long k4), .second, .val (.int k5), .val (.int k6), .val (.int (4 : Int32)), .val (.int v18), .val (.ref b545), .unset, .unset, .unset, .unset, .unset, .unset, .unset, .unset] [(.int ((k3 >>> ((24 : Int32) &&& 31)).toInt8.toInt32)), (.int (3 : Int32)), (.ref b545)])) rfl rfl (hb hby at_81)
    have F566 : Arv Z hX565 b545 kx545 .byte (4 : Int32) [(.int (nar .byte (k3.toInt8.toInt32))), (.int (nar .byte ((k3 >>> ((8 : Int32) &&& 31)).toInt8.toInt32))), (.int (nar .byte ((k3 >>> ((16 : Int32) &&& 31)).toInt8.toInt32))), (.int (nar .byte ((k3 >>> ((24 : Int32) &&& 31)).toInt8.toInt32)))] (.int (0 : Int32)) := Arv.set Ar565 q565 S565 M565 H565 G565 (fits_nar_byte _) W565 3 rfl (Nat.le_of_ble_eq_true rfl)
    have N565 := Fr.snoc X565 N560 g_b545
    have Z567 : n0 ≤ hX565.size := Nat.le_trans Z562 (Keep.of_wr W565).1
    have hk568 := Nat.le_trans hk563 (show _ ≤ hX565.size from (Keep.of_wr W565).1)
    have K569 : Keep h0 hX565 [] := K564.wr W565 (Or.inr sz_b545)
    obtain ⟨T570, hX570, kx570, X570, e570, E570, A570, st570⟩ := newP X565 hx hZ (hw _ (List.mem_of_getElem? (i := 1) rfl)) e565 (g := (mkF m 84 #[.val (.int k1), .val (.int k2), .val (.int k3), .val (.long k4), .second, .val (.int k5), .val (.int k6), .val (.int (4 : Int32)), .val (.int v18), .val (.ref b545), .unset, .unset, .unset, .unset, .unset, .unset, .unset, .unset] [(.int (8 : Int32))])) rfl (hb hby at_84) rfl (by decide) (cap := 8) (by decide) (by decide) (by decide) (by decide)
    obtain ⟨b570, g570⟩ : ∃ z_q, z_q = hX565.size := ⟨_, rfl⟩
    rw [← g570] at A570 st570
    have g_b570 : n0 ≤ b570 := Nat.le_trans Z567 (Nat.le_of_eq g570.symm)
    have sz_b570 : h0.size ≤ b570 := Nat.le_trans K569.1 (Nat.le_of_eq g570.symm)
    have ne_b545_b570 : b545 ≠ b570 := Nat.ne_of_lt (Nat.lt_of_lt_of_le F566.lt (Nat.le_of_eq g570.symm))
    have F571 : Arv Z hX570 b545 kx545 .byte (4 : Int32) [(.int (nar .byte (k3.toInt8.toInt32))), (.int (nar .byte ((k3 >>> ((8 : Int32) &&& 31)).toInt8.toInt32))), (.int (nar .byte ((k3 >>> ((16 : Int32) &&& 31)).toInt8.toInt32))), (.int (nar .byte ((k3 >>> ((24 : Int32) &&& 31)).toInt8.toInt32)))] (.int (0 : Int32)) := F566.ext E570
    have Z572 : n0 ≤ hX570.size := Nat.le_trans Z567 E570.1
    have hk573 := Nat.le_trans hk568 (show _ ≤ hX570.size from E570.1)
    have K574 : Keep h0 hX570 [] := K569.ext E570
    have F575 : Arv Z hX570 b570 kx570 .byte (8 : Int32) [(.int (0 : Int32)), (.int (0 : Int32)), (.int (0 : Int32)), (.int (0 : Int32)), (.int (0 : Int32)), (.int (0 : Int32)), (.int (0 : Int32)), (.int (0 : Int32))] (.int (0 : Int32)) := (Arv.new A570 (by decide)).pad (pad_rep [] (.int (0 : Int32)) 8)
    obtain ⟨cl576, Ar576, q576, S576, M576, H576, G576⟩ := id F575
    have hin576 : ¬ ((0 : Int32) < 0 ∨ cl576.slots.size ≤ ((0 : Int32)).toNatClampNeg) := inb_of S576 ⟨by decide, by decide⟩
    obtain ⟨T576, hX576, X576, e576, W576, st576⟩ := stB X570 hx hZ e570 Ar576 (j := (0 : Int32)) hin576 (g := (mkF m 94 #[.val (.int k1), .val (.int k2), .val (.int k3), .val (.long k4), .second, .val (.int k5), .val (.int k6), .val (.int (4 : Int32)), .val (.int v18), .val (.ref b545), .val (.ref b570), .unset, .unset, .unset, .unset, .unset, .unset, .unset] [(.int ((k4.toInt32).toInt8.toInt32)), (.int (0 : Int32)), (.ref b570)])) rfl rfl (hb hby at_94)
    have F577 : Arv Z hX576 b570 kx570 .byte (8 : Int32) [(.int (nar .byte ((k4.toInt32).toInt8.toInt32))), (.int (0 : Int32)), (.int (0 : Int32)), (.int (0 : Int32)), (.int (0 : Int32)), (.int (0 : Int32)), (.int (0 : Int32)), (.int (0 : Int32))] (.int (0 : Int32)) := Arv.set Ar576 q576 S576 M576 H576 G576 (fits_nar_byte _) W576 0 rfl (Nat.le_of_ble_eq_true rfl)
    have N576 := Fr.snoc X576 N565 g_b570
    have F578 : Arv Z hX576 b545 kx545 .byte (4 : Int32) [(.int (nar .byte (k3.toInt8.toInt32))), (.int (nar .byte ((k3 >>> ((8 : Int32) &&& 31)).toInt8.toInt32))), (.int (nar .byte ((k3 >>> ((16 : Int32) &&& 31)).toInt8.toInt32))), (.int (nar .byte ((k3 >>> ((24 : Int32) &&& 31)).toInt8.toInt32)))] (.int (0 : Int32)) := F571.other W576 ne_b545_b570
    have Z579 : n0 ≤ hX576.size := Nat.le_trans Z572 (Keep.of_wr W576).1
    have hk580 := Nat.le_trans hk573 (show _ ≤ hX576.size from (Keep.of_wr W576).1)
    have K581 : Keep h0 hX576 [] := K574.wr W576 (Or.inr sz_b570)
    obtain ⟨cl582, Ar582, q582, S582, M582, H582, G582⟩ := id F577
    have hin582 : ¬ ((1 : Int32) < 0 ∨ cl582.slots.size ≤ ((1 : Int32)).toNatClampNeg) := inb_of S582 ⟨by decide, by decide⟩
    obtain ⟨T582, hX582, X582, e582, W582, st582⟩ := stB X576 hx hZ e576 Ar582 (j := (1 : Int32)) hin582 (g := (mkF m 104 #[.val (.int k1), .val (.int k2), .val (.int k3), .val (.long k4), .second, .val (.int k5), .val (.int k6), .val (.int (4 : Int32)), .val (.int v18), .val (.ref b545), .val (.ref b570), .unset, .unset, .unset, .unset, .unset, .unset, .unset] [(.int (((k4 >>> ((8 : Int32) &&& 0x3f).toInt64).toInt32).toInt8.toInt32)), (.int (1 : Int32)), (.ref b570)])) rfl rfl (hb hby at_104)
    have F583 : Arv Z hX582 b570 kx570 .byte (8 : Int32) [(.int (nar .byte ((k4.toInt32).toInt8.toInt32))), (.int (nar .byte (((k4 >>> ((8 : Int32) &&& 0x3f).toInt64).toInt32).toInt8.toInt32))), (.int (0 : Int32)), (.int (0 : Int32)), (.int (0 : Int32)), (.int (0 : Int32)), (.int (0 : Int32)), (.int (0 : Int32))] (.int (0 : Int32)) := Arv.set Ar582 q582 S582 M582 H582 G582 (fits_nar_byte _) W582 1 rfl (Nat.le_of_ble_eq_true rfl)
    have N582 := Fr.snoc X582 N576 g_b570
    have F584 : Arv Z hX582 b545 kx545 .byte (4 : Int32) [(.int (nar .byte (k3.toInt8.toInt32))), (.int (nar .byte ((k3 >>> ((8 : Int32) &&& 31)).toInt8.toInt32))), (.int (nar .byte ((k3 >>> ((16 : Int32) &&& 31)).toInt8.toInt32))), (.int (nar .byte ((k3 >>> ((24 : Int32) &&& 31)).toInt8.toInt32)))] (.int (0 : Int32)) := F578.other W582 ne_b545_b570
    have Z585 : n0 ≤ hX582.size := Nat.le_trans Z579 (Keep.of_wr W582).1
    have hk586 := Nat.le_trans hk580 (show _ ≤ hX582.size from (Keep.of_wr W582).1)
    have K587 : Keep h0 hX582 [] := K581.wr W582 (Or.inr sz_b570)
    obtain ⟨cl588, Ar588, q588, S588, M588, H588, G588⟩ := id F583
    have hin588 : ¬ ((2 : Int32) < 0 ∨ cl588.slots.size ≤ ((2 : Int32)).toNatClampNeg) := inb_of S588 ⟨by decide, by decide⟩
    obtain ⟨T588, hX588, X588, e588, W588, st588⟩ := stB X582 hx hZ e582 Ar588 (j := (2 : Int32)) hin588 (g := (mkF m 114 #[.val (.int k1), .val (.int k2), .val (.int k3), .val (.long k4), .second, .val (.int k5), .val (.int k6), .val (.int (4 : Int32)), .val (.int v18), .val (.ref b545), .val (.ref b570), .unset, .unset, .unset, .unset, .unset, .unset, .unset] [(.int (((k4 >>> ((16 : Int32) &&& 0x3f).toInt64).toInt32).toInt8.toInt32)), (.int (2 : Int32)), (.ref b570)])) rfl rfl (hb hby at_114)
    have F589 : Arv Z hX588 b570 kx570 .byte (8 : Int32) [(.int (nar .byte ((k4.toInt32).toInt8.toInt32))), (.int (nar .byte (((k4 >>> ((8 : Int32) &&& 0x3f).toInt64).toInt32).toInt8.toInt32))), (.int (nar .byte (((k4 >>> ((16 : Int32) &&& 0x3f).toInt64).toInt32).toInt8.toInt32))), (.int (0 : Int32)), (.int (0 : Int32)), (.int (0 : Int32)), (.int (0 : Int32)), (.int (0 : Int32))] (.int (0 : Int32)) := Arv.set Ar588 q588 S588 M588 H588 G588 (fits_nar_byte _) W588 2 rfl (Nat.le_of_ble_eq_true rfl)
    have N588 := Fr.snoc X588 N582 g_b570
    have F590 : Arv Z hX588 b545 kx545 .byte (4 : Int32) [(.int (nar .byte (k3.toInt8.toInt32))), (.int (nar .byte ((k3 >>> ((8 : Int32) &&& 31)).toInt8.toInt32))), (.int (nar .byte ((k3 >>> ((16 : Int32) &&& 31)).toInt8.toInt32))), (.int (nar .byte ((k3 >>> ((24 : Int32) &&& 31)).toInt8.toInt32)))] (.int (0 : Int32)) := F584.other W588 ne_b545_b570
    have Z591 : n0 ≤ hX588.size := Nat.le_trans Z585 (Keep.of_wr W588).1
    have hk592 := Nat.le_trans hk586 (show _ ≤ hX588.size from (Keep.of_wr W588).1)
    have K593 : Keep h0 hX588 [] := K587.wr W588 (Or.inr sz_b570)
    obtain ⟨cl594, Ar594, q594, S594, M594, H594, G594⟩ := id F589
    have hin594 : ¬ ((3 : Int32) < 0 ∨ cl594.slots.size ≤ ((3 : Int32)).toNatClampNeg) := inb_of S594 ⟨by decide, by decide⟩
    obtain ⟨T594, hX594, X594, e594, W594, st594⟩ := stB X588 hx hZ e588 Ar594 (j := (3 : Int32)) hin594 (g := (mkF m 124 #[.val (.int k1), .val (.int k2), .val (.int k3), .val (.long k4), .second, .val (.int k5), .val (.int k6), .val (.int (4 : Int32)), .val (.int v18), .val (.ref b545), .val (.ref b570), .unset, .unset, .unset, .unset, .unset, .unset, .unset] [(.int (((k4 >>> ((24 : Int32) &&& 0x3f).toInt64).toInt32).toInt8.toInt32)), (.int (3 : Int32)), (.ref b570)])) rfl rfl (hb hby at_124)
    have F595 : Arv Z hX594 b570 kx570 .byte (8 : Int32) [(.int (nar .byte ((k4.toInt32).toInt8.toInt32))), (.int (nar .byte (((k4 >>> ((8 : Int32) &&& 0x3f).toInt64).toInt32).toInt8.toInt32))), (.int (nar .byte (((k4 >>> ((16 : Int32) &&& 0x3f).toInt64).toInt32).toInt8.toInt32))), (.int (nar .byte (((k4 >>> ((24 : Int32) &&& 0x3f).toInt64).toInt32).toInt8.toInt32))), (.int (0 : Int32)), (.int (0 : Int32)), (.int (0 : Int32)), (.int (0 : Int32))] (.int (0 : Int32)) := Arv.set Ar594 q594 S594 M594 H594 G594 (fits_nar_byte _) W594 3 rfl (Nat.le_of_ble_eq_true rfl)
    have N594 := Fr.snoc X594 N588 g_b570
    have F596 : Arv Z hX594 b545 kx545 .byte (4 : Int32) [(.int (nar .byte (k3.toInt8.toInt32))), (.int (nar .byte ((k3 >>> ((8 : Int32) &&& 31)).toInt8.toInt32))), (.int (nar .byte ((k3 >>> ((16 : Int32) &&& 31)).toInt8.toInt32))), (.int (nar .byte ((k3 >>> ((24 : Int32) &&& 31)).toInt8.toInt32)))] (.int (0 : Int32)) := F590.other W594 ne_b545_b570
    have Z597 : n0 ≤ hX594.size := Nat.le_trans Z591 (Keep.of_wr W594).1
    have hk598 := Nat.le_trans hk592 (show _ ≤ hX594.size from (Keep.of_wr W594).1)
    have K599 : Keep h0 hX594 [] := K593.wr W594 (Or.inr sz_b570)
    obtain ⟨cl600, Ar600, q600, S600, M600, H600, G600⟩ := id F595
    have hin600 : ¬ ((4 : Int32) < 0 ∨ cl600.slots.size ≤ ((4 : Int32)).toNatClampNeg) := inb_of S600 ⟨by decide, by decide⟩
    obtain ⟨T600, hX600, X600, e600, W600, st600⟩ := stB X594 hx hZ e594 Ar600 (j := (4 : Int32)) hin600 (g := (mkF m 134 #[.val (.int k1), .val (.int k2), .val (.int k3), .val (.long k4), .second, .val (.int k5), .val (.int k6), .val (.int (4 : Int32)), .val (.int v18), .val (.ref b545), .val (.ref b570), .unset, .unset, .unset, .unset, .unset, .unset, .unset] [(.int (((k4 >>> ((32 : Int32) &&& 0x3f).toInt64).toInt32).toInt8.toInt32)), (.int (4 : Int32)), (.ref b570)])) rfl rfl (hb hby at_134)
    have F601 : Arv Z hX600 b570 kx570 .byte (8 : Int32) [(.int (nar .byte ((k4.toInt32).toInt8.toInt32))), (.int (nar .byte (((k4 >>> ((8 : Int32) &&& 0x3f).toInt64).toInt32).toInt8.toInt32))), (.int (nar .byte (((k4 >>> ((16 : Int32) &&& 0x3f).toInt64).toInt32).toInt8.toInt32))), (.int (nar .byte (((k4 >>> ((24 : Int32) &&& 0x3f).toInt64).toInt32).toInt8.toInt32))), (.int (nar .byte (((k4 >>> ((32 : Int32) &&& 0x3f).toInt64).toInt32).toInt8.toInt32))), (.int (0 : Int32)), (.int (0 : Int32)), (.int (0 : Int32))] (.int (0 : Int32)) := Arv.set Ar600 q600 S600 M600 H600 G600 (fits_nar_byte _) W600 4 rfl (Nat.le_of_ble_eq_true rfl)
    have N600 := Fr.snoc X600 N594 g_b570
    have F602 : Arv Z hX600 b545 kx545 .byte (4 : Int32) [(.int (nar .byte (k3.toInt8.toInt32))), (.int (nar .byte ((k3 >>> ((8 : Int32) &&& 31)).toInt8.toInt32))), (.int (nar .byte ((k3 >>> ((16 : Int32) &&& 31)).toInt8.toInt32))), (.int (nar .byte ((k3 >>> ((24 : Int32) &&& 31)).toInt8.toInt32)))] (.int (0 : Int32)) := F596.other W600 ne_b545_b570
    have Z603 : n0 ≤ hX600.size := Nat.le_trans Z597 (Keep.of_wr W600).1
    have hk604 := Nat.le_trans hk598 (show _ ≤ hX600.size from (Keep.of_wr W600).1)
    have K605 : Keep h0 hX600 [] := K599.wr W600 (Or.inr sz_b570)
    obtain ⟨cl606, Ar606, q606, S606, M606, H606, G606⟩ := id F601
    have hin606 : ¬ ((5 : Int32) < 0 ∨ cl606.slots.size ≤ ((5 : Int32)).toNatClampNeg) := inb_of S606 ⟨by decide, by decide⟩
    obtain ⟨T606, hX606, X606, e606, W606, st606⟩ := stB X600 hx hZ e600 Ar606 (j := (5 : Int32)) hin606 (g := (mkF m 144 #[.val (.int k1), .val (.int k2), .val (.int k3), .val (.long k4), .second, .val (.int k5), .val (.int k6), .val (.int (4 : Int32)), .val (.int v18), .val (.ref b545), .val (.ref b570), .unset, .unset, .unset, .unset, .unset, .unset, .unset] [(.int (((k4 >>> ((40 : Int32) &&& 0x3f).toInt64).toInt32).toInt8.toInt32)), (.int (5 : Int32)), (.ref b570)])) rfl rfl (hb hby at_144)
    have F607 : Arv Z hX606 b570 kx570 .byte (8 : Int32) [(.int (nar .byte ((k4.toInt32).toInt8.toInt32))), (.int (nar .byte (((k4 >>> ((8 : Int32) &&& 0x3f).toInt64).toInt32).toInt8.toInt32))), (.int (nar .byte (((k4 >>> ((16 : Int32) &&& 0x3f).toInt64).toInt32).toInt8.toInt32))), (.int (nar .byte (((k4 >>> ((24 : Int32) &&& 0x3f).toInt64).toInt32).toInt8.toInt32))), (.int (nar .byte (((k4 >>> ((32 : Int32) &&& 0x3f).toInt64).toInt32).toInt8.toInt32))), (.int (nar .byte (((k4 >>> ((40 : Int32) &&& 0x3f).toInt64).toInt32).toInt8.toInt32))), (.int (0 : Int32)), (.int (0 : Int32))] (.int (0 : Int32)) := Arv.set Ar606 q606 S606 M606 H606 G606 (fits_nar_byte _) W606 5 rfl (Nat.le_of_ble_eq_true rfl)
    have N606 := Fr.snoc X606 N600 g_b570
    have F608 : Arv Z hX606 b545 kx545 .byte (4 : Int32) [(.int (nar .byte (k3.toInt8.toInt32))), (.int (nar .byte ((k3 >>> ((8 : Int32) &&& 31)).toInt8.toInt32))), (.int (nar .byte ((k3 >>> ((16 : Int32) &&& 31)).toInt8.toInt32))), (.int (nar .byte ((k3 >>> ((24 : Int32) &&& 31)).toInt8.toInt32)))] (.int (0 : Int32)) := F602.other W606 ne_b545_b570
    have Z609 : n0 ≤ hX606.size := Nat.le_trans Z603 (Keep.of_wr W606).1
    have hk610 := Nat.le_trans hk604 (show _ ≤ hX606.size from (Keep.of_wr W606).1)
    have K611 : Keep h0 hX606 [] := K605.wr W606 (Or.inr sz_b570)
    obtain ⟨cl612, Ar612, q612, S612, M612, H612, G612⟩ := id F607
    have hin612 : ¬ ((6 : Int32) < 0 ∨ cl612.slots.size ≤ ((6 : Int32)).toNatClampNeg) := inb_of S612 ⟨by decide, by decide⟩
    obtain ⟨T612, hX612, X612, e612, W612, st612⟩ := stB X606 hx hZ e606 Ar612 (j := (6 : Int32)) hin612 (g := (mkF m 155 #[.val (.int k1), .val (.int k2), .val (.int k3), .val (.long k4), .second, .val (.int k5), .val (.int k6), .val (.int (4 : Int32)), .val (.int v18), .val (.ref b545), .val (.ref b570), .unset, .unset, .unset, .unset, .unset, .unset, .unset] [(.int (((k4 >>> ((48 : Int32) &&& 0x3f).toInt64).toInt32).toInt8.toInt32)), (.int (6 : Int32)), (.ref b570)])) rfl rfl (hb hby at_155)
    have F613 : Arv Z hX612 b570 kx570 .byte (8 : Int32) [(.int (nar .byte ((k4.toInt32).toInt8.toInt32))), (.int (nar .byte (((k4 >>> ((8 : Int32) &&& 0x3f).toInt64).toInt32).toInt8.toInt32))), (.int (nar .byte (((k4 >>> ((16 : Int32) &&& 0x3f).toInt64).toInt32).toInt8.toInt32))), (.int (nar .byte (((k4 >>> ((24 : Int32) &&& 0x3f).toInt64).toInt32).toInt8.toInt32))), (.int (nar .byte (((k4 >>> ((32 : Int32) &&& 0x3f).toInt64).toInt32).toInt8.toInt32))), (.int (nar .byte (((k4 >>> ((40 : Int32) &&& 0x3f).toInt64).toInt32).toInt8.toInt32))), (.int (nar .byte (((k4 >>> ((48 : Int32) &&& 0x3f).toInt64).toInt32).toInt8.toInt32))), (.int (0 : Int32))] (.int (0 : Int32)) := Arv.set Ar612 q612 S612 M612 H612 G612 (fits_nar_byte _) W612 6 rfl (Nat.le_of_ble_eq_true rfl)
    have N612 := Fr.snoc X612 N606 g_b570
    have F614 : Arv Z hX612 b545 kx545 .byte (4 : Int32) [(.int (nar .byte (k3.toInt8.toInt32))), (.int (nar .byte ((k3 >>> ((8 : Int32) &&& 31)).toInt8.toInt32))), (.int (nar .byte ((k3 >>> ((16 : Int32) &&& 31)).toInt8.toInt32))), (.int (nar .byte ((k3 >>> ((24 : Int32) &&& 31)).toInt8.toInt32)))] (.int (0 : Int32)) := F608.other W612 ne_b545_b570
    have Z615 : n0 ≤ hX612.size := Nat.le_trans Z609 (Keep.of_wr W612).1
    have hk616 := Nat.le_trans hk610 (show _ ≤ hX612.size from (Keep.of_wr W612).1)
    have K617 : Keep h0 hX612 [] := K611.wr W612 (Or.inr sz_b570)
    obtain ⟨cl618, Ar618, q618, S618, M618, H618, G618⟩ := id F613
    have hin618 : ¬ ((7 : Int32) < 0 ∨ cl618.slots.size ≤ ((7 : Int32)).toNatClampNeg) := inb_of S618 ⟨by decide, by decide⟩
    obtain ⟨T618, hX618, X618, e618, W618, st618⟩ := stB X612 hx hZ e612 Ar618 (j := (7 : Int32)) hin618 (g := (mkF m 166 #[.val (.int k1), .val (.int k2), .val (.int k3), .val (.long k4), .second, .val (.int k5), .val (.int k6), .val (.int (4 : Int32)), .val (.int v18), .val (.ref b545), .val (.ref b570), .unset, .unset, .unset, .unset, .unset, .unset, .unset] [(.int (((k4 >>> ((56 : Int32) &&& 0x3f).toInt64).toInt32).toInt8.toInt32)), (.int (7 : Int32)), (.ref b570)])) rfl rfl (hb hby at_166)
    have F619 : Arv Z hX618 b570 kx570 .byte (8 : Int32) [(.int (nar .byte ((k4.toInt32).toInt8.toInt32))), (.int (nar .byte (((k4 >>> ((8 : Int32) &&& 0x3f).toInt64).toInt32).toInt8.toInt32))), (.int (nar .byte (((k4 >>> ((16 : Int32) &&& 0x3f).toInt64).toInt32).toInt8.toInt32))), (.int (nar .byte (((k4 >>> ((24 : Int32) &&& 0x3f).toInt64).toInt32).toInt8.toInt32))), (.int (nar .byte (((k4 >>> ((32 : Int32) &&& 0x3f).toInt64).toInt32).toInt8.toInt32))), (.int (nar .byte (((k4 >>> ((40 : Int32) &&& 0x3f).toInt64).toInt32).toInt8.toInt32))), (.int (nar .byte (((k4 >>> ((48 : Int32) &&& 0x3f).toInt64).toInt32).toInt8.toInt32))), (.int (nar .byte (((k4 >>> ((56 : Int32) &&& 0x3f).toInt64).toInt32).toInt8.toInt32)))] (.int (0 : Int32)) := Arv.set Ar618 q618 S618 M618 H618 G618 (fits_nar_byte _) W618 7 rfl (Nat.le_of_ble_eq_true rfl)
    have N618 := Fr.snoc X618 N612 g_b570
    have F620 : Arv Z hX618 b545 kx545 .byte (4 : Int32) [(.int (nar .byte (k3.toInt8.toInt32))), (.int (nar .byte ((k3 >>> ((8 : Int32) &&& 31)).toInt8.toInt32))), (.int (nar .byte ((k3 >>> ((16 : Int32) &&& 31)).toInt8.toInt32))), (.int (nar .byte ((k3 >>> ((24 : Int32) &&& 31)).toInt8.toInt32)))] (.int (0 : Int32)) := F614.other W618 ne_b545_b570
    have Z621 : n0 ≤ hX618.size := Nat.le_trans Z615 (Keep.of_wr W618).1
    have hk622 := Nat.le_trans hk616 (show _ ≤ hX618.size from (Keep.of_wr W618).1)
    have K623 : Keep h0 hX618 [] := K617.wr W618 (Or.inr sz_b570)
    obtain ⟨_, _, ⟨T624, L624, k624, n624⟩, -, X624, ⟨Lc624, hQ624, l624, y624, z624⟩, st624⟩ := Jvm.LawKit.callS X618 hx (y := (⟨"com/example/marcotte/marcotte/NameWrittenAtPinLaw", "delta", "(III)B"⟩ : MethodName)) hown (mvT hZ (hw _ (List.mem_of_getElem? (i := 2) rfl))) (mvT hZ (hw _ (List.mem_of_getElem? (i := 3) rfl))) (mvT hZ (hw _ (List.mem_of_getElem? (i := 4) rfl))) (mvT hZ (hw _ (List.mem_of_getElem? (i := 5) rfl))) (by decide) (backOf (W := 0) (rm1 l Z a0 hw [] k6 k5 (0 : Int32) hX618 n0 Z621 ) hZ (hw _ (List.mem_of_getElem? (i := 5) rfl)) (hw _ (List.mem_of_getElem? (i := 4) rfl)) (by decide) (by decide)) (g := (mkF m 172 #[.val (.int k1), .val (.int k2), .val (.int k3), .val (.long k4), .second, .val (.int k5), .val (.int k6), .val (.int (4 : Int32)), .val (.int v18), .val (.ref b545), .val (.ref b570), .unset, .unset, .unset, .unset, .unset, .unset, .unset] [(.int (0 : Int32)), (.int k5), (.int k6)])) rfl (by rw [hml]; rfl) (argsL := [(.int k6), (.int k5), (.int (0 : Int32))]) (rest := []) (lenOf pd_1 rfl) rfl (by show 2 * 0 + _ ≤ _; exact Nat.le_of_eq rfl) (hb hby at_172) (fun _ _ => ⟨rfl, e618, (by decide : 2 + 0 ≤ _), (by decide : 12 + 0 ≤ _)⟩)
    dsimp only [Pt.U, Pt.locs, Pt.cells, Pt.slots] at X624 l624 y624 z624 st624 hQ624
    subst l624 y624 z624
    obtain ⟨rfl, N624q, e624⟩ := hQ624
    have N624 := Fr.app N618 N624q
    obtain ⟨r172, hr172⟩ : ∃ z_q : Int32, z_q = (own_f1 k6 k5 (0 : Int32)) := ⟨_, rfl⟩
    obtain ⟨_, _, ⟨T625, L625, k625, n625⟩, -, X625, ⟨Lc625, hQ625, l625, y625, z625⟩, st625⟩ := Jvm.LawKit.callS X624 hx (y := (⟨"com/example/marcotte/marcotte/NameWrittenAtPinLaw", "delta", "(III)B"⟩ : MethodName)) hown (mvT hZ (hw _ (List.mem_of_getElem? (i := 2) rfl))) (mvT hZ (hw _ (List.mem_of_getElem? (i := 3) rfl))) (mvT hZ (hw _ (List.mem_of_getElem? (i := 4) rfl))) (mvT hZ (hw _ (List.mem_of_getElem? (i := 5) rfl))) (by decide) (backOf (W := 0) (rm1 l Z a0 hw [] k6 k5 (1 : Int32) hX618 n0 Z621 ) hZ (hw _ (List.mem_of_getElem? (i := 5) rfl)) (hw _ (List.mem_of_getElem? (i := 4) rfl)) (by decide) (by decide)) (g := (mkF m 182 #[.val (.int k1), .val (.int k2), .val (.int k3), .val (.long k4), .second, .val (.int k5), .val (.int k6), .val (.int (4 : Int32)), .val (.int v18), .val (.ref b545), .val (.ref b570), .val (.int r172), .unset, .unset, .unset, .unset, .unset, .unset] [(.int (1 : Int32)), (.int k5), (.int k6)])) rfl (by rw [hml]; rfl) (argsL := [(.int k6), (.int k5), (.int (1 : Int32))]) (rest := []) (lenOf pd_1 rfl) rfl (by show 2 * 0 + _ ≤ _; exact Nat.le_of_eq rfl) (hb hby at_182) (fun _ _ => ⟨rfl, e624, (by decide : 2 + 0 ≤ _), (by decide : 12 + 0 ≤ _)⟩)
    dsimp only [Pt.U, Pt.locs, Pt.cells, Pt.slots] at X625 l625 y625 z625 st625 hQ625
    subst l625 y625 z625
    obtain ⟨rfl, N625q, e625⟩ := hQ625
    have N625 := Fr.app N624 N625q
    obtain ⟨r182, hr182⟩ : ∃ z_q : Int32, z_q = (own_f1 k6 k5 (1 : Int32)) := ⟨_, rfl⟩
    obtain ⟨_, _, ⟨T626, L626, k626, n626⟩, -, X626, ⟨Lc626, hQ626, l626, y626, z626⟩, st626⟩ := Jvm.LawKit.callS X625 hx (y := (⟨"com/example/marcotte/marcotte/NameWrittenAtPinLaw", "delta", "(III)B"⟩ : MethodName)) hown (mvT hZ (hw _ (List.mem_of_getElem? (i := 2) rfl))) (mvT hZ (hw _ (List.mem_of_getElem? (i := 3) rfl))) (mvT hZ (hw _ (List.mem_of_getElem? (i := 4) rfl))) (mvT hZ (hw _ (List.mem_of_getElem? (i := 5) rfl))) (by decide) (backOf (W := 0) (rm1 l Z a0 hw [] k6 k5 (2 : Int32) hX618 n0 Z621 ) hZ (hw _ (List.mem_of_getElem? (i := 5) rfl)) (hw _ (List.mem_of_getElem? (i := 4) rfl)) (by decide) (by decide)) (g := (mkF m 192 #[.val (.int k1), .val (.int k2), .val (.int k3), .val (.long k4), .second, .val (.int k5), .val (.int k6), .val (.int (4 : Int32)), .val (.int v18), .val (.ref b545), .val (.ref b570), .val (.int r172), .val (.int r182), .unset, .unset, .unset, .unset, .unset] [(.int (2 : Int32)), (.int k5), (.int k6)])) rfl (by rw [hml]; rfl) (argsL := [(.int k6), (.int k5), (.int (2 : Int32))]) (rest := []) (lenOf pd_1 rfl) rfl (by show 2 * 0 + _ ≤ _; exact Nat.le_of_eq rfl) (hb hby at_192) (fun _ _ => ⟨rfl, e625, (by decide : 2 + 0 ≤ _), (by decide : 12 + 0 ≤ _)⟩)
    dsimp only [Pt.U, Pt.locs, Pt.cells, Pt.slots] at X626 l626 y626 z626 st626 hQ626
    subst l626 y626 z626
    obtain ⟨rfl, N626q, e626⟩ := hQ626
    have N626 := Fr.app N625 N626q
    obtain ⟨r192, hr192⟩ : ∃ z_q : Int32, z_q = (own_f1 k6 k5 (2 : Int32)) := ⟨_, rfl⟩
    obtain ⟨_, _, ⟨T627, L627, k627, n627⟩, -, X627, ⟨Lc627, hQ627, l627, y627, z627⟩, st627⟩ := Jvm.LawKit.callS X626 hx (y := (⟨"com/example/marcotte/marcotte/NameWrittenAtPinLaw", "delta", "(III)B"⟩ : MethodName)) hown (mvT hZ (hw _ (List.mem_of_getElem? (i := 2) rfl))) (mvT hZ (hw _ (List.mem_of_getElem? (i := 3) rfl))) (mvT hZ (hw _ (List.mem_of_getElem? (i := 4) rfl))) (mvT hZ (hw _ (List.mem_of_getElem? (i := 5) rfl))) (by decide) (backOf (W := 0) (rm1 l Z a0 hw [] k6 k5 (3 : Int32) hX618 n0 Z621 ) hZ (hw _ (List.mem_of_getElem? (i := 5) rfl)) (hw _ (List.mem_of_getElem? (i := 4) rfl)) (by decide) (by decide)) (g := (mkF m 202 #[.val (.int k1), .val (.int k2), .val (.int k3), .val (.long k4), .second, .val (.int k5), .val (.int k6), .val (.int (4 : Int32)), .val (.int v18), .val (.ref b545), .val (.ref b570), .val (.int r172), .val (.int r182), .val (.int r192), .unset, .unset, .unset, .unset] [(.int (3 : Int32)), (.int k5), (.int k6)])) rfl (by rw [hml]; rfl) (argsL := [(.int k6), (.int k5), (.int (3 : Int32))]) (rest := []) (lenOf pd_1 rfl) rfl (by show 2 * 0 + _ ≤ _; exact Nat.le_of_eq rfl) (hb hby at_202) (fun _ _ => ⟨rfl, e626, (by decide : 2 + 0 ≤ _), (by decide : 12 + 0 ≤ _)⟩)
    dsimp only [Pt.U, Pt.locs, Pt.cells, Pt.slots] at X627 l627 y627 z627 st627 hQ627
    subst l627 y627 z627
    obtain ⟨rfl, N627q, e627⟩ := hQ627
    have N627 := Fr.app N626 N627q
    obtain ⟨r202, hr202⟩ : ∃ z_q : Int32, z_q = (own_f1 k6 k5 (3 : Int32)) := ⟨_, rfl⟩
    obtain ⟨cl628, Ar628, q628, S628, M628, H628, G628⟩ := id F620
    have hin628 : ¬ ((0 : Int32) < 0 ∨ cl628.slots.size ≤ ((0 : Int32)).toNatClampNeg) := inb_of S628 ⟨by decide, by decide⟩
    have hat628 : cl628.slots[((0 : Int32)).toNatClampNeg]? = some (.int (nar .byte (k3.toInt8.toInt32))) := Has.at H628 hin628 rfl
    obtain ⟨cl629, Ar629, q629, S629, M629, H629, G629⟩ := id F619.arh
    have hin629 : ¬ (v18 < 0 ∨ cl629.slots.size ≤ (v18).toNatClampNeg) := inb_of S629 (own_inb_0_224_s4 k1 k2 k3 k4 k5 k6 hv6 v18 hv18 r172 hr172 r182 hr182 r192 hr192 r202 hr202)
    obtain ⟨T629, hX629, X629, e629, W629, st629⟩ := stB X627 hx hZ e627 Ar629 (j := v18) hin629 (g := (mkF m 224 #[.val (.int k1), .val (.int k2), .val (.int k3), .val (.long k4), .second, .val (.int k5), .val (.int k6), .val (.int (4 : Int32)), .val (.int v18), .val (.ref b545), .val (.ref b570), .val (.int r172), .val (.int r182), .val (.int r192), .val (.int r202), .unset, .unset, .unset] [(.int (((nar .byte (k3.toInt8.toInt32)) ^^^ r172).toInt8.toInt32)), (.int v18), (.ref b570)])) rfl rfl (hb hby at_224)
    have F630 : Arh Z hX629 b570 kx570 .byte (8 : Int32) [(v18, (.int (nar .byte (((nar .byte (k3.toInt8.toInt32)) ^^^ r172).toInt8.toInt32))))] [(.int (nar .byte ((k4.toInt32).toInt8.toInt32))), (.int (nar .byte (((k4 >>> ((8 : Int32) &&& 0x3f).toInt64).toInt32).toInt8.toInt32))), (.int (nar .byte (((k4 >>> ((16 : Int32) &&& 0x3f).toInt64).toInt32).toInt8.toInt32))), (.int (nar .byte (((k4 >>> ((24 : Int32) &&& 0x3f).toInt64).toInt32).toInt8.toInt32))), (.int (nar .byte (((k4 >>> ((32 : Int32) &&& 0x3f).toInt64).toInt32).toInt8.toInt32))), (.int (nar .byte (((k4 >>> ((40 : Int32) &&& 0x3f).toInt64).toInt32).toInt8.toInt32))), (.int (nar .byte (((k4 >>> ((48 : Int32) &&& 0x3f).toInt64).toInt32).toInt8.toInt32))), (.int (nar .byte (((k4 >>> ((56 : Int32) &&& 0x3f).toInt64).toInt32).toInt8.toInt32)))] (.int (0 : Int32)) := Arh.push Ar629 q629 S629 M629 H629 G629 (fits_nar_byte _) W629 hin629
    have N629 := Fr.snoc X629 N627 g_b570
    have F631 : Arv Z hX629 b545 kx545 .byte (4 : Int32) [(.int (nar .byte (k3.toInt8.toInt32))), (.int (nar .byte ((k3 >>> ((8 : Int32) &&& 31)).toInt8.toInt32))), (.int (nar .byte ((k3 >>> ((16 : Int32) &&& 31)).toInt8.toInt32))), (.int (nar .byte ((k3 >>> ((24 : Int32) &&& 31)).toInt8.toInt32)))] (.int (0 : Int32)) := F620.other W629 ne_b545_b570
    have Z632 : n0 ≤ hX629.size := Nat.le_trans Z621 (Keep.of_wr W629).1
    have hk633 := Nat.le_trans hk622 (show _ ≤ hX629.size from (Keep.of_wr W629).1)
    have K634 : Keep h0 hX629 [] := K623.wr W629 (Or.inr sz_b570)
    obtain ⟨cl635, Ar635, q635, S635, M635, H635, G635⟩ := id F631
    have hin635 : ¬ ((1 : Int32) < 0 ∨ cl635.slots.size ≤ ((1 : Int32)).toNatClampNeg) := inb_of S635 ⟨by decide, by decide⟩
    have hat635 : cl635.slots[((1 : Int32)).toNatClampNeg]? = some (.int (nar .byte ((k3 >>> ((8 : Int32) &&& 31)).toInt8.toInt32))) := Has.at H635 hin635 rfl
    obtain ⟨cl636, Ar636, q636, S636, M636, H636, G636⟩ := id F630
    have hin636 : ¬ ((v18 + (1 : Int32)) < 0 ∨ cl636.slots.size ≤ ((v18 + (1 : Int32))).toNatClampNeg) := inb_of S636 (own_inb_0_245_s4 k1 k2 k3 k4 k5 k6 hv6 v18 hv18 r172 hr172 r182 hr182 r192 hr192 r202 hr202)
    obtain ⟨T636, hX636, X636, e636, W636, st636⟩ := stB X629 hx hZ e629 Ar636 (j := (v18 + (1 : Int32))) hin636 (g := (mkF m 245 #[.val (.int k1), .val (.int k2), .val (.int k3), .val (.long k4), .second, .val (.int k5), .val (.int k6), .val (.int (4 : Int32)), .val (.int v18), .val (.ref b545), .val (.ref b570), .val (.int r172), .val (.int r182), .val (.int r192), .val (.int r202), .unset, .unset, .unset] [(.int (((nar .byte ((k3 >>> ((8 : Int32) &&& 31)).toInt8.toInt32)) ^^^ r182).toInt8.toInt32)), (.int (v18 + (1 : Int32))), (.ref b570)])) rfl rfl (hb hby at_245)
    have F637 : Arh Z hX636 b570 kx570 .byte (8 : Int32) [((v18 + (1 : Int32)), (.int (nar .byte (((nar .byte ((k3 >>> ((8 : Int32) &&& 31)).toInt8.toInt32)) ^^^ r182).toInt8.toInt32)))), (v18, (.int (nar .byte (((nar .byte (k3.toInt8.toInt32)) ^^^ r172).toInt8.toInt32))))] [(.int (nar .byte ((k4.toInt32).toInt8.toInt32))), (.int (nar .byte (((k4 >>> ((8 : Int32) &&& 0x3f).toInt64).toInt32).toInt8.toInt32))), (.int (nar .byte (((k4 >>> ((16 : Int32) &&& 0x3f).toInt64).toInt32).toInt8.toInt32))), (.int (nar .byte (((k4 >>> ((24 : Int32) &&& 0x3f).toInt64).toInt32).toInt8.toInt32))), (.int (nar .byte (((k4 >>> ((32 : Int32) &&& 0x3f).toInt64).toInt32).toInt8.toInt32))), (.int (nar .byte (((k4 >>> ((40 : Int32) &&& 0x3f).toInt64).toInt32).toInt8.toInt32))), (.int (nar .byte (((k4 >>> ((48 : Int32) &&& 0x3f).toInt64).toInt32).toInt8.toInt32))), (.int (nar .byte (((k4 >>> ((56 : Int32) &&& 0x3f).toInt64).toInt32).toInt8.toInt32)))] (.int (0 : Int32)) := Arh.push Ar636 q636 S636 M636 H636 G636 (fits_nar_byte _) W636 hin636
    have N636 := Fr.snoc X636 N629 g_b570
    have F638 : Arv Z hX636 b545 kx545 .byte (4 : Int32) [(.int (nar .byte (k3.toInt8.toInt32))), (.int (nar .byte ((k3 >>> ((8 : Int32) &&& 31)).toInt8.toInt32))), (.int (nar .byte ((k3 >>> ((16 : Int32) &&& 31)).toInt8.toInt32))), (.int (nar .byte ((k3 >>> ((24 : Int32) &&& 31)).toInt8.toInt32)))] (.int (0 : Int32)) := F631.other W636 ne_b545_b570
    have Z639 : n0 ≤ hX636.size := Nat.le_trans Z632 (Keep.of_wr W636).1
    have hk640 := Nat.le_trans hk633 (show _ ≤ hX636.size from (Keep.of_wr W636).1)
    have K641 : Keep h0 hX636 [] := K634.wr W636 (Or.inr sz_b570)
    obtain ⟨cl642, Ar642, q642, S642, M642, H642, G642⟩ := id F638
    have hin642 : ¬ ((2 : Int32) < 0 ∨ cl642.slots.size ≤ ((2 : Int32)).toNatClampNeg) := inb_of S642 ⟨by decide, by decide⟩
    have hat642 : cl642.slots[((2 : Int32)).toNatClampNeg]? = some (.int (nar .byte ((k3 >>> ((16 : Int32) &&& 31)).toInt8.toInt32))) := Has.at H642 hin642 rfl
    obtain ⟨cl643, Ar643, q643, S643, M643, H643, G643⟩ := id F637
    have hin643 : ¬ ((v18 + (2 : Int32)) < 0 ∨ cl643.slots.size ≤ ((v18 + (2 : Int32))).toNatClampNeg) := inb_of S643 (own_inb_0_266_s4 k1 k2 k3 k4 k5 k6 hv6 v18 hv18 r172 hr172 r182 hr182 r192 hr192 r202 hr202)
    obtain ⟨T643, hX643, X643, e643, W643, st643⟩ := stB X636 hx hZ e636 Ar643 (j := (v18 + (2 : Int32))) hin643 (g := (mkF m 266 #[.val (.int k1), .val (.int k2), .val (.int k3), .val (.long k4), .second, .val (.int k5), .val (.int k6), .val (.int (4 : Int32)), .val (.int v18), .val (.ref b545), .val (.ref b570), .val (.int r172), .val (.int r182), .val (.int r192), .val (.int r202), .unset, .unset, .unset] [(.int (((nar .byte ((k3 >>> ((16 : Int32) &&& 31)).toInt8.toInt32)) ^^^ r192).toInt8.toInt32)), (.int (v18 + (2 : Int32))), (.ref b570)])) rfl rfl (hb hby at_266)
    have F644 : Arh Z hX643 b570 kx570 .byte (8 : Int32) [((v18 + (2 : Int32)), (.int (nar .byte (((nar .byte ((k3 >>> ((16 : Int32) &&& 31)).toInt8.toInt32)) ^^^ r192).toInt8.toInt32)))), ((v18 + (1 : Int32)), (.int (nar .byte (((nar .byte ((k3 >>> ((8 : Int32) &&& 31)).toInt8.toInt32)) ^^^ r182).toInt8.toInt32)))), (v18, (.int (nar .byte (((nar .byte (k3.toInt8.toInt32)) ^^^ r172).toInt8.toInt32))))] [(.int (nar .byte ((k4.toInt32).toInt8.toInt32))), (.int (nar .byte (((k4 >>> ((8 : Int32) &&& 0x3f).toInt64).toInt32).toInt8.toInt32))), (.int (nar .byte (((k4 >>> ((16 : Int32) &&& 0x3f).toInt64).toInt32).toInt8.toInt32))), (.int (nar .byte (((k4 >>> ((24 : Int32) &&& 0x3f).toInt64).toInt32).toInt8.toInt32))), (.int (nar .byte (((k4 >>> ((32 : Int32) &&& 0x3f).toInt64).toInt32).toInt8.toInt32))), (.int (nar .byte (((k4 >>> ((40 : Int32) &&& 0x3f).toInt64).toInt32).toInt8.toInt32))), (.int (nar .byte (((k4 >>> ((48 : Int32) &&& 0x3f).toInt64).toInt32).toInt8.toInt32))), (.int (nar .byte (((k4 >>> ((56 : Int32) &&& 0x3f).toInt64).toInt32).toInt8.toInt32)))] (.int (0 : Int32)) := Arh.push Ar643 q643 S643 M643 H643 G643 (fits_nar_byte _) W643 hin643
    have N643 := Fr.snoc X643 N636 g_b570
    have F645 : Arv Z hX643 b545 kx545 .byte (4 : Int32) [(.int (nar .byte (k3.toInt8.toInt32))), (.int (nar .byte ((k3 >>> ((8 : Int32) &&& 31)).toInt8.toInt32))), (.int (nar .byte ((k3 >>> ((16 : Int32) &&& 31)).toInt8.toInt32))), (.int (nar .byte ((k3 >>> ((24 : Int32) &&& 31)).toInt8.toInt32)))] (.int (0 : Int32)) := F638.other W643 ne_b545_b570
    have Z646 : n0 ≤ hX643.size := Nat.le_trans Z639 (Keep.of_wr W643).1
    have hk647 := Nat.le_trans hk640 (show _ ≤ hX643.size from (Keep.of_wr W643).1)
    have K648 : Keep h0 hX643 [] := K641.wr W643 (Or.inr sz_b570)
    obtain ⟨cl649, Ar649, q649, S649, M649, H649, G649⟩ := id F645
    have hin649 : ¬ ((3 : Int32) < 0 ∨ cl649.slots.size ≤ ((3 : Int32)).toNatClampNeg) := inb_of S649 ⟨by decide, by decide⟩
    have hat649 : cl649.slots[((3 : Int32)).toNatClampNeg]? = some (.int (nar .byte ((k3 >>> ((24 : Int32) &&& 31)).toInt8.toInt32))) := Has.at H649 hin649 rfl
    obtain ⟨cl650, Ar650, q650, S650, M650, H650, G650⟩ := id F644
    have hin650 : ¬ ((v18 + (3 : Int32)) < 0 ∨ cl650.slots.size ≤ ((v18 + (3 : Int32))).toNatClampNeg) := inb_of S650 (own_inb_0_287_s4 k1 k2 k3 k4 k5 k6 hv6 v18 hv18 r172 hr172 r182 hr182 r192 hr192 r202 hr202)
    obtain ⟨T650, hX650, X650, e650, W650, st650⟩ := stB X643 hx hZ e643 Ar650 (j := (v18 + (3 : Int32))) hin650 (g := (mkF m 287 #[.val (.int k1), .val (.int k2), .val (.int k3), .val (.long k4), .second, .val (.int k5), .val (.int k6), .val (.int (4 : Int32)), .val (.int v18), .val (.ref b545), .val (.ref b570), .val (.int r172), .val (.int r182), .val (.int r192), .val (.int r202), .unset, .unset, .unset] [(.int (((nar .byte ((k3 >>> ((24 : Int32) &&& 31)).toInt8.toInt32)) ^^^ r202).toInt8.toInt32)), (.int (v18 + (3 : Int32))), (.ref b570)])) rfl rfl (hb hby at_287)
    have F651 : Arh Z hX650 b570 kx570 .byte (8 : Int32) [((v18 + (3 : Int32)), (.int (nar .byte (((nar .byte ((k3 >>> ((24 : Int32) &&& 31)).toInt8.toInt32)) ^^^ r202).toInt8.toInt32)))), ((v18 + (2 : Int32)), (.int (nar .byte (((nar .byte ((k3 >>> ((16 : Int32) &&& 31)).toInt8.toInt32)) ^^^ r192).toInt8.toInt32)))), ((v18 + (1 : Int32)), (.int (nar .byte (((nar .byte ((k3 >>> ((8 : Int32) &&& 31)).toInt8.toInt32)) ^^^ r182).toInt8.toInt32)))), (v18, (.int (nar .byte (((nar .byte (k3.toInt8.toInt32)) ^^^ r172).toInt8.toInt32))))] [(.int (nar .byte ((k4.toInt32).toInt8.toInt32))), (.int (nar .byte (((k4 >>> ((8 : Int32) &&& 0x3f).toInt64).toInt32).toInt8.toInt32))), (.int (nar .byte (((k4 >>> ((16 : Int32) &&& 0x3f).toInt64).toInt32).toInt8.toInt32))), (.int (nar .byte (((k4 >>> ((24 : Int32) &&& 0x3f).toInt64).toInt32).toInt8.toInt32))), (.int (nar .byte (((k4 >>> ((32 : Int32) &&& 0x3f).toInt64).toInt32).toInt8.toInt32))), (.int (nar .byte (((k4 >>> ((40 : Int32) &&& 0x3f).toInt64).toInt32).toInt8.toInt32))), (.int (nar .byte (((k4 >>> ((48 : Int32) &&& 0x3f).toInt64).toInt32).toInt8.toInt32))), (.int (nar .byte (((k4 >>> ((56 : Int32) &&& 0x3f).toInt64).toInt32).toInt8.toInt32)))] (.int (0 : Int32)) := Arh.push Ar650 q650 S650 M650 H650 G650 (fits_nar_byte _) W650 hin650
    have N650 := Fr.snoc X650 N643 g_b570
    have F652 : Arv Z hX650 b545 kx545 .byte (4 : Int32) [(.int (nar .byte (k3.toInt8.toInt32))), (.int (nar .byte ((k3 >>> ((8 : Int32) &&& 31)).toInt8.toInt32))), (.int (nar .byte ((k3 >>> ((16 : Int32) &&& 31)).toInt8.toInt32))), (.int (nar .byte ((k3 >>> ((24 : Int32) &&& 31)).toInt8.toInt32)))] (.int (0 : Int32)) := F645.other W650 ne_b545_b570
    have Z653 : n0 ≤ hX650.size := Nat.le_trans Z646 (Keep.of_wr W650).1
    have hk654 := Nat.le_trans hk647 (show _ ≤ hX650.size from (Keep.of_wr W650).1)
    have K655 : Keep h0 hX650 [] := K648.wr W650 (Or.inr sz_b570)
    obtain ⟨m337, hm337⟩ : ∃ z_q : Int32, z_q = (if r172 = (0 : Int32) then (if r182 = (0 : Int32) then (if r192 = (0 : Int32) then (if r202 = (0 : Int32) then (1 : Int32) else (0 : Int32)) else (0 : Int32)) else (0 : Int32)) else (0 : Int32)) := ⟨_, rfl⟩
    have pre660 : ∀ tq, Steps p.tables e below (T650.setTop (mkF m 337 #[.val (.int k1), .val (.int k2), .val (.int k3), .val (.long k4), .second, .val (.int k5), .val (.int k6), .val (.int (4 : Int32)), .val (.int v18), .val (.ref b545), .val (.ref b570), .val (.int r172), .val (.int r182), .val (.int r192), .val (.int r202), .unset, .unset, .unset] [(.int m337)])) tq → Steps p.tables e below (s₁.setTop (entryFrame m #[(.int k1), (.int k2), (.int k3), (.long k4), (.int k5), (.int k6)] maxLocals)) tq := by
      intro tq kt
      refine pre1 _ ?_
      show Steps p.tables e below (s₁.setTop (mkF m 8 #[.val (.int k1), .val (.int k2), .val (.int k3), .val (.long k4), .second, .val (.int k5), .val (.int k6), .val (.int (4 : Int32)), .unset, .unset, .unset, .unset, .unset, .unset, .unset, .unset, .unset, .unset] [])) _
      refine XS.iloadN X0.here hx rfl (hb hby at_8) rfl ?_
      show Steps p.tables e below (s₁.setTop (mkF m 9 #[.val (.int k1), .val (.int k2), .val (.int k3), .val (.long k4), .second, .val (.int k5), .val (.int k6), .val (.int (4 : Int32)), .unset, .unset, .unset, .unset, .unset, .unset, .unset, .unset, .unset, .unset] [(.int k2)])) _
      refine X0.ldcInt hx hown (mvT hZ (hw _ (List.mem_of_getElem? (i := 0) rfl))) (g := (mkF m 9 #[.val (.int k1), .val (.int k2), .val (.int k3), .val (.long k4), .second, .val (.int k5), .val (.int k6), .val (.int (4 : Int32)), .unset, .unset, .unset, .unset, .unset, .unset, .unset, .unset, .unset, .unset] [(.int k2)])) rfl (hb hby at_9) _ ?_
      show Steps p.tables e below (s₁.setTop (mkF m 11 #[.val (.int k1), .val (.int k2), .val (.int k3), .val (.long k4), .second, .val (.int k5), .val (.int k6), .val (.int (4 : Int32)), .unset, .unset, .unset, .unset, .unset, .unset, .unset, .unset, .unset, .unset] [(.int (2147483647 : Int32)), (.int k2)])) _
      refine XS.iand X0.here hx rfl (hb hby at_11) rfl ?_
      show Steps p.tables e below (s₁.setTop (mkF m 12 #[.val (.int k1), .val (.int k2), .val (.int k3), .val (.long k4), .second, .val (.int k5), .val (.int k6), .val (.int (4 : Int32)), .unset, .unset, .unset, .unset, .unset, .unset, .unset, .unset, .unset, .unset] [(.int (k2 &&& (2147483647 : Int32)))])) _
      refine XS.bipush X0.here hx rfl (hb hby at_12) ?_
      show Steps p.tables e below (s₁.setTop (mkF m 14 #[.val (.int k1), .val (.int k2), .val (.int k3), .val (.long k4), .second, .val (.int k5), .val (.int k6), .val (.int (4 : Int32)), .unset, .unset, .unset, .unset, .unset, .unset, .unset, .unset, .unset, .unset] [(.int (9 : Int32)), (.int (k2 &&& (2147483647 : Int32)))])) _
      refine XS.iload X0.here hx rfl (hb hby at_14) rfl ?_
      show Steps p.tables e below (s₁.setTop (mkF m 16 #[.val (.int k1), .val (.int k2), .val (.int k3), .val (.long k4), .second, .val (.int k5), .val (.int k6), .val (.int (4 : Int32)), .unset, .unset, .unset, .unset, .unset, .unset, .unset, .unset, .unset, .unset] [(.int (4 : Int32)), (.int (9 : Int32)), (.int (k2 &&& (2147483647 : Int32)))])) _
      refine XS.isub X0.here hx rfl (hb hby at_16) rfl ?_
      show Steps p.tables e below (s₁.setTop (mkF m 17 #[.val (.int k1), .val (.int k2), .val (.int k3), .val (.long k4), .second, .val (.int k5), .val (.int k6), .val (.int (4 : Int32)), .unset, .unset, .unset, .unset, .unset, .unset, .unset, .unset, .unset, .unset] [(.int (5 : Int32)), (.int (k2 &&& (2147483647 : Int32)))])) _
      refine iremM X0 hx rfl (hb hby at_17) rfl (by decide : ¬ ((5 : Int32) = (0 : Int32))) ?_
      show Steps p.tables e below (s₁.setTop (mkF m 18 #[.val (.int k1), .val (.int k2), .val (.int k3), .val (.long k4), .second, .val (.int k5), .val (.int k6), .val (.int (4 : Int32)), .unset, .unset, .unset, .unset, .unset, .unset, .unset, .unset, .unset, .unset] [(.int ((k2 &&& (2147483647 : Int32)) % (5 : Int32)))])) _
      refine XS.istore X0.here hx rfl (hb hby at_18) rfl (l' := #[.val (.int k1), .val (.int k2), .val (.int k3), .val (.long k4), .second, .val (.int k5), .val (.int k6), .val (.int (4 : Int32)), .val (.int v18), .unset, .unset, .unset, .unset, .unset, .unset, .unset, .unset, .unset]) (by rw [hv18]; rfl) ?_
      show Steps p.tables e below (s₁.setTop (mkF m 20 #[.val (.int k1), .val (.int k2), .val (.int k3), .val (.long k4), .second, .val (.int k5), .val (.int k6), .val (.int (4 : Int32)), .val (.int v18), .unset, .unset, .unset, .unset, .unset, .unset, .unset, .unset, .unset] [])) _
      refine XS.iload X0.here hx rfl (hb hby at_20) rfl ?_
      show Steps p.tables e below (s₁.setTop (mkF m 22 #[.val (.int k1), .val (.int k2), .val (.int k3), .val (.long k4), .second, .val (.int k5), .val (.int k6), .val (.int (4 : Int32)), .val (.int v18), .unset, .unset, .unset, .unset, .unset, .unset, .unset, .unset, .unset] [(.int (4 : Int32))])) _
      refine st545 _ ?_
      show Steps p.tables e below (T545.setTop (mkF m 24 #[.val (.int k1), .val (.int k2), .val (.int k3), .val (.long k4), .second, .val (.int k5), .val (.int k6), .val (.int (4 : Int32)), .val (.int v18), .unset, .unset, .unset, .unset, .unset, .unset, .unset, .unset, .unset] [(.ref b545)])) _
      refine XS.astore X545.here hx rfl (hb hby at_24) rfl rfl (l' := #[.val (.int k1), .val (.int k2), .val (.int k3), .val (.long k4), .second, .val (.int k5), .val (.int k6), .val (.int (4 : Int32)), .val (.int v18), .val (.ref b545), .unset, .unset, .unset, .unset, .unset, .unset, .unset, .unset]) rfl ?_
      show Steps p.tables e below (T545.setTop (mkF m 26 #[.val (.int k1), .val (.int k2), .val (.int k3), .val (.long k4), .second, .val (.int k5), .val (.int k6), .val (.int (4 : Int32)), .val (.int v18), .val (.ref b545), .unset, .unset, .unset, .unset, .unset, .unset, .unset, .unset] [])) _
      refine XS.iload X545.here hx rfl (hb hby at_26) rfl ?_
      show Steps p.tables e below (T545.setTop (mkF m 28 #[.val (.int k1), .val (.int k2), .val (.int k3), .val (.long k4), .second, .val (.int k5), .val (.int k6), .val (.int (4 : Int32)), .val (.int v18), .val (.ref b545), .unset, .unset, .unset, .unset, .unset, .unset, .unset, .unset] [(.int (4 : Int32))])) _
      refine XS.ifNo X545.here hx rfl (hb hby at_28) rfl ((if0 _ _).trans (tlt (by decide)).2.2.2) ?_
      show Steps p.tables e below (T545.setTop (mkF m 31 #[.val (.int k1), .val (.int k2), .val (.int k3), .val (.long k4), .second, .val (.int k5), .val (.int k6), .val (.int (4 : Int32)), .val (.int v18), .val (.ref b545), .unset, .unset, .unset, .unset, .unset, .unset, .unset, .unset] [])) _
      refine XS.aload X545.here hx rfl (hb hby at_31) rfl rfl ?_
      show Steps p.tables e below (T545.setTop (mkF m 33 #[.val (.int k1), .val (.int k2), .val (.int k3), .val (.long k4), .second, .val (.int k5), .val (.int k6), .val (.int (4 : Int32)), .val (.int v18), .val (.ref b545), .unset, .unset, .unset, .unset, .unset, .unset, .unset, .unset] [(.ref b545)])) _
      refine XS.iconst X545.here hx rfl (hb hby at_33) ?_
      show Steps p.tables e below (T545.setTop (mkF m 34 #[.val (.int k1), .val (.int k2), .val (.int k3), .val (.long k4), .second, .val (.int k5), .val (.int k6), .val (.int (4 : Int32)), .val (.int v18), .val (.ref b545), .unset, .unset, .unset, .unset, .unset, .unset, .unset, .unset] [(.int (0 : Int32)), (.ref b545)])) _
      refine XS.iloadN X545.here hx rfl (hb hby at_34) rfl ?_
      show Steps p.tables e below (T545.setTop (mkF m 35 #[.val (.int k1), .val (.int k2), .val (.int k3), .val (.long k4), .second, .val (.int k5), .val (.int k6), .val (.int (4 : Int32)), .val (.int v18), .val (.ref b545), .unset, .unset, .unset, .unset, .unset, .unset, .unset, .unset] [(.int k3), (.int (0 : Int32)), (.ref b545)])) _
      refine XS.i2b X545.here hx rfl (hb hby at_35) rfl ?_
      show Steps p.tables e below (T545.setTop (mkF m 36 #[.val (.int k1), .val (.int k2), .val (.int k3), .val (.long k4), .second, .val (.int k5), .val (.int k6), .val (.int (4 : Int32)), .val (.int v18), .val (.ref b545), .unset, .unset, .unset, .unset, .unset, .unset, .unset, .unset] [(.int (k3.toInt8.toInt32)), (.int (0 : Int32)), (.ref b545)])) _
      refine st550 _ ?_
      show Steps p.tables e below (T550.setTop (mkF m 37 #[.val (.int k1), .val (.int k2), .val (.int k3), .val (.long k4), .second, .val (.int k5), .val (.int k6), .val (.int (4 : Int32)), .val (.int v18), .val (.ref b545), .unset, .unset, .unset, .unset, .unset, .unset, .unset, .unset] [])) _
      refine XS.iload X550.here hx rfl (hb hby at_37) rfl ?_
      show Steps p.tables e below (T550.setTop (mkF m 39 #[.val (.int k1), .val (.int k2), .val (.int k3), .val (.long k4), .second, .val (.int k5), .val (.int k6), .val (.int (4 : Int32)), .val (.int v18), .val (.ref b545), .unset, .unset, .unset, .unset, .unset, .unset, .unset, .unset] [(.int (4 : Int32))])) _
      refine XS.iconst X550.here hx rfl (hb hby at_39) ?_
      show Steps p.tables e below (T550.setTop (mkF m 40 #[.val (.int k1), .val (.int k2), .val (.int k3), .val (.long k4), .second, .val (.int k5), .val (.int k6), .val (.int (4 : Int32)), .val (.int v18), .val (.ref b545), .unset, .unset, .unset, .unset, .unset, .unset, .unset, .unset] [(.int (1 : Int32)), (.int (4 : Int32))])) _
      refine XS.icmpNo X550.here hx rfl (hb hby at_40) rfl (tlt (by decide)).2.2.2 ?_
      show Steps p.tables e below (T550.setTop (mkF m 43 #[.val (.int k1), .val (.int k2), .val (.int k3), .val (.long k4), .second, .val (.int k5), .val (.int k6), .val (.int (4 : Int32)), .val (.int v18), .val (.ref b545), .unset, .unset, .unset, .unset, .unset, .unset, .unset, .unset] [])) _
      refine XS.aload X550.here hx rfl (hb hby at_43) rfl rfl ?_
      show Steps p.tables e below (T550.setTop (mkF m 45 #[.val (.int k1), .val (.int k2), .val (.int k3), .val (.long k4), .second, .val (.int k5), .val (.int k6), .val (.int (4 : Int32)), .val (.int v18), .val (.ref b545), .unset, .unset, .unset, .unset, .unset, .unset, .unset, .unset] [(.ref b545)])) _
      refine XS.iconst X550.here hx rfl (hb hby at_45) ?_
      show Steps p.tables e below (T550.setTop (mkF m 46 #[.val (.int k1), .val (.int k2), .val (.int k3), .val (.long k4), .second, .val (.int k5), .val (.int k6), .val (.int (4 : Int32)), .val (.int v18), .val (.ref b545), .unset, .unset, .unset, .unset, .unset, .unset, .unset, .unset] [(.int (1 : Int32)), (.ref b545)])) _
      refine XS.iloadN X550.here hx rfl (hb hby at_46) rfl ?_
      show Steps p.tables e below (T550.setTop (mkF m 47 #[.val (.int k1), .val (.int k2), .val (.int k3), .val (.long k4), .second, .val (.int k5), .val (.int k6), .val (.int (4 : Int32)), .val (.int v18), .val (.ref b545), .unset, .unset, .unset, .unset, .unset, .unset, .unset, .unset] [(.int k3), (.int (1 : Int32)), (.ref b545)])) _
      refine XS.bipush X550.here hx rfl (hb hby at_47) ?_
      show Steps p.tables e below (T550.setTop (mkF m 49 #[.val (.int k1), .val (.int k2), .val (.int k3), .val (.long k4), .second, .val (.int k5), .val (.int k6), .val (.int (4 : Int32)), .val (.int v18), .val (.ref b545), .unset, .unset, .unset, .unset, .unset, .unset, .unset, .unset] [(.int (8 : Int32)), (.int k3), (.int (1 : Int32)), (.ref b545)])) _
      refine XS.ishr X550.here hx rfl (hb hby at_49) rfl ?_
      show Steps p.tables e below (T550.setTop (mkF m 50 #[.val (.int k1), .val (.int k2), .val (.int k3), .val (.long k4), .second, .val (.int k5), .val (.int k6), .val (.int (4 : Int32)), .val (.int v18), .val (.ref b545), .unset, .unset, .unset, .unset, .unset, .unset, .unset, .unset] [(.int (k3 >>> ((8 : Int32) &&& 31))), (.int (1 : Int32)), (.ref b545)])) _
      refine XS.i2b X550.here hx rfl (hb hby at_50) rfl ?_
      show Steps p.tables e below (T550.setTop (mkF m 51 #[.val (.int k1), .val (.int k2), .val (.int k3), .val (.long k4), .second, .val (.int k5), .val (.int k6), .val (.int (4 : Int32)), .val (.int v18), .val (.ref b545), .unset, .unset, .unset, .unset, .unset, .unset, .unset, .unset] [(.int ((k3 >>> ((8 : Int32) &&& 31)).toInt8.toInt32)), (.int (1 : Int32)), (.ref b545)])) _
      refine st555 _ ?_
      show Steps p.tables e below (T555.setTop (mkF m 52 #[.val (.int k1), .val (.int k2), .val (.int k3), .val (.long k4), .second, .val (.int k5), .val (.int k6), .val (.int (4 : Int32)), .val (.int v18), .val (.ref b545), .unset, .unset, .unset, .unset, .unset, .unset, .unset, .unset] [])) _
      refine XS.iload X555.here hx rfl (hb hby at_52) rfl ?_
      show Steps p.tables e below (T555.setTop (mkF m 54 #[.val (.int k1), .val (.int k2), .val (.int k3), .val (.long k4), .second, .val (.int k5), .val (.int k6), .val (.int (4 : Int32)), .val (.int v18), .val (.ref b545), .unset, .unset, .unset, .unset, .unset, .unset, .unset, .unset] [(.int (4 : Int32))])) _
      refine XS.iconst X555.here hx rfl (hb hby at_54) ?_
      show Steps p.tables e below (T555.setTop (mkF m 55 #[.val (.int k1), .val (.int k2), .val (.int k3), .val (.long k4), .second, .val (.int k5), .val (.int k6), .val (.int (4 : Int32)), .val (.int v18), .val (.ref b545), .unset, .unset, .unset, .unset, .unset, .unset, .unset, .unset] [(.int (2 : Int32)), (.int (4 : Int32))])) _
      refine XS.icmpNo X555.here hx rfl (hb hby at_55) rfl (tlt (by decide)).2.2.2 ?_
      show Steps p.tables e below (T555.setTop (mkF m 58 #[.val (.int k1), .val (.int k2), .val (.int k3), .val (.long k4), .second, .val (.int k5), .val (.int k6), .val (.int (4 : Int32)), .val (.int v18), .val (.ref b545), .unset, .unset, .unset, .unset, .unset, .unset, .unset, .unset] [])) _
      refine XS.aload X555.here hx rfl (hb hby at_58) rfl rfl ?_
      show Steps p.tables e below (T555.setTop (mkF m 60 #[.val (.int k1), .val (.int k2), .val (.int k3), .val (.long k4), .second, .val (.int k5), .val (.int k6), .val (.int (4 : Int32)), .val (.int v18), .val (.ref b545), .unset, .unset, .unset, .unset, .unset, .unset, .unset, .unset] [(.ref b545)])) _
      refine XS.iconst X555.here hx rfl (hb hby at_60) ?_
      show Steps p.tables e below (T555.setTop (mkF m 61 #[.val (.int k1), .val (.int k2), .val (.int k3), .val (.long k4), .second, .val (.int k5), .val (.int k6), .val (.int (4 : Int32)), .val (.int v18), .val (.ref b545), .unset, .unset, .unset, .unset, .unset, .unset, .unset, .unset] [(.int (2 : Int32)), (.ref b545)])) _
      refine XS.iloadN X555.here hx rfl (hb hby at_61) rfl ?_
      show Steps p.tables e below (T555.setTop (mkF m 62 #[.val (.int k1), .val (.int k2), .val (.int k3), .val (.long k4), .second, .val (.int k5), .val (.int k6), .val (.int (4 : Int32)), .val (.int v18), .val (.ref b545), .unset, .unset, .unset, .unset, .unset, .unset, .unset, .unset] [(.int k3), (.int (2 : Int32)), (.ref b545)])) _
      refine XS.bipush X555.here hx rfl (hb hby at_62) ?_
      show Steps p.tables e below (T555.setTop (mkF m 64 #[.val (.int k1), .val (.int k2), .val (.int k3), .val (.long k4), .second, .val (.int k5), .val (.int k6), .val (.int (4 : Int32)), .val (.int v18), .val (.ref b545), .unset, .unset, .unset, .unset, .unset, .unset, .unset, .unset] [(.int (16 : Int32)), (.int k3), (.int (2 : Int32)), (.ref b545)])) _
      refine XS.ishr X555.here hx rfl (hb hby at_64) rfl ?_
      show Steps p.tables e below (T555.setTop (mkF m 65 #[.val (.int k1), .val (.int k2), .val (.int k3), .val (.long k4), .second, .val (.int k5), .val (.int k6), .val (.int (4 : Int32)), .val (.int v18), .val (.ref b545), .unset, .unset, .unset, .unset, .unset, .unset, .unset, .unset] [(.int (k3 >>> ((16 : Int32) &&& 31))), (.int (2 : Int32)), (.ref b545)])) _
      refine XS.i2b X555.here hx rfl (hb hby at_65) rfl ?_
      show Steps p.tables e below (T555.setTop (mkF m 66 #[.val (.int k1), .val (.int k2), .val (.int k3), .val (.long k4), .second, .val (.int k5), .val (.int k6), .val (.int (4 : Int32)), .val (.int v18), .val (.ref b545), .unset, .unset, .unset, .unset, .unset, .unset, .unset, .unset] [(.int ((k3 >>> ((16 : Int32) &&& 31)).toInt8.toInt32)), (.int (2 : Int32)), (.ref b545)])) _
      refine st560 _ ?_
      show Steps p.tables e below (T560.setTop (mkF m 67 #[.val (.int k1), .val (.int k2), .val (.int k3), .val (.long k4), .second, .val (.int k5), .val (.int k6), .val (.int (4 : Int32)), .val (.int v18), .val (.ref b545), .unset, .unset, .unset, .unset, .unset, .unset, .unset, .unset] [])) _
      refine XS.iload X560.here hx rfl (hb hby at_67) rfl ?_
      show Steps p.tables e below (T560.setTop (mkF m 69 #[.val (.int k1), .val (.int k2), .val (.int k3), .val (.long k4), .second, .val (.int k5), .val (.int k6), .val (.int (4 : Int32)), .val (.int v18), .val (.ref b545), .unset, .unset, .unset, .unset, .unset, .unset, .unset, .unset] [(.int (4 : Int32))])) _
      refine XS.iconst X560.here hx rfl (hb hby at_69) ?_
      show Steps p.tables e below (T560.setTop (mkF m 70 #[.val (.int k1), .val (.int k2), .val (.int k3), .val (.long k4), .second, .val (.int k5), .val (.int k6), .val (.int (4 : Int32)), .val (.int v18), .val (.ref b545), .unset, .unset, .unset, .unset, .unset, .unset, .unset, .unset] [(.int (3 : Int32)), (.int (4 : Int32))])) _
      refine XS.icmpNo X560.here hx rfl (hb hby at_70) rfl (tlt (by decide)).2.2.2 ?_
      show Steps p.tables e below (T560.setTop (mkF m 73 #[.val (.int k1), .val (.int k2), .val (.int k3), .val (.long k4), .second, .val (.int k5), .val (.int k6), .val (.int (4 : Int32)), .val (.int v18), .val (.ref b545), .unset, .unset, .unset, .unset, .unset, .unset, .unset, .unset] [])) _
      refine XS.aload X560.here hx rfl (hb hby at_73) rfl rfl ?_
      show Steps p.tables e below (T560.setTop (mkF m 75 #[.val (.int k1), .val (.int k2), .val (.int k3), .val (.long k4), .second, .val (.int k5), .val (.int k6), .val (.int (4 : Int32)), .val (.int v18), .val (.ref b545), .unset, .unset, .unset, .unset, .unset, .unset, .unset, .unset] [(.ref b545)])) _
      refine XS.iconst X560.here hx rfl (hb hby at_75) ?_
      show Steps p.tables e below (T560.setTop (mkF m 76 #[.val (.int k1), .val (.int k2), .val (.int k3), .val (.long k4), .second, .val (.int k5), .val (.int k6), .val (.int (4 : Int32)), .val (.int v18), .val (.ref b545), .unset, .unset, .unset, .unset, .unset, .unset, .unset, .unset] [(.int (3 : Int32)), (.ref b545)])) _
      refine XS.iloadN X560.here hx rfl (hb hby at_76) rfl ?_
      show Steps p.tables e below (T560.setTop (mkF m 77 #[.val (.int k1), .val (.int k2), .val (.int k3), .val (.long k4), .second, .val (.int k5), .val (.int k6), .val (.int (4 : Int32)), .val (.int v18), .val (.ref b545), .unset, .unset, .unset, .unset, .unset, .unset, .unset, .unset] [(.int k3), (.int (3 : Int32)), (.ref b545)])) _
      refine XS.bipush X560.here hx rfl (hb hby at_77) ?_
      show Steps p.tables e below (T560.setTop (mkF m 79 #[.val (.int k1), .val (.int k2), .val (.int k3), .val (.long k4), .second, .val (.int k5), .val (.int k6), .val (.int (4 : Int32)), .val (.int v18), .val (.ref b545), .unset, .unset, .unset, .unset, .unset, .unset, .unset, .unset] [(.int (24 : Int32)), (.int k3), (.int (3 : Int32)), (.ref b545)])) _
      refine XS.ishr X560.here hx rfl (hb hby at_79) rfl ?_
      show Steps p.tables e below (T560.setTop (mkF m 80 #[.val (.int k1), .val (.int k2), .val (.int k3), .val (.long k4), .second, .val (.int k5), .val (.int k6), .val (.int (4 : Int32)), .val (.int v18), .val (.ref b545), .unset, .unset, .unset, .unset, .unset, .unset, .unset, .unset] [(.int (k3 >>> ((24 : Int32) &&& 31))), (.int (3 : Int32)), (.ref b545)])) _
      refine XS.i2b X560.here hx rfl (hb hby at_80) rfl ?_
      show Steps p.tables e below (T560.setTop (mkF m 81 #[.val (.int k1), .val (.int k2), .val (.int k3), .val (.long k4), .second, .val (.int k5), .val (.int k6), .val (.int (4 : Int32)), .val (.int v18), .val (.ref b545), .unset, .unset, .unset, .unset, .unset, .unset, .unset, .unset] [(.int ((k3 >>> ((24 : Int32) &&& 31)).toInt8.toInt32)), (.int (3 : Int32)), (.ref b545)])) _
      refine st565 _ ?_
      show Steps p.tables e below (T565.setTop (mkF m 82 #[.val (.int k1), .val (.int k2), .val (.int k3), .val (.long k4), .second, .val (.int k5), .val (.int k6), .val (.int (4 : Int32)), .val (.int v18), .val (.ref b545), .unset, .unset, .unset, .unset, .unset, .unset, .unset, .unset] [])) _
      refine XS.bipush X565.here hx rfl (hb hby at_82) ?_
      show Steps p.tables e below (T565.setTop (mkF m 84 #[.val (.int k1), .val (.int k2), .val (.int k3), .val (.long k4), .second, .val (.int k5), .val (.int k6), .val (.int (4 : Int32)), .val (.int v18), .val (.ref b545), .unset, .unset, .unset, .unset, .unset, .unset, .unset, .unset] [(.int (8 : Int32))])) _
      refine st570 _ ?_
      show Steps p.tables e below (T570.setTop (mkF m 86 #[.val (.int k1), .val (.int k2), .val (.int k3), .val (.long k4), .second, .val (.int k5), .val (.int k6), .val (.int (4 : Int32)), .val (.int v18), .val (.ref b545), .unset, .unset, .unset, .unset, .unset, .unset, .unset, .unset] [(.ref b570)])) _
      refine XS.astore X570.here hx rfl (hb hby at_86) rfl rfl (l' := #[.val (.int k1), .val (.int k2), .val (.int k3), .val (.long k4), .second, .val (.int k5), .val (.int k6), .val (.int (4 : Int32)), .val (.int v18), .val (.ref b545), .val (.ref b570), .unset, .unset, .unset, .unset, .unset, .unset, .unset]) rfl ?_
      show Steps p.tables e below (T570.setTop (mkF m 88 #[.val (.int k1), .val (.int k2), .val (.int k3), .val (.long k4), .second, .val (.int k5), .val (.int k6), .val (.int (4 : Int32)), .val (.int v18), .val (.ref b545), .val (.ref b570), .unset, .unset, .unset, .unset, .unset, .unset, .unset] [])) _
      refine XS.aload X570.here hx rfl (hb hby at_88) rfl rfl ?_
      show Steps p.tables e below (T570.setTop (mkF m 90 #[.val (.int k1), .val (.int k2), .val (.int k3), .val (.long k4), .second, .val (.int k5), .val (.int k6), .val (.int (4 : Int32)), .val (.int v18), .val (.ref b545), .val (.ref b570), .unset, .unset, .unset, .unset, .unset, .unset, .unset] [(.ref b570)])) _
      refine XS.iconst X570.here hx rfl (hb hby at_90) ?_
      show Steps p.tables e below (T570.setTop (mkF m 91 #[.val (.int k1), .val (.int k2), .val (.int k3), .val (.long k4), .second, .val (.int k5), .val (.int k6), .val (.int (4 : Int32)), .val (.int v18), .val (.ref b545), .val (.ref b570), .unset, .unset, .unset, .unset, .unset, .unset, .unset] [(.int (0 : Int32)), (.ref b570)])) _
      refine XS.lloadN X570.here hx rfl (hb hby at_91) rfl ?_
      show Steps p.tables e below (T570.setTop (mkF m 92 #[.val (.int k1), .val (.int k2), .val (.int k3), .val (.long k4), .second, .val (.int k5), .val (.int k6), .val (.int (4 : Int32)), .val (.int v18), .val (.ref b545), .val (.ref b570), .unset, .unset, .unset, .unset, .unset, .unset, .unset] [(.long k4), (.int (0 : Int32)), (.ref b570)])) _
      refine XS.l2i X570.here hx rfl (hb hby at_92) rfl ?_
      show Steps p.tables e below (T570.setTop (mkF m 93 #[.val (.int k1), .val (.int k2), .val (.int k3), .val (.long k4), .second, .val (.int k5), .val (.int k6), .val (.int (4 : Int32)), .val (.int v18), .val (.ref b545), .val (.ref b570), .unset, .unset, .unset, .unset, .unset, .unset, .unset] [(.int (k4.toInt32)), (.int (0 : Int32)), (.ref b570)])) _
      refine XS.i2b X570.here hx rfl (hb hby at_93) rfl ?_
      show Steps p.tables e below (T570.setTop (mkF m 94 #[.val (.int k1), .val (.int k2), .val (.int k3), .val (.long k4), .second, .val (.int k5), .val (.int k6), .val (.int (4 : Int32)), .val (.int v18), .val (.ref b545), .val (.ref b570), .unset, .unset, .unset, .unset, .unset, .unset, .unset] [(.int ((k4.toInt32).toInt8.toInt32)), (.int (0 : Int32)), (.ref b570)])) _
      refine st576 _ ?_
      show Steps p.tables e below (T576.setTop (mkF m 95 #[.val (.int k1), .val (.int k2), .val (.int k3), .val (.long k4), .second, .val (.int k5), .val (.int k6), .val (.int (4 : Int32)), .val (.int v18), .val (.ref b545), .val (.ref b570), .unset, .unset, .unset, .unset, .unset, .unset, .unset] [])) _
      refine XS.aload X576.here hx rfl (hb hby at_95) rfl rfl ?_
      show Steps p.tables e below (T576.setTop (mkF m 97 #[.val (.int k1), .val (.int k2), .val (.int k3), .val (.long k4), .second, .val (.int k5), .val (.int k6), .val (.int (4 : Int32)), .val (.int v18), .val (.ref b545), .val (.ref b570), .unset, .unset, .unset, .unset, .unset, .unset, .unset] [(.ref b570)])) _
      refine XS.iconst X576.here hx rfl (hb hby at_97) ?_
      show Steps p.tables e below (T576.setTop (mkF m 98 #[.val (.int k1), .val (.int k2), .val (.int k3), .val (.long k4), .second, .val (.int k5), .val (.int k6), .val (.int (4 : Int32)), .val (.int v18), .val (.ref b545), .val (.ref b570), .unset, .unset, .unset, .unset, .unset, .unset, .unset] [(.int (1 : Int32)), (.ref b570)])) _
      refine XS.lloadN X576.here hx rfl (hb hby at_98) rfl ?_
      show Steps p.tables e below (T576.setTop (mkF m 99 #[.val (.int k1), .val (.int k2), .val (.int k3), .val (.long k4), .second, .val (.int k5), .val (.int k6), .val (.int (4 : Int32)), .val (.int v18), .val (.ref b545), .val (.ref b570), .unset, .unset, .unset, .unset, .unset, .unset, .unset] [(.long k4), (.int (1 : Int32)), (.ref b570)])) _
      refine XS.bipush X576.here hx rfl (hb hby at_99) ?_
      show Steps p.tables e below (T576.setTop (mkF m 101 #[.val (.int k1), .val (.int k2), .val (.int k3), .val (.long k4), .second, .val (.int k5), .val (.int k6), .val (.int (4 : Int32)), .val (.int v18), .val (.ref b545), .val (.ref b570), .unset, .unset, .unset, .unset, .unset, .unset, .unset] [(.int (8 : Int32)), (.long k4), (.int (1 : Int32)), (.ref b570)])) _
      refine XS.lshr X576.here hx rfl (hb hby at_101) rfl ?_
      show Steps p.tables e below (T576.setTop (mkF m 102 #[.val (.int k1), .val (.int k2), .val (.int k3), .val (.long k4), .second, .val (.int k5), .val (.int k6), .val (.int (4 : Int32)), .val (.int v18), .val (.ref b545), .val (.ref b570), .unset, .unset, .unset, .unset, .unset, .unset, .unset] [(.long (k4 >>> ((8 : Int32) &&& 0x3f).toInt64)), (.int (1 : Int32)), (.ref b570)])) _
      refine XS.l2i X576.here hx rfl (hb hby at_102) rfl ?_
      show Steps p.tables e below (T576.setTop (mkF m 103 #[.val (.int k1), .val (.int k2), .val (.int k3), .val (.long k4), .second, .val (.int k5), .val (.int k6), .val (.int (4 : Int32)), .val (.int v18), .val (.ref b545), .val (.ref b570), .unset, .unset, .unset, .unset, .unset, .unset, .unset] [(.int ((k4 >>> ((8 : Int32) &&& 0x3f).toInt64).toInt32)), (.int (1 : Int32)), (.ref b570)])) _
      refine XS.i2b X576.here hx rfl (hb hby at_103) rfl ?_
      show Steps p.tables e below (T576.setTop (mkF m 104 #[.val (.int k1), .val (.int k2), .val (.int k3), .val (.long k4), .second, .val (.int k5), .val (.int k6), .val (.int (4 : Int32)), .val (.int v18), .val (.ref b545), .val (.ref b570), .unset, .unset, .unset, .unset, .unset, .unset, .unset] [(.int (((k4 >>> ((8 : Int32) &&& 0x3f).toInt64).toInt32).toInt8.toInt32)), (.int (1 : Int32)), (.ref b570)])) _
      refine st582 _ ?_
      show Steps p.tables e below (T582.setTop (mkF m 105 #[.val (.int k1), .val (.int k2), .val (.int k3), .val (.long k4), .second, .val (.int k5), .val (.int k6), .val (.int (4 : Int32)), .val (.int v18), .val (.ref b545), .val (.ref b570), .unset, .unset, .unset, .unset, .unset, .unset, .unset] [])) _
      refine XS.aload X582.here hx rfl (hb hby at_105) rfl rfl ?_
      show Steps p.tables e below (T582.setTop (mkF m 107 #[.val (.int k1), .val (.int k2), .val (.int k3), .val (.long k4), .second, .val (.int k5), .val (.int k6), .val (.int (4 : Int32)), .val (.int v18), .val (.ref b545), .val (.ref b570), .unset, .unset, .unset, .unset, .unset, .unset, .unset] [(.ref b570)])) _
      refine XS.iconst X582.here hx rfl (hb hby at_107) ?_
      show Steps p.tables e below (T582.setTop (mkF m 108 #[.val (.int k1), .val (.int k2), .val (.int k3), .val (.long k4), .second, .val (.int k5), .val (.int k6), .val (.int (4 : Int32)), .val (.int v18), .val (.ref b545), .val (.ref b570), .unset, .unset, .unset, .unset, .unset, .unset, .unset] [(.int (2 : Int32)), (.ref b570)])) _
      refine XS.lloadN X582.here hx rfl (hb hby at_108) rfl ?_
      show Steps p.tables e below (T582.setTop (mkF m 109 #[.val (.int k1), .val (.int k2), .val (.int k3), .val (.long k4), .second, .val (.int k5), .val (.int k6), .val (.int (4 : Int32)), .val (.int v18), .val (.ref b545), .val (.ref b570), .unset, .unset, .unset, .unset, .unset, .unset, .unset] [(.long k4), (.int (2 : Int32)), (.ref b570)])) _
      refine XS.bipush X582.here hx rfl (hb hby at_109) ?_
      show Steps p.tables e below (T582.setTop (mkF m 111 #[.val (.int k1), .val (.int k2), .val (.int k3), .val (.long k4), .second, .val (.int k5), .val (.int k6), .val (.int (4 : Int32)), .val (.int v18), .val (.ref b545), .val (.ref b570), .unset, .unset, .unset, .unset, .unset, .unset, .unset] [(.int (16 : Int32)), (.long k4), (.int (2 : Int32)), (.ref b570)])) _
      refine XS.lshr X582.here hx rfl (hb hby at_111) rfl ?_
      show Steps p.tables e below (T582.setTop (mkF m 112 #[.val (.int k1), .val (.int k2), .val (.int k3), .val (.long k4), .second, .val (.int k5), .val (.int k6), .val (.int (4 : Int32)), .val (.int v18), .val (.ref b545), .val (.ref b570), .unset, .unset, .unset, .unset, .unset, .unset, .unset] [(.long (k4 >>> ((16 : Int32) &&& 0x3f).toInt64)), (.int (2 : Int32)), (.ref b570)])) _
      refine XS.l2i X582.here hx rfl (hb hby at_112) rfl ?_
      show Steps p.tables e below (T582.setTop (mkF m 113 #[.val (.int k1), .val (.int k2), .val (.int k3), .val (.long k4), .second, .val (.int k5), .val (.int k6), .val (.int (4 : Int32)), .val (.int v18), .val (.ref b545), .val (.ref b570), .unset, .unset, .unset, .unset, .unset, .unset, .unset] [(.int ((k4 >>> ((16 : Int32) &&& 0x3f).toInt64).toInt32)), (.int (2 : Int32)), (.ref b570)])) _
      refine XS.i2b X582.here hx rfl (hb hby at_113) rfl ?_
      show Steps p.tables e below (T582.setTop (mkF m 114 #[.val (.int k1), .val (.int k2), .val (.int k3), .val (.long k4), .second, .val (.int k5), .val (.int k6), .val (.int (4 : Int32)), .val (.int v18), .val (.ref b545), .val (.ref b570), .unset, .unset, .unset, .unset, .unset, .unset, .unset] [(.int (((k4 >>> ((16 : Int32) &&& 0x3f).toInt64).toInt32).toInt8.toInt32)), (.int (2 : Int32)), (.ref b570)])) _
      refine st588 _ ?_
      show Steps p.tables e below (T588.setTop (mkF m 115 #[.val (.int k1), .val (.int k2), .val (.int k3), .val (.long k4), .second, .val (.int k5), .val (.int k6), .val (.int (4 : Int32)), .val (.int v18), .val (.ref b545), .val (.ref b570), .unset, .unset, .unset, .unset, .unset, .unset, .unset] [])) _
      refine XS.aload X588.here hx rfl (hb hby at_115) rfl rfl ?_
      show Steps p.tables e below (T588.setTop (mkF m 117 #[.val (.int k1), .val (.int k2), .val (.int k3), .val (.long k4), .second, .val (.int k5), .val (.int k6), .val (.int (4 : Int32)), .val (.int v18), .val (.ref b545), .val (.ref b570), .unset, .unset, .unset, .unset, .unset, .unset, .unset] [(.ref b570)])) _
      refine XS.iconst X588.here hx rfl (hb hby at_117) ?_
      show Steps p.tables e below (T588.setTop (mkF m 118 #[.val (.int k1), .val (.int k2), .val (.int k3), .val (.long k4), .second, .val (.int k5), .val (.int k6), .val (.int (4 : Int32)), .val (.int v18), .val (.ref b545), .val (.ref b570), .unset, .unset, .unset, .unset, .unset, .unset, .unset] [(.int (3 : Int32)), (.ref b570)])) _
      refine XS.lloadN X588.here hx rfl (hb hby at_118) rfl ?_
      show Steps p.tables e below (T588.setTop (mkF m 119 #[.val (.int k1), .val (.int k2), .val (.int k3), .val (.long k4), .second, .val (.int k5), .val (.int k6), .val (.int (4 : Int32)), .val (.int v18), .val (.ref b545), .val (.ref b570), .unset, .unset, .unset, .unset, .unset, .unset, .unset] [(.long k4), (.int (3 : Int32)), (.ref b570)])) _
      refine XS.bipush X588.here hx rfl (hb hby at_119) ?_
      show Steps p.tables e below (T588.setTop (mkF m 121 #[.val (.int k1), .val (.int k2), .val (.int k3), .val (.long k4), .second, .val (.int k5), .val (.int k6), .val (.int (4 : Int32)), .val (.int v18), .val (.ref b545), .val (.ref b570), .unset, .unset, .unset, .unset, .unset, .unset, .unset] [(.int (24 : Int32)), (.long k4), (.int (3 : Int32)), (.ref b570)])) _
      refine XS.lshr X588.here hx rfl (hb hby at_121) rfl ?_
      show Steps p.tables e below (T588.setTop (mkF m 122 #[.val (.int k1), .val (.int k2), .val (.int k3), .val (.long k4), .second, .val (.int k5), .val (.int k6), .val (.int (4 : Int32)), .val (.int v18), .val (.ref b545), .val (.ref b570), .unset, .unset, .unset, .unset, .unset, .unset, .unset] [(.long (k4 >>> ((24 : Int32) &&& 0x3f).toInt64)), (.int (3 : Int32)), (.ref b570)])) _
      refine XS.l2i X588.here hx rfl (hb hby at_122) rfl ?_
      show Steps p.tables e below (T588.setTop (mkF m 123 #[.val (.int k1), .val (.int k2), .val (.int k3), .val (.long k4), .second, .val (.int k5), .val (.int k6), .val (.int (4 : Int32)), .val (.int v18), .val (.ref b545), .val (.ref b570), .unset, .unset, .unset, .unset, .unset, .unset, .unset] [(.int ((k4 >>> ((24 : Int32) &&& 0x3f).toInt64).toInt32)), (.int (3 : Int32)), (.ref b570)])) _
      refine XS.i2b X588.here hx rfl (hb hby at_123) rfl ?_
      show Steps p.tables e below (T588.setTop (mkF m 124 #[.val (.int k1), .val (.int k2), .val (.int k3), .val (.long k4), .second, .val (.int k5), .val (.int k6), .val (.int (4 : Int32)), .val (.int v18), .val (.ref b545), .val (.ref b570), .unset, .unset, .unset, .unset, .unset, .unset, .unset] [(.int (((k4 >>> ((24 : Int32) &&& 0x3f).toInt64).toInt32).toInt8.toInt32)), (.int (3 : Int32)), (.ref b570)])) _
      refine st594 _ ?_
      show Steps p.tables e below (T594.setTop (mkF m 125 #[.val (.int k1), .val (.int k2), .val (.int k3), .val (.long k4), .second, .val (.int k5), .val (.int k6), .val (.int (4 : Int32)), .val (.int v18), .val (.ref b545), .val (.ref b570), .unset, .unset, .unset, .unset, .unset, .unset, .unset] [])) _
      refine XS.aload X594.here hx rfl (hb hby at_125) rfl rfl ?_
      show Steps p.tables e below (T594.setTop (mkF m 127 #[.val (.int k1), .val (.int k2), .val (.int k3), .val (.long k4), .second, .val (.int k5), .val (.int k6), .val (.int (4 : Int32)), .val (.int v18), .val (.ref b545), .val (.ref b570), .unset, .unset, .unset, .unset, .unset, .unset, .unset] [(.ref b570)])) _
      refine XS.iconst X594.here hx rfl (hb hby at_127) ?_
      show Steps p.tables e below (T594.setTop (mkF m 128 #[.val (.int k1), .val (.int k2), .val (.int k3), .val (.long k4), .second, .val (.int k5), .val (.int k6), .val (.int (4 : Int32)), .val (.int v18), .val (.ref b545), .val (.ref b570), .unset, .unset, .unset, .unset, .unset, .unset, .unset] [(.int (4 : Int32)), (.ref b570)])) _
      refine XS.lloadN X594.here hx rfl (hb hby at_128) rfl ?_
      show Steps p.tables e below (T594.setTop (mkF m 129 #[.val (.int k1), .val (.int k2), .val (.int k3), .val (.long k4), .second, .val (.int k5), .val (.int k6), .val (.int (4 : Int32)), .val (.int v18), .val (.ref b545), .val (.ref b570), .unset, .unset, .unset, .unset, .unset, .unset, .unset] [(.long k4), (.int (4 : Int32)), (.ref b570)])) _
      refine XS.bipush X594.here hx rfl (hb hby at_129) ?_
      show Steps p.tables e below (T594.setTop (mkF m 131 #[.val (.int k1), .val (.int k2), .val (.int k3), .val (.long k4), .second, .val (.int k5), .val (.int k6), .val (.int (4 : Int32)), .val (.int v18), .val (.ref b545), .val (.ref b570), .unset, .unset, .unset, .unset, .unset, .unset, .unset] [(.int (32 : Int32)), (.long k4), (.int (4 : Int32)), (.ref b570)])) _
      refine XS.lshr X594.here hx rfl (hb hby at_131) rfl ?_
      show Steps p.tables e below (T594.setTop (mkF m 132 #[.val (.int k1), .val (.int k2), .val (.int k3), .val (.long k4), .second, .val (.int k5), .val (.int k6), .val (.int (4 : Int32)), .val (.int v18), .val (.ref b545), .val (.ref b570), .unset, .unset, .unset, .unset, .unset, .unset, .unset] [(.long (k4 >>> ((32 : Int32) &&& 0x3f).toInt64)), (.int (4 : Int32)), (.ref b570)])) _
      refine XS.l2i X594.here hx rfl (hb hby at_132) rfl ?_
      show Steps p.tables e below (T594.setTop (mkF m 133 #[.val (.int k1), .val (.int k2), .val (.int k3), .val (.long k4), .second, .val (.int k5), .val (.int k6), .val (.int (4 : Int32)), .val (.int v18), .val (.ref b545), .val (.ref b570), .unset, .unset, .unset, .unset, .unset, .unset, .unset] [(.int ((k4 >>> ((32 : Int32) &&& 0x3f).toInt64).toInt32)), (.int (4 : Int32)), (.ref b570)])) _
      refine XS.i2b X594.here hx rfl (hb hby at_133) rfl ?_
      show Steps p.tables e below (T594.setTop (mkF m 134 #[.val (.int k1), .val (.int k2), .val (.int k3), .val (.long k4), .second, .val (.int k5), .val (.int k6), .val (.int (4 : Int32)), .val (.int v18), .val (.ref b545), .val (.ref b570), .unset, .unset, .unset, .unset, .unset, .unset, .unset] [(.int (((k4 >>> ((32 : Int32) &&& 0x3f).toInt64).toInt32).toInt8.toInt32)), (.int (4 : Int32)), (.ref b570)])) _
      refine st600 _ ?_
      show Steps p.tables e below (T600.setTop (mkF m 135 #[.val (.int k1), .val (.int k2), .val (.int k3), .val (.long k4), .second, .val (.int k5), .val (.int k6), .val (.int (4 : Int32)), .val (.int v18), .val (.ref b545), .val (.ref b570), .unset, .unset, .unset, .unset, .unset, .unset, .unset] [])) _
      refine XS.aload X600.here hx rfl (hb hby at_135) rfl rfl ?_
      show Steps p.tables e below (T600.setTop (mkF m 137 #[.val (.int k1), .val (.int k2), .val (.int k3), .val (.long k4), .second, .val (.int k5), .val (.int k6), .val (.int (4 : Int32)), .val (.int v18), .val (.ref b545), .val (.ref b570), .unset, .unset, .unset, .unset, .unset, .unset, .unset] [(.ref b570)])) _
      refine XS.iconst X600.here hx rfl (hb hby at_137) ?_
      show Steps p.tables e below (T600.setTop (mkF m 138 #[.val (.int k1), .val (.int k2), .val (.int k3), .val (.long k4), .second, .val (.int k5), .val (.int k6), .val (.int (4 : Int32)), .val (.int v18), .val (.ref b545), .val (.ref b570), .unset, .unset, .unset, .unset, .unset, .unset, .unset] [(.int (5 : Int32)), (.ref b570)])) _
      refine XS.lloadN X600.here hx rfl (hb hby at_138) rfl ?_
      show Steps p.tables e below (T600.setTop (mkF m 139 #[.val (.int k1), .val (.int k2), .val (.int k3), .val (.long k4), .second, .val (.int k5), .val (.int k6), .val (.int (4 : Int32)), .val (.int v18), .val (.ref b545), .val (.ref b570), .unset, .unset, .unset, .unset, .unset, .unset, .unset] [(.long k4), (.int (5 : Int32)), (.ref b570)])) _
      refine XS.bipush X600.here hx rfl (hb hby at_139) ?_
      show Steps p.tables e below (T600.setTop (mkF m 141 #[.val (.int k1), .val (.int k2), .val (.int k3), .val (.long k4), .second, .val (.int k5), .val (.int k6), .val (.int (4 : Int32)), .val (.int v18), .val (.ref b545), .val (.ref b570), .unset, .unset, .unset, .unset, .unset, .unset, .unset] [(.int (40 : Int32)), (.long k4), (.int (5 : Int32)), (.ref b570)])) _
      refine XS.lshr X600.here hx rfl (hb hby at_141) rfl ?_
      show Steps p.tables e below (T600.setTop (mkF m 142 #[.val (.int k1), .val (.int k2), .val (.int k3), .val (.long k4), .second, .val (.int k5), .val (.int k6), .val (.int (4 : Int32)), .val (.int v18), .val (.ref b545), .val (.ref b570), .unset, .unset, .unset, .unset, .unset, .unset, .unset] [(.long (k4 >>> ((40 : Int32) &&& 0x3f).toInt64)), (.int (5 : Int32)), (.ref b570)])) _
      refine XS.l2i X600.here hx rfl (hb hby at_142) rfl ?_
      show Steps p.tables e below (T600.setTop (mkF m 143 #[.val (.int k1), .val (.int k2), .val (.int k3), .val (.long k4), .second, .val (.int k5), .val (.int k6), .val (.int (4 : Int32)), .val (.int v18), .val (.ref b545), .val (.ref b570), .unset, .unset, .unset, .unset, .unset, .unset, .unset] [(.int ((k4 >>> ((40 : Int32) &&& 0x3f).toInt64).toInt32)), (.int (5 : Int32)), (.ref b570)])) _
      refine XS.i2b X600.here hx rfl (hb hby at_143) rfl ?_
      show Steps p.tables e below (T600.setTop (mkF m 144 #[.val (.int k1), .val (.int k2), .val (.int k3), .val (.long k4), .second, .val (.int k5), .val (.int k6), .val (.int (4 : Int32)), .val (.int v18), .val (.ref b545), .val (.ref b570), .unset, .unset, .unset, .unset, .unset, .unset, .unset] [(.int (((k4 >>> ((40 : Int32) &&& 0x3f).toInt64).toInt32).toInt8.toInt32)), (.int (5 : Int32)), (.ref b570)])) _
      refine st606 _ ?_
      show Steps p.tables e below (T606.setTop (mkF m 145 #[.val (.int k1), .val (.int k2), .val (.int k3), .val (.long k4), .second, .val (.int k5), .val (.int k6), .val (.int (4 : Int32)), .val (.int v18), .val (.ref b545), .val (.ref b570), .unset, .unset, .unset, .unset, .unset, .unset, .unset] [])) _
      refine XS.aload X606.here hx rfl (hb hby at_145) rfl rfl ?_
      show Steps p.tables e below (T606.setTop (mkF m 147 #[.val (.int k1), .val (.int k2), .val (.int k3), .val (.long k4), .second, .val (.int k5), .val (.int k6), .val (.int (4 : Int32)), .val (.int v18), .val (.ref b545), .val (.ref b570), .unset, .unset, .unset, .unset, .unset, .unset, .unset] [(.ref b570)])) _
      refine XS.bipush X606.here hx rfl (hb hby at_147) ?_
      show Steps p.tables e below (T606.setTop (mkF m 149 #[.val (.int k1), .val (.int k2), .val (.int k3), .val (.long k4), .second, .val (.int k5), .val (.int k6), .val (.int (4 : Int32)), .val (.int v18), .val (.ref b545), .val (.ref b570), .unset, .unset, .unset, .unset, .unset, .unset, .unset] [(.int (6 : Int32)), (.ref b570)])) _
      refine XS.lloadN X606.here hx rfl (hb hby at_149) rfl ?_
      show Steps p.tables e below (T606.setTop (mkF m 150 #[.val (.int k1), .val (.int k2), .val (.int k3), .val (.long k4), .second, .val (.int k5), .val (.int k6), .val (.int (4 : Int32)), .val (.int v18), .val (.ref b545), .val (.ref b570), .unset, .unset, .unset, .unset, .unset, .unset, .unset] [(.long k4), (.int (6 : Int32)), (.ref b570)])) _
      refine XS.bipush X606.here hx rfl (hb hby at_150) ?_
      show Steps p.tables e below (T606.setTop (mkF m 152 #[.val (.int k1), .val (.int k2), .val (.int k3), .val (.long k4), .second, .val (.int k5), .val (.int k6), .val (.int (4 : Int32)), .val (.int v18), .val (.ref b545), .val (.ref b570), .unset, .unset, .unset, .unset, .unset, .unset, .unset] [(.int (48 : Int32)), (.long k4), (.int (6 : Int32)), (.ref b570)])) _
      refine XS.lshr X606.here hx rfl (hb hby at_152) rfl ?_
      show Steps p.tables e below (T606.setTop (mkF m 153 #[.val (.int k1), .val (.int k2), .val (.int k3), .val (.long k4), .second, .val (.int k5), .val (.int k6), .val (.int (4 : Int32)), .val (.int v18), .val (.ref b545), .val (.ref b570), .unset, .unset, .unset, .unset, .unset, .unset, .unset] [(.long (k4 >>> ((48 : Int32) &&& 0x3f).toInt64)), (.int (6 : Int32)), (.ref b570)])) _
      refine XS.l2i X606.here hx rfl (hb hby at_153) rfl ?_
      show Steps p.tables e below (T606.setTop (mkF m 154 #[.val (.int k1), .val (.int k2), .val (.int k3), .val (.long k4), .second, .val (.int k5), .val (.int k6), .val (.int (4 : Int32)), .val (.int v18), .val (.ref b545), .val (.ref b570), .unset, .unset, .unset, .unset, .unset, .unset, .unset] [(.int ((k4 >>> ((48 : Int32) &&& 0x3f).toInt64).toInt32)), (.int (6 : Int32)), (.ref b570)])) _
      refine XS.i2b X606.here hx rfl (hb hby at_154) rfl ?_
      show Steps p.tables e below (T606.setTop (mkF m 155 #[.val (.int k1), .val (.int k2), .val (.int k3), .val (.long k4), .second, .val (.int k5), .val (.int k6), .val (.int (4 : Int32)), .val (.int v18), .val (.ref b545), .val (.ref b570), .unset, .unset, .unset, .unset, .unset, .unset, .unset] [(.int (((k4 >>> ((48 : Int32) &&& 0x3f).toInt64).toInt32).toInt8.toInt32)), (.int (6 : Int32)), (.ref b570)])) _
      refine st612 _ ?_
      show Steps p.tables e below (T612.setTop (mkF m 156 #[.val (.int k1), .val (.int k2), .val (.int k3), .val (.long k4), .second, .val (.int k5), .val (.int k6), .val (.int (4 : Int32)), .val (.int v18), .val (.ref b545), .val (.ref b570), .unset, .unset, .unset, .unset, .unset, .unset, .unset] [])) _
      refine XS.aload X612.here hx rfl (hb hby at_156) rfl rfl ?_
      show Steps p.tables e below (T612.setTop (mkF m 158 #[.val (.int k1), .val (.int k2), .val (.int k3), .val (.long k4), .second, .val (.int k5), .val (.int k6), .val (.int (4 : Int32)), .val (.int v18), .val (.ref b545), .val (.ref b570), .unset, .unset, .unset, .unset, .unset, .unset, .unset] [(.ref b570)])) _
      refine XS.bipush X612.here hx rfl (hb hby at_158) ?_
      show Steps p.tables e below (T612.setTop (mkF m 160 #[.val (.int k1), .val (.int k2), .val (.int k3), .val (.long k4), .second, .val (.int k5), .val (.int k6), .val (.int (4 : Int32)), .val (.int v18), .val (.ref b545), .val (.ref b570), .unset, .unset, .unset, .unset, .unset, .unset, .unset] [(.int (7 : Int32)), (.ref b570)])) _
      refine XS.lloadN X612.here hx rfl (hb hby at_160) rfl ?_
      show Steps p.tables e below (T612.setTop (mkF m 161 #[.val (.int k1), .val (.int k2), .val (.int k3), .val (.long k4), .second, .val (.int k5), .val (.int k6), .val (.int (4 : Int32)), .val (.int v18), .val (.ref b545), .val (.ref b570), .unset, .unset, .unset, .unset, .unset, .unset, .unset] [(.long k4), (.int (7 : Int32)), (.ref b570)])) _
      refine XS.bipush X612.here hx rfl (hb hby at_161) ?_
      show Steps p.tables e below (T612.setTop (mkF m 163 #[.val (.int k1), .val (.int k2), .val (.int k3), .val (.long k4), .second, .val (.int k5), .val (.int k6), .val (.int (4 : Int32)), .val (.int v18), .val (.ref b545), .val (.ref b570), .unset, .unset, .unset, .unset, .unset, .unset, .unset] [(.int (56 : Int32)), (.long k4), (.int (7 : Int32)), (.ref b570)])) _
      refine XS.lshr X612.here hx rfl (hb hby at_163) rfl ?_
      show Steps p.tables e below (T612.setTop (mkF m 164 #[.val (.int k1), .val (.int k2), .val (.int k3), .val (.long k4), .second, .val (.int k5), .val (.int k6), .val (.int (4 : Int32)), .val (.int v18), .val (.ref b545), .val (.ref b570), .unset, .unset, .unset, .unset, .unset, .unset, .unset] [(.long (k4 >>> ((56 : Int32) &&& 0x3f).toInt64)), (.int (7 : Int32)), (.ref b570)])) _
      refine XS.l2i X612.here hx rfl (hb hby at_164) rfl ?_
      show Steps p.tables e below (T612.setTop (mkF m 165 #[.val (.int k1), .val (.int k2), .val (.int k3), .val (.long k4), .second, .val (.int k5), .val (.int k6), .val (.int (4 : Int32)), .val (.int v18), .val (.ref b545), .val (.ref b570), .unset, .unset, .unset, .unset, .unset, .unset, .unset] [(.int ((k4 >>> ((56 : Int32) &&& 0x3f).toInt64).toInt32)), (.int (7 : Int32)), (.ref b570)])) _
      refine XS.i2b X612.here hx rfl (hb hby at_165) rfl ?_
      show Steps p.tables e below (T612.setTop (mkF m 166 #[.val (.int k1), .val (.int k2), .val (.int k3), .val (.long k4), .second, .val (.int k5), .val (.int k6), .val (.int (4 : Int32)), .val (.int v18), .val (.ref b545), .val (.ref b570), .unset, .unset, .unset, .unset, .unset, .unset, .unset] [(.int (((k4 >>> ((56 : Int32) &&& 0x3f).toInt64).toInt32).toInt8.toInt32)), (.int (7 : Int32)), (.ref b570)])) _
      refine st618 _ ?_
      show Steps p.tables e below (T618.setTop (mkF m 167 #[.val (.int k1), .val (.int k2), .val (.int k3), .val (.long k4), .second, .val (.int k5), .val (.int k6), .val (.int (4 : Int32)), .val (.int v18), .val (.ref b545), .val (.ref b570), .unset, .unset, .unset, .unset, .unset, .unset, .unset] [])) _
      refine XS.iload X618.here hx rfl (hb hby at_167) rfl ?_
      show Steps p.tables e below (T618.setTop (mkF m 169 #[.val (.int k1), .val (.int k2), .val (.int k3), .val (.long k4), .second, .val (.int k5), .val (.int k6), .val (.int (4 : Int32)), .val (.int v18), .val (.ref b545), .val (.ref b570), .unset, .unset, .unset, .unset, .unset, .unset, .unset] [(.int k6)])) _
      refine XS.iload X618.here hx rfl (hb hby at_169) rfl ?_
      show Steps p.tables e below (T618.setTop (mkF m 171 #[.val (.int k1), .val (.int k2), .val (.int k3), .val (.long k4), .second, .val (.int k5), .val (.int k6), .val (.int (4 : Int32)), .val (.int v18), .val (.ref b545), .val (.ref b570), .unset, .unset, .unset, .unset, .unset, .unset, .unset] [(.int k5), (.int k6)])) _
      refine XS.iconst X618.here hx rfl (hb hby at_171) ?_
      show Steps p.tables e below (T618.setTop (mkF m 172 #[.val (.int k1), .val (.int k2), .val (.int k3), .val (.long k4), .second, .val (.int k5), .val (.int k6), .val (.int (4 : Int32)), .val (.int v18), .val (.ref b545), .val (.ref b570), .unset, .unset, .unset, .unset, .unset, .unset, .unset] [(.int (0 : Int32)), (.int k5), (.int k6)])) _
      refine st624 _ ?_
      show Steps p.tables e below (T624.setTop (mkF m 175 #[.val (.int k1), .val (.int k2), .val (.int k3), .val (.long k4), .second, .val (.int k5), .val (.int k6), .val (.int (4 : Int32)), .val (.int v18), .val (.ref b545), .val (.ref b570), .unset, .unset, .unset, .unset, .unset, .unset, .unset] [(.int (own_f1 k6 k5 (0 : Int32)))])) _
      rw [← hr172]
      show Steps p.tables e below (T624.setTop (mkF m 175 #[.val (.int k1), .val (.int k2), .val (.int k3), .val (.long k4), .second, .val (.int k5), .val (.int k6), .val (.int (4 : Int32)), .val (.int v18), .val (.ref b545), .val (.ref b570), .unset, .unset, .unset, .unset, .unset, .unset, .unset] [(.int r172)])) _
      refine XS.istore X624.here hx rfl (hb hby at_175) rfl (l' := #[.val (.int k1), .val (.int k2), .val (.int k3), .val (.long k4), .second, .val (.int k5), .val (.int k6), .val (.int (4 : Int32)), .val (.int v18), .val (.ref b545), .val (.ref b570), .val (.int r172), .unset, .unset, .unset, .unset, .unset, .unset]) rfl ?_
      show Steps p.tables e below (T624.setTop (mkF m 177 #[.val (.int k1), .val (.int k2), .val (.int k3), .val (.long k4), .second, .val (.int k5), .val (.int k6), .val (.int (4 : Int32)), .val (.int v18), .val (.ref b545), .val (.ref b570), .val (.int r172), .unset, .unset, .unset, .unset, .unset, .unset] [])) _
      refine XS.iload X624.here hx rfl (hb hby at_177) rfl ?_
      show Steps p.tables e below (T624.setTop (mkF m 179 #[.val (.int k1), .val (.int k2), .val (.int k3), .val (.long k4), .second, .val (.int k5), .val (.int k6), .val (.int (4 : Int32)), .val (.int v18), .val (.ref b545), .val (.ref b570), .val (.int r172), .unset, .unset, .unset, .unset, .unset, .unset] [(.int k6)])) _
      refine XS.iload X624.here hx rfl (hb hby at_179) rfl ?_
      show Steps p.tables e below (T624.setTop (mkF m 181 #[.val (.int k1), .val (.int k2), .val (.int k3), .val (.long k4), .second, .val (.int k5), .val (.int k6), .val (.int (4 : Int32)), .val (.int v18), .val (.ref b545), .val (.ref b570), .val (.int r172), .unset, .unset, .unset, .unset, .unset, .unset] [(.int k5), (.int k6)])) _
      refine XS.iconst X624.here hx rfl (hb hby at_181) ?_
      show Steps p.tables e below (T624.setTop (mkF m 182 #[.val (.int k1), .val (.int k2), .val (.int k3), .val (.long k4), .second, .val (.int k5), .val (.int k6), .val (.int (4 : Int32)), .val (.int v18), .val (.ref b545), .val (.ref b570), .val (.int r172), .unset, .unset, .unset, .unset, .unset, .unset] [(.int (1 : Int32)), (.int k5), (.int k6)])) _
      refine st625 _ ?_
      show Steps p.tables e below (T625.setTop (mkF m 185 #[.val (.int k1), .val (.int k2), .val (.int k3), .val (.long k4), .second, .val (.int k5), .val (.int k6), .val (.int (4 : Int32)), .val (.int v18), .val (.ref b545), .val (.ref b570), .val (.int r172), .unset, .unset, .unset, .unset, .unset, .unset] [(.int (own_f1 k6 k5 (1 : Int32)))])) _
      rw [← hr182]
      show Steps p.tables e below (T625.setTop (mkF m 185 #[.val (.int k1), .val (.int k2), .val (.int k3), .val (.long k4), .second, .val (.int k5), .val (.int k6), .val (.int (4 : Int32)), .val (.int v18), .val (.ref b545), .val (.ref b570), .val (.int r172), .unset, .unset, .unset, .unset, .unset, .unset] [(.int r182)])) _
      refine XS.istore X625.here hx rfl (hb hby at_185) rfl (l' := #[.val (.int k1), .val (.int k2), .val (.int k3), .val (.long k4), .second, .val (.int k5), .val (.int k6), .val (.int (4 : Int32)), .val (.int v18), .val (.ref b545), .val (.ref b570), .val (.int r172), .val (.int r182), .unset, .unset, .unset, .unset, .unset]) rfl ?_
      show Steps p.tables e below (T625.setTop (mkF m 187 #[.val (.int k1), .val (.int k2), .val (.int k3), .val (.long k4), .second, .val (.int k5), .val (.int k6), .val (.int (4 : Int32)), .val (.int v18), .val (.ref b545), .val (.ref b570), .val (.int r172), .val (.int r182), .unset, .unset, .unset, .unset, .unset] [])) _
      refine XS.iload X625.here hx rfl (hb hby at_187) rfl ?_
      show Steps p.tables e below (T625.setTop (mkF m 189 #[.val (.int k1), .val (.int k2), .val (.int k3), .val (.long k4), .second, .val (.int k5), .val (.int k6), .val (.int (4 : Int32)), .val (.int v18), .val (.ref b545), .val (.ref b570), .val (.int r172), .val (.int r182), .unset, .unset, .unset, .unset, .unset] [(.int k6)])) _
      refine XS.iload X625.here hx rfl (hb hby at_189) rfl ?_
      show Steps p.tables e below (T625.setTop (mkF m 191 #[.val (.int k1), .val (.int k2), .val (.int k3), .val (.long k4), .second, .val (.int k5), .val (.int k6), .val (.int (4 : Int32)), .val (.int v18), .val (.ref b545), .val (.ref b570), .val (.int r172), .val (.int r182), .unset, .unset, .unset, .unset, .unset] [(.int k5), (.int k6)])) _
      refine XS.iconst X625.here hx rfl (hb hby at_191) ?_
      show Steps p.tables e below (T625.setTop (mkF m 192 #[.val (.int k1), .val (.int k2), .val (.int k3), .val (.long k4), .second, .val (.int k5), .val (.int k6), .val (.int (4 : Int32)), .val (.int v18), .val (.ref b545), .val (.ref b570), .val (.int r172), .val (.int r182), .unset, .unset, .unset, .unset, .unset] [(.int (2 : Int32)), (.int k5), (.int k6)])) _
      refine st626 _ ?_
      show Steps p.tables e below (T626.setTop (mkF m 195 #[.val (.int k1), .val (.int k2), .val (.int k3), .val (.long k4), .second, .val (.int k5), .val (.int k6), .val (.int (4 : Int32)), .val (.int v18), .val (.ref b545), .val (.ref b570), .val (.int r172), .val (.int r182), .unset, .unset, .unset, .unset, .unset] [(.int (own_f1 k6 k5 (2 : Int32)))])) _
      rw [← hr192]
      show Steps p.tables e below (T626.setTop (mkF m 195 #[.val (.int k1), .val (.int k2), .val (.int k3), .val (.long k4), .second, .val (.int k5), .val (.int k6), .val (.int (4 : Int32)), .val (.int v18), .val (.ref b545), .val (.ref b570), .val (.int r172), .val (.int r182), .unset, .unset, .unset, .unset, .unset] [(.int r192)])) _
      refine XS.istore X626.here hx rfl (hb hby at_195) rfl (l' := #[.val (.int k1), .val (.int k2), .val (.int k3), .val (.long k4), .second, .val (.int k5), .val (.int k6), .val (.int (4 : Int32)), .val (.int v18), .val (.ref b545), .val (.ref b570), .val (.int r172), .val (.int r182), .val (.int r192), .unset, .unset, .unset, .unset]) rfl ?_
      show Steps p.tables e below (T626.setTop (mkF m 197 #[.val (.int k1), .val (.int k2), .val (.int k3), .val (.long k4), .second, .val (.int k5), .val (.int k6), .val (.int (4 : Int32)), .val (.int v18), .val (.ref b545), .val (.ref b570), .val (.int r172), .val (.int r182), .val (.int r192), .unset, .unset, .unset, .unset] [])) _
      refine XS.iload X626.here hx rfl (hb hby at_197) rfl ?_
      show Steps p.tables e below (T626.setTop (mkF m 199 #[.val (.int k1), .val (.int k2), .val (.int k3), .val (.long k4), .second, .val (.int k5), .val (.int k6), .val (.int (4 : Int32)), .val (.int v18), .val (.ref b545), .val (.ref b570), .val (.int r172), .val (.int r182), .val (.int r192), .unset, .unset, .unset, .unset] [(.int k6)])) _
      refine XS.iload X626.here hx rfl (hb hby at_199) rfl ?_
      show Steps p.tables e below (T626.setTop (mkF m 201 #[.val (.int k1), .val (.int k2), .val (.int k3), .val (.long k4), .second, .val (.int k5), .val (.int k6), .val (.int (4 : Int32)), .val (.int v18), .val (.ref b545), .val (.ref b570), .val (.int r172), .val (.int r182), .val (.int r192), .unset, .unset, .unset, .unset] [(.int k5), (.int k6)])) _
      refine XS.iconst X626.here hx rfl (hb hby at_201) ?_
      show Steps p.tables e below (T626.setTop (mkF m 202 #[.val (.int k1), .val (.int k2), .val (.int k3), .val (.long k4), .second, .val (.int k5), .val (.int k6), .val (.int (4 : Int32)), .val (.int v18), .val (.ref b545), .val (.ref b570), .val (.int r172), .val (.int r182), .val (.int r192), .unset, .unset, .unset, .unset] [(.int (3 : Int32)), (.int k5), (.int k6)])) _
      refine st627 _ ?_
      show Steps p.tables e below (T627.setTop (mkF m 205 #[.val (.int k1), .val (.int k2), .val (.int k3), .val (.long k4), .second, .val (.int k5), .val (.int k6), .val (.int (4 : Int32)), .val (.int v18), .val (.ref b545), .val (.ref b570), .val (.int r172), .val (.int r182), .val (.int r192), .unset, .unset, .unset, .unset] [(.int (own_f1 k6 k5 (3 : Int32)))])) _
      rw [← hr202]
      show Steps p.tables e below (T627.setTop (mkF m 205 #[.val (.int k1), .val (.int k2), .val (.int k3), .val (.long k4), .second, .val (.int k5), .val (.int k6), .val (.int (4 : Int32)), .val (.int v18), .val (.ref b545), .val (.ref b570), .val (.int r172), .val (.int r182), .val (.int r192), .unset, .unset, .unset, .unset] [(.int r202)])) _
      refine XS.istore X627.here hx rfl (hb hby at_205) rfl (l' := #[.val (.int k1), .val (.int k2), .val (.int k3), .val (.long k4), .second, .val (.int k5), .val (.int k6), .val (.int (4 : Int32)), .val (.int v18), .val (.ref b545), .val (.ref b570), .val (.int r172), .val (.int r182), .val (.int r192), .val (.int r202), .unset, .unset, .unset]) rfl ?_
      show Steps p.tables e below (T627.setTop (mkF m 207 #[.val (.int k1), .val (.int k2), .val (.int k3), .val (.long k4), .second, .val (.int k5), .val (.int k6), .val (.int (4 : Int32)), .val (.int v18), .val (.ref b545), .val (.ref b570), .val (.int r172), .val (.int r182), .val (.int r192), .val (.int r202), .unset, .unset, .unset] [])) _
      refine XS.iload X627.here hx rfl (hb hby at_207) rfl ?_
      show Steps p.tables e below (T627.setTop (mkF m 209 #[.val (.int k1), .val (.int k2), .val (.int k3), .val (.long k4), .second, .val (.int k5), .val (.int k6), .val (.int (4 : Int32)), .val (.int v18), .val (.ref b545), .val (.ref b570), .val (.int r172), .val (.int r182), .val (.int r192), .val (.int r202), .unset, .unset, .unset] [(.int (4 : Int32))])) _
      refine XS.ifNo X627.here hx rfl (hb hby at_209) rfl ((if0 _ _).trans (tlt (by decide)).2.2.2) ?_
      show Steps p.tables e below (T627.setTop (mkF m 212 #[.val (.int k1), .val (.int k2), .val (.int k3), .val (.long k4), .second, .val (.int k5), .val (.int k6), .val (.int (4 : Int32)), .val (.int v18), .val (.ref b545), .val (.ref b570), .val (.int r172), .val (.int r182), .val (.int r192), .val (.int r202), .unset, .unset, .unset] [])) _
      refine XS.aload X627.here hx rfl (hb hby at_212) rfl rfl ?_
      show Steps p.tables e below (T627.setTop (mkF m 214 #[.val (.int k1), .val (.int k2), .val (.int k3), .val (.long k4), .second, .val (.int k5), .val (.int k6), .val (.int (4 : Int32)), .val (.int v18), .val (.ref b545), .val (.ref b570), .val (.int r172), .val (.int r182), .val (.int r192), .val (.int r202), .unset, .unset, .unset] [(.ref b570)])) _
      refine XS.iload X627.here hx rfl (hb hby at_214) rfl ?_
      show Steps p.tables e below (T627.setTop (mkF m 216 #[.val (.int k1), .val (.int k2), .val (.int k3), .val (.long k4), .second, .val (.int k5), .val (.int k6), .val (.int (4 : Int32)), .val (.int v18), .val (.ref b545), .val (.ref b570), .val (.int r172), .val (.int r182), .val (.int r192), .val (.int r202), .unset, .unset, .unset] [(.int v18), (.ref b570)])) _
      refine XS.aload X627.here hx rfl (hb hby at_216) rfl rfl ?_
      show Steps p.tables e below (T627.setTop (mkF m 218 #[.val (.int k1), .val (.int k2), .val (.int k3), .val (.long k4), .second, .val (.int k5), .val (.int k6), .val (.int (4 : Int32)), .val (.int v18), .val (.ref b545), .val (.ref b570), .val (.int r172), .val (.int r182), .val (.int r192), .val (.int r202), .unset, .unset, .unset] [(.ref b545), (.int v18), (.ref b570)])) _
      refine XS.iconst X627.here hx rfl (hb hby at_218) ?_
      show Steps p.tables e below (T627.setTop (mkF m 219 #[.val (.int k1), .val (.int k2), .val (.int k3), .val (.long k4), .second, .val (.int k5), .val (.int k6), .val (.int (4 : Int32)), .val (.int v18), .val (.ref b545), .val (.ref b570), .val (.int r172), .val (.int r182), .val (.int r192), .val (.int r202), .unset, .unset, .unset] [(.int (0 : Int32)), (.ref b545), (.int v18), (.ref b570)])) _
      refine X627.baloadBytes hx (j := (0 : Int32)) (v := (.int (nar .byte (k3.toInt8.toInt32)))) (heq_of e627 Ar628.1) (State.isArrayOf_alike hZ.alike Ar628.2.1) Ar628.2.2 hin628 hat628 (g := (mkF m 219 #[.val (.int k1), .val (.int k2), .val (.int k3), .val (.long k4), .second, .val (.int k5), .val (.int k6), .val (.int (4 : Int32)), .val (.int v18), .val (.ref b545), .val (.ref b570), .val (.int r172), .val (.int r182), .val (.int r192), .val (.int r202), .unset, .unset, .unset] [(.int (0 : Int32)), (.ref b545), (.int v18), (.ref b570)])) rfl rfl (hb hby at_219) _ ?_
      show Steps p.tables e below (T627.setTop (mkF m 220 #[.val (.int k1), .val (.int k2), .val (.int k3), .val (.long k4), .second, .val (.int k5), .val (.int k6), .val (.int (4 : Int32)), .val (.int v18), .val (.ref b545), .val (.ref b570), .val (.int r172), .val (.int r182), .val (.int r192), .val (.int r202), .unset, .unset, .unset] [(.int (nar .byte (k3.toInt8.toInt32))), (.int v18), (.ref b570)])) _
      refine XS.iload X627.here hx rfl (hb hby at_220) rfl ?_
      show Steps p.tables e below (T627.setTop (mkF m 222 #[.val (.int k1), .val (.int k2), .val (.int k3), .val (.long k4), .second, .val (.int k5), .val (.int k6), .val (.int (4 : Int32)), .val (.int v18), .val (.ref b545), .val (.ref b570), .val (.int r172), .val (.int r182), .val (.int r192), .val (.int r202), .unset, .unset, .unset] [(.int r172), (.int (nar .byte (k3.toInt8.toInt32))), (.int v18), (.ref b570)])) _
      refine XS.ixor X627.here hx rfl (hb hby at_222) rfl ?_
      show Steps p.tables e below (T627.setTop (mkF m 223 #[.val (.int k1), .val (.int k2), .val (.int k3), .val (.long k4), .second, .val (.int k5), .val (.int k6), .val (.int (4 : Int32)), .val (.int v18), .val (.ref b545), .val (.ref b570), .val (.int r172), .val (.int r182), .val (.int r192), .val (.int r202), .unset, .unset, .unset] [(.int ((nar .byte (k3.toInt8.toInt32)) ^^^ r172)), (.int v18), (.ref b570)])) _
      refine XS.i2b X627.here hx rfl (hb hby at_223) rfl ?_
      show Steps p.tables e below (T627.setTop (mkF m 224 #[.val (.int k1), .val (.int k2), .val (.int k3), .val (.long k4), .second, .val (.int k5), .val (.int k6), .val (.int (4 : Int32)), .val (.int v18), .val (.ref b545), .val (.ref b570), .val (.int r172), .val (.int r182), .val (.int r192), .val (.int r202), .unset, .unset, .unset] [(.int (((nar .byte (k3.toInt8.toInt32)) ^^^ r172).toInt8.toInt32)), (.int v18), (.ref b570)])) _
      refine st629 _ ?_
      show Steps p.tables e below (T629.setTop (mkF m 225 #[.val (.int k1), .val (.int k2), .val (.int k3), .val (.long k4), .second, .val (.int k5), .val (.int k6), .val (.int (4 : Int32)), .val (.int v18), .val (.ref b545), .val (.ref b570), .val (.int r172), .val (.int r182), .val (.int r192), .val (.int r202), .unset, .unset, .unset] [])) _
      refine XS.iload X629.here hx rfl (hb hby at_225) rfl ?_
      show Steps p.tables e below (T629.setTop (mkF m 227 #[.val (.int k1), .val (.int k2), .val (.int k3), .val (.long k4), .second, .val (.int k5), .val (.int k6), .val (.int (4 : Int32)), .val (.int v18), .val (.ref b545), .val (.ref b570), .val (.int r172), .val (.int r182), .val (.int r192), .val (.int r202), .unset, .unset, .unset] [(.int (4 : Int32))])) _
      refine XS.iconst X629.here hx rfl (hb hby at_227) ?_
      show Steps p.tables e below (T629.setTop (mkF m 228 #[.val (.int k1), .val (.int k2), .val (.int k3), .val (.long k4), .second, .val (.int k5), .val (.int k6), .val (.int (4 : Int32)), .val (.int v18), .val (.ref b545), .val (.ref b570), .val (.int r172), .val (.int r182), .val (.int r192), .val (.int r202), .unset, .unset, .unset] [(.int (1 : Int32)), (.int (4 : Int32))])) _
      refine XS.icmpNo X629.here hx rfl (hb hby at_228) rfl (tlt (by decide)).2.2.2 ?_
      show Steps p.tables e below (T629.setTop (mkF m 231 #[.val (.int k1), .val (.int k2), .val (.int k3), .val (.long k4), .second, .val (.int k5), .val (.int k6), .val (.int (4 : Int32)), .val (.int v18), .val (.ref b545), .val (.ref b570), .val (.int r172), .val (.int r182), .val (.int r192), .val (.int r202), .unset, .unset, .unset] [])) _
      refine XS.aload X629.here hx rfl (hb hby at_231) rfl rfl ?_
      show Steps p.tables e below (T629.setTop (mkF m 233 #[.val (.int k1), .val (.int k2), .val (.int k3), .val (.long k4), .second, .val (.int k5), .val (.int k6), .val (.int (4 : Int32)), .val (.int v18), .val (.ref b545), .val (.ref b570), .val (.int r172), .val (.int r182), .val (.int r192), .val (.int r202), .unset, .unset, .unset] [(.ref b570)])) _
      refine XS.iload X629.here hx rfl (hb hby at_233) rfl ?_
      show Steps p.tables e below (T629.setTop (mkF m 235 #[.val (.int k1), .val (.int k2), .val (.int k3), .val (.long k4), .second, .val (.int k5), .val (.int k6), .val (.int (4 : Int32)), .val (.int v18), .val (.ref b545), .val (.ref b570), .val (.int r172), .val (.int r182), .val (.int r192), .val (.int r202), .unset, .unset, .unset] [(.int v18), (.ref b570)])) _
      refine XS.iconst X629.here hx rfl (hb hby at_235) ?_
      show Steps p.tables e below (T629.setTop (mkF m 236 #[.val (.int k1), .val (.int k2), .val (.int k3), .val (.long k4), .second, .val (.int k5), .val (.int k6), .val (.int (4 : Int32)), .val (.int v18), .val (.ref b545), .val (.ref b570), .val (.int r172), .val (.int r182), .val (.int r192), .val (.int r202), .unset, .unset, .unset] [(.int (1 : Int32)), (.int v18), (.ref b570)])) _
      refine XS.iadd X629.here hx rfl (hb hby at_236) rfl ?_
      show Steps p.tables e below (T629.setTop (mkF m 237 #[.val (.int k1), .val (.int k2), .val (.int k3), .val (.long k4), .second, .val (.int k5), .val (.int k6), .val (.int (4 : Int32)), .val (.int v18), .val (.ref b545), .val (.ref b570), .val (.int r172), .val (.int r182), .val (.int r192), .val (.int r202), .unset, .unset, .unset] [(.int (v18 + (1 : Int32))), (.ref b570)])) _
      refine XS.aload X629.here hx rfl (hb hby at_237) rfl rfl ?_
      show Steps p.tables e below (T629.setTop (mkF m 239 #[.val (.int k1), .val (.int k2), .val (.int k3), .val (.long k4), .second, .val (.int k5), .val (.int k6), .val (.int (4 : Int32)), .val (.int v18), .val (.ref b545), .val (.ref b570), .val (.int r172), .val (.int r182), .val (.int r192), .val (.int r202), .unset, .unset, .unset] [(.ref b545), (.int (v18 + (1 : Int32))), (.ref b570)])) _
      refine XS.iconst X629.here hx rfl (hb hby at_239) ?_
      show Steps p.tables e below (T629.setTop (mkF m 240 #[.val (.int k1), .val (.int k2), .val (.int k3), .val (.long k4), .second, .val (.int k5), .val (.int k6), .val (.int (4 : Int32)), .val (.int v18), .val (.ref b545), .val (.ref b570), .val (.int r172), .val (.int r182), .val (.int r192), .val (.int r202), .unset, .unset, .unset] [(.int (1 : Int32)), (.ref b545), (.int (v18 + (1 : Int32))), (.ref b570)])) _
      refine X629.baloadBytes hx (j := (1 : Int32)) (v := (.int (nar .byte ((k3 >>> ((8 : Int32) &&& 31)).toInt8.toInt32)))) (heq_of e629 Ar635.1) (State.isArrayOf_alike hZ.alike Ar635.2.1) Ar635.2.2 hin635 hat635 (g := (mkF m 240 #[.val (.int k1), .val (.int k2), .val (.int k3), .val (.long k4), .second, .val (.int k5), .val (.int k6), .val (.int (4 : Int32)), .val (.int v18), .val (.ref b545), .val (.ref b570), .val (.int r172), .val (.int r182), .val (.int r192), .val (.int r202), .unset, .unset, .unset] [(.int (1 : Int32)), (.ref b545), (.int (v18 + (1 : Int32))), (.ref b570)])) rfl rfl (hb hby at_240) _ ?_
      show Steps p.tables e below (T629.setTop (mkF m 241 #[.val (.int k1), .val (.int k2), .val (.int k3), .val (.long k4), .second, .val (.int k5), .val (.int k6), .val (.int (4 : Int32)), .val (.int v18), .val (.ref b545), .val (.ref b570), .val (.int r172), .val (.int r182), .val (.int r192), .val (.int r202), .unset, .unset, .unset] [(.int (nar .byte ((k3 >>> ((8 : Int32) &&& 31)).toInt8.toInt32))), (.int (v18 + (1 : Int32))), (.ref b570)])) _
      refine XS.iload X629.here hx rfl (hb hby at_241) rfl ?_
      show Steps p.tables e below (T629.setTop (mkF m 243 #[.val (.int k1), .val (.int k2), .val (.int k3), .val (.long k4), .second, .val (.int k5), .val (.int k6), .val (.int (4 : Int32)), .val (.int v18), .val (.ref b545), .val (.ref b570), .val (.int r172), .val (.int r182), .val (.int r192), .val (.int r202), .unset, .unset, .unset] [(.int r182), (.int (nar .byte ((k3 >>> ((8 : Int32) &&& 31)).toInt8.toInt32))), (.int (v18 + (1 : Int32))), (.ref b570)])) _
      refine XS.ixor X629.here hx rfl (hb hby at_243) rfl ?_
      show Steps p.tables e below (T629.setTop (mkF m 244 #[.val (.int k1), .val (.int k2), .val (.int k3), .val (.long k4), .second, .val (.int k5), .val (.int k6), .val (.int (4 : Int32)), .val (.int v18), .val (.ref b545), .val (.ref b570), .val (.int r172), .val (.int r182), .val (.int r192), .val (.int r202), .unset, .unset, .unset] [(.int ((nar .byte ((k3 >>> ((8 : Int32) &&& 31)).toInt8.toInt32)) ^^^ r182)), (.int (v18 + (1 : Int32))), (.ref b570)])) _
      refine XS.i2b X629.here hx rfl (hb hby at_244) rfl ?_
      show Steps p.tables e below (T629.setTop (mkF m 245 #[.val (.int k1), .val (.int k2), .val (.int k3), .val (.long k4), .second, .val (.int k5), .val (.int k6), .val (.int (4 : Int32)), .val (.int v18), .val (.ref b545), .val (.ref b570), .val (.int r172), .val (.int r182), .val (.int r192), .val (.int r202), .unset, .unset, .unset] [(.int (((nar .byte ((k3 >>> ((8 : Int32) &&& 31)).toInt8.toInt32)) ^^^ r182).toInt8.toInt32)), (.int (v18 + (1 : Int32))), (.ref b570)])) _
      refine st636 _ ?_
      show Steps p.tables e below (T636.setTop (mkF m 246 #[.val (.int k1), .val (.int k2), .val (.int k3), .val (.long k4), .second, .val (.int k5), .val (.int k6), .val (.int (4 : Int32)), .val (.int v18), .val (.ref b545), .val (.ref b570), .val (.int r172), .val (.int r182), .val (.int r192), .val (.int r202), .unset, .unset, .unset] [])) _
      refine XS.iload X636.here hx rfl (hb hby at_246) rfl ?_
      show Steps p.tables e below (T636.setTop (mkF m 248 #[.val (.int k1), .val (.int k2), .val (.int k3), .val (.long k4), .second, .val (.int k5), .val (.int k6), .val (.int (4 : Int32)), .val (.int v18), .val (.ref b545), .val (.ref b570), .val (.int r172), .val (.int r182), .val (.int r192), .val (.int r202), .unset, .unset, .unset] [(.int (4 : Int32))])) _
      refine XS.iconst X636.here hx rfl (hb hby at_248) ?_
      show Steps p.tables e below (T636.setTop (mkF m 249 #[.val (.int k1), .val (.int k2), .val (.int k3), .val (.long k4), .second, .val (.int k5), .val (.int k6), .val (.int (4 : Int32)), .val (.int v18), .val (.ref b545), .val (.ref b570), .val (.int r172), .val (.int r182), .val (.int r192), .val (.int r202), .unset, .unset, .unset] [(.int (2 : Int32)), (.int (4 : Int32))])) _
      refine XS.icmpNo X636.here hx rfl (hb hby at_249) rfl (tlt (by decide)).2.2.2 ?_
      show Steps p.tables e below (T636.setTop (mkF m 252 #[.val (.int k1), .val (.int k2), .val (.int k3), .val (.long k4), .second, .val (.int k5), .val (.int k6), .val (.int (4 : Int32)), .val (.int v18), .val (.ref b545), .val (.ref b570), .val (.int r172), .val (.int r182), .val (.int r192), .val (.int r202), .unset, .unset, .unset] [])) _
      refine XS.aload X636.here hx rfl (hb hby at_252) rfl rfl ?_
      show Steps p.tables e below (T636.setTop (mkF m 254 #[.val (.int k1), .val (.int k2), .val (.int k3), .val (.long k4), .second, .val (.int k5), .val (.int k6), .val (.int (4 : Int32)), .val (.int v18), .val (.ref b545), .val (.ref b570), .val (.int r172), .val (.int r182), .val (.int r192), .val (.int r202), .unset, .unset, .unset] [(.ref b570)])) _
      refine XS.iload X636.here hx rfl (hb hby at_254) rfl ?_
      show Steps p.tables e below (T636.setTop (mkF m 256 #[.val (.int k1), .val (.int k2), .val (.int k3), .val (.long k4), .second, .val (.int k5), .val (.int k6), .val (.int (4 : Int32)), .val (.int v18), .val (.ref b545), .val (.ref b570), .val (.int r172), .val (.int r182), .val (.int r192), .val (.int r202), .unset, .unset, .unset] [(.int v18), (.ref b570)])) _
      refine XS.iconst X636.here hx rfl (hb hby at_256) ?_
      show Steps p.tables e below (T636.setTop (mkF m 257 #[.val (.int k1), .val (.int k2), .val (.int k3), .val (.long k4), .second, .val (.int k5), .val (.int k6), .val (.int (4 : Int32)), .val (.int v18), .val (.ref b545), .val (.ref b570), .val (.int r172), .val (.int r182), .val (.int r192), .val (.int r202), .unset, .unset, .unset] [(.int (2 : Int32)), (.int v18), (.ref b570)])) _
      refine XS.iadd X636.here hx rfl (hb hby at_257) rfl ?_
      show Steps p.tables e below (T636.setTop (mkF m 258 #[.val (.int k1), .val (.int k2), .val (.int k3), .val (.long k4), .second, .val (.int k5), .val (.int k6), .val (.int (4 : Int32)), .val (.int v18), .val (.ref b545), .val (.ref b570), .val (.int r172), .val (.int r182), .val (.int r192), .val (.int r202), .unset, .unset, .unset] [(.int (v18 + (2 : Int32))), (.ref b570)])) _
      refine XS.aload X636.here hx rfl (hb hby at_258) rfl rfl ?_
      show Steps p.tables e below (T636.setTop (mkF m 260 #[.val (.int k1), .val (.int k2), .val (.int k3), .val (.long k4), .second, .val (.int k5), .val (.int k6), .val (.int (4 : Int32)), .val (.int v18), .val (.ref b545), .val (.ref b570), .val (.int r172), .val (.int r182), .val (.int r192), .val (.int r202), .unset, .unset, .unset] [(.ref b545), (.int (v18 + (2 : Int32))), (.ref b570)])) _
      refine XS.iconst X636.here hx rfl (hb hby at_260) ?_
      show Steps p.tables e below (T636.setTop (mkF m 261 #[.val (.int k1), .val (.int k2), .val (.int k3), .val (.long k4), .second, .val (.int k5), .val (.int k6), .val (.int (4 : Int32)), .val (.int v18), .val (.ref b545), .val (.ref b570), .val (.int r172), .val (.int r182), .val (.int r192), .val (.int r202), .unset, .unset, .unset] [(.int (2 : Int32)), (.ref b545), (.int (v18 + (2 : Int32))), (.ref b570)])) _
      refine X636.baloadBytes hx (j := (2 : Int32)) (v := (.int (nar .byte ((k3 >>> ((16 : Int32) &&& 31)).toInt8.toInt32)))) (heq_of e636 Ar642.1) (State.isArrayOf_alike hZ.alike Ar642.2.1) Ar642.2.2 hin642 hat642 (g := (mkF m 261 #[.val (.int k1), .val (.int k2), .val (.int k3), .val (.long k4), .second, .val (.int k5), .val (.int k6), .val (.int (4 : Int32)), .val (.int v18), .val (.ref b545), .val (.ref b570), .val (.int r172), .val (.int r182), .val (.int r192), .val (.int r202), .unset, .unset, .unset] [(.int (2 : Int32)), (.ref b545), (.int (v18 + (2 : Int32))), (.ref b570)])) rfl rfl (hb hby at_261) _ ?_
      show Steps p.tables e below (T636.setTop (mkF m 262 #[.val (.int k1), .val (.int k2), .val (.int k3), .val (.long k4), .second, .val (.int k5), .val (.int k6), .val (.int (4 : Int32)), .val (.int v18), .val (.ref b545), .val (.ref b570), .val (.int r172), .val (.int r182), .val (.int r192), .val (.int r202), .unset, .unset, .unset] [(.int (nar .byte ((k3 >>> ((16 : Int32) &&& 31)).toInt8.toInt32))), (.int (v18 + (2 : Int32))), (.ref b570)])) _
      refine XS.iload X636.here hx rfl (hb hby at_262) rfl ?_
      show Steps p.tables e below (T636.setTop (mkF m 264 #[.val (.int k1), .val (.int k2), .val (.int k3), .val (.long k4), .second, .val (.int k5), .val (.int k6), .val (.int (4 : Int32)), .val (.int v18), .val (.ref b545), .val (.ref b570), .val (.int r172), .val (.int r182), .val (.int r192), .val (.int r202), .unset, .unset, .unset] [(.int r192), (.int (nar .byte ((k3 >>> ((16 : Int32) &&& 31)).toInt8.toInt32))), (.int (v18 + (2 : Int32))), (.ref b570)])) _
      refine XS.ixor X636.here hx rfl (hb hby at_264) rfl ?_
      show Steps p.tables e below (T636.setTop (mkF m 265 #[.val (.int k1), .val (.int k2), .val (.int k3), .val (.long k4), .second, .val (.int k5), .val (.int k6), .val (.int (4 : Int32)), .val (.int v18), .val (.ref b545), .val (.ref b570), .val (.int r172), .val (.int r182), .val (.int r192), .val (.int r202), .unset, .unset, .unset] [(.int ((nar .byte ((k3 >>> ((16 : Int32) &&& 31)).toInt8.toInt32)) ^^^ r192)), (.int (v18 + (2 : Int32))), (.ref b570)])) _
      refine XS.i2b X636.here hx rfl (hb hby at_265) rfl ?_
      show Steps p.tables e below (T636.setTop (mkF m 266 #[.val (.int k1), .val (.int k2), .val (.int k3), .val (.long k4), .second, .val (.int k5), .val (.int k6), .val (.int (4 : Int32)), .val (.int v18), .val (.ref b545), .val (.ref b570), .val (.int r172), .val (.int r182), .val (.int r192), .val (.int r202), .unset, .unset, .unset] [(.int (((nar .byte ((k3 >>> ((16 : Int32) &&& 31)).toInt8.toInt32)) ^^^ r192).toInt8.toInt32)), (.int (v18 + (2 : Int32))), (.ref b570)])) _
      refine st643 _ ?_
      show Steps p.tables e below (T643.setTop (mkF m 267 #[.val (.int k1), .val (.int k2), .val (.int k3), .val (.long k4), .second, .val (.int k5), .val (.int k6), .val (.int (4 : Int32)), .val (.int v18), .val (.ref b545), .val (.ref b570), .val (.int r172), .val (.int r182), .val (.int r192), .val (.int r202), .unset, .unset, .unset] [])) _
      refine XS.iload X643.here hx rfl (hb hby at_267) rfl ?_
      show Steps p.tables e below (T643.setTop (mkF m 269 #[.val (.int k1), .val (.int k2), .val (.int k3), .val (.long k4), .second, .val (.int k5), .val (.int k6), .val (.int (4 : Int32)), .val (.int v18), .val (.ref b545), .val (.ref b570), .val (.int r172), .val (.int r182), .val (.int r192), .val (.int r202), .unset, .unset, .unset] [(.int (4 : Int32))])) _
      refine XS.iconst X643.here hx rfl (hb hby at_269) ?_
      show Steps p.tables e below (T643.setTop (mkF m 270 #[.val (.int k1), .val (.int k2), .val (.int k3), .val (.long k4), .second, .val (.int k5), .val (.int k6), .val (.int (4 : Int32)), .val (.int v18), .val (.ref b545), .val (.ref b570), .val (.int r172), .val (.int r182), .val (.int r192), .val (.int r202), .unset, .unset, .unset] [(.int (3 : Int32)), (.int (4 : Int32))])) _
      refine XS.icmpNo X643.here hx rfl (hb hby at_270) rfl (tlt (by decide)).2.2.2 ?_
      show Steps p.tables e below (T643.setTop (mkF m 273 #[.val (.int k1), .val (.int k2), .val (.int k3), .val (.long k4), .second, .val (.int k5), .val (.int k6), .val (.int (4 : Int32)), .val (.int v18), .val (.ref b545), .val (.ref b570), .val (.int r172), .val (.int r182), .val (.int r192), .val (.int r202), .unset, .unset, .unset] [])) _
      refine XS.aload X643.here hx rfl (hb hby at_273) rfl rfl ?_
      show Steps p.tables e below (T643.setTop (mkF m 275 #[.val (.int k1), .val (.int k2), .val (.int k3), .val (.long k4), .second, .val (.int k5), .val (.int k6), .val (.int (4 : Int32)), .val (.int v18), .val (.ref b545), .val (.ref b570), .val (.int r172), .val (.int r182), .val (.int r192), .val (.int r202), .unset, .unset, .unset] [(.ref b570)])) _
      refine XS.iload X643.here hx rfl (hb hby at_275) rfl ?_
      show Steps p.tables e below (T643.setTop (mkF m 277 #[.val (.int k1), .val (.int k2), .val (.int k3), .val (.long k4), .second, .val (.int k5), .val (.int k6), .val (.int (4 : Int32)), .val (.int v18), .val (.ref b545), .val (.ref b570), .val (.int r172), .val (.int r182), .val (.int r192), .val (.int r202), .unset, .unset, .unset] [(.int v18), (.ref b570)])) _
      refine XS.iconst X643.here hx rfl (hb hby at_277) ?_
      show Steps p.tables e below (T643.setTop (mkF m 278 #[.val (.int k1), .val (.int k2), .val (.int k3), .val (.long k4), .second, .val (.int k5), .val (.int k6), .val (.int (4 : Int32)), .val (.int v18), .val (.ref b545), .val (.ref b570), .val (.int r172), .val (.int r182), .val (.int r192), .val (.int r202), .unset, .unset, .unset] [(.int (3 : Int32)), (.int v18), (.ref b570)])) _
      refine XS.iadd X643.here hx rfl (hb hby at_278) rfl ?_
      show Steps p.tables e below (T643.setTop (mkF m 279 #[.val (.int k1), .val (.int k2), .val (.int k3), .val (.long k4), .second, .val (.int k5), .val (.int k6), .val (.int (4 : Int32)), .val (.int v18), .val (.ref b545), .val (.ref b570), .val (.int r172), .val (.int r182), .val (.int r192), .val (.int r202), .unset, .unset, .unset] [(.int (v18 + (3 : Int32))), (.ref b570)])) _
      refine XS.aload X643.here hx rfl (hb hby at_279) rfl rfl ?_
      show Steps p.tables e below (T643.setTop (mkF m 281 #[.val (.int k1), .val (.int k2), .val (.int k3), .val (.long k4), .second, .val (.int k5), .val (.int k6), .val (.int (4 : Int32)), .val (.int v18), .val (.ref b545), .val (.ref b570), .val (.int r172), .val (.int r182), .val (.int r192), .val (.int r202), .unset, .unset, .unset] [(.ref b545), (.int (v18 + (3 : Int32))), (.ref b570)])) _
      refine XS.iconst X643.here hx rfl (hb hby at_281) ?_
      show Steps p.tables e below (T643.setTop (mkF m 282 #[.val (.int k1), .val (.int k2), .val (.int k3), .val (.long k4), .second, .val (.int k5), .val (.int k6), .val (.int (4 : Int32)), .val (.int v18), .val (.ref b545), .val (.ref b570), .val (.int r172), .val (.int r182), .val (.int r192), .val (.int r202), .unset, .unset, .unset] [(.int (3 : Int32)), (.ref b545), (.int (v18 + (3 : Int32))), (.ref b570)])) _
      refine X643.baloadBytes hx (j := (3 : Int32)) (v := (.int (nar .byte ((k3 >>> ((24 : Int32) &&& 31)).toInt8.toInt32)))) (heq_of e643 Ar649.1) (State.isArrayOf_alike hZ.alike Ar649.2.1) Ar649.2.2 hin649 hat649 (g := (mkF m 282 #[.val (.int k1), .val (.int k2), .val (.int k3), .val (.long k4), .second, .val (.int k5), .val (.int k6), .val (.int (4 : Int32)), .val (.int v18), .val (.ref b545), .val (.ref b570), .val (.int r172), .val (.int r182), .val (.int r192), .val (.int r202), .unset, .unset, .unset] [(.int (3 : Int32)), (.ref b545), (.int (v18 + (3 : Int32))), (.ref b570)])) rfl rfl (hb hby at_282) _ ?_
      show Steps p.tables e below (T643.setTop (mkF m 283 #[.val (.int k1), .val (.int k2), .val (.int k3), .val (.long k4), .second, .val (.int k5), .val (.int k6), .val (.int (4 : Int32)), .val (.int v18), .val (.ref b545), .val (.ref b570), .val (.int r172), .val (.int r182), .val (.int r192), .val (.int r202), .unset, .unset, .unset] [(.int (nar .byte ((k3 >>> ((24 : Int32) &&& 31)).toInt8.toInt32))), (.int (v18 + (3 : Int32))), (.ref b570)])) _
      refine XS.iload X643.here hx rfl (hb hby at_283) rfl ?_
      show Steps p.tables e below (T643.setTop (mkF m 285 #[.val (.int k1), .val (.int k2), .val (.int k3), .val (.long k4), .second, .val (.int k5), .val (.int k6), .val (.int (4 : Int32)), .val (.int v18), .val (.ref b545), .val (.ref b570), .val (.int r172), .val (.int r182), .val (.int r192), .val (.int r202), .unset, .unset, .unset] [(.int r202), (.int (nar .byte ((k3 >>> ((24 : Int32) &&& 31)).toInt8.toInt32))), (.int (v18 + (3 : Int32))), (.ref b570)])) _
      refine XS.ixor X643.here hx rfl (hb hby at_285) rfl ?_
      show Steps p.tables e below (T643.setTop (mkF m 286 #[.val (.int k1), .val (.int k2), .val (.int k3), .val (.long k4), .second, .val (.int k5), .val (.int k6), .val (.int (4 : Int32)), .val (.int v18), .val (.ref b545), .val (.ref b570), .val (.int r172), .val (.int r182), .val (.int r192), .val (.int r202), .unset, .unset, .unset] [(.int ((nar .byte ((k3 >>> ((24 : Int32) &&& 31)).toInt8.toInt32)) ^^^ r202)), (.int (v18 + (3 : Int32))), (.ref b570)])) _
      refine XS.i2b X643.here hx rfl (hb hby at_286) rfl ?_
      show Steps p.tables e below (T643.setTop (mkF m 287 #[.val (.int k1), .val (.int k2), .val (.int k3), .val (.long k4), .second, .val (.int k5), .val (.int k6), .val (.int (4 : Int32)), .val (.int v18), .val (.ref b545), .val (.ref b570), .val (.int r172), .val (.int r182), .val (.int r192), .val (.int r202), .unset, .unset, .unset] [(.int (((nar .byte ((k3 >>> ((24 : Int32) &&& 31)).toInt8.toInt32)) ^^^ r202).toInt8.toInt32)), (.int (v18 + (3 : Int32))), (.ref b570)])) _
      refine st650 _ ?_
      show Steps p.tables e below (T650.setTop (mkF m 288 #[.val (.int k1), .val (.int k2), .val (.int k3), .val (.long k4), .second, .val (.int k5), .val (.int k6), .val (.int (4 : Int32)), .val (.int v18), .val (.ref b545), .val (.ref b570), .val (.int r172), .val (.int r182), .val (.int r192), .val (.int r202), .unset, .unset, .unset] [])) _
      refine XS.iload X650.here hx rfl (hb hby at_288) rfl ?_
      show Steps p.tables e below (T650.setTop (mkF m 290 #[.val (.int k1), .val (.int k2), .val (.int k3), .val (.long k4), .second, .val (.int k5), .val (.int k6), .val (.int (4 : Int32)), .val (.int v18), .val (.ref b545), .val (.ref b570), .val (.int r172), .val (.int r182), .val (.int r192), .val (.int r202), .unset, .unset, .unset] [(.int (4 : Int32))])) _
      refine XS.iconst X650.here hx rfl (hb hby at_290) ?_
      show Steps p.tables e below (T650.setTop (mkF m 291 #[.val (.int k1), .val (.int k2), .val (.int k3), .val (.long k4), .second, .val (.int k5), .val (.int k6), .val (.int (4 : Int32)), .val (.int v18), .val (.ref b545), .val (.ref b570), .val (.int r172), .val (.int r182), .val (.int r192), .val (.int r202), .unset, .unset, .unset] [(.int (1 : Int32)), (.int (4 : Int32))])) _
      refine XS.icmpNo X650.here hx rfl (hb hby at_291) rfl (flt (by decide)).1 ?_
      show Steps p.tables e below (T650.setTop (mkF m 294 #[.val (.int k1), .val (.int k2), .val (.int k3), .val (.long k4), .second, .val (.int k5), .val (.int k6), .val (.int (4 : Int32)), .val (.int v18), .val (.ref b545), .val (.ref b570), .val (.int r172), .val (.int r182), .val (.int r192), .val (.int r202), .unset, .unset, .unset] [])) _
      refine XS.iload X650.here hx rfl (hb hby at_294) rfl ?_
      by_cases d656 : r172 = (0 : Int32)
      · skip
        show Steps p.tables e below (T650.setTop (mkF m 296 #[.val (.int k1), .val (.int k2), .val (.int k3), .val (.long k4), .second, .val (.int k5), .val (.int k6), .val (.int (4 : Int32)), .val (.int v18), .val (.ref b545), .val (.ref b570), .val (.int r172), .val (.int r182), .val (.int r192), .val (.int r202), .unset, .unset, .unset] [(.int r172)])) _
        refine XS.ifNo X650.here hx rfl (hb hby at_296) rfl ((if0 _ _).trans (teq d656).2) ?_
        show Steps p.tables e below (T650.setTop (mkF m 299 #[.val (.int k1), .val (.int k2), .val (.int k3), .val (.long k4), .second, .val (.int k5), .val (.int k6), .val (.int (4 : Int32)), .val (.int v18), .val (.ref b545), .val (.ref b570), .val (.int r172), .val (.int r182), .val (.int r192), .val (.int r202), .unset, .unset, .unset] [])) _
        refine XS.iload X650.here hx rfl (hb hby at_299) rfl ?_
        show Steps p.tables e below (T650.setTop (mkF m 301 #[.val (.int k1), .val (.int k2), .val (.int k3), .val (.long k4), .second, .val (.int k5), .val (.int k6), .val (.int (4 : Int32)), .val (.int v18), .val (.ref b545), .val (.ref b570), .val (.int r172), .val (.int r182), .val (.int r192), .val (.int r202), .unset, .unset, .unset] [(.int (4 : Int32))])) _
        refine XS.iconst X650.here hx rfl (hb hby at_301) ?_
        show Steps p.tables e below (T650.setTop (mkF m 302 #[.val (.int k1), .val (.int k2), .val (.int k3), .val (.long k4), .second, .val (.int k5), .val (.int k6), .val (.int (4 : Int32)), .val (.int v18), .val (.ref b545), .val (.ref b570), .val (.int r172), .val (.int r182), .val (.int r192), .val (.int r202), .unset, .unset, .unset] [(.int (2 : Int32)), (.int (4 : Int32))])) _
        refine XS.icmpNo X650.here hx rfl (hb hby at_302) rfl (flt (by decide)).1 ?_
        show Steps p.tables e below (T650.setTop (mkF m 305 #[.val (.int k1), .val (.int k2), .val (.int k3), .val (.long k4), .second, .val (.int k5), .val (.int k6), .val (.int (4 : Int32)), .val (.int v18), .val (.ref b545), .val (.ref b570), .val (.int r172), .val (.int r182), .val (.int r192), .val (.int r202), .unset, .unset, .unset] [])) _
        refine XS.iload X650.here hx rfl (hb hby at_305) rfl ?_
        by_cases d657 : r182 = (0 : Int32)
        · skip
          show Steps p.tables e below (T650.setTop (mkF m 307 #[.val (.int k1), .val (.int k2), .val (.int k3), .val (.long k4), .second, .val (.int k5), .val (.int k6), .val (.int (4 : Int32)), .val (.int v18), .val (.ref b545), .val (.ref b570), .val (.int r172), .val (.int r182), .val (.int r192), .val (.int r202), .unset, .unset, .unset] [(.int r182)])) _
          refine XS.ifNo X650.here hx rfl (hb hby at_307) rfl ((if0 _ _).trans (teq d657).2) ?_
          show Steps p.tables e below (T650.setTop (mkF m 310 #[.val (.int k1), .val (.int k2), .val (.int k3), .val (.long k4), .second, .val (.int k5), .val (.int k6), .val (.int (4 : Int32)), .val (.int v18), .val (.ref b545), .val (.ref b570), .val (.int r172), .val (.int r182), .val (.int r192), .val (.int r202), .unset, .unset, .unset] [])) _
          refine XS.iload X650.here hx rfl (hb hby at_310) rfl ?_
          show Steps p.tables e below (T650.setTop (mkF m 312 #[.val (.int k1), .val (.int k2), .val (.int k3), .val (.long k4), .second, .val (.int k5), .val (.int k6), .val (.int (4 : Int32)), .val (.int v18), .val (.ref b545), .val (.ref b570), .val (.int r172), .val (.int r182), .val (.int r192), .val (.int r202), .unset, .unset, .unset] [(.int (4 : Int32))])) _
          refine XS.iconst X650.here hx rfl (hb hby at_312) ?_
          show Steps p.tables e below (T650.setTop (mkF m 313 #[.val (.int k1), .val (.int k2), .val (.int k3), .val (.long k4), .second, .val (.int k5), .val (.int k6), .val (.int (4 : Int32)), .val (.int v18), .val (.ref b545), .val (.ref b570), .val (.int r172), .val (.int r182), .val (.int r192), .val (.int r202), .unset, .unset, .unset] [(.int (3 : Int32)), (.int (4 : Int32))])) _
          refine XS.icmpNo X650.here hx rfl (hb hby at_313) rfl (flt (by decide)).1 ?_
          show Steps p.tables e below (T650.setTop (mkF m 316 #[.val (.int k1), .val (.int k2), .val (.int k3), .val (.long k4), .second, .val (.int k5), .val (.int k6), .val (.int (4 : Int32)), .val (.int v18), .val (.ref b545), .val (.ref b570), .val (.int r172), .val (.int r182), .val (.int r192), .val (.int r202), .unset, .unset, .unset] [])) _
          refine XS.iload X650.here hx rfl (hb hby at_316) rfl ?_
          by_cases d658 : r192 = (0 : Int32)
          · skip
            show Steps p.tables e below (T650.setTop (mkF m 318 #[.val (.int k1), .val (.int k2), .val (.int k3), .val (.long k4), .second, .val (.int k5), .val (.int k6), .val (.int (4 : Int32)), .val (.int v18), .val (.ref b545), .val (.ref b570), .val (.int r172), .val (.int r182), .val (.int r192), .val (.int r202), .unset, .unset, .unset] [(.int r192)])) _
            refine XS.ifNo X650.here hx rfl (hb hby at_318) rfl ((if0 _ _).trans (teq d658).2) ?_
            show Steps p.tables e below (T650.setTop (mkF m 321 #[.val (.int k1), .val (.int k2), .val (.int k3), .val (.long k4), .second, .val (.int k5), .val (.int k6), .val (.int (4 : Int32)), .val (.int v18), .val (.ref b545), .val (.ref b570), .val (.int r172), .val (.int r182), .val (.int r192), .val (.int r202), .unset, .unset, .unset] [])) _
            refine XS.iload X650.here hx rfl (hb hby at_321) rfl ?_
            show Steps p.tables e below (T650.setTop (mkF m 323 #[.val (.int k1), .val (.int k2), .val (.int k3), .val (.long k4), .second, .val (.int k5), .val (.int k6), .val (.int (4 : Int32)), .val (.int v18), .val (.ref b545), .val (.ref b570), .val (.int r172), .val (.int r182), .val (.int r192), .val (.int r202), .unset, .unset, .unset] [(.int (4 : Int32))])) _
            refine XS.iconst X650.here hx rfl (hb hby at_323) ?_
            show Steps p.tables e below (T650.setTop (mkF m 324 #[.val (.int k1), .val (.int k2), .val (.int k3), .val (.long k4), .second, .val (.int k5), .val (.int k6), .val (.int (4 : Int32)), .val (.int v18), .val (.ref b545), .val (.ref b570), .val (.int r172), .val (.int r182), .val (.int r192), .val (.int r202), .unset, .unset, .unset] [(.int (4 : Int32)), (.int (4 : Int32))])) _
            refine XS.icmpNo X650.here hx rfl (hb hby at_324) rfl (flt (by decide)).1 ?_
            show Steps p.tables e below (T650.setTop (mkF m 327 #[.val (.int k1), .val (.int k2), .val (.int k3), .val (.long k4), .second, .val (.int k5), .val (.int k6), .val (.int (4 : Int32)), .val (.int v18), .val (.ref b545), .val (.ref b570), .val (.int r172), .val (.int r182), .val (.int r192), .val (.int r202), .unset, .unset, .unset] [])) _
            refine XS.iload X650.here hx rfl (hb hby at_327) rfl ?_
            by_cases d659 : r202 = (0 : Int32)
            · skip
              show Steps p.tables e below (T650.setTop (mkF m 329 #[.val (.int k1), .val (.int k2), .val (.int k3), .val (.long k4), .second, .val (.int k5), .val (.int k6), .val (.int (4 : Int32)), .val (.int v18), .val (.ref b545), .val (.ref b570), .val (.int r172), .val (.int r182), .val (.int r192), .val (.int r202), .unset, .unset, .unset] [(.int r202)])) _
              refine XS.ifNo X650.here hx rfl (hb hby at_329) rfl ((if0 _ _).trans (teq d659).2) ?_
              show Steps p.tables e below (T650.setTop (mkF m 332 #[.val (.int k1), .val (.int k2), .val (.int k3), .val (.long k4), .second, .val (.int k5), .val (.int k6), .val (.int (4 : Int32)), .val (.int v18), .val (.ref b545), .val (.ref b570), .val (.int r172), .val (.int r182), .val (.int r192), .val (.int r202), .unset, .unset, .unset] [])) _
              refine XS.iconst X650.here hx rfl (hb hby at_332) ?_
              show Steps p.tables e below (T650.setTop (mkF m 333 #[.val (.int k1), .val (.int k2), .val (.int k3), .val (.long k4), .second, .val (.int k5), .val (.int k6), .val (.int (4 : Int32)), .val (.int v18), .val (.ref b545), .val (.ref b570), .val (.int r172), .val (.int r182), .val (.int r192), .val (.int r202), .unset, .unset, .unset] [(.int (1 : Int32))])) _
              refine XS.goto X650.here hx rfl (pc0 := 333) (pc' := 337) rfl (hb hby at_333) (by decide) (by decide) ?_
              show Steps p.tables e below (T650.setTop (mkF m 337 #[.val (.int k1), .val (.int k2), .val (.int k3), .val (.long k4), .second, .val (.int k5), .val (.int k6), .val (.int (4 : Int32)), .val (.int v18), .val (.ref b545), .val (.ref b570), .val (.int r172), .val (.int r182), .val (.int r192), .val (.int r202), .unset, .unset, .unset] [(.int (1 : Int32))])) _
              exact castTop (by simp only [hm337, if_pos d656, if_pos d657, if_pos d658, if_pos d659]) kt
            · skip
              show Steps p.tables e below (T650.setTop (mkF m 329 #[.val (.int k1), .val (.int k2), .val (.int k3), .val (.long k4), .second, .val (.int k5), .val (.int k6), .val (.int (4 : Int32)), .val (.int v18), .val (.ref b545), .val (.ref b570), .val (.int r172), .val (.int r182), .val (.int r192), .val (.int r202), .unset, .unset, .unset] [(.int r202)])) _
              refine XS.ifYes X650.here hx rfl (pc0 := 329) (pc' := 336) rfl (hb hby at_329) rfl ((if0 _ _).trans (feq d659).2) (by decide) (by decide) ?_
              show Steps p.tables e below (T650.setTop (mkF m 336 #[.val (.int k1), .val (.int k2), .val (.int k3), .val (.long k4), .second, .val (.int k5), .val (.int k6), .val (.int (4 : Int32)), .val (.int v18), .val (.ref b545), .val (.ref b570), .val (.int r172), .val (.int r182), .val (.int r192), .val (.int r202), .unset, .unset, .unset] [])) _
              refine XS.iconst X650.here hx rfl (hb hby at_336) ?_
              show Steps p.tables e below (T650.setTop (mkF m 337 #[.val (.int k1), .val (.int k2), .val (.int k3), .val (.long k4), .second, .val (.int k5), .val (.int k6), .val (.int (4 : Int32)), .val (.int v18), .val (.ref b545), .val (.ref b570), .val (.int r172), .val (.int r182), .val (.int r192), .val (.int r202), .unset, .unset, .unset] [(.int (0 : Int32))])) _
              exact castTop (by simp only [hm337, if_pos d656, if_pos d657, if_pos d658, if_neg d659]) kt
          · skip
            show Steps p.tables e below (T650.setTop (mkF m 318 #[.val (.int k1), .val (.int k2), .val (.int k3), .val (.long k4), .second, .val (.int k5), .val (.int k6), .val (.int (4 : Int32)), .val (.int v18), .val (.ref b545), .val (.ref b570), .val (.int r172), .val (.int r182), .val (.int r192), .val (.int r202), .unset, .unset, .unset] [(.int r192)])) _
            refine XS.ifYes X650.here hx rfl (pc0 := 318) (pc' := 336) rfl (hb hby at_318) rfl ((if0 _ _).trans (feq d658).2) (by decide) (by decide) ?_
            show Steps p.tables e below (T650.setTop (mkF m 336 #[.val (.int k1), .val (.int k2), .val (.int k3), .val (.long k4), .second, .val (.int k5), .val (.int k6), .val (.int (4 : Int32)), .val (.int v18), .val (.ref b545), .val (.ref b570), .val (.int r172), .val (.int r182), .val (.int r192), .val (.int r202), .unset, .unset, .unset] [])) _
            refine XS.iconst X650.here hx rfl (hb hby at_336) ?_
            show Steps p.tables e below (T650.setTop (mkF m 337 #[.val (.int k1), .val (.int k2), .val (.int k3), .val (.long k4), .second, .val (.int k5), .val (.int k6), .val (.int (4 : Int32)), .val (.int v18), .val (.ref b545), .val (.ref b570), .val (.int r172), .val (.int r182), .val (.int r192), .val (.int r202), .unset, .unset, .unset] [(.int (0 : Int32))])) _
            exact castTop (by simp only [hm337, if_pos d656, if_pos d657, if_neg d658]) kt
        · skip
          show Steps p.tables e below (T650.setTop (mkF m 307 #[.val (.int k1), .val (.int k2), .val (.int k3), .val (.long k4), .second, .val (.int k5), .val (.int k6), .val (.int (4 : Int32)), .val (.int v18), .val (.ref b545), .val (.ref b570), .val (.int r172), .val (.int r182), .val (.int r192), .val (.int r202), .unset, .unset, .unset] [(.int r182)])) _
          refine XS.ifYes X650.here hx rfl (pc0 := 307) (pc' := 336) rfl (hb hby at_307) rfl ((if0 _ _).trans (feq d657).2) (by decide) (by decide) ?_
          show Steps p.tables e below (T650.setTop (mkF m 336 #[.val (.int k1), .val (.int k2), .val (.int k3), .val (.long k4), .second, .val (.int k5), .val (.int k6), .val (.int (4 : Int32)), .val (.int v18), .val (.ref b545), .val (.ref b570), .val (.int r172), .val (.int r182), .val (.int r192), .val (.int r202), .unset, .unset, .unset] [])) _
          refine XS.iconst X650.here hx rfl (hb hby at_336) ?_
          show Steps p.tables e below (T650.setTop (mkF m 337 #[.val (.int k1), .val (.int k2), .val (.int k3), .val (.long k4), .second, .val (.int k5), .val (.int k6), .val (.int (4 : Int32)), .val (.int v18), .val (.ref b545), .val (.ref b570), .val (.int r172), .val (.int r182), .val (.int r192), .val (.int r202), .unset, .unset, .unset] [(.int (0 : Int32))])) _
          exact castTop (by simp only [hm337, if_pos d656, if_neg d657]) kt
      · skip
        show Steps p.tables e below (T650.setTop (mkF m 296 #[.val (.int k1), .val (.int k2), .val (.int k3), .val (.long k4), .second, .val (.int k5), .val (.int k6), .val (.int (4 : Int32)), .val (.int v18), .val (.ref b545), .val (.ref b570), .val (.int r172), .val (.int r182), .val (.int r192), .val (.int r202), .unset, .unset, .unset] [(.int r172)])) _
        refine XS.ifYes X650.here hx rfl (pc0 := 296) (pc' := 336) rfl (hb hby at_296) rfl ((if0 _ _).trans (feq d656).2) (by decide) (by decide) ?_
        show Steps p.tables e below (T650.setTop (mkF m 336 #[.val (.int k1), .val (.int k2), .val (.int k3), .val (.long k4), .second, .val (.int k5), .val (.int k6), .val (.int (4 : Int32)), .val (.int v18), .val (.ref b545), .val (.ref b570), .val (.int r172), .val (.int r182), .val (.int r192), .val (.int r202), .unset, .unset, .unset] [])) _
        refine XS.iconst X650.here hx rfl (hb hby at_336) ?_
        show Steps p.tables e below (T650.setTop (mkF m 337 #[.val (.int k1), .val (.int k2), .val (.int k3), .val (.long k4), .second, .val (.int k5), .val (.int k6), .val (.int (4 : Int32)), .val (.int v18), .val (.ref b545), .val (.ref b570), .val (.int r172), .val (.int r182), .val (.int r192), .val (.int r202), .unset, .unset, .unset] [(.int (0 : Int32))])) _
        exact castTop (by simp only [hm337, if_neg d656]) kt
    obtain ⟨T661, hX661, X661, e661, E661, A661, D661, -, st661⟩ := newO X650 hx hZ hown (hw _ (List.mem_of_getElem? (i := 6) rfl)) (hw _ (List.mem_of_getElem? (i := 7) rfl)) (hw _ (List.mem_of_getElem? (i := 8) rfl)) e650 (g := (mkF m 339 #[.val (.int k1), .val (.int k2), .val (.int k3), .val (.long k4), .second, .val (.int k5), .val (.int k6), .val (.int (4 : Int32)), .val (.int v18), .val (.ref b545), .val (.ref b570), .val (.int r172), .val (.int r182), .val (.int r192), .val (.int r202), .val (.int m337), .unset, .unset] [])) rfl (hb hby at_339) (by decide) (by decide)
    obtain ⟨b661, g661⟩ : ∃ z_q, z_q = hX650.size := ⟨_, rfl⟩
    rw [← g661] at A661 D661 st661
    have g_b661 : n0 ≤ b661 := Nat.le_trans Z653 (Nat.le_of_eq g661.symm)
    have sz_b661 : h0.size ≤ b661 := Nat.le_trans K655.1 (Nat.le_of_eq g661.symm)
    have ne_b545_b661 : b545 ≠ b661 := Nat.ne_of_lt (Nat.lt_of_lt_of_le F652.lt (Nat.le_of_eq g661.symm))
    have ne_b570_b661 : b570 ≠ b661 := Nat.ne_of_lt (Nat.lt_of_lt_of_le F651.lt (Nat.le_of_eq g661.symm))
    have F662 : Arv Z hX661 b545 kx545 .byte (4 : Int32) [(.int (nar .byte (k3.toInt8.toInt32))), (.int (nar .byte ((k3 >>> ((8 : Int32) &&& 31)).toInt8.toInt32))), (.int (nar .byte ((k3 >>> ((16 : Int32) &&& 31)).toInt8.toInt32))), (.int (nar .byte ((k3 >>> ((24 : Int32) &&& 31)).toInt8.toInt32)))] (.int (0 : Int32)) := F652.ext E661
    have F663 : Arh Z hX661 b570 kx570 .byte (8 : Int32) [((v18 + (3 : Int32)), (.int (nar .byte (((nar .byte ((k3 >>> ((24 : Int32) &&& 31)).toInt8.toInt32)) ^^^ r202).toInt8.toInt32)))), ((v18 + (2 : Int32)), (.int (nar .byte (((nar .byte ((k3 >>> ((16 : Int32) &&& 31)).toInt8.toInt32)) ^^^ r192).toInt8.toInt32)))), ((v18 + (1 : Int32)), (.int (nar .byte (((nar .byte ((k3 >>> ((8 : Int32) &&& 31)).toInt8.toInt32)) ^^^ r182).toInt8.toInt32)))), (v18, (.int (nar .byte (((nar .byte (k3.toInt8.toInt32)) ^^^ r172).toInt8.toInt32))))] [(.int (nar .byte ((k4.toInt32).toInt8.toInt32))), (.int (nar .byte (((k4 >>> ((8 : Int32) &&& 0x3f).toInt64).toInt32).toInt8.toInt32))), (.int (nar .byte (((k4 >>> ((16 : Int32) &&& 0x3f).toInt64).toInt32).toInt8.toInt32))), (.int (nar .byte (((k4 >>> ((24 : Int32) &&& 0x3f).toInt64).toInt32).toInt8.toInt32))), (.int (nar .byte (((k4 >>> ((32 : Int32) &&& 0x3f).toInt64).toInt32).toInt8.toInt32))), (.int (nar .byte (((k4 >>> ((40 : Int32) &&& 0x3f).toInt64).toInt32).toInt8.toInt32))), (.int (nar .byte (((k4 >>> ((48 : Int32) &&& 0x3f).toInt64).toInt32).toInt8.toInt32))), (.int (nar .byte (((k4 >>> ((56 : Int32) &&& 0x3f).toInt64).toInt32).toInt8.toInt32)))] (.int (0 : Int32)) := F651.ext E661
    have Z664 : n0 ≤ hX661.size := Nat.le_trans Z653 E661.1
    have hk665 := Nat.le_trans hk654 (show _ ≤ hX661.size from E661.1)
    have K666 : Keep h0 hX661 [] := K655.ext E661
    have F667 : Fld Z hX661 b661 "com/example/marcotte/marcotte/XmlNames$Name" "qualified" "Ljava/lang/String;" .null := D661 (Or.inr (hw _ (List.mem_of_getElem? (i := 28) rfl))) (ty := (.object "java/lang/String")) (by decide)
    have F668 : Fld Z hX661 b661 "com/example/marcotte/marcotte/XmlNames$Name" "prefix" "Ljava/lang/String;" .null := D661 (Or.inr (hw _ (List.mem_of_getElem? (i := 30) rfl))) (ty := (.object "java/lang/String")) (by decide)
    have F669 : Fld Z hX661 b661 "com/example/marcotte/marcotte/XmlNames$Name" "local" "Ljava/lang/String;" .null := D661 (Or.inr (hw _ (List.mem_of_getElem? (i := 32) rfl))) (ty := (.object "java/lang/String")) (by decide)
    have F670 : Fld Z hX661 b661 "com/example/marcotte/marcotte/XmlNames$Name" "bytes" "[B" .null := D661 (Or.inr (hw _ (List.mem_of_getElem? (i := 34) rfl))) (ty := (.array .byte)) (by decide)
    have F671 : Fld Z hX661 b661 "com/example/marcotte/marcotte/XmlNames$Name" "hash" "I" (.int (0 : Int32)) := D661 (Or.inr (hw _ (List.mem_of_getElem? (i := 36) rfl))) (ty := .int) (by decide)
    have F672 : Fld Z hX661 b661 "com/example/marcotte/marcotte/XmlNames$Name" "declaresNamespace" "Z" (.int (0 : Int32)) := D661 (Or.inr (hw _ (List.mem_of_getElem? (i := 38) rfl))) (ty := .boolean) (by decide)
    have pre673 : ∀ tq, Steps p.tables e below (T661.setTop (mkF m 343 #[.val (.int k1), .val (.int k2), .val (.int k3), .val (.long k4), .second, .val (.int k5), .val (.int k6), .val (.int (4 : Int32)), .val (.int v18), .val (.ref b545), .val (.ref b570), .val (.int r172), .val (.int r182), .val (.int r192), .val (.int r202), .val (.int m337), .unset, .unset] [(.ref b661), (.ref b661)])) tq → Steps p.tables e below (s₁.setTop (entryFrame m #[(.int k1), (.int k2), (.int k3), (.long k4), (.int k5), (.int k6)] maxLocals)) tq := by
      intro tq kt
      refine pre660 _ ?_
      show Steps p.tables e below (T650.setTop (mkF m 337 #[.val (.int k1), .val (.int k2), .val (.int k3), .val (.long k4), .second, .val (.int k5), .val (.int k6), .val (.int (4 : Int32)), .val (.int v18), .val (.ref b545), .val (.ref b570), .val (.int r172), .val (.int r182), .val (.int r192), .val (.int r202), .unset, .unset, .unset] [(.int m337)])) _
      refine XS.istore X650.here hx rfl (hb hby at_337) rfl (l' := #[.val (.int k1), .val (.int k2), .val (.int k3), .val (.long k4), .second, .val (.int k5), .val (.int k6), .val (.int (4 : Int32)), .val (.int v18), .val (.ref b545), .val (.ref b570), .val (.int r172), .val (.int r182), .val (.int r192), .val (.int r202), .val (.int m337), .unset, .unset]) rfl ?_
      show Steps p.tables e below (T650.setTop (mkF m 339 #[.val (.int k1), .val (.int k2), .val (.int k3), .val (.long k4), .second, .val (.int k5), .val (.int k6), .val (.int (4 : Int32)), .val (.int v18), .val (.ref b545), .val (.ref b570), .val (.int r172), .val (.int r182), .val (.int r192), .val (.int r202), .val (.int m337), .unset, .unset] [])) _
      refine st661 _ ?_
      show Steps p.tables e below (T661.setTop (mkF m 342 #[.val (.int k1), .val (.int k2), .val (.int k3), .val (.long k4), .second, .val (.int k5), .val (.int k6), .val (.int (4 : Int32)), .val (.int v18), .val (.ref b545), .val (.ref b570), .val (.int r172), .val (.int r182), .val (.int r192), .val (.int r202), .val (.int m337), .unset, .unset] [(.ref b661)])) _
      refine XS.dup X661.here hx rfl (hb hby at_342) rfl rfl ?_
      show Steps p.tables e below (T661.setTop (mkF m 343 #[.val (.int k1), .val (.int k2), .val (.int k3), .val (.long k4), .second, .val (.int k5), .val (.int k6), .val (.int (4 : Int32)), .val (.int v18), .val (.ref b545), .val (.ref b570), .val (.int r172), .val (.int r182), .val (.int r192), .val (.int r202), .val (.int m337), .unset, .unset] [(.ref b661), (.ref b661)])) _
      exact kt
    obtain ⟨b674, T674, hX674, ks674, X674, e674, E674, hS, hk674, hZ, hown, st674⟩ := ldcS X661 hx hZ hown (hw _ (List.mem_of_getElem? (i := 9) rfl)) wS e661 hS hk665 (g := (mkF m 343 #[.val (.int k1), .val (.int k2), .val (.int k3), .val (.long k4), .second, .val (.int k5), .val (.int k6), .val (.int (4 : Int32)), .val (.int v18), .val (.ref b545), .val (.ref b570), .val (.int r172), .val (.int r182), .val (.int r192), .val (.int r202), .val (.int m337), .unset, .unset] [(.ref b661), (.ref b661)])) rfl (hb hby at_343) (n := 4) (by decide) (by decide) (by decide) (by decide)
    have F675 : Arv Z hX674 b545 kx545 .byte (4 : Int32) [(.int (nar .byte (k3.toInt8.toInt32))), (.int (nar .byte ((k3 >>> ((8 : Int32) &&& 31)).toInt8.toInt32))), (.int (nar .byte ((k3 >>> ((16 : Int32) &&& 31)).toInt8.toInt32))), (.int (nar .byte ((k3 >>> ((24 : Int32) &&& 31)).toInt8.toInt32)))] (.int (0 : Int32)) := F662.ext E674
    have F676 : Arh Z hX674 b570 kx570 .byte (8 : Int32) [((v18 + (3 : Int32)), (.int (nar .byte (((nar .byte ((k3 >>> ((24 : Int32) &&& 31)).toInt8.toInt32)) ^^^ r202).toInt8.toInt32)))), ((v18 + (2 : Int32)), (.int (nar .byte (((nar .byte ((k3 >>> ((16 : Int32) &&& 31)).toInt8.toInt32)) ^^^ r192).toInt8.toInt32)))), ((v18 + (1 : Int32)), (.int (nar .byte (((nar .byte ((k3 >>> ((8 : Int32) &&& 31)).toInt8.toInt32)) ^^^ r182).toInt8.toInt32)))), (v18, (.int (nar .byte (((nar .byte (k3.toInt8.toInt32)) ^^^ r172).toInt8.toInt32))))] [(.int (nar .byte ((k4.toInt32).toInt8.toInt32))), (.int (nar .byte (((k4 >>> ((8 : Int32) &&& 0x3f).toInt64).toInt32).toInt8.toInt32))), (.int (nar .byte (((k4 >>> ((16 : Int32) &&& 0x3f).toInt64).toInt32).toInt8.toInt32))), (.int (nar .byte (((k4 >>> ((24 : Int32) &&& 0x3f).toInt64).toInt32).toInt8.toInt32))), (.int (nar .byte (((k4 >>> ((32 : Int32) &&& 0x3f).toInt64).toInt32).toInt8.toInt32))), (.int (nar .byte (((k4 >>> ((40 : Int32) &&& 0x3f).toInt64).toInt32).toInt8.toInt32))), (.int (nar .byte (((k4 >>> ((48 : Int32) &&& 0x3f).toInt64).toInt32).toInt8.toInt32))), (.int (nar .byte (((k4 >>> ((56 : Int32) &&& 0x3f).toInt64).toInt32).toInt8.toInt32)))] (.int (0 : Int32)) := F663.ext E674
    have F677 : Exa Z hX674 b661 "com/example/marcotte/marcotte/XmlNames$Name" := A661.ext E674
    have F678 : Fld Z hX674 b661 "com/example/marcotte/marcotte/XmlNames$Name" "qualified" "Ljava/lang/String;" .null := F667.ext E674
    have F679 : Fld Z hX674 b661 "com/example/marcotte/marcotte/XmlNames$Name" "prefix" "Ljava/lang/String;" .null := F668.ext E674
    have F680 : Fld Z hX674 b661 "com/example/marcotte/marcotte/XmlNames$Name" "local" "Ljava/lang/String;" .null := F669.ext E674
    have F681 : Fld Z hX674 b661 "com/example/marcotte/marcotte/XmlNames$Name" "bytes" "[B" .null := F670.ext E674
    have F682 : Fld Z hX674 b661 "com/example/marcotte/marcotte/XmlNames$Name" "hash" "I" (.int (0 : Int32)) := F671.ext E674
    have F683 : Fld Z hX674 b661 "com/example/marcotte/marcotte/XmlNames$Name" "declaresNamespace" "Z" (.int (0 : Int32)) := F672.ext E674
    have Z684 : n0 ≤ hX674.size := Nat.le_trans Z664 E674.1
    have hk685 := Nat.le_trans hk665 (show _ ≤ hX674.size from E674.1)
    have K686 : Keep h0 hX674 [] := K666.ext E674
    have pre687 : ∀ tq, Steps p.tables e below (T674.setTop (mkF m 346 #[.val (.int k1), .val (.int k2), .val (.int k3), .val (.long k4), .second, .val (.int k5), .val (.int k6), .val (.int (4 : Int32)), .val (.int v18), .val (.ref b545), .val (.ref b570), .val (.int r172), .val (.int r182), .val (.int r192), .val (.int r202), .val (.int m337), .unset, .unset] [.null, (.ref b674), (.ref b661), (.ref b661)])) tq → Steps p.tables e below (s₁.setTop (entryFrame m #[(.int k1), (.int k2), (.int k3), (.long k4), (.int k5), (.int k6)] maxLocals)) tq := by
      intro tq kt
      refine pre673 _ ?_
      show Steps p.tables e below (T661.setTop (mkF m 343 #[.val (.int k1), .val (.int k2), .val (.int k3), .val (.long k4), .second, .val (.int k5), .val (.int k6), .val (.int (4 : Int32)), .val (.int v18), .val (.ref b545), .val (.ref b570), .val (.int r172), .val (.int r182), .val (.int r192), .val (.int r202), .val (.int m337), .unset, .unset] [(.ref b661), (.ref b661)])) _
      refine st674 _ ?_
      show Steps p.tables e below (T674.setTop (mkF m 345 #[.val (.int k1), .val (.int k2), .val (.int k3), .val (.long k4), .second, .val (.int k5), .val (.int k6), .val (.int (4 : Int32)), .val (.int v18), .val (.ref b545), .val (.ref b570), .val (.int r172), .val (.int r182), .val (.int r192), .val (.int r202), .val (.int m337), .unset, .unset] [(.ref b674), (.ref b661), (.ref b661)])) _
      refine XS.aconstNull X674.here hx rfl (hb hby at_345) ?_
      show Steps p.tables e below (T674.setTop (mkF m 346 #[.val (.int k1), .val (.int k2), .val (.int k3), .val (.long k4), .second, .val (.int k5), .val (.int k6), .val (.int (4 : Int32)), .val (.int v18), .val (.ref b545), .val (.ref b570), .val (.int r172), .val (.int r182), .val (.int r192), .val (.int r202), .val (.int m337), .unset, .unset] [.null, (.ref b674), (.ref b661), (.ref b661)])) _
      exact kt
    obtain ⟨b688, T688, hX688, ks688, X688, e688, E688, hS, hk688, hZ, hown, st688⟩ := ldcS X674 hx hZ hown (hw _ (List.mem_of_getElem? (i := 9) rfl)) wS e674 hS hk674 (g := (mkF m 346 #[.val (.int k1), .val (.int k2), .val (.int k3), .val (.long k4), .second, .val (.int k5), .val (.int k6), .val (.int (4 : Int32)), .val (.int v18), .val (.ref b545), .val (.ref b570), .val (.int r172), .val (.int r182), .val (.int r192), .val (.int r202), .val (.int m337), .unset, .unset] [.null, (.ref b674), (.ref b661), (.ref b661)])) rfl (hb hby at_346) (n := 4) (by decide) (by decide) (by decide) (by decide)
    have F689 : Arv Z hX688 b545 kx545 .byte (4 : Int32) [(.int (nar .byte (k3.toInt8.toInt32))), (.int (nar .byte ((k3 >>> ((8 : Int32) &&& 31)).toInt8.toInt32))), (.int (nar .byte ((k3 >>> ((16 : Int32) &&& 31)).toInt8.toInt32))), (.int (nar .byte ((k3 >>> ((24 : Int32) &&& 31)).toInt8.toInt32)))] (.int (0 : Int32)) := F675.ext E688
    have F690 : Arh Z hX688 b570 kx570 .byte (8 : Int32) [((v18 + (3 : Int32)), (.int (nar .byte (((nar .byte ((k3 >>> ((24 : Int32) &&& 31)).toInt8.toInt32)) ^^^ r202).toInt8.toInt32)))), ((v18 + (2 : Int32)), (.int (nar .byte (((nar .byte ((k3 >>> ((16 : Int32) &&& 31)).toInt8.toInt32)) ^^^ r192).toInt8.toInt32)))), ((v18 + (1 : Int32)), (.int (nar .byte (((nar .byte ((k3 >>> ((8 : Int32) &&& 31)).toInt8.toInt32)) ^^^ r182).toInt8.toInt32)))), (v18, (.int (nar .byte (((nar .byte (k3.toInt8.toInt32)) ^^^ r172).toInt8.toInt32))))] [(.int (nar .byte ((k4.toInt32).toInt8.toInt32))), (.int (nar .byte (((k4 >>> ((8 : Int32) &&& 0x3f).toInt64).toInt32).toInt8.toInt32))), (.int (nar .byte (((k4 >>> ((16 : Int32) &&& 0x3f).toInt64).toInt32).toInt8.toInt32))), (.int (nar .byte (((k4 >>> ((24 : Int32) &&& 0x3f).toInt64).toInt32).toInt8.toInt32))), (.int (nar .byte (((k4 >>> ((32 : Int32) &&& 0x3f).toInt64).toInt32).toInt8.toInt32))), (.int (nar .byte (((k4 >>> ((40 : Int32) &&& 0x3f).toInt64).toInt32).toInt8.toInt32))), (.int (nar .byte (((k4 >>> ((48 : Int32) &&& 0x3f).toInt64).toInt32).toInt8.toInt32))), (.int (nar .byte (((k4 >>> ((56 : Int32) &&& 0x3f).toInt64).toInt32).toInt8.toInt32)))] (.int (0 : Int32)) := F676.ext E688
    have F691 : Exa Z hX688 b661 "com/example/marcotte/marcotte/XmlNames$Name" := F677.ext E688
    have F692 : Fld Z hX688 b661 "com/example/marcotte/marcotte/XmlNames$Name" "qualified" "Ljava/lang/String;" .null := F678.ext E688
    have F693 : Fld Z hX688 b661 "com/example/marcotte/marcotte/XmlNames$Name" "prefix" "Ljava/lang/String;" .null := F679.ext E688
    have F694 : Fld Z hX688 b661 "com/example/marcotte/marcotte/XmlNames$Name" "local" "Ljava/lang/String;" .null := F680.ext E688
    have F695 : Fld Z hX688 b661 "com/example/marcotte/marcotte/XmlNames$Name" "bytes" "[B" .null := F681.ext E688
    have F696 : Fld Z hX688 b661 "com/example/marcotte/marcotte/XmlNames$Name" "hash" "I" (.int (0 : Int32)) := F682.ext E688
    have F697 : Fld Z hX688 b661 "com/example/marcotte/marcotte/XmlNames$Name" "declaresNamespace" "Z" (.int (0 : Int32)) := F683.ext E688
    have Z698 : n0 ≤ hX688.size := Nat.le_trans Z684 E688.1
    have hk699 := Nat.le_trans hk674 (show _ ≤ hX688.size from E688.1)
    have K700 : Keep h0 hX688 [] := K686.ext E688
    obtain ⟨_, _, ⟨T701, L701, k701, n701⟩, -, X701, ⟨Lc701, hQ701, l701, y701, z701⟩, st701⟩ := X688.specialBack hx (y := (⟨"com/example/marcotte/marcotte/XmlNames$Name", "<init>", "(Ljava/lang/String;Ljava/lang/String;Ljava/lang/String;[BIZ)V"⟩ : MethodName)) rfl hown (mvT hZ (hw _ (List.mem_of_getElem? (i := 16) rfl))) (mvT hZ (hw _ (List.mem_of_getElem? (i := 17) rfl))) (mvT hZ (hw _ (List.mem_of_getElem? (i := 18) rfl))) (by decide) (backOf (W := 1) (rm2 l Z a0 hw [] b661 b674 b688 b545 (0 : Int32) (0 : Int32) hX688 n0 Z698 F692 F693 F694 F695 F696 F697 F691 g_b661) hZ (hw _ (List.mem_of_getElem? (i := 18) rfl)) (hw _ (List.mem_of_getElem? (i := 8) rfl)) (by decide) (by decide)) (g := (mkF m 352 #[.val (.int k1), .val (.int k2), .val (.int k3), .val (.long k4), .second, .val (.int k5), .val (.int k6), .val (.int (4 : Int32)), .val (.int v18), .val (.ref b545), .val (.ref b570), .val (.int r172), .val (.int r182), .val (.int r192), .val (.int r202), .val (.int m337), .unset, .unset] [(.int (0 : Int32)), (.int (0 : Int32)), (.ref b545), (.ref b688), .null, (.ref b674), (.ref b661), (.ref b661)])) rfl (by rw [hml]; rfl) (Steps.refl _) (a := b661) (argsL := [(.ref b674), .null, (.ref b688), (.ref b545), (.int (0 : Int32)), (.int (0 : Int32))]) (rest := [(.ref b661)]) (lenOf pd_2 rfl) rfl (by show 2 * 0 + _ ≤ _; exact Nat.le_of_eq rfl) (hb hby at_352) (fun _ _ => ⟨rfl, e688, (by decide : 7 + 0 ≤ _), (by decide : 34 + 0 ≤ _)⟩)
    dsimp only [Pt.U, Pt.locs, Pt.cells, Pt.slots] at X701 l701 y701 z701 st701 hQ701
    subst l701 y701 z701
    obtain ⟨rfl, N701q, K701q, F702, F703⟩ := hQ701
    have N701 := Fr.app N650 N701q
    have F704 : Arv Z T701.heap b545 kx545 .byte (4 : Int32) [(.int (nar .byte (k3.toInt8.toInt32))), (.int (nar .byte ((k3 >>> ((8 : Int32) &&& 31)).toInt8.toInt32))), (.int (nar .byte ((k3 >>> ((16 : Int32) &&& 31)).toInt8.toInt32))), (.int (nar .byte ((k3 >>> ((24 : Int32) &&& 31)).toInt8.toInt32)))] (.int (0 : Int32)) := F689.keep K701q (ninS ne_b545_b661 nin0)
    have F705 : Arh Z T701.heap b570 kx570 .byte (8 : Int32) [((v18 + (3 : Int32)), (.int (nar .byte (((nar .byte ((k3 >>> ((24 : Int32) &&& 31)).toInt8.toInt32)) ^^^ r202).toInt8.toInt32)))), ((v18 + (2 : Int32)), (.int (nar .byte (((nar .byte ((k3 >>> ((16 : Int32) &&& 31)).toInt8.toInt32)) ^^^ r192).toInt8.toInt32)))), ((v18 + (1 : Int32)), (.int (nar .byte (((nar .byte ((k3 >>> ((8 : Int32) &&& 31)).toInt8.toInt32)) ^^^ r182).toInt8.toInt32)))), (v18, (.int (nar .byte (((nar .byte (k3.toInt8.toInt32)) ^^^ r172).toInt8.toInt32))))] [(.int (nar .byte ((k4.toInt32).toInt8.toInt32))), (.int (nar .byte (((k4 >>> ((8 : Int32) &&& 0x3f).toInt64).toInt32).toInt8.toInt32))), (.int (nar .byte (((k4 >>> ((16 : Int32) &&& 0x3f).toInt64).toInt32).toInt8.toInt32))), (.int (nar .byte (((k4 >>> ((24 : Int32) &&& 0x3f).toInt64).toInt32).toInt8.toInt32))), (.int (nar .byte (((k4 >>> ((32 : Int32) &&& 0x3f).toInt64).toInt32).toInt8.toInt32))), (.int (nar .byte (((k4 >>> ((40 : Int32) &&& 0x3f).toInt64).toInt32).toInt8.toInt32))), (.int (nar .byte (((k4 >>> ((48 : Int32) &&& 0x3f).toInt64).toInt32).toInt8.toInt32))), (.int (nar .byte (((k4 >>> ((56 : Int32) &&& 0x3f).toInt64).toInt32).toInt8.toInt32)))] (.int (0 : Int32)) := F690.keep K701q (ninS ne_b570_b661 nin0)
    have F706 : Exa Z T701.heap b661 "com/example/marcotte/marcotte/XmlNames$Name" := F691.keep K701q
    have Z707 : n0 ≤ T701.heap.size := Nat.le_trans Z698 K701q.1
    have hk708 := Nat.le_trans hk688 (show _ ≤ T701.heap.size from K701q.1)
    have K709 : Keep h0 T701.heap [] := K700.trans K701q (allS (Or.inr sz_b661) all0)
    have hp710_hat0 : 0 ≤ v18.toInt := (own_pre_0_363_hat0_s4 k1 k2 k3 k4 k5 k6 hv6 v18 hv18 r172 hr172 r182 hr182 r192 hr192 r202 hr202 m337 hm337)
    have hp710_hat1 : v18.toInt + 4 ≤ 8 := (own_pre_0_363_hat1_s4 k1 k2 k3 k4 k5 k6 hv6 v18 hv18 r172 hr172 r182 hr182 r192 hr192 r202 hr202 m337 hm337 hp710_hat0)
    obtain ⟨cq710, kq710, q710a, q710b, q710c⟩ := isOf hZ rfl F702
    obtain ⟨_, _, ⟨T710, L710, k710, n710⟩, -, X710, ⟨Lc710, hQ710, l710, y710, z710⟩, st710⟩ := X701.virtualBack hx (y := (⟨"com/example/marcotte/marcotte/XmlNames$Name", "writtenAt", "([BI)Z"⟩ : MethodName)) (z := (⟨"com/example/marcotte/marcotte/XmlNames$Name", "writtenAt", "([BI)Z"⟩ : MethodName)) hown (mvT hZ (hw _ (List.mem_of_getElem? (i := 39) rfl))) (mvT hZ (hw _ (List.mem_of_getElem? (i := 40) rfl))) (notFace_of_selects (args := #[]) (mvT hZ (hw _ (List.mem_of_getElem? (i := 42) rfl)))) (mvT hZ (hw _ (List.mem_of_getElem? (i := 42) rfl))) (mvT hZ (hw _ (List.mem_of_getElem? (i := 41) rfl))) (by decide) (backOf (W := 0) (rm5_4 l Z a0 hw [] b661 b570 v18 b545 kx545 kx570 ([(.int (nar .byte ((k4.toInt32).toInt8.toInt32))), (.int (nar .byte (((k4 >>> ((8 : Int32) &&& 0x3f).toInt64).toInt32).toInt8.toInt32))), (.int (nar .byte (((k4 >>> ((16 : Int32) &&& 0x3f).toInt64).toInt32).toInt8.toInt32))), (.int (nar .byte (((k4 >>> ((24 : Int32) &&& 0x3f).toInt64).toInt32).toInt8.toInt32))), (.int (nar .byte (((k4 >>> ((32 : Int32) &&& 0x3f).toInt64).toInt32).toInt8.toInt32))), (.int (nar .byte (((k4 >>> ((40 : Int32) &&& 0x3f).toInt64).toInt32).toInt8.toInt32))), (.int (nar .byte (((k4 >>> ((48 : Int32) &&& 0x3f).toInt64).toInt32).toInt8.toInt32))), (.int (nar .byte (((k4 >>> ((56 : Int32) &&& 0x3f).toInt64).toInt32).toInt8.toInt32)))] : List Value) (nar .byte (k3.toInt8.toInt32)) (nar .byte ((k3 >>> ((8 : Int32) &&& 31)).toInt8.toInt32)) (nar .byte ((k3 >>> ((16 : Int32) &&& 31)).toInt8.toInt32)) (nar .byte ((k3 >>> ((24 : Int32) &&& 31)).toInt8.toInt32)) (nar .byte (((nar .byte (k3.toInt8.toInt32)) ^^^ r172).toInt8.toInt32)) (nar .byte (((nar .byte ((k3 >>> ((8 : Int32) &&& 31)).toInt8.toInt32)) ^^^ r182).toInt8.toInt32)) (nar .byte (((nar .byte ((k3 >>> ((16 : Int32) &&& 31)).toInt8.toInt32)) ^^^ r192).toInt8.toInt32)) (nar .byte (((nar .byte ((k3 >>> ((24 : Int32) &&& 31)).toInt8.toInt32)) ^^^ r202).toInt8.toInt32)) T701.heap n0 Z707 F703 F704 F705 hp710_hat0 hp710_hat1) hZ (hw _ (List.mem_of_getElem? (i := 43) rfl)) (hw _ (List.mem_of_getElem? (i := 8) rfl)) (by decide) (by decide)) q710a q710c (g := (mkF m 363 #[.val (.int k1), .val (.int k2), .val (.int k3), .val (.long k4), .second, .val (.int k5), .val (.int k6), .val (.int (4 : Int32)), .val (.int v18), .val (.ref b545), .val (.ref b570), .val (.int r172), .val (.int r182), .val (.int r192), .val (.int r202), .val (.int m337), .val (.ref b661), .unset] [(.int v18), (.ref b570), (.ref b661)])) rfl (by rw [hml]; rfl) (Steps.refl _) (argsL := [(.ref b570), (.int v18)]) (rest := []) (lenOf pd_3 rfl) rfl (by show 2 * 0 + _ ≤ _; exact Nat.le_of_eq rfl) (hb hby at_363) (fun _ _ => ⟨rfl, rfl, (by decide : 7 + 0 ≤ _), (by decide : 34 + 0 ≤ _)⟩)
    dsimp only [Pt.U, Pt.locs, Pt.cells, Pt.slots] at X710 l710 y710 z710 st710 hQ710
    subst l710 y710 z710
    obtain ⟨rfl, N710q, e710⟩ := hQ710
    have N710 := Fr.app N701 N710q
    obtain ⟨r363, hr363⟩ : ∃ z_q : Int32, z_q = (if (nar .byte (((nar .byte (k3.toInt8.toInt32)) ^^^ r172).toInt8.toInt32)) = (nar .byte (k3.toInt8.toInt32)) then (if (nar .byte (((nar .byte ((k3 >>> ((8 : Int32) &&& 31)).toInt8.toInt32)) ^^^ r182).toInt8.toInt32)) = (nar .byte ((k3 >>> ((8 : Int32) &&& 31)).toInt8.toInt32)) then (if (nar .byte (((nar .byte ((k3 >>> ((16 : Int32) &&& 31)).toInt8.toInt32)) ^^^ r192).toInt8.toInt32)) = (nar .byte ((k3 >>> ((16 : Int32) &&& 31)).toInt8.toInt32)) then (if (nar .byte (((nar .byte ((k3 >>> ((24 : Int32) &&& 31)).toInt8.toInt32)) ^^^ r202).toInt8.toInt32)) = (nar .byte ((k3 >>> ((24 : Int32) &&& 31)).toInt8.toInt32)) then (1 : Int32) else (0 : Int32)) else (0 : Int32)) else (0 : Int32)) else (0 : Int32)) := ⟨_, rfl⟩
    obtain ⟨m380, hm380⟩ : ∃ z_q : Int32, z_q = (if r363 = m337 then (1 : Int32) else (0 : Int32)) := ⟨_, rfl⟩
    have pre712 : ∀ tq, Steps p.tables e below (T710.setTop (mkF m 380 #[.val (.int k1), .val (.int k2), .val (.int k3), .val (.long k4), .second, .val (.int k5), .val (.int k6), .val (.int (4 : Int32)), .val (.int v18), .val (.ref b545), .val (.ref b570), .val (.int r172), .val (.int r182), .val (.int r192), .val (.int r202), .val (.int m337), .val (.ref b661), .val (.int r363)] [(.int m380)])) tq → Steps p.tables e below (s₁.setTop (entryFrame m #[(.int k1), (.int k2), (.int k3), (.long k4), (.int k5), (.int k6)] maxLocals)) tq := by
      intro tq kt
      refine pre687 _ ?_
      show Steps p.tables e below (T674.setTop (mkF m 346 #[.val (.int k1), .val (.int k2), .val (.int k3), .val (.long k4), .second, .val (.int k5), .val (.int k6), .val (.int (4 : Int32)), .val (.int v18), .val (.ref b545), .val (.ref b570), .val (.int r172), .val (.int r182), .val (.int r192), .val (.int r202), .val (.int m337), .unset, .unset] [.null, (.ref b674), (.ref b661), (.ref b661)])) _
      refine st688 _ ?_
      show Steps p.tables e below (T688.setTop (mkF m 348 #[.val (.int k1), .val (.int k2), .val (.int k3), .val (.long k4), .second, .val (.int k5), .val (.int k6), .val (.int (4 : Int32)), .val (.int v18), .val (.ref b545), .val (.ref b570), .val (.int r172), .val (.int r182), .val (.int r192), .val (.int r202), .val (.int m337), .unset, .unset] [(.ref b688), .null, (.ref b674), (.ref b661), (.ref b661)])) _
      refine XS.aload X688.here hx rfl (hb hby at_348) rfl rfl ?_
      show Steps p.tables e below (T688.setTop (mkF m 350 #[.val (.int k1), .val (.int k2), .val (.int k3), .val (.long k4), .second, .val (.int k5), .val (.int k6), .val (.int (4 : Int32)), .val (.int v18), .val (.ref b545), .val (.ref b570), .val (.int r172), .val (.int r182), .val (.int r192), .val (.int r202), .val (.int m337), .unset, .unset] [(.ref b545), (.ref b688), .null, (.ref b674), (.ref b661), (.ref b661)])) _
      refine XS.iconst X688.here hx rfl (hb hby at_350) ?_
      show Steps p.tables e below (T688.setTop (mkF m 351 #[.val (.int k1), .val (.int k2), .val (.int k3), .val (.long k4), .second, .val (.int k5), .val (.int k6), .val (.int (4 : Int32)), .val (.int v18), .val (.ref b545), .val (.ref b570), .val (.int r172), .val (.int r182), .val (.int r192), .val (.int r202), .val (.int m337), .unset, .unset] [(.int (0 : Int32)), (.ref b545), (.ref b688), .null, (.ref b674), (.ref b661), (.ref b661)])) _
      refine XS.iconst X688.here hx rfl (hb hby at_351) ?_
      show Steps p.tables e below (T688.setTop (mkF m 352 #[.val (.int k1), .val (.int k2), .val (.int k3), .val (.long k4), .second, .val (.int k5), .val (.int k6), .val (.int (4 : Int32)), .val (.int v18), .val (.ref b545), .val (.ref b570), .val (.int r172), .val (.int r182), .val (.int r192), .val (.int r202), .val (.int m337), .unset, .unset] [(.int (0 : Int32)), (.int (0 : Int32)), (.ref b545), (.ref b688), .null, (.ref b674), (.ref b661), (.ref b661)])) _
      refine st701.trans ?_
      show Steps p.tables e below (T701.setTop (mkF m 355 #[.val (.int k1), .val (.int k2), .val (.int k3), .val (.long k4), .second, .val (.int k5), .val (.int k6), .val (.int (4 : Int32)), .val (.int v18), .val (.ref b545), .val (.ref b570), .val (.int r172), .val (.int r182), .val (.int r192), .val (.int r202), .val (.int m337), .unset, .unset] [(.ref b661)])) _
      refine XS.astore X701.here hx rfl (hb hby at_355) rfl rfl (l' := #[.val (.int k1), .val (.int k2), .val (.int k3), .val (.long k4), .second, .val (.int k5), .val (.int k6), .val (.int (4 : Int32)), .val (.int v18), .val (.ref b545), .val (.ref b570), .val (.int r172), .val (.int r182), .val (.int r192), .val (.int r202), .val (.int m337), .val (.ref b661), .unset]) rfl ?_
      show Steps p.tables e below (T701.setTop (mkF m 357 #[.val (.int k1), .val (.int k2), .val (.int k3), .val (.long k4), .second, .val (.int k5), .val (.int k6), .val (.int (4 : Int32)), .val (.int v18), .val (.ref b545), .val (.ref b570), .val (.int r172), .val (.int r182), .val (.int r192), .val (.int r202), .val (.int m337), .val (.ref b661), .unset] [])) _
      refine XS.aload X701.here hx rfl (hb hby at_357) rfl rfl ?_
      show Steps p.tables e below (T701.setTop (mkF m 359 #[.val (.int k1), .val (.int k2), .val (.int k3), .val (.long k4), .second, .val (.int k5), .val (.int k6), .val (.int (4 : Int32)), .val (.int v18), .val (.ref b545), .val (.ref b570), .val (.int r172), .val (.int r182), .val (.int r192), .val (.int r202), .val (.int m337), .val (.ref b661), .unset] [(.ref b661)])) _
      refine XS.aload X701.here hx rfl (hb hby at_359) rfl rfl ?_
      show Steps p.tables e below (T701.setTop (mkF m 361 #[.val (.int k1), .val (.int k2), .val (.int k3), .val (.long k4), .second, .val (.int k5), .val (.int k6), .val (.int (4 : Int32)), .val (.int v18), .val (.ref b545), .val (.ref b570), .val (.int r172), .val (.int r182), .val (.int r192), .val (.int r202), .val (.int m337), .val (.ref b661), .unset] [(.ref b570), (.ref b661)])) _
      refine XS.iload X701.here hx rfl (hb hby at_361) rfl ?_
      show Steps p.tables e below (T701.setTop (mkF m 363 #[.val (.int k1), .val (.int k2), .val (.int k3), .val (.long k4), .second, .val (.int k5), .val (.int k6), .val (.int (4 : Int32)), .val (.int v18), .val (.ref b545), .val (.ref b570), .val (.int r172), .val (.int r182), .val (.int r192), .val (.int r202), .val (.int m337), .val (.ref b661), .unset] [(.int v18), (.ref b570), (.ref b661)])) _
      refine st710.trans ?_
      show Steps p.tables e below (T710.setTop (mkF m 366 #[.val (.int k1), .val (.int k2), .val (.int k3), .val (.long k4), .second, .val (.int k5), .val (.int k6), .val (.int (4 : Int32)), .val (.int v18), .val (.ref b545), .val (.ref b570), .val (.int r172), .val (.int r182), .val (.int r192), .val (.int r202), .val (.int m337), .val (.ref b661), .unset] [(.int (if (nar .byte (((nar .byte (k3.toInt8.toInt32)) ^^^ r172).toInt8.toInt32)) = (nar .byte (k3.toInt8.toInt32)) then (if (nar .byte (((nar .byte ((k3 >>> ((8 : Int32) &&& 31)).toInt8.toInt32)) ^^^ r182).toInt8.toInt32)) = (nar .byte ((k3 >>> ((8 : Int32) &&& 31)).toInt8.toInt32)) then (if (nar .byte (((nar .byte ((k3 >>> ((16 : Int32) &&& 31)).toInt8.toInt32)) ^^^ r192).toInt8.toInt32)) = (nar .byte ((k3 >>> ((16 : Int32) &&& 31)).toInt8.toInt32)) then (if (nar .byte (((nar .byte ((k3 >>> ((24 : Int32) &&& 31)).toInt8.toInt32)) ^^^ r202).toInt8.toInt32)) = (nar .byte ((k3 >>> ((24 : Int32) &&& 31)).toInt8.toInt32)) then (1 : Int32) else (0 : Int32)) else (0 : Int32)) else (0 : Int32)) else (0 : Int32)))])) _
      rw [← hr363]
      show Steps p.tables e below (T710.setTop (mkF m 366 #[.val (.int k1), .val (.int k2), .val (.int k3), .val (.long k4), .second, .val (.int k5), .val (.int k6), .val (.int (4 : Int32)), .val (.int v18), .val (.ref b545), .val (.ref b570), .val (.int r172), .val (.int r182), .val (.int r192), .val (.int r202), .val (.int m337), .val (.ref b661), .unset] [(.int r363)])) _
      refine XS.istore X710.here hx rfl (hb hby at_366) rfl (l' := #[.val (.int k1), .val (.int k2), .val (.int k3), .val (.long k4), .second, .val (.int k5), .val (.int k6), .val (.int (4 : Int32)), .val (.int v18), .val (.ref b545), .val (.ref b570), .val (.int r172), .val (.int r182), .val (.int r192), .val (.int r202), .val (.int m337), .val (.ref b661), .val (.int r363)]) rfl ?_
      show Steps p.tables e below (T710.setTop (mkF m 368 #[.val (.int k1), .val (.int k2), .val (.int k3), .val (.long k4), .second, .val (.int k5), .val (.int k6), .val (.int (4 : Int32)), .val (.int v18), .val (.ref b545), .val (.ref b570), .val (.int r172), .val (.int r182), .val (.int r192), .val (.int r202), .val (.int m337), .val (.ref b661), .val (.int r363)] [])) _
      refine XS.iload X710.here hx rfl (hb hby at_368) rfl ?_
      show Steps p.tables e below (T710.setTop (mkF m 370 #[.val (.int k1), .val (.int k2), .val (.int k3), .val (.long k4), .second, .val (.int k5), .val (.int k6), .val (.int (4 : Int32)), .val (.int v18), .val (.ref b545), .val (.ref b570), .val (.int r172), .val (.int r182), .val (.int r192), .val (.int r202), .val (.int m337), .val (.ref b661), .val (.int r363)] [(.int r363)])) _
      refine XS.iload X710.here hx rfl (hb hby at_370) rfl ?_
      by_cases d711 : r363 = m337
      · skip
        show Steps p.tables e below (T710.setTop (mkF m 372 #[.val (.int k1), .val (.int k2), .val (.int k3), .val (.long k4), .second, .val (.int k5), .val (.int k6), .val (.int (4 : Int32)), .val (.int v18), .val (.ref b545), .val (.ref b570), .val (.int r172), .val (.int r182), .val (.int r192), .val (.int r202), .val (.int m337), .val (.ref b661), .val (.int r363)] [(.int m337), (.int r363)])) _
        refine XS.icmpNo X710.here hx rfl (hb hby at_372) rfl (teq d711).2 ?_
        show Steps p.tables e below (T710.setTop (mkF m 375 #[.val (.int k1), .val (.int k2), .val (.int k3), .val (.long k4), .second, .val (.int k5), .val (.int k6), .val (.int (4 : Int32)), .val (.int v18), .val (.ref b545), .val (.ref b570), .val (.int r172), .val (.int r182), .val (.int r192), .val (.int r202), .val (.int m337), .val (.ref b661), .val (.int r363)] [])) _
        refine XS.iconst X710.here hx rfl (hb hby at_375) ?_
        show Steps p.tables e below (T710.setTop (mkF m 376 #[.val (.int k1), .val (.int k2), .val (.int k3), .val (.long k4), .second, .val (.int k5), .val (.int k6), .val (.int (4 : Int32)), .val (.int v18), .val (.ref b545), .val (.ref b570), .val (.int r172), .val (.int r182), .val (.int r192), .val (.int r202), .val (.int m337), .val (.ref b661), .val (.int r363)] [(.int (1 : Int32))])) _
        refine XS.goto X710.here hx rfl (pc0 := 376) (pc' := 380) rfl (hb hby at_376) (by decide) (by decide) ?_
        show Steps p.tables e below (T710.setTop (mkF m 380 #[.val (.int k1), .val (.int k2), .val (.int k3), .val (.long k4), .second, .val (.int k5), .val (.int k6), .val (.int (4 : Int32)), .val (.int v18), .val (.ref b545), .val (.ref b570), .val (.int r172), .val (.int r182), .val (.int r192), .val (.int r202), .val (.int m337), .val (.ref b661), .val (.int r363)] [(.int (1 : Int32))])) _
        exact castTop (by simp only [hm380, if_pos d711]) kt
      · skip
        show Steps p.tables e below (T710.setTop (mkF m 372 #[.val (.int k1), .val (.int k2), .val (.int k3), .val (.long k4), .second, .val (.int k5), .val (.int k6), .val (.int (4 : Int32)), .val (.int v18), .val (.ref b545), .val (.ref b570), .val (.int r172), .val (.int r182), .val (.int r192), .val (.int r202), .val (.int m337), .val (.ref b661), .val (.int r363)] [(.int m337), (.int r363)])) _
        refine XS.icmpYes X710.here hx rfl (pc0 := 372) (pc' := 379) rfl (hb hby at_372) rfl (feq d711).2 (by decide) (by decide) ?_
        show Steps p.tables e below (T710.setTop (mkF m 379 #[.val (.int k1), .val (.int k2), .val (.int k3), .val (.long k4), .second, .val (.int k5), .val (.int k6), .val (.int (4 : Int32)), .val (.int v18), .val (.ref b545), .val (.ref b570), .val (.int r172), .val (.int r182), .val (.int r192), .val (.int r202), .val (.int m337), .val (.ref b661), .val (.int r363)] [])) _
        refine XS.iconst X710.here hx rfl (hb hby at_379) ?_
        show Steps p.tables e below (T710.setTop (mkF m 380 #[.val (.int k1), .val (.int k2), .val (.int k3), .val (.long k4), .second, .val (.int k5), .val (.int k6), .val (.int (4 : Int32)), .val (.int v18), .val (.ref b545), .val (.ref b570), .val (.int r172), .val (.int r182), .val (.int r192), .val (.int r202), .val (.int m337), .val (.ref b661), .val (.int r363)] [(.int (0 : Int32))])) _
        exact castTop (by simp only [hm380, if_neg d711]) kt
    obtain ⟨fs, hr, hrun, hended, hW, hsame⟩ := X710.leave (v := some (Value.int (nar .boolean m380))) (fun h => by rw [Bd.returns] at h; cases h)
    have hres713 : (nar .boolean m380) = (1 : Int32) := (own_leaf_0_380_s4 k1 k2 k3 k4 k5 k6 hv6 v18 hv18 r172 hr172 r182 hr182 r192 hr192 r202 hr202 m337 hm337 hp710_hat0 hp710_hat1 r363 hr363 m380 hm380)
    have hE := hS.ended hW (show _ ≤ T710.heap.size from e710.symm ▸ hk708) hsame
    refine ⟨_, _, pre712 _ ?_, hrun, hended, _, _, rfl, ?_, ⟨_, rfl⟩, hE.1, hE.2.1, hE.2.2.mono (by decide) (by decide)⟩
    · skip
      show Steps p.tables e below (T710.setTop (mkF m 380 #[.val (.int k1), .val (.int k2), .val (.int k3), .val (.long k4), .second, .val (.int k5), .val (.int k6), .val (.int (4 : Int32)), .val (.int v18), .val (.ref b545), .val (.ref b570), .val (.int r172), .val (.int r182), .val (.int r192), .val (.int r202), .val (.int m337), .val (.ref b661), .val (.int r363)] [(.int m380)])) _
      exact retN X710 hx (t := .boolean) Bd.returns (by simp) (hb hby at_380) hr
    · show Q0 Z k1 k2 k3 k4 k5 k6 h0 n0 _ T710.heap _
      rw [e710]
      exact ⟨congrArg (fun z => some (Value.int z)) hres713, N710⟩
set_option maxRecDepth 65536 in
set_option maxHeartbeats 40000000 in
theorem comes_1 {Post : Tables → Env → Array Value → State → Outcome → State → Prop} (hpost : ∀ tb e args s v u, (limb_1_1.after args s (.returned v) u = true ∧ limb_1_2.after args s (.returned v) u = true ∧ True) → FrameWide s (.returned v) u (Jvm.fieldLocs frame_1_writes args s ++ Jvm.arrayLocs frame_1_arrays args s ++ Jvm.staticLocs frame_1_statics s) 16 1152 → Post tb e args s (.returned v) u) :
    ArmFor flags0 classFile x code maxLocals ret World_1 tables_1 room_1 Calls_1 rest_1 Pre_1 Post := by
  intro l hfl _ _ p e ha hc hk s m args below hf hA hF happ hP
  obtain ⟨hcalls, hrest, hpre⟩ := hP
  obtain ⟨-, -, -, hnamed, -, -, -, hat⟩ := (Spec.applies_iff hf).mp happ
  obtain ⟨hg, hn⟩ := and_e (Cond.before_iff.mp (show (Jvm.Cond.and given_1 narrow_1).before args s = true from hpre))
  obtain ⟨gv1, gv2⟩ := and_e hg
  obtain ⟨gv3, gv4⟩ := and_e gv2
  obtain ⟨gv5, gv6⟩ := and_e gv4
  obtain ⟨gv7, gv8⟩ := and_e gv6
  obtain ⟨gv9, gv10⟩ := and_e gv8
  obtain ⟨gv11, gv12⟩ := and_e gv10
  obtain ⟨w0, w1, w2, w3, w4, w5, rfl⟩ : ∃ w0 w1 w2 w3 w4 w5 : Value, args = #[w0, w1, w2, w3, w4, w5] := by
    have hs : args.size = 6 := by simpa [Cond.value, given_1] using gv1
    obtain ⟨L⟩ := args
    match L, hs with
    | [w0, w1, w2, w3, w4, w5], _ => exact ⟨w0, w1, w2, w3, w4, w5, rfl⟩
  have hw := fun d (hd : d ∈ tables_1) => atoms_spec (ws := Jvm.Cond.code x code maxLocals ret :: tables_1) hat d (List.mem_cons_of_mem _ hd)
  obtain ⟨i0, ei0⟩ := is_v gv3
  obtain rfl : w0 = (.int i0) := Option.some.inj ei0
  obtain ⟨i1, ei1⟩ := is_v gv5
  obtain rfl : w1 = (.int i1) := Option.some.inj ei1
  obtain ⟨i2, ei2⟩ := is_v gv7
  obtain rfl : w2 = (.int i2) := Option.some.inj ei2
  obtain ⟨i3, ei3⟩ := isL_v gv9
  obtain rfl : w3 = (.long i3) := Option.some.inj ei3
  obtain ⟨i4, ei4⟩ := is_v gv11
  obtain rfl : w4 = (.int i4) := Option.some.inj ei4
  obtain ⟨i5, ei5⟩ := is_v gv12
  obtain rfl : w5 = (.int i5) := Option.some.inj ei5
  obtain ⟨n, o, h1, h2, h3, _, L, rfl, ⟨rfl, N⟩, hq⟩ := rm0 l s _ hw tables_1 i0 i1 i2 i3 i4 i5  s.heap s.heap.size (Nat.le_refl _)  p e ha hc hk s m _ below hf ((Spec.applies_iff_loose hf).mp happ).1 ⟨rfl, State.Warmed39.refl s, rfl⟩ trivial
  refine ⟨n, _, h1, h2, h3, hpost _ _ _ _ _ _ ⟨Cond.after_iff.mpr rfl, Cond.after_iff.mpr (eq_i res_at (Term.int_eval (1)) rfl), trivial⟩ ⟨hq.1, hq.2.1, hq.2.2.1, (hq.2.2.2.sift fun y hy => Or.inr (N y hy)).mono (by decide) (by decide)⟩⟩
theorem main_1_1 : Claimed_1_1 := comes_1 fun _ _ _ _ _ _ h hF => ⟨h.1, hF⟩
theorem main_1_2 : Claimed_1_2 := comes_1 fun _ _ _ _ _ _ h hF => ⟨h.2.1, hF⟩
end Jvm.Pilot.@@N@@
namespace Jvm.Pilot.@@N@@
open Jvm Jvm.ClassFile Sem Op Lib Jvm.Free Jvm.Stand Jvm.Pilot.@@N@@.Jvm.D
/-! MADE BY PROGRAM (witnessworld.py) out of the Statement's table words and the real class files: 15 classes; the members and pool entries that the words name. The judged class is class 1, her method 1. -/
namespace start1
open Jvm.ClassFile
def u (s : String) : CpInfo := .utf8 (stringToUtf16 s)
/-- a pool by its gaps: so many unusable entries, then the entry; so many at the end -/
def gap : Nat → List CpInfo → List CpInfo
  | 0, r => r
  | n + 1, r => .unusable :: gap n r
def poolList (es : List (Nat × CpInfo)) (last : Nat) : List CpInfo := es.foldr (fun e r => gap e.1 (e.2 :: r)) (gap last [])
def pool (es : List (Nat × CpInfo)) (last : Nat) : Array CpInfo := ⟨poolList es last⟩
def fileOf (pool : Array CpInfo) (this : Nat) (attrs : Array Attribute := #[]) (ms : Array MethodInfo := #[]) (fl : Nat := 33) (sup : Nat := 0) (ifs : Array Nat := #[]) (fds : Array FieldInfo := #[]) : ClassFile where
  minorVersion := 0
  majorVersion := 65
  constantPool := pool
  accessFlags := fl
  thisClass := this
  superClass := sup
  interfaces := ifs
  fields := fds
  methods := ms
  attributes := attrs
def plain (name : String) (sup : Option ClassId) : Class where
  name := name
  kind := .ordinary
  loader := none
  accessFlags := 33
  super := sup
  interfaces := #[]
  cf := none
  fields := #[]
  methods := #[]
  instanceTypes := #[]
  staticTypes := #[]
  resolved := #[]
  callSites := []
  init := .initialized
  statics := none
  mirror := none

def pool0 : Array CpInfo := pool [(5, u "<init>"), (0, u "()V"), (1, .class_ 10), (1, u "java/lang/Object")] 113

def k0c0 : Code := { maxStack := 0, maxLocals := 1, code := object_method_1_code, exceptionTable := #[], attributes := #[] }
def k0m0 : Method := { name := "<init>", desc := "()V", sig := { parameters := [], returnType := none }, accessFlags := 1, code := some k0c0 }
/-- java/lang/Object -/
def k0 : Class := { plain "java/lang/Object" none with
  accessFlags := 33
  interfaces := #[]
  cf := some (fileOf pool0 8 #[] #[{ accessFlags := 1, nameIndex := 5, descriptorIndex := 6, attributes := #[] }] 33 0 #[] #[])
  fields := #[]
  methods := #[k0m0]
  instanceTypes := #[]
  staticTypes := #[]
  resolved := Array.replicate 124 none
  statics := none }

def pool1 : Array CpInfo := pool [(2, .class_ 4), (1, u "java/lang/Object"), (0, u "<init>"), (0, u "()V"), (0, .integer 2147483647), (0, .methodref 9 10), (0, .class_ 11), (0, .nameAndType 12 13), (0, u "com/example/marcotte/marcotte/NameWrittenAtPinLaw"), (0, u "delta"), (0, u "(III)B"), (0, .class_ 15), (0, u "com/example/marcotte/marcotte/XmlNames$Name"), (0, .string 17), (0, u "n"), (0, .methodref 14 19), (0, .nameAndType 5 20), (0, u "(Ljava/lang/String;Ljava/lang/String;Ljava/lang/String;[BIZ)V"), (0, .methodref 14 22), (0, .nameAndType 23 24), (0, u "writtenAt"), (0, u "([BI)Z"), (2, u "law"), (0, u "(IIIJII)Z")] 9

def k1m0 : Method := { name := "<init>", desc := "()V", sig := { parameters := [], returnType := none }, accessFlags := 1, code := none }
def k1c1 : Code := { maxStack := 8, maxLocals := 18, code := code, exceptionTable := #[], attributes := #[] }
def k1m1 : Method := { name := "law", desc := "(IIIJII)Z", sig := { parameters := [.int, .int, .int, .long, .int, .int], returnType := some .boolean }, accessFlags := 9, code := some k1c1 }
def k1c2 : Code := { maxStack := 3, maxLocals := 3, code := method_3_code, exceptionTable := #[], attributes := #[] }
def k1m2 : Method := { name := "delta", desc := "(III)B", sig := { parameters := [.int, .int, .int], returnType := some .byte }, accessFlags := 10, code := some k1c2 }
/-- com/example/marcotte/marcotte/NameWrittenAtPinLaw -/
def k1 : Class := { plain "com/example/marcotte/marcotte/NameWrittenAtPinLaw" (some 0) with
  accessFlags := 49
  interfaces := #[]
  cf := some (fileOf pool1 9 #[] #[{ accessFlags := 1, nameIndex := 5, descriptorIndex := 6, attributes := #[] }, { accessFlags := 9, nameIndex := 27, descriptorIndex := 28, attributes := #[] }, { accessFlags := 10, nameIndex := 12, descriptorIndex := 13, attributes := #[] }] 49 2 #[] #[])
  fields := #[]
  methods := #[k1m0, k1m1, k1m2]
  instanceTypes := #[]
  staticTypes := #[]
  resolved := Array.replicate 38 none
  statics := none }

def pool2 : Array CpInfo := pool [(1, .methodref 2 3), (0, .class_ 4), (0, .nameAndType 5 6), (0, u "java/lang/Object"), (0, u "<init>"), (0, u "()V"), (0, .class_ 8), (0, u "java/lang/Record")] 13

def k2c0 : Code := { maxStack := 1, maxLocals := 1, code := jdk_30_method_1_code, exceptionTable := #[], attributes := #[] }
def k2m0 : Method := { name := "<init>", desc := "()V", sig := { parameters := [], returnType := none }, accessFlags := 4, code := some k2c0 }
/-- java/lang/Record -/
def k2 : Class := { plain "java/lang/Record" (some 0) with
  accessFlags := 1057
  interfaces := #[]
  cf := some (fileOf pool2 7 #[] #[{ accessFlags := 4, nameIndex := 5, descriptorIndex := 6, attributes := #[] }] 1057 2 #[] #[])
  fields := #[]
  methods := #[k2m0]
  instanceTypes := #[]
  staticTypes := #[]
  resolved := Array.replicate 22 none
  statics := none }

def pool3 : Array CpInfo := pool [(1, .methodref 2 3), (0, .class_ 4), (0, .nameAndType 5 6), (0, u "java/lang/Record"), (0, u "<init>"), (0, u "()V"), (0, .fieldref 8 9), (0, .class_ 10), (0, .nameAndType 11 12), (0, u "com/example/marcotte/marcotte/XmlNames$Name"), (0, u "qualified"), (0, u "Ljava/lang/String;"), (0, .fieldref 8 14), (0, .nameAndType 15 12), (0, u "prefix"), (0, .fieldref 8 17), (0, .nameAndType 18 12), (0, u "local"), (0, .fieldref 8 20), (0, .nameAndType 21 22), (0, u "bytes"), (0, u "[B"), (0, .fieldref 8 24), (0, .nameAndType 25 26), (0, u "hash"), (0, u "I"), (0, .fieldref 8 28), (0, .nameAndType 29 30), (0, u "declaresNamespace"), (0, u "Z"), (12, u "(Ljava/lang/String;Ljava/lang/String;Ljava/lang/String;[BIZ)V"), (3, u "writtenAt"), (0, u "([BI)Z"), (9, .class_ 59), (0, u "com/example/marcotte/marcotte/XmlNames")] 24

def k3c0 : Code := { maxStack := 2, maxLocals := 7, code := prog_52_method_1_code, exceptionTable := #[], attributes := #[] }
def k3m0 : Method := { name := "<init>", desc := "(Ljava/lang/String;Ljava/lang/String;Ljava/lang/String;[BIZ)V", sig := { parameters := [(.object "java/lang/String"), (.object "java/lang/String"), (.object "java/lang/String"), (.array .byte), .int, .boolean], returnType := none }, accessFlags := 0, code := some k3c0 }
def k3c1 : Code := { maxStack := 3, maxLocals := 4, code := prog_52_method_2_code, exceptionTable := #[], attributes := #[] }
def k3m1 : Method := { name := "writtenAt", desc := "([BI)Z", sig := { parameters := [(.array .byte), .int], returnType := some .boolean }, accessFlags := 0, code := some k3c1 }
/-- com/example/marcotte/marcotte/XmlNames$Name -/
def k3 : Class := { plain "com/example/marcotte/marcotte/XmlNames$Name" (some 2) with
  accessFlags := 48
  interfaces := #[]
  cf := some (fileOf pool3 8 #[.nestHost 58] #[{ accessFlags := 0, nameIndex := 5, descriptorIndex := 43, attributes := #[] }, { accessFlags := 0, nameIndex := 47, descriptorIndex := 48, attributes := #[] }] 48 2 #[] #[{ accessFlags := 18, nameIndex := 11, descriptorIndex := 12, attributes := #[] }, { accessFlags := 18, nameIndex := 15, descriptorIndex := 12, attributes := #[] }, { accessFlags := 18, nameIndex := 18, descriptorIndex := 12, attributes := #[] }, { accessFlags := 18, nameIndex := 21, descriptorIndex := 22, attributes := #[] }, { accessFlags := 18, nameIndex := 25, descriptorIndex := 26, attributes := #[] }, { accessFlags := 18, nameIndex := 29, descriptorIndex := 30, attributes := #[] }])
  fields := #[{ name := "qualified", type := (.object "java/lang/String"), accessFlags := 18, slot := 0, constantValue := 0 }, { name := "prefix", type := (.object "java/lang/String"), accessFlags := 18, slot := 1, constantValue := 0 }, { name := "local", type := (.object "java/lang/String"), accessFlags := 18, slot := 2, constantValue := 0 }, { name := "bytes", type := (.array .byte), accessFlags := 18, slot := 3, constantValue := 0 }, { name := "hash", type := .int, accessFlags := 18, slot := 4, constantValue := 0 }, { name := "declaresNamespace", type := .boolean, accessFlags := 18, slot := 5, constantValue := 0 }]
  methods := #[k3m0, k3m1]
  instanceTypes := #[(.object "java/lang/String"), (.object "java/lang/String"), (.object "java/lang/String"), (.array .byte), .int, .boolean]
  staticTypes := #[]
  resolved := Array.replicate 84 none
  statics := none }

def pool4 : Array CpInfo := pool [(1, .class_ 2), (0, u "java/io/Serializable"), (0, .class_ 4), (0, u "java/lang/Object")] 2

/-- java/io/Serializable -/
def k4 : Class := { plain "java/io/Serializable" (some 0) with
  accessFlags := 1537
  interfaces := #[]
  cf := some (fileOf pool4 1 #[] #[] 1537 3 #[] #[])
  fields := #[]
  methods := #[]
  instanceTypes := #[]
  staticTypes := #[]
  resolved := Array.replicate 7 none
  statics := none }

def pool5 : Array CpInfo := pool [(1, .class_ 2), (0, u "java/lang/Comparable"), (0, .class_ 4), (0, u "java/lang/Object")] 7

/-- java/lang/Comparable -/
def k5 : Class := { plain "java/lang/Comparable" (some 0) with
  accessFlags := 1537
  interfaces := #[]
  cf := some (fileOf pool5 1 #[] #[] 1537 3 #[] #[])
  fields := #[]
  methods := #[]
  instanceTypes := #[]
  staticTypes := #[]
  resolved := Array.replicate 12 none
  statics := none }

def pool6 : Array CpInfo := pool [(2, .class_ 4), (1, u "java/lang/CharSequence"), (42, .class_ 48), (0, u "java/lang/CharSequence$1CodePointIterator"), (10, .class_ 60), (0, u "java/lang/CharSequence$1CharIterator"), (5, .class_ 67), (0, u "java/lang/Object")] 63

/-- java/lang/CharSequence -/
def k6 : Class := { plain "java/lang/CharSequence" (some 0) with
  accessFlags := 1537
  interfaces := #[]
  cf := some (fileOf pool6 2 #[.nestMembers #[47, 59]] #[] 1537 66 #[] #[])
  fields := #[]
  methods := #[]
  instanceTypes := #[]
  staticTypes := #[]
  resolved := Array.replicate 131 none
  statics := none }

def pool7 : Array CpInfo := pool [(1, .class_ 2), (0, u "java/lang/constant/Constable"), (0, .class_ 4), (0, u "java/lang/Object")] 6

/-- java/lang/constant/Constable -/
def k7 : Class := { plain "java/lang/constant/Constable" (some 0) with
  accessFlags := 1537
  interfaces := #[]
  cf := some (fileOf pool7 1 #[] #[] 1537 3 #[] #[])
  fields := #[]
  methods := #[]
  instanceTypes := #[]
  staticTypes := #[]
  resolved := Array.replicate 11 none
  statics := none }

def pool8 : Array CpInfo := pool [(1, .class_ 2), (0, u "java/lang/constant/ConstantDesc"), (0, .class_ 4), (0, u "java/lang/Object")] 32

/-- java/lang/constant/ConstantDesc -/
def k8 : Class := { plain "java/lang/constant/ConstantDesc" (some 0) with
  accessFlags := 1537
  interfaces := #[]
  cf := some (fileOf pool8 1 #[] #[] 1537 3 #[] #[])
  fields := #[]
  methods := #[]
  instanceTypes := #[]
  staticTypes := #[]
  resolved := Array.replicate 37 none
  statics := none }

def pool9 : Array CpInfo := pool [(2, .class_ 4), (1, u "java/lang/Object"), (0, u "<init>"), (0, u "()V"), (3, .class_ 12), (1, u "java/lang/String"), (0, u "value"), (0, u "[B"), (2, u "coder"), (0, u "B"), (2, u "hash"), (0, u "I"), (2, u "hashIsZero"), (0, u "Z"), (13, u "COMPACT_STRINGS"), (534, .class_ 576), (0, u "java/lang/CharSequence"), (22, u "CASE_INSENSITIVE_ORDER"), (0, u "Ljava/util/Comparator;"), (500, u "serialPersistentFields"), (0, u "[Ljava/io/ObjectStreamField;"), (0, .class_ 1104), (0, u "java/lang/String$CaseInsensitiveComparator"), (1, .class_ 1107), (0, u "java/io/Serializable"), (0, .class_ 1109), (0, u "java/lang/Comparable"), (0, .class_ 1111), (0, u "java/lang/constant/Constable"), (0, .class_ 1113), (0, u "java/lang/constant/ConstantDesc"), (2, u "serialVersionUID"), (0, u "J"), (3, u "REPL"), (0, u "C"), (2, u "LATIN1"), (1, u "UTF16")] 323

def k9m0 : Method := { name := "<init>", desc := "()V", sig := { parameters := [], returnType := none }, accessFlags := 1, code := none }
/-- java/lang/String -/
def k9 : Class := { plain "java/lang/String" (some 0) with
  accessFlags := 49
  interfaces := #[4, 5, 6, 7, 8]
  cf := some (fileOf pool9 10 #[.nestMembers #[1103]] #[{ accessFlags := 1, nameIndex := 5, descriptorIndex := 6, attributes := #[] }] 49 2 #[1106, 1108, 575, 1110, 1112] #[{ accessFlags := 18, nameIndex := 13, descriptorIndex := 14, attributes := #[] }, { accessFlags := 18, nameIndex := 17, descriptorIndex := 18, attributes := #[] }, { accessFlags := 2, nameIndex := 21, descriptorIndex := 22, attributes := #[] }, { accessFlags := 2, nameIndex := 25, descriptorIndex := 26, attributes := #[] }, { accessFlags := 26, nameIndex := 1116, descriptorIndex := 1117, attributes := #[] }, { accessFlags := 24, nameIndex := 40, descriptorIndex := 26, attributes := #[] }, { accessFlags := 26, nameIndex := 1101, descriptorIndex := 1102, attributes := #[] }, { accessFlags := 26, nameIndex := 1121, descriptorIndex := 1122, attributes := #[] }, { accessFlags := 25, nameIndex := 599, descriptorIndex := 600, attributes := #[] }, { accessFlags := 24, nameIndex := 1125, descriptorIndex := 18, attributes := #[] }, { accessFlags := 24, nameIndex := 1127, descriptorIndex := 18, attributes := #[] }])
  fields := #[{ name := "value", type := (.array .byte), accessFlags := 18, slot := 0, constantValue := 0 }, { name := "coder", type := .byte, accessFlags := 18, slot := 1, constantValue := 0 }, { name := "hash", type := .int, accessFlags := 2, slot := 2, constantValue := 0 }, { name := "hashIsZero", type := .boolean, accessFlags := 2, slot := 3, constantValue := 0 }, { name := "serialVersionUID", type := .long, accessFlags := 26, slot := 0, constantValue := 0 }, { name := "COMPACT_STRINGS", type := .boolean, accessFlags := 24, slot := 1, constantValue := 0 }, { name := "serialPersistentFields", type := (.array (.object "java/io/ObjectStreamField")), accessFlags := 26, slot := 2, constantValue := 0 }, { name := "REPL", type := .char, accessFlags := 26, slot := 3, constantValue := 0 }, { name := "CASE_INSENSITIVE_ORDER", type := (.object "java/util/Comparator"), accessFlags := 25, slot := 4, constantValue := 0 }, { name := "LATIN1", type := .byte, accessFlags := 24, slot := 5, constantValue := 0 }, { name := "UTF16", type := .byte, accessFlags := 24, slot := 6, constantValue := 0 }]
  methods := #[k9m0]
  instanceTypes := #[(.array .byte), .byte, .int, .boolean]
  staticTypes := #[.long, .boolean, (.array (.object "java/io/ObjectStreamField")), .char, (.object "java/util/Comparator"), .byte, .byte]
  resolved := Array.replicate 1451 none
  statics := none }

def pool10 : Array CpInfo := pool [(1, u "java/lang/Cloneable"), (0, .class_ 1), (0, u "java/lang/Object"), (0, .class_ 3)] 3

/-- java/lang/Cloneable -/
def k10 : Class := { plain "java/lang/Cloneable" (some 0) with
  accessFlags := 1537
  interfaces := #[]
  cf := some (fileOf pool10 2 #[] #[] 1537 4 #[] #[])
  fields := #[]
  methods := #[]
  instanceTypes := #[]
  staticTypes := #[]
  resolved := Array.replicate 8 none
  statics := none }

/-- the primitive byte -/
def k11 : Class := { plain "byte" none with kind := .primitive 'B', accessFlags := 0x411 }
/-- [B -/
def k12 : Class := { plain "[B" (some 0) with kind := .array 11 .byte, interfaces := #[10, 4], accessFlags := 1041 }

/-- the primitive int -/
def k13 : Class := { plain "int" none with kind := .primitive 'I', accessFlags := 0x411 }
/-- [I -/
def k14 : Class := { plain "[I" (some 0) with kind := .array 13 .int, interfaces := #[10, 4], accessFlags := 1041 }

def heap : Heap := #[]
def classes : Array Class := #[k0, k1, k2, k3, k4, k5, k6, k7, k8, k9, k10, k11, k12, k13, k14]
def interned : List (Array UInt16 × Addr) := []
def slotsUsed : Nat := 0
def theMethod : MethodId := ⟨1, 1⟩
def args0 : Array Value := #[.int 5, .int 6, .int 7, .long 2, .int 2, .int 2]
def aboutOver (below : List Frame) : State where
  vm := { classes := classes, interned := interned.toArray }
  heap := heap
  slotsUsed := slotsUsed
  threads := #[{ frames := .invoking theMethod args0 :: below }]
def below0 : List Frame := [.native { method := ⟨0, 0⟩, args := #[] }]
def about1 : State := aboutOver below0
def p0 : Program := .bare "" "" ""
def e0 : Env := launch0.env 0 0 0
theorem w_frames : about1.frames = Frame.invoking theMethod args0 :: below0 := rfl
set_option maxRecDepth 65536 in
theorem w_args : argsFit about1.vm theMethod args0 = true := by decide +kernel
set_option maxRecDepth 65536 in
theorem w_heap : heapFits about1 = true := by decide +kernel
set_option maxRecDepth 65536 in
theorem w_runnable : about1.curStatus? = some .runnable := by decide +kernel
set_option maxRecDepth 65536 in
theorem w_alone : about1.alone = true := by decide +kernel
set_option maxRecDepth 65536 in
theorem w_named : about1.methodNamed? x = some theMethod := by decide +kernel
set_option maxRecDepth 65536 in
theorem w_hears : about1.hears theMethod below0 = true := by decide +kernel
set_option maxRecDepth 65536 in
theorem w_ripe : about1.ripe theMethod args0 below0 = true := by decide +kernel
theorem w_running : about1.status = .running := rfl
set_option maxRecDepth 65536 in
theorem w_room : about1.hasRoom e0.platform room_1 = true :=
  launch0.hasRoom_least _ room_1 (by decide +kernel) (by decide +kernel) (by decide +kernel) (by decide +kernel) (by decide +kernel) (by decide +kernel)
theorem allAtoms_all (ts : List Jvm.Cond) (a : Array Jvm.Value) (st : Jvm.State) : (allAtoms ts).before a st = ts.all (fun c => c.before a st) := by
  induction ts with
  | nil => rfl
  | cons c t ih =>
    show (Jvm.Cond.and c (allAtoms t)).before a st = _
    rw [Jvm.Cond.before_and, ih, List.all_cons]
def words1 : List Jvm.Cond := Jvm.Cond.code x code maxLocals ret :: tables_1
/-- a 'code' word, met by the world's own term for the bytes: nothing is compared byte by byte -/
theorem code_word {y : MethodName} {bytes : ByteArray} {mx : Nat} {rt : Option FieldType} {a : Array Value} {s : State} {m : MethodId} {meth : Method} {c : Code} (h1 : s.methodNamed? y = some m) (h2 : s.vm.method? m = some meth) (h3 : meth.code = some c) (h4 : c.code = bytes)
    (h5 : (c.maxLocals == mx && c.exceptionTable.isEmpty && decide (c.maxStack ≤ mostOperands) && decide (meth.sig.returnType = rt) && !meth.locks && decide (parseMethodDescriptor y.desc = some meth.sig)) = true) : (Jvm.Cond.code y bytes mx rt).before a s = true := by
  simp only [Bool.and_eq_true, beq_iff_eq, Bool.not_eq_true', decide_eq_true_eq] at h5
  obtain ⟨⟨⟨⟨⟨g1, g2⟩, g3⟩, g4⟩, g5⟩, g6⟩ := h5
  simp [Cond.before, Cond.holds, Cond.value, h1, h2, h3, h4, g1, g2, g3, g4, g5, g6]
def isCode : Jvm.Cond → Bool
  | .code _ _ _ _ => true
  | _ => false
theorem all_split {L : List Jvm.Cond} {P : Jvm.Cond → Bool} (h1 : L.all (fun c => isCode c || P c) = true) (h2 : ∀ c ∈ L.filter isCode, P c = true) : L.all P = true := by
  refine List.all_eq_true.mpr fun c hc => ?_
  have h := List.all_eq_true.mp h1 c hc
  rcases Bool.eq_false_or_eq_true (isCode c) with hi | hi
  · exact h2 c (List.mem_filter.mpr ⟨hc, hi⟩)
  · simpa [hi] using h
set_option maxRecDepth 65536 in
theorem w_c0 : (Jvm.Cond.code x code maxLocals ret).before args0 about1 = true := code_word (m := ⟨1, 1⟩) (meth := k1m1) (c := k1c1) (by decide +kernel) rfl rfl rfl (by decide +kernel)
set_option maxRecDepth 65536 in
theorem w_c1 : (Jvm.Cond.code ({ cls := "com/example/marcotte/marcotte/NameWrittenAtPinLaw", name := "delta", desc := "(III)B" } : Jvm.MethodName) method_3_code (3 : Nat) (Option.some Jvm.ClassFile.FieldType.byte)).before args0 about1 = true := code_word (m := ⟨1, 2⟩) (meth := k1m2) (c := k1c2) (by decide +kernel) rfl rfl rfl (by decide +kernel)
set_option maxRecDepth 65536 in
theorem w_c2 : (Jvm.Cond.code ({ cls := "com/example/marcotte/marcotte/XmlNames$Name", name := "<init>", desc := "(Ljava/lang/String;Ljava/lang/String;Ljava/lang/String;[BIZ)V" } : Jvm.MethodName) prog_52_method_1_code (7 : Nat) (Option.none : Option Jvm.ClassFile.FieldType)).before args0 about1 = true := code_word (m := ⟨3, 0⟩) (meth := k3m0) (c := k3c0) (by decide +kernel) rfl rfl rfl (by decide +kernel)
set_option maxRecDepth 65536 in
theorem w_c3 : (Jvm.Cond.code ({ cls := "java/lang/Record", name := "<init>", desc := "()V" } : Jvm.MethodName) jdk_30_method_1_code (1 : Nat) (Option.none : Option Jvm.ClassFile.FieldType)).before args0 about1 = true := code_word (m := ⟨2, 0⟩) (meth := k2m0) (c := k2c0) (by decide +kernel) rfl rfl rfl (by decide +kernel)
set_option maxRecDepth 65536 in
theorem w_c4 : (Jvm.Cond.code ({ cls := "java/lang/Object", name := "<init>", desc := "()V" } : Jvm.MethodName) object_method_1_code (1 : Nat) (Option.none : Option Jvm.ClassFile.FieldType)).before args0 about1 = true := code_word (m := ⟨0, 0⟩) (meth := k0m0) (c := k0c0) (by decide +kernel) rfl rfl rfl (by decide +kernel)
set_option maxRecDepth 65536 in
theorem w_c5 : (Jvm.Cond.code ({ cls := "com/example/marcotte/marcotte/XmlNames$Name", name := "writtenAt", desc := "([BI)Z" } : Jvm.MethodName) prog_52_method_2_code (4 : Nat) (Option.some Jvm.ClassFile.FieldType.boolean)).before args0 about1 = true := code_word (m := ⟨3, 1⟩) (meth := k3m1) (c := k3c1) (by decide +kernel) rfl rfl rfl (by decide +kernel)
def codes1 : List Jvm.Cond := [Jvm.Cond.code x code maxLocals ret, Jvm.Cond.code ({ cls := "com/example/marcotte/marcotte/NameWrittenAtPinLaw", name := "delta", desc := "(III)B" } : Jvm.MethodName) method_3_code (3 : Nat) (Option.some Jvm.ClassFile.FieldType.byte), Jvm.Cond.code ({ cls := "com/example/marcotte/marcotte/XmlNames$Name", name := "<init>", desc := "(Ljava/lang/String;Ljava/lang/String;Ljava/lang/String;[BIZ)V" } : Jvm.MethodName) prog_52_method_1_code (7 : Nat) (Option.none : Option Jvm.ClassFile.FieldType), Jvm.Cond.code ({ cls := "java/lang/Record", name := "<init>", desc := "()V" } : Jvm.MethodName) jdk_30_method_1_code (1 : Nat) (Option.none : Option Jvm.ClassFile.FieldType), Jvm.Cond.code ({ cls := "java/lang/Object", name := "<init>", desc := "()V" } : Jvm.MethodName) object_method_1_code (1 : Nat) (Option.none : Option Jvm.ClassFile.FieldType), Jvm.Cond.code ({ cls := "com/example/marcotte/marcotte/XmlNames$Name", name := "writtenAt", desc := "([BI)Z" } : Jvm.MethodName) prog_52_method_2_code (4 : Nat) (Option.some Jvm.ClassFile.FieldType.boolean)]
set_option maxRecDepth 65536 in
theorem codes_eq : words1.filter isCode = codes1 := rfl
theorem w_codes : ∀ c ∈ words1.filter isCode, c.before args0 about1 = true := by
  rw [codes_eq]
  intro c hc
  simp only [codes1, List.mem_cons, List.not_mem_nil, or_false] at hc
  rcases hc with rfl | rfl | rfl | rfl | rfl | rfl
  · exact w_c0
  · exact w_c1
  · exact w_c2
  · exact w_c3
  · exact w_c4
  · exact w_c5
set_option maxRecDepth 65536 in
theorem w_t1 : (words1.take 24).all (fun c => isCode c || c.before args0 about1) = true := by decide +kernel
set_option maxRecDepth 65536 in
theorem w_t2 : (words1.drop 24).all (fun c => isCode c || c.before args0 about1) = true := by decide +kernel
theorem w_tables : (allAtoms (Jvm.Cond.code x code maxLocals ret :: tables_1)).before args0 about1 = true := by
  rw [allAtoms_all]
  show words1.all (fun c => c.before args0 about1) = true
  refine all_split ?_ w_codes
  rw [← List.take_append_drop 24 words1, List.all_append, w_t1, w_t2]
  rfl
set_option maxRecDepth 65536 in
theorem w_case : (Jvm.Cond.and given_1 narrow_1).before args0 about1 = true := by decide +kernel
theorem w_applies : (headSpec (Jvm.Cond.code x code maxLocals ret :: tables_1) room_1).applies x e0.platform about1 = true :=
  (Spec.applies_iff w_frames).mpr ⟨w_running, w_runnable, w_alone, w_named, w_hears, w_ripe, w_room, w_tables⟩
theorem atStart : AtStart classFile x code maxLocals ret World_1 tables_1 room_1 Calls_1 rest_1 Pre_1 launch0 p0 e0 about1 theMethod args0 below0 :=
  ⟨lists_1, trivial, launch0.admits_env _ _ _, launch0.least_env, fairChoices_fair.cas, fairChoices_fair.clock, w_frames, w_args, w_heap, w_applies, trivial, trivial, w_case⟩
end start1
theorem witness_1 : WitnessClaimed_1 := ⟨start1.p0, start1.e0, start1.about1, start1.theMethod, start1.args0, start1.below0, start1.atStart⟩
end Jvm.Pilot.@@N@@
