import JvmDerived
import JvmDerived.Pilot.@@N@@Statement
import JvmDerived.Pilot.@@N@@Code
set_option linter.unusedVariables false
set_option linter.unusedSimpArgs false
namespace Jvm.RoadKit
theorem sta_keep {Z : State} {h h' : Heap} {C n d : String} {w : Value} (F : Sta Z h C n d w) (K : Keep h h' []) : Sta Z h' C n d w := by
  obtain ⟨cf, i, k, f, st, cell, h1, h2, h3, h4, h5, r⟩ := F
  exact ⟨cf, i, k, f, st, cell, h1, h2, h3, h4, K.2.1 _ _ h5 nin0, r⟩
def FrameWide (s : State) (o : Outcome) (t : State) (L : List Loc) (k n : Nat) : Prop := (∃ v, o = .returned v) ∧ s.Warmed39 t.vm ∧ s.Booked t.vm t.heap.size ∧ s.sameButNew ({ t with vm := s.vm } : State) L k n
theorem heq_of {T : State} {h : Heap} {a : Addr} {c : Cell} (e : T.heap = h) (q : h[a]? = some c) : T.heap[a]? = some c := by rw [e]; exact q
open Sem ClassFile Op Lib Jvm.Stand Jvm.Free Jvm.LawKit
section New
variable {p : Program} {l : Launch} {e : Env} {R : Room} {s : State} {m : MethodId} {args : Array Value} {below : List Frame} {meth : Method} {c : Code} {T : State} {locs : List Loc} {cells slots : Nat}
theorem retI (X : Stand p l e R s m args below meth c T locs cells slots) (hx : p.tables.exec = Jvm.exec) {pc : Nat} {Ls : Array Slot} {z : Int32} {rest : List Value} (hret : meth.sig.returnType = some .int) (hd : decode c.code pc = .ok (.ireturn, 1)) {fs : List Frame}
    (hl : ∀ (f : JFrame) (acts : List Action), f.method = m → f.locked = none → f.entered = [] → (doReturn e (T.setTop f) acts (some (.int z))).1 = T.setFrames fs) : Steps p.tables e below (T.setTop (mkF m pc Ls (.int z :: rest))) (T.setFrames fs) := by
  have hm' : T.vm.method? m = some meth := X.method'
  have hn : narrow .int (.int z) = .int z := rfl
  show Steps p.tables e below (T.setTop { method := m, pc := pc, locals := Ls, stack := _ :: rest, locked := none }) _
  jvm_step X.here [X.here.top, hx, hd, hm', hret, hn]
  first | (intro acts; rw [hl _ acts rfl rfl rfl]) | rw [hl _ _ rfl rfl rfl]
  exact Steps.refl _
end New
end Jvm.RoadKit
namespace Jvm.Pilot.@@N@@
open Jvm Jvm.ClassFile Sem Op Lib Jvm.Free Jvm.Stand Jvm.LawKit Jvm.RoadKit Bundle Jvm.Pilot.@@N@@.Jvm.D
theorem own_mask31 (a : Int32) : 0 ≤ (a &&& (2147483647 : Int32)).toInt ∧ (a &&& (2147483647 : Int32)).toInt < 2147483648 := by
  have h : (a &&& (2147483647 : Int32)).toBitVec = a.toBitVec &&& 2147483647#32 := rfl
  have e : (a &&& (2147483647 : Int32)).toInt = (a.toBitVec &&& 2147483647#32).toInt := by rw [← h]; rfl
  have hm : (a.toBitVec &&& 2147483647#32).toNat ≤ 2147483647 := by rw [BitVec.toNat_and]; exact Nat.and_le_right
  rw [e, BitVec.toInt_eq_toNat_of_lt (by omega)]
  omega
theorem own_rem (u s : Int32) (hu : 0 ≤ u.toInt) (hs : 0 < s.toInt) : 0 ≤ (u % s).toInt ∧ (u % s).toInt < s.toInt := by
  have : (u % s).toInt = u.toInt.tmod s.toInt := Int32.toInt_mod ..
  rw [this, Int.tmod_eq_emod_of_nonneg hu]
  exact ⟨Int.emod_nonneg _ (by omega), Int.emod_lt_of_pos _ hs⟩
theorem own_i32_add (x y : Int32) (h1 : -2147483648 ≤ x.toInt + y.toInt) (h2 : x.toInt + y.toInt < 2147483648) : (x + y).toInt = x.toInt + y.toInt := by
  rw [Int32.toInt_add, Int.bmod_eq_of_le (by omega) (by omega)]
theorem own_i32_sub (x y : Int32) (h1 : -2147483648 ≤ x.toInt - y.toInt) (h2 : x.toInt - y.toInt < 2147483648) : (x - y).toInt = x.toInt - y.toInt := by
  rw [Int32.toInt_sub, Int.bmod_eq_of_le (by omega) (by omega)]
theorem own_i64_add (x y : Int64) (h1 : -9223372036854775808 ≤ x.toInt + y.toInt) (h2 : x.toInt + y.toInt < 9223372036854775808) : (x + y).toInt = x.toInt + y.toInt := by
  rw [Int64.toInt_add, Int.bmod_eq_of_le (by omega) (by omega)]
theorem own_i64_sub (x y : Int64) (h1 : -9223372036854775808 ≤ x.toInt - y.toInt) (h2 : x.toInt - y.toInt < 9223372036854775808) : (x - y).toInt = x.toInt - y.toInt := by
  rw [Int64.toInt_sub, Int.bmod_eq_of_le (by omega) (by omega)]
theorem own_i64_mul (x y : Int64) (h1 : -9223372036854775808 ≤ x.toInt * y.toInt) (h2 : x.toInt * y.toInt < 9223372036854775808) : (x * y).toInt = x.toInt * y.toInt := by
  rw [Int64.toInt_mul, Int.bmod_eq_of_le (by omega) (by omega)]
theorem own_i2l (x : Int32) : x.toInt64.toInt = x.toInt := Int32.toInt_toInt64 x
theorem own_l2i (x : Int64) (h1 : -2147483648 ≤ x.toInt) (h2 : x.toInt < 2147483648) : x.toInt32.toInt = x.toInt := by
  rw [Int64.toInt_toInt32, Int.bmod_eq_of_le (by omega) (by omega)]
theorem own_rangeI (x : Int32) : -2147483648 ≤ x.toInt ∧ x.toInt < 2147483648 := by
  have h1 := Int32.le_toInt x; have h2 := Int32.toInt_lt x; omega
theorem own_rangeL (x : Int64) : -9223372036854775808 ≤ x.toInt ∧ x.toInt < 9223372036854775808 := by
  have h1 := Int64.le_toInt x; have h2 := Int64.toInt_lt x; omega
theorem own_mask63 (a : Int64) : 0 ≤ (a &&& (9223372036854775807 : Int64)).toInt ∧ (a &&& (9223372036854775807 : Int64)).toInt < 9223372036854775808 := by
  have h : (a &&& (9223372036854775807 : Int64)).toBitVec = a.toBitVec &&& 9223372036854775807#64 := rfl
  have e : (a &&& (9223372036854775807 : Int64)).toInt = (a.toBitVec &&& 9223372036854775807#64).toInt := by rw [← h]; rfl
  have hm : (a.toBitVec &&& 9223372036854775807#64).toNat ≤ 9223372036854775807 := by rw [BitVec.toNat_and]; exact Nat.and_le_right
  rw [e, BitVec.toInt_eq_toNat_of_lt (by omega)]
  omega
theorem own_remL (u s : Int64) (hu : 0 ≤ u.toInt) (hs : 0 < s.toInt) : 0 ≤ (u % s).toInt ∧ (u % s).toInt < s.toInt := by
  have : (u % s).toInt = u.toInt.tmod s.toInt := Int64.toInt_mod ..
  rw [this, Int.tmod_eq_emod_of_nonneg hu]
  exact ⟨Int.emod_nonneg _ (by omega), Int.emod_lt_of_pos _ hs⟩
theorem own_chr (k : Int32) : ¬ ((255 : Int32) < ((k &&& (255 : Int32)).toUInt32.toUInt16.toUInt32.toInt32)) := by
  have h : ((k &&& (255 : Int32)).toUInt32.toUInt16.toUInt32.toInt32).toBitVec = ((k.toBitVec &&& 255#32).setWidth 16).setWidth 32 := rfl
  have hm : (k.toBitVec &&& 255#32).toNat ≤ 255 := by rw [BitVec.toNat_and]; exact Nat.and_le_right
  have hn : (((k.toBitVec &&& 255#32).setWidth 16).setWidth 32).toNat ≤ 255 := by
    rw [BitVec.toNat_setWidth, BitVec.toNat_setWidth, Nat.mod_eq_of_lt (a := (k.toBitVec &&& 255#32).toNat) (by omega), Nat.mod_eq_of_lt (by omega)]; exact hm
  have e : ((k &&& (255 : Int32)).toUInt32.toUInt16.toUInt32.toInt32).toInt = (((k.toBitVec &&& 255#32).setWidth 16).setWidth 32).toInt := by rw [← h]; rfl
  rw [Int32.lt_iff_toInt_lt, e, BitVec.toInt_eq_toNat_of_lt (by omega)]
  have t : (255 : Int32).toInt = 255 := rfl
  omega
def own_eqi (x y : Int32) : Int32 := if x = y then (1 : Int32) else (0 : Int32)
theorem own_dec (p : Int32) : ¬ (p - (1 : Int32) = p) := fun q => by
  have h : p.toBitVec - 1#32 = p.toBitVec := congrArg Int32.toBitVec q
  have h2 := congrArg BitVec.toNat h
  rw [BitVec.toNat_sub] at h2
  have h3 := p.toBitVec.isLt
  have t : (1#32).toNat = 1 := rfl
  omega
theorem own_inc (p : Int32) : ¬ (p + (1 : Int32) = p) := fun q => by
  have h : p.toBitVec + 1#32 = p.toBitVec := congrArg Int32.toBitVec q
  have h2 := congrArg BitVec.toNat h
  rw [BitVec.toNat_add] at h2
  have h3 := p.toBitVec.isLt
  have t : (1#32).toNat = 1 := rfl
  omega
theorem own_law (p k v : Int32) : own_eqi (if v = (0 : Int32) then p else (if v = (1 : Int32) then (p - (1 : Int32)) else (if v = (2 : Int32) then (p + (1 : Int32)) else k))) p = (if v = (0 : Int32) then (1 : Int32) else (if v = (1 : Int32) then (0 : Int32) else (if v = (2 : Int32) then (0 : Int32) else (if k = p then (1 : Int32) else (0 : Int32))))) := by
  unfold own_eqi
  by_cases h0 : v = (0 : Int32)
  · rw [if_pos h0, if_pos h0, if_pos rfl]
  · rw [if_neg h0, if_neg h0]
    by_cases h1 : v = (1 : Int32)
    · rw [if_pos h1, if_pos h1, if_neg (own_dec p)]
    · rw [if_neg h1, if_neg h1]
      by_cases h2 : v = (2 : Int32)
      · rw [if_pos h2, if_pos h2, if_neg (own_inc p)]
      · rw [if_neg h2, if_neg h2]
theorem d2_0 : decode jdk_43_method_3_code 0 = .ok (.iload_n 0, 1) := by decide +kernel
theorem d2_1 : decode jdk_43_method_3_code 1 = .ok (.sipush 255, 3) := by decide +kernel
theorem d2_4 : decode jdk_43_method_3_code 4 = .ok (.if_icmp .gt 7, 3) := by decide +kernel
theorem d2_7 : decode jdk_43_method_3_code 7 = .ok (.iconst 1, 1) := by decide +kernel
theorem d2_8 : decode jdk_43_method_3_code 8 = .ok (.goto 4, 3) := by decide +kernel
theorem d2_12 : decode jdk_43_method_3_code 12 = .ok (.ireturn, 1) := by decide +kernel
theorem pn_2 : plainName "java/lang/StringLatin1" = true := by first | (simp [plainName, overriddenIn]; done) | decide +kernel
theorem ef_2 (m : MethodId) (x0 : Int32) : entryFrame m #[(.int x0)] 1 = mkF m 0 #[.val (.int x0)] [] := by first | (simp [entryFrame, mkF, argsToLocals, Value.category]; done) | rfl
def Q2 (Z : State) (ch : Int32) (h0 : Heap) (n0 : Nat) (v : Option Value) (h : Heap) (L : List Loc) : Prop := v = some (.int (1 : Int32)) ∧ Fr n0 L ∧ h = h0
set_option maxRecDepth 65536 in
set_option maxHeartbeats 40000000 in
theorem rm2 (l : Launch) (Z : State) (a0 : Array Value) (hw : ∀ d ∈ tables_1, d.before a0 Z = true) (ws : List Jvm.Cond) (ch : Int32) (h0 : Heap) (n0 : Nat) (Z0 : n0 ≤ h0.size) (hch : ¬ ((255 : Int32) < ch)) :
    MetFree l (⟨"java/lang/StringLatin1", "canEncode", "(C)Z"⟩ : MethodName) (head1 (Jvm.Cond.code (⟨"java/lang/StringLatin1", "canEncode", "(C)Z"⟩ : MethodName) jdk_43_method_3_code 1 (some .boolean) :: ws) ({ frames := 0, cells := 0, slots := 0, locals := 0 } : Room)) (fun a U => a = #[(.int ch)] ∧ Z.Warmed39 U.vm ∧ U.heap = h0) (fun _ _ _ _ _ => True) (fun _ U o U' => ∃ v L, o = .returned v ∧ Q2 Z ch h0 n0 v U'.heap L ∧ FrameEnd U o U' L ({ frames := 0, cells := 0, slots := 0, locals := 0 } : Room).cells ({ frames := 0, cells := 0, slots := 0, locals := 0 } : Room).slots) := by
  refine MetFree.of_bodySF (plainFor_of_name pn_2) hisR ?_
  intro p e s m args below meth c s₁ Bd hml0 hP hK
  obtain ⟨rfl, hZ, hh⟩ := hP
  have hx := Bd.exec
  have hby := Bd.bytes
  have hml : c.maxLocals = 1 := hml0
  have hown : s.vm.findClass "java/lang/StringLatin1" = some m.cls := findClass_of_methodNamed Bd.named
  have hnm := (name_of_methodNamed Bd.named Bd.method).1
  have X0 : Stand p l e ({ frames := 0, cells := 0, slots := 0, locals := 0 } : Room) s m #[(.int ch)] below meth c s₁ [] 0 0 := Stand.of_body Bd
  have e0 : s₁.heap = h0 := by rw [← hh, Bd.state]; rfl
  have N0 := Fr.nil n0
  have K0 : Keep h0 h0 [] := Keep.refl h0 _
  have pre0 : ∀ tq, Steps p.tables e below (s₁.setTop (mkF m 0 #[.val (.int ch)] [])) tq → Steps p.tables e below (s₁.setTop (entryFrame m #[(.int ch)] 1)) tq := fun tq kq => castTop (ef_2 m ch) kq
  obtain ⟨fs, hr, hrun, hended, hW, hsame⟩ := X0.leave (v := some (Value.int (1 : Int32))) (fun h => by rw [Bd.returns] at h; cases h)
  refine ⟨_, _, pre0 _ ?_, hrun, hended, _, _, rfl, ?_, ⟨_, rfl⟩, hW, hsame.mono (by decide) (by decide)⟩
  · skip
    show Steps p.tables e below (s₁.setTop (mkF m 0 #[.val (.int ch)] [])) _
    refine XS.iloadN X0.here hx rfl (hb hby d2_0) rfl ?_
    show Steps p.tables e below (s₁.setTop (mkF m 1 #[.val (.int ch)] [(.int ch)])) _
    refine XS.sipush X0.here hx rfl (hb hby d2_1) ?_
    show Steps p.tables e below (s₁.setTop (mkF m 4 #[.val (.int ch)] [(.int (255 : Int32)), (.int ch)])) _
    refine XS.icmpNo X0.here hx rfl (hb hby d2_4) rfl (flt hch).2.2.1 ?_
    show Steps p.tables e below (s₁.setTop (mkF m 7 #[.val (.int ch)] [])) _
    refine XS.iconst X0.here hx rfl (hb hby d2_7) ?_
    show Steps p.tables e below (s₁.setTop (mkF m 8 #[.val (.int ch)] [(.int (1 : Int32))])) _
    refine XS.goto X0.here hx rfl (pc0 := 8) (pc' := 12) rfl (hb hby d2_8) (by decide) (by decide) ?_
    show Steps p.tables e below (s₁.setTop (mkF m 12 #[.val (.int ch)] [(.int (1 : Int32))])) _
    exact retN X0 hx (t := .boolean) Bd.returns (by simp) (hb hby d2_12) hr
  · show Q2 Z ch h0 n0 _ s₁.heap _
    rw [e0]
    exact ⟨rfl, N0, rfl⟩
theorem d3_0 : decode jdk_43_method_46_code 0 = .ok (.iconst 1, 1) := by decide +kernel
theorem d3_1 : decode jdk_43_method_46_code 1 = .ok (.newarray .byte, 2) := by decide +kernel
theorem d3_3 : decode jdk_43_method_46_code 3 = .ok (.dup, 1) := by decide +kernel
theorem d3_4 : decode jdk_43_method_46_code 4 = .ok (.iconst 0, 1) := by decide +kernel
theorem d3_5 : decode jdk_43_method_46_code 5 = .ok (.iload_n 0, 1) := by decide +kernel
theorem d3_6 : decode jdk_43_method_46_code 6 = .ok (.i2b, 1) := by decide +kernel
theorem d3_7 : decode jdk_43_method_46_code 7 = .ok (.bastore, 1) := by decide +kernel
theorem d3_8 : decode jdk_43_method_46_code 8 = .ok (.areturn, 1) := by decide +kernel
theorem pn_3 : plainName "java/lang/StringLatin1" = true := by first | (simp [plainName, overriddenIn]; done) | decide +kernel
theorem ef_3 (m : MethodId) (x0 : Int32) : entryFrame m #[(.int x0)] 1 = mkF m 0 #[.val (.int x0)] [] := by first | (simp [entryFrame, mkF, argsToLocals, Value.category]; done) | rfl
def Q3 (Z : State) (ch : Int32) (h0 : Heap) (n0 : Nat) (v : Option Value) (h : Heap) (L : List Loc) : Prop := ∃ RES : Addr, v = some (.ref RES) ∧ Fr n0 L ∧ Keep h0 h [] ∧ n0 ≤ RES ∧ h0.size ≤ RES
set_option maxRecDepth 65536 in
set_option maxHeartbeats 40000000 in
theorem rm3 (l : Launch) (Z : State) (a0 : Array Value) (hw : ∀ d ∈ tables_1, d.before a0 Z = true) (ws : List Jvm.Cond) (ch : Int32) (h0 : Heap) (n0 : Nat) (Z0 : n0 ≤ h0.size)  :
    MetFree l (⟨"java/lang/StringLatin1", "toBytes", "(C)[B"⟩ : MethodName) (head1 (Jvm.Cond.code (⟨"java/lang/StringLatin1", "toBytes", "(C)[B"⟩ : MethodName) jdk_43_method_46_code 1 (some (.array .byte)) :: ws) ({ frames := 0, cells := 1, slots := 1, locals := 0 } : Room)) (fun a U => a = #[(.int ch)] ∧ Z.Warmed39 U.vm ∧ U.heap = h0) (fun _ _ _ _ _ => True) (fun _ U o U' => ∃ v L, o = .returned v ∧ Q3 Z ch h0 n0 v U'.heap L ∧ FrameEnd U o U' L ({ frames := 0, cells := 1, slots := 1, locals := 0 } : Room).cells ({ frames := 0, cells := 1, slots := 1, locals := 0 } : Room).slots) := by
  refine MetFree.of_bodySF (plainFor_of_name pn_3) hisR ?_
  intro p e s m args below meth c s₁ Bd hml0 hP hK
  obtain ⟨rfl, hZ, hh⟩ := hP
  have hx := Bd.exec
  have hby := Bd.bytes
  have hml : c.maxLocals = 1 := hml0
  have hown : s.vm.findClass "java/lang/StringLatin1" = some m.cls := findClass_of_methodNamed Bd.named
  have hnm := (name_of_methodNamed Bd.named Bd.method).1
  have X0 : Stand p l e ({ frames := 0, cells := 1, slots := 1, locals := 0 } : Room) s m #[(.int ch)] below meth c s₁ [] 0 0 := Stand.of_body Bd
  have e0 : s₁.heap = h0 := by rw [← hh, Bd.state]; rfl
  have N0 := Fr.nil n0
  have K0 : Keep h0 h0 [] := Keep.refl h0 _
  have pre0 : ∀ tq, Steps p.tables e below (s₁.setTop (mkF m 0 #[.val (.int ch)] [])) tq → Steps p.tables e below (s₁.setTop (entryFrame m #[(.int ch)] 1)) tq := fun tq kq => castTop (ef_3 m ch) kq
  obtain ⟨T1, hX1, kx1, X1, e1, E1, A1, st1⟩ := newP X0 hx hZ (hw _ (List.mem_of_getElem? (i := 14) rfl)) e0 (g := (mkF m 1 #[.val (.int ch)] [(.int (1 : Int32))])) rfl (hb hby d3_1) rfl (by decide) (cap := 1) (by decide) (by decide) (by decide) (by decide)
  obtain ⟨b1, g1⟩ : ∃ z_q, z_q = h0.size := ⟨_, rfl⟩
  rw [← g1] at A1 st1
  have g_b1 : n0 ≤ b1 := Nat.le_trans Z0 (Nat.le_of_eq g1.symm)
  have sz_b1 : h0.size ≤ b1 := Nat.le_trans K0.1 (Nat.le_of_eq g1.symm)
  have Z2 : n0 ≤ hX1.size := Nat.le_trans Z0 E1.1
  have K3 : Keep h0 hX1 [] := K0.ext E1
  have F4 : Arv Z hX1 b1 kx1 .byte (1 : Int32) [(.int (0 : Int32))] (.int (0 : Int32)) := (Arv.new A1 (by decide)).pad (pad_rep [] (.int (0 : Int32)) 1)
  obtain ⟨cl5, Ar5, q5, S5, M5, H5, G5⟩ := id F4
  have hin5 : ¬ ((0 : Int32) < 0 ∨ cl5.slots.size ≤ ((0 : Int32)).toNatClampNeg) := inb_of S5 ⟨by decide, by decide⟩
  obtain ⟨T5, hX5, X5, e5, W5, st5⟩ := stB X1 hx hZ e1 Ar5 (j := (0 : Int32)) hin5 (g := (mkF m 7 #[.val (.int ch)] [(.int (ch.toInt8.toInt32)), (.int (0 : Int32)), (.ref b1), (.ref b1)])) rfl rfl (hb hby d3_7)
  have F6 : Arv Z hX5 b1 kx1 .byte (1 : Int32) [(.int (nar .byte (ch.toInt8.toInt32)))] (.int (0 : Int32)) := Arv.set Ar5 q5 S5 M5 H5 G5 (fits_nar_byte _) W5 0 rfl (Nat.le_of_ble_eq_true rfl)
  have N5 := Fr.snoc X5 N0 g_b1
  have Z7 : n0 ≤ hX5.size := Nat.le_trans Z2 (Keep.of_wr W5).1
  have K8 : Keep h0 hX5 [] := K3.wr W5 (Or.inr sz_b1)
  obtain ⟨fs, hr, hrun, hended, hW, hsame⟩ := X5.leave (v := some (Value.ref b1)) (fun h => by rw [Bd.returns] at h; cases h)
  refine ⟨_, _, pre0 _ ?_, hrun, hended, _, _, rfl, ?_, ⟨_, rfl⟩, hW, hsame.mono (by decide) (by decide)⟩
  · skip
    show Steps p.tables e below (s₁.setTop (mkF m 0 #[.val (.int ch)] [])) _
    refine XS.iconst X0.here hx rfl (hb hby d3_0) ?_
    show Steps p.tables e below (s₁.setTop (mkF m 1 #[.val (.int ch)] [(.int (1 : Int32))])) _
    refine st1 _ ?_
    show Steps p.tables e below (T1.setTop (mkF m 3 #[.val (.int ch)] [(.ref b1)])) _
    refine XS.dup X1.here hx rfl (hb hby d3_3) rfl rfl ?_
    show Steps p.tables e below (T1.setTop (mkF m 4 #[.val (.int ch)] [(.ref b1), (.ref b1)])) _
    refine XS.iconst X1.here hx rfl (hb hby d3_4) ?_
    show Steps p.tables e below (T1.setTop (mkF m 5 #[.val (.int ch)] [(.int (0 : Int32)), (.ref b1), (.ref b1)])) _
    refine XS.iloadN X1.here hx rfl (hb hby d3_5) rfl ?_
    show Steps p.tables e below (T1.setTop (mkF m 6 #[.val (.int ch)] [(.int ch), (.int (0 : Int32)), (.ref b1), (.ref b1)])) _
    refine XS.i2b X1.here hx rfl (hb hby d3_6) rfl ?_
    show Steps p.tables e below (T1.setTop (mkF m 7 #[.val (.int ch)] [(.int (ch.toInt8.toInt32)), (.int (0 : Int32)), (.ref b1), (.ref b1)])) _
    refine st5 _ ?_
    show Steps p.tables e below (T5.setTop (mkF m 8 #[.val (.int ch)] [(.ref b1)])) _
    exact retOut X5 hx Bd.returns rfl (Or.inr (Or.inr (Or.inr (Or.inr ⟨rfl, rfl, rfl⟩)))) (hb hby d3_8) hr
  · show Q3 Z ch h0 n0 _ T5.heap _
    rw [e5]
    exact ⟨b1, rfl, N5, K8, g_b1, sz_b1⟩
theorem d4_0 : decode jdk_42_method_151_code 0 = .ok (.aload_n 0, 1) := by decide +kernel
theorem d4_1 : decode jdk_42_method_151_code 1 = .ok (.invokespecial 1, 3) := by decide +kernel
theorem d4_4 : decode jdk_42_method_151_code 4 = .ok (.aload_n 0, 1) := by decide +kernel
theorem d4_5 : decode jdk_42_method_151_code 5 = .ok (.aload_n 1, 1) := by decide +kernel
theorem d4_6 : decode jdk_42_method_151_code 6 = .ok (.putfield 9, 3) := by decide +kernel
theorem d4_9 : decode jdk_42_method_151_code 9 = .ok (.aload_n 0, 1) := by decide +kernel
theorem d4_10 : decode jdk_42_method_151_code 10 = .ok (.iload_n 2, 1) := by decide +kernel
theorem d4_11 : decode jdk_42_method_151_code 11 = .ok (.putfield 15, 3) := by decide +kernel
theorem d4_14 : decode jdk_42_method_151_code 14 = .ok (.return_, 1) := by decide +kernel
theorem pn_4 : plainName "java/lang/String" = true := by first | (simp [plainName, overriddenIn]; done) | decide +kernel
theorem ef_4 (m : MethodId) (x0 : Addr) (x1 : Addr) (x2 : Int32) : entryFrame m #[(.ref x0), (.ref x1), (.int x2)] 3 = mkF m 0 #[.val (.ref x0), .val (.ref x1), .val (.int x2)] [] := by first | (simp [entryFrame, mkF, argsToLocals, Value.category]; done) | rfl
def Q4 (Z : State) (ob : Addr) (ar : Addr) (cd : Int32) (h0 : Heap) (n0 : Nat) (v : Option Value) (h : Heap) (L : List Loc) : Prop := v = none ∧ Fr n0 L ∧ Keep h0 h [ob] ∧ Exa Z h ob "java/lang/String"
set_option maxRecDepth 65536 in
set_option maxHeartbeats 40000000 in
theorem rm4 (l : Launch) (Z : State) (a0 : Array Value) (hw : ∀ d ∈ tables_1, d.before a0 Z = true) (ws : List Jvm.Cond) (ob : Addr) (ar : Addr) (cd : Int32) (h0 : Heap) (n0 : Nat) (Z0 : n0 ≤ h0.size) (I0 : Fld Z h0 ob "java/lang/String" "value" "[B" .null) (I1 : Fld Z h0 ob "java/lang/String" "coder" "B" (.int (0 : Int32))) (I2 : Exa Z h0 ob "java/lang/String") (g_ob : n0 ≤ ob) :
    MetFree l (⟨"java/lang/String", "<init>", "([BB)V"⟩ : MethodName) (head1 (Jvm.Cond.code (⟨"java/lang/String", "<init>", "([BB)V"⟩ : MethodName) jdk_42_method_151_code 3 none :: ws) ({ frames := 1, cells := 0, slots := 0, locals := 12 } : Room)) (fun a U => a = #[(.ref ob), (.ref ar), (.int cd)] ∧ Z.Warmed39 U.vm ∧ U.heap = h0) (fun _ _ _ _ _ => True) (fun _ U o U' => ∃ v L, o = .returned v ∧ Q4 Z ob ar cd h0 n0 v U'.heap L ∧ FrameEnd U o U' L ({ frames := 1, cells := 0, slots := 0, locals := 12 } : Room).cells ({ frames := 1, cells := 0, slots := 0, locals := 12 } : Room).slots) := by
  refine MetFree.of_bodySF (plainFor_of_name pn_4) hisR ?_
  intro p e s m args below meth c s₁ Bd hml0 hP hK
  obtain ⟨rfl, hZ, hh⟩ := hP
  have hx := Bd.exec
  have hby := Bd.bytes
  have hml : c.maxLocals = 3 := hml0
  have hown : s.vm.findClass "java/lang/String" = some m.cls := findClass_of_methodNamed Bd.named
  have hnm := (name_of_methodNamed Bd.named Bd.method).1
  have X0 : Stand p l e ({ frames := 1, cells := 0, slots := 0, locals := 12 } : Room) s m #[(.ref ob), (.ref ar), (.int cd)] below meth c s₁ [] 0 0 := Stand.of_body Bd
  have e0 : s₁.heap = h0 := by rw [← hh, Bd.state]; rfl
  have N0 := Fr.nil n0
  have K0 : Keep h0 h0 [ob] := Keep.refl h0 _
  have pre0 : ∀ tq, Steps p.tables e below (s₁.setTop (mkF m 0 #[.val (.ref ob), .val (.ref ar), .val (.int cd)] [])) tq → Steps p.tables e below (s₁.setTop (entryFrame m #[(.ref ob), (.ref ar), (.int cd)] 3)) tq := fun tq kq => castTop (ef_4 m ob ar cd) kq
  obtain ⟨T1, X1, e1, st1⟩ := initO X0 hx hZ hown (hw _ (List.mem_of_getElem? (i := 19) rfl)) (hw _ (List.mem_of_getElem? (i := 20) rfl)) (hw _ (List.mem_of_getElem? (i := 21) rfl)) e0 (g := (mkF m 1 #[.val (.ref ob), .val (.ref ar), .val (.int cd)] [(.ref ob)])) rfl (by rw [hml]; rfl) rfl (hb hby d4_1) (by decide) (W := 0) (by show 2 * 0 + _ ≤ _; exact Nat.le_of_eq rfl) (by decide)
  obtain ⟨T2, hX2, X2, e2, W2, st2⟩ := putF X1 hx hZ hown (host := "") (Or.inl (hw _ (List.mem_of_getElem? (i := 22) rfl))) Via.refl e1 I0 I2 (Or.inr ⟨(hw _ (List.mem_of_getElem? (i := 23) rfl)), rfl, hnm⟩) (hw _ (List.mem_of_getElem? (i := 10) rfl)) (ty := (.array .byte)) (by decide) rfl rfl (g := (mkF m 6 #[.val (.ref ob), .val (.ref ar), .val (.int cd)] [(.ref ar), (.ref ob)])) rfl rfl (hb hby d4_6)
  have N2 := Fr.snoc X2 N0 g_ob
  have F3 : Fld Z hX2 ob "java/lang/String" "value" "[B" (.ref ar) := I0.same W2
  have F4 : Fld Z hX2 ob "java/lang/String" "coder" "B" (.int (0 : Int32)) := I1.other W2 (Or.inr (slot_ne (Or.inr (hw _ (List.mem_of_getElem? (i := 25) rfl))) (Or.inr (hw _ (List.mem_of_getElem? (i := 23) rfl))) (by decide) (t := .byte) (t' := (.array .byte)) (by decide) (by decide)))
  have F5 : Exa Z hX2 ob "java/lang/String" := I2.wr W2
  have Z6 : n0 ≤ hX2.size := Nat.le_trans Z0 (Keep.of_wr W2).1
  have K7 : Keep h0 hX2 [ob] := K0.wr W2 (Or.inl (List.mem_of_getElem? (i := 0) rfl))
  obtain ⟨T8, hX8, X8, e8, W8, st8⟩ := putFN X2 hx hZ hown (hw _ (List.mem_of_getElem? (i := 24) rfl)) Via.refl e2 F4 F5 (Or.inr ⟨(hw _ (List.mem_of_getElem? (i := 25) rfl)), rfl, hnm⟩) (hw _ (List.mem_of_getElem? (i := 10) rfl)) (ty := .byte) (v' := (.int (nar .byte cd))) (by decide) rfl (fits_nar_byte _) (g := (mkF m 11 #[.val (.ref ob), .val (.ref ar), .val (.int cd)] [(.int cd), (.ref ob)])) rfl rfl (hb hby d4_11)
  have N8 := Fr.snoc X8 N2 g_ob
  have F9 : Fld Z hX8 ob "java/lang/String" "coder" "B" (.int (nar .byte cd)) := F4.same W8
  have F10 : Exa Z hX8 ob "java/lang/String" := F5.wr W8
  have F11 : Fld Z hX8 ob "java/lang/String" "value" "[B" (.ref ar) := F3.other W8 (Or.inr (slot_ne (Or.inr (hw _ (List.mem_of_getElem? (i := 23) rfl))) (Or.inr (hw _ (List.mem_of_getElem? (i := 25) rfl))) (by decide) (t := (.array .byte)) (t' := .byte) (by decide) (by decide)))
  have Z12 : n0 ≤ hX8.size := Nat.le_trans Z6 (Keep.of_wr W8).1
  have K13 : Keep h0 hX8 [ob] := K7.wr W8 (Or.inl (List.mem_of_getElem? (i := 0) rfl))
  obtain ⟨fs, hr, hrun, hended, hW, hsame⟩ := X8.leave (v := none) (fun _ => rfl)
  refine ⟨_, _, pre0 _ ?_, hrun, hended, _, _, rfl, ?_, ⟨_, rfl⟩, hW, hsame.mono (by decide) (by decide)⟩
  · skip
    show Steps p.tables e below (s₁.setTop (mkF m 0 #[.val (.ref ob), .val (.ref ar), .val (.int cd)] [])) _
    refine XS.aloadN X0.here hx rfl (hb hby d4_0) rfl rfl ?_
    show Steps p.tables e below (s₁.setTop (mkF m 1 #[.val (.ref ob), .val (.ref ar), .val (.int cd)] [(.ref ob)])) _
    refine st1 _ ?_
    show Steps p.tables e below (T1.setTop (mkF m 4 #[.val (.ref ob), .val (.ref ar), .val (.int cd)] [])) _
    refine XS.aloadN X1.here hx rfl (hb hby d4_4) rfl rfl ?_
    show Steps p.tables e below (T1.setTop (mkF m 5 #[.val (.ref ob), .val (.ref ar), .val (.int cd)] [(.ref ob)])) _
    refine XS.aloadN X1.here hx rfl (hb hby d4_5) rfl rfl ?_
    show Steps p.tables e below (T1.setTop (mkF m 6 #[.val (.ref ob), .val (.ref ar), .val (.int cd)] [(.ref ar), (.ref ob)])) _
    refine st2 _ ?_
    show Steps p.tables e below (T2.setTop (mkF m 9 #[.val (.ref ob), .val (.ref ar), .val (.int cd)] [])) _
    refine XS.aloadN X2.here hx rfl (hb hby d4_9) rfl rfl ?_
    show Steps p.tables e below (T2.setTop (mkF m 10 #[.val (.ref ob), .val (.ref ar), .val (.int cd)] [(.ref ob)])) _
    refine XS.iloadN X2.here hx rfl (hb hby d4_10) rfl ?_
    show Steps p.tables e below (T2.setTop (mkF m 11 #[.val (.ref ob), .val (.ref ar), .val (.int cd)] [(.int cd), (.ref ob)])) _
    refine st8 _ ?_
    show Steps p.tables e below (T8.setTop (mkF m 14 #[.val (.ref ob), .val (.ref ar), .val (.int cd)] [])) _
    exact X8.returnOut hx Bd.returns (hb hby d4_14) hr
  · show Q4 Z ob ar cd h0 n0 _ T8.heap _
    rw [e8]
    exact ⟨rfl, N8, K13, F10⟩
theorem d1_0 : decode jdk_42_method_139_code 0 = .ok (.getstatic 38, 3) := by decide +kernel
theorem d1_3 : decode jdk_42_method_139_code 3 = .ok (.ifCond .eq 23, 3) := by decide +kernel
theorem d1_6 : decode jdk_42_method_139_code 6 = .ok (.iload_n 0, 1) := by decide +kernel
theorem d1_7 : decode jdk_42_method_139_code 7 = .ok (.invokestatic 1015, 3) := by decide +kernel
theorem d1_10 : decode jdk_42_method_139_code 10 = .ok (.ifCond .eq 16, 3) := by decide +kernel
theorem d1_13 : decode jdk_42_method_139_code 13 = .ok (.new 10, 3) := by decide +kernel
theorem d1_16 : decode jdk_42_method_139_code 16 = .ok (.dup, 1) := by decide +kernel
theorem d1_17 : decode jdk_42_method_139_code 17 = .ok (.iload_n 0, 1) := by decide +kernel
theorem d1_18 : decode jdk_42_method_139_code 18 = .ok (.invokestatic 1018, 3) := by decide +kernel
theorem d1_21 : decode jdk_42_method_139_code 21 = .ok (.iconst 0, 1) := by decide +kernel
theorem d1_22 : decode jdk_42_method_139_code 22 = .ok (.invokespecial 209, 3) := by decide +kernel
theorem d1_25 : decode jdk_42_method_139_code 25 = .ok (.areturn, 1) := by decide +kernel
theorem pn_1 : plainName "java/lang/String" = true := by first | (simp [plainName, overriddenIn]; done) | decide +kernel
theorem pd_0 : parseMethodDescriptor "(C)Z" = some ⟨[.char], some .boolean⟩ := by decide +kernel
theorem pd_1 : parseMethodDescriptor "(C)[B" = some ⟨[.char], some (.array .byte)⟩ := by decide +kernel
theorem pd_2 : parseMethodDescriptor "([BB)V" = some ⟨[(.array .byte), .byte], none⟩ := by decide +kernel
theorem ef_1 (m : MethodId) (x0 : Int32) : entryFrame m #[(.int x0)] 1 = mkF m 0 #[.val (.int x0)] [] := by first | (simp [entryFrame, mkF, argsToLocals, Value.category]; done) | rfl
theorem own_pre_1_7_hch (ch : Int32) (cs : Int32) (hcs : ¬ (cs = (0 : Int32))) (hch : ¬ ((255 : Int32) < ch)) : ¬ ((255 : Int32) < ch) := hch
def Q1 (Z : State) (ch : Int32) (cs : Int32) (h0 : Heap) (n0 : Nat) (v : Option Value) (h : Heap) (L : List Loc) : Prop := ∃ RES : Addr, v = some (.ref RES) ∧ Fr n0 L ∧ Keep h0 h [] ∧ n0 ≤ RES ∧ h0.size ≤ RES ∧ Exa Z h RES "java/lang/String"
set_option maxRecDepth 65536 in
set_option maxHeartbeats 40000000 in
theorem rm1 (l : Launch) (Z : State) (a0 : Array Value) (hw : ∀ d ∈ tables_1, d.before a0 Z = true) (ws : List Jvm.Cond) (ch : Int32) (cs : Int32) (h0 : Heap) (n0 : Nat) (Z0 : n0 ≤ h0.size) (I0 : Sta Z h0 "java/lang/String" "COMPACT_STRINGS" "Z" (.int cs)) (hcs : ¬ (cs = (0 : Int32))) (hch : ¬ ((255 : Int32) < ch)) :
    MetFree l (⟨"java/lang/String", "valueOf", "(C)Ljava/lang/String;"⟩ : MethodName) (head1 (Jvm.Cond.code (⟨"java/lang/String", "valueOf", "(C)Ljava/lang/String;"⟩ : MethodName) jdk_42_method_139_code 1 (some (.object "java/lang/String")) :: ws) ({ frames := 2, cells := 2, slots := 5, locals := 27 } : Room)) (fun a U => a = #[(.int ch)] ∧ Z.Warmed39 U.vm ∧ U.heap = h0) (fun _ _ _ _ _ => True) (fun _ U o U' => ∃ v L, o = .returned v ∧ Q1 Z ch cs h0 n0 v U'.heap L ∧ FrameEnd U o U' L ({ frames := 2, cells := 2, slots := 5, locals := 27 } : Room).cells ({ frames := 2, cells := 2, slots := 5, locals := 27 } : Room).slots) := by
  refine MetFree.of_bodySF (plainFor_of_name pn_1) hisR ?_
  intro p e s m args below meth c s₁ Bd hml0 hP hK
  obtain ⟨rfl, hZ, hh⟩ := hP
  have hx := Bd.exec
  have hby := Bd.bytes
  have hml : c.maxLocals = 1 := hml0
  have hown : s.vm.findClass "java/lang/String" = some m.cls := findClass_of_methodNamed Bd.named
  have hnm := (name_of_methodNamed Bd.named Bd.method).1
  have X0 : Stand p l e ({ frames := 2, cells := 2, slots := 5, locals := 27 } : Room) s m #[(.int ch)] below meth c s₁ [] 0 0 := Stand.of_body Bd
  have e0 : s₁.heap = h0 := by rw [← hh, Bd.state]; rfl
  have N0 := Fr.nil n0
  have K0 : Keep h0 h0 [] := Keep.refl h0 _
  have pre0 : ∀ tq, Steps p.tables e below (s₁.setTop (mkF m 0 #[.val (.int ch)] [])) tq → Steps p.tables e below (s₁.setTop (entryFrame m #[(.int ch)] 1)) tq := fun tq kq => castTop (ef_1 m ch) kq
  obtain ⟨T1, X1, e1, st1⟩ := getS2 X0 hx hZ hown (host := "") (Or.inl (hw _ (List.mem_of_getElem? (i := 4) rfl))) Via.refl e0 I0 (g := (mkF m 0 #[.val (.int ch)] [])) rfl (hb hby d1_0)
  have hp2_hch : ¬ ((255 : Int32) < ch) := (own_pre_1_7_hch ch cs hcs hch)
  obtain ⟨_, _, ⟨T2, L2, k2, n2⟩, -, X2, ⟨Lc2, hQ2, l2, y2, z2⟩, st2⟩ := Jvm.LawKit.callS X1 hx (y := (⟨"java/lang/StringLatin1", "canEncode", "(C)Z"⟩ : MethodName)) hown (mvT hZ (hw _ (List.mem_of_getElem? (i := 5) rfl))) (mvT hZ (hw _ (List.mem_of_getElem? (i := 6) rfl))) (mvT hZ (hw _ (List.mem_of_getElem? (i := 7) rfl))) (mvT hZ (hw _ (List.mem_of_getElem? (i := 8) rfl))) (by decide) (backOf (W := 0) (rm2 l Z a0 hw [] ch h0 n0 Z0 hp2_hch) hZ (hw _ (List.mem_of_getElem? (i := 8) rfl)) (hw _ (List.mem_of_getElem? (i := 7) rfl)) (by decide) (by decide)) (g := (mkF m 7 #[.val (.int ch)] [(.int ch)])) rfl (by rw [hml]; rfl) (argsL := [(.int ch)]) (rest := []) (lenOf pd_0 rfl) rfl (by show 2 * 0 + _ ≤ _; exact Nat.le_of_eq rfl) (hb hby d1_7) (fun _ _ => ⟨rfl, e1, (by decide : 0 + 0 ≤ _), (by decide : 0 + 0 ≤ _)⟩)
  dsimp only [Pt.U, Pt.locs, Pt.cells, Pt.slots] at X2 l2 y2 z2 st2 hQ2
  subst l2 y2 z2
  obtain ⟨rfl, N2q, e2⟩ := hQ2
  have N2 := Fr.app N0 N2q
  obtain ⟨T3, hX3, X3, e3, E3, A3, D3, -, st3⟩ := newO X2 hx hZ hown (hw _ (List.mem_of_getElem? (i := 9) rfl)) (hw _ (List.mem_of_getElem? (i := 10) rfl)) (hw _ (List.mem_of_getElem? (i := 2) rfl)) e2 (g := (mkF m 13 #[.val (.int ch)] [])) rfl (hb hby d1_13) (by decide) (by decide)
  obtain ⟨b3, g3⟩ : ∃ z_q, z_q = h0.size := ⟨_, rfl⟩
  rw [← g3] at A3 D3 st3
  have g_b3 : n0 ≤ b3 := Nat.le_trans Z0 (Nat.le_of_eq g3.symm)
  have sz_b3 : h0.size ≤ b3 := Nat.le_trans K0.1 (Nat.le_of_eq g3.symm)
  have F4 : Sta Z hX3 "java/lang/String" "COMPACT_STRINGS" "Z" (.int cs) := I0.ext E3
  have Z5 : n0 ≤ hX3.size := Nat.le_trans Z0 E3.1
  have K6 : Keep h0 hX3 [] := K0.ext E3
  have F7 : Fld Z hX3 b3 "java/lang/String" "value" "[B" .null := D3 (Or.inr (hw _ (List.mem_of_getElem? (i := 23) rfl))) (ty := (.array .byte)) (by decide)
  have F8 : Fld Z hX3 b3 "java/lang/String" "coder" "B" (.int (0 : Int32)) := D3 (Or.inr (hw _ (List.mem_of_getElem? (i := 25) rfl))) (ty := .byte) (by decide)
  obtain ⟨_, _, ⟨T9, L9, k9, n9⟩, -, X9, ⟨Lc9, hQ9, l9, y9, z9⟩, st9⟩ := Jvm.LawKit.callS X3 hx (y := (⟨"java/lang/StringLatin1", "toBytes", "(C)[B"⟩ : MethodName)) hown (mvT hZ (hw _ (List.mem_of_getElem? (i := 11) rfl))) (mvT hZ (hw _ (List.mem_of_getElem? (i := 12) rfl))) (mvT hZ (hw _ (List.mem_of_getElem? (i := 7) rfl))) (mvT hZ (hw _ (List.mem_of_getElem? (i := 13) rfl))) (by decide) (backOf (W := 2) (rm3 l Z a0 hw [] ch hX3 n0 Z5 ) hZ (hw _ (List.mem_of_getElem? (i := 13) rfl)) (hw _ (List.mem_of_getElem? (i := 7) rfl)) (by decide) (by decide)) (g := (mkF m 18 #[.val (.int ch)] [(.int ch), (.ref b3), (.ref b3)])) rfl (by rw [hml]; rfl) (argsL := [(.int ch)]) (rest := [(.ref b3), (.ref b3)]) (lenOf pd_1 rfl) rfl (by show 2 * 0 + _ ≤ _; exact Nat.le_of_eq rfl) (hb hby d1_18) (fun _ _ => ⟨rfl, e3, (by decide : 1 + 1 ≤ _), (by decide : 4 + 1 ≤ _)⟩)
  dsimp only [Pt.U, Pt.locs, Pt.cells, Pt.slots] at X9 l9 y9 z9 st9 hQ9
  subst l9 y9 z9
  obtain ⟨b9, rfl, N9q, K9q, g_b9, szq_b9⟩ := hQ9
  have N9 := Fr.app N2 N9q
  have ne_b3_b9 : b3 ≠ b9 := Nat.ne_of_lt (Nat.lt_of_lt_of_le A3.lt szq_b9)
  have sz_b9 : h0.size ≤ b9 := Nat.le_trans K6.1 szq_b9
  have F10 : Sta Z T9.heap "java/lang/String" "COMPACT_STRINGS" "Z" (.int cs) := sta_keep F4 K9q
  have F11 : Exa Z T9.heap b3 "java/lang/String" := A3.keep K9q
  have F12 : Fld Z T9.heap b3 "java/lang/String" "value" "[B" .null := F7.keep K9q nin0
  have F13 : Fld Z T9.heap b3 "java/lang/String" "coder" "B" (.int (0 : Int32)) := F8.keep K9q nin0
  have Z14 : n0 ≤ T9.heap.size := Nat.le_trans Z5 K9q.1
  have K15 : Keep h0 T9.heap [] := K6.trans K9q all0
  obtain ⟨_, _, ⟨T16, L16, k16, n16⟩, -, X16, ⟨Lc16, hQ16, l16, y16, z16⟩, st16⟩ := X9.specialBack hx (y := (⟨"java/lang/String", "<init>", "([BB)V"⟩ : MethodName)) rfl hown (mvT hZ (hw _ (List.mem_of_getElem? (i := 15) rfl))) (mvT hZ (hw _ (List.mem_of_getElem? (i := 16) rfl))) (mvT hZ (hw _ (List.mem_of_getElem? (i := 18) rfl))) (by decide) (backOf (W := 1) (rm4 l Z a0 hw [] b3 b9 (0 : Int32) T9.heap n0 Z14 F12 F13 F11 g_b3) hZ (hw _ (List.mem_of_getElem? (i := 18) rfl)) (hw _ (List.mem_of_getElem? (i := 2) rfl)) (by decide) (by decide)) (g := (mkF m 22 #[.val (.int ch)] [(.int (0 : Int32)), (.ref b9), (.ref b3), (.ref b3)])) rfl (by rw [hml]; rfl) (Steps.refl _) (a := b3) (argsL := [(.ref b9), (.int (0 : Int32))]) (rest := [(.ref b3)]) (lenOf pd_2 rfl) rfl (by show 2 * 0 + _ ≤ _; exact Nat.le_of_eq rfl) (hb hby d1_22) (fun _ _ => ⟨rfl, rfl, (by decide : 2 + 0 ≤ _), (by decide : 5 + 0 ≤ _)⟩)
  dsimp only [Pt.U, Pt.locs, Pt.cells, Pt.slots] at X16 l16 y16 z16 st16 hQ16
  subst l16 y16 z16
  obtain ⟨rfl, N16q, K16q, F17⟩ := hQ16
  have N16 := Fr.app N9 N16q
  have F18 : Exa Z T16.heap b3 "java/lang/String" := F11.keep K16q
  have Z19 : n0 ≤ T16.heap.size := Nat.le_trans Z14 K16q.1
  have K20 : Keep h0 T16.heap [] := K15.trans K16q (allS (Or.inr sz_b3) all0)
  obtain ⟨fs, hr, hrun, hended, hW, hsame⟩ := X16.leave (v := some (Value.ref b3)) (fun h => by rw [Bd.returns] at h; cases h)
  refine ⟨_, _, pre0 _ ?_, hrun, hended, _, _, rfl, ?_, ⟨_, rfl⟩, hW, hsame.mono (by decide) (by decide)⟩
  · skip
    show Steps p.tables e below (s₁.setTop (mkF m 0 #[.val (.int ch)] [])) _
    refine st1 _ ?_
    show Steps p.tables e below (T1.setTop (mkF m 3 #[.val (.int ch)] [(.int cs)])) _
    refine XS.ifNo X1.here hx rfl (hb hby d1_3) rfl ((if0 _ _).trans (feq hcs).1) ?_
    show Steps p.tables e below (T1.setTop (mkF m 6 #[.val (.int ch)] [])) _
    refine XS.iloadN X1.here hx rfl (hb hby d1_6) rfl ?_
    show Steps p.tables e below (T1.setTop (mkF m 7 #[.val (.int ch)] [(.int ch)])) _
    refine st2 _ ?_
    show Steps p.tables e below (T2.setTop (mkF m 10 #[.val (.int ch)] [(.int (1 : Int32))])) _
    refine XS.ifNo X2.here hx rfl (hb hby d1_10) rfl ((if0 _ _).trans (feq (by decide)).1) ?_
    show Steps p.tables e below (T2.setTop (mkF m 13 #[.val (.int ch)] [])) _
    refine st3 _ ?_
    show Steps p.tables e below (T3.setTop (mkF m 16 #[.val (.int ch)] [(.ref b3)])) _
    refine XS.dup X3.here hx rfl (hb hby d1_16) rfl rfl ?_
    show Steps p.tables e below (T3.setTop (mkF m 17 #[.val (.int ch)] [(.ref b3), (.ref b3)])) _
    refine XS.iloadN X3.here hx rfl (hb hby d1_17) rfl ?_
    show Steps p.tables e below (T3.setTop (mkF m 18 #[.val (.int ch)] [(.int ch), (.ref b3), (.ref b3)])) _
    refine st9 _ ?_
    show Steps p.tables e below (T9.setTop (mkF m 21 #[.val (.int ch)] [(.ref b9), (.ref b3), (.ref b3)])) _
    refine XS.iconst X9.here hx rfl (hb hby d1_21) ?_
    show Steps p.tables e below (T9.setTop (mkF m 22 #[.val (.int ch)] [(.int (0 : Int32)), (.ref b9), (.ref b3), (.ref b3)])) _
    refine st16.trans ?_
    show Steps p.tables e below (T16.setTop (mkF m 25 #[.val (.int ch)] [(.ref b3)])) _
    exact retOut X16 hx Bd.returns rfl (Or.inr (Or.inr (Or.inr (Or.inr ⟨rfl, rfl, rfl⟩)))) (hb hby d1_25) hr
  · show Q1 Z ch cs h0 n0 _ T16.heap _
    exact ⟨b3, rfl, N16, K20, g_b3, sz_b3, F17⟩
theorem d6_0 : decode prog_33_method_1_code 0 = .ok (.aload_n 0, 1) := by decide +kernel
theorem d6_1 : decode prog_33_method_1_code 1 = .ok (.invokespecial 1, 3) := by decide +kernel
theorem d6_4 : decode prog_33_method_1_code 4 = .ok (.aload_n 0, 1) := by decide +kernel
theorem d6_5 : decode prog_33_method_1_code 5 = .ok (.iload_n 1, 1) := by decide +kernel
theorem d6_6 : decode prog_33_method_1_code 6 = .ok (.putfield 7, 3) := by decide +kernel
theorem d6_9 : decode prog_33_method_1_code 9 = .ok (.aload_n 0, 1) := by decide +kernel
theorem d6_10 : decode prog_33_method_1_code 10 = .ok (.aload_n 2, 1) := by decide +kernel
theorem d6_11 : decode prog_33_method_1_code 11 = .ok (.putfield 13, 3) := by decide +kernel
theorem d6_14 : decode prog_33_method_1_code 14 = .ok (.aload_n 0, 1) := by decide +kernel
theorem d6_15 : decode prog_33_method_1_code 15 = .ok (.aload_n 3, 1) := by decide +kernel
theorem d6_16 : decode prog_33_method_1_code 16 = .ok (.putfield 17, 3) := by decide +kernel
theorem d6_19 : decode prog_33_method_1_code 19 = .ok (.aload_n 0, 1) := by decide +kernel
theorem d6_20 : decode prog_33_method_1_code 20 = .ok (.iload 4, 2) := by decide +kernel
theorem d6_22 : decode prog_33_method_1_code 22 = .ok (.putfield 20, 3) := by decide +kernel
theorem d6_25 : decode prog_33_method_1_code 25 = .ok (.aload_n 0, 1) := by decide +kernel
theorem d6_26 : decode prog_33_method_1_code 26 = .ok (.iload 5, 2) := by decide +kernel
theorem d6_28 : decode prog_33_method_1_code 28 = .ok (.putfield 23, 3) := by decide +kernel
theorem d6_31 : decode prog_33_method_1_code 31 = .ok (.return_, 1) := by decide +kernel
theorem pn_6 : plainName "com/example/twigmeter/twigmeter/sample/Group" = true := by first | (simp [plainName, overriddenIn]; done) | decide +kernel
theorem ef_6 (m : MethodId) (x0 : Addr) (x1 : Int32) (x2 : Addr) (x3 : Addr) (x4 : Int32) (x5 : Int32) : entryFrame m #[(.ref x0), (.int x1), (.ref x2), (.ref x3), (.int x4), (.int x5)] 6 = mkF m 0 #[.val (.ref x0), .val (.int x1), .val (.ref x2), .val (.ref x3), .val (.int x4), .val (.int x5)] [] := by first | (simp [entryFrame, mkF, argsToLocals, Value.category]; done) | rfl
def Q6 (Z : State) (ob : Addr) (lv : Int32) (r1 : Addr) (r2 : Addr) (pp : Int32) (dr : Int32) (h0 : Heap) (n0 : Nat) (v : Option Value) (h : Heap) (L : List Loc) : Prop := v = none ∧ Fr n0 L ∧ Keep h0 h [ob] ∧ Exa Z h ob "com/example/twigmeter/twigmeter/sample/Group" ∧ Fld Z h ob "com/example/twigmeter/twigmeter/sample/Group" "population" "I" (.int pp) ∧ Fld Z h ob "com/example/twigmeter/twigmeter/sample/Group" "drawn" "I" (.int dr)
set_option maxRecDepth 65536 in
set_option maxHeartbeats 40000000 in
theorem rm6 (l : Launch) (Z : State) (a0 : Array Value) (hw : ∀ d ∈ tables_1, d.before a0 Z = true) (ws : List Jvm.Cond) (ob : Addr) (lv : Int32) (r1 : Addr) (r2 : Addr) (pp : Int32) (dr : Int32) (h0 : Heap) (n0 : Nat) (Z0 : n0 ≤ h0.size) (I0 : Fld Z h0 ob "com/example/twigmeter/twigmeter/sample/Group" "level" "I" (.int (0 : Int32))) (I1 : Fld Z h0 ob "com/example/twigmeter/twigmeter/sample/Group" "namespaceUri" "Ljava/lang/String;" .null) (I2 : Fld Z h0 ob "com/example/twigmeter/twigmeter/sample/Group" "localName" "Ljava/lang/String;" .null) (I3 : Fld Z h0 ob "com/example/twigmeter/twigmeter/sample/Group" "population" "I" (.int (0 : Int32))) (I4 : Fld Z h0 ob "com/example/twigmeter/twigmeter/sample/Group" "drawn" "I" (.int (0 : Int32))) (I5 : Exa Z h0 ob "com/example/twigmeter/twigmeter/sample/Group") (g_ob : n0 ≤ ob) :
    MetFree l (⟨"com/example/twigmeter/twigmeter/sample/Group", "<init>", "(ILjava/lang/String;Ljava/lang/String;II)V"⟩ : MethodName) (head1 (Jvm.Cond.code (⟨"com/example/twigmeter/twigmeter/sample/Group", "<init>", "(ILjava/lang/String;Ljava/lang/String;II)V"⟩ : MethodName) prog_33_method_1_code 6 none :: ws) ({ frames := 1, cells := 0, slots := 0, locals := 12 } : Room)) (fun a U => a = #[(.ref ob), (.int lv), (.ref r1), (.ref r2), (.int pp), (.int dr)] ∧ Z.Warmed39 U.vm ∧ U.heap = h0) (fun _ _ _ _ _ => True) (fun _ U o U' => ∃ v L, o = .returned v ∧ Q6 Z ob lv r1 r2 pp dr h0 n0 v U'.heap L ∧ FrameEnd U o U' L ({ frames := 1, cells := 0, slots := 0, locals := 12 } : Room).cells ({ frames := 1, cells := 0, slots := 0, locals := 12 } : Room).slots) := by
  refine MetFree.of_bodySF (plainFor_of_name pn_6) hisR ?_
  intro p e s m args below meth c s₁ Bd hml0 hP hK
  obtain ⟨rfl, hZ, hh⟩ := hP
  have hx := Bd.exec
  have hby := Bd.bytes
  have hml : c.maxLocals = 6 := hml0
  have hown : s.vm.findClass "com/example/twigmeter/twigmeter/sample/Group" = some m.cls := findClass_of_methodNamed Bd.named
  have hnm := (name_of_methodNamed Bd.named Bd.method).1
  have X0 : Stand p l e ({ frames := 1, cells := 0, slots := 0, locals := 12 } : Room) s m #[(.ref ob), (.int lv), (.ref r1), (.ref r2), (.int pp), (.int dr)] below meth c s₁ [] 0 0 := Stand.of_body Bd
  have e0 : s₁.heap = h0 := by rw [← hh, Bd.state]; rfl
  have N0 := Fr.nil n0
  have K0 : Keep h0 h0 [ob] := Keep.refl h0 _
  have pre0 : ∀ tq, Steps p.tables e below (s₁.setTop (mkF m 0 #[.val (.ref ob), .val (.int lv), .val (.ref r1), .val (.ref r2), .val (.int pp), .val (.int dr)] [])) tq → Steps p.tables e below (s₁.setTop (entryFrame m #[(.ref ob), (.int lv), (.ref r1), (.ref r2), (.int pp), (.int dr)] 6)) tq := fun tq kq => castTop (ef_6 m ob lv r1 r2 pp dr) kq
  obtain ⟨T1, X1, e1, st1⟩ := initO X0 hx hZ hown (hw _ (List.mem_of_getElem? (i := 32) rfl)) (hw _ (List.mem_of_getElem? (i := 20) rfl)) (hw _ (List.mem_of_getElem? (i := 21) rfl)) e0 (g := (mkF m 1 #[.val (.ref ob), .val (.int lv), .val (.ref r1), .val (.ref r2), .val (.int pp), .val (.int dr)] [(.ref ob)])) rfl (by rw [hml]; rfl) rfl (hb hby d6_1) (by decide) (W := 0) (by show 2 * 0 + _ ≤ _; exact Nat.le_of_eq rfl) (by decide)
  obtain ⟨T2, hX2, X2, e2, W2, st2⟩ := putF X1 hx hZ hown (host := "") (Or.inl (hw _ (List.mem_of_getElem? (i := 33) rfl))) Via.refl e1 I0 I5 (Or.inr ⟨(hw _ (List.mem_of_getElem? (i := 34) rfl)), rfl, hnm⟩) (hw _ (List.mem_of_getElem? (i := 27) rfl)) (ty := .int) (by decide) rfl rfl (g := (mkF m 6 #[.val (.ref ob), .val (.int lv), .val (.ref r1), .val (.ref r2), .val (.int pp), .val (.int dr)] [(.int lv), (.ref ob)])) rfl rfl (hb hby d6_6)
  have N2 := Fr.snoc X2 N0 g_ob
  have F3 : Fld Z hX2 ob "com/example/twigmeter/twigmeter/sample/Group" "level" "I" (.int lv) := I0.same W2
  have F4 : Fld Z hX2 ob "com/example/twigmeter/twigmeter/sample/Group" "namespaceUri" "Ljava/lang/String;" .null := I1.other W2 (Or.inr (slot_ne (Or.inr (hw _ (List.mem_of_getElem? (i := 36) rfl))) (Or.inr (hw _ (List.mem_of_getElem? (i := 34) rfl))) (by decide) (t := (.object "java/lang/String")) (t' := .int) (by decide) (by decide)))
  have F5 : Fld Z hX2 ob "com/example/twigmeter/twigmeter/sample/Group" "localName" "Ljava/lang/String;" .null := I2.other W2 (Or.inr (slot_ne (Or.inr (hw _ (List.mem_of_getElem? (i := 38) rfl))) (Or.inr (hw _ (List.mem_of_getElem? (i := 34) rfl))) (by decide) (t := (.object "java/lang/String")) (t' := .int) (by decide) (by decide)))
  have F6 : Fld Z hX2 ob "com/example/twigmeter/twigmeter/sample/Group" "population" "I" (.int (0 : Int32)) := I3.other W2 (Or.inr (slot_ne (Or.inr (hw _ (List.mem_of_getElem? (i := 40) rfl))) (Or.inr (hw _ (List.mem_of_getElem? (i := 34) rfl))) (by decide) (t := .int) (t' := .int) (by decide) (by decide)))
  have F7 : Fld Z hX2 ob "com/example/twigmeter/twigmeter/sample/Group" "drawn" "I" (.int (0 : Int32)) := I4.other W2 (Or.inr (slot_ne (Or.inr (hw _ (List.mem_of_getElem? (i := 42) rfl))) (Or.inr (hw _ (List.mem_of_getElem? (i := 34) rfl))) (by decide) (t := .int) (t' := .int) (by decide) (by decide)))
  have F8 : Exa Z hX2 ob "com/example/twigmeter/twigmeter/sample/Group" := I5.wr W2
  have Z9 : n0 ≤ hX2.size := Nat.le_trans Z0 (Keep.of_wr W2).1
  have K10 : Keep h0 hX2 [ob] := K0.wr W2 (Or.inl (List.mem_of_getElem? (i := 0) rfl))
  obtain ⟨T11, hX11, X11, e11, W11, st11⟩ := putF X2 hx hZ hown (host := "") (Or.inl (hw _ (List.mem_of_getElem? (i := 35) rfl))) Via.refl e2 F4 F8 (Or.inr ⟨(hw _ (List.mem_of_getElem? (i := 36) rfl)), rfl, hnm⟩) (hw _ (List.mem_of_getElem? (i := 27) rfl)) (ty := (.object "java/lang/String")) (by decide) rfl rfl (g := (mkF m 11 #[.val (.ref ob), .val (.int lv), .val (.ref r1), .val (.ref r2), .val (.int pp), .val (.int dr)] [(.ref r1), (.ref ob)])) rfl rfl (hb hby d6_11)
  have N11 := Fr.snoc X11 N2 g_ob
  have F12 : Fld Z hX11 ob "com/example/twigmeter/twigmeter/sample/Group" "namespaceUri" "Ljava/lang/String;" (.ref r1) := F4.same W11
  have F13 : Fld Z hX11 ob "com/example/twigmeter/twigmeter/sample/Group" "localName" "Ljava/lang/String;" .null := F5.other W11 (Or.inr (slot_ne (Or.inr (hw _ (List.mem_of_getElem? (i := 38) rfl))) (Or.inr (hw _ (List.mem_of_getElem? (i := 36) rfl))) (by decide) (t := (.object "java/lang/String")) (t' := (.object "java/lang/String")) (by decide) (by decide)))
  have F14 : Fld Z hX11 ob "com/example/twigmeter/twigmeter/sample/Group" "population" "I" (.int (0 : Int32)) := F6.other W11 (Or.inr (slot_ne (Or.inr (hw _ (List.mem_of_getElem? (i := 40) rfl))) (Or.inr (hw _ (List.mem_of_getElem? (i := 36) rfl))) (by decide) (t := .int) (t' := (.object "java/lang/String")) (by decide) (by decide)))
  have F15 : Fld Z hX11 ob "com/example/twigmeter/twigmeter/sample/Group" "drawn" "I" (.int (0 : Int32)) := F7.other W11 (Or.inr (slot_ne (Or.inr (hw _ (List.mem_of_getElem? (i := 42) rfl))) (Or.inr (hw _ (List.mem_of_getElem? (i := 36) rfl))) (by decide) (t := .int) (t' := (.object "java/lang/String")) (by decide) (by decide)))
  have F16 : Exa Z hX11 ob "com/example/twigmeter/twigmeter/sample/Group" := F8.wr W11
  have F17 : Fld Z hX11 ob "com/example/twigmeter/twigmeter/sample/Group" "level" "I" (.int lv) := F3.other W11 (Or.inr (slot_ne (Or.inr (hw _ (List.mem_of_getElem? (i := 34) rfl))) (Or.inr (hw _ (List.mem_of_getElem? (i := 36) rfl))) (by decide) (t := .int) (t' := (.object "java/lang/String")) (by decide) (by decide)))
  have Z18 : n0 ≤ hX11.size := Nat.le_trans Z9 (Keep.of_wr W11).1
  have K19 : Keep h0 hX11 [ob] := K10.wr W11 (Or.inl (List.mem_of_getElem? (i := 0) rfl))
  obtain ⟨T20, hX20, X20, e20, W20, st20⟩ := putF X11 hx hZ hown (host := "") (Or.inl (hw _ (List.mem_of_getElem? (i := 37) rfl))) Via.refl e11 F13 F16 (Or.inr ⟨(hw _ (List.mem_of_getElem? (i := 38) rfl)), rfl, hnm⟩) (hw _ (List.mem_of_getElem? (i := 27) rfl)) (ty := (.object "java/lang/String")) (by decide) rfl rfl (g := (mkF m 16 #[.val (.ref ob), .val (.int lv), .val (.ref r1), .val (.ref r2), .val (.int pp), .val (.int dr)] [(.ref r2), (.ref ob)])) rfl rfl (hb hby d6_16)
  have N20 := Fr.snoc X20 N11 g_ob
  have F21 : Fld Z hX20 ob "com/example/twigmeter/twigmeter/sample/Group" "localName" "Ljava/lang/String;" (.ref r2) := F13.same W20
  have F22 : Fld Z hX20 ob "com/example/twigmeter/twigmeter/sample/Group" "population" "I" (.int (0 : Int32)) := F14.other W20 (Or.inr (slot_ne (Or.inr (hw _ (List.mem_of_getElem? (i := 40) rfl))) (Or.inr (hw _ (List.mem_of_getElem? (i := 38) rfl))) (by decide) (t := .int) (t' := (.object "java/lang/String")) (by decide) (by decide)))
  have F23 : Fld Z hX20 ob "com/example/twigmeter/twigmeter/sample/Group" "drawn" "I" (.int (0 : Int32)) := F15.other W20 (Or.inr (slot_ne (Or.inr (hw _ (List.mem_of_getElem? (i := 42) rfl))) (Or.inr (hw _ (List.mem_of_getElem? (i := 38) rfl))) (by decide) (t := .int) (t' := (.object "java/lang/String")) (by decide) (by decide)))
  have F24 : Exa Z hX20 ob "com/example/twigmeter/twigmeter/sample/Group" := F16.wr W20
  have F25 : Fld Z hX20 ob "com/example/twigmeter/twigmeter/sample/Group" "level" "I" (.int lv) := F17.other W20 (Or.inr (slot_ne (Or.inr (hw _ (List.mem_of_getElem? (i := 34) rfl))) (Or.inr (hw _ (List.mem_of_getElem? (i := 38) rfl))) (by decide) (t := .int) (t' := (.object "java/lang/String")) (by decide) (by decide)))
  have F26 : Fld Z hX20 ob "com/example/twigmeter/twigmeter/sample/Group" "namespaceUri" "Ljava/lang/String;" (.ref r1) := F12.other W20 (Or.inr (slot_ne (Or.inr (hw _ (List.mem_of_getElem? (i := 36) rfl))) (Or.inr (hw _ (List.mem_of_getElem? (i := 38) rfl))) (by decide) (t := (.object "java/lang/String")) (t' := (.object "java/lang/String")) (by decide) (by decide)))
  have Z27 : n0 ≤ hX20.size := Nat.le_trans Z18 (Keep.of_wr W20).1
  have K28 : Keep h0 hX20 [ob] := K19.wr W20 (Or.inl (List.mem_of_getElem? (i := 0) rfl))
  obtain ⟨T29, hX29, X29, e29, W29, st29⟩ := putF X20 hx hZ hown (host := "") (Or.inl (hw _ (List.mem_of_getElem? (i := 39) rfl))) Via.refl e20 F22 F24 (Or.inr ⟨(hw _ (List.mem_of_getElem? (i := 40) rfl)), rfl, hnm⟩) (hw _ (List.mem_of_getElem? (i := 27) rfl)) (ty := .int) (by decide) rfl rfl (g := (mkF m 22 #[.val (.ref ob), .val (.int lv), .val (.ref r1), .val (.ref r2), .val (.int pp), .val (.int dr)] [(.int pp), (.ref ob)])) rfl rfl (hb hby d6_22)
  have N29 := Fr.snoc X29 N20 g_ob
  have F30 : Fld Z hX29 ob "com/example/twigmeter/twigmeter/sample/Group" "population" "I" (.int pp) := F22.same W29
  have F31 : Fld Z hX29 ob "com/example/twigmeter/twigmeter/sample/Group" "drawn" "I" (.int (0 : Int32)) := F23.other W29 (Or.inr (slot_ne (Or.inr (hw _ (List.mem_of_getElem? (i := 42) rfl))) (Or.inr (hw _ (List.mem_of_getElem? (i := 40) rfl))) (by decide) (t := .int) (t' := .int) (by decide) (by decide)))
  have F32 : Exa Z hX29 ob "com/example/twigmeter/twigmeter/sample/Group" := F24.wr W29
  have F33 : Fld Z hX29 ob "com/example/twigmeter/twigmeter/sample/Group" "level" "I" (.int lv) := F25.other W29 (Or.inr (slot_ne (Or.inr (hw _ (List.mem_of_getElem? (i := 34) rfl))) (Or.inr (hw _ (List.mem_of_getElem? (i := 40) rfl))) (by decide) (t := .int) (t' := .int) (by decide) (by decide)))
  have F34 : Fld Z hX29 ob "com/example/twigmeter/twigmeter/sample/Group" "namespaceUri" "Ljava/lang/String;" (.ref r1) := F26.other W29 (Or.inr (slot_ne (Or.inr (hw _ (List.mem_of_getElem? (i := 36) rfl))) (Or.inr (hw _ (List.mem_of_getElem? (i := 40) rfl))) (by decide) (t := (.object "java/lang/String")) (t' := .int) (by decide) (by decide)))
  have F35 : Fld Z hX29 ob "com/example/twigmeter/twigmeter/sample/Group" "localName" "Ljava/lang/String;" (.ref r2) := F21.other W29 (Or.inr (slot_ne (Or.inr (hw _ (List.mem_of_getElem? (i := 38) rfl))) (Or.inr (hw _ (List.mem_of_getElem? (i := 40) rfl))) (by decide) (t := (.object "java/lang/String")) (t' := .int) (by decide) (by decide)))
  have Z36 : n0 ≤ hX29.size := Nat.le_trans Z27 (Keep.of_wr W29).1
  have K37 : Keep h0 hX29 [ob] := K28.wr W29 (Or.inl (List.mem_of_getElem? (i := 0) rfl))
  obtain ⟨T38, hX38, X38, e38, W38, st38⟩ := putF X29 hx hZ hown (host := "") (Or.inl (hw _ (List.mem_of_getElem? (i := 41) rfl))) Via.refl e29 F31 F32 (Or.inr ⟨(hw _ (List.mem_of_getElem? (i := 42) rfl)), rfl, hnm⟩) (hw _ (List.mem_of_getElem? (i := 27) rfl)) (ty := .int) (by decide) rfl rfl (g := (mkF m 28 #[.val (.ref ob), .val (.int lv), .val (.ref r1), .val (.ref r2), .val (.int pp), .val (.int dr)] [(.int dr), (.ref ob)])) rfl rfl (hb hby d6_28)
  have N38 := Fr.snoc X38 N29 g_ob
  have F39 : Fld Z hX38 ob "com/example/twigmeter/twigmeter/sample/Group" "drawn" "I" (.int dr) := F31.same W38
  have F40 : Exa Z hX38 ob "com/example/twigmeter/twigmeter/sample/Group" := F32.wr W38
  have F41 : Fld Z hX38 ob "com/example/twigmeter/twigmeter/sample/Group" "level" "I" (.int lv) := F33.other W38 (Or.inr (slot_ne (Or.inr (hw _ (List.mem_of_getElem? (i := 34) rfl))) (Or.inr (hw _ (List.mem_of_getElem? (i := 42) rfl))) (by decide) (t := .int) (t' := .int) (by decide) (by decide)))
  have F42 : Fld Z hX38 ob "com/example/twigmeter/twigmeter/sample/Group" "namespaceUri" "Ljava/lang/String;" (.ref r1) := F34.other W38 (Or.inr (slot_ne (Or.inr (hw _ (List.mem_of_getElem? (i := 36) rfl))) (Or.inr (hw _ (List.mem_of_getElem? (i := 42) rfl))) (by decide) (t := (.object "java/lang/String")) (t' := .int) (by decide) (by decide)))
  have F43 : Fld Z hX38 ob "com/example/twigmeter/twigmeter/sample/Group" "localName" "Ljava/lang/String;" (.ref r2) := F35.other W38 (Or.inr (slot_ne (Or.inr (hw _ (List.mem_of_getElem? (i := 38) rfl))) (Or.inr (hw _ (List.mem_of_getElem? (i := 42) rfl))) (by decide) (t := (.object "java/lang/String")) (t' := .int) (by decide) (by decide)))
  have F44 : Fld Z hX38 ob "com/example/twigmeter/twigmeter/sample/Group" "population" "I" (.int pp) := F30.other W38 (Or.inr (slot_ne (Or.inr (hw _ (List.mem_of_getElem? (i := 40) rfl))) (Or.inr (hw _ (List.mem_of_getElem? (i := 42) rfl))) (by decide) (t := .int) (t' := .int) (by decide) (by decide)))
  have Z45 : n0 ≤ hX38.size := Nat.le_trans Z36 (Keep.of_wr W38).1
  have K46 : Keep h0 hX38 [ob] := K37.wr W38 (Or.inl (List.mem_of_getElem? (i := 0) rfl))
  obtain ⟨fs, hr, hrun, hended, hW, hsame⟩ := X38.leave (v := none) (fun _ => rfl)
  refine ⟨_, _, pre0 _ ?_, hrun, hended, _, _, rfl, ?_, ⟨_, rfl⟩, hW, hsame.mono (by decide) (by decide)⟩
  · skip
    show Steps p.tables e below (s₁.setTop (mkF m 0 #[.val (.ref ob), .val (.int lv), .val (.ref r1), .val (.ref r2), .val (.int pp), .val (.int dr)] [])) _
    refine XS.aloadN X0.here hx rfl (hb hby d6_0) rfl rfl ?_
    show Steps p.tables e below (s₁.setTop (mkF m 1 #[.val (.ref ob), .val (.int lv), .val (.ref r1), .val (.ref r2), .val (.int pp), .val (.int dr)] [(.ref ob)])) _
    refine st1 _ ?_
    show Steps p.tables e below (T1.setTop (mkF m 4 #[.val (.ref ob), .val (.int lv), .val (.ref r1), .val (.ref r2), .val (.int pp), .val (.int dr)] [])) _
    refine XS.aloadN X1.here hx rfl (hb hby d6_4) rfl rfl ?_
    show Steps p.tables e below (T1.setTop (mkF m 5 #[.val (.ref ob), .val (.int lv), .val (.ref r1), .val (.ref r2), .val (.int pp), .val (.int dr)] [(.ref ob)])) _
    refine XS.iloadN X1.here hx rfl (hb hby d6_5) rfl ?_
    show Steps p.tables e below (T1.setTop (mkF m 6 #[.val (.ref ob), .val (.int lv), .val (.ref r1), .val (.ref r2), .val (.int pp), .val (.int dr)] [(.int lv), (.ref ob)])) _
    refine st2 _ ?_
    show Steps p.tables e below (T2.setTop (mkF m 9 #[.val (.ref ob), .val (.int lv), .val (.ref r1), .val (.ref r2), .val (.int pp), .val (.int dr)] [])) _
    refine XS.aloadN X2.here hx rfl (hb hby d6_9) rfl rfl ?_
    show Steps p.tables e below (T2.setTop (mkF m 10 #[.val (.ref ob), .val (.int lv), .val (.ref r1), .val (.ref r2), .val (.int pp), .val (.int dr)] [(.ref ob)])) _
    refine XS.aloadN X2.here hx rfl (hb hby d6_10) rfl rfl ?_
    show Steps p.tables e below (T2.setTop (mkF m 11 #[.val (.ref ob), .val (.int lv), .val (.ref r1), .val (.ref r2), .val (.int pp), .val (.int dr)] [(.ref r1), (.ref ob)])) _
    refine st11 _ ?_
    show Steps p.tables e below (T11.setTop (mkF m 14 #[.val (.ref ob), .val (.int lv), .val (.ref r1), .val (.ref r2), .val (.int pp), .val (.int dr)] [])) _
    refine XS.aloadN X11.here hx rfl (hb hby d6_14) rfl rfl ?_
    show Steps p.tables e below (T11.setTop (mkF m 15 #[.val (.ref ob), .val (.int lv), .val (.ref r1), .val (.ref r2), .val (.int pp), .val (.int dr)] [(.ref ob)])) _
    refine XS.aloadN X11.here hx rfl (hb hby d6_15) rfl rfl ?_
    show Steps p.tables e below (T11.setTop (mkF m 16 #[.val (.ref ob), .val (.int lv), .val (.ref r1), .val (.ref r2), .val (.int pp), .val (.int dr)] [(.ref r2), (.ref ob)])) _
    refine st20 _ ?_
    show Steps p.tables e below (T20.setTop (mkF m 19 #[.val (.ref ob), .val (.int lv), .val (.ref r1), .val (.ref r2), .val (.int pp), .val (.int dr)] [])) _
    refine XS.aloadN X20.here hx rfl (hb hby d6_19) rfl rfl ?_
    show Steps p.tables e below (T20.setTop (mkF m 20 #[.val (.ref ob), .val (.int lv), .val (.ref r1), .val (.ref r2), .val (.int pp), .val (.int dr)] [(.ref ob)])) _
    refine XS.iload X20.here hx rfl (hb hby d6_20) rfl ?_
    show Steps p.tables e below (T20.setTop (mkF m 22 #[.val (.ref ob), .val (.int lv), .val (.ref r1), .val (.ref r2), .val (.int pp), .val (.int dr)] [(.int pp), (.ref ob)])) _
    refine st29 _ ?_
    show Steps p.tables e below (T29.setTop (mkF m 25 #[.val (.ref ob), .val (.int lv), .val (.ref r1), .val (.ref r2), .val (.int pp), .val (.int dr)] [])) _
    refine XS.aloadN X29.here hx rfl (hb hby d6_25) rfl rfl ?_
    show Steps p.tables e below (T29.setTop (mkF m 26 #[.val (.ref ob), .val (.int lv), .val (.ref r1), .val (.ref r2), .val (.int pp), .val (.int dr)] [(.ref ob)])) _
    refine XS.iload X29.here hx rfl (hb hby d6_26) rfl ?_
    show Steps p.tables e below (T29.setTop (mkF m 28 #[.val (.ref ob), .val (.int lv), .val (.ref r1), .val (.ref r2), .val (.int pp), .val (.int dr)] [(.int dr), (.ref ob)])) _
    refine st38 _ ?_
    show Steps p.tables e below (T38.setTop (mkF m 31 #[.val (.ref ob), .val (.int lv), .val (.ref r1), .val (.ref r2), .val (.int pp), .val (.int dr)] [])) _
    exact X38.returnOut hx Bd.returns (hb hby d6_31) hr
  · show Q6 Z ob lv r1 r2 pp dr h0 n0 _ T38.heap _
    rw [e38]
    exact ⟨rfl, N38, K46, F40, F44, F39⟩
theorem d7_0 : decode prog_33_method_9_code 0 = .ok (.aload_n 0, 1) := by decide +kernel
theorem d7_1 : decode prog_33_method_9_code 1 = .ok (.getfield 23, 3) := by decide +kernel
theorem d7_4 : decode prog_33_method_9_code 4 = .ok (.aload_n 0, 1) := by decide +kernel
theorem d7_5 : decode prog_33_method_9_code 5 = .ok (.getfield 20, 3) := by decide +kernel
theorem d7_8 : decode prog_33_method_9_code 8 = .ok (.if_icmp .ne 7, 3) := by decide +kernel
theorem d7_11 : decode prog_33_method_9_code 11 = .ok (.iconst 1, 1) := by decide +kernel
theorem d7_12 : decode prog_33_method_9_code 12 = .ok (.goto 4, 3) := by decide +kernel
theorem d7_15 : decode prog_33_method_9_code 15 = .ok (.iconst 0, 1) := by decide +kernel
theorem d7_16 : decode prog_33_method_9_code 16 = .ok (.ireturn, 1) := by decide +kernel
theorem pn_7 : plainName "com/example/twigmeter/twigmeter/sample/Group" = true := by first | (simp [plainName, overriddenIn]; done) | decide +kernel
theorem ef_7 (m : MethodId) (x0 : Addr) : entryFrame m #[(.ref x0)] 1 = mkF m 0 #[.val (.ref x0)] [] := by first | (simp [entryFrame, mkF, argsToLocals, Value.category]; done) | rfl
def Q7 (Z : State) (ob : Addr) (pp : Int32) (dr : Int32) (h0 : Heap) (n0 : Nat) (v : Option Value) (h : Heap) (L : List Loc) : Prop := v = some (.int (own_eqi dr pp)) ∧ Fr n0 L ∧ h = h0
set_option maxRecDepth 65536 in
set_option maxHeartbeats 40000000 in
theorem rm7 (l : Launch) (Z : State) (a0 : Array Value) (hw : ∀ d ∈ tables_1, d.before a0 Z = true) (ws : List Jvm.Cond) (ob : Addr) (pp : Int32) (dr : Int32) (h0 : Heap) (n0 : Nat) (Z0 : n0 ≤ h0.size) (I0 : Fld Z h0 ob "com/example/twigmeter/twigmeter/sample/Group" "population" "I" (.int pp)) (I1 : Fld Z h0 ob "com/example/twigmeter/twigmeter/sample/Group" "drawn" "I" (.int dr)) :
    MetFree l (⟨"com/example/twigmeter/twigmeter/sample/Group", "isDrawnWhole", "()Z"⟩ : MethodName) (head1 (Jvm.Cond.code (⟨"com/example/twigmeter/twigmeter/sample/Group", "isDrawnWhole", "()Z"⟩ : MethodName) prog_33_method_9_code 1 (some .boolean) :: ws) ({ frames := 0, cells := 0, slots := 0, locals := 0 } : Room)) (fun a U => a = #[(.ref ob)] ∧ Z.Warmed39 U.vm ∧ U.heap = h0) (fun _ _ _ _ _ => True) (fun _ U o U' => ∃ v L, o = .returned v ∧ Q7 Z ob pp dr h0 n0 v U'.heap L ∧ FrameEnd U o U' L ({ frames := 0, cells := 0, slots := 0, locals := 0 } : Room).cells ({ frames := 0, cells := 0, slots := 0, locals := 0 } : Room).slots) := by
  refine MetFree.of_bodySF (plainFor_of_name pn_7) hisR ?_
  intro p e s m args below meth c s₁ Bd hml0 hP hK
  obtain ⟨rfl, hZ, hh⟩ := hP
  have hx := Bd.exec
  have hby := Bd.bytes
  have hml : c.maxLocals = 1 := hml0
  have hown : s.vm.findClass "com/example/twigmeter/twigmeter/sample/Group" = some m.cls := findClass_of_methodNamed Bd.named
  have hnm := (name_of_methodNamed Bd.named Bd.method).1
  have X0 : Stand p l e ({ frames := 0, cells := 0, slots := 0, locals := 0 } : Room) s m #[(.ref ob)] below meth c s₁ [] 0 0 := Stand.of_body Bd
  have e0 : s₁.heap = h0 := by rw [← hh, Bd.state]; rfl
  have N0 := Fr.nil n0
  have K0 : Keep h0 h0 [] := Keep.refl h0 _
  have pre0 : ∀ tq, Steps p.tables e below (s₁.setTop (mkF m 0 #[.val (.ref ob)] [])) tq → Steps p.tables e below (s₁.setTop (entryFrame m #[(.ref ob)] 1)) tq := fun tq kq => castTop (ef_7 m ob) kq
  obtain ⟨T1, X1, e1, st1⟩ := getF X0 hx hZ hown (host := "") (Or.inl (hw _ (List.mem_of_getElem? (i := 41) rfl))) Via.refl e0 I1 (g := (mkF m 1 #[.val (.ref ob)] [(.ref ob)])) rfl rfl (hb hby d7_1)
  obtain ⟨T2, X2, e2, st2⟩ := getF X1 hx hZ hown (host := "") (Or.inl (hw _ (List.mem_of_getElem? (i := 39) rfl))) Via.refl e1 I0 (g := (mkF m 5 #[.val (.ref ob)] [(.ref ob), (.int dr)])) rfl rfl (hb hby d7_5)
  obtain ⟨m16, hm16⟩ : ∃ z_q : Int32, z_q = (if dr = pp then (1 : Int32) else (0 : Int32)) := ⟨_, rfl⟩
  have pre4 : ∀ tq, Steps p.tables e below (T2.setTop (mkF m 16 #[.val (.ref ob)] [(.int m16)])) tq → Steps p.tables e below (s₁.setTop (entryFrame m #[(.ref ob)] 1)) tq := by
    intro tq kt
    refine pre0 _ ?_
    show Steps p.tables e below (s₁.setTop (mkF m 0 #[.val (.ref ob)] [])) _
    refine XS.aloadN X0.here hx rfl (hb hby d7_0) rfl rfl ?_
    show Steps p.tables e below (s₁.setTop (mkF m 1 #[.val (.ref ob)] [(.ref ob)])) _
    refine st1 _ ?_
    show Steps p.tables e below (T1.setTop (mkF m 4 #[.val (.ref ob)] [(.int dr)])) _
    refine XS.aloadN X1.here hx rfl (hb hby d7_4) rfl rfl ?_
    show Steps p.tables e below (T1.setTop (mkF m 5 #[.val (.ref ob)] [(.ref ob), (.int dr)])) _
    refine st2 _ ?_
    by_cases d3 : dr = pp
    · skip
      show Steps p.tables e below (T2.setTop (mkF m 8 #[.val (.ref ob)] [(.int pp), (.int dr)])) _
      refine XS.icmpNo X2.here hx rfl (hb hby d7_8) rfl (teq d3).2 ?_
      show Steps p.tables e below (T2.setTop (mkF m 11 #[.val (.ref ob)] [])) _
      refine XS.iconst X2.here hx rfl (hb hby d7_11) ?_
      show Steps p.tables e below (T2.setTop (mkF m 12 #[.val (.ref ob)] [(.int (1 : Int32))])) _
      refine XS.goto X2.here hx rfl (pc0 := 12) (pc' := 16) rfl (hb hby d7_12) (by decide) (by decide) ?_
      show Steps p.tables e below (T2.setTop (mkF m 16 #[.val (.ref ob)] [(.int (1 : Int32))])) _
      exact castTop (by simp only [hm16, if_pos d3]) kt
    · skip
      show Steps p.tables e below (T2.setTop (mkF m 8 #[.val (.ref ob)] [(.int pp), (.int dr)])) _
      refine XS.icmpYes X2.here hx rfl (pc0 := 8) (pc' := 15) rfl (hb hby d7_8) rfl (feq d3).2 (by decide) (by decide) ?_
      show Steps p.tables e below (T2.setTop (mkF m 15 #[.val (.ref ob)] [])) _
      refine XS.iconst X2.here hx rfl (hb hby d7_15) ?_
      show Steps p.tables e below (T2.setTop (mkF m 16 #[.val (.ref ob)] [(.int (0 : Int32))])) _
      exact castTop (by simp only [hm16, if_neg d3]) kt
  obtain ⟨fs, hr, hrun, hended, hW, hsame⟩ := X2.leave (v := some (Value.int (nar .boolean m16))) (fun h => by rw [Bd.returns] at h; cases h)
  have hres5 : (nar .boolean m16) = (own_eqi dr pp) := by subst_vars; unfold own_eqi; split <;> rfl
  refine ⟨_, _, pre4 _ ?_, hrun, hended, _, _, rfl, ?_, ⟨_, rfl⟩, hW, hsame.mono (by decide) (by decide)⟩
  · skip
    show Steps p.tables e below (T2.setTop (mkF m 16 #[.val (.ref ob)] [(.int m16)])) _
    exact retN X2 hx (t := .boolean) Bd.returns (by simp) (hb hby d7_16) hr
  · show Q7 Z ob pp dr h0 n0 _ T2.heap _
    rw [e2]
    exact ⟨congrArg (fun z => some (Value.int z)) hres5, N0, rfl⟩
theorem pn_0 : plainName "com/example/twigmeter/twigmeter/sample/GroupIsDrawnWholePinLaw" = true := by first | (simp [plainName, overriddenIn]; done) | decide +kernel
theorem pd_3 : parseMethodDescriptor "(C)Ljava/lang/String;" = some ⟨[.char], some (.object "java/lang/String")⟩ := by decide +kernel
theorem pd_4 : parseMethodDescriptor "(ILjava/lang/String;Ljava/lang/String;II)V" = some ⟨[.int, (.object "java/lang/String"), (.object "java/lang/String"), .int, .int], none⟩ := by decide +kernel
theorem pd_5 : parseMethodDescriptor "()Z" = some ⟨[], some .boolean⟩ := by decide +kernel
theorem ef_0 (m : MethodId) (x0 : Int32) (x1 : Int32) (x2 : Int32) (x3 : Int32) (x4 : Int32) (x5 : Int32) : entryFrame m #[(.int x0), (.int x1), (.int x2), (.int x3), (.int x4), (.int x5)] maxLocals = mkF m 0 #[.val (.int x0), .val (.int x1), .val (.int x2), .val (.int x3), .val (.int x4), .val (.int x5), .unset, .unset, .unset, .unset, .unset, .unset] [] := by first | (simp [entryFrame, mkF, argsToLocals, Value.category, maxLocals]; done) | rfl
theorem own_pre_0_89_hcs_t (k1 : Int32) (k2 : Int32) (k3 : Int32) (k4 : Int32) (k5 : Int32) (k6 : Int32) (cs : Int32) (hcs : ¬ (cs = (0 : Int32))) (v3 : Int32) (hv3 : v3 = (k4 &&& (3 : Int32))) (m68_l7 : Int32) (hm68_l7 : m68_l7 = (if v3 = (0 : Int32) then k2 else (if v3 = (1 : Int32) then (k2 - (1 : Int32)) else (if v3 = (2 : Int32) then (k2 + (1 : Int32)) else k3)))) (m68_l8 : Int32) (hm68_l8 : m68_l8 = (if v3 = (0 : Int32) then (1 : Int32) else (if v3 = (1 : Int32) then (0 : Int32) else (if v3 = (2 : Int32) then (0 : Int32) else (if k3 = k2 then (1 : Int32) else (0 : Int32)))))) (hc74_7 : (k5 &&& (256 : Int32)) = (0 : Int32)) : ¬ (cs = (0 : Int32)) := hcs
theorem own_pre_0_89_hch_t (k1 : Int32) (k2 : Int32) (k3 : Int32) (k4 : Int32) (k5 : Int32) (k6 : Int32) (cs : Int32) (hcs : ¬ (cs = (0 : Int32))) (v3 : Int32) (hv3 : v3 = (k4 &&& (3 : Int32))) (m68_l7 : Int32) (hm68_l7 : m68_l7 = (if v3 = (0 : Int32) then k2 else (if v3 = (1 : Int32) then (k2 - (1 : Int32)) else (if v3 = (2 : Int32) then (k2 + (1 : Int32)) else k3)))) (m68_l8 : Int32) (hm68_l8 : m68_l8 = (if v3 = (0 : Int32) then (1 : Int32) else (if v3 = (1 : Int32) then (0 : Int32) else (if v3 = (2 : Int32) then (0 : Int32) else (if k3 = k2 then (1 : Int32) else (0 : Int32)))))) (hc74_7 : (k5 &&& (256 : Int32)) = (0 : Int32)) (hp8_hcs : ¬ (cs = (0 : Int32))) : ¬ ((255 : Int32) < ((k5 &&& (255 : Int32)).toUInt32.toUInt16.toUInt32.toInt32)) := own_chr k5
theorem own_pre_0_101_hcs_t (k1 : Int32) (k2 : Int32) (k3 : Int32) (k4 : Int32) (k5 : Int32) (k6 : Int32) (cs : Int32) (hcs : ¬ (cs = (0 : Int32))) (v3 : Int32) (hv3 : v3 = (k4 &&& (3 : Int32))) (m68_l7 : Int32) (hm68_l7 : m68_l7 = (if v3 = (0 : Int32) then k2 else (if v3 = (1 : Int32) then (k2 - (1 : Int32)) else (if v3 = (2 : Int32) then (k2 + (1 : Int32)) else k3)))) (m68_l8 : Int32) (hm68_l8 : m68_l8 = (if v3 = (0 : Int32) then (1 : Int32) else (if v3 = (1 : Int32) then (0 : Int32) else (if v3 = (2 : Int32) then (0 : Int32) else (if k3 = k2 then (1 : Int32) else (0 : Int32)))))) (hc74_7 : (k5 &&& (256 : Int32)) = (0 : Int32)) (hp8_hcs : ¬ (cs = (0 : Int32))) (hp8_hch : ¬ ((255 : Int32) < ((k5 &&& (255 : Int32)).toUInt32.toUInt16.toUInt32.toInt32))) : ¬ (cs = (0 : Int32)) := hcs
theorem own_pre_0_101_hch_t (k1 : Int32) (k2 : Int32) (k3 : Int32) (k4 : Int32) (k5 : Int32) (k6 : Int32) (cs : Int32) (hcs : ¬ (cs = (0 : Int32))) (v3 : Int32) (hv3 : v3 = (k4 &&& (3 : Int32))) (m68_l7 : Int32) (hm68_l7 : m68_l7 = (if v3 = (0 : Int32) then k2 else (if v3 = (1 : Int32) then (k2 - (1 : Int32)) else (if v3 = (2 : Int32) then (k2 + (1 : Int32)) else k3)))) (m68_l8 : Int32) (hm68_l8 : m68_l8 = (if v3 = (0 : Int32) then (1 : Int32) else (if v3 = (1 : Int32) then (0 : Int32) else (if v3 = (2 : Int32) then (0 : Int32) else (if k3 = k2 then (1 : Int32) else (0 : Int32)))))) (hc74_7 : (k5 &&& (256 : Int32)) = (0 : Int32)) (hp8_hcs : ¬ (cs = (0 : Int32))) (hp8_hch : ¬ ((255 : Int32) < ((k5 &&& (255 : Int32)).toUInt32.toUInt16.toUInt32.toInt32))) (hp14_hcs : ¬ (cs = (0 : Int32))) : ¬ ((255 : Int32) < ((k6 &&& (255 : Int32)).toUInt32.toUInt16.toUInt32.toInt32)) := own_chr k6
theorem own_leaf_0_138_t (k1 : Int32) (k2 : Int32) (k3 : Int32) (k4 : Int32) (k5 : Int32) (k6 : Int32) (cs : Int32) (hcs : ¬ (cs = (0 : Int32))) (v3 : Int32) (hv3 : v3 = (k4 &&& (3 : Int32))) (m68_l7 : Int32) (hm68_l7 : m68_l7 = (if v3 = (0 : Int32) then k2 else (if v3 = (1 : Int32) then (k2 - (1 : Int32)) else (if v3 = (2 : Int32) then (k2 + (1 : Int32)) else k3)))) (m68_l8 : Int32) (hm68_l8 : m68_l8 = (if v3 = (0 : Int32) then (1 : Int32) else (if v3 = (1 : Int32) then (0 : Int32) else (if v3 = (2 : Int32) then (0 : Int32) else (if k3 = k2 then (1 : Int32) else (0 : Int32)))))) (hc74_7 : (k5 &&& (256 : Int32)) = (0 : Int32)) (hp8_hcs : ¬ (cs = (0 : Int32))) (hp8_hch : ¬ ((255 : Int32) < ((k5 &&& (255 : Int32)).toUInt32.toUInt16.toUInt32.toInt32))) (hp14_hcs : ¬ (cs = (0 : Int32))) (hp14_hch : ¬ ((255 : Int32) < ((k6 &&& (255 : Int32)).toUInt32.toUInt16.toUInt32.toInt32))) (r125 : Int32) (hr125 : r125 = (own_eqi m68_l7 k2)) (m138 : Int32) (hm138 : m138 = (if r125 = m68_l8 then (1 : Int32) else (0 : Int32))) : (nar .boolean m138) = (1 : Int32) := by
  rw [hm138, hr125, hm68_l7, own_law, ← hm68_l8, if_pos rfl]; rfl
theorem own_pre_0_101_hcs_f (k1 : Int32) (k2 : Int32) (k3 : Int32) (k4 : Int32) (k5 : Int32) (k6 : Int32) (cs : Int32) (hcs : ¬ (cs = (0 : Int32))) (v3 : Int32) (hv3 : v3 = (k4 &&& (3 : Int32))) (m68_l7 : Int32) (hm68_l7 : m68_l7 = (if v3 = (0 : Int32) then k2 else (if v3 = (1 : Int32) then (k2 - (1 : Int32)) else (if v3 = (2 : Int32) then (k2 + (1 : Int32)) else k3)))) (m68_l8 : Int32) (hm68_l8 : m68_l8 = (if v3 = (0 : Int32) then (1 : Int32) else (if v3 = (1 : Int32) then (0 : Int32) else (if v3 = (2 : Int32) then (0 : Int32) else (if k3 = k2 then (1 : Int32) else (0 : Int32)))))) (hc74_7 : ¬ ((k5 &&& (256 : Int32)) = (0 : Int32))) : ¬ (cs = (0 : Int32)) := hcs
theorem own_pre_0_101_hch_f (k1 : Int32) (k2 : Int32) (k3 : Int32) (k4 : Int32) (k5 : Int32) (k6 : Int32) (cs : Int32) (hcs : ¬ (cs = (0 : Int32))) (v3 : Int32) (hv3 : v3 = (k4 &&& (3 : Int32))) (m68_l7 : Int32) (hm68_l7 : m68_l7 = (if v3 = (0 : Int32) then k2 else (if v3 = (1 : Int32) then (k2 - (1 : Int32)) else (if v3 = (2 : Int32) then (k2 + (1 : Int32)) else k3)))) (m68_l8 : Int32) (hm68_l8 : m68_l8 = (if v3 = (0 : Int32) then (1 : Int32) else (if v3 = (1 : Int32) then (0 : Int32) else (if v3 = (2 : Int32) then (0 : Int32) else (if k3 = k2 then (1 : Int32) else (0 : Int32)))))) (hc74_7 : ¬ ((k5 &&& (256 : Int32)) = (0 : Int32))) (hp52_hcs : ¬ (cs = (0 : Int32))) : ¬ ((255 : Int32) < ((k6 &&& (255 : Int32)).toUInt32.toUInt16.toUInt32.toInt32)) := own_chr k6
theorem own_leaf_0_138_f (k1 : Int32) (k2 : Int32) (k3 : Int32) (k4 : Int32) (k5 : Int32) (k6 : Int32) (cs : Int32) (hcs : ¬ (cs = (0 : Int32))) (v3 : Int32) (hv3 : v3 = (k4 &&& (3 : Int32))) (m68_l7 : Int32) (hm68_l7 : m68_l7 = (if v3 = (0 : Int32) then k2 else (if v3 = (1 : Int32) then (k2 - (1 : Int32)) else (if v3 = (2 : Int32) then (k2 + (1 : Int32)) else k3)))) (m68_l8 : Int32) (hm68_l8 : m68_l8 = (if v3 = (0 : Int32) then (1 : Int32) else (if v3 = (1 : Int32) then (0 : Int32) else (if v3 = (2 : Int32) then (0 : Int32) else (if k3 = k2 then (1 : Int32) else (0 : Int32)))))) (hc74_7 : ¬ ((k5 &&& (256 : Int32)) = (0 : Int32))) (hp52_hcs : ¬ (cs = (0 : Int32))) (hp52_hch : ¬ ((255 : Int32) < ((k6 &&& (255 : Int32)).toUInt32.toUInt16.toUInt32.toInt32))) (r125 : Int32) (hr125 : r125 = (own_eqi m68_l7 k2)) (m138 : Int32) (hm138 : m138 = (if r125 = m68_l8 then (1 : Int32) else (0 : Int32))) : (nar .boolean m138) = (1 : Int32) := by
  rw [hm138, hr125, hm68_l7, own_law, ← hm68_l8, if_pos rfl]; rfl
def Q0 (Z : State) (k1 : Int32) (k2 : Int32) (k3 : Int32) (k4 : Int32) (k5 : Int32) (k6 : Int32) (cs : Int32) (h0 : Heap) (n0 : Nat) (v : Option Value) (h : Heap) (L : List Loc) : Prop := v = some (.int (1 : Int32)) ∧ Fr n0 L
set_option maxRecDepth 65536 in
set_option maxHeartbeats 40000000 in
theorem rm0 (l : Launch) (Z : State) (a0 : Array Value) (hw : ∀ d ∈ tables_1, d.before a0 Z = true) (ws : List Jvm.Cond) (k1 : Int32) (k2 : Int32) (k3 : Int32) (k4 : Int32) (k5 : Int32) (k6 : Int32) (cs : Int32) (h0 : Heap) (n0 : Nat) (Z0 : n0 ≤ h0.size) (I0 : Sta Z h0 "java/lang/String" "COMPACT_STRINGS" "Z" (.int cs)) (hcs : ¬ (cs = (0 : Int32))) :
    MetFree l x (head1 (Jvm.Cond.code x code maxLocals ret :: ws) room_1) (fun a U => a = #[(.int k1), (.int k2), (.int k3), (.int k4), (.int k5), (.int k6)] ∧ Z.Warmed39 U.vm ∧ U.heap = h0) (fun _ _ _ _ _ => True) (fun _ U o U' => ∃ v L, o = .returned v ∧ Q0 Z k1 k2 k3 k4 k5 k6 cs h0 n0 v U'.heap L ∧ FrameWide U o U' L room_1.cells room_1.slots) := by
  refine MetFree.of_bodySF (plainFor_of_name pn_0) hisR ?_
  intro p e s m args below meth c s₁ Bd hml0 hP hK
  obtain ⟨rfl, hZ, hh⟩ := hP
  have hx := Bd.exec
  have hby := Bd.bytes
  have hml : c.maxLocals = 12 := hml0
  have hown : s.vm.findClass "com/example/twigmeter/twigmeter/sample/GroupIsDrawnWholePinLaw" = some m.cls := findClass_of_methodNamed Bd.named
  have hnm := (name_of_methodNamed Bd.named Bd.method).1
  have X0 : Stand p l e room_1 s m #[(.int k1), (.int k2), (.int k3), (.int k4), (.int k5), (.int k6)] below meth c s₁ [] 0 0 := Stand.of_body Bd
  have e0 : s₁.heap = h0 := by rw [← hh, Bd.state]; rfl
  have N0 := Fr.nil n0
  have K0 : Keep h0 h0 [] := Keep.refl h0 _
  have hS : s.Since s.vm 0 := (State.WarmedH.refl s).since 0
  have wS : ∀ d ∈ Bundle.stringAtoms, d.before a0 Z = true := by
    intro d hd
    simp only [Bundle.stringAtoms, List.mem_cons, List.not_mem_nil, or_false] at hd
    rcases hd with rfl | rfl | rfl | rfl | rfl | rfl | rfl
    · exact (hw _ (List.mem_of_getElem? (i := 2) rfl))
    · exact (hw _ (List.mem_of_getElem? (i := 10) rfl))
    · exact (hw _ (List.mem_of_getElem? (i := 14) rfl))
    · exact (hw _ (List.mem_of_getElem? (i := 23) rfl))
    · exact (hw _ (List.mem_of_getElem? (i := 25) rfl))
    · exact (hw _ (List.mem_of_getElem? (i := 49) rfl))
    · exact (hw _ (List.mem_of_getElem? (i := 50) rfl))
  have pre0 : ∀ tq, Steps p.tables e below (s₁.setTop (mkF m 0 #[.val (.int k1), .val (.int k2), .val (.int k3), .val (.int k4), .val (.int k5), .val (.int k6), .unset, .unset, .unset, .unset, .unset, .unset] [])) tq → Steps p.tables e below (s₁.setTop (entryFrame m #[(.int k1), (.int k2), (.int k3), (.int k4), (.int k5), (.int k6)] maxLocals)) tq := fun tq kq => castTop (ef_0 m k1 k2 k3 k4 k5 k6) kq
  obtain ⟨v3, hv3⟩ : ∃ z_q : Int32, z_q = (k4 &&& (3 : Int32)) := ⟨_, rfl⟩
  obtain ⟨m68_l7, hm68_l7⟩ : ∃ z_q : Int32, z_q = (if v3 = (0 : Int32) then k2 else (if v3 = (1 : Int32) then (k2 - (1 : Int32)) else (if v3 = (2 : Int32) then (k2 + (1 : Int32)) else k3))) := ⟨_, rfl⟩
  obtain ⟨m68_l8, hm68_l8⟩ : ∃ z_q : Int32, z_q = (if v3 = (0 : Int32) then (1 : Int32) else (if v3 = (1 : Int32) then (0 : Int32) else (if v3 = (2 : Int32) then (0 : Int32) else (if k3 = k2 then (1 : Int32) else (0 : Int32))))) := ⟨_, rfl⟩
  have pre5 : ∀ tq, Steps p.tables e below (s₁.setTop (mkF m 68 #[.val (.int k1), .val (.int k2), .val (.int k3), .val (.int k4), .val (.int k5), .val (.int k6), .val (.int v3), .val (.int m68_l7), .val (.int m68_l8), .unset, .unset, .unset] [])) tq → Steps p.tables e below (s₁.setTop (entryFrame m #[(.int k1), (.int k2), (.int k3), (.int k4), (.int k5), (.int k6)] maxLocals)) tq := by
    intro tq kt
    refine pre0 _ ?_
    show Steps p.tables e below (s₁.setTop (mkF m 0 #[.val (.int k1), .val (.int k2), .val (.int k3), .val (.int k4), .val (.int k5), .val (.int k6), .unset, .unset, .unset, .unset, .unset, .unset] [])) _
    refine XS.iloadN X0.here hx rfl (hb hby at_0) rfl ?_
    show Steps p.tables e below (s₁.setTop (mkF m 1 #[.val (.int k1), .val (.int k2), .val (.int k3), .val (.int k4), .val (.int k5), .val (.int k6), .unset, .unset, .unset, .unset, .unset, .unset] [(.int k4)])) _
    refine XS.iconst X0.here hx rfl (hb hby at_1) ?_
    show Steps p.tables e below (s₁.setTop (mkF m 2 #[.val (.int k1), .val (.int k2), .val (.int k3), .val (.int k4), .val (.int k5), .val (.int k6), .unset, .unset, .unset, .unset, .unset, .unset] [(.int (3 : Int32)), (.int k4)])) _
    refine XS.iand X0.here hx rfl (hb hby at_2) rfl ?_
    show Steps p.tables e below (s₁.setTop (mkF m 3 #[.val (.int k1), .val (.int k2), .val (.int k3), .val (.int k4), .val (.int k5), .val (.int k6), .unset, .unset, .unset, .unset, .unset, .unset] [(.int (k4 &&& (3 : Int32)))])) _
    refine XS.istore X0.here hx rfl (hb hby at_3) rfl (l' := #[.val (.int k1), .val (.int k2), .val (.int k3), .val (.int k4), .val (.int k5), .val (.int k6), .val (.int v3), .unset, .unset, .unset, .unset, .unset]) (by rw [hv3]; rfl) ?_
    show Steps p.tables e below (s₁.setTop (mkF m 5 #[.val (.int k1), .val (.int k2), .val (.int k3), .val (.int k4), .val (.int k5), .val (.int k6), .val (.int v3), .unset, .unset, .unset, .unset, .unset] [])) _
    refine XS.iload X0.here hx rfl (hb hby at_5) rfl ?_
    by_cases d1 : v3 = (0 : Int32)
    · skip
      show Steps p.tables e below (s₁.setTop (mkF m 7 #[.val (.int k1), .val (.int k2), .val (.int k3), .val (.int k4), .val (.int k5), .val (.int k6), .val (.int v3), .unset, .unset, .unset, .unset, .unset] [(.int v3)])) _
      refine XS.ifNo X0.here hx rfl (hb hby at_7) rfl ((if0 _ _).trans (teq d1).2) ?_
      show Steps p.tables e below (s₁.setTop (mkF m 10 #[.val (.int k1), .val (.int k2), .val (.int k3), .val (.int k4), .val (.int k5), .val (.int k6), .val (.int v3), .unset, .unset, .unset, .unset, .unset] [])) _
      refine XS.iloadN X0.here hx rfl (hb hby at_10) rfl ?_
      show Steps p.tables e below (s₁.setTop (mkF m 11 #[.val (.int k1), .val (.int k2), .val (.int k3), .val (.int k4), .val (.int k5), .val (.int k6), .val (.int v3), .unset, .unset, .unset, .unset, .unset] [(.int k2)])) _
      refine XS.istore X0.here hx rfl (hb hby at_11) rfl (l' := #[.val (.int k1), .val (.int k2), .val (.int k3), .val (.int k4), .val (.int k5), .val (.int k6), .val (.int v3), .val (.int k2), .unset, .unset, .unset, .unset]) rfl ?_
      show Steps p.tables e below (s₁.setTop (mkF m 13 #[.val (.int k1), .val (.int k2), .val (.int k3), .val (.int k4), .val (.int k5), .val (.int k6), .val (.int v3), .val (.int k2), .unset, .unset, .unset, .unset] [])) _
      refine XS.iconst X0.here hx rfl (hb hby at_13) ?_
      show Steps p.tables e below (s₁.setTop (mkF m 14 #[.val (.int k1), .val (.int k2), .val (.int k3), .val (.int k4), .val (.int k5), .val (.int k6), .val (.int v3), .val (.int k2), .unset, .unset, .unset, .unset] [(.int (1 : Int32))])) _
      refine XS.istore X0.here hx rfl (hb hby at_14) rfl (l' := #[.val (.int k1), .val (.int k2), .val (.int k3), .val (.int k4), .val (.int k5), .val (.int k6), .val (.int v3), .val (.int k2), .val (.int (1 : Int32)), .unset, .unset, .unset]) rfl ?_
      show Steps p.tables e below (s₁.setTop (mkF m 16 #[.val (.int k1), .val (.int k2), .val (.int k3), .val (.int k4), .val (.int k5), .val (.int k6), .val (.int v3), .val (.int k2), .val (.int (1 : Int32)), .unset, .unset, .unset] [])) _
      refine XS.goto X0.here hx rfl (pc0 := 16) (pc' := 68) rfl (hb hby at_16) (by decide) (by decide) ?_
      show Steps p.tables e below (s₁.setTop (mkF m 68 #[.val (.int k1), .val (.int k2), .val (.int k3), .val (.int k4), .val (.int k5), .val (.int k6), .val (.int v3), .val (.int k2), .val (.int (1 : Int32)), .unset, .unset, .unset] [])) _
      exact castTop (by simp only [hm68_l7, hm68_l8, if_pos d1]) kt
    · skip
      show Steps p.tables e below (s₁.setTop (mkF m 7 #[.val (.int k1), .val (.int k2), .val (.int k3), .val (.int k4), .val (.int k5), .val (.int k6), .val (.int v3), .unset, .unset, .unset, .unset, .unset] [(.int v3)])) _
      refine XS.ifYes X0.here hx rfl (pc0 := 7) (pc' := 19) rfl (hb hby at_7) rfl ((if0 _ _).trans (feq d1).2) (by decide) (by decide) ?_
      show Steps p.tables e below (s₁.setTop (mkF m 19 #[.val (.int k1), .val (.int k2), .val (.int k3), .val (.int k4), .val (.int k5), .val (.int k6), .val (.int v3), .unset, .unset, .unset, .unset, .unset] [])) _
      refine XS.iload X0.here hx rfl (hb hby at_19) rfl ?_
      show Steps p.tables e below (s₁.setTop (mkF m 21 #[.val (.int k1), .val (.int k2), .val (.int k3), .val (.int k4), .val (.int k5), .val (.int k6), .val (.int v3), .unset, .unset, .unset, .unset, .unset] [(.int v3)])) _
      refine XS.iconst X0.here hx rfl (hb hby at_21) ?_
      by_cases d2 : v3 = (1 : Int32)
      · skip
        show Steps p.tables e below (s₁.setTop (mkF m 22 #[.val (.int k1), .val (.int k2), .val (.int k3), .val (.int k4), .val (.int k5), .val (.int k6), .val (.int v3), .unset, .unset, .unset, .unset, .unset] [(.int (1 : Int32)), (.int v3)])) _
        refine XS.icmpNo X0.here hx rfl (hb hby at_22) rfl (teq d2).2 ?_
        show Steps p.tables e below (s₁.setTop (mkF m 25 #[.val (.int k1), .val (.int k2), .val (.int k3), .val (.int k4), .val (.int k5), .val (.int k6), .val (.int v3), .unset, .unset, .unset, .unset, .unset] [])) _
        refine XS.iloadN X0.here hx rfl (hb hby at_25) rfl ?_
        show Steps p.tables e below (s₁.setTop (mkF m 26 #[.val (.int k1), .val (.int k2), .val (.int k3), .val (.int k4), .val (.int k5), .val (.int k6), .val (.int v3), .unset, .unset, .unset, .unset, .unset] [(.int k2)])) _
        refine XS.iconst X0.here hx rfl (hb hby at_26) ?_
        show Steps p.tables e below (s₁.setTop (mkF m 27 #[.val (.int k1), .val (.int k2), .val (.int k3), .val (.int k4), .val (.int k5), .val (.int k6), .val (.int v3), .unset, .unset, .unset, .unset, .unset] [(.int (1 : Int32)), (.int k2)])) _
        refine XS.isub X0.here hx rfl (hb hby at_27) rfl ?_
        show Steps p.tables e below (s₁.setTop (mkF m 28 #[.val (.int k1), .val (.int k2), .val (.int k3), .val (.int k4), .val (.int k5), .val (.int k6), .val (.int v3), .unset, .unset, .unset, .unset, .unset] [(.int (k2 - (1 : Int32)))])) _
        refine XS.istore X0.here hx rfl (hb hby at_28) rfl (l' := #[.val (.int k1), .val (.int k2), .val (.int k3), .val (.int k4), .val (.int k5), .val (.int k6), .val (.int v3), .val (.int (k2 - (1 : Int32))), .unset, .unset, .unset, .unset]) rfl ?_
        show Steps p.tables e below (s₁.setTop (mkF m 30 #[.val (.int k1), .val (.int k2), .val (.int k3), .val (.int k4), .val (.int k5), .val (.int k6), .val (.int v3), .val (.int (k2 - (1 : Int32))), .unset, .unset, .unset, .unset] [])) _
        refine XS.iconst X0.here hx rfl (hb hby at_30) ?_
        show Steps p.tables e below (s₁.setTop (mkF m 31 #[.val (.int k1), .val (.int k2), .val (.int k3), .val (.int k4), .val (.int k5), .val (.int k6), .val (.int v3), .val (.int (k2 - (1 : Int32))), .unset, .unset, .unset, .unset] [(.int (0 : Int32))])) _
        refine XS.istore X0.here hx rfl (hb hby at_31) rfl (l' := #[.val (.int k1), .val (.int k2), .val (.int k3), .val (.int k4), .val (.int k5), .val (.int k6), .val (.int v3), .val (.int (k2 - (1 : Int32))), .val (.int (0 : Int32)), .unset, .unset, .unset]) rfl ?_
        show Steps p.tables e below (s₁.setTop (mkF m 33 #[.val (.int k1), .val (.int k2), .val (.int k3), .val (.int k4), .val (.int k5), .val (.int k6), .val (.int v3), .val (.int (k2 - (1 : Int32))), .val (.int (0 : Int32)), .unset, .unset, .unset] [])) _
        refine XS.goto X0.here hx rfl (pc0 := 33) (pc' := 68) rfl (hb hby at_33) (by decide) (by decide) ?_
        show Steps p.tables e below (s₁.setTop (mkF m 68 #[.val (.int k1), .val (.int k2), .val (.int k3), .val (.int k4), .val (.int k5), .val (.int k6), .val (.int v3), .val (.int (k2 - (1 : Int32))), .val (.int (0 : Int32)), .unset, .unset, .unset] [])) _
        exact castTop (by simp only [hm68_l7, hm68_l8, if_neg d1, if_pos d2]) kt
      · skip
        show Steps p.tables e below (s₁.setTop (mkF m 22 #[.val (.int k1), .val (.int k2), .val (.int k3), .val (.int k4), .val (.int k5), .val (.int k6), .val (.int v3), .unset, .unset, .unset, .unset, .unset] [(.int (1 : Int32)), (.int v3)])) _
        refine XS.icmpYes X0.here hx rfl (pc0 := 22) (pc' := 36) rfl (hb hby at_22) rfl (feq d2).2 (by decide) (by decide) ?_
        show Steps p.tables e below (s₁.setTop (mkF m 36 #[.val (.int k1), .val (.int k2), .val (.int k3), .val (.int k4), .val (.int k5), .val (.int k6), .val (.int v3), .unset, .unset, .unset, .unset, .unset] [])) _
        refine XS.iload X0.here hx rfl (hb hby at_36) rfl ?_
        show Steps p.tables e below (s₁.setTop (mkF m 38 #[.val (.int k1), .val (.int k2), .val (.int k3), .val (.int k4), .val (.int k5), .val (.int k6), .val (.int v3), .unset, .unset, .unset, .unset, .unset] [(.int v3)])) _
        refine XS.iconst X0.here hx rfl (hb hby at_38) ?_
        by_cases d3 : v3 = (2 : Int32)
        · skip
          show Steps p.tables e below (s₁.setTop (mkF m 39 #[.val (.int k1), .val (.int k2), .val (.int k3), .val (.int k4), .val (.int k5), .val (.int k6), .val (.int v3), .unset, .unset, .unset, .unset, .unset] [(.int (2 : Int32)), (.int v3)])) _
          refine XS.icmpNo X0.here hx rfl (hb hby at_39) rfl (teq d3).2 ?_
          show Steps p.tables e below (s₁.setTop (mkF m 42 #[.val (.int k1), .val (.int k2), .val (.int k3), .val (.int k4), .val (.int k5), .val (.int k6), .val (.int v3), .unset, .unset, .unset, .unset, .unset] [])) _
          refine XS.iloadN X0.here hx rfl (hb hby at_42) rfl ?_
          show Steps p.tables e below (s₁.setTop (mkF m 43 #[.val (.int k1), .val (.int k2), .val (.int k3), .val (.int k4), .val (.int k5), .val (.int k6), .val (.int v3), .unset, .unset, .unset, .unset, .unset] [(.int k2)])) _
          refine XS.iconst X0.here hx rfl (hb hby at_43) ?_
          show Steps p.tables e below (s₁.setTop (mkF m 44 #[.val (.int k1), .val (.int k2), .val (.int k3), .val (.int k4), .val (.int k5), .val (.int k6), .val (.int v3), .unset, .unset, .unset, .unset, .unset] [(.int (1 : Int32)), (.int k2)])) _
          refine XS.iadd X0.here hx rfl (hb hby at_44) rfl ?_
          show Steps p.tables e below (s₁.setTop (mkF m 45 #[.val (.int k1), .val (.int k2), .val (.int k3), .val (.int k4), .val (.int k5), .val (.int k6), .val (.int v3), .unset, .unset, .unset, .unset, .unset] [(.int (k2 + (1 : Int32)))])) _
          refine XS.istore X0.here hx rfl (hb hby at_45) rfl (l' := #[.val (.int k1), .val (.int k2), .val (.int k3), .val (.int k4), .val (.int k5), .val (.int k6), .val (.int v3), .val (.int (k2 + (1 : Int32))), .unset, .unset, .unset, .unset]) rfl ?_
          show Steps p.tables e below (s₁.setTop (mkF m 47 #[.val (.int k1), .val (.int k2), .val (.int k3), .val (.int k4), .val (.int k5), .val (.int k6), .val (.int v3), .val (.int (k2 + (1 : Int32))), .unset, .unset, .unset, .unset] [])) _
          refine XS.iconst X0.here hx rfl (hb hby at_47) ?_
          show Steps p.tables e below (s₁.setTop (mkF m 48 #[.val (.int k1), .val (.int k2), .val (.int k3), .val (.int k4), .val (.int k5), .val (.int k6), .val (.int v3), .val (.int (k2 + (1 : Int32))), .unset, .unset, .unset, .unset] [(.int (0 : Int32))])) _
          refine XS.istore X0.here hx rfl (hb hby at_48) rfl (l' := #[.val (.int k1), .val (.int k2), .val (.int k3), .val (.int k4), .val (.int k5), .val (.int k6), .val (.int v3), .val (.int (k2 + (1 : Int32))), .val (.int (0 : Int32)), .unset, .unset, .unset]) rfl ?_
          show Steps p.tables e below (s₁.setTop (mkF m 50 #[.val (.int k1), .val (.int k2), .val (.int k3), .val (.int k4), .val (.int k5), .val (.int k6), .val (.int v3), .val (.int (k2 + (1 : Int32))), .val (.int (0 : Int32)), .unset, .unset, .unset] [])) _
          refine XS.goto X0.here hx rfl (pc0 := 50) (pc' := 68) rfl (hb hby at_50) (by decide) (by decide) ?_
          show Steps p.tables e below (s₁.setTop (mkF m 68 #[.val (.int k1), .val (.int k2), .val (.int k3), .val (.int k4), .val (.int k5), .val (.int k6), .val (.int v3), .val (.int (k2 + (1 : Int32))), .val (.int (0 : Int32)), .unset, .unset, .unset] [])) _
          exact castTop (by simp only [hm68_l7, hm68_l8, if_neg d1, if_neg d2, if_pos d3]) kt
        · skip
          show Steps p.tables e below (s₁.setTop (mkF m 39 #[.val (.int k1), .val (.int k2), .val (.int k3), .val (.int k4), .val (.int k5), .val (.int k6), .val (.int v3), .unset, .unset, .unset, .unset, .unset] [(.int (2 : Int32)), (.int v3)])) _
          refine XS.icmpYes X0.here hx rfl (pc0 := 39) (pc' := 53) rfl (hb hby at_39) rfl (feq d3).2 (by decide) (by decide) ?_
          show Steps p.tables e below (s₁.setTop (mkF m 53 #[.val (.int k1), .val (.int k2), .val (.int k3), .val (.int k4), .val (.int k5), .val (.int k6), .val (.int v3), .unset, .unset, .unset, .unset, .unset] [])) _
          refine XS.iloadN X0.here hx rfl (hb hby at_53) rfl ?_
          show Steps p.tables e below (s₁.setTop (mkF m 54 #[.val (.int k1), .val (.int k2), .val (.int k3), .val (.int k4), .val (.int k5), .val (.int k6), .val (.int v3), .unset, .unset, .unset, .unset, .unset] [(.int k3)])) _
          refine XS.istore X0.here hx rfl (hb hby at_54) rfl (l' := #[.val (.int k1), .val (.int k2), .val (.int k3), .val (.int k4), .val (.int k5), .val (.int k6), .val (.int v3), .val (.int k3), .unset, .unset, .unset, .unset]) rfl ?_
          show Steps p.tables e below (s₁.setTop (mkF m 56 #[.val (.int k1), .val (.int k2), .val (.int k3), .val (.int k4), .val (.int k5), .val (.int k6), .val (.int v3), .val (.int k3), .unset, .unset, .unset, .unset] [])) _
          refine XS.iloadN X0.here hx rfl (hb hby at_56) rfl ?_
          show Steps p.tables e below (s₁.setTop (mkF m 57 #[.val (.int k1), .val (.int k2), .val (.int k3), .val (.int k4), .val (.int k5), .val (.int k6), .val (.int v3), .val (.int k3), .unset, .unset, .unset, .unset] [(.int k3)])) _
          refine XS.iloadN X0.here hx rfl (hb hby at_57) rfl ?_
          by_cases d4 : k3 = k2
          · skip
            show Steps p.tables e below (s₁.setTop (mkF m 58 #[.val (.int k1), .val (.int k2), .val (.int k3), .val (.int k4), .val (.int k5), .val (.int k6), .val (.int v3), .val (.int k3), .unset, .unset, .unset, .unset] [(.int k2), (.int k3)])) _
            refine XS.icmpNo X0.here hx rfl (hb hby at_58) rfl (teq d4).2 ?_
            show Steps p.tables e below (s₁.setTop (mkF m 61 #[.val (.int k1), .val (.int k2), .val (.int k3), .val (.int k4), .val (.int k5), .val (.int k6), .val (.int v3), .val (.int k3), .unset, .unset, .unset, .unset] [])) _
            refine XS.iconst X0.here hx rfl (hb hby at_61) ?_
            show Steps p.tables e below (s₁.setTop (mkF m 62 #[.val (.int k1), .val (.int k2), .val (.int k3), .val (.int k4), .val (.int k5), .val (.int k6), .val (.int v3), .val (.int k3), .unset, .unset, .unset, .unset] [(.int (1 : Int32))])) _
            refine XS.goto X0.here hx rfl (pc0 := 62) (pc' := 66) rfl (hb hby at_62) (by decide) (by decide) ?_
            show Steps p.tables e below (s₁.setTop (mkF m 66 #[.val (.int k1), .val (.int k2), .val (.int k3), .val (.int k4), .val (.int k5), .val (.int k6), .val (.int v3), .val (.int k3), .unset, .unset, .unset, .unset] [(.int (1 : Int32))])) _
            refine XS.istore X0.here hx rfl (hb hby at_66) rfl (l' := #[.val (.int k1), .val (.int k2), .val (.int k3), .val (.int k4), .val (.int k5), .val (.int k6), .val (.int v3), .val (.int k3), .val (.int (1 : Int32)), .unset, .unset, .unset]) rfl ?_
            show Steps p.tables e below (s₁.setTop (mkF m 68 #[.val (.int k1), .val (.int k2), .val (.int k3), .val (.int k4), .val (.int k5), .val (.int k6), .val (.int v3), .val (.int k3), .val (.int (1 : Int32)), .unset, .unset, .unset] [])) _
            exact castTop (by simp only [hm68_l7, hm68_l8, if_neg d1, if_neg d2, if_neg d3, if_pos d4]) kt
          · skip
            show Steps p.tables e below (s₁.setTop (mkF m 58 #[.val (.int k1), .val (.int k2), .val (.int k3), .val (.int k4), .val (.int k5), .val (.int k6), .val (.int v3), .val (.int k3), .unset, .unset, .unset, .unset] [(.int k2), (.int k3)])) _
            refine XS.icmpYes X0.here hx rfl (pc0 := 58) (pc' := 65) rfl (hb hby at_58) rfl (feq d4).2 (by decide) (by decide) ?_
            show Steps p.tables e below (s₁.setTop (mkF m 65 #[.val (.int k1), .val (.int k2), .val (.int k3), .val (.int k4), .val (.int k5), .val (.int k6), .val (.int v3), .val (.int k3), .unset, .unset, .unset, .unset] [])) _
            refine XS.iconst X0.here hx rfl (hb hby at_65) ?_
            show Steps p.tables e below (s₁.setTop (mkF m 66 #[.val (.int k1), .val (.int k2), .val (.int k3), .val (.int k4), .val (.int k5), .val (.int k6), .val (.int v3), .val (.int k3), .unset, .unset, .unset, .unset] [(.int (0 : Int32))])) _
            refine XS.istore X0.here hx rfl (hb hby at_66) rfl (l' := #[.val (.int k1), .val (.int k2), .val (.int k3), .val (.int k4), .val (.int k5), .val (.int k6), .val (.int v3), .val (.int k3), .val (.int (0 : Int32)), .unset, .unset, .unset]) rfl ?_
            show Steps p.tables e below (s₁.setTop (mkF m 68 #[.val (.int k1), .val (.int k2), .val (.int k3), .val (.int k4), .val (.int k5), .val (.int k6), .val (.int v3), .val (.int k3), .val (.int (0 : Int32)), .unset, .unset, .unset] [])) _
            exact castTop (by simp only [hm68_l7, hm68_l8, if_neg d1, if_neg d2, if_neg d3, if_neg d4]) kt
  have pre6 : ∀ tq, Steps p.tables e below (s₁.setTop (mkF m 74 #[.val (.int k1), .val (.int k2), .val (.int k3), .val (.int k4), .val (.int k5), .val (.int k6), .val (.int v3), .val (.int m68_l7), .val (.int m68_l8), .unset, .unset, .unset] [(.int (k5 &&& (256 : Int32)))])) tq → Steps p.tables e below (s₁.setTop (entryFrame m #[(.int k1), (.int k2), (.int k3), (.int k4), (.int k5), (.int k6)] maxLocals)) tq := by
    intro tq kt
    refine pre5 _ ?_
    show Steps p.tables e below (s₁.setTop (mkF m 68 #[.val (.int k1), .val (.int k2), .val (.int k3), .val (.int k4), .val (.int k5), .val (.int k6), .val (.int v3), .val (.int m68_l7), .val (.int m68_l8), .unset, .unset, .unset] [])) _
    refine XS.iload X0.here hx rfl (hb hby at_68) rfl ?_
    show Steps p.tables e below (s₁.setTop (mkF m 70 #[.val (.int k1), .val (.int k2), .val (.int k3), .val (.int k4), .val (.int k5), .val (.int k6), .val (.int v3), .val (.int m68_l7), .val (.int m68_l8), .unset, .unset, .unset] [(.int k5)])) _
    refine XS.sipush X0.here hx rfl (hb hby at_70) ?_
    show Steps p.tables e below (s₁.setTop (mkF m 73 #[.val (.int k1), .val (.int k2), .val (.int k3), .val (.int k4), .val (.int k5), .val (.int k6), .val (.int v3), .val (.int m68_l7), .val (.int m68_l8), .unset, .unset, .unset] [(.int (256 : Int32)), (.int k5)])) _
    refine XS.iand X0.here hx rfl (hb hby at_73) rfl ?_
    show Steps p.tables e below (s₁.setTop (mkF m 74 #[.val (.int k1), .val (.int k2), .val (.int k3), .val (.int k4), .val (.int k5), .val (.int k6), .val (.int v3), .val (.int m68_l7), .val (.int m68_l8), .unset, .unset, .unset] [(.int (k5 &&& (256 : Int32)))])) _
    exact kt
  by_cases hc74_7 : (k5 &&& (256 : Int32)) = (0 : Int32)
  · skip
    have hp8_hcs : ¬ (cs = (0 : Int32)) := (own_pre_0_89_hcs_t k1 k2 k3 k4 k5 k6 cs hcs v3 hv3 m68_l7 hm68_l7 m68_l8 hm68_l8 hc74_7)
    have hp8_hch : ¬ ((255 : Int32) < ((k5 &&& (255 : Int32)).toUInt32.toUInt16.toUInt32.toInt32)) := (own_pre_0_89_hch_t k1 k2 k3 k4 k5 k6 cs hcs v3 hv3 m68_l7 hm68_l7 m68_l8 hm68_l8 hc74_7 hp8_hcs)
    obtain ⟨_, _, ⟨T8, L8, k8, n8⟩, -, X8, ⟨Lc8, hQ8, l8, y8, z8⟩, st8⟩ := Jvm.LawKit.callS X0 hx (y := (⟨"java/lang/String", "valueOf", "(C)Ljava/lang/String;"⟩ : MethodName)) hown (mvT hZ (hw _ (List.mem_of_getElem? (i := 0) rfl))) (mvT hZ (hw _ (List.mem_of_getElem? (i := 1) rfl))) (mvT hZ (hw _ (List.mem_of_getElem? (i := 2) rfl))) (mvT hZ (hw _ (List.mem_of_getElem? (i := 3) rfl))) (by decide) (backOf (W := 0) (rm1 l Z a0 hw [] ((k5 &&& (255 : Int32)).toUInt32.toUInt16.toUInt32.toInt32) cs h0 n0 Z0 I0 hp8_hcs hp8_hch) hZ (hw _ (List.mem_of_getElem? (i := 3) rfl)) (hw _ (List.mem_of_getElem? (i := 2) rfl)) (by decide) (by decide)) (g := (mkF m 89 #[.val (.int k1), .val (.int k2), .val (.int k3), .val (.int k4), .val (.int k5), .val (.int k6), .val (.int v3), .val (.int m68_l7), .val (.int m68_l8), .unset, .unset, .unset] [(.int ((k5 &&& (255 : Int32)).toUInt32.toUInt16.toUInt32.toInt32))])) rfl (by rw [hml]; rfl) (argsL := [(.int ((k5 &&& (255 : Int32)).toUInt32.toUInt16.toUInt32.toInt32))]) (rest := []) (lenOf pd_3 rfl) rfl (by show 2 * 0 + _ ≤ _; exact Nat.le_of_eq rfl) (hb hby at_89) (fun _ _ => ⟨rfl, e0, (by decide : 0 + 2 ≤ _), (by decide : 0 + 5 ≤ _)⟩)
    dsimp only [Pt.U, Pt.locs, Pt.cells, Pt.slots] at X8 l8 y8 z8 st8 hQ8
    subst l8 y8 z8
    obtain ⟨b8, rfl, N8q, K8q, g_b8, szq_b8, F9⟩ := hQ8
    have N8 := Fr.app N0 N8q
    have sz_b8 : h0.size ≤ b8 := Nat.le_trans K0.1 szq_b8
    have F10 : Sta Z T8.heap "java/lang/String" "COMPACT_STRINGS" "Z" (.int cs) := sta_keep I0 K8q
    have Z11 : n0 ≤ T8.heap.size := Nat.le_trans Z0 K8q.1
    have hk12 := Nat.le_trans (Nat.zero_le _) (show _ ≤ T8.heap.size from K8q.1)
    have K13 : Keep h0 T8.heap [] := K0.trans K8q all0
    have hp14_hcs : ¬ (cs = (0 : Int32)) := (own_pre_0_101_hcs_t k1 k2 k3 k4 k5 k6 cs hcs v3 hv3 m68_l7 hm68_l7 m68_l8 hm68_l8 hc74_7 hp8_hcs hp8_hch)
    have hp14_hch : ¬ ((255 : Int32) < ((k6 &&& (255 : Int32)).toUInt32.toUInt16.toUInt32.toInt32)) := (own_pre_0_101_hch_t k1 k2 k3 k4 k5 k6 cs hcs v3 hv3 m68_l7 hm68_l7 m68_l8 hm68_l8 hc74_7 hp8_hcs hp8_hch hp14_hcs)
    obtain ⟨_, _, ⟨T14, L14, k14, n14⟩, -, X14, ⟨Lc14, hQ14, l14, y14, z14⟩, st14⟩ := Jvm.LawKit.callS X8 hx (y := (⟨"java/lang/String", "valueOf", "(C)Ljava/lang/String;"⟩ : MethodName)) hown (mvT hZ (hw _ (List.mem_of_getElem? (i := 0) rfl))) (mvT hZ (hw _ (List.mem_of_getElem? (i := 1) rfl))) (mvT hZ (hw _ (List.mem_of_getElem? (i := 2) rfl))) (mvT hZ (hw _ (List.mem_of_getElem? (i := 3) rfl))) (by decide) (backOf (W := 0) (rm1 l Z a0 hw [] ((k6 &&& (255 : Int32)).toUInt32.toUInt16.toUInt32.toInt32) cs T8.heap n0 Z11 F10 hp14_hcs hp14_hch) hZ (hw _ (List.mem_of_getElem? (i := 3) rfl)) (hw _ (List.mem_of_getElem? (i := 2) rfl)) (by decide) (by decide)) (g := (mkF m 101 #[.val (.int k1), .val (.int k2), .val (.int k3), .val (.int k4), .val (.int k5), .val (.int k6), .val (.int v3), .val (.int m68_l7), .val (.int m68_l8), .val (.ref b8), .unset, .unset] [(.int ((k6 &&& (255 : Int32)).toUInt32.toUInt16.toUInt32.toInt32))])) rfl (by rw [hml]; rfl) (argsL := [(.int ((k6 &&& (255 : Int32)).toUInt32.toUInt16.toUInt32.toInt32))]) (rest := []) (lenOf pd_3 rfl) rfl (by show 2 * 0 + _ ≤ _; exact Nat.le_of_eq rfl) (hb hby at_101) (fun _ _ => ⟨rfl, rfl, (by decide : 2 + 2 ≤ _), (by decide : 5 + 5 ≤ _)⟩)
    dsimp only [Pt.U, Pt.locs, Pt.cells, Pt.slots] at X14 l14 y14 z14 st14 hQ14
    subst l14 y14 z14
    obtain ⟨b14, rfl, N14q, K14q, g_b14, szq_b14, F15⟩ := hQ14
    have N14 := Fr.app N8 N14q
    have ne_b8_b14 : b8 ≠ b14 := Nat.ne_of_lt (Nat.lt_of_lt_of_le F9.lt szq_b14)
    have sz_b14 : h0.size ≤ b14 := Nat.le_trans K13.1 szq_b14
    have F16 : Sta Z T14.heap "java/lang/String" "COMPACT_STRINGS" "Z" (.int cs) := sta_keep F10 K14q
    have F17 : Exa Z T14.heap b8 "java/lang/String" := F9.keep K14q
    have Z18 : n0 ≤ T14.heap.size := Nat.le_trans Z11 K14q.1
    have hk19 := Nat.le_trans hk12 (show _ ≤ T14.heap.size from K14q.1)
    have K20 : Keep h0 T14.heap [] := K13.trans K14q all0
    obtain ⟨T21, hX21, X21, e21, E21, A21, D21, -, st21⟩ := newO X14 hx hZ hown (hw _ (List.mem_of_getElem? (i := 26) rfl)) (hw _ (List.mem_of_getElem? (i := 27) rfl)) (hw _ (List.mem_of_getElem? (i := 28) rfl)) rfl (g := (mkF m 106 #[.val (.int k1), .val (.int k2), .val (.int k3), .val (.int k4), .val (.int k5), .val (.int k6), .val (.int v3), .val (.int m68_l7), .val (.int m68_l8), .val (.ref b8), .val (.ref b14), .unset] [])) rfl (hb hby at_106) (by decide) (by decide)
    obtain ⟨b21, g21⟩ : ∃ z_q, z_q = T14.heap.size := ⟨_, rfl⟩
    rw [← g21] at A21 D21 st21
    have g_b21 : n0 ≤ b21 := Nat.le_trans Z18 (Nat.le_of_eq g21.symm)
    have sz_b21 : h0.size ≤ b21 := Nat.le_trans K20.1 (Nat.le_of_eq g21.symm)
    have ne_b8_b21 : b8 ≠ b21 := Nat.ne_of_lt (Nat.lt_of_lt_of_le F17.lt (Nat.le_of_eq g21.symm))
    have ne_b14_b21 : b14 ≠ b21 := Nat.ne_of_lt (Nat.lt_of_lt_of_le F15.lt (Nat.le_of_eq g21.symm))
    have F22 : Sta Z hX21 "java/lang/String" "COMPACT_STRINGS" "Z" (.int cs) := F16.ext E21
    have F23 : Exa Z hX21 b8 "java/lang/String" := F17.ext E21
    have F24 : Exa Z hX21 b14 "java/lang/String" := F15.ext E21
    have Z25 : n0 ≤ hX21.size := Nat.le_trans Z18 E21.1
    have hk26 := Nat.le_trans hk19 (show _ ≤ hX21.size from E21.1)
    have K27 : Keep h0 hX21 [] := K20.ext E21
    have F28 : Fld Z hX21 b21 "com/example/twigmeter/twigmeter/sample/Group" "level" "I" (.int (0 : Int32)) := D21 (Or.inr (hw _ (List.mem_of_getElem? (i := 34) rfl))) (ty := .int) (by decide)
    have F29 : Fld Z hX21 b21 "com/example/twigmeter/twigmeter/sample/Group" "namespaceUri" "Ljava/lang/String;" .null := D21 (Or.inr (hw _ (List.mem_of_getElem? (i := 36) rfl))) (ty := (.object "java/lang/String")) (by decide)
    have F30 : Fld Z hX21 b21 "com/example/twigmeter/twigmeter/sample/Group" "localName" "Ljava/lang/String;" .null := D21 (Or.inr (hw _ (List.mem_of_getElem? (i := 38) rfl))) (ty := (.object "java/lang/String")) (by decide)
    have F31 : Fld Z hX21 b21 "com/example/twigmeter/twigmeter/sample/Group" "population" "I" (.int (0 : Int32)) := D21 (Or.inr (hw _ (List.mem_of_getElem? (i := 40) rfl))) (ty := .int) (by decide)
    have F32 : Fld Z hX21 b21 "com/example/twigmeter/twigmeter/sample/Group" "drawn" "I" (.int (0 : Int32)) := D21 (Or.inr (hw _ (List.mem_of_getElem? (i := 42) rfl))) (ty := .int) (by decide)
    obtain ⟨_, _, ⟨T33, L33, k33, n33⟩, -, X33, ⟨Lc33, hQ33, l33, y33, z33⟩, st33⟩ := X21.specialBack hx (y := (⟨"com/example/twigmeter/twigmeter/sample/Group", "<init>", "(ILjava/lang/String;Ljava/lang/String;II)V"⟩ : MethodName)) rfl hown (mvT hZ (hw _ (List.mem_of_getElem? (i := 29) rfl))) (mvT hZ (hw _ (List.mem_of_getElem? (i := 30) rfl))) (mvT hZ (hw _ (List.mem_of_getElem? (i := 31) rfl))) (by decide) (backOf (W := 1) (rm6 l Z a0 hw [] b21 k1 b8 b14 k2 m68_l7 hX21 n0 Z25 F28 F29 F30 F31 F32 A21 g_b21) hZ (hw _ (List.mem_of_getElem? (i := 31) rfl)) (hw _ (List.mem_of_getElem? (i := 28) rfl)) (by decide) (by decide)) (g := (mkF m 118 #[.val (.int k1), .val (.int k2), .val (.int k3), .val (.int k4), .val (.int k5), .val (.int k6), .val (.int v3), .val (.int m68_l7), .val (.int m68_l8), .val (.ref b8), .val (.ref b14), .unset] [(.int m68_l7), (.int k2), (.ref b14), (.ref b8), (.int k1), (.ref b21), (.ref b21)])) rfl (by rw [hml]; rfl) (Steps.refl _) (a := b21) (argsL := [(.int k1), (.ref b8), (.ref b14), (.int k2), (.int m68_l7)]) (rest := [(.ref b21)]) (lenOf pd_4 rfl) rfl (by show 2 * 0 + _ ≤ _; exact Nat.le_of_eq rfl) (hb hby at_118) (fun _ _ => ⟨rfl, e21, (by decide : 5 + 0 ≤ _), (by decide : 15 + 0 ≤ _)⟩)
    dsimp only [Pt.U, Pt.locs, Pt.cells, Pt.slots] at X33 l33 y33 z33 st33 hQ33
    subst l33 y33 z33
    obtain ⟨rfl, N33q, K33q, F34, F35, F36⟩ := hQ33
    have N33 := Fr.app N14 N33q
    have F37 : Exa Z T33.heap b8 "java/lang/String" := F23.keep K33q
    have F38 : Exa Z T33.heap b14 "java/lang/String" := F24.keep K33q
    have F39 : Exa Z T33.heap b21 "com/example/twigmeter/twigmeter/sample/Group" := A21.keep K33q
    have Z40 : n0 ≤ T33.heap.size := Nat.le_trans Z25 K33q.1
    have hk41 := Nat.le_trans hk26 (show _ ≤ T33.heap.size from K33q.1)
    have K42 : Keep h0 T33.heap [] := K27.trans K33q (allS (Or.inr sz_b21) all0)
    obtain ⟨cq43, kq43, q43a, q43b, q43c⟩ := isOf hZ rfl F34
    obtain ⟨_, _, ⟨T43, L43, k43, n43⟩, -, X43, ⟨Lc43, hQ43, l43, y43, z43⟩, st43⟩ := X33.virtualBack hx (y := (⟨"com/example/twigmeter/twigmeter/sample/Group", "isDrawnWhole", "()Z"⟩ : MethodName)) (z := (⟨"com/example/twigmeter/twigmeter/sample/Group", "isDrawnWhole", "()Z"⟩ : MethodName)) hown (mvT hZ (hw _ (List.mem_of_getElem? (i := 43) rfl))) (mvT hZ (hw _ (List.mem_of_getElem? (i := 44) rfl))) (notFace_of_selects (args := #[]) (mvT hZ (hw _ (List.mem_of_getElem? (i := 46) rfl)))) (mvT hZ (hw _ (List.mem_of_getElem? (i := 46) rfl))) (mvT hZ (hw _ (List.mem_of_getElem? (i := 45) rfl))) (by decide) (backOf (W := 0) (rm7 l Z a0 hw [] b21 k2 m68_l7 T33.heap n0 Z40 F35 F36) hZ (hw _ (List.mem_of_getElem? (i := 47) rfl)) (hw _ (List.mem_of_getElem? (i := 28) rfl)) (by decide) (by decide)) q43a q43c (g := (mkF m 125 #[.val (.int k1), .val (.int k2), .val (.int k3), .val (.int k4), .val (.int k5), .val (.int k6), .val (.int v3), .val (.int m68_l7), .val (.int m68_l8), .val (.ref b8), .val (.ref b14), .val (.ref b21)] [(.ref b21)])) rfl (by rw [hml]; rfl) (Steps.refl _) (argsL := []) (rest := []) (lenOf pd_5 rfl) rfl (by show 2 * 0 + _ ≤ _; exact Nat.le_of_eq rfl) (hb hby at_125) (fun _ _ => ⟨rfl, rfl, (by decide : 5 + 0 ≤ _), (by decide : 15 + 0 ≤ _)⟩)
    dsimp only [Pt.U, Pt.locs, Pt.cells, Pt.slots] at X43 l43 y43 z43 st43 hQ43
    subst l43 y43 z43
    obtain ⟨rfl, N43q, e43⟩ := hQ43
    have N43 := Fr.app N33 N43q
    obtain ⟨r125, hr125⟩ : ∃ z_q : Int32, z_q = (own_eqi m68_l7 k2) := ⟨_, rfl⟩
    obtain ⟨m138, hm138⟩ : ∃ z_q : Int32, z_q = (if r125 = m68_l8 then (1 : Int32) else (0 : Int32)) := ⟨_, rfl⟩
    have pre45 : ∀ tq, Steps p.tables e below (T43.setTop (mkF m 138 #[.val (.int k1), .val (.int k2), .val (.int k3), .val (.int k4), .val (.int k5), .val (.int k6), .val (.int v3), .val (.int m68_l7), .val (.int m68_l8), .val (.ref b8), .val (.ref b14), .val (.ref b21)] [(.int m138)])) tq → Steps p.tables e below (s₁.setTop (entryFrame m #[(.int k1), (.int k2), (.int k3), (.int k4), (.int k5), (.int k6)] maxLocals)) tq := by
      intro tq kt
      refine pre6 _ ?_
      show Steps p.tables e below (s₁.setTop (mkF m 74 #[.val (.int k1), .val (.int k2), .val (.int k3), .val (.int k4), .val (.int k5), .val (.int k6), .val (.int v3), .val (.int m68_l7), .val (.int m68_l8), .unset, .unset, .unset] [(.int (k5 &&& (256 : Int32)))])) _
      refine XS.ifYes X0.here hx rfl (pc0 := 74) (pc' := 82) rfl (hb hby at_74) rfl ((if0 _ _).trans (teq hc74_7).1) (by decide) (by decide) ?_
      show Steps p.tables e below (s₁.setTop (mkF m 82 #[.val (.int k1), .val (.int k2), .val (.int k3), .val (.int k4), .val (.int k5), .val (.int k6), .val (.int v3), .val (.int m68_l7), .val (.int m68_l8), .unset, .unset, .unset] [])) _
      refine XS.iload X0.here hx rfl (hb hby at_82) rfl ?_
      show Steps p.tables e below (s₁.setTop (mkF m 84 #[.val (.int k1), .val (.int k2), .val (.int k3), .val (.int k4), .val (.int k5), .val (.int k6), .val (.int v3), .val (.int m68_l7), .val (.int m68_l8), .unset, .unset, .unset] [(.int k5)])) _
      refine XS.sipush X0.here hx rfl (hb hby at_84) ?_
      show Steps p.tables e below (s₁.setTop (mkF m 87 #[.val (.int k1), .val (.int k2), .val (.int k3), .val (.int k4), .val (.int k5), .val (.int k6), .val (.int v3), .val (.int m68_l7), .val (.int m68_l8), .unset, .unset, .unset] [(.int (255 : Int32)), (.int k5)])) _
      refine XS.iand X0.here hx rfl (hb hby at_87) rfl ?_
      show Steps p.tables e below (s₁.setTop (mkF m 88 #[.val (.int k1), .val (.int k2), .val (.int k3), .val (.int k4), .val (.int k5), .val (.int k6), .val (.int v3), .val (.int m68_l7), .val (.int m68_l8), .unset, .unset, .unset] [(.int (k5 &&& (255 : Int32)))])) _
      refine XS.i2c X0.here hx rfl (hb hby at_88) rfl ?_
      show Steps p.tables e below (s₁.setTop (mkF m 89 #[.val (.int k1), .val (.int k2), .val (.int k3), .val (.int k4), .val (.int k5), .val (.int k6), .val (.int v3), .val (.int m68_l7), .val (.int m68_l8), .unset, .unset, .unset] [(.int ((k5 &&& (255 : Int32)).toUInt32.toUInt16.toUInt32.toInt32))])) _
      refine st8 _ ?_
      show Steps p.tables e below (T8.setTop (mkF m 92 #[.val (.int k1), .val (.int k2), .val (.int k3), .val (.int k4), .val (.int k5), .val (.int k6), .val (.int v3), .val (.int m68_l7), .val (.int m68_l8), .unset, .unset, .unset] [(.ref b8)])) _
      refine XS.astore X8.here hx rfl (hb hby at_92) rfl rfl (l' := #[.val (.int k1), .val (.int k2), .val (.int k3), .val (.int k4), .val (.int k5), .val (.int k6), .val (.int v3), .val (.int m68_l7), .val (.int m68_l8), .val (.ref b8), .unset, .unset]) rfl ?_
      show Steps p.tables e below (T8.setTop (mkF m 94 #[.val (.int k1), .val (.int k2), .val (.int k3), .val (.int k4), .val (.int k5), .val (.int k6), .val (.int v3), .val (.int m68_l7), .val (.int m68_l8), .val (.ref b8), .unset, .unset] [])) _
      refine XS.iload X8.here hx rfl (hb hby at_94) rfl ?_
      show Steps p.tables e below (T8.setTop (mkF m 96 #[.val (.int k1), .val (.int k2), .val (.int k3), .val (.int k4), .val (.int k5), .val (.int k6), .val (.int v3), .val (.int m68_l7), .val (.int m68_l8), .val (.ref b8), .unset, .unset] [(.int k6)])) _
      refine XS.sipush X8.here hx rfl (hb hby at_96) ?_
      show Steps p.tables e below (T8.setTop (mkF m 99 #[.val (.int k1), .val (.int k2), .val (.int k3), .val (.int k4), .val (.int k5), .val (.int k6), .val (.int v3), .val (.int m68_l7), .val (.int m68_l8), .val (.ref b8), .unset, .unset] [(.int (255 : Int32)), (.int k6)])) _
      refine XS.iand X8.here hx rfl (hb hby at_99) rfl ?_
      show Steps p.tables e below (T8.setTop (mkF m 100 #[.val (.int k1), .val (.int k2), .val (.int k3), .val (.int k4), .val (.int k5), .val (.int k6), .val (.int v3), .val (.int m68_l7), .val (.int m68_l8), .val (.ref b8), .unset, .unset] [(.int (k6 &&& (255 : Int32)))])) _
      refine XS.i2c X8.here hx rfl (hb hby at_100) rfl ?_
      show Steps p.tables e below (T8.setTop (mkF m 101 #[.val (.int k1), .val (.int k2), .val (.int k3), .val (.int k4), .val (.int k5), .val (.int k6), .val (.int v3), .val (.int m68_l7), .val (.int m68_l8), .val (.ref b8), .unset, .unset] [(.int ((k6 &&& (255 : Int32)).toUInt32.toUInt16.toUInt32.toInt32))])) _
      refine st14 _ ?_
      show Steps p.tables e below (T14.setTop (mkF m 104 #[.val (.int k1), .val (.int k2), .val (.int k3), .val (.int k4), .val (.int k5), .val (.int k6), .val (.int v3), .val (.int m68_l7), .val (.int m68_l8), .val (.ref b8), .unset, .unset] [(.ref b14)])) _
      refine XS.astore X14.here hx rfl (hb hby at_104) rfl rfl (l' := #[.val (.int k1), .val (.int k2), .val (.int k3), .val (.int k4), .val (.int k5), .val (.int k6), .val (.int v3), .val (.int m68_l7), .val (.int m68_l8), .val (.ref b8), .val (.ref b14), .unset]) rfl ?_
      show Steps p.tables e below (T14.setTop (mkF m 106 #[.val (.int k1), .val (.int k2), .val (.int k3), .val (.int k4), .val (.int k5), .val (.int k6), .val (.int v3), .val (.int m68_l7), .val (.int m68_l8), .val (.ref b8), .val (.ref b14), .unset] [])) _
      refine st21 _ ?_
      show Steps p.tables e below (T21.setTop (mkF m 109 #[.val (.int k1), .val (.int k2), .val (.int k3), .val (.int k4), .val (.int k5), .val (.int k6), .val (.int v3), .val (.int m68_l7), .val (.int m68_l8), .val (.ref b8), .val (.ref b14), .unset] [(.ref b21)])) _
      refine XS.dup X21.here hx rfl (hb hby at_109) rfl rfl ?_
      show Steps p.tables e below (T21.setTop (mkF m 110 #[.val (.int k1), .val (.int k2), .val (.int k3), .val (.int k4), .val (.int k5), .val (.int k6), .val (.int v3), .val (.int m68_l7), .val (.int m68_l8), .val (.ref b8), .val (.ref b14), .unset] [(.ref b21), (.ref b21)])) _
      refine XS.iloadN X21.here hx rfl (hb hby at_110) rfl ?_
      show Steps p.tables e below (T21.setTop (mkF m 111 #[.val (.int k1), .val (.int k2), .val (.int k3), .val (.int k4), .val (.int k5), .val (.int k6), .val (.int v3), .val (.int m68_l7), .val (.int m68_l8), .val (.ref b8), .val (.ref b14), .unset] [(.int k1), (.ref b21), (.ref b21)])) _
      refine XS.aload X21.here hx rfl (hb hby at_111) rfl rfl ?_
      show Steps p.tables e below (T21.setTop (mkF m 113 #[.val (.int k1), .val (.int k2), .val (.int k3), .val (.int k4), .val (.int k5), .val (.int k6), .val (.int v3), .val (.int m68_l7), .val (.int m68_l8), .val (.ref b8), .val (.ref b14), .unset] [(.ref b8), (.int k1), (.ref b21), (.ref b21)])) _
      refine XS.aload X21.here hx rfl (hb hby at_113) rfl rfl ?_
      show Steps p.tables e below (T21.setTop (mkF m 115 #[.val (.int k1), .val (.int k2), .val (.int k3), .val (.int k4), .val (.int k5), .val (.int k6), .val (.int v3), .val (.int m68_l7), .val (.int m68_l8), .val (.ref b8), .val (.ref b14), .unset] [(.ref b14), (.ref b8), (.int k1), (.ref b21), (.ref b21)])) _
      refine XS.iloadN X21.here hx rfl (hb hby at_115) rfl ?_
      show Steps p.tables e below (T21.setTop (mkF m 116 #[.val (.int k1), .val (.int k2), .val (.int k3), .val (.int k4), .val (.int k5), .val (.int k6), .val (.int v3), .val (.int m68_l7), .val (.int m68_l8), .val (.ref b8), .val (.ref b14), .unset] [(.int k2), (.ref b14), (.ref b8), (.int k1), (.ref b21), (.ref b21)])) _
      refine XS.iload X21.here hx rfl (hb hby at_116) rfl ?_
      show Steps p.tables e below (T21.setTop (mkF m 118 #[.val (.int k1), .val (.int k2), .val (.int k3), .val (.int k4), .val (.int k5), .val (.int k6), .val (.int v3), .val (.int m68_l7), .val (.int m68_l8), .val (.ref b8), .val (.ref b14), .unset] [(.int m68_l7), (.int k2), (.ref b14), (.ref b8), (.int k1), (.ref b21), (.ref b21)])) _
      refine st33.trans ?_
      show Steps p.tables e below (T33.setTop (mkF m 121 #[.val (.int k1), .val (.int k2), .val (.int k3), .val (.int k4), .val (.int k5), .val (.int k6), .val (.int v3), .val (.int m68_l7), .val (.int m68_l8), .val (.ref b8), .val (.ref b14), .unset] [(.ref b21)])) _
      refine XS.astore X33.here hx rfl (hb hby at_121) rfl rfl (l' := #[.val (.int k1), .val (.int k2), .val (.int k3), .val (.int k4), .val (.int k5), .val (.int k6), .val (.int v3), .val (.int m68_l7), .val (.int m68_l8), .val (.ref b8), .val (.ref b14), .val (.ref b21)]) rfl ?_
      show Steps p.tables e below (T33.setTop (mkF m 123 #[.val (.int k1), .val (.int k2), .val (.int k3), .val (.int k4), .val (.int k5), .val (.int k6), .val (.int v3), .val (.int m68_l7), .val (.int m68_l8), .val (.ref b8), .val (.ref b14), .val (.ref b21)] [])) _
      refine XS.aload X33.here hx rfl (hb hby at_123) rfl rfl ?_
      show Steps p.tables e below (T33.setTop (mkF m 125 #[.val (.int k1), .val (.int k2), .val (.int k3), .val (.int k4), .val (.int k5), .val (.int k6), .val (.int v3), .val (.int m68_l7), .val (.int m68_l8), .val (.ref b8), .val (.ref b14), .val (.ref b21)] [(.ref b21)])) _
      refine st43.trans ?_
      show Steps p.tables e below (T43.setTop (mkF m 128 #[.val (.int k1), .val (.int k2), .val (.int k3), .val (.int k4), .val (.int k5), .val (.int k6), .val (.int v3), .val (.int m68_l7), .val (.int m68_l8), .val (.ref b8), .val (.ref b14), .val (.ref b21)] [(.int (own_eqi m68_l7 k2))])) _
      rw [← hr125]
      show Steps p.tables e below (T43.setTop (mkF m 128 #[.val (.int k1), .val (.int k2), .val (.int k3), .val (.int k4), .val (.int k5), .val (.int k6), .val (.int v3), .val (.int m68_l7), .val (.int m68_l8), .val (.ref b8), .val (.ref b14), .val (.ref b21)] [(.int r125)])) _
      refine XS.iload X43.here hx rfl (hb hby at_128) rfl ?_
      by_cases d44 : r125 = m68_l8
      · skip
        show Steps p.tables e below (T43.setTop (mkF m 130 #[.val (.int k1), .val (.int k2), .val (.int k3), .val (.int k4), .val (.int k5), .val (.int k6), .val (.int v3), .val (.int m68_l7), .val (.int m68_l8), .val (.ref b8), .val (.ref b14), .val (.ref b21)] [(.int m68_l8), (.int r125)])) _
        refine XS.icmpNo X43.here hx rfl (hb hby at_130) rfl (teq d44).2 ?_
        show Steps p.tables e below (T43.setTop (mkF m 133 #[.val (.int k1), .val (.int k2), .val (.int k3), .val (.int k4), .val (.int k5), .val (.int k6), .val (.int v3), .val (.int m68_l7), .val (.int m68_l8), .val (.ref b8), .val (.ref b14), .val (.ref b21)] [])) _
        refine XS.iconst X43.here hx rfl (hb hby at_133) ?_
        show Steps p.tables e below (T43.setTop (mkF m 134 #[.val (.int k1), .val (.int k2), .val (.int k3), .val (.int k4), .val (.int k5), .val (.int k6), .val (.int v3), .val (.int m68_l7), .val (.int m68_l8), .val (.ref b8), .val (.ref b14), .val (.ref b21)] [(.int (1 : Int32))])) _
        refine XS.goto X43.here hx rfl (pc0 := 134) (pc' := 138) rfl (hb hby at_134) (by decide) (by decide) ?_
        show Steps p.tables e below (T43.setTop (mkF m 138 #[.val (.int k1), .val (.int k2), .val (.int k3), .val (.int k4), .val (.int k5), .val (.int k6), .val (.int v3), .val (.int m68_l7), .val (.int m68_l8), .val (.ref b8), .val (.ref b14), .val (.ref b21)] [(.int (1 : Int32))])) _
        exact castTop (by simp only [hm138, if_pos d44]) kt
      · skip
        show Steps p.tables e below (T43.setTop (mkF m 130 #[.val (.int k1), .val (.int k2), .val (.int k3), .val (.int k4), .val (.int k5), .val (.int k6), .val (.int v3), .val (.int m68_l7), .val (.int m68_l8), .val (.ref b8), .val (.ref b14), .val (.ref b21)] [(.int m68_l8), (.int r125)])) _
        refine XS.icmpYes X43.here hx rfl (pc0 := 130) (pc' := 137) rfl (hb hby at_130) rfl (feq d44).2 (by decide) (by decide) ?_
        show Steps p.tables e below (T43.setTop (mkF m 137 #[.val (.int k1), .val (.int k2), .val (.int k3), .val (.int k4), .val (.int k5), .val (.int k6), .val (.int v3), .val (.int m68_l7), .val (.int m68_l8), .val (.ref b8), .val (.ref b14), .val (.ref b21)] [])) _
        refine XS.iconst X43.here hx rfl (hb hby at_137) ?_
        show Steps p.tables e below (T43.setTop (mkF m 138 #[.val (.int k1), .val (.int k2), .val (.int k3), .val (.int k4), .val (.int k5), .val (.int k6), .val (.int v3), .val (.int m68_l7), .val (.int m68_l8), .val (.ref b8), .val (.ref b14), .val (.ref b21)] [(.int (0 : Int32))])) _
        exact castTop (by simp only [hm138, if_neg d44]) kt
    obtain ⟨fs, hr, hrun, hended, hW, hsame⟩ := X43.leave (v := some (Value.int (nar .boolean m138))) (fun h => by rw [Bd.returns] at h; cases h)
    have hres46 : (nar .boolean m138) = (1 : Int32) := (own_leaf_0_138_t k1 k2 k3 k4 k5 k6 cs hcs v3 hv3 m68_l7 hm68_l7 m68_l8 hm68_l8 hc74_7 hp8_hcs hp8_hch hp14_hcs hp14_hch r125 hr125 m138 hm138)
    have hE := hS.ended hW (show _ ≤ T43.heap.size from e43.symm ▸ hk41) hsame
    refine ⟨_, _, pre45 _ ?_, hrun, hended, _, _, rfl, ?_, ⟨_, rfl⟩, hE.1, hE.2.1, hE.2.2.mono (by decide) (by decide)⟩
    · skip
      show Steps p.tables e below (T43.setTop (mkF m 138 #[.val (.int k1), .val (.int k2), .val (.int k3), .val (.int k4), .val (.int k5), .val (.int k6), .val (.int v3), .val (.int m68_l7), .val (.int m68_l8), .val (.ref b8), .val (.ref b14), .val (.ref b21)] [(.int m138)])) _
      exact retN X43 hx (t := .boolean) Bd.returns (by simp) (hb hby at_138) hr
    · show Q0 Z k1 k2 k3 k4 k5 k6 cs h0 n0 _ T43.heap _
      rw [e43]
      exact ⟨congrArg (fun z => some (Value.int z)) hres46, N43⟩
  · skip
    obtain ⟨b47, T47, hX47, ks47, X47, e47, E47, hS, hk47, hZ, hown, st47⟩ := ldcS X0 hx hZ hown (hw _ (List.mem_of_getElem? (i := 48) rfl)) wS e0 hS (Nat.zero_le _) (g := (mkF m 77 #[.val (.int k1), .val (.int k2), .val (.int k3), .val (.int k4), .val (.int k5), .val (.int k6), .val (.int v3), .val (.int m68_l7), .val (.int m68_l8), .unset, .unset, .unset] [])) rfl (hb hby at_77) (n := 0) (by decide) (by decide) (by decide) (by decide)
    have F48 : Sta Z hX47 "java/lang/String" "COMPACT_STRINGS" "Z" (.int cs) := I0.ext E47
    have Z49 : n0 ≤ hX47.size := Nat.le_trans Z0 E47.1
    have hk50 := Nat.le_trans (Nat.zero_le _) (show _ ≤ hX47.size from E47.1)
    have K51 : Keep h0 hX47 [] := K0.ext E47
    have hp52_hcs : ¬ (cs = (0 : Int32)) := (own_pre_0_101_hcs_f k1 k2 k3 k4 k5 k6 cs hcs v3 hv3 m68_l7 hm68_l7 m68_l8 hm68_l8 hc74_7)
    have hp52_hch : ¬ ((255 : Int32) < ((k6 &&& (255 : Int32)).toUInt32.toUInt16.toUInt32.toInt32)) := (own_pre_0_101_hch_f k1 k2 k3 k4 k5 k6 cs hcs v3 hv3 m68_l7 hm68_l7 m68_l8 hm68_l8 hc74_7 hp52_hcs)
    obtain ⟨_, _, ⟨T52, L52, k52, n52⟩, -, X52, ⟨Lc52, hQ52, l52, y52, z52⟩, st52⟩ := Jvm.LawKit.callS X47 hx (y := (⟨"java/lang/String", "valueOf", "(C)Ljava/lang/String;"⟩ : MethodName)) hown (mvT hZ (hw _ (List.mem_of_getElem? (i := 0) rfl))) (mvT hZ (hw _ (List.mem_of_getElem? (i := 1) rfl))) (mvT hZ (hw _ (List.mem_of_getElem? (i := 2) rfl))) (mvT hZ (hw _ (List.mem_of_getElem? (i := 3) rfl))) (by decide) (backOf (W := 0) (rm1 l Z a0 hw [] ((k6 &&& (255 : Int32)).toUInt32.toUInt16.toUInt32.toInt32) cs hX47 n0 Z49 F48 hp52_hcs hp52_hch) hZ (hw _ (List.mem_of_getElem? (i := 3) rfl)) (hw _ (List.mem_of_getElem? (i := 2) rfl)) (by decide) (by decide)) (g := (mkF m 101 #[.val (.int k1), .val (.int k2), .val (.int k3), .val (.int k4), .val (.int k5), .val (.int k6), .val (.int v3), .val (.int m68_l7), .val (.int m68_l8), .val (.ref b47), .unset, .unset] [(.int ((k6 &&& (255 : Int32)).toUInt32.toUInt16.toUInt32.toInt32))])) rfl (by rw [hml]; rfl) (argsL := [(.int ((k6 &&& (255 : Int32)).toUInt32.toUInt16.toUInt32.toInt32))]) (rest := []) (lenOf pd_3 rfl) rfl (by show 2 * 0 + _ ≤ _; exact Nat.le_of_eq rfl) (hb hby at_101) (fun _ _ => ⟨rfl, e47, (by decide : 2 + 2 ≤ _), (by decide : 4 + 5 ≤ _)⟩)
    dsimp only [Pt.U, Pt.locs, Pt.cells, Pt.slots] at X52 l52 y52 z52 st52 hQ52
    subst l52 y52 z52
    obtain ⟨b52, rfl, N52q, K52q, g_b52, szq_b52, F53⟩ := hQ52
    have N52 := Fr.app N0 N52q
    have sz_b52 : h0.size ≤ b52 := Nat.le_trans K51.1 szq_b52
    have F54 : Sta Z T52.heap "java/lang/String" "COMPACT_STRINGS" "Z" (.int cs) := sta_keep F48 K52q
    have Z55 : n0 ≤ T52.heap.size := Nat.le_trans Z49 K52q.1
    have hk56 := Nat.le_trans hk47 (show _ ≤ T52.heap.size from K52q.1)
    have K57 : Keep h0 T52.heap [] := K51.trans K52q all0
    obtain ⟨T58, hX58, X58, e58, E58, A58, D58, -, st58⟩ := newO X52 hx hZ hown (hw _ (List.mem_of_getElem? (i := 26) rfl)) (hw _ (List.mem_of_getElem? (i := 27) rfl)) (hw _ (List.mem_of_getElem? (i := 28) rfl)) rfl (g := (mkF m 106 #[.val (.int k1), .val (.int k2), .val (.int k3), .val (.int k4), .val (.int k5), .val (.int k6), .val (.int v3), .val (.int m68_l7), .val (.int m68_l8), .val (.ref b47), .val (.ref b52), .unset] [])) rfl (hb hby at_106) (by decide) (by decide)
    obtain ⟨b58, g58⟩ : ∃ z_q, z_q = T52.heap.size := ⟨_, rfl⟩
    rw [← g58] at A58 D58 st58
    have g_b58 : n0 ≤ b58 := Nat.le_trans Z55 (Nat.le_of_eq g58.symm)
    have sz_b58 : h0.size ≤ b58 := Nat.le_trans K57.1 (Nat.le_of_eq g58.symm)
    have ne_b52_b58 : b52 ≠ b58 := Nat.ne_of_lt (Nat.lt_of_lt_of_le F53.lt (Nat.le_of_eq g58.symm))
    have F59 : Sta Z hX58 "java/lang/String" "COMPACT_STRINGS" "Z" (.int cs) := F54.ext E58
    have F60 : Exa Z hX58 b52 "java/lang/String" := F53.ext E58
    have Z61 : n0 ≤ hX58.size := Nat.le_trans Z55 E58.1
    have hk62 := Nat.le_trans hk56 (show _ ≤ hX58.size from E58.1)
    have K63 : Keep h0 hX58 [] := K57.ext E58
    have F64 : Fld Z hX58 b58 "com/example/twigmeter/twigmeter/sample/Group" "level" "I" (.int (0 : Int32)) := D58 (Or.inr (hw _ (List.mem_of_getElem? (i := 34) rfl))) (ty := .int) (by decide)
    have F65 : Fld Z hX58 b58 "com/example/twigmeter/twigmeter/sample/Group" "namespaceUri" "Ljava/lang/String;" .null := D58 (Or.inr (hw _ (List.mem_of_getElem? (i := 36) rfl))) (ty := (.object "java/lang/String")) (by decide)
    have F66 : Fld Z hX58 b58 "com/example/twigmeter/twigmeter/sample/Group" "localName" "Ljava/lang/String;" .null := D58 (Or.inr (hw _ (List.mem_of_getElem? (i := 38) rfl))) (ty := (.object "java/lang/String")) (by decide)
    have F67 : Fld Z hX58 b58 "com/example/twigmeter/twigmeter/sample/Group" "population" "I" (.int (0 : Int32)) := D58 (Or.inr (hw _ (List.mem_of_getElem? (i := 40) rfl))) (ty := .int) (by decide)
    have F68 : Fld Z hX58 b58 "com/example/twigmeter/twigmeter/sample/Group" "drawn" "I" (.int (0 : Int32)) := D58 (Or.inr (hw _ (List.mem_of_getElem? (i := 42) rfl))) (ty := .int) (by decide)
    obtain ⟨_, _, ⟨T69, L69, k69, n69⟩, -, X69, ⟨Lc69, hQ69, l69, y69, z69⟩, st69⟩ := X58.specialBack hx (y := (⟨"com/example/twigmeter/twigmeter/sample/Group", "<init>", "(ILjava/lang/String;Ljava/lang/String;II)V"⟩ : MethodName)) rfl hown (mvT hZ (hw _ (List.mem_of_getElem? (i := 29) rfl))) (mvT hZ (hw _ (List.mem_of_getElem? (i := 30) rfl))) (mvT hZ (hw _ (List.mem_of_getElem? (i := 31) rfl))) (by decide) (backOf (W := 1) (rm6 l Z a0 hw [] b58 k1 b47 b52 k2 m68_l7 hX58 n0 Z61 F64 F65 F66 F67 F68 A58 g_b58) hZ (hw _ (List.mem_of_getElem? (i := 31) rfl)) (hw _ (List.mem_of_getElem? (i := 28) rfl)) (by decide) (by decide)) (g := (mkF m 118 #[.val (.int k1), .val (.int k2), .val (.int k3), .val (.int k4), .val (.int k5), .val (.int k6), .val (.int v3), .val (.int m68_l7), .val (.int m68_l8), .val (.ref b47), .val (.ref b52), .unset] [(.int m68_l7), (.int k2), (.ref b52), (.ref b47), (.int k1), (.ref b58), (.ref b58)])) rfl (by rw [hml]; rfl) (Steps.refl _) (a := b58) (argsL := [(.int k1), (.ref b47), (.ref b52), (.int k2), (.int m68_l7)]) (rest := [(.ref b58)]) (lenOf pd_4 rfl) rfl (by show 2 * 0 + _ ≤ _; exact Nat.le_of_eq rfl) (hb hby at_118) (fun _ _ => ⟨rfl, e58, (by decide : 5 + 0 ≤ _), (by decide : 14 + 0 ≤ _)⟩)
    dsimp only [Pt.U, Pt.locs, Pt.cells, Pt.slots] at X69 l69 y69 z69 st69 hQ69
    subst l69 y69 z69
    obtain ⟨rfl, N69q, K69q, F70, F71, F72⟩ := hQ69
    have N69 := Fr.app N52 N69q
    have F73 : Exa Z T69.heap b52 "java/lang/String" := F60.keep K69q
    have F74 : Exa Z T69.heap b58 "com/example/twigmeter/twigmeter/sample/Group" := A58.keep K69q
    have Z75 : n0 ≤ T69.heap.size := Nat.le_trans Z61 K69q.1
    have hk76 := Nat.le_trans hk62 (show _ ≤ T69.heap.size from K69q.1)
    have K77 : Keep h0 T69.heap [] := K63.trans K69q (allS (Or.inr sz_b58) all0)
    obtain ⟨cq78, kq78, q78a, q78b, q78c⟩ := isOf hZ rfl F70
    obtain ⟨_, _, ⟨T78, L78, k78, n78⟩, -, X78, ⟨Lc78, hQ78, l78, y78, z78⟩, st78⟩ := X69.virtualBack hx (y := (⟨"com/example/twigmeter/twigmeter/sample/Group", "isDrawnWhole", "()Z"⟩ : MethodName)) (z := (⟨"com/example/twigmeter/twigmeter/sample/Group", "isDrawnWhole", "()Z"⟩ : MethodName)) hown (mvT hZ (hw _ (List.mem_of_getElem? (i := 43) rfl))) (mvT hZ (hw _ (List.mem_of_getElem? (i := 44) rfl))) (notFace_of_selects (args := #[]) (mvT hZ (hw _ (List.mem_of_getElem? (i := 46) rfl)))) (mvT hZ (hw _ (List.mem_of_getElem? (i := 46) rfl))) (mvT hZ (hw _ (List.mem_of_getElem? (i := 45) rfl))) (by decide) (backOf (W := 0) (rm7 l Z a0 hw [] b58 k2 m68_l7 T69.heap n0 Z75 F71 F72) hZ (hw _ (List.mem_of_getElem? (i := 47) rfl)) (hw _ (List.mem_of_getElem? (i := 28) rfl)) (by decide) (by decide)) q78a q78c (g := (mkF m 125 #[.val (.int k1), .val (.int k2), .val (.int k3), .val (.int k4), .val (.int k5), .val (.int k6), .val (.int v3), .val (.int m68_l7), .val (.int m68_l8), .val (.ref b47), .val (.ref b52), .val (.ref b58)] [(.ref b58)])) rfl (by rw [hml]; rfl) (Steps.refl _) (argsL := []) (rest := []) (lenOf pd_5 rfl) rfl (by show 2 * 0 + _ ≤ _; exact Nat.le_of_eq rfl) (hb hby at_125) (fun _ _ => ⟨rfl, rfl, (by decide : 5 + 0 ≤ _), (by decide : 14 + 0 ≤ _)⟩)
    dsimp only [Pt.U, Pt.locs, Pt.cells, Pt.slots] at X78 l78 y78 z78 st78 hQ78
    subst l78 y78 z78
    obtain ⟨rfl, N78q, e78⟩ := hQ78
    have N78 := Fr.app N69 N78q
    obtain ⟨r125, hr125⟩ : ∃ z_q : Int32, z_q = (own_eqi m68_l7 k2) := ⟨_, rfl⟩
    obtain ⟨m138, hm138⟩ : ∃ z_q : Int32, z_q = (if r125 = m68_l8 then (1 : Int32) else (0 : Int32)) := ⟨_, rfl⟩
    have pre80 : ∀ tq, Steps p.tables e below (T78.setTop (mkF m 138 #[.val (.int k1), .val (.int k2), .val (.int k3), .val (.int k4), .val (.int k5), .val (.int k6), .val (.int v3), .val (.int m68_l7), .val (.int m68_l8), .val (.ref b47), .val (.ref b52), .val (.ref b58)] [(.int m138)])) tq → Steps p.tables e below (s₁.setTop (entryFrame m #[(.int k1), (.int k2), (.int k3), (.int k4), (.int k5), (.int k6)] maxLocals)) tq := by
      intro tq kt
      refine pre6 _ ?_
      show Steps p.tables e below (s₁.setTop (mkF m 74 #[.val (.int k1), .val (.int k2), .val (.int k3), .val (.int k4), .val (.int k5), .val (.int k6), .val (.int v3), .val (.int m68_l7), .val (.int m68_l8), .unset, .unset, .unset] [(.int (k5 &&& (256 : Int32)))])) _
      refine XS.ifNo X0.here hx rfl (hb hby at_74) rfl ((if0 _ _).trans (feq hc74_7).1) ?_
      show Steps p.tables e below (s₁.setTop (mkF m 77 #[.val (.int k1), .val (.int k2), .val (.int k3), .val (.int k4), .val (.int k5), .val (.int k6), .val (.int v3), .val (.int m68_l7), .val (.int m68_l8), .unset, .unset, .unset] [])) _
      refine st47 _ ?_
      show Steps p.tables e below (T47.setTop (mkF m 79 #[.val (.int k1), .val (.int k2), .val (.int k3), .val (.int k4), .val (.int k5), .val (.int k6), .val (.int v3), .val (.int m68_l7), .val (.int m68_l8), .unset, .unset, .unset] [(.ref b47)])) _
      refine XS.goto X47.here hx rfl (pc0 := 79) (pc' := 92) rfl (hb hby at_79) (by decide) (by decide) ?_
      show Steps p.tables e below (T47.setTop (mkF m 92 #[.val (.int k1), .val (.int k2), .val (.int k3), .val (.int k4), .val (.int k5), .val (.int k6), .val (.int v3), .val (.int m68_l7), .val (.int m68_l8), .unset, .unset, .unset] [(.ref b47)])) _
      refine XS.astore X47.here hx rfl (hb hby at_92) rfl rfl (l' := #[.val (.int k1), .val (.int k2), .val (.int k3), .val (.int k4), .val (.int k5), .val (.int k6), .val (.int v3), .val (.int m68_l7), .val (.int m68_l8), .val (.ref b47), .unset, .unset]) rfl ?_
      show Steps p.tables e below (T47.setTop (mkF m 94 #[.val (.int k1), .val (.int k2), .val (.int k3), .val (.int k4), .val (.int k5), .val (.int k6), .val (.int v3), .val (.int m68_l7), .val (.int m68_l8), .val (.ref b47), .unset, .unset] [])) _
      refine XS.iload X47.here hx rfl (hb hby at_94) rfl ?_
      show Steps p.tables e below (T47.setTop (mkF m 96 #[.val (.int k1), .val (.int k2), .val (.int k3), .val (.int k4), .val (.int k5), .val (.int k6), .val (.int v3), .val (.int m68_l7), .val (.int m68_l8), .val (.ref b47), .unset, .unset] [(.int k6)])) _
      refine XS.sipush X47.here hx rfl (hb hby at_96) ?_
      show Steps p.tables e below (T47.setTop (mkF m 99 #[.val (.int k1), .val (.int k2), .val (.int k3), .val (.int k4), .val (.int k5), .val (.int k6), .val (.int v3), .val (.int m68_l7), .val (.int m68_l8), .val (.ref b47), .unset, .unset] [(.int (255 : Int32)), (.int k6)])) _
      refine XS.iand X47.here hx rfl (hb hby at_99) rfl ?_
      show Steps p.tables e below (T47.setTop (mkF m 100 #[.val (.int k1), .val (.int k2), .val (.int k3), .val (.int k4), .val (.int k5), .val (.int k6), .val (.int v3), .val (.int m68_l7), .val (.int m68_l8), .val (.ref b47), .unset, .unset] [(.int (k6 &&& (255 : Int32)))])) _
      refine XS.i2c X47.here hx rfl (hb hby at_100) rfl ?_
      show Steps p.tables e below (T47.setTop (mkF m 101 #[.val (.int k1), .val (.int k2), .val (.int k3), .val (.int k4), .val (.int k5), .val (.int k6), .val (.int v3), .val (.int m68_l7), .val (.int m68_l8), .val (.ref b47), .unset, .unset] [(.int ((k6 &&& (255 : Int32)).toUInt32.toUInt16.toUInt32.toInt32))])) _
      refine st52 _ ?_
      show Steps p.tables e below (T52.setTop (mkF m 104 #[.val (.int k1), .val (.int k2), .val (.int k3), .val (.int k4), .val (.int k5), .val (.int k6), .val (.int v3), .val (.int m68_l7), .val (.int m68_l8), .val (.ref b47), .unset, .unset] [(.ref b52)])) _
      refine XS.astore X52.here hx rfl (hb hby at_104) rfl rfl (l' := #[.val (.int k1), .val (.int k2), .val (.int k3), .val (.int k4), .val (.int k5), .val (.int k6), .val (.int v3), .val (.int m68_l7), .val (.int m68_l8), .val (.ref b47), .val (.ref b52), .unset]) rfl ?_
      show Steps p.tables e below (T52.setTop (mkF m 106 #[.val (.int k1), .val (.int k2), .val (.int k3), .val (.int k4), .val (.int k5), .val (.int k6), .val (.int v3), .val (.int m68_l7), .val (.int m68_l8), .val (.ref b47), .val (.ref b52), .unset] [])) _
      refine st58 _ ?_
      show Steps p.tables e below (T58.setTop (mkF m 109 #[.val (.int k1), .val (.int k2), .val (.int k3), .val (.int k4), .val (.int k5), .val (.int k6), .val (.int v3), .val (.int m68_l7), .val (.int m68_l8), .val (.ref b47), .val (.ref b52), .unset] [(.ref b58)])) _
      refine XS.dup X58.here hx rfl (hb hby at_109) rfl rfl ?_
      show Steps p.tables e below (T58.setTop (mkF m 110 #[.val (.int k1), .val (.int k2), .val (.int k3), .val (.int k4), .val (.int k5), .val (.int k6), .val (.int v3), .val (.int m68_l7), .val (.int m68_l8), .val (.ref b47), .val (.ref b52), .unset] [(.ref b58), (.ref b58)])) _
      refine XS.iloadN X58.here hx rfl (hb hby at_110) rfl ?_
      show Steps p.tables e below (T58.setTop (mkF m 111 #[.val (.int k1), .val (.int k2), .val (.int k3), .val (.int k4), .val (.int k5), .val (.int k6), .val (.int v3), .val (.int m68_l7), .val (.int m68_l8), .val (.ref b47), .val (.ref b52), .unset] [(.int k1), (.ref b58), (.ref b58)])) _
      refine XS.aload X58.here hx rfl (hb hby at_111) rfl rfl ?_
      show Steps p.tables e below (T58.setTop (mkF m 113 #[.val (.int k1), .val (.int k2), .val (.int k3), .val (.int k4), .val (.int k5), .val (.int k6), .val (.int v3), .val (.int m68_l7), .val (.int m68_l8), .val (.ref b47), .val (.ref b52), .unset] [(.ref b47), (.int k1), (.ref b58), (.ref b58)])) _
      refine XS.aload X58.here hx rfl (hb hby at_113) rfl rfl ?_
      show Steps p.tables e below (T58.setTop (mkF m 115 #[.val (.int k1), .val (.int k2), .val (.int k3), .val (.int k4), .val (.int k5), .val (.int k6), .val (.int v3), .val (.int m68_l7), .val (.int m68_l8), .val (.ref b47), .val (.ref b52), .unset] [(.ref b52), (.ref b47), (.int k1), (.ref b58), (.ref b58)])) _
      refine XS.iloadN X58.here hx rfl (hb hby at_115) rfl ?_
      show Steps p.tables e below (T58.setTop (mkF m 116 #[.val (.int k1), .val (.int k2), .val (.int k3), .val (.int k4), .val (.int k5), .val (.int k6), .val (.int v3), .val (.int m68_l7), .val (.int m68_l8), .val (.ref b47), .val (.ref b52), .unset] [(.int k2), (.ref b52), (.ref b47), (.int k1), (.ref b58), (.ref b58)])) _
      refine XS.iload X58.here hx rfl (hb hby at_116) rfl ?_
      show Steps p.tables e below (T58.setTop (mkF m 118 #[.val (.int k1), .val (.int k2), .val (.int k3), .val (.int k4), .val (.int k5), .val (.int k6), .val (.int v3), .val (.int m68_l7), .val (.int m68_l8), .val (.ref b47), .val (.ref b52), .unset] [(.int m68_l7), (.int k2), (.ref b52), (.ref b47), (.int k1), (.ref b58), (.ref b58)])) _
      refine st69.trans ?_
      show Steps p.tables e below (T69.setTop (mkF m 121 #[.val (.int k1), .val (.int k2), .val (.int k3), .val (.int k4), .val (.int k5), .val (.int k6), .val (.int v3), .val (.int m68_l7), .val (.int m68_l8), .val (.ref b47), .val (.ref b52), .unset] [(.ref b58)])) _
      refine XS.astore X69.here hx rfl (hb hby at_121) rfl rfl (l' := #[.val (.int k1), .val (.int k2), .val (.int k3), .val (.int k4), .val (.int k5), .val (.int k6), .val (.int v3), .val (.int m68_l7), .val (.int m68_l8), .val (.ref b47), .val (.ref b52), .val (.ref b58)]) rfl ?_
      show Steps p.tables e below (T69.setTop (mkF m 123 #[.val (.int k1), .val (.int k2), .val (.int k3), .val (.int k4), .val (.int k5), .val (.int k6), .val (.int v3), .val (.int m68_l7), .val (.int m68_l8), .val (.ref b47), .val (.ref b52), .val (.ref b58)] [])) _
      refine XS.aload X69.here hx rfl (hb hby at_123) rfl rfl ?_
      show Steps p.tables e below (T69.setTop (mkF m 125 #[.val (.int k1), .val (.int k2), .val (.int k3), .val (.int k4), .val (.int k5), .val (.int k6), .val (.int v3), .val (.int m68_l7), .val (.int m68_l8), .val (.ref b47), .val (.ref b52), .val (.ref b58)] [(.ref b58)])) _
      refine st78.trans ?_
      show Steps p.tables e below (T78.setTop (mkF m 128 #[.val (.int k1), .val (.int k2), .val (.int k3), .val (.int k4), .val (.int k5), .val (.int k6), .val (.int v3), .val (.int m68_l7), .val (.int m68_l8), .val (.ref b47), .val (.ref b52), .val (.ref b58)] [(.int (own_eqi m68_l7 k2))])) _
      rw [← hr125]
      show Steps p.tables e below (T78.setTop (mkF m 128 #[.val (.int k1), .val (.int k2), .val (.int k3), .val (.int k4), .val (.int k5), .val (.int k6), .val (.int v3), .val (.int m68_l7), .val (.int m68_l8), .val (.ref b47), .val (.ref b52), .val (.ref b58)] [(.int r125)])) _
      refine XS.iload X78.here hx rfl (hb hby at_128) rfl ?_
      by_cases d79 : r125 = m68_l8
      · skip
        show Steps p.tables e below (T78.setTop (mkF m 130 #[.val (.int k1), .val (.int k2), .val (.int k3), .val (.int k4), .val (.int k5), .val (.int k6), .val (.int v3), .val (.int m68_l7), .val (.int m68_l8), .val (.ref b47), .val (.ref b52), .val (.ref b58)] [(.int m68_l8), (.int r125)])) _
        refine XS.icmpNo X78.here hx rfl (hb hby at_130) rfl (teq d79).2 ?_
        show Steps p.tables e below (T78.setTop (mkF m 133 #[.val (.int k1), .val (.int k2), .val (.int k3), .val (.int k4), .val (.int k5), .val (.int k6), .val (.int v3), .val (.int m68_l7), .val (.int m68_l8), .val (.ref b47), .val (.ref b52), .val (.ref b58)] [])) _
        refine XS.iconst X78.here hx rfl (hb hby at_133) ?_
        show Steps p.tables e below (T78.setTop (mkF m 134 #[.val (.int k1), .val (.int k2), .val (.int k3), .val (.int k4), .val (.int k5), .val (.int k6), .val (.int v3), .val (.int m68_l7), .val (.int m68_l8), .val (.ref b47), .val (.ref b52), .val (.ref b58)] [(.int (1 : Int32))])) _
        refine XS.goto X78.here hx rfl (pc0 := 134) (pc' := 138) rfl (hb hby at_134) (by decide) (by decide) ?_
        show Steps p.tables e below (T78.setTop (mkF m 138 #[.val (.int k1), .val (.int k2), .val (.int k3), .val (.int k4), .val (.int k5), .val (.int k6), .val (.int v3), .val (.int m68_l7), .val (.int m68_l8), .val (.ref b47), .val (.ref b52), .val (.ref b58)] [(.int (1 : Int32))])) _
        exact castTop (by simp only [hm138, if_pos d79]) kt
      · skip
        show Steps p.tables e below (T78.setTop (mkF m 130 #[.val (.int k1), .val (.int k2), .val (.int k3), .val (.int k4), .val (.int k5), .val (.int k6), .val (.int v3), .val (.int m68_l7), .val (.int m68_l8), .val (.ref b47), .val (.ref b52), .val (.ref b58)] [(.int m68_l8), (.int r125)])) _
        refine XS.icmpYes X78.here hx rfl (pc0 := 130) (pc' := 137) rfl (hb hby at_130) rfl (feq d79).2 (by decide) (by decide) ?_
        show Steps p.tables e below (T78.setTop (mkF m 137 #[.val (.int k1), .val (.int k2), .val (.int k3), .val (.int k4), .val (.int k5), .val (.int k6), .val (.int v3), .val (.int m68_l7), .val (.int m68_l8), .val (.ref b47), .val (.ref b52), .val (.ref b58)] [])) _
        refine XS.iconst X78.here hx rfl (hb hby at_137) ?_
        show Steps p.tables e below (T78.setTop (mkF m 138 #[.val (.int k1), .val (.int k2), .val (.int k3), .val (.int k4), .val (.int k5), .val (.int k6), .val (.int v3), .val (.int m68_l7), .val (.int m68_l8), .val (.ref b47), .val (.ref b52), .val (.ref b58)] [(.int (0 : Int32))])) _
        exact castTop (by simp only [hm138, if_neg d79]) kt
    obtain ⟨fs, hr, hrun, hended, hW, hsame⟩ := X78.leave (v := some (Value.int (nar .boolean m138))) (fun h => by rw [Bd.returns] at h; cases h)
    have hres81 : (nar .boolean m138) = (1 : Int32) := (own_leaf_0_138_f k1 k2 k3 k4 k5 k6 cs hcs v3 hv3 m68_l7 hm68_l7 m68_l8 hm68_l8 hc74_7 hp52_hcs hp52_hch r125 hr125 m138 hm138)
    have hE := hS.ended hW (show _ ≤ T78.heap.size from e78.symm ▸ hk76) hsame
    refine ⟨_, _, pre80 _ ?_, hrun, hended, _, _, rfl, ?_, ⟨_, rfl⟩, hE.1, hE.2.1, hE.2.2.mono (by decide) (by decide)⟩
    · skip
      show Steps p.tables e below (T78.setTop (mkF m 138 #[.val (.int k1), .val (.int k2), .val (.int k3), .val (.int k4), .val (.int k5), .val (.int k6), .val (.int v3), .val (.int m68_l7), .val (.int m68_l8), .val (.ref b47), .val (.ref b52), .val (.ref b58)] [(.int m138)])) _
      exact retN X78 hx (t := .boolean) Bd.returns (by simp) (hb hby at_138) hr
    · show Q0 Z k1 k2 k3 k4 k5 k6 cs h0 n0 _ T78.heap _
      rw [e78]
      exact ⟨congrArg (fun z => some (Value.int z)) hres81, N78⟩
set_option maxRecDepth 65536 in
set_option maxHeartbeats 40000000 in
theorem comes_1 {Post : Tables → Env → Array Value → State → Outcome → State → Prop} (hpost : ∀ tb e args s v u, (limb_1_1.after args s (.returned v) u = true ∧ limb_1_2.after args s (.returned v) u = true ∧ True) → FrameWide s (.returned v) u (Jvm.fieldLocs frame_1_writes args s ++ Jvm.arrayLocs frame_1_arrays args s ++ Jvm.staticLocs frame_1_statics s) 24 1152 → Post tb e args s (.returned v) u) :
    ArmFor flags0 classFile x code maxLocals ret World_1 tables_1 room_1 Calls_1 rest_1 Pre_1 Post := by
  intro l hfl _ _ p e ha hc hk s m args below hf hA hF happ hP
  obtain ⟨hcalls, hrest, hpre⟩ := hP
  obtain ⟨-, -, -, hnamed, -, -, -, hat⟩ := (Spec.applies_iff hf).mp happ
  obtain ⟨hg, hn⟩ := and_e (Cond.before_iff.mp (show (Jvm.Cond.and given_1 narrow_1).before args s = true from hpre))
  obtain ⟨gv1, gv2⟩ := and_e hg
  obtain ⟨gv3, gv4⟩ := and_e gv2
  obtain ⟨gv5, gv6⟩ := and_e gv4
  obtain ⟨gv7, gv8⟩ := and_e gv6
  obtain ⟨gv9, gv10⟩ := and_e gv8
  obtain ⟨gv11, gv12⟩ := and_e gv10
  obtain ⟨w0, w1, w2, w3, w4, w5, rfl⟩ : ∃ w0 w1 w2 w3 w4 w5 : Value, args = #[w0, w1, w2, w3, w4, w5] := by
    have hs : args.size = 6 := by simpa [Cond.value, given_1] using gv1
    obtain ⟨L⟩ := args
    match L, hs with
    | [w0, w1, w2, w3, w4, w5], _ => exact ⟨w0, w1, w2, w3, w4, w5, rfl⟩
  have hw := fun d (hd : d ∈ tables_1) => atoms_spec (ws := Jvm.Cond.code x code maxLocals ret :: tables_1) hat d (List.mem_cons_of_mem _ hd)
  obtain ⟨hsets, hown0⟩ := atoms_of _ (rest_1_c_eq ▸ (show rest_1_c.before _ s = true from hrest))
  obtain ⟨i0, ei0⟩ := is_v gv3
  obtain rfl : w0 = (.int i0) := Option.some.inj ei0
  obtain ⟨i1, ei1⟩ := is_v gv5
  obtain rfl : w1 = (.int i1) := Option.some.inj ei1
  obtain ⟨i2, ei2⟩ := is_v gv7
  obtain rfl : w2 = (.int i2) := Option.some.inj ei2
  obtain ⟨i3, ei3⟩ := is_v gv9
  obtain rfl : w3 = (.int i3) := Option.some.inj ei3
  obtain ⟨i4, ei4⟩ := is_v gv11
  obtain rfl : w4 = (.int i4) := Option.some.inj ei4
  obtain ⟨i5, ei5⟩ := is_v gv12
  obtain rfl : w5 = (.int i5) := Option.some.inj ei5
  obtain ⟨cs, ecs⟩ := is_v (Cond.before_iff.mp (hsets _ (List.mem_of_getElem? (i := 1) rfl)))
  have q2 := not_v (Cond.before_iff.mp (hsets _ (List.mem_of_getElem? (i := 2) rfl)))
  have hcs : ¬ cs = (0 : Int32) := fun q => by subst q; rw [eq_i ecs (Term.int_eval (0)) rfl] at q2; cases q2
  have hS0 : Sta s s.heap "java/lang/String" "COMPACT_STRINGS" "Z" (.int cs) := Sta.start ecs (Or.inl (hsets _ (List.mem_of_getElem? (i := 0) rfl)))
  obtain ⟨n, o, h1, h2, h3, _, L, rfl, ⟨rfl, N⟩, hq⟩ := rm0 l s _ hw tables_1 i0 i1 i2 i3 i4 i5 cs s.heap s.heap.size (Nat.le_refl _) hS0 hcs p e ha hc hk s m _ below hf ((Spec.applies_iff_loose hf).mp happ).1 ⟨rfl, State.Warmed39.refl s, rfl⟩ trivial
  refine ⟨n, _, h1, h2, h3, hpost _ _ _ _ _ _ ⟨Cond.after_iff.mpr rfl, Cond.after_iff.mpr (eq_i res_at (Term.int_eval (1)) rfl), trivial⟩ ⟨hq.1, hq.2.1, hq.2.2.1, (hq.2.2.2.sift fun y hy => Or.inr (N y hy)).mono (by decide) (by decide)⟩⟩
theorem main_1_1 : Claimed_1_1 := comes_1 fun _ _ _ _ _ _ h hF => ⟨h.1, hF⟩
theorem main_1_2 : Claimed_1_2 := comes_1 fun _ _ _ _ _ _ h hF => ⟨h.2.1, hF⟩
end Jvm.Pilot.@@N@@
namespace Jvm.Pilot.@@N@@
open Jvm Jvm.ClassFile Sem Op Lib Jvm.Free Jvm.Stand Jvm.Pilot.@@N@@.Jvm.D
/-! MADE BY PROGRAM (witnessworld.py) out of the Statement's table words and the real class files: 17 classes; the members and pool entries that the words name. The judged class is class 1, her method 1. -/
namespace start1
open Jvm.ClassFile
def u (s : String) : CpInfo := .utf8 (stringToUtf16 s)
/-- a pool by its gaps: so many unusable entries, then the entry; so many at the end -/
def gap : Nat → List CpInfo → List CpInfo
  | 0, r => r
  | n + 1, r => .unusable :: gap n r
def poolList (es : List (Nat × CpInfo)) (last : Nat) : List CpInfo := es.foldr (fun e r => gap e.1 (e.2 :: r)) (gap last [])
def pool (es : List (Nat × CpInfo)) (last : Nat) : Array CpInfo := ⟨poolList es last⟩
def fileOf (pool : Array CpInfo) (this : Nat) (attrs : Array Attribute := #[]) (ms : Array MethodInfo := #[]) (fl : Nat := 33) (sup : Nat := 0) (ifs : Array Nat := #[]) (fds : Array FieldInfo := #[]) : ClassFile where
  minorVersion := 0
  majorVersion := 65
  constantPool := pool
  accessFlags := fl
  thisClass := this
  superClass := sup
  interfaces := ifs
  fields := fds
  methods := ms
  attributes := attrs
def plain (name : String) (sup : Option ClassId) : Class where
  name := name
  kind := .ordinary
  loader := none
  accessFlags := 33
  super := sup
  interfaces := #[]
  cf := none
  fields := #[]
  methods := #[]
  instanceTypes := #[]
  staticTypes := #[]
  resolved := #[]
  callSites := []
  init := .initialized
  statics := none
  mirror := none

def pool0 : Array CpInfo := pool [(5, u "<init>"), (0, u "()V"), (1, .class_ 10), (1, u "java/lang/Object")] 113

def k0c0 : Code := { maxStack := 0, maxLocals := 1, code := object_method_1_code, exceptionTable := #[], attributes := #[] }
def k0m0 : Method := { name := "<init>", desc := "()V", sig := { parameters := [], returnType := none }, accessFlags := 1, code := some k0c0 }
/-- java/lang/Object -/
def k0 : Class := { plain "java/lang/Object" none with
  accessFlags := 33
  interfaces := #[]
  cf := some (fileOf pool0 8 #[] #[{ accessFlags := 1, nameIndex := 5, descriptorIndex := 6, attributes := #[] }] 33 0 #[] #[])
  fields := #[]
  methods := #[k0m0]
  instanceTypes := #[]
  staticTypes := #[]
  resolved := Array.replicate 124 none
  statics := none }

def pool1 : Array CpInfo := pool [(2, .class_ 4), (1, u "java/lang/Object"), (0, u "<init>"), (0, u "()V"), (0, .string 8), (0, u ""), (0, .methodref 10 11), (0, .class_ 12), (0, .nameAndType 13 14), (0, u "java/lang/String"), (0, u "valueOf"), (0, u "(C)Ljava/lang/String;"), (0, .class_ 16), (0, u "com/example/twigmeter/twigmeter/sample/Group"), (0, .methodref 15 18), (0, .nameAndType 5 19), (0, u "(ILjava/lang/String;Ljava/lang/String;II)V"), (0, .methodref 15 21), (0, .nameAndType 22 23), (0, u "isDrawnWhole"), (0, u "()Z"), (0, .class_ 25), (0, u "com/example/twigmeter/twigmeter/sample/GroupIsDrawnWholePinLaw"), (2, u "law"), (0, u "(IIIIII)Z")] 3

def k1m0 : Method := { name := "<init>", desc := "()V", sig := { parameters := [], returnType := none }, accessFlags := 1, code := none }
def k1c1 : Code := { maxStack := 7, maxLocals := 12, code := code, exceptionTable := #[], attributes := #[] }
def k1m1 : Method := { name := "law", desc := "(IIIIII)Z", sig := { parameters := [.int, .int, .int, .int, .int, .int], returnType := some .boolean }, accessFlags := 9, code := some k1c1 }
/-- com/example/twigmeter/twigmeter/sample/GroupIsDrawnWholePinLaw -/
def k1 : Class := { plain "com/example/twigmeter/twigmeter/sample/GroupIsDrawnWholePinLaw" (some 0) with
  accessFlags := 49
  interfaces := #[]
  cf := some (fileOf pool1 24 #[] #[{ accessFlags := 1, nameIndex := 5, descriptorIndex := 6, attributes := #[] }, { accessFlags := 9, nameIndex := 28, descriptorIndex := 29, attributes := #[] }] 49 2 #[] #[])
  fields := #[]
  methods := #[k1m0, k1m1]
  instanceTypes := #[]
  staticTypes := #[]
  resolved := Array.replicate 33 none
  statics := none }

def pool2 : Array CpInfo := pool [(1, .class_ 2), (0, u "java/io/Serializable"), (0, .class_ 4), (0, u "java/lang/Object")] 2

/-- java/io/Serializable -/
def k2 : Class := { plain "java/io/Serializable" (some 0) with
  accessFlags := 1537
  interfaces := #[]
  cf := some (fileOf pool2 1 #[] #[] 1537 3 #[] #[])
  fields := #[]
  methods := #[]
  instanceTypes := #[]
  staticTypes := #[]
  resolved := Array.replicate 7 none
  statics := none }

def pool3 : Array CpInfo := pool [(1, .class_ 2), (0, u "java/lang/Comparable"), (0, .class_ 4), (0, u "java/lang/Object")] 7

/-- java/lang/Comparable -/
def k3 : Class := { plain "java/lang/Comparable" (some 0) with
  accessFlags := 1537
  interfaces := #[]
  cf := some (fileOf pool3 1 #[] #[] 1537 3 #[] #[])
  fields := #[]
  methods := #[]
  instanceTypes := #[]
  staticTypes := #[]
  resolved := Array.replicate 12 none
  statics := none }

def pool4 : Array CpInfo := pool [(2, .class_ 4), (1, u "java/lang/CharSequence"), (42, .class_ 48), (0, u "java/lang/CharSequence$1CodePointIterator"), (10, .class_ 60), (0, u "java/lang/CharSequence$1CharIterator"), (5, .class_ 67), (0, u "java/lang/Object")] 63

/-- java/lang/CharSequence -/
def k4 : Class := { plain "java/lang/CharSequence" (some 0) with
  accessFlags := 1537
  interfaces := #[]
  cf := some (fileOf pool4 2 #[.nestMembers #[47, 59]] #[] 1537 66 #[] #[])
  fields := #[]
  methods := #[]
  instanceTypes := #[]
  staticTypes := #[]
  resolved := Array.replicate 131 none
  statics := none }

def pool5 : Array CpInfo := pool [(1, .class_ 2), (0, u "java/lang/constant/Constable"), (0, .class_ 4), (0, u "java/lang/Object")] 6

/-- java/lang/constant/Constable -/
def k5 : Class := { plain "java/lang/constant/Constable" (some 0) with
  accessFlags := 1537
  interfaces := #[]
  cf := some (fileOf pool5 1 #[] #[] 1537 3 #[] #[])
  fields := #[]
  methods := #[]
  instanceTypes := #[]
  staticTypes := #[]
  resolved := Array.replicate 11 none
  statics := none }

def pool6 : Array CpInfo := pool [(1, .class_ 2), (0, u "java/lang/constant/ConstantDesc"), (0, .class_ 4), (0, u "java/lang/Object")] 32

/-- java/lang/constant/ConstantDesc -/
def k6 : Class := { plain "java/lang/constant/ConstantDesc" (some 0) with
  accessFlags := 1537
  interfaces := #[]
  cf := some (fileOf pool6 1 #[] #[] 1537 3 #[] #[])
  fields := #[]
  methods := #[]
  instanceTypes := #[]
  staticTypes := #[]
  resolved := Array.replicate 37 none
  statics := none }

def pool7 : Array CpInfo := pool [(1, .methodref 2 3), (0, .class_ 4), (0, .nameAndType 5 6), (0, u "java/lang/Object"), (0, u "<init>"), (0, u "()V"), (2, .fieldref 10 11), (0, .class_ 12), (0, .nameAndType 13 14), (0, u "java/lang/String"), (0, u "value"), (0, u "[B"), (0, .fieldref 10 16), (0, .nameAndType 17 18), (0, u "coder"), (0, u "B"), (2, u "hash"), (0, u "I"), (2, u "hashIsZero"), (0, u "Z"), (11, .fieldref 10 39), (0, .nameAndType 40 26), (0, u "COMPACT_STRINGS"), (12, u "toBytes"), (53, .class_ 109), (1, u "java/lang/StringLatin1"), (99, .methodref 10 210), (0, .nameAndType 5 211), (0, u "([BB)V"), (157, u "(C)Z"), (205, .class_ 576), (0, u "java/lang/CharSequence"), (22, u "CASE_INSENSITIVE_ORDER"), (0, u "Ljava/util/Comparator;"), (181, u "valueOf"), (0, u "(C)Ljava/lang/String;"), (231, .methodref 107 1016), (0, .nameAndType 1017 369), (0, u "canEncode"), (0, .methodref 107 1019), (0, .nameAndType 53 1020), (0, u "(C)[B"), (80, u "serialPersistentFields"), (0, u "[Ljava/io/ObjectStreamField;"), (0, .class_ 1104), (0, u "java/lang/String$CaseInsensitiveComparator"), (1, .class_ 1107), (0, u "java/io/Serializable"), (0, .class_ 1109), (0, u "java/lang/Comparable"), (0, .class_ 1111), (0, u "java/lang/constant/Constable"), (0, .class_ 1113), (0, u "java/lang/constant/ConstantDesc"), (2, u "serialVersionUID"), (0, u "J"), (3, u "REPL"), (0, u "C"), (2, u "LATIN1"), (1, u "UTF16")] 323

def k7m0 : Method := { name := "<init>", desc := "()V", sig := { parameters := [], returnType := none }, accessFlags := 1, code := none }
def k7c1 : Code := { maxStack := 4, maxLocals := 1, code := jdk_42_method_139_code, exceptionTable := #[], attributes := #[] }
def k7m1 : Method := { name := "valueOf", desc := "(C)Ljava/lang/String;", sig := { parameters := [.char], returnType := some (.object "java/lang/String") }, accessFlags := 9, code := some k7c1 }
def k7c2 : Code := { maxStack := 2, maxLocals := 3, code := jdk_42_method_151_code, exceptionTable := #[], attributes := #[] }
def k7m2 : Method := { name := "<init>", desc := "([BB)V", sig := { parameters := [(.array .byte), .byte], returnType := none }, accessFlags := 0, code := some k7c2 }
/-- java/lang/String -/
def k7 : Class := { plain "java/lang/String" (some 0) with
  accessFlags := 49
  interfaces := #[2, 3, 4, 5, 6]
  cf := some (fileOf pool7 10 #[.nestMembers #[1103]] #[{ accessFlags := 1, nameIndex := 5, descriptorIndex := 6, attributes := #[] }, { accessFlags := 9, nameIndex := 782, descriptorIndex := 783, attributes := #[] }, { accessFlags := 0, nameIndex := 5, descriptorIndex := 211, attributes := #[] }] 49 2 #[1106, 1108, 575, 1110, 1112] #[{ accessFlags := 18, nameIndex := 13, descriptorIndex := 14, attributes := #[] }, { accessFlags := 18, nameIndex := 17, descriptorIndex := 18, attributes := #[] }, { accessFlags := 2, nameIndex := 21, descriptorIndex := 22, attributes := #[] }, { accessFlags := 2, nameIndex := 25, descriptorIndex := 26, attributes := #[] }, { accessFlags := 26, nameIndex := 1116, descriptorIndex := 1117, attributes := #[] }, { accessFlags := 24, nameIndex := 40, descriptorIndex := 26, attributes := #[] }, { accessFlags := 26, nameIndex := 1101, descriptorIndex := 1102, attributes := #[] }, { accessFlags := 26, nameIndex := 1121, descriptorIndex := 1122, attributes := #[] }, { accessFlags := 25, nameIndex := 599, descriptorIndex := 600, attributes := #[] }, { accessFlags := 24, nameIndex := 1125, descriptorIndex := 18, attributes := #[] }, { accessFlags := 24, nameIndex := 1127, descriptorIndex := 18, attributes := #[] }])
  fields := #[{ name := "value", type := (.array .byte), accessFlags := 18, slot := 0, constantValue := 0 }, { name := "coder", type := .byte, accessFlags := 18, slot := 1, constantValue := 0 }, { name := "hash", type := .int, accessFlags := 2, slot := 2, constantValue := 0 }, { name := "hashIsZero", type := .boolean, accessFlags := 2, slot := 3, constantValue := 0 }, { name := "serialVersionUID", type := .long, accessFlags := 26, slot := 0, constantValue := 0 }, { name := "COMPACT_STRINGS", type := .boolean, accessFlags := 24, slot := 1, constantValue := 0 }, { name := "serialPersistentFields", type := (.array (.object "java/io/ObjectStreamField")), accessFlags := 26, slot := 2, constantValue := 0 }, { name := "REPL", type := .char, accessFlags := 26, slot := 3, constantValue := 0 }, { name := "CASE_INSENSITIVE_ORDER", type := (.object "java/util/Comparator"), accessFlags := 25, slot := 4, constantValue := 0 }, { name := "LATIN1", type := .byte, accessFlags := 24, slot := 5, constantValue := 0 }, { name := "UTF16", type := .byte, accessFlags := 24, slot := 6, constantValue := 0 }]
  methods := #[k7m0, k7m1, k7m2]
  instanceTypes := #[(.array .byte), .byte, .int, .boolean]
  staticTypes := #[.long, .boolean, (.array (.object "java/io/ObjectStreamField")), .char, (.object "java/util/Comparator"), .byte, .byte]
  resolved := Array.replicate 1451 none
  statics := some 0 }

def pool8 : Array CpInfo := pool [(4, .class_ 6), (1, u "java/lang/Object"), (0, u "<init>"), (0, u "()V"), (5, .class_ 16), (1, u "java/lang/StringLatin1"), (73, u "canEncode"), (14, u "(C)Z"), (15, u "$assertionsDisabled"), (0, u "Z"), (98, .class_ 223), (1, u "java/lang/StringLatin1$LinesSpliterator"), (156, u "toBytes"), (1, u "(C)[B"), (7, .class_ 391), (0, u "java/lang/StringLatin1$CharsSpliterator")] 3

def k8m0 : Method := { name := "<init>", desc := "()V", sig := { parameters := [], returnType := none }, accessFlags := 0, code := none }
def k8c1 : Code := { maxStack := 2, maxLocals := 1, code := jdk_43_method_3_code, exceptionTable := #[], attributes := #[] }
def k8m1 : Method := { name := "canEncode", desc := "(C)Z", sig := { parameters := [.char], returnType := some .boolean }, accessFlags := 9, code := some k8c1 }
def k8c2 : Code := { maxStack := 4, maxLocals := 1, code := jdk_43_method_46_code, exceptionTable := #[], attributes := #[] }
def k8m2 : Method := { name := "toBytes", desc := "(C)[B", sig := { parameters := [.char], returnType := some (.array .byte) }, accessFlags := 9, code := some k8c2 }
/-- java/lang/StringLatin1 -/
def k8 : Class := { plain "java/lang/StringLatin1" (some 0) with
  accessFlags := 48
  interfaces := #[]
  cf := some (fileOf pool8 14 #[.nestMembers #[390, 221]] #[{ accessFlags := 0, nameIndex := 7, descriptorIndex := 8, attributes := #[] }, { accessFlags := 9, nameIndex := 90, descriptorIndex := 105, attributes := #[] }, { accessFlags := 9, nameIndex := 380, descriptorIndex := 382, attributes := #[] }] 48 4 #[] #[{ accessFlags := 4120, nameIndex := 121, descriptorIndex := 122, attributes := #[] }])
  fields := #[{ name := "$assertionsDisabled", type := .boolean, accessFlags := 4120, slot := 0, constantValue := 0 }]
  methods := #[k8m0, k8m1, k8m2]
  instanceTypes := #[]
  staticTypes := #[.boolean]
  resolved := Array.replicate 395 none
  statics := none }

def pool9 : Array CpInfo := pool [(1, .methodref 2 3), (0, .class_ 4), (0, .nameAndType 5 6), (0, u "java/lang/Object"), (0, u "<init>"), (0, u "()V"), (0, .fieldref 8 9), (0, .class_ 10), (0, .nameAndType 11 12), (0, u "com/example/twigmeter/twigmeter/sample/Group"), (0, u "level"), (0, u "I"), (0, .fieldref 8 14), (0, .nameAndType 15 16), (0, u "namespaceUri"), (0, u "Ljava/lang/String;"), (0, .fieldref 8 18), (0, .nameAndType 19 16), (0, u "localName"), (0, .fieldref 8 21), (0, .nameAndType 22 12), (0, u "population"), (0, .fieldref 8 24), (0, .nameAndType 25 12), (0, u "drawn"), (9, u "()Z"), (88, u "isDrawnWhole"), (0, u "(ILjava/lang/String;Ljava/lang/String;II)V")] 11

def k9c0 : Code := { maxStack := 2, maxLocals := 6, code := prog_33_method_1_code, exceptionTable := #[], attributes := #[] }
def k9m0 : Method := { name := "<init>", desc := "(ILjava/lang/String;Ljava/lang/String;II)V", sig := { parameters := [.int, (.object "java/lang/String"), (.object "java/lang/String"), .int, .int], returnType := none }, accessFlags := 0, code := some k9c0 }
def k9c1 : Code := { maxStack := 2, maxLocals := 1, code := prog_33_method_9_code, exceptionTable := #[], attributes := #[] }
def k9m1 : Method := { name := "isDrawnWhole", desc := "()Z", sig := { parameters := [], returnType := some .boolean }, accessFlags := 1, code := some k9c1 }
/-- com/example/twigmeter/twigmeter/sample/Group -/
def k9 : Class := { plain "com/example/twigmeter/twigmeter/sample/Group" (some 0) with
  accessFlags := 49
  interfaces := #[]
  cf := some (fileOf pool9 8 #[] #[{ accessFlags := 0, nameIndex := 5, descriptorIndex := 125, attributes := #[] }, { accessFlags := 1, nameIndex := 124, descriptorIndex := 35, attributes := #[] }] 49 2 #[] #[{ accessFlags := 18, nameIndex := 11, descriptorIndex := 12, attributes := #[] }, { accessFlags := 18, nameIndex := 15, descriptorIndex := 16, attributes := #[] }, { accessFlags := 18, nameIndex := 19, descriptorIndex := 16, attributes := #[] }, { accessFlags := 18, nameIndex := 22, descriptorIndex := 12, attributes := #[] }, { accessFlags := 18, nameIndex := 25, descriptorIndex := 12, attributes := #[] }])
  fields := #[{ name := "level", type := .int, accessFlags := 18, slot := 0, constantValue := 0 }, { name := "namespaceUri", type := (.object "java/lang/String"), accessFlags := 18, slot := 1, constantValue := 0 }, { name := "localName", type := (.object "java/lang/String"), accessFlags := 18, slot := 2, constantValue := 0 }, { name := "population", type := .int, accessFlags := 18, slot := 3, constantValue := 0 }, { name := "drawn", type := .int, accessFlags := 18, slot := 4, constantValue := 0 }]
  methods := #[k9m0, k9m1]
  instanceTypes := #[.int, (.object "java/lang/String"), (.object "java/lang/String"), .int, .int]
  staticTypes := #[]
  resolved := Array.replicate 137 none
  statics := none }

def pool10 : Array CpInfo := pool [(2, .class_ 4), (1, u "java/lang/Object"), (0, u "<init>"), (0, u "()V"), (17, .class_ 26), (1, u "jdk/internal/util/Preconditions"), (28, .class_ 56), (0, u "jdk/internal/util/Preconditions$4"), (57, .class_ 115), (0, u "jdk/internal/util/Preconditions$1"), (7, u "SIOOBE_FORMATTER"), (0, u "Ljava/util/function/BiFunction;"), (0, .class_ 126), (0, u "jdk/internal/util/Preconditions$2"), (3, u "AIOOBE_FORMATTER"), (0, .class_ 132), (0, u "jdk/internal/util/Preconditions$3"), (3, u "IOOBE_FORMATTER")] 57

def k10m0 : Method := { name := "<init>", desc := "()V", sig := { parameters := [], returnType := none }, accessFlags := 1, code := none }
/-- jdk/internal/util/Preconditions -/
def k10 : Class := { plain "jdk/internal/util/Preconditions" (some 0) with
  accessFlags := 33
  interfaces := #[]
  cf := some (fileOf pool10 24 #[.nestMembers #[55, 131, 125, 114]] #[{ accessFlags := 1, nameIndex := 5, descriptorIndex := 6, attributes := #[] }] 33 2 #[] #[{ accessFlags := 25, nameIndex := 123, descriptorIndex := 124, attributes := #[] }, { accessFlags := 25, nameIndex := 130, descriptorIndex := 124, attributes := #[] }, { accessFlags := 25, nameIndex := 136, descriptorIndex := 124, attributes := #[] }])
  fields := #[{ name := "SIOOBE_FORMATTER", type := (.object "java/util/function/BiFunction"), accessFlags := 25, slot := 0, constantValue := 0 }, { name := "AIOOBE_FORMATTER", type := (.object "java/util/function/BiFunction"), accessFlags := 25, slot := 1, constantValue := 0 }, { name := "IOOBE_FORMATTER", type := (.object "java/util/function/BiFunction"), accessFlags := 25, slot := 2, constantValue := 0 }]
  methods := #[k10m0]
  instanceTypes := #[]
  staticTypes := #[(.object "java/util/function/BiFunction"), (.object "java/util/function/BiFunction"), (.object "java/util/function/BiFunction")]
  resolved := Array.replicate 194 none
  statics := some 1 }

def pool11 : Array CpInfo := pool [(9, u "<init>"), (6, .class_ 18), (1, u "java/lang/Object"), (0, u "()V"), (1, .class_ 23), (1, u "jdk/internal/util/ArraysSupport"), (0, u "LOG2_ARRAY_LONG_INDEX_SCALE"), (0, u "I"), (2, u "U"), (0, u "Ljdk/internal/misc/Unsafe;"), (8, u "BIG_ENDIAN"), (0, u "Z"), (8, u "LOG2_BYTE_BIT_SIZE"), (4, u "LOG2_ARRAY_INT_INDEX_SCALE"), (54, u "JLA"), (0, u "Ljdk/internal/access/JavaLangAccess;"), (11, u "LOG2_ARRAY_BOOLEAN_INDEX_SCALE"), (9, u "LOG2_ARRAY_BYTE_INDEX_SCALE"), (5, u "LOG2_ARRAY_CHAR_INDEX_SCALE"), (5, u "LOG2_ARRAY_SHORT_INDEX_SCALE"), (18, u "LOG2_ARRAY_FLOAT_INDEX_SCALE"), (24, u "LOG2_ARRAY_DOUBLE_INDEX_SCALE"), (89, u "T_BOOLEAN"), (2, u "T_CHAR"), (1, u "T_FLOAT"), (1, u "T_DOUBLE"), (1, u "T_BYTE"), (1, u "T_SHORT"), (1, u "T_INT"), (1, u "T_LONG"), (1, u "SOFT_MAX_ARRAY_LENGTH")] 83

def k11m0 : Method := { name := "<init>", desc := "()V", sig := { parameters := [], returnType := none }, accessFlags := 2, code := none }
/-- jdk/internal/util/ArraysSupport -/
def k11 : Class := { plain "jdk/internal/util/ArraysSupport" (some 0) with
  accessFlags := 33
  interfaces := #[]
  cf := some (fileOf pool11 21 #[] #[{ accessFlags := 2, nameIndex := 9, descriptorIndex := 19, attributes := #[] }] 33 16 #[] #[{ accessFlags := 24, nameIndex := 28, descriptorIndex := 29, attributes := #[] }, { accessFlags := 26, nameIndex := 38, descriptorIndex := 39, attributes := #[] }, { accessFlags := 25, nameIndex := 121, descriptorIndex := 25, attributes := #[] }, { accessFlags := 25, nameIndex := 131, descriptorIndex := 25, attributes := #[] }, { accessFlags := 25, nameIndex := 137, descriptorIndex := 25, attributes := #[] }, { accessFlags := 25, nameIndex := 143, descriptorIndex := 25, attributes := #[] }, { accessFlags := 25, nameIndex := 53, descriptorIndex := 25, attributes := #[] }, { accessFlags := 25, nameIndex := 24, descriptorIndex := 25, attributes := #[] }, { accessFlags := 25, nameIndex := 162, descriptorIndex := 25, attributes := #[] }, { accessFlags := 25, nameIndex := 187, descriptorIndex := 25, attributes := #[] }, { accessFlags := 26, nameIndex := 48, descriptorIndex := 25, attributes := #[] }, { accessFlags := 25, nameIndex := 277, descriptorIndex := 25, attributes := #[] }, { accessFlags := 25, nameIndex := 280, descriptorIndex := 25, attributes := #[] }, { accessFlags := 25, nameIndex := 282, descriptorIndex := 25, attributes := #[] }, { accessFlags := 25, nameIndex := 284, descriptorIndex := 25, attributes := #[] }, { accessFlags := 25, nameIndex := 286, descriptorIndex := 25, attributes := #[] }, { accessFlags := 25, nameIndex := 288, descriptorIndex := 25, attributes := #[] }, { accessFlags := 25, nameIndex := 290, descriptorIndex := 25, attributes := #[] }, { accessFlags := 25, nameIndex := 292, descriptorIndex := 25, attributes := #[] }, { accessFlags := 26, nameIndex := 108, descriptorIndex := 109, attributes := #[] }, { accessFlags := 25, nameIndex := 294, descriptorIndex := 25, attributes := #[] }])
  fields := #[{ name := "U", type := (.object "jdk/internal/misc/Unsafe"), accessFlags := 24, slot := 0, constantValue := 0 }, { name := "BIG_ENDIAN", type := .boolean, accessFlags := 26, slot := 1, constantValue := 0 }, { name := "LOG2_ARRAY_BOOLEAN_INDEX_SCALE", type := .int, accessFlags := 25, slot := 2, constantValue := 0 }, { name := "LOG2_ARRAY_BYTE_INDEX_SCALE", type := .int, accessFlags := 25, slot := 3, constantValue := 0 }, { name := "LOG2_ARRAY_CHAR_INDEX_SCALE", type := .int, accessFlags := 25, slot := 4, constantValue := 0 }, { name := "LOG2_ARRAY_SHORT_INDEX_SCALE", type := .int, accessFlags := 25, slot := 5, constantValue := 0 }, { name := "LOG2_ARRAY_INT_INDEX_SCALE", type := .int, accessFlags := 25, slot := 6, constantValue := 0 }, { name := "LOG2_ARRAY_LONG_INDEX_SCALE", type := .int, accessFlags := 25, slot := 7, constantValue := 0 }, { name := "LOG2_ARRAY_FLOAT_INDEX_SCALE", type := .int, accessFlags := 25, slot := 8, constantValue := 0 }, { name := "LOG2_ARRAY_DOUBLE_INDEX_SCALE", type := .int, accessFlags := 25, slot := 9, constantValue := 0 }, { name := "LOG2_BYTE_BIT_SIZE", type := .int, accessFlags := 26, slot := 10, constantValue := 0 }, { name := "T_BOOLEAN", type := .int, accessFlags := 25, slot := 11, constantValue := 0 }, { name := "T_CHAR", type := .int, accessFlags := 25, slot := 12, constantValue := 0 }, { name := "T_FLOAT", type := .int, accessFlags := 25, slot := 13, constantValue := 0 }, { name := "T_DOUBLE", type := .int, accessFlags := 25, slot := 14, constantValue := 0 }, { name := "T_BYTE", type := .int, accessFlags := 25, slot := 15, constantValue := 0 }, { name := "T_SHORT", type := .int, accessFlags := 25, slot := 16, constantValue := 0 }, { name := "T_INT", type := .int, accessFlags := 25, slot := 17, constantValue := 0 }, { name := "T_LONG", type := .int, accessFlags := 25, slot := 18, constantValue := 0 }, { name := "JLA", type := (.object "jdk/internal/access/JavaLangAccess"), accessFlags := 26, slot := 19, constantValue := 0 }, { name := "SOFT_MAX_ARRAY_LENGTH", type := .int, accessFlags := 25, slot := 20, constantValue := 0 }]
  methods := #[k11m0]
  instanceTypes := #[]
  staticTypes := #[(.object "jdk/internal/misc/Unsafe"), .boolean, .int, .int, .int, .int, .int, .int, .int, .int, .int, .int, .int, .int, .int, .int, .int, .int, .int, (.object "jdk/internal/access/JavaLangAccess"), .int]
  resolved := Array.replicate 378 none
  statics := none }

def pool12 : Array CpInfo := pool [(1, u "java/lang/Cloneable"), (0, .class_ 1), (0, u "java/lang/Object"), (0, .class_ 3)] 3

/-- java/lang/Cloneable -/
def k12 : Class := { plain "java/lang/Cloneable" (some 0) with
  accessFlags := 1537
  interfaces := #[]
  cf := some (fileOf pool12 2 #[] #[] 1537 4 #[] #[])
  fields := #[]
  methods := #[]
  instanceTypes := #[]
  staticTypes := #[]
  resolved := Array.replicate 8 none
  statics := none }

/-- the primitive byte -/
def k13 : Class := { plain "byte" none with kind := .primitive 'B', accessFlags := 0x411 }
/-- [B -/
def k14 : Class := { plain "[B" (some 0) with kind := .array 13 .byte, interfaces := #[12, 2], accessFlags := 1041 }

/-- the primitive int -/
def k15 : Class := { plain "int" none with kind := .primitive 'I', accessFlags := 0x411 }
/-- [I -/
def k16 : Class := { plain "[I" (some 0) with kind := .array 15 .int, interfaces := #[12, 2], accessFlags := 1041 }

def heap : Heap := #[{ cls := 7, slots := #[.long 0, .int 1, .null, .int 0, .null, .int 0, .int 0], vm := .statics 7 },
  { cls := 10, slots := #[.null, .null, .null], vm := .statics 10 }]
def classes : Array Class := #[k0, k1, k2, k3, k4, k5, k6, k7, k8, k9, k10, k11, k12, k13, k14, k15, k16]
def interned : List (Array UInt16 × Addr) := []
def slotsUsed : Nat := 10
def theMethod : MethodId := ⟨1, 1⟩
def args0 : Array Value := #[.int 5, .int 6, .int 6, .int 0, .int 65, .int 66]
def aboutOver (below : List Frame) : State where
  vm := { classes := classes, interned := interned.toArray }
  heap := heap
  slotsUsed := slotsUsed
  threads := #[{ frames := .invoking theMethod args0 :: below }]
def below0 : List Frame := [.native { method := ⟨0, 0⟩, args := #[] }]
def about1 : State := aboutOver below0
def p0 : Program := .bare "" "" ""
def e0 : Env := launch0.env 0 0 0
theorem w_frames : about1.frames = Frame.invoking theMethod args0 :: below0 := rfl
set_option maxRecDepth 65536 in
theorem w_args : argsFit about1.vm theMethod args0 = true := by decide +kernel
set_option maxRecDepth 65536 in
theorem w_heap : heapFits about1 = true := by decide +kernel
set_option maxRecDepth 65536 in
theorem w_runnable : about1.curStatus? = some .runnable := by decide +kernel
set_option maxRecDepth 65536 in
theorem w_alone : about1.alone = true := by decide +kernel
set_option maxRecDepth 65536 in
theorem w_named : about1.methodNamed? x = some theMethod := by decide +kernel
set_option maxRecDepth 65536 in
theorem w_hears : about1.hears theMethod below0 = true := by decide +kernel
set_option maxRecDepth 65536 in
theorem w_ripe : about1.ripe theMethod args0 below0 = true := by decide +kernel
theorem w_running : about1.status = .running := rfl
set_option maxRecDepth 65536 in
theorem w_room : about1.hasRoom e0.platform room_1 = true :=
  launch0.hasRoom_least _ room_1 (by decide +kernel) (by decide +kernel) (by decide +kernel) (by decide +kernel) (by decide +kernel) (by decide +kernel)
theorem allAtoms_all (ts : List Jvm.Cond) (a : Array Jvm.Value) (st : Jvm.State) : (allAtoms ts).before a st = ts.all (fun c => c.before a st) := by
  induction ts with
  | nil => rfl
  | cons c t ih =>
    show (Jvm.Cond.and c (allAtoms t)).before a st = _
    rw [Jvm.Cond.before_and, ih, List.all_cons]
def words1 : List Jvm.Cond := Jvm.Cond.code x code maxLocals ret :: tables_1
/-- a 'code' word, met by the world's own term for the bytes: nothing is compared byte by byte -/
theorem code_word {y : MethodName} {bytes : ByteArray} {mx : Nat} {rt : Option FieldType} {a : Array Value} {s : State} {m : MethodId} {meth : Method} {c : Code} (h1 : s.methodNamed? y = some m) (h2 : s.vm.method? m = some meth) (h3 : meth.code = some c) (h4 : c.code = bytes)
    (h5 : (c.maxLocals == mx && c.exceptionTable.isEmpty && decide (c.maxStack ≤ mostOperands) && decide (meth.sig.returnType = rt) && !meth.locks && decide (parseMethodDescriptor y.desc = some meth.sig)) = true) : (Jvm.Cond.code y bytes mx rt).before a s = true := by
  simp only [Bool.and_eq_true, beq_iff_eq, Bool.not_eq_true', decide_eq_true_eq] at h5
  obtain ⟨⟨⟨⟨⟨g1, g2⟩, g3⟩, g4⟩, g5⟩, g6⟩ := h5
  simp [Cond.before, Cond.holds, Cond.value, h1, h2, h3, h4, g1, g2, g3, g4, g5, g6]
def isCode : Jvm.Cond → Bool
  | .code _ _ _ _ => true
  | _ => false
theorem all_split {L : List Jvm.Cond} {P : Jvm.Cond → Bool} (h1 : L.all (fun c => isCode c || P c) = true) (h2 : ∀ c ∈ L.filter isCode, P c = true) : L.all P = true := by
  refine List.all_eq_true.mpr fun c hc => ?_
  have h := List.all_eq_true.mp h1 c hc
  rcases Bool.eq_false_or_eq_true (isCode c) with hi | hi
  · exact h2 c (List.mem_filter.mpr ⟨hc, hi⟩)
  · simpa [hi] using h
set_option maxRecDepth 65536 in
theorem w_c0 : (Jvm.Cond.code x code maxLocals ret).before args0 about1 = true := code_word (m := ⟨1, 1⟩) (meth := k1m1) (c := k1c1) (by decide +kernel) rfl rfl rfl (by decide +kernel)
set_option maxRecDepth 65536 in
theorem w_c1 : (Jvm.Cond.code ({ cls := "java/lang/String", name := "valueOf", desc := "(C)Ljava/lang/String;" } : Jvm.MethodName) jdk_42_method_139_code (1 : Nat) (Option.some (Jvm.ClassFile.FieldType.object "java/lang/String"))).before args0 about1 = true := code_word (m := ⟨7, 1⟩) (meth := k7m1) (c := k7c1) (by decide +kernel) rfl rfl rfl (by decide +kernel)
set_option maxRecDepth 65536 in
theorem w_c2 : (Jvm.Cond.code ({ cls := "java/lang/StringLatin1", name := "canEncode", desc := "(C)Z" } : Jvm.MethodName) jdk_43_method_3_code (1 : Nat) (Option.some Jvm.ClassFile.FieldType.boolean)).before args0 about1 = true := code_word (m := ⟨8, 1⟩) (meth := k8m1) (c := k8c1) (by decide +kernel) rfl rfl rfl (by decide +kernel)
set_option maxRecDepth 65536 in
theorem w_c3 : (Jvm.Cond.code ({ cls := "java/lang/StringLatin1", name := "toBytes", desc := "(C)[B" } : Jvm.MethodName) jdk_43_method_46_code (1 : Nat) (Option.some (Jvm.ClassFile.FieldType.array Jvm.ClassFile.FieldType.byte))).before args0 about1 = true := code_word (m := ⟨8, 2⟩) (meth := k8m2) (c := k8c2) (by decide +kernel) rfl rfl rfl (by decide +kernel)
set_option maxRecDepth 65536 in
theorem w_c4 : (Jvm.Cond.code ({ cls := "java/lang/String", name := "<init>", desc := "([BB)V" } : Jvm.MethodName) jdk_42_method_151_code (3 : Nat) (Option.none : Option Jvm.ClassFile.FieldType)).before args0 about1 = true := code_word (m := ⟨7, 2⟩) (meth := k7m2) (c := k7c2) (by decide +kernel) rfl rfl rfl (by decide +kernel)
set_option maxRecDepth 65536 in
theorem w_c5 : (Jvm.Cond.code ({ cls := "java/lang/Object", name := "<init>", desc := "()V" } : Jvm.MethodName) object_method_1_code (1 : Nat) (Option.none : Option Jvm.ClassFile.FieldType)).before args0 about1 = true := code_word (m := ⟨0, 0⟩) (meth := k0m0) (c := k0c0) (by decide +kernel) rfl rfl rfl (by decide +kernel)
set_option maxRecDepth 65536 in
theorem w_c6 : (Jvm.Cond.code ({ cls := "com/example/twigmeter/twigmeter/sample/Group", name := "<init>", desc := "(ILjava/lang/String;Ljava/lang/String;II)V" } : Jvm.MethodName) prog_33_method_1_code (6 : Nat) (Option.none : Option Jvm.ClassFile.FieldType)).before args0 about1 = true := code_word (m := ⟨9, 0⟩) (meth := k9m0) (c := k9c0) (by decide +kernel) rfl rfl rfl (by decide +kernel)
set_option maxRecDepth 65536 in
theorem w_c7 : (Jvm.Cond.code ({ cls := "com/example/twigmeter/twigmeter/sample/Group", name := "isDrawnWhole", desc := "()Z" } : Jvm.MethodName) prog_33_method_9_code (1 : Nat) (Option.some Jvm.ClassFile.FieldType.boolean)).before args0 about1 = true := code_word (m := ⟨9, 1⟩) (meth := k9m1) (c := k9c1) (by decide +kernel) rfl rfl rfl (by decide +kernel)
def codes1 : List Jvm.Cond := [Jvm.Cond.code x code maxLocals ret, Jvm.Cond.code ({ cls := "java/lang/String", name := "valueOf", desc := "(C)Ljava/lang/String;" } : Jvm.MethodName) jdk_42_method_139_code (1 : Nat) (Option.some (Jvm.ClassFile.FieldType.object "java/lang/String")), Jvm.Cond.code ({ cls := "java/lang/StringLatin1", name := "canEncode", desc := "(C)Z" } : Jvm.MethodName) jdk_43_method_3_code (1 : Nat) (Option.some Jvm.ClassFile.FieldType.boolean), Jvm.Cond.code ({ cls := "java/lang/StringLatin1", name := "toBytes", desc := "(C)[B" } : Jvm.MethodName) jdk_43_method_46_code (1 : Nat) (Option.some (Jvm.ClassFile.FieldType.array Jvm.ClassFile.FieldType.byte)), Jvm.Cond.code ({ cls := "java/lang/String", name := "<init>", desc := "([BB)V" } : Jvm.MethodName) jdk_42_method_151_code (3 : Nat) (Option.none : Option Jvm.ClassFile.FieldType), Jvm.Cond.code ({ cls := "java/lang/Object", name := "<init>", desc := "()V" } : Jvm.MethodName) object_method_1_code (1 : Nat) (Option.none : Option Jvm.ClassFile.FieldType), Jvm.Cond.code ({ cls := "com/example/twigmeter/twigmeter/sample/Group", name := "<init>", desc := "(ILjava/lang/String;Ljava/lang/String;II)V" } : Jvm.MethodName) prog_33_method_1_code (6 : Nat) (Option.none : Option Jvm.ClassFile.FieldType), Jvm.Cond.code ({ cls := "com/example/twigmeter/twigmeter/sample/Group", name := "isDrawnWhole", desc := "()Z" } : Jvm.MethodName) prog_33_method_9_code (1 : Nat) (Option.some Jvm.ClassFile.FieldType.boolean)]
set_option maxRecDepth 65536 in
theorem codes_eq : words1.filter isCode = codes1 := rfl
theorem w_codes : ∀ c ∈ words1.filter isCode, c.before args0 about1 = true := by
  rw [codes_eq]
  intro c hc
  simp only [codes1, List.mem_cons, List.not_mem_nil, or_false] at hc
  rcases hc with rfl | rfl | rfl | rfl | rfl | rfl | rfl | rfl
  · exact w_c0
  · exact w_c1
  · exact w_c2
  · exact w_c3
  · exact w_c4
  · exact w_c5
  · exact w_c6
  · exact w_c7
set_option maxRecDepth 65536 in
theorem w_t1 : (words1.take 24).all (fun c => isCode c || c.before args0 about1) = true := by decide +kernel
set_option maxRecDepth 65536 in
theorem w_t2 : ((words1.drop 24).take 24).all (fun c => isCode c || c.before args0 about1) = true := by decide +kernel
set_option maxRecDepth 65536 in
theorem w_t3 : ((words1.drop 24).drop 24).all (fun c => isCode c || c.before args0 about1) = true := by decide +kernel
theorem w_tables : (allAtoms (Jvm.Cond.code x code maxLocals ret :: tables_1)).before args0 about1 = true := by
  rw [allAtoms_all]
  show words1.all (fun c => c.before args0 about1) = true
  refine all_split ?_ w_codes
  rw [← List.take_append_drop 24 words1, List.all_append, w_t1, ← List.take_append_drop 24 (words1.drop 24), List.all_append, w_t2, w_t3]
  rfl
set_option maxRecDepth 65536 in
theorem w_rest : rest_1_c.before args0 about1 = true := by decide +kernel
set_option maxRecDepth 65536 in
theorem w_case : (Jvm.Cond.and given_1 narrow_1).before args0 about1 = true := by decide +kernel
theorem w_applies : (headSpec (Jvm.Cond.code x code maxLocals ret :: tables_1) room_1).applies x e0.platform about1 = true :=
  (Spec.applies_iff w_frames).mpr ⟨w_running, w_runnable, w_alone, w_named, w_hears, w_ripe, w_room, w_tables⟩
theorem atStart : AtStart classFile x code maxLocals ret World_1 tables_1 room_1 Calls_1 rest_1 Pre_1 launch0 p0 e0 about1 theMethod args0 below0 :=
  ⟨lists_1, trivial, launch0.admits_env _ _ _, launch0.least_env, fairChoices_fair.cas, fairChoices_fair.clock, w_frames, w_args, w_heap, w_applies, trivial, w_rest, w_case⟩
end start1
theorem witness_1 : WitnessClaimed_1 := ⟨start1.p0, start1.e0, start1.about1, start1.theMethod, start1.args0, start1.below0, start1.atStart⟩
end Jvm.Pilot.@@N@@
