import JvmDerived
import JvmDerived.Pilot.@@N@@Statement
import JvmDerived.Pilot.@@N@@Code
set_option linter.unusedVariables false
set_option linter.unusedSimpArgs false
namespace Jvm.RoadKit
theorem heq_of {T : State} {h : Heap} {a : Addr} {c : Cell} (e : T.heap = h) (q : h[a]? = some c) : T.heap[a]? = some c := by rw [e]; exact q
open Sem ClassFile Op Lib Jvm.Stand Jvm.Free Jvm.LawKit
section New
variable {p : Program} {l : Launch} {e : Env} {R : Room} {s : State} {m : MethodId} {args : Array Value} {below : List Frame} {meth : Method} {c : Code} {T : State} {locs : List Loc} {cells slots : Nat}
theorem retI (X : Stand p l e R s m args below meth c T locs cells slots) (hx : p.tables.exec = Jvm.exec) {pc : Nat} {Ls : Array Slot} {z : Int32} {rest : List Value} (hret : meth.sig.returnType = some .int) (hd : decode c.code pc = .ok (.ireturn, 1)) {fs : List Frame}
    (hl : ∀ (f : JFrame) (acts : List Action), f.method = m → f.locked = none → f.entered = [] → (doReturn e (T.setTop f) acts (some (.int z))).1 = T.setFrames fs) : Steps p.tables e below (T.setTop (mkF m pc Ls (.int z :: rest))) (T.setFrames fs) := by
  have hm' : T.vm.method? m = some meth := X.method'
  have hn : narrow .int (.int z) = .int z := rfl
  show Steps p.tables e below (T.setTop { method := m, pc := pc, locals := Ls, stack := _ :: rest, locked := none }) _
  jvm_step X.here [X.here.top, hx, hd, hm', hret, hn]
  first | (intro acts; rw [hl _ acts rfl rfl rfl]) | rw [hl _ _ rfl rfl rfl]
  exact Steps.refl _
end New
end Jvm.RoadKit
namespace Jvm.Pilot.@@N@@
open Jvm Jvm.ClassFile Sem Op Lib Jvm.Free Jvm.Stand Jvm.LawKit Jvm.RoadKit Bundle Jvm.Pilot.@@N@@.Jvm.D
theorem own_mask31 (a : Int32) : 0 ≤ (a &&& (2147483647 : Int32)).toInt ∧ (a &&& (2147483647 : Int32)).toInt < 2147483648 := by
  have h : (a &&& (2147483647 : Int32)).toBitVec = a.toBitVec &&& 2147483647#32 := rfl
  have e : (a &&& (2147483647 : Int32)).toInt = (a.toBitVec &&& 2147483647#32).toInt := by rw [← h]; rfl
  have hm : (a.toBitVec &&& 2147483647#32).toNat ≤ 2147483647 := by rw [BitVec.toNat_and]; exact Nat.and_le_right
  rw [e, BitVec.toInt_eq_toNat_of_lt (by omega)]
  omega
theorem own_rem (u s : Int32) (hu : 0 ≤ u.toInt) (hs : 0 < s.toInt) : 0 ≤ (u % s).toInt ∧ (u % s).toInt < s.toInt := by
  have : (u % s).toInt = u.toInt.tmod s.toInt := Int32.toInt_mod ..
  rw [this, Int.tmod_eq_emod_of_nonneg hu]
  exact ⟨Int.emod_nonneg _ (by omega), Int.emod_lt_of_pos _ hs⟩
theorem own_i32_add (x y : Int32) (h1 : -2147483648 ≤ x.toInt + y.toInt) (h2 : x.toInt + y.toInt < 2147483648) : (x + y).toInt = x.toInt + y.toInt := by
  rw [Int32.toInt_add, Int.bmod_eq_of_le (by omega) (by omega)]
theorem own_i32_sub (x y : Int32) (h1 : -2147483648 ≤ x.toInt - y.toInt) (h2 : x.toInt - y.toInt < 2147483648) : (x - y).toInt = x.toInt - y.toInt := by
  rw [Int32.toInt_sub, Int.bmod_eq_of_le (by omega) (by omega)]
theorem own_i64_add (x y : Int64) (h1 : -9223372036854775808 ≤ x.toInt + y.toInt) (h2 : x.toInt + y.toInt < 9223372036854775808) : (x + y).toInt = x.toInt + y.toInt := by
  rw [Int64.toInt_add, Int.bmod_eq_of_le (by omega) (by omega)]
theorem own_i64_sub (x y : Int64) (h1 : -9223372036854775808 ≤ x.toInt - y.toInt) (h2 : x.toInt - y.toInt < 9223372036854775808) : (x - y).toInt = x.toInt - y.toInt := by
  rw [Int64.toInt_sub, Int.bmod_eq_of_le (by omega) (by omega)]
theorem own_i64_mul (x y : Int64) (h1 : -9223372036854775808 ≤ x.toInt * y.toInt) (h2 : x.toInt * y.toInt < 9223372036854775808) : (x * y).toInt = x.toInt * y.toInt := by
  rw [Int64.toInt_mul, Int.bmod_eq_of_le (by omega) (by omega)]
theorem own_i2l (x : Int32) : x.toInt64.toInt = x.toInt := Int32.toInt_toInt64 x
theorem own_l2i (x : Int64) (h1 : -2147483648 ≤ x.toInt) (h2 : x.toInt < 2147483648) : x.toInt32.toInt = x.toInt := by
  rw [Int64.toInt_toInt32, Int.bmod_eq_of_le (by omega) (by omega)]
theorem own_rangeI (x : Int32) : -2147483648 ≤ x.toInt ∧ x.toInt < 2147483648 := by
  have h1 := Int32.le_toInt x; have h2 := Int32.toInt_lt x; omega
theorem own_rangeL (x : Int64) : -9223372036854775808 ≤ x.toInt ∧ x.toInt < 9223372036854775808 := by
  have h1 := Int64.le_toInt x; have h2 := Int64.toInt_lt x; omega
theorem own_mask63 (a : Int64) : 0 ≤ (a &&& (9223372036854775807 : Int64)).toInt ∧ (a &&& (9223372036854775807 : Int64)).toInt < 9223372036854775808 := by
  have h : (a &&& (9223372036854775807 : Int64)).toBitVec = a.toBitVec &&& 9223372036854775807#64 := rfl
  have e : (a &&& (9223372036854775807 : Int64)).toInt = (a.toBitVec &&& 9223372036854775807#64).toInt := by rw [← h]; rfl
  have hm : (a.toBitVec &&& 9223372036854775807#64).toNat ≤ 9223372036854775807 := by rw [BitVec.toNat_and]; exact Nat.and_le_right
  rw [e, BitVec.toInt_eq_toNat_of_lt (by omega)]
  omega
theorem own_remL (u s : Int64) (hu : 0 ≤ u.toInt) (hs : 0 < s.toInt) : 0 ≤ (u % s).toInt ∧ (u % s).toInt < s.toInt := by
  have : (u % s).toInt = u.toInt.tmod s.toInt := Int64.toInt_mod ..
  rw [this, Int.tmod_eq_emod_of_nonneg hu]
  exact ⟨Int.emod_nonneg _ (by omega), Int.emod_lt_of_pos _ hs⟩
def own_ari (Z : State) (h : Heap) (a : Addr) (ty : FieldType) (n : Int32) : Prop := ∃ c : Cell, Arr Z h a c ty ∧ c.slots.size = n.toNatClampNeg ∧ ¬ n < 0
theorem own_ari.mk {Z : State} {h : Heap} {a : Addr} {k : ClassId} {ty : FieldType} {n : Int32} {vs : List Value} {d : Value} (F : Arv Z h a k ty n vs d) : own_ari Z h a ty n := by
  obtain ⟨c, A, -, S, M, -⟩ := F; exact ⟨c, A, S, M⟩
theorem own_ari.lt {Z : State} {h : Heap} {a : Addr} {ty : FieldType} {n : Int32} (F : own_ari Z h a ty n) : a < h.size := by obtain ⟨c, A, -⟩ := F; exact A.lt
theorem own_ari.ext {Z : State} {h h' : Heap} {a : Addr} {ty : FieldType} {n : Int32} (F : own_ari Z h a ty n) (E : Ext h h') : own_ari Z h' a ty n := by obtain ⟨c, A, r⟩ := F; exact ⟨c, A.ext E, r⟩
theorem own_ari.other {Z : State} {h h' : Heap} {a b : Addr} {ty : FieldType} {n : Int32} {sl : Nat} {v : Value} (F : own_ari Z h b ty n) (W : Wr h h' a sl v) (q : b ≠ a) : own_ari Z h' b ty n := by obtain ⟨c, A, r⟩ := F; exact ⟨c, A.other W q, r⟩
theorem own_ari.same {Z : State} {h h' : Heap} {a : Addr} {ty : FieldType} {n : Int32} {sl : Nat} {v : Value} (F : own_ari Z h a ty n) (W : Wr h h' a sl v) : own_ari Z h' a ty n := by
  obtain ⟨c, A, S, M⟩ := F; exact ⟨_, A.same W, by rw [← S]; simp [Cell.setSlot], M⟩
theorem own_ari.keep {Z : State} {h h' : Heap} {a : Addr} {ty : FieldType} {n : Int32} {ws : List Addr} (F : own_ari Z h a ty n) (K : Keep h h' ws) (q : a ∉ ws) : own_ari Z h' a ty n := by obtain ⟨c, A, r⟩ := F; exact ⟨c, ⟨K.2.1 a c A.1 q, A.2⟩, r⟩
theorem own_m3 (k : Int32) : 0 ≤ (k &&& (3 : Int32)).toInt ∧ (k &&& (3 : Int32)).toInt ≤ 3 := by
  have h : (k &&& (3 : Int32)).toBitVec = k.toBitVec &&& 3#32 := rfl
  have e : (k &&& (3 : Int32)).toInt = (k.toBitVec &&& 3#32).toInt := by rw [← h]; rfl
  have hm : (k.toBitVec &&& 3#32).toNat ≤ 3 := by rw [BitVec.toNat_and]; exact Nat.and_le_right
  rw [BitVec.toInt_eq_toNat_of_lt (by omega)] at e
  omega
theorem own_s2 (x y : Int32) (hx : 0 ≤ x.toInt ∧ x.toInt ≤ 3) (hy : 0 ≤ y.toInt ∧ y.toInt ≤ 3) : (x + y).toInt = x.toInt + y.toInt := own_i32_add _ _ (by omega) (by omega)
theorem own_s3 (x y z : Int32) (hx : 0 ≤ x.toInt ∧ x.toInt ≤ 3) (hy : 0 ≤ y.toInt ∧ y.toInt ≤ 3) (hz : 0 ≤ z.toInt ∧ z.toInt ≤ 3) : (x + y + z).toInt = x.toInt + y.toInt + z.toInt := by
  have := own_s2 x y hx hy
  rw [own_i32_add _ _ (by omega) (by omega)]; omega
theorem own_s4 (x y z w : Int32) (hx : 0 ≤ x.toInt ∧ x.toInt ≤ 3) (hy : 0 ≤ y.toInt ∧ y.toInt ≤ 3) (hz : 0 ≤ z.toInt ∧ z.toInt ≤ 3) (hw : 0 ≤ w.toInt ∧ w.toInt ≤ 3) : (x + y + z + w).toInt = x.toInt + y.toInt + z.toInt + w.toInt := by
  have := own_s3 x y z hx hy hz
  rw [own_i32_add _ _ (by omega) (by omega)]; omega
theorem own_at (j n : Int32) (J N : Int) (hj : j.toInt = J) (hn : n.toInt = N) (h0 : 0 ≤ J) (hN : J + 2 < N + 3) (hs : N ≤ 100) (i : Int32) (I : Int) (hi : i.toInt = I) (hI : 0 ≤ I) (hl : J + I < N) : ¬ (j + i) < 0 ∧ (j + i) < n := by
  have t0 : (0 : Int32).toInt = 0 := rfl
  have e : (j + i).toInt = J + I := by rw [own_i32_add _ _ (by omega) (by omega)]; omega
  rw [Int32.lt_iff_toInt_lt, Int32.lt_iff_toInt_lt, e, hn]
  omega
theorem own_sub_self (x y : Int32) : (x + y) - x = y := by
  apply Int32.toBitVec_inj.1
  show (x.toBitVec + y.toBitVec) - x.toBitVec = y.toBitVec
  rw [BitVec.add_comm]; exact BitVec.add_sub_cancel _ _
theorem d1_0 : decode method_3_code 0 = .ok (.iload_n 2, 1) := by decide +kernel
theorem d1_1 : decode method_3_code 1 = .ok (.iconst 1, 1) := by decide +kernel
theorem d1_2 : decode method_3_code 2 = .ok (.if_icmp .le 9, 3) := by decide +kernel
theorem d1_5 : decode method_3_code 5 = .ok (.aload_n 0, 1) := by decide +kernel
theorem d1_6 : decode method_3_code 6 = .ok (.iload_n 1, 1) := by decide +kernel
theorem d1_7 : decode method_3_code 7 = .ok (.iconst 1, 1) := by decide +kernel
theorem d1_8 : decode method_3_code 8 = .ok (.iadd, 1) := by decide +kernel
theorem d1_9 : decode method_3_code 9 = .ok (.iconst 1, 1) := by decide +kernel
theorem d1_10 : decode method_3_code 10 = .ok (.iastore, 1) := by decide +kernel
theorem d1_11 : decode method_3_code 11 = .ok (.iload_n 2, 1) := by decide +kernel
theorem d1_12 : decode method_3_code 12 = .ok (.iconst 2, 1) := by decide +kernel
theorem d1_13 : decode method_3_code 13 = .ok (.if_icmp .le 9, 3) := by decide +kernel
theorem d1_16 : decode method_3_code 16 = .ok (.aload_n 0, 1) := by decide +kernel
theorem d1_17 : decode method_3_code 17 = .ok (.iload_n 1, 1) := by decide +kernel
theorem d1_18 : decode method_3_code 18 = .ok (.iconst 2, 1) := by decide +kernel
theorem d1_19 : decode method_3_code 19 = .ok (.iadd, 1) := by decide +kernel
theorem d1_20 : decode method_3_code 20 = .ok (.iconst 2, 1) := by decide +kernel
theorem d1_21 : decode method_3_code 21 = .ok (.iastore, 1) := by decide +kernel
theorem d1_22 : decode method_3_code 22 = .ok (.return_, 1) := by decide +kernel
theorem pn_1 : plainName "com/example/wary_rank/waryrank/AdjacencyDegreePinLaw" = true := by first | (simp [plainName, overriddenIn]; done) | decide +kernel
theorem ef_1 (m : MethodId) (x0 : Addr) (x1 : Int32) (x2 : Int32) : entryFrame m #[(.ref x0), (.int x1), (.int x2)] 3 = mkF m 0 #[.val (.ref x0), .val (.int x1), .val (.int x2)] [] := by first | (simp [entryFrame, mkF, argsToLocals, Value.category]; done) | rfl
theorem own_inb_1_10_f (sj : Int32) (d : Int32) (n : Int32) (h1 : (1 : Int32) < d → ¬ (sj + (1 : Int32)) < 0 ∧ (sj + (1 : Int32)) < n) (h2 : (2 : Int32) < d → ¬ (sj + (2 : Int32)) < 0 ∧ (sj + (2 : Int32)) < n) (hc2_2 : (1 : Int32) < d) : ¬ (sj + (1 : Int32)) < 0 ∧ (sj + (1 : Int32)) < n := h1 (by assumption)
theorem own_inb_1_21_ff (sj : Int32) (d : Int32) (n : Int32) (h1 : (1 : Int32) < d → ¬ (sj + (1 : Int32)) < 0 ∧ (sj + (1 : Int32)) < n) (h2 : (2 : Int32) < d → ¬ (sj + (2 : Int32)) < 0 ∧ (sj + (2 : Int32)) < n) (hc2_2 : (1 : Int32) < d) (hc13_8 : (2 : Int32) < d) : ¬ (sj + (2 : Int32)) < 0 ∧ (sj + (2 : Int32)) < n := h2 (by assumption)
theorem own_inb_1_21_tf (sj : Int32) (d : Int32) (n : Int32) (h1 : (1 : Int32) < d → ¬ (sj + (1 : Int32)) < 0 ∧ (sj + (1 : Int32)) < n) (h2 : (2 : Int32) < d → ¬ (sj + (2 : Int32)) < 0 ∧ (sj + (2 : Int32)) < n) (hc2_2 : ¬ ((1 : Int32) < d)) (hc13_14 : (2 : Int32) < d) : ¬ (sj + (2 : Int32)) < 0 ∧ (sj + (2 : Int32)) < n := h2 (by assumption)
def Q1 (Z : State) (ar : Addr) (sj : Int32) (d : Int32) (n : Int32) (h0 : Heap) (n0 : Nat) (v : Option Value) (h : Heap) (L : List Loc) : Prop := v = none ∧ Fr n0 L ∧ Keep h0 h [ar] ∧ own_ari Z h ar .int n
set_option maxRecDepth 65536 in
set_option maxHeartbeats 40000000 in
theorem rm1 (l : Launch) (Z : State) (a0 : Array Value) (hw : ∀ d ∈ tables_1, d.before a0 Z = true) (ws : List Jvm.Cond) (ar : Addr) (sj : Int32) (d : Int32) (n : Int32) (h0 : Heap) (n0 : Nat) (Z0 : n0 ≤ h0.size) (I0 : own_ari Z h0 ar .int n) (g_ar : n0 ≤ ar) (h1 : (1 : Int32) < d → ¬ (sj + (1 : Int32)) < 0 ∧ (sj + (1 : Int32)) < n) (h2 : (2 : Int32) < d → ¬ (sj + (2 : Int32)) < 0 ∧ (sj + (2 : Int32)) < n) :
    MetFree l (⟨"com/example/wary_rank/waryrank/AdjacencyDegreePinLaw", "fill", "([III)V"⟩ : MethodName) (head1 (Jvm.Cond.code (⟨"com/example/wary_rank/waryrank/AdjacencyDegreePinLaw", "fill", "([III)V"⟩ : MethodName) method_3_code 3 none :: ws) ({ frames := 0, cells := 0, slots := 0, locals := 0 } : Room)) (fun a U => a = #[(.ref ar), (.int sj), (.int d)] ∧ Z.Warmed39 U.vm ∧ U.heap = h0) (fun _ _ _ _ _ => True) (fun _ U o U' => ∃ v L, o = .returned v ∧ Q1 Z ar sj d n h0 n0 v U'.heap L ∧ FrameEnd U o U' L ({ frames := 0, cells := 0, slots := 0, locals := 0 } : Room).cells ({ frames := 0, cells := 0, slots := 0, locals := 0 } : Room).slots) := by
  refine MetFree.of_bodySF (plainFor_of_name pn_1) hisR ?_
  intro p e s m args below meth c s₁ Bd hml0 hP hK
  obtain ⟨rfl, hZ, hh⟩ := hP
  have hx := Bd.exec
  have hby := Bd.bytes
  have hml : c.maxLocals = 3 := hml0
  have hown : s.vm.findClass "com/example/wary_rank/waryrank/AdjacencyDegreePinLaw" = some m.cls := findClass_of_methodNamed Bd.named
  have hnm := (name_of_methodNamed Bd.named Bd.method).1
  have X0 : Stand p l e ({ frames := 0, cells := 0, slots := 0, locals := 0 } : Room) s m #[(.ref ar), (.int sj), (.int d)] below meth c s₁ [] 0 0 := Stand.of_body Bd
  have e0 : s₁.heap = h0 := by rw [← hh, Bd.state]; rfl
  have N0 := Fr.nil n0
  have K0 : Keep h0 h0 [ar] := Keep.refl h0 _
  have pre0 : ∀ tq, Steps p.tables e below (s₁.setTop (mkF m 0 #[.val (.ref ar), .val (.int sj), .val (.int d)] [])) tq → Steps p.tables e below (s₁.setTop (entryFrame m #[(.ref ar), (.int sj), (.int d)] 3)) tq := fun tq kq => castTop (ef_1 m ar sj d) kq
  have pre1 : ∀ tq, Steps p.tables e below (s₁.setTop (mkF m 2 #[.val (.ref ar), .val (.int sj), .val (.int d)] [(.int (1 : Int32)), (.int d)])) tq → Steps p.tables e below (s₁.setTop (entryFrame m #[(.ref ar), (.int sj), (.int d)] 3)) tq := by
    intro tq kt
    refine pre0 _ ?_
    show Steps p.tables e below (s₁.setTop (mkF m 0 #[.val (.ref ar), .val (.int sj), .val (.int d)] [])) _
    refine XS.iloadN X0.here hx rfl (hb hby d1_0) rfl ?_
    show Steps p.tables e below (s₁.setTop (mkF m 1 #[.val (.ref ar), .val (.int sj), .val (.int d)] [(.int d)])) _
    refine XS.iconst X0.here hx rfl (hb hby d1_1) ?_
    show Steps p.tables e below (s₁.setTop (mkF m 2 #[.val (.ref ar), .val (.int sj), .val (.int d)] [(.int (1 : Int32)), (.int d)])) _
    exact kt
  by_cases hc2_2 : (1 : Int32) < d
  · skip
    obtain ⟨cl3, Ar3, S3, M3⟩ := id I0
    have hin3 : ¬ ((sj + (1 : Int32)) < 0 ∨ cl3.slots.size ≤ ((sj + (1 : Int32))).toNatClampNeg) := inb_of S3 (own_inb_1_10_f sj d n h1 h2 hc2_2)
    obtain ⟨T3, hX3, X3, e3, W3, st3⟩ := stI X0 hx hZ e0 Ar3 (j := (sj + (1 : Int32))) hin3 (g := (mkF m 10 #[.val (.ref ar), .val (.int sj), .val (.int d)] [(.int (1 : Int32)), (.int (sj + (1 : Int32))), (.ref ar)])) rfl rfl (hb hby d1_10)
    have F4 : own_ari Z hX3 ar .int n := own_ari.same I0 W3
    have N3 := Fr.snoc X3 N0 g_ar
    have Z5 : n0 ≤ hX3.size := Nat.le_trans Z0 (Keep.of_wr W3).1
    have K6 : Keep h0 hX3 [ar] := K0.wr W3 (Or.inl (List.mem_of_getElem? (i := 0) rfl))
    have pre7 : ∀ tq, Steps p.tables e below (T3.setTop (mkF m 13 #[.val (.ref ar), .val (.int sj), .val (.int d)] [(.int (2 : Int32)), (.int d)])) tq → Steps p.tables e below (s₁.setTop (entryFrame m #[(.ref ar), (.int sj), (.int d)] 3)) tq := by
      intro tq kt
      refine pre1 _ ?_
      show Steps p.tables e below (s₁.setTop (mkF m 2 #[.val (.ref ar), .val (.int sj), .val (.int d)] [(.int (1 : Int32)), (.int d)])) _
      refine XS.icmpNo X0.here hx rfl (hb hby d1_2) rfl (tlt hc2_2).2.2.2 ?_
      show Steps p.tables e below (s₁.setTop (mkF m 5 #[.val (.ref ar), .val (.int sj), .val (.int d)] [])) _
      refine XS.aloadN X0.here hx rfl (hb hby d1_5) rfl rfl ?_
      show Steps p.tables e below (s₁.setTop (mkF m 6 #[.val (.ref ar), .val (.int sj), .val (.int d)] [(.ref ar)])) _
      refine XS.iloadN X0.here hx rfl (hb hby d1_6) rfl ?_
      show Steps p.tables e below (s₁.setTop (mkF m 7 #[.val (.ref ar), .val (.int sj), .val (.int d)] [(.int sj), (.ref ar)])) _
      refine XS.iconst X0.here hx rfl (hb hby d1_7) ?_
      show Steps p.tables e below (s₁.setTop (mkF m 8 #[.val (.ref ar), .val (.int sj), .val (.int d)] [(.int (1 : Int32)), (.int sj), (.ref ar)])) _
      refine XS.iadd X0.here hx rfl (hb hby d1_8) rfl ?_
      show Steps p.tables e below (s₁.setTop (mkF m 9 #[.val (.ref ar), .val (.int sj), .val (.int d)] [(.int (sj + (1 : Int32))), (.ref ar)])) _
      refine XS.iconst X0.here hx rfl (hb hby d1_9) ?_
      show Steps p.tables e below (s₁.setTop (mkF m 10 #[.val (.ref ar), .val (.int sj), .val (.int d)] [(.int (1 : Int32)), (.int (sj + (1 : Int32))), (.ref ar)])) _
      refine st3 _ ?_
      show Steps p.tables e below (T3.setTop (mkF m 11 #[.val (.ref ar), .val (.int sj), .val (.int d)] [])) _
      refine XS.iloadN X3.here hx rfl (hb hby d1_11) rfl ?_
      show Steps p.tables e below (T3.setTop (mkF m 12 #[.val (.ref ar), .val (.int sj), .val (.int d)] [(.int d)])) _
      refine XS.iconst X3.here hx rfl (hb hby d1_12) ?_
      show Steps p.tables e below (T3.setTop (mkF m 13 #[.val (.ref ar), .val (.int sj), .val (.int d)] [(.int (2 : Int32)), (.int d)])) _
      exact kt
    by_cases hc13_8 : (2 : Int32) < d
    · skip
      obtain ⟨cl9, Ar9, S9, M9⟩ := id F4
      have hin9 : ¬ ((sj + (2 : Int32)) < 0 ∨ cl9.slots.size ≤ ((sj + (2 : Int32))).toNatClampNeg) := inb_of S9 (own_inb_1_21_ff sj d n h1 h2 hc2_2 hc13_8)
      obtain ⟨T9, hX9, X9, e9, W9, st9⟩ := stI X3 hx hZ e3 Ar9 (j := (sj + (2 : Int32))) hin9 (g := (mkF m 21 #[.val (.ref ar), .val (.int sj), .val (.int d)] [(.int (2 : Int32)), (.int (sj + (2 : Int32))), (.ref ar)])) rfl rfl (hb hby d1_21)
      have F10 : own_ari Z hX9 ar .int n := own_ari.same F4 W9
      have N9 := Fr.snoc X9 N3 g_ar
      have Z11 : n0 ≤ hX9.size := Nat.le_trans Z5 (Keep.of_wr W9).1
      have K12 : Keep h0 hX9 [ar] := K6.wr W9 (Or.inl (List.mem_of_getElem? (i := 0) rfl))
      obtain ⟨fs, hr, hrun, hended, hW, hsame⟩ := X9.leave (v := none) (fun _ => rfl)
      refine ⟨_, _, pre7 _ ?_, hrun, hended, _, _, rfl, ?_, ⟨_, rfl⟩, hW, hsame.mono (by decide) (by decide)⟩
      · skip
        show Steps p.tables e below (T3.setTop (mkF m 13 #[.val (.ref ar), .val (.int sj), .val (.int d)] [(.int (2 : Int32)), (.int d)])) _
        refine XS.icmpNo X3.here hx rfl (hb hby d1_13) rfl (tlt hc13_8).2.2.2 ?_
        show Steps p.tables e below (T3.setTop (mkF m 16 #[.val (.ref ar), .val (.int sj), .val (.int d)] [])) _
        refine XS.aloadN X3.here hx rfl (hb hby d1_16) rfl rfl ?_
        show Steps p.tables e below (T3.setTop (mkF m 17 #[.val (.ref ar), .val (.int sj), .val (.int d)] [(.ref ar)])) _
        refine XS.iloadN X3.here hx rfl (hb hby d1_17) rfl ?_
        show Steps p.tables e below (T3.setTop (mkF m 18 #[.val (.ref ar), .val (.int sj), .val (.int d)] [(.int sj), (.ref ar)])) _
        refine XS.iconst X3.here hx rfl (hb hby d1_18) ?_
        show Steps p.tables e below (T3.setTop (mkF m 19 #[.val (.ref ar), .val (.int sj), .val (.int d)] [(.int (2 : Int32)), (.int sj), (.ref ar)])) _
        refine XS.iadd X3.here hx rfl (hb hby d1_19) rfl ?_
        show Steps p.tables e below (T3.setTop (mkF m 20 #[.val (.ref ar), .val (.int sj), .val (.int d)] [(.int (sj + (2 : Int32))), (.ref ar)])) _
        refine XS.iconst X3.here hx rfl (hb hby d1_20) ?_
        show Steps p.tables e below (T3.setTop (mkF m 21 #[.val (.ref ar), .val (.int sj), .val (.int d)] [(.int (2 : Int32)), (.int (sj + (2 : Int32))), (.ref ar)])) _
        refine st9 _ ?_
        show Steps p.tables e below (T9.setTop (mkF m 22 #[.val (.ref ar), .val (.int sj), .val (.int d)] [])) _
        exact X9.returnOut hx Bd.returns (hb hby d1_22) hr
      · show Q1 Z ar sj d n h0 n0 _ T9.heap _
        rw [e9]
        exact ⟨rfl, N9, K12, F10⟩
    · skip
      obtain ⟨fs, hr, hrun, hended, hW, hsame⟩ := X3.leave (v := none) (fun _ => rfl)
      refine ⟨_, _, pre7 _ ?_, hrun, hended, _, _, rfl, ?_, ⟨_, rfl⟩, hW, hsame.mono (by decide) (by decide)⟩
      · skip
        show Steps p.tables e below (T3.setTop (mkF m 13 #[.val (.ref ar), .val (.int sj), .val (.int d)] [(.int (2 : Int32)), (.int d)])) _
        refine XS.icmpYes X3.here hx rfl (pc0 := 13) (pc' := 22) rfl (hb hby d1_13) rfl (flt hc13_8).2.2.2 (by decide) (by decide) ?_
        show Steps p.tables e below (T3.setTop (mkF m 22 #[.val (.ref ar), .val (.int sj), .val (.int d)] [])) _
        exact X3.returnOut hx Bd.returns (hb hby d1_22) hr
      · show Q1 Z ar sj d n h0 n0 _ T3.heap _
        rw [e3]
        exact ⟨rfl, N3, K6, F4⟩
  · skip
    have pre13 : ∀ tq, Steps p.tables e below (s₁.setTop (mkF m 13 #[.val (.ref ar), .val (.int sj), .val (.int d)] [(.int (2 : Int32)), (.int d)])) tq → Steps p.tables e below (s₁.setTop (entryFrame m #[(.ref ar), (.int sj), (.int d)] 3)) tq := by
      intro tq kt
      refine pre1 _ ?_
      show Steps p.tables e below (s₁.setTop (mkF m 2 #[.val (.ref ar), .val (.int sj), .val (.int d)] [(.int (1 : Int32)), (.int d)])) _
      refine XS.icmpYes X0.here hx rfl (pc0 := 2) (pc' := 11) rfl (hb hby d1_2) rfl (flt hc2_2).2.2.2 (by decide) (by decide) ?_
      show Steps p.tables e below (s₁.setTop (mkF m 11 #[.val (.ref ar), .val (.int sj), .val (.int d)] [])) _
      refine XS.iloadN X0.here hx rfl (hb hby d1_11) rfl ?_
      show Steps p.tables e below (s₁.setTop (mkF m 12 #[.val (.ref ar), .val (.int sj), .val (.int d)] [(.int d)])) _
      refine XS.iconst X0.here hx rfl (hb hby d1_12) ?_
      show Steps p.tables e below (s₁.setTop (mkF m 13 #[.val (.ref ar), .val (.int sj), .val (.int d)] [(.int (2 : Int32)), (.int d)])) _
      exact kt
    by_cases hc13_14 : (2 : Int32) < d
    · skip
      obtain ⟨cl15, Ar15, S15, M15⟩ := id I0
      have hin15 : ¬ ((sj + (2 : Int32)) < 0 ∨ cl15.slots.size ≤ ((sj + (2 : Int32))).toNatClampNeg) := inb_of S15 (own_inb_1_21_tf sj d n h1 h2 hc2_2 hc13_14)
      obtain ⟨T15, hX15, X15, e15, W15, st15⟩ := stI X0 hx hZ e0 Ar15 (j := (sj + (2 : Int32))) hin15 (g := (mkF m 21 #[.val (.ref ar), .val (.int sj), .val (.int d)] [(.int (2 : Int32)), (.int (sj + (2 : Int32))), (.ref ar)])) rfl rfl (hb hby d1_21)
      have F16 : own_ari Z hX15 ar .int n := own_ari.same I0 W15
      have N15 := Fr.snoc X15 N0 g_ar
      have Z17 : n0 ≤ hX15.size := Nat.le_trans Z0 (Keep.of_wr W15).1
      have K18 : Keep h0 hX15 [ar] := K0.wr W15 (Or.inl (List.mem_of_getElem? (i := 0) rfl))
      obtain ⟨fs, hr, hrun, hended, hW, hsame⟩ := X15.leave (v := none) (fun _ => rfl)
      refine ⟨_, _, pre13 _ ?_, hrun, hended, _, _, rfl, ?_, ⟨_, rfl⟩, hW, hsame.mono (by decide) (by decide)⟩
      · skip
        show Steps p.tables e below (s₁.setTop (mkF m 13 #[.val (.ref ar), .val (.int sj), .val (.int d)] [(.int (2 : Int32)), (.int d)])) _
        refine XS.icmpNo X0.here hx rfl (hb hby d1_13) rfl (tlt hc13_14).2.2.2 ?_
        show Steps p.tables e below (s₁.setTop (mkF m 16 #[.val (.ref ar), .val (.int sj), .val (.int d)] [])) _
        refine XS.aloadN X0.here hx rfl (hb hby d1_16) rfl rfl ?_
        show Steps p.tables e below (s₁.setTop (mkF m 17 #[.val (.ref ar), .val (.int sj), .val (.int d)] [(.ref ar)])) _
        refine XS.iloadN X0.here hx rfl (hb hby d1_17) rfl ?_
        show Steps p.tables e below (s₁.setTop (mkF m 18 #[.val (.ref ar), .val (.int sj), .val (.int d)] [(.int sj), (.ref ar)])) _
        refine XS.iconst X0.here hx rfl (hb hby d1_18) ?_
        show Steps p.tables e below (s₁.setTop (mkF m 19 #[.val (.ref ar), .val (.int sj), .val (.int d)] [(.int (2 : Int32)), (.int sj), (.ref ar)])) _
        refine XS.iadd X0.here hx rfl (hb hby d1_19) rfl ?_
        show Steps p.tables e below (s₁.setTop (mkF m 20 #[.val (.ref ar), .val (.int sj), .val (.int d)] [(.int (sj + (2 : Int32))), (.ref ar)])) _
        refine XS.iconst X0.here hx rfl (hb hby d1_20) ?_
        show Steps p.tables e below (s₁.setTop (mkF m 21 #[.val (.ref ar), .val (.int sj), .val (.int d)] [(.int (2 : Int32)), (.int (sj + (2 : Int32))), (.ref ar)])) _
        refine st15 _ ?_
        show Steps p.tables e below (T15.setTop (mkF m 22 #[.val (.ref ar), .val (.int sj), .val (.int d)] [])) _
        exact X15.returnOut hx Bd.returns (hb hby d1_22) hr
      · show Q1 Z ar sj d n h0 n0 _ T15.heap _
        rw [e15]
        exact ⟨rfl, N15, K18, F16⟩
    · skip
      obtain ⟨fs, hr, hrun, hended, hW, hsame⟩ := X0.leave (v := none) (fun _ => rfl)
      refine ⟨_, _, pre13 _ ?_, hrun, hended, _, _, rfl, ?_, ⟨_, rfl⟩, hW, hsame.mono (by decide) (by decide)⟩
      · skip
        show Steps p.tables e below (s₁.setTop (mkF m 13 #[.val (.ref ar), .val (.int sj), .val (.int d)] [(.int (2 : Int32)), (.int d)])) _
        refine XS.icmpYes X0.here hx rfl (pc0 := 13) (pc' := 22) rfl (hb hby d1_13) rfl (flt hc13_14).2.2.2 (by decide) (by decide) ?_
        show Steps p.tables e below (s₁.setTop (mkF m 22 #[.val (.ref ar), .val (.int sj), .val (.int d)] [])) _
        exact X0.returnOut hx Bd.returns (hb hby d1_22) hr
      · show Q1 Z ar sj d n h0 n0 _ s₁.heap _
        rw [e0]
        exact ⟨rfl, N0, K0, I0⟩
theorem d2_0 : decode prog_1_method_1_code 0 = .ok (.aload_n 0, 1) := by decide +kernel
theorem d2_1 : decode prog_1_method_1_code 1 = .ok (.invokespecial 1, 3) := by decide +kernel
theorem d2_4 : decode prog_1_method_1_code 4 = .ok (.aload_n 0, 1) := by decide +kernel
theorem d2_5 : decode prog_1_method_1_code 5 = .ok (.aload_n 1, 1) := by decide +kernel
theorem d2_6 : decode prog_1_method_1_code 6 = .ok (.putfield 7, 3) := by decide +kernel
theorem d2_9 : decode prog_1_method_1_code 9 = .ok (.aload_n 0, 1) := by decide +kernel
theorem d2_10 : decode prog_1_method_1_code 10 = .ok (.aload_n 2, 1) := by decide +kernel
theorem d2_11 : decode prog_1_method_1_code 11 = .ok (.putfield 13, 3) := by decide +kernel
theorem d2_14 : decode prog_1_method_1_code 14 = .ok (.return_, 1) := by decide +kernel
theorem pn_2 : plainName "com/example/wary_rank/waryrank/Adjacency" = true := by first | (simp [plainName, overriddenIn]; done) | decide +kernel
theorem ef_2 (m : MethodId) (x0 : Addr) (x1 : Addr) (x2 : Addr) : entryFrame m #[(.ref x0), (.ref x1), (.ref x2)] 3 = mkF m 0 #[.val (.ref x0), .val (.ref x1), .val (.ref x2)] [] := by first | (simp [entryFrame, mkF, argsToLocals, Value.category]; done) | rfl
def Q2 (Z : State) (ob : Addr) (ar : Addr) (br : Addr) (h0 : Heap) (n0 : Nat) (v : Option Value) (h : Heap) (L : List Loc) : Prop := v = none ∧ Fr n0 L ∧ Keep h0 h [ob] ∧ Exa Z h ob "com/example/wary_rank/waryrank/Adjacency" ∧ Fld Z h ob "com/example/wary_rank/waryrank/Adjacency" "offsets" "[I" (.ref ar)
set_option maxRecDepth 65536 in
set_option maxHeartbeats 40000000 in
theorem rm2 (l : Launch) (Z : State) (a0 : Array Value) (hw : ∀ d ∈ tables_1, d.before a0 Z = true) (ws : List Jvm.Cond) (ob : Addr) (ar : Addr) (br : Addr) (h0 : Heap) (n0 : Nat) (Z0 : n0 ≤ h0.size) (I0 : Fld Z h0 ob "com/example/wary_rank/waryrank/Adjacency" "offsets" "[I" .null) (I1 : Fld Z h0 ob "com/example/wary_rank/waryrank/Adjacency" "targets" "[I" .null) (I2 : Exa Z h0 ob "com/example/wary_rank/waryrank/Adjacency") (g_ob : n0 ≤ ob) :
    MetFree l (⟨"com/example/wary_rank/waryrank/Adjacency", "<init>", "([I[I)V"⟩ : MethodName) (head1 (Jvm.Cond.code (⟨"com/example/wary_rank/waryrank/Adjacency", "<init>", "([I[I)V"⟩ : MethodName) prog_1_method_1_code 3 none :: ws) ({ frames := 1, cells := 0, slots := 0, locals := 12 } : Room)) (fun a U => a = #[(.ref ob), (.ref ar), (.ref br)] ∧ Z.Warmed39 U.vm ∧ U.heap = h0) (fun _ _ _ _ _ => True) (fun _ U o U' => ∃ v L, o = .returned v ∧ Q2 Z ob ar br h0 n0 v U'.heap L ∧ FrameEnd U o U' L ({ frames := 1, cells := 0, slots := 0, locals := 12 } : Room).cells ({ frames := 1, cells := 0, slots := 0, locals := 12 } : Room).slots) := by
  refine MetFree.of_bodySF (plainFor_of_name pn_2) hisR ?_
  intro p e s m args below meth c s₁ Bd hml0 hP hK
  obtain ⟨rfl, hZ, hh⟩ := hP
  have hx := Bd.exec
  have hby := Bd.bytes
  have hml : c.maxLocals = 3 := hml0
  have hown : s.vm.findClass "com/example/wary_rank/waryrank/Adjacency" = some m.cls := findClass_of_methodNamed Bd.named
  have hnm := (name_of_methodNamed Bd.named Bd.method).1
  have X0 : Stand p l e ({ frames := 1, cells := 0, slots := 0, locals := 12 } : Room) s m #[(.ref ob), (.ref ar), (.ref br)] below meth c s₁ [] 0 0 := Stand.of_body Bd
  have e0 : s₁.heap = h0 := by rw [← hh, Bd.state]; rfl
  have N0 := Fr.nil n0
  have K0 : Keep h0 h0 [ob] := Keep.refl h0 _
  have pre0 : ∀ tq, Steps p.tables e below (s₁.setTop (mkF m 0 #[.val (.ref ob), .val (.ref ar), .val (.ref br)] [])) tq → Steps p.tables e below (s₁.setTop (entryFrame m #[(.ref ob), (.ref ar), (.ref br)] 3)) tq := fun tq kq => castTop (ef_2 m ob ar br) kq
  obtain ⟨T1, X1, e1, st1⟩ := initO X0 hx hZ hown (hw _ (List.mem_of_getElem? (i := 11) rfl)) (hw _ (List.mem_of_getElem? (i := 12) rfl)) (hw _ (List.mem_of_getElem? (i := 13) rfl)) e0 (g := (mkF m 1 #[.val (.ref ob), .val (.ref ar), .val (.ref br)] [(.ref ob)])) rfl (by rw [hml]; rfl) rfl (hb hby d2_1) (by decide) (W := 0) (by show 2 * 0 + _ ≤ _; exact Nat.le_of_eq rfl) (by decide)
  obtain ⟨T2, hX2, X2, e2, W2, st2⟩ := putF X1 hx hZ hown (host := "") (Or.inl (hw _ (List.mem_of_getElem? (i := 14) rfl))) Via.refl e1 I0 I2 (Or.inr ⟨(hw _ (List.mem_of_getElem? (i := 15) rfl)), rfl, hnm⟩) (hw _ (List.mem_of_getElem? (i := 6) rfl)) (ty := (.array .int)) (by decide) rfl rfl (g := (mkF m 6 #[.val (.ref ob), .val (.ref ar), .val (.ref br)] [(.ref ar), (.ref ob)])) rfl rfl (hb hby d2_6)
  have N2 := Fr.snoc X2 N0 g_ob
  have F3 : Fld Z hX2 ob "com/example/wary_rank/waryrank/Adjacency" "offsets" "[I" (.ref ar) := I0.same W2
  have F4 : Fld Z hX2 ob "com/example/wary_rank/waryrank/Adjacency" "targets" "[I" .null := I1.other W2 (Or.inr (slot_ne (Or.inr (hw _ (List.mem_of_getElem? (i := 17) rfl))) (Or.inr (hw _ (List.mem_of_getElem? (i := 15) rfl))) (by decide) (t := (.array .int)) (t' := (.array .int)) (by decide) (by decide)))
  have F5 : Exa Z hX2 ob "com/example/wary_rank/waryrank/Adjacency" := I2.wr W2
  have Z6 : n0 ≤ hX2.size := Nat.le_trans Z0 (Keep.of_wr W2).1
  have K7 : Keep h0 hX2 [ob] := K0.wr W2 (Or.inl (List.mem_of_getElem? (i := 0) rfl))
  obtain ⟨T8, hX8, X8, e8, W8, st8⟩ := putF X2 hx hZ hown (host := "") (Or.inl (hw _ (List.mem_of_getElem? (i := 16) rfl))) Via.refl e2 F4 F5 (Or.inr ⟨(hw _ (List.mem_of_getElem? (i := 17) rfl)), rfl, hnm⟩) (hw _ (List.mem_of_getElem? (i := 6) rfl)) (ty := (.array .int)) (by decide) rfl rfl (g := (mkF m 11 #[.val (.ref ob), .val (.ref ar), .val (.ref br)] [(.ref br), (.ref ob)])) rfl rfl (hb hby d2_11)
  have N8 := Fr.snoc X8 N2 g_ob
  have F9 : Fld Z hX8 ob "com/example/wary_rank/waryrank/Adjacency" "targets" "[I" (.ref br) := F4.same W8
  have F10 : Exa Z hX8 ob "com/example/wary_rank/waryrank/Adjacency" := F5.wr W8
  have F11 : Fld Z hX8 ob "com/example/wary_rank/waryrank/Adjacency" "offsets" "[I" (.ref ar) := F3.other W8 (Or.inr (slot_ne (Or.inr (hw _ (List.mem_of_getElem? (i := 15) rfl))) (Or.inr (hw _ (List.mem_of_getElem? (i := 17) rfl))) (by decide) (t := (.array .int)) (t' := (.array .int)) (by decide) (by decide)))
  have Z12 : n0 ≤ hX8.size := Nat.le_trans Z6 (Keep.of_wr W8).1
  have K13 : Keep h0 hX8 [ob] := K7.wr W8 (Or.inl (List.mem_of_getElem? (i := 0) rfl))
  obtain ⟨fs, hr, hrun, hended, hW, hsame⟩ := X8.leave (v := none) (fun _ => rfl)
  refine ⟨_, _, pre0 _ ?_, hrun, hended, _, _, rfl, ?_, ⟨_, rfl⟩, hW, hsame.mono (by decide) (by decide)⟩
  · skip
    show Steps p.tables e below (s₁.setTop (mkF m 0 #[.val (.ref ob), .val (.ref ar), .val (.ref br)] [])) _
    refine XS.aloadN X0.here hx rfl (hb hby d2_0) rfl rfl ?_
    show Steps p.tables e below (s₁.setTop (mkF m 1 #[.val (.ref ob), .val (.ref ar), .val (.ref br)] [(.ref ob)])) _
    refine st1 _ ?_
    show Steps p.tables e below (T1.setTop (mkF m 4 #[.val (.ref ob), .val (.ref ar), .val (.ref br)] [])) _
    refine XS.aloadN X1.here hx rfl (hb hby d2_4) rfl rfl ?_
    show Steps p.tables e below (T1.setTop (mkF m 5 #[.val (.ref ob), .val (.ref ar), .val (.ref br)] [(.ref ob)])) _
    refine XS.aloadN X1.here hx rfl (hb hby d2_5) rfl rfl ?_
    show Steps p.tables e below (T1.setTop (mkF m 6 #[.val (.ref ob), .val (.ref ar), .val (.ref br)] [(.ref ar), (.ref ob)])) _
    refine st2 _ ?_
    show Steps p.tables e below (T2.setTop (mkF m 9 #[.val (.ref ob), .val (.ref ar), .val (.ref br)] [])) _
    refine XS.aloadN X2.here hx rfl (hb hby d2_9) rfl rfl ?_
    show Steps p.tables e below (T2.setTop (mkF m 10 #[.val (.ref ob), .val (.ref ar), .val (.ref br)] [(.ref ob)])) _
    refine XS.aloadN X2.here hx rfl (hb hby d2_10) rfl rfl ?_
    show Steps p.tables e below (T2.setTop (mkF m 11 #[.val (.ref ob), .val (.ref ar), .val (.ref br)] [(.ref br), (.ref ob)])) _
    refine st8 _ ?_
    show Steps p.tables e below (T8.setTop (mkF m 14 #[.val (.ref ob), .val (.ref ar), .val (.ref br)] [])) _
    exact X8.returnOut hx Bd.returns (hb hby d2_14) hr
  · show Q2 Z ob ar br h0 n0 _ T8.heap _
    rw [e8]
    exact ⟨rfl, N8, K13, F10, F11⟩
theorem d4_0 : decode prog_1_method_3_code 0 = .ok (.aload_n 0, 1) := by decide +kernel
theorem d4_1 : decode prog_1_method_3_code 1 = .ok (.getfield 7, 3) := by decide +kernel
theorem d4_4 : decode prog_1_method_3_code 4 = .ok (.iload_n 1, 1) := by decide +kernel
theorem d4_5 : decode prog_1_method_3_code 5 = .ok (.iconst 1, 1) := by decide +kernel
theorem d4_6 : decode prog_1_method_3_code 6 = .ok (.iadd, 1) := by decide +kernel
theorem d4_7 : decode prog_1_method_3_code 7 = .ok (.iaload, 1) := by decide +kernel
theorem d4_8 : decode prog_1_method_3_code 8 = .ok (.aload_n 0, 1) := by decide +kernel
theorem d4_9 : decode prog_1_method_3_code 9 = .ok (.getfield 7, 3) := by decide +kernel
theorem d4_12 : decode prog_1_method_3_code 12 = .ok (.iload_n 1, 1) := by decide +kernel
theorem d4_13 : decode prog_1_method_3_code 13 = .ok (.iaload, 1) := by decide +kernel
theorem d4_14 : decode prog_1_method_3_code 14 = .ok (.isub, 1) := by decide +kernel
theorem d4_15 : decode prog_1_method_3_code 15 = .ok (.ireturn, 1) := by decide +kernel
theorem pn_4 : plainName "com/example/wary_rank/waryrank/Adjacency" = true := by first | (simp [plainName, overriddenIn]; done) | decide +kernel
theorem ef_4 (m : MethodId) (x0 : Addr) (x1 : Int32) : entryFrame m #[(.ref x0), (.int x1)] 2 = mkF m 0 #[.val (.ref x0), .val (.int x1)] [] := by first | (simp [entryFrame, mkF, argsToLocals, Value.category]; done) | rfl
def Q4 (Z : State) (ob : Addr) (i : Int32) (ar : Addr) (kc : ClassId) (w0 : Int32) (w1 : Int32) (w2 : Int32) (w3 : Int32) (w4 : Int32) (h0 : Heap) (n0 : Nat) (v : Option Value) (h : Heap) (L : List Loc) : Prop := v = some (.int (w1 - w0)) ∧ Fr n0 L ∧ h = h0
set_option maxRecDepth 65536 in
set_option maxHeartbeats 40000000 in
theorem rm4 (l : Launch) (Z : State) (a0 : Array Value) (hw : ∀ d ∈ tables_1, d.before a0 Z = true) (ws : List Jvm.Cond) (ob : Addr) (i : Int32) (ar : Addr) (kc : ClassId) (w0 : Int32) (w1 : Int32) (w2 : Int32) (w3 : Int32) (w4 : Int32) (h0 : Heap) (n0 : Nat) (Z0 : n0 ≤ h0.size) (I0 : Fld Z h0 ob "com/example/wary_rank/waryrank/Adjacency" "offsets" "[I" (.ref ar)) (I1 : Arv Z h0 ar kc .int (5 : Int32) [(.int w0), (.int w1), (.int w2), (.int w3), (.int w4)] (.int (0 : Int32))) (hlit_i : i = (0 : Int32)) :
    MetFree l (⟨"com/example/wary_rank/waryrank/Adjacency", "degree", "(I)I"⟩ : MethodName) (head1 (Jvm.Cond.code (⟨"com/example/wary_rank/waryrank/Adjacency", "degree", "(I)I"⟩ : MethodName) prog_1_method_3_code 2 (some .int) :: ws) ({ frames := 0, cells := 0, slots := 0, locals := 0 } : Room)) (fun a U => a = #[(.ref ob), (.int i)] ∧ Z.Warmed39 U.vm ∧ U.heap = h0) (fun _ _ _ _ _ => True) (fun _ U o U' => ∃ v L, o = .returned v ∧ Q4 Z ob i ar kc w0 w1 w2 w3 w4 h0 n0 v U'.heap L ∧ FrameEnd U o U' L ({ frames := 0, cells := 0, slots := 0, locals := 0 } : Room).cells ({ frames := 0, cells := 0, slots := 0, locals := 0 } : Room).slots) := by
  refine MetFree.of_bodySF (plainFor_of_name pn_4) hisR ?_
  intro p e s m args below meth c s₁ Bd hml0 hP hK
  obtain ⟨rfl, hZ, hh⟩ := hP
  have hx := Bd.exec
  have hby := Bd.bytes
  have hml : c.maxLocals = 2 := hml0
  have hown : s.vm.findClass "com/example/wary_rank/waryrank/Adjacency" = some m.cls := findClass_of_methodNamed Bd.named
  have hnm := (name_of_methodNamed Bd.named Bd.method).1
  have X0 : Stand p l e ({ frames := 0, cells := 0, slots := 0, locals := 0 } : Room) s m #[(.ref ob), (.int i)] below meth c s₁ [] 0 0 := Stand.of_body Bd
  have e0 : s₁.heap = h0 := by rw [← hh, Bd.state]; rfl
  have N0 := Fr.nil n0
  have K0 : Keep h0 h0 [] := Keep.refl h0 _
  have pre0 : ∀ tq, Steps p.tables e below (s₁.setTop (mkF m 0 #[.val (.ref ob), .val (.int i)] [])) tq → Steps p.tables e below (s₁.setTop (entryFrame m #[(.ref ob), (.int i)] 2)) tq := fun tq kq => castTop (ef_4 m ob i) kq
  subst hlit_i
  obtain ⟨T1, X1, e1, st1⟩ := getF X0 hx hZ hown (host := "") (Or.inl (hw _ (List.mem_of_getElem? (i := 14) rfl))) Via.refl e0 I0 (g := (mkF m 1 #[.val (.ref ob), .val (.int (0 : Int32))] [(.ref ob)])) rfl rfl (hb hby d4_1)
  obtain ⟨cl2, Ar2, q2, S2, M2, H2, G2⟩ := id I1
  have hin2 : ¬ ((1 : Int32) < 0 ∨ cl2.slots.size ≤ ((1 : Int32)).toNatClampNeg) := inb_of S2 ⟨by decide, by decide⟩
  have hat2 : cl2.slots[((1 : Int32)).toNatClampNeg]? = some (.int w1) := Has.at H2 hin2 rfl
  obtain ⟨T3, X3, e3, st3⟩ := getF X1 hx hZ hown (host := "") (Or.inl (hw _ (List.mem_of_getElem? (i := 14) rfl))) Via.refl e1 I0 (g := (mkF m 9 #[.val (.ref ob), .val (.int (0 : Int32))] [(.ref ob), (.int w1)])) rfl rfl (hb hby d4_9)
  obtain ⟨cl4, Ar4, q4, S4, M4, H4, G4⟩ := id I1
  have hin4 : ¬ ((0 : Int32) < 0 ∨ cl4.slots.size ≤ ((0 : Int32)).toNatClampNeg) := inb_of S4 ⟨by decide, by decide⟩
  have hat4 : cl4.slots[((0 : Int32)).toNatClampNeg]? = some (.int w0) := Has.at H4 hin4 rfl
  obtain ⟨fs, hr, hrun, hended, hW, hsame⟩ := X3.leave (v := some (Value.int (w1 - w0))) (fun h => by rw [Bd.returns] at h; cases h)
  refine ⟨_, _, pre0 _ ?_, hrun, hended, _, _, rfl, ?_, ⟨_, rfl⟩, hW, hsame.mono (by decide) (by decide)⟩
  · skip
    show Steps p.tables e below (s₁.setTop (mkF m 0 #[.val (.ref ob), .val (.int (0 : Int32))] [])) _
    refine XS.aloadN X0.here hx rfl (hb hby d4_0) rfl rfl ?_
    show Steps p.tables e below (s₁.setTop (mkF m 1 #[.val (.ref ob), .val (.int (0 : Int32))] [(.ref ob)])) _
    refine st1 _ ?_
    show Steps p.tables e below (T1.setTop (mkF m 4 #[.val (.ref ob), .val (.int (0 : Int32))] [(.ref ar)])) _
    refine XS.iloadN X1.here hx rfl (hb hby d4_4) rfl ?_
    show Steps p.tables e below (T1.setTop (mkF m 5 #[.val (.ref ob), .val (.int (0 : Int32))] [(.int (0 : Int32)), (.ref ar)])) _
    refine XS.iconst X1.here hx rfl (hb hby d4_5) ?_
    show Steps p.tables e below (T1.setTop (mkF m 6 #[.val (.ref ob), .val (.int (0 : Int32))] [(.int (1 : Int32)), (.int (0 : Int32)), (.ref ar)])) _
    refine XS.iadd X1.here hx rfl (hb hby d4_6) rfl ?_
    show Steps p.tables e below (T1.setTop (mkF m 7 #[.val (.ref ob), .val (.int (0 : Int32))] [(.int (1 : Int32)), (.ref ar)])) _
    refine X1.iaload hx (j := (1 : Int32)) (v := (.int w1)) (heq_of e1 Ar2.1) (State.isArrayOf_alike hZ.alike Ar2.2.1) Ar2.2.2 hin2 hat2 (g := (mkF m 7 #[.val (.ref ob), .val (.int (0 : Int32))] [(.int (1 : Int32)), (.ref ar)])) rfl rfl (hb hby d4_7) _ ?_
    show Steps p.tables e below (T1.setTop (mkF m 8 #[.val (.ref ob), .val (.int (0 : Int32))] [(.int w1)])) _
    refine XS.aloadN X1.here hx rfl (hb hby d4_8) rfl rfl ?_
    show Steps p.tables e below (T1.setTop (mkF m 9 #[.val (.ref ob), .val (.int (0 : Int32))] [(.ref ob), (.int w1)])) _
    refine st3 _ ?_
    show Steps p.tables e below (T3.setTop (mkF m 12 #[.val (.ref ob), .val (.int (0 : Int32))] [(.ref ar), (.int w1)])) _
    refine XS.iloadN X3.here hx rfl (hb hby d4_12) rfl ?_
    show Steps p.tables e below (T3.setTop (mkF m 13 #[.val (.ref ob), .val (.int (0 : Int32))] [(.int (0 : Int32)), (.ref ar), (.int w1)])) _
    refine X3.iaload hx (j := (0 : Int32)) (v := (.int w0)) (heq_of e3 Ar4.1) (State.isArrayOf_alike hZ.alike Ar4.2.1) Ar4.2.2 hin4 hat4 (g := (mkF m 13 #[.val (.ref ob), .val (.int (0 : Int32))] [(.int (0 : Int32)), (.ref ar), (.int w1)])) rfl rfl (hb hby d4_13) _ ?_
    show Steps p.tables e below (T3.setTop (mkF m 14 #[.val (.ref ob), .val (.int (0 : Int32))] [(.int w0), (.int w1)])) _
    refine XS.isub X3.here hx rfl (hb hby d4_14) rfl ?_
    show Steps p.tables e below (T3.setTop (mkF m 15 #[.val (.ref ob), .val (.int (0 : Int32))] [(.int (w1 - w0))])) _
    exact retI X3 hx Bd.returns (hb hby d4_15) hr
  · show Q4 Z ob (0 : Int32) ar kc w0 w1 w2 w3 w4 h0 n0 _ T3.heap _
    rw [e3]
    exact ⟨rfl, N0, rfl⟩
theorem ef_4_1 (m : MethodId) (x0 : Addr) (x1 : Int32) : entryFrame m #[(.ref x0), (.int x1)] 2 = mkF m 0 #[.val (.ref x0), .val (.int x1)] [] := by first | (simp [entryFrame, mkF, argsToLocals, Value.category]; done) | rfl
def Q4_1 (Z : State) (ob : Addr) (i : Int32) (ar : Addr) (kc : ClassId) (w0 : Int32) (w1 : Int32) (w2 : Int32) (w3 : Int32) (w4 : Int32) (h0 : Heap) (n0 : Nat) (v : Option Value) (h : Heap) (L : List Loc) : Prop := v = some (.int (w2 - w1)) ∧ Fr n0 L ∧ h = h0
set_option maxRecDepth 65536 in
set_option maxHeartbeats 40000000 in
theorem rm4_1 (l : Launch) (Z : State) (a0 : Array Value) (hw : ∀ d ∈ tables_1, d.before a0 Z = true) (ws : List Jvm.Cond) (ob : Addr) (i : Int32) (ar : Addr) (kc : ClassId) (w0 : Int32) (w1 : Int32) (w2 : Int32) (w3 : Int32) (w4 : Int32) (h0 : Heap) (n0 : Nat) (Z0 : n0 ≤ h0.size) (I0 : Fld Z h0 ob "com/example/wary_rank/waryrank/Adjacency" "offsets" "[I" (.ref ar)) (I1 : Arv Z h0 ar kc .int (5 : Int32) [(.int w0), (.int w1), (.int w2), (.int w3), (.int w4)] (.int (0 : Int32))) (hlit_i : i = (1 : Int32)) :
    MetFree l (⟨"com/example/wary_rank/waryrank/Adjacency", "degree", "(I)I"⟩ : MethodName) (head1 (Jvm.Cond.code (⟨"com/example/wary_rank/waryrank/Adjacency", "degree", "(I)I"⟩ : MethodName) prog_1_method_3_code 2 (some .int) :: ws) ({ frames := 0, cells := 0, slots := 0, locals := 0 } : Room)) (fun a U => a = #[(.ref ob), (.int i)] ∧ Z.Warmed39 U.vm ∧ U.heap = h0) (fun _ _ _ _ _ => True) (fun _ U o U' => ∃ v L, o = .returned v ∧ Q4_1 Z ob i ar kc w0 w1 w2 w3 w4 h0 n0 v U'.heap L ∧ FrameEnd U o U' L ({ frames := 0, cells := 0, slots := 0, locals := 0 } : Room).cells ({ frames := 0, cells := 0, slots := 0, locals := 0 } : Room).slots) := by
  refine MetFree.of_bodySF (plainFor_of_name pn_4) hisR ?_
  intro p e s m args below meth c s₁ Bd hml0 hP hK
  obtain ⟨rfl, hZ, hh⟩ := hP
  have hx := Bd.exec
  have hby := Bd.bytes
  have hml : c.maxLocals = 2 := hml0
  have hown : s.vm.findClass "com/example/wary_rank/waryrank/Adjacency" = some m.cls := findClass_of_methodNamed Bd.named
  have hnm := (name_of_methodNamed Bd.named Bd.method).1
  have X0 : Stand p l e ({ frames := 0, cells := 0, slots := 0, locals := 0 } : Room) s m #[(.ref ob), (.int i)] below meth c s₁ [] 0 0 := Stand.of_body Bd
  have e0 : s₁.heap = h0 := by rw [← hh, Bd.state]; rfl
  have N0 := Fr.nil n0
  have K0 : Keep h0 h0 [] := Keep.refl h0 _
  have pre0 : ∀ tq, Steps p.tables e below (s₁.setTop (mkF m 0 #[.val (.ref ob), .val (.int i)] [])) tq → Steps p.tables e below (s₁.setTop (entryFrame m #[(.ref ob), (.int i)] 2)) tq := fun tq kq => castTop (ef_4_1 m ob i) kq
  subst hlit_i
  obtain ⟨T1, X1, e1, st1⟩ := getF X0 hx hZ hown (host := "") (Or.inl (hw _ (List.mem_of_getElem? (i := 14) rfl))) Via.refl e0 I0 (g := (mkF m 1 #[.val (.ref ob), .val (.int (1 : Int32))] [(.ref ob)])) rfl rfl (hb hby d4_1)
  obtain ⟨cl2, Ar2, q2, S2, M2, H2, G2⟩ := id I1
  have hin2 : ¬ ((2 : Int32) < 0 ∨ cl2.slots.size ≤ ((2 : Int32)).toNatClampNeg) := inb_of S2 ⟨by decide, by decide⟩
  have hat2 : cl2.slots[((2 : Int32)).toNatClampNeg]? = some (.int w2) := Has.at H2 hin2 rfl
  obtain ⟨T3, X3, e3, st3⟩ := getF X1 hx hZ hown (host := "") (Or.inl (hw _ (List.mem_of_getElem? (i := 14) rfl))) Via.refl e1 I0 (g := (mkF m 9 #[.val (.ref ob), .val (.int (1 : Int32))] [(.ref ob), (.int w2)])) rfl rfl (hb hby d4_9)
  obtain ⟨cl4, Ar4, q4, S4, M4, H4, G4⟩ := id I1
  have hin4 : ¬ ((1 : Int32) < 0 ∨ cl4.slots.size ≤ ((1 : Int32)).toNatClampNeg) := inb_of S4 ⟨by decide, by decide⟩
  have hat4 : cl4.slots[((1 : Int32)).toNatClampNeg]? = some (.int w1) := Has.at H4 hin4 rfl
  obtain ⟨fs, hr, hrun, hended, hW, hsame⟩ := X3.leave (v := some (Value.int (w2 - w1))) (fun h => by rw [Bd.returns] at h; cases h)
  refine ⟨_, _, pre0 _ ?_, hrun, hended, _, _, rfl, ?_, ⟨_, rfl⟩, hW, hsame.mono (by decide) (by decide)⟩
  · skip
    show Steps p.tables e below (s₁.setTop (mkF m 0 #[.val (.ref ob), .val (.int (1 : Int32))] [])) _
    refine XS.aloadN X0.here hx rfl (hb hby d4_0) rfl rfl ?_
    show Steps p.tables e below (s₁.setTop (mkF m 1 #[.val (.ref ob), .val (.int (1 : Int32))] [(.ref ob)])) _
    refine st1 _ ?_
    show Steps p.tables e below (T1.setTop (mkF m 4 #[.val (.ref ob), .val (.int (1 : Int32))] [(.ref ar)])) _
    refine XS.iloadN X1.here hx rfl (hb hby d4_4) rfl ?_
    show Steps p.tables e below (T1.setTop (mkF m 5 #[.val (.ref ob), .val (.int (1 : Int32))] [(.int (1 : Int32)), (.ref ar)])) _
    refine XS.iconst X1.here hx rfl (hb hby d4_5) ?_
    show Steps p.tables e below (T1.setTop (mkF m 6 #[.val (.ref ob), .val (.int (1 : Int32))] [(.int (1 : Int32)), (.int (1 : Int32)), (.ref ar)])) _
    refine XS.iadd X1.here hx rfl (hb hby d4_6) rfl ?_
    show Steps p.tables e below (T1.setTop (mkF m 7 #[.val (.ref ob), .val (.int (1 : Int32))] [(.int (2 : Int32)), (.ref ar)])) _
    refine X1.iaload hx (j := (2 : Int32)) (v := (.int w2)) (heq_of e1 Ar2.1) (State.isArrayOf_alike hZ.alike Ar2.2.1) Ar2.2.2 hin2 hat2 (g := (mkF m 7 #[.val (.ref ob), .val (.int (1 : Int32))] [(.int (2 : Int32)), (.ref ar)])) rfl rfl (hb hby d4_7) _ ?_
    show Steps p.tables e below (T1.setTop (mkF m 8 #[.val (.ref ob), .val (.int (1 : Int32))] [(.int w2)])) _
    refine XS.aloadN X1.here hx rfl (hb hby d4_8) rfl rfl ?_
    show Steps p.tables e below (T1.setTop (mkF m 9 #[.val (.ref ob), .val (.int (1 : Int32))] [(.ref ob), (.int w2)])) _
    refine st3 _ ?_
    show Steps p.tables e below (T3.setTop (mkF m 12 #[.val (.ref ob), .val (.int (1 : Int32))] [(.ref ar), (.int w2)])) _
    refine XS.iloadN X3.here hx rfl (hb hby d4_12) rfl ?_
    show Steps p.tables e below (T3.setTop (mkF m 13 #[.val (.ref ob), .val (.int (1 : Int32))] [(.int (1 : Int32)), (.ref ar), (.int w2)])) _
    refine X3.iaload hx (j := (1 : Int32)) (v := (.int w1)) (heq_of e3 Ar4.1) (State.isArrayOf_alike hZ.alike Ar4.2.1) Ar4.2.2 hin4 hat4 (g := (mkF m 13 #[.val (.ref ob), .val (.int (1 : Int32))] [(.int (1 : Int32)), (.ref ar), (.int w2)])) rfl rfl (hb hby d4_13) _ ?_
    show Steps p.tables e below (T3.setTop (mkF m 14 #[.val (.ref ob), .val (.int (1 : Int32))] [(.int w1), (.int w2)])) _
    refine XS.isub X3.here hx rfl (hb hby d4_14) rfl ?_
    show Steps p.tables e below (T3.setTop (mkF m 15 #[.val (.ref ob), .val (.int (1 : Int32))] [(.int (w2 - w1))])) _
    exact retI X3 hx Bd.returns (hb hby d4_15) hr
  · show Q4_1 Z ob (1 : Int32) ar kc w0 w1 w2 w3 w4 h0 n0 _ T3.heap _
    rw [e3]
    exact ⟨rfl, N0, rfl⟩
theorem ef_4_2 (m : MethodId) (x0 : Addr) (x1 : Int32) : entryFrame m #[(.ref x0), (.int x1)] 2 = mkF m 0 #[.val (.ref x0), .val (.int x1)] [] := by first | (simp [entryFrame, mkF, argsToLocals, Value.category]; done) | rfl
def Q4_2 (Z : State) (ob : Addr) (i : Int32) (ar : Addr) (kc : ClassId) (w0 : Int32) (w1 : Int32) (w2 : Int32) (w3 : Int32) (w4 : Int32) (h0 : Heap) (n0 : Nat) (v : Option Value) (h : Heap) (L : List Loc) : Prop := v = some (.int (w3 - w2)) ∧ Fr n0 L ∧ h = h0
set_option maxRecDepth 65536 in
set_option maxHeartbeats 40000000 in
theorem rm4_2 (l : Launch) (Z : State) (a0 : Array Value) (hw : ∀ d ∈ tables_1, d.before a0 Z = true) (ws : List Jvm.Cond) (ob : Addr) (i : Int32) (ar : Addr) (kc : ClassId) (w0 : Int32) (w1 : Int32) (w2 : Int32) (w3 : Int32) (w4 : Int32) (h0 : Heap) (n0 : Nat) (Z0 : n0 ≤ h0.size) (I0 : Fld Z h0 ob "com/example/wary_rank/waryrank/Adjacency" "offsets" "[I" (.ref ar)) (I1 : Arv Z h0 ar kc .int (5 : Int32) [(.int w0), (.int w1), (.int w2), (.int w3), (.int w4)] (.int (0 : Int32))) (hlit_i : i = (2 : Int32)) :
    MetFree l (⟨"com/example/wary_rank/waryrank/Adjacency", "degree", "(I)I"⟩ : MethodName) (head1 (Jvm.Cond.code (⟨"com/example/wary_rank/waryrank/Adjacency", "degree", "(I)I"⟩ : MethodName) prog_1_method_3_code 2 (some .int) :: ws) ({ frames := 0, cells := 0, slots := 0, locals := 0 } : Room)) (fun a U => a = #[(.ref ob), (.int i)] ∧ Z.Warmed39 U.vm ∧ U.heap = h0) (fun _ _ _ _ _ => True) (fun _ U o U' => ∃ v L, o = .returned v ∧ Q4_2 Z ob i ar kc w0 w1 w2 w3 w4 h0 n0 v U'.heap L ∧ FrameEnd U o U' L ({ frames := 0, cells := 0, slots := 0, locals := 0 } : Room).cells ({ frames := 0, cells := 0, slots := 0, locals := 0 } : Room).slots) := by
  refine MetFree.of_bodySF (plainFor_of_name pn_4) hisR ?_
  intro p e s m args below meth c s₁ Bd hml0 hP hK
  obtain ⟨rfl, hZ, hh⟩ := hP
  have hx := Bd.exec
  have hby := Bd.bytes
  have hml : c.maxLocals = 2 := hml0
  have hown : s.vm.findClass "com/example/wary_rank/waryrank/Adjacency" = some m.cls := findClass_of_methodNamed Bd.named
  have hnm := (name_of_methodNamed Bd.named Bd.method).1
  have X0 : Stand p l e ({ frames := 0, cells := 0, slots := 0, locals := 0 } : Room) s m #[(.ref ob), (.int i)] below meth c s₁ [] 0 0 := Stand.of_body Bd
  have e0 : s₁.heap = h0 := by rw [← hh, Bd.state]; rfl
  have N0 := Fr.nil n0
  have K0 : Keep h0 h0 [] := Keep.refl h0 _
  have pre0 : ∀ tq, Steps p.tables e below (s₁.setTop (mkF m 0 #[.val (.ref ob), .val (.int i)] [])) tq → Steps p.tables e below (s₁.setTop (entryFrame m #[(.ref ob), (.int i)] 2)) tq := fun tq kq => castTop (ef_4_2 m ob i) kq
  subst hlit_i
  obtain ⟨T1, X1, e1, st1⟩ := getF X0 hx hZ hown (host := "") (Or.inl (hw _ (List.mem_of_getElem? (i := 14) rfl))) Via.refl e0 I0 (g := (mkF m 1 #[.val (.ref ob), .val (.int (2 : Int32))] [(.ref ob)])) rfl rfl (hb hby d4_1)
  obtain ⟨cl2, Ar2, q2, S2, M2, H2, G2⟩ := id I1
  have hin2 : ¬ ((3 : Int32) < 0 ∨ cl2.slots.size ≤ ((3 : Int32)).toNatClampNeg) := inb_of S2 ⟨by decide, by decide⟩
  have hat2 : cl2.slots[((3 : Int32)).toNatClampNeg]? = some (.int w3) := Has.at H2 hin2 rfl
  obtain ⟨T3, X3, e3, st3⟩ := getF X1 hx hZ hown (host := "") (Or.inl (hw _ (List.mem_of_getElem? (i := 14) rfl))) Via.refl e1 I0 (g := (mkF m 9 #[.val (.ref ob), .val (.int (2 : Int32))] [(.ref ob), (.int w3)])) rfl rfl (hb hby d4_9)
  obtain ⟨cl4, Ar4, q4, S4, M4, H4, G4⟩ := id I1
  have hin4 : ¬ ((2 : Int32) < 0 ∨ cl4.slots.size ≤ ((2 : Int32)).toNatClampNeg) := inb_of S4 ⟨by decide, by decide⟩
  have hat4 : cl4.slots[((2 : Int32)).toNatClampNeg]? = some (.int w2) := Has.at H4 hin4 rfl
  obtain ⟨fs, hr, hrun, hended, hW, hsame⟩ := X3.leave (v := some (Value.int (w3 - w2))) (fun h => by rw [Bd.returns] at h; cases h)
  refine ⟨_, _, pre0 _ ?_, hrun, hended, _, _, rfl, ?_, ⟨_, rfl⟩, hW, hsame.mono (by decide) (by decide)⟩
  · skip
    show Steps p.tables e below (s₁.setTop (mkF m 0 #[.val (.ref ob), .val (.int (2 : Int32))] [])) _
    refine XS.aloadN X0.here hx rfl (hb hby d4_0) rfl rfl ?_
    show Steps p.tables e below (s₁.setTop (mkF m 1 #[.val (.ref ob), .val (.int (2 : Int32))] [(.ref ob)])) _
    refine st1 _ ?_
    show Steps p.tables e below (T1.setTop (mkF m 4 #[.val (.ref ob), .val (.int (2 : Int32))] [(.ref ar)])) _
    refine XS.iloadN X1.here hx rfl (hb hby d4_4) rfl ?_
    show Steps p.tables e below (T1.setTop (mkF m 5 #[.val (.ref ob), .val (.int (2 : Int32))] [(.int (2 : Int32)), (.ref ar)])) _
    refine XS.iconst X1.here hx rfl (hb hby d4_5) ?_
    show Steps p.tables e below (T1.setTop (mkF m 6 #[.val (.ref ob), .val (.int (2 : Int32))] [(.int (1 : Int32)), (.int (2 : Int32)), (.ref ar)])) _
    refine XS.iadd X1.here hx rfl (hb hby d4_6) rfl ?_
    show Steps p.tables e below (T1.setTop (mkF m 7 #[.val (.ref ob), .val (.int (2 : Int32))] [(.int (3 : Int32)), (.ref ar)])) _
    refine X1.iaload hx (j := (3 : Int32)) (v := (.int w3)) (heq_of e1 Ar2.1) (State.isArrayOf_alike hZ.alike Ar2.2.1) Ar2.2.2 hin2 hat2 (g := (mkF m 7 #[.val (.ref ob), .val (.int (2 : Int32))] [(.int (3 : Int32)), (.ref ar)])) rfl rfl (hb hby d4_7) _ ?_
    show Steps p.tables e below (T1.setTop (mkF m 8 #[.val (.ref ob), .val (.int (2 : Int32))] [(.int w3)])) _
    refine XS.aloadN X1.here hx rfl (hb hby d4_8) rfl rfl ?_
    show Steps p.tables e below (T1.setTop (mkF m 9 #[.val (.ref ob), .val (.int (2 : Int32))] [(.ref ob), (.int w3)])) _
    refine st3 _ ?_
    show Steps p.tables e below (T3.setTop (mkF m 12 #[.val (.ref ob), .val (.int (2 : Int32))] [(.ref ar), (.int w3)])) _
    refine XS.iloadN X3.here hx rfl (hb hby d4_12) rfl ?_
    show Steps p.tables e below (T3.setTop (mkF m 13 #[.val (.ref ob), .val (.int (2 : Int32))] [(.int (2 : Int32)), (.ref ar), (.int w3)])) _
    refine X3.iaload hx (j := (2 : Int32)) (v := (.int w2)) (heq_of e3 Ar4.1) (State.isArrayOf_alike hZ.alike Ar4.2.1) Ar4.2.2 hin4 hat4 (g := (mkF m 13 #[.val (.ref ob), .val (.int (2 : Int32))] [(.int (2 : Int32)), (.ref ar), (.int w3)])) rfl rfl (hb hby d4_13) _ ?_
    show Steps p.tables e below (T3.setTop (mkF m 14 #[.val (.ref ob), .val (.int (2 : Int32))] [(.int w2), (.int w3)])) _
    refine XS.isub X3.here hx rfl (hb hby d4_14) rfl ?_
    show Steps p.tables e below (T3.setTop (mkF m 15 #[.val (.ref ob), .val (.int (2 : Int32))] [(.int (w3 - w2))])) _
    exact retI X3 hx Bd.returns (hb hby d4_15) hr
  · show Q4_2 Z ob (2 : Int32) ar kc w0 w1 w2 w3 w4 h0 n0 _ T3.heap _
    rw [e3]
    exact ⟨rfl, N0, rfl⟩
theorem ef_4_3 (m : MethodId) (x0 : Addr) (x1 : Int32) : entryFrame m #[(.ref x0), (.int x1)] 2 = mkF m 0 #[.val (.ref x0), .val (.int x1)] [] := by first | (simp [entryFrame, mkF, argsToLocals, Value.category]; done) | rfl
def Q4_3 (Z : State) (ob : Addr) (i : Int32) (ar : Addr) (kc : ClassId) (w0 : Int32) (w1 : Int32) (w2 : Int32) (w3 : Int32) (w4 : Int32) (h0 : Heap) (n0 : Nat) (v : Option Value) (h : Heap) (L : List Loc) : Prop := v = some (.int (w4 - w3)) ∧ Fr n0 L ∧ h = h0
set_option maxRecDepth 65536 in
set_option maxHeartbeats 40000000 in
theorem rm4_3 (l : Launch) (Z : State) (a0 : Array Value) (hw : ∀ d ∈ tables_1, d.before a0 Z = true) (ws : List Jvm.Cond) (ob : Addr) (i : Int32) (ar : Addr) (kc : ClassId) (w0 : Int32) (w1 : Int32) (w2 : Int32) (w3 : Int32) (w4 : Int32) (h0 : Heap) (n0 : Nat) (Z0 : n0 ≤ h0.size) (I0 : Fld Z h0 ob "com/example/wary_rank/waryrank/Adjacency" "offsets" "[I" (.ref ar)) (I1 : Arv Z h0 ar kc .int (5 : Int32) [(.int w0), (.int w1), (.int w2), (.int w3), (.int w4)] (.int (0 : Int32))) (hlit_i : i = (3 : Int32)) :
    MetFree l (⟨"com/example/wary_rank/waryrank/Adjacency", "degree", "(I)I"⟩ : MethodName) (head1 (Jvm.Cond.code (⟨"com/example/wary_rank/waryrank/Adjacency", "degree", "(I)I"⟩ : MethodName) prog_1_method_3_code 2 (some .int) :: ws) ({ frames := 0, cells := 0, slots := 0, locals := 0 } : Room)) (fun a U => a = #[(.ref ob), (.int i)] ∧ Z.Warmed39 U.vm ∧ U.heap = h0) (fun _ _ _ _ _ => True) (fun _ U o U' => ∃ v L, o = .returned v ∧ Q4_3 Z ob i ar kc w0 w1 w2 w3 w4 h0 n0 v U'.heap L ∧ FrameEnd U o U' L ({ frames := 0, cells := 0, slots := 0, locals := 0 } : Room).cells ({ frames := 0, cells := 0, slots := 0, locals := 0 } : Room).slots) := by
  refine MetFree.of_bodySF (plainFor_of_name pn_4) hisR ?_
  intro p e s m args below meth c s₁ Bd hml0 hP hK
  obtain ⟨rfl, hZ, hh⟩ := hP
  have hx := Bd.exec
  have hby := Bd.bytes
  have hml : c.maxLocals = 2 := hml0
  have hown : s.vm.findClass "com/example/wary_rank/waryrank/Adjacency" = some m.cls := findClass_of_methodNamed Bd.named
  have hnm := (name_of_methodNamed Bd.named Bd.method).1
  have X0 : Stand p l e ({ frames := 0, cells := 0, slots := 0, locals := 0 } : Room) s m #[(.ref ob), (.int i)] below meth c s₁ [] 0 0 := Stand.of_body Bd
  have e0 : s₁.heap = h0 := by rw [← hh, Bd.state]; rfl
  have N0 := Fr.nil n0
  have K0 : Keep h0 h0 [] := Keep.refl h0 _
  have pre0 : ∀ tq, Steps p.tables e below (s₁.setTop (mkF m 0 #[.val (.ref ob), .val (.int i)] [])) tq → Steps p.tables e below (s₁.setTop (entryFrame m #[(.ref ob), (.int i)] 2)) tq := fun tq kq => castTop (ef_4_3 m ob i) kq
  subst hlit_i
  obtain ⟨T1, X1, e1, st1⟩ := getF X0 hx hZ hown (host := "") (Or.inl (hw _ (List.mem_of_getElem? (i := 14) rfl))) Via.refl e0 I0 (g := (mkF m 1 #[.val (.ref ob), .val (.int (3 : Int32))] [(.ref ob)])) rfl rfl (hb hby d4_1)
  obtain ⟨cl2, Ar2, q2, S2, M2, H2, G2⟩ := id I1
  have hin2 : ¬ ((4 : Int32) < 0 ∨ cl2.slots.size ≤ ((4 : Int32)).toNatClampNeg) := inb_of S2 ⟨by decide, by decide⟩
  have hat2 : cl2.slots[((4 : Int32)).toNatClampNeg]? = some (.int w4) := Has.at H2 hin2 rfl
  obtain ⟨T3, X3, e3, st3⟩ := getF X1 hx hZ hown (host := "") (Or.inl (hw _ (List.mem_of_getElem? (i := 14) rfl))) Via.refl e1 I0 (g := (mkF m 9 #[.val (.ref ob), .val (.int (3 : Int32))] [(.ref ob), (.int w4)])) rfl rfl (hb hby d4_9)
  obtain ⟨cl4, Ar4, q4, S4, M4, H4, G4⟩ := id I1
  have hin4 : ¬ ((3 : Int32) < 0 ∨ cl4.slots.size ≤ ((3 : Int32)).toNatClampNeg) := inb_of S4 ⟨by decide, by decide⟩
  have hat4 : cl4.slots[((3 : Int32)).toNatClampNeg]? = some (.int w3) := Has.at H4 hin4 rfl
  obtain ⟨fs, hr, hrun, hended, hW, hsame⟩ := X3.leave (v := some (Value.int (w4 - w3))) (fun h => by rw [Bd.returns] at h; cases h)
  refine ⟨_, _, pre0 _ ?_, hrun, hended, _, _, rfl, ?_, ⟨_, rfl⟩, hW, hsame.mono (by decide) (by decide)⟩
  · skip
    show Steps p.tables e below (s₁.setTop (mkF m 0 #[.val (.ref ob), .val (.int (3 : Int32))] [])) _
    refine XS.aloadN X0.here hx rfl (hb hby d4_0) rfl rfl ?_
    show Steps p.tables e below (s₁.setTop (mkF m 1 #[.val (.ref ob), .val (.int (3 : Int32))] [(.ref ob)])) _
    refine st1 _ ?_
    show Steps p.tables e below (T1.setTop (mkF m 4 #[.val (.ref ob), .val (.int (3 : Int32))] [(.ref ar)])) _
    refine XS.iloadN X1.here hx rfl (hb hby d4_4) rfl ?_
    show Steps p.tables e below (T1.setTop (mkF m 5 #[.val (.ref ob), .val (.int (3 : Int32))] [(.int (3 : Int32)), (.ref ar)])) _
    refine XS.iconst X1.here hx rfl (hb hby d4_5) ?_
    show Steps p.tables e below (T1.setTop (mkF m 6 #[.val (.ref ob), .val (.int (3 : Int32))] [(.int (1 : Int32)), (.int (3 : Int32)), (.ref ar)])) _
    refine XS.iadd X1.here hx rfl (hb hby d4_6) rfl ?_
    show Steps p.tables e below (T1.setTop (mkF m 7 #[.val (.ref ob), .val (.int (3 : Int32))] [(.int (4 : Int32)), (.ref ar)])) _
    refine X1.iaload hx (j := (4 : Int32)) (v := (.int w4)) (heq_of e1 Ar2.1) (State.isArrayOf_alike hZ.alike Ar2.2.1) Ar2.2.2 hin2 hat2 (g := (mkF m 7 #[.val (.ref ob), .val (.int (3 : Int32))] [(.int (4 : Int32)), (.ref ar)])) rfl rfl (hb hby d4_7) _ ?_
    show Steps p.tables e below (T1.setTop (mkF m 8 #[.val (.ref ob), .val (.int (3 : Int32))] [(.int w4)])) _
    refine XS.aloadN X1.here hx rfl (hb hby d4_8) rfl rfl ?_
    show Steps p.tables e below (T1.setTop (mkF m 9 #[.val (.ref ob), .val (.int (3 : Int32))] [(.ref ob), (.int w4)])) _
    refine st3 _ ?_
    show Steps p.tables e below (T3.setTop (mkF m 12 #[.val (.ref ob), .val (.int (3 : Int32))] [(.ref ar), (.int w4)])) _
    refine XS.iloadN X3.here hx rfl (hb hby d4_12) rfl ?_
    show Steps p.tables e below (T3.setTop (mkF m 13 #[.val (.ref ob), .val (.int (3 : Int32))] [(.int (3 : Int32)), (.ref ar), (.int w4)])) _
    refine X3.iaload hx (j := (3 : Int32)) (v := (.int w3)) (heq_of e3 Ar4.1) (State.isArrayOf_alike hZ.alike Ar4.2.1) Ar4.2.2 hin4 hat4 (g := (mkF m 13 #[.val (.ref ob), .val (.int (3 : Int32))] [(.int (3 : Int32)), (.ref ar), (.int w4)])) rfl rfl (hb hby d4_13) _ ?_
    show Steps p.tables e below (T3.setTop (mkF m 14 #[.val (.ref ob), .val (.int (3 : Int32))] [(.int w3), (.int w4)])) _
    refine XS.isub X3.here hx rfl (hb hby d4_14) rfl ?_
    show Steps p.tables e below (T3.setTop (mkF m 15 #[.val (.ref ob), .val (.int (3 : Int32))] [(.int (w4 - w3))])) _
    exact retI X3 hx Bd.returns (hb hby d4_15) hr
  · show Q4_3 Z ob (3 : Int32) ar kc w0 w1 w2 w3 w4 h0 n0 _ T3.heap _
    rw [e3]
    exact ⟨rfl, N0, rfl⟩
theorem pn_0 : plainName "com/example/wary_rank/waryrank/AdjacencyDegreePinLaw" = true := by first | (simp [plainName, overriddenIn]; done) | decide +kernel
theorem pd_0 : parseMethodDescriptor "([III)V" = some ⟨[(.array .int), .int, .int], none⟩ := by decide +kernel
theorem pd_1 : parseMethodDescriptor "([I[I)V" = some ⟨[(.array .int), (.array .int)], none⟩ := by decide +kernel
theorem pd_2 : parseMethodDescriptor "(I)I" = some ⟨[.int], some .int⟩ := by decide +kernel
theorem ef_0 (m : MethodId) (x0 : Int32) (x1 : Int32) (x2 : Int32) (x3 : Int32) : entryFrame m #[(.int x0), (.int x1), (.int x2), (.int x3)] maxLocals = mkF m 0 #[.val (.int x0), .val (.int x1), .val (.int x2), .val (.int x3), .unset, .unset, .unset, .unset, .unset, .unset, .unset] [] := by first | (simp [entryFrame, mkF, argsToLocals, Value.category, maxLocals]; done) | rfl
theorem own_neg_0_76 (k1 : Int32) (k2 : Int32) (k3 : Int32) (k4 : Int32) (v3 : Int32) (hv3 : v3 = (k1 &&& (3 : Int32))) (v8 : Int32) (hv8 : v8 = (k2 &&& (3 : Int32))) (v13 : Int32) (hv13 : v13 = (k3 &&& (3 : Int32))) (v18 : Int32) (hv18 : v18 = (k4 &&& (3 : Int32))) : ¬ (((v3 + v8) + v13) + v18) < 0 := by
  have m1 := own_m3 k1
  rw [← hv3] at m1
  have m2 := own_m3 k2
  rw [← hv8] at m2
  have m3 := own_m3 k3
  rw [← hv13] at m3
  have m4 := own_m3 k4
  rw [← hv18] at m4
  have q2 := own_s2 v3 v8 m1 m2
  have q3 := own_s3 v3 v8 v13 m1 m2 m3
  have q4 := own_s4 v3 v8 v13 v18 m1 m2 m3 m4
  have t0 : (0 : Int32).toInt = 0 := rfl
  have t1 : (1 : Int32).toInt = 1 := rfl
  have t2 : (2 : Int32).toInt = 2 := rfl
  rw [Int32.lt_iff_toInt_lt]
  omega
theorem own_cap_0_76 (k1 : Int32) (k2 : Int32) (k3 : Int32) (k4 : Int32) (v3 : Int32) (hv3 : v3 = (k1 &&& (3 : Int32))) (v8 : Int32) (hv8 : v8 = (k2 &&& (3 : Int32))) (v13 : Int32) (hv13 : v13 = (k3 &&& (3 : Int32))) (v18 : Int32) (hv18 : v18 = (k4 &&& (3 : Int32))) : ((((v3 + v8) + v13) + v18)).toNatClampNeg ≤ 12 := by
  have m1 := own_m3 k1
  rw [← hv3] at m1
  have m2 := own_m3 k2
  rw [← hv8] at m2
  have m3 := own_m3 k3
  rw [← hv13] at m3
  have m4 := own_m3 k4
  rw [← hv18] at m4
  have q2 := own_s2 v3 v8 m1 m2
  have q3 := own_s3 v3 v8 v13 m1 m2 m3
  have q4 := own_s4 v3 v8 v13 v18 m1 m2 m3 m4
  have t0 : (0 : Int32).toInt = 0 := rfl
  have t1 : (1 : Int32).toInt = 1 := rfl
  have t2 : (2 : Int32).toInt = 2 := rfl
  have e : (((v3 + v8) + v13) + v18).toNatClampNeg = (((v3 + v8) + v13) + v18).toInt.toNat := rfl
  omega
theorem own_pre_0_88_h1 (k1 : Int32) (k2 : Int32) (k3 : Int32) (k4 : Int32) (v3 : Int32) (hv3 : v3 = (k1 &&& (3 : Int32))) (v8 : Int32) (hv8 : v8 = (k2 &&& (3 : Int32))) (v13 : Int32) (hv13 : v13 = (k3 &&& (3 : Int32))) (v18 : Int32) (hv18 : v18 = (k4 &&& (3 : Int32))) : (1 : Int32) < v3 → ¬ ((0 : Int32) + (1 : Int32)) < 0 ∧ ((0 : Int32) + (1 : Int32)) < (((v3 + v8) + v13) + v18) := by
  have m1 := own_m3 k1
  rw [← hv3] at m1
  have m2 := own_m3 k2
  rw [← hv8] at m2
  have m3 := own_m3 k3
  rw [← hv13] at m3
  have m4 := own_m3 k4
  rw [← hv18] at m4
  have q2 := own_s2 v3 v8 m1 m2
  have q3 := own_s3 v3 v8 v13 m1 m2 m3
  have q4 := own_s4 v3 v8 v13 v18 m1 m2 m3 m4
  have t0 : (0 : Int32).toInt = 0 := rfl
  have t1 : (1 : Int32).toInt = 1 := rfl
  have t2 : (2 : Int32).toInt = 2 := rfl
  intro hd
  rw [Int32.lt_iff_toInt_lt] at hd
  refine own_at _ _ _ _ t0 rfl ?_ ?_ ?_ _ _ t1 ?_ ?_ <;> omega
theorem own_pre_0_88_h2 (k1 : Int32) (k2 : Int32) (k3 : Int32) (k4 : Int32) (v3 : Int32) (hv3 : v3 = (k1 &&& (3 : Int32))) (v8 : Int32) (hv8 : v8 = (k2 &&& (3 : Int32))) (v13 : Int32) (hv13 : v13 = (k3 &&& (3 : Int32))) (v18 : Int32) (hv18 : v18 = (k4 &&& (3 : Int32))) (hp32_h1 : (1 : Int32) < v3 → ¬ ((0 : Int32) + (1 : Int32)) < 0 ∧ ((0 : Int32) + (1 : Int32)) < (((v3 + v8) + v13) + v18)) : (2 : Int32) < v3 → ¬ ((0 : Int32) + (2 : Int32)) < 0 ∧ ((0 : Int32) + (2 : Int32)) < (((v3 + v8) + v13) + v18) := by
  have m1 := own_m3 k1
  rw [← hv3] at m1
  have m2 := own_m3 k2
  rw [← hv8] at m2
  have m3 := own_m3 k3
  rw [← hv13] at m3
  have m4 := own_m3 k4
  rw [← hv18] at m4
  have q2 := own_s2 v3 v8 m1 m2
  have q3 := own_s3 v3 v8 v13 m1 m2 m3
  have q4 := own_s4 v3 v8 v13 v18 m1 m2 m3 m4
  have t0 : (0 : Int32).toInt = 0 := rfl
  have t1 : (1 : Int32).toInt = 1 := rfl
  have t2 : (2 : Int32).toInt = 2 := rfl
  intro hd
  rw [Int32.lt_iff_toInt_lt] at hd
  refine own_at _ _ _ _ t0 rfl ?_ ?_ ?_ _ _ t2 ?_ ?_ <;> omega
theorem own_pre_0_99_h1 (k1 : Int32) (k2 : Int32) (k3 : Int32) (k4 : Int32) (v3 : Int32) (hv3 : v3 = (k1 &&& (3 : Int32))) (v8 : Int32) (hv8 : v8 = (k2 &&& (3 : Int32))) (v13 : Int32) (hv13 : v13 = (k3 &&& (3 : Int32))) (v18 : Int32) (hv18 : v18 = (k4 &&& (3 : Int32))) (hp32_h1 : (1 : Int32) < v3 → ¬ ((0 : Int32) + (1 : Int32)) < 0 ∧ ((0 : Int32) + (1 : Int32)) < (((v3 + v8) + v13) + v18)) (hp32_h2 : (2 : Int32) < v3 → ¬ ((0 : Int32) + (2 : Int32)) < 0 ∧ ((0 : Int32) + (2 : Int32)) < (((v3 + v8) + v13) + v18)) : (1 : Int32) < v8 → ¬ (v3 + (1 : Int32)) < 0 ∧ (v3 + (1 : Int32)) < (((v3 + v8) + v13) + v18) := by
  have m1 := own_m3 k1
  rw [← hv3] at m1
  have m2 := own_m3 k2
  rw [← hv8] at m2
  have m3 := own_m3 k3
  rw [← hv13] at m3
  have m4 := own_m3 k4
  rw [← hv18] at m4
  have q2 := own_s2 v3 v8 m1 m2
  have q3 := own_s3 v3 v8 v13 m1 m2 m3
  have q4 := own_s4 v3 v8 v13 v18 m1 m2 m3 m4
  have t0 : (0 : Int32).toInt = 0 := rfl
  have t1 : (1 : Int32).toInt = 1 := rfl
  have t2 : (2 : Int32).toInt = 2 := rfl
  intro hd
  rw [Int32.lt_iff_toInt_lt] at hd
  refine own_at _ _ _ _ rfl rfl ?_ ?_ ?_ _ _ t1 ?_ ?_ <;> omega
theorem own_pre_0_99_h2 (k1 : Int32) (k2 : Int32) (k3 : Int32) (k4 : Int32) (v3 : Int32) (hv3 : v3 = (k1 &&& (3 : Int32))) (v8 : Int32) (hv8 : v8 = (k2 &&& (3 : Int32))) (v13 : Int32) (hv13 : v13 = (k3 &&& (3 : Int32))) (v18 : Int32) (hv18 : v18 = (k4 &&& (3 : Int32))) (hp32_h1 : (1 : Int32) < v3 → ¬ ((0 : Int32) + (1 : Int32)) < 0 ∧ ((0 : Int32) + (1 : Int32)) < (((v3 + v8) + v13) + v18)) (hp32_h2 : (2 : Int32) < v3 → ¬ ((0 : Int32) + (2 : Int32)) < 0 ∧ ((0 : Int32) + (2 : Int32)) < (((v3 + v8) + v13) + v18)) (hp38_h1 : (1 : Int32) < v8 → ¬ (v3 + (1 : Int32)) < 0 ∧ (v3 + (1 : Int32)) < (((v3 + v8) + v13) + v18)) : (2 : Int32) < v8 → ¬ (v3 + (2 : Int32)) < 0 ∧ (v3 + (2 : Int32)) < (((v3 + v8) + v13) + v18) := by
  have m1 := own_m3 k1
  rw [← hv3] at m1
  have m2 := own_m3 k2
  rw [← hv8] at m2
  have m3 := own_m3 k3
  rw [← hv13] at m3
  have m4 := own_m3 k4
  rw [← hv18] at m4
  have q2 := own_s2 v3 v8 m1 m2
  have q3 := own_s3 v3 v8 v13 m1 m2 m3
  have q4 := own_s4 v3 v8 v13 v18 m1 m2 m3 m4
  have t0 : (0 : Int32).toInt = 0 := rfl
  have t1 : (1 : Int32).toInt = 1 := rfl
  have t2 : (2 : Int32).toInt = 2 := rfl
  intro hd
  rw [Int32.lt_iff_toInt_lt] at hd
  refine own_at _ _ _ _ rfl rfl ?_ ?_ ?_ _ _ t2 ?_ ?_ <;> omega
theorem own_pre_0_110_h1 (k1 : Int32) (k2 : Int32) (k3 : Int32) (k4 : Int32) (v3 : Int32) (hv3 : v3 = (k1 &&& (3 : Int32))) (v8 : Int32) (hv8 : v8 = (k2 &&& (3 : Int32))) (v13 : Int32) (hv13 : v13 = (k3 &&& (3 : Int32))) (v18 : Int32) (hv18 : v18 = (k4 &&& (3 : Int32))) (hp32_h1 : (1 : Int32) < v3 → ¬ ((0 : Int32) + (1 : Int32)) < 0 ∧ ((0 : Int32) + (1 : Int32)) < (((v3 + v8) + v13) + v18)) (hp32_h2 : (2 : Int32) < v3 → ¬ ((0 : Int32) + (2 : Int32)) < 0 ∧ ((0 : Int32) + (2 : Int32)) < (((v3 + v8) + v13) + v18)) (hp38_h1 : (1 : Int32) < v8 → ¬ (v3 + (1 : Int32)) < 0 ∧ (v3 + (1 : Int32)) < (((v3 + v8) + v13) + v18)) (hp38_h2 : (2 : Int32) < v8 → ¬ (v3 + (2 : Int32)) < 0 ∧ (v3 + (2 : Int32)) < (((v3 + v8) + v13) + v18)) : (1 : Int32) < v13 → ¬ ((v3 + v8) + (1 : Int32)) < 0 ∧ ((v3 + v8) + (1 : Int32)) < (((v3 + v8) + v13) + v18) := by
  have m1 := own_m3 k1
  rw [← hv3] at m1
  have m2 := own_m3 k2
  rw [← hv8] at m2
  have m3 := own_m3 k3
  rw [← hv13] at m3
  have m4 := own_m3 k4
  rw [← hv18] at m4
  have q2 := own_s2 v3 v8 m1 m2
  have q3 := own_s3 v3 v8 v13 m1 m2 m3
  have q4 := own_s4 v3 v8 v13 v18 m1 m2 m3 m4
  have t0 : (0 : Int32).toInt = 0 := rfl
  have t1 : (1 : Int32).toInt = 1 := rfl
  have t2 : (2 : Int32).toInt = 2 := rfl
  intro hd
  rw [Int32.lt_iff_toInt_lt] at hd
  refine own_at _ _ _ _ q2 rfl ?_ ?_ ?_ _ _ t1 ?_ ?_ <;> omega
theorem own_pre_0_110_h2 (k1 : Int32) (k2 : Int32) (k3 : Int32) (k4 : Int32) (v3 : Int32) (hv3 : v3 = (k1 &&& (3 : Int32))) (v8 : Int32) (hv8 : v8 = (k2 &&& (3 : Int32))) (v13 : Int32) (hv13 : v13 = (k3 &&& (3 : Int32))) (v18 : Int32) (hv18 : v18 = (k4 &&& (3 : Int32))) (hp32_h1 : (1 : Int32) < v3 → ¬ ((0 : Int32) + (1 : Int32)) < 0 ∧ ((0 : Int32) + (1 : Int32)) < (((v3 + v8) + v13) + v18)) (hp32_h2 : (2 : Int32) < v3 → ¬ ((0 : Int32) + (2 : Int32)) < 0 ∧ ((0 : Int32) + (2 : Int32)) < (((v3 + v8) + v13) + v18)) (hp38_h1 : (1 : Int32) < v8 → ¬ (v3 + (1 : Int32)) < 0 ∧ (v3 + (1 : Int32)) < (((v3 + v8) + v13) + v18)) (hp38_h2 : (2 : Int32) < v8 → ¬ (v3 + (2 : Int32)) < 0 ∧ (v3 + (2 : Int32)) < (((v3 + v8) + v13) + v18)) (hp44_h1 : (1 : Int32) < v13 → ¬ ((v3 + v8) + (1 : Int32)) < 0 ∧ ((v3 + v8) + (1 : Int32)) < (((v3 + v8) + v13) + v18)) : (2 : Int32) < v13 → ¬ ((v3 + v8) + (2 : Int32)) < 0 ∧ ((v3 + v8) + (2 : Int32)) < (((v3 + v8) + v13) + v18) := by
  have m1 := own_m3 k1
  rw [← hv3] at m1
  have m2 := own_m3 k2
  rw [← hv8] at m2
  have m3 := own_m3 k3
  rw [← hv13] at m3
  have m4 := own_m3 k4
  rw [← hv18] at m4
  have q2 := own_s2 v3 v8 m1 m2
  have q3 := own_s3 v3 v8 v13 m1 m2 m3
  have q4 := own_s4 v3 v8 v13 v18 m1 m2 m3 m4
  have t0 : (0 : Int32).toInt = 0 := rfl
  have t1 : (1 : Int32).toInt = 1 := rfl
  have t2 : (2 : Int32).toInt = 2 := rfl
  intro hd
  rw [Int32.lt_iff_toInt_lt] at hd
  refine own_at _ _ _ _ q2 rfl ?_ ?_ ?_ _ _ t2 ?_ ?_ <;> omega
theorem own_pre_0_121_h1 (k1 : Int32) (k2 : Int32) (k3 : Int32) (k4 : Int32) (v3 : Int32) (hv3 : v3 = (k1 &&& (3 : Int32))) (v8 : Int32) (hv8 : v8 = (k2 &&& (3 : Int32))) (v13 : Int32) (hv13 : v13 = (k3 &&& (3 : Int32))) (v18 : Int32) (hv18 : v18 = (k4 &&& (3 : Int32))) (hp32_h1 : (1 : Int32) < v3 → ¬ ((0 : Int32) + (1 : Int32)) < 0 ∧ ((0 : Int32) + (1 : Int32)) < (((v3 + v8) + v13) + v18)) (hp32_h2 : (2 : Int32) < v3 → ¬ ((0 : Int32) + (2 : Int32)) < 0 ∧ ((0 : Int32) + (2 : Int32)) < (((v3 + v8) + v13) + v18)) (hp38_h1 : (1 : Int32) < v8 → ¬ (v3 + (1 : Int32)) < 0 ∧ (v3 + (1 : Int32)) < (((v3 + v8) + v13) + v18)) (hp38_h2 : (2 : Int32) < v8 → ¬ (v3 + (2 : Int32)) < 0 ∧ (v3 + (2 : Int32)) < (((v3 + v8) + v13) + v18)) (hp44_h1 : (1 : Int32) < v13 → ¬ ((v3 + v8) + (1 : Int32)) < 0 ∧ ((v3 + v8) + (1 : Int32)) < (((v3 + v8) + v13) + v18)) (hp44_h2 : (2 : Int32) < v13 → ¬ ((v3 + v8) + (2 : Int32)) < 0 ∧ ((v3 + v8) + (2 : Int32)) < (((v3 + v8) + v13) + v18)) : (1 : Int32) < v18 → ¬ (((v3 + v8) + v13) + (1 : Int32)) < 0 ∧ (((v3 + v8) + v13) + (1 : Int32)) < (((v3 + v8) + v13) + v18) := by
  have m1 := own_m3 k1
  rw [← hv3] at m1
  have m2 := own_m3 k2
  rw [← hv8] at m2
  have m3 := own_m3 k3
  rw [← hv13] at m3
  have m4 := own_m3 k4
  rw [← hv18] at m4
  have q2 := own_s2 v3 v8 m1 m2
  have q3 := own_s3 v3 v8 v13 m1 m2 m3
  have q4 := own_s4 v3 v8 v13 v18 m1 m2 m3 m4
  have t0 : (0 : Int32).toInt = 0 := rfl
  have t1 : (1 : Int32).toInt = 1 := rfl
  have t2 : (2 : Int32).toInt = 2 := rfl
  intro hd
  rw [Int32.lt_iff_toInt_lt] at hd
  refine own_at _ _ _ _ q3 rfl ?_ ?_ ?_ _ _ t1 ?_ ?_ <;> omega
theorem own_pre_0_121_h2 (k1 : Int32) (k2 : Int32) (k3 : Int32) (k4 : Int32) (v3 : Int32) (hv3 : v3 = (k1 &&& (3 : Int32))) (v8 : Int32) (hv8 : v8 = (k2 &&& (3 : Int32))) (v13 : Int32) (hv13 : v13 = (k3 &&& (3 : Int32))) (v18 : Int32) (hv18 : v18 = (k4 &&& (3 : Int32))) (hp32_h1 : (1 : Int32) < v3 → ¬ ((0 : Int32) + (1 : Int32)) < 0 ∧ ((0 : Int32) + (1 : Int32)) < (((v3 + v8) + v13) + v18)) (hp32_h2 : (2 : Int32) < v3 → ¬ ((0 : Int32) + (2 : Int32)) < 0 ∧ ((0 : Int32) + (2 : Int32)) < (((v3 + v8) + v13) + v18)) (hp38_h1 : (1 : Int32) < v8 → ¬ (v3 + (1 : Int32)) < 0 ∧ (v3 + (1 : Int32)) < (((v3 + v8) + v13) + v18)) (hp38_h2 : (2 : Int32) < v8 → ¬ (v3 + (2 : Int32)) < 0 ∧ (v3 + (2 : Int32)) < (((v3 + v8) + v13) + v18)) (hp44_h1 : (1 : Int32) < v13 → ¬ ((v3 + v8) + (1 : Int32)) < 0 ∧ ((v3 + v8) + (1 : Int32)) < (((v3 + v8) + v13) + v18)) (hp44_h2 : (2 : Int32) < v13 → ¬ ((v3 + v8) + (2 : Int32)) < 0 ∧ ((v3 + v8) + (2 : Int32)) < (((v3 + v8) + v13) + v18)) (hp50_h1 : (1 : Int32) < v18 → ¬ (((v3 + v8) + v13) + (1 : Int32)) < 0 ∧ (((v3 + v8) + v13) + (1 : Int32)) < (((v3 + v8) + v13) + v18)) : (2 : Int32) < v18 → ¬ (((v3 + v8) + v13) + (2 : Int32)) < 0 ∧ (((v3 + v8) + v13) + (2 : Int32)) < (((v3 + v8) + v13) + v18) := by
  have m1 := own_m3 k1
  rw [← hv3] at m1
  have m2 := own_m3 k2
  rw [← hv8] at m2
  have m3 := own_m3 k3
  rw [← hv13] at m3
  have m4 := own_m3 k4
  rw [← hv18] at m4
  have q2 := own_s2 v3 v8 m1 m2
  have q3 := own_s3 v3 v8 v13 m1 m2 m3
  have q4 := own_s4 v3 v8 v13 v18 m1 m2 m3 m4
  have t0 : (0 : Int32).toInt = 0 := rfl
  have t1 : (1 : Int32).toInt = 1 := rfl
  have t2 : (2 : Int32).toInt = 2 := rfl
  intro hd
  rw [Int32.lt_iff_toInt_lt] at hd
  refine own_at _ _ _ _ q3 rfl ?_ ?_ ?_ _ _ t2 ?_ ?_ <;> omega
theorem own_leaf_0_186_fff (k1 : Int32) (k2 : Int32) (k3 : Int32) (k4 : Int32) (v3 : Int32) (hv3 : v3 = (k1 &&& (3 : Int32))) (v8 : Int32) (hv8 : v8 = (k2 &&& (3 : Int32))) (v13 : Int32) (hv13 : v13 = (k3 &&& (3 : Int32))) (v18 : Int32) (hv18 : v18 = (k4 &&& (3 : Int32))) (hp32_h1 : (1 : Int32) < v3 → ¬ ((0 : Int32) + (1 : Int32)) < 0 ∧ ((0 : Int32) + (1 : Int32)) < (((v3 + v8) + v13) + v18)) (hp32_h2 : (2 : Int32) < v3 → ¬ ((0 : Int32) + (2 : Int32)) < 0 ∧ ((0 : Int32) + (2 : Int32)) < (((v3 + v8) + v13) + v18)) (hp38_h1 : (1 : Int32) < v8 → ¬ (v3 + (1 : Int32)) < 0 ∧ (v3 + (1 : Int32)) < (((v3 + v8) + v13) + v18)) (hp38_h2 : (2 : Int32) < v8 → ¬ (v3 + (2 : Int32)) < 0 ∧ (v3 + (2 : Int32)) < (((v3 + v8) + v13) + v18)) (hp44_h1 : (1 : Int32) < v13 → ¬ ((v3 + v8) + (1 : Int32)) < 0 ∧ ((v3 + v8) + (1 : Int32)) < (((v3 + v8) + v13) + v18)) (hp44_h2 : (2 : Int32) < v13 → ¬ ((v3 + v8) + (2 : Int32)) < 0 ∧ ((v3 + v8) + (2 : Int32)) < (((v3 + v8) + v13) + v18)) (hp50_h1 : (1 : Int32) < v18 → ¬ (((v3 + v8) + v13) + (1 : Int32)) < 0 ∧ (((v3 + v8) + v13) + (1 : Int32)) < (((v3 + v8) + v13) + v18)) (hp50_h2 : (2 : Int32) < v18 → ¬ (((v3 + v8) + v13) + (2 : Int32)) < 0 ∧ (((v3 + v8) + v13) + (2 : Int32)) < (((v3 + v8) + v13) + v18)) (r140 : Int32) (hr140 : r140 = (v3 - (0 : Int32))) (hc145_72 : r140 = v3) (r151 : Int32) (hr151 : r151 = ((v3 + v8) - v3)) (hc156_75 : r151 = v8) (r162 : Int32) (hr162 : r162 = (((v3 + v8) + v13) - (v3 + v8))) (hc167_78 : r162 = v13) (r173 : Int32) (hr173 : r173 = ((((v3 + v8) + v13) + v18) - ((v3 + v8) + v13))) (m186 : Int32) (hm186 : m186 = (if r173 = v18 then (1 : Int32) else (0 : Int32))) : (nar .boolean m186) = (1 : Int32) := by rw [hm186, if_pos (by rw [hr173]; exact own_sub_self _ _)]; rfl
theorem own_leaf_0_186_fft (k1 : Int32) (k2 : Int32) (k3 : Int32) (k4 : Int32) (v3 : Int32) (hv3 : v3 = (k1 &&& (3 : Int32))) (v8 : Int32) (hv8 : v8 = (k2 &&& (3 : Int32))) (v13 : Int32) (hv13 : v13 = (k3 &&& (3 : Int32))) (v18 : Int32) (hv18 : v18 = (k4 &&& (3 : Int32))) (hp32_h1 : (1 : Int32) < v3 → ¬ ((0 : Int32) + (1 : Int32)) < 0 ∧ ((0 : Int32) + (1 : Int32)) < (((v3 + v8) + v13) + v18)) (hp32_h2 : (2 : Int32) < v3 → ¬ ((0 : Int32) + (2 : Int32)) < 0 ∧ ((0 : Int32) + (2 : Int32)) < (((v3 + v8) + v13) + v18)) (hp38_h1 : (1 : Int32) < v8 → ¬ (v3 + (1 : Int32)) < 0 ∧ (v3 + (1 : Int32)) < (((v3 + v8) + v13) + v18)) (hp38_h2 : (2 : Int32) < v8 → ¬ (v3 + (2 : Int32)) < 0 ∧ (v3 + (2 : Int32)) < (((v3 + v8) + v13) + v18)) (hp44_h1 : (1 : Int32) < v13 → ¬ ((v3 + v8) + (1 : Int32)) < 0 ∧ ((v3 + v8) + (1 : Int32)) < (((v3 + v8) + v13) + v18)) (hp44_h2 : (2 : Int32) < v13 → ¬ ((v3 + v8) + (2 : Int32)) < 0 ∧ ((v3 + v8) + (2 : Int32)) < (((v3 + v8) + v13) + v18)) (hp50_h1 : (1 : Int32) < v18 → ¬ (((v3 + v8) + v13) + (1 : Int32)) < 0 ∧ (((v3 + v8) + v13) + (1 : Int32)) < (((v3 + v8) + v13) + v18)) (hp50_h2 : (2 : Int32) < v18 → ¬ (((v3 + v8) + v13) + (2 : Int32)) < 0 ∧ (((v3 + v8) + v13) + (2 : Int32)) < (((v3 + v8) + v13) + v18)) (r140 : Int32) (hr140 : r140 = (v3 - (0 : Int32))) (hc145_72 : r140 = v3) (r151 : Int32) (hr151 : r151 = ((v3 + v8) - v3)) (hc156_75 : r151 = v8) (r162 : Int32) (hr162 : r162 = (((v3 + v8) + v13) - (v3 + v8))) (hc167_78 : ¬ (r162 = v13)) : (0 : Int32) = (1 : Int32) := absurd (by rw [hr162]; exact own_sub_self _ _) (by assumption : ¬ (r162 = v13))
theorem own_leaf_0_186_ft (k1 : Int32) (k2 : Int32) (k3 : Int32) (k4 : Int32) (v3 : Int32) (hv3 : v3 = (k1 &&& (3 : Int32))) (v8 : Int32) (hv8 : v8 = (k2 &&& (3 : Int32))) (v13 : Int32) (hv13 : v13 = (k3 &&& (3 : Int32))) (v18 : Int32) (hv18 : v18 = (k4 &&& (3 : Int32))) (hp32_h1 : (1 : Int32) < v3 → ¬ ((0 : Int32) + (1 : Int32)) < 0 ∧ ((0 : Int32) + (1 : Int32)) < (((v3 + v8) + v13) + v18)) (hp32_h2 : (2 : Int32) < v3 → ¬ ((0 : Int32) + (2 : Int32)) < 0 ∧ ((0 : Int32) + (2 : Int32)) < (((v3 + v8) + v13) + v18)) (hp38_h1 : (1 : Int32) < v8 → ¬ (v3 + (1 : Int32)) < 0 ∧ (v3 + (1 : Int32)) < (((v3 + v8) + v13) + v18)) (hp38_h2 : (2 : Int32) < v8 → ¬ (v3 + (2 : Int32)) < 0 ∧ (v3 + (2 : Int32)) < (((v3 + v8) + v13) + v18)) (hp44_h1 : (1 : Int32) < v13 → ¬ ((v3 + v8) + (1 : Int32)) < 0 ∧ ((v3 + v8) + (1 : Int32)) < (((v3 + v8) + v13) + v18)) (hp44_h2 : (2 : Int32) < v13 → ¬ ((v3 + v8) + (2 : Int32)) < 0 ∧ ((v3 + v8) + (2 : Int32)) < (((v3 + v8) + v13) + v18)) (hp50_h1 : (1 : Int32) < v18 → ¬ (((v3 + v8) + v13) + (1 : Int32)) < 0 ∧ (((v3 + v8) + v13) + (1 : Int32)) < (((v3 + v8) + v13) + v18)) (hp50_h2 : (2 : Int32) < v18 → ¬ (((v3 + v8) + v13) + (2 : Int32)) < 0 ∧ (((v3 + v8) + v13) + (2 : Int32)) < (((v3 + v8) + v13) + v18)) (r140 : Int32) (hr140 : r140 = (v3 - (0 : Int32))) (hc145_72 : r140 = v3) (r151 : Int32) (hr151 : r151 = ((v3 + v8) - v3)) (hc156_75 : ¬ (r151 = v8)) : (0 : Int32) = (1 : Int32) := absurd (by rw [hr151]; exact own_sub_self _ _) (by assumption : ¬ (r151 = v8))
theorem own_leaf_0_186_t (k1 : Int32) (k2 : Int32) (k3 : Int32) (k4 : Int32) (v3 : Int32) (hv3 : v3 = (k1 &&& (3 : Int32))) (v8 : Int32) (hv8 : v8 = (k2 &&& (3 : Int32))) (v13 : Int32) (hv13 : v13 = (k3 &&& (3 : Int32))) (v18 : Int32) (hv18 : v18 = (k4 &&& (3 : Int32))) (hp32_h1 : (1 : Int32) < v3 → ¬ ((0 : Int32) + (1 : Int32)) < 0 ∧ ((0 : Int32) + (1 : Int32)) < (((v3 + v8) + v13) + v18)) (hp32_h2 : (2 : Int32) < v3 → ¬ ((0 : Int32) + (2 : Int32)) < 0 ∧ ((0 : Int32) + (2 : Int32)) < (((v3 + v8) + v13) + v18)) (hp38_h1 : (1 : Int32) < v8 → ¬ (v3 + (1 : Int32)) < 0 ∧ (v3 + (1 : Int32)) < (((v3 + v8) + v13) + v18)) (hp38_h2 : (2 : Int32) < v8 → ¬ (v3 + (2 : Int32)) < 0 ∧ (v3 + (2 : Int32)) < (((v3 + v8) + v13) + v18)) (hp44_h1 : (1 : Int32) < v13 → ¬ ((v3 + v8) + (1 : Int32)) < 0 ∧ ((v3 + v8) + (1 : Int32)) < (((v3 + v8) + v13) + v18)) (hp44_h2 : (2 : Int32) < v13 → ¬ ((v3 + v8) + (2 : Int32)) < 0 ∧ ((v3 + v8) + (2 : Int32)) < (((v3 + v8) + v13) + v18)) (hp50_h1 : (1 : Int32) < v18 → ¬ (((v3 + v8) + v13) + (1 : Int32)) < 0 ∧ (((v3 + v8) + v13) + (1 : Int32)) < (((v3 + v8) + v13) + v18)) (hp50_h2 : (2 : Int32) < v18 → ¬ (((v3 + v8) + v13) + (2 : Int32)) < 0 ∧ (((v3 + v8) + v13) + (2 : Int32)) < (((v3 + v8) + v13) + v18)) (r140 : Int32) (hr140 : r140 = (v3 - (0 : Int32))) (hc145_72 : ¬ (r140 = v3)) : (0 : Int32) = (1 : Int32) := absurd (by rw [hr140]; exact Int32.sub_zero _) (by assumption : ¬ (r140 = v3))
def Q0 (Z : State) (k1 : Int32) (k2 : Int32) (k3 : Int32) (k4 : Int32) (h0 : Heap) (n0 : Nat) (v : Option Value) (h : Heap) (L : List Loc) : Prop := v = some (.int (1 : Int32)) ∧ Fr n0 L
set_option maxRecDepth 65536 in
set_option maxHeartbeats 40000000 in
theorem rm0 (l : Launch) (Z : State) (a0 : Array Value) (hw : ∀ d ∈ tables_1, d.before a0 Z = true) (ws : List Jvm.Cond) (k1 : Int32) (k2 : Int32) (k3 : Int32) (k4 : Int32) (h0 : Heap) (n0 : Nat) (Z0 : n0 ≤ h0.size)  :
    MetFree l x (head1 (Jvm.Cond.code x code maxLocals ret :: ws) room_1) (fun a U => a = #[(.int k1), (.int k2), (.int k3), (.int k4)] ∧ Z.Warmed39 U.vm ∧ U.heap = h0) (fun _ _ _ _ _ => True) (fun _ U o U' => ∃ v L, o = .returned v ∧ Q0 Z k1 k2 k3 k4 h0 n0 v U'.heap L ∧ FrameEnd U o U' L room_1.cells room_1.slots) := by
  refine MetFree.of_bodySF (plainFor_of_name pn_0) hisR ?_
  intro p e s m args below meth c s₁ Bd hml0 hP hK
  obtain ⟨rfl, hZ, hh⟩ := hP
  have hx := Bd.exec
  have hby := Bd.bytes
  have hml : c.maxLocals = 11 := hml0
  have hown : s.vm.findClass "com/example/wary_rank/waryrank/AdjacencyDegreePinLaw" = some m.cls := findClass_of_methodNamed Bd.named
  have hnm := (name_of_methodNamed Bd.named Bd.method).1
  have X0 : Stand p l e room_1 s m #[(.int k1), (.int k2), (.int k3), (.int k4)] below meth c s₁ [] 0 0 := Stand.of_body Bd
  have e0 : s₁.heap = h0 := by rw [← hh, Bd.state]; rfl
  have N0 := Fr.nil n0
  have K0 : Keep h0 h0 [] := Keep.refl h0 _
  have pre0 : ∀ tq, Steps p.tables e below (s₁.setTop (mkF m 0 #[.val (.int k1), .val (.int k2), .val (.int k3), .val (.int k4), .unset, .unset, .unset, .unset, .unset, .unset, .unset] [])) tq → Steps p.tables e below (s₁.setTop (entryFrame m #[(.int k1), (.int k2), (.int k3), (.int k4)] maxLocals)) tq := fun tq kq => castTop (ef_0 m k1 k2 k3 k4) kq
  obtain ⟨v3, hv3⟩ : ∃ z_q : Int32, z_q = (k1 &&& (3 : Int32)) := ⟨_, rfl⟩
  obtain ⟨v8, hv8⟩ : ∃ z_q : Int32, z_q = (k2 &&& (3 : Int32)) := ⟨_, rfl⟩
  obtain ⟨v13, hv13⟩ : ∃ z_q : Int32, z_q = (k3 &&& (3 : Int32)) := ⟨_, rfl⟩
  obtain ⟨v18, hv18⟩ : ∃ z_q : Int32, z_q = (k4 &&& (3 : Int32)) := ⟨_, rfl⟩
  obtain ⟨T1, hX1, kx1, X1, e1, E1, A1, st1⟩ := newP X0 hx hZ (hw _ (List.mem_of_getElem? (i := 0) rfl)) e0 (g := (mkF m 21 #[.val (.int k1), .val (.int k2), .val (.int k3), .val (.int k4), .val (.int v3), .val (.int v8), .val (.int v13), .val (.int v18), .unset, .unset, .unset] [(.int (5 : Int32))])) rfl (hb hby at_21) rfl (by decide) (cap := 5) (by decide) (by decide) (by decide) (by decide)
  obtain ⟨b1, g1⟩ : ∃ z_q, z_q = h0.size := ⟨_, rfl⟩
  rw [← g1] at A1 st1
  have g_b1 : n0 ≤ b1 := Nat.le_trans Z0 (Nat.le_of_eq g1.symm)
  have sz_b1 : h0.size ≤ b1 := Nat.le_trans K0.1 (Nat.le_of_eq g1.symm)
  have Z2 : n0 ≤ hX1.size := Nat.le_trans Z0 E1.1
  have K3 : Keep h0 hX1 [] := K0.ext E1
  have F4 : Arv Z hX1 b1 kx1 .int (5 : Int32) [(.int (0 : Int32)), (.int (0 : Int32)), (.int (0 : Int32)), (.int (0 : Int32)), (.int (0 : Int32))] (.int (0 : Int32)) := (Arv.new A1 (by decide)).pad (pad_rep [] (.int (0 : Int32)) 5)
  obtain ⟨cl5, Ar5, q5, S5, M5, H5, G5⟩ := id F4
  have hin5 : ¬ ((0 : Int32) < 0 ∨ cl5.slots.size ≤ ((0 : Int32)).toNatClampNeg) := inb_of S5 ⟨by decide, by decide⟩
  obtain ⟨T5, hX5, X5, e5, W5, st5⟩ := stI X1 hx hZ e1 Ar5 (j := (0 : Int32)) hin5 (g := (mkF m 29 #[.val (.int k1), .val (.int k2), .val (.int k3), .val (.int k4), .val (.int v3), .val (.int v8), .val (.int v13), .val (.int v18), .val (.ref b1), .unset, .unset] [(.int (0 : Int32)), (.int (0 : Int32)), (.ref b1)])) rfl rfl (hb hby at_29)
  have F6 : Arv Z hX5 b1 kx1 .int (5 : Int32) [(.int (0 : Int32)), (.int (0 : Int32)), (.int (0 : Int32)), (.int (0 : Int32)), (.int (0 : Int32))] (.int (0 : Int32)) := Arv.set Ar5 q5 S5 M5 H5 G5 rfl W5 0 rfl (Nat.le_of_ble_eq_true rfl)
  have N5 := Fr.snoc X5 N0 g_b1
  have Z7 : n0 ≤ hX5.size := Nat.le_trans Z2 (Keep.of_wr W5).1
  have K8 : Keep h0 hX5 [] := K3.wr W5 (Or.inr sz_b1)
  obtain ⟨cl9, Ar9, q9, S9, M9, H9, G9⟩ := id F6
  have hin9 : ¬ ((1 : Int32) < 0 ∨ cl9.slots.size ≤ ((1 : Int32)).toNatClampNeg) := inb_of S9 ⟨by decide, by decide⟩
  obtain ⟨T9, hX9, X9, e9, W9, st9⟩ := stI X5 hx hZ e5 Ar9 (j := (1 : Int32)) hin9 (g := (mkF m 35 #[.val (.int k1), .val (.int k2), .val (.int k3), .val (.int k4), .val (.int v3), .val (.int v8), .val (.int v13), .val (.int v18), .val (.ref b1), .unset, .unset] [(.int v3), (.int (1 : Int32)), (.ref b1)])) rfl rfl (hb hby at_35)
  have F10 : Arv Z hX9 b1 kx1 .int (5 : Int32) [(.int (0 : Int32)), (.int v3), (.int (0 : Int32)), (.int (0 : Int32)), (.int (0 : Int32))] (.int (0 : Int32)) := Arv.set Ar9 q9 S9 M9 H9 G9 rfl W9 1 rfl (Nat.le_of_ble_eq_true rfl)
  have N9 := Fr.snoc X9 N5 g_b1
  have Z11 : n0 ≤ hX9.size := Nat.le_trans Z7 (Keep.of_wr W9).1
  have K12 : Keep h0 hX9 [] := K8.wr W9 (Or.inr sz_b1)
  obtain ⟨cl13, Ar13, q13, S13, M13, H13, G13⟩ := id F10
  have hin13 : ¬ ((2 : Int32) < 0 ∨ cl13.slots.size ≤ ((2 : Int32)).toNatClampNeg) := inb_of S13 ⟨by decide, by decide⟩
  obtain ⟨T13, hX13, X13, e13, W13, st13⟩ := stI X9 hx hZ e9 Ar13 (j := (2 : Int32)) hin13 (g := (mkF m 44 #[.val (.int k1), .val (.int k2), .val (.int k3), .val (.int k4), .val (.int v3), .val (.int v8), .val (.int v13), .val (.int v18), .val (.ref b1), .unset, .unset] [(.int (v3 + v8)), (.int (2 : Int32)), (.ref b1)])) rfl rfl (hb hby at_44)
  have F14 : Arv Z hX13 b1 kx1 .int (5 : Int32) [(.int (0 : Int32)), (.int v3), (.int (v3 + v8)), (.int (0 : Int32)), (.int (0 : Int32))] (.int (0 : Int32)) := Arv.set Ar13 q13 S13 M13 H13 G13 rfl W13 2 rfl (Nat.le_of_ble_eq_true rfl)
  have N13 := Fr.snoc X13 N9 g_b1
  have Z15 : n0 ≤ hX13.size := Nat.le_trans Z11 (Keep.of_wr W13).1
  have K16 : Keep h0 hX13 [] := K12.wr W13 (Or.inr sz_b1)
  obtain ⟨cl17, Ar17, q17, S17, M17, H17, G17⟩ := id F14
  have hin17 : ¬ ((3 : Int32) < 0 ∨ cl17.slots.size ≤ ((3 : Int32)).toNatClampNeg) := inb_of S17 ⟨by decide, by decide⟩
  obtain ⟨T17, hX17, X17, e17, W17, st17⟩ := stI X13 hx hZ e13 Ar17 (j := (3 : Int32)) hin17 (g := (mkF m 56 #[.val (.int k1), .val (.int k2), .val (.int k3), .val (.int k4), .val (.int v3), .val (.int v8), .val (.int v13), .val (.int v18), .val (.ref b1), .unset, .unset] [(.int ((v3 + v8) + v13)), (.int (3 : Int32)), (.ref b1)])) rfl rfl (hb hby at_56)
  have F18 : Arv Z hX17 b1 kx1 .int (5 : Int32) [(.int (0 : Int32)), (.int v3), (.int (v3 + v8)), (.int ((v3 + v8) + v13)), (.int (0 : Int32))] (.int (0 : Int32)) := Arv.set Ar17 q17 S17 M17 H17 G17 rfl W17 3 rfl (Nat.le_of_ble_eq_true rfl)
  have N17 := Fr.snoc X17 N13 g_b1
  have Z19 : n0 ≤ hX17.size := Nat.le_trans Z15 (Keep.of_wr W17).1
  have K20 : Keep h0 hX17 [] := K16.wr W17 (Or.inr sz_b1)
  obtain ⟨cl21, Ar21, q21, S21, M21, H21, G21⟩ := id F18
  have hin21 : ¬ ((4 : Int32) < 0 ∨ cl21.slots.size ≤ ((4 : Int32)).toNatClampNeg) := inb_of S21 ⟨by decide, by decide⟩
  obtain ⟨T21, hX21, X21, e21, W21, st21⟩ := stI X17 hx hZ e17 Ar21 (j := (4 : Int32)) hin21 (g := (mkF m 71 #[.val (.int k1), .val (.int k2), .val (.int k3), .val (.int k4), .val (.int v3), .val (.int v8), .val (.int v13), .val (.int v18), .val (.ref b1), .unset, .unset] [(.int (((v3 + v8) + v13) + v18)), (.int (4 : Int32)), (.ref b1)])) rfl rfl (hb hby at_71)
  have F22 : Arv Z hX21 b1 kx1 .int (5 : Int32) [(.int (0 : Int32)), (.int v3), (.int (v3 + v8)), (.int ((v3 + v8) + v13)), (.int (((v3 + v8) + v13) + v18))] (.int (0 : Int32)) := Arv.set Ar21 q21 S21 M21 H21 G21 rfl W21 4 rfl (Nat.le_of_ble_eq_true rfl)
  have N21 := Fr.snoc X21 N17 g_b1
  have Z23 : n0 ≤ hX21.size := Nat.le_trans Z19 (Keep.of_wr W21).1
  have K24 : Keep h0 hX21 [] := K20.wr W21 (Or.inr sz_b1)
  obtain ⟨cl25, Ar25, q25, S25, M25, H25, G25⟩ := id F22
  have hin25 : ¬ ((4 : Int32) < 0 ∨ cl25.slots.size ≤ ((4 : Int32)).toNatClampNeg) := inb_of S25 ⟨by decide, by decide⟩
  have hat25 : cl25.slots[((4 : Int32)).toNatClampNeg]? = some (.int (((v3 + v8) + v13) + v18)) := Has.at H25 hin25 rfl
  have hneg26 : ¬ (((v3 + v8) + v13) + v18) < 0 := (own_neg_0_76 k1 k2 k3 k4 v3 hv3 v8 hv8 v13 hv13 v18 hv18)
  have hcap26 : ((((v3 + v8) + v13) + v18)).toNatClampNeg ≤ 12 := (own_cap_0_76 k1 k2 k3 k4 v3 hv3 v8 hv8 v13 hv13 v18 hv18)
  obtain ⟨T26, hX26, kx26, X26, e26, E26, A26, st26⟩ := newP X21 hx hZ (hw _ (List.mem_of_getElem? (i := 0) rfl)) e21 (g := (mkF m 76 #[.val (.int k1), .val (.int k2), .val (.int k3), .val (.int k4), .val (.int v3), .val (.int v8), .val (.int v13), .val (.int v18), .val (.ref b1), .unset, .unset] [(.int (((v3 + v8) + v13) + v18))])) rfl (hb hby at_76) rfl hneg26 (cap := 12) hcap26 (by decide) (by decide) (by decide)
  obtain ⟨b26, g26⟩ : ∃ z_q, z_q = hX21.size := ⟨_, rfl⟩
  rw [← g26] at A26 st26
  have g_b26 : n0 ≤ b26 := Nat.le_trans Z23 (Nat.le_of_eq g26.symm)
  have sz_b26 : h0.size ≤ b26 := Nat.le_trans K24.1 (Nat.le_of_eq g26.symm)
  have ne_b1_b26 : b1 ≠ b26 := Nat.ne_of_lt (Nat.lt_of_lt_of_le F22.lt (Nat.le_of_eq g26.symm))
  have F27 : Arv Z hX26 b1 kx1 .int (5 : Int32) [(.int (0 : Int32)), (.int v3), (.int (v3 + v8)), (.int ((v3 + v8) + v13)), (.int (((v3 + v8) + v13) + v18))] (.int (0 : Int32)) := F22.ext E26
  have Z28 : n0 ≤ hX26.size := Nat.le_trans Z23 E26.1
  have K29 : Keep h0 hX26 [] := K24.ext E26
  have F30 : own_ari Z hX26 b26 .int (((v3 + v8) + v13) + v18) := own_ari.mk (Arv.new A26 hneg26)
  obtain ⟨cl31, Ar31, q31, S31, M31, H31, G31⟩ := id F27
  have hin31 : ¬ ((0 : Int32) < 0 ∨ cl31.slots.size ≤ ((0 : Int32)).toNatClampNeg) := inb_of S31 ⟨by decide, by decide⟩
  have hat31 : cl31.slots[((0 : Int32)).toNatClampNeg]? = some (.int (0 : Int32)) := Has.at H31 hin31 rfl
  have hp32_h1 : (1 : Int32) < v3 → ¬ ((0 : Int32) + (1 : Int32)) < 0 ∧ ((0 : Int32) + (1 : Int32)) < (((v3 + v8) + v13) + v18) := (own_pre_0_88_h1 k1 k2 k3 k4 v3 hv3 v8 hv8 v13 hv13 v18 hv18)
  have hp32_h2 : (2 : Int32) < v3 → ¬ ((0 : Int32) + (2 : Int32)) < 0 ∧ ((0 : Int32) + (2 : Int32)) < (((v3 + v8) + v13) + v18) := (own_pre_0_88_h2 k1 k2 k3 k4 v3 hv3 v8 hv8 v13 hv13 v18 hv18 hp32_h1)
  obtain ⟨_, _, ⟨T32, L32, k32, n32⟩, -, X32, ⟨Lc32, hQ32, l32, y32, z32⟩, st32⟩ := Jvm.LawKit.callS X26 hx (y := (⟨"com/example/wary_rank/waryrank/AdjacencyDegreePinLaw", "fill", "([III)V"⟩ : MethodName)) hown (mvT hZ (hw _ (List.mem_of_getElem? (i := 1) rfl))) (mvT hZ (hw _ (List.mem_of_getElem? (i := 2) rfl))) (mvT hZ (hw _ (List.mem_of_getElem? (i := 3) rfl))) (mvT hZ (hw _ (List.mem_of_getElem? (i := 4) rfl))) (by decide) (backOf (W := 0) (rm1 l Z a0 hw [] b26 (0 : Int32) v3 (((v3 + v8) + v13) + v18) hX26 n0 Z28 F30 g_b26 hp32_h1 hp32_h2) hZ (hw _ (List.mem_of_getElem? (i := 4) rfl)) (hw _ (List.mem_of_getElem? (i := 3) rfl)) (by decide) (by decide)) (g := (mkF m 88 #[.val (.int k1), .val (.int k2), .val (.int k3), .val (.int k4), .val (.int v3), .val (.int v8), .val (.int v13), .val (.int v18), .val (.ref b1), .val (.ref b26), .unset] [(.int v3), (.int (0 : Int32)), (.ref b26)])) rfl (by rw [hml]; rfl) (argsL := [(.ref b26), (.int (0 : Int32)), (.int v3)]) (rest := []) (lenOf pd_0 rfl) rfl (by show 2 * 0 + _ ≤ _; exact Nat.le_of_eq rfl) (hb hby at_88) (fun _ _ => ⟨rfl, e26, (by decide : 2 + 0 ≤ _), (by decide : 17 + 0 ≤ _)⟩)
  dsimp only [Pt.U, Pt.locs, Pt.cells, Pt.slots] at X32 l32 y32 z32 st32 hQ32
  subst l32 y32 z32
  obtain ⟨rfl, N32q, K32q, F33⟩ := hQ32
  have N32 := Fr.app N21 N32q
  have F34 : Arv Z T32.heap b1 kx1 .int (5 : Int32) [(.int (0 : Int32)), (.int v3), (.int (v3 + v8)), (.int ((v3 + v8) + v13)), (.int (((v3 + v8) + v13) + v18))] (.int (0 : Int32)) := F27.keep K32q (ninS ne_b1_b26 nin0)
  have Z35 : n0 ≤ T32.heap.size := Nat.le_trans Z28 K32q.1
  have K36 : Keep h0 T32.heap [] := K29.trans K32q (allS (Or.inr sz_b26) all0)
  obtain ⟨cl37, Ar37, q37, S37, M37, H37, G37⟩ := id F34
  have hin37 : ¬ ((1 : Int32) < 0 ∨ cl37.slots.size ≤ ((1 : Int32)).toNatClampNeg) := inb_of S37 ⟨by decide, by decide⟩
  have hat37 : cl37.slots[((1 : Int32)).toNatClampNeg]? = some (.int v3) := Has.at H37 hin37 rfl
  have hp38_h1 : (1 : Int32) < v8 → ¬ (v3 + (1 : Int32)) < 0 ∧ (v3 + (1 : Int32)) < (((v3 + v8) + v13) + v18) := (own_pre_0_99_h1 k1 k2 k3 k4 v3 hv3 v8 hv8 v13 hv13 v18 hv18 hp32_h1 hp32_h2)
  have hp38_h2 : (2 : Int32) < v8 → ¬ (v3 + (2 : Int32)) < 0 ∧ (v3 + (2 : Int32)) < (((v3 + v8) + v13) + v18) := (own_pre_0_99_h2 k1 k2 k3 k4 v3 hv3 v8 hv8 v13 hv13 v18 hv18 hp32_h1 hp32_h2 hp38_h1)
  obtain ⟨_, _, ⟨T38, L38, k38, n38⟩, -, X38, ⟨Lc38, hQ38, l38, y38, z38⟩, st38⟩ := Jvm.LawKit.callS X32 hx (y := (⟨"com/example/wary_rank/waryrank/AdjacencyDegreePinLaw", "fill", "([III)V"⟩ : MethodName)) hown (mvT hZ (hw _ (List.mem_of_getElem? (i := 1) rfl))) (mvT hZ (hw _ (List.mem_of_getElem? (i := 2) rfl))) (mvT hZ (hw _ (List.mem_of_getElem? (i := 3) rfl))) (mvT hZ (hw _ (List.mem_of_getElem? (i := 4) rfl))) (by decide) (backOf (W := 0) (rm1 l Z a0 hw [] b26 v3 v8 (((v3 + v8) + v13) + v18) T32.heap n0 Z35 F33 g_b26 hp38_h1 hp38_h2) hZ (hw _ (List.mem_of_getElem? (i := 4) rfl)) (hw _ (List.mem_of_getElem? (i := 3) rfl)) (by decide) (by decide)) (g := (mkF m 99 #[.val (.int k1), .val (.int k2), .val (.int k3), .val (.int k4), .val (.int v3), .val (.int v8), .val (.int v13), .val (.int v18), .val (.ref b1), .val (.ref b26), .unset] [(.int v8), (.int v3), (.ref b26)])) rfl (by rw [hml]; rfl) (argsL := [(.ref b26), (.int v3), (.int v8)]) (rest := []) (lenOf pd_0 rfl) rfl (by show 2 * 0 + _ ≤ _; exact Nat.le_of_eq rfl) (hb hby at_99) (fun _ _ => ⟨rfl, rfl, (by decide : 2 + 0 ≤ _), (by decide : 17 + 0 ≤ _)⟩)
  dsimp only [Pt.U, Pt.locs, Pt.cells, Pt.slots] at X38 l38 y38 z38 st38 hQ38
  subst l38 y38 z38
  obtain ⟨rfl, N38q, K38q, F39⟩ := hQ38
  have N38 := Fr.app N32 N38q
  have F40 : Arv Z T38.heap b1 kx1 .int (5 : Int32) [(.int (0 : Int32)), (.int v3), (.int (v3 + v8)), (.int ((v3 + v8) + v13)), (.int (((v3 + v8) + v13) + v18))] (.int (0 : Int32)) := F34.keep K38q (ninS ne_b1_b26 nin0)
  have Z41 : n0 ≤ T38.heap.size := Nat.le_trans Z35 K38q.1
  have K42 : Keep h0 T38.heap [] := K36.trans K38q (allS (Or.inr sz_b26) all0)
  obtain ⟨cl43, Ar43, q43, S43, M43, H43, G43⟩ := id F40
  have hin43 : ¬ ((2 : Int32) < 0 ∨ cl43.slots.size ≤ ((2 : Int32)).toNatClampNeg) := inb_of S43 ⟨by decide, by decide⟩
  have hat43 : cl43.slots[((2 : Int32)).toNatClampNeg]? = some (.int (v3 + v8)) := Has.at H43 hin43 rfl
  have hp44_h1 : (1 : Int32) < v13 → ¬ ((v3 + v8) + (1 : Int32)) < 0 ∧ ((v3 + v8) + (1 : Int32)) < (((v3 + v8) + v13) + v18) := (own_pre_0_110_h1 k1 k2 k3 k4 v3 hv3 v8 hv8 v13 hv13 v18 hv18 hp32_h1 hp32_h2 hp38_h1 hp38_h2)
  have hp44_h2 : (2 : Int32) < v13 → ¬ ((v3 + v8) + (2 : Int32)) < 0 ∧ ((v3 + v8) + (2 : Int32)) < (((v3 + v8) + v13) + v18) := (own_pre_0_110_h2 k1 k2 k3 k4 v3 hv3 v8 hv8 v13 hv13 v18 hv18 hp32_h1 hp32_h2 hp38_h1 hp38_h2 hp44_h1)
  obtain ⟨_, _, ⟨T44, L44, k44, n44⟩, -, X44, ⟨Lc44, hQ44, l44, y44, z44⟩, st44⟩ := Jvm.LawKit.callS X38 hx (y := (⟨"com/example/wary_rank/waryrank/AdjacencyDegreePinLaw", "fill", "([III)V"⟩ : MethodName)) hown (mvT hZ (hw _ (List.mem_of_getElem? (i := 1) rfl))) (mvT hZ (hw _ (List.mem_of_getElem? (i := 2) rfl))) (mvT hZ (hw _ (List.mem_of_getElem? (i := 3) rfl))) (mvT hZ (hw _ (List.mem_of_getElem? (i := 4) rfl))) (by decide) (backOf (W := 0) (rm1 l Z a0 hw [] b26 (v3 + v8) v13 (((v3 + v8) + v13) + v18) T38.heap n0 Z41 F39 g_b26 hp44_h1 hp44_h2) hZ (hw _ (List.mem_of_getElem? (i := 4) rfl)) (hw _ (List.mem_of_getElem? (i := 3) rfl)) (by decide) (by decide)) (g := (mkF m 110 #[.val (.int k1), .val (.int k2), .val (.int k3), .val (.int k4), .val (.int v3), .val (.int v8), .val (.int v13), .val (.int v18), .val (.ref b1), .val (.ref b26), .unset] [(.int v13), (.int (v3 + v8)), (.ref b26)])) rfl (by rw [hml]; rfl) (argsL := [(.ref b26), (.int (v3 + v8)), (.int v13)]) (rest := []) (lenOf pd_0 rfl) rfl (by show 2 * 0 + _ ≤ _; exact Nat.le_of_eq rfl) (hb hby at_110) (fun _ _ => ⟨rfl, rfl, (by decide : 2 + 0 ≤ _), (by decide : 17 + 0 ≤ _)⟩)
  dsimp only [Pt.U, Pt.locs, Pt.cells, Pt.slots] at X44 l44 y44 z44 st44 hQ44
  subst l44 y44 z44
  obtain ⟨rfl, N44q, K44q, F45⟩ := hQ44
  have N44 := Fr.app N38 N44q
  have F46 : Arv Z T44.heap b1 kx1 .int (5 : Int32) [(.int (0 : Int32)), (.int v3), (.int (v3 + v8)), (.int ((v3 + v8) + v13)), (.int (((v3 + v8) + v13) + v18))] (.int (0 : Int32)) := F40.keep K44q (ninS ne_b1_b26 nin0)
  have Z47 : n0 ≤ T44.heap.size := Nat.le_trans Z41 K44q.1
  have K48 : Keep h0 T44.heap [] := K42.trans K44q (allS (Or.inr sz_b26) all0)
  obtain ⟨cl49, Ar49, q49, S49, M49, H49, G49⟩ := id F46
  have hin49 : ¬ ((3 : Int32) < 0 ∨ cl49.slots.size ≤ ((3 : Int32)).toNatClampNeg) := inb_of S49 ⟨by decide, by decide⟩
  have hat49 : cl49.slots[((3 : Int32)).toNatClampNeg]? = some (.int ((v3 + v8) + v13)) := Has.at H49 hin49 rfl
  have hp50_h1 : (1 : Int32) < v18 → ¬ (((v3 + v8) + v13) + (1 : Int32)) < 0 ∧ (((v3 + v8) + v13) + (1 : Int32)) < (((v3 + v8) + v13) + v18) := (own_pre_0_121_h1 k1 k2 k3 k4 v3 hv3 v8 hv8 v13 hv13 v18 hv18 hp32_h1 hp32_h2 hp38_h1 hp38_h2 hp44_h1 hp44_h2)
  have hp50_h2 : (2 : Int32) < v18 → ¬ (((v3 + v8) + v13) + (2 : Int32)) < 0 ∧ (((v3 + v8) + v13) + (2 : Int32)) < (((v3 + v8) + v13) + v18) := (own_pre_0_121_h2 k1 k2 k3 k4 v3 hv3 v8 hv8 v13 hv13 v18 hv18 hp32_h1 hp32_h2 hp38_h1 hp38_h2 hp44_h1 hp44_h2 hp50_h1)
  obtain ⟨_, _, ⟨T50, L50, k50, n50⟩, -, X50, ⟨Lc50, hQ50, l50, y50, z50⟩, st50⟩ := Jvm.LawKit.callS X44 hx (y := (⟨"com/example/wary_rank/waryrank/AdjacencyDegreePinLaw", "fill", "([III)V"⟩ : MethodName)) hown (mvT hZ (hw _ (List.mem_of_getElem? (i := 1) rfl))) (mvT hZ (hw _ (List.mem_of_getElem? (i := 2) rfl))) (mvT hZ (hw _ (List.mem_of_getElem? (i := 3) rfl))) (mvT hZ (hw _ (List.mem_of_getElem? (i := 4) rfl))) (by decide) (backOf (W := 0) (rm1 l Z a0 hw [] b26 ((v3 + v8) + v13) v18 (((v3 + v8) + v13) + v18) T44.heap n0 Z47 F45 g_b26 hp50_h1 hp50_h2) hZ (hw _ (List.mem_of_getElem? (i := 4) rfl)) (hw _ (List.mem_of_getElem? (i := 3) rfl)) (by decide) (by decide)) (g := (mkF m 121 #[.val (.int k1), .val (.int k2), .val (.int k3), .val (.int k4), .val (.int v3), .val (.int v8), .val (.int v13), .val (.int v18), .val (.ref b1), .val (.ref b26), .unset] [(.int v18), (.int ((v3 + v8) + v13)), (.ref b26)])) rfl (by rw [hml]; rfl) (argsL := [(.ref b26), (.int ((v3 + v8) + v13)), (.int v18)]) (rest := []) (lenOf pd_0 rfl) rfl (by show 2 * 0 + _ ≤ _; exact Nat.le_of_eq rfl) (hb hby at_121) (fun _ _ => ⟨rfl, rfl, (by decide : 2 + 0 ≤ _), (by decide : 17 + 0 ≤ _)⟩)
  dsimp only [Pt.U, Pt.locs, Pt.cells, Pt.slots] at X50 l50 y50 z50 st50 hQ50
  subst l50 y50 z50
  obtain ⟨rfl, N50q, K50q, F51⟩ := hQ50
  have N50 := Fr.app N44 N50q
  have F52 : Arv Z T50.heap b1 kx1 .int (5 : Int32) [(.int (0 : Int32)), (.int v3), (.int (v3 + v8)), (.int ((v3 + v8) + v13)), (.int (((v3 + v8) + v13) + v18))] (.int (0 : Int32)) := F46.keep K50q (ninS ne_b1_b26 nin0)
  have Z53 : n0 ≤ T50.heap.size := Nat.le_trans Z47 K50q.1
  have K54 : Keep h0 T50.heap [] := K48.trans K50q (allS (Or.inr sz_b26) all0)
  obtain ⟨T55, hX55, X55, e55, E55, A55, D55, -, st55⟩ := newO X50 hx hZ hown (hw _ (List.mem_of_getElem? (i := 5) rfl)) (hw _ (List.mem_of_getElem? (i := 6) rfl)) (hw _ (List.mem_of_getElem? (i := 7) rfl)) rfl (g := (mkF m 124 #[.val (.int k1), .val (.int k2), .val (.int k3), .val (.int k4), .val (.int v3), .val (.int v8), .val (.int v13), .val (.int v18), .val (.ref b1), .val (.ref b26), .unset] [])) rfl (hb hby at_124) (by decide) (by decide)
  obtain ⟨b55, g55⟩ : ∃ z_q, z_q = T50.heap.size := ⟨_, rfl⟩
  rw [← g55] at A55 D55 st55
  have g_b55 : n0 ≤ b55 := Nat.le_trans Z53 (Nat.le_of_eq g55.symm)
  have sz_b55 : h0.size ≤ b55 := Nat.le_trans K54.1 (Nat.le_of_eq g55.symm)
  have ne_b1_b55 : b1 ≠ b55 := Nat.ne_of_lt (Nat.lt_of_lt_of_le F52.lt (Nat.le_of_eq g55.symm))
  have ne_b26_b55 : b26 ≠ b55 := Nat.ne_of_lt (Nat.lt_of_lt_of_le F51.lt (Nat.le_of_eq g55.symm))
  have F56 : Arv Z hX55 b1 kx1 .int (5 : Int32) [(.int (0 : Int32)), (.int v3), (.int (v3 + v8)), (.int ((v3 + v8) + v13)), (.int (((v3 + v8) + v13) + v18))] (.int (0 : Int32)) := F52.ext E55
  have F57 : own_ari Z hX55 b26 .int (((v3 + v8) + v13) + v18) := F51.ext E55
  have Z58 : n0 ≤ hX55.size := Nat.le_trans Z53 E55.1
  have K59 : Keep h0 hX55 [] := K54.ext E55
  have F60 : Fld Z hX55 b55 "com/example/wary_rank/waryrank/Adjacency" "offsets" "[I" .null := D55 (Or.inr (hw _ (List.mem_of_getElem? (i := 15) rfl))) (ty := (.array .int)) (by decide)
  have F61 : Fld Z hX55 b55 "com/example/wary_rank/waryrank/Adjacency" "targets" "[I" .null := D55 (Or.inr (hw _ (List.mem_of_getElem? (i := 17) rfl))) (ty := (.array .int)) (by decide)
  obtain ⟨_, _, ⟨T62, L62, k62, n62⟩, -, X62, ⟨Lc62, hQ62, l62, y62, z62⟩, st62⟩ := X55.specialBack hx (y := (⟨"com/example/wary_rank/waryrank/Adjacency", "<init>", "([I[I)V"⟩ : MethodName)) rfl hown (mvT hZ (hw _ (List.mem_of_getElem? (i := 8) rfl))) (mvT hZ (hw _ (List.mem_of_getElem? (i := 9) rfl))) (mvT hZ (hw _ (List.mem_of_getElem? (i := 10) rfl))) (by decide) (backOf (W := 1) (rm2 l Z a0 hw [] b55 b1 b26 hX55 n0 Z58 F60 F61 A55 g_b55) hZ (hw _ (List.mem_of_getElem? (i := 10) rfl)) (hw _ (List.mem_of_getElem? (i := 7) rfl)) (by decide) (by decide)) (g := (mkF m 132 #[.val (.int k1), .val (.int k2), .val (.int k3), .val (.int k4), .val (.int v3), .val (.int v8), .val (.int v13), .val (.int v18), .val (.ref b1), .val (.ref b26), .unset] [(.ref b26), (.ref b1), (.ref b55), (.ref b55)])) rfl (by rw [hml]; rfl) (Steps.refl _) (a := b55) (argsL := [(.ref b1), (.ref b26)]) (rest := [(.ref b55)]) (lenOf pd_1 rfl) rfl (by show 2 * 0 + _ ≤ _; exact Nat.le_of_eq rfl) (hb hby at_132) (fun _ _ => ⟨rfl, e55, (by decide : 3 + 0 ≤ _), (by decide : 19 + 0 ≤ _)⟩)
  dsimp only [Pt.U, Pt.locs, Pt.cells, Pt.slots] at X62 l62 y62 z62 st62 hQ62
  subst l62 y62 z62
  obtain ⟨rfl, N62q, K62q, F63, F64⟩ := hQ62
  have N62 := Fr.app N50 N62q
  have F65 : Arv Z T62.heap b1 kx1 .int (5 : Int32) [(.int (0 : Int32)), (.int v3), (.int (v3 + v8)), (.int ((v3 + v8) + v13)), (.int (((v3 + v8) + v13) + v18))] (.int (0 : Int32)) := F56.keep K62q (ninS ne_b1_b55 nin0)
  have F66 : own_ari Z T62.heap b26 .int (((v3 + v8) + v13) + v18) := F57.keep K62q (ninS ne_b26_b55 nin0)
  have F67 : Exa Z T62.heap b55 "com/example/wary_rank/waryrank/Adjacency" := A55.keep K62q
  have Z68 : n0 ≤ T62.heap.size := Nat.le_trans Z58 K62q.1
  have K69 : Keep h0 T62.heap [] := K59.trans K62q (allS (Or.inr sz_b55) all0)
  obtain ⟨cq70, kq70, q70a, q70b, q70c⟩ := isOf hZ rfl F63
  obtain ⟨_, _, ⟨T70, L70, k70, n70⟩, -, X70, ⟨Lc70, hQ70, l70, y70, z70⟩, st70⟩ := X62.virtualBack hx (y := (⟨"com/example/wary_rank/waryrank/Adjacency", "degree", "(I)I"⟩ : MethodName)) (z := (⟨"com/example/wary_rank/waryrank/Adjacency", "degree", "(I)I"⟩ : MethodName)) hown (mvT hZ (hw _ (List.mem_of_getElem? (i := 18) rfl))) (mvT hZ (hw _ (List.mem_of_getElem? (i := 19) rfl))) (notFace_of_selects (args := #[]) (mvT hZ (hw _ (List.mem_of_getElem? (i := 21) rfl)))) (mvT hZ (hw _ (List.mem_of_getElem? (i := 21) rfl))) (mvT hZ (hw _ (List.mem_of_getElem? (i := 20) rfl))) (by decide) (backOf (W := 0) (rm4 l Z a0 hw [] b55 (0 : Int32) b1 kx1 (0 : Int32) v3 (v3 + v8) ((v3 + v8) + v13) (((v3 + v8) + v13) + v18) T62.heap n0 Z68 F64 F65 rfl) hZ (hw _ (List.mem_of_getElem? (i := 22) rfl)) (hw _ (List.mem_of_getElem? (i := 7) rfl)) (by decide) (by decide)) q70a q70c (g := (mkF m 140 #[.val (.int k1), .val (.int k2), .val (.int k3), .val (.int k4), .val (.int v3), .val (.int v8), .val (.int v13), .val (.int v18), .val (.ref b1), .val (.ref b26), .val (.ref b55)] [(.int (0 : Int32)), (.ref b55)])) rfl (by rw [hml]; rfl) (Steps.refl _) (argsL := [(.int (0 : Int32))]) (rest := []) (lenOf pd_2 rfl) rfl (by show 2 * 0 + _ ≤ _; exact Nat.le_of_eq rfl) (hb hby at_140) (fun _ _ => ⟨rfl, rfl, (by decide : 3 + 0 ≤ _), (by decide : 19 + 0 ≤ _)⟩)
  dsimp only [Pt.U, Pt.locs, Pt.cells, Pt.slots] at X70 l70 y70 z70 st70 hQ70
  subst l70 y70 z70
  obtain ⟨rfl, N70q, e70⟩ := hQ70
  have N70 := Fr.app N62 N70q
  obtain ⟨r140, hr140⟩ : ∃ z_q : Int32, z_q = (v3 - (0 : Int32)) := ⟨_, rfl⟩
  have pre71 : ∀ tq, Steps p.tables e below (T70.setTop (mkF m 145 #[.val (.int k1), .val (.int k2), .val (.int k3), .val (.int k4), .val (.int v3), .val (.int v8), .val (.int v13), .val (.int v18), .val (.ref b1), .val (.ref b26), .val (.ref b55)] [(.int v3), (.int r140)])) tq → Steps p.tables e below (s₁.setTop (entryFrame m #[(.int k1), (.int k2), (.int k3), (.int k4)] maxLocals)) tq := by
    intro tq kt
    refine pre0 _ ?_
    show Steps p.tables e below (s₁.setTop (mkF m 0 #[.val (.int k1), .val (.int k2), .val (.int k3), .val (.int k4), .unset, .unset, .unset, .unset, .unset, .unset, .unset] [])) _
    refine XS.iloadN X0.here hx rfl (hb hby at_0) rfl ?_
    show Steps p.tables e below (s₁.setTop (mkF m 1 #[.val (.int k1), .val (.int k2), .val (.int k3), .val (.int k4), .unset, .unset, .unset, .unset, .unset, .unset, .unset] [(.int k1)])) _
    refine XS.iconst X0.here hx rfl (hb hby at_1) ?_
    show Steps p.tables e below (s₁.setTop (mkF m 2 #[.val (.int k1), .val (.int k2), .val (.int k3), .val (.int k4), .unset, .unset, .unset, .unset, .unset, .unset, .unset] [(.int (3 : Int32)), (.int k1)])) _
    refine XS.iand X0.here hx rfl (hb hby at_2) rfl ?_
    show Steps p.tables e below (s₁.setTop (mkF m 3 #[.val (.int k1), .val (.int k2), .val (.int k3), .val (.int k4), .unset, .unset, .unset, .unset, .unset, .unset, .unset] [(.int (k1 &&& (3 : Int32)))])) _
    refine XS.istore X0.here hx rfl (hb hby at_3) rfl (l' := #[.val (.int k1), .val (.int k2), .val (.int k3), .val (.int k4), .val (.int v3), .unset, .unset, .unset, .unset, .unset, .unset]) (by rw [hv3]; rfl) ?_
    show Steps p.tables e below (s₁.setTop (mkF m 5 #[.val (.int k1), .val (.int k2), .val (.int k3), .val (.int k4), .val (.int v3), .unset, .unset, .unset, .unset, .unset, .unset] [])) _
    refine XS.iloadN X0.here hx rfl (hb hby at_5) rfl ?_
    show Steps p.tables e below (s₁.setTop (mkF m 6 #[.val (.int k1), .val (.int k2), .val (.int k3), .val (.int k4), .val (.int v3), .unset, .unset, .unset, .unset, .unset, .unset] [(.int k2)])) _
    refine XS.iconst X0.here hx rfl (hb hby at_6) ?_
    show Steps p.tables e below (s₁.setTop (mkF m 7 #[.val (.int k1), .val (.int k2), .val (.int k3), .val (.int k4), .val (.int v3), .unset, .unset, .unset, .unset, .unset, .unset] [(.int (3 : Int32)), (.int k2)])) _
    refine XS.iand X0.here hx rfl (hb hby at_7) rfl ?_
    show Steps p.tables e below (s₁.setTop (mkF m 8 #[.val (.int k1), .val (.int k2), .val (.int k3), .val (.int k4), .val (.int v3), .unset, .unset, .unset, .unset, .unset, .unset] [(.int (k2 &&& (3 : Int32)))])) _
    refine XS.istore X0.here hx rfl (hb hby at_8) rfl (l' := #[.val (.int k1), .val (.int k2), .val (.int k3), .val (.int k4), .val (.int v3), .val (.int v8), .unset, .unset, .unset, .unset, .unset]) (by rw [hv8]; rfl) ?_
    show Steps p.tables e below (s₁.setTop (mkF m 10 #[.val (.int k1), .val (.int k2), .val (.int k3), .val (.int k4), .val (.int v3), .val (.int v8), .unset, .unset, .unset, .unset, .unset] [])) _
    refine XS.iloadN X0.here hx rfl (hb hby at_10) rfl ?_
    show Steps p.tables e below (s₁.setTop (mkF m 11 #[.val (.int k1), .val (.int k2), .val (.int k3), .val (.int k4), .val (.int v3), .val (.int v8), .unset, .unset, .unset, .unset, .unset] [(.int k3)])) _
    refine XS.iconst X0.here hx rfl (hb hby at_11) ?_
    show Steps p.tables e below (s₁.setTop (mkF m 12 #[.val (.int k1), .val (.int k2), .val (.int k3), .val (.int k4), .val (.int v3), .val (.int v8), .unset, .unset, .unset, .unset, .unset] [(.int (3 : Int32)), (.int k3)])) _
    refine XS.iand X0.here hx rfl (hb hby at_12) rfl ?_
    show Steps p.tables e below (s₁.setTop (mkF m 13 #[.val (.int k1), .val (.int k2), .val (.int k3), .val (.int k4), .val (.int v3), .val (.int v8), .unset, .unset, .unset, .unset, .unset] [(.int (k3 &&& (3 : Int32)))])) _
    refine XS.istore X0.here hx rfl (hb hby at_13) rfl (l' := #[.val (.int k1), .val (.int k2), .val (.int k3), .val (.int k4), .val (.int v3), .val (.int v8), .val (.int v13), .unset, .unset, .unset, .unset]) (by rw [hv13]; rfl) ?_
    show Steps p.tables e below (s₁.setTop (mkF m 15 #[.val (.int k1), .val (.int k2), .val (.int k3), .val (.int k4), .val (.int v3), .val (.int v8), .val (.int v13), .unset, .unset, .unset, .unset] [])) _
    refine XS.iloadN X0.here hx rfl (hb hby at_15) rfl ?_
    show Steps p.tables e below (s₁.setTop (mkF m 16 #[.val (.int k1), .val (.int k2), .val (.int k3), .val (.int k4), .val (.int v3), .val (.int v8), .val (.int v13), .unset, .unset, .unset, .unset] [(.int k4)])) _
    refine XS.iconst X0.here hx rfl (hb hby at_16) ?_
    show Steps p.tables e below (s₁.setTop (mkF m 17 #[.val (.int k1), .val (.int k2), .val (.int k3), .val (.int k4), .val (.int v3), .val (.int v8), .val (.int v13), .unset, .unset, .unset, .unset] [(.int (3 : Int32)), (.int k4)])) _
    refine XS.iand X0.here hx rfl (hb hby at_17) rfl ?_
    show Steps p.tables e below (s₁.setTop (mkF m 18 #[.val (.int k1), .val (.int k2), .val (.int k3), .val (.int k4), .val (.int v3), .val (.int v8), .val (.int v13), .unset, .unset, .unset, .unset] [(.int (k4 &&& (3 : Int32)))])) _
    refine XS.istore X0.here hx rfl (hb hby at_18) rfl (l' := #[.val (.int k1), .val (.int k2), .val (.int k3), .val (.int k4), .val (.int v3), .val (.int v8), .val (.int v13), .val (.int v18), .unset, .unset, .unset]) (by rw [hv18]; rfl) ?_
    show Steps p.tables e below (s₁.setTop (mkF m 20 #[.val (.int k1), .val (.int k2), .val (.int k3), .val (.int k4), .val (.int v3), .val (.int v8), .val (.int v13), .val (.int v18), .unset, .unset, .unset] [])) _
    refine XS.iconst X0.here hx rfl (hb hby at_20) ?_
    show Steps p.tables e below (s₁.setTop (mkF m 21 #[.val (.int k1), .val (.int k2), .val (.int k3), .val (.int k4), .val (.int v3), .val (.int v8), .val (.int v13), .val (.int v18), .unset, .unset, .unset] [(.int (5 : Int32))])) _
    refine st1 _ ?_
    show Steps p.tables e below (T1.setTop (mkF m 23 #[.val (.int k1), .val (.int k2), .val (.int k3), .val (.int k4), .val (.int v3), .val (.int v8), .val (.int v13), .val (.int v18), .unset, .unset, .unset] [(.ref b1)])) _
    refine XS.astore X1.here hx rfl (hb hby at_23) rfl rfl (l' := #[.val (.int k1), .val (.int k2), .val (.int k3), .val (.int k4), .val (.int v3), .val (.int v8), .val (.int v13), .val (.int v18), .val (.ref b1), .unset, .unset]) rfl ?_
    show Steps p.tables e below (T1.setTop (mkF m 25 #[.val (.int k1), .val (.int k2), .val (.int k3), .val (.int k4), .val (.int v3), .val (.int v8), .val (.int v13), .val (.int v18), .val (.ref b1), .unset, .unset] [])) _
    refine XS.aload X1.here hx rfl (hb hby at_25) rfl rfl ?_
    show Steps p.tables e below (T1.setTop (mkF m 27 #[.val (.int k1), .val (.int k2), .val (.int k3), .val (.int k4), .val (.int v3), .val (.int v8), .val (.int v13), .val (.int v18), .val (.ref b1), .unset, .unset] [(.ref b1)])) _
    refine XS.iconst X1.here hx rfl (hb hby at_27) ?_
    show Steps p.tables e below (T1.setTop (mkF m 28 #[.val (.int k1), .val (.int k2), .val (.int k3), .val (.int k4), .val (.int v3), .val (.int v8), .val (.int v13), .val (.int v18), .val (.ref b1), .unset, .unset] [(.int (0 : Int32)), (.ref b1)])) _
    refine XS.iconst X1.here hx rfl (hb hby at_28) ?_
    show Steps p.tables e below (T1.setTop (mkF m 29 #[.val (.int k1), .val (.int k2), .val (.int k3), .val (.int k4), .val (.int v3), .val (.int v8), .val (.int v13), .val (.int v18), .val (.ref b1), .unset, .unset] [(.int (0 : Int32)), (.int (0 : Int32)), (.ref b1)])) _
    refine st5 _ ?_
    show Steps p.tables e below (T5.setTop (mkF m 30 #[.val (.int k1), .val (.int k2), .val (.int k3), .val (.int k4), .val (.int v3), .val (.int v8), .val (.int v13), .val (.int v18), .val (.ref b1), .unset, .unset] [])) _
    refine XS.aload X5.here hx rfl (hb hby at_30) rfl rfl ?_
    show Steps p.tables e below (T5.setTop (mkF m 32 #[.val (.int k1), .val (.int k2), .val (.int k3), .val (.int k4), .val (.int v3), .val (.int v8), .val (.int v13), .val (.int v18), .val (.ref b1), .unset, .unset] [(.ref b1)])) _
    refine XS.iconst X5.here hx rfl (hb hby at_32) ?_
    show Steps p.tables e below (T5.setTop (mkF m 33 #[.val (.int k1), .val (.int k2), .val (.int k3), .val (.int k4), .val (.int v3), .val (.int v8), .val (.int v13), .val (.int v18), .val (.ref b1), .unset, .unset] [(.int (1 : Int32)), (.ref b1)])) _
    refine XS.iload X5.here hx rfl (hb hby at_33) rfl ?_
    show Steps p.tables e below (T5.setTop (mkF m 35 #[.val (.int k1), .val (.int k2), .val (.int k3), .val (.int k4), .val (.int v3), .val (.int v8), .val (.int v13), .val (.int v18), .val (.ref b1), .unset, .unset] [(.int v3), (.int (1 : Int32)), (.ref b1)])) _
    refine st9 _ ?_
    show Steps p.tables e below (T9.setTop (mkF m 36 #[.val (.int k1), .val (.int k2), .val (.int k3), .val (.int k4), .val (.int v3), .val (.int v8), .val (.int v13), .val (.int v18), .val (.ref b1), .unset, .unset] [])) _
    refine XS.aload X9.here hx rfl (hb hby at_36) rfl rfl ?_
    show Steps p.tables e below (T9.setTop (mkF m 38 #[.val (.int k1), .val (.int k2), .val (.int k3), .val (.int k4), .val (.int v3), .val (.int v8), .val (.int v13), .val (.int v18), .val (.ref b1), .unset, .unset] [(.ref b1)])) _
    refine XS.iconst X9.here hx rfl (hb hby at_38) ?_
    show Steps p.tables e below (T9.setTop (mkF m 39 #[.val (.int k1), .val (.int k2), .val (.int k3), .val (.int k4), .val (.int v3), .val (.int v8), .val (.int v13), .val (.int v18), .val (.ref b1), .unset, .unset] [(.int (2 : Int32)), (.ref b1)])) _
    refine XS.iload X9.here hx rfl (hb hby at_39) rfl ?_
    show Steps p.tables e below (T9.setTop (mkF m 41 #[.val (.int k1), .val (.int k2), .val (.int k3), .val (.int k4), .val (.int v3), .val (.int v8), .val (.int v13), .val (.int v18), .val (.ref b1), .unset, .unset] [(.int v3), (.int (2 : Int32)), (.ref b1)])) _
    refine XS.iload X9.here hx rfl (hb hby at_41) rfl ?_
    show Steps p.tables e below (T9.setTop (mkF m 43 #[.val (.int k1), .val (.int k2), .val (.int k3), .val (.int k4), .val (.int v3), .val (.int v8), .val (.int v13), .val (.int v18), .val (.ref b1), .unset, .unset] [(.int v8), (.int v3), (.int (2 : Int32)), (.ref b1)])) _
    refine XS.iadd X9.here hx rfl (hb hby at_43) rfl ?_
    show Steps p.tables e below (T9.setTop (mkF m 44 #[.val (.int k1), .val (.int k2), .val (.int k3), .val (.int k4), .val (.int v3), .val (.int v8), .val (.int v13), .val (.int v18), .val (.ref b1), .unset, .unset] [(.int (v3 + v8)), (.int (2 : Int32)), (.ref b1)])) _
    refine st13 _ ?_
    show Steps p.tables e below (T13.setTop (mkF m 45 #[.val (.int k1), .val (.int k2), .val (.int k3), .val (.int k4), .val (.int v3), .val (.int v8), .val (.int v13), .val (.int v18), .val (.ref b1), .unset, .unset] [])) _
    refine XS.aload X13.here hx rfl (hb hby at_45) rfl rfl ?_
    show Steps p.tables e below (T13.setTop (mkF m 47 #[.val (.int k1), .val (.int k2), .val (.int k3), .val (.int k4), .val (.int v3), .val (.int v8), .val (.int v13), .val (.int v18), .val (.ref b1), .unset, .unset] [(.ref b1)])) _
    refine XS.iconst X13.here hx rfl (hb hby at_47) ?_
    show Steps p.tables e below (T13.setTop (mkF m 48 #[.val (.int k1), .val (.int k2), .val (.int k3), .val (.int k4), .val (.int v3), .val (.int v8), .val (.int v13), .val (.int v18), .val (.ref b1), .unset, .unset] [(.int (3 : Int32)), (.ref b1)])) _
    refine XS.iload X13.here hx rfl (hb hby at_48) rfl ?_
    show Steps p.tables e below (T13.setTop (mkF m 50 #[.val (.int k1), .val (.int k2), .val (.int k3), .val (.int k4), .val (.int v3), .val (.int v8), .val (.int v13), .val (.int v18), .val (.ref b1), .unset, .unset] [(.int v3), (.int (3 : Int32)), (.ref b1)])) _
    refine XS.iload X13.here hx rfl (hb hby at_50) rfl ?_
    show Steps p.tables e below (T13.setTop (mkF m 52 #[.val (.int k1), .val (.int k2), .val (.int k3), .val (.int k4), .val (.int v3), .val (.int v8), .val (.int v13), .val (.int v18), .val (.ref b1), .unset, .unset] [(.int v8), (.int v3), (.int (3 : Int32)), (.ref b1)])) _
    refine XS.iadd X13.here hx rfl (hb hby at_52) rfl ?_
    show Steps p.tables e below (T13.setTop (mkF m 53 #[.val (.int k1), .val (.int k2), .val (.int k3), .val (.int k4), .val (.int v3), .val (.int v8), .val (.int v13), .val (.int v18), .val (.ref b1), .unset, .unset] [(.int (v3 + v8)), (.int (3 : Int32)), (.ref b1)])) _
    refine XS.iload X13.here hx rfl (hb hby at_53) rfl ?_
    show Steps p.tables e below (T13.setTop (mkF m 55 #[.val (.int k1), .val (.int k2), .val (.int k3), .val (.int k4), .val (.int v3), .val (.int v8), .val (.int v13), .val (.int v18), .val (.ref b1), .unset, .unset] [(.int v13), (.int (v3 + v8)), (.int (3 : Int32)), (.ref b1)])) _
    refine XS.iadd X13.here hx rfl (hb hby at_55) rfl ?_
    show Steps p.tables e below (T13.setTop (mkF m 56 #[.val (.int k1), .val (.int k2), .val (.int k3), .val (.int k4), .val (.int v3), .val (.int v8), .val (.int v13), .val (.int v18), .val (.ref b1), .unset, .unset] [(.int ((v3 + v8) + v13)), (.int (3 : Int32)), (.ref b1)])) _
    refine st17 _ ?_
    show Steps p.tables e below (T17.setTop (mkF m 57 #[.val (.int k1), .val (.int k2), .val (.int k3), .val (.int k4), .val (.int v3), .val (.int v8), .val (.int v13), .val (.int v18), .val (.ref b1), .unset, .unset] [])) _
    refine XS.aload X17.here hx rfl (hb hby at_57) rfl rfl ?_
    show Steps p.tables e below (T17.setTop (mkF m 59 #[.val (.int k1), .val (.int k2), .val (.int k3), .val (.int k4), .val (.int v3), .val (.int v8), .val (.int v13), .val (.int v18), .val (.ref b1), .unset, .unset] [(.ref b1)])) _
    refine XS.iconst X17.here hx rfl (hb hby at_59) ?_
    show Steps p.tables e below (T17.setTop (mkF m 60 #[.val (.int k1), .val (.int k2), .val (.int k3), .val (.int k4), .val (.int v3), .val (.int v8), .val (.int v13), .val (.int v18), .val (.ref b1), .unset, .unset] [(.int (4 : Int32)), (.ref b1)])) _
    refine XS.iload X17.here hx rfl (hb hby at_60) rfl ?_
    show Steps p.tables e below (T17.setTop (mkF m 62 #[.val (.int k1), .val (.int k2), .val (.int k3), .val (.int k4), .val (.int v3), .val (.int v8), .val (.int v13), .val (.int v18), .val (.ref b1), .unset, .unset] [(.int v3), (.int (4 : Int32)), (.ref b1)])) _
    refine XS.iload X17.here hx rfl (hb hby at_62) rfl ?_
    show Steps p.tables e below (T17.setTop (mkF m 64 #[.val (.int k1), .val (.int k2), .val (.int k3), .val (.int k4), .val (.int v3), .val (.int v8), .val (.int v13), .val (.int v18), .val (.ref b1), .unset, .unset] [(.int v8), (.int v3), (.int (4 : Int32)), (.ref b1)])) _
    refine XS.iadd X17.here hx rfl (hb hby at_64) rfl ?_
    show Steps p.tables e below (T17.setTop (mkF m 65 #[.val (.int k1), .val (.int k2), .val (.int k3), .val (.int k4), .val (.int v3), .val (.int v8), .val (.int v13), .val (.int v18), .val (.ref b1), .unset, .unset] [(.int (v3 + v8)), (.int (4 : Int32)), (.ref b1)])) _
    refine XS.iload X17.here hx rfl (hb hby at_65) rfl ?_
    show Steps p.tables e below (T17.setTop (mkF m 67 #[.val (.int k1), .val (.int k2), .val (.int k3), .val (.int k4), .val (.int v3), .val (.int v8), .val (.int v13), .val (.int v18), .val (.ref b1), .unset, .unset] [(.int v13), (.int (v3 + v8)), (.int (4 : Int32)), (.ref b1)])) _
    refine XS.iadd X17.here hx rfl (hb hby at_67) rfl ?_
    show Steps p.tables e below (T17.setTop (mkF m 68 #[.val (.int k1), .val (.int k2), .val (.int k3), .val (.int k4), .val (.int v3), .val (.int v8), .val (.int v13), .val (.int v18), .val (.ref b1), .unset, .unset] [(.int ((v3 + v8) + v13)), (.int (4 : Int32)), (.ref b1)])) _
    refine XS.iload X17.here hx rfl (hb hby at_68) rfl ?_
    show Steps p.tables e below (T17.setTop (mkF m 70 #[.val (.int k1), .val (.int k2), .val (.int k3), .val (.int k4), .val (.int v3), .val (.int v8), .val (.int v13), .val (.int v18), .val (.ref b1), .unset, .unset] [(.int v18), (.int ((v3 + v8) + v13)), (.int (4 : Int32)), (.ref b1)])) _
    refine XS.iadd X17.here hx rfl (hb hby at_70) rfl ?_
    show Steps p.tables e below (T17.setTop (mkF m 71 #[.val (.int k1), .val (.int k2), .val (.int k3), .val (.int k4), .val (.int v3), .val (.int v8), .val (.int v13), .val (.int v18), .val (.ref b1), .unset, .unset] [(.int (((v3 + v8) + v13) + v18)), (.int (4 : Int32)), (.ref b1)])) _
    refine st21 _ ?_
    show Steps p.tables e below (T21.setTop (mkF m 72 #[.val (.int k1), .val (.int k2), .val (.int k3), .val (.int k4), .val (.int v3), .val (.int v8), .val (.int v13), .val (.int v18), .val (.ref b1), .unset, .unset] [])) _
    refine XS.aload X21.here hx rfl (hb hby at_72) rfl rfl ?_
    show Steps p.tables e below (T21.setTop (mkF m 74 #[.val (.int k1), .val (.int k2), .val (.int k3), .val (.int k4), .val (.int v3), .val (.int v8), .val (.int v13), .val (.int v18), .val (.ref b1), .unset, .unset] [(.ref b1)])) _
    refine XS.iconst X21.here hx rfl (hb hby at_74) ?_
    show Steps p.tables e below (T21.setTop (mkF m 75 #[.val (.int k1), .val (.int k2), .val (.int k3), .val (.int k4), .val (.int v3), .val (.int v8), .val (.int v13), .val (.int v18), .val (.ref b1), .unset, .unset] [(.int (4 : Int32)), (.ref b1)])) _
    refine X21.iaload hx (j := (4 : Int32)) (v := (.int (((v3 + v8) + v13) + v18))) (heq_of e21 Ar25.1) (State.isArrayOf_alike hZ.alike Ar25.2.1) Ar25.2.2 hin25 hat25 (g := (mkF m 75 #[.val (.int k1), .val (.int k2), .val (.int k3), .val (.int k4), .val (.int v3), .val (.int v8), .val (.int v13), .val (.int v18), .val (.ref b1), .unset, .unset] [(.int (4 : Int32)), (.ref b1)])) rfl rfl (hb hby at_75) _ ?_
    show Steps p.tables e below (T21.setTop (mkF m 76 #[.val (.int k1), .val (.int k2), .val (.int k3), .val (.int k4), .val (.int v3), .val (.int v8), .val (.int v13), .val (.int v18), .val (.ref b1), .unset, .unset] [(.int (((v3 + v8) + v13) + v18))])) _
    refine st26 _ ?_
    show Steps p.tables e below (T26.setTop (mkF m 78 #[.val (.int k1), .val (.int k2), .val (.int k3), .val (.int k4), .val (.int v3), .val (.int v8), .val (.int v13), .val (.int v18), .val (.ref b1), .unset, .unset] [(.ref b26)])) _
    refine XS.astore X26.here hx rfl (hb hby at_78) rfl rfl (l' := #[.val (.int k1), .val (.int k2), .val (.int k3), .val (.int k4), .val (.int v3), .val (.int v8), .val (.int v13), .val (.int v18), .val (.ref b1), .val (.ref b26), .unset]) rfl ?_
    show Steps p.tables e below (T26.setTop (mkF m 80 #[.val (.int k1), .val (.int k2), .val (.int k3), .val (.int k4), .val (.int v3), .val (.int v8), .val (.int v13), .val (.int v18), .val (.ref b1), .val (.ref b26), .unset] [])) _
    refine XS.aload X26.here hx rfl (hb hby at_80) rfl rfl ?_
    show Steps p.tables e below (T26.setTop (mkF m 82 #[.val (.int k1), .val (.int k2), .val (.int k3), .val (.int k4), .val (.int v3), .val (.int v8), .val (.int v13), .val (.int v18), .val (.ref b1), .val (.ref b26), .unset] [(.ref b26)])) _
    refine XS.aload X26.here hx rfl (hb hby at_82) rfl rfl ?_
    show Steps p.tables e below (T26.setTop (mkF m 84 #[.val (.int k1), .val (.int k2), .val (.int k3), .val (.int k4), .val (.int v3), .val (.int v8), .val (.int v13), .val (.int v18), .val (.ref b1), .val (.ref b26), .unset] [(.ref b1), (.ref b26)])) _
    refine XS.iconst X26.here hx rfl (hb hby at_84) ?_
    show Steps p.tables e below (T26.setTop (mkF m 85 #[.val (.int k1), .val (.int k2), .val (.int k3), .val (.int k4), .val (.int v3), .val (.int v8), .val (.int v13), .val (.int v18), .val (.ref b1), .val (.ref b26), .unset] [(.int (0 : Int32)), (.ref b1), (.ref b26)])) _
    refine X26.iaload hx (j := (0 : Int32)) (v := (.int (0 : Int32))) (heq_of e26 Ar31.1) (State.isArrayOf_alike hZ.alike Ar31.2.1) Ar31.2.2 hin31 hat31 (g := (mkF m 85 #[.val (.int k1), .val (.int k2), .val (.int k3), .val (.int k4), .val (.int v3), .val (.int v8), .val (.int v13), .val (.int v18), .val (.ref b1), .val (.ref b26), .unset] [(.int (0 : Int32)), (.ref b1), (.ref b26)])) rfl rfl (hb hby at_85) _ ?_
    show Steps p.tables e below (T26.setTop (mkF m 86 #[.val (.int k1), .val (.int k2), .val (.int k3), .val (.int k4), .val (.int v3), .val (.int v8), .val (.int v13), .val (.int v18), .val (.ref b1), .val (.ref b26), .unset] [(.int (0 : Int32)), (.ref b26)])) _
    refine XS.iload X26.here hx rfl (hb hby at_86) rfl ?_
    show Steps p.tables e below (T26.setTop (mkF m 88 #[.val (.int k1), .val (.int k2), .val (.int k3), .val (.int k4), .val (.int v3), .val (.int v8), .val (.int v13), .val (.int v18), .val (.ref b1), .val (.ref b26), .unset] [(.int v3), (.int (0 : Int32)), (.ref b26)])) _
    refine st32 _ ?_
    show Steps p.tables e below (T32.setTop (mkF m 91 #[.val (.int k1), .val (.int k2), .val (.int k3), .val (.int k4), .val (.int v3), .val (.int v8), .val (.int v13), .val (.int v18), .val (.ref b1), .val (.ref b26), .unset] [])) _
    refine XS.aload X32.here hx rfl (hb hby at_91) rfl rfl ?_
    show Steps p.tables e below (T32.setTop (mkF m 93 #[.val (.int k1), .val (.int k2), .val (.int k3), .val (.int k4), .val (.int v3), .val (.int v8), .val (.int v13), .val (.int v18), .val (.ref b1), .val (.ref b26), .unset] [(.ref b26)])) _
    refine XS.aload X32.here hx rfl (hb hby at_93) rfl rfl ?_
    show Steps p.tables e below (T32.setTop (mkF m 95 #[.val (.int k1), .val (.int k2), .val (.int k3), .val (.int k4), .val (.int v3), .val (.int v8), .val (.int v13), .val (.int v18), .val (.ref b1), .val (.ref b26), .unset] [(.ref b1), (.ref b26)])) _
    refine XS.iconst X32.here hx rfl (hb hby at_95) ?_
    show Steps p.tables e below (T32.setTop (mkF m 96 #[.val (.int k1), .val (.int k2), .val (.int k3), .val (.int k4), .val (.int v3), .val (.int v8), .val (.int v13), .val (.int v18), .val (.ref b1), .val (.ref b26), .unset] [(.int (1 : Int32)), (.ref b1), (.ref b26)])) _
    refine X32.iaload hx (j := (1 : Int32)) (v := (.int v3)) (heq_of rfl Ar37.1) (State.isArrayOf_alike hZ.alike Ar37.2.1) Ar37.2.2 hin37 hat37 (g := (mkF m 96 #[.val (.int k1), .val (.int k2), .val (.int k3), .val (.int k4), .val (.int v3), .val (.int v8), .val (.int v13), .val (.int v18), .val (.ref b1), .val (.ref b26), .unset] [(.int (1 : Int32)), (.ref b1), (.ref b26)])) rfl rfl (hb hby at_96) _ ?_
    show Steps p.tables e below (T32.setTop (mkF m 97 #[.val (.int k1), .val (.int k2), .val (.int k3), .val (.int k4), .val (.int v3), .val (.int v8), .val (.int v13), .val (.int v18), .val (.ref b1), .val (.ref b26), .unset] [(.int v3), (.ref b26)])) _
    refine XS.iload X32.here hx rfl (hb hby at_97) rfl ?_
    show Steps p.tables e below (T32.setTop (mkF m 99 #[.val (.int k1), .val (.int k2), .val (.int k3), .val (.int k4), .val (.int v3), .val (.int v8), .val (.int v13), .val (.int v18), .val (.ref b1), .val (.ref b26), .unset] [(.int v8), (.int v3), (.ref b26)])) _
    refine st38 _ ?_
    show Steps p.tables e below (T38.setTop (mkF m 102 #[.val (.int k1), .val (.int k2), .val (.int k3), .val (.int k4), .val (.int v3), .val (.int v8), .val (.int v13), .val (.int v18), .val (.ref b1), .val (.ref b26), .unset] [])) _
    refine XS.aload X38.here hx rfl (hb hby at_102) rfl rfl ?_
    show Steps p.tables e below (T38.setTop (mkF m 104 #[.val (.int k1), .val (.int k2), .val (.int k3), .val (.int k4), .val (.int v3), .val (.int v8), .val (.int v13), .val (.int v18), .val (.ref b1), .val (.ref b26), .unset] [(.ref b26)])) _
    refine XS.aload X38.here hx rfl (hb hby at_104) rfl rfl ?_
    show Steps p.tables e below (T38.setTop (mkF m 106 #[.val (.int k1), .val (.int k2), .val (.int k3), .val (.int k4), .val (.int v3), .val (.int v8), .val (.int v13), .val (.int v18), .val (.ref b1), .val (.ref b26), .unset] [(.ref b1), (.ref b26)])) _
    refine XS.iconst X38.here hx rfl (hb hby at_106) ?_
    show Steps p.tables e below (T38.setTop (mkF m 107 #[.val (.int k1), .val (.int k2), .val (.int k3), .val (.int k4), .val (.int v3), .val (.int v8), .val (.int v13), .val (.int v18), .val (.ref b1), .val (.ref b26), .unset] [(.int (2 : Int32)), (.ref b1), (.ref b26)])) _
    refine X38.iaload hx (j := (2 : Int32)) (v := (.int (v3 + v8))) (heq_of rfl Ar43.1) (State.isArrayOf_alike hZ.alike Ar43.2.1) Ar43.2.2 hin43 hat43 (g := (mkF m 107 #[.val (.int k1), .val (.int k2), .val (.int k3), .val (.int k4), .val (.int v3), .val (.int v8), .val (.int v13), .val (.int v18), .val (.ref b1), .val (.ref b26), .unset] [(.int (2 : Int32)), (.ref b1), (.ref b26)])) rfl rfl (hb hby at_107) _ ?_
    show Steps p.tables e below (T38.setTop (mkF m 108 #[.val (.int k1), .val (.int k2), .val (.int k3), .val (.int k4), .val (.int v3), .val (.int v8), .val (.int v13), .val (.int v18), .val (.ref b1), .val (.ref b26), .unset] [(.int (v3 + v8)), (.ref b26)])) _
    refine XS.iload X38.here hx rfl (hb hby at_108) rfl ?_
    show Steps p.tables e below (T38.setTop (mkF m 110 #[.val (.int k1), .val (.int k2), .val (.int k3), .val (.int k4), .val (.int v3), .val (.int v8), .val (.int v13), .val (.int v18), .val (.ref b1), .val (.ref b26), .unset] [(.int v13), (.int (v3 + v8)), (.ref b26)])) _
    refine st44 _ ?_
    show Steps p.tables e below (T44.setTop (mkF m 113 #[.val (.int k1), .val (.int k2), .val (.int k3), .val (.int k4), .val (.int v3), .val (.int v8), .val (.int v13), .val (.int v18), .val (.ref b1), .val (.ref b26), .unset] [])) _
    refine XS.aload X44.here hx rfl (hb hby at_113) rfl rfl ?_
    show Steps p.tables e below (T44.setTop (mkF m 115 #[.val (.int k1), .val (.int k2), .val (.int k3), .val (.int k4), .val (.int v3), .val (.int v8), .val (.int v13), .val (.int v18), .val (.ref b1), .val (.ref b26), .unset] [(.ref b26)])) _
    refine XS.aload X44.here hx rfl (hb hby at_115) rfl rfl ?_
    show Steps p.tables e below (T44.setTop (mkF m 117 #[.val (.int k1), .val (.int k2), .val (.int k3), .val (.int k4), .val (.int v3), .val (.int v8), .val (.int v13), .val (.int v18), .val (.ref b1), .val (.ref b26), .unset] [(.ref b1), (.ref b26)])) _
    refine XS.iconst X44.here hx rfl (hb hby at_117) ?_
    show Steps p.tables e below (T44.setTop (mkF m 118 #[.val (.int k1), .val (.int k2), .val (.int k3), .val (.int k4), .val (.int v3), .val (.int v8), .val (.int v13), .val (.int v18), .val (.ref b1), .val (.ref b26), .unset] [(.int (3 : Int32)), (.ref b1), (.ref b26)])) _
    refine X44.iaload hx (j := (3 : Int32)) (v := (.int ((v3 + v8) + v13))) (heq_of rfl Ar49.1) (State.isArrayOf_alike hZ.alike Ar49.2.1) Ar49.2.2 hin49 hat49 (g := (mkF m 118 #[.val (.int k1), .val (.int k2), .val (.int k3), .val (.int k4), .val (.int v3), .val (.int v8), .val (.int v13), .val (.int v18), .val (.ref b1), .val (.ref b26), .unset] [(.int (3 : Int32)), (.ref b1), (.ref b26)])) rfl rfl (hb hby at_118) _ ?_
    show Steps p.tables e below (T44.setTop (mkF m 119 #[.val (.int k1), .val (.int k2), .val (.int k3), .val (.int k4), .val (.int v3), .val (.int v8), .val (.int v13), .val (.int v18), .val (.ref b1), .val (.ref b26), .unset] [(.int ((v3 + v8) + v13)), (.ref b26)])) _
    refine XS.iload X44.here hx rfl (hb hby at_119) rfl ?_
    show Steps p.tables e below (T44.setTop (mkF m 121 #[.val (.int k1), .val (.int k2), .val (.int k3), .val (.int k4), .val (.int v3), .val (.int v8), .val (.int v13), .val (.int v18), .val (.ref b1), .val (.ref b26), .unset] [(.int v18), (.int ((v3 + v8) + v13)), (.ref b26)])) _
    refine st50 _ ?_
    show Steps p.tables e below (T50.setTop (mkF m 124 #[.val (.int k1), .val (.int k2), .val (.int k3), .val (.int k4), .val (.int v3), .val (.int v8), .val (.int v13), .val (.int v18), .val (.ref b1), .val (.ref b26), .unset] [])) _
    refine st55 _ ?_
    show Steps p.tables e below (T55.setTop (mkF m 127 #[.val (.int k1), .val (.int k2), .val (.int k3), .val (.int k4), .val (.int v3), .val (.int v8), .val (.int v13), .val (.int v18), .val (.ref b1), .val (.ref b26), .unset] [(.ref b55)])) _
    refine XS.dup X55.here hx rfl (hb hby at_127) rfl rfl ?_
    show Steps p.tables e below (T55.setTop (mkF m 128 #[.val (.int k1), .val (.int k2), .val (.int k3), .val (.int k4), .val (.int v3), .val (.int v8), .val (.int v13), .val (.int v18), .val (.ref b1), .val (.ref b26), .unset] [(.ref b55), (.ref b55)])) _
    refine XS.aload X55.here hx rfl (hb hby at_128) rfl rfl ?_
    show Steps p.tables e below (T55.setTop (mkF m 130 #[.val (.int k1), .val (.int k2), .val (.int k3), .val (.int k4), .val (.int v3), .val (.int v8), .val (.int v13), .val (.int v18), .val (.ref b1), .val (.ref b26), .unset] [(.ref b1), (.ref b55), (.ref b55)])) _
    refine XS.aload X55.here hx rfl (hb hby at_130) rfl rfl ?_
    show Steps p.tables e below (T55.setTop (mkF m 132 #[.val (.int k1), .val (.int k2), .val (.int k3), .val (.int k4), .val (.int v3), .val (.int v8), .val (.int v13), .val (.int v18), .val (.ref b1), .val (.ref b26), .unset] [(.ref b26), (.ref b1), (.ref b55), (.ref b55)])) _
    refine st62.trans ?_
    show Steps p.tables e below (T62.setTop (mkF m 135 #[.val (.int k1), .val (.int k2), .val (.int k3), .val (.int k4), .val (.int v3), .val (.int v8), .val (.int v13), .val (.int v18), .val (.ref b1), .val (.ref b26), .unset] [(.ref b55)])) _
    refine XS.astore X62.here hx rfl (hb hby at_135) rfl rfl (l' := #[.val (.int k1), .val (.int k2), .val (.int k3), .val (.int k4), .val (.int v3), .val (.int v8), .val (.int v13), .val (.int v18), .val (.ref b1), .val (.ref b26), .val (.ref b55)]) rfl ?_
    show Steps p.tables e below (T62.setTop (mkF m 137 #[.val (.int k1), .val (.int k2), .val (.int k3), .val (.int k4), .val (.int v3), .val (.int v8), .val (.int v13), .val (.int v18), .val (.ref b1), .val (.ref b26), .val (.ref b55)] [])) _
    refine XS.aload X62.here hx rfl (hb hby at_137) rfl rfl ?_
    show Steps p.tables e below (T62.setTop (mkF m 139 #[.val (.int k1), .val (.int k2), .val (.int k3), .val (.int k4), .val (.int v3), .val (.int v8), .val (.int v13), .val (.int v18), .val (.ref b1), .val (.ref b26), .val (.ref b55)] [(.ref b55)])) _
    refine XS.iconst X62.here hx rfl (hb hby at_139) ?_
    show Steps p.tables e below (T62.setTop (mkF m 140 #[.val (.int k1), .val (.int k2), .val (.int k3), .val (.int k4), .val (.int v3), .val (.int v8), .val (.int v13), .val (.int v18), .val (.ref b1), .val (.ref b26), .val (.ref b55)] [(.int (0 : Int32)), (.ref b55)])) _
    refine st70.trans ?_
    show Steps p.tables e below (T70.setTop (mkF m 143 #[.val (.int k1), .val (.int k2), .val (.int k3), .val (.int k4), .val (.int v3), .val (.int v8), .val (.int v13), .val (.int v18), .val (.ref b1), .val (.ref b26), .val (.ref b55)] [(.int (v3 - (0 : Int32)))])) _
    rw [← hr140]
    show Steps p.tables e below (T70.setTop (mkF m 143 #[.val (.int k1), .val (.int k2), .val (.int k3), .val (.int k4), .val (.int v3), .val (.int v8), .val (.int v13), .val (.int v18), .val (.ref b1), .val (.ref b26), .val (.ref b55)] [(.int r140)])) _
    refine XS.iload X70.here hx rfl (hb hby at_143) rfl ?_
    show Steps p.tables e below (T70.setTop (mkF m 145 #[.val (.int k1), .val (.int k2), .val (.int k3), .val (.int k4), .val (.int v3), .val (.int v8), .val (.int v13), .val (.int v18), .val (.ref b1), .val (.ref b26), .val (.ref b55)] [(.int v3), (.int r140)])) _
    exact kt
  by_cases hc145_72 : r140 = v3
  · skip
    obtain ⟨cq73, kq73, q73a, q73b, q73c⟩ := isOf hZ e70 F63
    obtain ⟨_, _, ⟨T73, L73, k73, n73⟩, -, X73, ⟨Lc73, hQ73, l73, y73, z73⟩, st73⟩ := X70.virtualBack hx (y := (⟨"com/example/wary_rank/waryrank/Adjacency", "degree", "(I)I"⟩ : MethodName)) (z := (⟨"com/example/wary_rank/waryrank/Adjacency", "degree", "(I)I"⟩ : MethodName)) hown (mvT hZ (hw _ (List.mem_of_getElem? (i := 18) rfl))) (mvT hZ (hw _ (List.mem_of_getElem? (i := 19) rfl))) (notFace_of_selects (args := #[]) (mvT hZ (hw _ (List.mem_of_getElem? (i := 21) rfl)))) (mvT hZ (hw _ (List.mem_of_getElem? (i := 21) rfl))) (mvT hZ (hw _ (List.mem_of_getElem? (i := 20) rfl))) (by decide) (backOf (W := 0) (rm4_1 l Z a0 hw [] b55 (1 : Int32) b1 kx1 (0 : Int32) v3 (v3 + v8) ((v3 + v8) + v13) (((v3 + v8) + v13) + v18) T62.heap n0 Z68 F64 F65 rfl) hZ (hw _ (List.mem_of_getElem? (i := 22) rfl)) (hw _ (List.mem_of_getElem? (i := 7) rfl)) (by decide) (by decide)) q73a q73c (g := (mkF m 151 #[.val (.int k1), .val (.int k2), .val (.int k3), .val (.int k4), .val (.int v3), .val (.int v8), .val (.int v13), .val (.int v18), .val (.ref b1), .val (.ref b26), .val (.ref b55)] [(.int (1 : Int32)), (.ref b55)])) rfl (by rw [hml]; rfl) (Steps.refl _) (argsL := [(.int (1 : Int32))]) (rest := []) (lenOf pd_2 rfl) rfl (by show 2 * 0 + _ ≤ _; exact Nat.le_of_eq rfl) (hb hby at_151) (fun _ _ => ⟨rfl, e70, (by decide : 3 + 0 ≤ _), (by decide : 19 + 0 ≤ _)⟩)
    dsimp only [Pt.U, Pt.locs, Pt.cells, Pt.slots] at X73 l73 y73 z73 st73 hQ73
    subst l73 y73 z73
    obtain ⟨rfl, N73q, e73⟩ := hQ73
    have N73 := Fr.app N70 N73q
    obtain ⟨r151, hr151⟩ : ∃ z_q : Int32, z_q = ((v3 + v8) - v3) := ⟨_, rfl⟩
    have pre74 : ∀ tq, Steps p.tables e below (T73.setTop (mkF m 156 #[.val (.int k1), .val (.int k2), .val (.int k3), .val (.int k4), .val (.int v3), .val (.int v8), .val (.int v13), .val (.int v18), .val (.ref b1), .val (.ref b26), .val (.ref b55)] [(.int v8), (.int r151)])) tq → Steps p.tables e below (s₁.setTop (entryFrame m #[(.int k1), (.int k2), (.int k3), (.int k4)] maxLocals)) tq := by
      intro tq kt
      refine pre71 _ ?_
      show Steps p.tables e below (T70.setTop (mkF m 145 #[.val (.int k1), .val (.int k2), .val (.int k3), .val (.int k4), .val (.int v3), .val (.int v8), .val (.int v13), .val (.int v18), .val (.ref b1), .val (.ref b26), .val (.ref b55)] [(.int v3), (.int r140)])) _
      refine XS.icmpNo X70.here hx rfl (hb hby at_145) rfl (teq hc145_72).2 ?_
      show Steps p.tables e below (T70.setTop (mkF m 148 #[.val (.int k1), .val (.int k2), .val (.int k3), .val (.int k4), .val (.int v3), .val (.int v8), .val (.int v13), .val (.int v18), .val (.ref b1), .val (.ref b26), .val (.ref b55)] [])) _
      refine XS.aload X70.here hx rfl (hb hby at_148) rfl rfl ?_
      show Steps p.tables e below (T70.setTop (mkF m 150 #[.val (.int k1), .val (.int k2), .val (.int k3), .val (.int k4), .val (.int v3), .val (.int v8), .val (.int v13), .val (.int v18), .val (.ref b1), .val (.ref b26), .val (.ref b55)] [(.ref b55)])) _
      refine XS.iconst X70.here hx rfl (hb hby at_150) ?_
      show Steps p.tables e below (T70.setTop (mkF m 151 #[.val (.int k1), .val (.int k2), .val (.int k3), .val (.int k4), .val (.int v3), .val (.int v8), .val (.int v13), .val (.int v18), .val (.ref b1), .val (.ref b26), .val (.ref b55)] [(.int (1 : Int32)), (.ref b55)])) _
      refine st73.trans ?_
      show Steps p.tables e below (T73.setTop (mkF m 154 #[.val (.int k1), .val (.int k2), .val (.int k3), .val (.int k4), .val (.int v3), .val (.int v8), .val (.int v13), .val (.int v18), .val (.ref b1), .val (.ref b26), .val (.ref b55)] [(.int ((v3 + v8) - v3))])) _
      rw [← hr151]
      show Steps p.tables e below (T73.setTop (mkF m 154 #[.val (.int k1), .val (.int k2), .val (.int k3), .val (.int k4), .val (.int v3), .val (.int v8), .val (.int v13), .val (.int v18), .val (.ref b1), .val (.ref b26), .val (.ref b55)] [(.int r151)])) _
      refine XS.iload X73.here hx rfl (hb hby at_154) rfl ?_
      show Steps p.tables e below (T73.setTop (mkF m 156 #[.val (.int k1), .val (.int k2), .val (.int k3), .val (.int k4), .val (.int v3), .val (.int v8), .val (.int v13), .val (.int v18), .val (.ref b1), .val (.ref b26), .val (.ref b55)] [(.int v8), (.int r151)])) _
      exact kt
    by_cases hc156_75 : r151 = v8
    · skip
      obtain ⟨cq76, kq76, q76a, q76b, q76c⟩ := isOf hZ e73 F63
      obtain ⟨_, _, ⟨T76, L76, k76, n76⟩, -, X76, ⟨Lc76, hQ76, l76, y76, z76⟩, st76⟩ := X73.virtualBack hx (y := (⟨"com/example/wary_rank/waryrank/Adjacency", "degree", "(I)I"⟩ : MethodName)) (z := (⟨"com/example/wary_rank/waryrank/Adjacency", "degree", "(I)I"⟩ : MethodName)) hown (mvT hZ (hw _ (List.mem_of_getElem? (i := 18) rfl))) (mvT hZ (hw _ (List.mem_of_getElem? (i := 19) rfl))) (notFace_of_selects (args := #[]) (mvT hZ (hw _ (List.mem_of_getElem? (i := 21) rfl)))) (mvT hZ (hw _ (List.mem_of_getElem? (i := 21) rfl))) (mvT hZ (hw _ (List.mem_of_getElem? (i := 20) rfl))) (by decide) (backOf (W := 0) (rm4_2 l Z a0 hw [] b55 (2 : Int32) b1 kx1 (0 : Int32) v3 (v3 + v8) ((v3 + v8) + v13) (((v3 + v8) + v13) + v18) T62.heap n0 Z68 F64 F65 rfl) hZ (hw _ (List.mem_of_getElem? (i := 22) rfl)) (hw _ (List.mem_of_getElem? (i := 7) rfl)) (by decide) (by decide)) q76a q76c (g := (mkF m 162 #[.val (.int k1), .val (.int k2), .val (.int k3), .val (.int k4), .val (.int v3), .val (.int v8), .val (.int v13), .val (.int v18), .val (.ref b1), .val (.ref b26), .val (.ref b55)] [(.int (2 : Int32)), (.ref b55)])) rfl (by rw [hml]; rfl) (Steps.refl _) (argsL := [(.int (2 : Int32))]) (rest := []) (lenOf pd_2 rfl) rfl (by show 2 * 0 + _ ≤ _; exact Nat.le_of_eq rfl) (hb hby at_162) (fun _ _ => ⟨rfl, e73, (by decide : 3 + 0 ≤ _), (by decide : 19 + 0 ≤ _)⟩)
      dsimp only [Pt.U, Pt.locs, Pt.cells, Pt.slots] at X76 l76 y76 z76 st76 hQ76
      subst l76 y76 z76
      obtain ⟨rfl, N76q, e76⟩ := hQ76
      have N76 := Fr.app N73 N76q
      obtain ⟨r162, hr162⟩ : ∃ z_q : Int32, z_q = (((v3 + v8) + v13) - (v3 + v8)) := ⟨_, rfl⟩
      have pre77 : ∀ tq, Steps p.tables e below (T76.setTop (mkF m 167 #[.val (.int k1), .val (.int k2), .val (.int k3), .val (.int k4), .val (.int v3), .val (.int v8), .val (.int v13), .val (.int v18), .val (.ref b1), .val (.ref b26), .val (.ref b55)] [(.int v13), (.int r162)])) tq → Steps p.tables e below (s₁.setTop (entryFrame m #[(.int k1), (.int k2), (.int k3), (.int k4)] maxLocals)) tq := by
        intro tq kt
        refine pre74 _ ?_
        show Steps p.tables e below (T73.setTop (mkF m 156 #[.val (.int k1), .val (.int k2), .val (.int k3), .val (.int k4), .val (.int v3), .val (.int v8), .val (.int v13), .val (.int v18), .val (.ref b1), .val (.ref b26), .val (.ref b55)] [(.int v8), (.int r151)])) _
        refine XS.icmpNo X73.here hx rfl (hb hby at_156) rfl (teq hc156_75).2 ?_
        show Steps p.tables e below (T73.setTop (mkF m 159 #[.val (.int k1), .val (.int k2), .val (.int k3), .val (.int k4), .val (.int v3), .val (.int v8), .val (.int v13), .val (.int v18), .val (.ref b1), .val (.ref b26), .val (.ref b55)] [])) _
        refine XS.aload X73.here hx rfl (hb hby at_159) rfl rfl ?_
        show Steps p.tables e below (T73.setTop (mkF m 161 #[.val (.int k1), .val (.int k2), .val (.int k3), .val (.int k4), .val (.int v3), .val (.int v8), .val (.int v13), .val (.int v18), .val (.ref b1), .val (.ref b26), .val (.ref b55)] [(.ref b55)])) _
        refine XS.iconst X73.here hx rfl (hb hby at_161) ?_
        show Steps p.tables e below (T73.setTop (mkF m 162 #[.val (.int k1), .val (.int k2), .val (.int k3), .val (.int k4), .val (.int v3), .val (.int v8), .val (.int v13), .val (.int v18), .val (.ref b1), .val (.ref b26), .val (.ref b55)] [(.int (2 : Int32)), (.ref b55)])) _
        refine st76.trans ?_
        show Steps p.tables e below (T76.setTop (mkF m 165 #[.val (.int k1), .val (.int k2), .val (.int k3), .val (.int k4), .val (.int v3), .val (.int v8), .val (.int v13), .val (.int v18), .val (.ref b1), .val (.ref b26), .val (.ref b55)] [(.int (((v3 + v8) + v13) - (v3 + v8)))])) _
        rw [← hr162]
        show Steps p.tables e below (T76.setTop (mkF m 165 #[.val (.int k1), .val (.int k2), .val (.int k3), .val (.int k4), .val (.int v3), .val (.int v8), .val (.int v13), .val (.int v18), .val (.ref b1), .val (.ref b26), .val (.ref b55)] [(.int r162)])) _
        refine XS.iload X76.here hx rfl (hb hby at_165) rfl ?_
        show Steps p.tables e below (T76.setTop (mkF m 167 #[.val (.int k1), .val (.int k2), .val (.int k3), .val (.int k4), .val (.int v3), .val (.int v8), .val (.int v13), .val (.int v18), .val (.ref b1), .val (.ref b26), .val (.ref b55)] [(.int v13), (.int r162)])) _
        exact kt
      by_cases hc167_78 : r162 = v13
      · skip
        obtain ⟨cq79, kq79, q79a, q79b, q79c⟩ := isOf hZ e76 F63
        obtain ⟨_, _, ⟨T79, L79, k79, n79⟩, -, X79, ⟨Lc79, hQ79, l79, y79, z79⟩, st79⟩ := X76.virtualBack hx (y := (⟨"com/example/wary_rank/waryrank/Adjacency", "degree", "(I)I"⟩ : MethodName)) (z := (⟨"com/example/wary_rank/waryrank/Adjacency", "degree", "(I)I"⟩ : MethodName)) hown (mvT hZ (hw _ (List.mem_of_getElem? (i := 18) rfl))) (mvT hZ (hw _ (List.mem_of_getElem? (i := 19) rfl))) (notFace_of_selects (args := #[]) (mvT hZ (hw _ (List.mem_of_getElem? (i := 21) rfl)))) (mvT hZ (hw _ (List.mem_of_getElem? (i := 21) rfl))) (mvT hZ (hw _ (List.mem_of_getElem? (i := 20) rfl))) (by decide) (backOf (W := 0) (rm4_3 l Z a0 hw [] b55 (3 : Int32) b1 kx1 (0 : Int32) v3 (v3 + v8) ((v3 + v8) + v13) (((v3 + v8) + v13) + v18) T62.heap n0 Z68 F64 F65 rfl) hZ (hw _ (List.mem_of_getElem? (i := 22) rfl)) (hw _ (List.mem_of_getElem? (i := 7) rfl)) (by decide) (by decide)) q79a q79c (g := (mkF m 173 #[.val (.int k1), .val (.int k2), .val (.int k3), .val (.int k4), .val (.int v3), .val (.int v8), .val (.int v13), .val (.int v18), .val (.ref b1), .val (.ref b26), .val (.ref b55)] [(.int (3 : Int32)), (.ref b55)])) rfl (by rw [hml]; rfl) (Steps.refl _) (argsL := [(.int (3 : Int32))]) (rest := []) (lenOf pd_2 rfl) rfl (by show 2 * 0 + _ ≤ _; exact Nat.le_of_eq rfl) (hb hby at_173) (fun _ _ => ⟨rfl, e76, (by decide : 3 + 0 ≤ _), (by decide : 19 + 0 ≤ _)⟩)
        dsimp only [Pt.U, Pt.locs, Pt.cells, Pt.slots] at X79 l79 y79 z79 st79 hQ79
        subst l79 y79 z79
        obtain ⟨rfl, N79q, e79⟩ := hQ79
        have N79 := Fr.app N76 N79q
        obtain ⟨r173, hr173⟩ : ∃ z_q : Int32, z_q = ((((v3 + v8) + v13) + v18) - ((v3 + v8) + v13)) := ⟨_, rfl⟩
        obtain ⟨m186, hm186⟩ : ∃ z_q : Int32, z_q = (if r173 = v18 then (1 : Int32) else (0 : Int32)) := ⟨_, rfl⟩
        have pre81 : ∀ tq, Steps p.tables e below (T79.setTop (mkF m 186 #[.val (.int k1), .val (.int k2), .val (.int k3), .val (.int k4), .val (.int v3), .val (.int v8), .val (.int v13), .val (.int v18), .val (.ref b1), .val (.ref b26), .val (.ref b55)] [(.int m186)])) tq → Steps p.tables e below (s₁.setTop (entryFrame m #[(.int k1), (.int k2), (.int k3), (.int k4)] maxLocals)) tq := by
          intro tq kt
          refine pre77 _ ?_
          show Steps p.tables e below (T76.setTop (mkF m 167 #[.val (.int k1), .val (.int k2), .val (.int k3), .val (.int k4), .val (.int v3), .val (.int v8), .val (.int v13), .val (.int v18), .val (.ref b1), .val (.ref b26), .val (.ref b55)] [(.int v13), (.int r162)])) _
          refine XS.icmpNo X76.here hx rfl (hb hby at_167) rfl (teq hc167_78).2 ?_
          show Steps p.tables e below (T76.setTop (mkF m 170 #[.val (.int k1), .val (.int k2), .val (.int k3), .val (.int k4), .val (.int v3), .val (.int v8), .val (.int v13), .val (.int v18), .val (.ref b1), .val (.ref b26), .val (.ref b55)] [])) _
          refine XS.aload X76.here hx rfl (hb hby at_170) rfl rfl ?_
          show Steps p.tables e below (T76.setTop (mkF m 172 #[.val (.int k1), .val (.int k2), .val (.int k3), .val (.int k4), .val (.int v3), .val (.int v8), .val (.int v13), .val (.int v18), .val (.ref b1), .val (.ref b26), .val (.ref b55)] [(.ref b55)])) _
          refine XS.iconst X76.here hx rfl (hb hby at_172) ?_
          show Steps p.tables e below (T76.setTop (mkF m 173 #[.val (.int k1), .val (.int k2), .val (.int k3), .val (.int k4), .val (.int v3), .val (.int v8), .val (.int v13), .val (.int v18), .val (.ref b1), .val (.ref b26), .val (.ref b55)] [(.int (3 : Int32)), (.ref b55)])) _
          refine st79.trans ?_
          show Steps p.tables e below (T79.setTop (mkF m 176 #[.val (.int k1), .val (.int k2), .val (.int k3), .val (.int k4), .val (.int v3), .val (.int v8), .val (.int v13), .val (.int v18), .val (.ref b1), .val (.ref b26), .val (.ref b55)] [(.int ((((v3 + v8) + v13) + v18) - ((v3 + v8) + v13)))])) _
          rw [← hr173]
          show Steps p.tables e below (T79.setTop (mkF m 176 #[.val (.int k1), .val (.int k2), .val (.int k3), .val (.int k4), .val (.int v3), .val (.int v8), .val (.int v13), .val (.int v18), .val (.ref b1), .val (.ref b26), .val (.ref b55)] [(.int r173)])) _
          refine XS.iload X79.here hx rfl (hb hby at_176) rfl ?_
          by_cases d80 : r173 = v18
          · skip
            show Steps p.tables e below (T79.setTop (mkF m 178 #[.val (.int k1), .val (.int k2), .val (.int k3), .val (.int k4), .val (.int v3), .val (.int v8), .val (.int v13), .val (.int v18), .val (.ref b1), .val (.ref b26), .val (.ref b55)] [(.int v18), (.int r173)])) _
            refine XS.icmpNo X79.here hx rfl (hb hby at_178) rfl (teq d80).2 ?_
            show Steps p.tables e below (T79.setTop (mkF m 181 #[.val (.int k1), .val (.int k2), .val (.int k3), .val (.int k4), .val (.int v3), .val (.int v8), .val (.int v13), .val (.int v18), .val (.ref b1), .val (.ref b26), .val (.ref b55)] [])) _
            refine XS.iconst X79.here hx rfl (hb hby at_181) ?_
            show Steps p.tables e below (T79.setTop (mkF m 182 #[.val (.int k1), .val (.int k2), .val (.int k3), .val (.int k4), .val (.int v3), .val (.int v8), .val (.int v13), .val (.int v18), .val (.ref b1), .val (.ref b26), .val (.ref b55)] [(.int (1 : Int32))])) _
            refine XS.goto X79.here hx rfl (pc0 := 182) (pc' := 186) rfl (hb hby at_182) (by decide) (by decide) ?_
            show Steps p.tables e below (T79.setTop (mkF m 186 #[.val (.int k1), .val (.int k2), .val (.int k3), .val (.int k4), .val (.int v3), .val (.int v8), .val (.int v13), .val (.int v18), .val (.ref b1), .val (.ref b26), .val (.ref b55)] [(.int (1 : Int32))])) _
            exact castTop (by simp only [hm186, if_pos d80]) kt
          · skip
            show Steps p.tables e below (T79.setTop (mkF m 178 #[.val (.int k1), .val (.int k2), .val (.int k3), .val (.int k4), .val (.int v3), .val (.int v8), .val (.int v13), .val (.int v18), .val (.ref b1), .val (.ref b26), .val (.ref b55)] [(.int v18), (.int r173)])) _
            refine XS.icmpYes X79.here hx rfl (pc0 := 178) (pc' := 185) rfl (hb hby at_178) rfl (feq d80).2 (by decide) (by decide) ?_
            show Steps p.tables e below (T79.setTop (mkF m 185 #[.val (.int k1), .val (.int k2), .val (.int k3), .val (.int k4), .val (.int v3), .val (.int v8), .val (.int v13), .val (.int v18), .val (.ref b1), .val (.ref b26), .val (.ref b55)] [])) _
            refine XS.iconst X79.here hx rfl (hb hby at_185) ?_
            show Steps p.tables e below (T79.setTop (mkF m 186 #[.val (.int k1), .val (.int k2), .val (.int k3), .val (.int k4), .val (.int v3), .val (.int v8), .val (.int v13), .val (.int v18), .val (.ref b1), .val (.ref b26), .val (.ref b55)] [(.int (0 : Int32))])) _
            exact castTop (by simp only [hm186, if_neg d80]) kt
        obtain ⟨fs, hr, hrun, hended, hW, hsame⟩ := X79.leave (v := some (Value.int (nar .boolean m186))) (fun h => by rw [Bd.returns] at h; cases h)
        have hres82 : (nar .boolean m186) = (1 : Int32) := (own_leaf_0_186_fff k1 k2 k3 k4 v3 hv3 v8 hv8 v13 hv13 v18 hv18 hp32_h1 hp32_h2 hp38_h1 hp38_h2 hp44_h1 hp44_h2 hp50_h1 hp50_h2 r140 hr140 hc145_72 r151 hr151 hc156_75 r162 hr162 hc167_78 r173 hr173 m186 hm186)
        refine ⟨_, _, pre81 _ ?_, hrun, hended, _, _, rfl, ?_, ⟨_, rfl⟩, hW, hsame.mono (by decide) (by decide)⟩
        · skip
          show Steps p.tables e below (T79.setTop (mkF m 186 #[.val (.int k1), .val (.int k2), .val (.int k3), .val (.int k4), .val (.int v3), .val (.int v8), .val (.int v13), .val (.int v18), .val (.ref b1), .val (.ref b26), .val (.ref b55)] [(.int m186)])) _
          exact retN X79 hx (t := .boolean) Bd.returns (by simp) (hb hby at_186) hr
        · show Q0 Z k1 k2 k3 k4 h0 n0 _ T79.heap _
          rw [e79]
          exact ⟨congrArg (fun z => some (Value.int z)) hres82, N79⟩
      · skip
        obtain ⟨fs, hr, hrun, hended, hW, hsame⟩ := X76.leave (v := some (Value.int (0 : Int32))) (fun h => by rw [Bd.returns] at h; cases h)
        have hres83 : (0 : Int32) = (1 : Int32) := (own_leaf_0_186_fft k1 k2 k3 k4 v3 hv3 v8 hv8 v13 hv13 v18 hv18 hp32_h1 hp32_h2 hp38_h1 hp38_h2 hp44_h1 hp44_h2 hp50_h1 hp50_h2 r140 hr140 hc145_72 r151 hr151 hc156_75 r162 hr162 hc167_78)
        refine ⟨_, _, pre77 _ ?_, hrun, hended, _, _, rfl, ?_, ⟨_, rfl⟩, hW, hsame.mono (by decide) (by decide)⟩
        · skip
          show Steps p.tables e below (T76.setTop (mkF m 167 #[.val (.int k1), .val (.int k2), .val (.int k3), .val (.int k4), .val (.int v3), .val (.int v8), .val (.int v13), .val (.int v18), .val (.ref b1), .val (.ref b26), .val (.ref b55)] [(.int v13), (.int r162)])) _
          refine XS.icmpYes X76.here hx rfl (pc0 := 167) (pc' := 185) rfl (hb hby at_167) rfl (feq hc167_78).2 (by decide) (by decide) ?_
          show Steps p.tables e below (T76.setTop (mkF m 185 #[.val (.int k1), .val (.int k2), .val (.int k3), .val (.int k4), .val (.int v3), .val (.int v8), .val (.int v13), .val (.int v18), .val (.ref b1), .val (.ref b26), .val (.ref b55)] [])) _
          refine XS.iconst X76.here hx rfl (hb hby at_185) ?_
          show Steps p.tables e below (T76.setTop (mkF m 186 #[.val (.int k1), .val (.int k2), .val (.int k3), .val (.int k4), .val (.int v3), .val (.int v8), .val (.int v13), .val (.int v18), .val (.ref b1), .val (.ref b26), .val (.ref b55)] [(.int (0 : Int32))])) _
          exact retN X76 hx (t := .boolean) Bd.returns (by simp) (hb hby at_186) hr
        · show Q0 Z k1 k2 k3 k4 h0 n0 _ T76.heap _
          rw [e76]
          exact ⟨congrArg (fun z => some (Value.int z)) hres83, N76⟩
    · skip
      obtain ⟨fs, hr, hrun, hended, hW, hsame⟩ := X73.leave (v := some (Value.int (0 : Int32))) (fun h => by rw [Bd.returns] at h; cases h)
      have hres84 : (0 : Int32) = (1 : Int32) := (own_leaf_0_186_ft k1 k2 k3 k4 v3 hv3 v8 hv8 v13 hv13 v18 hv18 hp32_h1 hp32_h2 hp38_h1 hp38_h2 hp44_h1 hp44_h2 hp50_h1 hp50_h2 r140 hr140 hc145_72 r151 hr151 hc156_75)
      refine ⟨_, _, pre74 _ ?_, hrun, hended, _, _, rfl, ?_, ⟨_, rfl⟩, hW, hsame.mono (by decide) (by decide)⟩
      · skip
        show Steps p.tables e below (T73.setTop (mkF m 156 #[.val (.int k1), .val (.int k2), .val (.int k3), .val (.int k4), .val (.int v3), .val (.int v8), .val (.int v13), .val (.int v18), .val (.ref b1), .val (.ref b26), .val (.ref b55)] [(.int v8), (.int r151)])) _
        refine XS.icmpYes X73.here hx rfl (pc0 := 156) (pc' := 185) rfl (hb hby at_156) rfl (feq hc156_75).2 (by decide) (by decide) ?_
        show Steps p.tables e below (T73.setTop (mkF m 185 #[.val (.int k1), .val (.int k2), .val (.int k3), .val (.int k4), .val (.int v3), .val (.int v8), .val (.int v13), .val (.int v18), .val (.ref b1), .val (.ref b26), .val (.ref b55)] [])) _
        refine XS.iconst X73.here hx rfl (hb hby at_185) ?_
        show Steps p.tables e below (T73.setTop (mkF m 186 #[.val (.int k1), .val (.int k2), .val (.int k3), .val (.int k4), .val (.int v3), .val (.int v8), .val (.int v13), .val (.int v18), .val (.ref b1), .val (.ref b26), .val (.ref b55)] [(.int (0 : Int32))])) _
        exact retN X73 hx (t := .boolean) Bd.returns (by simp) (hb hby at_186) hr
      · show Q0 Z k1 k2 k3 k4 h0 n0 _ T73.heap _
        rw [e73]
        exact ⟨congrArg (fun z => some (Value.int z)) hres84, N73⟩
  · skip
    obtain ⟨fs, hr, hrun, hended, hW, hsame⟩ := X70.leave (v := some (Value.int (0 : Int32))) (fun h => by rw [Bd.returns] at h; cases h)
    have hres85 : (0 : Int32) = (1 : Int32) := (own_leaf_0_186_t k1 k2 k3 k4 v3 hv3 v8 hv8 v13 hv13 v18 hv18 hp32_h1 hp32_h2 hp38_h1 hp38_h2 hp44_h1 hp44_h2 hp50_h1 hp50_h2 r140 hr140 hc145_72)
    refine ⟨_, _, pre71 _ ?_, hrun, hended, _, _, rfl, ?_, ⟨_, rfl⟩, hW, hsame.mono (by decide) (by decide)⟩
    · skip
      show Steps p.tables e below (T70.setTop (mkF m 145 #[.val (.int k1), .val (.int k2), .val (.int k3), .val (.int k4), .val (.int v3), .val (.int v8), .val (.int v13), .val (.int v18), .val (.ref b1), .val (.ref b26), .val (.ref b55)] [(.int v3), (.int r140)])) _
      refine XS.icmpYes X70.here hx rfl (pc0 := 145) (pc' := 185) rfl (hb hby at_145) rfl (feq hc145_72).2 (by decide) (by decide) ?_
      show Steps p.tables e below (T70.setTop (mkF m 185 #[.val (.int k1), .val (.int k2), .val (.int k3), .val (.int k4), .val (.int v3), .val (.int v8), .val (.int v13), .val (.int v18), .val (.ref b1), .val (.ref b26), .val (.ref b55)] [])) _
      refine XS.iconst X70.here hx rfl (hb hby at_185) ?_
      show Steps p.tables e below (T70.setTop (mkF m 186 #[.val (.int k1), .val (.int k2), .val (.int k3), .val (.int k4), .val (.int v3), .val (.int v8), .val (.int v13), .val (.int v18), .val (.ref b1), .val (.ref b26), .val (.ref b55)] [(.int (0 : Int32))])) _
      exact retN X70 hx (t := .boolean) Bd.returns (by simp) (hb hby at_186) hr
    · show Q0 Z k1 k2 k3 k4 h0 n0 _ T70.heap _
      rw [e70]
      exact ⟨congrArg (fun z => some (Value.int z)) hres85, N70⟩
set_option maxRecDepth 65536 in
set_option maxHeartbeats 40000000 in
theorem comes_1 {Post : Tables → Env → Array Value → State → Outcome → State → Prop} (hpost : ∀ tb e args s v u, (limb_1_1.after args s (.returned v) u = true ∧ limb_1_2.after args s (.returned v) u = true ∧ True) → FrameEnd s (.returned v) u (Jvm.fieldLocs frame_1_writes args s ++ Jvm.arrayLocs frame_1_arrays args s ++ Jvm.staticLocs frame_1_statics s) 16 128 → Post tb e args s (.returned v) u) :
    ArmFor flags0 classFile x code maxLocals ret World_1 tables_1 room_1 Calls_1 rest_1 Pre_1 Post := by
  intro l hfl _ _ p e ha hc hk s m args below hf hA hF happ hP
  obtain ⟨hcalls, hrest, hpre⟩ := hP
  obtain ⟨-, -, -, hnamed, -, -, -, hat⟩ := (Spec.applies_iff hf).mp happ
  obtain ⟨hg, hn⟩ := and_e (Cond.before_iff.mp (show (Jvm.Cond.and given_1 narrow_1).before args s = true from hpre))
  obtain ⟨gv1, gv2⟩ := and_e hg
  obtain ⟨gv3, gv4⟩ := and_e gv2
  obtain ⟨gv5, gv6⟩ := and_e gv4
  obtain ⟨gv7, gv8⟩ := and_e gv6
  obtain ⟨w0, w1, w2, w3, rfl⟩ : ∃ w0 w1 w2 w3 : Value, args = #[w0, w1, w2, w3] := by
    have hs : args.size = 4 := by simpa [Cond.value, given_1] using gv1
    obtain ⟨L⟩ := args
    match L, hs with
    | [w0, w1, w2, w3], _ => exact ⟨w0, w1, w2, w3, rfl⟩
  have hw := fun d (hd : d ∈ tables_1) => atoms_spec (ws := Jvm.Cond.code x code maxLocals ret :: tables_1) hat d (List.mem_cons_of_mem _ hd)
  obtain ⟨i0, ei0⟩ := is_v gv3
  obtain rfl : w0 = (.int i0) := Option.some.inj ei0
  obtain ⟨i1, ei1⟩ := is_v gv5
  obtain rfl : w1 = (.int i1) := Option.some.inj ei1
  obtain ⟨i2, ei2⟩ := is_v gv7
  obtain rfl : w2 = (.int i2) := Option.some.inj ei2
  obtain ⟨i3, ei3⟩ := is_v gv8
  obtain rfl : w3 = (.int i3) := Option.some.inj ei3
  obtain ⟨n, o, h1, h2, h3, _, L, rfl, ⟨rfl, N⟩, hq⟩ := rm0 l s _ hw tables_1 i0 i1 i2 i3  s.heap s.heap.size (Nat.le_refl _)  p e ha hc hk s m _ below hf ((Spec.applies_iff_loose hf).mp happ).1 ⟨rfl, State.Warmed39.refl s, rfl⟩ trivial
  refine ⟨n, _, h1, h2, h3, hpost _ _ _ _ _ _ ⟨Cond.after_iff.mpr rfl, Cond.after_iff.mpr (eq_i res_at (Term.int_eval (1)) rfl), trivial⟩ ⟨hq.1, hq.2.1, (hq.2.2.sift fun y hy => Or.inr (N y hy)).mono (by decide) (by decide)⟩⟩
theorem main_1_1 : Claimed_1_1 := comes_1 fun _ _ _ _ _ _ h hF => ⟨h.1, hF⟩
theorem main_1_2 : Claimed_1_2 := comes_1 fun _ _ _ _ _ _ h hF => ⟨h.2.1, hF⟩
end Jvm.Pilot.@@N@@
namespace Jvm.Pilot.@@N@@
open Jvm Jvm.ClassFile Sem Op Lib Jvm.Free Jvm.Stand Jvm.Pilot.@@N@@.Jvm.D
/-! MADE BY PROGRAM (witnessworld.py) out of the Statement's table words and the real class files: 9 classes; the members and pool entries that the words name. The judged class is class 1, her method 1. -/
namespace start1
open Jvm.ClassFile
def u (s : String) : CpInfo := .utf8 (stringToUtf16 s)
/-- a pool by its gaps: so many unusable entries, then the entry; so many at the end -/
def gap : Nat → List CpInfo → List CpInfo
  | 0, r => r
  | n + 1, r => .unusable :: gap n r
def poolList (es : List (Nat × CpInfo)) (last : Nat) : List CpInfo := es.foldr (fun e r => gap e.1 (e.2 :: r)) (gap last [])
def pool (es : List (Nat × CpInfo)) (last : Nat) : Array CpInfo := ⟨poolList es last⟩
def fileOf (pool : Array CpInfo) (this : Nat) (attrs : Array Attribute := #[]) (ms : Array MethodInfo := #[]) (fl : Nat := 33) (sup : Nat := 0) (ifs : Array Nat := #[]) (fds : Array FieldInfo := #[]) : ClassFile where
  minorVersion := 0
  majorVersion := 65
  constantPool := pool
  accessFlags := fl
  thisClass := this
  superClass := sup
  interfaces := ifs
  fields := fds
  methods := ms
  attributes := attrs
def plain (name : String) (sup : Option ClassId) : Class where
  name := name
  kind := .ordinary
  loader := none
  accessFlags := 33
  super := sup
  interfaces := #[]
  cf := none
  fields := #[]
  methods := #[]
  instanceTypes := #[]
  staticTypes := #[]
  resolved := #[]
  callSites := []
  init := .initialized
  statics := none
  mirror := none

def pool0 : Array CpInfo := pool [(5, u "<init>"), (0, u "()V"), (1, .class_ 10), (1, u "java/lang/Object")] 113

def k0c0 : Code := { maxStack := 0, maxLocals := 1, code := object_method_1_code, exceptionTable := #[], attributes := #[] }
def k0m0 : Method := { name := "<init>", desc := "()V", sig := { parameters := [], returnType := none }, accessFlags := 1, code := some k0c0 }
/-- java/lang/Object -/
def k0 : Class := { plain "java/lang/Object" none with
  accessFlags := 33
  interfaces := #[]
  cf := some (fileOf pool0 8 #[] #[{ accessFlags := 1, nameIndex := 5, descriptorIndex := 6, attributes := #[] }] 33 0 #[] #[])
  fields := #[]
  methods := #[k0m0]
  instanceTypes := #[]
  staticTypes := #[]
  resolved := Array.replicate 124 none
  statics := none }

def pool1 : Array CpInfo := pool [(2, .class_ 4), (1, u "java/lang/Object"), (0, u "<init>"), (0, u "()V"), (0, .methodref 8 9), (0, .class_ 10), (0, .nameAndType 11 12), (0, u "com/example/wary_rank/waryrank/AdjacencyDegreePinLaw"), (0, u "fill"), (0, u "([III)V"), (0, .class_ 14), (0, u "com/example/wary_rank/waryrank/Adjacency"), (0, .methodref 13 16), (0, .nameAndType 5 17), (0, u "([I[I)V"), (0, .methodref 13 19), (0, .nameAndType 20 21), (0, u "degree"), (0, u "(I)I"), (2, u "law"), (0, u "(IIII)Z")] 5

def k1m0 : Method := { name := "<init>", desc := "()V", sig := { parameters := [], returnType := none }, accessFlags := 1, code := none }
def k1c1 : Code := { maxStack := 4, maxLocals := 11, code := code, exceptionTable := #[], attributes := #[] }
def k1m1 : Method := { name := "law", desc := "(IIII)Z", sig := { parameters := [.int, .int, .int, .int], returnType := some .boolean }, accessFlags := 9, code := some k1c1 }
def k1c2 : Code := { maxStack := 3, maxLocals := 3, code := method_3_code, exceptionTable := #[], attributes := #[] }
def k1m2 : Method := { name := "fill", desc := "([III)V", sig := { parameters := [(.array .int), .int, .int], returnType := none }, accessFlags := 10, code := some k1c2 }
/-- com/example/wary_rank/waryrank/AdjacencyDegreePinLaw -/
def k1 : Class := { plain "com/example/wary_rank/waryrank/AdjacencyDegreePinLaw" (some 0) with
  accessFlags := 49
  interfaces := #[]
  cf := some (fileOf pool1 8 #[] #[{ accessFlags := 1, nameIndex := 5, descriptorIndex := 6, attributes := #[] }, { accessFlags := 9, nameIndex := 24, descriptorIndex := 25, attributes := #[] }, { accessFlags := 10, nameIndex := 11, descriptorIndex := 12, attributes := #[] }] 49 2 #[] #[])
  fields := #[]
  methods := #[k1m0, k1m1, k1m2]
  instanceTypes := #[]
  staticTypes := #[]
  resolved := Array.replicate 31 none
  statics := none }

def pool2 : Array CpInfo := pool [(1, .methodref 2 3), (0, .class_ 4), (0, .nameAndType 5 6), (0, u "java/lang/Object"), (0, u "<init>"), (0, u "()V"), (0, .fieldref 8 9), (0, .class_ 10), (0, .nameAndType 11 12), (0, u "com/example/wary_rank/waryrank/Adjacency"), (0, u "offsets"), (0, u "[I"), (0, .fieldref 8 14), (0, .nameAndType 15 12), (0, u "targets"), (18, u "degree"), (0, u "(I)I"), (17, u "([I[I)V")] 14

def k2c0 : Code := { maxStack := 2, maxLocals := 3, code := prog_1_method_1_code, exceptionTable := #[], attributes := #[] }
def k2m0 : Method := { name := "<init>", desc := "([I[I)V", sig := { parameters := [(.array .int), (.array .int)], returnType := none }, accessFlags := 0, code := some k2c0 }
def k2c1 : Code := { maxStack := 3, maxLocals := 2, code := prog_1_method_3_code, exceptionTable := #[], attributes := #[] }
def k2m1 : Method := { name := "degree", desc := "(I)I", sig := { parameters := [.int], returnType := some .int }, accessFlags := 1, code := some k2c1 }
/-- com/example/wary_rank/waryrank/Adjacency -/
def k2 : Class := { plain "com/example/wary_rank/waryrank/Adjacency" (some 0) with
  accessFlags := 33
  interfaces := #[]
  cf := some (fileOf pool2 8 #[] #[{ accessFlags := 0, nameIndex := 5, descriptorIndex := 53, attributes := #[] }, { accessFlags := 1, nameIndex := 34, descriptorIndex := 35, attributes := #[] }] 33 2 #[] #[{ accessFlags := 18, nameIndex := 11, descriptorIndex := 12, attributes := #[] }, { accessFlags := 18, nameIndex := 15, descriptorIndex := 12, attributes := #[] }])
  fields := #[{ name := "offsets", type := (.array .int), accessFlags := 18, slot := 0, constantValue := 0 }, { name := "targets", type := (.array .int), accessFlags := 18, slot := 1, constantValue := 0 }]
  methods := #[k2m0, k2m1]
  instanceTypes := #[(.array .int), (.array .int)]
  staticTypes := #[]
  resolved := Array.replicate 68 none
  statics := none }

def pool3 : Array CpInfo := pool [(1, u "java/lang/Cloneable"), (0, .class_ 1), (0, u "java/lang/Object"), (0, .class_ 3)] 3

/-- java/lang/Cloneable -/
def k3 : Class := { plain "java/lang/Cloneable" (some 0) with
  accessFlags := 1537
  interfaces := #[]
  cf := some (fileOf pool3 2 #[] #[] 1537 4 #[] #[])
  fields := #[]
  methods := #[]
  instanceTypes := #[]
  staticTypes := #[]
  resolved := Array.replicate 8 none
  statics := none }

def pool4 : Array CpInfo := pool [(1, u "java/io/Serializable"), (0, .class_ 1), (0, u "java/lang/Object"), (0, .class_ 3)] 3

/-- java/io/Serializable -/
def k4 : Class := { plain "java/io/Serializable" (some 0) with
  accessFlags := 1537
  interfaces := #[]
  cf := some (fileOf pool4 2 #[] #[] 1537 4 #[] #[])
  fields := #[]
  methods := #[]
  instanceTypes := #[]
  staticTypes := #[]
  resolved := Array.replicate 8 none
  statics := none }

/-- the primitive byte -/
def k5 : Class := { plain "byte" none with kind := .primitive 'B', accessFlags := 0x411 }
/-- [B -/
def k6 : Class := { plain "[B" (some 0) with kind := .array 5 .byte, interfaces := #[3, 4], accessFlags := 1041 }

/-- the primitive int -/
def k7 : Class := { plain "int" none with kind := .primitive 'I', accessFlags := 0x411 }
/-- [I -/
def k8 : Class := { plain "[I" (some 0) with kind := .array 7 .int, interfaces := #[3, 4], accessFlags := 1041 }

def heap : Heap := #[]
def classes : Array Class := #[k0, k1, k2, k3, k4, k5, k6, k7, k8]
def interned : List (Array UInt16 × Addr) := []
def slotsUsed : Nat := 0
def theMethod : MethodId := ⟨1, 1⟩
def args0 : Array Value := #[.int 5, .int 6, .int 7, .int 2]
def aboutOver (below : List Frame) : State where
  vm := { classes := classes, interned := interned.toArray }
  heap := heap
  slotsUsed := slotsUsed
  threads := #[{ frames := .invoking theMethod args0 :: below }]
def below0 : List Frame := [.native { method := ⟨0, 0⟩, args := #[] }]
def about1 : State := aboutOver below0
def p0 : Program := .bare "" "" ""
def e0 : Env := launch0.env 0 0 0
theorem w_frames : about1.frames = Frame.invoking theMethod args0 :: below0 := rfl
set_option maxRecDepth 65536 in
theorem w_args : argsFit about1.vm theMethod args0 = true := by decide +kernel
set_option maxRecDepth 65536 in
theorem w_heap : heapFits about1 = true := by decide +kernel
set_option maxRecDepth 65536 in
theorem w_runnable : about1.curStatus? = some .runnable := by decide +kernel
set_option maxRecDepth 65536 in
theorem w_alone : about1.alone = true := by decide +kernel
set_option maxRecDepth 65536 in
theorem w_named : about1.methodNamed? x = some theMethod := by decide +kernel
set_option maxRecDepth 65536 in
theorem w_hears : about1.hears theMethod below0 = true := by decide +kernel
set_option maxRecDepth 65536 in
theorem w_ripe : about1.ripe theMethod args0 below0 = true := by decide +kernel
theorem w_running : about1.status = .running := rfl
set_option maxRecDepth 65536 in
theorem w_room : about1.hasRoom e0.platform room_1 = true :=
  launch0.hasRoom_least _ room_1 (by decide +kernel) (by decide +kernel) (by decide +kernel) (by decide +kernel) (by decide +kernel) (by decide +kernel)
theorem allAtoms_all (ts : List Jvm.Cond) (a : Array Jvm.Value) (st : Jvm.State) : (allAtoms ts).before a st = ts.all (fun c => c.before a st) := by
  induction ts with
  | nil => rfl
  | cons c t ih =>
    show (Jvm.Cond.and c (allAtoms t)).before a st = _
    rw [Jvm.Cond.before_and, ih, List.all_cons]
def words1 : List Jvm.Cond := Jvm.Cond.code x code maxLocals ret :: tables_1
/-- a 'code' word, met by the world's own term for the bytes: nothing is compared byte by byte -/
theorem code_word {y : MethodName} {bytes : ByteArray} {mx : Nat} {rt : Option FieldType} {a : Array Value} {s : State} {m : MethodId} {meth : Method} {c : Code} (h1 : s.methodNamed? y = some m) (h2 : s.vm.method? m = some meth) (h3 : meth.code = some c) (h4 : c.code = bytes)
    (h5 : (c.maxLocals == mx && c.exceptionTable.isEmpty && decide (c.maxStack ≤ mostOperands) && decide (meth.sig.returnType = rt) && !meth.locks && decide (parseMethodDescriptor y.desc = some meth.sig)) = true) : (Jvm.Cond.code y bytes mx rt).before a s = true := by
  simp only [Bool.and_eq_true, beq_iff_eq, Bool.not_eq_true', decide_eq_true_eq] at h5
  obtain ⟨⟨⟨⟨⟨g1, g2⟩, g3⟩, g4⟩, g5⟩, g6⟩ := h5
  simp [Cond.before, Cond.holds, Cond.value, h1, h2, h3, h4, g1, g2, g3, g4, g5, g6]
def isCode : Jvm.Cond → Bool
  | .code _ _ _ _ => true
  | _ => false
theorem all_split {L : List Jvm.Cond} {P : Jvm.Cond → Bool} (h1 : L.all (fun c => isCode c || P c) = true) (h2 : ∀ c ∈ L.filter isCode, P c = true) : L.all P = true := by
  refine List.all_eq_true.mpr fun c hc => ?_
  have h := List.all_eq_true.mp h1 c hc
  rcases Bool.eq_false_or_eq_true (isCode c) with hi | hi
  · exact h2 c (List.mem_filter.mpr ⟨hc, hi⟩)
  · simpa [hi] using h
set_option maxRecDepth 65536 in
theorem w_c0 : (Jvm.Cond.code x code maxLocals ret).before args0 about1 = true := code_word (m := ⟨1, 1⟩) (meth := k1m1) (c := k1c1) (by decide +kernel) rfl rfl rfl (by decide +kernel)
set_option maxRecDepth 65536 in
theorem w_c1 : (Jvm.Cond.code ({ cls := "com/example/wary_rank/waryrank/AdjacencyDegreePinLaw", name := "fill", desc := "([III)V" } : Jvm.MethodName) method_3_code (3 : Nat) (Option.none : Option Jvm.ClassFile.FieldType)).before args0 about1 = true := code_word (m := ⟨1, 2⟩) (meth := k1m2) (c := k1c2) (by decide +kernel) rfl rfl rfl (by decide +kernel)
set_option maxRecDepth 65536 in
theorem w_c2 : (Jvm.Cond.code ({ cls := "com/example/wary_rank/waryrank/Adjacency", name := "<init>", desc := "([I[I)V" } : Jvm.MethodName) prog_1_method_1_code (3 : Nat) (Option.none : Option Jvm.ClassFile.FieldType)).before args0 about1 = true := code_word (m := ⟨2, 0⟩) (meth := k2m0) (c := k2c0) (by decide +kernel) rfl rfl rfl (by decide +kernel)
set_option maxRecDepth 65536 in
theorem w_c3 : (Jvm.Cond.code ({ cls := "java/lang/Object", name := "<init>", desc := "()V" } : Jvm.MethodName) object_method_1_code (1 : Nat) (Option.none : Option Jvm.ClassFile.FieldType)).before args0 about1 = true := code_word (m := ⟨0, 0⟩) (meth := k0m0) (c := k0c0) (by decide +kernel) rfl rfl rfl (by decide +kernel)
set_option maxRecDepth 65536 in
theorem w_c4 : (Jvm.Cond.code ({ cls := "com/example/wary_rank/waryrank/Adjacency", name := "degree", desc := "(I)I" } : Jvm.MethodName) prog_1_method_3_code (2 : Nat) (Option.some Jvm.ClassFile.FieldType.int)).before args0 about1 = true := code_word (m := ⟨2, 1⟩) (meth := k2m1) (c := k2c1) (by decide +kernel) rfl rfl rfl (by decide +kernel)
def codes1 : List Jvm.Cond := [Jvm.Cond.code x code maxLocals ret, Jvm.Cond.code ({ cls := "com/example/wary_rank/waryrank/AdjacencyDegreePinLaw", name := "fill", desc := "([III)V" } : Jvm.MethodName) method_3_code (3 : Nat) (Option.none : Option Jvm.ClassFile.FieldType), Jvm.Cond.code ({ cls := "com/example/wary_rank/waryrank/Adjacency", name := "<init>", desc := "([I[I)V" } : Jvm.MethodName) prog_1_method_1_code (3 : Nat) (Option.none : Option Jvm.ClassFile.FieldType), Jvm.Cond.code ({ cls := "java/lang/Object", name := "<init>", desc := "()V" } : Jvm.MethodName) object_method_1_code (1 : Nat) (Option.none : Option Jvm.ClassFile.FieldType), Jvm.Cond.code ({ cls := "com/example/wary_rank/waryrank/Adjacency", name := "degree", desc := "(I)I" } : Jvm.MethodName) prog_1_method_3_code (2 : Nat) (Option.some Jvm.ClassFile.FieldType.int)]
set_option maxRecDepth 65536 in
theorem codes_eq : words1.filter isCode = codes1 := rfl
theorem w_codes : ∀ c ∈ words1.filter isCode, c.before args0 about1 = true := by
  rw [codes_eq]
  intro c hc
  simp only [codes1, List.mem_cons, List.not_mem_nil, or_false] at hc
  rcases hc with rfl | rfl | rfl | rfl | rfl
  · exact w_c0
  · exact w_c1
  · exact w_c2
  · exact w_c3
  · exact w_c4
set_option maxRecDepth 65536 in
theorem w_t1 : words1.all (fun c => isCode c || c.before args0 about1) = true := by decide +kernel
theorem w_tables : (allAtoms (Jvm.Cond.code x code maxLocals ret :: tables_1)).before args0 about1 = true := by
  rw [allAtoms_all]
  show words1.all (fun c => c.before args0 about1) = true
  refine all_split ?_ w_codes
  rw [w_t1]
set_option maxRecDepth 65536 in
theorem w_case : (Jvm.Cond.and given_1 narrow_1).before args0 about1 = true := by decide +kernel
theorem w_applies : (headSpec (Jvm.Cond.code x code maxLocals ret :: tables_1) room_1).applies x e0.platform about1 = true :=
  (Spec.applies_iff w_frames).mpr ⟨w_running, w_runnable, w_alone, w_named, w_hears, w_ripe, w_room, w_tables⟩
theorem atStart : AtStart classFile x code maxLocals ret World_1 tables_1 room_1 Calls_1 rest_1 Pre_1 launch0 p0 e0 about1 theMethod args0 below0 :=
  ⟨lists_1, trivial, launch0.admits_env _ _ _, launch0.least_env, fairChoices_fair.cas, fairChoices_fair.clock, w_frames, w_args, w_heap, w_applies, trivial, trivial, w_case⟩
end start1
theorem witness_1 : WitnessClaimed_1 := ⟨start1.p0, start1.e0, start1.about1, start1.theMethod, start1.args0, start1.below0, start1.atStart⟩
end Jvm.Pilot.@@N@@
