import JvmDerived
import JvmDerived.Pilot.@@N@@Statement
import JvmDerived.Pilot.@@N@@Code
set_option linter.unusedVariables false
set_option linter.unusedSimpArgs false
namespace Jvm.RoadKit
theorem heq_of {T : State} {h : Heap} {a : Addr} {c : Cell} (e : T.heap = h) (q : h[a]? = some c) : T.heap[a]? = some c := by rw [e]; exact q
open Sem ClassFile Op Lib Jvm.Stand Jvm.Free Jvm.LawKit
section New
variable {p : Program} {l : Launch} {e : Env} {R : Room} {s : State} {m : MethodId} {args : Array Value} {below : List Frame} {meth : Method} {c : Code} {T : State} {locs : List Loc} {cells slots : Nat}
theorem retI (X : Stand p l e R s m args below meth c T locs cells slots) (hx : p.tables.exec = Jvm.exec) {pc : Nat} {Ls : Array Slot} {z : Int32} {rest : List Value} (hret : meth.sig.returnType = some .int) (hd : decode c.code pc = .ok (.ireturn, 1)) {fs : List Frame}
    (hl : ∀ (f : JFrame) (acts : List Action), f.method = m → f.locked = none → f.entered = [] → (doReturn e (T.setTop f) acts (some (.int z))).1 = T.setFrames fs) : Steps p.tables e below (T.setTop (mkF m pc Ls (.int z :: rest))) (T.setFrames fs) := by
  have hm' : T.vm.method? m = some meth := X.method'
  have hn : narrow .int (.int z) = .int z := rfl
  show Steps p.tables e below (T.setTop { method := m, pc := pc, locals := Ls, stack := _ :: rest, locked := none }) _
  jvm_step X.here [X.here.top, hx, hd, hm', hret, hn]
  first | (intro acts; rw [hl _ acts rfl rfl rfl]) | rw [hl _ _ rfl rfl rfl]
  exact Steps.refl _
end New
end Jvm.RoadKit
namespace Jvm.Pilot.@@N@@
open Jvm Jvm.ClassFile Sem Op Lib Jvm.Free Jvm.Stand Jvm.LawKit Jvm.RoadKit Bundle Jvm.Pilot.@@N@@.Jvm.D
theorem own_mask31 (a : Int32) : 0 ≤ (a &&& (2147483647 : Int32)).toInt ∧ (a &&& (2147483647 : Int32)).toInt < 2147483648 := by
  have h : (a &&& (2147483647 : Int32)).toBitVec = a.toBitVec &&& 2147483647#32 := rfl
  have e : (a &&& (2147483647 : Int32)).toInt = (a.toBitVec &&& 2147483647#32).toInt := by rw [← h]; rfl
  have hm : (a.toBitVec &&& 2147483647#32).toNat ≤ 2147483647 := by rw [BitVec.toNat_and]; exact Nat.and_le_right
  rw [e, BitVec.toInt_eq_toNat_of_lt (by omega)]
  omega
theorem own_rem (u s : Int32) (hu : 0 ≤ u.toInt) (hs : 0 < s.toInt) : 0 ≤ (u % s).toInt ∧ (u % s).toInt < s.toInt := by
  have : (u % s).toInt = u.toInt.tmod s.toInt := Int32.toInt_mod ..
  rw [this, Int.tmod_eq_emod_of_nonneg hu]
  exact ⟨Int.emod_nonneg _ (by omega), Int.emod_lt_of_pos _ hs⟩
theorem own_i32_add (x y : Int32) (h1 : -2147483648 ≤ x.toInt + y.toInt) (h2 : x.toInt + y.toInt < 2147483648) : (x + y).toInt = x.toInt + y.toInt := by
  rw [Int32.toInt_add, Int.bmod_eq_of_le (by omega) (by omega)]
theorem own_i32_sub (x y : Int32) (h1 : -2147483648 ≤ x.toInt - y.toInt) (h2 : x.toInt - y.toInt < 2147483648) : (x - y).toInt = x.toInt - y.toInt := by
  rw [Int32.toInt_sub, Int.bmod_eq_of_le (by omega) (by omega)]
theorem own_i64_add (x y : Int64) (h1 : -9223372036854775808 ≤ x.toInt + y.toInt) (h2 : x.toInt + y.toInt < 9223372036854775808) : (x + y).toInt = x.toInt + y.toInt := by
  rw [Int64.toInt_add, Int.bmod_eq_of_le (by omega) (by omega)]
theorem own_i64_sub (x y : Int64) (h1 : -9223372036854775808 ≤ x.toInt - y.toInt) (h2 : x.toInt - y.toInt < 9223372036854775808) : (x - y).toInt = x.toInt - y.toInt := by
  rw [Int64.toInt_sub, Int.bmod_eq_of_le (by omega) (by omega)]
theorem own_i64_mul (x y : Int64) (h1 : -9223372036854775808 ≤ x.toInt * y.toInt) (h2 : x.toInt * y.toInt < 9223372036854775808) : (x * y).toInt = x.toInt * y.toInt := by
  rw [Int64.toInt_mul, Int.bmod_eq_of_le (by omega) (by omega)]
theorem own_i2l (x : Int32) : x.toInt64.toInt = x.toInt := Int32.toInt_toInt64 x
theorem own_l2i (x : Int64) (h1 : -2147483648 ≤ x.toInt) (h2 : x.toInt < 2147483648) : x.toInt32.toInt = x.toInt := by
  rw [Int64.toInt_toInt32, Int.bmod_eq_of_le (by omega) (by omega)]
theorem own_rangeI (x : Int32) : -2147483648 ≤ x.toInt ∧ x.toInt < 2147483648 := by
  have h1 := Int32.le_toInt x; have h2 := Int32.toInt_lt x; omega
theorem own_rangeL (x : Int64) : -9223372036854775808 ≤ x.toInt ∧ x.toInt < 9223372036854775808 := by
  have h1 := Int64.le_toInt x; have h2 := Int64.toInt_lt x; omega
theorem own_mask63 (a : Int64) : 0 ≤ (a &&& (9223372036854775807 : Int64)).toInt ∧ (a &&& (9223372036854775807 : Int64)).toInt < 9223372036854775808 := by
  have h : (a &&& (9223372036854775807 : Int64)).toBitVec = a.toBitVec &&& 9223372036854775807#64 := rfl
  have e : (a &&& (9223372036854775807 : Int64)).toInt = (a.toBitVec &&& 9223372036854775807#64).toInt := by rw [← h]; rfl
  have hm : (a.toBitVec &&& 9223372036854775807#64).toNat ≤ 9223372036854775807 := by rw [BitVec.toNat_and]; exact Nat.and_le_right
  rw [e, BitVec.toInt_eq_toNat_of_lt (by omega)]
  omega
theorem own_remL (u s : Int64) (hu : 0 ≤ u.toInt) (hs : 0 < s.toInt) : 0 ≤ (u % s).toInt ∧ (u % s).toInt < s.toInt := by
  have : (u % s).toInt = u.toInt.tmod s.toInt := Int64.toInt_mod ..
  rw [this, Int.tmod_eq_emod_of_nonneg hu]
  exact ⟨Int.emod_nonneg _ (by omega), Int.emod_lt_of_pos _ hs⟩
theorem own_getD (L : List Int32) (d : Int32) : ∀ n : Nat, ∃ z : Int32, (L.map Value.int).getD n (Value.int d) = Value.int z ∧ True := by
  induction L with
  | nil => intro n; exact ⟨d, rfl, trivial⟩
  | cons x t ih =>
    intro n
    cases n with
    | zero => exact ⟨x, rfl, trivial⟩
    | succ n => exact ih n
theorem own_inb15 (k : Int32) : ¬ (k &&& (15 : Int32)) < 0 ∧ (k &&& (15 : Int32)) < (16 : Int32) := by
  have h : (k &&& (15 : Int32)).toBitVec = k.toBitVec &&& 15#32 := rfl
  have e : (k &&& (15 : Int32)).toInt = (k.toBitVec &&& 15#32).toInt := by rw [← h]; rfl
  have hm : (k.toBitVec &&& 15#32).toNat ≤ 15 := by rw [BitVec.toNat_and]; exact Nat.and_le_right
  rw [BitVec.toInt_eq_toNat_of_lt (by omega)] at e
  have t0 : (0 : Int32).toInt = 0 := rfl
  have t1 : (16 : Int32).toInt = 16 := rfl
  rw [Int32.lt_iff_toInt_lt, Int32.lt_iff_toInt_lt]
  omega
theorem d1_0 : decode prog_47_method_5_code 0 = .ok (.iload_n 0, 1) := by decide +kernel
theorem d1_1 : decode prog_47_method_5_code 1 = .ok (.bipush 9, 2) := by decide +kernel
theorem d1_3 : decode prog_47_method_5_code 3 = .ok (.if_icmp .eq 51, 3) := by decide +kernel
theorem d1_6 : decode prog_47_method_5_code 6 = .ok (.iload_n 0, 1) := by decide +kernel
theorem d1_7 : decode prog_47_method_5_code 7 = .ok (.bipush 10, 2) := by decide +kernel
theorem d1_9 : decode prog_47_method_5_code 9 = .ok (.if_icmp .eq 45, 3) := by decide +kernel
theorem d1_12 : decode prog_47_method_5_code 12 = .ok (.iload_n 0, 1) := by decide +kernel
theorem d1_13 : decode prog_47_method_5_code 13 = .ok (.bipush 13, 2) := by decide +kernel
theorem d1_15 : decode prog_47_method_5_code 15 = .ok (.if_icmp .eq 39, 3) := by decide +kernel
theorem d1_18 : decode prog_47_method_5_code 18 = .ok (.iload_n 0, 1) := by decide +kernel
theorem d1_19 : decode prog_47_method_5_code 19 = .ok (.bipush 32, 2) := by decide +kernel
theorem d1_21 : decode prog_47_method_5_code 21 = .ok (.if_icmp .lt 9, 3) := by decide +kernel
theorem d1_24 : decode prog_47_method_5_code 24 = .ok (.iload_n 0, 1) := by decide +kernel
theorem d1_25 : decode prog_47_method_5_code 25 = .ok (.ldc 26, 2) := by decide +kernel
theorem d1_27 : decode prog_47_method_5_code 27 = .ok (.if_icmp .lt 27, 3) := by decide +kernel
theorem d1_30 : decode prog_47_method_5_code 30 = .ok (.iload_n 0, 1) := by decide +kernel
theorem d1_31 : decode prog_47_method_5_code 31 = .ok (.ldc 27, 2) := by decide +kernel
theorem d1_33 : decode prog_47_method_5_code 33 = .ok (.if_icmp .le 9, 3) := by decide +kernel
theorem d1_36 : decode prog_47_method_5_code 36 = .ok (.iload_n 0, 1) := by decide +kernel
theorem d1_37 : decode prog_47_method_5_code 37 = .ok (.ldc 28, 2) := by decide +kernel
theorem d1_39 : decode prog_47_method_5_code 39 = .ok (.if_icmp .lt 15, 3) := by decide +kernel
theorem d1_42 : decode prog_47_method_5_code 42 = .ok (.iload_n 0, 1) := by decide +kernel
theorem d1_43 : decode prog_47_method_5_code 43 = .ok (.ldc 29, 2) := by decide +kernel
theorem d1_45 : decode prog_47_method_5_code 45 = .ok (.if_icmp .lt 13, 3) := by decide +kernel
theorem d1_48 : decode prog_47_method_5_code 48 = .ok (.iload_n 0, 1) := by decide +kernel
theorem d1_49 : decode prog_47_method_5_code 49 = .ok (.ldc 30, 2) := by decide +kernel
theorem d1_51 : decode prog_47_method_5_code 51 = .ok (.if_icmp .gt 7, 3) := by decide +kernel
theorem d1_54 : decode prog_47_method_5_code 54 = .ok (.iconst 1, 1) := by decide +kernel
theorem d1_55 : decode prog_47_method_5_code 55 = .ok (.goto 4, 3) := by decide +kernel
theorem d1_58 : decode prog_47_method_5_code 58 = .ok (.iconst 0, 1) := by decide +kernel
theorem d1_59 : decode prog_47_method_5_code 59 = .ok (.ireturn, 1) := by decide +kernel
theorem pn_1 : plainName "com/example/marcotte/marcotte/XmlCharacters" = true := by first | (simp [plainName, overriddenIn]; done) | decide +kernel
theorem ef_1 (m : MethodId) (x0 : Int32) : entryFrame m #[(.int x0)] 1 = mkF m 0 #[.val (.int x0)] [] := by first | (simp [entryFrame, mkF, argsToLocals, Value.category]; done) | rfl
def own_f1 (z : Int32) : Int32 := (nar .boolean (if z = (9 : Int32) then (1 : Int32) else (if z = (10 : Int32) then (1 : Int32) else (if z = (13 : Int32) then (1 : Int32) else (if z < (32 : Int32) then (if (57343 : Int32) < z then (if z < (65534 : Int32) then (1 : Int32) else (if z < (65536 : Int32) then (0 : Int32) else (if (1114111 : Int32) < z then (0 : Int32) else (1 : Int32)))) else (if z < (65536 : Int32) then (0 : Int32) else (if (1114111 : Int32) < z then (0 : Int32) else (1 : Int32)))) else (if z < (55296 : Int32) then (1 : Int32) else (if (57343 : Int32) < z then (if z < (65534 : Int32) then (1 : Int32) else (if z < (65536 : Int32) then (0 : Int32) else (if (1114111 : Int32) < z then (0 : Int32) else (1 : Int32)))) else (if z < (65536 : Int32) then (0 : Int32) else (if (1114111 : Int32) < z then (0 : Int32) else (1 : Int32))))))))))
def Q1 (Z : State) (z : Int32) (h0 : Heap) (n0 : Nat) (v : Option Value) (h : Heap) (L : List Loc) : Prop := v = some (.int (own_f1 z)) ∧ Fr n0 L ∧ h = h0
set_option maxRecDepth 65536 in
set_option maxHeartbeats 40000000 in
theorem rm1 (l : Launch) (Z : State) (a0 : Array Value) (hw : ∀ d ∈ tables_1, d.before a0 Z = true) (ws : List Jvm.Cond) (z : Int32) (h0 : Heap) (n0 : Nat) (Z0 : n0 ≤ h0.size)  :
    MetFree l (⟨"com/example/marcotte/marcotte/XmlCharacters", "isAllowed", "(I)Z"⟩ : MethodName) (head1 (Jvm.Cond.code (⟨"com/example/marcotte/marcotte/XmlCharacters", "isAllowed", "(I)Z"⟩ : MethodName) prog_47_method_5_code 1 (some .boolean) :: ws) ({ frames := 0, cells := 0, slots := 0, locals := 0 } : Room)) (fun a U => a = #[(.int z)] ∧ Z.Warmed39 U.vm ∧ U.heap = h0) (fun _ _ _ _ _ => True) (fun _ U o U' => ∃ v L, o = .returned v ∧ Q1 Z z h0 n0 v U'.heap L ∧ FrameEnd U o U' L ({ frames := 0, cells := 0, slots := 0, locals := 0 } : Room).cells ({ frames := 0, cells := 0, slots := 0, locals := 0 } : Room).slots) := by
  refine MetFree.of_bodySF (plainFor_of_name pn_1) hisR ?_
  intro p e s m args below meth c s₁ Bd hml0 hP hK
  obtain ⟨rfl, hZ, hh⟩ := hP
  have hx := Bd.exec
  have hby := Bd.bytes
  have hml : c.maxLocals = 1 := hml0
  have hown : s.vm.findClass "com/example/marcotte/marcotte/XmlCharacters" = some m.cls := findClass_of_methodNamed Bd.named
  have hnm := (name_of_methodNamed Bd.named Bd.method).1
  have X0 : Stand p l e ({ frames := 0, cells := 0, slots := 0, locals := 0 } : Room) s m #[(.int z)] below meth c s₁ [] 0 0 := Stand.of_body Bd
  have e0 : s₁.heap = h0 := by rw [← hh, Bd.state]; rfl
  have N0 := Fr.nil n0
  have K0 : Keep h0 h0 [] := Keep.refl h0 _
  have pre0 : ∀ tq, Steps p.tables e below (s₁.setTop (mkF m 0 #[.val (.int z)] [])) tq → Steps p.tables e below (s₁.setTop (entryFrame m #[(.int z)] 1)) tq := fun tq kq => castTop (ef_1 m z) kq
  obtain ⟨m59, hm59⟩ : ∃ z_q : Int32, z_q = (if z = (9 : Int32) then (1 : Int32) else (if z = (10 : Int32) then (1 : Int32) else (if z = (13 : Int32) then (1 : Int32) else (if z < (32 : Int32) then (if (57343 : Int32) < z then (if z < (65534 : Int32) then (1 : Int32) else (if z < (65536 : Int32) then (0 : Int32) else (if (1114111 : Int32) < z then (0 : Int32) else (1 : Int32)))) else (if z < (65536 : Int32) then (0 : Int32) else (if (1114111 : Int32) < z then (0 : Int32) else (1 : Int32)))) else (if z < (55296 : Int32) then (1 : Int32) else (if (57343 : Int32) < z then (if z < (65534 : Int32) then (1 : Int32) else (if z < (65536 : Int32) then (0 : Int32) else (if (1114111 : Int32) < z then (0 : Int32) else (1 : Int32)))) else (if z < (65536 : Int32) then (0 : Int32) else (if (1114111 : Int32) < z then (0 : Int32) else (1 : Int32))))))))) := ⟨_, rfl⟩
  have pre18 : ∀ tq, Steps p.tables e below (s₁.setTop (mkF m 59 #[.val (.int z)] [(.int m59)])) tq → Steps p.tables e below (s₁.setTop (entryFrame m #[(.int z)] 1)) tq := by
    intro tq kt
    refine pre0 _ ?_
    show Steps p.tables e below (s₁.setTop (mkF m 0 #[.val (.int z)] [])) _
    refine XS.iloadN X0.here hx rfl (hb hby d1_0) rfl ?_
    show Steps p.tables e below (s₁.setTop (mkF m 1 #[.val (.int z)] [(.int z)])) _
    refine XS.bipush X0.here hx rfl (hb hby d1_1) ?_
    by_cases d1 : z = (9 : Int32)
    · skip
      show Steps p.tables e below (s₁.setTop (mkF m 3 #[.val (.int z)] [(.int (9 : Int32)), (.int z)])) _
      refine XS.icmpYes X0.here hx rfl (pc0 := 3) (pc' := 54) rfl (hb hby d1_3) rfl (teq d1).1 (by decide) (by decide) ?_
      show Steps p.tables e below (s₁.setTop (mkF m 54 #[.val (.int z)] [])) _
      refine XS.iconst X0.here hx rfl (hb hby d1_54) ?_
      show Steps p.tables e below (s₁.setTop (mkF m 55 #[.val (.int z)] [(.int (1 : Int32))])) _
      refine XS.goto X0.here hx rfl (pc0 := 55) (pc' := 59) rfl (hb hby d1_55) (by decide) (by decide) ?_
      show Steps p.tables e below (s₁.setTop (mkF m 59 #[.val (.int z)] [(.int (1 : Int32))])) _
      exact castTop (by simp only [hm59, if_pos d1]) kt
    · skip
      show Steps p.tables e below (s₁.setTop (mkF m 3 #[.val (.int z)] [(.int (9 : Int32)), (.int z)])) _
      refine XS.icmpNo X0.here hx rfl (hb hby d1_3) rfl (feq d1).1 ?_
      show Steps p.tables e below (s₁.setTop (mkF m 6 #[.val (.int z)] [])) _
      refine XS.iloadN X0.here hx rfl (hb hby d1_6) rfl ?_
      show Steps p.tables e below (s₁.setTop (mkF m 7 #[.val (.int z)] [(.int z)])) _
      refine XS.bipush X0.here hx rfl (hb hby d1_7) ?_
      by_cases d2 : z = (10 : Int32)
      · skip
        show Steps p.tables e below (s₁.setTop (mkF m 9 #[.val (.int z)] [(.int (10 : Int32)), (.int z)])) _
        refine XS.icmpYes X0.here hx rfl (pc0 := 9) (pc' := 54) rfl (hb hby d1_9) rfl (teq d2).1 (by decide) (by decide) ?_
        show Steps p.tables e below (s₁.setTop (mkF m 54 #[.val (.int z)] [])) _
        refine XS.iconst X0.here hx rfl (hb hby d1_54) ?_
        show Steps p.tables e below (s₁.setTop (mkF m 55 #[.val (.int z)] [(.int (1 : Int32))])) _
        refine XS.goto X0.here hx rfl (pc0 := 55) (pc' := 59) rfl (hb hby d1_55) (by decide) (by decide) ?_
        show Steps p.tables e below (s₁.setTop (mkF m 59 #[.val (.int z)] [(.int (1 : Int32))])) _
        exact castTop (by simp only [hm59, if_neg d1, if_pos d2]) kt
      · skip
        show Steps p.tables e below (s₁.setTop (mkF m 9 #[.val (.int z)] [(.int (10 : Int32)), (.int z)])) _
        refine XS.icmpNo X0.here hx rfl (hb hby d1_9) rfl (feq d2).1 ?_
        show Steps p.tables e below (s₁.setTop (mkF m 12 #[.val (.int z)] [])) _
        refine XS.iloadN X0.here hx rfl (hb hby d1_12) rfl ?_
        show Steps p.tables e below (s₁.setTop (mkF m 13 #[.val (.int z)] [(.int z)])) _
        refine XS.bipush X0.here hx rfl (hb hby d1_13) ?_
        by_cases d3 : z = (13 : Int32)
        · skip
          show Steps p.tables e below (s₁.setTop (mkF m 15 #[.val (.int z)] [(.int (13 : Int32)), (.int z)])) _
          refine XS.icmpYes X0.here hx rfl (pc0 := 15) (pc' := 54) rfl (hb hby d1_15) rfl (teq d3).1 (by decide) (by decide) ?_
          show Steps p.tables e below (s₁.setTop (mkF m 54 #[.val (.int z)] [])) _
          refine XS.iconst X0.here hx rfl (hb hby d1_54) ?_
          show Steps p.tables e below (s₁.setTop (mkF m 55 #[.val (.int z)] [(.int (1 : Int32))])) _
          refine XS.goto X0.here hx rfl (pc0 := 55) (pc' := 59) rfl (hb hby d1_55) (by decide) (by decide) ?_
          show Steps p.tables e below (s₁.setTop (mkF m 59 #[.val (.int z)] [(.int (1 : Int32))])) _
          exact castTop (by simp only [hm59, if_neg d1, if_neg d2, if_pos d3]) kt
        · skip
          show Steps p.tables e below (s₁.setTop (mkF m 15 #[.val (.int z)] [(.int (13 : Int32)), (.int z)])) _
          refine XS.icmpNo X0.here hx rfl (hb hby d1_15) rfl (feq d3).1 ?_
          show Steps p.tables e below (s₁.setTop (mkF m 18 #[.val (.int z)] [])) _
          refine XS.iloadN X0.here hx rfl (hb hby d1_18) rfl ?_
          show Steps p.tables e below (s₁.setTop (mkF m 19 #[.val (.int z)] [(.int z)])) _
          refine XS.bipush X0.here hx rfl (hb hby d1_19) ?_
          by_cases d4 : z < (32 : Int32)
          · skip
            show Steps p.tables e below (s₁.setTop (mkF m 21 #[.val (.int z)] [(.int (32 : Int32)), (.int z)])) _
            refine XS.icmpYes X0.here hx rfl (pc0 := 21) (pc' := 30) rfl (hb hby d1_21) rfl (tlt d4).1 (by decide) (by decide) ?_
            show Steps p.tables e below (s₁.setTop (mkF m 30 #[.val (.int z)] [])) _
            refine XS.iloadN X0.here hx rfl (hb hby d1_30) rfl ?_
            show Steps p.tables e below (s₁.setTop (mkF m 31 #[.val (.int z)] [(.int z)])) _
            refine X0.ldcInt hx hown (mvT hZ (hw _ (List.mem_of_getElem? (i := 14) rfl))) (g := (mkF m 31 #[.val (.int z)] [(.int z)])) rfl (hb hby d1_31) _ ?_
            by_cases d5 : (57343 : Int32) < z
            · skip
              show Steps p.tables e below (s₁.setTop (mkF m 33 #[.val (.int z)] [(.int (57343 : Int32)), (.int z)])) _
              refine XS.icmpNo X0.here hx rfl (hb hby d1_33) rfl (tlt d5).2.2.2 ?_
              show Steps p.tables e below (s₁.setTop (mkF m 36 #[.val (.int z)] [])) _
              refine XS.iloadN X0.here hx rfl (hb hby d1_36) rfl ?_
              show Steps p.tables e below (s₁.setTop (mkF m 37 #[.val (.int z)] [(.int z)])) _
              refine X0.ldcInt hx hown (mvT hZ (hw _ (List.mem_of_getElem? (i := 18) rfl))) (g := (mkF m 37 #[.val (.int z)] [(.int z)])) rfl (hb hby d1_37) _ ?_
              by_cases d6 : z < (65534 : Int32)
              · skip
                show Steps p.tables e below (s₁.setTop (mkF m 39 #[.val (.int z)] [(.int (65534 : Int32)), (.int z)])) _
                refine XS.icmpYes X0.here hx rfl (pc0 := 39) (pc' := 54) rfl (hb hby d1_39) rfl (tlt d6).1 (by decide) (by decide) ?_
                show Steps p.tables e below (s₁.setTop (mkF m 54 #[.val (.int z)] [])) _
                refine XS.iconst X0.here hx rfl (hb hby d1_54) ?_
                show Steps p.tables e below (s₁.setTop (mkF m 55 #[.val (.int z)] [(.int (1 : Int32))])) _
                refine XS.goto X0.here hx rfl (pc0 := 55) (pc' := 59) rfl (hb hby d1_55) (by decide) (by decide) ?_
                show Steps p.tables e below (s₁.setTop (mkF m 59 #[.val (.int z)] [(.int (1 : Int32))])) _
                exact castTop (by simp only [hm59, if_neg d1, if_neg d2, if_neg d3, if_pos d4, if_pos d5, if_pos d6]) kt
              · skip
                show Steps p.tables e below (s₁.setTop (mkF m 39 #[.val (.int z)] [(.int (65534 : Int32)), (.int z)])) _
                refine XS.icmpNo X0.here hx rfl (hb hby d1_39) rfl (flt d6).1 ?_
                show Steps p.tables e below (s₁.setTop (mkF m 42 #[.val (.int z)] [])) _
                refine XS.iloadN X0.here hx rfl (hb hby d1_42) rfl ?_
                show Steps p.tables e below (s₁.setTop (mkF m 43 #[.val (.int z)] [(.int z)])) _
                refine X0.ldcInt hx hown (mvT hZ (hw _ (List.mem_of_getElem? (i := 15) rfl))) (g := (mkF m 43 #[.val (.int z)] [(.int z)])) rfl (hb hby d1_43) _ ?_
                by_cases d7 : z < (65536 : Int32)
                · skip
                  show Steps p.tables e below (s₁.setTop (mkF m 45 #[.val (.int z)] [(.int (65536 : Int32)), (.int z)])) _
                  refine XS.icmpYes X0.here hx rfl (pc0 := 45) (pc' := 58) rfl (hb hby d1_45) rfl (tlt d7).1 (by decide) (by decide) ?_
                  show Steps p.tables e below (s₁.setTop (mkF m 58 #[.val (.int z)] [])) _
                  refine XS.iconst X0.here hx rfl (hb hby d1_58) ?_
                  show Steps p.tables e below (s₁.setTop (mkF m 59 #[.val (.int z)] [(.int (0 : Int32))])) _
                  exact castTop (by simp only [hm59, if_neg d1, if_neg d2, if_neg d3, if_pos d4, if_pos d5, if_neg d6, if_pos d7]) kt
                · skip
                  show Steps p.tables e below (s₁.setTop (mkF m 45 #[.val (.int z)] [(.int (65536 : Int32)), (.int z)])) _
                  refine XS.icmpNo X0.here hx rfl (hb hby d1_45) rfl (flt d7).1 ?_
                  show Steps p.tables e below (s₁.setTop (mkF m 48 #[.val (.int z)] [])) _
                  refine XS.iloadN X0.here hx rfl (hb hby d1_48) rfl ?_
                  show Steps p.tables e below (s₁.setTop (mkF m 49 #[.val (.int z)] [(.int z)])) _
                  refine X0.ldcInt hx hown (mvT hZ (hw _ (List.mem_of_getElem? (i := 19) rfl))) (g := (mkF m 49 #[.val (.int z)] [(.int z)])) rfl (hb hby d1_49) _ ?_
                  by_cases d8 : (1114111 : Int32) < z
                  · skip
                    show Steps p.tables e below (s₁.setTop (mkF m 51 #[.val (.int z)] [(.int (1114111 : Int32)), (.int z)])) _
                    refine XS.icmpYes X0.here hx rfl (pc0 := 51) (pc' := 58) rfl (hb hby d1_51) rfl (tlt d8).2.2.1 (by decide) (by decide) ?_
                    show Steps p.tables e below (s₁.setTop (mkF m 58 #[.val (.int z)] [])) _
                    refine XS.iconst X0.here hx rfl (hb hby d1_58) ?_
                    show Steps p.tables e below (s₁.setTop (mkF m 59 #[.val (.int z)] [(.int (0 : Int32))])) _
                    exact castTop (by simp only [hm59, if_neg d1, if_neg d2, if_neg d3, if_pos d4, if_pos d5, if_neg d6, if_neg d7, if_pos d8]) kt
                  · skip
                    show Steps p.tables e below (s₁.setTop (mkF m 51 #[.val (.int z)] [(.int (1114111 : Int32)), (.int z)])) _
                    refine XS.icmpNo X0.here hx rfl (hb hby d1_51) rfl (flt d8).2.2.1 ?_
                    show Steps p.tables e below (s₁.setTop (mkF m 54 #[.val (.int z)] [])) _
                    refine XS.iconst X0.here hx rfl (hb hby d1_54) ?_
                    show Steps p.tables e below (s₁.setTop (mkF m 55 #[.val (.int z)] [(.int (1 : Int32))])) _
                    refine XS.goto X0.here hx rfl (pc0 := 55) (pc' := 59) rfl (hb hby d1_55) (by decide) (by decide) ?_
                    show Steps p.tables e below (s₁.setTop (mkF m 59 #[.val (.int z)] [(.int (1 : Int32))])) _
                    exact castTop (by simp only [hm59, if_neg d1, if_neg d2, if_neg d3, if_pos d4, if_pos d5, if_neg d6, if_neg d7, if_neg d8]) kt
            · skip
              show Steps p.tables e below (s₁.setTop (mkF m 33 #[.val (.int z)] [(.int (57343 : Int32)), (.int z)])) _
              refine XS.icmpYes X0.here hx rfl (pc0 := 33) (pc' := 42) rfl (hb hby d1_33) rfl (flt d5).2.2.2 (by decide) (by decide) ?_
              show Steps p.tables e below (s₁.setTop (mkF m 42 #[.val (.int z)] [])) _
              refine XS.iloadN X0.here hx rfl (hb hby d1_42) rfl ?_
              show Steps p.tables e below (s₁.setTop (mkF m 43 #[.val (.int z)] [(.int z)])) _
              refine X0.ldcInt hx hown (mvT hZ (hw _ (List.mem_of_getElem? (i := 15) rfl))) (g := (mkF m 43 #[.val (.int z)] [(.int z)])) rfl (hb hby d1_43) _ ?_
              by_cases d9 : z < (65536 : Int32)
              · skip
                show Steps p.tables e below (s₁.setTop (mkF m 45 #[.val (.int z)] [(.int (65536 : Int32)), (.int z)])) _
                refine XS.icmpYes X0.here hx rfl (pc0 := 45) (pc' := 58) rfl (hb hby d1_45) rfl (tlt d9).1 (by decide) (by decide) ?_
                show Steps p.tables e below (s₁.setTop (mkF m 58 #[.val (.int z)] [])) _
                refine XS.iconst X0.here hx rfl (hb hby d1_58) ?_
                show Steps p.tables e below (s₁.setTop (mkF m 59 #[.val (.int z)] [(.int (0 : Int32))])) _
                exact castTop (by simp only [hm59, if_neg d1, if_neg d2, if_neg d3, if_pos d4, if_neg d5, if_pos d9]) kt
              · skip
                show Steps p.tables e below (s₁.setTop (mkF m 45 #[.val (.int z)] [(.int (65536 : Int32)), (.int z)])) _
                refine XS.icmpNo X0.here hx rfl (hb hby d1_45) rfl (flt d9).1 ?_
                show Steps p.tables e below (s₁.setTop (mkF m 48 #[.val (.int z)] [])) _
                refine XS.iloadN X0.here hx rfl (hb hby d1_48) rfl ?_
                show Steps p.tables e below (s₁.setTop (mkF m 49 #[.val (.int z)] [(.int z)])) _
                refine X0.ldcInt hx hown (mvT hZ (hw _ (List.mem_of_getElem? (i := 19) rfl))) (g := (mkF m 49 #[.val (.int z)] [(.int z)])) rfl (hb hby d1_49) _ ?_
                by_cases d10 : (1114111 : Int32) < z
                · skip
                  show Steps p.tables e below (s₁.setTop (mkF m 51 #[.val (.int z)] [(.int (1114111 : Int32)), (.int z)])) _
                  refine XS.icmpYes X0.here hx rfl (pc0 := 51) (pc' := 58) rfl (hb hby d1_51) rfl (tlt d10).2.2.1 (by decide) (by decide) ?_
                  show Steps p.tables e below (s₁.setTop (mkF m 58 #[.val (.int z)] [])) _
                  refine XS.iconst X0.here hx rfl (hb hby d1_58) ?_
                  show Steps p.tables e below (s₁.setTop (mkF m 59 #[.val (.int z)] [(.int (0 : Int32))])) _
                  exact castTop (by simp only [hm59, if_neg d1, if_neg d2, if_neg d3, if_pos d4, if_neg d5, if_neg d9, if_pos d10]) kt
                · skip
                  show Steps p.tables e below (s₁.setTop (mkF m 51 #[.val (.int z)] [(.int (1114111 : Int32)), (.int z)])) _
                  refine XS.icmpNo X0.here hx rfl (hb hby d1_51) rfl (flt d10).2.2.1 ?_
                  show Steps p.tables e below (s₁.setTop (mkF m 54 #[.val (.int z)] [])) _
                  refine XS.iconst X0.here hx rfl (hb hby d1_54) ?_
                  show Steps p.tables e below (s₁.setTop (mkF m 55 #[.val (.int z)] [(.int (1 : Int32))])) _
                  refine XS.goto X0.here hx rfl (pc0 := 55) (pc' := 59) rfl (hb hby d1_55) (by decide) (by decide) ?_
                  show Steps p.tables e below (s₁.setTop (mkF m 59 #[.val (.int z)] [(.int (1 : Int32))])) _
                  exact castTop (by simp only [hm59, if_neg d1, if_neg d2, if_neg d3, if_pos d4, if_neg d5, if_neg d9, if_neg d10]) kt
          · skip
            show Steps p.tables e below (s₁.setTop (mkF m 21 #[.val (.int z)] [(.int (32 : Int32)), (.int z)])) _
            refine XS.icmpNo X0.here hx rfl (hb hby d1_21) rfl (flt d4).1 ?_
            show Steps p.tables e below (s₁.setTop (mkF m 24 #[.val (.int z)] [])) _
            refine XS.iloadN X0.here hx rfl (hb hby d1_24) rfl ?_
            show Steps p.tables e below (s₁.setTop (mkF m 25 #[.val (.int z)] [(.int z)])) _
            refine X0.ldcInt hx hown (mvT hZ (hw _ (List.mem_of_getElem? (i := 17) rfl))) (g := (mkF m 25 #[.val (.int z)] [(.int z)])) rfl (hb hby d1_25) _ ?_
            by_cases d11 : z < (55296 : Int32)
            · skip
              show Steps p.tables e below (s₁.setTop (mkF m 27 #[.val (.int z)] [(.int (55296 : Int32)), (.int z)])) _
              refine XS.icmpYes X0.here hx rfl (pc0 := 27) (pc' := 54) rfl (hb hby d1_27) rfl (tlt d11).1 (by decide) (by decide) ?_
              show Steps p.tables e below (s₁.setTop (mkF m 54 #[.val (.int z)] [])) _
              refine XS.iconst X0.here hx rfl (hb hby d1_54) ?_
              show Steps p.tables e below (s₁.setTop (mkF m 55 #[.val (.int z)] [(.int (1 : Int32))])) _
              refine XS.goto X0.here hx rfl (pc0 := 55) (pc' := 59) rfl (hb hby d1_55) (by decide) (by decide) ?_
              show Steps p.tables e below (s₁.setTop (mkF m 59 #[.val (.int z)] [(.int (1 : Int32))])) _
              exact castTop (by simp only [hm59, if_neg d1, if_neg d2, if_neg d3, if_neg d4, if_pos d11]) kt
            · skip
              show Steps p.tables e below (s₁.setTop (mkF m 27 #[.val (.int z)] [(.int (55296 : Int32)), (.int z)])) _
              refine XS.icmpNo X0.here hx rfl (hb hby d1_27) rfl (flt d11).1 ?_
              show Steps p.tables e below (s₁.setTop (mkF m 30 #[.val (.int z)] [])) _
              refine XS.iloadN X0.here hx rfl (hb hby d1_30) rfl ?_
              show Steps p.tables e below (s₁.setTop (mkF m 31 #[.val (.int z)] [(.int z)])) _
              refine X0.ldcInt hx hown (mvT hZ (hw _ (List.mem_of_getElem? (i := 14) rfl))) (g := (mkF m 31 #[.val (.int z)] [(.int z)])) rfl (hb hby d1_31) _ ?_
              by_cases d12 : (57343 : Int32) < z
              · skip
                show Steps p.tables e below (s₁.setTop (mkF m 33 #[.val (.int z)] [(.int (57343 : Int32)), (.int z)])) _
                refine XS.icmpNo X0.here hx rfl (hb hby d1_33) rfl (tlt d12).2.2.2 ?_
                show Steps p.tables e below (s₁.setTop (mkF m 36 #[.val (.int z)] [])) _
                refine XS.iloadN X0.here hx rfl (hb hby d1_36) rfl ?_
                show Steps p.tables e below (s₁.setTop (mkF m 37 #[.val (.int z)] [(.int z)])) _
                refine X0.ldcInt hx hown (mvT hZ (hw _ (List.mem_of_getElem? (i := 18) rfl))) (g := (mkF m 37 #[.val (.int z)] [(.int z)])) rfl (hb hby d1_37) _ ?_
                by_cases d13 : z < (65534 : Int32)
                · skip
                  show Steps p.tables e below (s₁.setTop (mkF m 39 #[.val (.int z)] [(.int (65534 : Int32)), (.int z)])) _
                  refine XS.icmpYes X0.here hx rfl (pc0 := 39) (pc' := 54) rfl (hb hby d1_39) rfl (tlt d13).1 (by decide) (by decide) ?_
                  show Steps p.tables e below (s₁.setTop (mkF m 54 #[.val (.int z)] [])) _
                  refine XS.iconst X0.here hx rfl (hb hby d1_54) ?_
                  show Steps p.tables e below (s₁.setTop (mkF m 55 #[.val (.int z)] [(.int (1 : Int32))])) _
                  refine XS.goto X0.here hx rfl (pc0 := 55) (pc' := 59) rfl (hb hby d1_55) (by decide) (by decide) ?_
                  show Steps p.tables e below (s₁.setTop (mkF m 59 #[.val (.int z)] [(.int (1 : Int32))])) _
                  exact castTop (by simp only [hm59, if_neg d1, if_neg d2, if_neg d3, if_neg d4, if_neg d11, if_pos d12, if_pos d13]) kt
                · skip
                  show Steps p.tables e below (s₁.setTop (mkF m 39 #[.val (.int z)] [(.int (65534 : Int32)), (.int z)])) _
                  refine XS.icmpNo X0.here hx rfl (hb hby d1_39) rfl (flt d13).1 ?_
                  show Steps p.tables e below (s₁.setTop (mkF m 42 #[.val (.int z)] [])) _
                  refine XS.iloadN X0.here hx rfl (hb hby d1_42) rfl ?_
                  show Steps p.tables e below (s₁.setTop (mkF m 43 #[.val (.int z)] [(.int z)])) _
                  refine X0.ldcInt hx hown (mvT hZ (hw _ (List.mem_of_getElem? (i := 15) rfl))) (g := (mkF m 43 #[.val (.int z)] [(.int z)])) rfl (hb hby d1_43) _ ?_
                  by_cases d14 : z < (65536 : Int32)
                  · skip
                    show Steps p.tables e below (s₁.setTop (mkF m 45 #[.val (.int z)] [(.int (65536 : Int32)), (.int z)])) _
                    refine XS.icmpYes X0.here hx rfl (pc0 := 45) (pc' := 58) rfl (hb hby d1_45) rfl (tlt d14).1 (by decide) (by decide) ?_
                    show Steps p.tables e below (s₁.setTop (mkF m 58 #[.val (.int z)] [])) _
                    refine XS.iconst X0.here hx rfl (hb hby d1_58) ?_
                    show Steps p.tables e below (s₁.setTop (mkF m 59 #[.val (.int z)] [(.int (0 : Int32))])) _
                    exact castTop (by simp only [hm59, if_neg d1, if_neg d2, if_neg d3, if_neg d4, if_neg d11, if_pos d12, if_neg d13, if_pos d14]) kt
                  · skip
                    show Steps p.tables e below (s₁.setTop (mkF m 45 #[.val (.int z)] [(.int (65536 : Int32)), (.int z)])) _
                    refine XS.icmpNo X0.here hx rfl (hb hby d1_45) rfl (flt d14).1 ?_
                    show Steps p.tables e below (s₁.setTop (mkF m 48 #[.val (.int z)] [])) _
                    refine XS.iloadN X0.here hx rfl (hb hby d1_48) rfl ?_
                    show Steps p.tables e below (s₁.setTop (mkF m 49 #[.val (.int z)] [(.int z)])) _
                    refine X0.ldcInt hx hown (mvT hZ (hw _ (List.mem_of_getElem? (i := 19) rfl))) (g := (mkF m 49 #[.val (.int z)] [(.int z)])) rfl (hb hby d1_49) _ ?_
                    by_cases d15 : (1114111 : Int32) < z
                    · skip
                      show Steps p.tables e below (s₁.setTop (mkF m 51 #[.val (.int z)] [(.int (1114111 : Int32)), (.int z)])) _
                      refine XS.icmpYes X0.here hx rfl (pc0 := 51) (pc' := 58) rfl (hb hby d1_51) rfl (tlt d15).2.2.1 (by decide) (by decide) ?_
                      show Steps p.tables e below (s₁.setTop (mkF m 58 #[.val (.int z)] [])) _
                      refine XS.iconst X0.here hx rfl (hb hby d1_58) ?_
                      show Steps p.tables e below (s₁.setTop (mkF m 59 #[.val (.int z)] [(.int (0 : Int32))])) _
                      exact castTop (by simp only [hm59, if_neg d1, if_neg d2, if_neg d3, if_neg d4, if_neg d11, if_pos d12, if_neg d13, if_neg d14, if_pos d15]) kt
                    · skip
                      show Steps p.tables e below (s₁.setTop (mkF m 51 #[.val (.int z)] [(.int (1114111 : Int32)), (.int z)])) _
                      refine XS.icmpNo X0.here hx rfl (hb hby d1_51) rfl (flt d15).2.2.1 ?_
                      show Steps p.tables e below (s₁.setTop (mkF m 54 #[.val (.int z)] [])) _
                      refine XS.iconst X0.here hx rfl (hb hby d1_54) ?_
                      show Steps p.tables e below (s₁.setTop (mkF m 55 #[.val (.int z)] [(.int (1 : Int32))])) _
                      refine XS.goto X0.here hx rfl (pc0 := 55) (pc' := 59) rfl (hb hby d1_55) (by decide) (by decide) ?_
                      show Steps p.tables e below (s₁.setTop (mkF m 59 #[.val (.int z)] [(.int (1 : Int32))])) _
                      exact castTop (by simp only [hm59, if_neg d1, if_neg d2, if_neg d3, if_neg d4, if_neg d11, if_pos d12, if_neg d13, if_neg d14, if_neg d15]) kt
              · skip
                show Steps p.tables e below (s₁.setTop (mkF m 33 #[.val (.int z)] [(.int (57343 : Int32)), (.int z)])) _
                refine XS.icmpYes X0.here hx rfl (pc0 := 33) (pc' := 42) rfl (hb hby d1_33) rfl (flt d12).2.2.2 (by decide) (by decide) ?_
                show Steps p.tables e below (s₁.setTop (mkF m 42 #[.val (.int z)] [])) _
                refine XS.iloadN X0.here hx rfl (hb hby d1_42) rfl ?_
                show Steps p.tables e below (s₁.setTop (mkF m 43 #[.val (.int z)] [(.int z)])) _
                refine X0.ldcInt hx hown (mvT hZ (hw _ (List.mem_of_getElem? (i := 15) rfl))) (g := (mkF m 43 #[.val (.int z)] [(.int z)])) rfl (hb hby d1_43) _ ?_
                by_cases d16 : z < (65536 : Int32)
                · skip
                  show Steps p.tables e below (s₁.setTop (mkF m 45 #[.val (.int z)] [(.int (65536 : Int32)), (.int z)])) _
                  refine XS.icmpYes X0.here hx rfl (pc0 := 45) (pc' := 58) rfl (hb hby d1_45) rfl (tlt d16).1 (by decide) (by decide) ?_
                  show Steps p.tables e below (s₁.setTop (mkF m 58 #[.val (.int z)] [])) _
                  refine XS.iconst X0.here hx rfl (hb hby d1_58) ?_
                  show Steps p.tables e below (s₁.setTop (mkF m 59 #[.val (.int z)] [(.int (0 : Int32))])) _
                  exact castTop (by simp only [hm59, if_neg d1, if_neg d2, if_neg d3, if_neg d4, if_neg d11, if_neg d12, if_pos d16]) kt
                · skip
                  show Steps p.tables e below (s₁.setTop (mkF m 45 #[.val (.int z)] [(.int (65536 : Int32)), (.int z)])) _
                  refine XS.icmpNo X0.here hx rfl (hb hby d1_45) rfl (flt d16).1 ?_
                  show Steps p.tables e below (s₁.setTop (mkF m 48 #[.val (.int z)] [])) _
                  refine XS.iloadN X0.here hx rfl (hb hby d1_48) rfl ?_
                  show Steps p.tables e below (s₁.setTop (mkF m 49 #[.val (.int z)] [(.int z)])) _
                  refine X0.ldcInt hx hown (mvT hZ (hw _ (List.mem_of_getElem? (i := 19) rfl))) (g := (mkF m 49 #[.val (.int z)] [(.int z)])) rfl (hb hby d1_49) _ ?_
                  by_cases d17 : (1114111 : Int32) < z
                  · skip
                    show Steps p.tables e below (s₁.setTop (mkF m 51 #[.val (.int z)] [(.int (1114111 : Int32)), (.int z)])) _
                    refine XS.icmpYes X0.here hx rfl (pc0 := 51) (pc' := 58) rfl (hb hby d1_51) rfl (tlt d17).2.2.1 (by decide) (by decide) ?_
                    show Steps p.tables e below (s₁.setTop (mkF m 58 #[.val (.int z)] [])) _
                    refine XS.iconst X0.here hx rfl (hb hby d1_58) ?_
                    show Steps p.tables e below (s₁.setTop (mkF m 59 #[.val (.int z)] [(.int (0 : Int32))])) _
                    exact castTop (by simp only [hm59, if_neg d1, if_neg d2, if_neg d3, if_neg d4, if_neg d11, if_neg d12, if_neg d16, if_pos d17]) kt
                  · skip
                    show Steps p.tables e below (s₁.setTop (mkF m 51 #[.val (.int z)] [(.int (1114111 : Int32)), (.int z)])) _
                    refine XS.icmpNo X0.here hx rfl (hb hby d1_51) rfl (flt d17).2.2.1 ?_
                    show Steps p.tables e below (s₁.setTop (mkF m 54 #[.val (.int z)] [])) _
                    refine XS.iconst X0.here hx rfl (hb hby d1_54) ?_
                    show Steps p.tables e below (s₁.setTop (mkF m 55 #[.val (.int z)] [(.int (1 : Int32))])) _
                    refine XS.goto X0.here hx rfl (pc0 := 55) (pc' := 59) rfl (hb hby d1_55) (by decide) (by decide) ?_
                    show Steps p.tables e below (s₁.setTop (mkF m 59 #[.val (.int z)] [(.int (1 : Int32))])) _
                    exact castTop (by simp only [hm59, if_neg d1, if_neg d2, if_neg d3, if_neg d4, if_neg d11, if_neg d12, if_neg d16, if_neg d17]) kt
  obtain ⟨fs, hr, hrun, hended, hW, hsame⟩ := X0.leave (v := some (Value.int (nar .boolean m59))) (fun h => by rw [Bd.returns] at h; cases h)
  have hres19 : (nar .boolean m59) = (own_f1 z) := by subst_vars; rfl
  refine ⟨_, _, pre18 _ ?_, hrun, hended, _, _, rfl, ?_, ⟨_, rfl⟩, hW, hsame.mono (by decide) (by decide)⟩
  · skip
    show Steps p.tables e below (s₁.setTop (mkF m 59 #[.val (.int z)] [(.int m59)])) _
    exact retN X0 hx (t := .boolean) Bd.returns (by simp) (hb hby d1_59) hr
  · show Q1 Z z h0 n0 _ s₁.heap _
    rw [e0]
    exact ⟨congrArg (fun z => some (Value.int z)) hres19, N0, rfl⟩
def own_bad (x : Int32) : Int32 := (if x < (0 : Int32) then (1 : Int32) else (if x < (32 : Int32) then (if x = (9 : Int32) then (if x < (55296 : Int32) then (if x = (65534 : Int32) then (1 : Int32) else (if x = (65535 : Int32) then (1 : Int32) else (if (1114111 : Int32) < x then (1 : Int32) else (0 : Int32)))) else (if (57343 : Int32) < x then (if x = (65534 : Int32) then (1 : Int32) else (if x = (65535 : Int32) then (1 : Int32) else (if (1114111 : Int32) < x then (1 : Int32) else (0 : Int32)))) else (1 : Int32))) else (if x = (10 : Int32) then (if x < (55296 : Int32) then (if x = (65534 : Int32) then (1 : Int32) else (if x = (65535 : Int32) then (1 : Int32) else (if (1114111 : Int32) < x then (1 : Int32) else (0 : Int32)))) else (if (57343 : Int32) < x then (if x = (65534 : Int32) then (1 : Int32) else (if x = (65535 : Int32) then (1 : Int32) else (if (1114111 : Int32) < x then (1 : Int32) else (0 : Int32)))) else (1 : Int32))) else (if x = (13 : Int32) then (if x < (55296 : Int32) then (if x = (65534 : Int32) then (1 : Int32) else (if x = (65535 : Int32) then (1 : Int32) else (if (1114111 : Int32) < x then (1 : Int32) else (0 : Int32)))) else (if (57343 : Int32) < x then (if x = (65534 : Int32) then (1 : Int32) else (if x = (65535 : Int32) then (1 : Int32) else (if (1114111 : Int32) < x then (1 : Int32) else (0 : Int32)))) else (1 : Int32))) else (1 : Int32)))) else (if x < (55296 : Int32) then (if x = (65534 : Int32) then (1 : Int32) else (if x = (65535 : Int32) then (1 : Int32) else (if (1114111 : Int32) < x then (1 : Int32) else (0 : Int32)))) else (if (57343 : Int32) < x then (if x = (65534 : Int32) then (1 : Int32) else (if x = (65535 : Int32) then (1 : Int32) else (if (1114111 : Int32) < x then (1 : Int32) else (0 : Int32)))) else (1 : Int32)))))
theorem own_law (x : Int32) : nar .boolean (if own_f1 x = (if own_bad x = (0 : Int32) then (1 : Int32) else (0 : Int32)) then (1 : Int32) else (0 : Int32)) = 1 := by
  have heq : ∀ c : Int32, (x = c) = (x.toInt = c.toInt) := fun c => by rw [Int32.toInt_inj]
  have hlt : ∀ c : Int32, (x < c) = (x.toInt < c.toInt) := fun c => by rw [Int32.lt_iff_toInt_lt]
  have hgt : ∀ c : Int32, (c < x) = (c.toInt < x.toInt) := fun c => by rw [Int32.lt_iff_toInt_lt]
  have key : own_f1 x = (if own_bad x = (0 : Int32) then (1 : Int32) else (0 : Int32)) := by
    unfold own_f1 own_bad
    simp only [heq, hlt, hgt]
    have t0 : (0 : Int32).toInt = 0 := rfl
    have t9 : (9 : Int32).toInt = 9 := rfl
    have t10 : (10 : Int32).toInt = 10 := rfl
    have t13 : (13 : Int32).toInt = 13 := rfl
    have t32 : (32 : Int32).toInt = 32 := rfl
    have t1 : (55296 : Int32).toInt = 55296 := rfl
    have t2 : (57343 : Int32).toInt = 57343 := rfl
    have t3 : (65534 : Int32).toInt = 65534 := rfl
    have t4 : (65535 : Int32).toInt = 65535 := rfl
    have t5 : (65536 : Int32).toInt = 65536 := rfl
    have t6 : (1114111 : Int32).toInt = 1114111 := rfl
    rw [t0, t9, t10, t13, t32, t1, t2, t3, t4, t5, t6]
    generalize x.toInt = X
    have hX : X < 0 ∨ (0 ≤ X ∧ X < 9) ∨ X = 9 ∨ X = 10 ∨ (11 ≤ X ∧ X < 13) ∨ X = 13 ∨ (14 ≤ X ∧ X < 32) ∨ (32 ≤ X ∧ X < 55296) ∨ (55296 ≤ X ∧ X ≤ 57343) ∨ (57344 ≤ X ∧ X < 65534) ∨ X = 65534 ∨ X = 65535 ∨ (65536 ≤ X ∧ X ≤ 1114111) ∨ 1114111 < X := by omega
    rcases hX with h | h | h | h | h | h | h | h | h | h | h | h | h | h
    all_goals
      have c9 : X = 9 ∨ ¬ X = 9 := by omega
      have c10 : X = 10 ∨ ¬ X = 10 := by omega
      have c13 : X = 13 ∨ ¬ X = 13 := by omega
      have c32 : X < 32 ∨ ¬ X < 32 := by omega
      have c0 : X < 0 ∨ ¬ X < 0 := by omega
      have c1 : X < 55296 ∨ ¬ X < 55296 := by omega
      have c2 : 57343 < X ∨ ¬ 57343 < X := by omega
      have c3 : X < 65534 ∨ ¬ X < 65534 := by omega
      have c4 : X = 65534 ∨ ¬ X = 65534 := by omega
      have c5 : X = 65535 ∨ ¬ X = 65535 := by omega
      have c6 : X < 65536 ∨ ¬ X < 65536 := by omega
      have c7 : 1114111 < X ∨ ¬ 1114111 < X := by omega
      rcases c9 with c9 | c9 <;> first | omega | skip
      all_goals rcases c10 with c10 | c10 <;> first | omega | skip
      all_goals rcases c13 with c13 | c13 <;> first | omega | skip
      all_goals rcases c32 with c32 | c32 <;> first | omega | skip
      all_goals rcases c0 with c0 | c0 <;> first | omega | skip
      all_goals rcases c1 with c1 | c1 <;> first | omega | skip
      all_goals rcases c2 with c2 | c2 <;> first | omega | skip
      all_goals rcases c3 with c3 | c3 <;> first | omega | skip
      all_goals rcases c4 with c4 | c4 <;> first | omega | skip
      all_goals rcases c5 with c5 | c5 <;> first | omega | skip
      all_goals rcases c6 with c6 | c6 <;> first | omega | skip
      all_goals rcases c7 with c7 | c7 <;> first | omega | skip
      all_goals simp only [c9, c10, c13, c32, c0, c1, c2, c3, c4, c5, c6, c7, if_true, if_false]
      all_goals rfl
  rw [if_pos key]; rfl
theorem pn_0 : plainName "com/example/marcotte/marcotte/XmlCharactersIsAllowedPinLaw" = true := by first | (simp [plainName, overriddenIn]; done) | decide +kernel
theorem pd_0 : parseMethodDescriptor "(I)Z" = some ⟨[.int], some .boolean⟩ := by decide +kernel
theorem ef_0 (m : MethodId) (x0 : Int32) (x1 : Int32) (x2 : Int32) : entryFrame m #[(.int x0), (.int x1), (.int x2)] maxLocals = mkF m 0 #[.val (.int x0), .val (.int x1), .val (.int x2), .unset, .unset, .unset] [] := by first | (simp [entryFrame, mkF, argsToLocals, Value.category, maxLocals]; done) | rfl
theorem own_leaf_0_221_f (k1 : Int32) (k2 : Int32) (k3 : Int32) (hc99_70 : (k2 &&& (16 : Int32)) = (0 : Int32)) (m196 : Int32) (hm196 : m196 = (if k1 < (0 : Int32) then (1 : Int32) else (if k1 < (32 : Int32) then (if k1 = (9 : Int32) then (if k1 < (55296 : Int32) then (if k1 = (65534 : Int32) then (1 : Int32) else (if k1 = (65535 : Int32) then (1 : Int32) else (if (1114111 : Int32) < k1 then (1 : Int32) else (0 : Int32)))) else (if (57343 : Int32) < k1 then (if k1 = (65534 : Int32) then (1 : Int32) else (if k1 = (65535 : Int32) then (1 : Int32) else (if (1114111 : Int32) < k1 then (1 : Int32) else (0 : Int32)))) else (1 : Int32))) else (if k1 = (10 : Int32) then (if k1 < (55296 : Int32) then (if k1 = (65534 : Int32) then (1 : Int32) else (if k1 = (65535 : Int32) then (1 : Int32) else (if (1114111 : Int32) < k1 then (1 : Int32) else (0 : Int32)))) else (if (57343 : Int32) < k1 then (if k1 = (65534 : Int32) then (1 : Int32) else (if k1 = (65535 : Int32) then (1 : Int32) else (if (1114111 : Int32) < k1 then (1 : Int32) else (0 : Int32)))) else (1 : Int32))) else (if k1 = (13 : Int32) then (if k1 < (55296 : Int32) then (if k1 = (65534 : Int32) then (1 : Int32) else (if k1 = (65535 : Int32) then (1 : Int32) else (if (1114111 : Int32) < k1 then (1 : Int32) else (0 : Int32)))) else (if (57343 : Int32) < k1 then (if k1 = (65534 : Int32) then (1 : Int32) else (if k1 = (65535 : Int32) then (1 : Int32) else (if (1114111 : Int32) < k1 then (1 : Int32) else (0 : Int32)))) else (1 : Int32))) else (1 : Int32)))) else (if k1 < (55296 : Int32) then (if k1 = (65534 : Int32) then (1 : Int32) else (if k1 = (65535 : Int32) then (1 : Int32) else (if (1114111 : Int32) < k1 then (1 : Int32) else (0 : Int32)))) else (if (57343 : Int32) < k1 then (if k1 = (65534 : Int32) then (1 : Int32) else (if k1 = (65535 : Int32) then (1 : Int32) else (if (1114111 : Int32) < k1 then (1 : Int32) else (0 : Int32)))) else (1 : Int32)))))) (r200 : Int32) (hr200 : r200 = (own_f1 k1)) (m213 : Int32) (hm213 : m213 = (if m196 = (0 : Int32) then (1 : Int32) else (0 : Int32))) (m221 : Int32) (hm221 : m221 = (if r200 = m213 then (1 : Int32) else (0 : Int32))) : (nar .boolean m221) = (1 : Int32) := by
  subst hm221 hm213 hm196 hr200
  exact own_law _
theorem own_inb_0_113_t (k1 : Int32) (k2 : Int32) (k3 : Int32) (hc99_70 : ¬ ((k2 &&& (16 : Int32)) = (0 : Int32))) : ¬ (k2 &&& (15 : Int32)) < 0 ∧ (k2 &&& (15 : Int32)) < (16 : Int32) := own_inb15 k2
theorem own_load_0_113_t (k1 : Int32) (k2 : Int32) (k3 : Int32) (hc99_70 : ¬ ((k2 &&& (16 : Int32)) = (0 : Int32))) : ∃ z : Int32, ([(.int (0 : Int32)), (.int (9 : Int32)), (.int (10 : Int32)), (.int (13 : Int32)), (.int (32 : Int32)), (.int (127 : Int32)), (.int (128 : Int32)), (.int (55295 : Int32)), (.int (55296 : Int32)), (.int (57343 : Int32)), (.int (57344 : Int32)), (.int (65533 : Int32)), (.int (65535 : Int32)), (.int (65536 : Int32)), (.int (1114111 : Int32)), (.int (-2147483648 : Int32))] : List Value).getD ((k2 &&& (15 : Int32))).toNatClampNeg (.int (0 : Int32)) = .int z ∧ True := own_getD [0, 9, 10, 13, 32, 127, 128, 55295, 55296, 57343, 57344, 65533, 65535, 65536, 1114111, -2147483648] 0 _
theorem own_leaf_0_221_t (k1 : Int32) (k2 : Int32) (k3 : Int32) (hc99_70 : ¬ ((k2 &&& (16 : Int32)) = (0 : Int32))) (w113 : Int32) (hw113 : True) (v121 : Int32) (hv121 : v121 = (w113 + ((k3 &&& (7 : Int32)) - (4 : Int32)))) (m196 : Int32) (hm196 : m196 = (if v121 < (0 : Int32) then (1 : Int32) else (if v121 < (32 : Int32) then (if v121 = (9 : Int32) then (if v121 < (55296 : Int32) then (if v121 = (65534 : Int32) then (1 : Int32) else (if v121 = (65535 : Int32) then (1 : Int32) else (if (1114111 : Int32) < v121 then (1 : Int32) else (0 : Int32)))) else (if (57343 : Int32) < v121 then (if v121 = (65534 : Int32) then (1 : Int32) else (if v121 = (65535 : Int32) then (1 : Int32) else (if (1114111 : Int32) < v121 then (1 : Int32) else (0 : Int32)))) else (1 : Int32))) else (if v121 = (10 : Int32) then (if v121 < (55296 : Int32) then (if v121 = (65534 : Int32) then (1 : Int32) else (if v121 = (65535 : Int32) then (1 : Int32) else (if (1114111 : Int32) < v121 then (1 : Int32) else (0 : Int32)))) else (if (57343 : Int32) < v121 then (if v121 = (65534 : Int32) then (1 : Int32) else (if v121 = (65535 : Int32) then (1 : Int32) else (if (1114111 : Int32) < v121 then (1 : Int32) else (0 : Int32)))) else (1 : Int32))) else (if v121 = (13 : Int32) then (if v121 < (55296 : Int32) then (if v121 = (65534 : Int32) then (1 : Int32) else (if v121 = (65535 : Int32) then (1 : Int32) else (if (1114111 : Int32) < v121 then (1 : Int32) else (0 : Int32)))) else (if (57343 : Int32) < v121 then (if v121 = (65534 : Int32) then (1 : Int32) else (if v121 = (65535 : Int32) then (1 : Int32) else (if (1114111 : Int32) < v121 then (1 : Int32) else (0 : Int32)))) else (1 : Int32))) else (1 : Int32)))) else (if v121 < (55296 : Int32) then (if v121 = (65534 : Int32) then (1 : Int32) else (if v121 = (65535 : Int32) then (1 : Int32) else (if (1114111 : Int32) < v121 then (1 : Int32) else (0 : Int32)))) else (if (57343 : Int32) < v121 then (if v121 = (65534 : Int32) then (1 : Int32) else (if v121 = (65535 : Int32) then (1 : Int32) else (if (1114111 : Int32) < v121 then (1 : Int32) else (0 : Int32)))) else (1 : Int32)))))) (r200 : Int32) (hr200 : r200 = (own_f1 v121)) (m213 : Int32) (hm213 : m213 = (if m196 = (0 : Int32) then (1 : Int32) else (0 : Int32))) (m221 : Int32) (hm221 : m221 = (if r200 = m213 then (1 : Int32) else (0 : Int32))) : (nar .boolean m221) = (1 : Int32) := by
  subst hm221 hm213 hm196 hr200
  exact own_law _
def Q0 (Z : State) (k1 : Int32) (k2 : Int32) (k3 : Int32) (h0 : Heap) (n0 : Nat) (v : Option Value) (h : Heap) (L : List Loc) : Prop := v = some (.int (1 : Int32)) ∧ Fr n0 L
set_option maxRecDepth 65536 in
set_option maxHeartbeats 40000000 in
theorem rm0 (l : Launch) (Z : State) (a0 : Array Value) (hw : ∀ d ∈ tables_1, d.before a0 Z = true) (ws : List Jvm.Cond) (k1 : Int32) (k2 : Int32) (k3 : Int32) (h0 : Heap) (n0 : Nat) (Z0 : n0 ≤ h0.size)  :
    MetFree l x (head1 (Jvm.Cond.code x code maxLocals ret :: ws) room_1) (fun a U => a = #[(.int k1), (.int k2), (.int k3)] ∧ Z.Warmed39 U.vm ∧ U.heap = h0) (fun _ _ _ _ _ => True) (fun _ U o U' => ∃ v L, o = .returned v ∧ Q0 Z k1 k2 k3 h0 n0 v U'.heap L ∧ FrameEnd U o U' L room_1.cells room_1.slots) := by
  refine MetFree.of_bodySF (plainFor_of_name pn_0) hisR ?_
  intro p e s m args below meth c s₁ Bd hml0 hP hK
  obtain ⟨rfl, hZ, hh⟩ := hP
  have hx := Bd.exec
  have hby := Bd.bytes
  have hml : c.maxLocals = 6 := hml0
  have hown : s.vm.findClass "com/example/marcotte/marcotte/XmlCharactersIsAllowedPinLaw" = some m.cls := findClass_of_methodNamed Bd.named
  have hnm := (name_of_methodNamed Bd.named Bd.method).1
  have X0 : Stand p l e room_1 s m #[(.int k1), (.int k2), (.int k3)] below meth c s₁ [] 0 0 := Stand.of_body Bd
  have e0 : s₁.heap = h0 := by rw [← hh, Bd.state]; rfl
  have N0 := Fr.nil n0
  have K0 : Keep h0 h0 [] := Keep.refl h0 _
  have pre0 : ∀ tq, Steps p.tables e below (s₁.setTop (mkF m 0 #[.val (.int k1), .val (.int k2), .val (.int k3), .unset, .unset, .unset] [])) tq → Steps p.tables e below (s₁.setTop (entryFrame m #[(.int k1), (.int k2), (.int k3)] maxLocals)) tq := fun tq kq => castTop (ef_0 m k1 k2 k3) kq
  obtain ⟨T1, hX1, kx1, X1, e1, E1, A1, st1⟩ := newP X0 hx hZ (hw _ (List.mem_of_getElem? (i := 0) rfl)) e0 (g := (mkF m 2 #[.val (.int k1), .val (.int k2), .val (.int k3), .unset, .unset, .unset] [(.int (16 : Int32))])) rfl (hb hby at_2) rfl (by decide) (cap := 16) (by decide) (by decide) (by decide) (by decide)
  obtain ⟨b1, g1⟩ : ∃ z_q, z_q = h0.size := ⟨_, rfl⟩
  rw [← g1] at A1 st1
  have g_b1 : n0 ≤ b1 := Nat.le_trans Z0 (Nat.le_of_eq g1.symm)
  have sz_b1 : h0.size ≤ b1 := Nat.le_trans K0.1 (Nat.le_of_eq g1.symm)
  have Z2 : n0 ≤ hX1.size := Nat.le_trans Z0 E1.1
  have K3 : Keep h0 hX1 [] := K0.ext E1
  have F4 : Arv Z hX1 b1 kx1 .int (16 : Int32) [(.int (0 : Int32)), (.int (0 : Int32)), (.int (0 : Int32)), (.int (0 : Int32)), (.int (0 : Int32)), (.int (0 : Int32)), (.int (0 : Int32)), (.int (0 : Int32)), (.int (0 : Int32)), (.int (0 : Int32)), (.int (0 : Int32)), (.int (0 : Int32)), (.int (0 : Int32)), (.int (0 : Int32)), (.int (0 : Int32)), (.int (0 : Int32))] (.int (0 : Int32)) := (Arv.new A1 (by decide)).pad (pad_rep [] (.int (0 : Int32)) 16)
  obtain ⟨cl5, Ar5, q5, S5, M5, H5, G5⟩ := id F4
  have hin5 : ¬ ((0 : Int32) < 0 ∨ cl5.slots.size ≤ ((0 : Int32)).toNatClampNeg) := inb_of S5 ⟨by decide, by decide⟩
  obtain ⟨T5, hX5, X5, e5, W5, st5⟩ := stI X1 hx hZ e1 Ar5 (j := (0 : Int32)) hin5 (g := (mkF m 7 #[.val (.int k1), .val (.int k2), .val (.int k3), .unset, .unset, .unset] [(.int (0 : Int32)), (.int (0 : Int32)), (.ref b1), (.ref b1)])) rfl rfl (hb hby at_7)
  have F6 : Arv Z hX5 b1 kx1 .int (16 : Int32) [(.int (0 : Int32)), (.int (0 : Int32)), (.int (0 : Int32)), (.int (0 : Int32)), (.int (0 : Int32)), (.int (0 : Int32)), (.int (0 : Int32)), (.int (0 : Int32)), (.int (0 : Int32)), (.int (0 : Int32)), (.int (0 : Int32)), (.int (0 : Int32)), (.int (0 : Int32)), (.int (0 : Int32)), (.int (0 : Int32)), (.int (0 : Int32))] (.int (0 : Int32)) := Arv.set Ar5 q5 S5 M5 H5 G5 rfl W5 0 rfl (Nat.le_of_ble_eq_true rfl)
  have N5 := Fr.snoc X5 N0 g_b1
  have Z7 : n0 ≤ hX5.size := Nat.le_trans Z2 (Keep.of_wr W5).1
  have K8 : Keep h0 hX5 [] := K3.wr W5 (Or.inr sz_b1)
  obtain ⟨cl9, Ar9, q9, S9, M9, H9, G9⟩ := id F6
  have hin9 : ¬ ((1 : Int32) < 0 ∨ cl9.slots.size ≤ ((1 : Int32)).toNatClampNeg) := inb_of S9 ⟨by decide, by decide⟩
  obtain ⟨T9, hX9, X9, e9, W9, st9⟩ := stI X5 hx hZ e5 Ar9 (j := (1 : Int32)) hin9 (g := (mkF m 12 #[.val (.int k1), .val (.int k2), .val (.int k3), .unset, .unset, .unset] [(.int (9 : Int32)), (.int (1 : Int32)), (.ref b1), (.ref b1)])) rfl rfl (hb hby at_12)
  have F10 : Arv Z hX9 b1 kx1 .int (16 : Int32) [(.int (0 : Int32)), (.int (9 : Int32)), (.int (0 : Int32)), (.int (0 : Int32)), (.int (0 : Int32)), (.int (0 : Int32)), (.int (0 : Int32)), (.int (0 : Int32)), (.int (0 : Int32)), (.int (0 : Int32)), (.int (0 : Int32)), (.int (0 : Int32)), (.int (0 : Int32)), (.int (0 : Int32)), (.int (0 : Int32)), (.int (0 : Int32))] (.int (0 : Int32)) := Arv.set Ar9 q9 S9 M9 H9 G9 rfl W9 1 rfl (Nat.le_of_ble_eq_true rfl)
  have N9 := Fr.snoc X9 N5 g_b1
  have Z11 : n0 ≤ hX9.size := Nat.le_trans Z7 (Keep.of_wr W9).1
  have K12 : Keep h0 hX9 [] := K8.wr W9 (Or.inr sz_b1)
  obtain ⟨cl13, Ar13, q13, S13, M13, H13, G13⟩ := id F10
  have hin13 : ¬ ((2 : Int32) < 0 ∨ cl13.slots.size ≤ ((2 : Int32)).toNatClampNeg) := inb_of S13 ⟨by decide, by decide⟩
  obtain ⟨T13, hX13, X13, e13, W13, st13⟩ := stI X9 hx hZ e9 Ar13 (j := (2 : Int32)) hin13 (g := (mkF m 17 #[.val (.int k1), .val (.int k2), .val (.int k3), .unset, .unset, .unset] [(.int (10 : Int32)), (.int (2 : Int32)), (.ref b1), (.ref b1)])) rfl rfl (hb hby at_17)
  have F14 : Arv Z hX13 b1 kx1 .int (16 : Int32) [(.int (0 : Int32)), (.int (9 : Int32)), (.int (10 : Int32)), (.int (0 : Int32)), (.int (0 : Int32)), (.int (0 : Int32)), (.int (0 : Int32)), (.int (0 : Int32)), (.int (0 : Int32)), (.int (0 : Int32)), (.int (0 : Int32)), (.int (0 : Int32)), (.int (0 : Int32)), (.int (0 : Int32)), (.int (0 : Int32)), (.int (0 : Int32))] (.int (0 : Int32)) := Arv.set Ar13 q13 S13 M13 H13 G13 rfl W13 2 rfl (Nat.le_of_ble_eq_true rfl)
  have N13 := Fr.snoc X13 N9 g_b1
  have Z15 : n0 ≤ hX13.size := Nat.le_trans Z11 (Keep.of_wr W13).1
  have K16 : Keep h0 hX13 [] := K12.wr W13 (Or.inr sz_b1)
  obtain ⟨cl17, Ar17, q17, S17, M17, H17, G17⟩ := id F14
  have hin17 : ¬ ((3 : Int32) < 0 ∨ cl17.slots.size ≤ ((3 : Int32)).toNatClampNeg) := inb_of S17 ⟨by decide, by decide⟩
  obtain ⟨T17, hX17, X17, e17, W17, st17⟩ := stI X13 hx hZ e13 Ar17 (j := (3 : Int32)) hin17 (g := (mkF m 22 #[.val (.int k1), .val (.int k2), .val (.int k3), .unset, .unset, .unset] [(.int (13 : Int32)), (.int (3 : Int32)), (.ref b1), (.ref b1)])) rfl rfl (hb hby at_22)
  have F18 : Arv Z hX17 b1 kx1 .int (16 : Int32) [(.int (0 : Int32)), (.int (9 : Int32)), (.int (10 : Int32)), (.int (13 : Int32)), (.int (0 : Int32)), (.int (0 : Int32)), (.int (0 : Int32)), (.int (0 : Int32)), (.int (0 : Int32)), (.int (0 : Int32)), (.int (0 : Int32)), (.int (0 : Int32)), (.int (0 : Int32)), (.int (0 : Int32)), (.int (0 : Int32)), (.int (0 : Int32))] (.int (0 : Int32)) := Arv.set Ar17 q17 S17 M17 H17 G17 rfl W17 3 rfl (Nat.le_of_ble_eq_true rfl)
  have N17 := Fr.snoc X17 N13 g_b1
  have Z19 : n0 ≤ hX17.size := Nat.le_trans Z15 (Keep.of_wr W17).1
  have K20 : Keep h0 hX17 [] := K16.wr W17 (Or.inr sz_b1)
  obtain ⟨cl21, Ar21, q21, S21, M21, H21, G21⟩ := id F18
  have hin21 : ¬ ((4 : Int32) < 0 ∨ cl21.slots.size ≤ ((4 : Int32)).toNatClampNeg) := inb_of S21 ⟨by decide, by decide⟩
  obtain ⟨T21, hX21, X21, e21, W21, st21⟩ := stI X17 hx hZ e17 Ar21 (j := (4 : Int32)) hin21 (g := (mkF m 27 #[.val (.int k1), .val (.int k2), .val (.int k3), .unset, .unset, .unset] [(.int (32 : Int32)), (.int (4 : Int32)), (.ref b1), (.ref b1)])) rfl rfl (hb hby at_27)
  have F22 : Arv Z hX21 b1 kx1 .int (16 : Int32) [(.int (0 : Int32)), (.int (9 : Int32)), (.int (10 : Int32)), (.int (13 : Int32)), (.int (32 : Int32)), (.int (0 : Int32)), (.int (0 : Int32)), (.int (0 : Int32)), (.int (0 : Int32)), (.int (0 : Int32)), (.int (0 : Int32)), (.int (0 : Int32)), (.int (0 : Int32)), (.int (0 : Int32)), (.int (0 : Int32)), (.int (0 : Int32))] (.int (0 : Int32)) := Arv.set Ar21 q21 S21 M21 H21 G21 rfl W21 4 rfl (Nat.le_of_ble_eq_true rfl)
  have N21 := Fr.snoc X21 N17 g_b1
  have Z23 : n0 ≤ hX21.size := Nat.le_trans Z19 (Keep.of_wr W21).1
  have K24 : Keep h0 hX21 [] := K20.wr W21 (Or.inr sz_b1)
  obtain ⟨cl25, Ar25, q25, S25, M25, H25, G25⟩ := id F22
  have hin25 : ¬ ((5 : Int32) < 0 ∨ cl25.slots.size ≤ ((5 : Int32)).toNatClampNeg) := inb_of S25 ⟨by decide, by decide⟩
  obtain ⟨T25, hX25, X25, e25, W25, st25⟩ := stI X21 hx hZ e21 Ar25 (j := (5 : Int32)) hin25 (g := (mkF m 32 #[.val (.int k1), .val (.int k2), .val (.int k3), .unset, .unset, .unset] [(.int (127 : Int32)), (.int (5 : Int32)), (.ref b1), (.ref b1)])) rfl rfl (hb hby at_32)
  have F26 : Arv Z hX25 b1 kx1 .int (16 : Int32) [(.int (0 : Int32)), (.int (9 : Int32)), (.int (10 : Int32)), (.int (13 : Int32)), (.int (32 : Int32)), (.int (127 : Int32)), (.int (0 : Int32)), (.int (0 : Int32)), (.int (0 : Int32)), (.int (0 : Int32)), (.int (0 : Int32)), (.int (0 : Int32)), (.int (0 : Int32)), (.int (0 : Int32)), (.int (0 : Int32)), (.int (0 : Int32))] (.int (0 : Int32)) := Arv.set Ar25 q25 S25 M25 H25 G25 rfl W25 5 rfl (Nat.le_of_ble_eq_true rfl)
  have N25 := Fr.snoc X25 N21 g_b1
  have Z27 : n0 ≤ hX25.size := Nat.le_trans Z23 (Keep.of_wr W25).1
  have K28 : Keep h0 hX25 [] := K24.wr W25 (Or.inr sz_b1)
  obtain ⟨cl29, Ar29, q29, S29, M29, H29, G29⟩ := id F26
  have hin29 : ¬ ((6 : Int32) < 0 ∨ cl29.slots.size ≤ ((6 : Int32)).toNatClampNeg) := inb_of S29 ⟨by decide, by decide⟩
  obtain ⟨T29, hX29, X29, e29, W29, st29⟩ := stI X25 hx hZ e25 Ar29 (j := (6 : Int32)) hin29 (g := (mkF m 39 #[.val (.int k1), .val (.int k2), .val (.int k3), .unset, .unset, .unset] [(.int (128 : Int32)), (.int (6 : Int32)), (.ref b1), (.ref b1)])) rfl rfl (hb hby at_39)
  have F30 : Arv Z hX29 b1 kx1 .int (16 : Int32) [(.int (0 : Int32)), (.int (9 : Int32)), (.int (10 : Int32)), (.int (13 : Int32)), (.int (32 : Int32)), (.int (127 : Int32)), (.int (128 : Int32)), (.int (0 : Int32)), (.int (0 : Int32)), (.int (0 : Int32)), (.int (0 : Int32)), (.int (0 : Int32)), (.int (0 : Int32)), (.int (0 : Int32)), (.int (0 : Int32)), (.int (0 : Int32))] (.int (0 : Int32)) := Arv.set Ar29 q29 S29 M29 H29 G29 rfl W29 6 rfl (Nat.le_of_ble_eq_true rfl)
  have N29 := Fr.snoc X29 N25 g_b1
  have Z31 : n0 ≤ hX29.size := Nat.le_trans Z27 (Keep.of_wr W29).1
  have K32 : Keep h0 hX29 [] := K28.wr W29 (Or.inr sz_b1)
  obtain ⟨cl33, Ar33, q33, S33, M33, H33, G33⟩ := id F30
  have hin33 : ¬ ((7 : Int32) < 0 ∨ cl33.slots.size ≤ ((7 : Int32)).toNatClampNeg) := inb_of S33 ⟨by decide, by decide⟩
  obtain ⟨T33, hX33, X33, e33, W33, st33⟩ := stI X29 hx hZ e29 Ar33 (j := (7 : Int32)) hin33 (g := (mkF m 45 #[.val (.int k1), .val (.int k2), .val (.int k3), .unset, .unset, .unset] [(.int (55295 : Int32)), (.int (7 : Int32)), (.ref b1), (.ref b1)])) rfl rfl (hb hby at_45)
  have F34 : Arv Z hX33 b1 kx1 .int (16 : Int32) [(.int (0 : Int32)), (.int (9 : Int32)), (.int (10 : Int32)), (.int (13 : Int32)), (.int (32 : Int32)), (.int (127 : Int32)), (.int (128 : Int32)), (.int (55295 : Int32)), (.int (0 : Int32)), (.int (0 : Int32)), (.int (0 : Int32)), (.int (0 : Int32)), (.int (0 : Int32)), (.int (0 : Int32)), (.int (0 : Int32)), (.int (0 : Int32))] (.int (0 : Int32)) := Arv.set Ar33 q33 S33 M33 H33 G33 rfl W33 7 rfl (Nat.le_of_ble_eq_true rfl)
  have N33 := Fr.snoc X33 N29 g_b1
  have Z35 : n0 ≤ hX33.size := Nat.le_trans Z31 (Keep.of_wr W33).1
  have K36 : Keep h0 hX33 [] := K32.wr W33 (Or.inr sz_b1)
  obtain ⟨cl37, Ar37, q37, S37, M37, H37, G37⟩ := id F34
  have hin37 : ¬ ((8 : Int32) < 0 ∨ cl37.slots.size ≤ ((8 : Int32)).toNatClampNeg) := inb_of S37 ⟨by decide, by decide⟩
  obtain ⟨T37, hX37, X37, e37, W37, st37⟩ := stI X33 hx hZ e33 Ar37 (j := (8 : Int32)) hin37 (g := (mkF m 51 #[.val (.int k1), .val (.int k2), .val (.int k3), .unset, .unset, .unset] [(.int (55296 : Int32)), (.int (8 : Int32)), (.ref b1), (.ref b1)])) rfl rfl (hb hby at_51)
  have F38 : Arv Z hX37 b1 kx1 .int (16 : Int32) [(.int (0 : Int32)), (.int (9 : Int32)), (.int (10 : Int32)), (.int (13 : Int32)), (.int (32 : Int32)), (.int (127 : Int32)), (.int (128 : Int32)), (.int (55295 : Int32)), (.int (55296 : Int32)), (.int (0 : Int32)), (.int (0 : Int32)), (.int (0 : Int32)), (.int (0 : Int32)), (.int (0 : Int32)), (.int (0 : Int32)), (.int (0 : Int32))] (.int (0 : Int32)) := Arv.set Ar37 q37 S37 M37 H37 G37 rfl W37 8 rfl (Nat.le_of_ble_eq_true rfl)
  have N37 := Fr.snoc X37 N33 g_b1
  have Z39 : n0 ≤ hX37.size := Nat.le_trans Z35 (Keep.of_wr W37).1
  have K40 : Keep h0 hX37 [] := K36.wr W37 (Or.inr sz_b1)
  obtain ⟨cl41, Ar41, q41, S41, M41, H41, G41⟩ := id F38
  have hin41 : ¬ ((9 : Int32) < 0 ∨ cl41.slots.size ≤ ((9 : Int32)).toNatClampNeg) := inb_of S41 ⟨by decide, by decide⟩
  obtain ⟨T41, hX41, X41, e41, W41, st41⟩ := stI X37 hx hZ e37 Ar41 (j := (9 : Int32)) hin41 (g := (mkF m 57 #[.val (.int k1), .val (.int k2), .val (.int k3), .unset, .unset, .unset] [(.int (57343 : Int32)), (.int (9 : Int32)), (.ref b1), (.ref b1)])) rfl rfl (hb hby at_57)
  have F42 : Arv Z hX41 b1 kx1 .int (16 : Int32) [(.int (0 : Int32)), (.int (9 : Int32)), (.int (10 : Int32)), (.int (13 : Int32)), (.int (32 : Int32)), (.int (127 : Int32)), (.int (128 : Int32)), (.int (55295 : Int32)), (.int (55296 : Int32)), (.int (57343 : Int32)), (.int (0 : Int32)), (.int (0 : Int32)), (.int (0 : Int32)), (.int (0 : Int32)), (.int (0 : Int32)), (.int (0 : Int32))] (.int (0 : Int32)) := Arv.set Ar41 q41 S41 M41 H41 G41 rfl W41 9 rfl (Nat.le_of_ble_eq_true rfl)
  have N41 := Fr.snoc X41 N37 g_b1
  have Z43 : n0 ≤ hX41.size := Nat.le_trans Z39 (Keep.of_wr W41).1
  have K44 : Keep h0 hX41 [] := K40.wr W41 (Or.inr sz_b1)
  obtain ⟨cl45, Ar45, q45, S45, M45, H45, G45⟩ := id F42
  have hin45 : ¬ ((10 : Int32) < 0 ∨ cl45.slots.size ≤ ((10 : Int32)).toNatClampNeg) := inb_of S45 ⟨by decide, by decide⟩
  obtain ⟨T45, hX45, X45, e45, W45, st45⟩ := stI X41 hx hZ e41 Ar45 (j := (10 : Int32)) hin45 (g := (mkF m 63 #[.val (.int k1), .val (.int k2), .val (.int k3), .unset, .unset, .unset] [(.int (57344 : Int32)), (.int (10 : Int32)), (.ref b1), (.ref b1)])) rfl rfl (hb hby at_63)
  have F46 : Arv Z hX45 b1 kx1 .int (16 : Int32) [(.int (0 : Int32)), (.int (9 : Int32)), (.int (10 : Int32)), (.int (13 : Int32)), (.int (32 : Int32)), (.int (127 : Int32)), (.int (128 : Int32)), (.int (55295 : Int32)), (.int (55296 : Int32)), (.int (57343 : Int32)), (.int (57344 : Int32)), (.int (0 : Int32)), (.int (0 : Int32)), (.int (0 : Int32)), (.int (0 : Int32)), (.int (0 : Int32))] (.int (0 : Int32)) := Arv.set Ar45 q45 S45 M45 H45 G45 rfl W45 10 rfl (Nat.le_of_ble_eq_true rfl)
  have N45 := Fr.snoc X45 N41 g_b1
  have Z47 : n0 ≤ hX45.size := Nat.le_trans Z43 (Keep.of_wr W45).1
  have K48 : Keep h0 hX45 [] := K44.wr W45 (Or.inr sz_b1)
  obtain ⟨cl49, Ar49, q49, S49, M49, H49, G49⟩ := id F46
  have hin49 : ¬ ((11 : Int32) < 0 ∨ cl49.slots.size ≤ ((11 : Int32)).toNatClampNeg) := inb_of S49 ⟨by decide, by decide⟩
  obtain ⟨T49, hX49, X49, e49, W49, st49⟩ := stI X45 hx hZ e45 Ar49 (j := (11 : Int32)) hin49 (g := (mkF m 69 #[.val (.int k1), .val (.int k2), .val (.int k3), .unset, .unset, .unset] [(.int (65533 : Int32)), (.int (11 : Int32)), (.ref b1), (.ref b1)])) rfl rfl (hb hby at_69)
  have F50 : Arv Z hX49 b1 kx1 .int (16 : Int32) [(.int (0 : Int32)), (.int (9 : Int32)), (.int (10 : Int32)), (.int (13 : Int32)), (.int (32 : Int32)), (.int (127 : Int32)), (.int (128 : Int32)), (.int (55295 : Int32)), (.int (55296 : Int32)), (.int (57343 : Int32)), (.int (57344 : Int32)), (.int (65533 : Int32)), (.int (0 : Int32)), (.int (0 : Int32)), (.int (0 : Int32)), (.int (0 : Int32))] (.int (0 : Int32)) := Arv.set Ar49 q49 S49 M49 H49 G49 rfl W49 11 rfl (Nat.le_of_ble_eq_true rfl)
  have N49 := Fr.snoc X49 N45 g_b1
  have Z51 : n0 ≤ hX49.size := Nat.le_trans Z47 (Keep.of_wr W49).1
  have K52 : Keep h0 hX49 [] := K48.wr W49 (Or.inr sz_b1)
  obtain ⟨cl53, Ar53, q53, S53, M53, H53, G53⟩ := id F50
  have hin53 : ¬ ((12 : Int32) < 0 ∨ cl53.slots.size ≤ ((12 : Int32)).toNatClampNeg) := inb_of S53 ⟨by decide, by decide⟩
  obtain ⟨T53, hX53, X53, e53, W53, st53⟩ := stI X49 hx hZ e49 Ar53 (j := (12 : Int32)) hin53 (g := (mkF m 75 #[.val (.int k1), .val (.int k2), .val (.int k3), .unset, .unset, .unset] [(.int (65535 : Int32)), (.int (12 : Int32)), (.ref b1), (.ref b1)])) rfl rfl (hb hby at_75)
  have F54 : Arv Z hX53 b1 kx1 .int (16 : Int32) [(.int (0 : Int32)), (.int (9 : Int32)), (.int (10 : Int32)), (.int (13 : Int32)), (.int (32 : Int32)), (.int (127 : Int32)), (.int (128 : Int32)), (.int (55295 : Int32)), (.int (55296 : Int32)), (.int (57343 : Int32)), (.int (57344 : Int32)), (.int (65533 : Int32)), (.int (65535 : Int32)), (.int (0 : Int32)), (.int (0 : Int32)), (.int (0 : Int32))] (.int (0 : Int32)) := Arv.set Ar53 q53 S53 M53 H53 G53 rfl W53 12 rfl (Nat.le_of_ble_eq_true rfl)
  have N53 := Fr.snoc X53 N49 g_b1
  have Z55 : n0 ≤ hX53.size := Nat.le_trans Z51 (Keep.of_wr W53).1
  have K56 : Keep h0 hX53 [] := K52.wr W53 (Or.inr sz_b1)
  obtain ⟨cl57, Ar57, q57, S57, M57, H57, G57⟩ := id F54
  have hin57 : ¬ ((13 : Int32) < 0 ∨ cl57.slots.size ≤ ((13 : Int32)).toNatClampNeg) := inb_of S57 ⟨by decide, by decide⟩
  obtain ⟨T57, hX57, X57, e57, W57, st57⟩ := stI X53 hx hZ e53 Ar57 (j := (13 : Int32)) hin57 (g := (mkF m 81 #[.val (.int k1), .val (.int k2), .val (.int k3), .unset, .unset, .unset] [(.int (65536 : Int32)), (.int (13 : Int32)), (.ref b1), (.ref b1)])) rfl rfl (hb hby at_81)
  have F58 : Arv Z hX57 b1 kx1 .int (16 : Int32) [(.int (0 : Int32)), (.int (9 : Int32)), (.int (10 : Int32)), (.int (13 : Int32)), (.int (32 : Int32)), (.int (127 : Int32)), (.int (128 : Int32)), (.int (55295 : Int32)), (.int (55296 : Int32)), (.int (57343 : Int32)), (.int (57344 : Int32)), (.int (65533 : Int32)), (.int (65535 : Int32)), (.int (65536 : Int32)), (.int (0 : Int32)), (.int (0 : Int32))] (.int (0 : Int32)) := Arv.set Ar57 q57 S57 M57 H57 G57 rfl W57 13 rfl (Nat.le_of_ble_eq_true rfl)
  have N57 := Fr.snoc X57 N53 g_b1
  have Z59 : n0 ≤ hX57.size := Nat.le_trans Z55 (Keep.of_wr W57).1
  have K60 : Keep h0 hX57 [] := K56.wr W57 (Or.inr sz_b1)
  obtain ⟨cl61, Ar61, q61, S61, M61, H61, G61⟩ := id F58
  have hin61 : ¬ ((14 : Int32) < 0 ∨ cl61.slots.size ≤ ((14 : Int32)).toNatClampNeg) := inb_of S61 ⟨by decide, by decide⟩
  obtain ⟨T61, hX61, X61, e61, W61, st61⟩ := stI X57 hx hZ e57 Ar61 (j := (14 : Int32)) hin61 (g := (mkF m 87 #[.val (.int k1), .val (.int k2), .val (.int k3), .unset, .unset, .unset] [(.int (1114111 : Int32)), (.int (14 : Int32)), (.ref b1), (.ref b1)])) rfl rfl (hb hby at_87)
  have F62 : Arv Z hX61 b1 kx1 .int (16 : Int32) [(.int (0 : Int32)), (.int (9 : Int32)), (.int (10 : Int32)), (.int (13 : Int32)), (.int (32 : Int32)), (.int (127 : Int32)), (.int (128 : Int32)), (.int (55295 : Int32)), (.int (55296 : Int32)), (.int (57343 : Int32)), (.int (57344 : Int32)), (.int (65533 : Int32)), (.int (65535 : Int32)), (.int (65536 : Int32)), (.int (1114111 : Int32)), (.int (0 : Int32))] (.int (0 : Int32)) := Arv.set Ar61 q61 S61 M61 H61 G61 rfl W61 14 rfl (Nat.le_of_ble_eq_true rfl)
  have N61 := Fr.snoc X61 N57 g_b1
  have Z63 : n0 ≤ hX61.size := Nat.le_trans Z59 (Keep.of_wr W61).1
  have K64 : Keep h0 hX61 [] := K60.wr W61 (Or.inr sz_b1)
  obtain ⟨cl65, Ar65, q65, S65, M65, H65, G65⟩ := id F62
  have hin65 : ¬ ((15 : Int32) < 0 ∨ cl65.slots.size ≤ ((15 : Int32)).toNatClampNeg) := inb_of S65 ⟨by decide, by decide⟩
  obtain ⟨T65, hX65, X65, e65, W65, st65⟩ := stI X61 hx hZ e61 Ar65 (j := (15 : Int32)) hin65 (g := (mkF m 93 #[.val (.int k1), .val (.int k2), .val (.int k3), .unset, .unset, .unset] [(.int (-2147483648 : Int32)), (.int (15 : Int32)), (.ref b1), (.ref b1)])) rfl rfl (hb hby at_93)
  have F66 : Arv Z hX65 b1 kx1 .int (16 : Int32) [(.int (0 : Int32)), (.int (9 : Int32)), (.int (10 : Int32)), (.int (13 : Int32)), (.int (32 : Int32)), (.int (127 : Int32)), (.int (128 : Int32)), (.int (55295 : Int32)), (.int (55296 : Int32)), (.int (57343 : Int32)), (.int (57344 : Int32)), (.int (65533 : Int32)), (.int (65535 : Int32)), (.int (65536 : Int32)), (.int (1114111 : Int32)), (.int (-2147483648 : Int32))] (.int (0 : Int32)) := Arv.set Ar65 q65 S65 M65 H65 G65 rfl W65 15 rfl (Nat.le_of_ble_eq_true rfl)
  have N65 := Fr.snoc X65 N61 g_b1
  have Z67 : n0 ≤ hX65.size := Nat.le_trans Z63 (Keep.of_wr W65).1
  have K68 : Keep h0 hX65 [] := K64.wr W65 (Or.inr sz_b1)
  have pre69 : ∀ tq, Steps p.tables e below (T65.setTop (mkF m 99 #[.val (.int k1), .val (.int k2), .val (.int k3), .val (.ref b1), .unset, .unset] [(.int (k2 &&& (16 : Int32)))])) tq → Steps p.tables e below (s₁.setTop (entryFrame m #[(.int k1), (.int k2), (.int k3)] maxLocals)) tq := by
    intro tq kt
    refine pre0 _ ?_
    show Steps p.tables e below (s₁.setTop (mkF m 0 #[.val (.int k1), .val (.int k2), .val (.int k3), .unset, .unset, .unset] [])) _
    refine XS.bipush X0.here hx rfl (hb hby at_0) ?_
    show Steps p.tables e below (s₁.setTop (mkF m 2 #[.val (.int k1), .val (.int k2), .val (.int k3), .unset, .unset, .unset] [(.int (16 : Int32))])) _
    refine st1 _ ?_
    show Steps p.tables e below (T1.setTop (mkF m 4 #[.val (.int k1), .val (.int k2), .val (.int k3), .unset, .unset, .unset] [(.ref b1)])) _
    refine XS.dup X1.here hx rfl (hb hby at_4) rfl rfl ?_
    show Steps p.tables e below (T1.setTop (mkF m 5 #[.val (.int k1), .val (.int k2), .val (.int k3), .unset, .unset, .unset] [(.ref b1), (.ref b1)])) _
    refine XS.iconst X1.here hx rfl (hb hby at_5) ?_
    show Steps p.tables e below (T1.setTop (mkF m 6 #[.val (.int k1), .val (.int k2), .val (.int k3), .unset, .unset, .unset] [(.int (0 : Int32)), (.ref b1), (.ref b1)])) _
    refine XS.iconst X1.here hx rfl (hb hby at_6) ?_
    show Steps p.tables e below (T1.setTop (mkF m 7 #[.val (.int k1), .val (.int k2), .val (.int k3), .unset, .unset, .unset] [(.int (0 : Int32)), (.int (0 : Int32)), (.ref b1), (.ref b1)])) _
    refine st5 _ ?_
    show Steps p.tables e below (T5.setTop (mkF m 8 #[.val (.int k1), .val (.int k2), .val (.int k3), .unset, .unset, .unset] [(.ref b1)])) _
    refine XS.dup X5.here hx rfl (hb hby at_8) rfl rfl ?_
    show Steps p.tables e below (T5.setTop (mkF m 9 #[.val (.int k1), .val (.int k2), .val (.int k3), .unset, .unset, .unset] [(.ref b1), (.ref b1)])) _
    refine XS.iconst X5.here hx rfl (hb hby at_9) ?_
    show Steps p.tables e below (T5.setTop (mkF m 10 #[.val (.int k1), .val (.int k2), .val (.int k3), .unset, .unset, .unset] [(.int (1 : Int32)), (.ref b1), (.ref b1)])) _
    refine XS.bipush X5.here hx rfl (hb hby at_10) ?_
    show Steps p.tables e below (T5.setTop (mkF m 12 #[.val (.int k1), .val (.int k2), .val (.int k3), .unset, .unset, .unset] [(.int (9 : Int32)), (.int (1 : Int32)), (.ref b1), (.ref b1)])) _
    refine st9 _ ?_
    show Steps p.tables e below (T9.setTop (mkF m 13 #[.val (.int k1), .val (.int k2), .val (.int k3), .unset, .unset, .unset] [(.ref b1)])) _
    refine XS.dup X9.here hx rfl (hb hby at_13) rfl rfl ?_
    show Steps p.tables e below (T9.setTop (mkF m 14 #[.val (.int k1), .val (.int k2), .val (.int k3), .unset, .unset, .unset] [(.ref b1), (.ref b1)])) _
    refine XS.iconst X9.here hx rfl (hb hby at_14) ?_
    show Steps p.tables e below (T9.setTop (mkF m 15 #[.val (.int k1), .val (.int k2), .val (.int k3), .unset, .unset, .unset] [(.int (2 : Int32)), (.ref b1), (.ref b1)])) _
    refine XS.bipush X9.here hx rfl (hb hby at_15) ?_
    show Steps p.tables e below (T9.setTop (mkF m 17 #[.val (.int k1), .val (.int k2), .val (.int k3), .unset, .unset, .unset] [(.int (10 : Int32)), (.int (2 : Int32)), (.ref b1), (.ref b1)])) _
    refine st13 _ ?_
    show Steps p.tables e below (T13.setTop (mkF m 18 #[.val (.int k1), .val (.int k2), .val (.int k3), .unset, .unset, .unset] [(.ref b1)])) _
    refine XS.dup X13.here hx rfl (hb hby at_18) rfl rfl ?_
    show Steps p.tables e below (T13.setTop (mkF m 19 #[.val (.int k1), .val (.int k2), .val (.int k3), .unset, .unset, .unset] [(.ref b1), (.ref b1)])) _
    refine XS.iconst X13.here hx rfl (hb hby at_19) ?_
    show Steps p.tables e below (T13.setTop (mkF m 20 #[.val (.int k1), .val (.int k2), .val (.int k3), .unset, .unset, .unset] [(.int (3 : Int32)), (.ref b1), (.ref b1)])) _
    refine XS.bipush X13.here hx rfl (hb hby at_20) ?_
    show Steps p.tables e below (T13.setTop (mkF m 22 #[.val (.int k1), .val (.int k2), .val (.int k3), .unset, .unset, .unset] [(.int (13 : Int32)), (.int (3 : Int32)), (.ref b1), (.ref b1)])) _
    refine st17 _ ?_
    show Steps p.tables e below (T17.setTop (mkF m 23 #[.val (.int k1), .val (.int k2), .val (.int k3), .unset, .unset, .unset] [(.ref b1)])) _
    refine XS.dup X17.here hx rfl (hb hby at_23) rfl rfl ?_
    show Steps p.tables e below (T17.setTop (mkF m 24 #[.val (.int k1), .val (.int k2), .val (.int k3), .unset, .unset, .unset] [(.ref b1), (.ref b1)])) _
    refine XS.iconst X17.here hx rfl (hb hby at_24) ?_
    show Steps p.tables e below (T17.setTop (mkF m 25 #[.val (.int k1), .val (.int k2), .val (.int k3), .unset, .unset, .unset] [(.int (4 : Int32)), (.ref b1), (.ref b1)])) _
    refine XS.bipush X17.here hx rfl (hb hby at_25) ?_
    show Steps p.tables e below (T17.setTop (mkF m 27 #[.val (.int k1), .val (.int k2), .val (.int k3), .unset, .unset, .unset] [(.int (32 : Int32)), (.int (4 : Int32)), (.ref b1), (.ref b1)])) _
    refine st21 _ ?_
    show Steps p.tables e below (T21.setTop (mkF m 28 #[.val (.int k1), .val (.int k2), .val (.int k3), .unset, .unset, .unset] [(.ref b1)])) _
    refine XS.dup X21.here hx rfl (hb hby at_28) rfl rfl ?_
    show Steps p.tables e below (T21.setTop (mkF m 29 #[.val (.int k1), .val (.int k2), .val (.int k3), .unset, .unset, .unset] [(.ref b1), (.ref b1)])) _
    refine XS.iconst X21.here hx rfl (hb hby at_29) ?_
    show Steps p.tables e below (T21.setTop (mkF m 30 #[.val (.int k1), .val (.int k2), .val (.int k3), .unset, .unset, .unset] [(.int (5 : Int32)), (.ref b1), (.ref b1)])) _
    refine XS.bipush X21.here hx rfl (hb hby at_30) ?_
    show Steps p.tables e below (T21.setTop (mkF m 32 #[.val (.int k1), .val (.int k2), .val (.int k3), .unset, .unset, .unset] [(.int (127 : Int32)), (.int (5 : Int32)), (.ref b1), (.ref b1)])) _
    refine st25 _ ?_
    show Steps p.tables e below (T25.setTop (mkF m 33 #[.val (.int k1), .val (.int k2), .val (.int k3), .unset, .unset, .unset] [(.ref b1)])) _
    refine XS.dup X25.here hx rfl (hb hby at_33) rfl rfl ?_
    show Steps p.tables e below (T25.setTop (mkF m 34 #[.val (.int k1), .val (.int k2), .val (.int k3), .unset, .unset, .unset] [(.ref b1), (.ref b1)])) _
    refine XS.bipush X25.here hx rfl (hb hby at_34) ?_
    show Steps p.tables e below (T25.setTop (mkF m 36 #[.val (.int k1), .val (.int k2), .val (.int k3), .unset, .unset, .unset] [(.int (6 : Int32)), (.ref b1), (.ref b1)])) _
    refine XS.sipush X25.here hx rfl (hb hby at_36) ?_
    show Steps p.tables e below (T25.setTop (mkF m 39 #[.val (.int k1), .val (.int k2), .val (.int k3), .unset, .unset, .unset] [(.int (128 : Int32)), (.int (6 : Int32)), (.ref b1), (.ref b1)])) _
    refine st29 _ ?_
    show Steps p.tables e below (T29.setTop (mkF m 40 #[.val (.int k1), .val (.int k2), .val (.int k3), .unset, .unset, .unset] [(.ref b1)])) _
    refine XS.dup X29.here hx rfl (hb hby at_40) rfl rfl ?_
    show Steps p.tables e below (T29.setTop (mkF m 41 #[.val (.int k1), .val (.int k2), .val (.int k3), .unset, .unset, .unset] [(.ref b1), (.ref b1)])) _
    refine XS.bipush X29.here hx rfl (hb hby at_41) ?_
    show Steps p.tables e below (T29.setTop (mkF m 43 #[.val (.int k1), .val (.int k2), .val (.int k3), .unset, .unset, .unset] [(.int (7 : Int32)), (.ref b1), (.ref b1)])) _
    refine X29.ldcInt hx hown (mvT hZ (hw _ (List.mem_of_getElem? (i := 1) rfl))) (g := (mkF m 43 #[.val (.int k1), .val (.int k2), .val (.int k3), .unset, .unset, .unset] [(.int (7 : Int32)), (.ref b1), (.ref b1)])) rfl (hb hby at_43) _ ?_
    show Steps p.tables e below (T29.setTop (mkF m 45 #[.val (.int k1), .val (.int k2), .val (.int k3), .unset, .unset, .unset] [(.int (55295 : Int32)), (.int (7 : Int32)), (.ref b1), (.ref b1)])) _
    refine st33 _ ?_
    show Steps p.tables e below (T33.setTop (mkF m 46 #[.val (.int k1), .val (.int k2), .val (.int k3), .unset, .unset, .unset] [(.ref b1)])) _
    refine XS.dup X33.here hx rfl (hb hby at_46) rfl rfl ?_
    show Steps p.tables e below (T33.setTop (mkF m 47 #[.val (.int k1), .val (.int k2), .val (.int k3), .unset, .unset, .unset] [(.ref b1), (.ref b1)])) _
    refine XS.bipush X33.here hx rfl (hb hby at_47) ?_
    show Steps p.tables e below (T33.setTop (mkF m 49 #[.val (.int k1), .val (.int k2), .val (.int k3), .unset, .unset, .unset] [(.int (8 : Int32)), (.ref b1), (.ref b1)])) _
    refine X33.ldcInt hx hown (mvT hZ (hw _ (List.mem_of_getElem? (i := 2) rfl))) (g := (mkF m 49 #[.val (.int k1), .val (.int k2), .val (.int k3), .unset, .unset, .unset] [(.int (8 : Int32)), (.ref b1), (.ref b1)])) rfl (hb hby at_49) _ ?_
    show Steps p.tables e below (T33.setTop (mkF m 51 #[.val (.int k1), .val (.int k2), .val (.int k3), .unset, .unset, .unset] [(.int (55296 : Int32)), (.int (8 : Int32)), (.ref b1), (.ref b1)])) _
    refine st37 _ ?_
    show Steps p.tables e below (T37.setTop (mkF m 52 #[.val (.int k1), .val (.int k2), .val (.int k3), .unset, .unset, .unset] [(.ref b1)])) _
    refine XS.dup X37.here hx rfl (hb hby at_52) rfl rfl ?_
    show Steps p.tables e below (T37.setTop (mkF m 53 #[.val (.int k1), .val (.int k2), .val (.int k3), .unset, .unset, .unset] [(.ref b1), (.ref b1)])) _
    refine XS.bipush X37.here hx rfl (hb hby at_53) ?_
    show Steps p.tables e below (T37.setTop (mkF m 55 #[.val (.int k1), .val (.int k2), .val (.int k3), .unset, .unset, .unset] [(.int (9 : Int32)), (.ref b1), (.ref b1)])) _
    refine X37.ldcInt hx hown (mvT hZ (hw _ (List.mem_of_getElem? (i := 3) rfl))) (g := (mkF m 55 #[.val (.int k1), .val (.int k2), .val (.int k3), .unset, .unset, .unset] [(.int (9 : Int32)), (.ref b1), (.ref b1)])) rfl (hb hby at_55) _ ?_
    show Steps p.tables e below (T37.setTop (mkF m 57 #[.val (.int k1), .val (.int k2), .val (.int k3), .unset, .unset, .unset] [(.int (57343 : Int32)), (.int (9 : Int32)), (.ref b1), (.ref b1)])) _
    refine st41 _ ?_
    show Steps p.tables e below (T41.setTop (mkF m 58 #[.val (.int k1), .val (.int k2), .val (.int k3), .unset, .unset, .unset] [(.ref b1)])) _
    refine XS.dup X41.here hx rfl (hb hby at_58) rfl rfl ?_
    show Steps p.tables e below (T41.setTop (mkF m 59 #[.val (.int k1), .val (.int k2), .val (.int k3), .unset, .unset, .unset] [(.ref b1), (.ref b1)])) _
    refine XS.bipush X41.here hx rfl (hb hby at_59) ?_
    show Steps p.tables e below (T41.setTop (mkF m 61 #[.val (.int k1), .val (.int k2), .val (.int k3), .unset, .unset, .unset] [(.int (10 : Int32)), (.ref b1), (.ref b1)])) _
    refine X41.ldcInt hx hown (mvT hZ (hw _ (List.mem_of_getElem? (i := 4) rfl))) (g := (mkF m 61 #[.val (.int k1), .val (.int k2), .val (.int k3), .unset, .unset, .unset] [(.int (10 : Int32)), (.ref b1), (.ref b1)])) rfl (hb hby at_61) _ ?_
    show Steps p.tables e below (T41.setTop (mkF m 63 #[.val (.int k1), .val (.int k2), .val (.int k3), .unset, .unset, .unset] [(.int (57344 : Int32)), (.int (10 : Int32)), (.ref b1), (.ref b1)])) _
    refine st45 _ ?_
    show Steps p.tables e below (T45.setTop (mkF m 64 #[.val (.int k1), .val (.int k2), .val (.int k3), .unset, .unset, .unset] [(.ref b1)])) _
    refine XS.dup X45.here hx rfl (hb hby at_64) rfl rfl ?_
    show Steps p.tables e below (T45.setTop (mkF m 65 #[.val (.int k1), .val (.int k2), .val (.int k3), .unset, .unset, .unset] [(.ref b1), (.ref b1)])) _
    refine XS.bipush X45.here hx rfl (hb hby at_65) ?_
    show Steps p.tables e below (T45.setTop (mkF m 67 #[.val (.int k1), .val (.int k2), .val (.int k3), .unset, .unset, .unset] [(.int (11 : Int32)), (.ref b1), (.ref b1)])) _
    refine X45.ldcInt hx hown (mvT hZ (hw _ (List.mem_of_getElem? (i := 5) rfl))) (g := (mkF m 67 #[.val (.int k1), .val (.int k2), .val (.int k3), .unset, .unset, .unset] [(.int (11 : Int32)), (.ref b1), (.ref b1)])) rfl (hb hby at_67) _ ?_
    show Steps p.tables e below (T45.setTop (mkF m 69 #[.val (.int k1), .val (.int k2), .val (.int k3), .unset, .unset, .unset] [(.int (65533 : Int32)), (.int (11 : Int32)), (.ref b1), (.ref b1)])) _
    refine st49 _ ?_
    show Steps p.tables e below (T49.setTop (mkF m 70 #[.val (.int k1), .val (.int k2), .val (.int k3), .unset, .unset, .unset] [(.ref b1)])) _
    refine XS.dup X49.here hx rfl (hb hby at_70) rfl rfl ?_
    show Steps p.tables e below (T49.setTop (mkF m 71 #[.val (.int k1), .val (.int k2), .val (.int k3), .unset, .unset, .unset] [(.ref b1), (.ref b1)])) _
    refine XS.bipush X49.here hx rfl (hb hby at_71) ?_
    show Steps p.tables e below (T49.setTop (mkF m 73 #[.val (.int k1), .val (.int k2), .val (.int k3), .unset, .unset, .unset] [(.int (12 : Int32)), (.ref b1), (.ref b1)])) _
    refine X49.ldcInt hx hown (mvT hZ (hw _ (List.mem_of_getElem? (i := 6) rfl))) (g := (mkF m 73 #[.val (.int k1), .val (.int k2), .val (.int k3), .unset, .unset, .unset] [(.int (12 : Int32)), (.ref b1), (.ref b1)])) rfl (hb hby at_73) _ ?_
    show Steps p.tables e below (T49.setTop (mkF m 75 #[.val (.int k1), .val (.int k2), .val (.int k3), .unset, .unset, .unset] [(.int (65535 : Int32)), (.int (12 : Int32)), (.ref b1), (.ref b1)])) _
    refine st53 _ ?_
    show Steps p.tables e below (T53.setTop (mkF m 76 #[.val (.int k1), .val (.int k2), .val (.int k3), .unset, .unset, .unset] [(.ref b1)])) _
    refine XS.dup X53.here hx rfl (hb hby at_76) rfl rfl ?_
    show Steps p.tables e below (T53.setTop (mkF m 77 #[.val (.int k1), .val (.int k2), .val (.int k3), .unset, .unset, .unset] [(.ref b1), (.ref b1)])) _
    refine XS.bipush X53.here hx rfl (hb hby at_77) ?_
    show Steps p.tables e below (T53.setTop (mkF m 79 #[.val (.int k1), .val (.int k2), .val (.int k3), .unset, .unset, .unset] [(.int (13 : Int32)), (.ref b1), (.ref b1)])) _
    refine X53.ldcInt hx hown (mvT hZ (hw _ (List.mem_of_getElem? (i := 7) rfl))) (g := (mkF m 79 #[.val (.int k1), .val (.int k2), .val (.int k3), .unset, .unset, .unset] [(.int (13 : Int32)), (.ref b1), (.ref b1)])) rfl (hb hby at_79) _ ?_
    show Steps p.tables e below (T53.setTop (mkF m 81 #[.val (.int k1), .val (.int k2), .val (.int k3), .unset, .unset, .unset] [(.int (65536 : Int32)), (.int (13 : Int32)), (.ref b1), (.ref b1)])) _
    refine st57 _ ?_
    show Steps p.tables e below (T57.setTop (mkF m 82 #[.val (.int k1), .val (.int k2), .val (.int k3), .unset, .unset, .unset] [(.ref b1)])) _
    refine XS.dup X57.here hx rfl (hb hby at_82) rfl rfl ?_
    show Steps p.tables e below (T57.setTop (mkF m 83 #[.val (.int k1), .val (.int k2), .val (.int k3), .unset, .unset, .unset] [(.ref b1), (.ref b1)])) _
    refine XS.bipush X57.here hx rfl (hb hby at_83) ?_
    show Steps p.tables e below (T57.setTop (mkF m 85 #[.val (.int k1), .val (.int k2), .val (.int k3), .unset, .unset, .unset] [(.int (14 : Int32)), (.ref b1), (.ref b1)])) _
    refine X57.ldcInt hx hown (mvT hZ (hw _ (List.mem_of_getElem? (i := 8) rfl))) (g := (mkF m 85 #[.val (.int k1), .val (.int k2), .val (.int k3), .unset, .unset, .unset] [(.int (14 : Int32)), (.ref b1), (.ref b1)])) rfl (hb hby at_85) _ ?_
    show Steps p.tables e below (T57.setTop (mkF m 87 #[.val (.int k1), .val (.int k2), .val (.int k3), .unset, .unset, .unset] [(.int (1114111 : Int32)), (.int (14 : Int32)), (.ref b1), (.ref b1)])) _
    refine st61 _ ?_
    show Steps p.tables e below (T61.setTop (mkF m 88 #[.val (.int k1), .val (.int k2), .val (.int k3), .unset, .unset, .unset] [(.ref b1)])) _
    refine XS.dup X61.here hx rfl (hb hby at_88) rfl rfl ?_
    show Steps p.tables e below (T61.setTop (mkF m 89 #[.val (.int k1), .val (.int k2), .val (.int k3), .unset, .unset, .unset] [(.ref b1), (.ref b1)])) _
    refine XS.bipush X61.here hx rfl (hb hby at_89) ?_
    show Steps p.tables e below (T61.setTop (mkF m 91 #[.val (.int k1), .val (.int k2), .val (.int k3), .unset, .unset, .unset] [(.int (15 : Int32)), (.ref b1), (.ref b1)])) _
    refine X61.ldcInt hx hown (mvT hZ (hw _ (List.mem_of_getElem? (i := 9) rfl))) (g := (mkF m 91 #[.val (.int k1), .val (.int k2), .val (.int k3), .unset, .unset, .unset] [(.int (15 : Int32)), (.ref b1), (.ref b1)])) rfl (hb hby at_91) _ ?_
    show Steps p.tables e below (T61.setTop (mkF m 93 #[.val (.int k1), .val (.int k2), .val (.int k3), .unset, .unset, .unset] [(.int (-2147483648 : Int32)), (.int (15 : Int32)), (.ref b1), (.ref b1)])) _
    refine st65 _ ?_
    show Steps p.tables e below (T65.setTop (mkF m 94 #[.val (.int k1), .val (.int k2), .val (.int k3), .unset, .unset, .unset] [(.ref b1)])) _
    refine XS.astoreN X65.here hx rfl (hb hby at_94) rfl rfl (l' := #[.val (.int k1), .val (.int k2), .val (.int k3), .val (.ref b1), .unset, .unset]) rfl ?_
    show Steps p.tables e below (T65.setTop (mkF m 95 #[.val (.int k1), .val (.int k2), .val (.int k3), .val (.ref b1), .unset, .unset] [])) _
    refine XS.iloadN X65.here hx rfl (hb hby at_95) rfl ?_
    show Steps p.tables e below (T65.setTop (mkF m 96 #[.val (.int k1), .val (.int k2), .val (.int k3), .val (.ref b1), .unset, .unset] [(.int k2)])) _
    refine XS.bipush X65.here hx rfl (hb hby at_96) ?_
    show Steps p.tables e below (T65.setTop (mkF m 98 #[.val (.int k1), .val (.int k2), .val (.int k3), .val (.ref b1), .unset, .unset] [(.int (16 : Int32)), (.int k2)])) _
    refine XS.iand X65.here hx rfl (hb hby at_98) rfl ?_
    show Steps p.tables e below (T65.setTop (mkF m 99 #[.val (.int k1), .val (.int k2), .val (.int k3), .val (.ref b1), .unset, .unset] [(.int (k2 &&& (16 : Int32)))])) _
    exact kt
  by_cases hc99_70 : (k2 &&& (16 : Int32)) = (0 : Int32)
  · skip
    obtain ⟨m196, hm196⟩ : ∃ z_q : Int32, z_q = (if k1 < (0 : Int32) then (1 : Int32) else (if k1 < (32 : Int32) then (if k1 = (9 : Int32) then (if k1 < (55296 : Int32) then (if k1 = (65534 : Int32) then (1 : Int32) else (if k1 = (65535 : Int32) then (1 : Int32) else (if (1114111 : Int32) < k1 then (1 : Int32) else (0 : Int32)))) else (if (57343 : Int32) < k1 then (if k1 = (65534 : Int32) then (1 : Int32) else (if k1 = (65535 : Int32) then (1 : Int32) else (if (1114111 : Int32) < k1 then (1 : Int32) else (0 : Int32)))) else (1 : Int32))) else (if k1 = (10 : Int32) then (if k1 < (55296 : Int32) then (if k1 = (65534 : Int32) then (1 : Int32) else (if k1 = (65535 : Int32) then (1 : Int32) else (if (1114111 : Int32) < k1 then (1 : Int32) else (0 : Int32)))) else (if (57343 : Int32) < k1 then (if k1 = (65534 : Int32) then (1 : Int32) else (if k1 = (65535 : Int32) then (1 : Int32) else (if (1114111 : Int32) < k1 then (1 : Int32) else (0 : Int32)))) else (1 : Int32))) else (if k1 = (13 : Int32) then (if k1 < (55296 : Int32) then (if k1 = (65534 : Int32) then (1 : Int32) else (if k1 = (65535 : Int32) then (1 : Int32) else (if (1114111 : Int32) < k1 then (1 : Int32) else (0 : Int32)))) else (if (57343 : Int32) < k1 then (if k1 = (65534 : Int32) then (1 : Int32) else (if k1 = (65535 : Int32) then (1 : Int32) else (if (1114111 : Int32) < k1 then (1 : Int32) else (0 : Int32)))) else (1 : Int32))) else (1 : Int32)))) else (if k1 < (55296 : Int32) then (if k1 = (65534 : Int32) then (1 : Int32) else (if k1 = (65535 : Int32) then (1 : Int32) else (if (1114111 : Int32) < k1 then (1 : Int32) else (0 : Int32)))) else (if (57343 : Int32) < k1 then (if k1 = (65534 : Int32) then (1 : Int32) else (if k1 = (65535 : Int32) then (1 : Int32) else (if (1114111 : Int32) < k1 then (1 : Int32) else (0 : Int32)))) else (1 : Int32))))) := ⟨_, rfl⟩
    have pre108 : ∀ tq, Steps p.tables e below (T65.setTop (mkF m 196 #[.val (.int k1), .val (.int k2), .val (.int k3), .val (.ref b1), .val (.int k1), .unset] [(.int m196)])) tq → Steps p.tables e below (s₁.setTop (entryFrame m #[(.int k1), (.int k2), (.int k3)] maxLocals)) tq := by
      intro tq kt
      refine pre69 _ ?_
      show Steps p.tables e below (T65.setTop (mkF m 99 #[.val (.int k1), .val (.int k2), .val (.int k3), .val (.ref b1), .unset, .unset] [(.int (k2 &&& (16 : Int32)))])) _
      refine XS.ifNo X65.here hx rfl (hb hby at_99) rfl ((if0 _ _).trans (teq hc99_70).2) ?_
      show Steps p.tables e below (T65.setTop (mkF m 102 #[.val (.int k1), .val (.int k2), .val (.int k3), .val (.ref b1), .unset, .unset] [])) _
      refine XS.iloadN X65.here hx rfl (hb hby at_102) rfl ?_
      show Steps p.tables e below (T65.setTop (mkF m 103 #[.val (.int k1), .val (.int k2), .val (.int k3), .val (.ref b1), .unset, .unset] [(.int k1)])) _
      refine XS.istore X65.here hx rfl (hb hby at_103) rfl (l' := #[.val (.int k1), .val (.int k2), .val (.int k3), .val (.ref b1), .val (.int k1), .unset]) rfl ?_
      show Steps p.tables e below (T65.setTop (mkF m 105 #[.val (.int k1), .val (.int k2), .val (.int k3), .val (.ref b1), .val (.int k1), .unset] [])) _
      refine XS.goto X65.here hx rfl (pc0 := 105) (pc' := 123) rfl (hb hby at_105) (by decide) (by decide) ?_
      show Steps p.tables e below (T65.setTop (mkF m 123 #[.val (.int k1), .val (.int k2), .val (.int k3), .val (.ref b1), .val (.int k1), .unset] [])) _
      refine XS.iload X65.here hx rfl (hb hby at_123) rfl ?_
      by_cases d71 : k1 < (0 : Int32)
      · skip
        show Steps p.tables e below (T65.setTop (mkF m 125 #[.val (.int k1), .val (.int k2), .val (.int k3), .val (.ref b1), .val (.int k1), .unset] [(.int k1)])) _
        refine XS.ifYes X65.here hx rfl (pc0 := 125) (pc' := 191) rfl (hb hby at_125) rfl ((if0 _ _).trans (tlt d71).1) (by decide) (by decide) ?_
        show Steps p.tables e below (T65.setTop (mkF m 191 #[.val (.int k1), .val (.int k2), .val (.int k3), .val (.ref b1), .val (.int k1), .unset] [])) _
        refine XS.iconst X65.here hx rfl (hb hby at_191) ?_
        show Steps p.tables e below (T65.setTop (mkF m 192 #[.val (.int k1), .val (.int k2), .val (.int k3), .val (.ref b1), .val (.int k1), .unset] [(.int (1 : Int32))])) _
        refine XS.goto X65.here hx rfl (pc0 := 192) (pc' := 196) rfl (hb hby at_192) (by decide) (by decide) ?_
        show Steps p.tables e below (T65.setTop (mkF m 196 #[.val (.int k1), .val (.int k2), .val (.int k3), .val (.ref b1), .val (.int k1), .unset] [(.int (1 : Int32))])) _
        exact castTop (by simp only [hm196, if_pos d71]) kt
      · skip
        show Steps p.tables e below (T65.setTop (mkF m 125 #[.val (.int k1), .val (.int k2), .val (.int k3), .val (.ref b1), .val (.int k1), .unset] [(.int k1)])) _
        refine XS.ifNo X65.here hx rfl (hb hby at_125) rfl ((if0 _ _).trans (flt d71).1) ?_
        show Steps p.tables e below (T65.setTop (mkF m 128 #[.val (.int k1), .val (.int k2), .val (.int k3), .val (.ref b1), .val (.int k1), .unset] [])) _
        refine XS.iload X65.here hx rfl (hb hby at_128) rfl ?_
        show Steps p.tables e below (T65.setTop (mkF m 130 #[.val (.int k1), .val (.int k2), .val (.int k3), .val (.ref b1), .val (.int k1), .unset] [(.int k1)])) _
        refine XS.bipush X65.here hx rfl (hb hby at_130) ?_
        by_cases d72 : k1 < (32 : Int32)
        · skip
          show Steps p.tables e below (T65.setTop (mkF m 132 #[.val (.int k1), .val (.int k2), .val (.int k3), .val (.ref b1), .val (.int k1), .unset] [(.int (32 : Int32)), (.int k1)])) _
          refine XS.icmpNo X65.here hx rfl (hb hby at_132) rfl (tlt d72).2.1 ?_
          show Steps p.tables e below (T65.setTop (mkF m 135 #[.val (.int k1), .val (.int k2), .val (.int k3), .val (.ref b1), .val (.int k1), .unset] [])) _
          refine XS.iload X65.here hx rfl (hb hby at_135) rfl ?_
          show Steps p.tables e below (T65.setTop (mkF m 137 #[.val (.int k1), .val (.int k2), .val (.int k3), .val (.ref b1), .val (.int k1), .unset] [(.int k1)])) _
          refine XS.bipush X65.here hx rfl (hb hby at_137) ?_
          by_cases d73 : k1 = (9 : Int32)
          · skip
            show Steps p.tables e below (T65.setTop (mkF m 139 #[.val (.int k1), .val (.int k2), .val (.int k3), .val (.ref b1), .val (.int k1), .unset] [(.int (9 : Int32)), (.int k1)])) _
            refine XS.icmpYes X65.here hx rfl (pc0 := 139) (pc' := 156) rfl (hb hby at_139) rfl (teq d73).1 (by decide) (by decide) ?_
            show Steps p.tables e below (T65.setTop (mkF m 156 #[.val (.int k1), .val (.int k2), .val (.int k3), .val (.ref b1), .val (.int k1), .unset] [])) _
            refine XS.iload X65.here hx rfl (hb hby at_156) rfl ?_
            show Steps p.tables e below (T65.setTop (mkF m 158 #[.val (.int k1), .val (.int k2), .val (.int k3), .val (.ref b1), .val (.int k1), .unset] [(.int k1)])) _
            refine X65.ldcInt hx hown (mvT hZ (hw _ (List.mem_of_getElem? (i := 2) rfl))) (g := (mkF m 158 #[.val (.int k1), .val (.int k2), .val (.int k3), .val (.ref b1), .val (.int k1), .unset] [(.int k1)])) rfl (hb hby at_158) _ ?_
            by_cases d74 : k1 < (55296 : Int32)
            · skip
              show Steps p.tables e below (T65.setTop (mkF m 160 #[.val (.int k1), .val (.int k2), .val (.int k3), .val (.ref b1), .val (.int k1), .unset] [(.int (55296 : Int32)), (.int k1)])) _
              refine XS.icmpYes X65.here hx rfl (pc0 := 160) (pc' := 170) rfl (hb hby at_160) rfl (tlt d74).1 (by decide) (by decide) ?_
              show Steps p.tables e below (T65.setTop (mkF m 170 #[.val (.int k1), .val (.int k2), .val (.int k3), .val (.ref b1), .val (.int k1), .unset] [])) _
              refine XS.iload X65.here hx rfl (hb hby at_170) rfl ?_
              show Steps p.tables e below (T65.setTop (mkF m 172 #[.val (.int k1), .val (.int k2), .val (.int k3), .val (.ref b1), .val (.int k1), .unset] [(.int k1)])) _
              refine X65.ldcInt hx hown (mvT hZ (hw _ (List.mem_of_getElem? (i := 16) rfl))) (g := (mkF m 172 #[.val (.int k1), .val (.int k2), .val (.int k3), .val (.ref b1), .val (.int k1), .unset] [(.int k1)])) rfl (hb hby at_172) _ ?_
              by_cases d75 : k1 = (65534 : Int32)
              · skip
                show Steps p.tables e below (T65.setTop (mkF m 174 #[.val (.int k1), .val (.int k2), .val (.int k3), .val (.ref b1), .val (.int k1), .unset] [(.int (65534 : Int32)), (.int k1)])) _
                refine XS.icmpYes X65.here hx rfl (pc0 := 174) (pc' := 191) rfl (hb hby at_174) rfl (teq d75).1 (by decide) (by decide) ?_
                show Steps p.tables e below (T65.setTop (mkF m 191 #[.val (.int k1), .val (.int k2), .val (.int k3), .val (.ref b1), .val (.int k1), .unset] [])) _
                refine XS.iconst X65.here hx rfl (hb hby at_191) ?_
                show Steps p.tables e below (T65.setTop (mkF m 192 #[.val (.int k1), .val (.int k2), .val (.int k3), .val (.ref b1), .val (.int k1), .unset] [(.int (1 : Int32))])) _
                refine XS.goto X65.here hx rfl (pc0 := 192) (pc' := 196) rfl (hb hby at_192) (by decide) (by decide) ?_
                show Steps p.tables e below (T65.setTop (mkF m 196 #[.val (.int k1), .val (.int k2), .val (.int k3), .val (.ref b1), .val (.int k1), .unset] [(.int (1 : Int32))])) _
                exact castTop (by simp only [hm196, if_neg d71, if_pos d72, if_pos d73, if_pos d74, if_pos d75]) kt
              · skip
                show Steps p.tables e below (T65.setTop (mkF m 174 #[.val (.int k1), .val (.int k2), .val (.int k3), .val (.ref b1), .val (.int k1), .unset] [(.int (65534 : Int32)), (.int k1)])) _
                refine XS.icmpNo X65.here hx rfl (hb hby at_174) rfl (feq d75).1 ?_
                show Steps p.tables e below (T65.setTop (mkF m 177 #[.val (.int k1), .val (.int k2), .val (.int k3), .val (.ref b1), .val (.int k1), .unset] [])) _
                refine XS.iload X65.here hx rfl (hb hby at_177) rfl ?_
                show Steps p.tables e below (T65.setTop (mkF m 179 #[.val (.int k1), .val (.int k2), .val (.int k3), .val (.ref b1), .val (.int k1), .unset] [(.int k1)])) _
                refine X65.ldcInt hx hown (mvT hZ (hw _ (List.mem_of_getElem? (i := 6) rfl))) (g := (mkF m 179 #[.val (.int k1), .val (.int k2), .val (.int k3), .val (.ref b1), .val (.int k1), .unset] [(.int k1)])) rfl (hb hby at_179) _ ?_
                by_cases d76 : k1 = (65535 : Int32)
                · skip
                  show Steps p.tables e below (T65.setTop (mkF m 181 #[.val (.int k1), .val (.int k2), .val (.int k3), .val (.ref b1), .val (.int k1), .unset] [(.int (65535 : Int32)), (.int k1)])) _
                  refine XS.icmpYes X65.here hx rfl (pc0 := 181) (pc' := 191) rfl (hb hby at_181) rfl (teq d76).1 (by decide) (by decide) ?_
                  show Steps p.tables e below (T65.setTop (mkF m 191 #[.val (.int k1), .val (.int k2), .val (.int k3), .val (.ref b1), .val (.int k1), .unset] [])) _
                  refine XS.iconst X65.here hx rfl (hb hby at_191) ?_
                  show Steps p.tables e below (T65.setTop (mkF m 192 #[.val (.int k1), .val (.int k2), .val (.int k3), .val (.ref b1), .val (.int k1), .unset] [(.int (1 : Int32))])) _
                  refine XS.goto X65.here hx rfl (pc0 := 192) (pc' := 196) rfl (hb hby at_192) (by decide) (by decide) ?_
                  show Steps p.tables e below (T65.setTop (mkF m 196 #[.val (.int k1), .val (.int k2), .val (.int k3), .val (.ref b1), .val (.int k1), .unset] [(.int (1 : Int32))])) _
                  exact castTop (by simp only [hm196, if_neg d71, if_pos d72, if_pos d73, if_pos d74, if_neg d75, if_pos d76]) kt
                · skip
                  show Steps p.tables e below (T65.setTop (mkF m 181 #[.val (.int k1), .val (.int k2), .val (.int k3), .val (.ref b1), .val (.int k1), .unset] [(.int (65535 : Int32)), (.int k1)])) _
                  refine XS.icmpNo X65.here hx rfl (hb hby at_181) rfl (feq d76).1 ?_
                  show Steps p.tables e below (T65.setTop (mkF m 184 #[.val (.int k1), .val (.int k2), .val (.int k3), .val (.ref b1), .val (.int k1), .unset] [])) _
                  refine XS.iload X65.here hx rfl (hb hby at_184) rfl ?_
                  show Steps p.tables e below (T65.setTop (mkF m 186 #[.val (.int k1), .val (.int k2), .val (.int k3), .val (.ref b1), .val (.int k1), .unset] [(.int k1)])) _
                  refine X65.ldcInt hx hown (mvT hZ (hw _ (List.mem_of_getElem? (i := 8) rfl))) (g := (mkF m 186 #[.val (.int k1), .val (.int k2), .val (.int k3), .val (.ref b1), .val (.int k1), .unset] [(.int k1)])) rfl (hb hby at_186) _ ?_
                  by_cases d77 : (1114111 : Int32) < k1
                  · skip
                    show Steps p.tables e below (T65.setTop (mkF m 188 #[.val (.int k1), .val (.int k2), .val (.int k3), .val (.ref b1), .val (.int k1), .unset] [(.int (1114111 : Int32)), (.int k1)])) _
                    refine XS.icmpNo X65.here hx rfl (hb hby at_188) rfl (tlt d77).2.2.2 ?_
                    show Steps p.tables e below (T65.setTop (mkF m 191 #[.val (.int k1), .val (.int k2), .val (.int k3), .val (.ref b1), .val (.int k1), .unset] [])) _
                    refine XS.iconst X65.here hx rfl (hb hby at_191) ?_
                    show Steps p.tables e below (T65.setTop (mkF m 192 #[.val (.int k1), .val (.int k2), .val (.int k3), .val (.ref b1), .val (.int k1), .unset] [(.int (1 : Int32))])) _
                    refine XS.goto X65.here hx rfl (pc0 := 192) (pc' := 196) rfl (hb hby at_192) (by decide) (by decide) ?_
                    show Steps p.tables e below (T65.setTop (mkF m 196 #[.val (.int k1), .val (.int k2), .val (.int k3), .val (.ref b1), .val (.int k1), .unset] [(.int (1 : Int32))])) _
                    exact castTop (by simp only [hm196, if_neg d71, if_pos d72, if_pos d73, if_pos d74, if_neg d75, if_neg d76, if_pos d77]) kt
                  · skip
                    show Steps p.tables e below (T65.setTop (mkF m 188 #[.val (.int k1), .val (.int k2), .val (.int k3), .val (.ref b1), .val (.int k1), .unset] [(.int (1114111 : Int32)), (.int k1)])) _
                    refine XS.icmpYes X65.here hx rfl (pc0 := 188) (pc' := 195) rfl (hb hby at_188) rfl (flt d77).2.2.2 (by decide) (by decide) ?_
                    show Steps p.tables e below (T65.setTop (mkF m 195 #[.val (.int k1), .val (.int k2), .val (.int k3), .val (.ref b1), .val (.int k1), .unset] [])) _
                    refine XS.iconst X65.here hx rfl (hb hby at_195) ?_
                    show Steps p.tables e below (T65.setTop (mkF m 196 #[.val (.int k1), .val (.int k2), .val (.int k3), .val (.ref b1), .val (.int k1), .unset] [(.int (0 : Int32))])) _
                    exact castTop (by simp only [hm196, if_neg d71, if_pos d72, if_pos d73, if_pos d74, if_neg d75, if_neg d76, if_neg d77]) kt
            · skip
              show Steps p.tables e below (T65.setTop (mkF m 160 #[.val (.int k1), .val (.int k2), .val (.int k3), .val (.ref b1), .val (.int k1), .unset] [(.int (55296 : Int32)), (.int k1)])) _
              refine XS.icmpNo X65.here hx rfl (hb hby at_160) rfl (flt d74).1 ?_
              show Steps p.tables e below (T65.setTop (mkF m 163 #[.val (.int k1), .val (.int k2), .val (.int k3), .val (.ref b1), .val (.int k1), .unset] [])) _
              refine XS.iload X65.here hx rfl (hb hby at_163) rfl ?_
              show Steps p.tables e below (T65.setTop (mkF m 165 #[.val (.int k1), .val (.int k2), .val (.int k3), .val (.ref b1), .val (.int k1), .unset] [(.int k1)])) _
              refine X65.ldcInt hx hown (mvT hZ (hw _ (List.mem_of_getElem? (i := 3) rfl))) (g := (mkF m 165 #[.val (.int k1), .val (.int k2), .val (.int k3), .val (.ref b1), .val (.int k1), .unset] [(.int k1)])) rfl (hb hby at_165) _ ?_
              by_cases d78 : (57343 : Int32) < k1
              · skip
                show Steps p.tables e below (T65.setTop (mkF m 167 #[.val (.int k1), .val (.int k2), .val (.int k3), .val (.ref b1), .val (.int k1), .unset] [(.int (57343 : Int32)), (.int k1)])) _
                refine XS.icmpNo X65.here hx rfl (hb hby at_167) rfl (tlt d78).2.2.2 ?_
                show Steps p.tables e below (T65.setTop (mkF m 170 #[.val (.int k1), .val (.int k2), .val (.int k3), .val (.ref b1), .val (.int k1), .unset] [])) _
                refine XS.iload X65.here hx rfl (hb hby at_170) rfl ?_
                show Steps p.tables e below (T65.setTop (mkF m 172 #[.val (.int k1), .val (.int k2), .val (.int k3), .val (.ref b1), .val (.int k1), .unset] [(.int k1)])) _
                refine X65.ldcInt hx hown (mvT hZ (hw _ (List.mem_of_getElem? (i := 16) rfl))) (g := (mkF m 172 #[.val (.int k1), .val (.int k2), .val (.int k3), .val (.ref b1), .val (.int k1), .unset] [(.int k1)])) rfl (hb hby at_172) _ ?_
                by_cases d79 : k1 = (65534 : Int32)
                · skip
                  show Steps p.tables e below (T65.setTop (mkF m 174 #[.val (.int k1), .val (.int k2), .val (.int k3), .val (.ref b1), .val (.int k1), .unset] [(.int (65534 : Int32)), (.int k1)])) _
                  refine XS.icmpYes X65.here hx rfl (pc0 := 174) (pc' := 191) rfl (hb hby at_174) rfl (teq d79).1 (by decide) (by decide) ?_
                  show Steps p.tables e below (T65.setTop (mkF m 191 #[.val (.int k1), .val (.int k2), .val (.int k3), .val (.ref b1), .val (.int k1), .unset] [])) _
                  refine XS.iconst X65.here hx rfl (hb hby at_191) ?_
                  show Steps p.tables e below (T65.setTop (mkF m 192 #[.val (.int k1), .val (.int k2), .val (.int k3), .val (.ref b1), .val (.int k1), .unset] [(.int (1 : Int32))])) _
                  refine XS.goto X65.here hx rfl (pc0 := 192) (pc' := 196) rfl (hb hby at_192) (by decide) (by decide) ?_
                  show Steps p.tables e below (T65.setTop (mkF m 196 #[.val (.int k1), .val (.int k2), .val (.int k3), .val (.ref b1), .val (.int k1), .unset] [(.int (1 : Int32))])) _
                  exact castTop (by simp only [hm196, if_neg d71, if_pos d72, if_pos d73, if_neg d74, if_pos d78, if_pos d79]) kt
                · skip
                  show Steps p.tables e below (T65.setTop (mkF m 174 #[.val (.int k1), .val (.int k2), .val (.int k3), .val (.ref b1), .val (.int k1), .unset] [(.int (65534 : Int32)), (.int k1)])) _
                  refine XS.icmpNo X65.here hx rfl (hb hby at_174) rfl (feq d79).1 ?_
                  show Steps p.tables e below (T65.setTop (mkF m 177 #[.val (.int k1), .val (.int k2), .val (.int k3), .val (.ref b1), .val (.int k1), .unset] [])) _
                  refine XS.iload X65.here hx rfl (hb hby at_177) rfl ?_
                  show Steps p.tables e below (T65.setTop (mkF m 179 #[.val (.int k1), .val (.int k2), .val (.int k3), .val (.ref b1), .val (.int k1), .unset] [(.int k1)])) _
                  refine X65.ldcInt hx hown (mvT hZ (hw _ (List.mem_of_getElem? (i := 6) rfl))) (g := (mkF m 179 #[.val (.int k1), .val (.int k2), .val (.int k3), .val (.ref b1), .val (.int k1), .unset] [(.int k1)])) rfl (hb hby at_179) _ ?_
                  by_cases d80 : k1 = (65535 : Int32)
                  · skip
                    show Steps p.tables e below (T65.setTop (mkF m 181 #[.val (.int k1), .val (.int k2), .val (.int k3), .val (.ref b1), .val (.int k1), .unset] [(.int (65535 : Int32)), (.int k1)])) _
                    refine XS.icmpYes X65.here hx rfl (pc0 := 181) (pc' := 191) rfl (hb hby at_181) rfl (teq d80).1 (by decide) (by decide) ?_
                    show Steps p.tables e below (T65.setTop (mkF m 191 #[.val (.int k1), .val (.int k2), .val (.int k3), .val (.ref b1), .val (.int k1), .unset] [])) _
                    refine XS.iconst X65.here hx rfl (hb hby at_191) ?_
                    show Steps p.tables e below (T65.setTop (mkF m 192 #[.val (.int k1), .val (.int k2), .val (.int k3), .val (.ref b1), .val (.int k1), .unset] [(.int (1 : Int32))])) _
                    refine XS.goto X65.here hx rfl (pc0 := 192) (pc' := 196) rfl (hb hby at_192) (by decide) (by decide) ?_
                    show Steps p.tables e below (T65.setTop (mkF m 196 #[.val (.int k1), .val (.int k2), .val (.int k3), .val (.ref b1), .val (.int k1), .unset] [(.int (1 : Int32))])) _
                    exact castTop (by simp only [hm196, if_neg d71, if_pos d72, if_pos d73, if_neg d74, if_pos d78, if_neg d79, if_pos d80]) kt
                  · skip
                    show Steps p.tables e below (T65.setTop (mkF m 181 #[.val (.int k1), .val (.int k2), .val (.int k3), .val (.ref b1), .val (.int k1), .unset] [(.int (65535 : Int32)), (.int k1)])) _
                    refine XS.icmpNo X65.here hx rfl (hb hby at_181) rfl (feq d80).1 ?_
                    show Steps p.tables e below (T65.setTop (mkF m 184 #[.val (.int k1), .val (.int k2), .val (.int k3), .val (.ref b1), .val (.int k1), .unset] [])) _
                    refine XS.iload X65.here hx rfl (hb hby at_184) rfl ?_
                    show Steps p.tables e below (T65.setTop (mkF m 186 #[.val (.int k1), .val (.int k2), .val (.int k3), .val (.ref b1), .val (.int k1), .unset] [(.int k1)])) _
                    refine X65.ldcInt hx hown (mvT hZ (hw _ (List.mem_of_getElem? (i := 8) rfl))) (g := (mkF m 186 #[.val (.int k1), .val (.int k2), .val (.int k3), .val (.ref b1), .val (.int k1), .unset] [(.int k1)])) rfl (hb hby at_186) _ ?_
                    by_cases d81 : (1114111 : Int32) < k1
                    · skip
                      show Steps p.tables e below (T65.setTop (mkF m 188 #[.val (.int k1), .val (.int k2), .val (.int k3), .val (.ref b1), .val (.int k1), .unset] [(.int (1114111 : Int32)), (.int k1)])) _
                      refine XS.icmpNo X65.here hx rfl (hb hby at_188) rfl (tlt d81).2.2.2 ?_
                      show Steps p.tables e below (T65.setTop (mkF m 191 #[.val (.int k1), .val (.int k2), .val (.int k3), .val (.ref b1), .val (.int k1), .unset] [])) _
                      refine XS.iconst X65.here hx rfl (hb hby at_191) ?_
                      show Steps p.tables e below (T65.setTop (mkF m 192 #[.val (.int k1), .val (.int k2), .val (.int k3), .val (.ref b1), .val (.int k1), .unset] [(.int (1 : Int32))])) _
                      refine XS.goto X65.here hx rfl (pc0 := 192) (pc' := 196) rfl (hb hby at_192) (by decide) (by decide) ?_
                      show Steps p.tables e below (T65.setTop (mkF m 196 #[.val (.int k1), .val (.int k2), .val (.int k3), .val (.ref b1), .val (.int k1), .unset] [(.int (1 : Int32))])) _
                      exact castTop (by simp only [hm196, if_neg d71, if_pos d72, if_pos d73, if_neg d74, if_pos d78, if_neg d79, if_neg d80, if_pos d81]) kt
                    · skip
                      show Steps p.tables e below (T65.setTop (mkF m 188 #[.val (.int k1), .val (.int k2), .val (.int k3), .val (.ref b1), .val (.int k1), .unset] [(.int (1114111 : Int32)), (.int k1)])) _
                      refine XS.icmpYes X65.here hx rfl (pc0 := 188) (pc' := 195) rfl (hb hby at_188) rfl (flt d81).2.2.2 (by decide) (by decide) ?_
                      show Steps p.tables e below (T65.setTop (mkF m 195 #[.val (.int k1), .val (.int k2), .val (.int k3), .val (.ref b1), .val (.int k1), .unset] [])) _
                      refine XS.iconst X65.here hx rfl (hb hby at_195) ?_
                      show Steps p.tables e below (T65.setTop (mkF m 196 #[.val (.int k1), .val (.int k2), .val (.int k3), .val (.ref b1), .val (.int k1), .unset] [(.int (0 : Int32))])) _
                      exact castTop (by simp only [hm196, if_neg d71, if_pos d72, if_pos d73, if_neg d74, if_pos d78, if_neg d79, if_neg d80, if_neg d81]) kt
              · skip
                show Steps p.tables e below (T65.setTop (mkF m 167 #[.val (.int k1), .val (.int k2), .val (.int k3), .val (.ref b1), .val (.int k1), .unset] [(.int (57343 : Int32)), (.int k1)])) _
                refine XS.icmpYes X65.here hx rfl (pc0 := 167) (pc' := 191) rfl (hb hby at_167) rfl (flt d78).2.2.2 (by decide) (by decide) ?_
                show Steps p.tables e below (T65.setTop (mkF m 191 #[.val (.int k1), .val (.int k2), .val (.int k3), .val (.ref b1), .val (.int k1), .unset] [])) _
                refine XS.iconst X65.here hx rfl (hb hby at_191) ?_
                show Steps p.tables e below (T65.setTop (mkF m 192 #[.val (.int k1), .val (.int k2), .val (.int k3), .val (.ref b1), .val (.int k1), .unset] [(.int (1 : Int32))])) _
                refine XS.goto X65.here hx rfl (pc0 := 192) (pc' := 196) rfl (hb hby at_192) (by decide) (by decide) ?_
                show Steps p.tables e below (T65.setTop (mkF m 196 #[.val (.int k1), .val (.int k2), .val (.int k3), .val (.ref b1), .val (.int k1), .unset] [(.int (1 : Int32))])) _
                exact castTop (by simp only [hm196, if_neg d71, if_pos d72, if_pos d73, if_neg d74, if_neg d78]) kt
          · skip
            show Steps p.tables e below (T65.setTop (mkF m 139 #[.val (.int k1), .val (.int k2), .val (.int k3), .val (.ref b1), .val (.int k1), .unset] [(.int (9 : Int32)), (.int k1)])) _
            refine XS.icmpNo X65.here hx rfl (hb hby at_139) rfl (feq d73).1 ?_
            show Steps p.tables e below (T65.setTop (mkF m 142 #[.val (.int k1), .val (.int k2), .val (.int k3), .val (.ref b1), .val (.int k1), .unset] [])) _
            refine XS.iload X65.here hx rfl (hb hby at_142) rfl ?_
            show Steps p.tables e below (T65.setTop (mkF m 144 #[.val (.int k1), .val (.int k2), .val (.int k3), .val (.ref b1), .val (.int k1), .unset] [(.int k1)])) _
            refine XS.bipush X65.here hx rfl (hb hby at_144) ?_
            by_cases d82 : k1 = (10 : Int32)
            · skip
              show Steps p.tables e below (T65.setTop (mkF m 146 #[.val (.int k1), .val (.int k2), .val (.int k3), .val (.ref b1), .val (.int k1), .unset] [(.int (10 : Int32)), (.int k1)])) _
              refine XS.icmpYes X65.here hx rfl (pc0 := 146) (pc' := 156) rfl (hb hby at_146) rfl (teq d82).1 (by decide) (by decide) ?_
              show Steps p.tables e below (T65.setTop (mkF m 156 #[.val (.int k1), .val (.int k2), .val (.int k3), .val (.ref b1), .val (.int k1), .unset] [])) _
              refine XS.iload X65.here hx rfl (hb hby at_156) rfl ?_
              show Steps p.tables e below (T65.setTop (mkF m 158 #[.val (.int k1), .val (.int k2), .val (.int k3), .val (.ref b1), .val (.int k1), .unset] [(.int k1)])) _
              refine X65.ldcInt hx hown (mvT hZ (hw _ (List.mem_of_getElem? (i := 2) rfl))) (g := (mkF m 158 #[.val (.int k1), .val (.int k2), .val (.int k3), .val (.ref b1), .val (.int k1), .unset] [(.int k1)])) rfl (hb hby at_158) _ ?_
              by_cases d83 : k1 < (55296 : Int32)
              · skip
                show Steps p.tables e below (T65.setTop (mkF m 160 #[.val (.int k1), .val (.int k2), .val (.int k3), .val (.ref b1), .val (.int k1), .unset] [(.int (55296 : Int32)), (.int k1)])) _
                refine XS.icmpYes X65.here hx rfl (pc0 := 160) (pc' := 170) rfl (hb hby at_160) rfl (tlt d83).1 (by decide) (by decide) ?_
                show Steps p.tables e below (T65.setTop (mkF m 170 #[.val (.int k1), .val (.int k2), .val (.int k3), .val (.ref b1), .val (.int k1), .unset] [])) _
                refine XS.iload X65.here hx rfl (hb hby at_170) rfl ?_
                show Steps p.tables e below (T65.setTop (mkF m 172 #[.val (.int k1), .val (.int k2), .val (.int k3), .val (.ref b1), .val (.int k1), .unset] [(.int k1)])) _
                refine X65.ldcInt hx hown (mvT hZ (hw _ (List.mem_of_getElem? (i := 16) rfl))) (g := (mkF m 172 #[.val (.int k1), .val (.int k2), .val (.int k3), .val (.ref b1), .val (.int k1), .unset] [(.int k1)])) rfl (hb hby at_172) _ ?_
                by_cases d84 : k1 = (65534 : Int32)
                · skip
                  show Steps p.tables e below (T65.setTop (mkF m 174 #[.val (.int k1), .val (.int k2), .val (.int k3), .val (.ref b1), .val (.int k1), .unset] [(.int (65534 : Int32)), (.int k1)])) _
                  refine XS.icmpYes X65.here hx rfl (pc0 := 174) (pc' := 191) rfl (hb hby at_174) rfl (teq d84).1 (by decide) (by decide) ?_
                  show Steps p.tables e below (T65.setTop (mkF m 191 #[.val (.int k1), .val (.int k2), .val (.int k3), .val (.ref b1), .val (.int k1), .unset] [])) _
                  refine XS.iconst X65.here hx rfl (hb hby at_191) ?_
                  show Steps p.tables e below (T65.setTop (mkF m 192 #[.val (.int k1), .val (.int k2), .val (.int k3), .val (.ref b1), .val (.int k1), .unset] [(.int (1 : Int32))])) _
                  refine XS.goto X65.here hx rfl (pc0 := 192) (pc' := 196) rfl (hb hby at_192) (by decide) (by decide) ?_
                  show Steps p.tables e below (T65.setTop (mkF m 196 #[.val (.int k1), .val (.int k2), .val (.int k3), .val (.ref b1), .val (.int k1), .unset] [(.int (1 : Int32))])) _
                  exact castTop (by simp only [hm196, if_neg d71, if_pos d72, if_neg d73, if_pos d82, if_pos d83, if_pos d84]) kt
                · skip
                  show Steps p.tables e below (T65.setTop (mkF m 174 #[.val (.int k1), .val (.int k2), .val (.int k3), .val (.ref b1), .val (.int k1), .unset] [(.int (65534 : Int32)), (.int k1)])) _
                  refine XS.icmpNo X65.here hx rfl (hb hby at_174) rfl (feq d84).1 ?_
                  show Steps p.tables e below (T65.setTop (mkF m 177 #[.val (.int k1), .val (.int k2), .val (.int k3), .val (.ref b1), .val (.int k1), .unset] [])) _
                  refine XS.iload X65.here hx rfl (hb hby at_177) rfl ?_
                  show Steps p.tables e below (T65.setTop (mkF m 179 #[.val (.int k1), .val (.int k2), .val (.int k3), .val (.ref b1), .val (.int k1), .unset] [(.int k1)])) _
                  refine X65.ldcInt hx hown (mvT hZ (hw _ (List.mem_of_getElem? (i := 6) rfl))) (g := (mkF m 179 #[.val (.int k1), .val (.int k2), .val (.int k3), .val (.ref b1), .val (.int k1), .unset] [(.int k1)])) rfl (hb hby at_179) _ ?_
                  by_cases d85 : k1 = (65535 : Int32)
                  · skip
                    show Steps p.tables e below (T65.setTop (mkF m 181 #[.val (.int k1), .val (.int k2), .val (.int k3), .val (.ref b1), .val (.int k1), .unset] [(.int (65535 : Int32)), (.int k1)])) _
                    refine XS.icmpYes X65.here hx rfl (pc0 := 181) (pc' := 191) rfl (hb hby at_181) rfl (teq d85).1 (by decide) (by decide) ?_
                    show Steps p.tables e below (T65.setTop (mkF m 191 #[.val (.int k1), .val (.int k2), .val (.int k3), .val (.ref b1), .val (.int k1), .unset] [])) _
                    refine XS.iconst X65.here hx rfl (hb hby at_191) ?_
                    show Steps p.tables e below (T65.setTop (mkF m 192 #[.val (.int k1), .val (.int k2), .val (.int k3), .val (.ref b1), .val (.int k1), .unset] [(.int (1 : Int32))])) _
                    refine XS.goto X65.here hx rfl (pc0 := 192) (pc' := 196) rfl (hb hby at_192) (by decide) (by decide) ?_
                    show Steps p.tables e below (T65.setTop (mkF m 196 #[.val (.int k1), .val (.int k2), .val (.int k3), .val (.ref b1), .val (.int k1), .unset] [(.int (1 : Int32))])) _
                    exact castTop (by simp only [hm196, if_neg d71, if_pos d72, if_neg d73, if_pos d82, if_pos d83, if_neg d84, if_pos d85]) kt
                  · skip
                    show Steps p.tables e below (T65.setTop (mkF m 181 #[.val (.int k1), .val (.int k2), .val (.int k3), .val (.ref b1), .val (.int k1), .unset] [(.int (65535 : Int32)), (.int k1)])) _
                    refine XS.icmpNo X65.here hx rfl (hb hby at_181) rfl (feq d85).1 ?_
                    show Steps p.tables e below (T65.setTop (mkF m 184 #[.val (.int k1), .val (.int k2), .val (.int k3), .val (.ref b1), .val (.int k1), .unset] [])) _
                    refine XS.iload X65.here hx rfl (hb hby at_184) rfl ?_
                    show Steps p.tables e below (T65.setTop (mkF m 186 #[.val (.int k1), .val (.int k2), .val (.int k3), .val (.ref b1), .val (.int k1), .unset] [(.int k1)])) _
                    refine X65.ldcInt hx hown (mvT hZ (hw _ (List.mem_of_getElem? (i := 8) rfl))) (g := (mkF m 186 #[.val (.int k1), .val (.int k2), .val (.int k3), .val (.ref b1), .val (.int k1), .unset] [(.int k1)])) rfl (hb hby at_186) _ ?_
                    by_cases d86 : (1114111 : Int32) < k1
                    · skip
                      show Steps p.tables e below (T65.setTop (mkF m 188 #[.val (.int k1), .val (.int k2), .val (.int k3), .val (.ref b1), .val (.int k1), .unset] [(.int (1114111 : Int32)), (.int k1)])) _
                      refine XS.icmpNo X65.here hx rfl (hb hby at_188) rfl (tlt d86).2.2.2 ?_
                      show Steps p.tables e below (T65.setTop (mkF m 191 #[.val (.int k1), .val (.int k2), .val (.int k3), .val (.ref b1), .val (.int k1), .unset] [])) _
                      refine XS.iconst X65.here hx rfl (hb hby at_191) ?_
                      show Steps p.tables e below (T65.setTop (mkF m 192 #[.val (.int k1), .val (.int k2), .val (.int k3), .val (.ref b1), .val (.int k1), .unset] [(.int (1 : Int32))])) _
                      refine XS.goto X65.here hx rfl (pc0 := 192) (pc' := 196) rfl (hb hby at_192) (by decide) (by decide) ?_
                      show Steps p.tables e below (T65.setTop (mkF m 196 #[.val (.int k1), .val (.int k2), .val (.int k3), .val (.ref b1), .val (.int k1), .unset] [(.int (1 : Int32))])) _
                      exact castTop (by simp only [hm196, if_neg d71, if_pos d72, if_neg d73, if_pos d82, if_pos d83, if_neg d84, if_neg d85, if_pos d86]) kt
                    · skip
                      show Steps p.tables e below (T65.setTop (mkF m 188 #[.val (.int k1), .val (.int k2), .val (.int k3), .val (.ref b1), .val (.int k1), .unset] [(.int (1114111 : Int32)), (.int k1)])) _
                      refine XS.icmpYes X65.here hx rfl (pc0 := 188) (pc' := 195) rfl (hb hby at_188) rfl (flt d86).2.2.2 (by decide) (by decide) ?_
                      show Steps p.tables e below (T65.setTop (mkF m 195 #[.val (.int k1), .val (.int k2), .val (.int k3), .val (.ref b1), .val (.int k1), .unset] [])) _
                      refine XS.iconst X65.here hx rfl (hb hby at_195) ?_
                      show Steps p.tables e below (T65.setTop (mkF m 196 #[.val (.int k1), .val (.int k2), .val (.int k3), .val (.ref b1), .val (.int k1), .unset] [(.int (0 : Int32))])) _
                      exact castTop (by simp only [hm196, if_neg d71, if_pos d72, if_neg d73, if_pos d82, if_pos d83, if_neg d84, if_neg d85, if_neg d86]) kt
              · skip
                show Steps p.tables e below (T65.setTop (mkF m 160 #[.val (.int k1), .val (.int k2), .val (.int k3), .val (.ref b1), .val (.int k1), .unset] [(.int (55296 : Int32)), (.int k1)])) _
                refine XS.icmpNo X65.here hx rfl (hb hby at_160) rfl (flt d83).1 ?_
                show Steps p.tables e below (T65.setTop (mkF m 163 #[.val (.int k1), .val (.int k2), .val (.int k3), .val (.ref b1), .val (.int k1), .unset] [])) _
                refine XS.iload X65.here hx rfl (hb hby at_163) rfl ?_
                show Steps p.tables e below (T65.setTop (mkF m 165 #[.val (.int k1), .val (.int k2), .val (.int k3), .val (.ref b1), .val (.int k1), .unset] [(.int k1)])) _
                refine X65.ldcInt hx hown (mvT hZ (hw _ (List.mem_of_getElem? (i := 3) rfl))) (g := (mkF m 165 #[.val (.int k1), .val (.int k2), .val (.int k3), .val (.ref b1), .val (.int k1), .unset] [(.int k1)])) rfl (hb hby at_165) _ ?_
                by_cases d87 : (57343 : Int32) < k1
                · skip
                  show Steps p.tables e below (T65.setTop (mkF m 167 #[.val (.int k1), .val (.int k2), .val (.int k3), .val (.ref b1), .val (.int k1), .unset] [(.int (57343 : Int32)), (.int k1)])) _
                  refine XS.icmpNo X65.here hx rfl (hb hby at_167) rfl (tlt d87).2.2.2 ?_
                  show Steps p.tables e below (T65.setTop (mkF m 170 #[.val (.int k1), .val (.int k2), .val (.int k3), .val (.ref b1), .val (.int k1), .unset] [])) _
                  refine XS.iload X65.here hx rfl (hb hby at_170) rfl ?_
                  show Steps p.tables e below (T65.setTop (mkF m 172 #[.val (.int k1), .val (.int k2), .val (.int k3), .val (.ref b1), .val (.int k1), .unset] [(.int k1)])) _
                  refine X65.ldcInt hx hown (mvT hZ (hw _ (List.mem_of_getElem? (i := 16) rfl))) (g := (mkF m 172 #[.val (.int k1), .val (.int k2), .val (.int k3), .val (.ref b1), .val (.int k1), .unset] [(.int k1)])) rfl (hb hby at_172) _ ?_
                  by_cases d88 : k1 = (65534 : Int32)
                  · skip
                    show Steps p.tables e below (T65.setTop (mkF m 174 #[.val (.int k1), .val (.int k2), .val (.int k3), .val (.ref b1), .val (.int k1), .unset] [(.int (65534 : Int32)), (.int k1)])) _
                    refine XS.icmpYes X65.here hx rfl (pc0 := 174) (pc' := 191) rfl (hb hby at_174) rfl (teq d88).1 (by decide) (by decide) ?_
                    show Steps p.tables e below (T65.setTop (mkF m 191 #[.val (.int k1), .val (.int k2), .val (.int k3), .val (.ref b1), .val (.int k1), .unset] [])) _
                    refine XS.iconst X65.here hx rfl (hb hby at_191) ?_
                    show Steps p.tables e below (T65.setTop (mkF m 192 #[.val (.int k1), .val (.int k2), .val (.int k3), .val (.ref b1), .val (.int k1), .unset] [(.int (1 : Int32))])) _
                    refine XS.goto X65.here hx rfl (pc0 := 192) (pc' := 196) rfl (hb hby at_192) (by decide) (by decide) ?_
                    show Steps p.tables e below (T65.setTop (mkF m 196 #[.val (.int k1), .val (.int k2), .val (.int k3), .val (.ref b1), .val (.int k1), .unset] [(.int (1 : Int32))])) _
                    exact castTop (by simp only [hm196, if_neg d71, if_pos d72, if_neg d73, if_pos d82, if_neg d83, if_pos d87, if_pos d88]) kt
                  · skip
                    show Steps p.tables e below (T65.setTop (mkF m 174 #[.val (.int k1), .val (.int k2), .val (.int k3), .val (.ref b1), .val (.int k1), .unset] [(.int (65534 : Int32)), (.int k1)])) _
                    refine XS.icmpNo X65.here hx rfl (hb hby at_174) rfl (feq d88).1 ?_
                    show Steps p.tables e below (T65.setTop (mkF m 177 #[.val (.int k1), .val (.int k2), .val (.int k3), .val (.ref b1), .val (.int k1), .unset] [])) _
                    refine XS.iload X65.here hx rfl (hb hby at_177) rfl ?_
                    show Steps p.tables e below (T65.setTop (mkF m 179 #[.val (.int k1), .val (.int k2), .val (.int k3), .val (.ref b1), .val (.int k1), .unset] [(.int k1)])) _
                    refine X65.ldcInt hx hown (mvT hZ (hw _ (List.mem_of_getElem? (i := 6) rfl))) (g := (mkF m 179 #[.val (.int k1), .val (.int k2), .val (.int k3), .val (.ref b1), .val (.int k1), .unset] [(.int k1)])) rfl (hb hby at_179) _ ?_
                    by_cases d89 : k1 = (65535 : Int32)
                    · skip
                      show Steps p.tables e below (T65.setTop (mkF m 181 #[.val (.int k1), .val (.int k2), .val (.int k3), .val (.ref b1), .val (.int k1), .unset] [(.int (65535 : Int32)), (.int k1)])) _
                      refine XS.icmpYes X65.here hx rfl (pc0 := 181) (pc' := 191) rfl (hb hby at_181) rfl (teq d89).1 (by decide) (by decide) ?_
                      show Steps p.tables e below (T65.setTop (mkF m 191 #[.val (.int k1), .val (.int k2), .val (.int k3), .val (.ref b1), .val (.int k1), .unset] [])) _
                      refine XS.iconst X65.here hx rfl (hb hby at_191) ?_
                      show Steps p.tables e below (T65.setTop (mkF m 192 #[.val (.int k1), .val (.int k2), .val (.int k3), .val (.ref b1), .val (.int k1), .unset] [(.int (1 : Int32))])) _
                      refine XS.goto X65.here hx rfl (pc0 := 192) (pc' := 196) rfl (hb hby at_192) (by decide) (by decide) ?_
                      show Steps p.tables e below (T65.setTop (mkF m 196 #[.val (.int k1), .val (.int k2), .val (.int k3), .val (.ref b1), .val (.int k1), .unset] [(.int (1 : Int32))])) _
                      exact castTop (by simp only [hm196, if_neg d71, if_pos d72, if_neg d73, if_pos d82, if_neg d83, if_pos d87, if_neg d88, if_pos d89]) kt
                    · skip
                      show Steps p.tables e below (T65.setTop (mkF m 181 #[.val (.int k1), .val (.int k2), .val (.int k3), .val (.ref b1), .val (.int k1), .unset] [(.int (65535 : Int32)), (.int k1)])) _
                      refine XS.icmpNo X65.here hx rfl (hb hby at_181) rfl (feq d89).1 ?_
                      show Steps p.tables e below (T65.setTop (mkF m 184 #[.val (.int k1), .val (.int k2), .val (.int k3), .val (.ref b1), .val (.int k1), .unset] [])) _
                      refine XS.iload X65.here hx rfl (hb hby at_184) rfl ?_
                      show Steps p.tables e below (T65.setTop (mkF m 186 #[.val (.int k1), .val (.int k2), .val (.int k3), .val (.ref b1), .val (.int k1), .unset] [(.int k1)])) _
                      refine X65.ldcInt hx hown (mvT hZ (hw _ (List.mem_of_getElem? (i := 8) rfl))) (g := (mkF m 186 #[.val (.int k1), .val (.int k2), .val (.int k3), .val (.ref b1), .val (.int k1), .unset] [(.int k1)])) rfl (hb hby at_186) _ ?_
                      by_cases d90 : (1114111 : Int32) < k1
                      · skip
                        show Steps p.tables e below (T65.setTop (mkF m 188 #[.val (.int k1), .val (.int k2), .val (.int k3), .val (.ref b1), .val (.int k1), .unset] [(.int (1114111 : Int32)), (.int k1)])) _
                        refine XS.icmpNo X65.here hx rfl (hb hby at_188) rfl (tlt d90).2.2.2 ?_
                        show Steps p.tables e below (T65.setTop (mkF m 191 #[.val (.int k1), .val (.int k2), .val (.int k3), .val (.ref b1), .val (.int k1), .unset] [])) _
                        refine XS.iconst X65.here hx rfl (hb hby at_191) ?_
                        show Steps p.tables e below (T65.setTop (mkF m 192 #[.val (.int k1), .val (.int k2), .val (.int k3), .val (.ref b1), .val (.int k1), .unset] [(.int (1 : Int32))])) _
                        refine XS.goto X65.here hx rfl (pc0 := 192) (pc' := 196) rfl (hb hby at_192) (by decide) (by decide) ?_
                        show Steps p.tables e below (T65.setTop (mkF m 196 #[.val (.int k1), .val (.int k2), .val (.int k3), .val (.ref b1), .val (.int k1), .unset] [(.int (1 : Int32))])) _
                        exact castTop (by simp only [hm196, if_neg d71, if_pos d72, if_neg d73, if_pos d82, if_neg d83, if_pos d87, if_neg d88, if_neg d89, if_pos d90]) kt
                      · skip
                        show Steps p.tables e below (T65.setTop (mkF m 188 #[.val (.int k1), .val (.int k2), .val (.int k3), .val (.ref b1), .val (.int k1), .unset] [(.int (1114111 : Int32)), (.int k1)])) _
                        refine XS.icmpYes X65.here hx rfl (pc0 := 188) (pc' := 195) rfl (hb hby at_188) rfl (flt d90).2.2.2 (by decide) (by decide) ?_
                        show Steps p.tables e below (T65.setTop (mkF m 195 #[.val (.int k1), .val (.int k2), .val (.int k3), .val (.ref b1), .val (.int k1), .unset] [])) _
                        refine XS.iconst X65.here hx rfl (hb hby at_195) ?_
                        show Steps p.tables e below (T65.setTop (mkF m 196 #[.val (.int k1), .val (.int k2), .val (.int k3), .val (.ref b1), .val (.int k1), .unset] [(.int (0 : Int32))])) _
                        exact castTop (by simp only [hm196, if_neg d71, if_pos d72, if_neg d73, if_pos d82, if_neg d83, if_pos d87, if_neg d88, if_neg d89, if_neg d90]) kt
                · skip
                  show Steps p.tables e below (T65.setTop (mkF m 167 #[.val (.int k1), .val (.int k2), .val (.int k3), .val (.ref b1), .val (.int k1), .unset] [(.int (57343 : Int32)), (.int k1)])) _
                  refine XS.icmpYes X65.here hx rfl (pc0 := 167) (pc' := 191) rfl (hb hby at_167) rfl (flt d87).2.2.2 (by decide) (by decide) ?_
                  show Steps p.tables e below (T65.setTop (mkF m 191 #[.val (.int k1), .val (.int k2), .val (.int k3), .val (.ref b1), .val (.int k1), .unset] [])) _
                  refine XS.iconst X65.here hx rfl (hb hby at_191) ?_
                  show Steps p.tables e below (T65.setTop (mkF m 192 #[.val (.int k1), .val (.int k2), .val (.int k3), .val (.ref b1), .val (.int k1), .unset] [(.int (1 : Int32))])) _
                  refine XS.goto X65.here hx rfl (pc0 := 192) (pc' := 196) rfl (hb hby at_192) (by decide) (by decide) ?_
                  show Steps p.tables e below (T65.setTop (mkF m 196 #[.val (.int k1), .val (.int k2), .val (.int k3), .val (.ref b1), .val (.int k1), .unset] [(.int (1 : Int32))])) _
                  exact castTop (by simp only [hm196, if_neg d71, if_pos d72, if_neg d73, if_pos d82, if_neg d83, if_neg d87]) kt
            · skip
              show Steps p.tables e below (T65.setTop (mkF m 146 #[.val (.int k1), .val (.int k2), .val (.int k3), .val (.ref b1), .val (.int k1), .unset] [(.int (10 : Int32)), (.int k1)])) _
              refine XS.icmpNo X65.here hx rfl (hb hby at_146) rfl (feq d82).1 ?_
              show Steps p.tables e below (T65.setTop (mkF m 149 #[.val (.int k1), .val (.int k2), .val (.int k3), .val (.ref b1), .val (.int k1), .unset] [])) _
              refine XS.iload X65.here hx rfl (hb hby at_149) rfl ?_
              show Steps p.tables e below (T65.setTop (mkF m 151 #[.val (.int k1), .val (.int k2), .val (.int k3), .val (.ref b1), .val (.int k1), .unset] [(.int k1)])) _
              refine XS.bipush X65.here hx rfl (hb hby at_151) ?_
              by_cases d91 : k1 = (13 : Int32)
              · skip
                show Steps p.tables e below (T65.setTop (mkF m 153 #[.val (.int k1), .val (.int k2), .val (.int k3), .val (.ref b1), .val (.int k1), .unset] [(.int (13 : Int32)), (.int k1)])) _
                refine XS.icmpNo X65.here hx rfl (hb hby at_153) rfl (teq d91).2 ?_
                show Steps p.tables e below (T65.setTop (mkF m 156 #[.val (.int k1), .val (.int k2), .val (.int k3), .val (.ref b1), .val (.int k1), .unset] [])) _
                refine XS.iload X65.here hx rfl (hb hby at_156) rfl ?_
                show Steps p.tables e below (T65.setTop (mkF m 158 #[.val (.int k1), .val (.int k2), .val (.int k3), .val (.ref b1), .val (.int k1), .unset] [(.int k1)])) _
                refine X65.ldcInt hx hown (mvT hZ (hw _ (List.mem_of_getElem? (i := 2) rfl))) (g := (mkF m 158 #[.val (.int k1), .val (.int k2), .val (.int k3), .val (.ref b1), .val (.int k1), .unset] [(.int k1)])) rfl (hb hby at_158) _ ?_
                by_cases d92 : k1 < (55296 : Int32)
                · skip
                  show Steps p.tables e below (T65.setTop (mkF m 160 #[.val (.int k1), .val (.int k2), .val (.int k3), .val (.ref b1), .val (.int k1), .unset] [(.int (55296 : Int32)), (.int k1)])) _
                  refine XS.icmpYes X65.here hx rfl (pc0 := 160) (pc' := 170) rfl (hb hby at_160) rfl (tlt d92).1 (by decide) (by decide) ?_
                  show Steps p.tables e below (T65.setTop (mkF m 170 #[.val (.int k1), .val (.int k2), .val (.int k3), .val (.ref b1), .val (.int k1), .unset] [])) _
                  refine XS.iload X65.here hx rfl (hb hby at_170) rfl ?_
                  show Steps p.tables e below (T65.setTop (mkF m 172 #[.val (.int k1), .val (.int k2), .val (.int k3), .val (.ref b1), .val (.int k1), .unset] [(.int k1)])) _
                  refine X65.ldcInt hx hown (mvT hZ (hw _ (List.mem_of_getElem? (i := 16) rfl))) (g := (mkF m 172 #[.val (.int k1), .val (.int k2), .val (.int k3), .val (.ref b1), .val (.int k1), .unset] [(.int k1)])) rfl (hb hby at_172) _ ?_
                  by_cases d93 : k1 = (65534 : Int32)
                  · skip
                    show Steps p.tables e below (T65.setTop (mkF m 174 #[.val (.int k1), .val (.int k2), .val (.int k3), .val (.ref b1), .val (.int k1), .unset] [(.int (65534 : Int32)), (.int k1)])) _
                    refine XS.icmpYes X65.here hx rfl (pc0 := 174) (pc' := 191) rfl (hb hby at_174) rfl (teq d93).1 (by decide) (by decide) ?_
                    show Steps p.tables e below (T65.setTop (mkF m 191 #[.val (.int k1), .val (.int k2), .val (.int k3), .val (.ref b1), .val (.int k1), .unset] [])) _
                    refine XS.iconst X65.here hx rfl (hb hby at_191) ?_
                    show Steps p.tables e below (T65.setTop (mkF m 192 #[.val (.int k1), .val (.int k2), .val (.int k3), .val (.ref b1), .val (.int k1), .unset] [(.int (1 : Int32))])) _
                    refine XS.goto X65.here hx rfl (pc0 := 192) (pc' := 196) rfl (hb hby at_192) (by decide) (by decide) ?_
                    show Steps p.tables e below (T65.setTop (mkF m 196 #[.val (.int k1), .val (.int k2), .val (.int k3), .val (.ref b1), .val (.int k1), .unset] [(.int (1 : Int32))])) _
                    exact castTop (by simp only [hm196, if_neg d71, if_pos d72, if_neg d73, if_neg d82, if_pos d91, if_pos d92, if_pos d93]) kt
                  · skip
                    show Steps p.tables e below (T65.setTop (mkF m 174 #[.val (.int k1), .val (.int k2), .val (.int k3), .val (.ref b1), .val (.int k1), .unset] [(.int (65534 : Int32)), (.int k1)])) _
                    refine XS.icmpNo X65.here hx rfl (hb hby at_174) rfl (feq d93).1 ?_
                    show Steps p.tables e below (T65.setTop (mkF m 177 #[.val (.int k1), .val (.int k2), .val (.int k3), .val (.ref b1), .val (.int k1), .unset] [])) _
                    refine XS.iload X65.here hx rfl (hb hby at_177) rfl ?_
                    show Steps p.tables e below (T65.setTop (mkF m 179 #[.val (.int k1), .val (.int k2), .val (.int k3), .val (.ref b1), .val (.int k1), .unset] [(.int k1)])) _
                    refine X65.ldcInt hx hown (mvT hZ (hw _ (List.mem_of_getElem? (i := 6) rfl))) (g := (mkF m 179 #[.val (.int k1), .val (.int k2), .val (.int k3), .val (.ref b1), .val (.int k1), .unset] [(.int k1)])) rfl (hb hby at_179) _ ?_
                    by_cases d94 : k1 = (65535 : Int32)
                    · skip
                      show Steps p.tables e below (T65.setTop (mkF m 181 #[.val (.int k1), .val (.int k2), .val (.int k3), .val (.ref b1), .val (.int k1), .unset] [(.int (65535 : Int32)), (.int k1)])) _
                      refine XS.icmpYes X65.here hx rfl (pc0 := 181) (pc' := 191) rfl (hb hby at_181) rfl (teq d94).1 (by decide) (by decide) ?_
                      show Steps p.tables e below (T65.setTop (mkF m 191 #[.val (.int k1), .val (.int k2), .val (.int k3), .val (.ref b1), .val (.int k1), .unset] [])) _
                      refine XS.iconst X65.here hx rfl (hb hby at_191) ?_
                      show Steps p.tables e below (T65.setTop (mkF m 192 #[.val (.int k1), .val (.int k2), .val (.int k3), .val (.ref b1), .val (.int k1), .unset] [(.int (1 : Int32))])) _
                      refine XS.goto X65.here hx rfl (pc0 := 192) (pc' := 196) rfl (hb hby at_192) (by decide) (by decide) ?_
                      show Steps p.tables e below (T65.setTop (mkF m 196 #[.val (.int k1), .val (.int k2), .val (.int k3), .val (.ref b1), .val (.int k1), .unset] [(.int (1 : Int32))])) _
                      exact castTop (by simp only [hm196, if_neg d71, if_pos d72, if_neg d73, if_neg d82, if_pos d91, if_pos d92, if_neg d93, if_pos d94]) kt
                    · skip
                      show Steps p.tables e below (T65.setTop (mkF m 181 #[.val (.int k1), .val (.int k2), .val (.int k3), .val (.ref b1), .val (.int k1), .unset] [(.int (65535 : Int32)), (.int k1)])) _
                      refine XS.icmpNo X65.here hx rfl (hb hby at_181) rfl (feq d94).1 ?_
                      show Steps p.tables e below (T65.setTop (mkF m 184 #[.val (.int k1), .val (.int k2), .val (.int k3), .val (.ref b1), .val (.int k1), .unset] [])) _
                      refine XS.iload X65.here hx rfl (hb hby at_184) rfl ?_
                      show Steps p.tables e below (T65.setTop (mkF m 186 #[.val (.int k1), .val (.int k2), .val (.int k3), .val (.ref b1), .val (.int k1), .unset] [(.int k1)])) _
                      refine X65.ldcInt hx hown (mvT hZ (hw _ (List.mem_of_getElem? (i := 8) rfl))) (g := (mkF m 186 #[.val (.int k1), .val (.int k2), .val (.int k3), .val (.ref b1), .val (.int k1), .unset] [(.int k1)])) rfl (hb hby at_186) _ ?_
                      by_cases d95 : (1114111 : Int32) < k1
                      · skip
                        show Steps p.tables e below (T65.setTop (mkF m 188 #[.val (.int k1), .val (.int k2), .val (.int k3), .val (.ref b1), .val (.int k1), .unset] [(.int (1114111 : Int32)), (.int k1)])) _
                        refine XS.icmpNo X65.here hx rfl (hb hby at_188) rfl (tlt d95).2.2.2 ?_
                        show Steps p.tables e below (T65.setTop (mkF m 191 #[.val (.int k1), .val (.int k2), .val (.int k3), .val (.ref b1), .val (.int k1), .unset] [])) _
                        refine XS.iconst X65.here hx rfl (hb hby at_191) ?_
                        show Steps p.tables e below (T65.setTop (mkF m 192 #[.val (.int k1), .val (.int k2), .val (.int k3), .val (.ref b1), .val (.int k1), .unset] [(.int (1 : Int32))])) _
                        refine XS.goto X65.here hx rfl (pc0 := 192) (pc' := 196) rfl (hb hby at_192) (by decide) (by decide) ?_
                        show Steps p.tables e below (T65.setTop (mkF m 196 #[.val (.int k1), .val (.int k2), .val (.int k3), .val (.ref b1), .val (.int k1), .unset] [(.int (1 : Int32))])) _
                        exact castTop (by simp only [hm196, if_neg d71, if_pos d72, if_neg d73, if_neg d82, if_pos d91, if_pos d92, if_neg d93, if_neg d94, if_pos d95]) kt
                      · skip
                        show Steps p.tables e below (T65.setTop (mkF m 188 #[.val (.int k1), .val (.int k2), .val (.int k3), .val (.ref b1), .val (.int k1), .unset] [(.int (1114111 : Int32)), (.int k1)])) _
                        refine XS.icmpYes X65.here hx rfl (pc0 := 188) (pc' := 195) rfl (hb hby at_188) rfl (flt d95).2.2.2 (by decide) (by decide) ?_
                        show Steps p.tables e below (T65.setTop (mkF m 195 #[.val (.int k1), .val (.int k2), .val (.int k3), .val (.ref b1), .val (.int k1), .unset] [])) _
                        refine XS.iconst X65.here hx rfl (hb hby at_195) ?_
                        show Steps p.tables e below (T65.setTop (mkF m 196 #[.val (.int k1), .val (.int k2), .val (.int k3), .val (.ref b1), .val (.int k1), .unset] [(.int (0 : Int32))])) _
                        exact castTop (by simp only [hm196, if_neg d71, if_pos d72, if_neg d73, if_neg d82, if_pos d91, if_pos d92, if_neg d93, if_neg d94, if_neg d95]) kt
                · skip
                  show Steps p.tables e below (T65.setTop (mkF m 160 #[.val (.int k1), .val (.int k2), .val (.int k3), .val (.ref b1), .val (.int k1), .unset] [(.int (55296 : Int32)), (.int k1)])) _
                  refine XS.icmpNo X65.here hx rfl (hb hby at_160) rfl (flt d92).1 ?_
                  show Steps p.tables e below (T65.setTop (mkF m 163 #[.val (.int k1), .val (.int k2), .val (.int k3), .val (.ref b1), .val (.int k1), .unset] [])) _
                  refine XS.iload X65.here hx rfl (hb hby at_163) rfl ?_
                  show Steps p.tables e below (T65.setTop (mkF m 165 #[.val (.int k1), .val (.int k2), .val (.int k3), .val (.ref b1), .val (.int k1), .unset] [(.int k1)])) _
                  refine X65.ldcInt hx hown (mvT hZ (hw _ (List.mem_of_getElem? (i := 3) rfl))) (g := (mkF m 165 #[.val (.int k1), .val (.int k2), .val (.int k3), .val (.ref b1), .val (.int k1), .unset] [(.int k1)])) rfl (hb hby at_165) _ ?_
                  by_cases d96 : (57343 : Int32) < k1
                  · skip
                    show Steps p.tables e below (T65.setTop (mkF m 167 #[.val (.int k1), .val (.int k2), .val (.int k3), .val (.ref b1), .val (.int k1), .unset] [(.int (57343 : Int32)), (.int k1)])) _
                    refine XS.icmpNo X65.here hx rfl (hb hby at_167) rfl (tlt d96).2.2.2 ?_
                    show Steps p.tables e below (T65.setTop (mkF m 170 #[.val (.int k1), .val (.int k2), .val (.int k3), .val (.ref b1), .val (.int k1), .unset] [])) _
                    refine XS.iload X65.here hx rfl (hb hby at_170) rfl ?_
                    show Steps p.tables e below (T65.setTop (mkF m 172 #[.val (.int k1), .val (.int k2), .val (.int k3), .val (.ref b1), .val (.int k1), .unset] [(.int k1)])) _
                    refine X65.ldcInt hx hown (mvT hZ (hw _ (List.mem_of_getElem? (i := 16) rfl))) (g := (mkF m 172 #[.val (.int k1), .val (.int k2), .val (.int k3), .val (.ref b1), .val (.int k1), .unset] [(.int k1)])) rfl (hb hby at_172) _ ?_
                    by_cases d97 : k1 = (65534 : Int32)
                    · skip
                      show Steps p.tables e below (T65.setTop (mkF m 174 #[.val (.int k1), .val (.int k2), .val (.int k3), .val (.ref b1), .val (.int k1), .unset] [(.int (65534 : Int32)), (.int k1)])) _
                      refine XS.icmpYes X65.here hx rfl (pc0 := 174) (pc' := 191) rfl (hb hby at_174) rfl (teq d97).1 (by decide) (by decide) ?_
                      show Steps p.tables e below (T65.setTop (mkF m 191 #[.val (.int k1), .val (.int k2), .val (.int k3), .val (.ref b1), .val (.int k1), .unset] [])) _
                      refine XS.iconst X65.here hx rfl (hb hby at_191) ?_
                      show Steps p.tables e below (T65.setTop (mkF m 192 #[.val (.int k1), .val (.int k2), .val (.int k3), .val (.ref b1), .val (.int k1), .unset] [(.int (1 : Int32))])) _
                      refine XS.goto X65.here hx rfl (pc0 := 192) (pc' := 196) rfl (hb hby at_192) (by decide) (by decide) ?_
                      show Steps p.tables e below (T65.setTop (mkF m 196 #[.val (.int k1), .val (.int k2), .val (.int k3), .val (.ref b1), .val (.int k1), .unset] [(.int (1 : Int32))])) _
                      exact castTop (by simp only [hm196, if_neg d71, if_pos d72, if_neg d73, if_neg d82, if_pos d91, if_neg d92, if_pos d96, if_pos d97]) kt
                    · skip
                      show Steps p.tables e below (T65.setTop (mkF m 174 #[.val (.int k1), .val (.int k2), .val (.int k3), .val (.ref b1), .val (.int k1), .unset] [(.int (65534 : Int32)), (.int k1)])) _
                      refine XS.icmpNo X65.here hx rfl (hb hby at_174) rfl (feq d97).1 ?_
                      show Steps p.tables e below (T65.setTop (mkF m 177 #[.val (.int k1), .val (.int k2), .val (.int k3), .val (.ref b1), .val (.int k1), .unset] [])) _
                      refine XS.iload X65.here hx rfl (hb hby at_177) rfl ?_
                      show Steps p.tables e below (T65.setTop (mkF m 179 #[.val (.int k1), .val (.int k2), .val (.int k3), .val (.ref b1), .val (.int k1), .unset] [(.int k1)])) _
                      refine X65.ldcInt hx hown (mvT hZ (hw _ (List.mem_of_getElem? (i := 6) rfl))) (g := (mkF m 179 #[.val (.int k1), .val (.int k2), .val (.int k3), .val (.ref b1), .val (.int k1), .unset] [(.int k1)])) rfl (hb hby at_179) _ ?_
                      by_cases d98 : k1 = (65535 : Int32)
                      · skip
                        show Steps p.tables e below (T65.setTop (mkF m 181 #[.val (.int k1), .val (.int k2), .val (.int k3), .val (.ref b1), .val (.int k1), .unset] [(.int (65535 : Int32)), (.int k1)])) _
                        refine XS.icmpYes X65.here hx rfl (pc0 := 181) (pc' := 191) rfl (hb hby at_181) rfl (teq d98).1 (by decide) (by decide) ?_
                        show Steps p.tables e below (T65.setTop (mkF m 191 #[.val (.int k1), .val (.int k2), .val (.int k3), .val (.ref b1), .val (.int k1), .unset] [])) _
                        refine XS.iconst X65.here hx rfl (hb hby at_191) ?_
                        show Steps p.tables e below (T65.setTop (mkF m 192 #[.val (.int k1), .val (.int k2), .val (.int k3), .val (.ref b1), .val (.int k1), .unset] [(.int (1 : Int32))])) _
                        refine XS.goto X65.here hx rfl (pc0 := 192) (pc' := 196) rfl (hb hby at_192) (by decide) (by decide) ?_
                        show Steps p.tables e below (T65.setTop (mkF m 196 #[.val (.int k1), .val (.int k2), .val (.int k3), .val (.ref b1), .val (.int k1), .unset] [(.int (1 : Int32))])) _
                        exact castTop (by simp only [hm196, if_neg d71, if_pos d72, if_neg d73, if_neg d82, if_pos d91, if_neg d92, if_pos d96, if_neg d97, if_pos d98]) kt
                      · skip
                        show Steps p.tables e below (T65.setTop (mkF m 181 #[.val (.int k1), .val (.int k2), .val (.int k3), .val (.ref b1), .val (.int k1), .unset] [(.int (65535 : Int32)), (.int k1)])) _
                        refine XS.icmpNo X65.here hx rfl (hb hby at_181) rfl (feq d98).1 ?_
                        show Steps p.tables e below (T65.setTop (mkF m 184 #[.val (.int k1), .val (.int k2), .val (.int k3), .val (.ref b1), .val (.int k1), .unset] [])) _
                        refine XS.iload X65.here hx rfl (hb hby at_184) rfl ?_
                        show Steps p.tables e below (T65.setTop (mkF m 186 #[.val (.int k1), .val (.int k2), .val (.int k3), .val (.ref b1), .val (.int k1), .unset] [(.int k1)])) _
                        refine X65.ldcInt hx hown (mvT hZ (hw _ (List.mem_of_getElem? (i := 8) rfl))) (g := (mkF m 186 #[.val (.int k1), .val (.int k2), .val (.int k3), .val (.ref b1), .val (.int k1), .unset] [(.int k1)])) rfl (hb hby at_186) _ ?_
                        by_cases d99 : (1114111 : Int32) < k1
                        · skip
                          show Steps p.tables e below (T65.setTop (mkF m 188 #[.val (.int k1), .val (.int k2), .val (.int k3), .val (.ref b1), .val (.int k1), .unset] [(.int (1114111 : Int32)), (.int k1)])) _
                          refine XS.icmpNo X65.here hx rfl (hb hby at_188) rfl (tlt d99).2.2.2 ?_
                          show Steps p.tables e below (T65.setTop (mkF m 191 #[.val (.int k1), .val (.int k2), .val (.int k3), .val (.ref b1), .val (.int k1), .unset] [])) _
                          refine XS.iconst X65.here hx rfl (hb hby at_191) ?_
                          show Steps p.tables e below (T65.setTop (mkF m 192 #[.val (.int k1), .val (.int k2), .val (.int k3), .val (.ref b1), .val (.int k1), .unset] [(.int (1 : Int32))])) _
                          refine XS.goto X65.here hx rfl (pc0 := 192) (pc' := 196) rfl (hb hby at_192) (by decide) (by decide) ?_
                          show Steps p.tables e below (T65.setTop (mkF m 196 #[.val (.int k1), .val (.int k2), .val (.int k3), .val (.ref b1), .val (.int k1), .unset] [(.int (1 : Int32))])) _
                          exact castTop (by simp only [hm196, if_neg d71, if_pos d72, if_neg d73, if_neg d82, if_pos d91, if_neg d92, if_pos d96, if_neg d97, if_neg d98, if_pos d99]) kt
                        · skip
                          show Steps p.tables e below (T65.setTop (mkF m 188 #[.val (.int k1), .val (.int k2), .val (.int k3), .val (.ref b1), .val (.int k1), .unset] [(.int (1114111 : Int32)), (.int k1)])) _
                          refine XS.icmpYes X65.here hx rfl (pc0 := 188) (pc' := 195) rfl (hb hby at_188) rfl (flt d99).2.2.2 (by decide) (by decide) ?_
                          show Steps p.tables e below (T65.setTop (mkF m 195 #[.val (.int k1), .val (.int k2), .val (.int k3), .val (.ref b1), .val (.int k1), .unset] [])) _
                          refine XS.iconst X65.here hx rfl (hb hby at_195) ?_
                          show Steps p.tables e below (T65.setTop (mkF m 196 #[.val (.int k1), .val (.int k2), .val (.int k3), .val (.ref b1), .val (.int k1), .unset] [(.int (0 : Int32))])) _
                          exact castTop (by simp only [hm196, if_neg d71, if_pos d72, if_neg d73, if_neg d82, if_pos d91, if_neg d92, if_pos d96, if_neg d97, if_neg d98, if_neg d99]) kt
                  · skip
                    show Steps p.tables e below (T65.setTop (mkF m 167 #[.val (.int k1), .val (.int k2), .val (.int k3), .val (.ref b1), .val (.int k1), .unset] [(.int (57343 : Int32)), (.int k1)])) _
                    refine XS.icmpYes X65.here hx rfl (pc0 := 167) (pc' := 191) rfl (hb hby at_167) rfl (flt d96).2.2.2 (by decide) (by decide) ?_
                    show Steps p.tables e below (T65.setTop (mkF m 191 #[.val (.int k1), .val (.int k2), .val (.int k3), .val (.ref b1), .val (.int k1), .unset] [])) _
                    refine XS.iconst X65.here hx rfl (hb hby at_191) ?_
                    show Steps p.tables e below (T65.setTop (mkF m 192 #[.val (.int k1), .val (.int k2), .val (.int k3), .val (.ref b1), .val (.int k1), .unset] [(.int (1 : Int32))])) _
                    refine XS.goto X65.here hx rfl (pc0 := 192) (pc' := 196) rfl (hb hby at_192) (by decide) (by decide) ?_
                    show Steps p.tables e below (T65.setTop (mkF m 196 #[.val (.int k1), .val (.int k2), .val (.int k3), .val (.ref b1), .val (.int k1), .unset] [(.int (1 : Int32))])) _
                    exact castTop (by simp only [hm196, if_neg d71, if_pos d72, if_neg d73, if_neg d82, if_pos d91, if_neg d92, if_neg d96]) kt
              · skip
                show Steps p.tables e below (T65.setTop (mkF m 153 #[.val (.int k1), .val (.int k2), .val (.int k3), .val (.ref b1), .val (.int k1), .unset] [(.int (13 : Int32)), (.int k1)])) _
                refine XS.icmpYes X65.here hx rfl (pc0 := 153) (pc' := 191) rfl (hb hby at_153) rfl (feq d91).2 (by decide) (by decide) ?_
                show Steps p.tables e below (T65.setTop (mkF m 191 #[.val (.int k1), .val (.int k2), .val (.int k3), .val (.ref b1), .val (.int k1), .unset] [])) _
                refine XS.iconst X65.here hx rfl (hb hby at_191) ?_
                show Steps p.tables e below (T65.setTop (mkF m 192 #[.val (.int k1), .val (.int k2), .val (.int k3), .val (.ref b1), .val (.int k1), .unset] [(.int (1 : Int32))])) _
                refine XS.goto X65.here hx rfl (pc0 := 192) (pc' := 196) rfl (hb hby at_192) (by decide) (by decide) ?_
                show Steps p.tables e below (T65.setTop (mkF m 196 #[.val (.int k1), .val (.int k2), .val (.int k3), .val (.ref b1), .val (.int k1), .unset] [(.int (1 : Int32))])) _
                exact castTop (by simp only [hm196, if_neg d71, if_pos d72, if_neg d73, if_neg d82, if_neg d91]) kt
        · skip
          show Steps p.tables e below (T65.setTop (mkF m 132 #[.val (.int k1), .val (.int k2), .val (.int k3), .val (.ref b1), .val (.int k1), .unset] [(.int (32 : Int32)), (.int k1)])) _
          refine XS.icmpYes X65.here hx rfl (pc0 := 132) (pc' := 156) rfl (hb hby at_132) rfl (flt d72).2.1 (by decide) (by decide) ?_
          show Steps p.tables e below (T65.setTop (mkF m 156 #[.val (.int k1), .val (.int k2), .val (.int k3), .val (.ref b1), .val (.int k1), .unset] [])) _
          refine XS.iload X65.here hx rfl (hb hby at_156) rfl ?_
          show Steps p.tables e below (T65.setTop (mkF m 158 #[.val (.int k1), .val (.int k2), .val (.int k3), .val (.ref b1), .val (.int k1), .unset] [(.int k1)])) _
          refine X65.ldcInt hx hown (mvT hZ (hw _ (List.mem_of_getElem? (i := 2) rfl))) (g := (mkF m 158 #[.val (.int k1), .val (.int k2), .val (.int k3), .val (.ref b1), .val (.int k1), .unset] [(.int k1)])) rfl (hb hby at_158) _ ?_
          by_cases d100 : k1 < (55296 : Int32)
          · skip
            show Steps p.tables e below (T65.setTop (mkF m 160 #[.val (.int k1), .val (.int k2), .val (.int k3), .val (.ref b1), .val (.int k1), .unset] [(.int (55296 : Int32)), (.int k1)])) _
            refine XS.icmpYes X65.here hx rfl (pc0 := 160) (pc' := 170) rfl (hb hby at_160) rfl (tlt d100).1 (by decide) (by decide) ?_
            show Steps p.tables e below (T65.setTop (mkF m 170 #[.val (.int k1), .val (.int k2), .val (.int k3), .val (.ref b1), .val (.int k1), .unset] [])) _
            refine XS.iload X65.here hx rfl (hb hby at_170) rfl ?_
            show Steps p.tables e below (T65.setTop (mkF m 172 #[.val (.int k1), .val (.int k2), .val (.int k3), .val (.ref b1), .val (.int k1), .unset] [(.int k1)])) _
            refine X65.ldcInt hx hown (mvT hZ (hw _ (List.mem_of_getElem? (i := 16) rfl))) (g := (mkF m 172 #[.val (.int k1), .val (.int k2), .val (.int k3), .val (.ref b1), .val (.int k1), .unset] [(.int k1)])) rfl (hb hby at_172) _ ?_
            by_cases d101 : k1 = (65534 : Int32)
            · skip
              show Steps p.tables e below (T65.setTop (mkF m 174 #[.val (.int k1), .val (.int k2), .val (.int k3), .val (.ref b1), .val (.int k1), .unset] [(.int (65534 : Int32)), (.int k1)])) _
              refine XS.icmpYes X65.here hx rfl (pc0 := 174) (pc' := 191) rfl (hb hby at_174) rfl (teq d101).1 (by decide) (by decide) ?_
              show Steps p.tables e below (T65.setTop (mkF m 191 #[.val (.int k1), .val (.int k2), .val (.int k3), .val (.ref b1), .val (.int k1), .unset] [])) _
              refine XS.iconst X65.here hx rfl (hb hby at_191) ?_
              show Steps p.tables e below (T65.setTop (mkF m 192 #[.val (.int k1), .val (.int k2), .val (.int k3), .val (.ref b1), .val (.int k1), .unset] [(.int (1 : Int32))])) _
              refine XS.goto X65.here hx rfl (pc0 := 192) (pc' := 196) rfl (hb hby at_192) (by decide) (by decide) ?_
              show Steps p.tables e below (T65.setTop (mkF m 196 #[.val (.int k1), .val (.int k2), .val (.int k3), .val (.ref b1), .val (.int k1), .unset] [(.int (1 : Int32))])) _
              exact castTop (by simp only [hm196, if_neg d71, if_neg d72, if_pos d100, if_pos d101]) kt
            · skip
              show Steps p.tables e below (T65.setTop (mkF m 174 #[.val (.int k1), .val (.int k2), .val (.int k3), .val (.ref b1), .val (.int k1), .unset] [(.int (65534 : Int32)), (.int k1)])) _
              refine XS.icmpNo X65.here hx rfl (hb hby at_174) rfl (feq d101).1 ?_
              show Steps p.tables e below (T65.setTop (mkF m 177 #[.val (.int k1), .val (.int k2), .val (.int k3), .val (.ref b1), .val (.int k1), .unset] [])) _
              refine XS.iload X65.here hx rfl (hb hby at_177) rfl ?_
              show Steps p.tables e below (T65.setTop (mkF m 179 #[.val (.int k1), .val (.int k2), .val (.int k3), .val (.ref b1), .val (.int k1), .unset] [(.int k1)])) _
              refine X65.ldcInt hx hown (mvT hZ (hw _ (List.mem_of_getElem? (i := 6) rfl))) (g := (mkF m 179 #[.val (.int k1), .val (.int k2), .val (.int k3), .val (.ref b1), .val (.int k1), .unset] [(.int k1)])) rfl (hb hby at_179) _ ?_
              by_cases d102 : k1 = (65535 : Int32)
              · skip
                show Steps p.tables e below (T65.setTop (mkF m 181 #[.val (.int k1), .val (.int k2), .val (.int k3), .val (.ref b1), .val (.int k1), .unset] [(.int (65535 : Int32)), (.int k1)])) _
                refine XS.icmpYes X65.here hx rfl (pc0 := 181) (pc' := 191) rfl (hb hby at_181) rfl (teq d102).1 (by decide) (by decide) ?_
                show Steps p.tables e below (T65.setTop (mkF m 191 #[.val (.int k1), .val (.int k2), .val (.int k3), .val (.ref b1), .val (.int k1), .unset] [])) _
                refine XS.iconst X65.here hx rfl (hb hby at_191) ?_
                show Steps p.tables e below (T65.setTop (mkF m 192 #[.val (.int k1), .val (.int k2), .val (.int k3), .val (.ref b1), .val (.int k1), .unset] [(.int (1 : Int32))])) _
                refine XS.goto X65.here hx rfl (pc0 := 192) (pc' := 196) rfl (hb hby at_192) (by decide) (by decide) ?_
                show Steps p.tables e below (T65.setTop (mkF m 196 #[.val (.int k1), .val (.int k2), .val (.int k3), .val (.ref b1), .val (.int k1), .unset] [(.int (1 : Int32))])) _
                exact castTop (by simp only [hm196, if_neg d71, if_neg d72, if_pos d100, if_neg d101, if_pos d102]) kt
              · skip
                show Steps p.tables e below (T65.setTop (mkF m 181 #[.val (.int k1), .val (.int k2), .val (.int k3), .val (.ref b1), .val (.int k1), .unset] [(.int (65535 : Int32)), (.int k1)])) _
                refine XS.icmpNo X65.here hx rfl (hb hby at_181) rfl (feq d102).1 ?_
                show Steps p.tables e below (T65.setTop (mkF m 184 #[.val (.int k1), .val (.int k2), .val (.int k3), .val (.ref b1), .val (.int k1), .unset] [])) _
                refine XS.iload X65.here hx rfl (hb hby at_184) rfl ?_
                show Steps p.tables e below (T65.setTop (mkF m 186 #[.val (.int k1), .val (.int k2), .val (.int k3), .val (.ref b1), .val (.int k1), .unset] [(.int k1)])) _
                refine X65.ldcInt hx hown (mvT hZ (hw _ (List.mem_of_getElem? (i := 8) rfl))) (g := (mkF m 186 #[.val (.int k1), .val (.int k2), .val (.int k3), .val (.ref b1), .val (.int k1), .unset] [(.int k1)])) rfl (hb hby at_186) _ ?_
                by_cases d103 : (1114111 : Int32) < k1
                · skip
                  show Steps p.tables e below (T65.setTop (mkF m 188 #[.val (.int k1), .val (.int k2), .val (.int k3), .val (.ref b1), .val (.int k1), .unset] [(.int (1114111 : Int32)), (.int k1)])) _
                  refine XS.icmpNo X65.here hx rfl (hb hby at_188) rfl (tlt d103).2.2.2 ?_
                  show Steps p.tables e below (T65.setTop (mkF m 191 #[.val (.int k1), .val (.int k2), .val (.int k3), .val (.ref b1), .val (.int k1), .unset] [])) _
                  refine XS.iconst X65.here hx rfl (hb hby at_191) ?_
                  show Steps p.tables e below (T65.setTop (mkF m 192 #[.val (.int k1), .val (.int k2), .val (.int k3), .val (.ref b1), .val (.int k1), .unset] [(.int (1 : Int32))])) _
                  refine XS.goto X65.here hx rfl (pc0 := 192) (pc' := 196) rfl (hb hby at_192) (by decide) (by decide) ?_
                  show Steps p.tables e below (T65.setTop (mkF m 196 #[.val (.int k1), .val (.int k2), .val (.int k3), .val (.ref b1), .val (.int k1), .unset] [(.int (1 : Int32))])) _
                  exact castTop (by simp only [hm196, if_neg d71, if_neg d72, if_pos d100, if_neg d101, if_neg d102, if_pos d103]) kt
                · skip
                  show Steps p.tables e below (T65.setTop (mkF m 188 #[.val (.int k1), .val (.int k2), .val (.int k3), .val (.ref b1), .val (.int k1), .unset] [(.int (1114111 : Int32)), (.int k1)])) _
                  refine XS.icmpYes X65.here hx rfl (pc0 := 188) (pc' := 195) rfl (hb hby at_188) rfl (flt d103).2.2.2 (by decide) (by decide) ?_
                  show Steps p.tables e below (T65.setTop (mkF m 195 #[.val (.int k1), .val (.int k2), .val (.int k3), .val (.ref b1), .val (.int k1), .unset] [])) _
                  refine XS.iconst X65.here hx rfl (hb hby at_195) ?_
                  show Steps p.tables e below (T65.setTop (mkF m 196 #[.val (.int k1), .val (.int k2), .val (.int k3), .val (.ref b1), .val (.int k1), .unset] [(.int (0 : Int32))])) _
                  exact castTop (by simp only [hm196, if_neg d71, if_neg d72, if_pos d100, if_neg d101, if_neg d102, if_neg d103]) kt
          · skip
            show Steps p.tables e below (T65.setTop (mkF m 160 #[.val (.int k1), .val (.int k2), .val (.int k3), .val (.ref b1), .val (.int k1), .unset] [(.int (55296 : Int32)), (.int k1)])) _
            refine XS.icmpNo X65.here hx rfl (hb hby at_160) rfl (flt d100).1 ?_
            show Steps p.tables e below (T65.setTop (mkF m 163 #[.val (.int k1), .val (.int k2), .val (.int k3), .val (.ref b1), .val (.int k1), .unset] [])) _
            refine XS.iload X65.here hx rfl (hb hby at_163) rfl ?_
            show Steps p.tables e below (T65.setTop (mkF m 165 #[.val (.int k1), .val (.int k2), .val (.int k3), .val (.ref b1), .val (.int k1), .unset] [(.int k1)])) _
            refine X65.ldcInt hx hown (mvT hZ (hw _ (List.mem_of_getElem? (i := 3) rfl))) (g := (mkF m 165 #[.val (.int k1), .val (.int k2), .val (.int k3), .val (.ref b1), .val (.int k1), .unset] [(.int k1)])) rfl (hb hby at_165) _ ?_
            by_cases d104 : (57343 : Int32) < k1
            · skip
              show Steps p.tables e below (T65.setTop (mkF m 167 #[.val (.int k1), .val (.int k2), .val (.int k3), .val (.ref b1), .val (.int k1), .unset] [(.int (57343 : Int32)), (.int k1)])) _
              refine XS.icmpNo X65.here hx rfl (hb hby at_167) rfl (tlt d104).2.2.2 ?_
              show Steps p.tables e below (T65.setTop (mkF m 170 #[.val (.int k1), .val (.int k2), .val (.int k3), .val (.ref b1), .val (.int k1), .unset] [])) _
              refine XS.iload X65.here hx rfl (hb hby at_170) rfl ?_
              show Steps p.tables e below (T65.setTop (mkF m 172 #[.val (.int k1), .val (.int k2), .val (.int k3), .val (.ref b1), .val (.int k1), .unset] [(.int k1)])) _
              refine X65.ldcInt hx hown (mvT hZ (hw _ (List.mem_of_getElem? (i := 16) rfl))) (g := (mkF m 172 #[.val (.int k1), .val (.int k2), .val (.int k3), .val (.ref b1), .val (.int k1), .unset] [(.int k1)])) rfl (hb hby at_172) _ ?_
              by_cases d105 : k1 = (65534 : Int32)
              · skip
                show Steps p.tables e below (T65.setTop (mkF m 174 #[.val (.int k1), .val (.int k2), .val (.int k3), .val (.ref b1), .val (.int k1), .unset] [(.int (65534 : Int32)), (.int k1)])) _
                refine XS.icmpYes X65.here hx rfl (pc0 := 174) (pc' := 191) rfl (hb hby at_174) rfl (teq d105).1 (by decide) (by decide) ?_
                show Steps p.tables e below (T65.setTop (mkF m 191 #[.val (.int k1), .val (.int k2), .val (.int k3), .val (.ref b1), .val (.int k1), .unset] [])) _
                refine XS.iconst X65.here hx rfl (hb hby at_191) ?_
                show Steps p.tables e below (T65.setTop (mkF m 192 #[.val (.int k1), .val (.int k2), .val (.int k3), .val (.ref b1), .val (.int k1), .unset] [(.int (1 : Int32))])) _
                refine XS.goto X65.here hx rfl (pc0 := 192) (pc' := 196) rfl (hb hby at_192) (by decide) (by decide) ?_
                show Steps p.tables e below (T65.setTop (mkF m 196 #[.val (.int k1), .val (.int k2), .val (.int k3), .val (.ref b1), .val (.int k1), .unset] [(.int (1 : Int32))])) _
                exact castTop (by simp only [hm196, if_neg d71, if_neg d72, if_neg d100, if_pos d104, if_pos d105]) kt
              · skip
                show Steps p.tables e below (T65.setTop (mkF m 174 #[.val (.int k1), .val (.int k2), .val (.int k3), .val (.ref b1), .val (.int k1), .unset] [(.int (65534 : Int32)), (.int k1)])) _
                refine XS.icmpNo X65.here hx rfl (hb hby at_174) rfl (feq d105).1 ?_
                show Steps p.tables e below (T65.setTop (mkF m 177 #[.val (.int k1), .val (.int k2), .val (.int k3), .val (.ref b1), .val (.int k1), .unset] [])) _
                refine XS.iload X65.here hx rfl (hb hby at_177) rfl ?_
                show Steps p.tables e below (T65.setTop (mkF m 179 #[.val (.int k1), .val (.int k2), .val (.int k3), .val (.ref b1), .val (.int k1), .unset] [(.int k1)])) _
                refine X65.ldcInt hx hown (mvT hZ (hw _ (List.mem_of_getElem? (i := 6) rfl))) (g := (mkF m 179 #[.val (.int k1), .val (.int k2), .val (.int k3), .val (.ref b1), .val (.int k1), .unset] [(.int k1)])) rfl (hb hby at_179) _ ?_
                by_cases d106 : k1 = (65535 : Int32)
                · skip
                  show Steps p.tables e below (T65.setTop (mkF m 181 #[.val (.int k1), .val (.int k2), .val (.int k3), .val (.ref b1), .val (.int k1), .unset] [(.int (65535 : Int32)), (.int k1)])) _
                  refine XS.icmpYes X65.here hx rfl (pc0 := 181) (pc' := 191) rfl (hb hby at_181) rfl (teq d106).1 (by decide) (by decide) ?_
                  show Steps p.tables e below (T65.setTop (mkF m 191 #[.val (.int k1), .val (.int k2), .val (.int k3), .val (.ref b1), .val (.int k1), .unset] [])) _
                  refine XS.iconst X65.here hx rfl (hb hby at_191) ?_
                  show Steps p.tables e below (T65.setTop (mkF m 192 #[.val (.int k1), .val (.int k2), .val (.int k3), .val (.ref b1), .val (.int k1), .unset] [(.int (1 : Int32))])) _
                  refine XS.goto X65.here hx rfl (pc0 := 192) (pc' := 196) rfl (hb hby at_192) (by decide) (by decide) ?_
                  show Steps p.tables e below (T65.setTop (mkF m 196 #[.val (.int k1), .val (.int k2), .val (.int k3), .val (.ref b1), .val (.int k1), .unset] [(.int (1 : Int32))])) _
                  exact castTop (by simp only [hm196, if_neg d71, if_neg d72, if_neg d100, if_pos d104, if_neg d105, if_pos d106]) kt
                · skip
                  show Steps p.tables e below (T65.setTop (mkF m 181 #[.val (.int k1), .val (.int k2), .val (.int k3), .val (.ref b1), .val (.int k1), .unset] [(.int (65535 : Int32)), (.int k1)])) _
                  refine XS.icmpNo X65.here hx rfl (hb hby at_181) rfl (feq d106).1 ?_
                  show Steps p.tables e below (T65.setTop (mkF m 184 #[.val (.int k1), .val (.int k2), .val (.int k3), .val (.ref b1), .val (.int k1), .unset] [])) _
                  refine XS.iload X65.here hx rfl (hb hby at_184) rfl ?_
                  show Steps p.tables e below (T65.setTop (mkF m 186 #[.val (.int k1), .val (.int k2), .val (.int k3), .val (.ref b1), .val (.int k1), .unset] [(.int k1)])) _
                  refine X65.ldcInt hx hown (mvT hZ (hw _ (List.mem_of_getElem? (i := 8) rfl))) (g := (mkF m 186 #[.val (.int k1), .val (.int k2), .val (.int k3), .val (.ref b1), .val (.int k1), .unset] [(.int k1)])) rfl (hb hby at_186) _ ?_
                  by_cases d107 : (1114111 : Int32) < k1
                  · skip
                    show Steps p.tables e below (T65.setTop (mkF m 188 #[.val (.int k1), .val (.int k2), .val (.int k3), .val (.ref b1), .val (.int k1), .unset] [(.int (1114111 : Int32)), (.int k1)])) _
                    refine XS.icmpNo X65.here hx rfl (hb hby at_188) rfl (tlt d107).2.2.2 ?_
                    show Steps p.tables e below (T65.setTop (mkF m 191 #[.val (.int k1), .val (.int k2), .val (.int k3), .val (.ref b1), .val (.int k1), .unset] [])) _
                    refine XS.iconst X65.here hx rfl (hb hby at_191) ?_
                    show Steps p.tables e below (T65.setTop (mkF m 192 #[.val (.int k1), .val (.int k2), .val (.int k3), .val (.ref b1), .val (.int k1), .unset] [(.int (1 : Int32))])) _
                    refine XS.goto X65.here hx rfl (pc0 := 192) (pc' := 196) rfl (hb hby at_192) (by decide) (by decide) ?_
                    show Steps p.tables e below (T65.setTop (mkF m 196 #[.val (.int k1), .val (.int k2), .val (.int k3), .val (.ref b1), .val (.int k1), .unset] [(.int (1 : Int32))])) _
                    exact castTop (by simp only [hm196, if_neg d71, if_neg d72, if_neg d100, if_pos d104, if_neg d105, if_neg d106, if_pos d107]) kt
                  · skip
                    show Steps p.tables e below (T65.setTop (mkF m 188 #[.val (.int k1), .val (.int k2), .val (.int k3), .val (.ref b1), .val (.int k1), .unset] [(.int (1114111 : Int32)), (.int k1)])) _
                    refine XS.icmpYes X65.here hx rfl (pc0 := 188) (pc' := 195) rfl (hb hby at_188) rfl (flt d107).2.2.2 (by decide) (by decide) ?_
                    show Steps p.tables e below (T65.setTop (mkF m 195 #[.val (.int k1), .val (.int k2), .val (.int k3), .val (.ref b1), .val (.int k1), .unset] [])) _
                    refine XS.iconst X65.here hx rfl (hb hby at_195) ?_
                    show Steps p.tables e below (T65.setTop (mkF m 196 #[.val (.int k1), .val (.int k2), .val (.int k3), .val (.ref b1), .val (.int k1), .unset] [(.int (0 : Int32))])) _
                    exact castTop (by simp only [hm196, if_neg d71, if_neg d72, if_neg d100, if_pos d104, if_neg d105, if_neg d106, if_neg d107]) kt
            · skip
              show Steps p.tables e below (T65.setTop (mkF m 167 #[.val (.int k1), .val (.int k2), .val (.int k3), .val (.ref b1), .val (.int k1), .unset] [(.int (57343 : Int32)), (.int k1)])) _
              refine XS.icmpYes X65.here hx rfl (pc0 := 167) (pc' := 191) rfl (hb hby at_167) rfl (flt d104).2.2.2 (by decide) (by decide) ?_
              show Steps p.tables e below (T65.setTop (mkF m 191 #[.val (.int k1), .val (.int k2), .val (.int k3), .val (.ref b1), .val (.int k1), .unset] [])) _
              refine XS.iconst X65.here hx rfl (hb hby at_191) ?_
              show Steps p.tables e below (T65.setTop (mkF m 192 #[.val (.int k1), .val (.int k2), .val (.int k3), .val (.ref b1), .val (.int k1), .unset] [(.int (1 : Int32))])) _
              refine XS.goto X65.here hx rfl (pc0 := 192) (pc' := 196) rfl (hb hby at_192) (by decide) (by decide) ?_
              show Steps p.tables e below (T65.setTop (mkF m 196 #[.val (.int k1), .val (.int k2), .val (.int k3), .val (.ref b1), .val (.int k1), .unset] [(.int (1 : Int32))])) _
              exact castTop (by simp only [hm196, if_neg d71, if_neg d72, if_neg d100, if_neg d104]) kt
    obtain ⟨_, _, ⟨T109, L109, k109, n109⟩, -, X109, ⟨Lc109, hQ109, l109, y109, z109⟩, st109⟩ := Jvm.LawKit.callS X65 hx (y := (⟨"com/example/marcotte/marcotte/XmlCharacters", "isAllowed", "(I)Z"⟩ : MethodName)) hown (mvT hZ (hw _ (List.mem_of_getElem? (i := 10) rfl))) (mvT hZ (hw _ (List.mem_of_getElem? (i := 11) rfl))) (mvT hZ (hw _ (List.mem_of_getElem? (i := 12) rfl))) (mvT hZ (hw _ (List.mem_of_getElem? (i := 13) rfl))) (by decide) (backOf (W := 0) (rm1 l Z a0 hw [] k1 hX65 n0 Z67 ) hZ (hw _ (List.mem_of_getElem? (i := 13) rfl)) (hw _ (List.mem_of_getElem? (i := 12) rfl)) (by decide) (by decide)) (g := (mkF m 200 #[.val (.int k1), .val (.int k2), .val (.int k3), .val (.ref b1), .val (.int k1), .val (.int m196)] [(.int k1)])) rfl (by rw [hml]; rfl) (argsL := [(.int k1)]) (rest := []) (lenOf pd_0 rfl) rfl (by show 2 * 0 + _ ≤ _; exact Nat.le_of_eq rfl) (hb hby at_200) (fun _ _ => ⟨rfl, e65, (by decide : 1 + 0 ≤ _), (by decide : 16 + 0 ≤ _)⟩)
    dsimp only [Pt.U, Pt.locs, Pt.cells, Pt.slots] at X109 l109 y109 z109 st109 hQ109
    subst l109 y109 z109
    obtain ⟨rfl, N109q, e109⟩ := hQ109
    have N109 := Fr.app N65 N109q
    obtain ⟨r200, hr200⟩ : ∃ z_q : Int32, z_q = (own_f1 k1) := ⟨_, rfl⟩
    obtain ⟨m213, hm213⟩ : ∃ z_q : Int32, z_q = (if m196 = (0 : Int32) then (1 : Int32) else (0 : Int32)) := ⟨_, rfl⟩
    have pre111 : ∀ tq, Steps p.tables e below (T109.setTop (mkF m 213 #[.val (.int k1), .val (.int k2), .val (.int k3), .val (.ref b1), .val (.int k1), .val (.int m196)] [(.int m213), (.int r200)])) tq → Steps p.tables e below (s₁.setTop (entryFrame m #[(.int k1), (.int k2), (.int k3)] maxLocals)) tq := by
      intro tq kt
      refine pre108 _ ?_
      show Steps p.tables e below (T65.setTop (mkF m 196 #[.val (.int k1), .val (.int k2), .val (.int k3), .val (.ref b1), .val (.int k1), .unset] [(.int m196)])) _
      refine XS.istore X65.here hx rfl (hb hby at_196) rfl (l' := #[.val (.int k1), .val (.int k2), .val (.int k3), .val (.ref b1), .val (.int k1), .val (.int m196)]) rfl ?_
      show Steps p.tables e below (T65.setTop (mkF m 198 #[.val (.int k1), .val (.int k2), .val (.int k3), .val (.ref b1), .val (.int k1), .val (.int m196)] [])) _
      refine XS.iload X65.here hx rfl (hb hby at_198) rfl ?_
      show Steps p.tables e below (T65.setTop (mkF m 200 #[.val (.int k1), .val (.int k2), .val (.int k3), .val (.ref b1), .val (.int k1), .val (.int m196)] [(.int k1)])) _
      refine st109 _ ?_
      show Steps p.tables e below (T109.setTop (mkF m 203 #[.val (.int k1), .val (.int k2), .val (.int k3), .val (.ref b1), .val (.int k1), .val (.int m196)] [(.int (own_f1 k1))])) _
      rw [← hr200]
      show Steps p.tables e below (T109.setTop (mkF m 203 #[.val (.int k1), .val (.int k2), .val (.int k3), .val (.ref b1), .val (.int k1), .val (.int m196)] [(.int r200)])) _
      refine XS.iload X109.here hx rfl (hb hby at_203) rfl ?_
      by_cases d110 : m196 = (0 : Int32)
      · skip
        show Steps p.tables e below (T109.setTop (mkF m 205 #[.val (.int k1), .val (.int k2), .val (.int k3), .val (.ref b1), .val (.int k1), .val (.int m196)] [(.int m196), (.int r200)])) _
        refine XS.ifNo X109.here hx rfl (hb hby at_205) rfl ((if0 _ _).trans (teq d110).2) ?_
        show Steps p.tables e below (T109.setTop (mkF m 208 #[.val (.int k1), .val (.int k2), .val (.int k3), .val (.ref b1), .val (.int k1), .val (.int m196)] [(.int r200)])) _
        refine XS.iconst X109.here hx rfl (hb hby at_208) ?_
        show Steps p.tables e below (T109.setTop (mkF m 209 #[.val (.int k1), .val (.int k2), .val (.int k3), .val (.ref b1), .val (.int k1), .val (.int m196)] [(.int (1 : Int32)), (.int r200)])) _
        refine XS.goto X109.here hx rfl (pc0 := 209) (pc' := 213) rfl (hb hby at_209) (by decide) (by decide) ?_
        show Steps p.tables e below (T109.setTop (mkF m 213 #[.val (.int k1), .val (.int k2), .val (.int k3), .val (.ref b1), .val (.int k1), .val (.int m196)] [(.int (1 : Int32)), (.int r200)])) _
        exact castTop (by simp only [hm213, if_pos d110]) kt
      · skip
        show Steps p.tables e below (T109.setTop (mkF m 205 #[.val (.int k1), .val (.int k2), .val (.int k3), .val (.ref b1), .val (.int k1), .val (.int m196)] [(.int m196), (.int r200)])) _
        refine XS.ifYes X109.here hx rfl (pc0 := 205) (pc' := 212) rfl (hb hby at_205) rfl ((if0 _ _).trans (feq d110).2) (by decide) (by decide) ?_
        show Steps p.tables e below (T109.setTop (mkF m 212 #[.val (.int k1), .val (.int k2), .val (.int k3), .val (.ref b1), .val (.int k1), .val (.int m196)] [(.int r200)])) _
        refine XS.iconst X109.here hx rfl (hb hby at_212) ?_
        show Steps p.tables e below (T109.setTop (mkF m 213 #[.val (.int k1), .val (.int k2), .val (.int k3), .val (.ref b1), .val (.int k1), .val (.int m196)] [(.int (0 : Int32)), (.int r200)])) _
        exact castTop (by simp only [hm213, if_neg d110]) kt
    obtain ⟨m221, hm221⟩ : ∃ z_q : Int32, z_q = (if r200 = m213 then (1 : Int32) else (0 : Int32)) := ⟨_, rfl⟩
    have pre113 : ∀ tq, Steps p.tables e below (T109.setTop (mkF m 221 #[.val (.int k1), .val (.int k2), .val (.int k3), .val (.ref b1), .val (.int k1), .val (.int m196)] [(.int m221)])) tq → Steps p.tables e below (s₁.setTop (entryFrame m #[(.int k1), (.int k2), (.int k3)] maxLocals)) tq := by
      intro tq kt
      refine pre111 _ ?_
      by_cases d112 : r200 = m213
      · skip
        show Steps p.tables e below (T109.setTop (mkF m 213 #[.val (.int k1), .val (.int k2), .val (.int k3), .val (.ref b1), .val (.int k1), .val (.int m196)] [(.int m213), (.int r200)])) _
        refine XS.icmpNo X109.here hx rfl (hb hby at_213) rfl (teq d112).2 ?_
        show Steps p.tables e below (T109.setTop (mkF m 216 #[.val (.int k1), .val (.int k2), .val (.int k3), .val (.ref b1), .val (.int k1), .val (.int m196)] [])) _
        refine XS.iconst X109.here hx rfl (hb hby at_216) ?_
        show Steps p.tables e below (T109.setTop (mkF m 217 #[.val (.int k1), .val (.int k2), .val (.int k3), .val (.ref b1), .val (.int k1), .val (.int m196)] [(.int (1 : Int32))])) _
        refine XS.goto X109.here hx rfl (pc0 := 217) (pc' := 221) rfl (hb hby at_217) (by decide) (by decide) ?_
        show Steps p.tables e below (T109.setTop (mkF m 221 #[.val (.int k1), .val (.int k2), .val (.int k3), .val (.ref b1), .val (.int k1), .val (.int m196)] [(.int (1 : Int32))])) _
        exact castTop (by simp only [hm221, if_pos d112]) kt
      · skip
        show Steps p.tables e below (T109.setTop (mkF m 213 #[.val (.int k1), .val (.int k2), .val (.int k3), .val (.ref b1), .val (.int k1), .val (.int m196)] [(.int m213), (.int r200)])) _
        refine XS.icmpYes X109.here hx rfl (pc0 := 213) (pc' := 220) rfl (hb hby at_213) rfl (feq d112).2 (by decide) (by decide) ?_
        show Steps p.tables e below (T109.setTop (mkF m 220 #[.val (.int k1), .val (.int k2), .val (.int k3), .val (.ref b1), .val (.int k1), .val (.int m196)] [])) _
        refine XS.iconst X109.here hx rfl (hb hby at_220) ?_
        show Steps p.tables e below (T109.setTop (mkF m 221 #[.val (.int k1), .val (.int k2), .val (.int k3), .val (.ref b1), .val (.int k1), .val (.int m196)] [(.int (0 : Int32))])) _
        exact castTop (by simp only [hm221, if_neg d112]) kt
    obtain ⟨fs, hr, hrun, hended, hW, hsame⟩ := X109.leave (v := some (Value.int (nar .boolean m221))) (fun h => by rw [Bd.returns] at h; cases h)
    have hres114 : (nar .boolean m221) = (1 : Int32) := (own_leaf_0_221_f k1 k2 k3 hc99_70 m196 hm196 r200 hr200 m213 hm213 m221 hm221)
    refine ⟨_, _, pre113 _ ?_, hrun, hended, _, _, rfl, ?_, ⟨_, rfl⟩, hW, hsame.mono (by decide) (by decide)⟩
    · skip
      show Steps p.tables e below (T109.setTop (mkF m 221 #[.val (.int k1), .val (.int k2), .val (.int k3), .val (.ref b1), .val (.int k1), .val (.int m196)] [(.int m221)])) _
      exact retN X109 hx (t := .boolean) Bd.returns (by simp) (hb hby at_221) hr
    · show Q0 Z k1 k2 k3 h0 n0 _ T109.heap _
      rw [e109]
      exact ⟨congrArg (fun z => some (Value.int z)) hres114, N109⟩
  · skip
    obtain ⟨cl115, Ar115, q115, S115, M115, H115, G115⟩ := id F66
    have hin115 : ¬ ((k2 &&& (15 : Int32)) < 0 ∨ cl115.slots.size ≤ ((k2 &&& (15 : Int32))).toNatClampNeg) := inb_of S115 (own_inb_0_113_t k1 k2 k3 hc99_70)
    obtain ⟨w113, hl115, hw113⟩ : ∃ z : Int32, ([(.int (0 : Int32)), (.int (9 : Int32)), (.int (10 : Int32)), (.int (13 : Int32)), (.int (32 : Int32)), (.int (127 : Int32)), (.int (128 : Int32)), (.int (55295 : Int32)), (.int (55296 : Int32)), (.int (57343 : Int32)), (.int (57344 : Int32)), (.int (65533 : Int32)), (.int (65535 : Int32)), (.int (65536 : Int32)), (.int (1114111 : Int32)), (.int (-2147483648 : Int32))] : List Value).getD ((k2 &&& (15 : Int32))).toNatClampNeg (.int (0 : Int32)) = .int z ∧ True := (own_load_0_113_t k1 k2 k3 hc99_70)
    have hat115 : cl115.slots[((k2 &&& (15 : Int32))).toNatClampNeg]? = some (.int w113) := Has.at H115 hin115 hl115
    obtain ⟨v121, hv121⟩ : ∃ z_q : Int32, z_q = (w113 + ((k3 &&& (7 : Int32)) - (4 : Int32))) := ⟨_, rfl⟩
    obtain ⟨m196, hm196⟩ : ∃ z_q : Int32, z_q = (if v121 < (0 : Int32) then (1 : Int32) else (if v121 < (32 : Int32) then (if v121 = (9 : Int32) then (if v121 < (55296 : Int32) then (if v121 = (65534 : Int32) then (1 : Int32) else (if v121 = (65535 : Int32) then (1 : Int32) else (if (1114111 : Int32) < v121 then (1 : Int32) else (0 : Int32)))) else (if (57343 : Int32) < v121 then (if v121 = (65534 : Int32) then (1 : Int32) else (if v121 = (65535 : Int32) then (1 : Int32) else (if (1114111 : Int32) < v121 then (1 : Int32) else (0 : Int32)))) else (1 : Int32))) else (if v121 = (10 : Int32) then (if v121 < (55296 : Int32) then (if v121 = (65534 : Int32) then (1 : Int32) else (if v121 = (65535 : Int32) then (1 : Int32) else (if (1114111 : Int32) < v121 then (1 : Int32) else (0 : Int32)))) else (if (57343 : Int32) < v121 then (if v121 = (65534 : Int32) then (1 : Int32) else (if v121 = (65535 : Int32) then (1 : Int32) else (if (1114111 : Int32) < v121 then (1 : Int32) else (0 : Int32)))) else (1 : Int32))) else (if v121 = (13 : Int32) then (if v121 < (55296 : Int32) then (if v121 = (65534 : Int32) then (1 : Int32) else (if v121 = (65535 : Int32) then (1 : Int32) else (if (1114111 : Int32) < v121 then (1 : Int32) else (0 : Int32)))) else (if (57343 : Int32) < v121 then (if v121 = (65534 : Int32) then (1 : Int32) else (if v121 = (65535 : Int32) then (1 : Int32) else (if (1114111 : Int32) < v121 then (1 : Int32) else (0 : Int32)))) else (1 : Int32))) else (1 : Int32)))) else (if v121 < (55296 : Int32) then (if v121 = (65534 : Int32) then (1 : Int32) else (if v121 = (65535 : Int32) then (1 : Int32) else (if (1114111 : Int32) < v121 then (1 : Int32) else (0 : Int32)))) else (if (57343 : Int32) < v121 then (if v121 = (65534 : Int32) then (1 : Int32) else (if v121 = (65535 : Int32) then (1 : Int32) else (if (1114111 : Int32) < v121 then (1 : Int32) else (0 : Int32)))) else (1 : Int32))))) := ⟨_, rfl⟩
    have pre153 : ∀ tq, Steps p.tables e below (T65.setTop (mkF m 196 #[.val (.int k1), .val (.int k2), .val (.int k3), .val (.ref b1), .val (.int v121), .unset] [(.int m196)])) tq → Steps p.tables e below (s₁.setTop (entryFrame m #[(.int k1), (.int k2), (.int k3)] maxLocals)) tq := by
      intro tq kt
      refine pre69 _ ?_
      show Steps p.tables e below (T65.setTop (mkF m 99 #[.val (.int k1), .val (.int k2), .val (.int k3), .val (.ref b1), .unset, .unset] [(.int (k2 &&& (16 : Int32)))])) _
      refine XS.ifYes X65.here hx rfl (pc0 := 99) (pc' := 108) rfl (hb hby at_99) rfl ((if0 _ _).trans (feq hc99_70).2) (by decide) (by decide) ?_
      show Steps p.tables e below (T65.setTop (mkF m 108 #[.val (.int k1), .val (.int k2), .val (.int k3), .val (.ref b1), .unset, .unset] [])) _
      refine XS.aloadN X65.here hx rfl (hb hby at_108) rfl rfl ?_
      show Steps p.tables e below (T65.setTop (mkF m 109 #[.val (.int k1), .val (.int k2), .val (.int k3), .val (.ref b1), .unset, .unset] [(.ref b1)])) _
      refine XS.iloadN X65.here hx rfl (hb hby at_109) rfl ?_
      show Steps p.tables e below (T65.setTop (mkF m 110 #[.val (.int k1), .val (.int k2), .val (.int k3), .val (.ref b1), .unset, .unset] [(.int k2), (.ref b1)])) _
      refine XS.bipush X65.here hx rfl (hb hby at_110) ?_
      show Steps p.tables e below (T65.setTop (mkF m 112 #[.val (.int k1), .val (.int k2), .val (.int k3), .val (.ref b1), .unset, .unset] [(.int (15 : Int32)), (.int k2), (.ref b1)])) _
      refine XS.iand X65.here hx rfl (hb hby at_112) rfl ?_
      show Steps p.tables e below (T65.setTop (mkF m 113 #[.val (.int k1), .val (.int k2), .val (.int k3), .val (.ref b1), .unset, .unset] [(.int (k2 &&& (15 : Int32))), (.ref b1)])) _
      refine X65.iaload hx (j := (k2 &&& (15 : Int32))) (v := (.int w113)) (heq_of e65 Ar115.1) (State.isArrayOf_alike hZ.alike Ar115.2.1) Ar115.2.2 hin115 hat115 (g := (mkF m 113 #[.val (.int k1), .val (.int k2), .val (.int k3), .val (.ref b1), .unset, .unset] [(.int (k2 &&& (15 : Int32))), (.ref b1)])) rfl rfl (hb hby at_113) _ ?_
      show Steps p.tables e below (T65.setTop (mkF m 114 #[.val (.int k1), .val (.int k2), .val (.int k3), .val (.ref b1), .unset, .unset] [(.int w113)])) _
      refine XS.iloadN X65.here hx rfl (hb hby at_114) rfl ?_
      show Steps p.tables e below (T65.setTop (mkF m 115 #[.val (.int k1), .val (.int k2), .val (.int k3), .val (.ref b1), .unset, .unset] [(.int k3), (.int w113)])) _
      refine XS.bipush X65.here hx rfl (hb hby at_115) ?_
      show Steps p.tables e below (T65.setTop (mkF m 117 #[.val (.int k1), .val (.int k2), .val (.int k3), .val (.ref b1), .unset, .unset] [(.int (7 : Int32)), (.int k3), (.int w113)])) _
      refine XS.iand X65.here hx rfl (hb hby at_117) rfl ?_
      show Steps p.tables e below (T65.setTop (mkF m 118 #[.val (.int k1), .val (.int k2), .val (.int k3), .val (.ref b1), .unset, .unset] [(.int (k3 &&& (7 : Int32))), (.int w113)])) _
      refine XS.iconst X65.here hx rfl (hb hby at_118) ?_
      show Steps p.tables e below (T65.setTop (mkF m 119 #[.val (.int k1), .val (.int k2), .val (.int k3), .val (.ref b1), .unset, .unset] [(.int (4 : Int32)), (.int (k3 &&& (7 : Int32))), (.int w113)])) _
      refine XS.isub X65.here hx rfl (hb hby at_119) rfl ?_
      show Steps p.tables e below (T65.setTop (mkF m 120 #[.val (.int k1), .val (.int k2), .val (.int k3), .val (.ref b1), .unset, .unset] [(.int ((k3 &&& (7 : Int32)) - (4 : Int32))), (.int w113)])) _
      refine XS.iadd X65.here hx rfl (hb hby at_120) rfl ?_
      show Steps p.tables e below (T65.setTop (mkF m 121 #[.val (.int k1), .val (.int k2), .val (.int k3), .val (.ref b1), .unset, .unset] [(.int (w113 + ((k3 &&& (7 : Int32)) - (4 : Int32))))])) _
      refine XS.istore X65.here hx rfl (hb hby at_121) rfl (l' := #[.val (.int k1), .val (.int k2), .val (.int k3), .val (.ref b1), .val (.int v121), .unset]) (by rw [hv121]; rfl) ?_
      show Steps p.tables e below (T65.setTop (mkF m 123 #[.val (.int k1), .val (.int k2), .val (.int k3), .val (.ref b1), .val (.int v121), .unset] [])) _
      refine XS.iload X65.here hx rfl (hb hby at_123) rfl ?_
      by_cases d116 : v121 < (0 : Int32)
      · skip
        show Steps p.tables e below (T65.setTop (mkF m 125 #[.val (.int k1), .val (.int k2), .val (.int k3), .val (.ref b1), .val (.int v121), .unset] [(.int v121)])) _
        refine XS.ifYes X65.here hx rfl (pc0 := 125) (pc' := 191) rfl (hb hby at_125) rfl ((if0 _ _).trans (tlt d116).1) (by decide) (by decide) ?_
        show Steps p.tables e below (T65.setTop (mkF m 191 #[.val (.int k1), .val (.int k2), .val (.int k3), .val (.ref b1), .val (.int v121), .unset] [])) _
        refine XS.iconst X65.here hx rfl (hb hby at_191) ?_
        show Steps p.tables e below (T65.setTop (mkF m 192 #[.val (.int k1), .val (.int k2), .val (.int k3), .val (.ref b1), .val (.int v121), .unset] [(.int (1 : Int32))])) _
        refine XS.goto X65.here hx rfl (pc0 := 192) (pc' := 196) rfl (hb hby at_192) (by decide) (by decide) ?_
        show Steps p.tables e below (T65.setTop (mkF m 196 #[.val (.int k1), .val (.int k2), .val (.int k3), .val (.ref b1), .val (.int v121), .unset] [(.int (1 : Int32))])) _
        exact castTop (by simp only [hm196, if_pos d116]) kt
      · skip
        show Steps p.tables e below (T65.setTop (mkF m 125 #[.val (.int k1), .val (.int k2), .val (.int k3), .val (.ref b1), .val (.int v121), .unset] [(.int v121)])) _
        refine XS.ifNo X65.here hx rfl (hb hby at_125) rfl ((if0 _ _).trans (flt d116).1) ?_
        show Steps p.tables e below (T65.setTop (mkF m 128 #[.val (.int k1), .val (.int k2), .val (.int k3), .val (.ref b1), .val (.int v121), .unset] [])) _
        refine XS.iload X65.here hx rfl (hb hby at_128) rfl ?_
        show Steps p.tables e below (T65.setTop (mkF m 130 #[.val (.int k1), .val (.int k2), .val (.int k3), .val (.ref b1), .val (.int v121), .unset] [(.int v121)])) _
        refine XS.bipush X65.here hx rfl (hb hby at_130) ?_
        by_cases d117 : v121 < (32 : Int32)
        · skip
          show Steps p.tables e below (T65.setTop (mkF m 132 #[.val (.int k1), .val (.int k2), .val (.int k3), .val (.ref b1), .val (.int v121), .unset] [(.int (32 : Int32)), (.int v121)])) _
          refine XS.icmpNo X65.here hx rfl (hb hby at_132) rfl (tlt d117).2.1 ?_
          show Steps p.tables e below (T65.setTop (mkF m 135 #[.val (.int k1), .val (.int k2), .val (.int k3), .val (.ref b1), .val (.int v121), .unset] [])) _
          refine XS.iload X65.here hx rfl (hb hby at_135) rfl ?_
          show Steps p.tables e below (T65.setTop (mkF m 137 #[.val (.int k1), .val (.int k2), .val (.int k3), .val (.ref b1), .val (.int v121), .unset] [(.int v121)])) _
          refine XS.bipush X65.here hx rfl (hb hby at_137) ?_
          by_cases d118 : v121 = (9 : Int32)
          · skip
            show Steps p.tables e below (T65.setTop (mkF m 139 #[.val (.int k1), .val (.int k2), .val (.int k3), .val (.ref b1), .val (.int v121), .unset] [(.int (9 : Int32)), (.int v121)])) _
            refine XS.icmpYes X65.here hx rfl (pc0 := 139) (pc' := 156) rfl (hb hby at_139) rfl (teq d118).1 (by decide) (by decide) ?_
            show Steps p.tables e below (T65.setTop (mkF m 156 #[.val (.int k1), .val (.int k2), .val (.int k3), .val (.ref b1), .val (.int v121), .unset] [])) _
            refine XS.iload X65.here hx rfl (hb hby at_156) rfl ?_
            show Steps p.tables e below (T65.setTop (mkF m 158 #[.val (.int k1), .val (.int k2), .val (.int k3), .val (.ref b1), .val (.int v121), .unset] [(.int v121)])) _
            refine X65.ldcInt hx hown (mvT hZ (hw _ (List.mem_of_getElem? (i := 2) rfl))) (g := (mkF m 158 #[.val (.int k1), .val (.int k2), .val (.int k3), .val (.ref b1), .val (.int v121), .unset] [(.int v121)])) rfl (hb hby at_158) _ ?_
            by_cases d119 : v121 < (55296 : Int32)
            · skip
              show Steps p.tables e below (T65.setTop (mkF m 160 #[.val (.int k1), .val (.int k2), .val (.int k3), .val (.ref b1), .val (.int v121), .unset] [(.int (55296 : Int32)), (.int v121)])) _
              refine XS.icmpYes X65.here hx rfl (pc0 := 160) (pc' := 170) rfl (hb hby at_160) rfl (tlt d119).1 (by decide) (by decide) ?_
              show Steps p.tables e below (T65.setTop (mkF m 170 #[.val (.int k1), .val (.int k2), .val (.int k3), .val (.ref b1), .val (.int v121), .unset] [])) _
              refine XS.iload X65.here hx rfl (hb hby at_170) rfl ?_
              show Steps p.tables e below (T65.setTop (mkF m 172 #[.val (.int k1), .val (.int k2), .val (.int k3), .val (.ref b1), .val (.int v121), .unset] [(.int v121)])) _
              refine X65.ldcInt hx hown (mvT hZ (hw _ (List.mem_of_getElem? (i := 16) rfl))) (g := (mkF m 172 #[.val (.int k1), .val (.int k2), .val (.int k3), .val (.ref b1), .val (.int v121), .unset] [(.int v121)])) rfl (hb hby at_172) _ ?_
              by_cases d120 : v121 = (65534 : Int32)
              · skip
                show Steps p.tables e below (T65.setTop (mkF m 174 #[.val (.int k1), .val (.int k2), .val (.int k3), .val (.ref b1), .val (.int v121), .unset] [(.int (65534 : Int32)), (.int v121)])) _
                refine XS.icmpYes X65.here hx rfl (pc0 := 174) (pc' := 191) rfl (hb hby at_174) rfl (teq d120).1 (by decide) (by decide) ?_
                show Steps p.tables e below (T65.setTop (mkF m 191 #[.val (.int k1), .val (.int k2), .val (.int k3), .val (.ref b1), .val (.int v121), .unset] [])) _
                refine XS.iconst X65.here hx rfl (hb hby at_191) ?_
                show Steps p.tables e below (T65.setTop (mkF m 192 #[.val (.int k1), .val (.int k2), .val (.int k3), .val (.ref b1), .val (.int v121), .unset] [(.int (1 : Int32))])) _
                refine XS.goto X65.here hx rfl (pc0 := 192) (pc' := 196) rfl (hb hby at_192) (by decide) (by decide) ?_
                show Steps p.tables e below (T65.setTop (mkF m 196 #[.val (.int k1), .val (.int k2), .val (.int k3), .val (.ref b1), .val (.int v121), .unset] [(.int (1 : Int32))])) _
                exact castTop (by simp only [hm196, if_neg d116, if_pos d117, if_pos d118, if_pos d119, if_pos d120]) kt
              · skip
                show Steps p.tables e below (T65.setTop (mkF m 174 #[.val (.int k1), .val (.int k2), .val (.int k3), .val (.ref b1), .val (.int v121), .unset] [(.int (65534 : Int32)), (.int v121)])) _
                refine XS.icmpNo X65.here hx rfl (hb hby at_174) rfl (feq d120).1 ?_
                show Steps p.tables e below (T65.setTop (mkF m 177 #[.val (.int k1), .val (.int k2), .val (.int k3), .val (.ref b1), .val (.int v121), .unset] [])) _
                refine XS.iload X65.here hx rfl (hb hby at_177) rfl ?_
                show Steps p.tables e below (T65.setTop (mkF m 179 #[.val (.int k1), .val (.int k2), .val (.int k3), .val (.ref b1), .val (.int v121), .unset] [(.int v121)])) _
                refine X65.ldcInt hx hown (mvT hZ (hw _ (List.mem_of_getElem? (i := 6) rfl))) (g := (mkF m 179 #[.val (.int k1), .val (.int k2), .val (.int k3), .val (.ref b1), .val (.int v121), .unset] [(.int v121)])) rfl (hb hby at_179) _ ?_
                by_cases d121 : v121 = (65535 : Int32)
                · skip
                  show Steps p.tables e below (T65.setTop (mkF m 181 #[.val (.int k1), .val (.int k2), .val (.int k3), .val (.ref b1), .val (.int v121), .unset] [(.int (65535 : Int32)), (.int v121)])) _
                  refine XS.icmpYes X65.here hx rfl (pc0 := 181) (pc' := 191) rfl (hb hby at_181) rfl (teq d121).1 (by decide) (by decide) ?_
                  show Steps p.tables e below (T65.setTop (mkF m 191 #[.val (.int k1), .val (.int k2), .val (.int k3), .val (.ref b1), .val (.int v121), .unset] [])) _
                  refine XS.iconst X65.here hx rfl (hb hby at_191) ?_
                  show Steps p.tables e below (T65.setTop (mkF m 192 #[.val (.int k1), .val (.int k2), .val (.int k3), .val (.ref b1), .val (.int v121), .unset] [(.int (1 : Int32))])) _
                  refine XS.goto X65.here hx rfl (pc0 := 192) (pc' := 196) rfl (hb hby at_192) (by decide) (by decide) ?_
                  show Steps p.tables e below (T65.setTop (mkF m 196 #[.val (.int k1), .val (.int k2), .val (.int k3), .val (.ref b1), .val (.int v121), .unset] [(.int (1 : Int32))])) _
                  exact castTop (by simp only [hm196, if_neg d116, if_pos d117, if_pos d118, if_pos d119, if_neg d120, if_pos d121]) kt
                · skip
                  show Steps p.tables e below (T65.setTop (mkF m 181 #[.val (.int k1), .val (.int k2), .val (.int k3), .val (.ref b1), .val (.int v121), .unset] [(.int (65535 : Int32)), (.int v121)])) _
                  refine XS.icmpNo X65.here hx rfl (hb hby at_181) rfl (feq d121).1 ?_
                  show Steps p.tables e below (T65.setTop (mkF m 184 #[.val (.int k1), .val (.int k2), .val (.int k3), .val (.ref b1), .val (.int v121), .unset] [])) _
                  refine XS.iload X65.here hx rfl (hb hby at_184) rfl ?_
                  show Steps p.tables e below (T65.setTop (mkF m 186 #[.val (.int k1), .val (.int k2), .val (.int k3), .val (.ref b1), .val (.int v121), .unset] [(.int v121)])) _
                  refine X65.ldcInt hx hown (mvT hZ (hw _ (List.mem_of_getElem? (i := 8) rfl))) (g := (mkF m 186 #[.val (.int k1), .val (.int k2), .val (.int k3), .val (.ref b1), .val (.int v121), .unset] [(.int v121)])) rfl (hb hby at_186) _ ?_
                  by_cases d122 : (1114111 : Int32) < v121
                  · skip
                    show Steps p.tables e below (T65.setTop (mkF m 188 #[.val (.int k1), .val (.int k2), .val (.int k3), .val (.ref b1), .val (.int v121), .unset] [(.int (1114111 : Int32)), (.int v121)])) _
                    refine XS.icmpNo X65.here hx rfl (hb hby at_188) rfl (tlt d122).2.2.2 ?_
                    show Steps p.tables e below (T65.setTop (mkF m 191 #[.val (.int k1), .val (.int k2), .val (.int k3), .val (.ref b1), .val (.int v121), .unset] [])) _
                    refine XS.iconst X65.here hx rfl (hb hby at_191) ?_
                    show Steps p.tables e below (T65.setTop (mkF m 192 #[.val (.int k1), .val (.int k2), .val (.int k3), .val (.ref b1), .val (.int v121), .unset] [(.int (1 : Int32))])) _
                    refine XS.goto X65.here hx rfl (pc0 := 192) (pc' := 196) rfl (hb hby at_192) (by decide) (by decide) ?_
                    show Steps p.tables e below (T65.setTop (mkF m 196 #[.val (.int k1), .val (.int k2), .val (.int k3), .val (.ref b1), .val (.int v121), .unset] [(.int (1 : Int32))])) _
                    exact castTop (by simp only [hm196, if_neg d116, if_pos d117, if_pos d118, if_pos d119, if_neg d120, if_neg d121, if_pos d122]) kt
                  · skip
                    show Steps p.tables e below (T65.setTop (mkF m 188 #[.val (.int k1), .val (.int k2), .val (.int k3), .val (.ref b1), .val (.int v121), .unset] [(.int (1114111 : Int32)), (.int v121)])) _
                    refine XS.icmpYes X65.here hx rfl (pc0 := 188) (pc' := 195) rfl (hb hby at_188) rfl (flt d122).2.2.2 (by decide) (by decide) ?_
                    show Steps p.tables e below (T65.setTop (mkF m 195 #[.val (.int k1), .val (.int k2), .val (.int k3), .val (.ref b1), .val (.int v121), .unset] [])) _
                    refine XS.iconst X65.here hx rfl (hb hby at_195) ?_
                    show Steps p.tables e below (T65.setTop (mkF m 196 #[.val (.int k1), .val (.int k2), .val (.int k3), .val (.ref b1), .val (.int v121), .unset] [(.int (0 : Int32))])) _
                    exact castTop (by simp only [hm196, if_neg d116, if_pos d117, if_pos d118, if_pos d119, if_neg d120, if_neg d121, if_neg d122]) kt
            · skip
              show Steps p.tables e below (T65.setTop (mkF m 160 #[.val (.int k1), .val (.int k2), .val (.int k3), .val (.ref b1), .val (.int v121), .unset] [(.int (55296 : Int32)), (.int v121)])) _
              refine XS.icmpNo X65.here hx rfl (hb hby at_160) rfl (flt d119).1 ?_
              show Steps p.tables e below (T65.setTop (mkF m 163 #[.val (.int k1), .val (.int k2), .val (.int k3), .val (.ref b1), .val (.int v121), .unset] [])) _
              refine XS.iload X65.here hx rfl (hb hby at_163) rfl ?_
              show Steps p.tables e below (T65.setTop (mkF m 165 #[.val (.int k1), .val (.int k2), .val (.int k3), .val (.ref b1), .val (.int v121), .unset] [(.int v121)])) _
              refine X65.ldcInt hx hown (mvT hZ (hw _ (List.mem_of_getElem? (i := 3) rfl))) (g := (mkF m 165 #[.val (.int k1), .val (.int k2), .val (.int k3), .val (.ref b1), .val (.int v121), .unset] [(.int v121)])) rfl (hb hby at_165) _ ?_
              by_cases d123 : (57343 : Int32) < v121
              · skip
                show Steps p.tables e below (T65.setTop (mkF m 167 #[.val (.int k1), .val (.int k2), .val (.int k3), .val (.ref b1), .val (.int v121), .unset] [(.int (57343 : Int32)), (.int v121)])) _
                refine XS.icmpNo X65.here hx rfl (hb hby at_167) rfl (tlt d123).2.2.2 ?_
                show Steps p.tables e below (T65.setTop (mkF m 170 #[.val (.int k1), .val (.int k2), .val (.int k3), .val (.ref b1), .val (.int v121), .unset] [])) _
                refine XS.iload X65.here hx rfl (hb hby at_170) rfl ?_
                show Steps p.tables e below (T65.setTop (mkF m 172 #[.val (.int k1), .val (.int k2), .val (.int k3), .val (.ref b1), .val (.int v121), .unset] [(.int v121)])) _
                refine X65.ldcInt hx hown (mvT hZ (hw _ (List.mem_of_getElem? (i := 16) rfl))) (g := (mkF m 172 #[.val (.int k1), .val (.int k2), .val (.int k3), .val (.ref b1), .val (.int v121), .unset] [(.int v121)])) rfl (hb hby at_172) _ ?_
                by_cases d124 : v121 = (65534 : Int32)
                · skip
                  show Steps p.tables e below (T65.setTop (mkF m 174 #[.val (.int k1), .val (.int k2), .val (.int k3), .val (.ref b1), .val (.int v121), .unset] [(.int (65534 : Int32)), (.int v121)])) _
                  refine XS.icmpYes X65.here hx rfl (pc0 := 174) (pc' := 191) rfl (hb hby at_174) rfl (teq d124).1 (by decide) (by decide) ?_
                  show Steps p.tables e below (T65.setTop (mkF m 191 #[.val (.int k1), .val (.int k2), .val (.int k3), .val (.ref b1), .val (.int v121), .unset] [])) _
                  refine XS.iconst X65.here hx rfl (hb hby at_191) ?_
                  show Steps p.tables e below (T65.setTop (mkF m 192 #[.val (.int k1), .val (.int k2), .val (.int k3), .val (.ref b1), .val (.int v121), .unset] [(.int (1 : Int32))])) _
                  refine XS.goto X65.here hx rfl (pc0 := 192) (pc' := 196) rfl (hb hby at_192) (by decide) (by decide) ?_
                  show Steps p.tables e below (T65.setTop (mkF m 196 #[.val (.int k1), .val (.int k2), .val (.int k3), .val (.ref b1), .val (.int v121), .unset] [(.int (1 : Int32))])) _
                  exact castTop (by simp only [hm196, if_neg d116, if_pos d117, if_pos d118, if_neg d119, if_pos d123, if_pos d124]) kt
                · skip
                  show Steps p.tables e below (T65.setTop (mkF m 174 #[.val (.int k1), .val (.int k2), .val (.int k3), .val (.ref b1), .val (.int v121), .unset] [(.int (65534 : Int32)), (.int v121)])) _
                  refine XS.icmpNo X65.here hx rfl (hb hby at_174) rfl (feq d124).1 ?_
                  show Steps p.tables e below (T65.setTop (mkF m 177 #[.val (.int k1), .val (.int k2), .val (.int k3), .val (.ref b1), .val (.int v121), .unset] [])) _
                  refine XS.iload X65.here hx rfl (hb hby at_177) rfl ?_
                  show Steps p.tables e below (T65.setTop (mkF m 179 #[.val (.int k1), .val (.int k2), .val (.int k3), .val (.ref b1), .val (.int v121), .unset] [(.int v121)])) _
                  refine X65.ldcInt hx hown (mvT hZ (hw _ (List.mem_of_getElem? (i := 6) rfl))) (g := (mkF m 179 #[.val (.int k1), .val (.int k2), .val (.int k3), .val (.ref b1), .val (.int v121), .unset] [(.int v121)])) rfl (hb hby at_179) _ ?_
                  by_cases d125 : v121 = (65535 : Int32)
                  · skip
                    show Steps p.tables e below (T65.setTop (mkF m 181 #[.val (.int k1), .val (.int k2), .val (.int k3), .val (.ref b1), .val (.int v121), .unset] [(.int (65535 : Int32)), (.int v121)])) _
                    refine XS.icmpYes X65.here hx rfl (pc0 := 181) (pc' := 191) rfl (hb hby at_181) rfl (teq d125).1 (by decide) (by decide) ?_
                    show Steps p.tables e below (T65.setTop (mkF m 191 #[.val (.int k1), .val (.int k2), .val (.int k3), .val (.ref b1), .val (.int v121), .unset] [])) _
                    refine XS.iconst X65.here hx rfl (hb hby at_191) ?_
                    show Steps p.tables e below (T65.setTop (mkF m 192 #[.val (.int k1), .val (.int k2), .val (.int k3), .val (.ref b1), .val (.int v121), .unset] [(.int (1 : Int32))])) _
                    refine XS.goto X65.here hx rfl (pc0 := 192) (pc' := 196) rfl (hb hby at_192) (by decide) (by decide) ?_
                    show Steps p.tables e below (T65.setTop (mkF m 196 #[.val (.int k1), .val (.int k2), .val (.int k3), .val (.ref b1), .val (.int v121), .unset] [(.int (1 : Int32))])) _
                    exact castTop (by simp only [hm196, if_neg d116, if_pos d117, if_pos d118, if_neg d119, if_pos d123, if_neg d124, if_pos d125]) kt
                  · skip
                    show Steps p.tables e below (T65.setTop (mkF m 181 #[.val (.int k1), .val (.int k2), .val (.int k3), .val (.ref b1), .val (.int v121), .unset] [(.int (65535 : Int32)), (.int v121)])) _
                    refine XS.icmpNo X65.here hx rfl (hb hby at_181) rfl (feq d125).1 ?_
                    show Steps p.tables e below (T65.setTop (mkF m 184 #[.val (.int k1), .val (.int k2), .val (.int k3), .val (.ref b1), .val (.int v121), .unset] [])) _
                    refine XS.iload X65.here hx rfl (hb hby at_184) rfl ?_
                    show Steps p.tables e below (T65.setTop (mkF m 186 #[.val (.int k1), .val (.int k2), .val (.int k3), .val (.ref b1), .val (.int v121), .unset] [(.int v121)])) _
                    refine X65.ldcInt hx hown (mvT hZ (hw _ (List.mem_of_getElem? (i := 8) rfl))) (g := (mkF m 186 #[.val (.int k1), .val (.int k2), .val (.int k3), .val (.ref b1), .val (.int v121), .unset] [(.int v121)])) rfl (hb hby at_186) _ ?_
                    by_cases d126 : (1114111 : Int32) < v121
                    · skip
                      show Steps p.tables e below (T65.setTop (mkF m 188 #[.val (.int k1), .val (.int k2), .val (.int k3), .val (.ref b1), .val (.int v121), .unset] [(.int (1114111 : Int32)), (.int v121)])) _
                      refine XS.icmpNo X65.here hx rfl (hb hby at_188) rfl (tlt d126).2.2.2 ?_
                      show Steps p.tables e below (T65.setTop (mkF m 191 #[.val (.int k1), .val (.int k2), .val (.int k3), .val (.ref b1), .val (.int v121), .unset] [])) _
                      refine XS.iconst X65.here hx rfl (hb hby at_191) ?_
                      show Steps p.tables e below (T65.setTop (mkF m 192 #[.val (.int k1), .val (.int k2), .val (.int k3), .val (.ref b1), .val (.int v121), .unset] [(.int (1 : Int32))])) _
                      refine XS.goto X65.here hx rfl (pc0 := 192) (pc' := 196) rfl (hb hby at_192) (by decide) (by decide) ?_
                      show Steps p.tables e below (T65.setTop (mkF m 196 #[.val (.int k1), .val (.int k2), .val (.int k3), .val (.ref b1), .val (.int v121), .unset] [(.int (1 : Int32))])) _
                      exact castTop (by simp only [hm196, if_neg d116, if_pos d117, if_pos d118, if_neg d119, if_pos d123, if_neg d124, if_neg d125, if_pos d126]) kt
                    · skip
                      show Steps p.tables e below (T65.setTop (mkF m 188 #[.val (.int k1), .val (.int k2), .val (.int k3), .val (.ref b1), .val (.int v121), .unset] [(.int (1114111 : Int32)), (.int v121)])) _
                      refine XS.icmpYes X65.here hx rfl (pc0 := 188) (pc' := 195) rfl (hb hby at_188) rfl (flt d126).2.2.2 (by decide) (by decide) ?_
                      show Steps p.tables e below (T65.setTop (mkF m 195 #[.val (.int k1), .val (.int k2), .val (.int k3), .val (.ref b1), .val (.int v121), .unset] [])) _
                      refine XS.iconst X65.here hx rfl (hb hby at_195) ?_
                      show Steps p.tables e below (T65.setTop (mkF m 196 #[.val (.int k1), .val (.int k2), .val (.int k3), .val (.ref b1), .val (.int v121), .unset] [(.int (0 : Int32))])) _
                      exact castTop (by simp only [hm196, if_neg d116, if_pos d117, if_pos d118, if_neg d119, if_pos d123, if_neg d124, if_neg d125, if_neg d126]) kt
              · skip
                show Steps p.tables e below (T65.setTop (mkF m 167 #[.val (.int k1), .val (.int k2), .val (.int k3), .val (.ref b1), .val (.int v121), .unset] [(.int (57343 : Int32)), (.int v121)])) _
                refine XS.icmpYes X65.here hx rfl (pc0 := 167) (pc' := 191) rfl (hb hby at_167) rfl (flt d123).2.2.2 (by decide) (by decide) ?_
                show Steps p.tables e below (T65.setTop (mkF m 191 #[.val (.int k1), .val (.int k2), .val (.int k3), .val (.ref b1), .val (.int v121), .unset] [])) _
                refine XS.iconst X65.here hx rfl (hb hby at_191) ?_
                show Steps p.tables e below (T65.setTop (mkF m 192 #[.val (.int k1), .val (.int k2), .val (.int k3), .val (.ref b1), .val (.int v121), .unset] [(.int (1 : Int32))])) _
                refine XS.goto X65.here hx rfl (pc0 := 192) (pc' := 196) rfl (hb hby at_192) (by decide) (by decide) ?_
                show Steps p.tables e below (T65.setTop (mkF m 196 #[.val (.int k1), .val (.int k2), .val (.int k3), .val (.ref b1), .val (.int v121), .unset] [(.int (1 : Int32))])) _
                exact castTop (by simp only [hm196, if_neg d116, if_pos d117, if_pos d118, if_neg d119, if_neg d123]) kt
          · skip
            show Steps p.tables e below (T65.setTop (mkF m 139 #[.val (.int k1), .val (.int k2), .val (.int k3), .val (.ref b1), .val (.int v121), .unset] [(.int (9 : Int32)), (.int v121)])) _
            refine XS.icmpNo X65.here hx rfl (hb hby at_139) rfl (feq d118).1 ?_
            show Steps p.tables e below (T65.setTop (mkF m 142 #[.val (.int k1), .val (.int k2), .val (.int k3), .val (.ref b1), .val (.int v121), .unset] [])) _
            refine XS.iload X65.here hx rfl (hb hby at_142) rfl ?_
            show Steps p.tables e below (T65.setTop (mkF m 144 #[.val (.int k1), .val (.int k2), .val (.int k3), .val (.ref b1), .val (.int v121), .unset] [(.int v121)])) _
            refine XS.bipush X65.here hx rfl (hb hby at_144) ?_
            by_cases d127 : v121 = (10 : Int32)
            · skip
              show Steps p.tables e below (T65.setTop (mkF m 146 #[.val (.int k1), .val (.int k2), .val (.int k3), .val (.ref b1), .val (.int v121), .unset] [(.int (10 : Int32)), (.int v121)])) _
              refine XS.icmpYes X65.here hx rfl (pc0 := 146) (pc' := 156) rfl (hb hby at_146) rfl (teq d127).1 (by decide) (by decide) ?_
              show Steps p.tables e below (T65.setTop (mkF m 156 #[.val (.int k1), .val (.int k2), .val (.int k3), .val (.ref b1), .val (.int v121), .unset] [])) _
              refine XS.iload X65.here hx rfl (hb hby at_156) rfl ?_
              show Steps p.tables e below (T65.setTop (mkF m 158 #[.val (.int k1), .val (.int k2), .val (.int k3), .val (.ref b1), .val (.int v121), .unset] [(.int v121)])) _
              refine X65.ldcInt hx hown (mvT hZ (hw _ (List.mem_of_getElem? (i := 2) rfl))) (g := (mkF m 158 #[.val (.int k1), .val (.int k2), .val (.int k3), .val (.ref b1), .val (.int v121), .unset] [(.int v121)])) rfl (hb hby at_158) _ ?_
              by_cases d128 : v121 < (55296 : Int32)
              · skip
                show Steps p.tables e below (T65.setTop (mkF m 160 #[.val (.int k1), .val (.int k2), .val (.int k3), .val (.ref b1), .val (.int v121), .unset] [(.int (55296 : Int32)), (.int v121)])) _
                refine XS.icmpYes X65.here hx rfl (pc0 := 160) (pc' := 170) rfl (hb hby at_160) rfl (tlt d128).1 (by decide) (by decide) ?_
                show Steps p.tables e below (T65.setTop (mkF m 170 #[.val (.int k1), .val (.int k2), .val (.int k3), .val (.ref b1), .val (.int v121), .unset] [])) _
                refine XS.iload X65.here hx rfl (hb hby at_170) rfl ?_
                show Steps p.tables e below (T65.setTop (mkF m 172 #[.val (.int k1), .val (.int k2), .val (.int k3), .val (.ref b1), .val (.int v121), .unset] [(.int v121)])) _
                refine X65.ldcInt hx hown (mvT hZ (hw _ (List.mem_of_getElem? (i := 16) rfl))) (g := (mkF m 172 #[.val (.int k1), .val (.int k2), .val (.int k3), .val (.ref b1), .val (.int v121), .unset] [(.int v121)])) rfl (hb hby at_172) _ ?_
                by_cases d129 : v121 = (65534 : Int32)
                · skip
                  show Steps p.tables e below (T65.setTop (mkF m 174 #[.val (.int k1), .val (.int k2), .val (.int k3), .val (.ref b1), .val (.int v121), .unset] [(.int (65534 : Int32)), (.int v121)])) _
                  refine XS.icmpYes X65.here hx rfl (pc0 := 174) (pc' := 191) rfl (hb hby at_174) rfl (teq d129).1 (by decide) (by decide) ?_
                  show Steps p.tables e below (T65.setTop (mkF m 191 #[.val (.int k1), .val (.int k2), .val (.int k3), .val (.ref b1), .val (.int v121), .unset] [])) _
                  refine XS.iconst X65.here hx rfl (hb hby at_191) ?_
                  show Steps p.tables e below (T65.setTop (mkF m 192 #[.val (.int k1), .val (.int k2), .val (.int k3), .val (.ref b1), .val (.int v121), .unset] [(.int (1 : Int32))])) _
                  refine XS.goto X65.here hx rfl (pc0 := 192) (pc' := 196) rfl (hb hby at_192) (by decide) (by decide) ?_
                  show Steps p.tables e below (T65.setTop (mkF m 196 #[.val (.int k1), .val (.int k2), .val (.int k3), .val (.ref b1), .val (.int v121), .unset] [(.int (1 : Int32))])) _
                  exact castTop (by simp only [hm196, if_neg d116, if_pos d117, if_neg d118, if_pos d127, if_pos d128, if_pos d129]) kt
                · skip
                  show Steps p.tables e below (T65.setTop (mkF m 174 #[.val (.int k1), .val (.int k2), .val (.int k3), .val (.ref b1), .val (.int v121), .unset] [(.int (65534 : Int32)), (.int v121)])) _
                  refine XS.icmpNo X65.here hx rfl (hb hby at_174) rfl (feq d129).1 ?_
                  show Steps p.tables e below (T65.setTop (mkF m 177 #[.val (.int k1), .val (.int k2), .val (.int k3), .val (.ref b1), .val (.int v121), .unset] [])) _
                  refine XS.iload X65.here hx rfl (hb hby at_177) rfl ?_
                  show Steps p.tables e below (T65.setTop (mkF m 179 #[.val (.int k1), .val (.int k2), .val (.int k3), .val (.ref b1), .val (.int v121), .unset] [(.int v121)])) _
                  refine X65.ldcInt hx hown (mvT hZ (hw _ (List.mem_of_getElem? (i := 6) rfl))) (g := (mkF m 179 #[.val (.int k1), .val (.int k2), .val (.int k3), .val (.ref b1), .val (.int v121), .unset] [(.int v121)])) rfl (hb hby at_179) _ ?_
                  by_cases d130 : v121 = (65535 : Int32)
                  · skip
                    show Steps p.tables e below (T65.setTop (mkF m 181 #[.val (.int k1), .val (.int k2), .val (.int k3), .val (.ref b1), .val (.int v121), .unset] [(.int (65535 : Int32)), (.int v121)])) _
                    refine XS.icmpYes X65.here hx rfl (pc0 := 181) (pc' := 191) rfl (hb hby at_181) rfl (teq d130).1 (by decide) (by decide) ?_
                    show Steps p.tables e below (T65.setTop (mkF m 191 #[.val (.int k1), .val (.int k2), .val (.int k3), .val (.ref b1), .val (.int v121), .unset] [])) _
                    refine XS.iconst X65.here hx rfl (hb hby at_191) ?_
                    show Steps p.tables e below (T65.setTop (mkF m 192 #[.val (.int k1), .val (.int k2), .val (.int k3), .val (.ref b1), .val (.int v121), .unset] [(.int (1 : Int32))])) _
                    refine XS.goto X65.here hx rfl (pc0 := 192) (pc' := 196) rfl (hb hby at_192) (by decide) (by decide) ?_
                    show Steps p.tables e below (T65.setTop (mkF m 196 #[.val (.int k1), .val (.int k2), .val (.int k3), .val (.ref b1), .val (.int v121), .unset] [(.int (1 : Int32))])) _
                    exact castTop (by simp only [hm196, if_neg d116, if_pos d117, if_neg d118, if_pos d127, if_pos d128, if_neg d129, if_pos d130]) kt
                  · skip
                    show Steps p.tables e below (T65.setTop (mkF m 181 #[.val (.int k1), .val (.int k2), .val (.int k3), .val (.ref b1), .val (.int v121), .unset] [(.int (65535 : Int32)), (.int v121)])) _
                    refine XS.icmpNo X65.here hx rfl (hb hby at_181) rfl (feq d130).1 ?_
                    show Steps p.tables e below (T65.setTop (mkF m 184 #[.val (.int k1), .val (.int k2), .val (.int k3), .val (.ref b1), .val (.int v121), .unset] [])) _
                    refine XS.iload X65.here hx rfl (hb hby at_184) rfl ?_
                    show Steps p.tables e below (T65.setTop (mkF m 186 #[.val (.int k1), .val (.int k2), .val (.int k3), .val (.ref b1), .val (.int v121), .unset] [(.int v121)])) _
                    refine X65.ldcInt hx hown (mvT hZ (hw _ (List.mem_of_getElem? (i := 8) rfl))) (g := (mkF m 186 #[.val (.int k1), .val (.int k2), .val (.int k3), .val (.ref b1), .val (.int v121), .unset] [(.int v121)])) rfl (hb hby at_186) _ ?_
                    by_cases d131 : (1114111 : Int32) < v121
                    · skip
                      show Steps p.tables e below (T65.setTop (mkF m 188 #[.val (.int k1), .val (.int k2), .val (.int k3), .val (.ref b1), .val (.int v121), .unset] [(.int (1114111 : Int32)), (.int v121)])) _
                      refine XS.icmpNo X65.here hx rfl (hb hby at_188) rfl (tlt d131).2.2.2 ?_
                      show Steps p.tables e below (T65.setTop (mkF m 191 #[.val (.int k1), .val (.int k2), .val (.int k3), .val (.ref b1), .val (.int v121), .unset] [])) _
                      refine XS.iconst X65.here hx rfl (hb hby at_191) ?_
                      show Steps p.tables e below (T65.setTop (mkF m 192 #[.val (.int k1), .val (.int k2), .val (.int k3), .val (.ref b1), .val (.int v121), .unset] [(.int (1 : Int32))])) _
                      refine XS.goto X65.here hx rfl (pc0 := 192) (pc' := 196) rfl (hb hby at_192) (by decide) (by decide) ?_
                      show Steps p.tables e below (T65.setTop (mkF m 196 #[.val (.int k1), .val (.int k2), .val (.int k3), .val (.ref b1), .val (.int v121), .unset] [(.int (1 : Int32))])) _
                      exact castTop (by simp only [hm196, if_neg d116, if_pos d117, if_neg d118, if_pos d127, if_pos d128, if_neg d129, if_neg d130, if_pos d131]) kt
                    · skip
                      show Steps p.tables e below (T65.setTop (mkF m 188 #[.val (.int k1), .val (.int k2), .val (.int k3), .val (.ref b1), .val (.int v121), .unset] [(.int (1114111 : Int32)), (.int v121)])) _
                      refine XS.icmpYes X65.here hx rfl (pc0 := 188) (pc' := 195) rfl (hb hby at_188) rfl (flt d131).2.2.2 (by decide) (by decide) ?_
                      show Steps p.tables e below (T65.setTop (mkF m 195 #[.val (.int k1), .val (.int k2), .val (.int k3), .val (.ref b1), .val (.int v121), .unset] [])) _
                      refine XS.iconst X65.here hx rfl (hb hby at_195) ?_
                      show Steps p.tables e below (T65.setTop (mkF m 196 #[.val (.int k1), .val (.int k2), .val (.int k3), .val (.ref b1), .val (.int v121), .unset] [(.int (0 : Int32))])) _
                      exact castTop (by simp only [hm196, if_neg d116, if_pos d117, if_neg d118, if_pos d127, if_pos d128, if_neg d129, if_neg d130, if_neg d131]) kt
              · skip
                show Steps p.tables e below (T65.setTop (mkF m 160 #[.val (.int k1), .val (.int k2), .val (.int k3), .val (.ref b1), .val (.int v121), .unset] [(.int (55296 : Int32)), (.int v121)])) _
                refine XS.icmpNo X65.here hx rfl (hb hby at_160) rfl (flt d128).1 ?_
                show Steps p.tables e below (T65.setTop (mkF m 163 #[.val (.int k1), .val (.int k2), .val (.int k3), .val (.ref b1), .val (.int v121), .unset] [])) _
                refine XS.iload X65.here hx rfl (hb hby at_163) rfl ?_
                show Steps p.tables e below (T65.setTop (mkF m 165 #[.val (.int k1), .val (.int k2), .val (.int k3), .val (.ref b1), .val (.int v121), .unset] [(.int v121)])) _
                refine X65.ldcInt hx hown (mvT hZ (hw _ (List.mem_of_getElem? (i := 3) rfl))) (g := (mkF m 165 #[.val (.int k1), .val (.int k2), .val (.int k3), .val (.ref b1), .val (.int v121), .unset] [(.int v121)])) rfl (hb hby at_165) _ ?_
                by_cases d132 : (57343 : Int32) < v121
                · skip
                  show Steps p.tables e below (T65.setTop (mkF m 167 #[.val (.int k1), .val (.int k2), .val (.int k3), .val (.ref b1), .val (.int v121), .unset] [(.int (57343 : Int32)), (.int v121)])) _
                  refine XS.icmpNo X65.here hx rfl (hb hby at_167) rfl (tlt d132).2.2.2 ?_
                  show Steps p.tables e below (T65.setTop (mkF m 170 #[.val (.int k1), .val (.int k2), .val (.int k3), .val (.ref b1), .val (.int v121), .unset] [])) _
                  refine XS.iload X65.here hx rfl (hb hby at_170) rfl ?_
                  show Steps p.tables e below (T65.setTop (mkF m 172 #[.val (.int k1), .val (.int k2), .val (.int k3), .val (.ref b1), .val (.int v121), .unset] [(.int v121)])) _
                  refine X65.ldcInt hx hown (mvT hZ (hw _ (List.mem_of_getElem? (i := 16) rfl))) (g := (mkF m 172 #[.val (.int k1), .val (.int k2), .val (.int k3), .val (.ref b1), .val (.int v121), .unset] [(.int v121)])) rfl (hb hby at_172) _ ?_
                  by_cases d133 : v121 = (65534 : Int32)
                  · skip
                    show Steps p.tables e below (T65.setTop (mkF m 174 #[.val (.int k1), .val (.int k2), .val (.int k3), .val (.ref b1), .val (.int v121), .unset] [(.int (65534 : Int32)), (.int v121)])) _
                    refine XS.icmpYes X65.here hx rfl (pc0 := 174) (pc' := 191) rfl (hb hby at_174) rfl (teq d133).1 (by decide) (by decide) ?_
                    show Steps p.tables e below (T65.setTop (mkF m 191 #[.val (.int k1), .val (.int k2), .val (.int k3), .val (.ref b1), .val (.int v121), .unset] [])) _
                    refine XS.iconst X65.here hx rfl (hb hby at_191) ?_
                    show Steps p.tables e below (T65.setTop (mkF m 192 #[.val (.int k1), .val (.int k2), .val (.int k3), .val (.ref b1), .val (.int v121), .unset] [(.int (1 : Int32))])) _
                    refine XS.goto X65.here hx rfl (pc0 := 192) (pc' := 196) rfl (hb hby at_192) (by decide) (by decide) ?_
                    show Steps p.tables e below (T65.setTop (mkF m 196 #[.val (.int k1), .val (.int k2), .val (.int k3), .val (.ref b1), .val (.int v121), .unset] [(.int (1 : Int32))])) _
                    exact castTop (by simp only [hm196, if_neg d116, if_pos d117, if_neg d118, if_pos d127, if_neg d128, if_pos d132, if_pos d133]) kt
                  · skip
                    show Steps p.tables e below (T65.setTop (mkF m 174 #[.val (.int k1), .val (.int k2), .val (.int k3), .val (.ref b1), .val (.int v121), .unset] [(.int (65534 : Int32)), (.int v121)])) _
                    refine XS.icmpNo X65.here hx rfl (hb hby at_174) rfl (feq d133).1 ?_
                    show Steps p.tables e below (T65.setTop (mkF m 177 #[.val (.int k1), .val (.int k2), .val (.int k3), .val (.ref b1), .val (.int v121), .unset] [])) _
                    refine XS.iload X65.here hx rfl (hb hby at_177) rfl ?_
                    show Steps p.tables e below (T65.setTop (mkF m 179 #[.val (.int k1), .val (.int k2), .val (.int k3), .val (.ref b1), .val (.int v121), .unset] [(.int v121)])) _
                    refine X65.ldcInt hx hown (mvT hZ (hw _ (List.mem_of_getElem? (i := 6) rfl))) (g := (mkF m 179 #[.val (.int k1), .val (.int k2), .val (.int k3), .val (.ref b1), .val (.int v121), .unset] [(.int v121)])) rfl (hb hby at_179) _ ?_
                    by_cases d134 : v121 = (65535 : Int32)
                    · skip
                      show Steps p.tables e below (T65.setTop (mkF m 181 #[.val (.int k1), .val (.int k2), .val (.int k3), .val (.ref b1), .val (.int v121), .unset] [(.int (65535 : Int32)), (.int v121)])) _
                      refine XS.icmpYes X65.here hx rfl (pc0 := 181) (pc' := 191) rfl (hb hby at_181) rfl (teq d134).1 (by decide) (by decide) ?_
                      show Steps p.tables e below (T65.setTop (mkF m 191 #[.val (.int k1), .val (.int k2), .val (.int k3), .val (.ref b1), .val (.int v121), .unset] [])) _
                      refine XS.iconst X65.here hx rfl (hb hby at_191) ?_
                      show Steps p.tables e below (T65.setTop (mkF m 192 #[.val (.int k1), .val (.int k2), .val (.int k3), .val (.ref b1), .val (.int v121), .unset] [(.int (1 : Int32))])) _
                      refine XS.goto X65.here hx rfl (pc0 := 192) (pc' := 196) rfl (hb hby at_192) (by decide) (by decide) ?_
                      show Steps p.tables e below (T65.setTop (mkF m 196 #[.val (.int k1), .val (.int k2), .val (.int k3), .val (.ref b1), .val (.int v121), .unset] [(.int (1 : Int32))])) _
                      exact castTop (by simp only [hm196, if_neg d116, if_pos d117, if_neg d118, if_pos d127, if_neg d128, if_pos d132, if_neg d133, if_pos d134]) kt
                    · skip
                      show Steps p.tables e below (T65.setTop (mkF m 181 #[.val (.int k1), .val (.int k2), .val (.int k3), .val (.ref b1), .val (.int v121), .unset] [(.int (65535 : Int32)), (.int v121)])) _
                      refine XS.icmpNo X65.here hx rfl (hb hby at_181) rfl (feq d134).1 ?_
                      show Steps p.tables e below (T65.setTop (mkF m 184 #[.val (.int k1), .val (.int k2), .val (.int k3), .val (.ref b1), .val (.int v121), .unset] [])) _
                      refine XS.iload X65.here hx rfl (hb hby at_184) rfl ?_
                      show Steps p.tables e below (T65.setTop (mkF m 186 #[.val (.int k1), .val (.int k2), .val (.int k3), .val (.ref b1), .val (.int v121), .unset] [(.int v121)])) _
                      refine X65.ldcInt hx hown (mvT hZ (hw _ (List.mem_of_getElem? (i := 8) rfl))) (g := (mkF m 186 #[.val (.int k1), .val (.int k2), .val (.int k3), .val (.ref b1), .val (.int v121), .unset] [(.int v121)])) rfl (hb hby at_186) _ ?_
                      by_cases d135 : (1114111 : Int32) < v121
                      · skip
                        show Steps p.tables e below (T65.setTop (mkF m 188 #[.val (.int k1), .val (.int k2), .val (.int k3), .val (.ref b1), .val (.int v121), .unset] [(.int (1114111 : Int32)), (.int v121)])) _
                        refine XS.icmpNo X65.here hx rfl (hb hby at_188) rfl (tlt d135).2.2.2 ?_
                        show Steps p.tables e below (T65.setTop (mkF m 191 #[.val (.int k1), .val (.int k2), .val (.int k3), .val (.ref b1), .val (.int v121), .unset] [])) _
                        refine XS.iconst X65.here hx rfl (hb hby at_191) ?_
                        show Steps p.tables e below (T65.setTop (mkF m 192 #[.val (.int k1), .val (.int k2), .val (.int k3), .val (.ref b1), .val (.int v121), .unset] [(.int (1 : Int32))])) _
                        refine XS.goto X65.here hx rfl (pc0 := 192) (pc' := 196) rfl (hb hby at_192) (by decide) (by decide) ?_
                        show Steps p.tables e below (T65.setTop (mkF m 196 #[.val (.int k1), .val (.int k2), .val (.int k3), .val (.ref b1), .val (.int v121), .unset] [(.int (1 : Int32))])) _
                        exact castTop (by simp only [hm196, if_neg d116, if_pos d117, if_neg d118, if_pos d127, if_neg d128, if_pos d132, if_neg d133, if_neg d134, if_pos d135]) kt
                      · skip
                        show Steps p.tables e below (T65.setTop (mkF m 188 #[.val (.int k1), .val (.int k2), .val (.int k3), .val (.ref b1), .val (.int v121), .unset] [(.int (1114111 : Int32)), (.int v121)])) _
                        refine XS.icmpYes X65.here hx rfl (pc0 := 188) (pc' := 195) rfl (hb hby at_188) rfl (flt d135).2.2.2 (by decide) (by decide) ?_
                        show Steps p.tables e below (T65.setTop (mkF m 195 #[.val (.int k1), .val (.int k2), .val (.int k3), .val (.ref b1), .val (.int v121), .unset] [])) _
                        refine XS.iconst X65.here hx rfl (hb hby at_195) ?_
                        show Steps p.tables e below (T65.setTop (mkF m 196 #[.val (.int k1), .val (.int k2), .val (.int k3), .val (.ref b1), .val (.int v121), .unset] [(.int (0 : Int32))])) _
                        exact castTop (by simp only [hm196, if_neg d116, if_pos d117, if_neg d118, if_pos d127, if_neg d128, if_pos d132, if_neg d133, if_neg d134, if_neg d135]) kt
                · skip
                  show Steps p.tables e below (T65.setTop (mkF m 167 #[.val (.int k1), .val (.int k2), .val (.int k3), .val (.ref b1), .val (.int v121), .unset] [(.int (57343 : Int32)), (.int v121)])) _
                  refine XS.icmpYes X65.here hx rfl (pc0 := 167) (pc' := 191) rfl (hb hby at_167) rfl (flt d132).2.2.2 (by decide) (by decide) ?_
                  show Steps p.tables e below (T65.setTop (mkF m 191 #[.val (.int k1), .val (.int k2), .val (.int k3), .val (.ref b1), .val (.int v121), .unset] [])) _
                  refine XS.iconst X65.here hx rfl (hb hby at_191) ?_
                  show Steps p.tables e below (T65.setTop (mkF m 192 #[.val (.int k1), .val (.int k2), .val (.int k3), .val (.ref b1), .val (.int v121), .unset] [(.int (1 : Int32))])) _
                  refine XS.goto X65.here hx rfl (pc0 := 192) (pc' := 196) rfl (hb hby at_192) (by decide) (by decide) ?_
                  show Steps p.tables e below (T65.setTop (mkF m 196 #[.val (.int k1), .val (.int k2), .val (.int k3), .val (.ref b1), .val (.int v121), .unset] [(.int (1 : Int32))])) _
                  exact castTop (by simp only [hm196, if_neg d116, if_pos d117, if_neg d118, if_pos d127, if_neg d128, if_neg d132]) kt
            · skip
              show Steps p.tables e below (T65.setTop (mkF m 146 #[.val (.int k1), .val (.int k2), .val (.int k3), .val (.ref b1), .val (.int v121), .unset] [(.int (10 : Int32)), (.int v121)])) _
              refine XS.icmpNo X65.here hx rfl (hb hby at_146) rfl (feq d127).1 ?_
              show Steps p.tables e below (T65.setTop (mkF m 149 #[.val (.int k1), .val (.int k2), .val (.int k3), .val (.ref b1), .val (.int v121), .unset] [])) _
              refine XS.iload X65.here hx rfl (hb hby at_149) rfl ?_
              show Steps p.tables e below (T65.setTop (mkF m 151 #[.val (.int k1), .val (.int k2), .val (.int k3), .val (.ref b1), .val (.int v121), .unset] [(.int v121)])) _
              refine XS.bipush X65.here hx rfl (hb hby at_151) ?_
              by_cases d136 : v121 = (13 : Int32)
              · skip
                show Steps p.tables e below (T65.setTop (mkF m 153 #[.val (.int k1), .val (.int k2), .val (.int k3), .val (.ref b1), .val (.int v121), .unset] [(.int (13 : Int32)), (.int v121)])) _
                refine XS.icmpNo X65.here hx rfl (hb hby at_153) rfl (teq d136).2 ?_
                show Steps p.tables e below (T65.setTop (mkF m 156 #[.val (.int k1), .val (.int k2), .val (.int k3), .val (.ref b1), .val (.int v121), .unset] [])) _
                refine XS.iload X65.here hx rfl (hb hby at_156) rfl ?_
                show Steps p.tables e below (T65.setTop (mkF m 158 #[.val (.int k1), .val (.int k2), .val (.int k3), .val (.ref b1), .val (.int v121), .unset] [(.int v121)])) _
                refine X65.ldcInt hx hown (mvT hZ (hw _ (List.mem_of_getElem? (i := 2) rfl))) (g := (mkF m 158 #[.val (.int k1), .val (.int k2), .val (.int k3), .val (.ref b1), .val (.int v121), .unset] [(.int v121)])) rfl (hb hby at_158) _ ?_
                by_cases d137 : v121 < (55296 : Int32)
                · skip
                  show Steps p.tables e below (T65.setTop (mkF m 160 #[.val (.int k1), .val (.int k2), .val (.int k3), .val (.ref b1), .val (.int v121), .unset] [(.int (55296 : Int32)), (.int v121)])) _
                  refine XS.icmpYes X65.here hx rfl (pc0 := 160) (pc' := 170) rfl (hb hby at_160) rfl (tlt d137).1 (by decide) (by decide) ?_
                  show Steps p.tables e below (T65.setTop (mkF m 170 #[.val (.int k1), .val (.int k2), .val (.int k3), .val (.ref b1), .val (.int v121), .unset] [])) _
                  refine XS.iload X65.here hx rfl (hb hby at_170) rfl ?_
                  show Steps p.tables e below (T65.setTop (mkF m 172 #[.val (.int k1), .val (.int k2), .val (.int k3), .val (.ref b1), .val (.int v121), .unset] [(.int v121)])) _
                  refine X65.ldcInt hx hown (mvT hZ (hw _ (List.mem_of_getElem? (i := 16) rfl))) (g := (mkF m 172 #[.val (.int k1), .val (.int k2), .val (.int k3), .val (.ref b1), .val (.int v121), .unset] [(.int v121)])) rfl (hb hby at_172) _ ?_
                  by_cases d138 : v121 = (65534 : Int32)
                  · skip
                    show Steps p.tables e below (T65.setTop (mkF m 174 #[.val (.int k1), .val (.int k2), .val (.int k3), .val (.ref b1), .val (.int v121), .unset] [(.int (65534 : Int32)), (.int v121)])) _
                    refine XS.icmpYes X65.here hx rfl (pc0 := 174) (pc' := 191) rfl (hb hby at_174) rfl (teq d138).1 (by decide) (by decide) ?_
                    show Steps p.tables e below (T65.setTop (mkF m 191 #[.val (.int k1), .val (.int k2), .val (.int k3), .val (.ref b1), .val (.int v121), .unset] [])) _
                    refine XS.iconst X65.here hx rfl (hb hby at_191) ?_
                    show Steps p.tables e below (T65.setTop (mkF m 192 #[.val (.int k1), .val (.int k2), .val (.int k3), .val (.ref b1), .val (.int v121), .unset] [(.int (1 : Int32))])) _
                    refine XS.goto X65.here hx rfl (pc0 := 192) (pc' := 196) rfl (hb hby at_192) (by decide) (by decide) ?_
                    show Steps p.tables e below (T65.setTop (mkF m 196 #[.val (.int k1), .val (.int k2), .val (.int k3), .val (.ref b1), .val (.int v121), .unset] [(.int (1 : Int32))])) _
                    exact castTop (by simp only [hm196, if_neg d116, if_pos d117, if_neg d118, if_neg d127, if_pos d136, if_pos d137, if_pos d138]) kt
                  · skip
                    show Steps p.tables e below (T65.setTop (mkF m 174 #[.val (.int k1), .val (.int k2), .val (.int k3), .val (.ref b1), .val (.int v121), .unset] [(.int (65534 : Int32)), (.int v121)])) _
                    refine XS.icmpNo X65.here hx rfl (hb hby at_174) rfl (feq d138).1 ?_
                    show Steps p.tables e below (T65.setTop (mkF m 177 #[.val (.int k1), .val (.int k2), .val (.int k3), .val (.ref b1), .val (.int v121), .unset] [])) _
                    refine XS.iload X65.here hx rfl (hb hby at_177) rfl ?_
                    show Steps p.tables e below (T65.setTop (mkF m 179 #[.val (.int k1), .val (.int k2), .val (.int k3), .val (.ref b1), .val (.int v121), .unset] [(.int v121)])) _
                    refine X65.ldcInt hx hown (mvT hZ (hw _ (List.mem_of_getElem? (i := 6) rfl))) (g := (mkF m 179 #[.val (.int k1), .val (.int k2), .val (.int k3), .val (.ref b1), .val (.int v121), .unset] [(.int v121)])) rfl (hb hby at_179) _ ?_
                    by_cases d139 : v121 = (65535 : Int32)
                    · skip
                      show Steps p.tables e below (T65.setTop (mkF m 181 #[.val (.int k1), .val (.int k2), .val (.int k3), .val (.ref b1), .val (.int v121), .unset] [(.int (65535 : Int32)), (.int v121)])) _
                      refine XS.icmpYes X65.here hx rfl (pc0 := 181) (pc' := 191) rfl (hb hby at_181) rfl (teq d139).1 (by decide) (by decide) ?_
                      show Steps p.tables e below (T65.setTop (mkF m 191 #[.val (.int k1), .val (.int k2), .val (.int k3), .val (.ref b1), .val (.int v121), .unset] [])) _
                      refine XS.iconst X65.here hx rfl (hb hby at_191) ?_
                      show Steps p.tables e below (T65.setTop (mkF m 192 #[.val (.int k1), .val (.int k2), .val (.int k3), .val (.ref b1), .val (.int v121), .unset] [(.int (1 : Int32))])) _
                      refine XS.goto X65.here hx rfl (pc0 := 192) (pc' := 196) rfl (hb hby at_192) (by decide) (by decide) ?_
                      show Steps p.tables e below (T65.setTop (mkF m 196 #[.val (.int k1), .val (.int k2), .val (.int k3), .val (.ref b1), .val (.int v121), .unset] [(.int (1 : Int32))])) _
                      exact castTop (by simp only [hm196, if_neg d116, if_pos d117, if_neg d118, if_neg d127, if_pos d136, if_pos d137, if_neg d138, if_pos d139]) kt
                    · skip
                      show Steps p.tables e below (T65.setTop (mkF m 181 #[.val (.int k1), .val (.int k2), .val (.int k3), .val (.ref b1), .val (.int v121), .unset] [(.int (65535 : Int32)), (.int v121)])) _
                      refine XS.icmpNo X65.here hx rfl (hb hby at_181) rfl (feq d139).1 ?_
                      show Steps p.tables e below (T65.setTop (mkF m 184 #[.val (.int k1), .val (.int k2), .val (.int k3), .val (.ref b1), .val (.int v121), .unset] [])) _
                      refine XS.iload X65.here hx rfl (hb hby at_184) rfl ?_
                      show Steps p.tables e below (T65.setTop (mkF m 186 #[.val (.int k1), .val (.int k2), .val (.int k3), .val (.ref b1), .val (.int v121), .unset] [(.int v121)])) _
                      refine X65.ldcInt hx hown (mvT hZ (hw _ (List.mem_of_getElem? (i := 8) rfl))) (g := (mkF m 186 #[.val (.int k1), .val (.int k2), .val (.int k3), .val (.ref b1), .val (.int v121), .unset] [(.int v121)])) rfl (hb hby at_186) _ ?_
                      by_cases d140 : (1114111 : Int32) < v121
                      · skip
                        show Steps p.tables e below (T65.setTop (mkF m 188 #[.val (.int k1), .val (.int k2), .val (.int k3), .val (.ref b1), .val (.int v121), .unset] [(.int (1114111 : Int32)), (.int v121)])) _
                        refine XS.icmpNo X65.here hx rfl (hb hby at_188) rfl (tlt d140).2.2.2 ?_
                        show Steps p.tables e below (T65.setTop (mkF m 191 #[.val (.int k1), .val (.int k2), .val (.int k3), .val (.ref b1), .val (.int v121), .unset] [])) _
                        refine XS.iconst X65.here hx rfl (hb hby at_191) ?_
                        show Steps p.tables e below (T65.setTop (mkF m 192 #[.val (.int k1), .val (.int k2), .val (.int k3), .val (.ref b1), .val (.int v121), .unset] [(.int (1 : Int32))])) _
                        refine XS.goto X65.here hx rfl (pc0 := 192) (pc' := 196) rfl (hb hby at_192) (by decide) (by decide) ?_
                        show Steps p.tables e below (T65.setTop (mkF m 196 #[.val (.int k1), .val (.int k2), .val (.int k3), .val (.ref b1), .val (.int v121), .unset] [(.int (1 : Int32))])) _
                        exact castTop (by simp only [hm196, if_neg d116, if_pos d117, if_neg d118, if_neg d127, if_pos d136, if_pos d137, if_neg d138, if_neg d139, if_pos d140]) kt
                      · skip
                        show Steps p.tables e below (T65.setTop (mkF m 188 #[.val (.int k1), .val (.int k2), .val (.int k3), .val (.ref b1), .val (.int v121), .unset] [(.int (1114111 : Int32)), (.int v121)])) _
                        refine XS.icmpYes X65.here hx rfl (pc0 := 188) (pc' := 195) rfl (hb hby at_188) rfl (flt d140).2.2.2 (by decide) (by decide) ?_
                        show Steps p.tables e below (T65.setTop (mkF m 195 #[.val (.int k1), .val (.int k2), .val (.int k3), .val (.ref b1), .val (.int v121), .unset] [])) _
                        refine XS.iconst X65.here hx rfl (hb hby at_195) ?_
                        show Steps p.tables e below (T65.setTop (mkF m 196 #[.val (.int k1), .val (.int k2), .val (.int k3), .val (.ref b1), .val (.int v121), .unset] [(.int (0 : Int32))])) _
                        exact castTop (by simp only [hm196, if_neg d116, if_pos d117, if_neg d118, if_neg d127, if_pos d136, if_pos d137, if_neg d138, if_neg d139, if_neg d140]) kt
                · skip
                  show Steps p.tables e below (T65.setTop (mkF m 160 #[.val (.int k1), .val (.int k2), .val (.int k3), .val (.ref b1), .val (.int v121), .unset] [(.int (55296 : Int32)), (.int v121)])) _
                  refine XS.icmpNo X65.here hx rfl (hb hby at_160) rfl (flt d137).1 ?_
                  show Steps p.tables e below (T65.setTop (mkF m 163 #[.val (.int k1), .val (.int k2), .val (.int k3), .val (.ref b1), .val (.int v121), .unset] [])) _
                  refine XS.iload X65.here hx rfl (hb hby at_163) rfl ?_
                  show Steps p.tables e below (T65.setTop (mkF m 165 #[.val (.int k1), .val (.int k2), .val (.int k3), .val (.ref b1), .val (.int v121), .unset] [(.int v121)])) _
                  refine X65.ldcInt hx hown (mvT hZ (hw _ (List.mem_of_getElem? (i := 3) rfl))) (g := (mkF m 165 #[.val (.int k1), .val (.int k2), .val (.int k3), .val (.ref b1), .val (.int v121), .unset] [(.int v121)])) rfl (hb hby at_165) _ ?_
                  by_cases d141 : (57343 : Int32) < v121
                  · skip
                    show Steps p.tables e below (T65.setTop (mkF m 167 #[.val (.int k1), .val (.int k2), .val (.int k3), .val (.ref b1), .val (.int v121), .unset] [(.int (57343 : Int32)), (.int v121)])) _
                    refine XS.icmpNo X65.here hx rfl (hb hby at_167) rfl (tlt d141).2.2.2 ?_
                    show Steps p.tables e below (T65.setTop (mkF m 170 #[.val (.int k1), .val (.int k2), .val (.int k3), .val (.ref b1), .val (.int v121), .unset] [])) _
                    refine XS.iload X65.here hx rfl (hb hby at_170) rfl ?_
                    show Steps p.tables e below (T65.setTop (mkF m 172 #[.val (.int k1), .val (.int k2), .val (.int k3), .val (.ref b1), .val (.int v121), .unset] [(.int v121)])) _
                    refine X65.ldcInt hx hown (mvT hZ (hw _ (List.mem_of_getElem? (i := 16) rfl))) (g := (mkF m 172 #[.val (.int k1), .val (.int k2), .val (.int k3), .val (.ref b1), .val (.int v121), .unset] [(.int v121)])) rfl (hb hby at_172) _ ?_
                    by_cases d142 : v121 = (65534 : Int32)
                    · skip
                      show Steps p.tables e below (T65.setTop (mkF m 174 #[.val (.int k1), .val (.int k2), .val (.int k3), .val (.ref b1), .val (.int v121), .unset] [(.int (65534 : Int32)), (.int v121)])) _
                      refine XS.icmpYes X65.here hx rfl (pc0 := 174) (pc' := 191) rfl (hb hby at_174) rfl (teq d142).1 (by decide) (by decide) ?_
                      show Steps p.tables e below (T65.setTop (mkF m 191 #[.val (.int k1), .val (.int k2), .val (.int k3), .val (.ref b1), .val (.int v121), .unset] [])) _
                      refine XS.iconst X65.here hx rfl (hb hby at_191) ?_
                      show Steps p.tables e below (T65.setTop (mkF m 192 #[.val (.int k1), .val (.int k2), .val (.int k3), .val (.ref b1), .val (.int v121), .unset] [(.int (1 : Int32))])) _
                      refine XS.goto X65.here hx rfl (pc0 := 192) (pc' := 196) rfl (hb hby at_192) (by decide) (by decide) ?_
                      show Steps p.tables e below (T65.setTop (mkF m 196 #[.val (.int k1), .val (.int k2), .val (.int k3), .val (.ref b1), .val (.int v121), .unset] [(.int (1 : Int32))])) _
                      exact castTop (by simp only [hm196, if_neg d116, if_pos d117, if_neg d118, if_neg d127, if_pos d136, if_neg d137, if_pos d141, if_pos d142]) kt
                    · skip
                      show Steps p.tables e below (T65.setTop (mkF m 174 #[.val (.int k1), .val (.int k2), .val (.int k3), .val (.ref b1), .val (.int v121), .unset] [(.int (65534 : Int32)), (.int v121)])) _
                      refine XS.icmpNo X65.here hx rfl (hb hby at_174) rfl (feq d142).1 ?_
                      show Steps p.tables e below (T65.setTop (mkF m 177 #[.val (.int k1), .val (.int k2), .val (.int k3), .val (.ref b1), .val (.int v121), .unset] [])) _
                      refine XS.iload X65.here hx rfl (hb hby at_177) rfl ?_
                      show Steps p.tables e below (T65.setTop (mkF m 179 #[.val (.int k1), .val (.int k2), .val (.int k3), .val (.ref b1), .val (.int v121), .unset] [(.int v121)])) _
                      refine X65.ldcInt hx hown (mvT hZ (hw _ (List.mem_of_getElem? (i := 6) rfl))) (g := (mkF m 179 #[.val (.int k1), .val (.int k2), .val (.int k3), .val (.ref b1), .val (.int v121), .unset] [(.int v121)])) rfl (hb hby at_179) _ ?_
                      by_cases d143 : v121 = (65535 : Int32)
                      · skip
                        show Steps p.tables e below (T65.setTop (mkF m 181 #[.val (.int k1), .val (.int k2), .val (.int k3), .val (.ref b1), .val (.int v121), .unset] [(.int (65535 : Int32)), (.int v121)])) _
                        refine XS.icmpYes X65.here hx rfl (pc0 := 181) (pc' := 191) rfl (hb hby at_181) rfl (teq d143).1 (by decide) (by decide) ?_
                        show Steps p.tables e below (T65.setTop (mkF m 191 #[.val (.int k1), .val (.int k2), .val (.int k3), .val (.ref b1), .val (.int v121), .unset] [])) _
                        refine XS.iconst X65.here hx rfl (hb hby at_191) ?_
                        show Steps p.tables e below (T65.setTop (mkF m 192 #[.val (.int k1), .val (.int k2), .val (.int k3), .val (.ref b1), .val (.int v121), .unset] [(.int (1 : Int32))])) _
                        refine XS.goto X65.here hx rfl (pc0 := 192) (pc' := 196) rfl (hb hby at_192) (by decide) (by decide) ?_
                        show Steps p.tables e below (T65.setTop (mkF m 196 #[.val (.int k1), .val (.int k2), .val (.int k3), .val (.ref b1), .val (.int v121), .unset] [(.int (1 : Int32))])) _
                        exact castTop (by simp only [hm196, if_neg d116, if_pos d117, if_neg d118, if_neg d127, if_pos d136, if_neg d137, if_pos d141, if_neg d142, if_pos d143]) kt
                      · skip
                        show Steps p.tables e below (T65.setTop (mkF m 181 #[.val (.int k1), .val (.int k2), .val (.int k3), .val (.ref b1), .val (.int v121), .unset] [(.int (65535 : Int32)), (.int v121)])) _
                        refine XS.icmpNo X65.here hx rfl (hb hby at_181) rfl (feq d143).1 ?_
                        show Steps p.tables e below (T65.setTop (mkF m 184 #[.val (.int k1), .val (.int k2), .val (.int k3), .val (.ref b1), .val (.int v121), .unset] [])) _
                        refine XS.iload X65.here hx rfl (hb hby at_184) rfl ?_
                        show Steps p.tables e below (T65.setTop (mkF m 186 #[.val (.int k1), .val (.int k2), .val (.int k3), .val (.ref b1), .val (.int v121), .unset] [(.int v121)])) _
                        refine X65.ldcInt hx hown (mvT hZ (hw _ (List.mem_of_getElem? (i := 8) rfl))) (g := (mkF m 186 #[.val (.int k1), .val (.int k2), .val (.int k3), .val (.ref b1), .val (.int v121), .unset] [(.int v121)])) rfl (hb hby at_186) _ ?_
                        by_cases d144 : (1114111 : Int32) < v121
                        · skip
                          show Steps p.tables e below (T65.setTop (mkF m 188 #[.val (.int k1), .val (.int k2), .val (.int k3), .val (.ref b1), .val (.int v121), .unset] [(.int (1114111 : Int32)), (.int v121)])) _
                          refine XS.icmpNo X65.here hx rfl (hb hby at_188) rfl (tlt d144).2.2.2 ?_
                          show Steps p.tables e below (T65.setTop (mkF m 191 #[.val (.int k1), .val (.int k2), .val (.int k3), .val (.ref b1), .val (.int v121), .unset] [])) _
                          refine XS.iconst X65.here hx rfl (hb hby at_191) ?_
                          show Steps p.tables e below (T65.setTop (mkF m 192 #[.val (.int k1), .val (.int k2), .val (.int k3), .val (.ref b1), .val (.int v121), .unset] [(.int (1 : Int32))])) _
                          refine XS.goto X65.here hx rfl (pc0 := 192) (pc' := 196) rfl (hb hby at_192) (by decide) (by decide) ?_
                          show Steps p.tables e below (T65.setTop (mkF m 196 #[.val (.int k1), .val (.int k2), .val (.int k3), .val (.ref b1), .val (.int v121), .unset] [(.int (1 : Int32))])) _
                          exact castTop (by simp only [hm196, if_neg d116, if_pos d117, if_neg d118, if_neg d127, if_pos d136, if_neg d137, if_pos d141, if_neg d142, if_neg d143, if_pos d144]) kt
                        · skip
                          show Steps p.tables e below (T65.setTop (mkF m 188 #[.val (.int k1), .val (.int k2), .val (.int k3), .val (.ref b1), .val (.int v121), .unset] [(.int (1114111 : Int32)), (.int v121)])) _
                          refine XS.icmpYes X65.here hx rfl (pc0 := 188) (pc' := 195) rfl (hb hby at_188) rfl (flt d144).2.2.2 (by decide) (by decide) ?_
                          show Steps p.tables e below (T65.setTop (mkF m 195 #[.val (.int k1), .val (.int k2), .val (.int k3), .val (.ref b1), .val (.int v121), .unset] [])) _
                          refine XS.iconst X65.here hx rfl (hb hby at_195) ?_
                          show Steps p.tables e below (T65.setTop (mkF m 196 #[.val (.int k1), .val (.int k2), .val (.int k3), .val (.ref b1), .val (.int v121), .unset] [(.int (0 : Int32))])) _
                          exact castTop (by simp only [hm196, if_neg d116, if_pos d117, if_neg d118, if_neg d127, if_pos d136, if_neg d137, if_pos d141, if_neg d142, if_neg d143, if_neg d144]) kt
                  · skip
                    show Steps p.tables e below (T65.setTop (mkF m 167 #[.val (.int k1), .val (.int k2), .val (.int k3), .val (.ref b1), .val (.int v121), .unset] [(.int (57343 : Int32)), (.int v121)])) _
                    refine XS.icmpYes X65.here hx rfl (pc0 := 167) (pc' := 191) rfl (hb hby at_167) rfl (flt d141).2.2.2 (by decide) (by decide) ?_
                    show Steps p.tables e below (T65.setTop (mkF m 191 #[.val (.int k1), .val (.int k2), .val (.int k3), .val (.ref b1), .val (.int v121), .unset] [])) _
                    refine XS.iconst X65.here hx rfl (hb hby at_191) ?_
                    show Steps p.tables e below (T65.setTop (mkF m 192 #[.val (.int k1), .val (.int k2), .val (.int k3), .val (.ref b1), .val (.int v121), .unset] [(.int (1 : Int32))])) _
                    refine XS.goto X65.here hx rfl (pc0 := 192) (pc' := 196) rfl (hb hby at_192) (by decide) (by decide) ?_
                    show Steps p.tables e below (T65.setTop (mkF m 196 #[.val (.int k1), .val (.int k2), .val (.int k3), .val (.ref b1), .val (.int v121), .unset] [(.int (1 : Int32))])) _
                    exact castTop (by simp only [hm196, if_neg d116, if_pos d117, if_neg d118, if_neg d127, if_pos d136, if_neg d137, if_neg d141]) kt
              · skip
                show Steps p.tables e below (T65.setTop (mkF m 153 #[.val (.int k1), .val (.int k2), .val (.int k3), .val (.ref b1), .val (.int v121), .unset] [(.int (13 : Int32)), (.int v121)])) _
                refine XS.icmpYes X65.here hx rfl (pc0 := 153) (pc' := 191) rfl (hb hby at_153) rfl (feq d136).2 (by decide) (by decide) ?_
                show Steps p.tables e below (T65.setTop (mkF m 191 #[.val (.int k1), .val (.int k2), .val (.int k3), .val (.ref b1), .val (.int v121), .unset] [])) _
                refine XS.iconst X65.here hx rfl (hb hby at_191) ?_
                show Steps p.tables e below (T65.setTop (mkF m 192 #[.val (.int k1), .val (.int k2), .val (.int k3), .val (.ref b1), .val (.int v121), .unset] [(.int (1 : Int32))])) _
                refine XS.goto X65.here hx rfl (pc0 := 192) (pc' := 196) rfl (hb hby at_192) (by decide) (by decide) ?_
                show Steps p.tables e below (T65.setTop (mkF m 196 #[.val (.int k1), .val (.int k2), .val (.int k3), .val (.ref b1), .val (.int v121), .unset] [(.int (1 : Int32))])) _
                exact castTop (by simp only [hm196, if_neg d116, if_pos d117, if_neg d118, if_neg d127, if_neg d136]) kt
        · skip
          show Steps p.tables e below (T65.setTop (mkF m 132 #[.val (.int k1), .val (.int k2), .val (.int k3), .val (.ref b1), .val (.int v121), .unset] [(.int (32 : Int32)), (.int v121)])) _
          refine XS.icmpYes X65.here hx rfl (pc0 := 132) (pc' := 156) rfl (hb hby at_132) rfl (flt d117).2.1 (by decide) (by decide) ?_
          show Steps p.tables e below (T65.setTop (mkF m 156 #[.val (.int k1), .val (.int k2), .val (.int k3), .val (.ref b1), .val (.int v121), .unset] [])) _
          refine XS.iload X65.here hx rfl (hb hby at_156) rfl ?_
          show Steps p.tables e below (T65.setTop (mkF m 158 #[.val (.int k1), .val (.int k2), .val (.int k3), .val (.ref b1), .val (.int v121), .unset] [(.int v121)])) _
          refine X65.ldcInt hx hown (mvT hZ (hw _ (List.mem_of_getElem? (i := 2) rfl))) (g := (mkF m 158 #[.val (.int k1), .val (.int k2), .val (.int k3), .val (.ref b1), .val (.int v121), .unset] [(.int v121)])) rfl (hb hby at_158) _ ?_
          by_cases d145 : v121 < (55296 : Int32)
          · skip
            show Steps p.tables e below (T65.setTop (mkF m 160 #[.val (.int k1), .val (.int k2), .val (.int k3), .val (.ref b1), .val (.int v121), .unset] [(.int (55296 : Int32)), (.int v121)])) _
            refine XS.icmpYes X65.here hx rfl (pc0 := 160) (pc' := 170) rfl (hb hby at_160) rfl (tlt d145).1 (by decide) (by decide) ?_
            show Steps p.tables e below (T65.setTop (mkF m 170 #[.val (.int k1), .val (.int k2), .val (.int k3), .val (.ref b1), .val (.int v121), .unset] [])) _
            refine XS.iload X65.here hx rfl (hb hby at_170) rfl ?_
            show Steps p.tables e below (T65.setTop (mkF m 172 #[.val (.int k1), .val (.int k2), .val (.int k3), .val (.ref b1), .val (.int v121), .unset] [(.int v121)])) _
            refine X65.ldcInt hx hown (mvT hZ (hw _ (List.mem_of_getElem? (i := 16) rfl))) (g := (mkF m 172 #[.val (.int k1), .val (.int k2), .val (.int k3), .val (.ref b1), .val (.int v121), .unset] [(.int v121)])) rfl (hb hby at_172) _ ?_
            by_cases d146 : v121 = (65534 : Int32)
            · skip
              show Steps p.tables e below (T65.setTop (mkF m 174 #[.val (.int k1), .val (.int k2), .val (.int k3), .val (.ref b1), .val (.int v121), .unset] [(.int (65534 : Int32)), (.int v121)])) _
              refine XS.icmpYes X65.here hx rfl (pc0 := 174) (pc' := 191) rfl (hb hby at_174) rfl (teq d146).1 (by decide) (by decide) ?_
              show Steps p.tables e below (T65.setTop (mkF m 191 #[.val (.int k1), .val (.int k2), .val (.int k3), .val (.ref b1), .val (.int v121), .unset] [])) _
              refine XS.iconst X65.here hx rfl (hb hby at_191) ?_
              show Steps p.tables e below (T65.setTop (mkF m 192 #[.val (.int k1), .val (.int k2), .val (.int k3), .val (.ref b1), .val (.int v121), .unset] [(.int (1 : Int32))])) _
              refine XS.goto X65.here hx rfl (pc0 := 192) (pc' := 196) rfl (hb hby at_192) (by decide) (by decide) ?_
              show Steps p.tables e below (T65.setTop (mkF m 196 #[.val (.int k1), .val (.int k2), .val (.int k3), .val (.ref b1), .val (.int v121), .unset] [(.int (1 : Int32))])) _
              exact castTop (by simp only [hm196, if_neg d116, if_neg d117, if_pos d145, if_pos d146]) kt
            · skip
              show Steps p.tables e below (T65.setTop (mkF m 174 #[.val (.int k1), .val (.int k2), .val (.int k3), .val (.ref b1), .val (.int v121), .unset] [(.int (65534 : Int32)), (.int v121)])) _
              refine XS.icmpNo X65.here hx rfl (hb hby at_174) rfl (feq d146).1 ?_
              show Steps p.tables e below (T65.setTop (mkF m 177 #[.val (.int k1), .val (.int k2), .val (.int k3), .val (.ref b1), .val (.int v121), .unset] [])) _
              refine XS.iload X65.here hx rfl (hb hby at_177) rfl ?_
              show Steps p.tables e below (T65.setTop (mkF m 179 #[.val (.int k1), .val (.int k2), .val (.int k3), .val (.ref b1), .val (.int v121), .unset] [(.int v121)])) _
              refine X65.ldcInt hx hown (mvT hZ (hw _ (List.mem_of_getElem? (i := 6) rfl))) (g := (mkF m 179 #[.val (.int k1), .val (.int k2), .val (.int k3), .val (.ref b1), .val (.int v121), .unset] [(.int v121)])) rfl (hb hby at_179) _ ?_
              by_cases d147 : v121 = (65535 : Int32)
              · skip
                show Steps p.tables e below (T65.setTop (mkF m 181 #[.val (.int k1), .val (.int k2), .val (.int k3), .val (.ref b1), .val (.int v121), .unset] [(.int (65535 : Int32)), (.int v121)])) _
                refine XS.icmpYes X65.here hx rfl (pc0 := 181) (pc' := 191) rfl (hb hby at_181) rfl (teq d147).1 (by decide) (by decide) ?_
                show Steps p.tables e below (T65.setTop (mkF m 191 #[.val (.int k1), .val (.int k2), .val (.int k3), .val (.ref b1), .val (.int v121), .unset] [])) _
                refine XS.iconst X65.here hx rfl (hb hby at_191) ?_
                show Steps p.tables e below (T65.setTop (mkF m 192 #[.val (.int k1), .val (.int k2), .val (.int k3), .val (.ref b1), .val (.int v121), .unset] [(.int (1 : Int32))])) _
                refine XS.goto X65.here hx rfl (pc0 := 192) (pc' := 196) rfl (hb hby at_192) (by decide) (by decide) ?_
                show Steps p.tables e below (T65.setTop (mkF m 196 #[.val (.int k1), .val (.int k2), .val (.int k3), .val (.ref b1), .val (.int v121), .unset] [(.int (1 : Int32))])) _
                exact castTop (by simp only [hm196, if_neg d116, if_neg d117, if_pos d145, if_neg d146, if_pos d147]) kt
              · skip
                show Steps p.tables e below (T65.setTop (mkF m 181 #[.val (.int k1), .val (.int k2), .val (.int k3), .val (.ref b1), .val (.int v121), .unset] [(.int (65535 : Int32)), (.int v121)])) _
                refine XS.icmpNo X65.here hx rfl (hb hby at_181) rfl (feq d147).1 ?_
                show Steps p.tables e below (T65.setTop (mkF m 184 #[.val (.int k1), .val (.int k2), .val (.int k3), .val (.ref b1), .val (.int v121), .unset] [])) _
                refine XS.iload X65.here hx rfl (hb hby at_184) rfl ?_
                show Steps p.tables e below (T65.setTop (mkF m 186 #[.val (.int k1), .val (.int k2), .val (.int k3), .val (.ref b1), .val (.int v121), .unset] [(.int v121)])) _
                refine X65.ldcInt hx hown (mvT hZ (hw _ (List.mem_of_getElem? (i := 8) rfl))) (g := (mkF m 186 #[.val (.int k1), .val (.int k2), .val (.int k3), .val (.ref b1), .val (.int v121), .unset] [(.int v121)])) rfl (hb hby at_186) _ ?_
                by_cases d148 : (1114111 : Int32) < v121
                · skip
                  show Steps p.tables e below (T65.setTop (mkF m 188 #[.val (.int k1), .val (.int k2), .val (.int k3), .val (.ref b1), .val (.int v121), .unset] [(.int (1114111 : Int32)), (.int v121)])) _
                  refine XS.icmpNo X65.here hx rfl (hb hby at_188) rfl (tlt d148).2.2.2 ?_
                  show Steps p.tables e below (T65.setTop (mkF m 191 #[.val (.int k1), .val (.int k2), .val (.int k3), .val (.ref b1), .val (.int v121), .unset] [])) _
                  refine XS.iconst X65.here hx rfl (hb hby at_191) ?_
                  show Steps p.tables e below (T65.setTop (mkF m 192 #[.val (.int k1), .val (.int k2), .val (.int k3), .val (.ref b1), .val (.int v121), .unset] [(.int (1 : Int32))])) _
                  refine XS.goto X65.here hx rfl (pc0 := 192) (pc' := 196) rfl (hb hby at_192) (by decide) (by decide) ?_
                  show Steps p.tables e below (T65.setTop (mkF m 196 #[.val (.int k1), .val (.int k2), .val (.int k3), .val (.ref b1), .val (.int v121), .unset] [(.int (1 : Int32))])) _
                  exact castTop (by simp only [hm196, if_neg d116, if_neg d117, if_pos d145, if_neg d146, if_neg d147, if_pos d148]) kt
                · skip
                  show Steps p.tables e below (T65.setTop (mkF m 188 #[.val (.int k1), .val (.int k2), .val (.int k3), .val (.ref b1), .val (.int v121), .unset] [(.int (1114111 : Int32)), (.int v121)])) _
                  refine XS.icmpYes X65.here hx rfl (pc0 := 188) (pc' := 195) rfl (hb hby at_188) rfl (flt d148).2.2.2 (by decide) (by decide) ?_
                  show Steps p.tables e below (T65.setTop (mkF m 195 #[.val (.int k1), .val (.int k2), .val (.int k3), .val (.ref b1), .val (.int v121), .unset] [])) _
                  refine XS.iconst X65.here hx rfl (hb hby at_195) ?_
                  show Steps p.tables e below (T65.setTop (mkF m 196 #[.val (.int k1), .val (.int k2), .val (.int k3), .val (.ref b1), .val (.int v121), .unset] [(.int (0 : Int32))])) _
                  exact castTop (by simp only [hm196, if_neg d116, if_neg d117, if_pos d145, if_neg d146, if_neg d147, if_neg d148]) kt
          · skip
            show Steps p.tables e below (T65.setTop (mkF m 160 #[.val (.int k1), .val (.int k2), .val (.int k3), .val (.ref b1), .val (.int v121), .unset] [(.int (55296 : Int32)), (.int v121)])) _
            refine XS.icmpNo X65.here hx rfl (hb hby at_160) rfl (flt d145).1 ?_
            show Steps p.tables e below (T65.setTop (mkF m 163 #[.val (.int k1), .val (.int k2), .val (.int k3), .val (.ref b1), .val (.int v121), .unset] [])) _
            refine XS.iload X65.here hx rfl (hb hby at_163) rfl ?_
            show Steps p.tables e below (T65.setTop (mkF m 165 #[.val (.int k1), .val (.int k2), .val (.int k3), .val (.ref b1), .val (.int v121), .unset] [(.int v121)])) _
            refine X65.ldcInt hx hown (mvT hZ (hw _ (List.mem_of_getElem? (i := 3) rfl))) (g := (mkF m 165 #[.val (.int k1), .val (.int k2), .val (.int k3), .val (.ref b1), .val (.int v121), .unset] [(.int v121)])) rfl (hb hby at_165) _ ?_
            by_cases d149 : (57343 : Int32) < v121
            · skip
              show Steps p.tables e below (T65.setTop (mkF m 167 #[.val (.int k1), .val (.int k2), .val (.int k3), .val (.ref b1), .val (.int v121), .unset] [(.int (57343 : Int32)), (.int v121)])) _
              refine XS.icmpNo X65.here hx rfl (hb hby at_167) rfl (tlt d149).2.2.2 ?_
              show Steps p.tables e below (T65.setTop (mkF m 170 #[.val (.int k1), .val (.int k2), .val (.int k3), .val (.ref b1), .val (.int v121), .unset] [])) _
              refine XS.iload X65.here hx rfl (hb hby at_170) rfl ?_
              show Steps p.tables e below (T65.setTop (mkF m 172 #[.val (.int k1), .val (.int k2), .val (.int k3), .val (.ref b1), .val (.int v121), .unset] [(.int v121)])) _
              refine X65.ldcInt hx hown (mvT hZ (hw _ (List.mem_of_getElem? (i := 16) rfl))) (g := (mkF m 172 #[.val (.int k1), .val (.int k2), .val (.int k3), .val (.ref b1), .val (.int v121), .unset] [(.int v121)])) rfl (hb hby at_172) _ ?_
              by_cases d150 : v121 = (65534 : Int32)
              · skip
                show Steps p.tables e below (T65.setTop (mkF m 174 #[.val (.int k1), .val (.int k2), .val (.int k3), .val (.ref b1), .val (.int v121), .unset] [(.int (65534 : Int32)), (.int v121)])) _
                refine XS.icmpYes X65.here hx rfl (pc0 := 174) (pc' := 191) rfl (hb hby at_174) rfl (teq d150).1 (by decide) (by decide) ?_
                show Steps p.tables e below (T65.setTop (mkF m 191 #[.val (.int k1), .val (.int k2), .val (.int k3), .val (.ref b1), .val (.int v121), .unset] [])) _
                refine XS.iconst X65.here hx rfl (hb hby at_191) ?_
                show Steps p.tables e below (T65.setTop (mkF m 192 #[.val (.int k1), .val (.int k2), .val (.int k3), .val (.ref b1), .val (.int v121), .unset] [(.int (1 : Int32))])) _
                refine XS.goto X65.here hx rfl (pc0 := 192) (pc' := 196) rfl (hb hby at_192) (by decide) (by decide) ?_
                show Steps p.tables e below (T65.setTop (mkF m 196 #[.val (.int k1), .val (.int k2), .val (.int k3), .val (.ref b1), .val (.int v121), .unset] [(.int (1 : Int32))])) _
                exact castTop (by simp only [hm196, if_neg d116, if_neg d117, if_neg d145, if_pos d149, if_pos d150]) kt
              · skip
                show Steps p.tables e below (T65.setTop (mkF m 174 #[.val (.int k1), .val (.int k2), .val (.int k3), .val (.ref b1), .val (.int v121), .unset] [(.int (65534 : Int32)), (.int v121)])) _
                refine XS.icmpNo X65.here hx rfl (hb hby at_174) rfl (feq d150).1 ?_
                show Steps p.tables e below (T65.setTop (mkF m 177 #[.val (.int k1), .val (.int k2), .val (.int k3), .val (.ref b1), .val (.int v121), .unset] [])) _
                refine XS.iload X65.here hx rfl (hb hby at_177) rfl ?_
                show Steps p.tables e below (T65.setTop (mkF m 179 #[.val (.int k1), .val (.int k2), .val (.int k3), .val (.ref b1), .val (.int v121), .unset] [(.int v121)])) _
                refine X65.ldcInt hx hown (mvT hZ (hw _ (List.mem_of_getElem? (i := 6) rfl))) (g := (mkF m 179 #[.val (.int k1), .val (.int k2), .val (.int k3), .val (.ref b1), .val (.int v121), .unset] [(.int v121)])) rfl (hb hby at_179) _ ?_
                by_cases d151 : v121 = (65535 : Int32)
                · skip
                  show Steps p.tables e below (T65.setTop (mkF m 181 #[.val (.int k1), .val (.int k2), .val (.int k3), .val (.ref b1), .val (.int v121), .unset] [(.int (65535 : Int32)), (.int v121)])) _
                  refine XS.icmpYes X65.here hx rfl (pc0 := 181) (pc' := 191) rfl (hb hby at_181) rfl (teq d151).1 (by decide) (by decide) ?_
                  show Steps p.tables e below (T65.setTop (mkF m 191 #[.val (.int k1), .val (.int k2), .val (.int k3), .val (.ref b1), .val (.int v121), .unset] [])) _
                  refine XS.iconst X65.here hx rfl (hb hby at_191) ?_
                  show Steps p.tables e below (T65.setTop (mkF m 192 #[.val (.int k1), .val (.int k2), .val (.int k3), .val (.ref b1), .val (.int v121), .unset] [(.int (1 : Int32))])) _
                  refine XS.goto X65.here hx rfl (pc0 := 192) (pc' := 196) rfl (hb hby at_192) (by decide) (by decide) ?_
                  show Steps p.tables e below (T65.setTop (mkF m 196 #[.val (.int k1), .val (.int k2), .val (.int k3), .val (.ref b1), .val (.int v121), .unset] [(.int (1 : Int32))])) _
                  exact castTop (by simp only [hm196, if_neg d116, if_neg d117, if_neg d145, if_pos d149, if_neg d150, if_pos d151]) kt
                · skip
                  show Steps p.tables e below (T65.setTop (mkF m 181 #[.val (.int k1), .val (.int k2), .val (.int k3), .val (.ref b1), .val (.int v121), .unset] [(.int (65535 : Int32)), (.int v121)])) _
                  refine XS.icmpNo X65.here hx rfl (hb hby at_181) rfl (feq d151).1 ?_
                  show Steps p.tables e below (T65.setTop (mkF m 184 #[.val (.int k1), .val (.int k2), .val (.int k3), .val (.ref b1), .val (.int v121), .unset] [])) _
                  refine XS.iload X65.here hx rfl (hb hby at_184) rfl ?_
                  show Steps p.tables e below (T65.setTop (mkF m 186 #[.val (.int k1), .val (.int k2), .val (.int k3), .val (.ref b1), .val (.int v121), .unset] [(.int v121)])) _
                  refine X65.ldcInt hx hown (mvT hZ (hw _ (List.mem_of_getElem? (i := 8) rfl))) (g := (mkF m 186 #[.val (.int k1), .val (.int k2), .val (.int k3), .val (.ref b1), .val (.int v121), .unset] [(.int v121)])) rfl (hb hby at_186) _ ?_
                  by_cases d152 : (1114111 : Int32) < v121
                  · skip
                    show Steps p.tables e below (T65.setTop (mkF m 188 #[.val (.int k1), .val (.int k2), .val (.int k3), .val (.ref b1), .val (.int v121), .unset] [(.int (1114111 : Int32)), (.int v121)])) _
                    refine XS.icmpNo X65.here hx rfl (hb hby at_188) rfl (tlt d152).2.2.2 ?_
                    show Steps p.tables e below (T65.setTop (mkF m 191 #[.val (.int k1), .val (.int k2), .val (.int k3), .val (.ref b1), .val (.int v121), .unset] [])) _
                    refine XS.iconst X65.here hx rfl (hb hby at_191) ?_
                    show Steps p.tables e below (T65.setTop (mkF m 192 #[.val (.int k1), .val (.int k2), .val (.int k3), .val (.ref b1), .val (.int v121), .unset] [(.int (1 : Int32))])) _
                    refine XS.goto X65.here hx rfl (pc0 := 192) (pc' := 196) rfl (hb hby at_192) (by decide) (by decide) ?_
                    show Steps p.tables e below (T65.setTop (mkF m 196 #[.val (.int k1), .val (.int k2), .val (.int k3), .val (.ref b1), .val (.int v121), .unset] [(.int (1 : Int32))])) _
                    exact castTop (by simp only [hm196, if_neg d116, if_neg d117, if_neg d145, if_pos d149, if_neg d150, if_neg d151, if_pos d152]) kt
                  · skip
                    show Steps p.tables e below (T65.setTop (mkF m 188 #[.val (.int k1), .val (.int k2), .val (.int k3), .val (.ref b1), .val (.int v121), .unset] [(.int (1114111 : Int32)), (.int v121)])) _
                    refine XS.icmpYes X65.here hx rfl (pc0 := 188) (pc' := 195) rfl (hb hby at_188) rfl (flt d152).2.2.2 (by decide) (by decide) ?_
                    show Steps p.tables e below (T65.setTop (mkF m 195 #[.val (.int k1), .val (.int k2), .val (.int k3), .val (.ref b1), .val (.int v121), .unset] [])) _
                    refine XS.iconst X65.here hx rfl (hb hby at_195) ?_
                    show Steps p.tables e below (T65.setTop (mkF m 196 #[.val (.int k1), .val (.int k2), .val (.int k3), .val (.ref b1), .val (.int v121), .unset] [(.int (0 : Int32))])) _
                    exact castTop (by simp only [hm196, if_neg d116, if_neg d117, if_neg d145, if_pos d149, if_neg d150, if_neg d151, if_neg d152]) kt
            · skip
              show Steps p.tables e below (T65.setTop (mkF m 167 #[.val (.int k1), .val (.int k2), .val (.int k3), .val (.ref b1), .val (.int v121), .unset] [(.int (57343 : Int32)), (.int v121)])) _
              refine XS.icmpYes X65.here hx rfl (pc0 := 167) (pc' := 191) rfl (hb hby at_167) rfl (flt d149).2.2.2 (by decide) (by decide) ?_
              show Steps p.tables e below (T65.setTop (mkF m 191 #[.val (.int k1), .val (.int k2), .val (.int k3), .val (.ref b1), .val (.int v121), .unset] [])) _
              refine XS.iconst X65.here hx rfl (hb hby at_191) ?_
              show Steps p.tables e below (T65.setTop (mkF m 192 #[.val (.int k1), .val (.int k2), .val (.int k3), .val (.ref b1), .val (.int v121), .unset] [(.int (1 : Int32))])) _
              refine XS.goto X65.here hx rfl (pc0 := 192) (pc' := 196) rfl (hb hby at_192) (by decide) (by decide) ?_
              show Steps p.tables e below (T65.setTop (mkF m 196 #[.val (.int k1), .val (.int k2), .val (.int k3), .val (.ref b1), .val (.int v121), .unset] [(.int (1 : Int32))])) _
              exact castTop (by simp only [hm196, if_neg d116, if_neg d117, if_neg d145, if_neg d149]) kt
    obtain ⟨_, _, ⟨T154, L154, k154, n154⟩, -, X154, ⟨Lc154, hQ154, l154, y154, z154⟩, st154⟩ := Jvm.LawKit.callS X65 hx (y := (⟨"com/example/marcotte/marcotte/XmlCharacters", "isAllowed", "(I)Z"⟩ : MethodName)) hown (mvT hZ (hw _ (List.mem_of_getElem? (i := 10) rfl))) (mvT hZ (hw _ (List.mem_of_getElem? (i := 11) rfl))) (mvT hZ (hw _ (List.mem_of_getElem? (i := 12) rfl))) (mvT hZ (hw _ (List.mem_of_getElem? (i := 13) rfl))) (by decide) (backOf (W := 0) (rm1 l Z a0 hw [] v121 hX65 n0 Z67 ) hZ (hw _ (List.mem_of_getElem? (i := 13) rfl)) (hw _ (List.mem_of_getElem? (i := 12) rfl)) (by decide) (by decide)) (g := (mkF m 200 #[.val (.int k1), .val (.int k2), .val (.int k3), .val (.ref b1), .val (.int v121), .val (.int m196)] [(.int v121)])) rfl (by rw [hml]; rfl) (argsL := [(.int v121)]) (rest := []) (lenOf pd_0 rfl) rfl (by show 2 * 0 + _ ≤ _; exact Nat.le_of_eq rfl) (hb hby at_200) (fun _ _ => ⟨rfl, e65, (by decide : 1 + 0 ≤ _), (by decide : 16 + 0 ≤ _)⟩)
    dsimp only [Pt.U, Pt.locs, Pt.cells, Pt.slots] at X154 l154 y154 z154 st154 hQ154
    subst l154 y154 z154
    obtain ⟨rfl, N154q, e154⟩ := hQ154
    have N154 := Fr.app N65 N154q
    obtain ⟨r200, hr200⟩ : ∃ z_q : Int32, z_q = (own_f1 v121) := ⟨_, rfl⟩
    obtain ⟨m213, hm213⟩ : ∃ z_q : Int32, z_q = (if m196 = (0 : Int32) then (1 : Int32) else (0 : Int32)) := ⟨_, rfl⟩
    have pre156 : ∀ tq, Steps p.tables e below (T154.setTop (mkF m 213 #[.val (.int k1), .val (.int k2), .val (.int k3), .val (.ref b1), .val (.int v121), .val (.int m196)] [(.int m213), (.int r200)])) tq → Steps p.tables e below (s₁.setTop (entryFrame m #[(.int k1), (.int k2), (.int k3)] maxLocals)) tq := by
      intro tq kt
      refine pre153 _ ?_
      show Steps p.tables e below (T65.setTop (mkF m 196 #[.val (.int k1), .val (.int k2), .val (.int k3), .val (.ref b1), .val (.int v121), .unset] [(.int m196)])) _
      refine XS.istore X65.here hx rfl (hb hby at_196) rfl (l' := #[.val (.int k1), .val (.int k2), .val (.int k3), .val (.ref b1), .val (.int v121), .val (.int m196)]) rfl ?_
      show Steps p.tables e below (T65.setTop (mkF m 198 #[.val (.int k1), .val (.int k2), .val (.int k3), .val (.ref b1), .val (.int v121), .val (.int m196)] [])) _
      refine XS.iload X65.here hx rfl (hb hby at_198) rfl ?_
      show Steps p.tables e below (T65.setTop (mkF m 200 #[.val (.int k1), .val (.int k2), .val (.int k3), .val (.ref b1), .val (.int v121), .val (.int m196)] [(.int v121)])) _
      refine st154 _ ?_
      show Steps p.tables e below (T154.setTop (mkF m 203 #[.val (.int k1), .val (.int k2), .val (.int k3), .val (.ref b1), .val (.int v121), .val (.int m196)] [(.int (own_f1 v121))])) _
      rw [← hr200]
      show Steps p.tables e below (T154.setTop (mkF m 203 #[.val (.int k1), .val (.int k2), .val (.int k3), .val (.ref b1), .val (.int v121), .val (.int m196)] [(.int r200)])) _
      refine XS.iload X154.here hx rfl (hb hby at_203) rfl ?_
      by_cases d155 : m196 = (0 : Int32)
      · skip
        show Steps p.tables e below (T154.setTop (mkF m 205 #[.val (.int k1), .val (.int k2), .val (.int k3), .val (.ref b1), .val (.int v121), .val (.int m196)] [(.int m196), (.int r200)])) _
        refine XS.ifNo X154.here hx rfl (hb hby at_205) rfl ((if0 _ _).trans (teq d155).2) ?_
        show Steps p.tables e below (T154.setTop (mkF m 208 #[.val (.int k1), .val (.int k2), .val (.int k3), .val (.ref b1), .val (.int v121), .val (.int m196)] [(.int r200)])) _
        refine XS.iconst X154.here hx rfl (hb hby at_208) ?_
        show Steps p.tables e below (T154.setTop (mkF m 209 #[.val (.int k1), .val (.int k2), .val (.int k3), .val (.ref b1), .val (.int v121), .val (.int m196)] [(.int (1 : Int32)), (.int r200)])) _
        refine XS.goto X154.here hx rfl (pc0 := 209) (pc' := 213) rfl (hb hby at_209) (by decide) (by decide) ?_
        show Steps p.tables e below (T154.setTop (mkF m 213 #[.val (.int k1), .val (.int k2), .val (.int k3), .val (.ref b1), .val (.int v121), .val (.int m196)] [(.int (1 : Int32)), (.int r200)])) _
        exact castTop (by simp only [hm213, if_pos d155]) kt
      · skip
        show Steps p.tables e below (T154.setTop (mkF m 205 #[.val (.int k1), .val (.int k2), .val (.int k3), .val (.ref b1), .val (.int v121), .val (.int m196)] [(.int m196), (.int r200)])) _
        refine XS.ifYes X154.here hx rfl (pc0 := 205) (pc' := 212) rfl (hb hby at_205) rfl ((if0 _ _).trans (feq d155).2) (by decide) (by decide) ?_
        show Steps p.tables e below (T154.setTop (mkF m 212 #[.val (.int k1), .val (.int k2), .val (.int k3), .val (.ref b1), .val (.int v121), .val (.int m196)] [(.int r200)])) _
        refine XS.iconst X154.here hx rfl (hb hby at_212) ?_
        show Steps p.tables e below (T154.setTop (mkF m 213 #[.val (.int k1), .val (.int k2), .val (.int k3), .val (.ref b1), .val (.int v121), .val (.int m196)] [(.int (0 : Int32)), (.int r200)])) _
        exact castTop (by simp only [hm213, if_neg d155]) kt
    obtain ⟨m221, hm221⟩ : ∃ z_q : Int32, z_q = (if r200 = m213 then (1 : Int32) else (0 : Int32)) := ⟨_, rfl⟩
    have pre158 : ∀ tq, Steps p.tables e below (T154.setTop (mkF m 221 #[.val (.int k1), .val (.int k2), .val (.int k3), .val (.ref b1), .val (.int v121), .val (.int m196)] [(.int m221)])) tq → Steps p.tables e below (s₁.setTop (entryFrame m #[(.int k1), (.int k2), (.int k3)] maxLocals)) tq := by
      intro tq kt
      refine pre156 _ ?_
      by_cases d157 : r200 = m213
      · skip
        show Steps p.tables e below (T154.setTop (mkF m 213 #[.val (.int k1), .val (.int k2), .val (.int k3), .val (.ref b1), .val (.int v121), .val (.int m196)] [(.int m213), (.int r200)])) _
        refine XS.icmpNo X154.here hx rfl (hb hby at_213) rfl (teq d157).2 ?_
        show Steps p.tables e below (T154.setTop (mkF m 216 #[.val (.int k1), .val (.int k2), .val (.int k3), .val (.ref b1), .val (.int v121), .val (.int m196)] [])) _
        refine XS.iconst X154.here hx rfl (hb hby at_216) ?_
        show Steps p.tables e below (T154.setTop (mkF m 217 #[.val (.int k1), .val (.int k2), .val (.int k3), .val (.ref b1), .val (.int v121), .val (.int m196)] [(.int (1 : Int32))])) _
        refine XS.goto X154.here hx rfl (pc0 := 217) (pc' := 221) rfl (hb hby at_217) (by decide) (by decide) ?_
        show Steps p.tables e below (T154.setTop (mkF m 221 #[.val (.int k1), .val (.int k2), .val (.int k3), .val (.ref b1), .val (.int v121), .val (.int m196)] [(.int (1 : Int32))])) _
        exact castTop (by simp only [hm221, if_pos d157]) kt
      · skip
        show Steps p.tables e below (T154.setTop (mkF m 213 #[.val (.int k1), .val (.int k2), .val (.int k3), .val (.ref b1), .val (.int v121), .val (.int m196)] [(.int m213), (.int r200)])) _
        refine XS.icmpYes X154.here hx rfl (pc0 := 213) (pc' := 220) rfl (hb hby at_213) rfl (feq d157).2 (by decide) (by decide) ?_
        show Steps p.tables e below (T154.setTop (mkF m 220 #[.val (.int k1), .val (.int k2), .val (.int k3), .val (.ref b1), .val (.int v121), .val (.int m196)] [])) _
        refine XS.iconst X154.here hx rfl (hb hby at_220) ?_
        show Steps p.tables e below (T154.setTop (mkF m 221 #[.val (.int k1), .val (.int k2), .val (.int k3), .val (.ref b1), .val (.int v121), .val (.int m196)] [(.int (0 : Int32))])) _
        exact castTop (by simp only [hm221, if_neg d157]) kt
    obtain ⟨fs, hr, hrun, hended, hW, hsame⟩ := X154.leave (v := some (Value.int (nar .boolean m221))) (fun h => by rw [Bd.returns] at h; cases h)
    have hres159 : (nar .boolean m221) = (1 : Int32) := (own_leaf_0_221_t k1 k2 k3 hc99_70 w113 hw113 v121 hv121 m196 hm196 r200 hr200 m213 hm213 m221 hm221)
    refine ⟨_, _, pre158 _ ?_, hrun, hended, _, _, rfl, ?_, ⟨_, rfl⟩, hW, hsame.mono (by decide) (by decide)⟩
    · skip
      show Steps p.tables e below (T154.setTop (mkF m 221 #[.val (.int k1), .val (.int k2), .val (.int k3), .val (.ref b1), .val (.int v121), .val (.int m196)] [(.int m221)])) _
      exact retN X154 hx (t := .boolean) Bd.returns (by simp) (hb hby at_221) hr
    · show Q0 Z k1 k2 k3 h0 n0 _ T154.heap _
      rw [e154]
      exact ⟨congrArg (fun z => some (Value.int z)) hres159, N154⟩
set_option maxRecDepth 65536 in
set_option maxHeartbeats 40000000 in
theorem comes_1 {Post : Tables → Env → Array Value → State → Outcome → State → Prop} (hpost : ∀ tb e args s v u, (limb_1_1.after args s (.returned v) u = true ∧ limb_1_2.after args s (.returned v) u = true ∧ True) → FrameEnd s (.returned v) u (Jvm.fieldLocs frame_1_writes args s ++ Jvm.arrayLocs frame_1_arrays args s ++ Jvm.staticLocs frame_1_statics s) 16 128 → Post tb e args s (.returned v) u) :
    ArmFor flags0 classFile x code maxLocals ret World_1 tables_1 room_1 Calls_1 rest_1 Pre_1 Post := by
  intro l hfl _ _ p e ha hc hk s m args below hf hA hF happ hP
  obtain ⟨hcalls, hrest, hpre⟩ := hP
  obtain ⟨-, -, -, hnamed, -, -, -, hat⟩ := (Spec.applies_iff hf).mp happ
  obtain ⟨hg, hn⟩ := and_e (Cond.before_iff.mp (show (Jvm.Cond.and given_1 narrow_1).before args s = true from hpre))
  obtain ⟨gv1, gv2⟩ := and_e hg
  obtain ⟨gv3, gv4⟩ := and_e gv2
  obtain ⟨gv5, gv6⟩ := and_e gv4
  obtain ⟨w0, w1, w2, rfl⟩ : ∃ w0 w1 w2 : Value, args = #[w0, w1, w2] := by
    have hs : args.size = 3 := by simpa [Cond.value, given_1] using gv1
    obtain ⟨L⟩ := args
    match L, hs with
    | [w0, w1, w2], _ => exact ⟨w0, w1, w2, rfl⟩
  have hw := fun d (hd : d ∈ tables_1) => atoms_spec (ws := Jvm.Cond.code x code maxLocals ret :: tables_1) hat d (List.mem_cons_of_mem _ hd)
  obtain ⟨i0, ei0⟩ := is_v gv3
  obtain rfl : w0 = (.int i0) := Option.some.inj ei0
  obtain ⟨i1, ei1⟩ := is_v gv5
  obtain rfl : w1 = (.int i1) := Option.some.inj ei1
  obtain ⟨i2, ei2⟩ := is_v gv6
  obtain rfl : w2 = (.int i2) := Option.some.inj ei2
  obtain ⟨n, o, h1, h2, h3, _, L, rfl, ⟨rfl, N⟩, hq⟩ := rm0 l s _ hw tables_1 i0 i1 i2  s.heap s.heap.size (Nat.le_refl _)  p e ha hc hk s m _ below hf ((Spec.applies_iff_loose hf).mp happ).1 ⟨rfl, State.Warmed39.refl s, rfl⟩ trivial
  refine ⟨n, _, h1, h2, h3, hpost _ _ _ _ _ _ ⟨Cond.after_iff.mpr rfl, Cond.after_iff.mpr (eq_i res_at (Term.int_eval (1)) rfl), trivial⟩ ⟨hq.1, hq.2.1, (hq.2.2.sift fun y hy => Or.inr (N y hy)).mono (by decide) (by decide)⟩⟩
theorem main_1_1 : Claimed_1_1 := comes_1 fun _ _ _ _ _ _ h hF => ⟨h.1, hF⟩
theorem main_1_2 : Claimed_1_2 := comes_1 fun _ _ _ _ _ _ h hF => ⟨h.2.1, hF⟩
end Jvm.Pilot.@@N@@
namespace Jvm.Pilot.@@N@@
open Jvm Jvm.ClassFile Sem Op Lib Jvm.Free Jvm.Stand Jvm.Pilot.@@N@@.Jvm.D
/-! MADE BY PROGRAM (witnessworld.py) out of the Statement's table words and the real class files: 9 classes; the members and pool entries that the words name. The judged class is class 1, her method 1. -/
namespace start1
open Jvm.ClassFile
def u (s : String) : CpInfo := .utf8 (stringToUtf16 s)
/-- a pool by its gaps: so many unusable entries, then the entry; so many at the end -/
def gap : Nat → List CpInfo → List CpInfo
  | 0, r => r
  | n + 1, r => .unusable :: gap n r
def poolList (es : List (Nat × CpInfo)) (last : Nat) : List CpInfo := es.foldr (fun e r => gap e.1 (e.2 :: r)) (gap last [])
def pool (es : List (Nat × CpInfo)) (last : Nat) : Array CpInfo := ⟨poolList es last⟩
def fileOf (pool : Array CpInfo) (this : Nat) (attrs : Array Attribute := #[]) (ms : Array MethodInfo := #[]) (fl : Nat := 33) (sup : Nat := 0) (ifs : Array Nat := #[]) (fds : Array FieldInfo := #[]) : ClassFile where
  minorVersion := 0
  majorVersion := 65
  constantPool := pool
  accessFlags := fl
  thisClass := this
  superClass := sup
  interfaces := ifs
  fields := fds
  methods := ms
  attributes := attrs
def plain (name : String) (sup : Option ClassId) : Class where
  name := name
  kind := .ordinary
  loader := none
  accessFlags := 33
  super := sup
  interfaces := #[]
  cf := none
  fields := #[]
  methods := #[]
  instanceTypes := #[]
  staticTypes := #[]
  resolved := #[]
  callSites := []
  init := .initialized
  statics := none
  mirror := none

def pool0 : Array CpInfo := pool [(5, u "<init>"), (0, u "()V"), (1, .class_ 10), (1, u "java/lang/Object")] 113

def k0m0 : Method := { name := "<init>", desc := "()V", sig := { parameters := [], returnType := none }, accessFlags := 1, code := none }
/-- java/lang/Object -/
def k0 : Class := { plain "java/lang/Object" none with
  accessFlags := 33
  interfaces := #[]
  cf := some (fileOf pool0 8 #[] #[{ accessFlags := 1, nameIndex := 5, descriptorIndex := 6, attributes := #[] }] 33 0 #[] #[])
  fields := #[]
  methods := #[k0m0]
  instanceTypes := #[]
  staticTypes := #[]
  resolved := Array.replicate 124 none
  statics := none }

def pool1 : Array CpInfo := pool [(2, .class_ 4), (1, u "java/lang/Object"), (0, u "<init>"), (0, u "()V"), (0, .integer 55295), (0, .integer 55296), (0, .integer 57343), (0, .integer 57344), (0, .integer 65533), (0, .integer 65535), (0, .integer 65536), (0, .integer 1114111), (2, .integer 2147483648), (0, .integer 65534), (0, .methodref 20 21), (0, .class_ 22), (0, .nameAndType 23 24), (0, u "com/example/marcotte/marcotte/XmlCharacters"), (0, u "isAllowed"), (0, u "(I)Z"), (0, .class_ 26), (0, u "com/example/marcotte/marcotte/XmlCharactersIsAllowedPinLaw"), (2, u "law"), (0, u "(III)Z")] 5

def k1m0 : Method := { name := "<init>", desc := "()V", sig := { parameters := [], returnType := none }, accessFlags := 2, code := none }
def k1c1 : Code := { maxStack := 4, maxLocals := 6, code := code, exceptionTable := #[], attributes := #[] }
def k1m1 : Method := { name := "law", desc := "(III)Z", sig := { parameters := [.int, .int, .int], returnType := some .boolean }, accessFlags := 9, code := some k1c1 }
/-- com/example/marcotte/marcotte/XmlCharactersIsAllowedPinLaw -/
def k1 : Class := { plain "com/example/marcotte/marcotte/XmlCharactersIsAllowedPinLaw" (some 0) with
  accessFlags := 49
  interfaces := #[]
  cf := some (fileOf pool1 25 #[] #[{ accessFlags := 2, nameIndex := 5, descriptorIndex := 6, attributes := #[] }, { accessFlags := 9, nameIndex := 29, descriptorIndex := 30, attributes := #[] }] 49 2 #[] #[])
  fields := #[]
  methods := #[k1m0, k1m1]
  instanceTypes := #[]
  staticTypes := #[]
  resolved := Array.replicate 36 none
  statics := none }

def pool2 : Array CpInfo := pool [(2, .class_ 4), (1, u "java/lang/Object"), (0, u "<init>"), (0, u "()V"), (1, .class_ 10), (1, u "com/example/marcotte/marcotte/XmlCharacters"), (0, u "CLASSES"), (0, u "[B"), (2, u "NAME_START_RANGES"), (0, u "[I"), (6, u "NAME_RANGES"), (2, .integer 55296), (0, .integer 57343), (0, .integer 65534), (0, .integer 65536), (0, .integer 1114111), (10, u "NAME_START"), (0, u "B"), (2, u "NAME"), (1, u "TEXT_STOP"), (1, u "VALUE_STOP"), (1, u "NOT_XML"), (1, u "ENCODING_NAME"), (0, u "Ljava/lang/String;"), (8, u "(I)Z"), (0, u "isAllowed")] 5

def k2m0 : Method := { name := "<init>", desc := "()V", sig := { parameters := [], returnType := none }, accessFlags := 2, code := none }
def k2c1 : Code := { maxStack := 2, maxLocals := 1, code := prog_47_method_5_code, exceptionTable := #[], attributes := #[] }
def k2m1 : Method := { name := "isAllowed", desc := "(I)Z", sig := { parameters := [.int], returnType := some .boolean }, accessFlags := 8, code := some k2c1 }
/-- com/example/marcotte/marcotte/XmlCharacters -/
def k2 : Class := { plain "com/example/marcotte/marcotte/XmlCharacters" (some 0) with
  accessFlags := 48
  interfaces := #[]
  cf := some (fileOf pool2 8 #[] #[{ accessFlags := 2, nameIndex := 5, descriptorIndex := 6, attributes := #[] }, { accessFlags := 8, nameIndex := 64, descriptorIndex := 63, attributes := #[] }] 48 2 #[] #[{ accessFlags := 24, nameIndex := 41, descriptorIndex := 42, attributes := #[] }, { accessFlags := 24, nameIndex := 45, descriptorIndex := 42, attributes := #[] }, { accessFlags := 24, nameIndex := 47, descriptorIndex := 42, attributes := #[] }, { accessFlags := 24, nameIndex := 49, descriptorIndex := 42, attributes := #[] }, { accessFlags := 24, nameIndex := 51, descriptorIndex := 42, attributes := #[] }, { accessFlags := 24, nameIndex := 11, descriptorIndex := 12, attributes := #[] }, { accessFlags := 24, nameIndex := 53, descriptorIndex := 54, attributes := #[] }, { accessFlags := 26, nameIndex := 15, descriptorIndex := 16, attributes := #[] }, { accessFlags := 26, nameIndex := 23, descriptorIndex := 16, attributes := #[] }])
  fields := #[{ name := "NAME_START", type := .byte, accessFlags := 24, slot := 0, constantValue := 0 }, { name := "NAME", type := .byte, accessFlags := 24, slot := 1, constantValue := 0 }, { name := "TEXT_STOP", type := .byte, accessFlags := 24, slot := 2, constantValue := 0 }, { name := "VALUE_STOP", type := .byte, accessFlags := 24, slot := 3, constantValue := 0 }, { name := "NOT_XML", type := .byte, accessFlags := 24, slot := 4, constantValue := 0 }, { name := "CLASSES", type := (.array .byte), accessFlags := 24, slot := 5, constantValue := 0 }, { name := "ENCODING_NAME", type := (.object "java/lang/String"), accessFlags := 24, slot := 6, constantValue := 0 }, { name := "NAME_START_RANGES", type := (.array .int), accessFlags := 26, slot := 7, constantValue := 0 }, { name := "NAME_RANGES", type := (.array .int), accessFlags := 26, slot := 8, constantValue := 0 }]
  methods := #[k2m0, k2m1]
  instanceTypes := #[]
  staticTypes := #[.byte, .byte, .byte, .byte, .byte, (.array .byte), (.object "java/lang/String"), (.array .int), (.array .int)]
  resolved := Array.replicate 70 none
  statics := none }

def pool3 : Array CpInfo := pool [(1, u "java/lang/Cloneable"), (0, .class_ 1), (0, u "java/lang/Object"), (0, .class_ 3)] 3

/-- java/lang/Cloneable -/
def k3 : Class := { plain "java/lang/Cloneable" (some 0) with
  accessFlags := 1537
  interfaces := #[]
  cf := some (fileOf pool3 2 #[] #[] 1537 4 #[] #[])
  fields := #[]
  methods := #[]
  instanceTypes := #[]
  staticTypes := #[]
  resolved := Array.replicate 8 none
  statics := none }

def pool4 : Array CpInfo := pool [(1, u "java/io/Serializable"), (0, .class_ 1), (0, u "java/lang/Object"), (0, .class_ 3)] 3

/-- java/io/Serializable -/
def k4 : Class := { plain "java/io/Serializable" (some 0) with
  accessFlags := 1537
  interfaces := #[]
  cf := some (fileOf pool4 2 #[] #[] 1537 4 #[] #[])
  fields := #[]
  methods := #[]
  instanceTypes := #[]
  staticTypes := #[]
  resolved := Array.replicate 8 none
  statics := none }

/-- the primitive byte -/
def k5 : Class := { plain "byte" none with kind := .primitive 'B', accessFlags := 0x411 }
/-- [B -/
def k6 : Class := { plain "[B" (some 0) with kind := .array 5 .byte, interfaces := #[3, 4], accessFlags := 1041 }

/-- the primitive int -/
def k7 : Class := { plain "int" none with kind := .primitive 'I', accessFlags := 0x411 }
/-- [I -/
def k8 : Class := { plain "[I" (some 0) with kind := .array 7 .int, interfaces := #[3, 4], accessFlags := 1041 }

def heap : Heap := #[]
def classes : Array Class := #[k0, k1, k2, k3, k4, k5, k6, k7, k8]
def interned : List (Array UInt16 × Addr) := []
def slotsUsed : Nat := 0
def theMethod : MethodId := ⟨1, 1⟩
def args0 : Array Value := #[.int 5, .int 7, .int 3]
def aboutOver (below : List Frame) : State where
  vm := { classes := classes, interned := interned.toArray }
  heap := heap
  slotsUsed := slotsUsed
  threads := #[{ frames := .invoking theMethod args0 :: below }]
def below0 : List Frame := [.native { method := ⟨0, 0⟩, args := #[] }]
def about1 : State := aboutOver below0
def p0 : Program := .bare "" "" ""
def e0 : Env := launch0.env 0 0 0
theorem w_frames : about1.frames = Frame.invoking theMethod args0 :: below0 := rfl
set_option maxRecDepth 65536 in
theorem w_args : argsFit about1.vm theMethod args0 = true := by decide +kernel
set_option maxRecDepth 65536 in
theorem w_heap : heapFits about1 = true := by decide +kernel
set_option maxRecDepth 65536 in
theorem w_runnable : about1.curStatus? = some .runnable := by decide +kernel
set_option maxRecDepth 65536 in
theorem w_alone : about1.alone = true := by decide +kernel
set_option maxRecDepth 65536 in
theorem w_named : about1.methodNamed? x = some theMethod := by decide +kernel
set_option maxRecDepth 65536 in
theorem w_hears : about1.hears theMethod below0 = true := by decide +kernel
set_option maxRecDepth 65536 in
theorem w_ripe : about1.ripe theMethod args0 below0 = true := by decide +kernel
theorem w_running : about1.status = .running := rfl
set_option maxRecDepth 65536 in
theorem w_room : about1.hasRoom e0.platform room_1 = true :=
  launch0.hasRoom_least _ room_1 (by decide +kernel) (by decide +kernel) (by decide +kernel) (by decide +kernel) (by decide +kernel) (by decide +kernel)
theorem allAtoms_all (ts : List Jvm.Cond) (a : Array Jvm.Value) (st : Jvm.State) : (allAtoms ts).before a st = ts.all (fun c => c.before a st) := by
  induction ts with
  | nil => rfl
  | cons c t ih =>
    show (Jvm.Cond.and c (allAtoms t)).before a st = _
    rw [Jvm.Cond.before_and, ih, List.all_cons]
def words1 : List Jvm.Cond := Jvm.Cond.code x code maxLocals ret :: tables_1
/-- a 'code' word, met by the world's own term for the bytes: nothing is compared byte by byte -/
theorem code_word {y : MethodName} {bytes : ByteArray} {mx : Nat} {rt : Option FieldType} {a : Array Value} {s : State} {m : MethodId} {meth : Method} {c : Code} (h1 : s.methodNamed? y = some m) (h2 : s.vm.method? m = some meth) (h3 : meth.code = some c) (h4 : c.code = bytes)
    (h5 : (c.maxLocals == mx && c.exceptionTable.isEmpty && decide (c.maxStack ≤ mostOperands) && decide (meth.sig.returnType = rt) && !meth.locks && decide (parseMethodDescriptor y.desc = some meth.sig)) = true) : (Jvm.Cond.code y bytes mx rt).before a s = true := by
  simp only [Bool.and_eq_true, beq_iff_eq, Bool.not_eq_true', decide_eq_true_eq] at h5
  obtain ⟨⟨⟨⟨⟨g1, g2⟩, g3⟩, g4⟩, g5⟩, g6⟩ := h5
  simp [Cond.before, Cond.holds, Cond.value, h1, h2, h3, h4, g1, g2, g3, g4, g5, g6]
def isCode : Jvm.Cond → Bool
  | .code _ _ _ _ => true
  | _ => false
theorem all_split {L : List Jvm.Cond} {P : Jvm.Cond → Bool} (h1 : L.all (fun c => isCode c || P c) = true) (h2 : ∀ c ∈ L.filter isCode, P c = true) : L.all P = true := by
  refine List.all_eq_true.mpr fun c hc => ?_
  have h := List.all_eq_true.mp h1 c hc
  rcases Bool.eq_false_or_eq_true (isCode c) with hi | hi
  · exact h2 c (List.mem_filter.mpr ⟨hc, hi⟩)
  · simpa [hi] using h
set_option maxRecDepth 65536 in
theorem w_c0 : (Jvm.Cond.code x code maxLocals ret).before args0 about1 = true := code_word (m := ⟨1, 1⟩) (meth := k1m1) (c := k1c1) (by decide +kernel) rfl rfl rfl (by decide +kernel)
set_option maxRecDepth 65536 in
theorem w_c1 : (Jvm.Cond.code ({ cls := "com/example/marcotte/marcotte/XmlCharacters", name := "isAllowed", desc := "(I)Z" } : Jvm.MethodName) prog_47_method_5_code (1 : Nat) (Option.some Jvm.ClassFile.FieldType.boolean)).before args0 about1 = true := code_word (m := ⟨2, 1⟩) (meth := k2m1) (c := k2c1) (by decide +kernel) rfl rfl rfl (by decide +kernel)
def codes1 : List Jvm.Cond := [Jvm.Cond.code x code maxLocals ret, Jvm.Cond.code ({ cls := "com/example/marcotte/marcotte/XmlCharacters", name := "isAllowed", desc := "(I)Z" } : Jvm.MethodName) prog_47_method_5_code (1 : Nat) (Option.some Jvm.ClassFile.FieldType.boolean)]
set_option maxRecDepth 65536 in
theorem codes_eq : words1.filter isCode = codes1 := rfl
theorem w_codes : ∀ c ∈ words1.filter isCode, c.before args0 about1 = true := by
  rw [codes_eq]
  intro c hc
  simp only [codes1, List.mem_cons, List.not_mem_nil, or_false] at hc
  rcases hc with rfl | rfl
  · exact w_c0
  · exact w_c1
set_option maxRecDepth 65536 in
theorem w_t1 : words1.all (fun c => isCode c || c.before args0 about1) = true := by decide +kernel
theorem w_tables : (allAtoms (Jvm.Cond.code x code maxLocals ret :: tables_1)).before args0 about1 = true := by
  rw [allAtoms_all]
  show words1.all (fun c => c.before args0 about1) = true
  refine all_split ?_ w_codes
  rw [w_t1]
set_option maxRecDepth 65536 in
theorem w_case : (Jvm.Cond.and given_1 narrow_1).before args0 about1 = true := by decide +kernel
theorem w_applies : (headSpec (Jvm.Cond.code x code maxLocals ret :: tables_1) room_1).applies x e0.platform about1 = true :=
  (Spec.applies_iff w_frames).mpr ⟨w_running, w_runnable, w_alone, w_named, w_hears, w_ripe, w_room, w_tables⟩
theorem atStart : AtStart classFile x code maxLocals ret World_1 tables_1 room_1 Calls_1 rest_1 Pre_1 launch0 p0 e0 about1 theMethod args0 below0 :=
  ⟨lists_1, trivial, launch0.admits_env _ _ _, launch0.least_env, fairChoices_fair.cas, fairChoices_fair.clock, w_frames, w_args, w_heap, w_applies, trivial, trivial, w_case⟩
end start1
theorem witness_1 : WitnessClaimed_1 := ⟨start1.p0, start1.e0, start1.about1, start1.theMethod, start1.args0, start1.below0, start1.atStart⟩
end Jvm.Pilot.@@N@@
