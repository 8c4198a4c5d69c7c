import JvmDerived
import JvmDerived.Pilot.@@N@@Statement
import JvmDerived.Pilot.@@N@@Code
set_option linter.unusedVariables false
set_option linter.unusedSimpArgs false
namespace Jvm.RoadKit
theorem heq_of {T : State} {h : Heap} {a : Addr} {c : Cell} (e : T.heap = h) (q : h[a]? = some c) : T.heap[a]? = some c := by rw [e]; exact q
open Sem ClassFile Op Lib Jvm.Stand Jvm.Free Jvm.LawKit
section New
variable {p : Program} {l : Launch} {e : Env} {R : Room} {s : State} {m : MethodId} {args : Array Value} {below : List Frame} {meth : Method} {c : Code} {T : State} {locs : List Loc} {cells slots : Nat}
theorem retI (X : Stand p l e R s m args below meth c T locs cells slots) (hx : p.tables.exec = Jvm.exec) {pc : Nat} {Ls : Array Slot} {z : Int32} {rest : List Value} (hret : meth.sig.returnType = some .int) (hd : decode c.code pc = .ok (.ireturn, 1)) {fs : List Frame}
    (hl : ∀ (f : JFrame) (acts : List Action), f.method = m → f.locked = none → f.entered = [] → (doReturn e (T.setTop f) acts (some (.int z))).1 = T.setFrames fs) : Steps p.tables e below (T.setTop (mkF m pc Ls (.int z :: rest))) (T.setFrames fs) := by
  have hm' : T.vm.method? m = some meth := X.method'
  have hn : narrow .int (.int z) = .int z := rfl
  show Steps p.tables e below (T.setTop { method := m, pc := pc, locals := Ls, stack := _ :: rest, locked := none }) _
  jvm_step X.here [X.here.top, hx, hd, hm', hret, hn]
  first | (intro acts; rw [hl _ acts rfl rfl rfl]) | rw [hl _ _ rfl rfl rfl]
  exact Steps.refl _
end New
end Jvm.RoadKit
namespace Jvm.Pilot.@@N@@
open Jvm Jvm.ClassFile Sem Op Lib Jvm.Free Jvm.Stand Jvm.LawKit Jvm.RoadKit Bundle Jvm.Pilot.@@N@@.Jvm.D
theorem own_m3 (k : Int32) : (k &&& (3 : Int32)) = 0 ∨ (k &&& (3 : Int32)) = 1 ∨ (k &&& (3 : Int32)) = 2 ∨ (k &&& (3 : Int32)) = 3 := by
  have h : (k &&& (3 : Int32)).toBitVec = k.toBitVec &&& 3#32 := rfl
  have hm : (k.toBitVec &&& 3#32).toNat ≤ 3 := by rw [BitVec.toNat_and]; exact Nat.and_le_right
  rw [← h] at hm
  generalize (k &&& (3 : Int32)) = w at *
  have e : ∀ n : Nat, w.toBitVec.toNat = n → n < 2 ^ 32 → w.toBitVec = BitVec.ofNat 32 n := fun n hn hl => by
    apply BitVec.eq_of_toNat_eq; rw [hn, BitVec.toNat_ofNat, Nat.mod_eq_of_lt hl]
  have hc : w.toBitVec.toNat = 0 ∨ w.toBitVec.toNat = 1 ∨ w.toBitVec.toNat = 2 ∨ w.toBitVec.toNat = 3 := by omega
  rcases hc with hc | hc | hc | hc
  · exact Or.inl (Int32.toBitVec_inj.1 (e 0 hc (by decide)))
  · exact Or.inr (Or.inl (Int32.toBitVec_inj.1 (e 1 hc (by decide))))
  · exact Or.inr (Or.inr (Or.inl (Int32.toBitVec_inj.1 (e 2 hc (by decide)))))
  · exact Or.inr (Or.inr (Or.inr (Int32.toBitVec_inj.1 (e 3 hc (by decide)))))
def own_fits0 : Int32 := 1
def own_fits1 (d0 f0 : Int64) : Int32 := if f0 < d0 then (0 : Int32) else (1 : Int32)
def own_fits2 (d0 d1 f0 f1 : Int64) : Int32 := if f0 < d0 then (0 : Int32) else (if f1 < d1 then (0 : Int32) else (1 : Int32))
def own_fits3 (d0 d1 d2 f0 f1 f2 : Int64) : Int32 := if f0 < d0 then (0 : Int32) else (if f1 < d1 then (0 : Int32) else (if f2 < d2 then (0 : Int32) else (1 : Int32)))
theorem d1_0 : decode prog_7_method_8_code 0 = .ok (.iconst 0, 1) := by decide +kernel
theorem d1_1 : decode prog_7_method_8_code 1 = .ok (.istore_n 2, 1) := by decide +kernel
theorem d1_2 : decode prog_7_method_8_code 2 = .ok (.iload_n 2, 1) := by decide +kernel
theorem d1_3 : decode prog_7_method_8_code 3 = .ok (.aload_n 1, 1) := by decide +kernel
theorem d1_4 : decode prog_7_method_8_code 4 = .ok (.arraylength, 1) := by decide +kernel
theorem d1_5 : decode prog_7_method_8_code 5 = .ok (.if_icmp .ge 21, 3) := by decide +kernel
theorem d1_26 : decode prog_7_method_8_code 26 = .ok (.iconst 1, 1) := by decide +kernel
theorem d1_27 : decode prog_7_method_8_code 27 = .ok (.ireturn, 1) := by decide +kernel
theorem pn_1 : plainName "com/example/evenkeel/evenkeel/MachineAllocation" = true := by first | (simp [plainName, overriddenIn]; done) | decide +kernel
theorem ef_1 (m : MethodId) (x0 : Addr) (x1 : Addr) : entryFrame m #[(.ref x0), (.ref x1)] 3 = mkF m 0 #[.val (.ref x0), .val (.ref x1), .unset] [] := by first | (simp [entryFrame, mkF, argsToLocals, Value.category]; done) | rfl
def Q1 (Z : State) (ar : Addr) (br : Addr) (ka : ClassId) (kb : ClassId) (d0 : Int64) (d1 : Int64) (d2 : Int64) (h0 : Heap) (n0 : Nat) (v : Option Value) (h : Heap) (L : List Loc) : Prop := v = some (.int (1 : Int32)) ∧ Fr n0 L ∧ h = h0
set_option maxRecDepth 65536 in
set_option maxHeartbeats 40000000 in
theorem rm1 (l : Launch) (Z : State) (a0 : Array Value) (hw : ∀ d ∈ tables_1, d.before a0 Z = true) (ws : List Jvm.Cond) (ar : Addr) (br : Addr) (ka : ClassId) (kb : ClassId) (d0 : Int64) (d1 : Int64) (d2 : Int64) (h0 : Heap) (n0 : Nat) (Z0 : n0 ≤ h0.size) (I0 : Arv Z h0 ar ka .long (3 : Int32) [(.long d0), (.long d1), (.long d2)] (.long (0 : Int64))) (I1 : Arv Z h0 br kb .long (0 : Int32) [] (.long (0 : Int64))) :
    MetFree l (⟨"com/example/evenkeel/evenkeel/MachineAllocation", "fits", "([J[J)Z"⟩ : MethodName) (head1 (Jvm.Cond.code (⟨"com/example/evenkeel/evenkeel/MachineAllocation", "fits", "([J[J)Z"⟩ : MethodName) prog_7_method_8_code 3 (some .boolean) :: ws) ({ frames := 0, cells := 0, slots := 0, locals := 0 } : Room)) (fun a U => a = #[(.ref ar), (.ref br)] ∧ Z.Warmed39 U.vm ∧ U.heap = h0) (fun _ _ _ _ _ => True) (fun _ U o U' => ∃ v L, o = .returned v ∧ Q1 Z ar br ka kb d0 d1 d2 h0 n0 v U'.heap L ∧ FrameEnd U o U' L ({ frames := 0, cells := 0, slots := 0, locals := 0 } : Room).cells ({ frames := 0, cells := 0, slots := 0, locals := 0 } : Room).slots) := by
  refine MetFree.of_bodySF (plainFor_of_name pn_1) hisR ?_
  intro p e s m args below meth c s₁ Bd hml0 hP hK
  obtain ⟨rfl, hZ, hh⟩ := hP
  have hx := Bd.exec
  have hby := Bd.bytes
  have hml : c.maxLocals = 3 := hml0
  have hown : s.vm.findClass "com/example/evenkeel/evenkeel/MachineAllocation" = some m.cls := findClass_of_methodNamed Bd.named
  have hnm := (name_of_methodNamed Bd.named Bd.method).1
  have X0 : Stand p l e ({ frames := 0, cells := 0, slots := 0, locals := 0 } : Room) s m #[(.ref ar), (.ref br)] below meth c s₁ [] 0 0 := Stand.of_body Bd
  have e0 : s₁.heap = h0 := by rw [← hh, Bd.state]; rfl
  have N0 := Fr.nil n0
  have K0 : Keep h0 h0 [] := Keep.refl h0 _
  have pre0 : ∀ tq, Steps p.tables e below (s₁.setTop (mkF m 0 #[.val (.ref ar), .val (.ref br), .unset] [])) tq → Steps p.tables e below (s₁.setTop (entryFrame m #[(.ref ar), (.ref br)] 3)) tq := fun tq kq => castTop (ef_1 m ar br) kq
  obtain ⟨cl1, Ar1, q1, S1, M1, H1, G1⟩ := id I1
  obtain ⟨fs, hr, hrun, hended, hW, hsame⟩ := X0.leave (v := some (Value.int (1 : Int32))) (fun h => by rw [Bd.returns] at h; cases h)
  refine ⟨_, _, pre0 _ ?_, hrun, hended, _, _, rfl, ?_, ⟨_, rfl⟩, hW, hsame.mono (by decide) (by decide)⟩
  · skip
    show Steps p.tables e below (s₁.setTop (mkF m 0 #[.val (.ref ar), .val (.ref br), .unset] [])) _
    refine XS.iconst X0.here hx rfl (hb hby d1_0) ?_
    show Steps p.tables e below (s₁.setTop (mkF m 1 #[.val (.ref ar), .val (.ref br), .unset] [(.int (0 : Int32))])) _
    refine XS.istoreN X0.here hx rfl (hb hby d1_1) rfl (l' := #[.val (.ref ar), .val (.ref br), .val (.int (0 : Int32))]) rfl ?_
    show Steps p.tables e below (s₁.setTop (mkF m 2 #[.val (.ref ar), .val (.ref br), .val (.int (0 : Int32))] [])) _
    refine XS.iloadN X0.here hx rfl (hb hby d1_2) rfl ?_
    show Steps p.tables e below (s₁.setTop (mkF m 3 #[.val (.ref ar), .val (.ref br), .val (.int (0 : Int32))] [(.int (0 : Int32))])) _
    refine XS.aloadN X0.here hx rfl (hb hby d1_3) rfl rfl ?_
    show Steps p.tables e below (s₁.setTop (mkF m 4 #[.val (.ref ar), .val (.ref br), .val (.int (0 : Int32))] [(.ref br), (.int (0 : Int32))])) _
    refine X0.arraylength hx (heq_of e0 Ar1.1) (State.isArrayOf_alike hZ.alike Ar1.2.1) (g := (mkF m 4 #[.val (.ref ar), .val (.ref br), .val (.int (0 : Int32))] [(.ref br), (.int (0 : Int32))])) rfl rfl (hb hby d1_4) _ ?_
    rw [len_of S1 M1]
    show Steps p.tables e below (s₁.setTop (mkF m 5 #[.val (.ref ar), .val (.ref br), .val (.int (0 : Int32))] [(.int (0 : Int32)), (.int (0 : Int32))])) _
    refine XS.icmpYes X0.here hx rfl (pc0 := 5) (pc' := 26) rfl (hb hby d1_5) rfl (flt (by decide)).2.1 (by decide) (by decide) ?_
    show Steps p.tables e below (s₁.setTop (mkF m 26 #[.val (.ref ar), .val (.ref br), .val (.int (0 : Int32))] [])) _
    refine XS.iconst X0.here hx rfl (hb hby d1_26) ?_
    show Steps p.tables e below (s₁.setTop (mkF m 27 #[.val (.ref ar), .val (.ref br), .val (.int (0 : Int32))] [(.int (1 : Int32))])) _
    exact retN X0 hx (t := .boolean) Bd.returns (by simp) (hb hby d1_27) hr
  · show Q1 Z ar br ka kb d0 d1 d2 h0 n0 _ s₁.heap _
    rw [e0]
    exact ⟨rfl, N0, rfl⟩
theorem d1_8 : decode prog_7_method_8_code 8 = .ok (.aload_n 0, 1) := by decide +kernel
theorem d1_9 : decode prog_7_method_8_code 9 = .ok (.iload_n 2, 1) := by decide +kernel
theorem d1_10 : decode prog_7_method_8_code 10 = .ok (.laload, 1) := by decide +kernel
theorem d1_11 : decode prog_7_method_8_code 11 = .ok (.aload_n 1, 1) := by decide +kernel
theorem d1_12 : decode prog_7_method_8_code 12 = .ok (.iload_n 2, 1) := by decide +kernel
theorem d1_13 : decode prog_7_method_8_code 13 = .ok (.laload, 1) := by decide +kernel
theorem d1_14 : decode prog_7_method_8_code 14 = .ok (.lcmp, 1) := by decide +kernel
theorem d1_15 : decode prog_7_method_8_code 15 = .ok (.ifCond .le 5, 3) := by decide +kernel
theorem d1_18 : decode prog_7_method_8_code 18 = .ok (.iconst 0, 1) := by decide +kernel
theorem d1_19 : decode prog_7_method_8_code 19 = .ok (.ireturn, 1) := by decide +kernel
theorem d1_20 : decode prog_7_method_8_code 20 = .ok (.iinc 2 1, 3) := by decide +kernel
theorem d1_23 : decode prog_7_method_8_code 23 = .ok (.goto (-21), 3) := by decide +kernel
theorem ef_1_1 (m : MethodId) (x0 : Addr) (x1 : Addr) : entryFrame m #[(.ref x0), (.ref x1)] 3 = mkF m 0 #[.val (.ref x0), .val (.ref x1), .unset] [] := by first | (simp [entryFrame, mkF, argsToLocals, Value.category]; done) | rfl
def Q1_1 (Z : State) (ar : Addr) (br : Addr) (ka : ClassId) (kb : ClassId) (d0 : Int64) (d1 : Int64) (d2 : Int64) (f0 : Int64) (h0 : Heap) (n0 : Nat) (v : Option Value) (h : Heap) (L : List Loc) : Prop := v = some (.int (own_fits1 d0 f0)) ∧ Fr n0 L ∧ h = h0
set_option maxRecDepth 65536 in
set_option maxHeartbeats 40000000 in
theorem rm1_1 (l : Launch) (Z : State) (a0 : Array Value) (hw : ∀ d ∈ tables_1, d.before a0 Z = true) (ws : List Jvm.Cond) (ar : Addr) (br : Addr) (ka : ClassId) (kb : ClassId) (d0 : Int64) (d1 : Int64) (d2 : Int64) (f0 : Int64) (h0 : Heap) (n0 : Nat) (Z0 : n0 ≤ h0.size) (I0 : Arv Z h0 ar ka .long (3 : Int32) [(.long d0), (.long d1), (.long d2)] (.long (0 : Int64))) (I1 : Arv Z h0 br kb .long (1 : Int32) [(.long f0)] (.long (0 : Int64))) :
    MetFree l (⟨"com/example/evenkeel/evenkeel/MachineAllocation", "fits", "([J[J)Z"⟩ : MethodName) (head1 (Jvm.Cond.code (⟨"com/example/evenkeel/evenkeel/MachineAllocation", "fits", "([J[J)Z"⟩ : MethodName) prog_7_method_8_code 3 (some .boolean) :: ws) ({ frames := 0, cells := 0, slots := 0, locals := 0 } : Room)) (fun a U => a = #[(.ref ar), (.ref br)] ∧ Z.Warmed39 U.vm ∧ U.heap = h0) (fun _ _ _ _ _ => True) (fun _ U o U' => ∃ v L, o = .returned v ∧ Q1_1 Z ar br ka kb d0 d1 d2 f0 h0 n0 v U'.heap L ∧ FrameEnd U o U' L ({ frames := 0, cells := 0, slots := 0, locals := 0 } : Room).cells ({ frames := 0, cells := 0, slots := 0, locals := 0 } : Room).slots) := by
  refine MetFree.of_bodySF (plainFor_of_name pn_1) hisR ?_
  intro p e s m args below meth c s₁ Bd hml0 hP hK
  obtain ⟨rfl, hZ, hh⟩ := hP
  have hx := Bd.exec
  have hby := Bd.bytes
  have hml : c.maxLocals = 3 := hml0
  have hown : s.vm.findClass "com/example/evenkeel/evenkeel/MachineAllocation" = some m.cls := findClass_of_methodNamed Bd.named
  have hnm := (name_of_methodNamed Bd.named Bd.method).1
  have X0 : Stand p l e ({ frames := 0, cells := 0, slots := 0, locals := 0 } : Room) s m #[(.ref ar), (.ref br)] below meth c s₁ [] 0 0 := Stand.of_body Bd
  have e0 : s₁.heap = h0 := by rw [← hh, Bd.state]; rfl
  have N0 := Fr.nil n0
  have K0 : Keep h0 h0 [] := Keep.refl h0 _
  have pre0 : ∀ tq, Steps p.tables e below (s₁.setTop (mkF m 0 #[.val (.ref ar), .val (.ref br), .unset] [])) tq → Steps p.tables e below (s₁.setTop (entryFrame m #[(.ref ar), (.ref br)] 3)) tq := fun tq kq => castTop (ef_1_1 m ar br) kq
  obtain ⟨cl1, Ar1, q1, S1, M1, H1, G1⟩ := id I1
  obtain ⟨cl2, Ar2, q2, S2, M2, H2, G2⟩ := id I0
  have hin2 : ¬ ((0 : Int32) < 0 ∨ cl2.slots.size ≤ ((0 : Int32)).toNatClampNeg) := inb_of S2 ⟨by decide, by decide⟩
  have hat2 : cl2.slots[((0 : Int32)).toNatClampNeg]? = some (.long d0) := Has.at H2 hin2 rfl
  obtain ⟨cl3, Ar3, q3, S3, M3, H3, G3⟩ := id I1
  have hin3 : ¬ ((0 : Int32) < 0 ∨ cl3.slots.size ≤ ((0 : Int32)).toNatClampNeg) := inb_of S3 ⟨by decide, by decide⟩
  have hat3 : cl3.slots[((0 : Int32)).toNatClampNeg]? = some (.long f0) := Has.at H3 hin3 rfl
  have pre4 : ∀ tq, Steps p.tables e below (s₁.setTop (mkF m 15 #[.val (.ref ar), .val (.ref br), .val (.int (0 : Int32))] [(.int (lcmpW d0 f0))])) tq → Steps p.tables e below (s₁.setTop (entryFrame m #[(.ref ar), (.ref br)] 3)) tq := by
    intro tq kt
    refine pre0 _ ?_
    show Steps p.tables e below (s₁.setTop (mkF m 0 #[.val (.ref ar), .val (.ref br), .unset] [])) _
    refine XS.iconst X0.here hx rfl (hb hby d1_0) ?_
    show Steps p.tables e below (s₁.setTop (mkF m 1 #[.val (.ref ar), .val (.ref br), .unset] [(.int (0 : Int32))])) _
    refine XS.istoreN X0.here hx rfl (hb hby d1_1) rfl (l' := #[.val (.ref ar), .val (.ref br), .val (.int (0 : Int32))]) rfl ?_
    show Steps p.tables e below (s₁.setTop (mkF m 2 #[.val (.ref ar), .val (.ref br), .val (.int (0 : Int32))] [])) _
    refine XS.iloadN X0.here hx rfl (hb hby d1_2) rfl ?_
    show Steps p.tables e below (s₁.setTop (mkF m 3 #[.val (.ref ar), .val (.ref br), .val (.int (0 : Int32))] [(.int (0 : Int32))])) _
    refine XS.aloadN X0.here hx rfl (hb hby d1_3) rfl rfl ?_
    show Steps p.tables e below (s₁.setTop (mkF m 4 #[.val (.ref ar), .val (.ref br), .val (.int (0 : Int32))] [(.ref br), (.int (0 : Int32))])) _
    refine X0.arraylength hx (heq_of e0 Ar1.1) (State.isArrayOf_alike hZ.alike Ar1.2.1) (g := (mkF m 4 #[.val (.ref ar), .val (.ref br), .val (.int (0 : Int32))] [(.ref br), (.int (0 : Int32))])) rfl rfl (hb hby d1_4) _ ?_
    rw [len_of S1 M1]
    show Steps p.tables e below (s₁.setTop (mkF m 5 #[.val (.ref ar), .val (.ref br), .val (.int (0 : Int32))] [(.int (1 : Int32)), (.int (0 : Int32))])) _
    refine XS.icmpNo X0.here hx rfl (hb hby d1_5) rfl (tlt (by decide)).2.1 ?_
    show Steps p.tables e below (s₁.setTop (mkF m 8 #[.val (.ref ar), .val (.ref br), .val (.int (0 : Int32))] [])) _
    refine XS.aloadN X0.here hx rfl (hb hby d1_8) rfl rfl ?_
    show Steps p.tables e below (s₁.setTop (mkF m 9 #[.val (.ref ar), .val (.ref br), .val (.int (0 : Int32))] [(.ref ar)])) _
    refine XS.iloadN X0.here hx rfl (hb hby d1_9) rfl ?_
    show Steps p.tables e below (s₁.setTop (mkF m 10 #[.val (.ref ar), .val (.ref br), .val (.int (0 : Int32))] [(.int (0 : Int32)), (.ref ar)])) _
    refine X0.laload hx (j := (0 : Int32)) (v := (.long d0)) (heq_of e0 Ar2.1) (State.isArrayOf_alike hZ.alike Ar2.2.1) Ar2.2.2 hin2 hat2 (g := (mkF m 10 #[.val (.ref ar), .val (.ref br), .val (.int (0 : Int32))] [(.int (0 : Int32)), (.ref ar)])) rfl rfl (hb hby d1_10) _ ?_
    show Steps p.tables e below (s₁.setTop (mkF m 11 #[.val (.ref ar), .val (.ref br), .val (.int (0 : Int32))] [(.long d0)])) _
    refine XS.aloadN X0.here hx rfl (hb hby d1_11) rfl rfl ?_
    show Steps p.tables e below (s₁.setTop (mkF m 12 #[.val (.ref ar), .val (.ref br), .val (.int (0 : Int32))] [(.ref br), (.long d0)])) _
    refine XS.iloadN X0.here hx rfl (hb hby d1_12) rfl ?_
    show Steps p.tables e below (s₁.setTop (mkF m 13 #[.val (.ref ar), .val (.ref br), .val (.int (0 : Int32))] [(.int (0 : Int32)), (.ref br), (.long d0)])) _
    refine X0.laload hx (j := (0 : Int32)) (v := (.long f0)) (heq_of e0 Ar3.1) (State.isArrayOf_alike hZ.alike Ar3.2.1) Ar3.2.2 hin3 hat3 (g := (mkF m 13 #[.val (.ref ar), .val (.ref br), .val (.int (0 : Int32))] [(.int (0 : Int32)), (.ref br), (.long d0)])) rfl rfl (hb hby d1_13) _ ?_
    show Steps p.tables e below (s₁.setTop (mkF m 14 #[.val (.ref ar), .val (.ref br), .val (.int (0 : Int32))] [(.long f0), (.long d0)])) _
    refine XS.lcmp X0.here hx rfl (hb hby d1_14) rfl ?_
    show Steps p.tables e below (s₁.setTop (mkF m 15 #[.val (.ref ar), .val (.ref br), .val (.int (0 : Int32))] [(.int (lcmpW d0 f0))])) _
    exact kt
  by_cases hc15_5 : f0 < d0
  · skip
    obtain ⟨fs, hr, hrun, hended, hW, hsame⟩ := X0.leave (v := some (Value.int (0 : Int32))) (fun h => by rw [Bd.returns] at h; cases h)
    have hres6 : (0 : Int32) = (own_fits1 d0 f0) := by unfold own_fits1; simp only [if_pos hc15_5]
    refine ⟨_, _, pre4 _ ?_, hrun, hended, _, _, rfl, ?_, ⟨_, rfl⟩, hW, hsame.mono (by decide) (by decide)⟩
    · skip
      show Steps p.tables e below (s₁.setTop (mkF m 15 #[.val (.ref ar), .val (.ref br), .val (.int (0 : Int32))] [(.int (lcmpW d0 f0))])) _
      refine XS.ifNo X0.here hx rfl (hb hby d1_15) rfl ((if0 _ _).trans (tlt ((lw_gt d0 f0).2 hc15_5)).2.2.2) ?_
      show Steps p.tables e below (s₁.setTop (mkF m 18 #[.val (.ref ar), .val (.ref br), .val (.int (0 : Int32))] [])) _
      refine XS.iconst X0.here hx rfl (hb hby d1_18) ?_
      show Steps p.tables e below (s₁.setTop (mkF m 19 #[.val (.ref ar), .val (.ref br), .val (.int (0 : Int32))] [(.int (0 : Int32))])) _
      exact retN X0 hx (t := .boolean) Bd.returns (by simp) (hb hby d1_19) hr
    · show Q1_1 Z ar br ka kb d0 d1 d2 f0 h0 n0 _ s₁.heap _
      rw [e0]
      exact ⟨congrArg (fun z => some (Value.int z)) hres6, N0, rfl⟩
  · skip
    obtain ⟨cl7, Ar7, q7, S7, M7, H7, G7⟩ := id I1
    obtain ⟨fs, hr, hrun, hended, hW, hsame⟩ := X0.leave (v := some (Value.int (1 : Int32))) (fun h => by rw [Bd.returns] at h; cases h)
    have hres8 : (1 : Int32) = (own_fits1 d0 f0) := by unfold own_fits1; simp only [if_neg hc15_5]
    refine ⟨_, _, pre4 _ ?_, hrun, hended, _, _, rfl, ?_, ⟨_, rfl⟩, hW, hsame.mono (by decide) (by decide)⟩
    · skip
      show Steps p.tables e below (s₁.setTop (mkF m 15 #[.val (.ref ar), .val (.ref br), .val (.int (0 : Int32))] [(.int (lcmpW d0 f0))])) _
      refine XS.ifYes X0.here hx rfl (pc0 := 15) (pc' := 20) rfl (hb hby d1_15) rfl ((if0 _ _).trans (flt (mt (lw_gt d0 f0).1 hc15_5)).2.2.2) (by decide) (by decide) ?_
      show Steps p.tables e below (s₁.setTop (mkF m 20 #[.val (.ref ar), .val (.ref br), .val (.int (0 : Int32))] [])) _
      refine XS.iinc X0.here hx rfl (hb hby d1_20) rfl (l' := #[.val (.ref ar), .val (.ref br), .val (.int (1 : Int32))]) rfl ?_
      show Steps p.tables e below (s₁.setTop (mkF m 23 #[.val (.ref ar), .val (.ref br), .val (.int (1 : Int32))] [])) _
      refine XS.goto X0.here hx rfl (pc0 := 23) (pc' := 2) rfl (hb hby d1_23) (by decide) (by decide) ?_
      show Steps p.tables e below (s₁.setTop (mkF m 2 #[.val (.ref ar), .val (.ref br), .val (.int (1 : Int32))] [])) _
      refine XS.iloadN X0.here hx rfl (hb hby d1_2) rfl ?_
      show Steps p.tables e below (s₁.setTop (mkF m 3 #[.val (.ref ar), .val (.ref br), .val (.int (1 : Int32))] [(.int (1 : Int32))])) _
      refine XS.aloadN X0.here hx rfl (hb hby d1_3) rfl rfl ?_
      show Steps p.tables e below (s₁.setTop (mkF m 4 #[.val (.ref ar), .val (.ref br), .val (.int (1 : Int32))] [(.ref br), (.int (1 : Int32))])) _
      refine X0.arraylength hx (heq_of e0 Ar7.1) (State.isArrayOf_alike hZ.alike Ar7.2.1) (g := (mkF m 4 #[.val (.ref ar), .val (.ref br), .val (.int (1 : Int32))] [(.ref br), (.int (1 : Int32))])) rfl rfl (hb hby d1_4) _ ?_
      rw [len_of S7 M7]
      show Steps p.tables e below (s₁.setTop (mkF m 5 #[.val (.ref ar), .val (.ref br), .val (.int (1 : Int32))] [(.int (1 : Int32)), (.int (1 : Int32))])) _
      refine XS.icmpYes X0.here hx rfl (pc0 := 5) (pc' := 26) rfl (hb hby d1_5) rfl (flt (by decide)).2.1 (by decide) (by decide) ?_
      show Steps p.tables e below (s₁.setTop (mkF m 26 #[.val (.ref ar), .val (.ref br), .val (.int (1 : Int32))] [])) _
      refine XS.iconst X0.here hx rfl (hb hby d1_26) ?_
      show Steps p.tables e below (s₁.setTop (mkF m 27 #[.val (.ref ar), .val (.ref br), .val (.int (1 : Int32))] [(.int (1 : Int32))])) _
      exact retN X0 hx (t := .boolean) Bd.returns (by simp) (hb hby d1_27) hr
    · show Q1_1 Z ar br ka kb d0 d1 d2 f0 h0 n0 _ s₁.heap _
      rw [e0]
      exact ⟨congrArg (fun z => some (Value.int z)) hres8, N0, rfl⟩
theorem ef_1_2 (m : MethodId) (x0 : Addr) (x1 : Addr) : entryFrame m #[(.ref x0), (.ref x1)] 3 = mkF m 0 #[.val (.ref x0), .val (.ref x1), .unset] [] := by first | (simp [entryFrame, mkF, argsToLocals, Value.category]; done) | rfl
def Q1_2 (Z : State) (ar : Addr) (br : Addr) (ka : ClassId) (kb : ClassId) (d0 : Int64) (d1 : Int64) (d2 : Int64) (f0 : Int64) (f1 : Int64) (h0 : Heap) (n0 : Nat) (v : Option Value) (h : Heap) (L : List Loc) : Prop := v = some (.int (own_fits2 d0 d1 f0 f1)) ∧ Fr n0 L ∧ h = h0
set_option maxRecDepth 65536 in
set_option maxHeartbeats 40000000 in
theorem rm1_2 (l : Launch) (Z : State) (a0 : Array Value) (hw : ∀ d ∈ tables_1, d.before a0 Z = true) (ws : List Jvm.Cond) (ar : Addr) (br : Addr) (ka : ClassId) (kb : ClassId) (d0 : Int64) (d1 : Int64) (d2 : Int64) (f0 : Int64) (f1 : Int64) (h0 : Heap) (n0 : Nat) (Z0 : n0 ≤ h0.size) (I0 : Arv Z h0 ar ka .long (3 : Int32) [(.long d0), (.long d1), (.long d2)] (.long (0 : Int64))) (I1 : Arv Z h0 br kb .long (2 : Int32) [(.long f0), (.long f1)] (.long (0 : Int64))) :
    MetFree l (⟨"com/example/evenkeel/evenkeel/MachineAllocation", "fits", "([J[J)Z"⟩ : MethodName) (head1 (Jvm.Cond.code (⟨"com/example/evenkeel/evenkeel/MachineAllocation", "fits", "([J[J)Z"⟩ : MethodName) prog_7_method_8_code 3 (some .boolean) :: ws) ({ frames := 0, cells := 0, slots := 0, locals := 0 } : Room)) (fun a U => a = #[(.ref ar), (.ref br)] ∧ Z.Warmed39 U.vm ∧ U.heap = h0) (fun _ _ _ _ _ => True) (fun _ U o U' => ∃ v L, o = .returned v ∧ Q1_2 Z ar br ka kb d0 d1 d2 f0 f1 h0 n0 v U'.heap L ∧ FrameEnd U o U' L ({ frames := 0, cells := 0, slots := 0, locals := 0 } : Room).cells ({ frames := 0, cells := 0, slots := 0, locals := 0 } : Room).slots) := by
  refine MetFree.of_bodySF (plainFor_of_name pn_1) hisR ?_
  intro p e s m args below meth c s₁ Bd hml0 hP hK
  obtain ⟨rfl, hZ, hh⟩ := hP
  have hx := Bd.exec
  have hby := Bd.bytes
  have hml : c.maxLocals = 3 := hml0
  have hown : s.vm.findClass "com/example/evenkeel/evenkeel/MachineAllocation" = some m.cls := findClass_of_methodNamed Bd.named
  have hnm := (name_of_methodNamed Bd.named Bd.method).1
  have X0 : Stand p l e ({ frames := 0, cells := 0, slots := 0, locals := 0 } : Room) s m #[(.ref ar), (.ref br)] below meth c s₁ [] 0 0 := Stand.of_body Bd
  have e0 : s₁.heap = h0 := by rw [← hh, Bd.state]; rfl
  have N0 := Fr.nil n0
  have K0 : Keep h0 h0 [] := Keep.refl h0 _
  have pre0 : ∀ tq, Steps p.tables e below (s₁.setTop (mkF m 0 #[.val (.ref ar), .val (.ref br), .unset] [])) tq → Steps p.tables e below (s₁.setTop (entryFrame m #[(.ref ar), (.ref br)] 3)) tq := fun tq kq => castTop (ef_1_2 m ar br) kq
  obtain ⟨cl1, Ar1, q1, S1, M1, H1, G1⟩ := id I1
  obtain ⟨cl2, Ar2, q2, S2, M2, H2, G2⟩ := id I0
  have hin2 : ¬ ((0 : Int32) < 0 ∨ cl2.slots.size ≤ ((0 : Int32)).toNatClampNeg) := inb_of S2 ⟨by decide, by decide⟩
  have hat2 : cl2.slots[((0 : Int32)).toNatClampNeg]? = some (.long d0) := Has.at H2 hin2 rfl
  obtain ⟨cl3, Ar3, q3, S3, M3, H3, G3⟩ := id I1
  have hin3 : ¬ ((0 : Int32) < 0 ∨ cl3.slots.size ≤ ((0 : Int32)).toNatClampNeg) := inb_of S3 ⟨by decide, by decide⟩
  have hat3 : cl3.slots[((0 : Int32)).toNatClampNeg]? = some (.long f0) := Has.at H3 hin3 rfl
  have pre4 : ∀ tq, Steps p.tables e below (s₁.setTop (mkF m 15 #[.val (.ref ar), .val (.ref br), .val (.int (0 : Int32))] [(.int (lcmpW d0 f0))])) tq → Steps p.tables e below (s₁.setTop (entryFrame m #[(.ref ar), (.ref br)] 3)) tq := by
    intro tq kt
    refine pre0 _ ?_
    show Steps p.tables e below (s₁.setTop (mkF m 0 #[.val (.ref ar), .val (.ref br), .unset] [])) _
    refine XS.iconst X0.here hx rfl (hb hby d1_0) ?_
    show Steps p.tables e below (s₁.setTop (mkF m 1 #[.val (.ref ar), .val (.ref br), .unset] [(.int (0 : Int32))])) _
    refine XS.istoreN X0.here hx rfl (hb hby d1_1) rfl (l' := #[.val (.ref ar), .val (.ref br), .val (.int (0 : Int32))]) rfl ?_
    show Steps p.tables e below (s₁.setTop (mkF m 2 #[.val (.ref ar), .val (.ref br), .val (.int (0 : Int32))] [])) _
    refine XS.iloadN X0.here hx rfl (hb hby d1_2) rfl ?_
    show Steps p.tables e below (s₁.setTop (mkF m 3 #[.val (.ref ar), .val (.ref br), .val (.int (0 : Int32))] [(.int (0 : Int32))])) _
    refine XS.aloadN X0.here hx rfl (hb hby d1_3) rfl rfl ?_
    show Steps p.tables e below (s₁.setTop (mkF m 4 #[.val (.ref ar), .val (.ref br), .val (.int (0 : Int32))] [(.ref br), (.int (0 : Int32))])) _
    refine X0.arraylength hx (heq_of e0 Ar1.1) (State.isArrayOf_alike hZ.alike Ar1.2.1) (g := (mkF m 4 #[.val (.ref ar), .val (.ref br), .val (.int (0 : Int32))] [(.ref br), (.int (0 : Int32))])) rfl rfl (hb hby d1_4) _ ?_
    rw [len_of S1 M1]
    show Steps p.tables e below (s₁.setTop (mkF m 5 #[.val (.ref ar), .val (.ref br), .val (.int (0 : Int32))] [(.int (2 : Int32)), (.int (0 : Int32))])) _
    refine XS.icmpNo X0.here hx rfl (hb hby d1_5) rfl (tlt (by decide)).2.1 ?_
    show Steps p.tables e below (s₁.setTop (mkF m 8 #[.val (.ref ar), .val (.ref br), .val (.int (0 : Int32))] [])) _
    refine XS.aloadN X0.here hx rfl (hb hby d1_8) rfl rfl ?_
    show Steps p.tables e below (s₁.setTop (mkF m 9 #[.val (.ref ar), .val (.ref br), .val (.int (0 : Int32))] [(.ref ar)])) _
    refine XS.iloadN X0.here hx rfl (hb hby d1_9) rfl ?_
    show Steps p.tables e below (s₁.setTop (mkF m 10 #[.val (.ref ar), .val (.ref br), .val (.int (0 : Int32))] [(.int (0 : Int32)), (.ref ar)])) _
    refine X0.laload hx (j := (0 : Int32)) (v := (.long d0)) (heq_of e0 Ar2.1) (State.isArrayOf_alike hZ.alike Ar2.2.1) Ar2.2.2 hin2 hat2 (g := (mkF m 10 #[.val (.ref ar), .val (.ref br), .val (.int (0 : Int32))] [(.int (0 : Int32)), (.ref ar)])) rfl rfl (hb hby d1_10) _ ?_
    show Steps p.tables e below (s₁.setTop (mkF m 11 #[.val (.ref ar), .val (.ref br), .val (.int (0 : Int32))] [(.long d0)])) _
    refine XS.aloadN X0.here hx rfl (hb hby d1_11) rfl rfl ?_
    show Steps p.tables e below (s₁.setTop (mkF m 12 #[.val (.ref ar), .val (.ref br), .val (.int (0 : Int32))] [(.ref br), (.long d0)])) _
    refine XS.iloadN X0.here hx rfl (hb hby d1_12) rfl ?_
    show Steps p.tables e below (s₁.setTop (mkF m 13 #[.val (.ref ar), .val (.ref br), .val (.int (0 : Int32))] [(.int (0 : Int32)), (.ref br), (.long d0)])) _
    refine X0.laload hx (j := (0 : Int32)) (v := (.long f0)) (heq_of e0 Ar3.1) (State.isArrayOf_alike hZ.alike Ar3.2.1) Ar3.2.2 hin3 hat3 (g := (mkF m 13 #[.val (.ref ar), .val (.ref br), .val (.int (0 : Int32))] [(.int (0 : Int32)), (.ref br), (.long d0)])) rfl rfl (hb hby d1_13) _ ?_
    show Steps p.tables e below (s₁.setTop (mkF m 14 #[.val (.ref ar), .val (.ref br), .val (.int (0 : Int32))] [(.long f0), (.long d0)])) _
    refine XS.lcmp X0.here hx rfl (hb hby d1_14) rfl ?_
    show Steps p.tables e below (s₁.setTop (mkF m 15 #[.val (.ref ar), .val (.ref br), .val (.int (0 : Int32))] [(.int (lcmpW d0 f0))])) _
    exact kt
  by_cases hc15_5 : f0 < d0
  · skip
    obtain ⟨fs, hr, hrun, hended, hW, hsame⟩ := X0.leave (v := some (Value.int (0 : Int32))) (fun h => by rw [Bd.returns] at h; cases h)
    have hres6 : (0 : Int32) = (own_fits2 d0 d1 f0 f1) := by unfold own_fits2; simp only [if_pos hc15_5]
    refine ⟨_, _, pre4 _ ?_, hrun, hended, _, _, rfl, ?_, ⟨_, rfl⟩, hW, hsame.mono (by decide) (by decide)⟩
    · skip
      show Steps p.tables e below (s₁.setTop (mkF m 15 #[.val (.ref ar), .val (.ref br), .val (.int (0 : Int32))] [(.int (lcmpW d0 f0))])) _
      refine XS.ifNo X0.here hx rfl (hb hby d1_15) rfl ((if0 _ _).trans (tlt ((lw_gt d0 f0).2 hc15_5)).2.2.2) ?_
      show Steps p.tables e below (s₁.setTop (mkF m 18 #[.val (.ref ar), .val (.ref br), .val (.int (0 : Int32))] [])) _
      refine XS.iconst X0.here hx rfl (hb hby d1_18) ?_
      show Steps p.tables e below (s₁.setTop (mkF m 19 #[.val (.ref ar), .val (.ref br), .val (.int (0 : Int32))] [(.int (0 : Int32))])) _
      exact retN X0 hx (t := .boolean) Bd.returns (by simp) (hb hby d1_19) hr
    · show Q1_2 Z ar br ka kb d0 d1 d2 f0 f1 h0 n0 _ s₁.heap _
      rw [e0]
      exact ⟨congrArg (fun z => some (Value.int z)) hres6, N0, rfl⟩
  · skip
    obtain ⟨cl7, Ar7, q7, S7, M7, H7, G7⟩ := id I1
    obtain ⟨cl8, Ar8, q8, S8, M8, H8, G8⟩ := id I0
    have hin8 : ¬ ((1 : Int32) < 0 ∨ cl8.slots.size ≤ ((1 : Int32)).toNatClampNeg) := inb_of S8 ⟨by decide, by decide⟩
    have hat8 : cl8.slots[((1 : Int32)).toNatClampNeg]? = some (.long d1) := Has.at H8 hin8 rfl
    obtain ⟨cl9, Ar9, q9, S9, M9, H9, G9⟩ := id I1
    have hin9 : ¬ ((1 : Int32) < 0 ∨ cl9.slots.size ≤ ((1 : Int32)).toNatClampNeg) := inb_of S9 ⟨by decide, by decide⟩
    have hat9 : cl9.slots[((1 : Int32)).toNatClampNeg]? = some (.long f1) := Has.at H9 hin9 rfl
    have pre10 : ∀ tq, Steps p.tables e below (s₁.setTop (mkF m 15 #[.val (.ref ar), .val (.ref br), .val (.int (1 : Int32))] [(.int (lcmpW d1 f1))])) tq → Steps p.tables e below (s₁.setTop (entryFrame m #[(.ref ar), (.ref br)] 3)) tq := by
      intro tq kt
      refine pre4 _ ?_
      show Steps p.tables e below (s₁.setTop (mkF m 15 #[.val (.ref ar), .val (.ref br), .val (.int (0 : Int32))] [(.int (lcmpW d0 f0))])) _
      refine XS.ifYes X0.here hx rfl (pc0 := 15) (pc' := 20) rfl (hb hby d1_15) rfl ((if0 _ _).trans (flt (mt (lw_gt d0 f0).1 hc15_5)).2.2.2) (by decide) (by decide) ?_
      show Steps p.tables e below (s₁.setTop (mkF m 20 #[.val (.ref ar), .val (.ref br), .val (.int (0 : Int32))] [])) _
      refine XS.iinc X0.here hx rfl (hb hby d1_20) rfl (l' := #[.val (.ref ar), .val (.ref br), .val (.int (1 : Int32))]) rfl ?_
      show Steps p.tables e below (s₁.setTop (mkF m 23 #[.val (.ref ar), .val (.ref br), .val (.int (1 : Int32))] [])) _
      refine XS.goto X0.here hx rfl (pc0 := 23) (pc' := 2) rfl (hb hby d1_23) (by decide) (by decide) ?_
      show Steps p.tables e below (s₁.setTop (mkF m 2 #[.val (.ref ar), .val (.ref br), .val (.int (1 : Int32))] [])) _
      refine XS.iloadN X0.here hx rfl (hb hby d1_2) rfl ?_
      show Steps p.tables e below (s₁.setTop (mkF m 3 #[.val (.ref ar), .val (.ref br), .val (.int (1 : Int32))] [(.int (1 : Int32))])) _
      refine XS.aloadN X0.here hx rfl (hb hby d1_3) rfl rfl ?_
      show Steps p.tables e below (s₁.setTop (mkF m 4 #[.val (.ref ar), .val (.ref br), .val (.int (1 : Int32))] [(.ref br), (.int (1 : Int32))])) _
      refine X0.arraylength hx (heq_of e0 Ar7.1) (State.isArrayOf_alike hZ.alike Ar7.2.1) (g := (mkF m 4 #[.val (.ref ar), .val (.ref br), .val (.int (1 : Int32))] [(.ref br), (.int (1 : Int32))])) rfl rfl (hb hby d1_4) _ ?_
      rw [len_of S7 M7]
      show Steps p.tables e below (s₁.setTop (mkF m 5 #[.val (.ref ar), .val (.ref br), .val (.int (1 : Int32))] [(.int (2 : Int32)), (.int (1 : Int32))])) _
      refine XS.icmpNo X0.here hx rfl (hb hby d1_5) rfl (tlt (by decide)).2.1 ?_
      show Steps p.tables e below (s₁.setTop (mkF m 8 #[.val (.ref ar), .val (.ref br), .val (.int (1 : Int32))] [])) _
      refine XS.aloadN X0.here hx rfl (hb hby d1_8) rfl rfl ?_
      show Steps p.tables e below (s₁.setTop (mkF m 9 #[.val (.ref ar), .val (.ref br), .val (.int (1 : Int32))] [(.ref ar)])) _
      refine XS.iloadN X0.here hx rfl (hb hby d1_9) rfl ?_
      show Steps p.tables e below (s₁.setTop (mkF m 10 #[.val (.ref ar), .val (.ref br), .val (.int (1 : Int32))] [(.int (1 : Int32)), (.ref ar)])) _
      refine X0.laload hx (j := (1 : Int32)) (v := (.long d1)) (heq_of e0 Ar8.1) (State.isArrayOf_alike hZ.alike Ar8.2.1) Ar8.2.2 hin8 hat8 (g := (mkF m 10 #[.val (.ref ar), .val (.ref br), .val (.int (1 : Int32))] [(.int (1 : Int32)), (.ref ar)])) rfl rfl (hb hby d1_10) _ ?_
      show Steps p.tables e below (s₁.setTop (mkF m 11 #[.val (.ref ar), .val (.ref br), .val (.int (1 : Int32))] [(.long d1)])) _
      refine XS.aloadN X0.here hx rfl (hb hby d1_11) rfl rfl ?_
      show Steps p.tables e below (s₁.setTop (mkF m 12 #[.val (.ref ar), .val (.ref br), .val (.int (1 : Int32))] [(.ref br), (.long d1)])) _
      refine XS.iloadN X0.here hx rfl (hb hby d1_12) rfl ?_
      show Steps p.tables e below (s₁.setTop (mkF m 13 #[.val (.ref ar), .val (.ref br), .val (.int (1 : Int32))] [(.int (1 : Int32)), (.ref br), (.long d1)])) _
      refine X0.laload hx (j := (1 : Int32)) (v := (.long f1)) (heq_of e0 Ar9.1) (State.isArrayOf_alike hZ.alike Ar9.2.1) Ar9.2.2 hin9 hat9 (g := (mkF m 13 #[.val (.ref ar), .val (.ref br), .val (.int (1 : Int32))] [(.int (1 : Int32)), (.ref br), (.long d1)])) rfl rfl (hb hby d1_13) _ ?_
      show Steps p.tables e below (s₁.setTop (mkF m 14 #[.val (.ref ar), .val (.ref br), .val (.int (1 : Int32))] [(.long f1), (.long d1)])) _
      refine XS.lcmp X0.here hx rfl (hb hby d1_14) rfl ?_
      show Steps p.tables e below (s₁.setTop (mkF m 15 #[.val (.ref ar), .val (.ref br), .val (.int (1 : Int32))] [(.int (lcmpW d1 f1))])) _
      exact kt
    by_cases hc15_11 : f1 < d1
    · skip
      obtain ⟨fs, hr, hrun, hended, hW, hsame⟩ := X0.leave (v := some (Value.int (0 : Int32))) (fun h => by rw [Bd.returns] at h; cases h)
      have hres12 : (0 : Int32) = (own_fits2 d0 d1 f0 f1) := by unfold own_fits2; simp only [if_neg hc15_5, if_pos hc15_11]
      refine ⟨_, _, pre10 _ ?_, hrun, hended, _, _, rfl, ?_, ⟨_, rfl⟩, hW, hsame.mono (by decide) (by decide)⟩
      · skip
        show Steps p.tables e below (s₁.setTop (mkF m 15 #[.val (.ref ar), .val (.ref br), .val (.int (1 : Int32))] [(.int (lcmpW d1 f1))])) _
        refine XS.ifNo X0.here hx rfl (hb hby d1_15) rfl ((if0 _ _).trans (tlt ((lw_gt d1 f1).2 hc15_11)).2.2.2) ?_
        show Steps p.tables e below (s₁.setTop (mkF m 18 #[.val (.ref ar), .val (.ref br), .val (.int (1 : Int32))] [])) _
        refine XS.iconst X0.here hx rfl (hb hby d1_18) ?_
        show Steps p.tables e below (s₁.setTop (mkF m 19 #[.val (.ref ar), .val (.ref br), .val (.int (1 : Int32))] [(.int (0 : Int32))])) _
        exact retN X0 hx (t := .boolean) Bd.returns (by simp) (hb hby d1_19) hr
      · show Q1_2 Z ar br ka kb d0 d1 d2 f0 f1 h0 n0 _ s₁.heap _
        rw [e0]
        exact ⟨congrArg (fun z => some (Value.int z)) hres12, N0, rfl⟩
    · skip
      obtain ⟨cl13, Ar13, q13, S13, M13, H13, G13⟩ := id I1
      obtain ⟨fs, hr, hrun, hended, hW, hsame⟩ := X0.leave (v := some (Value.int (1 : Int32))) (fun h => by rw [Bd.returns] at h; cases h)
      have hres14 : (1 : Int32) = (own_fits2 d0 d1 f0 f1) := by unfold own_fits2; simp only [if_neg hc15_5, if_neg hc15_11]
      refine ⟨_, _, pre10 _ ?_, hrun, hended, _, _, rfl, ?_, ⟨_, rfl⟩, hW, hsame.mono (by decide) (by decide)⟩
      · skip
        show Steps p.tables e below (s₁.setTop (mkF m 15 #[.val (.ref ar), .val (.ref br), .val (.int (1 : Int32))] [(.int (lcmpW d1 f1))])) _
        refine XS.ifYes X0.here hx rfl (pc0 := 15) (pc' := 20) rfl (hb hby d1_15) rfl ((if0 _ _).trans (flt (mt (lw_gt d1 f1).1 hc15_11)).2.2.2) (by decide) (by decide) ?_
        show Steps p.tables e below (s₁.setTop (mkF m 20 #[.val (.ref ar), .val (.ref br), .val (.int (1 : Int32))] [])) _
        refine XS.iinc X0.here hx rfl (hb hby d1_20) rfl (l' := #[.val (.ref ar), .val (.ref br), .val (.int (2 : Int32))]) rfl ?_
        show Steps p.tables e below (s₁.setTop (mkF m 23 #[.val (.ref ar), .val (.ref br), .val (.int (2 : Int32))] [])) _
        refine XS.goto X0.here hx rfl (pc0 := 23) (pc' := 2) rfl (hb hby d1_23) (by decide) (by decide) ?_
        show Steps p.tables e below (s₁.setTop (mkF m 2 #[.val (.ref ar), .val (.ref br), .val (.int (2 : Int32))] [])) _
        refine XS.iloadN X0.here hx rfl (hb hby d1_2) rfl ?_
        show Steps p.tables e below (s₁.setTop (mkF m 3 #[.val (.ref ar), .val (.ref br), .val (.int (2 : Int32))] [(.int (2 : Int32))])) _
        refine XS.aloadN X0.here hx rfl (hb hby d1_3) rfl rfl ?_
        show Steps p.tables e below (s₁.setTop (mkF m 4 #[.val (.ref ar), .val (.ref br), .val (.int (2 : Int32))] [(.ref br), (.int (2 : Int32))])) _
        refine X0.arraylength hx (heq_of e0 Ar13.1) (State.isArrayOf_alike hZ.alike Ar13.2.1) (g := (mkF m 4 #[.val (.ref ar), .val (.ref br), .val (.int (2 : Int32))] [(.ref br), (.int (2 : Int32))])) rfl rfl (hb hby d1_4) _ ?_
        rw [len_of S13 M13]
        show Steps p.tables e below (s₁.setTop (mkF m 5 #[.val (.ref ar), .val (.ref br), .val (.int (2 : Int32))] [(.int (2 : Int32)), (.int (2 : Int32))])) _
        refine XS.icmpYes X0.here hx rfl (pc0 := 5) (pc' := 26) rfl (hb hby d1_5) rfl (flt (by decide)).2.1 (by decide) (by decide) ?_
        show Steps p.tables e below (s₁.setTop (mkF m 26 #[.val (.ref ar), .val (.ref br), .val (.int (2 : Int32))] [])) _
        refine XS.iconst X0.here hx rfl (hb hby d1_26) ?_
        show Steps p.tables e below (s₁.setTop (mkF m 27 #[.val (.ref ar), .val (.ref br), .val (.int (2 : Int32))] [(.int (1 : Int32))])) _
        exact retN X0 hx (t := .boolean) Bd.returns (by simp) (hb hby d1_27) hr
      · show Q1_2 Z ar br ka kb d0 d1 d2 f0 f1 h0 n0 _ s₁.heap _
        rw [e0]
        exact ⟨congrArg (fun z => some (Value.int z)) hres14, N0, rfl⟩
theorem ef_1_3 (m : MethodId) (x0 : Addr) (x1 : Addr) : entryFrame m #[(.ref x0), (.ref x1)] 3 = mkF m 0 #[.val (.ref x0), .val (.ref x1), .unset] [] := by first | (simp [entryFrame, mkF, argsToLocals, Value.category]; done) | rfl
def Q1_3 (Z : State) (ar : Addr) (br : Addr) (ka : ClassId) (kb : ClassId) (d0 : Int64) (d1 : Int64) (d2 : Int64) (f0 : Int64) (f1 : Int64) (f2 : Int64) (h0 : Heap) (n0 : Nat) (v : Option Value) (h : Heap) (L : List Loc) : Prop := v = some (.int (own_fits3 d0 d1 d2 f0 f1 f2)) ∧ Fr n0 L ∧ h = h0
set_option maxRecDepth 65536 in
set_option maxHeartbeats 40000000 in
theorem rm1_3 (l : Launch) (Z : State) (a0 : Array Value) (hw : ∀ d ∈ tables_1, d.before a0 Z = true) (ws : List Jvm.Cond) (ar : Addr) (br : Addr) (ka : ClassId) (kb : ClassId) (d0 : Int64) (d1 : Int64) (d2 : Int64) (f0 : Int64) (f1 : Int64) (f2 : Int64) (h0 : Heap) (n0 : Nat) (Z0 : n0 ≤ h0.size) (I0 : Arv Z h0 ar ka .long (3 : Int32) [(.long d0), (.long d1), (.long d2)] (.long (0 : Int64))) (I1 : Arv Z h0 br kb .long (3 : Int32) [(.long f0), (.long f1), (.long f2)] (.long (0 : Int64))) :
    MetFree l (⟨"com/example/evenkeel/evenkeel/MachineAllocation", "fits", "([J[J)Z"⟩ : MethodName) (head1 (Jvm.Cond.code (⟨"com/example/evenkeel/evenkeel/MachineAllocation", "fits", "([J[J)Z"⟩ : MethodName) prog_7_method_8_code 3 (some .boolean) :: ws) ({ frames := 0, cells := 0, slots := 0, locals := 0 } : Room)) (fun a U => a = #[(.ref ar), (.ref br)] ∧ Z.Warmed39 U.vm ∧ U.heap = h0) (fun _ _ _ _ _ => True) (fun _ U o U' => ∃ v L, o = .returned v ∧ Q1_3 Z ar br ka kb d0 d1 d2 f0 f1 f2 h0 n0 v U'.heap L ∧ FrameEnd U o U' L ({ frames := 0, cells := 0, slots := 0, locals := 0 } : Room).cells ({ frames := 0, cells := 0, slots := 0, locals := 0 } : Room).slots) := by
  refine MetFree.of_bodySF (plainFor_of_name pn_1) hisR ?_
  intro p e s m args below meth c s₁ Bd hml0 hP hK
  obtain ⟨rfl, hZ, hh⟩ := hP
  have hx := Bd.exec
  have hby := Bd.bytes
  have hml : c.maxLocals = 3 := hml0
  have hown : s.vm.findClass "com/example/evenkeel/evenkeel/MachineAllocation" = some m.cls := findClass_of_methodNamed Bd.named
  have hnm := (name_of_methodNamed Bd.named Bd.method).1
  have X0 : Stand p l e ({ frames := 0, cells := 0, slots := 0, locals := 0 } : Room) s m #[(.ref ar), (.ref br)] below meth c s₁ [] 0 0 := Stand.of_body Bd
  have e0 : s₁.heap = h0 := by rw [← hh, Bd.state]; rfl
  have N0 := Fr.nil n0
  have K0 : Keep h0 h0 [] := Keep.refl h0 _
  have pre0 : ∀ tq, Steps p.tables e below (s₁.setTop (mkF m 0 #[.val (.ref ar), .val (.ref br), .unset] [])) tq → Steps p.tables e below (s₁.setTop (entryFrame m #[(.ref ar), (.ref br)] 3)) tq := fun tq kq => castTop (ef_1_3 m ar br) kq
  obtain ⟨cl1, Ar1, q1, S1, M1, H1, G1⟩ := id I1
  obtain ⟨cl2, Ar2, q2, S2, M2, H2, G2⟩ := id I0
  have hin2 : ¬ ((0 : Int32) < 0 ∨ cl2.slots.size ≤ ((0 : Int32)).toNatClampNeg) := inb_of S2 ⟨by decide, by decide⟩
  have hat2 : cl2.slots[((0 : Int32)).toNatClampNeg]? = some (.long d0) := Has.at H2 hin2 rfl
  obtain ⟨cl3, Ar3, q3, S3, M3, H3, G3⟩ := id I1
  have hin3 : ¬ ((0 : Int32) < 0 ∨ cl3.slots.size ≤ ((0 : Int32)).toNatClampNeg) := inb_of S3 ⟨by decide, by decide⟩
  have hat3 : cl3.slots[((0 : Int32)).toNatClampNeg]? = some (.long f0) := Has.at H3 hin3 rfl
  have pre4 : ∀ tq, Steps p.tables e below (s₁.setTop (mkF m 15 #[.val (.ref ar), .val (.ref br), .val (.int (0 : Int32))] [(.int (lcmpW d0 f0))])) tq → Steps p.tables e below (s₁.setTop (entryFrame m #[(.ref ar), (.ref br)] 3)) tq := by
    intro tq kt
    refine pre0 _ ?_
    show Steps p.tables e below (s₁.setTop (mkF m 0 #[.val (.ref ar), .val (.ref br), .unset] [])) _
    refine XS.iconst X0.here hx rfl (hb hby d1_0) ?_
    show Steps p.tables e below (s₁.setTop (mkF m 1 #[.val (.ref ar), .val (.ref br), .unset] [(.int (0 : Int32))])) _
    refine XS.istoreN X0.here hx rfl (hb hby d1_1) rfl (l' := #[.val (.ref ar), .val (.ref br), .val (.int (0 : Int32))]) rfl ?_
    show Steps p.tables e below (s₁.setTop (mkF m 2 #[.val (.ref ar), .val (.ref br), .val (.int (0 : Int32))] [])) _
    refine XS.iloadN X0.here hx rfl (hb hby d1_2) rfl ?_
    show Steps p.tables e below (s₁.setTop (mkF m 3 #[.val (.ref ar), .val (.ref br), .val (.int (0 : Int32))] [(.int (0 : Int32))])) _
    refine XS.aloadN X0.here hx rfl (hb hby d1_3) rfl rfl ?_
    show Steps p.tables e below (s₁.setTop (mkF m 4 #[.val (.ref ar), .val (.ref br), .val (.int (0 : Int32))] [(.ref br), (.int (0 : Int32))])) _
    refine X0.arraylength hx (heq_of e0 Ar1.1) (State.isArrayOf_alike hZ.alike Ar1.2.1) (g := (mkF m 4 #[.val (.ref ar), .val (.ref br), .val (.int (0 : Int32))] [(.ref br), (.int (0 : Int32))])) rfl rfl (hb hby d1_4) _ ?_
    rw [len_of S1 M1]
    show Steps p.tables e below (s₁.setTop (mkF m 5 #[.val (.ref ar), .val (.ref br), .val (.int (0 : Int32))] [(.int (3 : Int32)), (.int (0 : Int32))])) _
    refine XS.icmpNo X0.here hx rfl (hb hby d1_5) rfl (tlt (by decide)).2.1 ?_
    show Steps p.tables e below (s₁.setTop (mkF m 8 #[.val (.ref ar), .val (.ref br), .val (.int (0 : Int32))] [])) _
    refine XS.aloadN X0.here hx rfl (hb hby d1_8) rfl rfl ?_
    show Steps p.tables e below (s₁.setTop (mkF m 9 #[.val (.ref ar), .val (.ref br), .val (.int (0 : Int32))] [(.ref ar)])) _
    refine XS.iloadN X0.here hx rfl (hb hby d1_9) rfl ?_
    show Steps p.tables e below (s₁.setTop (mkF m 10 #[.val (.ref ar), .val (.ref br), .val (.int (0 : Int32))] [(.int (0 : Int32)), (.ref ar)])) _
    refine X0.laload hx (j := (0 : Int32)) (v := (.long d0)) (heq_of e0 Ar2.1) (State.isArrayOf_alike hZ.alike Ar2.2.1) Ar2.2.2 hin2 hat2 (g := (mkF m 10 #[.val (.ref ar), .val (.ref br), .val (.int (0 : Int32))] [(.int (0 : Int32)), (.ref ar)])) rfl rfl (hb hby d1_10) _ ?_
    show Steps p.tables e below (s₁.setTop (mkF m 11 #[.val (.ref ar), .val (.ref br), .val (.int (0 : Int32))] [(.long d0)])) _
    refine XS.aloadN X0.here hx rfl (hb hby d1_11) rfl rfl ?_
    show Steps p.tables e below (s₁.setTop (mkF m 12 #[.val (.ref ar), .val (.ref br), .val (.int (0 : Int32))] [(.ref br), (.long d0)])) _
    refine XS.iloadN X0.here hx rfl (hb hby d1_12) rfl ?_
    show Steps p.tables e below (s₁.setTop (mkF m 13 #[.val (.ref ar), .val (.ref br), .val (.int (0 : Int32))] [(.int (0 : Int32)), (.ref br), (.long d0)])) _
    refine X0.laload hx (j := (0 : Int32)) (v := (.long f0)) (heq_of e0 Ar3.1) (State.isArrayOf_alike hZ.alike Ar3.2.1) Ar3.2.2 hin3 hat3 (g := (mkF m 13 #[.val (.ref ar), .val (.ref br), .val (.int (0 : Int32))] [(.int (0 : Int32)), (.ref br), (.long d0)])) rfl rfl (hb hby d1_13) _ ?_
    show Steps p.tables e below (s₁.setTop (mkF m 14 #[.val (.ref ar), .val (.ref br), .val (.int (0 : Int32))] [(.long f0), (.long d0)])) _
    refine XS.lcmp X0.here hx rfl (hb hby d1_14) rfl ?_
    show Steps p.tables e below (s₁.setTop (mkF m 15 #[.val (.ref ar), .val (.ref br), .val (.int (0 : Int32))] [(.int (lcmpW d0 f0))])) _
    exact kt
  by_cases hc15_5 : f0 < d0
  · skip
    obtain ⟨fs, hr, hrun, hended, hW, hsame⟩ := X0.leave (v := some (Value.int (0 : Int32))) (fun h => by rw [Bd.returns] at h; cases h)
    have hres6 : (0 : Int32) = (own_fits3 d0 d1 d2 f0 f1 f2) := by unfold own_fits3; simp only [if_pos hc15_5]
    refine ⟨_, _, pre4 _ ?_, hrun, hended, _, _, rfl, ?_, ⟨_, rfl⟩, hW, hsame.mono (by decide) (by decide)⟩
    · skip
      show Steps p.tables e below (s₁.setTop (mkF m 15 #[.val (.ref ar), .val (.ref br), .val (.int (0 : Int32))] [(.int (lcmpW d0 f0))])) _
      refine XS.ifNo X0.here hx rfl (hb hby d1_15) rfl ((if0 _ _).trans (tlt ((lw_gt d0 f0).2 hc15_5)).2.2.2) ?_
      show Steps p.tables e below (s₁.setTop (mkF m 18 #[.val (.ref ar), .val (.ref br), .val (.int (0 : Int32))] [])) _
      refine XS.iconst X0.here hx rfl (hb hby d1_18) ?_
      show Steps p.tables e below (s₁.setTop (mkF m 19 #[.val (.ref ar), .val (.ref br), .val (.int (0 : Int32))] [(.int (0 : Int32))])) _
      exact retN X0 hx (t := .boolean) Bd.returns (by simp) (hb hby d1_19) hr
    · show Q1_3 Z ar br ka kb d0 d1 d2 f0 f1 f2 h0 n0 _ s₁.heap _
      rw [e0]
      exact ⟨congrArg (fun z => some (Value.int z)) hres6, N0, rfl⟩
  · skip
    obtain ⟨cl7, Ar7, q7, S7, M7, H7, G7⟩ := id I1
    obtain ⟨cl8, Ar8, q8, S8, M8, H8, G8⟩ := id I0
    have hin8 : ¬ ((1 : Int32) < 0 ∨ cl8.slots.size ≤ ((1 : Int32)).toNatClampNeg) := inb_of S8 ⟨by decide, by decide⟩
    have hat8 : cl8.slots[((1 : Int32)).toNatClampNeg]? = some (.long d1) := Has.at H8 hin8 rfl
    obtain ⟨cl9, Ar9, q9, S9, M9, H9, G9⟩ := id I1
    have hin9 : ¬ ((1 : Int32) < 0 ∨ cl9.slots.size ≤ ((1 : Int32)).toNatClampNeg) := inb_of S9 ⟨by decide, by decide⟩
    have hat9 : cl9.slots[((1 : Int32)).toNatClampNeg]? = some (.long f1) := Has.at H9 hin9 rfl
    have pre10 : ∀ tq, Steps p.tables e below (s₁.setTop (mkF m 15 #[.val (.ref ar), .val (.ref br), .val (.int (1 : Int32))] [(.int (lcmpW d1 f1))])) tq → Steps p.tables e below (s₁.setTop (entryFrame m #[(.ref ar), (.ref br)] 3)) tq := by
      intro tq kt
      refine pre4 _ ?_
      show Steps p.tables e below (s₁.setTop (mkF m 15 #[.val (.ref ar), .val (.ref br), .val (.int (0 : Int32))] [(.int (lcmpW d0 f0))])) _
      refine XS.ifYes X0.here hx rfl (pc0 := 15) (pc' := 20) rfl (hb hby d1_15) rfl ((if0 _ _).trans (flt (mt (lw_gt d0 f0).1 hc15_5)).2.2.2) (by decide) (by decide) ?_
      show Steps p.tables e below (s₁.setTop (mkF m 20 #[.val (.ref ar), .val (.ref br), .val (.int (0 : Int32))] [])) _
      refine XS.iinc X0.here hx rfl (hb hby d1_20) rfl (l' := #[.val (.ref ar), .val (.ref br), .val (.int (1 : Int32))]) rfl ?_
      show Steps p.tables e below (s₁.setTop (mkF m 23 #[.val (.ref ar), .val (.ref br), .val (.int (1 : Int32))] [])) _
      refine XS.goto X0.here hx rfl (pc0 := 23) (pc' := 2) rfl (hb hby d1_23) (by decide) (by decide) ?_
      show Steps p.tables e below (s₁.setTop (mkF m 2 #[.val (.ref ar), .val (.ref br), .val (.int (1 : Int32))] [])) _
      refine XS.iloadN X0.here hx rfl (hb hby d1_2) rfl ?_
      show Steps p.tables e below (s₁.setTop (mkF m 3 #[.val (.ref ar), .val (.ref br), .val (.int (1 : Int32))] [(.int (1 : Int32))])) _
      refine XS.aloadN X0.here hx rfl (hb hby d1_3) rfl rfl ?_
      show Steps p.tables e below (s₁.setTop (mkF m 4 #[.val (.ref ar), .val (.ref br), .val (.int (1 : Int32))] [(.ref br), (.int (1 : Int32))])) _
      refine X0.arraylength hx (heq_of e0 Ar7.1) (State.isArrayOf_alike hZ.alike Ar7.2.1) (g := (mkF m 4 #[.val (.ref ar), .val (.ref br), .val (.int (1 : Int32))] [(.ref br), (.int (1 : Int32))])) rfl rfl (hb hby d1_4) _ ?_
      rw [len_of S7 M7]
      show Steps p.tables e below (s₁.setTop (mkF m 5 #[.val (.ref ar), .val (.ref br), .val (.int (1 : Int32))] [(.int (3 : Int32)), (.int (1 : Int32))])) _
      refine XS.icmpNo X0.here hx rfl (hb hby d1_5) rfl (tlt (by decide)).2.1 ?_
      show Steps p.tables e below (s₁.setTop (mkF m 8 #[.val (.ref ar), .val (.ref br), .val (.int (1 : Int32))] [])) _
      refine XS.aloadN X0.here hx rfl (hb hby d1_8) rfl rfl ?_
      show Steps p.tables e below (s₁.setTop (mkF m 9 #[.val (.ref ar), .val (.ref br), .val (.int (1 : Int32))] [(.ref ar)])) _
      refine XS.iloadN X0.here hx rfl (hb hby d1_9) rfl ?_
      show Steps p.tables e below (s₁.setTop (mkF m 10 #[.val (.ref ar), .val (.ref br), .val (.int (1 : Int32))] [(.int (1 : Int32)), (.ref ar)])) _
      refine X0.laload hx (j := (1 : Int32)) (v := (.long d1)) (heq_of e0 Ar8.1) (State.isArrayOf_alike hZ.alike Ar8.2.1) Ar8.2.2 hin8 hat8 (g := (mkF m 10 #[.val (.ref ar), .val (.ref br), .val (.int (1 : Int32))] [(.int (1 : Int32)), (.ref ar)])) rfl rfl (hb hby d1_10) _ ?_
      show Steps p.tables e below (s₁.setTop (mkF m 11 #[.val (.ref ar), .val (.ref br), .val (.int (1 : Int32))] [(.long d1)])) _
      refine XS.aloadN X0.here hx rfl (hb hby d1_11) rfl rfl ?_
      show Steps p.tables e below (s₁.setTop (mkF m 12 #[.val (.ref ar), .val (.ref br), .val (.int (1 : Int32))] [(.ref br), (.long d1)])) _
      refine XS.iloadN X0.here hx rfl (hb hby d1_12) rfl ?_
      show Steps p.tables e below (s₁.setTop (mkF m 13 #[.val (.ref ar), .val (.ref br), .val (.int (1 : Int32))] [(.int (1 : Int32)), (.ref br), (.long d1)])) _
      refine X0.laload hx (j := (1 : Int32)) (v := (.long f1)) (heq_of e0 Ar9.1) (State.isArrayOf_alike hZ.alike Ar9.2.1) Ar9.2.2 hin9 hat9 (g := (mkF m 13 #[.val (.ref ar), .val (.ref br), .val (.int (1 : Int32))] [(.int (1 : Int32)), (.ref br), (.long d1)])) rfl rfl (hb hby d1_13) _ ?_
      show Steps p.tables e below (s₁.setTop (mkF m 14 #[.val (.ref ar), .val (.ref br), .val (.int (1 : Int32))] [(.long f1), (.long d1)])) _
      refine XS.lcmp X0.here hx rfl (hb hby d1_14) rfl ?_
      show Steps p.tables e below (s₁.setTop (mkF m 15 #[.val (.ref ar), .val (.ref br), .val (.int (1 : Int32))] [(.int (lcmpW d1 f1))])) _
      exact kt
    by_cases hc15_11 : f1 < d1
    · skip
      obtain ⟨fs, hr, hrun, hended, hW, hsame⟩ := X0.leave (v := some (Value.int (0 : Int32))) (fun h => by rw [Bd.returns] at h; cases h)
      have hres12 : (0 : Int32) = (own_fits3 d0 d1 d2 f0 f1 f2) := by unfold own_fits3; simp only [if_neg hc15_5, if_pos hc15_11]
      refine ⟨_, _, pre10 _ ?_, hrun, hended, _, _, rfl, ?_, ⟨_, rfl⟩, hW, hsame.mono (by decide) (by decide)⟩
      · skip
        show Steps p.tables e below (s₁.setTop (mkF m 15 #[.val (.ref ar), .val (.ref br), .val (.int (1 : Int32))] [(.int (lcmpW d1 f1))])) _
        refine XS.ifNo X0.here hx rfl (hb hby d1_15) rfl ((if0 _ _).trans (tlt ((lw_gt d1 f1).2 hc15_11)).2.2.2) ?_
        show Steps p.tables e below (s₁.setTop (mkF m 18 #[.val (.ref ar), .val (.ref br), .val (.int (1 : Int32))] [])) _
        refine XS.iconst X0.here hx rfl (hb hby d1_18) ?_
        show Steps p.tables e below (s₁.setTop (mkF m 19 #[.val (.ref ar), .val (.ref br), .val (.int (1 : Int32))] [(.int (0 : Int32))])) _
        exact retN X0 hx (t := .boolean) Bd.returns (by simp) (hb hby d1_19) hr
      · show Q1_3 Z ar br ka kb d0 d1 d2 f0 f1 f2 h0 n0 _ s₁.heap _
        rw [e0]
        exact ⟨congrArg (fun z => some (Value.int z)) hres12, N0, rfl⟩
    · skip
      obtain ⟨cl13, Ar13, q13, S13, M13, H13, G13⟩ := id I1
      obtain ⟨cl14, Ar14, q14, S14, M14, H14, G14⟩ := id I0
      have hin14 : ¬ ((2 : Int32) < 0 ∨ cl14.slots.size ≤ ((2 : Int32)).toNatClampNeg) := inb_of S14 ⟨by decide, by decide⟩
      have hat14 : cl14.slots[((2 : Int32)).toNatClampNeg]? = some (.long d2) := Has.at H14 hin14 rfl
      obtain ⟨cl15, Ar15, q15, S15, M15, H15, G15⟩ := id I1
      have hin15 : ¬ ((2 : Int32) < 0 ∨ cl15.slots.size ≤ ((2 : Int32)).toNatClampNeg) := inb_of S15 ⟨by decide, by decide⟩
      have hat15 : cl15.slots[((2 : Int32)).toNatClampNeg]? = some (.long f2) := Has.at H15 hin15 rfl
      have pre16 : ∀ tq, Steps p.tables e below (s₁.setTop (mkF m 15 #[.val (.ref ar), .val (.ref br), .val (.int (2 : Int32))] [(.int (lcmpW d2 f2))])) tq → Steps p.tables e below (s₁.setTop (entryFrame m #[(.ref ar), (.ref br)] 3)) tq := by
        intro tq kt
        refine pre10 _ ?_
        show Steps p.tables e below (s₁.setTop (mkF m 15 #[.val (.ref ar), .val (.ref br), .val (.int (1 : Int32))] [(.int (lcmpW d1 f1))])) _
        refine XS.ifYes X0.here hx rfl (pc0 := 15) (pc' := 20) rfl (hb hby d1_15) rfl ((if0 _ _).trans (flt (mt (lw_gt d1 f1).1 hc15_11)).2.2.2) (by decide) (by decide) ?_
        show Steps p.tables e below (s₁.setTop (mkF m 20 #[.val (.ref ar), .val (.ref br), .val (.int (1 : Int32))] [])) _
        refine XS.iinc X0.here hx rfl (hb hby d1_20) rfl (l' := #[.val (.ref ar), .val (.ref br), .val (.int (2 : Int32))]) rfl ?_
        show Steps p.tables e below (s₁.setTop (mkF m 23 #[.val (.ref ar), .val (.ref br), .val (.int (2 : Int32))] [])) _
        refine XS.goto X0.here hx rfl (pc0 := 23) (pc' := 2) rfl (hb hby d1_23) (by decide) (by decide) ?_
        show Steps p.tables e below (s₁.setTop (mkF m 2 #[.val (.ref ar), .val (.ref br), .val (.int (2 : Int32))] [])) _
        refine XS.iloadN X0.here hx rfl (hb hby d1_2) rfl ?_
        show Steps p.tables e below (s₁.setTop (mkF m 3 #[.val (.ref ar), .val (.ref br), .val (.int (2 : Int32))] [(.int (2 : Int32))])) _
        refine XS.aloadN X0.here hx rfl (hb hby d1_3) rfl rfl ?_
        show Steps p.tables e below (s₁.setTop (mkF m 4 #[.val (.ref ar), .val (.ref br), .val (.int (2 : Int32))] [(.ref br), (.int (2 : Int32))])) _
        refine X0.arraylength hx (heq_of e0 Ar13.1) (State.isArrayOf_alike hZ.alike Ar13.2.1) (g := (mkF m 4 #[.val (.ref ar), .val (.ref br), .val (.int (2 : Int32))] [(.ref br), (.int (2 : Int32))])) rfl rfl (hb hby d1_4) _ ?_
        rw [len_of S13 M13]
        show Steps p.tables e below (s₁.setTop (mkF m 5 #[.val (.ref ar), .val (.ref br), .val (.int (2 : Int32))] [(.int (3 : Int32)), (.int (2 : Int32))])) _
        refine XS.icmpNo X0.here hx rfl (hb hby d1_5) rfl (tlt (by decide)).2.1 ?_
        show Steps p.tables e below (s₁.setTop (mkF m 8 #[.val (.ref ar), .val (.ref br), .val (.int (2 : Int32))] [])) _
        refine XS.aloadN X0.here hx rfl (hb hby d1_8) rfl rfl ?_
        show Steps p.tables e below (s₁.setTop (mkF m 9 #[.val (.ref ar), .val (.ref br), .val (.int (2 : Int32))] [(.ref ar)])) _
        refine XS.iloadN X0.here hx rfl (hb hby d1_9) rfl ?_
        show Steps p.tables e below (s₁.setTop (mkF m 10 #[.val (.ref ar), .val (.ref br), .val (.int (2 : Int32))] [(.int (2 : Int32)), (.ref ar)])) _
        refine X0.laload hx (j := (2 : Int32)) (v := (.long d2)) (heq_of e0 Ar14.1) (State.isArrayOf_alike hZ.alike Ar14.2.1) Ar14.2.2 hin14 hat14 (g := (mkF m 10 #[.val (.ref ar), .val (.ref br), .val (.int (2 : Int32))] [(.int (2 : Int32)), (.ref ar)])) rfl rfl (hb hby d1_10) _ ?_
        show Steps p.tables e below (s₁.setTop (mkF m 11 #[.val (.ref ar), .val (.ref br), .val (.int (2 : Int32))] [(.long d2)])) _
        refine XS.aloadN X0.here hx rfl (hb hby d1_11) rfl rfl ?_
        show Steps p.tables e below (s₁.setTop (mkF m 12 #[.val (.ref ar), .val (.ref br), .val (.int (2 : Int32))] [(.ref br), (.long d2)])) _
        refine XS.iloadN X0.here hx rfl (hb hby d1_12) rfl ?_
        show Steps p.tables e below (s₁.setTop (mkF m 13 #[.val (.ref ar), .val (.ref br), .val (.int (2 : Int32))] [(.int (2 : Int32)), (.ref br), (.long d2)])) _
        refine X0.laload hx (j := (2 : Int32)) (v := (.long f2)) (heq_of e0 Ar15.1) (State.isArrayOf_alike hZ.alike Ar15.2.1) Ar15.2.2 hin15 hat15 (g := (mkF m 13 #[.val (.ref ar), .val (.ref br), .val (.int (2 : Int32))] [(.int (2 : Int32)), (.ref br), (.long d2)])) rfl rfl (hb hby d1_13) _ ?_
        show Steps p.tables e below (s₁.setTop (mkF m 14 #[.val (.ref ar), .val (.ref br), .val (.int (2 : Int32))] [(.long f2), (.long d2)])) _
        refine XS.lcmp X0.here hx rfl (hb hby d1_14) rfl ?_
        show Steps p.tables e below (s₁.setTop (mkF m 15 #[.val (.ref ar), .val (.ref br), .val (.int (2 : Int32))] [(.int (lcmpW d2 f2))])) _
        exact kt
      by_cases hc15_17 : f2 < d2
      · skip
        obtain ⟨fs, hr, hrun, hended, hW, hsame⟩ := X0.leave (v := some (Value.int (0 : Int32))) (fun h => by rw [Bd.returns] at h; cases h)
        have hres18 : (0 : Int32) = (own_fits3 d0 d1 d2 f0 f1 f2) := by unfold own_fits3; simp only [if_neg hc15_5, if_neg hc15_11, if_pos hc15_17]
        refine ⟨_, _, pre16 _ ?_, hrun, hended, _, _, rfl, ?_, ⟨_, rfl⟩, hW, hsame.mono (by decide) (by decide)⟩
        · skip
          show Steps p.tables e below (s₁.setTop (mkF m 15 #[.val (.ref ar), .val (.ref br), .val (.int (2 : Int32))] [(.int (lcmpW d2 f2))])) _
          refine XS.ifNo X0.here hx rfl (hb hby d1_15) rfl ((if0 _ _).trans (tlt ((lw_gt d2 f2).2 hc15_17)).2.2.2) ?_
          show Steps p.tables e below (s₁.setTop (mkF m 18 #[.val (.ref ar), .val (.ref br), .val (.int (2 : Int32))] [])) _
          refine XS.iconst X0.here hx rfl (hb hby d1_18) ?_
          show Steps p.tables e below (s₁.setTop (mkF m 19 #[.val (.ref ar), .val (.ref br), .val (.int (2 : Int32))] [(.int (0 : Int32))])) _
          exact retN X0 hx (t := .boolean) Bd.returns (by simp) (hb hby d1_19) hr
        · show Q1_3 Z ar br ka kb d0 d1 d2 f0 f1 f2 h0 n0 _ s₁.heap _
          rw [e0]
          exact ⟨congrArg (fun z => some (Value.int z)) hres18, N0, rfl⟩
      · skip
        obtain ⟨cl19, Ar19, q19, S19, M19, H19, G19⟩ := id I1
        obtain ⟨fs, hr, hrun, hended, hW, hsame⟩ := X0.leave (v := some (Value.int (1 : Int32))) (fun h => by rw [Bd.returns] at h; cases h)
        have hres20 : (1 : Int32) = (own_fits3 d0 d1 d2 f0 f1 f2) := by unfold own_fits3; simp only [if_neg hc15_5, if_neg hc15_11, if_neg hc15_17]
        refine ⟨_, _, pre16 _ ?_, hrun, hended, _, _, rfl, ?_, ⟨_, rfl⟩, hW, hsame.mono (by decide) (by decide)⟩
        · skip
          show Steps p.tables e below (s₁.setTop (mkF m 15 #[.val (.ref ar), .val (.ref br), .val (.int (2 : Int32))] [(.int (lcmpW d2 f2))])) _
          refine XS.ifYes X0.here hx rfl (pc0 := 15) (pc' := 20) rfl (hb hby d1_15) rfl ((if0 _ _).trans (flt (mt (lw_gt d2 f2).1 hc15_17)).2.2.2) (by decide) (by decide) ?_
          show Steps p.tables e below (s₁.setTop (mkF m 20 #[.val (.ref ar), .val (.ref br), .val (.int (2 : Int32))] [])) _
          refine XS.iinc X0.here hx rfl (hb hby d1_20) rfl (l' := #[.val (.ref ar), .val (.ref br), .val (.int (3 : Int32))]) rfl ?_
          show Steps p.tables e below (s₁.setTop (mkF m 23 #[.val (.ref ar), .val (.ref br), .val (.int (3 : Int32))] [])) _
          refine XS.goto X0.here hx rfl (pc0 := 23) (pc' := 2) rfl (hb hby d1_23) (by decide) (by decide) ?_
          show Steps p.tables e below (s₁.setTop (mkF m 2 #[.val (.ref ar), .val (.ref br), .val (.int (3 : Int32))] [])) _
          refine XS.iloadN X0.here hx rfl (hb hby d1_2) rfl ?_
          show Steps p.tables e below (s₁.setTop (mkF m 3 #[.val (.ref ar), .val (.ref br), .val (.int (3 : Int32))] [(.int (3 : Int32))])) _
          refine XS.aloadN X0.here hx rfl (hb hby d1_3) rfl rfl ?_
          show Steps p.tables e below (s₁.setTop (mkF m 4 #[.val (.ref ar), .val (.ref br), .val (.int (3 : Int32))] [(.ref br), (.int (3 : Int32))])) _
          refine X0.arraylength hx (heq_of e0 Ar19.1) (State.isArrayOf_alike hZ.alike Ar19.2.1) (g := (mkF m 4 #[.val (.ref ar), .val (.ref br), .val (.int (3 : Int32))] [(.ref br), (.int (3 : Int32))])) rfl rfl (hb hby d1_4) _ ?_
          rw [len_of S19 M19]
          show Steps p.tables e below (s₁.setTop (mkF m 5 #[.val (.ref ar), .val (.ref br), .val (.int (3 : Int32))] [(.int (3 : Int32)), (.int (3 : Int32))])) _
          refine XS.icmpYes X0.here hx rfl (pc0 := 5) (pc' := 26) rfl (hb hby d1_5) rfl (flt (by decide)).2.1 (by decide) (by decide) ?_
          show Steps p.tables e below (s₁.setTop (mkF m 26 #[.val (.ref ar), .val (.ref br), .val (.int (3 : Int32))] [])) _
          refine XS.iconst X0.here hx rfl (hb hby d1_26) ?_
          show Steps p.tables e below (s₁.setTop (mkF m 27 #[.val (.ref ar), .val (.ref br), .val (.int (3 : Int32))] [(.int (1 : Int32))])) _
          exact retN X0 hx (t := .boolean) Bd.returns (by simp) (hb hby d1_27) hr
        · show Q1_3 Z ar br ka kb d0 d1 d2 f0 f1 f2 h0 n0 _ s₁.heap _
          rw [e0]
          exact ⟨congrArg (fun z => some (Value.int z)) hres20, N0, rfl⟩
theorem pn_0 : plainName "com/example/evenkeel/evenkeel/MachineAllocationFitsPinLaw" = true := by first | (simp [plainName, overriddenIn]; done) | decide +kernel
theorem pd_0 : parseMethodDescriptor "([J[J)Z" = some ⟨[(.array .long), (.array .long)], some .boolean⟩ := by decide +kernel
theorem ef_0 (m : MethodId) (x0 : Int64) (x1 : Int64) (x2 : Int64) (x3 : Int64) (x4 : Int64) (x5 : Int32) : entryFrame m #[(.long x0), (.long x1), (.long x2), (.long x3), (.long x4), (.int x5)] maxLocals = mkF m 0 #[.val (.long x0), .second, .val (.long x1), .second, .val (.long x2), .second, .val (.long x3), .second, .val (.long x4), .second, .val (.int x5), .unset, .unset, .unset, .unset, .unset, .unset, .unset, .unset] [] := by first | (simp [entryFrame, mkF, argsToLocals, Value.category, maxLocals]; done) | rfl
theorem own_split_0_31 (d0 : Int64) (d1 : Int64) (d2 : Int64) (f0 : Int64) (f1 : Int64) (sh : Int32) (v4 : Int32) (hv4 : v4 = (sh &&& (3 : Int32))) (v11 : Int64) (hv11 : v11 = ((sh >>> ((2 : Int32) &&& 31)).toInt64)) : v4 = (0 : Int32) ∨ v4 = (1 : Int32) ∨ v4 = (2 : Int32) ∨ v4 = (3 : Int32) := by rw [hv4]; exact own_m3 sh
theorem own_leaf_0_263_s1 (d0 : Int64) (d1 : Int64) (d2 : Int64) (f0 : Int64) (f1 : Int64) (sh : Int32) (hv4 : (1 : Int32) = (sh &&& (3 : Int32))) (v11 : Int64) (hv11 : v11 = ((sh >>> ((2 : Int32) &&& 31)).toInt64)) (m152 : Int32) (hm152 : m152 = (if f0 < d0 then (0 : Int32) else (1 : Int32))) (r158 : Int32) (hr158 : r158 = (own_fits1 d0 f0)) (m263 : Int32) (hm263 : m263 = (if r158 = m152 then (1 : Int32) else (0 : Int32))) : (nar .boolean m263) = (1 : Int32) := by subst_vars; simp [own_fits1, own_fits2, own_fits3, nar]
theorem own_leaf_0_263_s2 (d0 : Int64) (d1 : Int64) (d2 : Int64) (f0 : Int64) (f1 : Int64) (sh : Int32) (hv4 : (2 : Int32) = (sh &&& (3 : Int32))) (v11 : Int64) (hv11 : v11 = ((sh >>> ((2 : Int32) &&& 31)).toInt64)) (m152 : Int32) (hm152 : m152 = (if f0 < d0 then (0 : Int32) else (if f1 < d1 then (0 : Int32) else (1 : Int32)))) (r158 : Int32) (hr158 : r158 = (own_fits2 d0 d1 f0 f1)) (m263 : Int32) (hm263 : m263 = (if r158 = m152 then (1 : Int32) else (0 : Int32))) : (nar .boolean m263) = (1 : Int32) := by subst_vars; simp [own_fits1, own_fits2, own_fits3, nar]
theorem own_leaf_0_263_s3 (d0 : Int64) (d1 : Int64) (d2 : Int64) (f0 : Int64) (f1 : Int64) (sh : Int32) (hv4 : (3 : Int32) = (sh &&& (3 : Int32))) (v11 : Int64) (hv11 : v11 = ((sh >>> ((2 : Int32) &&& 31)).toInt64)) (m152 : Int32) (hm152 : m152 = (if f0 < d0 then (0 : Int32) else (if f1 < d1 then (0 : Int32) else (if v11 < d2 then (0 : Int32) else (1 : Int32))))) (r158 : Int32) (hr158 : r158 = (own_fits3 d0 d1 d2 f0 f1 v11)) (m263 : Int32) (hm263 : m263 = (if r158 = m152 then (1 : Int32) else (0 : Int32))) : (nar .boolean m263) = (1 : Int32) := by subst_vars; simp [own_fits1, own_fits2, own_fits3, nar]
def Q0 (Z : State) (d0 : Int64) (d1 : Int64) (d2 : Int64) (f0 : Int64) (f1 : Int64) (sh : Int32) (h0 : Heap) (n0 : Nat) (v : Option Value) (h : Heap) (L : List Loc) : Prop := v = some (.int (1 : Int32)) ∧ Fr n0 L
set_option maxRecDepth 65536 in
set_option maxHeartbeats 40000000 in
theorem rm0 (l : Launch) (Z : State) (a0 : Array Value) (hw : ∀ d ∈ tables_1, d.before a0 Z = true) (ws : List Jvm.Cond) (d0 : Int64) (d1 : Int64) (d2 : Int64) (f0 : Int64) (f1 : Int64) (sh : Int32) (h0 : Heap) (n0 : Nat) (Z0 : n0 ≤ h0.size)  :
    MetFree l x (head1 (Jvm.Cond.code x code maxLocals ret :: ws) room_1) (fun a U => a = #[(.long d0), (.long d1), (.long d2), (.long f0), (.long f1), (.int sh)] ∧ Z.Warmed39 U.vm ∧ U.heap = h0) (fun _ _ _ _ _ => True) (fun _ U o U' => ∃ v L, o = .returned v ∧ Q0 Z d0 d1 d2 f0 f1 sh h0 n0 v U'.heap L ∧ FrameEnd U o U' L room_1.cells room_1.slots) := by
  refine MetFree.of_bodySF (plainFor_of_name pn_0) hisR ?_
  intro p e s m args below meth c s₁ Bd hml0 hP hK
  obtain ⟨rfl, hZ, hh⟩ := hP
  have hx := Bd.exec
  have hby := Bd.bytes
  have hml : c.maxLocals = 19 := hml0
  have hown : s.vm.findClass "com/example/evenkeel/evenkeel/MachineAllocationFitsPinLaw" = some m.cls := findClass_of_methodNamed Bd.named
  have hnm := (name_of_methodNamed Bd.named Bd.method).1
  have X0 : Stand p l e room_1 s m #[(.long d0), (.long d1), (.long d2), (.long f0), (.long f1), (.int sh)] below meth c s₁ [] 0 0 := Stand.of_body Bd
  have e0 : s₁.heap = h0 := by rw [← hh, Bd.state]; rfl
  have N0 := Fr.nil n0
  have K0 : Keep h0 h0 [] := Keep.refl h0 _
  have pre0 : ∀ tq, Steps p.tables e below (s₁.setTop (mkF m 0 #[.val (.long d0), .second, .val (.long d1), .second, .val (.long d2), .second, .val (.long f0), .second, .val (.long f1), .second, .val (.int sh), .unset, .unset, .unset, .unset, .unset, .unset, .unset, .unset] [])) tq → Steps p.tables e below (s₁.setTop (entryFrame m #[(.long d0), (.long d1), (.long d2), (.long f0), (.long f1), (.int sh)] maxLocals)) tq := fun tq kq => castTop (ef_0 m d0 d1 d2 f0 f1 sh) kq
  obtain ⟨v4, hv4⟩ : ∃ z_q : Int32, z_q = (sh &&& (3 : Int32)) := ⟨_, rfl⟩
  obtain ⟨v11, hv11⟩ : ∃ z_q : Int64, z_q = ((sh >>> ((2 : Int32) &&& 31)).toInt64) := ⟨_, rfl⟩
  obtain ⟨T1, hX1, kx1, X1, e1, E1, A1, st1⟩ := newP X0 hx hZ (hw _ (List.mem_of_getElem? (i := 0) rfl)) e0 (g := (mkF m 14 #[.val (.long d0), .second, .val (.long d1), .second, .val (.long d2), .second, .val (.long f0), .second, .val (.long f1), .second, .val (.int sh), .val (.int v4), .val (.long v11), .second, .unset, .unset, .unset, .unset, .unset] [(.int (3 : Int32))])) rfl (hb hby at_14) rfl (by decide) (cap := 3) (by decide) (by decide) (by decide) (by decide)
  obtain ⟨b1, g1⟩ : ∃ z_q, z_q = h0.size := ⟨_, rfl⟩
  rw [← g1] at A1 st1
  have g_b1 : n0 ≤ b1 := Nat.le_trans Z0 (Nat.le_of_eq g1.symm)
  have sz_b1 : h0.size ≤ b1 := Nat.le_trans K0.1 (Nat.le_of_eq g1.symm)
  have Z2 : n0 ≤ hX1.size := Nat.le_trans Z0 E1.1
  have K3 : Keep h0 hX1 [] := K0.ext E1
  have F4 : Arv Z hX1 b1 kx1 .long (3 : Int32) [(.long (0 : Int64)), (.long (0 : Int64)), (.long (0 : Int64))] (.long (0 : Int64)) := (Arv.new A1 (by decide)).pad (pad_rep [] (.long (0 : Int64)) 3)
  obtain ⟨cl5, Ar5, q5, S5, M5, H5, G5⟩ := id F4
  have hin5 : ¬ ((0 : Int32) < 0 ∨ cl5.slots.size ≤ ((0 : Int32)).toNatClampNeg) := inb_of S5 ⟨by decide, by decide⟩
  obtain ⟨T5, hX5, X5, e5, W5, st5⟩ := stJ X1 hx hZ e1 Ar5 (j := (0 : Int32)) hin5 (g := (mkF m 19 #[.val (.long d0), .second, .val (.long d1), .second, .val (.long d2), .second, .val (.long f0), .second, .val (.long f1), .second, .val (.int sh), .val (.int v4), .val (.long v11), .second, .unset, .unset, .unset, .unset, .unset] [(.long d0), (.int (0 : Int32)), (.ref b1), (.ref b1)])) rfl rfl (hb hby at_19)
  have F6 : Arv Z hX5 b1 kx1 .long (3 : Int32) [(.long d0), (.long (0 : Int64)), (.long (0 : Int64))] (.long (0 : Int64)) := Arv.set Ar5 q5 S5 M5 H5 G5 rfl W5 0 rfl (Nat.le_of_ble_eq_true rfl)
  have N5 := Fr.snoc X5 N0 g_b1
  have Z7 : n0 ≤ hX5.size := Nat.le_trans Z2 (Keep.of_wr W5).1
  have K8 : Keep h0 hX5 [] := K3.wr W5 (Or.inr sz_b1)
  obtain ⟨cl9, Ar9, q9, S9, M9, H9, G9⟩ := id F6
  have hin9 : ¬ ((1 : Int32) < 0 ∨ cl9.slots.size ≤ ((1 : Int32)).toNatClampNeg) := inb_of S9 ⟨by decide, by decide⟩
  obtain ⟨T9, hX9, X9, e9, W9, st9⟩ := stJ X5 hx hZ e5 Ar9 (j := (1 : Int32)) hin9 (g := (mkF m 23 #[.val (.long d0), .second, .val (.long d1), .second, .val (.long d2), .second, .val (.long f0), .second, .val (.long f1), .second, .val (.int sh), .val (.int v4), .val (.long v11), .second, .unset, .unset, .unset, .unset, .unset] [(.long d1), (.int (1 : Int32)), (.ref b1), (.ref b1)])) rfl rfl (hb hby at_23)
  have F10 : Arv Z hX9 b1 kx1 .long (3 : Int32) [(.long d0), (.long d1), (.long (0 : Int64))] (.long (0 : Int64)) := Arv.set Ar9 q9 S9 M9 H9 G9 rfl W9 1 rfl (Nat.le_of_ble_eq_true rfl)
  have N9 := Fr.snoc X9 N5 g_b1
  have Z11 : n0 ≤ hX9.size := Nat.le_trans Z7 (Keep.of_wr W9).1
  have K12 : Keep h0 hX9 [] := K8.wr W9 (Or.inr sz_b1)
  obtain ⟨cl13, Ar13, q13, S13, M13, H13, G13⟩ := id F10
  have hin13 : ¬ ((2 : Int32) < 0 ∨ cl13.slots.size ≤ ((2 : Int32)).toNatClampNeg) := inb_of S13 ⟨by decide, by decide⟩
  obtain ⟨T13, hX13, X13, e13, W13, st13⟩ := stJ X9 hx hZ e9 Ar13 (j := (2 : Int32)) hin13 (g := (mkF m 28 #[.val (.long d0), .second, .val (.long d1), .second, .val (.long d2), .second, .val (.long f0), .second, .val (.long f1), .second, .val (.int sh), .val (.int v4), .val (.long v11), .second, .unset, .unset, .unset, .unset, .unset] [(.long d2), (.int (2 : Int32)), (.ref b1), (.ref b1)])) rfl rfl (hb hby at_28)
  have F14 : Arv Z hX13 b1 kx1 .long (3 : Int32) [(.long d0), (.long d1), (.long d2)] (.long (0 : Int64)) := Arv.set Ar13 q13 S13 M13 H13 G13 rfl W13 2 rfl (Nat.le_of_ble_eq_true rfl)
  have N13 := Fr.snoc X13 N9 g_b1
  have Z15 : n0 ≤ hX13.size := Nat.le_trans Z11 (Keep.of_wr W13).1
  have K16 : Keep h0 hX13 [] := K12.wr W13 (Or.inr sz_b1)
  have pre17 : ∀ tq, Steps p.tables e below (T13.setTop (mkF m 31 #[.val (.long d0), .second, .val (.long d1), .second, .val (.long d2), .second, .val (.long f0), .second, .val (.long f1), .second, .val (.int sh), .val (.int v4), .val (.long v11), .second, .val (.ref b1), .unset, .unset, .unset, .unset] [])) tq → Steps p.tables e below (s₁.setTop (entryFrame m #[(.long d0), (.long d1), (.long d2), (.long f0), (.long f1), (.int sh)] maxLocals)) tq := by
    intro tq kt
    refine pre0 _ ?_
    show Steps p.tables e below (s₁.setTop (mkF m 0 #[.val (.long d0), .second, .val (.long d1), .second, .val (.long d2), .second, .val (.long f0), .second, .val (.long f1), .second, .val (.int sh), .unset, .unset, .unset, .unset, .unset, .unset, .unset, .unset] [])) _
    refine XS.iload X0.here hx rfl (hb hby at_0) rfl ?_
    show Steps p.tables e below (s₁.setTop (mkF m 2 #[.val (.long d0), .second, .val (.long d1), .second, .val (.long d2), .second, .val (.long f0), .second, .val (.long f1), .second, .val (.int sh), .unset, .unset, .unset, .unset, .unset, .unset, .unset, .unset] [(.int sh)])) _
    refine XS.iconst X0.here hx rfl (hb hby at_2) ?_
    show Steps p.tables e below (s₁.setTop (mkF m 3 #[.val (.long d0), .second, .val (.long d1), .second, .val (.long d2), .second, .val (.long f0), .second, .val (.long f1), .second, .val (.int sh), .unset, .unset, .unset, .unset, .unset, .unset, .unset, .unset] [(.int (3 : Int32)), (.int sh)])) _
    refine XS.iand X0.here hx rfl (hb hby at_3) rfl ?_
    show Steps p.tables e below (s₁.setTop (mkF m 4 #[.val (.long d0), .second, .val (.long d1), .second, .val (.long d2), .second, .val (.long f0), .second, .val (.long f1), .second, .val (.int sh), .unset, .unset, .unset, .unset, .unset, .unset, .unset, .unset] [(.int (sh &&& (3 : Int32)))])) _
    refine XS.istore X0.here hx rfl (hb hby at_4) rfl (l' := #[.val (.long d0), .second, .val (.long d1), .second, .val (.long d2), .second, .val (.long f0), .second, .val (.long f1), .second, .val (.int sh), .val (.int v4), .unset, .unset, .unset, .unset, .unset, .unset, .unset]) (by rw [hv4]; rfl) ?_
    show Steps p.tables e below (s₁.setTop (mkF m 6 #[.val (.long d0), .second, .val (.long d1), .second, .val (.long d2), .second, .val (.long f0), .second, .val (.long f1), .second, .val (.int sh), .val (.int v4), .unset, .unset, .unset, .unset, .unset, .unset, .unset] [])) _
    refine XS.iload X0.here hx rfl (hb hby at_6) rfl ?_
    show Steps p.tables e below (s₁.setTop (mkF m 8 #[.val (.long d0), .second, .val (.long d1), .second, .val (.long d2), .second, .val (.long f0), .second, .val (.long f1), .second, .val (.int sh), .val (.int v4), .unset, .unset, .unset, .unset, .unset, .unset, .unset] [(.int sh)])) _
    refine XS.iconst X0.here hx rfl (hb hby at_8) ?_
    show Steps p.tables e below (s₁.setTop (mkF m 9 #[.val (.long d0), .second, .val (.long d1), .second, .val (.long d2), .second, .val (.long f0), .second, .val (.long f1), .second, .val (.int sh), .val (.int v4), .unset, .unset, .unset, .unset, .unset, .unset, .unset] [(.int (2 : Int32)), (.int sh)])) _
    refine XS.ishr X0.here hx rfl (hb hby at_9) rfl ?_
    show Steps p.tables e below (s₁.setTop (mkF m 10 #[.val (.long d0), .second, .val (.long d1), .second, .val (.long d2), .second, .val (.long f0), .second, .val (.long f1), .second, .val (.int sh), .val (.int v4), .unset, .unset, .unset, .unset, .unset, .unset, .unset] [(.int (sh >>> ((2 : Int32) &&& 31)))])) _
    refine XS.i2l X0.here hx rfl (hb hby at_10) rfl ?_
    show Steps p.tables e below (s₁.setTop (mkF m 11 #[.val (.long d0), .second, .val (.long d1), .second, .val (.long d2), .second, .val (.long f0), .second, .val (.long f1), .second, .val (.int sh), .val (.int v4), .unset, .unset, .unset, .unset, .unset, .unset, .unset] [(.long ((sh >>> ((2 : Int32) &&& 31)).toInt64))])) _
    refine XS.lstore X0.here hx rfl (hb hby at_11) rfl (l' := #[.val (.long d0), .second, .val (.long d1), .second, .val (.long d2), .second, .val (.long f0), .second, .val (.long f1), .second, .val (.int sh), .val (.int v4), .val (.long v11), .second, .unset, .unset, .unset, .unset, .unset]) (by rw [hv11]; rfl) ?_
    show Steps p.tables e below (s₁.setTop (mkF m 13 #[.val (.long d0), .second, .val (.long d1), .second, .val (.long d2), .second, .val (.long f0), .second, .val (.long f1), .second, .val (.int sh), .val (.int v4), .val (.long v11), .second, .unset, .unset, .unset, .unset, .unset] [])) _
    refine XS.iconst X0.here hx rfl (hb hby at_13) ?_
    show Steps p.tables e below (s₁.setTop (mkF m 14 #[.val (.long d0), .second, .val (.long d1), .second, .val (.long d2), .second, .val (.long f0), .second, .val (.long f1), .second, .val (.int sh), .val (.int v4), .val (.long v11), .second, .unset, .unset, .unset, .unset, .unset] [(.int (3 : Int32))])) _
    refine st1 _ ?_
    show Steps p.tables e below (T1.setTop (mkF m 16 #[.val (.long d0), .second, .val (.long d1), .second, .val (.long d2), .second, .val (.long f0), .second, .val (.long f1), .second, .val (.int sh), .val (.int v4), .val (.long v11), .second, .unset, .unset, .unset, .unset, .unset] [(.ref b1)])) _
    refine XS.dup X1.here hx rfl (hb hby at_16) rfl rfl ?_
    show Steps p.tables e below (T1.setTop (mkF m 17 #[.val (.long d0), .second, .val (.long d1), .second, .val (.long d2), .second, .val (.long f0), .second, .val (.long f1), .second, .val (.int sh), .val (.int v4), .val (.long v11), .second, .unset, .unset, .unset, .unset, .unset] [(.ref b1), (.ref b1)])) _
    refine XS.iconst X1.here hx rfl (hb hby at_17) ?_
    show Steps p.tables e below (T1.setTop (mkF m 18 #[.val (.long d0), .second, .val (.long d1), .second, .val (.long d2), .second, .val (.long f0), .second, .val (.long f1), .second, .val (.int sh), .val (.int v4), .val (.long v11), .second, .unset, .unset, .unset, .unset, .unset] [(.int (0 : Int32)), (.ref b1), (.ref b1)])) _
    refine XS.lloadN X1.here hx rfl (hb hby at_18) rfl ?_
    show Steps p.tables e below (T1.setTop (mkF m 19 #[.val (.long d0), .second, .val (.long d1), .second, .val (.long d2), .second, .val (.long f0), .second, .val (.long f1), .second, .val (.int sh), .val (.int v4), .val (.long v11), .second, .unset, .unset, .unset, .unset, .unset] [(.long d0), (.int (0 : Int32)), (.ref b1), (.ref b1)])) _
    refine st5 _ ?_
    show Steps p.tables e below (T5.setTop (mkF m 20 #[.val (.long d0), .second, .val (.long d1), .second, .val (.long d2), .second, .val (.long f0), .second, .val (.long f1), .second, .val (.int sh), .val (.int v4), .val (.long v11), .second, .unset, .unset, .unset, .unset, .unset] [(.ref b1)])) _
    refine XS.dup X5.here hx rfl (hb hby at_20) rfl rfl ?_
    show Steps p.tables e below (T5.setTop (mkF m 21 #[.val (.long d0), .second, .val (.long d1), .second, .val (.long d2), .second, .val (.long f0), .second, .val (.long f1), .second, .val (.int sh), .val (.int v4), .val (.long v11), .second, .unset, .unset, .unset, .unset, .unset] [(.ref b1), (.ref b1)])) _
    refine XS.iconst X5.here hx rfl (hb hby at_21) ?_
    show Steps p.tables e below (T5.setTop (mkF m 22 #[.val (.long d0), .second, .val (.long d1), .second, .val (.long d2), .second, .val (.long f0), .second, .val (.long f1), .second, .val (.int sh), .val (.int v4), .val (.long v11), .second, .unset, .unset, .unset, .unset, .unset] [(.int (1 : Int32)), (.ref b1), (.ref b1)])) _
    refine XS.lloadN X5.here hx rfl (hb hby at_22) rfl ?_
    show Steps p.tables e below (T5.setTop (mkF m 23 #[.val (.long d0), .second, .val (.long d1), .second, .val (.long d2), .second, .val (.long f0), .second, .val (.long f1), .second, .val (.int sh), .val (.int v4), .val (.long v11), .second, .unset, .unset, .unset, .unset, .unset] [(.long d1), (.int (1 : Int32)), (.ref b1), (.ref b1)])) _
    refine st9 _ ?_
    show Steps p.tables e below (T9.setTop (mkF m 24 #[.val (.long d0), .second, .val (.long d1), .second, .val (.long d2), .second, .val (.long f0), .second, .val (.long f1), .second, .val (.int sh), .val (.int v4), .val (.long v11), .second, .unset, .unset, .unset, .unset, .unset] [(.ref b1)])) _
    refine XS.dup X9.here hx rfl (hb hby at_24) rfl rfl ?_
    show Steps p.tables e below (T9.setTop (mkF m 25 #[.val (.long d0), .second, .val (.long d1), .second, .val (.long d2), .second, .val (.long f0), .second, .val (.long f1), .second, .val (.int sh), .val (.int v4), .val (.long v11), .second, .unset, .unset, .unset, .unset, .unset] [(.ref b1), (.ref b1)])) _
    refine XS.iconst X9.here hx rfl (hb hby at_25) ?_
    show Steps p.tables e below (T9.setTop (mkF m 26 #[.val (.long d0), .second, .val (.long d1), .second, .val (.long d2), .second, .val (.long f0), .second, .val (.long f1), .second, .val (.int sh), .val (.int v4), .val (.long v11), .second, .unset, .unset, .unset, .unset, .unset] [(.int (2 : Int32)), (.ref b1), (.ref b1)])) _
    refine XS.lload X9.here hx rfl (hb hby at_26) rfl ?_
    show Steps p.tables e below (T9.setTop (mkF m 28 #[.val (.long d0), .second, .val (.long d1), .second, .val (.long d2), .second, .val (.long f0), .second, .val (.long f1), .second, .val (.int sh), .val (.int v4), .val (.long v11), .second, .unset, .unset, .unset, .unset, .unset] [(.long d2), (.int (2 : Int32)), (.ref b1), (.ref b1)])) _
    refine st13 _ ?_
    show Steps p.tables e below (T13.setTop (mkF m 29 #[.val (.long d0), .second, .val (.long d1), .second, .val (.long d2), .second, .val (.long f0), .second, .val (.long f1), .second, .val (.int sh), .val (.int v4), .val (.long v11), .second, .unset, .unset, .unset, .unset, .unset] [(.ref b1)])) _
    refine XS.astore X13.here hx rfl (hb hby at_29) rfl rfl (l' := #[.val (.long d0), .second, .val (.long d1), .second, .val (.long d2), .second, .val (.long f0), .second, .val (.long f1), .second, .val (.int sh), .val (.int v4), .val (.long v11), .second, .val (.ref b1), .unset, .unset, .unset, .unset]) rfl ?_
    show Steps p.tables e below (T13.setTop (mkF m 31 #[.val (.long d0), .second, .val (.long d1), .second, .val (.long d2), .second, .val (.long f0), .second, .val (.long f1), .second, .val (.int sh), .val (.int v4), .val (.long v11), .second, .val (.ref b1), .unset, .unset, .unset, .unset] [])) _
    exact kt
  rcases (own_split_0_31 d0 d1 d2 f0 f1 sh v4 hv4 v11 hv11) with hs18 | hs18 | hs18 | hs18
  · subst hs18
    obtain ⟨T19, hX19, kx19, X19, e19, E19, A19, st19⟩ := newP X13 hx hZ (hw _ (List.mem_of_getElem? (i := 0) rfl)) e13 (g := (mkF m 37 #[.val (.long d0), .second, .val (.long d1), .second, .val (.long d2), .second, .val (.long f0), .second, .val (.long f1), .second, .val (.int sh), .val (.int (0 : Int32)), .val (.long v11), .second, .val (.ref b1), .unset, .unset, .unset, .unset] [(.int (0 : Int32))])) rfl (hb hby at_37) rfl (by decide) (cap := 0) (by decide) (by decide) (by decide) (by decide)
    obtain ⟨b19, g19⟩ : ∃ z_q, z_q = hX13.size := ⟨_, rfl⟩
    rw [← g19] at A19 st19
    have g_b19 : n0 ≤ b19 := Nat.le_trans Z15 (Nat.le_of_eq g19.symm)
    have sz_b19 : h0.size ≤ b19 := Nat.le_trans K16.1 (Nat.le_of_eq g19.symm)
    have ne_b1_b19 : b1 ≠ b19 := Nat.ne_of_lt (Nat.lt_of_lt_of_le F14.lt (Nat.le_of_eq g19.symm))
    have F20 : Arv Z hX19 b1 kx1 .long (3 : Int32) [(.long d0), (.long d1), (.long d2)] (.long (0 : Int64)) := F14.ext E19
    have Z21 : n0 ≤ hX19.size := Nat.le_trans Z15 E19.1
    have K22 : Keep h0 hX19 [] := K16.ext E19
    have F23 : Arv Z hX19 b19 kx19 .long (0 : Int32) [] (.long (0 : Int64)) := Arv.new A19 (by decide)
    obtain ⟨_, _, ⟨T24, L24, k24, n24⟩, -, X24, ⟨Lc24, hQ24, l24, y24, z24⟩, st24⟩ := Jvm.LawKit.callS X19 hx (y := (⟨"com/example/evenkeel/evenkeel/MachineAllocation", "fits", "([J[J)Z"⟩ : MethodName)) hown (mvT hZ (hw _ (List.mem_of_getElem? (i := 1) rfl))) (mvT hZ (hw _ (List.mem_of_getElem? (i := 2) rfl))) (mvT hZ (hw _ (List.mem_of_getElem? (i := 3) rfl))) (mvT hZ (hw _ (List.mem_of_getElem? (i := 4) rfl))) (by decide) (backOf (W := 0) (rm1 l Z a0 hw [] b1 b19 kx1 kx19 d0 d1 d2 hX19 n0 Z21 F20 F23) hZ (hw _ (List.mem_of_getElem? (i := 4) rfl)) (hw _ (List.mem_of_getElem? (i := 3) rfl)) (by decide) (by decide)) (g := (mkF m 158 #[.val (.long d0), .second, .val (.long d1), .second, .val (.long d2), .second, .val (.long f0), .second, .val (.long f1), .second, .val (.int sh), .val (.int (0 : Int32)), .val (.long v11), .second, .val (.ref b1), .val (.ref b19), .val (.int (1 : Int32)), .unset, .unset] [(.ref b19), (.ref b1)])) rfl (by rw [hml]; rfl) (argsL := [(.ref b1), (.ref b19)]) (rest := []) (lenOf pd_0 rfl) rfl (by show 2 * 0 + _ ≤ _; exact Nat.le_of_eq rfl) (hb hby at_158) (fun _ _ => ⟨rfl, e19, (by decide : 2 + 0 ≤ _), (by decide : 3 + 0 ≤ _)⟩)
    dsimp only [Pt.U, Pt.locs, Pt.cells, Pt.slots] at X24 l24 y24 z24 st24 hQ24
    subst l24 y24 z24
    obtain ⟨rfl, N24q, e24⟩ := hQ24
    have N24 := Fr.app N13 N24q
    obtain ⟨cl25, Ar25, q25, S25, M25, H25, G25⟩ := id F20
    have hin25 : ¬ ((0 : Int32) < 0 ∨ cl25.slots.size ≤ ((0 : Int32)).toNatClampNeg) := inb_of S25 ⟨by decide, by decide⟩
    have hat25 : cl25.slots[((0 : Int32)).toNatClampNeg]? = some (.long d0) := Has.at H25 hin25 rfl
    obtain ⟨cl26, Ar26, q26, S26, M26, H26, G26⟩ := id F20
    have hin26 : ¬ ((1 : Int32) < 0 ∨ cl26.slots.size ≤ ((1 : Int32)).toNatClampNeg) := inb_of S26 ⟨by decide, by decide⟩
    have hat26 : cl26.slots[((1 : Int32)).toNatClampNeg]? = some (.long d1) := Has.at H26 hin26 rfl
    obtain ⟨cl27, Ar27, q27, S27, M27, H27, G27⟩ := id F20
    have hin27 : ¬ ((2 : Int32) < 0 ∨ cl27.slots.size ≤ ((2 : Int32)).toNatClampNeg) := inb_of S27 ⟨by decide, by decide⟩
    have hat27 : cl27.slots[((2 : Int32)).toNatClampNeg]? = some (.long d2) := Has.at H27 hin27 rfl
    obtain ⟨fs, hr, hrun, hended, hW, hsame⟩ := X24.leave (v := some (Value.int (1 : Int32))) (fun h => by rw [Bd.returns] at h; cases h)
    refine ⟨_, _, pre17 _ ?_, hrun, hended, _, _, rfl, ?_, ⟨_, rfl⟩, hW, hsame.mono (by decide) (by decide)⟩
    · skip
      show Steps p.tables e below (T13.setTop (mkF m 31 #[.val (.long d0), .second, .val (.long d1), .second, .val (.long d2), .second, .val (.long f0), .second, .val (.long f1), .second, .val (.int sh), .val (.int (0 : Int32)), .val (.long v11), .second, .val (.ref b1), .unset, .unset, .unset, .unset] [])) _
      refine XS.iload X13.here hx rfl (hb hby at_31) rfl ?_
      show Steps p.tables e below (T13.setTop (mkF m 33 #[.val (.long d0), .second, .val (.long d1), .second, .val (.long d2), .second, .val (.long f0), .second, .val (.long f1), .second, .val (.int sh), .val (.int (0 : Int32)), .val (.long v11), .second, .val (.ref b1), .unset, .unset, .unset, .unset] [(.int (0 : Int32))])) _
      refine XS.ifNo X13.here hx rfl (hb hby at_33) rfl ((if0 _ _).trans (teq rfl).2) ?_
      show Steps p.tables e below (T13.setTop (mkF m 36 #[.val (.long d0), .second, .val (.long d1), .second, .val (.long d2), .second, .val (.long f0), .second, .val (.long f1), .second, .val (.int sh), .val (.int (0 : Int32)), .val (.long v11), .second, .val (.ref b1), .unset, .unset, .unset, .unset] [])) _
      refine XS.iconst X13.here hx rfl (hb hby at_36) ?_
      show Steps p.tables e below (T13.setTop (mkF m 37 #[.val (.long d0), .second, .val (.long d1), .second, .val (.long d2), .second, .val (.long f0), .second, .val (.long f1), .second, .val (.int sh), .val (.int (0 : Int32)), .val (.long v11), .second, .val (.ref b1), .unset, .unset, .unset, .unset] [(.int (0 : Int32))])) _
      refine st19 _ ?_
      show Steps p.tables e below (T19.setTop (mkF m 39 #[.val (.long d0), .second, .val (.long d1), .second, .val (.long d2), .second, .val (.long f0), .second, .val (.long f1), .second, .val (.int sh), .val (.int (0 : Int32)), .val (.long v11), .second, .val (.ref b1), .unset, .unset, .unset, .unset] [(.ref b19)])) _
      refine XS.astore X19.here hx rfl (hb hby at_39) rfl rfl (l' := #[.val (.long d0), .second, .val (.long d1), .second, .val (.long d2), .second, .val (.long f0), .second, .val (.long f1), .second, .val (.int sh), .val (.int (0 : Int32)), .val (.long v11), .second, .val (.ref b1), .val (.ref b19), .unset, .unset, .unset]) rfl ?_
      show Steps p.tables e below (T19.setTop (mkF m 41 #[.val (.long d0), .second, .val (.long d1), .second, .val (.long d2), .second, .val (.long f0), .second, .val (.long f1), .second, .val (.int sh), .val (.int (0 : Int32)), .val (.long v11), .second, .val (.ref b1), .val (.ref b19), .unset, .unset, .unset] [])) _
      refine XS.goto X19.here hx rfl (pc0 := 41) (pc' := 107) rfl (hb hby at_41) (by decide) (by decide) ?_
      show Steps p.tables e below (T19.setTop (mkF m 107 #[.val (.long d0), .second, .val (.long d1), .second, .val (.long d2), .second, .val (.long f0), .second, .val (.long f1), .second, .val (.int sh), .val (.int (0 : Int32)), .val (.long v11), .second, .val (.ref b1), .val (.ref b19), .unset, .unset, .unset] [])) _
      refine XS.iload X19.here hx rfl (hb hby at_107) rfl ?_
      show Steps p.tables e below (T19.setTop (mkF m 109 #[.val (.long d0), .second, .val (.long d1), .second, .val (.long d2), .second, .val (.long f0), .second, .val (.long f1), .second, .val (.int sh), .val (.int (0 : Int32)), .val (.long v11), .second, .val (.ref b1), .val (.ref b19), .unset, .unset, .unset] [(.int (0 : Int32))])) _
      refine XS.iconst X19.here hx rfl (hb hby at_109) ?_
      show Steps p.tables e below (T19.setTop (mkF m 110 #[.val (.long d0), .second, .val (.long d1), .second, .val (.long d2), .second, .val (.long f0), .second, .val (.long f1), .second, .val (.int sh), .val (.int (0 : Int32)), .val (.long v11), .second, .val (.ref b1), .val (.ref b19), .unset, .unset, .unset] [(.int (1 : Int32)), (.int (0 : Int32))])) _
      refine XS.icmpYes X19.here hx rfl (pc0 := 110) (pc' := 120) rfl (hb hby at_110) rfl (tlt (by decide)).1 (by decide) (by decide) ?_
      show Steps p.tables e below (T19.setTop (mkF m 120 #[.val (.long d0), .second, .val (.long d1), .second, .val (.long d2), .second, .val (.long f0), .second, .val (.long f1), .second, .val (.int sh), .val (.int (0 : Int32)), .val (.long v11), .second, .val (.ref b1), .val (.ref b19), .unset, .unset, .unset] [])) _
      refine XS.iload X19.here hx rfl (hb hby at_120) rfl ?_
      show Steps p.tables e below (T19.setTop (mkF m 122 #[.val (.long d0), .second, .val (.long d1), .second, .val (.long d2), .second, .val (.long f0), .second, .val (.long f1), .second, .val (.int sh), .val (.int (0 : Int32)), .val (.long v11), .second, .val (.ref b1), .val (.ref b19), .unset, .unset, .unset] [(.int (0 : Int32))])) _
      refine XS.iconst X19.here hx rfl (hb hby at_122) ?_
      show Steps p.tables e below (T19.setTop (mkF m 123 #[.val (.long d0), .second, .val (.long d1), .second, .val (.long d2), .second, .val (.long f0), .second, .val (.long f1), .second, .val (.int sh), .val (.int (0 : Int32)), .val (.long v11), .second, .val (.ref b1), .val (.ref b19), .unset, .unset, .unset] [(.int (2 : Int32)), (.int (0 : Int32))])) _
      refine XS.icmpYes X19.here hx rfl (pc0 := 123) (pc' := 133) rfl (hb hby at_123) rfl (tlt (by decide)).1 (by decide) (by decide) ?_
      show Steps p.tables e below (T19.setTop (mkF m 133 #[.val (.long d0), .second, .val (.long d1), .second, .val (.long d2), .second, .val (.long f0), .second, .val (.long f1), .second, .val (.int sh), .val (.int (0 : Int32)), .val (.long v11), .second, .val (.ref b1), .val (.ref b19), .unset, .unset, .unset] [])) _
      refine XS.iload X19.here hx rfl (hb hby at_133) rfl ?_
      show Steps p.tables e below (T19.setTop (mkF m 135 #[.val (.long d0), .second, .val (.long d1), .second, .val (.long d2), .second, .val (.long f0), .second, .val (.long f1), .second, .val (.int sh), .val (.int (0 : Int32)), .val (.long v11), .second, .val (.ref b1), .val (.ref b19), .unset, .unset, .unset] [(.int (0 : Int32))])) _
      refine XS.iconst X19.here hx rfl (hb hby at_135) ?_
      show Steps p.tables e below (T19.setTop (mkF m 136 #[.val (.long d0), .second, .val (.long d1), .second, .val (.long d2), .second, .val (.long f0), .second, .val (.long f1), .second, .val (.int sh), .val (.int (0 : Int32)), .val (.long v11), .second, .val (.ref b1), .val (.ref b19), .unset, .unset, .unset] [(.int (3 : Int32)), (.int (0 : Int32))])) _
      refine XS.icmpYes X19.here hx rfl (pc0 := 136) (pc' := 147) rfl (hb hby at_136) rfl (tlt (by decide)).1 (by decide) (by decide) ?_
      show Steps p.tables e below (T19.setTop (mkF m 147 #[.val (.long d0), .second, .val (.long d1), .second, .val (.long d2), .second, .val (.long f0), .second, .val (.long f1), .second, .val (.int sh), .val (.int (0 : Int32)), .val (.long v11), .second, .val (.ref b1), .val (.ref b19), .unset, .unset, .unset] [])) _
      refine XS.iconst X19.here hx rfl (hb hby at_147) ?_
      show Steps p.tables e below (T19.setTop (mkF m 148 #[.val (.long d0), .second, .val (.long d1), .second, .val (.long d2), .second, .val (.long f0), .second, .val (.long f1), .second, .val (.int sh), .val (.int (0 : Int32)), .val (.long v11), .second, .val (.ref b1), .val (.ref b19), .unset, .unset, .unset] [(.int (1 : Int32))])) _
      refine XS.goto X19.here hx rfl (pc0 := 148) (pc' := 152) rfl (hb hby at_148) (by decide) (by decide) ?_
      show Steps p.tables e below (T19.setTop (mkF m 152 #[.val (.long d0), .second, .val (.long d1), .second, .val (.long d2), .second, .val (.long f0), .second, .val (.long f1), .second, .val (.int sh), .val (.int (0 : Int32)), .val (.long v11), .second, .val (.ref b1), .val (.ref b19), .unset, .unset, .unset] [(.int (1 : Int32))])) _
      refine XS.istore X19.here hx rfl (hb hby at_152) rfl (l' := #[.val (.long d0), .second, .val (.long d1), .second, .val (.long d2), .second, .val (.long f0), .second, .val (.long f1), .second, .val (.int sh), .val (.int (0 : Int32)), .val (.long v11), .second, .val (.ref b1), .val (.ref b19), .val (.int (1 : Int32)), .unset, .unset]) rfl ?_
      show Steps p.tables e below (T19.setTop (mkF m 154 #[.val (.long d0), .second, .val (.long d1), .second, .val (.long d2), .second, .val (.long f0), .second, .val (.long f1), .second, .val (.int sh), .val (.int (0 : Int32)), .val (.long v11), .second, .val (.ref b1), .val (.ref b19), .val (.int (1 : Int32)), .unset, .unset] [])) _
      refine XS.aload X19.here hx rfl (hb hby at_154) rfl rfl ?_
      show Steps p.tables e below (T19.setTop (mkF m 156 #[.val (.long d0), .second, .val (.long d1), .second, .val (.long d2), .second, .val (.long f0), .second, .val (.long f1), .second, .val (.int sh), .val (.int (0 : Int32)), .val (.long v11), .second, .val (.ref b1), .val (.ref b19), .val (.int (1 : Int32)), .unset, .unset] [(.ref b1)])) _
      refine XS.aload X19.here hx rfl (hb hby at_156) rfl rfl ?_
      show Steps p.tables e below (T19.setTop (mkF m 158 #[.val (.long d0), .second, .val (.long d1), .second, .val (.long d2), .second, .val (.long f0), .second, .val (.long f1), .second, .val (.int sh), .val (.int (0 : Int32)), .val (.long v11), .second, .val (.ref b1), .val (.ref b19), .val (.int (1 : Int32)), .unset, .unset] [(.ref b19), (.ref b1)])) _
      refine st24 _ ?_
      show Steps p.tables e below (T24.setTop (mkF m 161 #[.val (.long d0), .second, .val (.long d1), .second, .val (.long d2), .second, .val (.long f0), .second, .val (.long f1), .second, .val (.int sh), .val (.int (0 : Int32)), .val (.long v11), .second, .val (.ref b1), .val (.ref b19), .val (.int (1 : Int32)), .unset, .unset] [(.int (1 : Int32))])) _
      refine XS.istore X24.here hx rfl (hb hby at_161) rfl (l' := #[.val (.long d0), .second, .val (.long d1), .second, .val (.long d2), .second, .val (.long f0), .second, .val (.long f1), .second, .val (.int sh), .val (.int (0 : Int32)), .val (.long v11), .second, .val (.ref b1), .val (.ref b19), .val (.int (1 : Int32)), .val (.int (1 : Int32)), .unset]) rfl ?_
      show Steps p.tables e below (T24.setTop (mkF m 163 #[.val (.long d0), .second, .val (.long d1), .second, .val (.long d2), .second, .val (.long f0), .second, .val (.long f1), .second, .val (.int sh), .val (.int (0 : Int32)), .val (.long v11), .second, .val (.ref b1), .val (.ref b19), .val (.int (1 : Int32)), .val (.int (1 : Int32)), .unset] [])) _
      refine XS.aload X24.here hx rfl (hb hby at_163) rfl rfl ?_
      show Steps p.tables e below (T24.setTop (mkF m 165 #[.val (.long d0), .second, .val (.long d1), .second, .val (.long d2), .second, .val (.long f0), .second, .val (.long f1), .second, .val (.int sh), .val (.int (0 : Int32)), .val (.long v11), .second, .val (.ref b1), .val (.ref b19), .val (.int (1 : Int32)), .val (.int (1 : Int32)), .unset] [(.ref b1)])) _
      refine XS.iconst X24.here hx rfl (hb hby at_165) ?_
      show Steps p.tables e below (T24.setTop (mkF m 166 #[.val (.long d0), .second, .val (.long d1), .second, .val (.long d2), .second, .val (.long f0), .second, .val (.long f1), .second, .val (.int sh), .val (.int (0 : Int32)), .val (.long v11), .second, .val (.ref b1), .val (.ref b19), .val (.int (1 : Int32)), .val (.int (1 : Int32)), .unset] [(.int (0 : Int32)), (.ref b1)])) _
      refine X24.laload hx (j := (0 : Int32)) (v := (.long d0)) (heq_of e24 Ar25.1) (State.isArrayOf_alike hZ.alike Ar25.2.1) Ar25.2.2 hin25 hat25 (g := (mkF m 166 #[.val (.long d0), .second, .val (.long d1), .second, .val (.long d2), .second, .val (.long f0), .second, .val (.long f1), .second, .val (.int sh), .val (.int (0 : Int32)), .val (.long v11), .second, .val (.ref b1), .val (.ref b19), .val (.int (1 : Int32)), .val (.int (1 : Int32)), .unset] [(.int (0 : Int32)), (.ref b1)])) rfl rfl (hb hby at_166) _ ?_
      show Steps p.tables e below (T24.setTop (mkF m 167 #[.val (.long d0), .second, .val (.long d1), .second, .val (.long d2), .second, .val (.long f0), .second, .val (.long f1), .second, .val (.int sh), .val (.int (0 : Int32)), .val (.long v11), .second, .val (.ref b1), .val (.ref b19), .val (.int (1 : Int32)), .val (.int (1 : Int32)), .unset] [(.long d0)])) _
      refine XS.lloadN X24.here hx rfl (hb hby at_167) rfl ?_
      show Steps p.tables e below (T24.setTop (mkF m 168 #[.val (.long d0), .second, .val (.long d1), .second, .val (.long d2), .second, .val (.long f0), .second, .val (.long f1), .second, .val (.int sh), .val (.int (0 : Int32)), .val (.long v11), .second, .val (.ref b1), .val (.ref b19), .val (.int (1 : Int32)), .val (.int (1 : Int32)), .unset] [(.long d0), (.long d0)])) _
      refine XS.lcmp X24.here hx rfl (hb hby at_168) rfl ?_
      show Steps p.tables e below (T24.setTop (mkF m 169 #[.val (.long d0), .second, .val (.long d1), .second, .val (.long d2), .second, .val (.long f0), .second, .val (.long f1), .second, .val (.int sh), .val (.int (0 : Int32)), .val (.long v11), .second, .val (.ref b1), .val (.ref b19), .val (.int (1 : Int32)), .val (.int (1 : Int32)), .unset] [(.int (lcmpW d0 d0))])) _
      refine XS.ifNo X24.here hx rfl (hb hby at_169) rfl ((if0 _ _).trans (teq ((lw_eq d0 d0).2 rfl)).2) ?_
      show Steps p.tables e below (T24.setTop (mkF m 172 #[.val (.long d0), .second, .val (.long d1), .second, .val (.long d2), .second, .val (.long f0), .second, .val (.long f1), .second, .val (.int sh), .val (.int (0 : Int32)), .val (.long v11), .second, .val (.ref b1), .val (.ref b19), .val (.int (1 : Int32)), .val (.int (1 : Int32)), .unset] [])) _
      refine XS.aload X24.here hx rfl (hb hby at_172) rfl rfl ?_
      show Steps p.tables e below (T24.setTop (mkF m 174 #[.val (.long d0), .second, .val (.long d1), .second, .val (.long d2), .second, .val (.long f0), .second, .val (.long f1), .second, .val (.int sh), .val (.int (0 : Int32)), .val (.long v11), .second, .val (.ref b1), .val (.ref b19), .val (.int (1 : Int32)), .val (.int (1 : Int32)), .unset] [(.ref b1)])) _
      refine XS.iconst X24.here hx rfl (hb hby at_174) ?_
      show Steps p.tables e below (T24.setTop (mkF m 175 #[.val (.long d0), .second, .val (.long d1), .second, .val (.long d2), .second, .val (.long f0), .second, .val (.long f1), .second, .val (.int sh), .val (.int (0 : Int32)), .val (.long v11), .second, .val (.ref b1), .val (.ref b19), .val (.int (1 : Int32)), .val (.int (1 : Int32)), .unset] [(.int (1 : Int32)), (.ref b1)])) _
      refine X24.laload hx (j := (1 : Int32)) (v := (.long d1)) (heq_of e24 Ar26.1) (State.isArrayOf_alike hZ.alike Ar26.2.1) Ar26.2.2 hin26 hat26 (g := (mkF m 175 #[.val (.long d0), .second, .val (.long d1), .second, .val (.long d2), .second, .val (.long f0), .second, .val (.long f1), .second, .val (.int sh), .val (.int (0 : Int32)), .val (.long v11), .second, .val (.ref b1), .val (.ref b19), .val (.int (1 : Int32)), .val (.int (1 : Int32)), .unset] [(.int (1 : Int32)), (.ref b1)])) rfl rfl (hb hby at_175) _ ?_
      show Steps p.tables e below (T24.setTop (mkF m 176 #[.val (.long d0), .second, .val (.long d1), .second, .val (.long d2), .second, .val (.long f0), .second, .val (.long f1), .second, .val (.int sh), .val (.int (0 : Int32)), .val (.long v11), .second, .val (.ref b1), .val (.ref b19), .val (.int (1 : Int32)), .val (.int (1 : Int32)), .unset] [(.long d1)])) _
      refine XS.lloadN X24.here hx rfl (hb hby at_176) rfl ?_
      show Steps p.tables e below (T24.setTop (mkF m 177 #[.val (.long d0), .second, .val (.long d1), .second, .val (.long d2), .second, .val (.long f0), .second, .val (.long f1), .second, .val (.int sh), .val (.int (0 : Int32)), .val (.long v11), .second, .val (.ref b1), .val (.ref b19), .val (.int (1 : Int32)), .val (.int (1 : Int32)), .unset] [(.long d1), (.long d1)])) _
      refine XS.lcmp X24.here hx rfl (hb hby at_177) rfl ?_
      show Steps p.tables e below (T24.setTop (mkF m 178 #[.val (.long d0), .second, .val (.long d1), .second, .val (.long d2), .second, .val (.long f0), .second, .val (.long f1), .second, .val (.int sh), .val (.int (0 : Int32)), .val (.long v11), .second, .val (.ref b1), .val (.ref b19), .val (.int (1 : Int32)), .val (.int (1 : Int32)), .unset] [(.int (lcmpW d1 d1))])) _
      refine XS.ifNo X24.here hx rfl (hb hby at_178) rfl ((if0 _ _).trans (teq ((lw_eq d1 d1).2 rfl)).2) ?_
      show Steps p.tables e below (T24.setTop (mkF m 181 #[.val (.long d0), .second, .val (.long d1), .second, .val (.long d2), .second, .val (.long f0), .second, .val (.long f1), .second, .val (.int sh), .val (.int (0 : Int32)), .val (.long v11), .second, .val (.ref b1), .val (.ref b19), .val (.int (1 : Int32)), .val (.int (1 : Int32)), .unset] [])) _
      refine XS.aload X24.here hx rfl (hb hby at_181) rfl rfl ?_
      show Steps p.tables e below (T24.setTop (mkF m 183 #[.val (.long d0), .second, .val (.long d1), .second, .val (.long d2), .second, .val (.long f0), .second, .val (.long f1), .second, .val (.int sh), .val (.int (0 : Int32)), .val (.long v11), .second, .val (.ref b1), .val (.ref b19), .val (.int (1 : Int32)), .val (.int (1 : Int32)), .unset] [(.ref b1)])) _
      refine XS.iconst X24.here hx rfl (hb hby at_183) ?_
      show Steps p.tables e below (T24.setTop (mkF m 184 #[.val (.long d0), .second, .val (.long d1), .second, .val (.long d2), .second, .val (.long f0), .second, .val (.long f1), .second, .val (.int sh), .val (.int (0 : Int32)), .val (.long v11), .second, .val (.ref b1), .val (.ref b19), .val (.int (1 : Int32)), .val (.int (1 : Int32)), .unset] [(.int (2 : Int32)), (.ref b1)])) _
      refine X24.laload hx (j := (2 : Int32)) (v := (.long d2)) (heq_of e24 Ar27.1) (State.isArrayOf_alike hZ.alike Ar27.2.1) Ar27.2.2 hin27 hat27 (g := (mkF m 184 #[.val (.long d0), .second, .val (.long d1), .second, .val (.long d2), .second, .val (.long f0), .second, .val (.long f1), .second, .val (.int sh), .val (.int (0 : Int32)), .val (.long v11), .second, .val (.ref b1), .val (.ref b19), .val (.int (1 : Int32)), .val (.int (1 : Int32)), .unset] [(.int (2 : Int32)), (.ref b1)])) rfl rfl (hb hby at_184) _ ?_
      show Steps p.tables e below (T24.setTop (mkF m 185 #[.val (.long d0), .second, .val (.long d1), .second, .val (.long d2), .second, .val (.long f0), .second, .val (.long f1), .second, .val (.int sh), .val (.int (0 : Int32)), .val (.long v11), .second, .val (.ref b1), .val (.ref b19), .val (.int (1 : Int32)), .val (.int (1 : Int32)), .unset] [(.long d2)])) _
      refine XS.lload X24.here hx rfl (hb hby at_185) rfl ?_
      show Steps p.tables e below (T24.setTop (mkF m 187 #[.val (.long d0), .second, .val (.long d1), .second, .val (.long d2), .second, .val (.long f0), .second, .val (.long f1), .second, .val (.int sh), .val (.int (0 : Int32)), .val (.long v11), .second, .val (.ref b1), .val (.ref b19), .val (.int (1 : Int32)), .val (.int (1 : Int32)), .unset] [(.long d2), (.long d2)])) _
      refine XS.lcmp X24.here hx rfl (hb hby at_187) rfl ?_
      show Steps p.tables e below (T24.setTop (mkF m 188 #[.val (.long d0), .second, .val (.long d1), .second, .val (.long d2), .second, .val (.long f0), .second, .val (.long f1), .second, .val (.int sh), .val (.int (0 : Int32)), .val (.long v11), .second, .val (.ref b1), .val (.ref b19), .val (.int (1 : Int32)), .val (.int (1 : Int32)), .unset] [(.int (lcmpW d2 d2))])) _
      refine XS.ifNo X24.here hx rfl (hb hby at_188) rfl ((if0 _ _).trans (teq ((lw_eq d2 d2).2 rfl)).2) ?_
      show Steps p.tables e below (T24.setTop (mkF m 191 #[.val (.long d0), .second, .val (.long d1), .second, .val (.long d2), .second, .val (.long f0), .second, .val (.long f1), .second, .val (.int sh), .val (.int (0 : Int32)), .val (.long v11), .second, .val (.ref b1), .val (.ref b19), .val (.int (1 : Int32)), .val (.int (1 : Int32)), .unset] [])) _
      refine XS.iload X24.here hx rfl (hb hby at_191) rfl ?_
      show Steps p.tables e below (T24.setTop (mkF m 193 #[.val (.long d0), .second, .val (.long d1), .second, .val (.long d2), .second, .val (.long f0), .second, .val (.long f1), .second, .val (.int sh), .val (.int (0 : Int32)), .val (.long v11), .second, .val (.ref b1), .val (.ref b19), .val (.int (1 : Int32)), .val (.int (1 : Int32)), .unset] [(.int (0 : Int32))])) _
      refine XS.iconst X24.here hx rfl (hb hby at_193) ?_
      show Steps p.tables e below (T24.setTop (mkF m 194 #[.val (.long d0), .second, .val (.long d1), .second, .val (.long d2), .second, .val (.long f0), .second, .val (.long f1), .second, .val (.int sh), .val (.int (0 : Int32)), .val (.long v11), .second, .val (.ref b1), .val (.ref b19), .val (.int (1 : Int32)), .val (.int (1 : Int32)), .unset] [(.int (1 : Int32)), (.int (0 : Int32))])) _
      refine XS.icmpYes X24.here hx rfl (pc0 := 194) (pc' := 207) rfl (hb hby at_194) rfl (tlt (by decide)).1 (by decide) (by decide) ?_
      show Steps p.tables e below (T24.setTop (mkF m 207 #[.val (.long d0), .second, .val (.long d1), .second, .val (.long d2), .second, .val (.long f0), .second, .val (.long f1), .second, .val (.int sh), .val (.int (0 : Int32)), .val (.long v11), .second, .val (.ref b1), .val (.ref b19), .val (.int (1 : Int32)), .val (.int (1 : Int32)), .unset] [])) _
      refine XS.iload X24.here hx rfl (hb hby at_207) rfl ?_
      show Steps p.tables e below (T24.setTop (mkF m 209 #[.val (.long d0), .second, .val (.long d1), .second, .val (.long d2), .second, .val (.long f0), .second, .val (.long f1), .second, .val (.int sh), .val (.int (0 : Int32)), .val (.long v11), .second, .val (.ref b1), .val (.ref b19), .val (.int (1 : Int32)), .val (.int (1 : Int32)), .unset] [(.int (0 : Int32))])) _
      refine XS.iconst X24.here hx rfl (hb hby at_209) ?_
      show Steps p.tables e below (T24.setTop (mkF m 210 #[.val (.long d0), .second, .val (.long d1), .second, .val (.long d2), .second, .val (.long f0), .second, .val (.long f1), .second, .val (.int sh), .val (.int (0 : Int32)), .val (.long v11), .second, .val (.ref b1), .val (.ref b19), .val (.int (1 : Int32)), .val (.int (1 : Int32)), .unset] [(.int (2 : Int32)), (.int (0 : Int32))])) _
      refine XS.icmpYes X24.here hx rfl (pc0 := 210) (pc' := 223) rfl (hb hby at_210) rfl (tlt (by decide)).1 (by decide) (by decide) ?_
      show Steps p.tables e below (T24.setTop (mkF m 223 #[.val (.long d0), .second, .val (.long d1), .second, .val (.long d2), .second, .val (.long f0), .second, .val (.long f1), .second, .val (.int sh), .val (.int (0 : Int32)), .val (.long v11), .second, .val (.ref b1), .val (.ref b19), .val (.int (1 : Int32)), .val (.int (1 : Int32)), .unset] [])) _
      refine XS.iload X24.here hx rfl (hb hby at_223) rfl ?_
      show Steps p.tables e below (T24.setTop (mkF m 225 #[.val (.long d0), .second, .val (.long d1), .second, .val (.long d2), .second, .val (.long f0), .second, .val (.long f1), .second, .val (.int sh), .val (.int (0 : Int32)), .val (.long v11), .second, .val (.ref b1), .val (.ref b19), .val (.int (1 : Int32)), .val (.int (1 : Int32)), .unset] [(.int (0 : Int32))])) _
      refine XS.iconst X24.here hx rfl (hb hby at_225) ?_
      show Steps p.tables e below (T24.setTop (mkF m 226 #[.val (.long d0), .second, .val (.long d1), .second, .val (.long d2), .second, .val (.long f0), .second, .val (.long f1), .second, .val (.int sh), .val (.int (0 : Int32)), .val (.long v11), .second, .val (.ref b1), .val (.ref b19), .val (.int (1 : Int32)), .val (.int (1 : Int32)), .unset] [(.int (3 : Int32)), (.int (0 : Int32))])) _
      refine XS.icmpYes X24.here hx rfl (pc0 := 226) (pc' := 239) rfl (hb hby at_226) rfl (tlt (by decide)).1 (by decide) (by decide) ?_
      show Steps p.tables e below (T24.setTop (mkF m 239 #[.val (.long d0), .second, .val (.long d1), .second, .val (.long d2), .second, .val (.long f0), .second, .val (.long f1), .second, .val (.int sh), .val (.int (0 : Int32)), .val (.long v11), .second, .val (.ref b1), .val (.ref b19), .val (.int (1 : Int32)), .val (.int (1 : Int32)), .unset] [])) _
      refine XS.iconst X24.here hx rfl (hb hby at_239) ?_
      show Steps p.tables e below (T24.setTop (mkF m 240 #[.val (.long d0), .second, .val (.long d1), .second, .val (.long d2), .second, .val (.long f0), .second, .val (.long f1), .second, .val (.int sh), .val (.int (0 : Int32)), .val (.long v11), .second, .val (.ref b1), .val (.ref b19), .val (.int (1 : Int32)), .val (.int (1 : Int32)), .unset] [(.int (1 : Int32))])) _
      refine XS.goto X24.here hx rfl (pc0 := 240) (pc' := 244) rfl (hb hby at_240) (by decide) (by decide) ?_
      show Steps p.tables e below (T24.setTop (mkF m 244 #[.val (.long d0), .second, .val (.long d1), .second, .val (.long d2), .second, .val (.long f0), .second, .val (.long f1), .second, .val (.int sh), .val (.int (0 : Int32)), .val (.long v11), .second, .val (.ref b1), .val (.ref b19), .val (.int (1 : Int32)), .val (.int (1 : Int32)), .unset] [(.int (1 : Int32))])) _
      refine XS.istore X24.here hx rfl (hb hby at_244) rfl (l' := #[.val (.long d0), .second, .val (.long d1), .second, .val (.long d2), .second, .val (.long f0), .second, .val (.long f1), .second, .val (.int sh), .val (.int (0 : Int32)), .val (.long v11), .second, .val (.ref b1), .val (.ref b19), .val (.int (1 : Int32)), .val (.int (1 : Int32)), .val (.int (1 : Int32))]) rfl ?_
      show Steps p.tables e below (T24.setTop (mkF m 246 #[.val (.long d0), .second, .val (.long d1), .second, .val (.long d2), .second, .val (.long f0), .second, .val (.long f1), .second, .val (.int sh), .val (.int (0 : Int32)), .val (.long v11), .second, .val (.ref b1), .val (.ref b19), .val (.int (1 : Int32)), .val (.int (1 : Int32)), .val (.int (1 : Int32))] [])) _
      refine XS.iload X24.here hx rfl (hb hby at_246) rfl ?_
      show Steps p.tables e below (T24.setTop (mkF m 248 #[.val (.long d0), .second, .val (.long d1), .second, .val (.long d2), .second, .val (.long f0), .second, .val (.long f1), .second, .val (.int sh), .val (.int (0 : Int32)), .val (.long v11), .second, .val (.ref b1), .val (.ref b19), .val (.int (1 : Int32)), .val (.int (1 : Int32)), .val (.int (1 : Int32))] [(.int (1 : Int32))])) _
      refine XS.iload X24.here hx rfl (hb hby at_248) rfl ?_
      show Steps p.tables e below (T24.setTop (mkF m 250 #[.val (.long d0), .second, .val (.long d1), .second, .val (.long d2), .second, .val (.long f0), .second, .val (.long f1), .second, .val (.int sh), .val (.int (0 : Int32)), .val (.long v11), .second, .val (.ref b1), .val (.ref b19), .val (.int (1 : Int32)), .val (.int (1 : Int32)), .val (.int (1 : Int32))] [(.int (1 : Int32)), (.int (1 : Int32))])) _
      refine XS.icmpNo X24.here hx rfl (hb hby at_250) rfl (teq rfl).2 ?_
      show Steps p.tables e below (T24.setTop (mkF m 253 #[.val (.long d0), .second, .val (.long d1), .second, .val (.long d2), .second, .val (.long f0), .second, .val (.long f1), .second, .val (.int sh), .val (.int (0 : Int32)), .val (.long v11), .second, .val (.ref b1), .val (.ref b19), .val (.int (1 : Int32)), .val (.int (1 : Int32)), .val (.int (1 : Int32))] [])) _
      refine XS.iload X24.here hx rfl (hb hby at_253) rfl ?_
      show Steps p.tables e below (T24.setTop (mkF m 255 #[.val (.long d0), .second, .val (.long d1), .second, .val (.long d2), .second, .val (.long f0), .second, .val (.long f1), .second, .val (.int sh), .val (.int (0 : Int32)), .val (.long v11), .second, .val (.ref b1), .val (.ref b19), .val (.int (1 : Int32)), .val (.int (1 : Int32)), .val (.int (1 : Int32))] [(.int (1 : Int32))])) _
      refine XS.ifNo X24.here hx rfl (hb hby at_255) rfl ((if0 _ _).trans (feq (by decide)).1) ?_
      show Steps p.tables e below (T24.setTop (mkF m 258 #[.val (.long d0), .second, .val (.long d1), .second, .val (.long d2), .second, .val (.long f0), .second, .val (.long f1), .second, .val (.int sh), .val (.int (0 : Int32)), .val (.long v11), .second, .val (.ref b1), .val (.ref b19), .val (.int (1 : Int32)), .val (.int (1 : Int32)), .val (.int (1 : Int32))] [])) _
      refine XS.iconst X24.here hx rfl (hb hby at_258) ?_
      show Steps p.tables e below (T24.setTop (mkF m 259 #[.val (.long d0), .second, .val (.long d1), .second, .val (.long d2), .second, .val (.long f0), .second, .val (.long f1), .second, .val (.int sh), .val (.int (0 : Int32)), .val (.long v11), .second, .val (.ref b1), .val (.ref b19), .val (.int (1 : Int32)), .val (.int (1 : Int32)), .val (.int (1 : Int32))] [(.int (1 : Int32))])) _
      refine XS.goto X24.here hx rfl (pc0 := 259) (pc' := 263) rfl (hb hby at_259) (by decide) (by decide) ?_
      show Steps p.tables e below (T24.setTop (mkF m 263 #[.val (.long d0), .second, .val (.long d1), .second, .val (.long d2), .second, .val (.long f0), .second, .val (.long f1), .second, .val (.int sh), .val (.int (0 : Int32)), .val (.long v11), .second, .val (.ref b1), .val (.ref b19), .val (.int (1 : Int32)), .val (.int (1 : Int32)), .val (.int (1 : Int32))] [(.int (1 : Int32))])) _
      exact retN X24 hx (t := .boolean) Bd.returns (by simp) (hb hby at_263) hr
    · show Q0 Z d0 d1 d2 f0 f1 sh h0 n0 _ T24.heap _
      rw [e24]
      exact ⟨rfl, N24⟩
  · subst hs18
    obtain ⟨T28, hX28, kx28, X28, e28, E28, A28, st28⟩ := newP X13 hx hZ (hw _ (List.mem_of_getElem? (i := 0) rfl)) e13 (g := (mkF m 51 #[.val (.long d0), .second, .val (.long d1), .second, .val (.long d2), .second, .val (.long f0), .second, .val (.long f1), .second, .val (.int sh), .val (.int (1 : Int32)), .val (.long v11), .second, .val (.ref b1), .unset, .unset, .unset, .unset] [(.int (1 : Int32))])) rfl (hb hby at_51) rfl (by decide) (cap := 1) (by decide) (by decide) (by decide) (by decide)
    obtain ⟨b28, g28⟩ : ∃ z_q, z_q = hX13.size := ⟨_, rfl⟩
    rw [← g28] at A28 st28
    have g_b28 : n0 ≤ b28 := Nat.le_trans Z15 (Nat.le_of_eq g28.symm)
    have sz_b28 : h0.size ≤ b28 := Nat.le_trans K16.1 (Nat.le_of_eq g28.symm)
    have ne_b1_b28 : b1 ≠ b28 := Nat.ne_of_lt (Nat.lt_of_lt_of_le F14.lt (Nat.le_of_eq g28.symm))
    have F29 : Arv Z hX28 b1 kx1 .long (3 : Int32) [(.long d0), (.long d1), (.long d2)] (.long (0 : Int64)) := F14.ext E28
    have Z30 : n0 ≤ hX28.size := Nat.le_trans Z15 E28.1
    have K31 : Keep h0 hX28 [] := K16.ext E28
    have F32 : Arv Z hX28 b28 kx28 .long (1 : Int32) [(.long (0 : Int64))] (.long (0 : Int64)) := (Arv.new A28 (by decide)).pad (pad_rep [] (.long (0 : Int64)) 1)
    obtain ⟨cl33, Ar33, q33, S33, M33, H33, G33⟩ := id F32
    have hin33 : ¬ ((0 : Int32) < 0 ∨ cl33.slots.size ≤ ((0 : Int32)).toNatClampNeg) := inb_of S33 ⟨by decide, by decide⟩
    obtain ⟨T33, hX33, X33, e33, W33, st33⟩ := stJ X28 hx hZ e28 Ar33 (j := (0 : Int32)) hin33 (g := (mkF m 57 #[.val (.long d0), .second, .val (.long d1), .second, .val (.long d2), .second, .val (.long f0), .second, .val (.long f1), .second, .val (.int sh), .val (.int (1 : Int32)), .val (.long v11), .second, .val (.ref b1), .unset, .unset, .unset, .unset] [(.long f0), (.int (0 : Int32)), (.ref b28), (.ref b28)])) rfl rfl (hb hby at_57)
    have F34 : Arv Z hX33 b28 kx28 .long (1 : Int32) [(.long f0)] (.long (0 : Int64)) := Arv.set Ar33 q33 S33 M33 H33 G33 rfl W33 0 rfl (Nat.le_of_ble_eq_true rfl)
    have N33 := Fr.snoc X33 N13 g_b28
    have F35 : Arv Z hX33 b1 kx1 .long (3 : Int32) [(.long d0), (.long d1), (.long d2)] (.long (0 : Int64)) := F29.other W33 ne_b1_b28
    have Z36 : n0 ≤ hX33.size := Nat.le_trans Z30 (Keep.of_wr W33).1
    have K37 : Keep h0 hX33 [] := K31.wr W33 (Or.inr sz_b28)
    obtain ⟨m152, hm152⟩ : ∃ z_q : Int32, z_q = (if f0 < d0 then (0 : Int32) else (1 : Int32)) := ⟨_, rfl⟩
    have pre39 : ∀ tq, Steps p.tables e below (T33.setTop (mkF m 152 #[.val (.long d0), .second, .val (.long d1), .second, .val (.long d2), .second, .val (.long f0), .second, .val (.long f1), .second, .val (.int sh), .val (.int (1 : Int32)), .val (.long v11), .second, .val (.ref b1), .val (.ref b28), .unset, .unset, .unset] [(.int m152)])) tq → Steps p.tables e below (s₁.setTop (entryFrame m #[(.long d0), (.long d1), (.long d2), (.long f0), (.long f1), (.int sh)] maxLocals)) tq := by
      intro tq kt
      refine pre17 _ ?_
      show Steps p.tables e below (T13.setTop (mkF m 31 #[.val (.long d0), .second, .val (.long d1), .second, .val (.long d2), .second, .val (.long f0), .second, .val (.long f1), .second, .val (.int sh), .val (.int (1 : Int32)), .val (.long v11), .second, .val (.ref b1), .unset, .unset, .unset, .unset] [])) _
      refine XS.iload X13.here hx rfl (hb hby at_31) rfl ?_
      show Steps p.tables e below (T13.setTop (mkF m 33 #[.val (.long d0), .second, .val (.long d1), .second, .val (.long d2), .second, .val (.long f0), .second, .val (.long f1), .second, .val (.int sh), .val (.int (1 : Int32)), .val (.long v11), .second, .val (.ref b1), .unset, .unset, .unset, .unset] [(.int (1 : Int32))])) _
      refine XS.ifYes X13.here hx rfl (pc0 := 33) (pc' := 44) rfl (hb hby at_33) rfl ((if0 _ _).trans (feq (by decide)).2) (by decide) (by decide) ?_
      show Steps p.tables e below (T13.setTop (mkF m 44 #[.val (.long d0), .second, .val (.long d1), .second, .val (.long d2), .second, .val (.long f0), .second, .val (.long f1), .second, .val (.int sh), .val (.int (1 : Int32)), .val (.long v11), .second, .val (.ref b1), .unset, .unset, .unset, .unset] [])) _
      refine XS.iload X13.here hx rfl (hb hby at_44) rfl ?_
      show Steps p.tables e below (T13.setTop (mkF m 46 #[.val (.long d0), .second, .val (.long d1), .second, .val (.long d2), .second, .val (.long f0), .second, .val (.long f1), .second, .val (.int sh), .val (.int (1 : Int32)), .val (.long v11), .second, .val (.ref b1), .unset, .unset, .unset, .unset] [(.int (1 : Int32))])) _
      refine XS.iconst X13.here hx rfl (hb hby at_46) ?_
      show Steps p.tables e below (T13.setTop (mkF m 47 #[.val (.long d0), .second, .val (.long d1), .second, .val (.long d2), .second, .val (.long f0), .second, .val (.long f1), .second, .val (.int sh), .val (.int (1 : Int32)), .val (.long v11), .second, .val (.ref b1), .unset, .unset, .unset, .unset] [(.int (1 : Int32)), (.int (1 : Int32))])) _
      refine XS.icmpNo X13.here hx rfl (hb hby at_47) rfl (teq rfl).2 ?_
      show Steps p.tables e below (T13.setTop (mkF m 50 #[.val (.long d0), .second, .val (.long d1), .second, .val (.long d2), .second, .val (.long f0), .second, .val (.long f1), .second, .val (.int sh), .val (.int (1 : Int32)), .val (.long v11), .second, .val (.ref b1), .unset, .unset, .unset, .unset] [])) _
      refine XS.iconst X13.here hx rfl (hb hby at_50) ?_
      show Steps p.tables e below (T13.setTop (mkF m 51 #[.val (.long d0), .second, .val (.long d1), .second, .val (.long d2), .second, .val (.long f0), .second, .val (.long f1), .second, .val (.int sh), .val (.int (1 : Int32)), .val (.long v11), .second, .val (.ref b1), .unset, .unset, .unset, .unset] [(.int (1 : Int32))])) _
      refine st28 _ ?_
      show Steps p.tables e below (T28.setTop (mkF m 53 #[.val (.long d0), .second, .val (.long d1), .second, .val (.long d2), .second, .val (.long f0), .second, .val (.long f1), .second, .val (.int sh), .val (.int (1 : Int32)), .val (.long v11), .second, .val (.ref b1), .unset, .unset, .unset, .unset] [(.ref b28)])) _
      refine XS.dup X28.here hx rfl (hb hby at_53) rfl rfl ?_
      show Steps p.tables e below (T28.setTop (mkF m 54 #[.val (.long d0), .second, .val (.long d1), .second, .val (.long d2), .second, .val (.long f0), .second, .val (.long f1), .second, .val (.int sh), .val (.int (1 : Int32)), .val (.long v11), .second, .val (.ref b1), .unset, .unset, .unset, .unset] [(.ref b28), (.ref b28)])) _
      refine XS.iconst X28.here hx rfl (hb hby at_54) ?_
      show Steps p.tables e below (T28.setTop (mkF m 55 #[.val (.long d0), .second, .val (.long d1), .second, .val (.long d2), .second, .val (.long f0), .second, .val (.long f1), .second, .val (.int sh), .val (.int (1 : Int32)), .val (.long v11), .second, .val (.ref b1), .unset, .unset, .unset, .unset] [(.int (0 : Int32)), (.ref b28), (.ref b28)])) _
      refine XS.lload X28.here hx rfl (hb hby at_55) rfl ?_
      show Steps p.tables e below (T28.setTop (mkF m 57 #[.val (.long d0), .second, .val (.long d1), .second, .val (.long d2), .second, .val (.long f0), .second, .val (.long f1), .second, .val (.int sh), .val (.int (1 : Int32)), .val (.long v11), .second, .val (.ref b1), .unset, .unset, .unset, .unset] [(.long f0), (.int (0 : Int32)), (.ref b28), (.ref b28)])) _
      refine st33 _ ?_
      show Steps p.tables e below (T33.setTop (mkF m 58 #[.val (.long d0), .second, .val (.long d1), .second, .val (.long d2), .second, .val (.long f0), .second, .val (.long f1), .second, .val (.int sh), .val (.int (1 : Int32)), .val (.long v11), .second, .val (.ref b1), .unset, .unset, .unset, .unset] [(.ref b28)])) _
      refine XS.astore X33.here hx rfl (hb hby at_58) rfl rfl (l' := #[.val (.long d0), .second, .val (.long d1), .second, .val (.long d2), .second, .val (.long f0), .second, .val (.long f1), .second, .val (.int sh), .val (.int (1 : Int32)), .val (.long v11), .second, .val (.ref b1), .val (.ref b28), .unset, .unset, .unset]) rfl ?_
      show Steps p.tables e below (T33.setTop (mkF m 60 #[.val (.long d0), .second, .val (.long d1), .second, .val (.long d2), .second, .val (.long f0), .second, .val (.long f1), .second, .val (.int sh), .val (.int (1 : Int32)), .val (.long v11), .second, .val (.ref b1), .val (.ref b28), .unset, .unset, .unset] [])) _
      refine XS.goto X33.here hx rfl (pc0 := 60) (pc' := 107) rfl (hb hby at_60) (by decide) (by decide) ?_
      show Steps p.tables e below (T33.setTop (mkF m 107 #[.val (.long d0), .second, .val (.long d1), .second, .val (.long d2), .second, .val (.long f0), .second, .val (.long f1), .second, .val (.int sh), .val (.int (1 : Int32)), .val (.long v11), .second, .val (.ref b1), .val (.ref b28), .unset, .unset, .unset] [])) _
      refine XS.iload X33.here hx rfl (hb hby at_107) rfl ?_
      show Steps p.tables e below (T33.setTop (mkF m 109 #[.val (.long d0), .second, .val (.long d1), .second, .val (.long d2), .second, .val (.long f0), .second, .val (.long f1), .second, .val (.int sh), .val (.int (1 : Int32)), .val (.long v11), .second, .val (.ref b1), .val (.ref b28), .unset, .unset, .unset] [(.int (1 : Int32))])) _
      refine XS.iconst X33.here hx rfl (hb hby at_109) ?_
      show Steps p.tables e below (T33.setTop (mkF m 110 #[.val (.long d0), .second, .val (.long d1), .second, .val (.long d2), .second, .val (.long f0), .second, .val (.long f1), .second, .val (.int sh), .val (.int (1 : Int32)), .val (.long v11), .second, .val (.ref b1), .val (.ref b28), .unset, .unset, .unset] [(.int (1 : Int32)), (.int (1 : Int32))])) _
      refine XS.icmpNo X33.here hx rfl (hb hby at_110) rfl (flt (by decide)).1 ?_
      show Steps p.tables e below (T33.setTop (mkF m 113 #[.val (.long d0), .second, .val (.long d1), .second, .val (.long d2), .second, .val (.long f0), .second, .val (.long f1), .second, .val (.int sh), .val (.int (1 : Int32)), .val (.long v11), .second, .val (.ref b1), .val (.ref b28), .unset, .unset, .unset] [])) _
      refine XS.lloadN X33.here hx rfl (hb hby at_113) rfl ?_
      show Steps p.tables e below (T33.setTop (mkF m 114 #[.val (.long d0), .second, .val (.long d1), .second, .val (.long d2), .second, .val (.long f0), .second, .val (.long f1), .second, .val (.int sh), .val (.int (1 : Int32)), .val (.long v11), .second, .val (.ref b1), .val (.ref b28), .unset, .unset, .unset] [(.long d0)])) _
      refine XS.lload X33.here hx rfl (hb hby at_114) rfl ?_
      show Steps p.tables e below (T33.setTop (mkF m 116 #[.val (.long d0), .second, .val (.long d1), .second, .val (.long d2), .second, .val (.long f0), .second, .val (.long f1), .second, .val (.int sh), .val (.int (1 : Int32)), .val (.long v11), .second, .val (.ref b1), .val (.ref b28), .unset, .unset, .unset] [(.long f0), (.long d0)])) _
      refine XS.lcmp X33.here hx rfl (hb hby at_116) rfl ?_
      by_cases d38 : f0 < d0
      · skip
        show Steps p.tables e below (T33.setTop (mkF m 117 #[.val (.long d0), .second, .val (.long d1), .second, .val (.long d2), .second, .val (.long f0), .second, .val (.long f1), .second, .val (.int sh), .val (.int (1 : Int32)), .val (.long v11), .second, .val (.ref b1), .val (.ref b28), .unset, .unset, .unset] [(.int (lcmpW d0 f0))])) _
        refine XS.ifYes X33.here hx rfl (pc0 := 117) (pc' := 151) rfl (hb hby at_117) rfl ((if0 _ _).trans (tlt ((lw_gt d0 f0).2 d38)).2.2.1) (by decide) (by decide) ?_
        show Steps p.tables e below (T33.setTop (mkF m 151 #[.val (.long d0), .second, .val (.long d1), .second, .val (.long d2), .second, .val (.long f0), .second, .val (.long f1), .second, .val (.int sh), .val (.int (1 : Int32)), .val (.long v11), .second, .val (.ref b1), .val (.ref b28), .unset, .unset, .unset] [])) _
        refine XS.iconst X33.here hx rfl (hb hby at_151) ?_
        show Steps p.tables e below (T33.setTop (mkF m 152 #[.val (.long d0), .second, .val (.long d1), .second, .val (.long d2), .second, .val (.long f0), .second, .val (.long f1), .second, .val (.int sh), .val (.int (1 : Int32)), .val (.long v11), .second, .val (.ref b1), .val (.ref b28), .unset, .unset, .unset] [(.int (0 : Int32))])) _
        exact castTop (by simp only [hm152, if_pos d38]) kt
      · skip
        show Steps p.tables e below (T33.setTop (mkF m 117 #[.val (.long d0), .second, .val (.long d1), .second, .val (.long d2), .second, .val (.long f0), .second, .val (.long f1), .second, .val (.int sh), .val (.int (1 : Int32)), .val (.long v11), .second, .val (.ref b1), .val (.ref b28), .unset, .unset, .unset] [(.int (lcmpW d0 f0))])) _
        refine XS.ifNo X33.here hx rfl (hb hby at_117) rfl ((if0 _ _).trans (flt (mt (lw_gt d0 f0).1 d38)).2.2.1) ?_
        show Steps p.tables e below (T33.setTop (mkF m 120 #[.val (.long d0), .second, .val (.long d1), .second, .val (.long d2), .second, .val (.long f0), .second, .val (.long f1), .second, .val (.int sh), .val (.int (1 : Int32)), .val (.long v11), .second, .val (.ref b1), .val (.ref b28), .unset, .unset, .unset] [])) _
        refine XS.iload X33.here hx rfl (hb hby at_120) rfl ?_
        show Steps p.tables e below (T33.setTop (mkF m 122 #[.val (.long d0), .second, .val (.long d1), .second, .val (.long d2), .second, .val (.long f0), .second, .val (.long f1), .second, .val (.int sh), .val (.int (1 : Int32)), .val (.long v11), .second, .val (.ref b1), .val (.ref b28), .unset, .unset, .unset] [(.int (1 : Int32))])) _
        refine XS.iconst X33.here hx rfl (hb hby at_122) ?_
        show Steps p.tables e below (T33.setTop (mkF m 123 #[.val (.long d0), .second, .val (.long d1), .second, .val (.long d2), .second, .val (.long f0), .second, .val (.long f1), .second, .val (.int sh), .val (.int (1 : Int32)), .val (.long v11), .second, .val (.ref b1), .val (.ref b28), .unset, .unset, .unset] [(.int (2 : Int32)), (.int (1 : Int32))])) _
        refine XS.icmpYes X33.here hx rfl (pc0 := 123) (pc' := 133) rfl (hb hby at_123) rfl (tlt (by decide)).1 (by decide) (by decide) ?_
        show Steps p.tables e below (T33.setTop (mkF m 133 #[.val (.long d0), .second, .val (.long d1), .second, .val (.long d2), .second, .val (.long f0), .second, .val (.long f1), .second, .val (.int sh), .val (.int (1 : Int32)), .val (.long v11), .second, .val (.ref b1), .val (.ref b28), .unset, .unset, .unset] [])) _
        refine XS.iload X33.here hx rfl (hb hby at_133) rfl ?_
        show Steps p.tables e below (T33.setTop (mkF m 135 #[.val (.long d0), .second, .val (.long d1), .second, .val (.long d2), .second, .val (.long f0), .second, .val (.long f1), .second, .val (.int sh), .val (.int (1 : Int32)), .val (.long v11), .second, .val (.ref b1), .val (.ref b28), .unset, .unset, .unset] [(.int (1 : Int32))])) _
        refine XS.iconst X33.here hx rfl (hb hby at_135) ?_
        show Steps p.tables e below (T33.setTop (mkF m 136 #[.val (.long d0), .second, .val (.long d1), .second, .val (.long d2), .second, .val (.long f0), .second, .val (.long f1), .second, .val (.int sh), .val (.int (1 : Int32)), .val (.long v11), .second, .val (.ref b1), .val (.ref b28), .unset, .unset, .unset] [(.int (3 : Int32)), (.int (1 : Int32))])) _
        refine XS.icmpYes X33.here hx rfl (pc0 := 136) (pc' := 147) rfl (hb hby at_136) rfl (tlt (by decide)).1 (by decide) (by decide) ?_
        show Steps p.tables e below (T33.setTop (mkF m 147 #[.val (.long d0), .second, .val (.long d1), .second, .val (.long d2), .second, .val (.long f0), .second, .val (.long f1), .second, .val (.int sh), .val (.int (1 : Int32)), .val (.long v11), .second, .val (.ref b1), .val (.ref b28), .unset, .unset, .unset] [])) _
        refine XS.iconst X33.here hx rfl (hb hby at_147) ?_
        show Steps p.tables e below (T33.setTop (mkF m 148 #[.val (.long d0), .second, .val (.long d1), .second, .val (.long d2), .second, .val (.long f0), .second, .val (.long f1), .second, .val (.int sh), .val (.int (1 : Int32)), .val (.long v11), .second, .val (.ref b1), .val (.ref b28), .unset, .unset, .unset] [(.int (1 : Int32))])) _
        refine XS.goto X33.here hx rfl (pc0 := 148) (pc' := 152) rfl (hb hby at_148) (by decide) (by decide) ?_
        show Steps p.tables e below (T33.setTop (mkF m 152 #[.val (.long d0), .second, .val (.long d1), .second, .val (.long d2), .second, .val (.long f0), .second, .val (.long f1), .second, .val (.int sh), .val (.int (1 : Int32)), .val (.long v11), .second, .val (.ref b1), .val (.ref b28), .unset, .unset, .unset] [(.int (1 : Int32))])) _
        exact castTop (by simp only [hm152, if_neg d38]) kt
    obtain ⟨_, _, ⟨T40, L40, k40, n40⟩, -, X40, ⟨Lc40, hQ40, l40, y40, z40⟩, st40⟩ := Jvm.LawKit.callS X33 hx (y := (⟨"com/example/evenkeel/evenkeel/MachineAllocation", "fits", "([J[J)Z"⟩ : MethodName)) hown (mvT hZ (hw _ (List.mem_of_getElem? (i := 1) rfl))) (mvT hZ (hw _ (List.mem_of_getElem? (i := 2) rfl))) (mvT hZ (hw _ (List.mem_of_getElem? (i := 3) rfl))) (mvT hZ (hw _ (List.mem_of_getElem? (i := 4) rfl))) (by decide) (backOf (W := 0) (rm1_1 l Z a0 hw [] b1 b28 kx1 kx28 d0 d1 d2 f0 hX33 n0 Z36 F35 F34) hZ (hw _ (List.mem_of_getElem? (i := 4) rfl)) (hw _ (List.mem_of_getElem? (i := 3) rfl)) (by decide) (by decide)) (g := (mkF m 158 #[.val (.long d0), .second, .val (.long d1), .second, .val (.long d2), .second, .val (.long f0), .second, .val (.long f1), .second, .val (.int sh), .val (.int (1 : Int32)), .val (.long v11), .second, .val (.ref b1), .val (.ref b28), .val (.int m152), .unset, .unset] [(.ref b28), (.ref b1)])) rfl (by rw [hml]; rfl) (argsL := [(.ref b1), (.ref b28)]) (rest := []) (lenOf pd_0 rfl) rfl (by show 2 * 0 + _ ≤ _; exact Nat.le_of_eq rfl) (hb hby at_158) (fun _ _ => ⟨rfl, e33, (by decide : 2 + 0 ≤ _), (by decide : 4 + 0 ≤ _)⟩)
    dsimp only [Pt.U, Pt.locs, Pt.cells, Pt.slots] at X40 l40 y40 z40 st40 hQ40
    subst l40 y40 z40
    obtain ⟨rfl, N40q, e40⟩ := hQ40
    have N40 := Fr.app N33 N40q
    obtain ⟨r158, hr158⟩ : ∃ z_q : Int32, z_q = (own_fits1 d0 f0) := ⟨_, rfl⟩
    obtain ⟨cl41, Ar41, q41, S41, M41, H41, G41⟩ := id F35
    have hin41 : ¬ ((0 : Int32) < 0 ∨ cl41.slots.size ≤ ((0 : Int32)).toNatClampNeg) := inb_of S41 ⟨by decide, by decide⟩
    have hat41 : cl41.slots[((0 : Int32)).toNatClampNeg]? = some (.long d0) := Has.at H41 hin41 rfl
    obtain ⟨cl42, Ar42, q42, S42, M42, H42, G42⟩ := id F35
    have hin42 : ¬ ((1 : Int32) < 0 ∨ cl42.slots.size ≤ ((1 : Int32)).toNatClampNeg) := inb_of S42 ⟨by decide, by decide⟩
    have hat42 : cl42.slots[((1 : Int32)).toNatClampNeg]? = some (.long d1) := Has.at H42 hin42 rfl
    obtain ⟨cl43, Ar43, q43, S43, M43, H43, G43⟩ := id F35
    have hin43 : ¬ ((2 : Int32) < 0 ∨ cl43.slots.size ≤ ((2 : Int32)).toNatClampNeg) := inb_of S43 ⟨by decide, by decide⟩
    have hat43 : cl43.slots[((2 : Int32)).toNatClampNeg]? = some (.long d2) := Has.at H43 hin43 rfl
    obtain ⟨cl44, Ar44, q44, S44, M44, H44, G44⟩ := id F34
    have hin44 : ¬ ((0 : Int32) < 0 ∨ cl44.slots.size ≤ ((0 : Int32)).toNatClampNeg) := inb_of S44 ⟨by decide, by decide⟩
    have hat44 : cl44.slots[((0 : Int32)).toNatClampNeg]? = some (.long f0) := Has.at H44 hin44 rfl
    obtain ⟨m263, hm263⟩ : ∃ z_q : Int32, z_q = (if r158 = m152 then (1 : Int32) else (0 : Int32)) := ⟨_, rfl⟩
    have pre46 : ∀ tq, Steps p.tables e below (T40.setTop (mkF m 263 #[.val (.long d0), .second, .val (.long d1), .second, .val (.long d2), .second, .val (.long f0), .second, .val (.long f1), .second, .val (.int sh), .val (.int (1 : Int32)), .val (.long v11), .second, .val (.ref b1), .val (.ref b28), .val (.int m152), .val (.int r158), .val (.int (1 : Int32))] [(.int m263)])) tq → Steps p.tables e below (s₁.setTop (entryFrame m #[(.long d0), (.long d1), (.long d2), (.long f0), (.long f1), (.int sh)] maxLocals)) tq := by
      intro tq kt
      refine pre39 _ ?_
      show Steps p.tables e below (T33.setTop (mkF m 152 #[.val (.long d0), .second, .val (.long d1), .second, .val (.long d2), .second, .val (.long f0), .second, .val (.long f1), .second, .val (.int sh), .val (.int (1 : Int32)), .val (.long v11), .second, .val (.ref b1), .val (.ref b28), .unset, .unset, .unset] [(.int m152)])) _
      refine XS.istore X33.here hx rfl (hb hby at_152) rfl (l' := #[.val (.long d0), .second, .val (.long d1), .second, .val (.long d2), .second, .val (.long f0), .second, .val (.long f1), .second, .val (.int sh), .val (.int (1 : Int32)), .val (.long v11), .second, .val (.ref b1), .val (.ref b28), .val (.int m152), .unset, .unset]) rfl ?_
      show Steps p.tables e below (T33.setTop (mkF m 154 #[.val (.long d0), .second, .val (.long d1), .second, .val (.long d2), .second, .val (.long f0), .second, .val (.long f1), .second, .val (.int sh), .val (.int (1 : Int32)), .val (.long v11), .second, .val (.ref b1), .val (.ref b28), .val (.int m152), .unset, .unset] [])) _
      refine XS.aload X33.here hx rfl (hb hby at_154) rfl rfl ?_
      show Steps p.tables e below (T33.setTop (mkF m 156 #[.val (.long d0), .second, .val (.long d1), .second, .val (.long d2), .second, .val (.long f0), .second, .val (.long f1), .second, .val (.int sh), .val (.int (1 : Int32)), .val (.long v11), .second, .val (.ref b1), .val (.ref b28), .val (.int m152), .unset, .unset] [(.ref b1)])) _
      refine XS.aload X33.here hx rfl (hb hby at_156) rfl rfl ?_
      show Steps p.tables e below (T33.setTop (mkF m 158 #[.val (.long d0), .second, .val (.long d1), .second, .val (.long d2), .second, .val (.long f0), .second, .val (.long f1), .second, .val (.int sh), .val (.int (1 : Int32)), .val (.long v11), .second, .val (.ref b1), .val (.ref b28), .val (.int m152), .unset, .unset] [(.ref b28), (.ref b1)])) _
      refine st40 _ ?_
      show Steps p.tables e below (T40.setTop (mkF m 161 #[.val (.long d0), .second, .val (.long d1), .second, .val (.long d2), .second, .val (.long f0), .second, .val (.long f1), .second, .val (.int sh), .val (.int (1 : Int32)), .val (.long v11), .second, .val (.ref b1), .val (.ref b28), .val (.int m152), .unset, .unset] [(.int (own_fits1 d0 f0))])) _
      rw [← hr158]
      show Steps p.tables e below (T40.setTop (mkF m 161 #[.val (.long d0), .second, .val (.long d1), .second, .val (.long d2), .second, .val (.long f0), .second, .val (.long f1), .second, .val (.int sh), .val (.int (1 : Int32)), .val (.long v11), .second, .val (.ref b1), .val (.ref b28), .val (.int m152), .unset, .unset] [(.int r158)])) _
      refine XS.istore X40.here hx rfl (hb hby at_161) rfl (l' := #[.val (.long d0), .second, .val (.long d1), .second, .val (.long d2), .second, .val (.long f0), .second, .val (.long f1), .second, .val (.int sh), .val (.int (1 : Int32)), .val (.long v11), .second, .val (.ref b1), .val (.ref b28), .val (.int m152), .val (.int r158), .unset]) rfl ?_
      show Steps p.tables e below (T40.setTop (mkF m 163 #[.val (.long d0), .second, .val (.long d1), .second, .val (.long d2), .second, .val (.long f0), .second, .val (.long f1), .second, .val (.int sh), .val (.int (1 : Int32)), .val (.long v11), .second, .val (.ref b1), .val (.ref b28), .val (.int m152), .val (.int r158), .unset] [])) _
      refine XS.aload X40.here hx rfl (hb hby at_163) rfl rfl ?_
      show Steps p.tables e below (T40.setTop (mkF m 165 #[.val (.long d0), .second, .val (.long d1), .second, .val (.long d2), .second, .val (.long f0), .second, .val (.long f1), .second, .val (.int sh), .val (.int (1 : Int32)), .val (.long v11), .second, .val (.ref b1), .val (.ref b28), .val (.int m152), .val (.int r158), .unset] [(.ref b1)])) _
      refine XS.iconst X40.here hx rfl (hb hby at_165) ?_
      show Steps p.tables e below (T40.setTop (mkF m 166 #[.val (.long d0), .second, .val (.long d1), .second, .val (.long d2), .second, .val (.long f0), .second, .val (.long f1), .second, .val (.int sh), .val (.int (1 : Int32)), .val (.long v11), .second, .val (.ref b1), .val (.ref b28), .val (.int m152), .val (.int r158), .unset] [(.int (0 : Int32)), (.ref b1)])) _
      refine X40.laload hx (j := (0 : Int32)) (v := (.long d0)) (heq_of e40 Ar41.1) (State.isArrayOf_alike hZ.alike Ar41.2.1) Ar41.2.2 hin41 hat41 (g := (mkF m 166 #[.val (.long d0), .second, .val (.long d1), .second, .val (.long d2), .second, .val (.long f0), .second, .val (.long f1), .second, .val (.int sh), .val (.int (1 : Int32)), .val (.long v11), .second, .val (.ref b1), .val (.ref b28), .val (.int m152), .val (.int r158), .unset] [(.int (0 : Int32)), (.ref b1)])) rfl rfl (hb hby at_166) _ ?_
      show Steps p.tables e below (T40.setTop (mkF m 167 #[.val (.long d0), .second, .val (.long d1), .second, .val (.long d2), .second, .val (.long f0), .second, .val (.long f1), .second, .val (.int sh), .val (.int (1 : Int32)), .val (.long v11), .second, .val (.ref b1), .val (.ref b28), .val (.int m152), .val (.int r158), .unset] [(.long d0)])) _
      refine XS.lloadN X40.here hx rfl (hb hby at_167) rfl ?_
      show Steps p.tables e below (T40.setTop (mkF m 168 #[.val (.long d0), .second, .val (.long d1), .second, .val (.long d2), .second, .val (.long f0), .second, .val (.long f1), .second, .val (.int sh), .val (.int (1 : Int32)), .val (.long v11), .second, .val (.ref b1), .val (.ref b28), .val (.int m152), .val (.int r158), .unset] [(.long d0), (.long d0)])) _
      refine XS.lcmp X40.here hx rfl (hb hby at_168) rfl ?_
      show Steps p.tables e below (T40.setTop (mkF m 169 #[.val (.long d0), .second, .val (.long d1), .second, .val (.long d2), .second, .val (.long f0), .second, .val (.long f1), .second, .val (.int sh), .val (.int (1 : Int32)), .val (.long v11), .second, .val (.ref b1), .val (.ref b28), .val (.int m152), .val (.int r158), .unset] [(.int (lcmpW d0 d0))])) _
      refine XS.ifNo X40.here hx rfl (hb hby at_169) rfl ((if0 _ _).trans (teq ((lw_eq d0 d0).2 rfl)).2) ?_
      show Steps p.tables e below (T40.setTop (mkF m 172 #[.val (.long d0), .second, .val (.long d1), .second, .val (.long d2), .second, .val (.long f0), .second, .val (.long f1), .second, .val (.int sh), .val (.int (1 : Int32)), .val (.long v11), .second, .val (.ref b1), .val (.ref b28), .val (.int m152), .val (.int r158), .unset] [])) _
      refine XS.aload X40.here hx rfl (hb hby at_172) rfl rfl ?_
      show Steps p.tables e below (T40.setTop (mkF m 174 #[.val (.long d0), .second, .val (.long d1), .second, .val (.long d2), .second, .val (.long f0), .second, .val (.long f1), .second, .val (.int sh), .val (.int (1 : Int32)), .val (.long v11), .second, .val (.ref b1), .val (.ref b28), .val (.int m152), .val (.int r158), .unset] [(.ref b1)])) _
      refine XS.iconst X40.here hx rfl (hb hby at_174) ?_
      show Steps p.tables e below (T40.setTop (mkF m 175 #[.val (.long d0), .second, .val (.long d1), .second, .val (.long d2), .second, .val (.long f0), .second, .val (.long f1), .second, .val (.int sh), .val (.int (1 : Int32)), .val (.long v11), .second, .val (.ref b1), .val (.ref b28), .val (.int m152), .val (.int r158), .unset] [(.int (1 : Int32)), (.ref b1)])) _
      refine X40.laload hx (j := (1 : Int32)) (v := (.long d1)) (heq_of e40 Ar42.1) (State.isArrayOf_alike hZ.alike Ar42.2.1) Ar42.2.2 hin42 hat42 (g := (mkF m 175 #[.val (.long d0), .second, .val (.long d1), .second, .val (.long d2), .second, .val (.long f0), .second, .val (.long f1), .second, .val (.int sh), .val (.int (1 : Int32)), .val (.long v11), .second, .val (.ref b1), .val (.ref b28), .val (.int m152), .val (.int r158), .unset] [(.int (1 : Int32)), (.ref b1)])) rfl rfl (hb hby at_175) _ ?_
      show Steps p.tables e below (T40.setTop (mkF m 176 #[.val (.long d0), .second, .val (.long d1), .second, .val (.long d2), .second, .val (.long f0), .second, .val (.long f1), .second, .val (.int sh), .val (.int (1 : Int32)), .val (.long v11), .second, .val (.ref b1), .val (.ref b28), .val (.int m152), .val (.int r158), .unset] [(.long d1)])) _
      refine XS.lloadN X40.here hx rfl (hb hby at_176) rfl ?_
      show Steps p.tables e below (T40.setTop (mkF m 177 #[.val (.long d0), .second, .val (.long d1), .second, .val (.long d2), .second, .val (.long f0), .second, .val (.long f1), .second, .val (.int sh), .val (.int (1 : Int32)), .val (.long v11), .second, .val (.ref b1), .val (.ref b28), .val (.int m152), .val (.int r158), .unset] [(.long d1), (.long d1)])) _
      refine XS.lcmp X40.here hx rfl (hb hby at_177) rfl ?_
      show Steps p.tables e below (T40.setTop (mkF m 178 #[.val (.long d0), .second, .val (.long d1), .second, .val (.long d2), .second, .val (.long f0), .second, .val (.long f1), .second, .val (.int sh), .val (.int (1 : Int32)), .val (.long v11), .second, .val (.ref b1), .val (.ref b28), .val (.int m152), .val (.int r158), .unset] [(.int (lcmpW d1 d1))])) _
      refine XS.ifNo X40.here hx rfl (hb hby at_178) rfl ((if0 _ _).trans (teq ((lw_eq d1 d1).2 rfl)).2) ?_
      show Steps p.tables e below (T40.setTop (mkF m 181 #[.val (.long d0), .second, .val (.long d1), .second, .val (.long d2), .second, .val (.long f0), .second, .val (.long f1), .second, .val (.int sh), .val (.int (1 : Int32)), .val (.long v11), .second, .val (.ref b1), .val (.ref b28), .val (.int m152), .val (.int r158), .unset] [])) _
      refine XS.aload X40.here hx rfl (hb hby at_181) rfl rfl ?_
      show Steps p.tables e below (T40.setTop (mkF m 183 #[.val (.long d0), .second, .val (.long d1), .second, .val (.long d2), .second, .val (.long f0), .second, .val (.long f1), .second, .val (.int sh), .val (.int (1 : Int32)), .val (.long v11), .second, .val (.ref b1), .val (.ref b28), .val (.int m152), .val (.int r158), .unset] [(.ref b1)])) _
      refine XS.iconst X40.here hx rfl (hb hby at_183) ?_
      show Steps p.tables e below (T40.setTop (mkF m 184 #[.val (.long d0), .second, .val (.long d1), .second, .val (.long d2), .second, .val (.long f0), .second, .val (.long f1), .second, .val (.int sh), .val (.int (1 : Int32)), .val (.long v11), .second, .val (.ref b1), .val (.ref b28), .val (.int m152), .val (.int r158), .unset] [(.int (2 : Int32)), (.ref b1)])) _
      refine X40.laload hx (j := (2 : Int32)) (v := (.long d2)) (heq_of e40 Ar43.1) (State.isArrayOf_alike hZ.alike Ar43.2.1) Ar43.2.2 hin43 hat43 (g := (mkF m 184 #[.val (.long d0), .second, .val (.long d1), .second, .val (.long d2), .second, .val (.long f0), .second, .val (.long f1), .second, .val (.int sh), .val (.int (1 : Int32)), .val (.long v11), .second, .val (.ref b1), .val (.ref b28), .val (.int m152), .val (.int r158), .unset] [(.int (2 : Int32)), (.ref b1)])) rfl rfl (hb hby at_184) _ ?_
      show Steps p.tables e below (T40.setTop (mkF m 185 #[.val (.long d0), .second, .val (.long d1), .second, .val (.long d2), .second, .val (.long f0), .second, .val (.long f1), .second, .val (.int sh), .val (.int (1 : Int32)), .val (.long v11), .second, .val (.ref b1), .val (.ref b28), .val (.int m152), .val (.int r158), .unset] [(.long d2)])) _
      refine XS.lload X40.here hx rfl (hb hby at_185) rfl ?_
      show Steps p.tables e below (T40.setTop (mkF m 187 #[.val (.long d0), .second, .val (.long d1), .second, .val (.long d2), .second, .val (.long f0), .second, .val (.long f1), .second, .val (.int sh), .val (.int (1 : Int32)), .val (.long v11), .second, .val (.ref b1), .val (.ref b28), .val (.int m152), .val (.int r158), .unset] [(.long d2), (.long d2)])) _
      refine XS.lcmp X40.here hx rfl (hb hby at_187) rfl ?_
      show Steps p.tables e below (T40.setTop (mkF m 188 #[.val (.long d0), .second, .val (.long d1), .second, .val (.long d2), .second, .val (.long f0), .second, .val (.long f1), .second, .val (.int sh), .val (.int (1 : Int32)), .val (.long v11), .second, .val (.ref b1), .val (.ref b28), .val (.int m152), .val (.int r158), .unset] [(.int (lcmpW d2 d2))])) _
      refine XS.ifNo X40.here hx rfl (hb hby at_188) rfl ((if0 _ _).trans (teq ((lw_eq d2 d2).2 rfl)).2) ?_
      show Steps p.tables e below (T40.setTop (mkF m 191 #[.val (.long d0), .second, .val (.long d1), .second, .val (.long d2), .second, .val (.long f0), .second, .val (.long f1), .second, .val (.int sh), .val (.int (1 : Int32)), .val (.long v11), .second, .val (.ref b1), .val (.ref b28), .val (.int m152), .val (.int r158), .unset] [])) _
      refine XS.iload X40.here hx rfl (hb hby at_191) rfl ?_
      show Steps p.tables e below (T40.setTop (mkF m 193 #[.val (.long d0), .second, .val (.long d1), .second, .val (.long d2), .second, .val (.long f0), .second, .val (.long f1), .second, .val (.int sh), .val (.int (1 : Int32)), .val (.long v11), .second, .val (.ref b1), .val (.ref b28), .val (.int m152), .val (.int r158), .unset] [(.int (1 : Int32))])) _
      refine XS.iconst X40.here hx rfl (hb hby at_193) ?_
      show Steps p.tables e below (T40.setTop (mkF m 194 #[.val (.long d0), .second, .val (.long d1), .second, .val (.long d2), .second, .val (.long f0), .second, .val (.long f1), .second, .val (.int sh), .val (.int (1 : Int32)), .val (.long v11), .second, .val (.ref b1), .val (.ref b28), .val (.int m152), .val (.int r158), .unset] [(.int (1 : Int32)), (.int (1 : Int32))])) _
      refine XS.icmpNo X40.here hx rfl (hb hby at_194) rfl (flt (by decide)).1 ?_
      show Steps p.tables e below (T40.setTop (mkF m 197 #[.val (.long d0), .second, .val (.long d1), .second, .val (.long d2), .second, .val (.long f0), .second, .val (.long f1), .second, .val (.int sh), .val (.int (1 : Int32)), .val (.long v11), .second, .val (.ref b1), .val (.ref b28), .val (.int m152), .val (.int r158), .unset] [])) _
      refine XS.aload X40.here hx rfl (hb hby at_197) rfl rfl ?_
      show Steps p.tables e below (T40.setTop (mkF m 199 #[.val (.long d0), .second, .val (.long d1), .second, .val (.long d2), .second, .val (.long f0), .second, .val (.long f1), .second, .val (.int sh), .val (.int (1 : Int32)), .val (.long v11), .second, .val (.ref b1), .val (.ref b28), .val (.int m152), .val (.int r158), .unset] [(.ref b28)])) _
      refine XS.iconst X40.here hx rfl (hb hby at_199) ?_
      show Steps p.tables e below (T40.setTop (mkF m 200 #[.val (.long d0), .second, .val (.long d1), .second, .val (.long d2), .second, .val (.long f0), .second, .val (.long f1), .second, .val (.int sh), .val (.int (1 : Int32)), .val (.long v11), .second, .val (.ref b1), .val (.ref b28), .val (.int m152), .val (.int r158), .unset] [(.int (0 : Int32)), (.ref b28)])) _
      refine X40.laload hx (j := (0 : Int32)) (v := (.long f0)) (heq_of e40 Ar44.1) (State.isArrayOf_alike hZ.alike Ar44.2.1) Ar44.2.2 hin44 hat44 (g := (mkF m 200 #[.val (.long d0), .second, .val (.long d1), .second, .val (.long d2), .second, .val (.long f0), .second, .val (.long f1), .second, .val (.int sh), .val (.int (1 : Int32)), .val (.long v11), .second, .val (.ref b1), .val (.ref b28), .val (.int m152), .val (.int r158), .unset] [(.int (0 : Int32)), (.ref b28)])) rfl rfl (hb hby at_200) _ ?_
      show Steps p.tables e below (T40.setTop (mkF m 201 #[.val (.long d0), .second, .val (.long d1), .second, .val (.long d2), .second, .val (.long f0), .second, .val (.long f1), .second, .val (.int sh), .val (.int (1 : Int32)), .val (.long v11), .second, .val (.ref b1), .val (.ref b28), .val (.int m152), .val (.int r158), .unset] [(.long f0)])) _
      refine XS.lload X40.here hx rfl (hb hby at_201) rfl ?_
      show Steps p.tables e below (T40.setTop (mkF m 203 #[.val (.long d0), .second, .val (.long d1), .second, .val (.long d2), .second, .val (.long f0), .second, .val (.long f1), .second, .val (.int sh), .val (.int (1 : Int32)), .val (.long v11), .second, .val (.ref b1), .val (.ref b28), .val (.int m152), .val (.int r158), .unset] [(.long f0), (.long f0)])) _
      refine XS.lcmp X40.here hx rfl (hb hby at_203) rfl ?_
      show Steps p.tables e below (T40.setTop (mkF m 204 #[.val (.long d0), .second, .val (.long d1), .second, .val (.long d2), .second, .val (.long f0), .second, .val (.long f1), .second, .val (.int sh), .val (.int (1 : Int32)), .val (.long v11), .second, .val (.ref b1), .val (.ref b28), .val (.int m152), .val (.int r158), .unset] [(.int (lcmpW f0 f0))])) _
      refine XS.ifNo X40.here hx rfl (hb hby at_204) rfl ((if0 _ _).trans (teq ((lw_eq f0 f0).2 rfl)).2) ?_
      show Steps p.tables e below (T40.setTop (mkF m 207 #[.val (.long d0), .second, .val (.long d1), .second, .val (.long d2), .second, .val (.long f0), .second, .val (.long f1), .second, .val (.int sh), .val (.int (1 : Int32)), .val (.long v11), .second, .val (.ref b1), .val (.ref b28), .val (.int m152), .val (.int r158), .unset] [])) _
      refine XS.iload X40.here hx rfl (hb hby at_207) rfl ?_
      show Steps p.tables e below (T40.setTop (mkF m 209 #[.val (.long d0), .second, .val (.long d1), .second, .val (.long d2), .second, .val (.long f0), .second, .val (.long f1), .second, .val (.int sh), .val (.int (1 : Int32)), .val (.long v11), .second, .val (.ref b1), .val (.ref b28), .val (.int m152), .val (.int r158), .unset] [(.int (1 : Int32))])) _
      refine XS.iconst X40.here hx rfl (hb hby at_209) ?_
      show Steps p.tables e below (T40.setTop (mkF m 210 #[.val (.long d0), .second, .val (.long d1), .second, .val (.long d2), .second, .val (.long f0), .second, .val (.long f1), .second, .val (.int sh), .val (.int (1 : Int32)), .val (.long v11), .second, .val (.ref b1), .val (.ref b28), .val (.int m152), .val (.int r158), .unset] [(.int (2 : Int32)), (.int (1 : Int32))])) _
      refine XS.icmpYes X40.here hx rfl (pc0 := 210) (pc' := 223) rfl (hb hby at_210) rfl (tlt (by decide)).1 (by decide) (by decide) ?_
      show Steps p.tables e below (T40.setTop (mkF m 223 #[.val (.long d0), .second, .val (.long d1), .second, .val (.long d2), .second, .val (.long f0), .second, .val (.long f1), .second, .val (.int sh), .val (.int (1 : Int32)), .val (.long v11), .second, .val (.ref b1), .val (.ref b28), .val (.int m152), .val (.int r158), .unset] [])) _
      refine XS.iload X40.here hx rfl (hb hby at_223) rfl ?_
      show Steps p.tables e below (T40.setTop (mkF m 225 #[.val (.long d0), .second, .val (.long d1), .second, .val (.long d2), .second, .val (.long f0), .second, .val (.long f1), .second, .val (.int sh), .val (.int (1 : Int32)), .val (.long v11), .second, .val (.ref b1), .val (.ref b28), .val (.int m152), .val (.int r158), .unset] [(.int (1 : Int32))])) _
      refine XS.iconst X40.here hx rfl (hb hby at_225) ?_
      show Steps p.tables e below (T40.setTop (mkF m 226 #[.val (.long d0), .second, .val (.long d1), .second, .val (.long d2), .second, .val (.long f0), .second, .val (.long f1), .second, .val (.int sh), .val (.int (1 : Int32)), .val (.long v11), .second, .val (.ref b1), .val (.ref b28), .val (.int m152), .val (.int r158), .unset] [(.int (3 : Int32)), (.int (1 : Int32))])) _
      refine XS.icmpYes X40.here hx rfl (pc0 := 226) (pc' := 239) rfl (hb hby at_226) rfl (tlt (by decide)).1 (by decide) (by decide) ?_
      show Steps p.tables e below (T40.setTop (mkF m 239 #[.val (.long d0), .second, .val (.long d1), .second, .val (.long d2), .second, .val (.long f0), .second, .val (.long f1), .second, .val (.int sh), .val (.int (1 : Int32)), .val (.long v11), .second, .val (.ref b1), .val (.ref b28), .val (.int m152), .val (.int r158), .unset] [])) _
      refine XS.iconst X40.here hx rfl (hb hby at_239) ?_
      show Steps p.tables e below (T40.setTop (mkF m 240 #[.val (.long d0), .second, .val (.long d1), .second, .val (.long d2), .second, .val (.long f0), .second, .val (.long f1), .second, .val (.int sh), .val (.int (1 : Int32)), .val (.long v11), .second, .val (.ref b1), .val (.ref b28), .val (.int m152), .val (.int r158), .unset] [(.int (1 : Int32))])) _
      refine XS.goto X40.here hx rfl (pc0 := 240) (pc' := 244) rfl (hb hby at_240) (by decide) (by decide) ?_
      show Steps p.tables e below (T40.setTop (mkF m 244 #[.val (.long d0), .second, .val (.long d1), .second, .val (.long d2), .second, .val (.long f0), .second, .val (.long f1), .second, .val (.int sh), .val (.int (1 : Int32)), .val (.long v11), .second, .val (.ref b1), .val (.ref b28), .val (.int m152), .val (.int r158), .unset] [(.int (1 : Int32))])) _
      refine XS.istore X40.here hx rfl (hb hby at_244) rfl (l' := #[.val (.long d0), .second, .val (.long d1), .second, .val (.long d2), .second, .val (.long f0), .second, .val (.long f1), .second, .val (.int sh), .val (.int (1 : Int32)), .val (.long v11), .second, .val (.ref b1), .val (.ref b28), .val (.int m152), .val (.int r158), .val (.int (1 : Int32))]) rfl ?_
      show Steps p.tables e below (T40.setTop (mkF m 246 #[.val (.long d0), .second, .val (.long d1), .second, .val (.long d2), .second, .val (.long f0), .second, .val (.long f1), .second, .val (.int sh), .val (.int (1 : Int32)), .val (.long v11), .second, .val (.ref b1), .val (.ref b28), .val (.int m152), .val (.int r158), .val (.int (1 : Int32))] [])) _
      refine XS.iload X40.here hx rfl (hb hby at_246) rfl ?_
      show Steps p.tables e below (T40.setTop (mkF m 248 #[.val (.long d0), .second, .val (.long d1), .second, .val (.long d2), .second, .val (.long f0), .second, .val (.long f1), .second, .val (.int sh), .val (.int (1 : Int32)), .val (.long v11), .second, .val (.ref b1), .val (.ref b28), .val (.int m152), .val (.int r158), .val (.int (1 : Int32))] [(.int r158)])) _
      refine XS.iload X40.here hx rfl (hb hby at_248) rfl ?_
      by_cases d45 : r158 = m152
      · skip
        show Steps p.tables e below (T40.setTop (mkF m 250 #[.val (.long d0), .second, .val (.long d1), .second, .val (.long d2), .second, .val (.long f0), .second, .val (.long f1), .second, .val (.int sh), .val (.int (1 : Int32)), .val (.long v11), .second, .val (.ref b1), .val (.ref b28), .val (.int m152), .val (.int r158), .val (.int (1 : Int32))] [(.int m152), (.int r158)])) _
        refine XS.icmpNo X40.here hx rfl (hb hby at_250) rfl (teq d45).2 ?_
        show Steps p.tables e below (T40.setTop (mkF m 253 #[.val (.long d0), .second, .val (.long d1), .second, .val (.long d2), .second, .val (.long f0), .second, .val (.long f1), .second, .val (.int sh), .val (.int (1 : Int32)), .val (.long v11), .second, .val (.ref b1), .val (.ref b28), .val (.int m152), .val (.int r158), .val (.int (1 : Int32))] [])) _
        refine XS.iload X40.here hx rfl (hb hby at_253) rfl ?_
        show Steps p.tables e below (T40.setTop (mkF m 255 #[.val (.long d0), .second, .val (.long d1), .second, .val (.long d2), .second, .val (.long f0), .second, .val (.long f1), .second, .val (.int sh), .val (.int (1 : Int32)), .val (.long v11), .second, .val (.ref b1), .val (.ref b28), .val (.int m152), .val (.int r158), .val (.int (1 : Int32))] [(.int (1 : Int32))])) _
        refine XS.ifNo X40.here hx rfl (hb hby at_255) rfl ((if0 _ _).trans (feq (by decide)).1) ?_
        show Steps p.tables e below (T40.setTop (mkF m 258 #[.val (.long d0), .second, .val (.long d1), .second, .val (.long d2), .second, .val (.long f0), .second, .val (.long f1), .second, .val (.int sh), .val (.int (1 : Int32)), .val (.long v11), .second, .val (.ref b1), .val (.ref b28), .val (.int m152), .val (.int r158), .val (.int (1 : Int32))] [])) _
        refine XS.iconst X40.here hx rfl (hb hby at_258) ?_
        show Steps p.tables e below (T40.setTop (mkF m 259 #[.val (.long d0), .second, .val (.long d1), .second, .val (.long d2), .second, .val (.long f0), .second, .val (.long f1), .second, .val (.int sh), .val (.int (1 : Int32)), .val (.long v11), .second, .val (.ref b1), .val (.ref b28), .val (.int m152), .val (.int r158), .val (.int (1 : Int32))] [(.int (1 : Int32))])) _
        refine XS.goto X40.here hx rfl (pc0 := 259) (pc' := 263) rfl (hb hby at_259) (by decide) (by decide) ?_
        show Steps p.tables e below (T40.setTop (mkF m 263 #[.val (.long d0), .second, .val (.long d1), .second, .val (.long d2), .second, .val (.long f0), .second, .val (.long f1), .second, .val (.int sh), .val (.int (1 : Int32)), .val (.long v11), .second, .val (.ref b1), .val (.ref b28), .val (.int m152), .val (.int r158), .val (.int (1 : Int32))] [(.int (1 : Int32))])) _
        exact castTop (by simp only [hm263, if_pos d45]) kt
      · skip
        show Steps p.tables e below (T40.setTop (mkF m 250 #[.val (.long d0), .second, .val (.long d1), .second, .val (.long d2), .second, .val (.long f0), .second, .val (.long f1), .second, .val (.int sh), .val (.int (1 : Int32)), .val (.long v11), .second, .val (.ref b1), .val (.ref b28), .val (.int m152), .val (.int r158), .val (.int (1 : Int32))] [(.int m152), (.int r158)])) _
        refine XS.icmpYes X40.here hx rfl (pc0 := 250) (pc' := 262) rfl (hb hby at_250) rfl (feq d45).2 (by decide) (by decide) ?_
        show Steps p.tables e below (T40.setTop (mkF m 262 #[.val (.long d0), .second, .val (.long d1), .second, .val (.long d2), .second, .val (.long f0), .second, .val (.long f1), .second, .val (.int sh), .val (.int (1 : Int32)), .val (.long v11), .second, .val (.ref b1), .val (.ref b28), .val (.int m152), .val (.int r158), .val (.int (1 : Int32))] [])) _
        refine XS.iconst X40.here hx rfl (hb hby at_262) ?_
        show Steps p.tables e below (T40.setTop (mkF m 263 #[.val (.long d0), .second, .val (.long d1), .second, .val (.long d2), .second, .val (.long f0), .second, .val (.long f1), .second, .val (.int sh), .val (.int (1 : Int32)), .val (.long v11), .second, .val (.ref b1), .val (.ref b28), .val (.int m152), .val (.int r158), .val (.int (1 : Int32))] [(.int (0 : Int32))])) _
        exact castTop (by simp only [hm263, if_neg d45]) kt
    obtain ⟨fs, hr, hrun, hended, hW, hsame⟩ := X40.leave (v := some (Value.int (nar .boolean m263))) (fun h => by rw [Bd.returns] at h; cases h)
    have hres47 : (nar .boolean m263) = (1 : Int32) := (own_leaf_0_263_s1 d0 d1 d2 f0 f1 sh hv4 v11 hv11 m152 hm152 r158 hr158 m263 hm263)
    refine ⟨_, _, pre46 _ ?_, hrun, hended, _, _, rfl, ?_, ⟨_, rfl⟩, hW, hsame.mono (by decide) (by decide)⟩
    · skip
      show Steps p.tables e below (T40.setTop (mkF m 263 #[.val (.long d0), .second, .val (.long d1), .second, .val (.long d2), .second, .val (.long f0), .second, .val (.long f1), .second, .val (.int sh), .val (.int (1 : Int32)), .val (.long v11), .second, .val (.ref b1), .val (.ref b28), .val (.int m152), .val (.int r158), .val (.int (1 : Int32))] [(.int m263)])) _
      exact retN X40 hx (t := .boolean) Bd.returns (by simp) (hb hby at_263) hr
    · show Q0 Z d0 d1 d2 f0 f1 sh h0 n0 _ T40.heap _
      rw [e40]
      exact ⟨congrArg (fun z => some (Value.int z)) hres47, N40⟩
  · subst hs18
    obtain ⟨T48, hX48, kx48, X48, e48, E48, A48, st48⟩ := newP X13 hx hZ (hw _ (List.mem_of_getElem? (i := 0) rfl)) e13 (g := (mkF m 70 #[.val (.long d0), .second, .val (.long d1), .second, .val (.long d2), .second, .val (.long f0), .second, .val (.long f1), .second, .val (.int sh), .val (.int (2 : Int32)), .val (.long v11), .second, .val (.ref b1), .unset, .unset, .unset, .unset] [(.int (2 : Int32))])) rfl (hb hby at_70) rfl (by decide) (cap := 2) (by decide) (by decide) (by decide) (by decide)
    obtain ⟨b48, g48⟩ : ∃ z_q, z_q = hX13.size := ⟨_, rfl⟩
    rw [← g48] at A48 st48
    have g_b48 : n0 ≤ b48 := Nat.le_trans Z15 (Nat.le_of_eq g48.symm)
    have sz_b48 : h0.size ≤ b48 := Nat.le_trans K16.1 (Nat.le_of_eq g48.symm)
    have ne_b1_b48 : b1 ≠ b48 := Nat.ne_of_lt (Nat.lt_of_lt_of_le F14.lt (Nat.le_of_eq g48.symm))
    have F49 : Arv Z hX48 b1 kx1 .long (3 : Int32) [(.long d0), (.long d1), (.long d2)] (.long (0 : Int64)) := F14.ext E48
    have Z50 : n0 ≤ hX48.size := Nat.le_trans Z15 E48.1
    have K51 : Keep h0 hX48 [] := K16.ext E48
    have F52 : Arv Z hX48 b48 kx48 .long (2 : Int32) [(.long (0 : Int64)), (.long (0 : Int64))] (.long (0 : Int64)) := (Arv.new A48 (by decide)).pad (pad_rep [] (.long (0 : Int64)) 2)
    obtain ⟨cl53, Ar53, q53, S53, M53, H53, G53⟩ := id F52
    have hin53 : ¬ ((0 : Int32) < 0 ∨ cl53.slots.size ≤ ((0 : Int32)).toNatClampNeg) := inb_of S53 ⟨by decide, by decide⟩
    obtain ⟨T53, hX53, X53, e53, W53, st53⟩ := stJ X48 hx hZ e48 Ar53 (j := (0 : Int32)) hin53 (g := (mkF m 76 #[.val (.long d0), .second, .val (.long d1), .second, .val (.long d2), .second, .val (.long f0), .second, .val (.long f1), .second, .val (.int sh), .val (.int (2 : Int32)), .val (.long v11), .second, .val (.ref b1), .unset, .unset, .unset, .unset] [(.long f0), (.int (0 : Int32)), (.ref b48), (.ref b48)])) rfl rfl (hb hby at_76)
    have F54 : Arv Z hX53 b48 kx48 .long (2 : Int32) [(.long f0), (.long (0 : Int64))] (.long (0 : Int64)) := Arv.set Ar53 q53 S53 M53 H53 G53 rfl W53 0 rfl (Nat.le_of_ble_eq_true rfl)
    have N53 := Fr.snoc X53 N13 g_b48
    have F55 : Arv Z hX53 b1 kx1 .long (3 : Int32) [(.long d0), (.long d1), (.long d2)] (.long (0 : Int64)) := F49.other W53 ne_b1_b48
    have Z56 : n0 ≤ hX53.size := Nat.le_trans Z50 (Keep.of_wr W53).1
    have K57 : Keep h0 hX53 [] := K51.wr W53 (Or.inr sz_b48)
    obtain ⟨cl58, Ar58, q58, S58, M58, H58, G58⟩ := id F54
    have hin58 : ¬ ((1 : Int32) < 0 ∨ cl58.slots.size ≤ ((1 : Int32)).toNatClampNeg) := inb_of S58 ⟨by decide, by decide⟩
    obtain ⟨T58, hX58, X58, e58, W58, st58⟩ := stJ X53 hx hZ e53 Ar58 (j := (1 : Int32)) hin58 (g := (mkF m 81 #[.val (.long d0), .second, .val (.long d1), .second, .val (.long d2), .second, .val (.long f0), .second, .val (.long f1), .second, .val (.int sh), .val (.int (2 : Int32)), .val (.long v11), .second, .val (.ref b1), .unset, .unset, .unset, .unset] [(.long f1), (.int (1 : Int32)), (.ref b48), (.ref b48)])) rfl rfl (hb hby at_81)
    have F59 : Arv Z hX58 b48 kx48 .long (2 : Int32) [(.long f0), (.long f1)] (.long (0 : Int64)) := Arv.set Ar58 q58 S58 M58 H58 G58 rfl W58 1 rfl (Nat.le_of_ble_eq_true rfl)
    have N58 := Fr.snoc X58 N53 g_b48
    have F60 : Arv Z hX58 b1 kx1 .long (3 : Int32) [(.long d0), (.long d1), (.long d2)] (.long (0 : Int64)) := F55.other W58 ne_b1_b48
    have Z61 : n0 ≤ hX58.size := Nat.le_trans Z56 (Keep.of_wr W58).1
    have K62 : Keep h0 hX58 [] := K57.wr W58 (Or.inr sz_b48)
    obtain ⟨m152, hm152⟩ : ∃ z_q : Int32, z_q = (if f0 < d0 then (0 : Int32) else (if f1 < d1 then (0 : Int32) else (1 : Int32))) := ⟨_, rfl⟩
    have pre65 : ∀ tq, Steps p.tables e below (T58.setTop (mkF m 152 #[.val (.long d0), .second, .val (.long d1), .second, .val (.long d2), .second, .val (.long f0), .second, .val (.long f1), .second, .val (.int sh), .val (.int (2 : Int32)), .val (.long v11), .second, .val (.ref b1), .val (.ref b48), .unset, .unset, .unset] [(.int m152)])) tq → Steps p.tables e below (s₁.setTop (entryFrame m #[(.long d0), (.long d1), (.long d2), (.long f0), (.long f1), (.int sh)] maxLocals)) tq := by
      intro tq kt
      refine pre17 _ ?_
      show Steps p.tables e below (T13.setTop (mkF m 31 #[.val (.long d0), .second, .val (.long d1), .second, .val (.long d2), .second, .val (.long f0), .second, .val (.long f1), .second, .val (.int sh), .val (.int (2 : Int32)), .val (.long v11), .second, .val (.ref b1), .unset, .unset, .unset, .unset] [])) _
      refine XS.iload X13.here hx rfl (hb hby at_31) rfl ?_
      show Steps p.tables e below (T13.setTop (mkF m 33 #[.val (.long d0), .second, .val (.long d1), .second, .val (.long d2), .second, .val (.long f0), .second, .val (.long f1), .second, .val (.int sh), .val (.int (2 : Int32)), .val (.long v11), .second, .val (.ref b1), .unset, .unset, .unset, .unset] [(.int (2 : Int32))])) _
      refine XS.ifYes X13.here hx rfl (pc0 := 33) (pc' := 44) rfl (hb hby at_33) rfl ((if0 _ _).trans (feq (by decide)).2) (by decide) (by decide) ?_
      show Steps p.tables e below (T13.setTop (mkF m 44 #[.val (.long d0), .second, .val (.long d1), .second, .val (.long d2), .second, .val (.long f0), .second, .val (.long f1), .second, .val (.int sh), .val (.int (2 : Int32)), .val (.long v11), .second, .val (.ref b1), .unset, .unset, .unset, .unset] [])) _
      refine XS.iload X13.here hx rfl (hb hby at_44) rfl ?_
      show Steps p.tables e below (T13.setTop (mkF m 46 #[.val (.long d0), .second, .val (.long d1), .second, .val (.long d2), .second, .val (.long f0), .second, .val (.long f1), .second, .val (.int sh), .val (.int (2 : Int32)), .val (.long v11), .second, .val (.ref b1), .unset, .unset, .unset, .unset] [(.int (2 : Int32))])) _
      refine XS.iconst X13.here hx rfl (hb hby at_46) ?_
      show Steps p.tables e below (T13.setTop (mkF m 47 #[.val (.long d0), .second, .val (.long d1), .second, .val (.long d2), .second, .val (.long f0), .second, .val (.long f1), .second, .val (.int sh), .val (.int (2 : Int32)), .val (.long v11), .second, .val (.ref b1), .unset, .unset, .unset, .unset] [(.int (1 : Int32)), (.int (2 : Int32))])) _
      refine XS.icmpYes X13.here hx rfl (pc0 := 47) (pc' := 63) rfl (hb hby at_47) rfl (feq (by decide)).2 (by decide) (by decide) ?_
      show Steps p.tables e below (T13.setTop (mkF m 63 #[.val (.long d0), .second, .val (.long d1), .second, .val (.long d2), .second, .val (.long f0), .second, .val (.long f1), .second, .val (.int sh), .val (.int (2 : Int32)), .val (.long v11), .second, .val (.ref b1), .unset, .unset, .unset, .unset] [])) _
      refine XS.iload X13.here hx rfl (hb hby at_63) rfl ?_
      show Steps p.tables e below (T13.setTop (mkF m 65 #[.val (.long d0), .second, .val (.long d1), .second, .val (.long d2), .second, .val (.long f0), .second, .val (.long f1), .second, .val (.int sh), .val (.int (2 : Int32)), .val (.long v11), .second, .val (.ref b1), .unset, .unset, .unset, .unset] [(.int (2 : Int32))])) _
      refine XS.iconst X13.here hx rfl (hb hby at_65) ?_
      show Steps p.tables e below (T13.setTop (mkF m 66 #[.val (.long d0), .second, .val (.long d1), .second, .val (.long d2), .second, .val (.long f0), .second, .val (.long f1), .second, .val (.int sh), .val (.int (2 : Int32)), .val (.long v11), .second, .val (.ref b1), .unset, .unset, .unset, .unset] [(.int (2 : Int32)), (.int (2 : Int32))])) _
      refine XS.icmpNo X13.here hx rfl (hb hby at_66) rfl (teq rfl).2 ?_
      show Steps p.tables e below (T13.setTop (mkF m 69 #[.val (.long d0), .second, .val (.long d1), .second, .val (.long d2), .second, .val (.long f0), .second, .val (.long f1), .second, .val (.int sh), .val (.int (2 : Int32)), .val (.long v11), .second, .val (.ref b1), .unset, .unset, .unset, .unset] [])) _
      refine XS.iconst X13.here hx rfl (hb hby at_69) ?_
      show Steps p.tables e below (T13.setTop (mkF m 70 #[.val (.long d0), .second, .val (.long d1), .second, .val (.long d2), .second, .val (.long f0), .second, .val (.long f1), .second, .val (.int sh), .val (.int (2 : Int32)), .val (.long v11), .second, .val (.ref b1), .unset, .unset, .unset, .unset] [(.int (2 : Int32))])) _
      refine st48 _ ?_
      show Steps p.tables e below (T48.setTop (mkF m 72 #[.val (.long d0), .second, .val (.long d1), .second, .val (.long d2), .second, .val (.long f0), .second, .val (.long f1), .second, .val (.int sh), .val (.int (2 : Int32)), .val (.long v11), .second, .val (.ref b1), .unset, .unset, .unset, .unset] [(.ref b48)])) _
      refine XS.dup X48.here hx rfl (hb hby at_72) rfl rfl ?_
      show Steps p.tables e below (T48.setTop (mkF m 73 #[.val (.long d0), .second, .val (.long d1), .second, .val (.long d2), .second, .val (.long f0), .second, .val (.long f1), .second, .val (.int sh), .val (.int (2 : Int32)), .val (.long v11), .second, .val (.ref b1), .unset, .unset, .unset, .unset] [(.ref b48), (.ref b48)])) _
      refine XS.iconst X48.here hx rfl (hb hby at_73) ?_
      show Steps p.tables e below (T48.setTop (mkF m 74 #[.val (.long d0), .second, .val (.long d1), .second, .val (.long d2), .second, .val (.long f0), .second, .val (.long f1), .second, .val (.int sh), .val (.int (2 : Int32)), .val (.long v11), .second, .val (.ref b1), .unset, .unset, .unset, .unset] [(.int (0 : Int32)), (.ref b48), (.ref b48)])) _
      refine XS.lload X48.here hx rfl (hb hby at_74) rfl ?_
      show Steps p.tables e below (T48.setTop (mkF m 76 #[.val (.long d0), .second, .val (.long d1), .second, .val (.long d2), .second, .val (.long f0), .second, .val (.long f1), .second, .val (.int sh), .val (.int (2 : Int32)), .val (.long v11), .second, .val (.ref b1), .unset, .unset, .unset, .unset] [(.long f0), (.int (0 : Int32)), (.ref b48), (.ref b48)])) _
      refine st53 _ ?_
      show Steps p.tables e below (T53.setTop (mkF m 77 #[.val (.long d0), .second, .val (.long d1), .second, .val (.long d2), .second, .val (.long f0), .second, .val (.long f1), .second, .val (.int sh), .val (.int (2 : Int32)), .val (.long v11), .second, .val (.ref b1), .unset, .unset, .unset, .unset] [(.ref b48)])) _
      refine XS.dup X53.here hx rfl (hb hby at_77) rfl rfl ?_
      show Steps p.tables e below (T53.setTop (mkF m 78 #[.val (.long d0), .second, .val (.long d1), .second, .val (.long d2), .second, .val (.long f0), .second, .val (.long f1), .second, .val (.int sh), .val (.int (2 : Int32)), .val (.long v11), .second, .val (.ref b1), .unset, .unset, .unset, .unset] [(.ref b48), (.ref b48)])) _
      refine XS.iconst X53.here hx rfl (hb hby at_78) ?_
      show Steps p.tables e below (T53.setTop (mkF m 79 #[.val (.long d0), .second, .val (.long d1), .second, .val (.long d2), .second, .val (.long f0), .second, .val (.long f1), .second, .val (.int sh), .val (.int (2 : Int32)), .val (.long v11), .second, .val (.ref b1), .unset, .unset, .unset, .unset] [(.int (1 : Int32)), (.ref b48), (.ref b48)])) _
      refine XS.lload X53.here hx rfl (hb hby at_79) rfl ?_
      show Steps p.tables e below (T53.setTop (mkF m 81 #[.val (.long d0), .second, .val (.long d1), .second, .val (.long d2), .second, .val (.long f0), .second, .val (.long f1), .second, .val (.int sh), .val (.int (2 : Int32)), .val (.long v11), .second, .val (.ref b1), .unset, .unset, .unset, .unset] [(.long f1), (.int (1 : Int32)), (.ref b48), (.ref b48)])) _
      refine st58 _ ?_
      show Steps p.tables e below (T58.setTop (mkF m 82 #[.val (.long d0), .second, .val (.long d1), .second, .val (.long d2), .second, .val (.long f0), .second, .val (.long f1), .second, .val (.int sh), .val (.int (2 : Int32)), .val (.long v11), .second, .val (.ref b1), .unset, .unset, .unset, .unset] [(.ref b48)])) _
      refine XS.astore X58.here hx rfl (hb hby at_82) rfl rfl (l' := #[.val (.long d0), .second, .val (.long d1), .second, .val (.long d2), .second, .val (.long f0), .second, .val (.long f1), .second, .val (.int sh), .val (.int (2 : Int32)), .val (.long v11), .second, .val (.ref b1), .val (.ref b48), .unset, .unset, .unset]) rfl ?_
      show Steps p.tables e below (T58.setTop (mkF m 84 #[.val (.long d0), .second, .val (.long d1), .second, .val (.long d2), .second, .val (.long f0), .second, .val (.long f1), .second, .val (.int sh), .val (.int (2 : Int32)), .val (.long v11), .second, .val (.ref b1), .val (.ref b48), .unset, .unset, .unset] [])) _
      refine XS.goto X58.here hx rfl (pc0 := 84) (pc' := 107) rfl (hb hby at_84) (by decide) (by decide) ?_
      show Steps p.tables e below (T58.setTop (mkF m 107 #[.val (.long d0), .second, .val (.long d1), .second, .val (.long d2), .second, .val (.long f0), .second, .val (.long f1), .second, .val (.int sh), .val (.int (2 : Int32)), .val (.long v11), .second, .val (.ref b1), .val (.ref b48), .unset, .unset, .unset] [])) _
      refine XS.iload X58.here hx rfl (hb hby at_107) rfl ?_
      show Steps p.tables e below (T58.setTop (mkF m 109 #[.val (.long d0), .second, .val (.long d1), .second, .val (.long d2), .second, .val (.long f0), .second, .val (.long f1), .second, .val (.int sh), .val (.int (2 : Int32)), .val (.long v11), .second, .val (.ref b1), .val (.ref b48), .unset, .unset, .unset] [(.int (2 : Int32))])) _
      refine XS.iconst X58.here hx rfl (hb hby at_109) ?_
      show Steps p.tables e below (T58.setTop (mkF m 110 #[.val (.long d0), .second, .val (.long d1), .second, .val (.long d2), .second, .val (.long f0), .second, .val (.long f1), .second, .val (.int sh), .val (.int (2 : Int32)), .val (.long v11), .second, .val (.ref b1), .val (.ref b48), .unset, .unset, .unset] [(.int (1 : Int32)), (.int (2 : Int32))])) _
      refine XS.icmpNo X58.here hx rfl (hb hby at_110) rfl (flt (by decide)).1 ?_
      show Steps p.tables e below (T58.setTop (mkF m 113 #[.val (.long d0), .second, .val (.long d1), .second, .val (.long d2), .second, .val (.long f0), .second, .val (.long f1), .second, .val (.int sh), .val (.int (2 : Int32)), .val (.long v11), .second, .val (.ref b1), .val (.ref b48), .unset, .unset, .unset] [])) _
      refine XS.lloadN X58.here hx rfl (hb hby at_113) rfl ?_
      show Steps p.tables e below (T58.setTop (mkF m 114 #[.val (.long d0), .second, .val (.long d1), .second, .val (.long d2), .second, .val (.long f0), .second, .val (.long f1), .second, .val (.int sh), .val (.int (2 : Int32)), .val (.long v11), .second, .val (.ref b1), .val (.ref b48), .unset, .unset, .unset] [(.long d0)])) _
      refine XS.lload X58.here hx rfl (hb hby at_114) rfl ?_
      show Steps p.tables e below (T58.setTop (mkF m 116 #[.val (.long d0), .second, .val (.long d1), .second, .val (.long d2), .second, .val (.long f0), .second, .val (.long f1), .second, .val (.int sh), .val (.int (2 : Int32)), .val (.long v11), .second, .val (.ref b1), .val (.ref b48), .unset, .unset, .unset] [(.long f0), (.long d0)])) _
      refine XS.lcmp X58.here hx rfl (hb hby at_116) rfl ?_
      by_cases d63 : f0 < d0
      · skip
        show Steps p.tables e below (T58.setTop (mkF m 117 #[.val (.long d0), .second, .val (.long d1), .second, .val (.long d2), .second, .val (.long f0), .second, .val (.long f1), .second, .val (.int sh), .val (.int (2 : Int32)), .val (.long v11), .second, .val (.ref b1), .val (.ref b48), .unset, .unset, .unset] [(.int (lcmpW d0 f0))])) _
        refine XS.ifYes X58.here hx rfl (pc0 := 117) (pc' := 151) rfl (hb hby at_117) rfl ((if0 _ _).trans (tlt ((lw_gt d0 f0).2 d63)).2.2.1) (by decide) (by decide) ?_
        show Steps p.tables e below (T58.setTop (mkF m 151 #[.val (.long d0), .second, .val (.long d1), .second, .val (.long d2), .second, .val (.long f0), .second, .val (.long f1), .second, .val (.int sh), .val (.int (2 : Int32)), .val (.long v11), .second, .val (.ref b1), .val (.ref b48), .unset, .unset, .unset] [])) _
        refine XS.iconst X58.here hx rfl (hb hby at_151) ?_
        show Steps p.tables e below (T58.setTop (mkF m 152 #[.val (.long d0), .second, .val (.long d1), .second, .val (.long d2), .second, .val (.long f0), .second, .val (.long f1), .second, .val (.int sh), .val (.int (2 : Int32)), .val (.long v11), .second, .val (.ref b1), .val (.ref b48), .unset, .unset, .unset] [(.int (0 : Int32))])) _
        exact castTop (by simp only [hm152, if_pos d63]) kt
      · skip
        show Steps p.tables e below (T58.setTop (mkF m 117 #[.val (.long d0), .second, .val (.long d1), .second, .val (.long d2), .second, .val (.long f0), .second, .val (.long f1), .second, .val (.int sh), .val (.int (2 : Int32)), .val (.long v11), .second, .val (.ref b1), .val (.ref b48), .unset, .unset, .unset] [(.int (lcmpW d0 f0))])) _
        refine XS.ifNo X58.here hx rfl (hb hby at_117) rfl ((if0 _ _).trans (flt (mt (lw_gt d0 f0).1 d63)).2.2.1) ?_
        show Steps p.tables e below (T58.setTop (mkF m 120 #[.val (.long d0), .second, .val (.long d1), .second, .val (.long d2), .second, .val (.long f0), .second, .val (.long f1), .second, .val (.int sh), .val (.int (2 : Int32)), .val (.long v11), .second, .val (.ref b1), .val (.ref b48), .unset, .unset, .unset] [])) _
        refine XS.iload X58.here hx rfl (hb hby at_120) rfl ?_
        show Steps p.tables e below (T58.setTop (mkF m 122 #[.val (.long d0), .second, .val (.long d1), .second, .val (.long d2), .second, .val (.long f0), .second, .val (.long f1), .second, .val (.int sh), .val (.int (2 : Int32)), .val (.long v11), .second, .val (.ref b1), .val (.ref b48), .unset, .unset, .unset] [(.int (2 : Int32))])) _
        refine XS.iconst X58.here hx rfl (hb hby at_122) ?_
        show Steps p.tables e below (T58.setTop (mkF m 123 #[.val (.long d0), .second, .val (.long d1), .second, .val (.long d2), .second, .val (.long f0), .second, .val (.long f1), .second, .val (.int sh), .val (.int (2 : Int32)), .val (.long v11), .second, .val (.ref b1), .val (.ref b48), .unset, .unset, .unset] [(.int (2 : Int32)), (.int (2 : Int32))])) _
        refine XS.icmpNo X58.here hx rfl (hb hby at_123) rfl (flt (by decide)).1 ?_
        show Steps p.tables e below (T58.setTop (mkF m 126 #[.val (.long d0), .second, .val (.long d1), .second, .val (.long d2), .second, .val (.long f0), .second, .val (.long f1), .second, .val (.int sh), .val (.int (2 : Int32)), .val (.long v11), .second, .val (.ref b1), .val (.ref b48), .unset, .unset, .unset] [])) _
        refine XS.lloadN X58.here hx rfl (hb hby at_126) rfl ?_
        show Steps p.tables e below (T58.setTop (mkF m 127 #[.val (.long d0), .second, .val (.long d1), .second, .val (.long d2), .second, .val (.long f0), .second, .val (.long f1), .second, .val (.int sh), .val (.int (2 : Int32)), .val (.long v11), .second, .val (.ref b1), .val (.ref b48), .unset, .unset, .unset] [(.long d1)])) _
        refine XS.lload X58.here hx rfl (hb hby at_127) rfl ?_
        show Steps p.tables e below (T58.setTop (mkF m 129 #[.val (.long d0), .second, .val (.long d1), .second, .val (.long d2), .second, .val (.long f0), .second, .val (.long f1), .second, .val (.int sh), .val (.int (2 : Int32)), .val (.long v11), .second, .val (.ref b1), .val (.ref b48), .unset, .unset, .unset] [(.long f1), (.long d1)])) _
        refine XS.lcmp X58.here hx rfl (hb hby at_129) rfl ?_
        by_cases d64 : f1 < d1
        · skip
          show Steps p.tables e below (T58.setTop (mkF m 130 #[.val (.long d0), .second, .val (.long d1), .second, .val (.long d2), .second, .val (.long f0), .second, .val (.long f1), .second, .val (.int sh), .val (.int (2 : Int32)), .val (.long v11), .second, .val (.ref b1), .val (.ref b48), .unset, .unset, .unset] [(.int (lcmpW d1 f1))])) _
          refine XS.ifYes X58.here hx rfl (pc0 := 130) (pc' := 151) rfl (hb hby at_130) rfl ((if0 _ _).trans (tlt ((lw_gt d1 f1).2 d64)).2.2.1) (by decide) (by decide) ?_
          show Steps p.tables e below (T58.setTop (mkF m 151 #[.val (.long d0), .second, .val (.long d1), .second, .val (.long d2), .second, .val (.long f0), .second, .val (.long f1), .second, .val (.int sh), .val (.int (2 : Int32)), .val (.long v11), .second, .val (.ref b1), .val (.ref b48), .unset, .unset, .unset] [])) _
          refine XS.iconst X58.here hx rfl (hb hby at_151) ?_
          show Steps p.tables e below (T58.setTop (mkF m 152 #[.val (.long d0), .second, .val (.long d1), .second, .val (.long d2), .second, .val (.long f0), .second, .val (.long f1), .second, .val (.int sh), .val (.int (2 : Int32)), .val (.long v11), .second, .val (.ref b1), .val (.ref b48), .unset, .unset, .unset] [(.int (0 : Int32))])) _
          exact castTop (by simp only [hm152, if_neg d63, if_pos d64]) kt
        · skip
          show Steps p.tables e below (T58.setTop (mkF m 130 #[.val (.long d0), .second, .val (.long d1), .second, .val (.long d2), .second, .val (.long f0), .second, .val (.long f1), .second, .val (.int sh), .val (.int (2 : Int32)), .val (.long v11), .second, .val (.ref b1), .val (.ref b48), .unset, .unset, .unset] [(.int (lcmpW d1 f1))])) _
          refine XS.ifNo X58.here hx rfl (hb hby at_130) rfl ((if0 _ _).trans (flt (mt (lw_gt d1 f1).1 d64)).2.2.1) ?_
          show Steps p.tables e below (T58.setTop (mkF m 133 #[.val (.long d0), .second, .val (.long d1), .second, .val (.long d2), .second, .val (.long f0), .second, .val (.long f1), .second, .val (.int sh), .val (.int (2 : Int32)), .val (.long v11), .second, .val (.ref b1), .val (.ref b48), .unset, .unset, .unset] [])) _
          refine XS.iload X58.here hx rfl (hb hby at_133) rfl ?_
          show Steps p.tables e below (T58.setTop (mkF m 135 #[.val (.long d0), .second, .val (.long d1), .second, .val (.long d2), .second, .val (.long f0), .second, .val (.long f1), .second, .val (.int sh), .val (.int (2 : Int32)), .val (.long v11), .second, .val (.ref b1), .val (.ref b48), .unset, .unset, .unset] [(.int (2 : Int32))])) _
          refine XS.iconst X58.here hx rfl (hb hby at_135) ?_
          show Steps p.tables e below (T58.setTop (mkF m 136 #[.val (.long d0), .second, .val (.long d1), .second, .val (.long d2), .second, .val (.long f0), .second, .val (.long f1), .second, .val (.int sh), .val (.int (2 : Int32)), .val (.long v11), .second, .val (.ref b1), .val (.ref b48), .unset, .unset, .unset] [(.int (3 : Int32)), (.int (2 : Int32))])) _
          refine XS.icmpYes X58.here hx rfl (pc0 := 136) (pc' := 147) rfl (hb hby at_136) rfl (tlt (by decide)).1 (by decide) (by decide) ?_
          show Steps p.tables e below (T58.setTop (mkF m 147 #[.val (.long d0), .second, .val (.long d1), .second, .val (.long d2), .second, .val (.long f0), .second, .val (.long f1), .second, .val (.int sh), .val (.int (2 : Int32)), .val (.long v11), .second, .val (.ref b1), .val (.ref b48), .unset, .unset, .unset] [])) _
          refine XS.iconst X58.here hx rfl (hb hby at_147) ?_
          show Steps p.tables e below (T58.setTop (mkF m 148 #[.val (.long d0), .second, .val (.long d1), .second, .val (.long d2), .second, .val (.long f0), .second, .val (.long f1), .second, .val (.int sh), .val (.int (2 : Int32)), .val (.long v11), .second, .val (.ref b1), .val (.ref b48), .unset, .unset, .unset] [(.int (1 : Int32))])) _
          refine XS.goto X58.here hx rfl (pc0 := 148) (pc' := 152) rfl (hb hby at_148) (by decide) (by decide) ?_
          show Steps p.tables e below (T58.setTop (mkF m 152 #[.val (.long d0), .second, .val (.long d1), .second, .val (.long d2), .second, .val (.long f0), .second, .val (.long f1), .second, .val (.int sh), .val (.int (2 : Int32)), .val (.long v11), .second, .val (.ref b1), .val (.ref b48), .unset, .unset, .unset] [(.int (1 : Int32))])) _
          exact castTop (by simp only [hm152, if_neg d63, if_neg d64]) kt
    obtain ⟨_, _, ⟨T66, L66, k66, n66⟩, -, X66, ⟨Lc66, hQ66, l66, y66, z66⟩, st66⟩ := Jvm.LawKit.callS X58 hx (y := (⟨"com/example/evenkeel/evenkeel/MachineAllocation", "fits", "([J[J)Z"⟩ : MethodName)) hown (mvT hZ (hw _ (List.mem_of_getElem? (i := 1) rfl))) (mvT hZ (hw _ (List.mem_of_getElem? (i := 2) rfl))) (mvT hZ (hw _ (List.mem_of_getElem? (i := 3) rfl))) (mvT hZ (hw _ (List.mem_of_getElem? (i := 4) rfl))) (by decide) (backOf (W := 0) (rm1_2 l Z a0 hw [] b1 b48 kx1 kx48 d0 d1 d2 f0 f1 hX58 n0 Z61 F60 F59) hZ (hw _ (List.mem_of_getElem? (i := 4) rfl)) (hw _ (List.mem_of_getElem? (i := 3) rfl)) (by decide) (by decide)) (g := (mkF m 158 #[.val (.long d0), .second, .val (.long d1), .second, .val (.long d2), .second, .val (.long f0), .second, .val (.long f1), .second, .val (.int sh), .val (.int (2 : Int32)), .val (.long v11), .second, .val (.ref b1), .val (.ref b48), .val (.int m152), .unset, .unset] [(.ref b48), (.ref b1)])) rfl (by rw [hml]; rfl) (argsL := [(.ref b1), (.ref b48)]) (rest := []) (lenOf pd_0 rfl) rfl (by show 2 * 0 + _ ≤ _; exact Nat.le_of_eq rfl) (hb hby at_158) (fun _ _ => ⟨rfl, e58, (by decide : 2 + 0 ≤ _), (by decide : 5 + 0 ≤ _)⟩)
    dsimp only [Pt.U, Pt.locs, Pt.cells, Pt.slots] at X66 l66 y66 z66 st66 hQ66
    subst l66 y66 z66
    obtain ⟨rfl, N66q, e66⟩ := hQ66
    have N66 := Fr.app N58 N66q
    obtain ⟨r158, hr158⟩ : ∃ z_q : Int32, z_q = (own_fits2 d0 d1 f0 f1) := ⟨_, rfl⟩
    obtain ⟨cl67, Ar67, q67, S67, M67, H67, G67⟩ := id F60
    have hin67 : ¬ ((0 : Int32) < 0 ∨ cl67.slots.size ≤ ((0 : Int32)).toNatClampNeg) := inb_of S67 ⟨by decide, by decide⟩
    have hat67 : cl67.slots[((0 : Int32)).toNatClampNeg]? = some (.long d0) := Has.at H67 hin67 rfl
    obtain ⟨cl68, Ar68, q68, S68, M68, H68, G68⟩ := id F60
    have hin68 : ¬ ((1 : Int32) < 0 ∨ cl68.slots.size ≤ ((1 : Int32)).toNatClampNeg) := inb_of S68 ⟨by decide, by decide⟩
    have hat68 : cl68.slots[((1 : Int32)).toNatClampNeg]? = some (.long d1) := Has.at H68 hin68 rfl
    obtain ⟨cl69, Ar69, q69, S69, M69, H69, G69⟩ := id F60
    have hin69 : ¬ ((2 : Int32) < 0 ∨ cl69.slots.size ≤ ((2 : Int32)).toNatClampNeg) := inb_of S69 ⟨by decide, by decide⟩
    have hat69 : cl69.slots[((2 : Int32)).toNatClampNeg]? = some (.long d2) := Has.at H69 hin69 rfl
    obtain ⟨cl70, Ar70, q70, S70, M70, H70, G70⟩ := id F59
    have hin70 : ¬ ((0 : Int32) < 0 ∨ cl70.slots.size ≤ ((0 : Int32)).toNatClampNeg) := inb_of S70 ⟨by decide, by decide⟩
    have hat70 : cl70.slots[((0 : Int32)).toNatClampNeg]? = some (.long f0) := Has.at H70 hin70 rfl
    obtain ⟨cl71, Ar71, q71, S71, M71, H71, G71⟩ := id F59
    have hin71 : ¬ ((1 : Int32) < 0 ∨ cl71.slots.size ≤ ((1 : Int32)).toNatClampNeg) := inb_of S71 ⟨by decide, by decide⟩
    have hat71 : cl71.slots[((1 : Int32)).toNatClampNeg]? = some (.long f1) := Has.at H71 hin71 rfl
    obtain ⟨m263, hm263⟩ : ∃ z_q : Int32, z_q = (if r158 = m152 then (1 : Int32) else (0 : Int32)) := ⟨_, rfl⟩
    have pre73 : ∀ tq, Steps p.tables e below (T66.setTop (mkF m 263 #[.val (.long d0), .second, .val (.long d1), .second, .val (.long d2), .second, .val (.long f0), .second, .val (.long f1), .second, .val (.int sh), .val (.int (2 : Int32)), .val (.long v11), .second, .val (.ref b1), .val (.ref b48), .val (.int m152), .val (.int r158), .val (.int (1 : Int32))] [(.int m263)])) tq → Steps p.tables e below (s₁.setTop (entryFrame m #[(.long d0), (.long d1), (.long d2), (.long f0), (.long f1), (.int sh)] maxLocals)) tq := by
      intro tq kt
      refine pre65 _ ?_
      show Steps p.tables e below (T58.setTop (mkF m 152 #[.val (.long d0), .second, .val (.long d1), .second, .val (.long d2), .second, .val (.long f0), .second, .val (.long f1), .second, .val (.int sh), .val (.int (2 : Int32)), .val (.long v11), .second, .val (.ref b1), .val (.ref b48), .unset, .unset, .unset] [(.int m152)])) _
      refine XS.istore X58.here hx rfl (hb hby at_152) rfl (l' := #[.val (.long d0), .second, .val (.long d1), .second, .val (.long d2), .second, .val (.long f0), .second, .val (.long f1), .second, .val (.int sh), .val (.int (2 : Int32)), .val (.long v11), .second, .val (.ref b1), .val (.ref b48), .val (.int m152), .unset, .unset]) rfl ?_
      show Steps p.tables e below (T58.setTop (mkF m 154 #[.val (.long d0), .second, .val (.long d1), .second, .val (.long d2), .second, .val (.long f0), .second, .val (.long f1), .second, .val (.int sh), .val (.int (2 : Int32)), .val (.long v11), .second, .val (.ref b1), .val (.ref b48), .val (.int m152), .unset, .unset] [])) _
      refine XS.aload X58.here hx rfl (hb hby at_154) rfl rfl ?_
      show Steps p.tables e below (T58.setTop (mkF m 156 #[.val (.long d0), .second, .val (.long d1), .second, .val (.long d2), .second, .val (.long f0), .second, .val (.long f1), .second, .val (.int sh), .val (.int (2 : Int32)), .val (.long v11), .second, .val (.ref b1), .val (.ref b48), .val (.int m152), .unset, .unset] [(.ref b1)])) _
      refine XS.aload X58.here hx rfl (hb hby at_156) rfl rfl ?_
      show Steps p.tables e below (T58.setTop (mkF m 158 #[.val (.long d0), .second, .val (.long d1), .second, .val (.long d2), .second, .val (.long f0), .second, .val (.long f1), .second, .val (.int sh), .val (.int (2 : Int32)), .val (.long v11), .second, .val (.ref b1), .val (.ref b48), .val (.int m152), .unset, .unset] [(.ref b48), (.ref b1)])) _
      refine st66 _ ?_
      show Steps p.tables e below (T66.setTop (mkF m 161 #[.val (.long d0), .second, .val (.long d1), .second, .val (.long d2), .second, .val (.long f0), .second, .val (.long f1), .second, .val (.int sh), .val (.int (2 : Int32)), .val (.long v11), .second, .val (.ref b1), .val (.ref b48), .val (.int m152), .unset, .unset] [(.int (own_fits2 d0 d1 f0 f1))])) _
      rw [← hr158]
      show Steps p.tables e below (T66.setTop (mkF m 161 #[.val (.long d0), .second, .val (.long d1), .second, .val (.long d2), .second, .val (.long f0), .second, .val (.long f1), .second, .val (.int sh), .val (.int (2 : Int32)), .val (.long v11), .second, .val (.ref b1), .val (.ref b48), .val (.int m152), .unset, .unset] [(.int r158)])) _
      refine XS.istore X66.here hx rfl (hb hby at_161) rfl (l' := #[.val (.long d0), .second, .val (.long d1), .second, .val (.long d2), .second, .val (.long f0), .second, .val (.long f1), .second, .val (.int sh), .val (.int (2 : Int32)), .val (.long v11), .second, .val (.ref b1), .val (.ref b48), .val (.int m152), .val (.int r158), .unset]) rfl ?_
      show Steps p.tables e below (T66.setTop (mkF m 163 #[.val (.long d0), .second, .val (.long d1), .second, .val (.long d2), .second, .val (.long f0), .second, .val (.long f1), .second, .val (.int sh), .val (.int (2 : Int32)), .val (.long v11), .second, .val (.ref b1), .val (.ref b48), .val (.int m152), .val (.int r158), .unset] [])) _
      refine XS.aload X66.here hx rfl (hb hby at_163) rfl rfl ?_
      show Steps p.tables e below (T66.setTop (mkF m 165 #[.val (.long d0), .second, .val (.long d1), .second, .val (.long d2), .second, .val (.long f0), .second, .val (.long f1), .second, .val (.int sh), .val (.int (2 : Int32)), .val (.long v11), .second, .val (.ref b1), .val (.ref b48), .val (.int m152), .val (.int r158), .unset] [(.ref b1)])) _
      refine XS.iconst X66.here hx rfl (hb hby at_165) ?_
      show Steps p.tables e below (T66.setTop (mkF m 166 #[.val (.long d0), .second, .val (.long d1), .second, .val (.long d2), .second, .val (.long f0), .second, .val (.long f1), .second, .val (.int sh), .val (.int (2 : Int32)), .val (.long v11), .second, .val (.ref b1), .val (.ref b48), .val (.int m152), .val (.int r158), .unset] [(.int (0 : Int32)), (.ref b1)])) _
      refine X66.laload hx (j := (0 : Int32)) (v := (.long d0)) (heq_of e66 Ar67.1) (State.isArrayOf_alike hZ.alike Ar67.2.1) Ar67.2.2 hin67 hat67 (g := (mkF m 166 #[.val (.long d0), .second, .val (.long d1), .second, .val (.long d2), .second, .val (.long f0), .second, .val (.long f1), .second, .val (.int sh), .val (.int (2 : Int32)), .val (.long v11), .second, .val (.ref b1), .val (.ref b48), .val (.int m152), .val (.int r158), .unset] [(.int (0 : Int32)), (.ref b1)])) rfl rfl (hb hby at_166) _ ?_
      show Steps p.tables e below (T66.setTop (mkF m 167 #[.val (.long d0), .second, .val (.long d1), .second, .val (.long d2), .second, .val (.long f0), .second, .val (.long f1), .second, .val (.int sh), .val (.int (2 : Int32)), .val (.long v11), .second, .val (.ref b1), .val (.ref b48), .val (.int m152), .val (.int r158), .unset] [(.long d0)])) _
      refine XS.lloadN X66.here hx rfl (hb hby at_167) rfl ?_
      show Steps p.tables e below (T66.setTop (mkF m 168 #[.val (.long d0), .second, .val (.long d1), .second, .val (.long d2), .second, .val (.long f0), .second, .val (.long f1), .second, .val (.int sh), .val (.int (2 : Int32)), .val (.long v11), .second, .val (.ref b1), .val (.ref b48), .val (.int m152), .val (.int r158), .unset] [(.long d0), (.long d0)])) _
      refine XS.lcmp X66.here hx rfl (hb hby at_168) rfl ?_
      show Steps p.tables e below (T66.setTop (mkF m 169 #[.val (.long d0), .second, .val (.long d1), .second, .val (.long d2), .second, .val (.long f0), .second, .val (.long f1), .second, .val (.int sh), .val (.int (2 : Int32)), .val (.long v11), .second, .val (.ref b1), .val (.ref b48), .val (.int m152), .val (.int r158), .unset] [(.int (lcmpW d0 d0))])) _
      refine XS.ifNo X66.here hx rfl (hb hby at_169) rfl ((if0 _ _).trans (teq ((lw_eq d0 d0).2 rfl)).2) ?_
      show Steps p.tables e below (T66.setTop (mkF m 172 #[.val (.long d0), .second, .val (.long d1), .second, .val (.long d2), .second, .val (.long f0), .second, .val (.long f1), .second, .val (.int sh), .val (.int (2 : Int32)), .val (.long v11), .second, .val (.ref b1), .val (.ref b48), .val (.int m152), .val (.int r158), .unset] [])) _
      refine XS.aload X66.here hx rfl (hb hby at_172) rfl rfl ?_
      show Steps p.tables e below (T66.setTop (mkF m 174 #[.val (.long d0), .second, .val (.long d1), .second, .val (.long d2), .second, .val (.long f0), .second, .val (.long f1), .second, .val (.int sh), .val (.int (2 : Int32)), .val (.long v11), .second, .val (.ref b1), .val (.ref b48), .val (.int m152), .val (.int r158), .unset] [(.ref b1)])) _
      refine XS.iconst X66.here hx rfl (hb hby at_174) ?_
      show Steps p.tables e below (T66.setTop (mkF m 175 #[.val (.long d0), .second, .val (.long d1), .second, .val (.long d2), .second, .val (.long f0), .second, .val (.long f1), .second, .val (.int sh), .val (.int (2 : Int32)), .val (.long v11), .second, .val (.ref b1), .val (.ref b48), .val (.int m152), .val (.int r158), .unset] [(.int (1 : Int32)), (.ref b1)])) _
      refine X66.laload hx (j := (1 : Int32)) (v := (.long d1)) (heq_of e66 Ar68.1) (State.isArrayOf_alike hZ.alike Ar68.2.1) Ar68.2.2 hin68 hat68 (g := (mkF m 175 #[.val (.long d0), .second, .val (.long d1), .second, .val (.long d2), .second, .val (.long f0), .second, .val (.long f1), .second, .val (.int sh), .val (.int (2 : Int32)), .val (.long v11), .second, .val (.ref b1), .val (.ref b48), .val (.int m152), .val (.int r158), .unset] [(.int (1 : Int32)), (.ref b1)])) rfl rfl (hb hby at_175) _ ?_
      show Steps p.tables e below (T66.setTop (mkF m 176 #[.val (.long d0), .second, .val (.long d1), .second, .val (.long d2), .second, .val (.long f0), .second, .val (.long f1), .second, .val (.int sh), .val (.int (2 : Int32)), .val (.long v11), .second, .val (.ref b1), .val (.ref b48), .val (.int m152), .val (.int r158), .unset] [(.long d1)])) _
      refine XS.lloadN X66.here hx rfl (hb hby at_176) rfl ?_
      show Steps p.tables e below (T66.setTop (mkF m 177 #[.val (.long d0), .second, .val (.long d1), .second, .val (.long d2), .second, .val (.long f0), .second, .val (.long f1), .second, .val (.int sh), .val (.int (2 : Int32)), .val (.long v11), .second, .val (.ref b1), .val (.ref b48), .val (.int m152), .val (.int r158), .unset] [(.long d1), (.long d1)])) _
      refine XS.lcmp X66.here hx rfl (hb hby at_177) rfl ?_
      show Steps p.tables e below (T66.setTop (mkF m 178 #[.val (.long d0), .second, .val (.long d1), .second, .val (.long d2), .second, .val (.long f0), .second, .val (.long f1), .second, .val (.int sh), .val (.int (2 : Int32)), .val (.long v11), .second, .val (.ref b1), .val (.ref b48), .val (.int m152), .val (.int r158), .unset] [(.int (lcmpW d1 d1))])) _
      refine XS.ifNo X66.here hx rfl (hb hby at_178) rfl ((if0 _ _).trans (teq ((lw_eq d1 d1).2 rfl)).2) ?_
      show Steps p.tables e below (T66.setTop (mkF m 181 #[.val (.long d0), .second, .val (.long d1), .second, .val (.long d2), .second, .val (.long f0), .second, .val (.long f1), .second, .val (.int sh), .val (.int (2 : Int32)), .val (.long v11), .second, .val (.ref b1), .val (.ref b48), .val (.int m152), .val (.int r158), .unset] [])) _
      refine XS.aload X66.here hx rfl (hb hby at_181) rfl rfl ?_
      show Steps p.tables e below (T66.setTop (mkF m 183 #[.val (.long d0), .second, .val (.long d1), .second, .val (.long d2), .second, .val (.long f0), .second, .val (.long f1), .second, .val (.int sh), .val (.int (2 : Int32)), .val (.long v11), .second, .val (.ref b1), .val (.ref b48), .val (.int m152), .val (.int r158), .unset] [(.ref b1)])) _
      refine XS.iconst X66.here hx rfl (hb hby at_183) ?_
      show Steps p.tables e below (T66.setTop (mkF m 184 #[.val (.long d0), .second, .val (.long d1), .second, .val (.long d2), .second, .val (.long f0), .second, .val (.long f1), .second, .val (.int sh), .val (.int (2 : Int32)), .val (.long v11), .second, .val (.ref b1), .val (.ref b48), .val (.int m152), .val (.int r158), .unset] [(.int (2 : Int32)), (.ref b1)])) _
      refine X66.laload hx (j := (2 : Int32)) (v := (.long d2)) (heq_of e66 Ar69.1) (State.isArrayOf_alike hZ.alike Ar69.2.1) Ar69.2.2 hin69 hat69 (g := (mkF m 184 #[.val (.long d0), .second, .val (.long d1), .second, .val (.long d2), .second, .val (.long f0), .second, .val (.long f1), .second, .val (.int sh), .val (.int (2 : Int32)), .val (.long v11), .second, .val (.ref b1), .val (.ref b48), .val (.int m152), .val (.int r158), .unset] [(.int (2 : Int32)), (.ref b1)])) rfl rfl (hb hby at_184) _ ?_
      show Steps p.tables e below (T66.setTop (mkF m 185 #[.val (.long d0), .second, .val (.long d1), .second, .val (.long d2), .second, .val (.long f0), .second, .val (.long f1), .second, .val (.int sh), .val (.int (2 : Int32)), .val (.long v11), .second, .val (.ref b1), .val (.ref b48), .val (.int m152), .val (.int r158), .unset] [(.long d2)])) _
      refine XS.lload X66.here hx rfl (hb hby at_185) rfl ?_
      show Steps p.tables e below (T66.setTop (mkF m 187 #[.val (.long d0), .second, .val (.long d1), .second, .val (.long d2), .second, .val (.long f0), .second, .val (.long f1), .second, .val (.int sh), .val (.int (2 : Int32)), .val (.long v11), .second, .val (.ref b1), .val (.ref b48), .val (.int m152), .val (.int r158), .unset] [(.long d2), (.long d2)])) _
      refine XS.lcmp X66.here hx rfl (hb hby at_187) rfl ?_
      show Steps p.tables e below (T66.setTop (mkF m 188 #[.val (.long d0), .second, .val (.long d1), .second, .val (.long d2), .second, .val (.long f0), .second, .val (.long f1), .second, .val (.int sh), .val (.int (2 : Int32)), .val (.long v11), .second, .val (.ref b1), .val (.ref b48), .val (.int m152), .val (.int r158), .unset] [(.int (lcmpW d2 d2))])) _
      refine XS.ifNo X66.here hx rfl (hb hby at_188) rfl ((if0 _ _).trans (teq ((lw_eq d2 d2).2 rfl)).2) ?_
      show Steps p.tables e below (T66.setTop (mkF m 191 #[.val (.long d0), .second, .val (.long d1), .second, .val (.long d2), .second, .val (.long f0), .second, .val (.long f1), .second, .val (.int sh), .val (.int (2 : Int32)), .val (.long v11), .second, .val (.ref b1), .val (.ref b48), .val (.int m152), .val (.int r158), .unset] [])) _
      refine XS.iload X66.here hx rfl (hb hby at_191) rfl ?_
      show Steps p.tables e below (T66.setTop (mkF m 193 #[.val (.long d0), .second, .val (.long d1), .second, .val (.long d2), .second, .val (.long f0), .second, .val (.long f1), .second, .val (.int sh), .val (.int (2 : Int32)), .val (.long v11), .second, .val (.ref b1), .val (.ref b48), .val (.int m152), .val (.int r158), .unset] [(.int (2 : Int32))])) _
      refine XS.iconst X66.here hx rfl (hb hby at_193) ?_
      show Steps p.tables e below (T66.setTop (mkF m 194 #[.val (.long d0), .second, .val (.long d1), .second, .val (.long d2), .second, .val (.long f0), .second, .val (.long f1), .second, .val (.int sh), .val (.int (2 : Int32)), .val (.long v11), .second, .val (.ref b1), .val (.ref b48), .val (.int m152), .val (.int r158), .unset] [(.int (1 : Int32)), (.int (2 : Int32))])) _
      refine XS.icmpNo X66.here hx rfl (hb hby at_194) rfl (flt (by decide)).1 ?_
      show Steps p.tables e below (T66.setTop (mkF m 197 #[.val (.long d0), .second, .val (.long d1), .second, .val (.long d2), .second, .val (.long f0), .second, .val (.long f1), .second, .val (.int sh), .val (.int (2 : Int32)), .val (.long v11), .second, .val (.ref b1), .val (.ref b48), .val (.int m152), .val (.int r158), .unset] [])) _
      refine XS.aload X66.here hx rfl (hb hby at_197) rfl rfl ?_
      show Steps p.tables e below (T66.setTop (mkF m 199 #[.val (.long d0), .second, .val (.long d1), .second, .val (.long d2), .second, .val (.long f0), .second, .val (.long f1), .second, .val (.int sh), .val (.int (2 : Int32)), .val (.long v11), .second, .val (.ref b1), .val (.ref b48), .val (.int m152), .val (.int r158), .unset] [(.ref b48)])) _
      refine XS.iconst X66.here hx rfl (hb hby at_199) ?_
      show Steps p.tables e below (T66.setTop (mkF m 200 #[.val (.long d0), .second, .val (.long d1), .second, .val (.long d2), .second, .val (.long f0), .second, .val (.long f1), .second, .val (.int sh), .val (.int (2 : Int32)), .val (.long v11), .second, .val (.ref b1), .val (.ref b48), .val (.int m152), .val (.int r158), .unset] [(.int (0 : Int32)), (.ref b48)])) _
      refine X66.laload hx (j := (0 : Int32)) (v := (.long f0)) (heq_of e66 Ar70.1) (State.isArrayOf_alike hZ.alike Ar70.2.1) Ar70.2.2 hin70 hat70 (g := (mkF m 200 #[.val (.long d0), .second, .val (.long d1), .second, .val (.long d2), .second, .val (.long f0), .second, .val (.long f1), .second, .val (.int sh), .val (.int (2 : Int32)), .val (.long v11), .second, .val (.ref b1), .val (.ref b48), .val (.int m152), .val (.int r158), .unset] [(.int (0 : Int32)), (.ref b48)])) rfl rfl (hb hby at_200) _ ?_
      show Steps p.tables e below (T66.setTop (mkF m 201 #[.val (.long d0), .second, .val (.long d1), .second, .val (.long d2), .second, .val (.long f0), .second, .val (.long f1), .second, .val (.int sh), .val (.int (2 : Int32)), .val (.long v11), .second, .val (.ref b1), .val (.ref b48), .val (.int m152), .val (.int r158), .unset] [(.long f0)])) _
      refine XS.lload X66.here hx rfl (hb hby at_201) rfl ?_
      show Steps p.tables e below (T66.setTop (mkF m 203 #[.val (.long d0), .second, .val (.long d1), .second, .val (.long d2), .second, .val (.long f0), .second, .val (.long f1), .second, .val (.int sh), .val (.int (2 : Int32)), .val (.long v11), .second, .val (.ref b1), .val (.ref b48), .val (.int m152), .val (.int r158), .unset] [(.long f0), (.long f0)])) _
      refine XS.lcmp X66.here hx rfl (hb hby at_203) rfl ?_
      show Steps p.tables e below (T66.setTop (mkF m 204 #[.val (.long d0), .second, .val (.long d1), .second, .val (.long d2), .second, .val (.long f0), .second, .val (.long f1), .second, .val (.int sh), .val (.int (2 : Int32)), .val (.long v11), .second, .val (.ref b1), .val (.ref b48), .val (.int m152), .val (.int r158), .unset] [(.int (lcmpW f0 f0))])) _
      refine XS.ifNo X66.here hx rfl (hb hby at_204) rfl ((if0 _ _).trans (teq ((lw_eq f0 f0).2 rfl)).2) ?_
      show Steps p.tables e below (T66.setTop (mkF m 207 #[.val (.long d0), .second, .val (.long d1), .second, .val (.long d2), .second, .val (.long f0), .second, .val (.long f1), .second, .val (.int sh), .val (.int (2 : Int32)), .val (.long v11), .second, .val (.ref b1), .val (.ref b48), .val (.int m152), .val (.int r158), .unset] [])) _
      refine XS.iload X66.here hx rfl (hb hby at_207) rfl ?_
      show Steps p.tables e below (T66.setTop (mkF m 209 #[.val (.long d0), .second, .val (.long d1), .second, .val (.long d2), .second, .val (.long f0), .second, .val (.long f1), .second, .val (.int sh), .val (.int (2 : Int32)), .val (.long v11), .second, .val (.ref b1), .val (.ref b48), .val (.int m152), .val (.int r158), .unset] [(.int (2 : Int32))])) _
      refine XS.iconst X66.here hx rfl (hb hby at_209) ?_
      show Steps p.tables e below (T66.setTop (mkF m 210 #[.val (.long d0), .second, .val (.long d1), .second, .val (.long d2), .second, .val (.long f0), .second, .val (.long f1), .second, .val (.int sh), .val (.int (2 : Int32)), .val (.long v11), .second, .val (.ref b1), .val (.ref b48), .val (.int m152), .val (.int r158), .unset] [(.int (2 : Int32)), (.int (2 : Int32))])) _
      refine XS.icmpNo X66.here hx rfl (hb hby at_210) rfl (flt (by decide)).1 ?_
      show Steps p.tables e below (T66.setTop (mkF m 213 #[.val (.long d0), .second, .val (.long d1), .second, .val (.long d2), .second, .val (.long f0), .second, .val (.long f1), .second, .val (.int sh), .val (.int (2 : Int32)), .val (.long v11), .second, .val (.ref b1), .val (.ref b48), .val (.int m152), .val (.int r158), .unset] [])) _
      refine XS.aload X66.here hx rfl (hb hby at_213) rfl rfl ?_
      show Steps p.tables e below (T66.setTop (mkF m 215 #[.val (.long d0), .second, .val (.long d1), .second, .val (.long d2), .second, .val (.long f0), .second, .val (.long f1), .second, .val (.int sh), .val (.int (2 : Int32)), .val (.long v11), .second, .val (.ref b1), .val (.ref b48), .val (.int m152), .val (.int r158), .unset] [(.ref b48)])) _
      refine XS.iconst X66.here hx rfl (hb hby at_215) ?_
      show Steps p.tables e below (T66.setTop (mkF m 216 #[.val (.long d0), .second, .val (.long d1), .second, .val (.long d2), .second, .val (.long f0), .second, .val (.long f1), .second, .val (.int sh), .val (.int (2 : Int32)), .val (.long v11), .second, .val (.ref b1), .val (.ref b48), .val (.int m152), .val (.int r158), .unset] [(.int (1 : Int32)), (.ref b48)])) _
      refine X66.laload hx (j := (1 : Int32)) (v := (.long f1)) (heq_of e66 Ar71.1) (State.isArrayOf_alike hZ.alike Ar71.2.1) Ar71.2.2 hin71 hat71 (g := (mkF m 216 #[.val (.long d0), .second, .val (.long d1), .second, .val (.long d2), .second, .val (.long f0), .second, .val (.long f1), .second, .val (.int sh), .val (.int (2 : Int32)), .val (.long v11), .second, .val (.ref b1), .val (.ref b48), .val (.int m152), .val (.int r158), .unset] [(.int (1 : Int32)), (.ref b48)])) rfl rfl (hb hby at_216) _ ?_
      show Steps p.tables e below (T66.setTop (mkF m 217 #[.val (.long d0), .second, .val (.long d1), .second, .val (.long d2), .second, .val (.long f0), .second, .val (.long f1), .second, .val (.int sh), .val (.int (2 : Int32)), .val (.long v11), .second, .val (.ref b1), .val (.ref b48), .val (.int m152), .val (.int r158), .unset] [(.long f1)])) _
      refine XS.lload X66.here hx rfl (hb hby at_217) rfl ?_
      show Steps p.tables e below (T66.setTop (mkF m 219 #[.val (.long d0), .second, .val (.long d1), .second, .val (.long d2), .second, .val (.long f0), .second, .val (.long f1), .second, .val (.int sh), .val (.int (2 : Int32)), .val (.long v11), .second, .val (.ref b1), .val (.ref b48), .val (.int m152), .val (.int r158), .unset] [(.long f1), (.long f1)])) _
      refine XS.lcmp X66.here hx rfl (hb hby at_219) rfl ?_
      show Steps p.tables e below (T66.setTop (mkF m 220 #[.val (.long d0), .second, .val (.long d1), .second, .val (.long d2), .second, .val (.long f0), .second, .val (.long f1), .second, .val (.int sh), .val (.int (2 : Int32)), .val (.long v11), .second, .val (.ref b1), .val (.ref b48), .val (.int m152), .val (.int r158), .unset] [(.int (lcmpW f1 f1))])) _
      refine XS.ifNo X66.here hx rfl (hb hby at_220) rfl ((if0 _ _).trans (teq ((lw_eq f1 f1).2 rfl)).2) ?_
      show Steps p.tables e below (T66.setTop (mkF m 223 #[.val (.long d0), .second, .val (.long d1), .second, .val (.long d2), .second, .val (.long f0), .second, .val (.long f1), .second, .val (.int sh), .val (.int (2 : Int32)), .val (.long v11), .second, .val (.ref b1), .val (.ref b48), .val (.int m152), .val (.int r158), .unset] [])) _
      refine XS.iload X66.here hx rfl (hb hby at_223) rfl ?_
      show Steps p.tables e below (T66.setTop (mkF m 225 #[.val (.long d0), .second, .val (.long d1), .second, .val (.long d2), .second, .val (.long f0), .second, .val (.long f1), .second, .val (.int sh), .val (.int (2 : Int32)), .val (.long v11), .second, .val (.ref b1), .val (.ref b48), .val (.int m152), .val (.int r158), .unset] [(.int (2 : Int32))])) _
      refine XS.iconst X66.here hx rfl (hb hby at_225) ?_
      show Steps p.tables e below (T66.setTop (mkF m 226 #[.val (.long d0), .second, .val (.long d1), .second, .val (.long d2), .second, .val (.long f0), .second, .val (.long f1), .second, .val (.int sh), .val (.int (2 : Int32)), .val (.long v11), .second, .val (.ref b1), .val (.ref b48), .val (.int m152), .val (.int r158), .unset] [(.int (3 : Int32)), (.int (2 : Int32))])) _
      refine XS.icmpYes X66.here hx rfl (pc0 := 226) (pc' := 239) rfl (hb hby at_226) rfl (tlt (by decide)).1 (by decide) (by decide) ?_
      show Steps p.tables e below (T66.setTop (mkF m 239 #[.val (.long d0), .second, .val (.long d1), .second, .val (.long d2), .second, .val (.long f0), .second, .val (.long f1), .second, .val (.int sh), .val (.int (2 : Int32)), .val (.long v11), .second, .val (.ref b1), .val (.ref b48), .val (.int m152), .val (.int r158), .unset] [])) _
      refine XS.iconst X66.here hx rfl (hb hby at_239) ?_
      show Steps p.tables e below (T66.setTop (mkF m 240 #[.val (.long d0), .second, .val (.long d1), .second, .val (.long d2), .second, .val (.long f0), .second, .val (.long f1), .second, .val (.int sh), .val (.int (2 : Int32)), .val (.long v11), .second, .val (.ref b1), .val (.ref b48), .val (.int m152), .val (.int r158), .unset] [(.int (1 : Int32))])) _
      refine XS.goto X66.here hx rfl (pc0 := 240) (pc' := 244) rfl (hb hby at_240) (by decide) (by decide) ?_
      show Steps p.tables e below (T66.setTop (mkF m 244 #[.val (.long d0), .second, .val (.long d1), .second, .val (.long d2), .second, .val (.long f0), .second, .val (.long f1), .second, .val (.int sh), .val (.int (2 : Int32)), .val (.long v11), .second, .val (.ref b1), .val (.ref b48), .val (.int m152), .val (.int r158), .unset] [(.int (1 : Int32))])) _
      refine XS.istore X66.here hx rfl (hb hby at_244) rfl (l' := #[.val (.long d0), .second, .val (.long d1), .second, .val (.long d2), .second, .val (.long f0), .second, .val (.long f1), .second, .val (.int sh), .val (.int (2 : Int32)), .val (.long v11), .second, .val (.ref b1), .val (.ref b48), .val (.int m152), .val (.int r158), .val (.int (1 : Int32))]) rfl ?_
      show Steps p.tables e below (T66.setTop (mkF m 246 #[.val (.long d0), .second, .val (.long d1), .second, .val (.long d2), .second, .val (.long f0), .second, .val (.long f1), .second, .val (.int sh), .val (.int (2 : Int32)), .val (.long v11), .second, .val (.ref b1), .val (.ref b48), .val (.int m152), .val (.int r158), .val (.int (1 : Int32))] [])) _
      refine XS.iload X66.here hx rfl (hb hby at_246) rfl ?_
      show Steps p.tables e below (T66.setTop (mkF m 248 #[.val (.long d0), .second, .val (.long d1), .second, .val (.long d2), .second, .val (.long f0), .second, .val (.long f1), .second, .val (.int sh), .val (.int (2 : Int32)), .val (.long v11), .second, .val (.ref b1), .val (.ref b48), .val (.int m152), .val (.int r158), .val (.int (1 : Int32))] [(.int r158)])) _
      refine XS.iload X66.here hx rfl (hb hby at_248) rfl ?_
      by_cases d72 : r158 = m152
      · skip
        show Steps p.tables e below (T66.setTop (mkF m 250 #[.val (.long d0), .second, .val (.long d1), .second, .val (.long d2), .second, .val (.long f0), .second, .val (.long f1), .second, .val (.int sh), .val (.int (2 : Int32)), .val (.long v11), .second, .val (.ref b1), .val (.ref b48), .val (.int m152), .val (.int r158), .val (.int (1 : Int32))] [(.int m152), (.int r158)])) _
        refine XS.icmpNo X66.here hx rfl (hb hby at_250) rfl (teq d72).2 ?_
        show Steps p.tables e below (T66.setTop (mkF m 253 #[.val (.long d0), .second, .val (.long d1), .second, .val (.long d2), .second, .val (.long f0), .second, .val (.long f1), .second, .val (.int sh), .val (.int (2 : Int32)), .val (.long v11), .second, .val (.ref b1), .val (.ref b48), .val (.int m152), .val (.int r158), .val (.int (1 : Int32))] [])) _
        refine XS.iload X66.here hx rfl (hb hby at_253) rfl ?_
        show Steps p.tables e below (T66.setTop (mkF m 255 #[.val (.long d0), .second, .val (.long d1), .second, .val (.long d2), .second, .val (.long f0), .second, .val (.long f1), .second, .val (.int sh), .val (.int (2 : Int32)), .val (.long v11), .second, .val (.ref b1), .val (.ref b48), .val (.int m152), .val (.int r158), .val (.int (1 : Int32))] [(.int (1 : Int32))])) _
        refine XS.ifNo X66.here hx rfl (hb hby at_255) rfl ((if0 _ _).trans (feq (by decide)).1) ?_
        show Steps p.tables e below (T66.setTop (mkF m 258 #[.val (.long d0), .second, .val (.long d1), .second, .val (.long d2), .second, .val (.long f0), .second, .val (.long f1), .second, .val (.int sh), .val (.int (2 : Int32)), .val (.long v11), .second, .val (.ref b1), .val (.ref b48), .val (.int m152), .val (.int r158), .val (.int (1 : Int32))] [])) _
        refine XS.iconst X66.here hx rfl (hb hby at_258) ?_
        show Steps p.tables e below (T66.setTop (mkF m 259 #[.val (.long d0), .second, .val (.long d1), .second, .val (.long d2), .second, .val (.long f0), .second, .val (.long f1), .second, .val (.int sh), .val (.int (2 : Int32)), .val (.long v11), .second, .val (.ref b1), .val (.ref b48), .val (.int m152), .val (.int r158), .val (.int (1 : Int32))] [(.int (1 : Int32))])) _
        refine XS.goto X66.here hx rfl (pc0 := 259) (pc' := 263) rfl (hb hby at_259) (by decide) (by decide) ?_
        show Steps p.tables e below (T66.setTop (mkF m 263 #[.val (.long d0), .second, .val (.long d1), .second, .val (.long d2), .second, .val (.long f0), .second, .val (.long f1), .second, .val (.int sh), .val (.int (2 : Int32)), .val (.long v11), .second, .val (.ref b1), .val (.ref b48), .val (.int m152), .val (.int r158), .val (.int (1 : Int32))] [(.int (1 : Int32))])) _
        exact castTop (by simp only [hm263, if_pos d72]) kt
      · skip
        show Steps p.tables e below (T66.setTop (mkF m 250 #[.val (.long d0), .second, .val (.long d1), .second, .val (.long d2), .second, .val (.long f0), .second, .val (.long f1), .second, .val (.int sh), .val (.int (2 : Int32)), .val (.long v11), .second, .val (.ref b1), .val (.ref b48), .val (.int m152), .val (.int r158), .val (.int (1 : Int32))] [(.int m152), (.int r158)])) _
        refine XS.icmpYes X66.here hx rfl (pc0 := 250) (pc' := 262) rfl (hb hby at_250) rfl (feq d72).2 (by decide) (by decide) ?_
        show Steps p.tables e below (T66.setTop (mkF m 262 #[.val (.long d0), .second, .val (.long d1), .second, .val (.long d2), .second, .val (.long f0), .second, .val (.long f1), .second, .val (.int sh), .val (.int (2 : Int32)), .val (.long v11), .second, .val (.ref b1), .val (.ref b48), .val (.int m152), .val (.int r158), .val (.int (1 : Int32))] [])) _
        refine XS.iconst X66.here hx rfl (hb hby at_262) ?_
        show Steps p.tables e below (T66.setTop (mkF m 263 #[.val (.long d0), .second, .val (.long d1), .second, .val (.long d2), .second, .val (.long f0), .second, .val (.long f1), .second, .val (.int sh), .val (.int (2 : Int32)), .val (.long v11), .second, .val (.ref b1), .val (.ref b48), .val (.int m152), .val (.int r158), .val (.int (1 : Int32))] [(.int (0 : Int32))])) _
        exact castTop (by simp only [hm263, if_neg d72]) kt
    obtain ⟨fs, hr, hrun, hended, hW, hsame⟩ := X66.leave (v := some (Value.int (nar .boolean m263))) (fun h => by rw [Bd.returns] at h; cases h)
    have hres74 : (nar .boolean m263) = (1 : Int32) := (own_leaf_0_263_s2 d0 d1 d2 f0 f1 sh hv4 v11 hv11 m152 hm152 r158 hr158 m263 hm263)
    refine ⟨_, _, pre73 _ ?_, hrun, hended, _, _, rfl, ?_, ⟨_, rfl⟩, hW, hsame.mono (by decide) (by decide)⟩
    · skip
      show Steps p.tables e below (T66.setTop (mkF m 263 #[.val (.long d0), .second, .val (.long d1), .second, .val (.long d2), .second, .val (.long f0), .second, .val (.long f1), .second, .val (.int sh), .val (.int (2 : Int32)), .val (.long v11), .second, .val (.ref b1), .val (.ref b48), .val (.int m152), .val (.int r158), .val (.int (1 : Int32))] [(.int m263)])) _
      exact retN X66 hx (t := .boolean) Bd.returns (by simp) (hb hby at_263) hr
    · show Q0 Z d0 d1 d2 f0 f1 sh h0 n0 _ T66.heap _
      rw [e66]
      exact ⟨congrArg (fun z => some (Value.int z)) hres74, N66⟩
  · subst hs18
    obtain ⟨T75, hX75, kx75, X75, e75, E75, A75, st75⟩ := newP X13 hx hZ (hw _ (List.mem_of_getElem? (i := 0) rfl)) e13 (g := (mkF m 88 #[.val (.long d0), .second, .val (.long d1), .second, .val (.long d2), .second, .val (.long f0), .second, .val (.long f1), .second, .val (.int sh), .val (.int (3 : Int32)), .val (.long v11), .second, .val (.ref b1), .unset, .unset, .unset, .unset] [(.int (3 : Int32))])) rfl (hb hby at_88) rfl (by decide) (cap := 3) (by decide) (by decide) (by decide) (by decide)
    obtain ⟨b75, g75⟩ : ∃ z_q, z_q = hX13.size := ⟨_, rfl⟩
    rw [← g75] at A75 st75
    have g_b75 : n0 ≤ b75 := Nat.le_trans Z15 (Nat.le_of_eq g75.symm)
    have sz_b75 : h0.size ≤ b75 := Nat.le_trans K16.1 (Nat.le_of_eq g75.symm)
    have ne_b1_b75 : b1 ≠ b75 := Nat.ne_of_lt (Nat.lt_of_lt_of_le F14.lt (Nat.le_of_eq g75.symm))
    have F76 : Arv Z hX75 b1 kx1 .long (3 : Int32) [(.long d0), (.long d1), (.long d2)] (.long (0 : Int64)) := F14.ext E75
    have Z77 : n0 ≤ hX75.size := Nat.le_trans Z15 E75.1
    have K78 : Keep h0 hX75 [] := K16.ext E75
    have F79 : Arv Z hX75 b75 kx75 .long (3 : Int32) [(.long (0 : Int64)), (.long (0 : Int64)), (.long (0 : Int64))] (.long (0 : Int64)) := (Arv.new A75 (by decide)).pad (pad_rep [] (.long (0 : Int64)) 3)
    obtain ⟨cl80, Ar80, q80, S80, M80, H80, G80⟩ := id F79
    have hin80 : ¬ ((0 : Int32) < 0 ∨ cl80.slots.size ≤ ((0 : Int32)).toNatClampNeg) := inb_of S80 ⟨by decide, by decide⟩
    obtain ⟨T80, hX80, X80, e80, W80, st80⟩ := stJ X75 hx hZ e75 Ar80 (j := (0 : Int32)) hin80 (g := (mkF m 94 #[.val (.long d0), .second, .val (.long d1), .second, .val (.long d2), .second, .val (.long f0), .second, .val (.long f1), .second, .val (.int sh), .val (.int (3 : Int32)), .val (.long v11), .second, .val (.ref b1), .unset, .unset, .unset, .unset] [(.long f0), (.int (0 : Int32)), (.ref b75), (.ref b75)])) rfl rfl (hb hby at_94)
    have F81 : Arv Z hX80 b75 kx75 .long (3 : Int32) [(.long f0), (.long (0 : Int64)), (.long (0 : Int64))] (.long (0 : Int64)) := Arv.set Ar80 q80 S80 M80 H80 G80 rfl W80 0 rfl (Nat.le_of_ble_eq_true rfl)
    have N80 := Fr.snoc X80 N13 g_b75
    have F82 : Arv Z hX80 b1 kx1 .long (3 : Int32) [(.long d0), (.long d1), (.long d2)] (.long (0 : Int64)) := F76.other W80 ne_b1_b75
    have Z83 : n0 ≤ hX80.size := Nat.le_trans Z77 (Keep.of_wr W80).1
    have K84 : Keep h0 hX80 [] := K78.wr W80 (Or.inr sz_b75)
    obtain ⟨cl85, Ar85, q85, S85, M85, H85, G85⟩ := id F81
    have hin85 : ¬ ((1 : Int32) < 0 ∨ cl85.slots.size ≤ ((1 : Int32)).toNatClampNeg) := inb_of S85 ⟨by decide, by decide⟩
    obtain ⟨T85, hX85, X85, e85, W85, st85⟩ := stJ X80 hx hZ e80 Ar85 (j := (1 : Int32)) hin85 (g := (mkF m 99 #[.val (.long d0), .second, .val (.long d1), .second, .val (.long d2), .second, .val (.long f0), .second, .val (.long f1), .second, .val (.int sh), .val (.int (3 : Int32)), .val (.long v11), .second, .val (.ref b1), .unset, .unset, .unset, .unset] [(.long f1), (.int (1 : Int32)), (.ref b75), (.ref b75)])) rfl rfl (hb hby at_99)
    have F86 : Arv Z hX85 b75 kx75 .long (3 : Int32) [(.long f0), (.long f1), (.long (0 : Int64))] (.long (0 : Int64)) := Arv.set Ar85 q85 S85 M85 H85 G85 rfl W85 1 rfl (Nat.le_of_ble_eq_true rfl)
    have N85 := Fr.snoc X85 N80 g_b75
    have F87 : Arv Z hX85 b1 kx1 .long (3 : Int32) [(.long d0), (.long d1), (.long d2)] (.long (0 : Int64)) := F82.other W85 ne_b1_b75
    have Z88 : n0 ≤ hX85.size := Nat.le_trans Z83 (Keep.of_wr W85).1
    have K89 : Keep h0 hX85 [] := K84.wr W85 (Or.inr sz_b75)
    obtain ⟨cl90, Ar90, q90, S90, M90, H90, G90⟩ := id F86
    have hin90 : ¬ ((2 : Int32) < 0 ∨ cl90.slots.size ≤ ((2 : Int32)).toNatClampNeg) := inb_of S90 ⟨by decide, by decide⟩
    obtain ⟨T90, hX90, X90, e90, W90, st90⟩ := stJ X85 hx hZ e85 Ar90 (j := (2 : Int32)) hin90 (g := (mkF m 104 #[.val (.long d0), .second, .val (.long d1), .second, .val (.long d2), .second, .val (.long f0), .second, .val (.long f1), .second, .val (.int sh), .val (.int (3 : Int32)), .val (.long v11), .second, .val (.ref b1), .unset, .unset, .unset, .unset] [(.long v11), (.int (2 : Int32)), (.ref b75), (.ref b75)])) rfl rfl (hb hby at_104)
    have F91 : Arv Z hX90 b75 kx75 .long (3 : Int32) [(.long f0), (.long f1), (.long v11)] (.long (0 : Int64)) := Arv.set Ar90 q90 S90 M90 H90 G90 rfl W90 2 rfl (Nat.le_of_ble_eq_true rfl)
    have N90 := Fr.snoc X90 N85 g_b75
    have F92 : Arv Z hX90 b1 kx1 .long (3 : Int32) [(.long d0), (.long d1), (.long d2)] (.long (0 : Int64)) := F87.other W90 ne_b1_b75
    have Z93 : n0 ≤ hX90.size := Nat.le_trans Z88 (Keep.of_wr W90).1
    have K94 : Keep h0 hX90 [] := K89.wr W90 (Or.inr sz_b75)
    obtain ⟨m152, hm152⟩ : ∃ z_q : Int32, z_q = (if f0 < d0 then (0 : Int32) else (if f1 < d1 then (0 : Int32) else (if v11 < d2 then (0 : Int32) else (1 : Int32)))) := ⟨_, rfl⟩
    have pre98 : ∀ tq, Steps p.tables e below (T90.setTop (mkF m 152 #[.val (.long d0), .second, .val (.long d1), .second, .val (.long d2), .second, .val (.long f0), .second, .val (.long f1), .second, .val (.int sh), .val (.int (3 : Int32)), .val (.long v11), .second, .val (.ref b1), .val (.ref b75), .unset, .unset, .unset] [(.int m152)])) tq → Steps p.tables e below (s₁.setTop (entryFrame m #[(.long d0), (.long d1), (.long d2), (.long f0), (.long f1), (.int sh)] maxLocals)) tq := by
      intro tq kt
      refine pre17 _ ?_
      show Steps p.tables e below (T13.setTop (mkF m 31 #[.val (.long d0), .second, .val (.long d1), .second, .val (.long d2), .second, .val (.long f0), .second, .val (.long f1), .second, .val (.int sh), .val (.int (3 : Int32)), .val (.long v11), .second, .val (.ref b1), .unset, .unset, .unset, .unset] [])) _
      refine XS.iload X13.here hx rfl (hb hby at_31) rfl ?_
      show Steps p.tables e below (T13.setTop (mkF m 33 #[.val (.long d0), .second, .val (.long d1), .second, .val (.long d2), .second, .val (.long f0), .second, .val (.long f1), .second, .val (.int sh), .val (.int (3 : Int32)), .val (.long v11), .second, .val (.ref b1), .unset, .unset, .unset, .unset] [(.int (3 : Int32))])) _
      refine XS.ifYes X13.here hx rfl (pc0 := 33) (pc' := 44) rfl (hb hby at_33) rfl ((if0 _ _).trans (feq (by decide)).2) (by decide) (by decide) ?_
      show Steps p.tables e below (T13.setTop (mkF m 44 #[.val (.long d0), .second, .val (.long d1), .second, .val (.long d2), .second, .val (.long f0), .second, .val (.long f1), .second, .val (.int sh), .val (.int (3 : Int32)), .val (.long v11), .second, .val (.ref b1), .unset, .unset, .unset, .unset] [])) _
      refine XS.iload X13.here hx rfl (hb hby at_44) rfl ?_
      show Steps p.tables e below (T13.setTop (mkF m 46 #[.val (.long d0), .second, .val (.long d1), .second, .val (.long d2), .second, .val (.long f0), .second, .val (.long f1), .second, .val (.int sh), .val (.int (3 : Int32)), .val (.long v11), .second, .val (.ref b1), .unset, .unset, .unset, .unset] [(.int (3 : Int32))])) _
      refine XS.iconst X13.here hx rfl (hb hby at_46) ?_
      show Steps p.tables e below (T13.setTop (mkF m 47 #[.val (.long d0), .second, .val (.long d1), .second, .val (.long d2), .second, .val (.long f0), .second, .val (.long f1), .second, .val (.int sh), .val (.int (3 : Int32)), .val (.long v11), .second, .val (.ref b1), .unset, .unset, .unset, .unset] [(.int (1 : Int32)), (.int (3 : Int32))])) _
      refine XS.icmpYes X13.here hx rfl (pc0 := 47) (pc' := 63) rfl (hb hby at_47) rfl (feq (by decide)).2 (by decide) (by decide) ?_
      show Steps p.tables e below (T13.setTop (mkF m 63 #[.val (.long d0), .second, .val (.long d1), .second, .val (.long d2), .second, .val (.long f0), .second, .val (.long f1), .second, .val (.int sh), .val (.int (3 : Int32)), .val (.long v11), .second, .val (.ref b1), .unset, .unset, .unset, .unset] [])) _
      refine XS.iload X13.here hx rfl (hb hby at_63) rfl ?_
      show Steps p.tables e below (T13.setTop (mkF m 65 #[.val (.long d0), .second, .val (.long d1), .second, .val (.long d2), .second, .val (.long f0), .second, .val (.long f1), .second, .val (.int sh), .val (.int (3 : Int32)), .val (.long v11), .second, .val (.ref b1), .unset, .unset, .unset, .unset] [(.int (3 : Int32))])) _
      refine XS.iconst X13.here hx rfl (hb hby at_65) ?_
      show Steps p.tables e below (T13.setTop (mkF m 66 #[.val (.long d0), .second, .val (.long d1), .second, .val (.long d2), .second, .val (.long f0), .second, .val (.long f1), .second, .val (.int sh), .val (.int (3 : Int32)), .val (.long v11), .second, .val (.ref b1), .unset, .unset, .unset, .unset] [(.int (2 : Int32)), (.int (3 : Int32))])) _
      refine XS.icmpYes X13.here hx rfl (pc0 := 66) (pc' := 87) rfl (hb hby at_66) rfl (feq (by decide)).2 (by decide) (by decide) ?_
      show Steps p.tables e below (T13.setTop (mkF m 87 #[.val (.long d0), .second, .val (.long d1), .second, .val (.long d2), .second, .val (.long f0), .second, .val (.long f1), .second, .val (.int sh), .val (.int (3 : Int32)), .val (.long v11), .second, .val (.ref b1), .unset, .unset, .unset, .unset] [])) _
      refine XS.iconst X13.here hx rfl (hb hby at_87) ?_
      show Steps p.tables e below (T13.setTop (mkF m 88 #[.val (.long d0), .second, .val (.long d1), .second, .val (.long d2), .second, .val (.long f0), .second, .val (.long f1), .second, .val (.int sh), .val (.int (3 : Int32)), .val (.long v11), .second, .val (.ref b1), .unset, .unset, .unset, .unset] [(.int (3 : Int32))])) _
      refine st75 _ ?_
      show Steps p.tables e below (T75.setTop (mkF m 90 #[.val (.long d0), .second, .val (.long d1), .second, .val (.long d2), .second, .val (.long f0), .second, .val (.long f1), .second, .val (.int sh), .val (.int (3 : Int32)), .val (.long v11), .second, .val (.ref b1), .unset, .unset, .unset, .unset] [(.ref b75)])) _
      refine XS.dup X75.here hx rfl (hb hby at_90) rfl rfl ?_
      show Steps p.tables e below (T75.setTop (mkF m 91 #[.val (.long d0), .second, .val (.long d1), .second, .val (.long d2), .second, .val (.long f0), .second, .val (.long f1), .second, .val (.int sh), .val (.int (3 : Int32)), .val (.long v11), .second, .val (.ref b1), .unset, .unset, .unset, .unset] [(.ref b75), (.ref b75)])) _
      refine XS.iconst X75.here hx rfl (hb hby at_91) ?_
      show Steps p.tables e below (T75.setTop (mkF m 92 #[.val (.long d0), .second, .val (.long d1), .second, .val (.long d2), .second, .val (.long f0), .second, .val (.long f1), .second, .val (.int sh), .val (.int (3 : Int32)), .val (.long v11), .second, .val (.ref b1), .unset, .unset, .unset, .unset] [(.int (0 : Int32)), (.ref b75), (.ref b75)])) _
      refine XS.lload X75.here hx rfl (hb hby at_92) rfl ?_
      show Steps p.tables e below (T75.setTop (mkF m 94 #[.val (.long d0), .second, .val (.long d1), .second, .val (.long d2), .second, .val (.long f0), .second, .val (.long f1), .second, .val (.int sh), .val (.int (3 : Int32)), .val (.long v11), .second, .val (.ref b1), .unset, .unset, .unset, .unset] [(.long f0), (.int (0 : Int32)), (.ref b75), (.ref b75)])) _
      refine st80 _ ?_
      show Steps p.tables e below (T80.setTop (mkF m 95 #[.val (.long d0), .second, .val (.long d1), .second, .val (.long d2), .second, .val (.long f0), .second, .val (.long f1), .second, .val (.int sh), .val (.int (3 : Int32)), .val (.long v11), .second, .val (.ref b1), .unset, .unset, .unset, .unset] [(.ref b75)])) _
      refine XS.dup X80.here hx rfl (hb hby at_95) rfl rfl ?_
      show Steps p.tables e below (T80.setTop (mkF m 96 #[.val (.long d0), .second, .val (.long d1), .second, .val (.long d2), .second, .val (.long f0), .second, .val (.long f1), .second, .val (.int sh), .val (.int (3 : Int32)), .val (.long v11), .second, .val (.ref b1), .unset, .unset, .unset, .unset] [(.ref b75), (.ref b75)])) _
      refine XS.iconst X80.here hx rfl (hb hby at_96) ?_
      show Steps p.tables e below (T80.setTop (mkF m 97 #[.val (.long d0), .second, .val (.long d1), .second, .val (.long d2), .second, .val (.long f0), .second, .val (.long f1), .second, .val (.int sh), .val (.int (3 : Int32)), .val (.long v11), .second, .val (.ref b1), .unset, .unset, .unset, .unset] [(.int (1 : Int32)), (.ref b75), (.ref b75)])) _
      refine XS.lload X80.here hx rfl (hb hby at_97) rfl ?_
      show Steps p.tables e below (T80.setTop (mkF m 99 #[.val (.long d0), .second, .val (.long d1), .second, .val (.long d2), .second, .val (.long f0), .second, .val (.long f1), .second, .val (.int sh), .val (.int (3 : Int32)), .val (.long v11), .second, .val (.ref b1), .unset, .unset, .unset, .unset] [(.long f1), (.int (1 : Int32)), (.ref b75), (.ref b75)])) _
      refine st85 _ ?_
      show Steps p.tables e below (T85.setTop (mkF m 100 #[.val (.long d0), .second, .val (.long d1), .second, .val (.long d2), .second, .val (.long f0), .second, .val (.long f1), .second, .val (.int sh), .val (.int (3 : Int32)), .val (.long v11), .second, .val (.ref b1), .unset, .unset, .unset, .unset] [(.ref b75)])) _
      refine XS.dup X85.here hx rfl (hb hby at_100) rfl rfl ?_
      show Steps p.tables e below (T85.setTop (mkF m 101 #[.val (.long d0), .second, .val (.long d1), .second, .val (.long d2), .second, .val (.long f0), .second, .val (.long f1), .second, .val (.int sh), .val (.int (3 : Int32)), .val (.long v11), .second, .val (.ref b1), .unset, .unset, .unset, .unset] [(.ref b75), (.ref b75)])) _
      refine XS.iconst X85.here hx rfl (hb hby at_101) ?_
      show Steps p.tables e below (T85.setTop (mkF m 102 #[.val (.long d0), .second, .val (.long d1), .second, .val (.long d2), .second, .val (.long f0), .second, .val (.long f1), .second, .val (.int sh), .val (.int (3 : Int32)), .val (.long v11), .second, .val (.ref b1), .unset, .unset, .unset, .unset] [(.int (2 : Int32)), (.ref b75), (.ref b75)])) _
      refine XS.lload X85.here hx rfl (hb hby at_102) rfl ?_
      show Steps p.tables e below (T85.setTop (mkF m 104 #[.val (.long d0), .second, .val (.long d1), .second, .val (.long d2), .second, .val (.long f0), .second, .val (.long f1), .second, .val (.int sh), .val (.int (3 : Int32)), .val (.long v11), .second, .val (.ref b1), .unset, .unset, .unset, .unset] [(.long v11), (.int (2 : Int32)), (.ref b75), (.ref b75)])) _
      refine st90 _ ?_
      show Steps p.tables e below (T90.setTop (mkF m 105 #[.val (.long d0), .second, .val (.long d1), .second, .val (.long d2), .second, .val (.long f0), .second, .val (.long f1), .second, .val (.int sh), .val (.int (3 : Int32)), .val (.long v11), .second, .val (.ref b1), .unset, .unset, .unset, .unset] [(.ref b75)])) _
      refine XS.astore X90.here hx rfl (hb hby at_105) rfl rfl (l' := #[.val (.long d0), .second, .val (.long d1), .second, .val (.long d2), .second, .val (.long f0), .second, .val (.long f1), .second, .val (.int sh), .val (.int (3 : Int32)), .val (.long v11), .second, .val (.ref b1), .val (.ref b75), .unset, .unset, .unset]) rfl ?_
      show Steps p.tables e below (T90.setTop (mkF m 107 #[.val (.long d0), .second, .val (.long d1), .second, .val (.long d2), .second, .val (.long f0), .second, .val (.long f1), .second, .val (.int sh), .val (.int (3 : Int32)), .val (.long v11), .second, .val (.ref b1), .val (.ref b75), .unset, .unset, .unset] [])) _
      refine XS.iload X90.here hx rfl (hb hby at_107) rfl ?_
      show Steps p.tables e below (T90.setTop (mkF m 109 #[.val (.long d0), .second, .val (.long d1), .second, .val (.long d2), .second, .val (.long f0), .second, .val (.long f1), .second, .val (.int sh), .val (.int (3 : Int32)), .val (.long v11), .second, .val (.ref b1), .val (.ref b75), .unset, .unset, .unset] [(.int (3 : Int32))])) _
      refine XS.iconst X90.here hx rfl (hb hby at_109) ?_
      show Steps p.tables e below (T90.setTop (mkF m 110 #[.val (.long d0), .second, .val (.long d1), .second, .val (.long d2), .second, .val (.long f0), .second, .val (.long f1), .second, .val (.int sh), .val (.int (3 : Int32)), .val (.long v11), .second, .val (.ref b1), .val (.ref b75), .unset, .unset, .unset] [(.int (1 : Int32)), (.int (3 : Int32))])) _
      refine XS.icmpNo X90.here hx rfl (hb hby at_110) rfl (flt (by decide)).1 ?_
      show Steps p.tables e below (T90.setTop (mkF m 113 #[.val (.long d0), .second, .val (.long d1), .second, .val (.long d2), .second, .val (.long f0), .second, .val (.long f1), .second, .val (.int sh), .val (.int (3 : Int32)), .val (.long v11), .second, .val (.ref b1), .val (.ref b75), .unset, .unset, .unset] [])) _
      refine XS.lloadN X90.here hx rfl (hb hby at_113) rfl ?_
      show Steps p.tables e below (T90.setTop (mkF m 114 #[.val (.long d0), .second, .val (.long d1), .second, .val (.long d2), .second, .val (.long f0), .second, .val (.long f1), .second, .val (.int sh), .val (.int (3 : Int32)), .val (.long v11), .second, .val (.ref b1), .val (.ref b75), .unset, .unset, .unset] [(.long d0)])) _
      refine XS.lload X90.here hx rfl (hb hby at_114) rfl ?_
      show Steps p.tables e below (T90.setTop (mkF m 116 #[.val (.long d0), .second, .val (.long d1), .second, .val (.long d2), .second, .val (.long f0), .second, .val (.long f1), .second, .val (.int sh), .val (.int (3 : Int32)), .val (.long v11), .second, .val (.ref b1), .val (.ref b75), .unset, .unset, .unset] [(.long f0), (.long d0)])) _
      refine XS.lcmp X90.here hx rfl (hb hby at_116) rfl ?_
      by_cases d95 : f0 < d0
      · skip
        show Steps p.tables e below (T90.setTop (mkF m 117 #[.val (.long d0), .second, .val (.long d1), .second, .val (.long d2), .second, .val (.long f0), .second, .val (.long f1), .second, .val (.int sh), .val (.int (3 : Int32)), .val (.long v11), .second, .val (.ref b1), .val (.ref b75), .unset, .unset, .unset] [(.int (lcmpW d0 f0))])) _
        refine XS.ifYes X90.here hx rfl (pc0 := 117) (pc' := 151) rfl (hb hby at_117) rfl ((if0 _ _).trans (tlt ((lw_gt d0 f0).2 d95)).2.2.1) (by decide) (by decide) ?_
        show Steps p.tables e below (T90.setTop (mkF m 151 #[.val (.long d0), .second, .val (.long d1), .second, .val (.long d2), .second, .val (.long f0), .second, .val (.long f1), .second, .val (.int sh), .val (.int (3 : Int32)), .val (.long v11), .second, .val (.ref b1), .val (.ref b75), .unset, .unset, .unset] [])) _
        refine XS.iconst X90.here hx rfl (hb hby at_151) ?_
        show Steps p.tables e below (T90.setTop (mkF m 152 #[.val (.long d0), .second, .val (.long d1), .second, .val (.long d2), .second, .val (.long f0), .second, .val (.long f1), .second, .val (.int sh), .val (.int (3 : Int32)), .val (.long v11), .second, .val (.ref b1), .val (.ref b75), .unset, .unset, .unset] [(.int (0 : Int32))])) _
        exact castTop (by simp only [hm152, if_pos d95]) kt
      · skip
        show Steps p.tables e below (T90.setTop (mkF m 117 #[.val (.long d0), .second, .val (.long d1), .second, .val (.long d2), .second, .val (.long f0), .second, .val (.long f1), .second, .val (.int sh), .val (.int (3 : Int32)), .val (.long v11), .second, .val (.ref b1), .val (.ref b75), .unset, .unset, .unset] [(.int (lcmpW d0 f0))])) _
        refine XS.ifNo X90.here hx rfl (hb hby at_117) rfl ((if0 _ _).trans (flt (mt (lw_gt d0 f0).1 d95)).2.2.1) ?_
        show Steps p.tables e below (T90.setTop (mkF m 120 #[.val (.long d0), .second, .val (.long d1), .second, .val (.long d2), .second, .val (.long f0), .second, .val (.long f1), .second, .val (.int sh), .val (.int (3 : Int32)), .val (.long v11), .second, .val (.ref b1), .val (.ref b75), .unset, .unset, .unset] [])) _
        refine XS.iload X90.here hx rfl (hb hby at_120) rfl ?_
        show Steps p.tables e below (T90.setTop (mkF m 122 #[.val (.long d0), .second, .val (.long d1), .second, .val (.long d2), .second, .val (.long f0), .second, .val (.long f1), .second, .val (.int sh), .val (.int (3 : Int32)), .val (.long v11), .second, .val (.ref b1), .val (.ref b75), .unset, .unset, .unset] [(.int (3 : Int32))])) _
        refine XS.iconst X90.here hx rfl (hb hby at_122) ?_
        show Steps p.tables e below (T90.setTop (mkF m 123 #[.val (.long d0), .second, .val (.long d1), .second, .val (.long d2), .second, .val (.long f0), .second, .val (.long f1), .second, .val (.int sh), .val (.int (3 : Int32)), .val (.long v11), .second, .val (.ref b1), .val (.ref b75), .unset, .unset, .unset] [(.int (2 : Int32)), (.int (3 : Int32))])) _
        refine XS.icmpNo X90.here hx rfl (hb hby at_123) rfl (flt (by decide)).1 ?_
        show Steps p.tables e below (T90.setTop (mkF m 126 #[.val (.long d0), .second, .val (.long d1), .second, .val (.long d2), .second, .val (.long f0), .second, .val (.long f1), .second, .val (.int sh), .val (.int (3 : Int32)), .val (.long v11), .second, .val (.ref b1), .val (.ref b75), .unset, .unset, .unset] [])) _
        refine XS.lloadN X90.here hx rfl (hb hby at_126) rfl ?_
        show Steps p.tables e below (T90.setTop (mkF m 127 #[.val (.long d0), .second, .val (.long d1), .second, .val (.long d2), .second, .val (.long f0), .second, .val (.long f1), .second, .val (.int sh), .val (.int (3 : Int32)), .val (.long v11), .second, .val (.ref b1), .val (.ref b75), .unset, .unset, .unset] [(.long d1)])) _
        refine XS.lload X90.here hx rfl (hb hby at_127) rfl ?_
        show Steps p.tables e below (T90.setTop (mkF m 129 #[.val (.long d0), .second, .val (.long d1), .second, .val (.long d2), .second, .val (.long f0), .second, .val (.long f1), .second, .val (.int sh), .val (.int (3 : Int32)), .val (.long v11), .second, .val (.ref b1), .val (.ref b75), .unset, .unset, .unset] [(.long f1), (.long d1)])) _
        refine XS.lcmp X90.here hx rfl (hb hby at_129) rfl ?_
        by_cases d96 : f1 < d1
        · skip
          show Steps p.tables e below (T90.setTop (mkF m 130 #[.val (.long d0), .second, .val (.long d1), .second, .val (.long d2), .second, .val (.long f0), .second, .val (.long f1), .second, .val (.int sh), .val (.int (3 : Int32)), .val (.long v11), .second, .val (.ref b1), .val (.ref b75), .unset, .unset, .unset] [(.int (lcmpW d1 f1))])) _
          refine XS.ifYes X90.here hx rfl (pc0 := 130) (pc' := 151) rfl (hb hby at_130) rfl ((if0 _ _).trans (tlt ((lw_gt d1 f1).2 d96)).2.2.1) (by decide) (by decide) ?_
          show Steps p.tables e below (T90.setTop (mkF m 151 #[.val (.long d0), .second, .val (.long d1), .second, .val (.long d2), .second, .val (.long f0), .second, .val (.long f1), .second, .val (.int sh), .val (.int (3 : Int32)), .val (.long v11), .second, .val (.ref b1), .val (.ref b75), .unset, .unset, .unset] [])) _
          refine XS.iconst X90.here hx rfl (hb hby at_151) ?_
          show Steps p.tables e below (T90.setTop (mkF m 152 #[.val (.long d0), .second, .val (.long d1), .second, .val (.long d2), .second, .val (.long f0), .second, .val (.long f1), .second, .val (.int sh), .val (.int (3 : Int32)), .val (.long v11), .second, .val (.ref b1), .val (.ref b75), .unset, .unset, .unset] [(.int (0 : Int32))])) _
          exact castTop (by simp only [hm152, if_neg d95, if_pos d96]) kt
        · skip
          show Steps p.tables e below (T90.setTop (mkF m 130 #[.val (.long d0), .second, .val (.long d1), .second, .val (.long d2), .second, .val (.long f0), .second, .val (.long f1), .second, .val (.int sh), .val (.int (3 : Int32)), .val (.long v11), .second, .val (.ref b1), .val (.ref b75), .unset, .unset, .unset] [(.int (lcmpW d1 f1))])) _
          refine XS.ifNo X90.here hx rfl (hb hby at_130) rfl ((if0 _ _).trans (flt (mt (lw_gt d1 f1).1 d96)).2.2.1) ?_
          show Steps p.tables e below (T90.setTop (mkF m 133 #[.val (.long d0), .second, .val (.long d1), .second, .val (.long d2), .second, .val (.long f0), .second, .val (.long f1), .second, .val (.int sh), .val (.int (3 : Int32)), .val (.long v11), .second, .val (.ref b1), .val (.ref b75), .unset, .unset, .unset] [])) _
          refine XS.iload X90.here hx rfl (hb hby at_133) rfl ?_
          show Steps p.tables e below (T90.setTop (mkF m 135 #[.val (.long d0), .second, .val (.long d1), .second, .val (.long d2), .second, .val (.long f0), .second, .val (.long f1), .second, .val (.int sh), .val (.int (3 : Int32)), .val (.long v11), .second, .val (.ref b1), .val (.ref b75), .unset, .unset, .unset] [(.int (3 : Int32))])) _
          refine XS.iconst X90.here hx rfl (hb hby at_135) ?_
          show Steps p.tables e below (T90.setTop (mkF m 136 #[.val (.long d0), .second, .val (.long d1), .second, .val (.long d2), .second, .val (.long f0), .second, .val (.long f1), .second, .val (.int sh), .val (.int (3 : Int32)), .val (.long v11), .second, .val (.ref b1), .val (.ref b75), .unset, .unset, .unset] [(.int (3 : Int32)), (.int (3 : Int32))])) _
          refine XS.icmpNo X90.here hx rfl (hb hby at_136) rfl (flt (by decide)).1 ?_
          show Steps p.tables e below (T90.setTop (mkF m 139 #[.val (.long d0), .second, .val (.long d1), .second, .val (.long d2), .second, .val (.long f0), .second, .val (.long f1), .second, .val (.int sh), .val (.int (3 : Int32)), .val (.long v11), .second, .val (.ref b1), .val (.ref b75), .unset, .unset, .unset] [])) _
          refine XS.lload X90.here hx rfl (hb hby at_139) rfl ?_
          show Steps p.tables e below (T90.setTop (mkF m 141 #[.val (.long d0), .second, .val (.long d1), .second, .val (.long d2), .second, .val (.long f0), .second, .val (.long f1), .second, .val (.int sh), .val (.int (3 : Int32)), .val (.long v11), .second, .val (.ref b1), .val (.ref b75), .unset, .unset, .unset] [(.long d2)])) _
          refine XS.lload X90.here hx rfl (hb hby at_141) rfl ?_
          show Steps p.tables e below (T90.setTop (mkF m 143 #[.val (.long d0), .second, .val (.long d1), .second, .val (.long d2), .second, .val (.long f0), .second, .val (.long f1), .second, .val (.int sh), .val (.int (3 : Int32)), .val (.long v11), .second, .val (.ref b1), .val (.ref b75), .unset, .unset, .unset] [(.long v11), (.long d2)])) _
          refine XS.lcmp X90.here hx rfl (hb hby at_143) rfl ?_
          by_cases d97 : v11 < d2
          · skip
            show Steps p.tables e below (T90.setTop (mkF m 144 #[.val (.long d0), .second, .val (.long d1), .second, .val (.long d2), .second, .val (.long f0), .second, .val (.long f1), .second, .val (.int sh), .val (.int (3 : Int32)), .val (.long v11), .second, .val (.ref b1), .val (.ref b75), .unset, .unset, .unset] [(.int (lcmpW d2 v11))])) _
            refine XS.ifYes X90.here hx rfl (pc0 := 144) (pc' := 151) rfl (hb hby at_144) rfl ((if0 _ _).trans (tlt ((lw_gt d2 v11).2 d97)).2.2.1) (by decide) (by decide) ?_
            show Steps p.tables e below (T90.setTop (mkF m 151 #[.val (.long d0), .second, .val (.long d1), .second, .val (.long d2), .second, .val (.long f0), .second, .val (.long f1), .second, .val (.int sh), .val (.int (3 : Int32)), .val (.long v11), .second, .val (.ref b1), .val (.ref b75), .unset, .unset, .unset] [])) _
            refine XS.iconst X90.here hx rfl (hb hby at_151) ?_
            show Steps p.tables e below (T90.setTop (mkF m 152 #[.val (.long d0), .second, .val (.long d1), .second, .val (.long d2), .second, .val (.long f0), .second, .val (.long f1), .second, .val (.int sh), .val (.int (3 : Int32)), .val (.long v11), .second, .val (.ref b1), .val (.ref b75), .unset, .unset, .unset] [(.int (0 : Int32))])) _
            exact castTop (by simp only [hm152, if_neg d95, if_neg d96, if_pos d97]) kt
          · skip
            show Steps p.tables e below (T90.setTop (mkF m 144 #[.val (.long d0), .second, .val (.long d1), .second, .val (.long d2), .second, .val (.long f0), .second, .val (.long f1), .second, .val (.int sh), .val (.int (3 : Int32)), .val (.long v11), .second, .val (.ref b1), .val (.ref b75), .unset, .unset, .unset] [(.int (lcmpW d2 v11))])) _
            refine XS.ifNo X90.here hx rfl (hb hby at_144) rfl ((if0 _ _).trans (flt (mt (lw_gt d2 v11).1 d97)).2.2.1) ?_
            show Steps p.tables e below (T90.setTop (mkF m 147 #[.val (.long d0), .second, .val (.long d1), .second, .val (.long d2), .second, .val (.long f0), .second, .val (.long f1), .second, .val (.int sh), .val (.int (3 : Int32)), .val (.long v11), .second, .val (.ref b1), .val (.ref b75), .unset, .unset, .unset] [])) _
            refine XS.iconst X90.here hx rfl (hb hby at_147) ?_
            show Steps p.tables e below (T90.setTop (mkF m 148 #[.val (.long d0), .second, .val (.long d1), .second, .val (.long d2), .second, .val (.long f0), .second, .val (.long f1), .second, .val (.int sh), .val (.int (3 : Int32)), .val (.long v11), .second, .val (.ref b1), .val (.ref b75), .unset, .unset, .unset] [(.int (1 : Int32))])) _
            refine XS.goto X90.here hx rfl (pc0 := 148) (pc' := 152) rfl (hb hby at_148) (by decide) (by decide) ?_
            show Steps p.tables e below (T90.setTop (mkF m 152 #[.val (.long d0), .second, .val (.long d1), .second, .val (.long d2), .second, .val (.long f0), .second, .val (.long f1), .second, .val (.int sh), .val (.int (3 : Int32)), .val (.long v11), .second, .val (.ref b1), .val (.ref b75), .unset, .unset, .unset] [(.int (1 : Int32))])) _
            exact castTop (by simp only [hm152, if_neg d95, if_neg d96, if_neg d97]) kt
    obtain ⟨_, _, ⟨T99, L99, k99, n99⟩, -, X99, ⟨Lc99, hQ99, l99, y99, z99⟩, st99⟩ := Jvm.LawKit.callS X90 hx (y := (⟨"com/example/evenkeel/evenkeel/MachineAllocation", "fits", "([J[J)Z"⟩ : MethodName)) hown (mvT hZ (hw _ (List.mem_of_getElem? (i := 1) rfl))) (mvT hZ (hw _ (List.mem_of_getElem? (i := 2) rfl))) (mvT hZ (hw _ (List.mem_of_getElem? (i := 3) rfl))) (mvT hZ (hw _ (List.mem_of_getElem? (i := 4) rfl))) (by decide) (backOf (W := 0) (rm1_3 l Z a0 hw [] b1 b75 kx1 kx75 d0 d1 d2 f0 f1 v11 hX90 n0 Z93 F92 F91) hZ (hw _ (List.mem_of_getElem? (i := 4) rfl)) (hw _ (List.mem_of_getElem? (i := 3) rfl)) (by decide) (by decide)) (g := (mkF m 158 #[.val (.long d0), .second, .val (.long d1), .second, .val (.long d2), .second, .val (.long f0), .second, .val (.long f1), .second, .val (.int sh), .val (.int (3 : Int32)), .val (.long v11), .second, .val (.ref b1), .val (.ref b75), .val (.int m152), .unset, .unset] [(.ref b75), (.ref b1)])) rfl (by rw [hml]; rfl) (argsL := [(.ref b1), (.ref b75)]) (rest := []) (lenOf pd_0 rfl) rfl (by show 2 * 0 + _ ≤ _; exact Nat.le_of_eq rfl) (hb hby at_158) (fun _ _ => ⟨rfl, e90, (by decide : 2 + 0 ≤ _), (by decide : 6 + 0 ≤ _)⟩)
    dsimp only [Pt.U, Pt.locs, Pt.cells, Pt.slots] at X99 l99 y99 z99 st99 hQ99
    subst l99 y99 z99
    obtain ⟨rfl, N99q, e99⟩ := hQ99
    have N99 := Fr.app N90 N99q
    obtain ⟨r158, hr158⟩ : ∃ z_q : Int32, z_q = (own_fits3 d0 d1 d2 f0 f1 v11) := ⟨_, rfl⟩
    obtain ⟨cl100, Ar100, q100, S100, M100, H100, G100⟩ := id F92
    have hin100 : ¬ ((0 : Int32) < 0 ∨ cl100.slots.size ≤ ((0 : Int32)).toNatClampNeg) := inb_of S100 ⟨by decide, by decide⟩
    have hat100 : cl100.slots[((0 : Int32)).toNatClampNeg]? = some (.long d0) := Has.at H100 hin100 rfl
    obtain ⟨cl101, Ar101, q101, S101, M101, H101, G101⟩ := id F92
    have hin101 : ¬ ((1 : Int32) < 0 ∨ cl101.slots.size ≤ ((1 : Int32)).toNatClampNeg) := inb_of S101 ⟨by decide, by decide⟩
    have hat101 : cl101.slots[((1 : Int32)).toNatClampNeg]? = some (.long d1) := Has.at H101 hin101 rfl
    obtain ⟨cl102, Ar102, q102, S102, M102, H102, G102⟩ := id F92
    have hin102 : ¬ ((2 : Int32) < 0 ∨ cl102.slots.size ≤ ((2 : Int32)).toNatClampNeg) := inb_of S102 ⟨by decide, by decide⟩
    have hat102 : cl102.slots[((2 : Int32)).toNatClampNeg]? = some (.long d2) := Has.at H102 hin102 rfl
    obtain ⟨cl103, Ar103, q103, S103, M103, H103, G103⟩ := id F91
    have hin103 : ¬ ((0 : Int32) < 0 ∨ cl103.slots.size ≤ ((0 : Int32)).toNatClampNeg) := inb_of S103 ⟨by decide, by decide⟩
    have hat103 : cl103.slots[((0 : Int32)).toNatClampNeg]? = some (.long f0) := Has.at H103 hin103 rfl
    obtain ⟨cl104, Ar104, q104, S104, M104, H104, G104⟩ := id F91
    have hin104 : ¬ ((1 : Int32) < 0 ∨ cl104.slots.size ≤ ((1 : Int32)).toNatClampNeg) := inb_of S104 ⟨by decide, by decide⟩
    have hat104 : cl104.slots[((1 : Int32)).toNatClampNeg]? = some (.long f1) := Has.at H104 hin104 rfl
    obtain ⟨cl105, Ar105, q105, S105, M105, H105, G105⟩ := id F91
    have hin105 : ¬ ((2 : Int32) < 0 ∨ cl105.slots.size ≤ ((2 : Int32)).toNatClampNeg) := inb_of S105 ⟨by decide, by decide⟩
    have hat105 : cl105.slots[((2 : Int32)).toNatClampNeg]? = some (.long v11) := Has.at H105 hin105 rfl
    obtain ⟨m263, hm263⟩ : ∃ z_q : Int32, z_q = (if r158 = m152 then (1 : Int32) else (0 : Int32)) := ⟨_, rfl⟩
    have pre107 : ∀ tq, Steps p.tables e below (T99.setTop (mkF m 263 #[.val (.long d0), .second, .val (.long d1), .second, .val (.long d2), .second, .val (.long f0), .second, .val (.long f1), .second, .val (.int sh), .val (.int (3 : Int32)), .val (.long v11), .second, .val (.ref b1), .val (.ref b75), .val (.int m152), .val (.int r158), .val (.int (1 : Int32))] [(.int m263)])) tq → Steps p.tables e below (s₁.setTop (entryFrame m #[(.long d0), (.long d1), (.long d2), (.long f0), (.long f1), (.int sh)] maxLocals)) tq := by
      intro tq kt
      refine pre98 _ ?_
      show Steps p.tables e below (T90.setTop (mkF m 152 #[.val (.long d0), .second, .val (.long d1), .second, .val (.long d2), .second, .val (.long f0), .second, .val (.long f1), .second, .val (.int sh), .val (.int (3 : Int32)), .val (.long v11), .second, .val (.ref b1), .val (.ref b75), .unset, .unset, .unset] [(.int m152)])) _
      refine XS.istore X90.here hx rfl (hb hby at_152) rfl (l' := #[.val (.long d0), .second, .val (.long d1), .second, .val (.long d2), .second, .val (.long f0), .second, .val (.long f1), .second, .val (.int sh), .val (.int (3 : Int32)), .val (.long v11), .second, .val (.ref b1), .val (.ref b75), .val (.int m152), .unset, .unset]) rfl ?_
      show Steps p.tables e below (T90.setTop (mkF m 154 #[.val (.long d0), .second, .val (.long d1), .second, .val (.long d2), .second, .val (.long f0), .second, .val (.long f1), .second, .val (.int sh), .val (.int (3 : Int32)), .val (.long v11), .second, .val (.ref b1), .val (.ref b75), .val (.int m152), .unset, .unset] [])) _
      refine XS.aload X90.here hx rfl (hb hby at_154) rfl rfl ?_
      show Steps p.tables e below (T90.setTop (mkF m 156 #[.val (.long d0), .second, .val (.long d1), .second, .val (.long d2), .second, .val (.long f0), .second, .val (.long f1), .second, .val (.int sh), .val (.int (3 : Int32)), .val (.long v11), .second, .val (.ref b1), .val (.ref b75), .val (.int m152), .unset, .unset] [(.ref b1)])) _
      refine XS.aload X90.here hx rfl (hb hby at_156) rfl rfl ?_
      show Steps p.tables e below (T90.setTop (mkF m 158 #[.val (.long d0), .second, .val (.long d1), .second, .val (.long d2), .second, .val (.long f0), .second, .val (.long f1), .second, .val (.int sh), .val (.int (3 : Int32)), .val (.long v11), .second, .val (.ref b1), .val (.ref b75), .val (.int m152), .unset, .unset] [(.ref b75), (.ref b1)])) _
      refine st99 _ ?_
      show Steps p.tables e below (T99.setTop (mkF m 161 #[.val (.long d0), .second, .val (.long d1), .second, .val (.long d2), .second, .val (.long f0), .second, .val (.long f1), .second, .val (.int sh), .val (.int (3 : Int32)), .val (.long v11), .second, .val (.ref b1), .val (.ref b75), .val (.int m152), .unset, .unset] [(.int (own_fits3 d0 d1 d2 f0 f1 v11))])) _
      rw [← hr158]
      show Steps p.tables e below (T99.setTop (mkF m 161 #[.val (.long d0), .second, .val (.long d1), .second, .val (.long d2), .second, .val (.long f0), .second, .val (.long f1), .second, .val (.int sh), .val (.int (3 : Int32)), .val (.long v11), .second, .val (.ref b1), .val (.ref b75), .val (.int m152), .unset, .unset] [(.int r158)])) _
      refine XS.istore X99.here hx rfl (hb hby at_161) rfl (l' := #[.val (.long d0), .second, .val (.long d1), .second, .val (.long d2), .second, .val (.long f0), .second, .val (.long f1), .second, .val (.int sh), .val (.int (3 : Int32)), .val (.long v11), .second, .val (.ref b1), .val (.ref b75), .val (.int m152), .val (.int r158), .unset]) rfl ?_
      show Steps p.tables e below (T99.setTop (mkF m 163 #[.val (.long d0), .second, .val (.long d1), .second, .val (.long d2), .second, .val (.long f0), .second, .val (.long f1), .second, .val (.int sh), .val (.int (3 : Int32)), .val (.long v11), .second, .val (.ref b1), .val (.ref b75), .val (.int m152), .val (.int r158), .unset] [])) _
      refine XS.aload X99.here hx rfl (hb hby at_163) rfl rfl ?_
      show Steps p.tables e below (T99.setTop (mkF m 165 #[.val (.long d0), .second, .val (.long d1), .second, .val (.long d2), .second, .val (.long f0), .second, .val (.long f1), .second, .val (.int sh), .val (.int (3 : Int32)), .val (.long v11), .second, .val (.ref b1), .val (.ref b75), .val (.int m152), .val (.int r158), .unset] [(.ref b1)])) _
      refine XS.iconst X99.here hx rfl (hb hby at_165) ?_
      show Steps p.tables e below (T99.setTop (mkF m 166 #[.val (.long d0), .second, .val (.long d1), .second, .val (.long d2), .second, .val (.long f0), .second, .val (.long f1), .second, .val (.int sh), .val (.int (3 : Int32)), .val (.long v11), .second, .val (.ref b1), .val (.ref b75), .val (.int m152), .val (.int r158), .unset] [(.int (0 : Int32)), (.ref b1)])) _
      refine X99.laload hx (j := (0 : Int32)) (v := (.long d0)) (heq_of e99 Ar100.1) (State.isArrayOf_alike hZ.alike Ar100.2.1) Ar100.2.2 hin100 hat100 (g := (mkF m 166 #[.val (.long d0), .second, .val (.long d1), .second, .val (.long d2), .second, .val (.long f0), .second, .val (.long f1), .second, .val (.int sh), .val (.int (3 : Int32)), .val (.long v11), .second, .val (.ref b1), .val (.ref b75), .val (.int m152), .val (.int r158), .unset] [(.int (0 : Int32)), (.ref b1)])) rfl rfl (hb hby at_166) _ ?_
      show Steps p.tables e below (T99.setTop (mkF m 167 #[.val (.long d0), .second, .val (.long d1), .second, .val (.long d2), .second, .val (.long f0), .second, .val (.long f1), .second, .val (.int sh), .val (.int (3 : Int32)), .val (.long v11), .second, .val (.ref b1), .val (.ref b75), .val (.int m152), .val (.int r158), .unset] [(.long d0)])) _
      refine XS.lloadN X99.here hx rfl (hb hby at_167) rfl ?_
      show Steps p.tables e below (T99.setTop (mkF m 168 #[.val (.long d0), .second, .val (.long d1), .second, .val (.long d2), .second, .val (.long f0), .second, .val (.long f1), .second, .val (.int sh), .val (.int (3 : Int32)), .val (.long v11), .second, .val (.ref b1), .val (.ref b75), .val (.int m152), .val (.int r158), .unset] [(.long d0), (.long d0)])) _
      refine XS.lcmp X99.here hx rfl (hb hby at_168) rfl ?_
      show Steps p.tables e below (T99.setTop (mkF m 169 #[.val (.long d0), .second, .val (.long d1), .second, .val (.long d2), .second, .val (.long f0), .second, .val (.long f1), .second, .val (.int sh), .val (.int (3 : Int32)), .val (.long v11), .second, .val (.ref b1), .val (.ref b75), .val (.int m152), .val (.int r158), .unset] [(.int (lcmpW d0 d0))])) _
      refine XS.ifNo X99.here hx rfl (hb hby at_169) rfl ((if0 _ _).trans (teq ((lw_eq d0 d0).2 rfl)).2) ?_
      show Steps p.tables e below (T99.setTop (mkF m 172 #[.val (.long d0), .second, .val (.long d1), .second, .val (.long d2), .second, .val (.long f0), .second, .val (.long f1), .second, .val (.int sh), .val (.int (3 : Int32)), .val (.long v11), .second, .val (.ref b1), .val (.ref b75), .val (.int m152), .val (.int r158), .unset] [])) _
      refine XS.aload X99.here hx rfl (hb hby at_172) rfl rfl ?_
      show Steps p.tables e below (T99.setTop (mkF m 174 #[.val (.long d0), .second, .val (.long d1), .second, .val (.long d2), .second, .val (.long f0), .second, .val (.long f1), .second, .val (.int sh), .val (.int (3 : Int32)), .val (.long v11), .second, .val (.ref b1), .val (.ref b75), .val (.int m152), .val (.int r158), .unset] [(.ref b1)])) _
      refine XS.iconst X99.here hx rfl (hb hby at_174) ?_
      show Steps p.tables e below (T99.setTop (mkF m 175 #[.val (.long d0), .second, .val (.long d1), .second, .val (.long d2), .second, .val (.long f0), .second, .val (.long f1), .second, .val (.int sh), .val (.int (3 : Int32)), .val (.long v11), .second, .val (.ref b1), .val (.ref b75), .val (.int m152), .val (.int r158), .unset] [(.int (1 : Int32)), (.ref b1)])) _
      refine X99.laload hx (j := (1 : Int32)) (v := (.long d1)) (heq_of e99 Ar101.1) (State.isArrayOf_alike hZ.alike Ar101.2.1) Ar101.2.2 hin101 hat101 (g := (mkF m 175 #[.val (.long d0), .second, .val (.long d1), .second, .val (.long d2), .second, .val (.long f0), .second, .val (.long f1), .second, .val (.int sh), .val (.int (3 : Int32)), .val (.long v11), .second, .val (.ref b1), .val (.ref b75), .val (.int m152), .val (.int r158), .unset] [(.int (1 : Int32)), (.ref b1)])) rfl rfl (hb hby at_175) _ ?_
      show Steps p.tables e below (T99.setTop (mkF m 176 #[.val (.long d0), .second, .val (.long d1), .second, .val (.long d2), .second, .val (.long f0), .second, .val (.long f1), .second, .val (.int sh), .val (.int (3 : Int32)), .val (.long v11), .second, .val (.ref b1), .val (.ref b75), .val (.int m152), .val (.int r158), .unset] [(.long d1)])) _
      refine XS.lloadN X99.here hx rfl (hb hby at_176) rfl ?_
      show Steps p.tables e below (T99.setTop (mkF m 177 #[.val (.long d0), .second, .val (.long d1), .second, .val (.long d2), .second, .val (.long f0), .second, .val (.long f1), .second, .val (.int sh), .val (.int (3 : Int32)), .val (.long v11), .second, .val (.ref b1), .val (.ref b75), .val (.int m152), .val (.int r158), .unset] [(.long d1), (.long d1)])) _
      refine XS.lcmp X99.here hx rfl (hb hby at_177) rfl ?_
      show Steps p.tables e below (T99.setTop (mkF m 178 #[.val (.long d0), .second, .val (.long d1), .second, .val (.long d2), .second, .val (.long f0), .second, .val (.long f1), .second, .val (.int sh), .val (.int (3 : Int32)), .val (.long v11), .second, .val (.ref b1), .val (.ref b75), .val (.int m152), .val (.int r158), .unset] [(.int (lcmpW d1 d1))])) _
      refine XS.ifNo X99.here hx rfl (hb hby at_178) rfl ((if0 _ _).trans (teq ((lw_eq d1 d1).2 rfl)).2) ?_
      show Steps p.tables e below (T99.setTop (mkF m 181 #[.val (.long d0), .second, .val (.long d1), .second, .val (.long d2), .second, .val (.long f0), .second, .val (.long f1), .second, .val (.int sh), .val (.int (3 : Int32)), .val (.long v11), .second, .val (.ref b1), .val (.ref b75), .val (.int m152), .val (.int r158), .unset] [])) _
      refine XS.aload X99.here hx rfl (hb hby at_181) rfl rfl ?_
      show Steps p.tables e below (T99.setTop (mkF m 183 #[.val (.long d0), .second, .val (.long d1), .second, .val (.long d2), .second, .val (.long f0), .second, .val (.long f1), .second, .val (.int sh), .val (.int (3 : Int32)), .val (.long v11), .second, .val (.ref b1), .val (.ref b75), .val (.int m152), .val (.int r158), .unset] [(.ref b1)])) _
      refine XS.iconst X99.here hx rfl (hb hby at_183) ?_
      show Steps p.tables e below (T99.setTop (mkF m 184 #[.val (.long d0), .second, .val (.long d1), .second, .val (.long d2), .second, .val (.long f0), .second, .val (.long f1), .second, .val (.int sh), .val (.int (3 : Int32)), .val (.long v11), .second, .val (.ref b1), .val (.ref b75), .val (.int m152), .val (.int r158), .unset] [(.int (2 : Int32)), (.ref b1)])) _
      refine X99.laload hx (j := (2 : Int32)) (v := (.long d2)) (heq_of e99 Ar102.1) (State.isArrayOf_alike hZ.alike Ar102.2.1) Ar102.2.2 hin102 hat102 (g := (mkF m 184 #[.val (.long d0), .second, .val (.long d1), .second, .val (.long d2), .second, .val (.long f0), .second, .val (.long f1), .second, .val (.int sh), .val (.int (3 : Int32)), .val (.long v11), .second, .val (.ref b1), .val (.ref b75), .val (.int m152), .val (.int r158), .unset] [(.int (2 : Int32)), (.ref b1)])) rfl rfl (hb hby at_184) _ ?_
      show Steps p.tables e below (T99.setTop (mkF m 185 #[.val (.long d0), .second, .val (.long d1), .second, .val (.long d2), .second, .val (.long f0), .second, .val (.long f1), .second, .val (.int sh), .val (.int (3 : Int32)), .val (.long v11), .second, .val (.ref b1), .val (.ref b75), .val (.int m152), .val (.int r158), .unset] [(.long d2)])) _
      refine XS.lload X99.here hx rfl (hb hby at_185) rfl ?_
      show Steps p.tables e below (T99.setTop (mkF m 187 #[.val (.long d0), .second, .val (.long d1), .second, .val (.long d2), .second, .val (.long f0), .second, .val (.long f1), .second, .val (.int sh), .val (.int (3 : Int32)), .val (.long v11), .second, .val (.ref b1), .val (.ref b75), .val (.int m152), .val (.int r158), .unset] [(.long d2), (.long d2)])) _
      refine XS.lcmp X99.here hx rfl (hb hby at_187) rfl ?_
      show Steps p.tables e below (T99.setTop (mkF m 188 #[.val (.long d0), .second, .val (.long d1), .second, .val (.long d2), .second, .val (.long f0), .second, .val (.long f1), .second, .val (.int sh), .val (.int (3 : Int32)), .val (.long v11), .second, .val (.ref b1), .val (.ref b75), .val (.int m152), .val (.int r158), .unset] [(.int (lcmpW d2 d2))])) _
      refine XS.ifNo X99.here hx rfl (hb hby at_188) rfl ((if0 _ _).trans (teq ((lw_eq d2 d2).2 rfl)).2) ?_
      show Steps p.tables e below (T99.setTop (mkF m 191 #[.val (.long d0), .second, .val (.long d1), .second, .val (.long d2), .second, .val (.long f0), .second, .val (.long f1), .second, .val (.int sh), .val (.int (3 : Int32)), .val (.long v11), .second, .val (.ref b1), .val (.ref b75), .val (.int m152), .val (.int r158), .unset] [])) _
      refine XS.iload X99.here hx rfl (hb hby at_191) rfl ?_
      show Steps p.tables e below (T99.setTop (mkF m 193 #[.val (.long d0), .second, .val (.long d1), .second, .val (.long d2), .second, .val (.long f0), .second, .val (.long f1), .second, .val (.int sh), .val (.int (3 : Int32)), .val (.long v11), .second, .val (.ref b1), .val (.ref b75), .val (.int m152), .val (.int r158), .unset] [(.int (3 : Int32))])) _
      refine XS.iconst X99.here hx rfl (hb hby at_193) ?_
      show Steps p.tables e below (T99.setTop (mkF m 194 #[.val (.long d0), .second, .val (.long d1), .second, .val (.long d2), .second, .val (.long f0), .second, .val (.long f1), .second, .val (.int sh), .val (.int (3 : Int32)), .val (.long v11), .second, .val (.ref b1), .val (.ref b75), .val (.int m152), .val (.int r158), .unset] [(.int (1 : Int32)), (.int (3 : Int32))])) _
      refine XS.icmpNo X99.here hx rfl (hb hby at_194) rfl (flt (by decide)).1 ?_
      show Steps p.tables e below (T99.setTop (mkF m 197 #[.val (.long d0), .second, .val (.long d1), .second, .val (.long d2), .second, .val (.long f0), .second, .val (.long f1), .second, .val (.int sh), .val (.int (3 : Int32)), .val (.long v11), .second, .val (.ref b1), .val (.ref b75), .val (.int m152), .val (.int r158), .unset] [])) _
      refine XS.aload X99.here hx rfl (hb hby at_197) rfl rfl ?_
      show Steps p.tables e below (T99.setTop (mkF m 199 #[.val (.long d0), .second, .val (.long d1), .second, .val (.long d2), .second, .val (.long f0), .second, .val (.long f1), .second, .val (.int sh), .val (.int (3 : Int32)), .val (.long v11), .second, .val (.ref b1), .val (.ref b75), .val (.int m152), .val (.int r158), .unset] [(.ref b75)])) _
      refine XS.iconst X99.here hx rfl (hb hby at_199) ?_
      show Steps p.tables e below (T99.setTop (mkF m 200 #[.val (.long d0), .second, .val (.long d1), .second, .val (.long d2), .second, .val (.long f0), .second, .val (.long f1), .second, .val (.int sh), .val (.int (3 : Int32)), .val (.long v11), .second, .val (.ref b1), .val (.ref b75), .val (.int m152), .val (.int r158), .unset] [(.int (0 : Int32)), (.ref b75)])) _
      refine X99.laload hx (j := (0 : Int32)) (v := (.long f0)) (heq_of e99 Ar103.1) (State.isArrayOf_alike hZ.alike Ar103.2.1) Ar103.2.2 hin103 hat103 (g := (mkF m 200 #[.val (.long d0), .second, .val (.long d1), .second, .val (.long d2), .second, .val (.long f0), .second, .val (.long f1), .second, .val (.int sh), .val (.int (3 : Int32)), .val (.long v11), .second, .val (.ref b1), .val (.ref b75), .val (.int m152), .val (.int r158), .unset] [(.int (0 : Int32)), (.ref b75)])) rfl rfl (hb hby at_200) _ ?_
      show Steps p.tables e below (T99.setTop (mkF m 201 #[.val (.long d0), .second, .val (.long d1), .second, .val (.long d2), .second, .val (.long f0), .second, .val (.long f1), .second, .val (.int sh), .val (.int (3 : Int32)), .val (.long v11), .second, .val (.ref b1), .val (.ref b75), .val (.int m152), .val (.int r158), .unset] [(.long f0)])) _
      refine XS.lload X99.here hx rfl (hb hby at_201) rfl ?_
      show Steps p.tables e below (T99.setTop (mkF m 203 #[.val (.long d0), .second, .val (.long d1), .second, .val (.long d2), .second, .val (.long f0), .second, .val (.long f1), .second, .val (.int sh), .val (.int (3 : Int32)), .val (.long v11), .second, .val (.ref b1), .val (.ref b75), .val (.int m152), .val (.int r158), .unset] [(.long f0), (.long f0)])) _
      refine XS.lcmp X99.here hx rfl (hb hby at_203) rfl ?_
      show Steps p.tables e below (T99.setTop (mkF m 204 #[.val (.long d0), .second, .val (.long d1), .second, .val (.long d2), .second, .val (.long f0), .second, .val (.long f1), .second, .val (.int sh), .val (.int (3 : Int32)), .val (.long v11), .second, .val (.ref b1), .val (.ref b75), .val (.int m152), .val (.int r158), .unset] [(.int (lcmpW f0 f0))])) _
      refine XS.ifNo X99.here hx rfl (hb hby at_204) rfl ((if0 _ _).trans (teq ((lw_eq f0 f0).2 rfl)).2) ?_
      show Steps p.tables e below (T99.setTop (mkF m 207 #[.val (.long d0), .second, .val (.long d1), .second, .val (.long d2), .second, .val (.long f0), .second, .val (.long f1), .second, .val (.int sh), .val (.int (3 : Int32)), .val (.long v11), .second, .val (.ref b1), .val (.ref b75), .val (.int m152), .val (.int r158), .unset] [])) _
      refine XS.iload X99.here hx rfl (hb hby at_207) rfl ?_
      show Steps p.tables e below (T99.setTop (mkF m 209 #[.val (.long d0), .second, .val (.long d1), .second, .val (.long d2), .second, .val (.long f0), .second, .val (.long f1), .second, .val (.int sh), .val (.int (3 : Int32)), .val (.long v11), .second, .val (.ref b1), .val (.ref b75), .val (.int m152), .val (.int r158), .unset] [(.int (3 : Int32))])) _
      refine XS.iconst X99.here hx rfl (hb hby at_209) ?_
      show Steps p.tables e below (T99.setTop (mkF m 210 #[.val (.long d0), .second, .val (.long d1), .second, .val (.long d2), .second, .val (.long f0), .second, .val (.long f1), .second, .val (.int sh), .val (.int (3 : Int32)), .val (.long v11), .second, .val (.ref b1), .val (.ref b75), .val (.int m152), .val (.int r158), .unset] [(.int (2 : Int32)), (.int (3 : Int32))])) _
      refine XS.icmpNo X99.here hx rfl (hb hby at_210) rfl (flt (by decide)).1 ?_
      show Steps p.tables e below (T99.setTop (mkF m 213 #[.val (.long d0), .second, .val (.long d1), .second, .val (.long d2), .second, .val (.long f0), .second, .val (.long f1), .second, .val (.int sh), .val (.int (3 : Int32)), .val (.long v11), .second, .val (.ref b1), .val (.ref b75), .val (.int m152), .val (.int r158), .unset] [])) _
      refine XS.aload X99.here hx rfl (hb hby at_213) rfl rfl ?_
      show Steps p.tables e below (T99.setTop (mkF m 215 #[.val (.long d0), .second, .val (.long d1), .second, .val (.long d2), .second, .val (.long f0), .second, .val (.long f1), .second, .val (.int sh), .val (.int (3 : Int32)), .val (.long v11), .second, .val (.ref b1), .val (.ref b75), .val (.int m152), .val (.int r158), .unset] [(.ref b75)])) _
      refine XS.iconst X99.here hx rfl (hb hby at_215) ?_
      show Steps p.tables e below (T99.setTop (mkF m 216 #[.val (.long d0), .second, .val (.long d1), .second, .val (.long d2), .second, .val (.long f0), .second, .val (.long f1), .second, .val (.int sh), .val (.int (3 : Int32)), .val (.long v11), .second, .val (.ref b1), .val (.ref b75), .val (.int m152), .val (.int r158), .unset] [(.int (1 : Int32)), (.ref b75)])) _
      refine X99.laload hx (j := (1 : Int32)) (v := (.long f1)) (heq_of e99 Ar104.1) (State.isArrayOf_alike hZ.alike Ar104.2.1) Ar104.2.2 hin104 hat104 (g := (mkF m 216 #[.val (.long d0), .second, .val (.long d1), .second, .val (.long d2), .second, .val (.long f0), .second, .val (.long f1), .second, .val (.int sh), .val (.int (3 : Int32)), .val (.long v11), .second, .val (.ref b1), .val (.ref b75), .val (.int m152), .val (.int r158), .unset] [(.int (1 : Int32)), (.ref b75)])) rfl rfl (hb hby at_216) _ ?_
      show Steps p.tables e below (T99.setTop (mkF m 217 #[.val (.long d0), .second, .val (.long d1), .second, .val (.long d2), .second, .val (.long f0), .second, .val (.long f1), .second, .val (.int sh), .val (.int (3 : Int32)), .val (.long v11), .second, .val (.ref b1), .val (.ref b75), .val (.int m152), .val (.int r158), .unset] [(.long f1)])) _
      refine XS.lload X99.here hx rfl (hb hby at_217) rfl ?_
      show Steps p.tables e below (T99.setTop (mkF m 219 #[.val (.long d0), .second, .val (.long d1), .second, .val (.long d2), .second, .val (.long f0), .second, .val (.long f1), .second, .val (.int sh), .val (.int (3 : Int32)), .val (.long v11), .second, .val (.ref b1), .val (.ref b75), .val (.int m152), .val (.int r158), .unset] [(.long f1), (.long f1)])) _
      refine XS.lcmp X99.here hx rfl (hb hby at_219) rfl ?_
      show Steps p.tables e below (T99.setTop (mkF m 220 #[.val (.long d0), .second, .val (.long d1), .second, .val (.long d2), .second, .val (.long f0), .second, .val (.long f1), .second, .val (.int sh), .val (.int (3 : Int32)), .val (.long v11), .second, .val (.ref b1), .val (.ref b75), .val (.int m152), .val (.int r158), .unset] [(.int (lcmpW f1 f1))])) _
      refine XS.ifNo X99.here hx rfl (hb hby at_220) rfl ((if0 _ _).trans (teq ((lw_eq f1 f1).2 rfl)).2) ?_
      show Steps p.tables e below (T99.setTop (mkF m 223 #[.val (.long d0), .second, .val (.long d1), .second, .val (.long d2), .second, .val (.long f0), .second, .val (.long f1), .second, .val (.int sh), .val (.int (3 : Int32)), .val (.long v11), .second, .val (.ref b1), .val (.ref b75), .val (.int m152), .val (.int r158), .unset] [])) _
      refine XS.iload X99.here hx rfl (hb hby at_223) rfl ?_
      show Steps p.tables e below (T99.setTop (mkF m 225 #[.val (.long d0), .second, .val (.long d1), .second, .val (.long d2), .second, .val (.long f0), .second, .val (.long f1), .second, .val (.int sh), .val (.int (3 : Int32)), .val (.long v11), .second, .val (.ref b1), .val (.ref b75), .val (.int m152), .val (.int r158), .unset] [(.int (3 : Int32))])) _
      refine XS.iconst X99.here hx rfl (hb hby at_225) ?_
      show Steps p.tables e below (T99.setTop (mkF m 226 #[.val (.long d0), .second, .val (.long d1), .second, .val (.long d2), .second, .val (.long f0), .second, .val (.long f1), .second, .val (.int sh), .val (.int (3 : Int32)), .val (.long v11), .second, .val (.ref b1), .val (.ref b75), .val (.int m152), .val (.int r158), .unset] [(.int (3 : Int32)), (.int (3 : Int32))])) _
      refine XS.icmpNo X99.here hx rfl (hb hby at_226) rfl (flt (by decide)).1 ?_
      show Steps p.tables e below (T99.setTop (mkF m 229 #[.val (.long d0), .second, .val (.long d1), .second, .val (.long d2), .second, .val (.long f0), .second, .val (.long f1), .second, .val (.int sh), .val (.int (3 : Int32)), .val (.long v11), .second, .val (.ref b1), .val (.ref b75), .val (.int m152), .val (.int r158), .unset] [])) _
      refine XS.aload X99.here hx rfl (hb hby at_229) rfl rfl ?_
      show Steps p.tables e below (T99.setTop (mkF m 231 #[.val (.long d0), .second, .val (.long d1), .second, .val (.long d2), .second, .val (.long f0), .second, .val (.long f1), .second, .val (.int sh), .val (.int (3 : Int32)), .val (.long v11), .second, .val (.ref b1), .val (.ref b75), .val (.int m152), .val (.int r158), .unset] [(.ref b75)])) _
      refine XS.iconst X99.here hx rfl (hb hby at_231) ?_
      show Steps p.tables e below (T99.setTop (mkF m 232 #[.val (.long d0), .second, .val (.long d1), .second, .val (.long d2), .second, .val (.long f0), .second, .val (.long f1), .second, .val (.int sh), .val (.int (3 : Int32)), .val (.long v11), .second, .val (.ref b1), .val (.ref b75), .val (.int m152), .val (.int r158), .unset] [(.int (2 : Int32)), (.ref b75)])) _
      refine X99.laload hx (j := (2 : Int32)) (v := (.long v11)) (heq_of e99 Ar105.1) (State.isArrayOf_alike hZ.alike Ar105.2.1) Ar105.2.2 hin105 hat105 (g := (mkF m 232 #[.val (.long d0), .second, .val (.long d1), .second, .val (.long d2), .second, .val (.long f0), .second, .val (.long f1), .second, .val (.int sh), .val (.int (3 : Int32)), .val (.long v11), .second, .val (.ref b1), .val (.ref b75), .val (.int m152), .val (.int r158), .unset] [(.int (2 : Int32)), (.ref b75)])) rfl rfl (hb hby at_232) _ ?_
      show Steps p.tables e below (T99.setTop (mkF m 233 #[.val (.long d0), .second, .val (.long d1), .second, .val (.long d2), .second, .val (.long f0), .second, .val (.long f1), .second, .val (.int sh), .val (.int (3 : Int32)), .val (.long v11), .second, .val (.ref b1), .val (.ref b75), .val (.int m152), .val (.int r158), .unset] [(.long v11)])) _
      refine XS.lload X99.here hx rfl (hb hby at_233) rfl ?_
      show Steps p.tables e below (T99.setTop (mkF m 235 #[.val (.long d0), .second, .val (.long d1), .second, .val (.long d2), .second, .val (.long f0), .second, .val (.long f1), .second, .val (.int sh), .val (.int (3 : Int32)), .val (.long v11), .second, .val (.ref b1), .val (.ref b75), .val (.int m152), .val (.int r158), .unset] [(.long v11), (.long v11)])) _
      refine XS.lcmp X99.here hx rfl (hb hby at_235) rfl ?_
      show Steps p.tables e below (T99.setTop (mkF m 236 #[.val (.long d0), .second, .val (.long d1), .second, .val (.long d2), .second, .val (.long f0), .second, .val (.long f1), .second, .val (.int sh), .val (.int (3 : Int32)), .val (.long v11), .second, .val (.ref b1), .val (.ref b75), .val (.int m152), .val (.int r158), .unset] [(.int (lcmpW v11 v11))])) _
      refine XS.ifNo X99.here hx rfl (hb hby at_236) rfl ((if0 _ _).trans (teq ((lw_eq v11 v11).2 rfl)).2) ?_
      show Steps p.tables e below (T99.setTop (mkF m 239 #[.val (.long d0), .second, .val (.long d1), .second, .val (.long d2), .second, .val (.long f0), .second, .val (.long f1), .second, .val (.int sh), .val (.int (3 : Int32)), .val (.long v11), .second, .val (.ref b1), .val (.ref b75), .val (.int m152), .val (.int r158), .unset] [])) _
      refine XS.iconst X99.here hx rfl (hb hby at_239) ?_
      show Steps p.tables e below (T99.setTop (mkF m 240 #[.val (.long d0), .second, .val (.long d1), .second, .val (.long d2), .second, .val (.long f0), .second, .val (.long f1), .second, .val (.int sh), .val (.int (3 : Int32)), .val (.long v11), .second, .val (.ref b1), .val (.ref b75), .val (.int m152), .val (.int r158), .unset] [(.int (1 : Int32))])) _
      refine XS.goto X99.here hx rfl (pc0 := 240) (pc' := 244) rfl (hb hby at_240) (by decide) (by decide) ?_
      show Steps p.tables e below (T99.setTop (mkF m 244 #[.val (.long d0), .second, .val (.long d1), .second, .val (.long d2), .second, .val (.long f0), .second, .val (.long f1), .second, .val (.int sh), .val (.int (3 : Int32)), .val (.long v11), .second, .val (.ref b1), .val (.ref b75), .val (.int m152), .val (.int r158), .unset] [(.int (1 : Int32))])) _
      refine XS.istore X99.here hx rfl (hb hby at_244) rfl (l' := #[.val (.long d0), .second, .val (.long d1), .second, .val (.long d2), .second, .val (.long f0), .second, .val (.long f1), .second, .val (.int sh), .val (.int (3 : Int32)), .val (.long v11), .second, .val (.ref b1), .val (.ref b75), .val (.int m152), .val (.int r158), .val (.int (1 : Int32))]) rfl ?_
      show Steps p.tables e below (T99.setTop (mkF m 246 #[.val (.long d0), .second, .val (.long d1), .second, .val (.long d2), .second, .val (.long f0), .second, .val (.long f1), .second, .val (.int sh), .val (.int (3 : Int32)), .val (.long v11), .second, .val (.ref b1), .val (.ref b75), .val (.int m152), .val (.int r158), .val (.int (1 : Int32))] [])) _
      refine XS.iload X99.here hx rfl (hb hby at_246) rfl ?_
      show Steps p.tables e below (T99.setTop (mkF m 248 #[.val (.long d0), .second, .val (.long d1), .second, .val (.long d2), .second, .val (.long f0), .second, .val (.long f1), .second, .val (.int sh), .val (.int (3 : Int32)), .val (.long v11), .second, .val (.ref b1), .val (.ref b75), .val (.int m152), .val (.int r158), .val (.int (1 : Int32))] [(.int r158)])) _
      refine XS.iload X99.here hx rfl (hb hby at_248) rfl ?_
      by_cases d106 : r158 = m152
      · skip
        show Steps p.tables e below (T99.setTop (mkF m 250 #[.val (.long d0), .second, .val (.long d1), .second, .val (.long d2), .second, .val (.long f0), .second, .val (.long f1), .second, .val (.int sh), .val (.int (3 : Int32)), .val (.long v11), .second, .val (.ref b1), .val (.ref b75), .val (.int m152), .val (.int r158), .val (.int (1 : Int32))] [(.int m152), (.int r158)])) _
        refine XS.icmpNo X99.here hx rfl (hb hby at_250) rfl (teq d106).2 ?_
        show Steps p.tables e below (T99.setTop (mkF m 253 #[.val (.long d0), .second, .val (.long d1), .second, .val (.long d2), .second, .val (.long f0), .second, .val (.long f1), .second, .val (.int sh), .val (.int (3 : Int32)), .val (.long v11), .second, .val (.ref b1), .val (.ref b75), .val (.int m152), .val (.int r158), .val (.int (1 : Int32))] [])) _
        refine XS.iload X99.here hx rfl (hb hby at_253) rfl ?_
        show Steps p.tables e below (T99.setTop (mkF m 255 #[.val (.long d0), .second, .val (.long d1), .second, .val (.long d2), .second, .val (.long f0), .second, .val (.long f1), .second, .val (.int sh), .val (.int (3 : Int32)), .val (.long v11), .second, .val (.ref b1), .val (.ref b75), .val (.int m152), .val (.int r158), .val (.int (1 : Int32))] [(.int (1 : Int32))])) _
        refine XS.ifNo X99.here hx rfl (hb hby at_255) rfl ((if0 _ _).trans (feq (by decide)).1) ?_
        show Steps p.tables e below (T99.setTop (mkF m 258 #[.val (.long d0), .second, .val (.long d1), .second, .val (.long d2), .second, .val (.long f0), .second, .val (.long f1), .second, .val (.int sh), .val (.int (3 : Int32)), .val (.long v11), .second, .val (.ref b1), .val (.ref b75), .val (.int m152), .val (.int r158), .val (.int (1 : Int32))] [])) _
        refine XS.iconst X99.here hx rfl (hb hby at_258) ?_
        show Steps p.tables e below (T99.setTop (mkF m 259 #[.val (.long d0), .second, .val (.long d1), .second, .val (.long d2), .second, .val (.long f0), .second, .val (.long f1), .second, .val (.int sh), .val (.int (3 : Int32)), .val (.long v11), .second, .val (.ref b1), .val (.ref b75), .val (.int m152), .val (.int r158), .val (.int (1 : Int32))] [(.int (1 : Int32))])) _
        refine XS.goto X99.here hx rfl (pc0 := 259) (pc' := 263) rfl (hb hby at_259) (by decide) (by decide) ?_
        show Steps p.tables e below (T99.setTop (mkF m 263 #[.val (.long d0), .second, .val (.long d1), .second, .val (.long d2), .second, .val (.long f0), .second, .val (.long f1), .second, .val (.int sh), .val (.int (3 : Int32)), .val (.long v11), .second, .val (.ref b1), .val (.ref b75), .val (.int m152), .val (.int r158), .val (.int (1 : Int32))] [(.int (1 : Int32))])) _
        exact castTop (by simp only [hm263, if_pos d106]) kt
      · skip
        show Steps p.tables e below (T99.setTop (mkF m 250 #[.val (.long d0), .second, .val (.long d1), .second, .val (.long d2), .second, .val (.long f0), .second, .val (.long f1), .second, .val (.int sh), .val (.int (3 : Int32)), .val (.long v11), .second, .val (.ref b1), .val (.ref b75), .val (.int m152), .val (.int r158), .val (.int (1 : Int32))] [(.int m152), (.int r158)])) _
        refine XS.icmpYes X99.here hx rfl (pc0 := 250) (pc' := 262) rfl (hb hby at_250) rfl (feq d106).2 (by decide) (by decide) ?_
        show Steps p.tables e below (T99.setTop (mkF m 262 #[.val (.long d0), .second, .val (.long d1), .second, .val (.long d2), .second, .val (.long f0), .second, .val (.long f1), .second, .val (.int sh), .val (.int (3 : Int32)), .val (.long v11), .second, .val (.ref b1), .val (.ref b75), .val (.int m152), .val (.int r158), .val (.int (1 : Int32))] [])) _
        refine XS.iconst X99.here hx rfl (hb hby at_262) ?_
        show Steps p.tables e below (T99.setTop (mkF m 263 #[.val (.long d0), .second, .val (.long d1), .second, .val (.long d2), .second, .val (.long f0), .second, .val (.long f1), .second, .val (.int sh), .val (.int (3 : Int32)), .val (.long v11), .second, .val (.ref b1), .val (.ref b75), .val (.int m152), .val (.int r158), .val (.int (1 : Int32))] [(.int (0 : Int32))])) _
        exact castTop (by simp only [hm263, if_neg d106]) kt
    obtain ⟨fs, hr, hrun, hended, hW, hsame⟩ := X99.leave (v := some (Value.int (nar .boolean m263))) (fun h => by rw [Bd.returns] at h; cases h)
    have hres108 : (nar .boolean m263) = (1 : Int32) := (own_leaf_0_263_s3 d0 d1 d2 f0 f1 sh hv4 v11 hv11 m152 hm152 r158 hr158 m263 hm263)
    refine ⟨_, _, pre107 _ ?_, hrun, hended, _, _, rfl, ?_, ⟨_, rfl⟩, hW, hsame.mono (by decide) (by decide)⟩
    · skip
      show Steps p.tables e below (T99.setTop (mkF m 263 #[.val (.long d0), .second, .val (.long d1), .second, .val (.long d2), .second, .val (.long f0), .second, .val (.long f1), .second, .val (.int sh), .val (.int (3 : Int32)), .val (.long v11), .second, .val (.ref b1), .val (.ref b75), .val (.int m152), .val (.int r158), .val (.int (1 : Int32))] [(.int m263)])) _
      exact retN X99 hx (t := .boolean) Bd.returns (by simp) (hb hby at_263) hr
    · show Q0 Z d0 d1 d2 f0 f1 sh h0 n0 _ T99.heap _
      rw [e99]
      exact ⟨congrArg (fun z => some (Value.int z)) hres108, N99⟩
set_option maxRecDepth 65536 in
set_option maxHeartbeats 40000000 in
theorem comes_1 {Post : Tables → Env → Array Value → State → Outcome → State → Prop} (hpost : ∀ tb e args s v u, (limb_1_1.after args s (.returned v) u = true ∧ limb_1_2.after args s (.returned v) u = true ∧ True) → FrameEnd s (.returned v) u (Jvm.fieldLocs frame_1_writes args s ++ Jvm.arrayLocs frame_1_arrays args s ++ Jvm.staticLocs frame_1_statics s) 16 128 → Post tb e args s (.returned v) u) :
    ArmFor flags0 classFile x code maxLocals ret World_1 tables_1 room_1 Calls_1 rest_1 Pre_1 Post := by
  intro l hfl _ _ p e ha hc hk s m args below hf hA hF happ hP
  obtain ⟨hcalls, hrest, hpre⟩ := hP
  obtain ⟨-, -, -, hnamed, -, -, -, hat⟩ := (Spec.applies_iff hf).mp happ
  obtain ⟨hg, hn⟩ := and_e (Cond.before_iff.mp (show (Jvm.Cond.and given_1 narrow_1).before args s = true from hpre))
  obtain ⟨gv1, gv2⟩ := and_e hg
  obtain ⟨gv3, gv4⟩ := and_e gv2
  obtain ⟨gv5, gv6⟩ := and_e gv4
  obtain ⟨gv7, gv8⟩ := and_e gv6
  obtain ⟨gv9, gv10⟩ := and_e gv8
  obtain ⟨gv11, gv12⟩ := and_e gv10
  obtain ⟨w0, w1, w2, w3, w4, w5, rfl⟩ : ∃ w0 w1 w2 w3 w4 w5 : Value, args = #[w0, w1, w2, w3, w4, w5] := by
    have hs : args.size = 6 := by simpa [Cond.value, given_1] using gv1
    obtain ⟨L⟩ := args
    match L, hs with
    | [w0, w1, w2, w3, w4, w5], _ => exact ⟨w0, w1, w2, w3, w4, w5, rfl⟩
  have hw := fun d (hd : d ∈ tables_1) => atoms_spec (ws := Jvm.Cond.code x code maxLocals ret :: tables_1) hat d (List.mem_cons_of_mem _ hd)
  obtain ⟨i0, ei0⟩ := isL_v gv3
  obtain rfl : w0 = (.long i0) := Option.some.inj ei0
  obtain ⟨i1, ei1⟩ := isL_v gv5
  obtain rfl : w1 = (.long i1) := Option.some.inj ei1
  obtain ⟨i2, ei2⟩ := isL_v gv7
  obtain rfl : w2 = (.long i2) := Option.some.inj ei2
  obtain ⟨i3, ei3⟩ := isL_v gv9
  obtain rfl : w3 = (.long i3) := Option.some.inj ei3
  obtain ⟨i4, ei4⟩ := isL_v gv11
  obtain rfl : w4 = (.long i4) := Option.some.inj ei4
  obtain ⟨i5, ei5⟩ := is_v gv12
  obtain rfl : w5 = (.int i5) := Option.some.inj ei5
  obtain ⟨n, o, h1, h2, h3, _, L, rfl, ⟨rfl, N⟩, hq⟩ := rm0 l s _ hw tables_1 i0 i1 i2 i3 i4 i5  s.heap s.heap.size (Nat.le_refl _)  p e ha hc hk s m _ below hf ((Spec.applies_iff_loose hf).mp happ).1 ⟨rfl, State.Warmed39.refl s, rfl⟩ trivial
  refine ⟨n, _, h1, h2, h3, hpost _ _ _ _ _ _ ⟨Cond.after_iff.mpr rfl, Cond.after_iff.mpr (eq_i res_at (Term.int_eval (1)) rfl), trivial⟩ ⟨hq.1, hq.2.1, (hq.2.2.sift fun y hy => Or.inr (N y hy)).mono (by decide) (by decide)⟩⟩
theorem main_1_1 : Claimed_1_1 := comes_1 fun _ _ _ _ _ _ h hF => ⟨h.1, hF⟩
theorem main_1_2 : Claimed_1_2 := comes_1 fun _ _ _ _ _ _ h hF => ⟨h.2.1, hF⟩
end Jvm.Pilot.@@N@@
namespace Jvm.Pilot.@@N@@
open Jvm Jvm.ClassFile Sem Op Lib Jvm.Free Jvm.Stand Jvm.Pilot.@@N@@.Jvm.D
/-! MADE BY PROGRAM (witnessworld.py) out of the Statement's table words and the real class files: 11 classes; the members and pool entries that the words name. The judged class is class 1, her method 1. -/
namespace start1
open Jvm.ClassFile
def u (s : String) : CpInfo := .utf8 (stringToUtf16 s)
/-- a pool by its gaps: so many unusable entries, then the entry; so many at the end -/
def gap : Nat → List CpInfo → List CpInfo
  | 0, r => r
  | n + 1, r => .unusable :: gap n r
def poolList (es : List (Nat × CpInfo)) (last : Nat) : List CpInfo := es.foldr (fun e r => gap e.1 (e.2 :: r)) (gap last [])
def pool (es : List (Nat × CpInfo)) (last : Nat) : Array CpInfo := ⟨poolList es last⟩
def fileOf (pool : Array CpInfo) (this : Nat) (attrs : Array Attribute := #[]) (ms : Array MethodInfo := #[]) (fl : Nat := 33) (sup : Nat := 0) (ifs : Array Nat := #[]) (fds : Array FieldInfo := #[]) : ClassFile where
  minorVersion := 0
  majorVersion := 65
  constantPool := pool
  accessFlags := fl
  thisClass := this
  superClass := sup
  interfaces := ifs
  fields := fds
  methods := ms
  attributes := attrs
def plain (name : String) (sup : Option ClassId) : Class where
  name := name
  kind := .ordinary
  loader := none
  accessFlags := 33
  super := sup
  interfaces := #[]
  cf := none
  fields := #[]
  methods := #[]
  instanceTypes := #[]
  staticTypes := #[]
  resolved := #[]
  callSites := []
  init := .initialized
  statics := none
  mirror := none

def pool0 : Array CpInfo := pool [(5, u "<init>"), (0, u "()V"), (1, .class_ 10), (1, u "java/lang/Object")] 113

def k0m0 : Method := { name := "<init>", desc := "()V", sig := { parameters := [], returnType := none }, accessFlags := 1, code := none }
/-- java/lang/Object -/
def k0 : Class := { plain "java/lang/Object" none with
  accessFlags := 33
  interfaces := #[]
  cf := some (fileOf pool0 8 #[] #[{ accessFlags := 1, nameIndex := 5, descriptorIndex := 6, attributes := #[] }] 33 0 #[] #[])
  fields := #[]
  methods := #[k0m0]
  instanceTypes := #[]
  staticTypes := #[]
  resolved := Array.replicate 124 none
  statics := none }

def pool1 : Array CpInfo := pool [(2, .class_ 4), (1, u "java/lang/Object"), (0, u "<init>"), (0, u "()V"), (0, .methodref 8 9), (0, .class_ 10), (0, .nameAndType 11 12), (0, u "com/example/evenkeel/evenkeel/MachineAllocation"), (0, u "fits"), (0, u "([J[J)Z"), (0, .class_ 14), (0, u "com/example/evenkeel/evenkeel/MachineAllocationFitsPinLaw"), (2, u "law"), (0, u "(JJJJJI)Z")] 5

def k1m0 : Method := { name := "<init>", desc := "()V", sig := { parameters := [], returnType := none }, accessFlags := 1, code := none }
def k1c1 : Code := { maxStack := 5, maxLocals := 19, code := code, exceptionTable := #[], attributes := #[] }
def k1m1 : Method := { name := "law", desc := "(JJJJJI)Z", sig := { parameters := [.long, .long, .long, .long, .long, .int], returnType := some .boolean }, accessFlags := 9, code := some k1c1 }
/-- com/example/evenkeel/evenkeel/MachineAllocationFitsPinLaw -/
def k1 : Class := { plain "com/example/evenkeel/evenkeel/MachineAllocationFitsPinLaw" (some 0) with
  accessFlags := 49
  interfaces := #[]
  cf := some (fileOf pool1 13 #[] #[{ accessFlags := 1, nameIndex := 5, descriptorIndex := 6, attributes := #[] }, { accessFlags := 9, nameIndex := 17, descriptorIndex := 18, attributes := #[] }] 49 2 #[] #[])
  fields := #[]
  methods := #[k1m0, k1m1]
  instanceTypes := #[]
  staticTypes := #[]
  resolved := Array.replicate 24 none
  statics := none }

def pool2 : Array CpInfo := pool [(2, .class_ 4), (1, u "java/lang/Object"), (3, .class_ 10), (1, u "com/example/evenkeel/evenkeel/MachineAllocation"), (0, u "machine"), (0, u "Lcom/example/evenkeel/evenkeel/Machine;"), (4, u "capacity"), (3, u "[J"), (2, u "free"), (17, u "running"), (0, u "Ljava/util/NavigableSet;"), (2, u "tasks"), (0, u "J"), (2, u "fits"), (0, u "([J[J)Z"), (12, u "slotsBooked")] 65

def k2c0 : Code := { maxStack := 4, maxLocals := 3, code := prog_7_method_8_code, exceptionTable := #[], attributes := #[] }
def k2m0 : Method := { name := "fits", desc := "([J[J)Z", sig := { parameters := [(.array .long), (.array .long)], returnType := some .boolean }, accessFlags := 8, code := some k2c0 }
/-- com/example/evenkeel/evenkeel/MachineAllocation -/
def k2 : Class := { plain "com/example/evenkeel/evenkeel/MachineAllocation" (some 0) with
  accessFlags := 49
  interfaces := #[]
  cf := some (fileOf pool2 8 #[] #[{ accessFlags := 8, nameIndex := 50, descriptorIndex := 51, attributes := #[] }] 49 2 #[] #[{ accessFlags := 18, nameIndex := 11, descriptorIndex := 12, attributes := #[] }, { accessFlags := 18, nameIndex := 17, descriptorIndex := 21, attributes := #[] }, { accessFlags := 18, nameIndex := 24, descriptorIndex := 21, attributes := #[] }, { accessFlags := 2, nameIndex := 46, descriptorIndex := 47, attributes := #[] }, { accessFlags := 2, nameIndex := 64, descriptorIndex := 47, attributes := #[] }, { accessFlags := 18, nameIndex := 42, descriptorIndex := 43, attributes := #[] }])
  fields := #[{ name := "machine", type := (.object "com/example/evenkeel/evenkeel/Machine"), accessFlags := 18, slot := 0, constantValue := 0 }, { name := "capacity", type := (.array .long), accessFlags := 18, slot := 1, constantValue := 0 }, { name := "free", type := (.array .long), accessFlags := 18, slot := 2, constantValue := 0 }, { name := "tasks", type := .long, accessFlags := 2, slot := 3, constantValue := 0 }, { name := "slotsBooked", type := .long, accessFlags := 2, slot := 4, constantValue := 0 }, { name := "running", type := (.object "java/util/NavigableSet"), accessFlags := 18, slot := 5, constantValue := 0 }]
  methods := #[k2m0]
  instanceTypes := #[(.object "com/example/evenkeel/evenkeel/Machine"), (.array .long), (.array .long), .long, .long, (.object "java/util/NavigableSet")]
  staticTypes := #[]
  resolved := Array.replicate 130 none
  statics := none }

def pool3 : Array CpInfo := pool [(1, u "java/lang/Cloneable"), (0, .class_ 1), (0, u "java/lang/Object"), (0, .class_ 3)] 3

/-- java/lang/Cloneable -/
def k3 : Class := { plain "java/lang/Cloneable" (some 0) with
  accessFlags := 1537
  interfaces := #[]
  cf := some (fileOf pool3 2 #[] #[] 1537 4 #[] #[])
  fields := #[]
  methods := #[]
  instanceTypes := #[]
  staticTypes := #[]
  resolved := Array.replicate 8 none
  statics := none }

def pool4 : Array CpInfo := pool [(1, u "java/io/Serializable"), (0, .class_ 1), (0, u "java/lang/Object"), (0, .class_ 3)] 3

/-- java/io/Serializable -/
def k4 : Class := { plain "java/io/Serializable" (some 0) with
  accessFlags := 1537
  interfaces := #[]
  cf := some (fileOf pool4 2 #[] #[] 1537 4 #[] #[])
  fields := #[]
  methods := #[]
  instanceTypes := #[]
  staticTypes := #[]
  resolved := Array.replicate 8 none
  statics := none }

/-- the primitive byte -/
def k5 : Class := { plain "byte" none with kind := .primitive 'B', accessFlags := 0x411 }
/-- [B -/
def k6 : Class := { plain "[B" (some 0) with kind := .array 5 .byte, interfaces := #[3, 4], accessFlags := 1041 }

/-- the primitive int -/
def k7 : Class := { plain "int" none with kind := .primitive 'I', accessFlags := 0x411 }
/-- [I -/
def k8 : Class := { plain "[I" (some 0) with kind := .array 7 .int, interfaces := #[3, 4], accessFlags := 1041 }

/-- the primitive long -/
def k9 : Class := { plain "long" none with kind := .primitive 'J', accessFlags := 0x411 }
/-- [J -/
def k10 : Class := { plain "[J" (some 0) with kind := .array 9 .long, interfaces := #[3, 4], accessFlags := 1041 }

def heap : Heap := #[]
def classes : Array Class := #[k0, k1, k2, k3, k4, k5, k6, k7, k8, k9, k10]
def interned : List (Array UInt16 × Addr) := []
def slotsUsed : Nat := 0
def theMethod : MethodId := ⟨1, 1⟩
def args0 : Array Value := #[.long 5, .long 6, .long 7, .long 2, .long 2, .int 2]
def aboutOver (below : List Frame) : State where
  vm := { classes := classes, interned := interned.toArray }
  heap := heap
  slotsUsed := slotsUsed
  threads := #[{ frames := .invoking theMethod args0 :: below }]
def below0 : List Frame := [.native { method := ⟨0, 0⟩, args := #[] }]
def about1 : State := aboutOver below0
def p0 : Program := .bare "" "" ""
def e0 : Env := launch0.env 0 0 0
theorem w_frames : about1.frames = Frame.invoking theMethod args0 :: below0 := rfl
set_option maxRecDepth 65536 in
theorem w_args : argsFit about1.vm theMethod args0 = true := by decide +kernel
set_option maxRecDepth 65536 in
theorem w_heap : heapFits about1 = true := by decide +kernel
set_option maxRecDepth 65536 in
theorem w_runnable : about1.curStatus? = some .runnable := by decide +kernel
set_option maxRecDepth 65536 in
theorem w_alone : about1.alone = true := by decide +kernel
set_option maxRecDepth 65536 in
theorem w_named : about1.methodNamed? x = some theMethod := by decide +kernel
set_option maxRecDepth 65536 in
theorem w_hears : about1.hears theMethod below0 = true := by decide +kernel
set_option maxRecDepth 65536 in
theorem w_ripe : about1.ripe theMethod args0 below0 = true := by decide +kernel
theorem w_running : about1.status = .running := rfl
set_option maxRecDepth 65536 in
theorem w_room : about1.hasRoom e0.platform room_1 = true :=
  launch0.hasRoom_least _ room_1 (by decide +kernel) (by decide +kernel) (by decide +kernel) (by decide +kernel) (by decide +kernel) (by decide +kernel)
theorem allAtoms_all (ts : List Jvm.Cond) (a : Array Jvm.Value) (st : Jvm.State) : (allAtoms ts).before a st = ts.all (fun c => c.before a st) := by
  induction ts with
  | nil => rfl
  | cons c t ih =>
    show (Jvm.Cond.and c (allAtoms t)).before a st = _
    rw [Jvm.Cond.before_and, ih, List.all_cons]
def words1 : List Jvm.Cond := Jvm.Cond.code x code maxLocals ret :: tables_1
/-- a 'code' word, met by the world's own term for the bytes: nothing is compared byte by byte -/
theorem code_word {y : MethodName} {bytes : ByteArray} {mx : Nat} {rt : Option FieldType} {a : Array Value} {s : State} {m : MethodId} {meth : Method} {c : Code} (h1 : s.methodNamed? y = some m) (h2 : s.vm.method? m = some meth) (h3 : meth.code = some c) (h4 : c.code = bytes)
    (h5 : (c.maxLocals == mx && c.exceptionTable.isEmpty && decide (c.maxStack ≤ mostOperands) && decide (meth.sig.returnType = rt) && !meth.locks && decide (parseMethodDescriptor y.desc = some meth.sig)) = true) : (Jvm.Cond.code y bytes mx rt).before a s = true := by
  simp only [Bool.and_eq_true, beq_iff_eq, Bool.not_eq_true', decide_eq_true_eq] at h5
  obtain ⟨⟨⟨⟨⟨g1, g2⟩, g3⟩, g4⟩, g5⟩, g6⟩ := h5
  simp [Cond.before, Cond.holds, Cond.value, h1, h2, h3, h4, g1, g2, g3, g4, g5, g6]
def isCode : Jvm.Cond → Bool
  | .code _ _ _ _ => true
  | _ => false
theorem all_split {L : List Jvm.Cond} {P : Jvm.Cond → Bool} (h1 : L.all (fun c => isCode c || P c) = true) (h2 : ∀ c ∈ L.filter isCode, P c = true) : L.all P = true := by
  refine List.all_eq_true.mpr fun c hc => ?_
  have h := List.all_eq_true.mp h1 c hc
  rcases Bool.eq_false_or_eq_true (isCode c) with hi | hi
  · exact h2 c (List.mem_filter.mpr ⟨hc, hi⟩)
  · simpa [hi] using h
set_option maxRecDepth 65536 in
theorem w_c0 : (Jvm.Cond.code x code maxLocals ret).before args0 about1 = true := code_word (m := ⟨1, 1⟩) (meth := k1m1) (c := k1c1) (by decide +kernel) rfl rfl rfl (by decide +kernel)
set_option maxRecDepth 65536 in
theorem w_c1 : (Jvm.Cond.code ({ cls := "com/example/evenkeel/evenkeel/MachineAllocation", name := "fits", desc := "([J[J)Z" } : Jvm.MethodName) prog_7_method_8_code (3 : Nat) (Option.some Jvm.ClassFile.FieldType.boolean)).before args0 about1 = true := code_word (m := ⟨2, 0⟩) (meth := k2m0) (c := k2c0) (by decide +kernel) rfl rfl rfl (by decide +kernel)
def codes1 : List Jvm.Cond := [Jvm.Cond.code x code maxLocals ret, Jvm.Cond.code ({ cls := "com/example/evenkeel/evenkeel/MachineAllocation", name := "fits", desc := "([J[J)Z" } : Jvm.MethodName) prog_7_method_8_code (3 : Nat) (Option.some Jvm.ClassFile.FieldType.boolean)]
set_option maxRecDepth 65536 in
theorem codes_eq : words1.filter isCode = codes1 := rfl
theorem w_codes : ∀ c ∈ words1.filter isCode, c.before args0 about1 = true := by
  rw [codes_eq]
  intro c hc
  simp only [codes1, List.mem_cons, List.not_mem_nil, or_false] at hc
  rcases hc with rfl | rfl
  · exact w_c0
  · exact w_c1
set_option maxRecDepth 65536 in
theorem w_t1 : words1.all (fun c => isCode c || c.before args0 about1) = true := by decide +kernel
theorem w_tables : (allAtoms (Jvm.Cond.code x code maxLocals ret :: tables_1)).before args0 about1 = true := by
  rw [allAtoms_all]
  show words1.all (fun c => c.before args0 about1) = true
  refine all_split ?_ w_codes
  rw [w_t1]
set_option maxRecDepth 65536 in
theorem w_case : (Jvm.Cond.and given_1 narrow_1).before args0 about1 = true := by decide +kernel
theorem w_applies : (headSpec (Jvm.Cond.code x code maxLocals ret :: tables_1) room_1).applies x e0.platform about1 = true :=
  (Spec.applies_iff w_frames).mpr ⟨w_running, w_runnable, w_alone, w_named, w_hears, w_ripe, w_room, w_tables⟩
theorem atStart : AtStart classFile x code maxLocals ret World_1 tables_1 room_1 Calls_1 rest_1 Pre_1 launch0 p0 e0 about1 theMethod args0 below0 :=
  ⟨lists_1, trivial, launch0.admits_env _ _ _, launch0.least_env, fairChoices_fair.cas, fairChoices_fair.clock, w_frames, w_args, w_heap, w_applies, trivial, trivial, w_case⟩
end start1
theorem witness_1 : WitnessClaimed_1 := ⟨start1.p0, start1.e0, start1.about1, start1.theMethod, start1.args0, start1.below0, start1.atStart⟩
end Jvm.Pilot.@@N@@
