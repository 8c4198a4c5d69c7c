import JvmDerived
import JvmDerived.Pilot.@@N@@Statement
import JvmDerived.Pilot.@@N@@Code
set_option linter.unusedVariables false
set_option linter.unusedSimpArgs false
namespace Jvm.RoadKit
theorem heq_of {T : State} {h : Heap} {a : Addr} {c : Cell} (e : T.heap = h) (q : h[a]? = some c) : T.heap[a]? = some c := by rw [e]; exact q
open Sem ClassFile Op Lib Jvm.Stand Jvm.Free Jvm.LawKit
section New
variable {p : Program} {l : Launch} {e : Env} {R : Room} {s : State} {m : MethodId} {args : Array Value} {below : List Frame} {meth : Method} {c : Code} {T : State} {locs : List Loc} {cells slots : Nat}
theorem retI (X : Stand p l e R s m args below meth c T locs cells slots) (hx : p.tables.exec = Jvm.exec) {pc : Nat} {Ls : Array Slot} {z : Int32} {rest : List Value} (hret : meth.sig.returnType = some .int) (hd : decode c.code pc = .ok (.ireturn, 1)) {fs : List Frame}
    (hl : ∀ (f : JFrame) (acts : List Action), f.method = m → f.locked = none → f.entered = [] → (doReturn e (T.setTop f) acts (some (.int z))).1 = T.setFrames fs) : Steps p.tables e below (T.setTop (mkF m pc Ls (.int z :: rest))) (T.setFrames fs) := by
  have hm' : T.vm.method? m = some meth := X.method'
  have hn : narrow .int (.int z) = .int z := rfl
  show Steps p.tables e below (T.setTop { method := m, pc := pc, locals := Ls, stack := _ :: rest, locked := none }) _
  jvm_step X.here [X.here.top, hx, hd, hm', hret, hn]
  first | (intro acts; rw [hl _ acts rfl rfl rfl]) | rw [hl _ _ rfl rfl rfl]
  exact Steps.refl _
end New
end Jvm.RoadKit
namespace Jvm.Pilot.@@N@@
open Jvm Jvm.ClassFile Sem Op Lib Jvm.Free Jvm.Stand Jvm.LawKit Jvm.RoadKit Bundle Jvm.Pilot.@@N@@.Jvm.D
def own_cmp (x y : Int64) : Int32 := if x < y then (-1 : Int32) else (if x = y then (0 : Int32) else (1 : Int32))
def own_cmp2 (a b c d : Int64) : Int32 := if own_cmp a c = (0 : Int32) then own_cmp b d else own_cmp a c
def own_sign (z : Int32) : Int32 := if z < (0 : Int32) then (-1 : Int32) else (if (0 : Int32) < z then (1 : Int32) else (0 : Int32))
theorem own_tri (x y : Int64) : x < y ∧ ¬ y < x ∧ ¬ x = y ∨ y < x ∧ ¬ x < y ∧ ¬ x = y ∨ x = y ∧ ¬ x < y ∧ ¬ y < x := by
  have e : x = y ↔ x.toInt = y.toInt := Int64.toInt_inj.symm
  rw [e, Int64.lt_iff_toInt_lt, Int64.lt_iff_toInt_lt]
  omega
theorem own_law (a b c d : Int64) : own_sign (own_cmp2 a b c d) = (if a < c then (-1 : Int32) else (if c < a then (1 : Int32) else (if b < d then (-1 : Int32) else (if d < b then (1 : Int32) else (0 : Int32))))) := by
  unfold own_cmp2 own_cmp
  rcases own_tri a c with ⟨h1, h2, h3⟩ | ⟨h1, h2, h3⟩ | ⟨h1, h2, h3⟩ <;> rcases own_tri b d with ⟨g1, g2, g3⟩ | ⟨g1, g2, g3⟩ | ⟨g1, g2, g3⟩ <;> simp only [eq_true h1, eq_false h2, eq_false h3, eq_true g1, eq_false g2, eq_false g3, if_true, if_false] <;> decide
theorem d2_0 : decode jdk_30_method_1_code 0 = .ok (.aload_n 0, 1) := by decide +kernel
theorem d2_1 : decode jdk_30_method_1_code 1 = .ok (.invokespecial 1, 3) := by decide +kernel
theorem d2_4 : decode jdk_30_method_1_code 4 = .ok (.return_, 1) := by decide +kernel
theorem pn_2 : plainName "java/lang/Record" = true := by first | (simp [plainName, overriddenIn]; done) | decide +kernel
theorem ef_2 (m : MethodId) (x0 : Addr) : entryFrame m #[(.ref x0)] 1 = mkF m 0 #[.val (.ref x0)] [] := by first | (simp [entryFrame, mkF, argsToLocals, Value.category]; done) | rfl
def Q2 (Z : State) (ob : Addr) (h0 : Heap) (n0 : Nat) (v : Option Value) (h : Heap) (L : List Loc) : Prop := v = none ∧ Fr n0 L ∧ h = h0
set_option maxRecDepth 65536 in
set_option maxHeartbeats 40000000 in
theorem rm2 (l : Launch) (Z : State) (a0 : Array Value) (hw : ∀ d ∈ tables_1, d.before a0 Z = true) (ws : List Jvm.Cond) (ob : Addr) (h0 : Heap) (n0 : Nat) (Z0 : n0 ≤ h0.size)  :
    MetFree l (⟨"java/lang/Record", "<init>", "()V"⟩ : MethodName) (head1 (Jvm.Cond.code (⟨"java/lang/Record", "<init>", "()V"⟩ : MethodName) jdk_30_method_1_code 1 none :: ws) ({ frames := 1, cells := 0, slots := 0, locals := 12 } : Room)) (fun a U => a = #[(.ref ob)] ∧ Z.Warmed39 U.vm ∧ U.heap = h0) (fun _ _ _ _ _ => True) (fun _ U o U' => ∃ v L, o = .returned v ∧ Q2 Z ob h0 n0 v U'.heap L ∧ FrameEnd U o U' L ({ frames := 1, cells := 0, slots := 0, locals := 12 } : Room).cells ({ frames := 1, cells := 0, slots := 0, locals := 12 } : Room).slots) := by
  refine MetFree.of_bodySF (plainFor_of_name pn_2) hisR ?_
  intro p e s m args below meth c s₁ Bd hml0 hP hK
  obtain ⟨rfl, hZ, hh⟩ := hP
  have hx := Bd.exec
  have hby := Bd.bytes
  have hml : c.maxLocals = 1 := hml0
  have hown : s.vm.findClass "java/lang/Record" = some m.cls := findClass_of_methodNamed Bd.named
  have hnm := (name_of_methodNamed Bd.named Bd.method).1
  have X0 : Stand p l e ({ frames := 1, cells := 0, slots := 0, locals := 12 } : Room) s m #[(.ref ob)] below meth c s₁ [] 0 0 := Stand.of_body Bd
  have e0 : s₁.heap = h0 := by rw [← hh, Bd.state]; rfl
  have N0 := Fr.nil n0
  have K0 : Keep h0 h0 [] := Keep.refl h0 _
  have pre0 : ∀ tq, Steps p.tables e below (s₁.setTop (mkF m 0 #[.val (.ref ob)] [])) tq → Steps p.tables e below (s₁.setTop (entryFrame m #[(.ref ob)] 1)) tq := fun tq kq => castTop (ef_2 m ob) kq
  obtain ⟨T1, X1, e1, st1⟩ := initO X0 hx hZ hown (hw _ (List.mem_of_getElem? (i := 11) rfl)) (hw _ (List.mem_of_getElem? (i := 12) rfl)) (hw _ (List.mem_of_getElem? (i := 13) rfl)) e0 (g := (mkF m 1 #[.val (.ref ob)] [(.ref ob)])) rfl (by rw [hml]; rfl) rfl (hb hby d2_1) (by decide) (W := 0) (by show 2 * 0 + _ ≤ _; exact Nat.le_of_eq rfl) (by decide)
  obtain ⟨fs, hr, hrun, hended, hW, hsame⟩ := X1.leave (v := none) (fun _ => rfl)
  refine ⟨_, _, pre0 _ ?_, hrun, hended, _, _, rfl, ?_, ⟨_, rfl⟩, hW, hsame.mono (by decide) (by decide)⟩
  · skip
    show Steps p.tables e below (s₁.setTop (mkF m 0 #[.val (.ref ob)] [])) _
    refine XS.aloadN X0.here hx rfl (hb hby d2_0) rfl rfl ?_
    show Steps p.tables e below (s₁.setTop (mkF m 1 #[.val (.ref ob)] [(.ref ob)])) _
    refine st1 _ ?_
    show Steps p.tables e below (T1.setTop (mkF m 4 #[.val (.ref ob)] [])) _
    exact X1.returnOut hx Bd.returns (hb hby d2_4) hr
  · show Q2 Z ob h0 n0 _ T1.heap _
    rw [e1]
    exact ⟨rfl, N0, rfl⟩
theorem d1_0 : decode prog_14_method_1_code 0 = .ok (.aload_n 0, 1) := by decide +kernel
theorem d1_1 : decode prog_14_method_1_code 1 = .ok (.invokespecial 1, 3) := by decide +kernel
theorem d1_4 : decode prog_14_method_1_code 4 = .ok (.aload_n 0, 1) := by decide +kernel
theorem d1_5 : decode prog_14_method_1_code 5 = .ok (.lload_n 1, 1) := by decide +kernel
theorem d1_6 : decode prog_14_method_1_code 6 = .ok (.putfield 7, 3) := by decide +kernel
theorem d1_9 : decode prog_14_method_1_code 9 = .ok (.aload_n 0, 1) := by decide +kernel
theorem d1_10 : decode prog_14_method_1_code 10 = .ok (.lload_n 3, 1) := by decide +kernel
theorem d1_11 : decode prog_14_method_1_code 11 = .ok (.putfield 13, 3) := by decide +kernel
theorem d1_14 : decode prog_14_method_1_code 14 = .ok (.return_, 1) := by decide +kernel
theorem pn_1 : plainName "com/example/shardwright/shardwright/index/Version" = true := by first | (simp [plainName, overriddenIn]; done) | decide +kernel
theorem pd_0 : parseMethodDescriptor "()V" = some ⟨[], none⟩ := by decide +kernel
theorem ef_1 (m : MethodId) (x0 : Addr) (x1 : Int64) (x2 : Int64) : entryFrame m #[(.ref x0), (.long x1), (.long x2)] 5 = mkF m 0 #[.val (.ref x0), .val (.long x1), .second, .val (.long x2), .second] [] := by first | (simp [entryFrame, mkF, argsToLocals, Value.category]; done) | rfl
def Q1 (Z : State) (ob : Addr) (ta : Int64) (ua : Int64) (h0 : Heap) (n0 : Nat) (v : Option Value) (h : Heap) (L : List Loc) : Prop := v = none ∧ Fr n0 L ∧ Keep h0 h [ob] ∧ Exa Z h ob "com/example/shardwright/shardwright/index/Version" ∧ Fld Z h ob "com/example/shardwright/shardwright/index/Version" "term" "J" (.long ta) ∧ Fld Z h ob "com/example/shardwright/shardwright/index/Version" "sequence" "J" (.long ua)
set_option maxRecDepth 65536 in
set_option maxHeartbeats 40000000 in
theorem rm1 (l : Launch) (Z : State) (a0 : Array Value) (hw : ∀ d ∈ tables_1, d.before a0 Z = true) (ws : List Jvm.Cond) (ob : Addr) (ta : Int64) (ua : Int64) (h0 : Heap) (n0 : Nat) (Z0 : n0 ≤ h0.size) (I0 : Fld Z h0 ob "com/example/shardwright/shardwright/index/Version" "term" "J" (.long (0 : Int64))) (I1 : Fld Z h0 ob "com/example/shardwright/shardwright/index/Version" "sequence" "J" (.long (0 : Int64))) (I2 : Exa Z h0 ob "com/example/shardwright/shardwright/index/Version") (g_ob : n0 ≤ ob) :
    MetFree l (⟨"com/example/shardwright/shardwright/index/Version", "<init>", "(JJ)V"⟩ : MethodName) (head1 (Jvm.Cond.code (⟨"com/example/shardwright/shardwright/index/Version", "<init>", "(JJ)V"⟩ : MethodName) prog_14_method_1_code 5 none :: ws) ({ frames := 2, cells := 0, slots := 0, locals := 24 } : Room)) (fun a U => a = #[(.ref ob), (.long ta), (.long ua)] ∧ Z.Warmed39 U.vm ∧ U.heap = h0) (fun _ _ _ _ _ => True) (fun _ U o U' => ∃ v L, o = .returned v ∧ Q1 Z ob ta ua h0 n0 v U'.heap L ∧ FrameEnd U o U' L ({ frames := 2, cells := 0, slots := 0, locals := 24 } : Room).cells ({ frames := 2, cells := 0, slots := 0, locals := 24 } : Room).slots) := by
  refine MetFree.of_bodySF (plainFor_of_name pn_1) hisR ?_
  intro p e s m args below meth c s₁ Bd hml0 hP hK
  obtain ⟨rfl, hZ, hh⟩ := hP
  have hx := Bd.exec
  have hby := Bd.bytes
  have hml : c.maxLocals = 5 := hml0
  have hown : s.vm.findClass "com/example/shardwright/shardwright/index/Version" = some m.cls := findClass_of_methodNamed Bd.named
  have hnm := (name_of_methodNamed Bd.named Bd.method).1
  have X0 : Stand p l e ({ frames := 2, cells := 0, slots := 0, locals := 24 } : Room) s m #[(.ref ob), (.long ta), (.long ua)] below meth c s₁ [] 0 0 := Stand.of_body Bd
  have e0 : s₁.heap = h0 := by rw [← hh, Bd.state]; rfl
  have N0 := Fr.nil n0
  have K0 : Keep h0 h0 [ob] := Keep.refl h0 _
  have pre0 : ∀ tq, Steps p.tables e below (s₁.setTop (mkF m 0 #[.val (.ref ob), .val (.long ta), .second, .val (.long ua), .second] [])) tq → Steps p.tables e below (s₁.setTop (entryFrame m #[(.ref ob), (.long ta), (.long ua)] 5)) tq := fun tq kq => castTop (ef_1 m ob ta ua) kq
  obtain ⟨_, _, ⟨T1, L1, k1, n1⟩, -, X1, ⟨Lc1, hQ1, l1, y1, z1⟩, st1⟩ := X0.specialBack hx (y := (⟨"java/lang/Record", "<init>", "()V"⟩ : MethodName)) rfl hown (mvT hZ (hw _ (List.mem_of_getElem? (i := 6) rfl))) (mvT hZ (hw _ (List.mem_of_getElem? (i := 7) rfl))) (mvT hZ (hw _ (List.mem_of_getElem? (i := 10) rfl))) (by decide) (backOf (W := 0) (rm2 l Z a0 hw [] ob h0 n0 Z0 ) hZ (hw _ (List.mem_of_getElem? (i := 10) rfl)) (hw _ (List.mem_of_getElem? (i := 9) rfl)) (by decide) (by decide)) (g := (mkF m 1 #[.val (.ref ob), .val (.long ta), .second, .val (.long ua), .second] [(.ref ob)])) rfl (by rw [hml]; rfl) (Steps.refl _) (a := ob) (argsL := []) (rest := []) (lenOf pd_0 rfl) rfl (by show 2 * 0 + _ ≤ _; exact Nat.le_of_eq rfl) (hb hby d1_1) (fun _ _ => ⟨rfl, e0, (by decide : 0 + 0 ≤ _), (by decide : 0 + 0 ≤ _)⟩)
  dsimp only [Pt.U, Pt.locs, Pt.cells, Pt.slots] at X1 l1 y1 z1 st1 hQ1
  subst l1 y1 z1
  obtain ⟨rfl, N1q, e1⟩ := hQ1
  have N1 := Fr.app N0 N1q
  obtain ⟨T2, hX2, X2, e2, W2, st2⟩ := putF X1 hx hZ hown (host := "") (Or.inl (hw _ (List.mem_of_getElem? (i := 14) rfl))) Via.refl e1 I0 I2 (Or.inr ⟨(hw _ (List.mem_of_getElem? (i := 15) rfl)), rfl, hnm⟩) (hw _ (List.mem_of_getElem? (i := 1) rfl)) (ty := .long) (by decide) rfl rfl (g := (mkF m 6 #[.val (.ref ob), .val (.long ta), .second, .val (.long ua), .second] [(.long ta), (.ref ob)])) rfl rfl (hb hby d1_6)
  have N2 := Fr.snoc X2 N1 g_ob
  have F3 : Fld Z hX2 ob "com/example/shardwright/shardwright/index/Version" "term" "J" (.long ta) := I0.same W2
  have F4 : Fld Z hX2 ob "com/example/shardwright/shardwright/index/Version" "sequence" "J" (.long (0 : Int64)) := I1.other W2 (Or.inr (slot_ne (Or.inr (hw _ (List.mem_of_getElem? (i := 17) rfl))) (Or.inr (hw _ (List.mem_of_getElem? (i := 15) rfl))) (by decide) (t := .long) (t' := .long) (by decide) (by decide)))
  have F5 : Exa Z hX2 ob "com/example/shardwright/shardwright/index/Version" := I2.wr W2
  have Z6 : n0 ≤ hX2.size := Nat.le_trans Z0 (Keep.of_wr W2).1
  have K7 : Keep h0 hX2 [ob] := K0.wr W2 (Or.inl (List.mem_of_getElem? (i := 0) rfl))
  obtain ⟨T8, hX8, X8, e8, W8, st8⟩ := putF X2 hx hZ hown (host := "") (Or.inl (hw _ (List.mem_of_getElem? (i := 16) rfl))) Via.refl e2 F4 F5 (Or.inr ⟨(hw _ (List.mem_of_getElem? (i := 17) rfl)), rfl, hnm⟩) (hw _ (List.mem_of_getElem? (i := 1) rfl)) (ty := .long) (by decide) rfl rfl (g := (mkF m 11 #[.val (.ref ob), .val (.long ta), .second, .val (.long ua), .second] [(.long ua), (.ref ob)])) rfl rfl (hb hby d1_11)
  have N8 := Fr.snoc X8 N2 g_ob
  have F9 : Fld Z hX8 ob "com/example/shardwright/shardwright/index/Version" "sequence" "J" (.long ua) := F4.same W8
  have F10 : Exa Z hX8 ob "com/example/shardwright/shardwright/index/Version" := F5.wr W8
  have F11 : Fld Z hX8 ob "com/example/shardwright/shardwright/index/Version" "term" "J" (.long ta) := F3.other W8 (Or.inr (slot_ne (Or.inr (hw _ (List.mem_of_getElem? (i := 15) rfl))) (Or.inr (hw _ (List.mem_of_getElem? (i := 17) rfl))) (by decide) (t := .long) (t' := .long) (by decide) (by decide)))
  have Z12 : n0 ≤ hX8.size := Nat.le_trans Z6 (Keep.of_wr W8).1
  have K13 : Keep h0 hX8 [ob] := K7.wr W8 (Or.inl (List.mem_of_getElem? (i := 0) rfl))
  obtain ⟨fs, hr, hrun, hended, hW, hsame⟩ := X8.leave (v := none) (fun _ => rfl)
  refine ⟨_, _, pre0 _ ?_, hrun, hended, _, _, rfl, ?_, ⟨_, rfl⟩, hW, hsame.mono (by decide) (by decide)⟩
  · skip
    show Steps p.tables e below (s₁.setTop (mkF m 0 #[.val (.ref ob), .val (.long ta), .second, .val (.long ua), .second] [])) _
    refine XS.aloadN X0.here hx rfl (hb hby d1_0) rfl rfl ?_
    show Steps p.tables e below (s₁.setTop (mkF m 1 #[.val (.ref ob), .val (.long ta), .second, .val (.long ua), .second] [(.ref ob)])) _
    refine st1.trans ?_
    show Steps p.tables e below (T1.setTop (mkF m 4 #[.val (.ref ob), .val (.long ta), .second, .val (.long ua), .second] [])) _
    refine XS.aloadN X1.here hx rfl (hb hby d1_4) rfl rfl ?_
    show Steps p.tables e below (T1.setTop (mkF m 5 #[.val (.ref ob), .val (.long ta), .second, .val (.long ua), .second] [(.ref ob)])) _
    refine XS.lloadN X1.here hx rfl (hb hby d1_5) rfl ?_
    show Steps p.tables e below (T1.setTop (mkF m 6 #[.val (.ref ob), .val (.long ta), .second, .val (.long ua), .second] [(.long ta), (.ref ob)])) _
    refine st2 _ ?_
    show Steps p.tables e below (T2.setTop (mkF m 9 #[.val (.ref ob), .val (.long ta), .second, .val (.long ua), .second] [])) _
    refine XS.aloadN X2.here hx rfl (hb hby d1_9) rfl rfl ?_
    show Steps p.tables e below (T2.setTop (mkF m 10 #[.val (.ref ob), .val (.long ta), .second, .val (.long ua), .second] [(.ref ob)])) _
    refine XS.lloadN X2.here hx rfl (hb hby d1_10) rfl ?_
    show Steps p.tables e below (T2.setTop (mkF m 11 #[.val (.ref ob), .val (.long ta), .second, .val (.long ua), .second] [(.long ua), (.ref ob)])) _
    refine st8 _ ?_
    show Steps p.tables e below (T8.setTop (mkF m 14 #[.val (.ref ob), .val (.long ta), .second, .val (.long ua), .second] [])) _
    exact X8.returnOut hx Bd.returns (hb hby d1_14) hr
  · show Q1 Z ob ta ua h0 n0 _ T8.heap _
    rw [e8]
    exact ⟨rfl, N8, K13, F10, F11, F9⟩
theorem d5_0 : decode jdk_35_method_42_code 0 = .ok (.lload_n 0, 1) := by decide +kernel
theorem d5_1 : decode jdk_35_method_42_code 1 = .ok (.lload_n 2, 1) := by decide +kernel
theorem d5_2 : decode jdk_35_method_42_code 2 = .ok (.lcmp, 1) := by decide +kernel
theorem d5_3 : decode jdk_35_method_42_code 3 = .ok (.ifCond .ge 7, 3) := by decide +kernel
theorem d5_6 : decode jdk_35_method_42_code 6 = .ok (.iconst (-1), 1) := by decide +kernel
theorem d5_7 : decode jdk_35_method_42_code 7 = .ok (.goto 14, 3) := by decide +kernel
theorem d5_10 : decode jdk_35_method_42_code 10 = .ok (.lload_n 0, 1) := by decide +kernel
theorem d5_11 : decode jdk_35_method_42_code 11 = .ok (.lload_n 2, 1) := by decide +kernel
theorem d5_12 : decode jdk_35_method_42_code 12 = .ok (.lcmp, 1) := by decide +kernel
theorem d5_13 : decode jdk_35_method_42_code 13 = .ok (.ifCond .ne 7, 3) := by decide +kernel
theorem d5_16 : decode jdk_35_method_42_code 16 = .ok (.iconst 0, 1) := by decide +kernel
theorem d5_17 : decode jdk_35_method_42_code 17 = .ok (.goto 4, 3) := by decide +kernel
theorem d5_20 : decode jdk_35_method_42_code 20 = .ok (.iconst 1, 1) := by decide +kernel
theorem d5_21 : decode jdk_35_method_42_code 21 = .ok (.ireturn, 1) := by decide +kernel
theorem pn_5 : plainName "java/lang/Long" = true := by first | (simp [plainName, overriddenIn]; done) | decide +kernel
theorem ef_5 (m : MethodId) (x0 : Int64) (x1 : Int64) : entryFrame m #[(.long x0), (.long x1)] 4 = mkF m 0 #[.val (.long x0), .second, .val (.long x1), .second] [] := by first | (simp [entryFrame, mkF, argsToLocals, Value.category]; done) | rfl
def Q5 (Z : State) (x1 : Int64) (x2 : Int64) (h0 : Heap) (n0 : Nat) (v : Option Value) (h : Heap) (L : List Loc) : Prop := v = some (.int (own_cmp x1 x2)) ∧ Fr n0 L ∧ h = h0
set_option maxRecDepth 65536 in
set_option maxHeartbeats 40000000 in
theorem rm5 (l : Launch) (Z : State) (a0 : Array Value) (hw : ∀ d ∈ tables_1, d.before a0 Z = true) (ws : List Jvm.Cond) (x1 : Int64) (x2 : Int64) (h0 : Heap) (n0 : Nat) (Z0 : n0 ≤ h0.size)  :
    MetFree l (⟨"java/lang/Long", "compare", "(JJ)I"⟩ : MethodName) (head1 (Jvm.Cond.code (⟨"java/lang/Long", "compare", "(JJ)I"⟩ : MethodName) jdk_35_method_42_code 4 (some .int) :: ws) ({ frames := 0, cells := 0, slots := 0, locals := 0 } : Room)) (fun a U => a = #[(.long x1), (.long x2)] ∧ Z.Warmed39 U.vm ∧ U.heap = h0) (fun _ _ _ _ _ => True) (fun _ U o U' => ∃ v L, o = .returned v ∧ Q5 Z x1 x2 h0 n0 v U'.heap L ∧ FrameEnd U o U' L ({ frames := 0, cells := 0, slots := 0, locals := 0 } : Room).cells ({ frames := 0, cells := 0, slots := 0, locals := 0 } : Room).slots) := by
  refine MetFree.of_bodySF (plainFor_of_name pn_5) hisR ?_
  intro p e s m args below meth c s₁ Bd hml0 hP hK
  obtain ⟨rfl, hZ, hh⟩ := hP
  have hx := Bd.exec
  have hby := Bd.bytes
  have hml : c.maxLocals = 4 := hml0
  have hown : s.vm.findClass "java/lang/Long" = some m.cls := findClass_of_methodNamed Bd.named
  have hnm := (name_of_methodNamed Bd.named Bd.method).1
  have X0 : Stand p l e ({ frames := 0, cells := 0, slots := 0, locals := 0 } : Room) s m #[(.long x1), (.long x2)] below meth c s₁ [] 0 0 := Stand.of_body Bd
  have e0 : s₁.heap = h0 := by rw [← hh, Bd.state]; rfl
  have N0 := Fr.nil n0
  have K0 : Keep h0 h0 [] := Keep.refl h0 _
  have pre0 : ∀ tq, Steps p.tables e below (s₁.setTop (mkF m 0 #[.val (.long x1), .second, .val (.long x2), .second] [])) tq → Steps p.tables e below (s₁.setTop (entryFrame m #[(.long x1), (.long x2)] 4)) tq := fun tq kq => castTop (ef_5 m x1 x2) kq
  obtain ⟨m21, hm21⟩ : ∃ z_q : Int32, z_q = (if x1 < x2 then (-1 : Int32) else (if x1 = x2 then (0 : Int32) else (1 : Int32))) := ⟨_, rfl⟩
  have pre3 : ∀ tq, Steps p.tables e below (s₁.setTop (mkF m 21 #[.val (.long x1), .second, .val (.long x2), .second] [(.int m21)])) tq → Steps p.tables e below (s₁.setTop (entryFrame m #[(.long x1), (.long x2)] 4)) tq := by
    intro tq kt
    refine pre0 _ ?_
    show Steps p.tables e below (s₁.setTop (mkF m 0 #[.val (.long x1), .second, .val (.long x2), .second] [])) _
    refine XS.lloadN X0.here hx rfl (hb hby d5_0) rfl ?_
    show Steps p.tables e below (s₁.setTop (mkF m 1 #[.val (.long x1), .second, .val (.long x2), .second] [(.long x1)])) _
    refine XS.lloadN X0.here hx rfl (hb hby d5_1) rfl ?_
    show Steps p.tables e below (s₁.setTop (mkF m 2 #[.val (.long x1), .second, .val (.long x2), .second] [(.long x2), (.long x1)])) _
    refine XS.lcmp X0.here hx rfl (hb hby d5_2) rfl ?_
    by_cases d1 : x1 < x2
    · skip
      show Steps p.tables e below (s₁.setTop (mkF m 3 #[.val (.long x1), .second, .val (.long x2), .second] [(.int (lcmpW x1 x2))])) _
      refine XS.ifNo X0.here hx rfl (hb hby d5_3) rfl ((if0 _ _).trans (tlt ((lw_lt x1 x2).2 d1)).2.1) ?_
      show Steps p.tables e below (s₁.setTop (mkF m 6 #[.val (.long x1), .second, .val (.long x2), .second] [])) _
      refine XS.iconst X0.here hx rfl (hb hby d5_6) ?_
      show Steps p.tables e below (s₁.setTop (mkF m 7 #[.val (.long x1), .second, .val (.long x2), .second] [(.int (-1 : Int32))])) _
      refine XS.goto X0.here hx rfl (pc0 := 7) (pc' := 21) rfl (hb hby d5_7) (by decide) (by decide) ?_
      show Steps p.tables e below (s₁.setTop (mkF m 21 #[.val (.long x1), .second, .val (.long x2), .second] [(.int (-1 : Int32))])) _
      exact castTop (by simp only [hm21, if_pos d1]) kt
    · skip
      show Steps p.tables e below (s₁.setTop (mkF m 3 #[.val (.long x1), .second, .val (.long x2), .second] [(.int (lcmpW x1 x2))])) _
      refine XS.ifYes X0.here hx rfl (pc0 := 3) (pc' := 10) rfl (hb hby d5_3) rfl ((if0 _ _).trans (flt (mt (lw_lt x1 x2).1 d1)).2.1) (by decide) (by decide) ?_
      show Steps p.tables e below (s₁.setTop (mkF m 10 #[.val (.long x1), .second, .val (.long x2), .second] [])) _
      refine XS.lloadN X0.here hx rfl (hb hby d5_10) rfl ?_
      show Steps p.tables e below (s₁.setTop (mkF m 11 #[.val (.long x1), .second, .val (.long x2), .second] [(.long x1)])) _
      refine XS.lloadN X0.here hx rfl (hb hby d5_11) rfl ?_
      show Steps p.tables e below (s₁.setTop (mkF m 12 #[.val (.long x1), .second, .val (.long x2), .second] [(.long x2), (.long x1)])) _
      refine XS.lcmp X0.here hx rfl (hb hby d5_12) rfl ?_
      by_cases d2 : x1 = x2
      · skip
        show Steps p.tables e below (s₁.setTop (mkF m 13 #[.val (.long x1), .second, .val (.long x2), .second] [(.int (lcmpW x1 x2))])) _
        refine XS.ifNo X0.here hx rfl (hb hby d5_13) rfl ((if0 _ _).trans (teq ((lw_eq x1 x2).2 d2)).2) ?_
        show Steps p.tables e below (s₁.setTop (mkF m 16 #[.val (.long x1), .second, .val (.long x2), .second] [])) _
        refine XS.iconst X0.here hx rfl (hb hby d5_16) ?_
        show Steps p.tables e below (s₁.setTop (mkF m 17 #[.val (.long x1), .second, .val (.long x2), .second] [(.int (0 : Int32))])) _
        refine XS.goto X0.here hx rfl (pc0 := 17) (pc' := 21) rfl (hb hby d5_17) (by decide) (by decide) ?_
        show Steps p.tables e below (s₁.setTop (mkF m 21 #[.val (.long x1), .second, .val (.long x2), .second] [(.int (0 : Int32))])) _
        exact castTop (by simp only [hm21, if_neg d1, if_pos d2]) kt
      · skip
        show Steps p.tables e below (s₁.setTop (mkF m 13 #[.val (.long x1), .second, .val (.long x2), .second] [(.int (lcmpW x1 x2))])) _
        refine XS.ifYes X0.here hx rfl (pc0 := 13) (pc' := 20) rfl (hb hby d5_13) rfl ((if0 _ _).trans (feq (mt (lw_eq x1 x2).1 d2)).2) (by decide) (by decide) ?_
        show Steps p.tables e below (s₁.setTop (mkF m 20 #[.val (.long x1), .second, .val (.long x2), .second] [])) _
        refine XS.iconst X0.here hx rfl (hb hby d5_20) ?_
        show Steps p.tables e below (s₁.setTop (mkF m 21 #[.val (.long x1), .second, .val (.long x2), .second] [(.int (1 : Int32))])) _
        exact castTop (by simp only [hm21, if_neg d1, if_neg d2]) kt
  obtain ⟨fs, hr, hrun, hended, hW, hsame⟩ := X0.leave (v := some (Value.int m21)) (fun h => by rw [Bd.returns] at h; cases h)
  have hres4 : m21 = (own_cmp x1 x2) := by subst_vars; rfl
  refine ⟨_, _, pre3 _ ?_, hrun, hended, _, _, rfl, ?_, ⟨_, rfl⟩, hW, hsame.mono (by decide) (by decide)⟩
  · skip
    show Steps p.tables e below (s₁.setTop (mkF m 21 #[.val (.long x1), .second, .val (.long x2), .second] [(.int m21)])) _
    exact retI X0 hx Bd.returns (hb hby d5_21) hr
  · show Q5 Z x1 x2 h0 n0 _ s₁.heap _
    rw [e0]
    exact ⟨congrArg (fun z => some (Value.int z)) hres4, N0, rfl⟩
theorem d4_0 : decode prog_14_method_3_code 0 = .ok (.aload_n 0, 1) := by decide +kernel
theorem d4_1 : decode prog_14_method_3_code 1 = .ok (.getfield 7, 3) := by decide +kernel
theorem d4_4 : decode prog_14_method_3_code 4 = .ok (.aload_n 1, 1) := by decide +kernel
theorem d4_5 : decode prog_14_method_3_code 5 = .ok (.getfield 7, 3) := by decide +kernel
theorem d4_8 : decode prog_14_method_3_code 8 = .ok (.invokestatic 19, 3) := by decide +kernel
theorem d4_11 : decode prog_14_method_3_code 11 = .ok (.istore_n 2, 1) := by decide +kernel
theorem d4_12 : decode prog_14_method_3_code 12 = .ok (.iload_n 2, 1) := by decide +kernel
theorem d4_13 : decode prog_14_method_3_code 13 = .ok (.ifCond .eq 7, 3) := by decide +kernel
theorem d4_16 : decode prog_14_method_3_code 16 = .ok (.iload_n 2, 1) := by decide +kernel
theorem d4_17 : decode prog_14_method_3_code 17 = .ok (.goto 14, 3) := by decide +kernel
theorem d4_20 : decode prog_14_method_3_code 20 = .ok (.aload_n 0, 1) := by decide +kernel
theorem d4_21 : decode prog_14_method_3_code 21 = .ok (.getfield 13, 3) := by decide +kernel
theorem d4_24 : decode prog_14_method_3_code 24 = .ok (.aload_n 1, 1) := by decide +kernel
theorem d4_25 : decode prog_14_method_3_code 25 = .ok (.getfield 13, 3) := by decide +kernel
theorem d4_28 : decode prog_14_method_3_code 28 = .ok (.invokestatic 19, 3) := by decide +kernel
theorem d4_31 : decode prog_14_method_3_code 31 = .ok (.ireturn, 1) := by decide +kernel
theorem pn_4 : plainName "com/example/shardwright/shardwright/index/Version" = true := by first | (simp [plainName, overriddenIn]; done) | decide +kernel
theorem pd_1 : parseMethodDescriptor "(JJ)I" = some ⟨[.long, .long], some .int⟩ := by decide +kernel
theorem ef_4 (m : MethodId) (x0 : Addr) (x1 : Addr) : entryFrame m #[(.ref x0), (.ref x1)] 3 = mkF m 0 #[.val (.ref x0), .val (.ref x1), .unset] [] := by first | (simp [entryFrame, mkF, argsToLocals, Value.category]; done) | rfl
theorem own_leaf_4_31_t (w1 : Int64) (w2 : Int64) (w3 : Int64) (w4 : Int64) (r8 : Int32) (hr8 : r8 = (own_cmp w1 w3)) (hc13_5 : r8 = (0 : Int32)) (r28 : Int32) (hr28 : r28 = (own_cmp w2 w4)) : r28 = (own_cmp2 w1 w2 w3 w4) := by simp_all [own_cmp2]
theorem own_leaf_4_31_f (w1 : Int64) (w2 : Int64) (w3 : Int64) (w4 : Int64) (r8 : Int32) (hr8 : r8 = (own_cmp w1 w3)) (hc13_5 : ¬ (r8 = (0 : Int32))) : r8 = (own_cmp2 w1 w2 w3 w4) := by simp_all [own_cmp2]
def Q4 (Z : State) (ob : Addr) (o2 : Addr) (w1 : Int64) (w2 : Int64) (w3 : Int64) (w4 : Int64) (h0 : Heap) (n0 : Nat) (v : Option Value) (h : Heap) (L : List Loc) : Prop := v = some (.int (own_cmp2 w1 w2 w3 w4)) ∧ Fr n0 L ∧ h = h0
set_option maxRecDepth 65536 in
set_option maxHeartbeats 40000000 in
theorem rm4 (l : Launch) (Z : State) (a0 : Array Value) (hw : ∀ d ∈ tables_1, d.before a0 Z = true) (ws : List Jvm.Cond) (ob : Addr) (o2 : Addr) (w1 : Int64) (w2 : Int64) (w3 : Int64) (w4 : Int64) (h0 : Heap) (n0 : Nat) (Z0 : n0 ≤ h0.size) (I0 : Fld Z h0 ob "com/example/shardwright/shardwright/index/Version" "term" "J" (.long w1)) (I1 : Fld Z h0 ob "com/example/shardwright/shardwright/index/Version" "sequence" "J" (.long w2)) (I2 : Fld Z h0 o2 "com/example/shardwright/shardwright/index/Version" "term" "J" (.long w3)) (I3 : Fld Z h0 o2 "com/example/shardwright/shardwright/index/Version" "sequence" "J" (.long w4)) :
    MetFree l (⟨"com/example/shardwright/shardwright/index/Version", "compareTo", "(Lcom/example/shardwright/shardwright/index/Version;)I"⟩ : MethodName) (head1 (Jvm.Cond.code (⟨"com/example/shardwright/shardwright/index/Version", "compareTo", "(Lcom/example/shardwright/shardwright/index/Version;)I"⟩ : MethodName) prog_14_method_3_code 3 (some .int) :: ws) ({ frames := 1, cells := 0, slots := 0, locals := 15 } : Room)) (fun a U => a = #[(.ref ob), (.ref o2)] ∧ Z.Warmed39 U.vm ∧ U.heap = h0) (fun _ _ _ _ _ => True) (fun _ U o U' => ∃ v L, o = .returned v ∧ Q4 Z ob o2 w1 w2 w3 w4 h0 n0 v U'.heap L ∧ FrameEnd U o U' L ({ frames := 1, cells := 0, slots := 0, locals := 15 } : Room).cells ({ frames := 1, cells := 0, slots := 0, locals := 15 } : Room).slots) := by
  refine MetFree.of_bodySF (plainFor_of_name pn_4) hisR ?_
  intro p e s m args below meth c s₁ Bd hml0 hP hK
  obtain ⟨rfl, hZ, hh⟩ := hP
  have hx := Bd.exec
  have hby := Bd.bytes
  have hml : c.maxLocals = 3 := hml0
  have hown : s.vm.findClass "com/example/shardwright/shardwright/index/Version" = some m.cls := findClass_of_methodNamed Bd.named
  have hnm := (name_of_methodNamed Bd.named Bd.method).1
  have X0 : Stand p l e ({ frames := 1, cells := 0, slots := 0, locals := 15 } : Room) s m #[(.ref ob), (.ref o2)] below meth c s₁ [] 0 0 := Stand.of_body Bd
  have e0 : s₁.heap = h0 := by rw [← hh, Bd.state]; rfl
  have N0 := Fr.nil n0
  have K0 : Keep h0 h0 [] := Keep.refl h0 _
  have pre0 : ∀ tq, Steps p.tables e below (s₁.setTop (mkF m 0 #[.val (.ref ob), .val (.ref o2), .unset] [])) tq → Steps p.tables e below (s₁.setTop (entryFrame m #[(.ref ob), (.ref o2)] 3)) tq := fun tq kq => castTop (ef_4 m ob o2) kq
  obtain ⟨T1, X1, e1, st1⟩ := getF X0 hx hZ hown (host := "") (Or.inl (hw _ (List.mem_of_getElem? (i := 14) rfl))) Via.refl e0 I0 (g := (mkF m 1 #[.val (.ref ob), .val (.ref o2), .unset] [(.ref ob)])) rfl rfl (hb hby d4_1)
  obtain ⟨T2, X2, e2, st2⟩ := getF X1 hx hZ hown (host := "") (Or.inl (hw _ (List.mem_of_getElem? (i := 14) rfl))) Via.refl e1 I2 (g := (mkF m 5 #[.val (.ref ob), .val (.ref o2), .unset] [(.ref o2), (.long w1)])) rfl rfl (hb hby d4_5)
  obtain ⟨_, _, ⟨T3, L3, k3, n3⟩, -, X3, ⟨Lc3, hQ3, l3, y3, z3⟩, st3⟩ := Jvm.LawKit.callS X2 hx (y := (⟨"java/lang/Long", "compare", "(JJ)I"⟩ : MethodName)) hown (mvT hZ (hw _ (List.mem_of_getElem? (i := 23) rfl))) (mvT hZ (hw _ (List.mem_of_getElem? (i := 24) rfl))) (mvT hZ (hw _ (List.mem_of_getElem? (i := 25) rfl))) (mvT hZ (hw _ (List.mem_of_getElem? (i := 26) rfl))) (by decide) (backOf (W := 0) (rm5 l Z a0 hw [] w1 w3 h0 n0 Z0 ) hZ (hw _ (List.mem_of_getElem? (i := 26) rfl)) (hw _ (List.mem_of_getElem? (i := 25) rfl)) (by decide) (by decide)) (g := (mkF m 8 #[.val (.ref ob), .val (.ref o2), .unset] [(.long w3), (.long w1)])) rfl (by rw [hml]; rfl) (argsL := [(.long w1), (.long w3)]) (rest := []) (lenOf pd_1 rfl) rfl (by show 2 * 0 + _ ≤ _; exact Nat.le_of_eq rfl) (hb hby d4_8) (fun _ _ => ⟨rfl, e2, (by decide : 0 + 0 ≤ _), (by decide : 0 + 0 ≤ _)⟩)
  dsimp only [Pt.U, Pt.locs, Pt.cells, Pt.slots] at X3 l3 y3 z3 st3 hQ3
  subst l3 y3 z3
  obtain ⟨rfl, N3q, e3⟩ := hQ3
  have N3 := Fr.app N0 N3q
  obtain ⟨r8, hr8⟩ : ∃ z_q : Int32, z_q = (own_cmp w1 w3) := ⟨_, rfl⟩
  have pre4 : ∀ tq, Steps p.tables e below (T3.setTop (mkF m 13 #[.val (.ref ob), .val (.ref o2), .val (.int r8)] [(.int r8)])) tq → Steps p.tables e below (s₁.setTop (entryFrame m #[(.ref ob), (.ref o2)] 3)) tq := by
    intro tq kt
    refine pre0 _ ?_
    show Steps p.tables e below (s₁.setTop (mkF m 0 #[.val (.ref ob), .val (.ref o2), .unset] [])) _
    refine XS.aloadN X0.here hx rfl (hb hby d4_0) rfl rfl ?_
    show Steps p.tables e below (s₁.setTop (mkF m 1 #[.val (.ref ob), .val (.ref o2), .unset] [(.ref ob)])) _
    refine st1 _ ?_
    show Steps p.tables e below (T1.setTop (mkF m 4 #[.val (.ref ob), .val (.ref o2), .unset] [(.long w1)])) _
    refine XS.aloadN X1.here hx rfl (hb hby d4_4) rfl rfl ?_
    show Steps p.tables e below (T1.setTop (mkF m 5 #[.val (.ref ob), .val (.ref o2), .unset] [(.ref o2), (.long w1)])) _
    refine st2 _ ?_
    show Steps p.tables e below (T2.setTop (mkF m 8 #[.val (.ref ob), .val (.ref o2), .unset] [(.long w3), (.long w1)])) _
    refine st3 _ ?_
    show Steps p.tables e below (T3.setTop (mkF m 11 #[.val (.ref ob), .val (.ref o2), .unset] [(.int (own_cmp w1 w3))])) _
    rw [← hr8]
    show Steps p.tables e below (T3.setTop (mkF m 11 #[.val (.ref ob), .val (.ref o2), .unset] [(.int r8)])) _
    refine XS.istoreN X3.here hx rfl (hb hby d4_11) rfl (l' := #[.val (.ref ob), .val (.ref o2), .val (.int r8)]) rfl ?_
    show Steps p.tables e below (T3.setTop (mkF m 12 #[.val (.ref ob), .val (.ref o2), .val (.int r8)] [])) _
    refine XS.iloadN X3.here hx rfl (hb hby d4_12) rfl ?_
    show Steps p.tables e below (T3.setTop (mkF m 13 #[.val (.ref ob), .val (.ref o2), .val (.int r8)] [(.int r8)])) _
    exact kt
  by_cases hc13_5 : r8 = (0 : Int32)
  · skip
    obtain ⟨T6, X6, e6, st6⟩ := getF X3 hx hZ hown (host := "") (Or.inl (hw _ (List.mem_of_getElem? (i := 16) rfl))) Via.refl e3 I1 (g := (mkF m 21 #[.val (.ref ob), .val (.ref o2), .val (.int r8)] [(.ref ob)])) rfl rfl (hb hby d4_21)
    obtain ⟨T7, X7, e7, st7⟩ := getF X6 hx hZ hown (host := "") (Or.inl (hw _ (List.mem_of_getElem? (i := 16) rfl))) Via.refl e6 I3 (g := (mkF m 25 #[.val (.ref ob), .val (.ref o2), .val (.int r8)] [(.ref o2), (.long w2)])) rfl rfl (hb hby d4_25)
    obtain ⟨_, _, ⟨T8, L8, k8, n8⟩, -, X8, ⟨Lc8, hQ8, l8, y8, z8⟩, st8⟩ := Jvm.LawKit.callS X7 hx (y := (⟨"java/lang/Long", "compare", "(JJ)I"⟩ : MethodName)) hown (mvT hZ (hw _ (List.mem_of_getElem? (i := 23) rfl))) (mvT hZ (hw _ (List.mem_of_getElem? (i := 24) rfl))) (mvT hZ (hw _ (List.mem_of_getElem? (i := 25) rfl))) (mvT hZ (hw _ (List.mem_of_getElem? (i := 26) rfl))) (by decide) (backOf (W := 0) (rm5 l Z a0 hw [] w2 w4 h0 n0 Z0 ) hZ (hw _ (List.mem_of_getElem? (i := 26) rfl)) (hw _ (List.mem_of_getElem? (i := 25) rfl)) (by decide) (by decide)) (g := (mkF m 28 #[.val (.ref ob), .val (.ref o2), .val (.int r8)] [(.long w4), (.long w2)])) rfl (by rw [hml]; rfl) (argsL := [(.long w2), (.long w4)]) (rest := []) (lenOf pd_1 rfl) rfl (by show 2 * 0 + _ ≤ _; exact Nat.le_of_eq rfl) (hb hby d4_28) (fun _ _ => ⟨rfl, e7, (by decide : 0 + 0 ≤ _), (by decide : 0 + 0 ≤ _)⟩)
    dsimp only [Pt.U, Pt.locs, Pt.cells, Pt.slots] at X8 l8 y8 z8 st8 hQ8
    subst l8 y8 z8
    obtain ⟨rfl, N8q, e8⟩ := hQ8
    have N8 := Fr.app N3 N8q
    obtain ⟨r28, hr28⟩ : ∃ z_q : Int32, z_q = (own_cmp w2 w4) := ⟨_, rfl⟩
    obtain ⟨fs, hr, hrun, hended, hW, hsame⟩ := X8.leave (v := some (Value.int r28)) (fun h => by rw [Bd.returns] at h; cases h)
    have hres9 : r28 = (own_cmp2 w1 w2 w3 w4) := (own_leaf_4_31_t w1 w2 w3 w4 r8 hr8 hc13_5 r28 hr28)
    refine ⟨_, _, pre4 _ ?_, hrun, hended, _, _, rfl, ?_, ⟨_, rfl⟩, hW, hsame.mono (by decide) (by decide)⟩
    · skip
      show Steps p.tables e below (T3.setTop (mkF m 13 #[.val (.ref ob), .val (.ref o2), .val (.int r8)] [(.int r8)])) _
      refine XS.ifYes X3.here hx rfl (pc0 := 13) (pc' := 20) rfl (hb hby d4_13) rfl ((if0 _ _).trans (teq hc13_5).1) (by decide) (by decide) ?_
      show Steps p.tables e below (T3.setTop (mkF m 20 #[.val (.ref ob), .val (.ref o2), .val (.int r8)] [])) _
      refine XS.aloadN X3.here hx rfl (hb hby d4_20) rfl rfl ?_
      show Steps p.tables e below (T3.setTop (mkF m 21 #[.val (.ref ob), .val (.ref o2), .val (.int r8)] [(.ref ob)])) _
      refine st6 _ ?_
      show Steps p.tables e below (T6.setTop (mkF m 24 #[.val (.ref ob), .val (.ref o2), .val (.int r8)] [(.long w2)])) _
      refine XS.aloadN X6.here hx rfl (hb hby d4_24) rfl rfl ?_
      show Steps p.tables e below (T6.setTop (mkF m 25 #[.val (.ref ob), .val (.ref o2), .val (.int r8)] [(.ref o2), (.long w2)])) _
      refine st7 _ ?_
      show Steps p.tables e below (T7.setTop (mkF m 28 #[.val (.ref ob), .val (.ref o2), .val (.int r8)] [(.long w4), (.long w2)])) _
      refine st8 _ ?_
      show Steps p.tables e below (T8.setTop (mkF m 31 #[.val (.ref ob), .val (.ref o2), .val (.int r8)] [(.int (own_cmp w2 w4))])) _
      rw [← hr28]
      show Steps p.tables e below (T8.setTop (mkF m 31 #[.val (.ref ob), .val (.ref o2), .val (.int r8)] [(.int r28)])) _
      exact retI X8 hx Bd.returns (hb hby d4_31) hr
    · show Q4 Z ob o2 w1 w2 w3 w4 h0 n0 _ T8.heap _
      rw [e8]
      exact ⟨congrArg (fun z => some (Value.int z)) hres9, N8, rfl⟩
  · skip
    obtain ⟨fs, hr, hrun, hended, hW, hsame⟩ := X3.leave (v := some (Value.int r8)) (fun h => by rw [Bd.returns] at h; cases h)
    have hres10 : r8 = (own_cmp2 w1 w2 w3 w4) := (own_leaf_4_31_f w1 w2 w3 w4 r8 hr8 hc13_5)
    refine ⟨_, _, pre4 _ ?_, hrun, hended, _, _, rfl, ?_, ⟨_, rfl⟩, hW, hsame.mono (by decide) (by decide)⟩
    · skip
      show Steps p.tables e below (T3.setTop (mkF m 13 #[.val (.ref ob), .val (.ref o2), .val (.int r8)] [(.int r8)])) _
      refine XS.ifNo X3.here hx rfl (hb hby d4_13) rfl ((if0 _ _).trans (feq hc13_5).1) ?_
      show Steps p.tables e below (T3.setTop (mkF m 16 #[.val (.ref ob), .val (.ref o2), .val (.int r8)] [])) _
      refine XS.iloadN X3.here hx rfl (hb hby d4_16) rfl ?_
      show Steps p.tables e below (T3.setTop (mkF m 17 #[.val (.ref ob), .val (.ref o2), .val (.int r8)] [(.int r8)])) _
      refine XS.goto X3.here hx rfl (pc0 := 17) (pc' := 31) rfl (hb hby d4_17) (by decide) (by decide) ?_
      show Steps p.tables e below (T3.setTop (mkF m 31 #[.val (.ref ob), .val (.ref o2), .val (.int r8)] [(.int r8)])) _
      exact retI X3 hx Bd.returns (hb hby d4_31) hr
    · show Q4 Z ob o2 w1 w2 w3 w4 h0 n0 _ T3.heap _
      rw [e3]
      exact ⟨congrArg (fun z => some (Value.int z)) hres10, N3, rfl⟩
theorem d6_0 : decode method_2_code 0 = .ok (.iload_n 0, 1) := by decide +kernel
theorem d6_1 : decode method_2_code 1 = .ok (.ifCond .ge 5, 3) := by decide +kernel
theorem d6_4 : decode method_2_code 4 = .ok (.iconst (-1), 1) := by decide +kernel
theorem d6_5 : decode method_2_code 5 = .ok (.ireturn, 1) := by decide +kernel
theorem d6_6 : decode method_2_code 6 = .ok (.iload_n 0, 1) := by decide +kernel
theorem d6_7 : decode method_2_code 7 = .ok (.ifCond .le 5, 3) := by decide +kernel
theorem d6_10 : decode method_2_code 10 = .ok (.iconst 1, 1) := by decide +kernel
theorem d6_11 : decode method_2_code 11 = .ok (.ireturn, 1) := by decide +kernel
theorem d6_12 : decode method_2_code 12 = .ok (.iconst 0, 1) := by decide +kernel
theorem d6_13 : decode method_2_code 13 = .ok (.ireturn, 1) := by decide +kernel
theorem pn_6 : plainName "com/example/shardwright/shardwright/index/VersionCompareToPinLaw" = true := by first | (simp [plainName, overriddenIn]; done) | decide +kernel
theorem ef_6 (m : MethodId) (x0 : Int32) : entryFrame m #[(.int x0)] 1 = mkF m 0 #[.val (.int x0)] [] := by first | (simp [entryFrame, mkF, argsToLocals, Value.category]; done) | rfl
theorem own_leaf_6_5_f (z : Int32) (hc1_2 : z < (0 : Int32)) : (-1 : Int32) = (own_sign z) := by unfold own_sign; first | rw [if_pos (by assumption)] | rw [if_neg (by assumption), if_pos (by assumption)] | rw [if_neg (by assumption), if_neg (by assumption)]
theorem own_leaf_6_11_tf (z : Int32) (hc1_2 : ¬ (z < (0 : Int32))) (hc7_5 : (0 : Int32) < z) : (1 : Int32) = (own_sign z) := by unfold own_sign; first | rw [if_pos (by assumption)] | rw [if_neg (by assumption), if_pos (by assumption)] | rw [if_neg (by assumption), if_neg (by assumption)]
theorem own_leaf_6_13_tt (z : Int32) (hc1_2 : ¬ (z < (0 : Int32))) (hc7_5 : ¬ ((0 : Int32) < z)) : (0 : Int32) = (own_sign z) := by unfold own_sign; first | rw [if_pos (by assumption)] | rw [if_neg (by assumption), if_pos (by assumption)] | rw [if_neg (by assumption), if_neg (by assumption)]
def Q6 (Z : State) (z : Int32) (h0 : Heap) (n0 : Nat) (v : Option Value) (h : Heap) (L : List Loc) : Prop := v = some (.int (own_sign z)) ∧ Fr n0 L ∧ h = h0
set_option maxRecDepth 65536 in
set_option maxHeartbeats 40000000 in
theorem rm6 (l : Launch) (Z : State) (a0 : Array Value) (hw : ∀ d ∈ tables_1, d.before a0 Z = true) (ws : List Jvm.Cond) (z : Int32) (h0 : Heap) (n0 : Nat) (Z0 : n0 ≤ h0.size)  :
    MetFree l (⟨"com/example/shardwright/shardwright/index/VersionCompareToPinLaw", "sign", "(I)I"⟩ : MethodName) (head1 (Jvm.Cond.code (⟨"com/example/shardwright/shardwright/index/VersionCompareToPinLaw", "sign", "(I)I"⟩ : MethodName) method_2_code 1 (some .int) :: ws) ({ frames := 0, cells := 0, slots := 0, locals := 0 } : Room)) (fun a U => a = #[(.int z)] ∧ Z.Warmed39 U.vm ∧ U.heap = h0) (fun _ _ _ _ _ => True) (fun _ U o U' => ∃ v L, o = .returned v ∧ Q6 Z z h0 n0 v U'.heap L ∧ FrameEnd U o U' L ({ frames := 0, cells := 0, slots := 0, locals := 0 } : Room).cells ({ frames := 0, cells := 0, slots := 0, locals := 0 } : Room).slots) := by
  refine MetFree.of_bodySF (plainFor_of_name pn_6) hisR ?_
  intro p e s m args below meth c s₁ Bd hml0 hP hK
  obtain ⟨rfl, hZ, hh⟩ := hP
  have hx := Bd.exec
  have hby := Bd.bytes
  have hml : c.maxLocals = 1 := hml0
  have hown : s.vm.findClass "com/example/shardwright/shardwright/index/VersionCompareToPinLaw" = some m.cls := findClass_of_methodNamed Bd.named
  have hnm := (name_of_methodNamed Bd.named Bd.method).1
  have X0 : Stand p l e ({ frames := 0, cells := 0, slots := 0, locals := 0 } : Room) s m #[(.int z)] below meth c s₁ [] 0 0 := Stand.of_body Bd
  have e0 : s₁.heap = h0 := by rw [← hh, Bd.state]; rfl
  have N0 := Fr.nil n0
  have K0 : Keep h0 h0 [] := Keep.refl h0 _
  have pre0 : ∀ tq, Steps p.tables e below (s₁.setTop (mkF m 0 #[.val (.int z)] [])) tq → Steps p.tables e below (s₁.setTop (entryFrame m #[(.int z)] 1)) tq := fun tq kq => castTop (ef_6 m z) kq
  have pre1 : ∀ tq, Steps p.tables e below (s₁.setTop (mkF m 1 #[.val (.int z)] [(.int z)])) tq → Steps p.tables e below (s₁.setTop (entryFrame m #[(.int z)] 1)) tq := by
    intro tq kt
    refine pre0 _ ?_
    show Steps p.tables e below (s₁.setTop (mkF m 0 #[.val (.int z)] [])) _
    refine XS.iloadN X0.here hx rfl (hb hby d6_0) rfl ?_
    show Steps p.tables e below (s₁.setTop (mkF m 1 #[.val (.int z)] [(.int z)])) _
    exact kt
  by_cases hc1_2 : z < (0 : Int32)
  · skip
    obtain ⟨fs, hr, hrun, hended, hW, hsame⟩ := X0.leave (v := some (Value.int (-1 : Int32))) (fun h => by rw [Bd.returns] at h; cases h)
    have hres3 : (-1 : Int32) = (own_sign z) := (own_leaf_6_5_f z hc1_2)
    refine ⟨_, _, pre1 _ ?_, hrun, hended, _, _, rfl, ?_, ⟨_, rfl⟩, hW, hsame.mono (by decide) (by decide)⟩
    · skip
      show Steps p.tables e below (s₁.setTop (mkF m 1 #[.val (.int z)] [(.int z)])) _
      refine XS.ifNo X0.here hx rfl (hb hby d6_1) rfl ((if0 _ _).trans (tlt hc1_2).2.1) ?_
      show Steps p.tables e below (s₁.setTop (mkF m 4 #[.val (.int z)] [])) _
      refine XS.iconst X0.here hx rfl (hb hby d6_4) ?_
      show Steps p.tables e below (s₁.setTop (mkF m 5 #[.val (.int z)] [(.int (-1 : Int32))])) _
      exact retI X0 hx Bd.returns (hb hby d6_5) hr
    · show Q6 Z z h0 n0 _ s₁.heap _
      rw [e0]
      exact ⟨congrArg (fun z => some (Value.int z)) hres3, N0, rfl⟩
  · skip
    have pre4 : ∀ tq, Steps p.tables e below (s₁.setTop (mkF m 7 #[.val (.int z)] [(.int z)])) tq → Steps p.tables e below (s₁.setTop (entryFrame m #[(.int z)] 1)) tq := by
      intro tq kt
      refine pre1 _ ?_
      show Steps p.tables e below (s₁.setTop (mkF m 1 #[.val (.int z)] [(.int z)])) _
      refine XS.ifYes X0.here hx rfl (pc0 := 1) (pc' := 6) rfl (hb hby d6_1) rfl ((if0 _ _).trans (flt hc1_2).2.1) (by decide) (by decide) ?_
      show Steps p.tables e below (s₁.setTop (mkF m 6 #[.val (.int z)] [])) _
      refine XS.iloadN X0.here hx rfl (hb hby d6_6) rfl ?_
      show Steps p.tables e below (s₁.setTop (mkF m 7 #[.val (.int z)] [(.int z)])) _
      exact kt
    by_cases hc7_5 : (0 : Int32) < z
    · skip
      obtain ⟨fs, hr, hrun, hended, hW, hsame⟩ := X0.leave (v := some (Value.int (1 : Int32))) (fun h => by rw [Bd.returns] at h; cases h)
      have hres6 : (1 : Int32) = (own_sign z) := (own_leaf_6_11_tf z hc1_2 hc7_5)
      refine ⟨_, _, pre4 _ ?_, hrun, hended, _, _, rfl, ?_, ⟨_, rfl⟩, hW, hsame.mono (by decide) (by decide)⟩
      · skip
        show Steps p.tables e below (s₁.setTop (mkF m 7 #[.val (.int z)] [(.int z)])) _
        refine XS.ifNo X0.here hx rfl (hb hby d6_7) rfl ((if0 _ _).trans (tlt hc7_5).2.2.2) ?_
        show Steps p.tables e below (s₁.setTop (mkF m 10 #[.val (.int z)] [])) _
        refine XS.iconst X0.here hx rfl (hb hby d6_10) ?_
        show Steps p.tables e below (s₁.setTop (mkF m 11 #[.val (.int z)] [(.int (1 : Int32))])) _
        exact retI X0 hx Bd.returns (hb hby d6_11) hr
      · show Q6 Z z h0 n0 _ s₁.heap _
        rw [e0]
        exact ⟨congrArg (fun z => some (Value.int z)) hres6, N0, rfl⟩
    · skip
      obtain ⟨fs, hr, hrun, hended, hW, hsame⟩ := X0.leave (v := some (Value.int (0 : Int32))) (fun h => by rw [Bd.returns] at h; cases h)
      have hres7 : (0 : Int32) = (own_sign z) := (own_leaf_6_13_tt z hc1_2 hc7_5)
      refine ⟨_, _, pre4 _ ?_, hrun, hended, _, _, rfl, ?_, ⟨_, rfl⟩, hW, hsame.mono (by decide) (by decide)⟩
      · skip
        show Steps p.tables e below (s₁.setTop (mkF m 7 #[.val (.int z)] [(.int z)])) _
        refine XS.ifYes X0.here hx rfl (pc0 := 7) (pc' := 12) rfl (hb hby d6_7) rfl ((if0 _ _).trans (flt hc7_5).2.2.2) (by decide) (by decide) ?_
        show Steps p.tables e below (s₁.setTop (mkF m 12 #[.val (.int z)] [])) _
        refine XS.iconst X0.here hx rfl (hb hby d6_12) ?_
        show Steps p.tables e below (s₁.setTop (mkF m 13 #[.val (.int z)] [(.int (0 : Int32))])) _
        exact retI X0 hx Bd.returns (hb hby d6_13) hr
      · show Q6 Z z h0 n0 _ s₁.heap _
        rw [e0]
        exact ⟨congrArg (fun z => some (Value.int z)) hres7, N0, rfl⟩
theorem pn_0 : plainName "com/example/shardwright/shardwright/index/VersionCompareToPinLaw" = true := by first | (simp [plainName, overriddenIn]; done) | decide +kernel
theorem pd_2 : parseMethodDescriptor "(JJ)V" = some ⟨[.long, .long], none⟩ := by decide +kernel
theorem pd_3 : parseMethodDescriptor "(Lcom/example/shardwright/shardwright/index/Version;)I" = some ⟨[(.object "com/example/shardwright/shardwright/index/Version")], some .int⟩ := by decide +kernel
theorem pd_4 : parseMethodDescriptor "(I)I" = some ⟨[.int], some .int⟩ := by decide +kernel
theorem ef_0 (m : MethodId) (x0 : Int64) (x1 : Int64) (x2 : Int64) (x3 : Int64) (x4 : Int32) : entryFrame m #[(.long x0), (.long x1), (.long x2), (.long x3), (.int x4)] maxLocals = mkF m 0 #[.val (.long x0), .second, .val (.long x1), .second, .val (.long x2), .second, .val (.long x3), .second, .val (.int x4), .unset, .unset, .unset, .unset, .unset, .unset, .unset, .unset] [] := by first | (simp [entryFrame, mkF, argsToLocals, Value.category, maxLocals]; done) | rfl
theorem own_leaf_0_133 (t1 : Int64) (u1 : Int64) (t2 : Int64) (u2 : Int64) (ka : Int32) (m13 : Int64) (hm13 : m13 = (if (ka &&& (1 : Int32)) = (0 : Int32) then t2 else t1)) (m28 : Int64) (hm28 : m28 = (if (ka &&& (2 : Int32)) = (0 : Int32) then u2 else u1)) (r58 : Int32) (hr58 : r58 = (own_cmp2 t1 u1 m13 m28)) (m118_l16 : Int32) (hm118_l16 : m118_l16 = (if t1 < m13 then (-1 : Int32) else (if m13 < t1 then (1 : Int32) else (if u1 < m28 then (-1 : Int32) else (if m28 < u1 then (1 : Int32) else (0 : Int32)))))) (r120 : Int32) (hr120 : r120 = (own_sign r58)) (m133 : Int32) (hm133 : m133 = (if r120 = m118_l16 then (1 : Int32) else (0 : Int32))) : (nar .boolean m133) = (1 : Int32) := by
  rw [hm133, hr120, hr58, own_law, ← hm118_l16, if_pos rfl]; rfl
def Q0 (Z : State) (t1 : Int64) (u1 : Int64) (t2 : Int64) (u2 : Int64) (ka : Int32) (h0 : Heap) (n0 : Nat) (v : Option Value) (h : Heap) (L : List Loc) : Prop := v = some (.int (1 : Int32)) ∧ Fr n0 L
set_option maxRecDepth 65536 in
set_option maxHeartbeats 40000000 in
theorem rm0 (l : Launch) (Z : State) (a0 : Array Value) (hw : ∀ d ∈ tables_1, d.before a0 Z = true) (ws : List Jvm.Cond) (t1 : Int64) (u1 : Int64) (t2 : Int64) (u2 : Int64) (ka : Int32) (h0 : Heap) (n0 : Nat) (Z0 : n0 ≤ h0.size)  :
    MetFree l x (head1 (Jvm.Cond.code x code maxLocals ret :: ws) room_1) (fun a U => a = #[(.long t1), (.long u1), (.long t2), (.long u2), (.int ka)] ∧ Z.Warmed39 U.vm ∧ U.heap = h0) (fun _ _ _ _ _ => True) (fun _ U o U' => ∃ v L, o = .returned v ∧ Q0 Z t1 u1 t2 u2 ka h0 n0 v U'.heap L ∧ FrameEnd U o U' L room_1.cells room_1.slots) := by
  refine MetFree.of_bodySF (plainFor_of_name pn_0) hisR ?_
  intro p e s m args below meth c s₁ Bd hml0 hP hK
  obtain ⟨rfl, hZ, hh⟩ := hP
  have hx := Bd.exec
  have hby := Bd.bytes
  have hml : c.maxLocals = 17 := hml0
  have hown : s.vm.findClass "com/example/shardwright/shardwright/index/VersionCompareToPinLaw" = some m.cls := findClass_of_methodNamed Bd.named
  have hnm := (name_of_methodNamed Bd.named Bd.method).1
  have X0 : Stand p l e room_1 s m #[(.long t1), (.long u1), (.long t2), (.long u2), (.int ka)] below meth c s₁ [] 0 0 := Stand.of_body Bd
  have e0 : s₁.heap = h0 := by rw [← hh, Bd.state]; rfl
  have N0 := Fr.nil n0
  have K0 : Keep h0 h0 [] := Keep.refl h0 _
  have pre0 : ∀ tq, Steps p.tables e below (s₁.setTop (mkF m 0 #[.val (.long t1), .second, .val (.long u1), .second, .val (.long t2), .second, .val (.long u2), .second, .val (.int ka), .unset, .unset, .unset, .unset, .unset, .unset, .unset, .unset] [])) tq → Steps p.tables e below (s₁.setTop (entryFrame m #[(.long t1), (.long u1), (.long t2), (.long u2), (.int ka)] maxLocals)) tq := fun tq kq => castTop (ef_0 m t1 u1 t2 u2 ka) kq
  obtain ⟨m13, hm13⟩ : ∃ z_q : Int64, z_q = (if (ka &&& (1 : Int32)) = (0 : Int32) then t2 else t1) := ⟨_, rfl⟩
  have pre2 : ∀ tq, Steps p.tables e below (s₁.setTop (mkF m 13 #[.val (.long t1), .second, .val (.long u1), .second, .val (.long t2), .second, .val (.long u2), .second, .val (.int ka), .unset, .unset, .unset, .unset, .unset, .unset, .unset, .unset] [(.long m13)])) tq → Steps p.tables e below (s₁.setTop (entryFrame m #[(.long t1), (.long u1), (.long t2), (.long u2), (.int ka)] maxLocals)) tq := by
    intro tq kt
    refine pre0 _ ?_
    show Steps p.tables e below (s₁.setTop (mkF m 0 #[.val (.long t1), .second, .val (.long u1), .second, .val (.long t2), .second, .val (.long u2), .second, .val (.int ka), .unset, .unset, .unset, .unset, .unset, .unset, .unset, .unset] [])) _
    refine XS.iload X0.here hx rfl (hb hby at_0) rfl ?_
    show Steps p.tables e below (s₁.setTop (mkF m 2 #[.val (.long t1), .second, .val (.long u1), .second, .val (.long t2), .second, .val (.long u2), .second, .val (.int ka), .unset, .unset, .unset, .unset, .unset, .unset, .unset, .unset] [(.int ka)])) _
    refine XS.iconst X0.here hx rfl (hb hby at_2) ?_
    show Steps p.tables e below (s₁.setTop (mkF m 3 #[.val (.long t1), .second, .val (.long u1), .second, .val (.long t2), .second, .val (.long u2), .second, .val (.int ka), .unset, .unset, .unset, .unset, .unset, .unset, .unset, .unset] [(.int (1 : Int32)), (.int ka)])) _
    refine XS.iand X0.here hx rfl (hb hby at_3) rfl ?_
    by_cases d1 : (ka &&& (1 : Int32)) = (0 : Int32)
    · skip
      show Steps p.tables e below (s₁.setTop (mkF m 4 #[.val (.long t1), .second, .val (.long u1), .second, .val (.long t2), .second, .val (.long u2), .second, .val (.int ka), .unset, .unset, .unset, .unset, .unset, .unset, .unset, .unset] [(.int (ka &&& (1 : Int32)))])) _
      refine XS.ifYes X0.here hx rfl (pc0 := 4) (pc' := 11) rfl (hb hby at_4) rfl ((if0 _ _).trans (teq d1).1) (by decide) (by decide) ?_
      show Steps p.tables e below (s₁.setTop (mkF m 11 #[.val (.long t1), .second, .val (.long u1), .second, .val (.long t2), .second, .val (.long u2), .second, .val (.int ka), .unset, .unset, .unset, .unset, .unset, .unset, .unset, .unset] [])) _
      refine XS.lload X0.here hx rfl (hb hby at_11) rfl ?_
      show Steps p.tables e below (s₁.setTop (mkF m 13 #[.val (.long t1), .second, .val (.long u1), .second, .val (.long t2), .second, .val (.long u2), .second, .val (.int ka), .unset, .unset, .unset, .unset, .unset, .unset, .unset, .unset] [(.long t2)])) _
      exact castTop (by simp only [hm13, if_pos d1]) kt
    · skip
      show Steps p.tables e below (s₁.setTop (mkF m 4 #[.val (.long t1), .second, .val (.long u1), .second, .val (.long t2), .second, .val (.long u2), .second, .val (.int ka), .unset, .unset, .unset, .unset, .unset, .unset, .unset, .unset] [(.int (ka &&& (1 : Int32)))])) _
      refine XS.ifNo X0.here hx rfl (hb hby at_4) rfl ((if0 _ _).trans (feq d1).1) ?_
      show Steps p.tables e below (s₁.setTop (mkF m 7 #[.val (.long t1), .second, .val (.long u1), .second, .val (.long t2), .second, .val (.long u2), .second, .val (.int ka), .unset, .unset, .unset, .unset, .unset, .unset, .unset, .unset] [])) _
      refine XS.lloadN X0.here hx rfl (hb hby at_7) rfl ?_
      show Steps p.tables e below (s₁.setTop (mkF m 8 #[.val (.long t1), .second, .val (.long u1), .second, .val (.long t2), .second, .val (.long u2), .second, .val (.int ka), .unset, .unset, .unset, .unset, .unset, .unset, .unset, .unset] [(.long t1)])) _
      refine XS.goto X0.here hx rfl (pc0 := 8) (pc' := 13) rfl (hb hby at_8) (by decide) (by decide) ?_
      show Steps p.tables e below (s₁.setTop (mkF m 13 #[.val (.long t1), .second, .val (.long u1), .second, .val (.long t2), .second, .val (.long u2), .second, .val (.int ka), .unset, .unset, .unset, .unset, .unset, .unset, .unset, .unset] [(.long t1)])) _
      exact castTop (by simp only [hm13, if_neg d1]) kt
  obtain ⟨m28, hm28⟩ : ∃ z_q : Int64, z_q = (if (ka &&& (2 : Int32)) = (0 : Int32) then u2 else u1) := ⟨_, rfl⟩
  have pre4 : ∀ tq, Steps p.tables e below (s₁.setTop (mkF m 28 #[.val (.long t1), .second, .val (.long u1), .second, .val (.long t2), .second, .val (.long u2), .second, .val (.int ka), .val (.long m13), .second, .unset, .unset, .unset, .unset, .unset, .unset] [(.long m28)])) tq → Steps p.tables e below (s₁.setTop (entryFrame m #[(.long t1), (.long u1), (.long t2), (.long u2), (.int ka)] maxLocals)) tq := by
    intro tq kt
    refine pre2 _ ?_
    show Steps p.tables e below (s₁.setTop (mkF m 13 #[.val (.long t1), .second, .val (.long u1), .second, .val (.long t2), .second, .val (.long u2), .second, .val (.int ka), .unset, .unset, .unset, .unset, .unset, .unset, .unset, .unset] [(.long m13)])) _
    refine XS.lstore X0.here hx rfl (hb hby at_13) rfl (l' := #[.val (.long t1), .second, .val (.long u1), .second, .val (.long t2), .second, .val (.long u2), .second, .val (.int ka), .val (.long m13), .second, .unset, .unset, .unset, .unset, .unset, .unset]) rfl ?_
    show Steps p.tables e below (s₁.setTop (mkF m 15 #[.val (.long t1), .second, .val (.long u1), .second, .val (.long t2), .second, .val (.long u2), .second, .val (.int ka), .val (.long m13), .second, .unset, .unset, .unset, .unset, .unset, .unset] [])) _
    refine XS.iload X0.here hx rfl (hb hby at_15) rfl ?_
    show Steps p.tables e below (s₁.setTop (mkF m 17 #[.val (.long t1), .second, .val (.long u1), .second, .val (.long t2), .second, .val (.long u2), .second, .val (.int ka), .val (.long m13), .second, .unset, .unset, .unset, .unset, .unset, .unset] [(.int ka)])) _
    refine XS.iconst X0.here hx rfl (hb hby at_17) ?_
    show Steps p.tables e below (s₁.setTop (mkF m 18 #[.val (.long t1), .second, .val (.long u1), .second, .val (.long t2), .second, .val (.long u2), .second, .val (.int ka), .val (.long m13), .second, .unset, .unset, .unset, .unset, .unset, .unset] [(.int (2 : Int32)), (.int ka)])) _
    refine XS.iand X0.here hx rfl (hb hby at_18) rfl ?_
    by_cases d3 : (ka &&& (2 : Int32)) = (0 : Int32)
    · skip
      show Steps p.tables e below (s₁.setTop (mkF m 19 #[.val (.long t1), .second, .val (.long u1), .second, .val (.long t2), .second, .val (.long u2), .second, .val (.int ka), .val (.long m13), .second, .unset, .unset, .unset, .unset, .unset, .unset] [(.int (ka &&& (2 : Int32)))])) _
      refine XS.ifYes X0.here hx rfl (pc0 := 19) (pc' := 26) rfl (hb hby at_19) rfl ((if0 _ _).trans (teq d3).1) (by decide) (by decide) ?_
      show Steps p.tables e below (s₁.setTop (mkF m 26 #[.val (.long t1), .second, .val (.long u1), .second, .val (.long t2), .second, .val (.long u2), .second, .val (.int ka), .val (.long m13), .second, .unset, .unset, .unset, .unset, .unset, .unset] [])) _
      refine XS.lload X0.here hx rfl (hb hby at_26) rfl ?_
      show Steps p.tables e below (s₁.setTop (mkF m 28 #[.val (.long t1), .second, .val (.long u1), .second, .val (.long t2), .second, .val (.long u2), .second, .val (.int ka), .val (.long m13), .second, .unset, .unset, .unset, .unset, .unset, .unset] [(.long u2)])) _
      exact castTop (by simp only [hm28, if_pos d3]) kt
    · skip
      show Steps p.tables e below (s₁.setTop (mkF m 19 #[.val (.long t1), .second, .val (.long u1), .second, .val (.long t2), .second, .val (.long u2), .second, .val (.int ka), .val (.long m13), .second, .unset, .unset, .unset, .unset, .unset, .unset] [(.int (ka &&& (2 : Int32)))])) _
      refine XS.ifNo X0.here hx rfl (hb hby at_19) rfl ((if0 _ _).trans (feq d3).1) ?_
      show Steps p.tables e below (s₁.setTop (mkF m 22 #[.val (.long t1), .second, .val (.long u1), .second, .val (.long t2), .second, .val (.long u2), .second, .val (.int ka), .val (.long m13), .second, .unset, .unset, .unset, .unset, .unset, .unset] [])) _
      refine XS.lloadN X0.here hx rfl (hb hby at_22) rfl ?_
      show Steps p.tables e below (s₁.setTop (mkF m 23 #[.val (.long t1), .second, .val (.long u1), .second, .val (.long t2), .second, .val (.long u2), .second, .val (.int ka), .val (.long m13), .second, .unset, .unset, .unset, .unset, .unset, .unset] [(.long u1)])) _
      refine XS.goto X0.here hx rfl (pc0 := 23) (pc' := 28) rfl (hb hby at_23) (by decide) (by decide) ?_
      show Steps p.tables e below (s₁.setTop (mkF m 28 #[.val (.long t1), .second, .val (.long u1), .second, .val (.long t2), .second, .val (.long u2), .second, .val (.int ka), .val (.long m13), .second, .unset, .unset, .unset, .unset, .unset, .unset] [(.long u1)])) _
      exact castTop (by simp only [hm28, if_neg d3]) kt
  obtain ⟨T5, hX5, X5, e5, E5, A5, D5, -, st5⟩ := newO X0 hx hZ hown (hw _ (List.mem_of_getElem? (i := 0) rfl)) (hw _ (List.mem_of_getElem? (i := 1) rfl)) (hw _ (List.mem_of_getElem? (i := 2) rfl)) e0 (g := (mkF m 30 #[.val (.long t1), .second, .val (.long u1), .second, .val (.long t2), .second, .val (.long u2), .second, .val (.int ka), .val (.long m13), .second, .val (.long m28), .second, .unset, .unset, .unset, .unset] [])) rfl (hb hby at_30) (by decide) (by decide)
  obtain ⟨b5, g5⟩ : ∃ z_q, z_q = h0.size := ⟨_, rfl⟩
  rw [← g5] at A5 D5 st5
  have g_b5 : n0 ≤ b5 := Nat.le_trans Z0 (Nat.le_of_eq g5.symm)
  have sz_b5 : h0.size ≤ b5 := Nat.le_trans K0.1 (Nat.le_of_eq g5.symm)
  have Z6 : n0 ≤ hX5.size := Nat.le_trans Z0 E5.1
  have K7 : Keep h0 hX5 [] := K0.ext E5
  have F8 : Fld Z hX5 b5 "com/example/shardwright/shardwright/index/Version" "term" "J" (.long (0 : Int64)) := D5 (Or.inr (hw _ (List.mem_of_getElem? (i := 15) rfl))) (ty := .long) (by decide)
  have F9 : Fld Z hX5 b5 "com/example/shardwright/shardwright/index/Version" "sequence" "J" (.long (0 : Int64)) := D5 (Or.inr (hw _ (List.mem_of_getElem? (i := 17) rfl))) (ty := .long) (by decide)
  obtain ⟨_, _, ⟨T10, L10, k10, n10⟩, -, X10, ⟨Lc10, hQ10, l10, y10, z10⟩, st10⟩ := X5.specialBack hx (y := (⟨"com/example/shardwright/shardwright/index/Version", "<init>", "(JJ)V"⟩ : MethodName)) rfl hown (mvT hZ (hw _ (List.mem_of_getElem? (i := 3) rfl))) (mvT hZ (hw _ (List.mem_of_getElem? (i := 4) rfl))) (mvT hZ (hw _ (List.mem_of_getElem? (i := 5) rfl))) (by decide) (backOf (W := 1) (rm1 l Z a0 hw [] b5 t1 u1 hX5 n0 Z6 F8 F9 A5 g_b5) hZ (hw _ (List.mem_of_getElem? (i := 5) rfl)) (hw _ (List.mem_of_getElem? (i := 2) rfl)) (by decide) (by decide)) (g := (mkF m 36 #[.val (.long t1), .second, .val (.long u1), .second, .val (.long t2), .second, .val (.long u2), .second, .val (.int ka), .val (.long m13), .second, .val (.long m28), .second, .unset, .unset, .unset, .unset] [(.long u1), (.long t1), (.ref b5), (.ref b5)])) rfl (by rw [hml]; rfl) (Steps.refl _) (a := b5) (argsL := [(.long t1), (.long u1)]) (rest := [(.ref b5)]) (lenOf pd_2 rfl) rfl (by show 2 * 0 + _ ≤ _; exact Nat.le_of_eq rfl) (hb hby at_36) (fun _ _ => ⟨rfl, e5, (by decide : 1 + 0 ≤ _), (by decide : 2 + 0 ≤ _)⟩)
  dsimp only [Pt.U, Pt.locs, Pt.cells, Pt.slots] at X10 l10 y10 z10 st10 hQ10
  subst l10 y10 z10
  obtain ⟨rfl, N10q, K10q, F11, F12, F13⟩ := hQ10
  have N10 := Fr.app N0 N10q
  have F14 : Exa Z T10.heap b5 "com/example/shardwright/shardwright/index/Version" := A5.keep K10q
  have Z15 : n0 ≤ T10.heap.size := Nat.le_trans Z6 K10q.1
  have K16 : Keep h0 T10.heap [] := K7.trans K10q (allS (Or.inr sz_b5) all0)
  obtain ⟨T17, hX17, X17, e17, E17, A17, D17, -, st17⟩ := newO X10 hx hZ hown (hw _ (List.mem_of_getElem? (i := 0) rfl)) (hw _ (List.mem_of_getElem? (i := 1) rfl)) (hw _ (List.mem_of_getElem? (i := 2) rfl)) rfl (g := (mkF m 41 #[.val (.long t1), .second, .val (.long u1), .second, .val (.long t2), .second, .val (.long u2), .second, .val (.int ka), .val (.long m13), .second, .val (.long m28), .second, .val (.ref b5), .unset, .unset, .unset] [])) rfl (hb hby at_41) (by decide) (by decide)
  obtain ⟨b17, g17⟩ : ∃ z_q, z_q = T10.heap.size := ⟨_, rfl⟩
  rw [← g17] at A17 D17 st17
  have g_b17 : n0 ≤ b17 := Nat.le_trans Z15 (Nat.le_of_eq g17.symm)
  have sz_b17 : h0.size ≤ b17 := Nat.le_trans K16.1 (Nat.le_of_eq g17.symm)
  have ne_b5_b17 : b5 ≠ b17 := Nat.ne_of_lt (Nat.lt_of_lt_of_le F11.lt (Nat.le_of_eq g17.symm))
  have F18 : Exa Z hX17 b5 "com/example/shardwright/shardwright/index/Version" := F11.ext E17
  have F19 : Fld Z hX17 b5 "com/example/shardwright/shardwright/index/Version" "term" "J" (.long t1) := F12.ext E17
  have F20 : Fld Z hX17 b5 "com/example/shardwright/shardwright/index/Version" "sequence" "J" (.long u1) := F13.ext E17
  have Z21 : n0 ≤ hX17.size := Nat.le_trans Z15 E17.1
  have K22 : Keep h0 hX17 [] := K16.ext E17
  have F23 : Fld Z hX17 b17 "com/example/shardwright/shardwright/index/Version" "term" "J" (.long (0 : Int64)) := D17 (Or.inr (hw _ (List.mem_of_getElem? (i := 15) rfl))) (ty := .long) (by decide)
  have F24 : Fld Z hX17 b17 "com/example/shardwright/shardwright/index/Version" "sequence" "J" (.long (0 : Int64)) := D17 (Or.inr (hw _ (List.mem_of_getElem? (i := 17) rfl))) (ty := .long) (by decide)
  obtain ⟨_, _, ⟨T25, L25, k25, n25⟩, -, X25, ⟨Lc25, hQ25, l25, y25, z25⟩, st25⟩ := X17.specialBack hx (y := (⟨"com/example/shardwright/shardwright/index/Version", "<init>", "(JJ)V"⟩ : MethodName)) rfl hown (mvT hZ (hw _ (List.mem_of_getElem? (i := 3) rfl))) (mvT hZ (hw _ (List.mem_of_getElem? (i := 4) rfl))) (mvT hZ (hw _ (List.mem_of_getElem? (i := 5) rfl))) (by decide) (backOf (W := 1) (rm1 l Z a0 hw [] b17 m13 m28 hX17 n0 Z21 F23 F24 A17 g_b17) hZ (hw _ (List.mem_of_getElem? (i := 5) rfl)) (hw _ (List.mem_of_getElem? (i := 2) rfl)) (by decide) (by decide)) (g := (mkF m 49 #[.val (.long t1), .second, .val (.long u1), .second, .val (.long t2), .second, .val (.long u2), .second, .val (.int ka), .val (.long m13), .second, .val (.long m28), .second, .val (.ref b5), .unset, .unset, .unset] [(.long m28), (.long m13), (.ref b17), (.ref b17)])) rfl (by rw [hml]; rfl) (Steps.refl _) (a := b17) (argsL := [(.long m13), (.long m28)]) (rest := [(.ref b17)]) (lenOf pd_2 rfl) rfl (by show 2 * 0 + _ ≤ _; exact Nat.le_of_eq rfl) (hb hby at_49) (fun _ _ => ⟨rfl, e17, (by decide : 2 + 0 ≤ _), (by decide : 4 + 0 ≤ _)⟩)
  dsimp only [Pt.U, Pt.locs, Pt.cells, Pt.slots] at X25 l25 y25 z25 st25 hQ25
  subst l25 y25 z25
  obtain ⟨rfl, N25q, K25q, F26, F27, F28⟩ := hQ25
  have N25 := Fr.app N10 N25q
  have F29 : Exa Z T25.heap b5 "com/example/shardwright/shardwright/index/Version" := F18.keep K25q
  have F30 : Fld Z T25.heap b5 "com/example/shardwright/shardwright/index/Version" "term" "J" (.long t1) := F19.keep K25q (ninS ne_b5_b17 nin0)
  have F31 : Fld Z T25.heap b5 "com/example/shardwright/shardwright/index/Version" "sequence" "J" (.long u1) := F20.keep K25q (ninS ne_b5_b17 nin0)
  have F32 : Exa Z T25.heap b17 "com/example/shardwright/shardwright/index/Version" := A17.keep K25q
  have Z33 : n0 ≤ T25.heap.size := Nat.le_trans Z21 K25q.1
  have K34 : Keep h0 T25.heap [] := K22.trans K25q (allS (Or.inr sz_b17) all0)
  obtain ⟨cq35, kq35, q35a, q35b, q35c⟩ := isOf hZ rfl F29
  obtain ⟨_, _, ⟨T35, L35, k35, n35⟩, -, X35, ⟨Lc35, hQ35, l35, y35, z35⟩, st35⟩ := X25.virtualBack hx (y := (⟨"com/example/shardwright/shardwright/index/Version", "compareTo", "(Lcom/example/shardwright/shardwright/index/Version;)I"⟩ : MethodName)) (z := (⟨"com/example/shardwright/shardwright/index/Version", "compareTo", "(Lcom/example/shardwright/shardwright/index/Version;)I"⟩ : MethodName)) hown (mvT hZ (hw _ (List.mem_of_getElem? (i := 18) rfl))) (mvT hZ (hw _ (List.mem_of_getElem? (i := 19) rfl))) (notFace_of_selects (args := #[]) (mvT hZ (hw _ (List.mem_of_getElem? (i := 21) rfl)))) (mvT hZ (hw _ (List.mem_of_getElem? (i := 21) rfl))) (mvT hZ (hw _ (List.mem_of_getElem? (i := 20) rfl))) (by decide) (backOf (W := 0) (rm4 l Z a0 hw [] b5 b17 t1 u1 m13 m28 T25.heap n0 Z33 F30 F31 F27 F28) hZ (hw _ (List.mem_of_getElem? (i := 22) rfl)) (hw _ (List.mem_of_getElem? (i := 2) rfl)) (by decide) (by decide)) q35a q35c (g := (mkF m 58 #[.val (.long t1), .second, .val (.long u1), .second, .val (.long t2), .second, .val (.long u2), .second, .val (.int ka), .val (.long m13), .second, .val (.long m28), .second, .val (.ref b5), .val (.ref b17), .unset, .unset] [(.ref b17), (.ref b5)])) rfl (by rw [hml]; rfl) (Steps.refl _) (argsL := [(.ref b17)]) (rest := []) (lenOf pd_3 rfl) rfl (by show 2 * 0 + _ ≤ _; exact Nat.le_of_eq rfl) (hb hby at_58) (fun _ _ => ⟨rfl, rfl, (by decide : 2 + 0 ≤ _), (by decide : 4 + 0 ≤ _)⟩)
  dsimp only [Pt.U, Pt.locs, Pt.cells, Pt.slots] at X35 l35 y35 z35 st35 hQ35
  subst l35 y35 z35
  obtain ⟨rfl, N35q, e35⟩ := hQ35
  have N35 := Fr.app N25 N35q
  obtain ⟨r58, hr58⟩ : ∃ z_q : Int32, z_q = (own_cmp2 t1 u1 m13 m28) := ⟨_, rfl⟩
  obtain ⟨m118_l16, hm118_l16⟩ : ∃ z_q : Int32, z_q = (if t1 < m13 then (-1 : Int32) else (if m13 < t1 then (1 : Int32) else (if u1 < m28 then (-1 : Int32) else (if m28 < u1 then (1 : Int32) else (0 : Int32))))) := ⟨_, rfl⟩
  have pre40 : ∀ tq, Steps p.tables e below (T35.setTop (mkF m 118 #[.val (.long t1), .second, .val (.long u1), .second, .val (.long t2), .second, .val (.long u2), .second, .val (.int ka), .val (.long m13), .second, .val (.long m28), .second, .val (.ref b5), .val (.ref b17), .val (.int r58), .val (.int m118_l16)] [])) tq → Steps p.tables e below (s₁.setTop (entryFrame m #[(.long t1), (.long u1), (.long t2), (.long u2), (.int ka)] maxLocals)) tq := by
    intro tq kt
    refine pre4 _ ?_
    show Steps p.tables e below (s₁.setTop (mkF m 28 #[.val (.long t1), .second, .val (.long u1), .second, .val (.long t2), .second, .val (.long u2), .second, .val (.int ka), .val (.long m13), .second, .unset, .unset, .unset, .unset, .unset, .unset] [(.long m28)])) _
    refine XS.lstore X0.here hx rfl (hb hby at_28) rfl (l' := #[.val (.long t1), .second, .val (.long u1), .second, .val (.long t2), .second, .val (.long u2), .second, .val (.int ka), .val (.long m13), .second, .val (.long m28), .second, .unset, .unset, .unset, .unset]) rfl ?_
    show Steps p.tables e below (s₁.setTop (mkF m 30 #[.val (.long t1), .second, .val (.long u1), .second, .val (.long t2), .second, .val (.long u2), .second, .val (.int ka), .val (.long m13), .second, .val (.long m28), .second, .unset, .unset, .unset, .unset] [])) _
    refine st5 _ ?_
    show Steps p.tables e below (T5.setTop (mkF m 33 #[.val (.long t1), .second, .val (.long u1), .second, .val (.long t2), .second, .val (.long u2), .second, .val (.int ka), .val (.long m13), .second, .val (.long m28), .second, .unset, .unset, .unset, .unset] [(.ref b5)])) _
    refine XS.dup X5.here hx rfl (hb hby at_33) rfl rfl ?_
    show Steps p.tables e below (T5.setTop (mkF m 34 #[.val (.long t1), .second, .val (.long u1), .second, .val (.long t2), .second, .val (.long u2), .second, .val (.int ka), .val (.long m13), .second, .val (.long m28), .second, .unset, .unset, .unset, .unset] [(.ref b5), (.ref b5)])) _
    refine XS.lloadN X5.here hx rfl (hb hby at_34) rfl ?_
    show Steps p.tables e below (T5.setTop (mkF m 35 #[.val (.long t1), .second, .val (.long u1), .second, .val (.long t2), .second, .val (.long u2), .second, .val (.int ka), .val (.long m13), .second, .val (.long m28), .second, .unset, .unset, .unset, .unset] [(.long t1), (.ref b5), (.ref b5)])) _
    refine XS.lloadN X5.here hx rfl (hb hby at_35) rfl ?_
    show Steps p.tables e below (T5.setTop (mkF m 36 #[.val (.long t1), .second, .val (.long u1), .second, .val (.long t2), .second, .val (.long u2), .second, .val (.int ka), .val (.long m13), .second, .val (.long m28), .second, .unset, .unset, .unset, .unset] [(.long u1), (.long t1), (.ref b5), (.ref b5)])) _
    refine st10.trans ?_
    show Steps p.tables e below (T10.setTop (mkF m 39 #[.val (.long t1), .second, .val (.long u1), .second, .val (.long t2), .second, .val (.long u2), .second, .val (.int ka), .val (.long m13), .second, .val (.long m28), .second, .unset, .unset, .unset, .unset] [(.ref b5)])) _
    refine XS.astore X10.here hx rfl (hb hby at_39) rfl rfl (l' := #[.val (.long t1), .second, .val (.long u1), .second, .val (.long t2), .second, .val (.long u2), .second, .val (.int ka), .val (.long m13), .second, .val (.long m28), .second, .val (.ref b5), .unset, .unset, .unset]) rfl ?_
    show Steps p.tables e below (T10.setTop (mkF m 41 #[.val (.long t1), .second, .val (.long u1), .second, .val (.long t2), .second, .val (.long u2), .second, .val (.int ka), .val (.long m13), .second, .val (.long m28), .second, .val (.ref b5), .unset, .unset, .unset] [])) _
    refine st17 _ ?_
    show Steps p.tables e below (T17.setTop (mkF m 44 #[.val (.long t1), .second, .val (.long u1), .second, .val (.long t2), .second, .val (.long u2), .second, .val (.int ka), .val (.long m13), .second, .val (.long m28), .second, .val (.ref b5), .unset, .unset, .unset] [(.ref b17)])) _
    refine XS.dup X17.here hx rfl (hb hby at_44) rfl rfl ?_
    show Steps p.tables e below (T17.setTop (mkF m 45 #[.val (.long t1), .second, .val (.long u1), .second, .val (.long t2), .second, .val (.long u2), .second, .val (.int ka), .val (.long m13), .second, .val (.long m28), .second, .val (.ref b5), .unset, .unset, .unset] [(.ref b17), (.ref b17)])) _
    refine XS.lload X17.here hx rfl (hb hby at_45) rfl ?_
    show Steps p.tables e below (T17.setTop (mkF m 47 #[.val (.long t1), .second, .val (.long u1), .second, .val (.long t2), .second, .val (.long u2), .second, .val (.int ka), .val (.long m13), .second, .val (.long m28), .second, .val (.ref b5), .unset, .unset, .unset] [(.long m13), (.ref b17), (.ref b17)])) _
    refine XS.lload X17.here hx rfl (hb hby at_47) rfl ?_
    show Steps p.tables e below (T17.setTop (mkF m 49 #[.val (.long t1), .second, .val (.long u1), .second, .val (.long t2), .second, .val (.long u2), .second, .val (.int ka), .val (.long m13), .second, .val (.long m28), .second, .val (.ref b5), .unset, .unset, .unset] [(.long m28), (.long m13), (.ref b17), (.ref b17)])) _
    refine st25.trans ?_
    show Steps p.tables e below (T25.setTop (mkF m 52 #[.val (.long t1), .second, .val (.long u1), .second, .val (.long t2), .second, .val (.long u2), .second, .val (.int ka), .val (.long m13), .second, .val (.long m28), .second, .val (.ref b5), .unset, .unset, .unset] [(.ref b17)])) _
    refine XS.astore X25.here hx rfl (hb hby at_52) rfl rfl (l' := #[.val (.long t1), .second, .val (.long u1), .second, .val (.long t2), .second, .val (.long u2), .second, .val (.int ka), .val (.long m13), .second, .val (.long m28), .second, .val (.ref b5), .val (.ref b17), .unset, .unset]) rfl ?_
    show Steps p.tables e below (T25.setTop (mkF m 54 #[.val (.long t1), .second, .val (.long u1), .second, .val (.long t2), .second, .val (.long u2), .second, .val (.int ka), .val (.long m13), .second, .val (.long m28), .second, .val (.ref b5), .val (.ref b17), .unset, .unset] [])) _
    refine XS.aload X25.here hx rfl (hb hby at_54) rfl rfl ?_
    show Steps p.tables e below (T25.setTop (mkF m 56 #[.val (.long t1), .second, .val (.long u1), .second, .val (.long t2), .second, .val (.long u2), .second, .val (.int ka), .val (.long m13), .second, .val (.long m28), .second, .val (.ref b5), .val (.ref b17), .unset, .unset] [(.ref b5)])) _
    refine XS.aload X25.here hx rfl (hb hby at_56) rfl rfl ?_
    show Steps p.tables e below (T25.setTop (mkF m 58 #[.val (.long t1), .second, .val (.long u1), .second, .val (.long t2), .second, .val (.long u2), .second, .val (.int ka), .val (.long m13), .second, .val (.long m28), .second, .val (.ref b5), .val (.ref b17), .unset, .unset] [(.ref b17), (.ref b5)])) _
    refine st35.trans ?_
    show Steps p.tables e below (T35.setTop (mkF m 61 #[.val (.long t1), .second, .val (.long u1), .second, .val (.long t2), .second, .val (.long u2), .second, .val (.int ka), .val (.long m13), .second, .val (.long m28), .second, .val (.ref b5), .val (.ref b17), .unset, .unset] [(.int (own_cmp2 t1 u1 m13 m28))])) _
    rw [← hr58]
    show Steps p.tables e below (T35.setTop (mkF m 61 #[.val (.long t1), .second, .val (.long u1), .second, .val (.long t2), .second, .val (.long u2), .second, .val (.int ka), .val (.long m13), .second, .val (.long m28), .second, .val (.ref b5), .val (.ref b17), .unset, .unset] [(.int r58)])) _
    refine XS.istore X35.here hx rfl (hb hby at_61) rfl (l' := #[.val (.long t1), .second, .val (.long u1), .second, .val (.long t2), .second, .val (.long u2), .second, .val (.int ka), .val (.long m13), .second, .val (.long m28), .second, .val (.ref b5), .val (.ref b17), .val (.int r58), .unset]) rfl ?_
    show Steps p.tables e below (T35.setTop (mkF m 63 #[.val (.long t1), .second, .val (.long u1), .second, .val (.long t2), .second, .val (.long u2), .second, .val (.int ka), .val (.long m13), .second, .val (.long m28), .second, .val (.ref b5), .val (.ref b17), .val (.int r58), .unset] [])) _
    refine XS.lloadN X35.here hx rfl (hb hby at_63) rfl ?_
    show Steps p.tables e below (T35.setTop (mkF m 64 #[.val (.long t1), .second, .val (.long u1), .second, .val (.long t2), .second, .val (.long u2), .second, .val (.int ka), .val (.long m13), .second, .val (.long m28), .second, .val (.ref b5), .val (.ref b17), .val (.int r58), .unset] [(.long t1)])) _
    refine XS.lload X35.here hx rfl (hb hby at_64) rfl ?_
    show Steps p.tables e below (T35.setTop (mkF m 66 #[.val (.long t1), .second, .val (.long u1), .second, .val (.long t2), .second, .val (.long u2), .second, .val (.int ka), .val (.long m13), .second, .val (.long m28), .second, .val (.ref b5), .val (.ref b17), .val (.int r58), .unset] [(.long m13), (.long t1)])) _
    refine XS.lcmp X35.here hx rfl (hb hby at_66) rfl ?_
    by_cases d36 : t1 < m13
    · skip
      show Steps p.tables e below (T35.setTop (mkF m 67 #[.val (.long t1), .second, .val (.long u1), .second, .val (.long t2), .second, .val (.long u2), .second, .val (.int ka), .val (.long m13), .second, .val (.long m28), .second, .val (.ref b5), .val (.ref b17), .val (.int r58), .unset] [(.int (lcmpW t1 m13))])) _
      refine XS.ifNo X35.here hx rfl (hb hby at_67) rfl ((if0 _ _).trans (tlt ((lw_lt t1 m13).2 d36)).2.1) ?_
      show Steps p.tables e below (T35.setTop (mkF m 70 #[.val (.long t1), .second, .val (.long u1), .second, .val (.long t2), .second, .val (.long u2), .second, .val (.int ka), .val (.long m13), .second, .val (.long m28), .second, .val (.ref b5), .val (.ref b17), .val (.int r58), .unset] [])) _
      refine XS.iconst X35.here hx rfl (hb hby at_70) ?_
      show Steps p.tables e below (T35.setTop (mkF m 71 #[.val (.long t1), .second, .val (.long u1), .second, .val (.long t2), .second, .val (.long u2), .second, .val (.int ka), .val (.long m13), .second, .val (.long m28), .second, .val (.ref b5), .val (.ref b17), .val (.int r58), .unset] [(.int (-1 : Int32))])) _
      refine XS.istore X35.here hx rfl (hb hby at_71) rfl (l' := #[.val (.long t1), .second, .val (.long u1), .second, .val (.long t2), .second, .val (.long u2), .second, .val (.int ka), .val (.long m13), .second, .val (.long m28), .second, .val (.ref b5), .val (.ref b17), .val (.int r58), .val (.int (-1 : Int32))]) rfl ?_
      show Steps p.tables e below (T35.setTop (mkF m 73 #[.val (.long t1), .second, .val (.long u1), .second, .val (.long t2), .second, .val (.long u2), .second, .val (.int ka), .val (.long m13), .second, .val (.long m28), .second, .val (.ref b5), .val (.ref b17), .val (.int r58), .val (.int (-1 : Int32))] [])) _
      refine XS.goto X35.here hx rfl (pc0 := 73) (pc' := 118) rfl (hb hby at_73) (by decide) (by decide) ?_
      show Steps p.tables e below (T35.setTop (mkF m 118 #[.val (.long t1), .second, .val (.long u1), .second, .val (.long t2), .second, .val (.long u2), .second, .val (.int ka), .val (.long m13), .second, .val (.long m28), .second, .val (.ref b5), .val (.ref b17), .val (.int r58), .val (.int (-1 : Int32))] [])) _
      exact castTop (by simp only [hm118_l16, if_pos d36]) kt
    · skip
      show Steps p.tables e below (T35.setTop (mkF m 67 #[.val (.long t1), .second, .val (.long u1), .second, .val (.long t2), .second, .val (.long u2), .second, .val (.int ka), .val (.long m13), .second, .val (.long m28), .second, .val (.ref b5), .val (.ref b17), .val (.int r58), .unset] [(.int (lcmpW t1 m13))])) _
      refine XS.ifYes X35.here hx rfl (pc0 := 67) (pc' := 76) rfl (hb hby at_67) rfl ((if0 _ _).trans (flt (mt (lw_lt t1 m13).1 d36)).2.1) (by decide) (by decide) ?_
      show Steps p.tables e below (T35.setTop (mkF m 76 #[.val (.long t1), .second, .val (.long u1), .second, .val (.long t2), .second, .val (.long u2), .second, .val (.int ka), .val (.long m13), .second, .val (.long m28), .second, .val (.ref b5), .val (.ref b17), .val (.int r58), .unset] [])) _
      refine XS.lloadN X35.here hx rfl (hb hby at_76) rfl ?_
      show Steps p.tables e below (T35.setTop (mkF m 77 #[.val (.long t1), .second, .val (.long u1), .second, .val (.long t2), .second, .val (.long u2), .second, .val (.int ka), .val (.long m13), .second, .val (.long m28), .second, .val (.ref b5), .val (.ref b17), .val (.int r58), .unset] [(.long t1)])) _
      refine XS.lload X35.here hx rfl (hb hby at_77) rfl ?_
      show Steps p.tables e below (T35.setTop (mkF m 79 #[.val (.long t1), .second, .val (.long u1), .second, .val (.long t2), .second, .val (.long u2), .second, .val (.int ka), .val (.long m13), .second, .val (.long m28), .second, .val (.ref b5), .val (.ref b17), .val (.int r58), .unset] [(.long m13), (.long t1)])) _
      refine XS.lcmp X35.here hx rfl (hb hby at_79) rfl ?_
      by_cases d37 : m13 < t1
      · skip
        show Steps p.tables e below (T35.setTop (mkF m 80 #[.val (.long t1), .second, .val (.long u1), .second, .val (.long t2), .second, .val (.long u2), .second, .val (.int ka), .val (.long m13), .second, .val (.long m28), .second, .val (.ref b5), .val (.ref b17), .val (.int r58), .unset] [(.int (lcmpW t1 m13))])) _
        refine XS.ifNo X35.here hx rfl (hb hby at_80) rfl ((if0 _ _).trans (tlt ((lw_gt t1 m13).2 d37)).2.2.2) ?_
        show Steps p.tables e below (T35.setTop (mkF m 83 #[.val (.long t1), .second, .val (.long u1), .second, .val (.long t2), .second, .val (.long u2), .second, .val (.int ka), .val (.long m13), .second, .val (.long m28), .second, .val (.ref b5), .val (.ref b17), .val (.int r58), .unset] [])) _
        refine XS.iconst X35.here hx rfl (hb hby at_83) ?_
        show Steps p.tables e below (T35.setTop (mkF m 84 #[.val (.long t1), .second, .val (.long u1), .second, .val (.long t2), .second, .val (.long u2), .second, .val (.int ka), .val (.long m13), .second, .val (.long m28), .second, .val (.ref b5), .val (.ref b17), .val (.int r58), .unset] [(.int (1 : Int32))])) _
        refine XS.istore X35.here hx rfl (hb hby at_84) rfl (l' := #[.val (.long t1), .second, .val (.long u1), .second, .val (.long t2), .second, .val (.long u2), .second, .val (.int ka), .val (.long m13), .second, .val (.long m28), .second, .val (.ref b5), .val (.ref b17), .val (.int r58), .val (.int (1 : Int32))]) rfl ?_
        show Steps p.tables e below (T35.setTop (mkF m 86 #[.val (.long t1), .second, .val (.long u1), .second, .val (.long t2), .second, .val (.long u2), .second, .val (.int ka), .val (.long m13), .second, .val (.long m28), .second, .val (.ref b5), .val (.ref b17), .val (.int r58), .val (.int (1 : Int32))] [])) _
        refine XS.goto X35.here hx rfl (pc0 := 86) (pc' := 118) rfl (hb hby at_86) (by decide) (by decide) ?_
        show Steps p.tables e below (T35.setTop (mkF m 118 #[.val (.long t1), .second, .val (.long u1), .second, .val (.long t2), .second, .val (.long u2), .second, .val (.int ka), .val (.long m13), .second, .val (.long m28), .second, .val (.ref b5), .val (.ref b17), .val (.int r58), .val (.int (1 : Int32))] [])) _
        exact castTop (by simp only [hm118_l16, if_neg d36, if_pos d37]) kt
      · skip
        show Steps p.tables e below (T35.setTop (mkF m 80 #[.val (.long t1), .second, .val (.long u1), .second, .val (.long t2), .second, .val (.long u2), .second, .val (.int ka), .val (.long m13), .second, .val (.long m28), .second, .val (.ref b5), .val (.ref b17), .val (.int r58), .unset] [(.int (lcmpW t1 m13))])) _
        refine XS.ifYes X35.here hx rfl (pc0 := 80) (pc' := 89) rfl (hb hby at_80) rfl ((if0 _ _).trans (flt (mt (lw_gt t1 m13).1 d37)).2.2.2) (by decide) (by decide) ?_
        show Steps p.tables e below (T35.setTop (mkF m 89 #[.val (.long t1), .second, .val (.long u1), .second, .val (.long t2), .second, .val (.long u2), .second, .val (.int ka), .val (.long m13), .second, .val (.long m28), .second, .val (.ref b5), .val (.ref b17), .val (.int r58), .unset] [])) _
        refine XS.lloadN X35.here hx rfl (hb hby at_89) rfl ?_
        show Steps p.tables e below (T35.setTop (mkF m 90 #[.val (.long t1), .second, .val (.long u1), .second, .val (.long t2), .second, .val (.long u2), .second, .val (.int ka), .val (.long m13), .second, .val (.long m28), .second, .val (.ref b5), .val (.ref b17), .val (.int r58), .unset] [(.long u1)])) _
        refine XS.lload X35.here hx rfl (hb hby at_90) rfl ?_
        show Steps p.tables e below (T35.setTop (mkF m 92 #[.val (.long t1), .second, .val (.long u1), .second, .val (.long t2), .second, .val (.long u2), .second, .val (.int ka), .val (.long m13), .second, .val (.long m28), .second, .val (.ref b5), .val (.ref b17), .val (.int r58), .unset] [(.long m28), (.long u1)])) _
        refine XS.lcmp X35.here hx rfl (hb hby at_92) rfl ?_
        by_cases d38 : u1 < m28
        · skip
          show Steps p.tables e below (T35.setTop (mkF m 93 #[.val (.long t1), .second, .val (.long u1), .second, .val (.long t2), .second, .val (.long u2), .second, .val (.int ka), .val (.long m13), .second, .val (.long m28), .second, .val (.ref b5), .val (.ref b17), .val (.int r58), .unset] [(.int (lcmpW u1 m28))])) _
          refine XS.ifNo X35.here hx rfl (hb hby at_93) rfl ((if0 _ _).trans (tlt ((lw_lt u1 m28).2 d38)).2.1) ?_
          show Steps p.tables e below (T35.setTop (mkF m 96 #[.val (.long t1), .second, .val (.long u1), .second, .val (.long t2), .second, .val (.long u2), .second, .val (.int ka), .val (.long m13), .second, .val (.long m28), .second, .val (.ref b5), .val (.ref b17), .val (.int r58), .unset] [])) _
          refine XS.iconst X35.here hx rfl (hb hby at_96) ?_
          show Steps p.tables e below (T35.setTop (mkF m 97 #[.val (.long t1), .second, .val (.long u1), .second, .val (.long t2), .second, .val (.long u2), .second, .val (.int ka), .val (.long m13), .second, .val (.long m28), .second, .val (.ref b5), .val (.ref b17), .val (.int r58), .unset] [(.int (-1 : Int32))])) _
          refine XS.istore X35.here hx rfl (hb hby at_97) rfl (l' := #[.val (.long t1), .second, .val (.long u1), .second, .val (.long t2), .second, .val (.long u2), .second, .val (.int ka), .val (.long m13), .second, .val (.long m28), .second, .val (.ref b5), .val (.ref b17), .val (.int r58), .val (.int (-1 : Int32))]) rfl ?_
          show Steps p.tables e below (T35.setTop (mkF m 99 #[.val (.long t1), .second, .val (.long u1), .second, .val (.long t2), .second, .val (.long u2), .second, .val (.int ka), .val (.long m13), .second, .val (.long m28), .second, .val (.ref b5), .val (.ref b17), .val (.int r58), .val (.int (-1 : Int32))] [])) _
          refine XS.goto X35.here hx rfl (pc0 := 99) (pc' := 118) rfl (hb hby at_99) (by decide) (by decide) ?_
          show Steps p.tables e below (T35.setTop (mkF m 118 #[.val (.long t1), .second, .val (.long u1), .second, .val (.long t2), .second, .val (.long u2), .second, .val (.int ka), .val (.long m13), .second, .val (.long m28), .second, .val (.ref b5), .val (.ref b17), .val (.int r58), .val (.int (-1 : Int32))] [])) _
          exact castTop (by simp only [hm118_l16, if_neg d36, if_neg d37, if_pos d38]) kt
        · skip
          show Steps p.tables e below (T35.setTop (mkF m 93 #[.val (.long t1), .second, .val (.long u1), .second, .val (.long t2), .second, .val (.long u2), .second, .val (.int ka), .val (.long m13), .second, .val (.long m28), .second, .val (.ref b5), .val (.ref b17), .val (.int r58), .unset] [(.int (lcmpW u1 m28))])) _
          refine XS.ifYes X35.here hx rfl (pc0 := 93) (pc' := 102) rfl (hb hby at_93) rfl ((if0 _ _).trans (flt (mt (lw_lt u1 m28).1 d38)).2.1) (by decide) (by decide) ?_
          show Steps p.tables e below (T35.setTop (mkF m 102 #[.val (.long t1), .second, .val (.long u1), .second, .val (.long t2), .second, .val (.long u2), .second, .val (.int ka), .val (.long m13), .second, .val (.long m28), .second, .val (.ref b5), .val (.ref b17), .val (.int r58), .unset] [])) _
          refine XS.lloadN X35.here hx rfl (hb hby at_102) rfl ?_
          show Steps p.tables e below (T35.setTop (mkF m 103 #[.val (.long t1), .second, .val (.long u1), .second, .val (.long t2), .second, .val (.long u2), .second, .val (.int ka), .val (.long m13), .second, .val (.long m28), .second, .val (.ref b5), .val (.ref b17), .val (.int r58), .unset] [(.long u1)])) _
          refine XS.lload X35.here hx rfl (hb hby at_103) rfl ?_
          show Steps p.tables e below (T35.setTop (mkF m 105 #[.val (.long t1), .second, .val (.long u1), .second, .val (.long t2), .second, .val (.long u2), .second, .val (.int ka), .val (.long m13), .second, .val (.long m28), .second, .val (.ref b5), .val (.ref b17), .val (.int r58), .unset] [(.long m28), (.long u1)])) _
          refine XS.lcmp X35.here hx rfl (hb hby at_105) rfl ?_
          by_cases d39 : m28 < u1
          · skip
            show Steps p.tables e below (T35.setTop (mkF m 106 #[.val (.long t1), .second, .val (.long u1), .second, .val (.long t2), .second, .val (.long u2), .second, .val (.int ka), .val (.long m13), .second, .val (.long m28), .second, .val (.ref b5), .val (.ref b17), .val (.int r58), .unset] [(.int (lcmpW u1 m28))])) _
            refine XS.ifNo X35.here hx rfl (hb hby at_106) rfl ((if0 _ _).trans (tlt ((lw_gt u1 m28).2 d39)).2.2.2) ?_
            show Steps p.tables e below (T35.setTop (mkF m 109 #[.val (.long t1), .second, .val (.long u1), .second, .val (.long t2), .second, .val (.long u2), .second, .val (.int ka), .val (.long m13), .second, .val (.long m28), .second, .val (.ref b5), .val (.ref b17), .val (.int r58), .unset] [])) _
            refine XS.iconst X35.here hx rfl (hb hby at_109) ?_
            show Steps p.tables e below (T35.setTop (mkF m 110 #[.val (.long t1), .second, .val (.long u1), .second, .val (.long t2), .second, .val (.long u2), .second, .val (.int ka), .val (.long m13), .second, .val (.long m28), .second, .val (.ref b5), .val (.ref b17), .val (.int r58), .unset] [(.int (1 : Int32))])) _
            refine XS.istore X35.here hx rfl (hb hby at_110) rfl (l' := #[.val (.long t1), .second, .val (.long u1), .second, .val (.long t2), .second, .val (.long u2), .second, .val (.int ka), .val (.long m13), .second, .val (.long m28), .second, .val (.ref b5), .val (.ref b17), .val (.int r58), .val (.int (1 : Int32))]) rfl ?_
            show Steps p.tables e below (T35.setTop (mkF m 112 #[.val (.long t1), .second, .val (.long u1), .second, .val (.long t2), .second, .val (.long u2), .second, .val (.int ka), .val (.long m13), .second, .val (.long m28), .second, .val (.ref b5), .val (.ref b17), .val (.int r58), .val (.int (1 : Int32))] [])) _
            refine XS.goto X35.here hx rfl (pc0 := 112) (pc' := 118) rfl (hb hby at_112) (by decide) (by decide) ?_
            show Steps p.tables e below (T35.setTop (mkF m 118 #[.val (.long t1), .second, .val (.long u1), .second, .val (.long t2), .second, .val (.long u2), .second, .val (.int ka), .val (.long m13), .second, .val (.long m28), .second, .val (.ref b5), .val (.ref b17), .val (.int r58), .val (.int (1 : Int32))] [])) _
            exact castTop (by simp only [hm118_l16, if_neg d36, if_neg d37, if_neg d38, if_pos d39]) kt
          · skip
            show Steps p.tables e below (T35.setTop (mkF m 106 #[.val (.long t1), .second, .val (.long u1), .second, .val (.long t2), .second, .val (.long u2), .second, .val (.int ka), .val (.long m13), .second, .val (.long m28), .second, .val (.ref b5), .val (.ref b17), .val (.int r58), .unset] [(.int (lcmpW u1 m28))])) _
            refine XS.ifYes X35.here hx rfl (pc0 := 106) (pc' := 115) rfl (hb hby at_106) rfl ((if0 _ _).trans (flt (mt (lw_gt u1 m28).1 d39)).2.2.2) (by decide) (by decide) ?_
            show Steps p.tables e below (T35.setTop (mkF m 115 #[.val (.long t1), .second, .val (.long u1), .second, .val (.long t2), .second, .val (.long u2), .second, .val (.int ka), .val (.long m13), .second, .val (.long m28), .second, .val (.ref b5), .val (.ref b17), .val (.int r58), .unset] [])) _
            refine XS.iconst X35.here hx rfl (hb hby at_115) ?_
            show Steps p.tables e below (T35.setTop (mkF m 116 #[.val (.long t1), .second, .val (.long u1), .second, .val (.long t2), .second, .val (.long u2), .second, .val (.int ka), .val (.long m13), .second, .val (.long m28), .second, .val (.ref b5), .val (.ref b17), .val (.int r58), .unset] [(.int (0 : Int32))])) _
            refine XS.istore X35.here hx rfl (hb hby at_116) rfl (l' := #[.val (.long t1), .second, .val (.long u1), .second, .val (.long t2), .second, .val (.long u2), .second, .val (.int ka), .val (.long m13), .second, .val (.long m28), .second, .val (.ref b5), .val (.ref b17), .val (.int r58), .val (.int (0 : Int32))]) rfl ?_
            show Steps p.tables e below (T35.setTop (mkF m 118 #[.val (.long t1), .second, .val (.long u1), .second, .val (.long t2), .second, .val (.long u2), .second, .val (.int ka), .val (.long m13), .second, .val (.long m28), .second, .val (.ref b5), .val (.ref b17), .val (.int r58), .val (.int (0 : Int32))] [])) _
            exact castTop (by simp only [hm118_l16, if_neg d36, if_neg d37, if_neg d38, if_neg d39]) kt
  obtain ⟨_, _, ⟨T41, L41, k41, n41⟩, -, X41, ⟨Lc41, hQ41, l41, y41, z41⟩, st41⟩ := Jvm.LawKit.callS X35 hx (y := (⟨"com/example/shardwright/shardwright/index/VersionCompareToPinLaw", "sign", "(I)I"⟩ : MethodName)) hown (mvT hZ (hw _ (List.mem_of_getElem? (i := 27) rfl))) (mvT hZ (hw _ (List.mem_of_getElem? (i := 28) rfl))) (mvT hZ (hw _ (List.mem_of_getElem? (i := 29) rfl))) (mvT hZ (hw _ (List.mem_of_getElem? (i := 30) rfl))) (by decide) (backOf (W := 0) (rm6 l Z a0 hw [] r58 T25.heap n0 Z33 ) hZ (hw _ (List.mem_of_getElem? (i := 30) rfl)) (hw _ (List.mem_of_getElem? (i := 29) rfl)) (by decide) (by decide)) (g := (mkF m 120 #[.val (.long t1), .second, .val (.long u1), .second, .val (.long t2), .second, .val (.long u2), .second, .val (.int ka), .val (.long m13), .second, .val (.long m28), .second, .val (.ref b5), .val (.ref b17), .val (.int r58), .val (.int m118_l16)] [(.int r58)])) rfl (by rw [hml]; rfl) (argsL := [(.int r58)]) (rest := []) (lenOf pd_4 rfl) rfl (by show 2 * 0 + _ ≤ _; exact Nat.le_of_eq rfl) (hb hby at_120) (fun _ _ => ⟨rfl, e35, (by decide : 2 + 0 ≤ _), (by decide : 4 + 0 ≤ _)⟩)
  dsimp only [Pt.U, Pt.locs, Pt.cells, Pt.slots] at X41 l41 y41 z41 st41 hQ41
  subst l41 y41 z41
  obtain ⟨rfl, N41q, e41⟩ := hQ41
  have N41 := Fr.app N35 N41q
  obtain ⟨r120, hr120⟩ : ∃ z_q : Int32, z_q = (own_sign r58) := ⟨_, rfl⟩
  obtain ⟨m133, hm133⟩ : ∃ z_q : Int32, z_q = (if r120 = m118_l16 then (1 : Int32) else (0 : Int32)) := ⟨_, rfl⟩
  have pre43 : ∀ tq, Steps p.tables e below (T41.setTop (mkF m 133 #[.val (.long t1), .second, .val (.long u1), .second, .val (.long t2), .second, .val (.long u2), .second, .val (.int ka), .val (.long m13), .second, .val (.long m28), .second, .val (.ref b5), .val (.ref b17), .val (.int r58), .val (.int m118_l16)] [(.int m133)])) tq → Steps p.tables e below (s₁.setTop (entryFrame m #[(.long t1), (.long u1), (.long t2), (.long u2), (.int ka)] maxLocals)) tq := by
    intro tq kt
    refine pre40 _ ?_
    show Steps p.tables e below (T35.setTop (mkF m 118 #[.val (.long t1), .second, .val (.long u1), .second, .val (.long t2), .second, .val (.long u2), .second, .val (.int ka), .val (.long m13), .second, .val (.long m28), .second, .val (.ref b5), .val (.ref b17), .val (.int r58), .val (.int m118_l16)] [])) _
    refine XS.iload X35.here hx rfl (hb hby at_118) rfl ?_
    show Steps p.tables e below (T35.setTop (mkF m 120 #[.val (.long t1), .second, .val (.long u1), .second, .val (.long t2), .second, .val (.long u2), .second, .val (.int ka), .val (.long m13), .second, .val (.long m28), .second, .val (.ref b5), .val (.ref b17), .val (.int r58), .val (.int m118_l16)] [(.int r58)])) _
    refine st41 _ ?_
    show Steps p.tables e below (T41.setTop (mkF m 123 #[.val (.long t1), .second, .val (.long u1), .second, .val (.long t2), .second, .val (.long u2), .second, .val (.int ka), .val (.long m13), .second, .val (.long m28), .second, .val (.ref b5), .val (.ref b17), .val (.int r58), .val (.int m118_l16)] [(.int (own_sign r58))])) _
    rw [← hr120]
    show Steps p.tables e below (T41.setTop (mkF m 123 #[.val (.long t1), .second, .val (.long u1), .second, .val (.long t2), .second, .val (.long u2), .second, .val (.int ka), .val (.long m13), .second, .val (.long m28), .second, .val (.ref b5), .val (.ref b17), .val (.int r58), .val (.int m118_l16)] [(.int r120)])) _
    refine XS.iload X41.here hx rfl (hb hby at_123) rfl ?_
    by_cases d42 : r120 = m118_l16
    · skip
      show Steps p.tables e below (T41.setTop (mkF m 125 #[.val (.long t1), .second, .val (.long u1), .second, .val (.long t2), .second, .val (.long u2), .second, .val (.int ka), .val (.long m13), .second, .val (.long m28), .second, .val (.ref b5), .val (.ref b17), .val (.int r58), .val (.int m118_l16)] [(.int m118_l16), (.int r120)])) _
      refine XS.icmpNo X41.here hx rfl (hb hby at_125) rfl (teq d42).2 ?_
      show Steps p.tables e below (T41.setTop (mkF m 128 #[.val (.long t1), .second, .val (.long u1), .second, .val (.long t2), .second, .val (.long u2), .second, .val (.int ka), .val (.long m13), .second, .val (.long m28), .second, .val (.ref b5), .val (.ref b17), .val (.int r58), .val (.int m118_l16)] [])) _
      refine XS.iconst X41.here hx rfl (hb hby at_128) ?_
      show Steps p.tables e below (T41.setTop (mkF m 129 #[.val (.long t1), .second, .val (.long u1), .second, .val (.long t2), .second, .val (.long u2), .second, .val (.int ka), .val (.long m13), .second, .val (.long m28), .second, .val (.ref b5), .val (.ref b17), .val (.int r58), .val (.int m118_l16)] [(.int (1 : Int32))])) _
      refine XS.goto X41.here hx rfl (pc0 := 129) (pc' := 133) rfl (hb hby at_129) (by decide) (by decide) ?_
      show Steps p.tables e below (T41.setTop (mkF m 133 #[.val (.long t1), .second, .val (.long u1), .second, .val (.long t2), .second, .val (.long u2), .second, .val (.int ka), .val (.long m13), .second, .val (.long m28), .second, .val (.ref b5), .val (.ref b17), .val (.int r58), .val (.int m118_l16)] [(.int (1 : Int32))])) _
      exact castTop (by simp only [hm133, if_pos d42]) kt
    · skip
      show Steps p.tables e below (T41.setTop (mkF m 125 #[.val (.long t1), .second, .val (.long u1), .second, .val (.long t2), .second, .val (.long u2), .second, .val (.int ka), .val (.long m13), .second, .val (.long m28), .second, .val (.ref b5), .val (.ref b17), .val (.int r58), .val (.int m118_l16)] [(.int m118_l16), (.int r120)])) _
      refine XS.icmpYes X41.here hx rfl (pc0 := 125) (pc' := 132) rfl (hb hby at_125) rfl (feq d42).2 (by decide) (by decide) ?_
      show Steps p.tables e below (T41.setTop (mkF m 132 #[.val (.long t1), .second, .val (.long u1), .second, .val (.long t2), .second, .val (.long u2), .second, .val (.int ka), .val (.long m13), .second, .val (.long m28), .second, .val (.ref b5), .val (.ref b17), .val (.int r58), .val (.int m118_l16)] [])) _
      refine XS.iconst X41.here hx rfl (hb hby at_132) ?_
      show Steps p.tables e below (T41.setTop (mkF m 133 #[.val (.long t1), .second, .val (.long u1), .second, .val (.long t2), .second, .val (.long u2), .second, .val (.int ka), .val (.long m13), .second, .val (.long m28), .second, .val (.ref b5), .val (.ref b17), .val (.int r58), .val (.int m118_l16)] [(.int (0 : Int32))])) _
      exact castTop (by simp only [hm133, if_neg d42]) kt
  obtain ⟨fs, hr, hrun, hended, hW, hsame⟩ := X41.leave (v := some (Value.int (nar .boolean m133))) (fun h => by rw [Bd.returns] at h; cases h)
  have hres44 : (nar .boolean m133) = (1 : Int32) := (own_leaf_0_133 t1 u1 t2 u2 ka m13 hm13 m28 hm28 r58 hr58 m118_l16 hm118_l16 r120 hr120 m133 hm133)
  refine ⟨_, _, pre43 _ ?_, hrun, hended, _, _, rfl, ?_, ⟨_, rfl⟩, hW, hsame.mono (by decide) (by decide)⟩
  · skip
    show Steps p.tables e below (T41.setTop (mkF m 133 #[.val (.long t1), .second, .val (.long u1), .second, .val (.long t2), .second, .val (.long u2), .second, .val (.int ka), .val (.long m13), .second, .val (.long m28), .second, .val (.ref b5), .val (.ref b17), .val (.int r58), .val (.int m118_l16)] [(.int m133)])) _
    exact retN X41 hx (t := .boolean) Bd.returns (by simp) (hb hby at_133) hr
  · show Q0 Z t1 u1 t2 u2 ka h0 n0 _ T41.heap _
    rw [e41]
    exact ⟨congrArg (fun z => some (Value.int z)) hres44, N41⟩
set_option maxRecDepth 65536 in
set_option maxHeartbeats 40000000 in
theorem comes_1 {Post : Tables → Env → Array Value → State → Outcome → State → Prop} (hpost : ∀ tb e args s v u, (limb_1_1.after args s (.returned v) u = true ∧ limb_1_2.after args s (.returned v) u = true ∧ True) → FrameEnd s (.returned v) u (Jvm.fieldLocs frame_1_writes args s ++ Jvm.arrayLocs frame_1_arrays args s ++ Jvm.staticLocs frame_1_statics s) 16 128 → Post tb e args s (.returned v) u) :
    ArmFor flags0 classFile x code maxLocals ret World_1 tables_1 room_1 Calls_1 rest_1 Pre_1 Post := by
  intro l hfl _ _ p e ha hc hk s m args below hf hA hF happ hP
  obtain ⟨hcalls, hrest, hpre⟩ := hP
  obtain ⟨-, -, -, hnamed, -, -, -, hat⟩ := (Spec.applies_iff hf).mp happ
  obtain ⟨hg, hn⟩ := and_e (Cond.before_iff.mp (show (Jvm.Cond.and given_1 narrow_1).before args s = true from hpre))
  obtain ⟨gv1, gv2⟩ := and_e hg
  obtain ⟨gv3, gv4⟩ := and_e gv2
  obtain ⟨gv5, gv6⟩ := and_e gv4
  obtain ⟨gv7, gv8⟩ := and_e gv6
  obtain ⟨gv9, gv10⟩ := and_e gv8
  obtain ⟨w0, w1, w2, w3, w4, rfl⟩ : ∃ w0 w1 w2 w3 w4 : Value, args = #[w0, w1, w2, w3, w4] := by
    have hs : args.size = 5 := by simpa [Cond.value, given_1] using gv1
    obtain ⟨L⟩ := args
    match L, hs with
    | [w0, w1, w2, w3, w4], _ => exact ⟨w0, w1, w2, w3, w4, rfl⟩
  have hw := fun d (hd : d ∈ tables_1) => atoms_spec (ws := Jvm.Cond.code x code maxLocals ret :: tables_1) hat d (List.mem_cons_of_mem _ hd)
  obtain ⟨i0, ei0⟩ := isL_v gv3
  obtain rfl : w0 = (.long i0) := Option.some.inj ei0
  obtain ⟨i1, ei1⟩ := isL_v gv5
  obtain rfl : w1 = (.long i1) := Option.some.inj ei1
  obtain ⟨i2, ei2⟩ := isL_v gv7
  obtain rfl : w2 = (.long i2) := Option.some.inj ei2
  obtain ⟨i3, ei3⟩ := isL_v gv9
  obtain rfl : w3 = (.long i3) := Option.some.inj ei3
  obtain ⟨i4, ei4⟩ := is_v gv10
  obtain rfl : w4 = (.int i4) := Option.some.inj ei4
  obtain ⟨n, o, h1, h2, h3, _, L, rfl, ⟨rfl, N⟩, hq⟩ := rm0 l s _ hw tables_1 i0 i1 i2 i3 i4  s.heap s.heap.size (Nat.le_refl _)  p e ha hc hk s m _ below hf ((Spec.applies_iff_loose hf).mp happ).1 ⟨rfl, State.Warmed39.refl s, rfl⟩ trivial
  refine ⟨n, _, h1, h2, h3, hpost _ _ _ _ _ _ ⟨Cond.after_iff.mpr rfl, Cond.after_iff.mpr (eq_i res_at (Term.int_eval (1)) rfl), trivial⟩ ⟨hq.1, hq.2.1, (hq.2.2.sift fun y hy => Or.inr (N y hy)).mono (by decide) (by decide)⟩⟩
theorem main_1_1 : Claimed_1_1 := comes_1 fun _ _ _ _ _ _ h hF => ⟨h.1, hF⟩
theorem main_1_2 : Claimed_1_2 := comes_1 fun _ _ _ _ _ _ h hF => ⟨h.2.1, hF⟩
end Jvm.Pilot.@@N@@
namespace Jvm.Pilot.@@N@@
open Jvm Jvm.ClassFile Sem Op Lib Jvm.Free Jvm.Stand Jvm.Pilot.@@N@@.Jvm.D
/-! MADE BY PROGRAM (witnessworld.py) out of the Statement's table words and the real class files: 15 classes; the members and pool entries that the words name. The judged class is class 1, her method 2. -/
namespace start1
open Jvm.ClassFile
def u (s : String) : CpInfo := .utf8 (stringToUtf16 s)
/-- a pool by its gaps: so many unusable entries, then the entry; so many at the end -/
def gap : Nat → List CpInfo → List CpInfo
  | 0, r => r
  | n + 1, r => .unusable :: gap n r
def poolList (es : List (Nat × CpInfo)) (last : Nat) : List CpInfo := es.foldr (fun e r => gap e.1 (e.2 :: r)) (gap last [])
def pool (es : List (Nat × CpInfo)) (last : Nat) : Array CpInfo := ⟨poolList es last⟩
def fileOf (pool : Array CpInfo) (this : Nat) (attrs : Array Attribute := #[]) (ms : Array MethodInfo := #[]) (fl : Nat := 33) (sup : Nat := 0) (ifs : Array Nat := #[]) (fds : Array FieldInfo := #[]) : ClassFile where
  minorVersion := 0
  majorVersion := 65
  constantPool := pool
  accessFlags := fl
  thisClass := this
  superClass := sup
  interfaces := ifs
  fields := fds
  methods := ms
  attributes := attrs
def plain (name : String) (sup : Option ClassId) : Class where
  name := name
  kind := .ordinary
  loader := none
  accessFlags := 33
  super := sup
  interfaces := #[]
  cf := none
  fields := #[]
  methods := #[]
  instanceTypes := #[]
  staticTypes := #[]
  resolved := #[]
  callSites := []
  init := .initialized
  statics := none
  mirror := none

def pool0 : Array CpInfo := pool [(5, u "<init>"), (0, u "()V"), (1, .class_ 10), (1, u "java/lang/Object")] 113

def k0c0 : Code := { maxStack := 0, maxLocals := 1, code := object_method_1_code, exceptionTable := #[], attributes := #[] }
def k0m0 : Method := { name := "<init>", desc := "()V", sig := { parameters := [], returnType := none }, accessFlags := 1, code := some k0c0 }
/-- java/lang/Object -/
def k0 : Class := { plain "java/lang/Object" none with
  accessFlags := 33
  interfaces := #[]
  cf := some (fileOf pool0 8 #[] #[{ accessFlags := 1, nameIndex := 5, descriptorIndex := 6, attributes := #[] }] 33 0 #[] #[])
  fields := #[]
  methods := #[k0m0]
  instanceTypes := #[]
  staticTypes := #[]
  resolved := Array.replicate 124 none
  statics := none }

def pool1 : Array CpInfo := pool [(2, .class_ 4), (1, u "java/lang/Object"), (0, u "<init>"), (0, u "()V"), (0, .class_ 8), (0, u "com/example/shardwright/shardwright/index/Version"), (0, .methodref 7 10), (0, .nameAndType 5 11), (0, u "(JJ)V"), (0, .methodref 7 13), (0, .nameAndType 14 15), (0, u "compareTo"), (0, u "(Lcom/example/shardwright/shardwright/index/Version;)I"), (0, .methodref 17 18), (0, .class_ 19), (0, .nameAndType 20 21), (0, u "com/example/shardwright/shardwright/index/VersionCompareToPinLaw"), (0, u "sign"), (0, u "(I)I"), (3, u "law"), (0, u "(JJJJI)Z")] 2

def k1m0 : Method := { name := "<init>", desc := "()V", sig := { parameters := [], returnType := none }, accessFlags := 1, code := none }
def k1c1 : Code := { maxStack := 1, maxLocals := 1, code := method_2_code, exceptionTable := #[], attributes := #[] }
def k1m1 : Method := { name := "sign", desc := "(I)I", sig := { parameters := [.int], returnType := some .int }, accessFlags := 10, code := some k1c1 }
def k1c2 : Code := { maxStack := 6, maxLocals := 17, code := code, exceptionTable := #[], attributes := #[] }
def k1m2 : Method := { name := "law", desc := "(JJJJI)Z", sig := { parameters := [.long, .long, .long, .long, .int], returnType := some .boolean }, accessFlags := 9, code := some k1c2 }
/-- com/example/shardwright/shardwright/index/VersionCompareToPinLaw -/
def k1 : Class := { plain "com/example/shardwright/shardwright/index/VersionCompareToPinLaw" (some 0) with
  accessFlags := 49
  interfaces := #[]
  cf := some (fileOf pool1 17 #[] #[{ accessFlags := 1, nameIndex := 5, descriptorIndex := 6, attributes := #[] }, { accessFlags := 10, nameIndex := 20, descriptorIndex := 21, attributes := #[] }, { accessFlags := 9, nameIndex := 25, descriptorIndex := 26, attributes := #[] }] 49 2 #[] #[])
  fields := #[]
  methods := #[k1m0, k1m1, k1m2]
  instanceTypes := #[]
  staticTypes := #[]
  resolved := Array.replicate 29 none
  statics := none }

def pool2 : Array CpInfo := pool [(1, .methodref 2 3), (0, .class_ 4), (0, .nameAndType 5 6), (0, u "java/lang/Object"), (0, u "<init>"), (0, u "()V"), (0, .class_ 8), (0, u "java/lang/Record")] 13

def k2c0 : Code := { maxStack := 1, maxLocals := 1, code := jdk_30_method_1_code, exceptionTable := #[], attributes := #[] }
def k2m0 : Method := { name := "<init>", desc := "()V", sig := { parameters := [], returnType := none }, accessFlags := 4, code := some k2c0 }
/-- java/lang/Record -/
def k2 : Class := { plain "java/lang/Record" (some 0) with
  accessFlags := 1057
  interfaces := #[]
  cf := some (fileOf pool2 7 #[] #[{ accessFlags := 4, nameIndex := 5, descriptorIndex := 6, attributes := #[] }] 1057 2 #[] #[])
  fields := #[]
  methods := #[k2m0]
  instanceTypes := #[]
  staticTypes := #[]
  resolved := Array.replicate 22 none
  statics := none }

def pool3 : Array CpInfo := pool [(1, .class_ 2), (0, u "java/lang/Comparable"), (0, .class_ 4), (0, u "java/lang/Object")] 7

/-- java/lang/Comparable -/
def k3 : Class := { plain "java/lang/Comparable" (some 0) with
  accessFlags := 1537
  interfaces := #[]
  cf := some (fileOf pool3 1 #[] #[] 1537 3 #[] #[])
  fields := #[]
  methods := #[]
  instanceTypes := #[]
  staticTypes := #[]
  resolved := Array.replicate 12 none
  statics := none }

def pool4 : Array CpInfo := pool [(1, .methodref 2 3), (0, .class_ 4), (0, .nameAndType 5 6), (0, u "java/lang/Record"), (0, u "<init>"), (0, u "()V"), (0, .fieldref 8 9), (0, .class_ 10), (0, .nameAndType 11 12), (0, u "com/example/shardwright/shardwright/index/Version"), (0, u "term"), (0, u "J"), (0, .fieldref 8 14), (0, .nameAndType 15 12), (0, u "sequence"), (2, u "(JJ)V"), (0, .methodref 20 21), (0, .class_ 22), (0, .nameAndType 23 24), (0, u "java/lang/Long"), (0, u "compare"), (0, u "(JJ)I"), (6, u "compareTo"), (0, u "(Lcom/example/shardwright/shardwright/index/Version;)I"), (9, u "NONE"), (0, u "Lcom/example/shardwright/shardwright/index/Version;"), (0, .class_ 45), (0, u "java/lang/Comparable")] 44

def k4c0 : Code := { maxStack := 3, maxLocals := 5, code := prog_14_method_1_code, exceptionTable := #[], attributes := #[] }
def k4m0 : Method := { name := "<init>", desc := "(JJ)V", sig := { parameters := [.long, .long], returnType := none }, accessFlags := 1, code := some k4c0 }
def k4c1 : Code := { maxStack := 4, maxLocals := 3, code := prog_14_method_3_code, exceptionTable := #[], attributes := #[] }
def k4m1 : Method := { name := "compareTo", desc := "(Lcom/example/shardwright/shardwright/index/Version;)I", sig := { parameters := [(.object "com/example/shardwright/shardwright/index/Version")], returnType := some .int }, accessFlags := 1, code := some k4c1 }
/-- com/example/shardwright/shardwright/index/Version -/
def k4 : Class := { plain "com/example/shardwright/shardwright/index/Version" (some 2) with
  accessFlags := 49
  interfaces := #[3]
  cf := some (fileOf pool4 8 #[] #[{ accessFlags := 1, nameIndex := 5, descriptorIndex := 18, attributes := #[] }, { accessFlags := 1, nameIndex := 31, descriptorIndex := 32, attributes := #[] }] 49 2 #[44] #[{ accessFlags := 18, nameIndex := 11, descriptorIndex := 12, attributes := #[] }, { accessFlags := 18, nameIndex := 15, descriptorIndex := 12, attributes := #[] }, { accessFlags := 25, nameIndex := 42, descriptorIndex := 43, attributes := #[] }])
  fields := #[{ name := "term", type := .long, accessFlags := 18, slot := 0, constantValue := 0 }, { name := "sequence", type := .long, accessFlags := 18, slot := 1, constantValue := 0 }, { name := "NONE", type := (.object "com/example/shardwright/shardwright/index/Version"), accessFlags := 25, slot := 0, constantValue := 0 }]
  methods := #[k4m0, k4m1]
  instanceTypes := #[.long, .long]
  staticTypes := #[(.object "com/example/shardwright/shardwright/index/Version")]
  resolved := Array.replicate 90 none
  statics := none }

def pool5 : Array CpInfo := pool [(1, .class_ 2), (0, u "java/io/Serializable"), (0, .class_ 4), (0, u "java/lang/Object")] 2

/-- java/io/Serializable -/
def k5 : Class := { plain "java/io/Serializable" (some 0) with
  accessFlags := 1537
  interfaces := #[]
  cf := some (fileOf pool5 1 #[] #[] 1537 3 #[] #[])
  fields := #[]
  methods := #[]
  instanceTypes := #[]
  staticTypes := #[]
  resolved := Array.replicate 7 none
  statics := none }

def pool6 : Array CpInfo := pool [(2, .class_ 4), (1, u "java/lang/Object"), (0, u "<init>"), (0, u "()V"), (1, .class_ 10), (1, u "java/lang/Number"), (2, .class_ 14), (0, u "java/io/Serializable"), (0, u "serialVersionUID"), (0, u "J")] 20

def k6m0 : Method := { name := "<init>", desc := "()V", sig := { parameters := [], returnType := none }, accessFlags := 1, code := none }
/-- java/lang/Number -/
def k6 : Class := { plain "java/lang/Number" (some 0) with
  accessFlags := 1057
  interfaces := #[5]
  cf := some (fileOf pool6 8 #[] #[{ accessFlags := 1, nameIndex := 5, descriptorIndex := 6, attributes := #[] }] 1057 2 #[13] #[{ accessFlags := 26, nameIndex := 15, descriptorIndex := 16, attributes := #[] }])
  fields := #[{ name := "serialVersionUID", type := .long, accessFlags := 26, slot := 0, constantValue := 0 }]
  methods := #[k6m0]
  instanceTypes := #[]
  staticTypes := #[.long]
  resolved := Array.replicate 37 none
  statics := none }

def pool7 : Array CpInfo := pool [(1, .class_ 2), (0, u "java/lang/constant/Constable"), (0, .class_ 4), (0, u "java/lang/Object")] 6

/-- java/lang/constant/Constable -/
def k7 : Class := { plain "java/lang/constant/Constable" (some 0) with
  accessFlags := 1537
  interfaces := #[]
  cf := some (fileOf pool7 1 #[] #[] 1537 3 #[] #[])
  fields := #[]
  methods := #[]
  instanceTypes := #[]
  staticTypes := #[]
  resolved := Array.replicate 11 none
  statics := none }

def pool8 : Array CpInfo := pool [(1, .class_ 2), (0, u "java/lang/constant/ConstantDesc"), (0, .class_ 4), (0, u "java/lang/Object")] 32

/-- java/lang/constant/ConstantDesc -/
def k8 : Class := { plain "java/lang/constant/ConstantDesc" (some 0) with
  accessFlags := 1537
  interfaces := #[]
  cf := some (fileOf pool8 1 #[] #[] 1537 3 #[] #[])
  fields := #[]
  methods := #[]
  instanceTypes := #[]
  staticTypes := #[]
  resolved := Array.replicate 37 none
  statics := none }

def pool9 : Array CpInfo := pool [(1, .class_ 2), (0, u "java/lang/Long"), (232, .class_ 237), (1, u "java/lang/Long$LongCache"), (33, .class_ 272), (0, u "java/lang/Number"), (2, u "value"), (0, u "J"), (27, u "compare"), (0, u "(JJ)I"), (55, u "TYPE"), (0, u "Ljava/lang/Class;"), (0, .class_ 364), (0, u "java/lang/Comparable"), (0, .class_ 366), (0, u "java/lang/constant/Constable"), (0, .class_ 368), (0, u "java/lang/constant/ConstantDesc"), (0, u "MIN_VALUE"), (1, u "MAX_VALUE"), (4, u "SIZE"), (0, u "I"), (1, u "BYTES"), (1, u "serialVersionUID")] 142

def k9c0 : Code := { maxStack := 4, maxLocals := 4, code := jdk_35_method_42_code, exceptionTable := #[], attributes := #[] }
def k9m0 : Method := { name := "compare", desc := "(JJ)I", sig := { parameters := [.long, .long], returnType := some .int }, accessFlags := 9, code := some k9c0 }
/-- java/lang/Long -/
def k9 : Class := { plain "java/lang/Long" (some 6) with
  accessFlags := 49
  interfaces := #[3, 7, 8]
  cf := some (fileOf pool9 1 #[.nestMembers #[235]] #[{ accessFlags := 9, nameIndex := 304, descriptorIndex := 305, attributes := #[] }] 49 271 #[363, 365, 367] #[{ accessFlags := 25, nameIndex := 369, descriptorIndex := 276, attributes := #[] }, { accessFlags := 25, nameIndex := 371, descriptorIndex := 276, attributes := #[] }, { accessFlags := 25, nameIndex := 361, descriptorIndex := 362, attributes := #[] }, { accessFlags := 18, nameIndex := 275, descriptorIndex := 276, attributes := #[] }, { accessFlags := 25, nameIndex := 376, descriptorIndex := 377, attributes := #[] }, { accessFlags := 25, nameIndex := 379, descriptorIndex := 377, attributes := #[] }, { accessFlags := 26, nameIndex := 381, descriptorIndex := 276, attributes := #[] }])
  fields := #[{ name := "MIN_VALUE", type := .long, accessFlags := 25, slot := 0, constantValue := 0 }, { name := "MAX_VALUE", type := .long, accessFlags := 25, slot := 1, constantValue := 0 }, { name := "TYPE", type := (.object "java/lang/Class"), accessFlags := 25, slot := 2, constantValue := 0 }, { name := "value", type := .long, accessFlags := 18, slot := 0, constantValue := 0 }, { name := "SIZE", type := .int, accessFlags := 25, slot := 3, constantValue := 0 }, { name := "BYTES", type := .int, accessFlags := 25, slot := 4, constantValue := 0 }, { name := "serialVersionUID", type := .long, accessFlags := 26, slot := 5, constantValue := 0 }]
  methods := #[k9m0]
  instanceTypes := #[.long]
  staticTypes := #[.long, .long, (.object "java/lang/Class"), .int, .int, .long]
  resolved := Array.replicate 524 none
  statics := none }

def pool10 : Array CpInfo := pool [(1, u "java/lang/Cloneable"), (0, .class_ 1), (0, u "java/lang/Object"), (0, .class_ 3)] 3

/-- java/lang/Cloneable -/
def k10 : Class := { plain "java/lang/Cloneable" (some 0) with
  accessFlags := 1537
  interfaces := #[]
  cf := some (fileOf pool10 2 #[] #[] 1537 4 #[] #[])
  fields := #[]
  methods := #[]
  instanceTypes := #[]
  staticTypes := #[]
  resolved := Array.replicate 8 none
  statics := none }

/-- the primitive byte -/
def k11 : Class := { plain "byte" none with kind := .primitive 'B', accessFlags := 0x411 }
/-- [B -/
def k12 : Class := { plain "[B" (some 0) with kind := .array 11 .byte, interfaces := #[10, 5], accessFlags := 1041 }

/-- the primitive int -/
def k13 : Class := { plain "int" none with kind := .primitive 'I', accessFlags := 0x411 }
/-- [I -/
def k14 : Class := { plain "[I" (some 0) with kind := .array 13 .int, interfaces := #[10, 5], accessFlags := 1041 }

def heap : Heap := #[]
def classes : Array Class := #[k0, k1, k2, k3, k4, k5, k6, k7, k8, k9, k10, k11, k12, k13, k14]
def interned : List (Array UInt16 × Addr) := []
def slotsUsed : Nat := 0
def theMethod : MethodId := ⟨1, 2⟩
def args0 : Array Value := #[.long 5, .long 6, .long 7, .long 8, .int 3]
def aboutOver (below : List Frame) : State where
  vm := { classes := classes, interned := interned.toArray }
  heap := heap
  slotsUsed := slotsUsed
  threads := #[{ frames := .invoking theMethod args0 :: below }]
def below0 : List Frame := [.native { method := ⟨0, 0⟩, args := #[] }]
def about1 : State := aboutOver below0
def p0 : Program := .bare "" "" ""
def e0 : Env := launch0.env 0 0 0
theorem w_frames : about1.frames = Frame.invoking theMethod args0 :: below0 := rfl
set_option maxRecDepth 65536 in
theorem w_args : argsFit about1.vm theMethod args0 = true := by decide +kernel
set_option maxRecDepth 65536 in
theorem w_heap : heapFits about1 = true := by decide +kernel
set_option maxRecDepth 65536 in
theorem w_runnable : about1.curStatus? = some .runnable := by decide +kernel
set_option maxRecDepth 65536 in
theorem w_alone : about1.alone = true := by decide +kernel
set_option maxRecDepth 65536 in
theorem w_named : about1.methodNamed? x = some theMethod := by decide +kernel
set_option maxRecDepth 65536 in
theorem w_hears : about1.hears theMethod below0 = true := by decide +kernel
set_option maxRecDepth 65536 in
theorem w_ripe : about1.ripe theMethod args0 below0 = true := by decide +kernel
theorem w_running : about1.status = .running := rfl
set_option maxRecDepth 65536 in
theorem w_room : about1.hasRoom e0.platform room_1 = true :=
  launch0.hasRoom_least _ room_1 (by decide +kernel) (by decide +kernel) (by decide +kernel) (by decide +kernel) (by decide +kernel) (by decide +kernel)
theorem allAtoms_all (ts : List Jvm.Cond) (a : Array Jvm.Value) (st : Jvm.State) : (allAtoms ts).before a st = ts.all (fun c => c.before a st) := by
  induction ts with
  | nil => rfl
  | cons c t ih =>
    show (Jvm.Cond.and c (allAtoms t)).before a st = _
    rw [Jvm.Cond.before_and, ih, List.all_cons]
def words1 : List Jvm.Cond := Jvm.Cond.code x code maxLocals ret :: tables_1
/-- a 'code' word, met by the world's own term for the bytes: nothing is compared byte by byte -/
theorem code_word {y : MethodName} {bytes : ByteArray} {mx : Nat} {rt : Option FieldType} {a : Array Value} {s : State} {m : MethodId} {meth : Method} {c : Code} (h1 : s.methodNamed? y = some m) (h2 : s.vm.method? m = some meth) (h3 : meth.code = some c) (h4 : c.code = bytes)
    (h5 : (c.maxLocals == mx && c.exceptionTable.isEmpty && decide (c.maxStack ≤ mostOperands) && decide (meth.sig.returnType = rt) && !meth.locks && decide (parseMethodDescriptor y.desc = some meth.sig)) = true) : (Jvm.Cond.code y bytes mx rt).before a s = true := by
  simp only [Bool.and_eq_true, beq_iff_eq, Bool.not_eq_true', decide_eq_true_eq] at h5
  obtain ⟨⟨⟨⟨⟨g1, g2⟩, g3⟩, g4⟩, g5⟩, g6⟩ := h5
  simp [Cond.before, Cond.holds, Cond.value, h1, h2, h3, h4, g1, g2, g3, g4, g5, g6]
def isCode : Jvm.Cond → Bool
  | .code _ _ _ _ => true
  | _ => false
theorem all_split {L : List Jvm.Cond} {P : Jvm.Cond → Bool} (h1 : L.all (fun c => isCode c || P c) = true) (h2 : ∀ c ∈ L.filter isCode, P c = true) : L.all P = true := by
  refine List.all_eq_true.mpr fun c hc => ?_
  have h := List.all_eq_true.mp h1 c hc
  rcases Bool.eq_false_or_eq_true (isCode c) with hi | hi
  · exact h2 c (List.mem_filter.mpr ⟨hc, hi⟩)
  · simpa [hi] using h
set_option maxRecDepth 65536 in
theorem w_c0 : (Jvm.Cond.code x code maxLocals ret).before args0 about1 = true := code_word (m := ⟨1, 2⟩) (meth := k1m2) (c := k1c2) (by decide +kernel) rfl rfl rfl (by decide +kernel)
set_option maxRecDepth 65536 in
theorem w_c1 : (Jvm.Cond.code ({ cls := "com/example/shardwright/shardwright/index/Version", name := "<init>", desc := "(JJ)V" } : Jvm.MethodName) prog_14_method_1_code (5 : Nat) (Option.none : Option Jvm.ClassFile.FieldType)).before args0 about1 = true := code_word (m := ⟨4, 0⟩) (meth := k4m0) (c := k4c0) (by decide +kernel) rfl rfl rfl (by decide +kernel)
set_option maxRecDepth 65536 in
theorem w_c2 : (Jvm.Cond.code ({ cls := "java/lang/Record", name := "<init>", desc := "()V" } : Jvm.MethodName) jdk_30_method_1_code (1 : Nat) (Option.none : Option Jvm.ClassFile.FieldType)).before args0 about1 = true := code_word (m := ⟨2, 0⟩) (meth := k2m0) (c := k2c0) (by decide +kernel) rfl rfl rfl (by decide +kernel)
set_option maxRecDepth 65536 in
theorem w_c3 : (Jvm.Cond.code ({ cls := "java/lang/Object", name := "<init>", desc := "()V" } : Jvm.MethodName) object_method_1_code (1 : Nat) (Option.none : Option Jvm.ClassFile.FieldType)).before args0 about1 = true := code_word (m := ⟨0, 0⟩) (meth := k0m0) (c := k0c0) (by decide +kernel) rfl rfl rfl (by decide +kernel)
set_option maxRecDepth 65536 in
theorem w_c4 : (Jvm.Cond.code ({ cls := "com/example/shardwright/shardwright/index/Version", name := "compareTo", desc := "(Lcom/example/shardwright/shardwright/index/Version;)I" } : Jvm.MethodName) prog_14_method_3_code (3 : Nat) (Option.some Jvm.ClassFile.FieldType.int)).before args0 about1 = true := code_word (m := ⟨4, 1⟩) (meth := k4m1) (c := k4c1) (by decide +kernel) rfl rfl rfl (by decide +kernel)
set_option maxRecDepth 65536 in
theorem w_c5 : (Jvm.Cond.code ({ cls := "java/lang/Long", name := "compare", desc := "(JJ)I" } : Jvm.MethodName) jdk_35_method_42_code (4 : Nat) (Option.some Jvm.ClassFile.FieldType.int)).before args0 about1 = true := code_word (m := ⟨9, 0⟩) (meth := k9m0) (c := k9c0) (by decide +kernel) rfl rfl rfl (by decide +kernel)
set_option maxRecDepth 65536 in
theorem w_c6 : (Jvm.Cond.code ({ cls := "com/example/shardwright/shardwright/index/VersionCompareToPinLaw", name := "sign", desc := "(I)I" } : Jvm.MethodName) method_2_code (1 : Nat) (Option.some Jvm.ClassFile.FieldType.int)).before args0 about1 = true := code_word (m := ⟨1, 1⟩) (meth := k1m1) (c := k1c1) (by decide +kernel) rfl rfl rfl (by decide +kernel)
def codes1 : List Jvm.Cond := [Jvm.Cond.code x code maxLocals ret, Jvm.Cond.code ({ cls := "com/example/shardwright/shardwright/index/Version", name := "<init>", desc := "(JJ)V" } : Jvm.MethodName) prog_14_method_1_code (5 : Nat) (Option.none : Option Jvm.ClassFile.FieldType), Jvm.Cond.code ({ cls := "java/lang/Record", name := "<init>", desc := "()V" } : Jvm.MethodName) jdk_30_method_1_code (1 : Nat) (Option.none : Option Jvm.ClassFile.FieldType), Jvm.Cond.code ({ cls := "java/lang/Object", name := "<init>", desc := "()V" } : Jvm.MethodName) object_method_1_code (1 : Nat) (Option.none : Option Jvm.ClassFile.FieldType), Jvm.Cond.code ({ cls := "com/example/shardwright/shardwright/index/Version", name := "compareTo", desc := "(Lcom/example/shardwright/shardwright/index/Version;)I" } : Jvm.MethodName) prog_14_method_3_code (3 : Nat) (Option.some Jvm.ClassFile.FieldType.int), Jvm.Cond.code ({ cls := "java/lang/Long", name := "compare", desc := "(JJ)I" } : Jvm.MethodName) jdk_35_method_42_code (4 : Nat) (Option.some Jvm.ClassFile.FieldType.int), Jvm.Cond.code ({ cls := "com/example/shardwright/shardwright/index/VersionCompareToPinLaw", name := "sign", desc := "(I)I" } : Jvm.MethodName) method_2_code (1 : Nat) (Option.some Jvm.ClassFile.FieldType.int)]
set_option maxRecDepth 65536 in
theorem codes_eq : words1.filter isCode = codes1 := rfl
theorem w_codes : ∀ c ∈ words1.filter isCode, c.before args0 about1 = true := by
  rw [codes_eq]
  intro c hc
  simp only [codes1, List.mem_cons, List.not_mem_nil, or_false] at hc
  rcases hc with rfl | rfl | rfl | rfl | rfl | rfl | rfl
  · exact w_c0
  · exact w_c1
  · exact w_c2
  · exact w_c3
  · exact w_c4
  · exact w_c5
  · exact w_c6
set_option maxRecDepth 65536 in
theorem w_t1 : (words1.take 24).all (fun c => isCode c || c.before args0 about1) = true := by decide +kernel
set_option maxRecDepth 65536 in
theorem w_t2 : (words1.drop 24).all (fun c => isCode c || c.before args0 about1) = true := by decide +kernel
theorem w_tables : (allAtoms (Jvm.Cond.code x code maxLocals ret :: tables_1)).before args0 about1 = true := by
  rw [allAtoms_all]
  show words1.all (fun c => c.before args0 about1) = true
  refine all_split ?_ w_codes
  rw [← List.take_append_drop 24 words1, List.all_append, w_t1, w_t2]
  rfl
set_option maxRecDepth 65536 in
theorem w_case : (Jvm.Cond.and given_1 narrow_1).before args0 about1 = true := by decide +kernel
theorem w_applies : (headSpec (Jvm.Cond.code x code maxLocals ret :: tables_1) room_1).applies x e0.platform about1 = true :=
  (Spec.applies_iff w_frames).mpr ⟨w_running, w_runnable, w_alone, w_named, w_hears, w_ripe, w_room, w_tables⟩
theorem atStart : AtStart classFile x code maxLocals ret World_1 tables_1 room_1 Calls_1 rest_1 Pre_1 launch0 p0 e0 about1 theMethod args0 below0 :=
  ⟨lists_1, trivial, launch0.admits_env _ _ _, launch0.least_env, fairChoices_fair.cas, fairChoices_fair.clock, w_frames, w_args, w_heap, w_applies, trivial, trivial, w_case⟩
end start1
theorem witness_1 : WitnessClaimed_1 := ⟨start1.p0, start1.e0, start1.about1, start1.theMethod, start1.args0, start1.below0, start1.atStart⟩
end Jvm.Pilot.@@N@@
